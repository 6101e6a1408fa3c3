import JvmDerived
import JvmDerived.Pilot.@@N@@Statement
import JvmDerived.Pilot.@@N@@Code
set_option linter.unusedVariables false
set_option linter.unusedSimpArgs false
namespace Jvm.Pilot.@@N@@
open Jvm Jvm.ClassFile Sem Op Lib Jvm.Free Jvm.Stand Jvm.LawKit Jvm.RoadKit Bundle Jvm.Pilot.@@N@@.Jvm.D
/-! what a body's walk owes, in the manner of a continuation -/
section Own
variable {p : Program} {l : Launch} {e : Env} {R : Room} {s : State} {m : MethodId} {args : Array Value} {below : List Frame} {meth : Method} {c : Code} {T T' : State} {locs : List Loc} {cells slots : Nat} {Q Q' : Option Value → Heap → List Loc → Prop}
abbrev OMet (l : Launch) (Z : State) (y : MethodName) (bytes : ByteArray) (maxL : Nat) (ret : Option FieldType) (ws : List Jvm.Cond) (rm : Room) (as : Array Value) (h0 : Heap) (Q : Option Value → Heap → List Loc → Prop) : Prop :=
  MetFree l y (head1 (Jvm.Cond.code y bytes maxL ret :: ws) rm) (fun a U => a = as ∧ Z.Warmed39 U.vm ∧ U.heap = h0) (fun _ _ _ _ _ => True) (fun _ U o U' => ∃ v L, o = .returned v ∧ Q v U'.heap L ∧ FrameEnd U o U' L rm.cells rm.slots)
def OG (p : Program) (e : Env) (R : Room) (s : State) (below : List Frame) (Q : Option Value → Heap → List Loc → Prop) (T : State) (g : JFrame) : Prop :=
  ∃ s₂ o, Steps p.tables e below (T.setTop g) s₂ ∧ s₂.status = .running ∧ Ended s₂ below o ∧ ∃ v L, o = .returned v ∧ Q v s₂.heap L ∧ FrameEnd s o s₂ L R.cells R.slots
theorem own_st {g g' : JFrame} (h : ∀ t, Steps p.tables e below (T'.setTop g') t → Steps p.tables e below (T.setTop g) t) (k : OG p e R s below Q T' g') : OG p e R s below Q T g := by
  obtain ⟨s₂, o, h1, h2⟩ := k
  exact ⟨s₂, o, h _ h1, h2⟩
theorem own_sp {g g' : JFrame} {t : State} (h : ∀ t, Steps p.tables e below (T'.setTop g') t → Steps p.tables e below (T.setTop g) t) (k : Steps p.tables e below (T'.setTop g') t) : Steps p.tables e below (T.setTop g) t := h _ k
theorem own_cast {g g' : JFrame} (q : g = g') (k : OG p e R s below Q T g') : OG p e R s below Q T g := q ▸ k
theorem own_irr {x : Int64} : ¬ x < x := Int64.lt_irrefl
theorem own_if0 {cd : ClassFile.Cond} {x : Int32} {b : Bool} (h : if_icmp.holds cd x 0 = b) : ifCond.holds cd x = b := by rw [if0]; exact h
theorem own_retZ (X : Stand p l e R s m args below meth c T locs cells slots) (hx : p.tables.exec = Jvm.exec) {t : FieldType} (hret : meth.sig.returnType = some t) (ht : t = .boolean ∨ t = .byte ∨ t = .char ∨ t = .short) (hlk : meth.locks = false) {pc : Nat} {Ls : Array Slot} {z : Int32} {rest : List Value}
    (hd : decode c.code pc = .ok (.ireturn, 1)) (hc : cells ≤ R.cells) (hs : slots ≤ R.slots) {w : Int32} (hn : nar t z = w) (hq : Q (some (.int w)) T.heap locs) : OG p e R s below Q T (mkF m pc Ls (.int z :: rest)) := by
  subst hn
  obtain ⟨fs, hr, hrun, hended, hW, hsame⟩ := X.leave (v := some (.int (nar t z))) (fun h => by rw [hret] at h; cases h) hlk
  exact ⟨_, _, retN X hx hret ht hd hr, hrun, hended, _, _, rfl, hq, ⟨_, rfl⟩, hW, hsame.mono hc hs⟩
theorem own_retV (X : Stand p l e R s m args below meth c T locs cells slots) (hx : p.tables.exec = Jvm.exec) {t : FieldType} {i : Instr} {w : Value} (hret : meth.sig.returnType = some t) (hn : narrow t w = w)
    (hi : (i = .ireturn ∧ (t = .int ∨ t = .boolean ∨ t = .byte ∨ t = .char ∨ t = .short) ∧ ∃ z, w = .int z) ∨ (i = .lreturn ∧ t = .long ∧ ∃ z, w = .long z) ∨ (i = .dreturn ∧ t = .double ∧ ∃ z, w = .double z) ∨ (i = .freturn ∧ t = .float ∧ ∃ z, w = .float z) ∨ (i = .areturn ∧ t.isReference = true ∧ w.isRef = true))
    (hlk : meth.locks = false) {pc : Nat} {Ls : Array Slot} {rest : List Value}
    (hd : decode c.code pc = .ok (i, 1)) (hc : cells ≤ R.cells) (hs : slots ≤ R.slots) (hq : Q (some w) T.heap locs) : OG p e R s below Q T (mkF m pc Ls (w :: rest)) := by
  obtain ⟨fs, hr, hrun, hended, hW, hsame⟩ := X.leave (v := some w) (fun h => by rw [hret] at h; cases h) hlk
  exact ⟨_, _, retOut X hx hret hn hi hd hr, hrun, hended, _, _, rfl, hq, ⟨_, rfl⟩, hW, hsame.mono hc hs⟩
theorem own_retI (X : Stand p l e R s m args below meth c T locs cells slots) (hx : p.tables.exec = Jvm.exec) (hret : meth.sig.returnType = some .int) (hlk : meth.locks = false) {pc : Nat} {Ls : Array Slot} {z : Int32} {rest : List Value}
    (hd : decode c.code pc = .ok (.ireturn, 1)) (hc : cells ≤ R.cells) (hs : slots ≤ R.slots) (hq : Q (some (.int z)) T.heap locs) : OG p e R s below Q T (mkF m pc Ls (.int z :: rest)) :=
  own_retV X hx hret rfl (Or.inl ⟨rfl, Or.inl rfl, _, rfl⟩) hlk hd hc hs hq
theorem own_retL (X : Stand p l e R s m args below meth c T locs cells slots) (hx : p.tables.exec = Jvm.exec) (hret : meth.sig.returnType = some .long) (hlk : meth.locks = false) {pc : Nat} {Ls : Array Slot} {z : Int64} {rest : List Value}
    (hd : decode c.code pc = .ok (.lreturn, 1)) (hc : cells ≤ R.cells) (hs : slots ≤ R.slots) (hq : Q (some (.long z)) T.heap locs) : OG p e R s below Q T (mkF m pc Ls (.long z :: rest)) :=
  own_retV X hx hret rfl (Or.inr (Or.inl ⟨rfl, rfl, _, rfl⟩)) hlk hd hc hs hq
theorem own_ret0 (X : Stand p l e R s m args below meth c T locs cells slots) (hx : p.tables.exec = Jvm.exec) (hret : meth.sig.returnType = none) (hlk : meth.locks = false) {pc : Nat} {Ls : Array Slot}
    (hd : decode c.code pc = .ok (.return_, 1)) (hc : cells ≤ R.cells) (hs : slots ≤ R.slots) (hq : Q none T.heap locs) : OG p e R s below Q T (mkF m pc Ls []) := by
  obtain ⟨fs, hr, hrun, hended, hW, hsame⟩ := X.leave (v := none) (fun _ => rfl) hlk
  exact ⟨_, _, X.returnOut hx hret hd hr, hrun, hended, _, _, rfl, hq, ⟨_, rfl⟩, hW, hsame.mono hc hs⟩
theorem own_enter {Z : State} {y : MethodName} {bytes : ByteArray} {maxL : Nat} {ret : Option FieldType} {ws : List Jvm.Cond} {rm : Room} {as : Array Value} {h0 : Heap} (hp : plainFor y = true)
    (body : ∀ (p : Program) (e : Env) (s : State) (m : MethodId) (below : List Frame) (meth : Method) (c : Code) (s₁ : State), p.tables.exec = Jvm.exec → c.code = bytes → c.maxLocals = maxL → s.vm.findClass y.cls = some m.cls → meth.sig.returnType = ret → meth.locks = false → meth.name = y.name → Z.Warmed39 s.vm →
      Stand p l e rm s m as below meth c s₁ [] 0 0 → s₁.heap = h0 → OG p e rm s below Q s₁ (entryFrame m as maxL)) : OMet l Z y bytes maxL ret ws rm as h0 Q := by
  refine MetFree.of_bodySF hp hisR ?_
  intro p e s m args below meth c s₁ Bd hml0 hP hK
  obtain ⟨rfl, hZ, hh⟩ := hP
  exact body p e s m below meth c s₁ Bd.exec Bd.bytes hml0 (findClass_of_methodNamed Bd.named) Bd.returns Bd.notSynchronized (name_of_methodNamed Bd.named Bd.method).1 hZ (Stand.of_body Bd) (by rw [← hh, Bd.state]; rfl)
end Own
section OwnH
variable {Z : State} {h h' h0 : Heap} {a b : Addr} {ty : FieldType} {vs : List Value} {n sl : Nat} {v : Value} {ws : List Addr}
/-- an array, by the whole list of what it holds -/
def OA (Z : State) (h : Heap) (a : Addr) (ty : FieldType) (vs : List Value) : Prop := ∃ c : Cell, Arr Z h a c ty ∧ c.slots.toList = vs
/-- an array, by its length alone -/
def OL (Z : State) (h : Heap) (a : Addr) (ty : FieldType) (n : Nat) : Prop := ∃ c : Cell, Arr Z h a c ty ∧ c.slots.size = n
theorem OA.lt (F : OA Z h a ty vs) : a < h.size := by obtain ⟨c, A, -⟩ := F; exact A.lt
theorem OL.lt (F : OL Z h a ty n) : a < h.size := by obtain ⟨c, A, -⟩ := F; exact A.lt
theorem OA.ext (F : OA Z h a ty vs) (E : Ext h h') : OA Z h' a ty vs := by obtain ⟨c, A, r⟩ := F; exact ⟨c, A.ext E, r⟩
theorem OL.ext (F : OL Z h a ty n) (E : Ext h h') : OL Z h' a ty n := by obtain ⟨c, A, r⟩ := F; exact ⟨c, A.ext E, r⟩
theorem OA.other (F : OA Z h b ty vs) (W : Wr h h' a sl v) (q : b ≠ a) : OA Z h' b ty vs := by obtain ⟨c, A, r⟩ := F; exact ⟨c, A.other W q, r⟩
theorem OL.other (F : OL Z h b ty n) (W : Wr h h' a sl v) (q : b ≠ a) : OL Z h' b ty n := by obtain ⟨c, A, r⟩ := F; exact ⟨c, A.other W q, r⟩
theorem OA.keep (F : OA Z h a ty vs) (K : Keep h h' ws) (q : a ∉ ws) : OA Z h' a ty vs := by obtain ⟨c, A, r⟩ := F; exact ⟨c, ⟨K.2.1 a c A.1 q, A.2⟩, r⟩
theorem OL.keep (F : OL Z h a ty n) (K : Keep h h' ws) (q : a ∉ ws) : OL Z h' a ty n := by obtain ⟨c, A, r⟩ := F; exact ⟨c, ⟨K.2.1 a c A.1 q, A.2⟩, r⟩
theorem OA.new {k : ClassId} {z : Int32} (A : Arr Z h a (newA k ty z) ty) : OA Z h a ty (List.replicate z.toNatClampNeg (defaultValue ty)) := ⟨_, A, by show (Array.replicate _ _).toList = _; exact Array.toList_replicate⟩
theorem OL.new {k : ClassId} {z : Int32} (A : Arr Z h a (newA k ty z) ty) : OL Z h a ty z.toNatClampNeg := ⟨_, A, sz_new _ _ _⟩
theorem OA.len (F : OA Z h a ty vs) : ∃ c : Cell, Arr Z h a c ty ∧ c.slots.size = vs.length := by obtain ⟨c, A, r⟩ := F; exact ⟨c, A, by rw [← r]; simp⟩
theorem OA.set {j : Int32} {i : Nat} (F : OA Z h a ty vs) (W : Wr h h' a j.toNatClampNeg v) (hj : j.toNatClampNeg = i) : OA Z h' a ty (vs.set i v) := by
  obtain ⟨c, A, r⟩ := F
  refine ⟨_, A.same W, ?_⟩
  subst hj r
  show (c.slots.setIfInBounds _ _).toList = _
  exact Array.toList_setIfInBounds
theorem OL.set {j : Int32} (F : OL Z h a ty n) (W : Wr h h' a j.toNatClampNeg v) : OL Z h' a ty n := by
  obtain ⟨c, A, r⟩ := F
  exact ⟨_, A.same W, by rw [sz_set]; exact r⟩
theorem own_rd (F : OA Z h a ty vs) {j : Int32} {i : Nat} (hj : j.toNatClampNeg = i) (hn : ¬ j < 0) (hv : vs[i]? = some v) : ∃ c : Cell, Arr Z h a c ty ∧ ¬ (j < 0 ∨ c.slots.size ≤ j.toNatClampNeg) ∧ c.slots[j.toNatClampNeg]? = some v := by
  obtain ⟨c, A, r⟩ := F
  subst hj r
  rw [Array.getElem?_toList] at hv
  refine ⟨c, A, fun q => ?_, hv⟩
  rcases q with q | q
  · exact hn q
  · have := (Array.getElem?_eq_some_iff.mp hv).1; omega
theorem own_wr (F : OA Z h a ty vs) {j : Int32} {i : Nat} (hj : j.toNatClampNeg = i) (hn : ¬ j < 0) (hi : i < vs.length) : ∃ c : Cell, Arr Z h a c ty ∧ ¬ (j < 0 ∨ c.slots.size ≤ j.toNatClampNeg) := by
  obtain ⟨c, A, r⟩ := F
  subst hj r
  rw [Array.length_toList] at hi
  refine ⟨c, A, fun q => ?_⟩
  rcases q with q | q
  · exact hn q
  · omega
theorem own_wrL (F : OL Z h a ty n) {j : Int32} (hj : ¬ j < 0 ∧ j.toNatClampNeg < n) : ∃ c : Cell, Arr Z h a c ty ∧ ¬ (j < 0 ∨ c.slots.size ≤ j.toNatClampNeg) := by
  obtain ⟨c, A, r⟩ := F
  subst r
  exact ⟨c, A, fun q => by rcases q with q | q; exact hj.1 q; omega⟩
theorem own_acN {x y : Addr} (h : x ≠ y) : if_acmp.holds .ne (some x) (some y) = true ∧ if_acmp.holds .eq (some x) (some y) = false := by simp [if_acmp.holds, h]
theorem own_plE {C : String} (E : Exa Z h a C) : ∀ cell : Cell, h[a]? = some cell → cell.vm.isStatics = false := fun cell q => by obtain ⟨c, k, h1, -, -, h4, -⟩ := E; cases h1.symm.trans q; exact h4
theorem own_plA (F : OA Z h a ty vs) : ∀ cell : Cell, h[a]? = some cell → cell.vm.isStatics = false := fun cell q => by obtain ⟨c, A, -⟩ := F; cases A.1.symm.trans q; exact A.plain
theorem own_plL (F : OL Z h a ty n) : ∀ cell : Cell, h[a]? = some cell → cell.vm.isStatics = false := fun cell q => by obtain ⟨c, A, -⟩ := F; cases A.1.symm.trans q; exact A.plain
theorem own_staK {C f d : String} {w : Value} (F : Sta Z h C f d w) (K : Keep h h' ws) (hp : ∀ x ∈ ws, ∀ cell : Cell, h[x]? = some cell → cell.vm.isStatics = false) : Sta Z h' C f d w := by
  obtain ⟨cf, i, k, g, st, cell, h1, h2, h3, h4, h5, h6, h7⟩ := F
  exact ⟨cf, i, k, g, st, cell, h1, h2, h3, h4, K.2.1 st cell h5 (fun q => by rw [hp st q cell h5] at h6; cases h6), h6, h7⟩
theorem own_selp {s : State} {y : MethodName} {a0 args : Array Value} {k : Nat} (hZ : Z.Warmed39 s.vm) (wi : (Jvm.Cond.instantiable y.cls k).before a0 Z = true) (wp : (Jvm.Cond.privateMethod y).before a0 Z = true) (wm : (Jvm.Cond.instanceMethod y).before a0 Z = true) (hy : y.cls ≠ "java/lang/invoke/MethodHandle" ∧ y.cls ≠ "java/lang/invoke/VarHandle") : (Jvm.Cond.selects y.cls y y).before args s = true := by
  have wi' : (Jvm.Cond.instantiable y.cls k).before args s = true := mv hZ wi
  obtain ⟨c, kc, i1, i2, -, i4, -⟩ := Cond.instantiable_spec wi'
  exact selects_self_of_private i1 i2 (Bool.or_eq_false_iff.mp i4).1 (Cond.privateMethod_at (mvP hZ wp (args := args))) (mvT hZ wm) hy
theorem own_all0 {P : Addr → Prop} : ∀ x ∈ ([] : List Addr), P x := fun x hx => by cases hx
theorem own_all1 {P : Addr → Prop} {a : Addr} (h : P a) : ∀ x ∈ [a], P x := fun x hx => by simp only [List.mem_cons, List.not_mem_nil, or_false] at hx; subst hx; exact h
theorem own_all2 {P : Addr → Prop} {a b : Addr} (h : P a) (h2 : P b) : ∀ x ∈ [a, b], P x := fun x hx => by
  simp only [List.mem_cons, List.not_mem_nil, or_false] at hx; rcases hx with rfl | rfl; exact h; exact h2
theorem own_all3 {P : Addr → Prop} {a b c : Addr} (h : P a) (h2 : P b) (h3 : P c) : ∀ x ∈ [a, b, c], P x := fun x hx => by
  simp only [List.mem_cons, List.not_mem_nil, or_false] at hx; rcases hx with rfl | rfl | rfl; exact h; exact h2; exact h3
theorem own_all4 {P : Addr → Prop} {a b c d : Addr} (h : P a) (h2 : P b) (h3 : P c) (h4 : P d) : ∀ x ∈ [a, b, c, d], P x := fun x hx => by
  simp only [List.mem_cons, List.not_mem_nil, or_false] at hx; rcases hx with rfl | rfl | rfl | rfl; exact h; exact h2; exact h3; exact h4
theorem own_nin0 {x : Addr} : x ∉ ([] : List Addr) := List.not_mem_nil
theorem own_nin1 {x a : Addr} (h : x ≠ a) : x ∉ [a] := by simp [h]
theorem own_nin2 {x a b : Addr} (h : x ≠ a) (h2 : x ≠ b) : x ∉ [a, b] := by simp [h, h2]
theorem own_nin3 {x a b c : Addr} (h : x ≠ a) (h2 : x ≠ b) (h3 : x ≠ c) : x ∉ [a, b, c] := by simp [h, h2, h3]
theorem own_nin4 {x a b c d : Addr} (h : x ≠ a) (h2 : x ≠ b) (h3 : x ≠ c) (h4 : x ≠ d) : x ∉ [a, b, c, d] := by simp [h, h2, h3, h4]
end OwnH
section OwnS
variable {p : Program} {l : Launch} {e : Env} {R : Room} {s : State} {m : MethodId} {args : Array Value} {below : List Frame} {meth : Method} {c : Code} {T T' Z : State} {locs : List Loc} {cells slots : Nat} {Q Q' : Option Value → Heap → List Loc → Prop} {EL : List (String × Nat)} {vm : Vm} {k0 : Nat} {h h0 : Heap}
abbrev OMetS (l : Launch) (Z : State) (EL : List (String × Nat)) (y : MethodName) (bytes : ByteArray) (maxL : Nat) (ret : Option FieldType) (ws : List Jvm.Cond) (rm : Room) (as : Array Value) (h0 : Heap) (Q : Option Value → Heap → List Loc → Prop) : Prop :=
  MetFree l y (head1 (Jvm.Cond.code y bytes maxL ret :: ws) rm) (fun a U => a = as ∧ Z.Warmed39 U.vm ∧ U.heap = h0 ∧ CHv Z EL U.vm h0) (fun _ _ _ _ _ => True) (fun _ U o U' => ∃ v L, o = .returned v ∧ Q v U'.heap L ∧ CHr Z EL U.vm U.heap U'.vm U'.heap ∧ ReturnedEndW U o U' L rm.cells rm.slots)
def OGS (Z : State) (EL : List (String × Nat)) (p : Program) (e : Env) (R : Room) (s : State) (below : List Frame) (Q : Option Value → Heap → List Loc → Prop) (T : State) (g : JFrame) : Prop :=
  ∃ s₂ o, Steps p.tables e below (T.setTop g) s₂ ∧ s₂.status = .running ∧ Ended s₂ below o ∧ ∃ v L, o = .returned v ∧ Q v s₂.heap L ∧ CHr Z EL s.vm s.heap s₂.vm s₂.heap ∧ ReturnedEndW s o s₂ L R.cells R.slots
theorem own_stS {g g' : JFrame} (h : ∀ t, Steps p.tables e below (T'.setTop g') t → Steps p.tables e below (T.setTop g) t) (k : OGS Z EL p e R s below Q T' g') : OGS Z EL p e R s below Q T g := by
  obtain ⟨s₂, o, h1, h2⟩ := k
  exact ⟨s₂, o, h _ h1, h2⟩
theorem own_castS {g g' : JFrame} (q : g = g') (k : OGS Z EL p e R s below Q T g') : OGS Z EL p e R s below Q T g := q ▸ k
theorem own_endS (X : Stand p l e R (s.setVm vm) m args below meth c T locs cells slots) (hlk : meth.locks = false) (hZ : Z.Warmed39 vm) (hEL : EW Z a0 EL) (eT : T.heap = h) (hs0 : s.heap = h0) (hS : s.Since vm k0) (hk : k0 ≤ h.size) (CH : CHv Z EL vm h) (CR : CHr Z EL s.vm h0 vm h) {v : Option Value} (hv : meth.sig.returnType = none → v = none) (hc : cells ≤ R.cells) (hs : slots ≤ R.slots) (hq : Q v h locs)
    {g : JFrame} (k : ∀ fs, (∀ (f : JFrame) (acts : List Action), f.method = m → f.locked = none → f.entered = [] → (doReturn e (T.setTop f) acts v).1 = T.setFrames fs) → Steps p.tables e below (T.setTop g) (T.setFrames fs)) : OGS Z EL p e R s below Q T g := by
  obtain ⟨fs, hr, hrun, hended, hW, hsame⟩ := X.leave (v := v) hv hlk
  subst eT
  have hC := CHr.trans CR (CHv.at X hZ hEL CH)
  rw [← hs0] at hC
  obtain ⟨r1, r2, r3⟩ := hS.ended (U := T.setFrames fs) hW hk hsame
  exact ⟨_, _, k fs hr, hrun, hended, _, _, rfl, hq, hC, ⟨_, rfl⟩, r1, r2, r3.mono hc hs⟩
theorem own_enterS {y : MethodName} {bytes : ByteArray} {maxL : Nat} {ret : Option FieldType} {ws : List Jvm.Cond} {rm : Room} {as : Array Value} (hp : plainFor y = true)
    (body : ∀ (p : Program) (e : Env) (s : State) (m : MethodId) (below : List Frame) (meth : Method) (c : Code) (s₁ : State), p.tables.exec = Jvm.exec → c.code = bytes → c.maxLocals = maxL → s.vm.findClass y.cls = some m.cls → meth.sig.returnType = ret → meth.locks = false → meth.name = y.name → Z.Warmed39 s.vm →
      Stand p l e rm (s.setVm s.vm) m as below meth c s₁ [] 0 0 → s₁.heap = h0 → s.heap = h0 → CHv Z EL s.vm h0 → OGS Z EL p e rm s below Q s₁ (entryFrame m as maxL)) : OMetS l Z EL y bytes maxL ret ws rm as h0 Q := by
  refine MetFree.of_bodySF hp hisR ?_
  intro p e s m args below meth c s₁ Bd hml0 hP hK
  obtain ⟨rfl, hZ, hh, hC⟩ := hP
  exact body p e s m below meth c s₁ Bd.exec Bd.bytes hml0 (findClass_of_methodNamed Bd.named) Bd.returns Bd.notSynchronized (name_of_methodNamed Bd.named Bd.method).1 hZ (Stand.of_body Bd) (by rw [← hh, Bd.state]; rfl) hh hC
theorem own_safeA {ty : FieldType} {x : Addr} {vs : List Value} (hal : Z.vm.Alike vm) (F : OA Z h x ty vs) (ht : ty ≠ .byte) : Safe Z EL vm h x := by obtain ⟨c, A, -⟩ := F; exact Safe.arr hal A ht
theorem own_oaV {b : Addr} {kc : ClassId} {z : Int32} {vs : List Value} {d : Value} (F : Arv Z h b kc .byte z vs d) (hl : z.toNatClampNeg = vs.length := by decide) : OA Z h b .byte vs := by
  obtain ⟨c, A, -, S, -, H, -⟩ := F
  refine ⟨c, A, List.ext_getElem? fun i => ?_⟩
  rw [Array.getElem?_toList]
  by_cases q : i < c.slots.size
  · rw [H i q, List.getD_eq_getElem?_getD, List.getElem?_eq_getElem (by omega)]; rfl
  · rw [Array.getElem?_eq_none (by omega), List.getElem?_eq_none (by omega)]
theorem own_raw {x : Addr} (hal : Z.vm.Alike vm) (E : Exa Z h x "java/lang/String") (F : Fld Z h x "java/lang/String" "value" "[B" .null) : Safe Z EL vm h x := fun B => by
  obtain ⟨p, hp, u, a, hb, q, hq, G, hx⟩ := B
  rcases hx with rfl | rfl
  · obtain ⟨cS, ⟨⟨s1, s2, s3, ⟨cv, kv, iv, s4, s4'⟩, -, s6, s7, s8, -⟩, -⟩, -⟩ := G
    obtain ⟨cell, cf, k, i, f, h1, h2, h3, h4, h5, h6, h7⟩ := F
    obtain ⟨k', z4⟩ := ff_back (U := Wst Z vm h) hal s4
    cases h1.symm.trans s1
    have e := h2.symm.trans z4
    simp only [Option.some.injEq, Prod.mk.injEq] at e
    rw [← e.2.2.2, h7] at s8
    cases s8
  · have hd := G.hd
    obtain ⟨cS, -, -, hB, -⟩ := G
    obtain ⟨cell, k, h1, h2, -⟩ := E
    cases h1.symm.trans hd
    have hB' : Z.vm.findClass "[B" = some q.SA.cls := by rw [← hal.findClass]; exact hB
    obtain ⟨k1, a1, a2⟩ := Vm.findClass_spec h2
    obtain ⟨k2, b1, b2⟩ := Vm.findClass_spec hB'
    cases a1.symm.trans b1
    exact absurd (a2.symm.trans b2) (by decide)
end OwnS
def EL0 : List (String × Nat) := [("com/example/partwise/partwise/Part", 7), ("com/example/partwise/partwise/Part", 15), ("java/lang/String", 7)]
theorem own_wS {Z : State} {a0 : Array Value} (hw : ∀ d ∈ tables_1, d.before a0 Z = true) : ∀ a ∈ Bundle.stringAtoms, a.before a0 Z = true := fun a ha => by
  simp only [Bundle.stringAtoms, List.mem_cons, List.not_mem_nil, or_false] at ha
  rcases ha with rfl | rfl | rfl | rfl | rfl | rfl | rfl
  · exact (hw _ (List.mem_of_getElem? (i := 2) rfl))
  · exact (hw _ (List.mem_of_getElem? (i := 10) rfl))
  · exact (hw _ (List.mem_of_getElem? (i := 14) rfl))
  · exact (hw _ (List.mem_of_getElem? (i := 23) rfl))
  · exact (hw _ (List.mem_of_getElem? (i := 25) rfl))
  · exact (hw _ (List.mem_of_getElem? (i := 39) rfl))
  · exact (hw _ (List.mem_of_getElem? (i := 40) rfl))
theorem own_EW {Z : State} {a0 : Array Value} (hw : ∀ d ∈ tables_1, d.before a0 Z = true) : EW Z a0 EL0 := (EW.cons (hw _ (List.mem_of_getElem? (i := 38) rfl)) (by decide) (EW.cons (hw _ (List.mem_of_getElem? (i := 45) rfl)) (by decide) (EW.cons (hw _ (List.mem_of_getElem? (i := 86) rfl)) (by decide) EW.nil)))
theorem own_nc (y : Int32) (h0 : 0 ≤ y.toInt) (h1 : y.toInt ≤ 255) : y.toUInt32.toUInt16.toUInt32.toInt32 = y := by
  have q := c_i2c y
  apply Int32.toInt_inj.mp
  generalize y.toUInt32.toUInt16.toUInt32.toInt32.toInt = z at *
  omega
theorem own_m8 (x : Int32) : 0 ≤ (x &&& 255).toInt ∧ (x &&& 255).toInt ≤ 255 := by
  have m := c_mask x 255 8 (by decide) (by decide)
  rw [m]; omega
theorem own_chA (x : Int32) : ¬ (255 : Int32) < ((x &&& 255).toUInt32.toUInt16.toUInt32.toInt32) := by
  have h := own_m8 x
  have k : (255 : Int32).toInt = 255 := by decide
  rw [own_nc _ h.1 h.2, Int32.lt_iff_toInt_lt, k]; omega
theorem own_chB (x : Int32) : ¬ (255 : Int32) < (nar .char ((x &&& 255).toUInt32.toUInt16.toUInt32.toInt32)) := by
  have h := own_m8 x
  show ¬ (255 : Int32) < ((x &&& 255).toUInt32.toUInt16.toUInt32.toInt32).toUInt32.toUInt16.toUInt32.toInt32
  rw [own_nc _ h.1 h.2]; exact own_chA x
theorem d14_0 : decode jdk_52_method_21_code 0 = .ok (.iconst 0, 1) := by decide +kernel
theorem d14_1 : decode jdk_52_method_21_code 1 = .ok (.istore 5, 2) := by decide +kernel
theorem d14_3 : decode jdk_52_method_21_code 3 = .ok (.iload 5, 2) := by decide +kernel
theorem d14_5 : decode jdk_52_method_21_code 5 = .ok (.iload 4, 2) := by decide +kernel
theorem d14_7 : decode jdk_52_method_21_code 7 = .ok (.if_icmp .ge 37, 3) := by decide +kernel
theorem d14_10 : decode jdk_52_method_21_code 10 = .ok (.aload_n 0, 1) := by decide +kernel
theorem d14_11 : decode jdk_52_method_21_code 11 = .ok (.iload_n 1, 1) := by decide +kernel
theorem d14_12 : decode jdk_52_method_21_code 12 = .ok (.caload, 1) := by decide +kernel
theorem d14_13 : decode jdk_52_method_21_code 13 = .ok (.istore 6, 2) := by decide +kernel
theorem d14_15 : decode jdk_52_method_21_code 15 = .ok (.iload 6, 2) := by decide +kernel
theorem d14_17 : decode jdk_52_method_21_code 17 = .ok (.sipush 255, 3) := by decide +kernel
theorem d14_20 : decode jdk_52_method_21_code 20 = .ok (.if_icmp .le 6, 3) := by decide +kernel
theorem d14_26 : decode jdk_52_method_21_code 26 = .ok (.aload_n 2, 1) := by decide +kernel
theorem d14_27 : decode jdk_52_method_21_code 27 = .ok (.iload_n 3, 1) := by decide +kernel
theorem d14_28 : decode jdk_52_method_21_code 28 = .ok (.iload 6, 2) := by decide +kernel
theorem d14_30 : decode jdk_52_method_21_code 30 = .ok (.i2b, 1) := by decide +kernel
theorem d14_31 : decode jdk_52_method_21_code 31 = .ok (.bastore, 1) := by decide +kernel
theorem d14_32 : decode jdk_52_method_21_code 32 = .ok (.iinc 1 1, 3) := by decide +kernel
theorem d14_35 : decode jdk_52_method_21_code 35 = .ok (.iinc 3 1, 3) := by decide +kernel
theorem d14_38 : decode jdk_52_method_21_code 38 = .ok (.iinc 5 1, 3) := by decide +kernel
theorem d14_41 : decode jdk_52_method_21_code 41 = .ok (.goto (-38), 3) := by decide +kernel
theorem d14_44 : decode jdk_52_method_21_code 44 = .ok (.iload 4, 2) := by decide +kernel
theorem d14_46 : decode jdk_52_method_21_code 46 = .ok (.ireturn, 1) := by decide +kernel
theorem pn_14 : plainFor (⟨"java/lang/StringUTF16", "compress", "([CI[BII)I"⟩ : MethodName) = true := by first | exact plainFor_of_name (by first | (simp [plainName, overriddenIn]; done) | decide +kernel) | decide +kernel
theorem ef_14_2 (m : MethodId) (a1 : Addr) (a3 : Addr) : entryFrame m #[(.ref a1), (.int (0 : Int32)), (.ref a3), (.int (0 : Int32)), (.int (2 : Int32))] 7 = (mkF m 0 #[.val (.ref a1), .val (.int (0 : Int32)), .val (.ref a3), .val (.int (0 : Int32)), .val (.int (2 : Int32)), .unset, .unset] []) := by first | (simp [entryFrame, mkF, argsToLocals, Value.category]; done) | rfl
abbrev Q14_2 (Z : State) (a1 : Addr) (a3 : Addr) (c0 : Int32) (c1 : Int32) (h0 : Heap) (n0 : Nat) : Option Value → Heap → List Loc → Prop := (fun v h L => v = some (.int (2 : Int32)) ∧ Fr n0 L ∧ Keep h0 h [a3] ∧ OA Z h a3 .byte [(.int (nar .byte (c0.toInt8.toInt32))), (.int (nar .byte (c1.toInt8.toInt32)))])
set_option maxRecDepth 65536 in
set_option maxHeartbeats 40000000 in
theorem rm14_2 (l : Launch) (Z : State) (a0 : Array Value) (hw : ∀ d ∈ tables_1, d.before a0 Z = true) (ws : List Jvm.Cond) (a1 : Addr) (a3 : Addr) (c0 : Int32) (c1 : Int32) (h0 : Heap) (n0 : Nat) (R0 : OA Z h0 a1 .char [(.int c0), (.int c1)]) (R1 : OA Z h0 a3 .byte [(.int (0 : Int32)), (.int (0 : Int32))]) (g_a3 : n0 ≤ a3) (ne_a1_a3 : a1 ≠ a3) (hc0 : ¬ (255 : Int32) < c0) (hc1 : ¬ (255 : Int32) < c1) :
    OMet l Z (⟨"java/lang/StringUTF16", "compress", "([CI[BII)I"⟩ : MethodName) jdk_52_method_21_code 7 (some .int) ws ({ frames := 0, cells := 0, slots := 0, locals := 0 } : Room) #[(.ref a1), (.int (0 : Int32)), (.ref a3), (.int (0 : Int32)), (.int (2 : Int32))] h0 (Q14_2 Z a1 a3 c0 c1 h0 n0) := by
  refine own_enter pn_14 ?_
  intro p e s m below meth c s₁ hx hby hml0 hown hret hlk hnm hZ X0 e0
  have hml : c.maxLocals = 7 := hml0
  have N0 := Fr.nil n0
  refine own_cast (ef_14_2 m a1 a3) ?_
  show OG p e ({ frames := 0, cells := 0, slots := 0, locals := 0 } : Room) s below (fun v h L => v = some (.int (2 : Int32)) ∧ Fr n0 L ∧ Keep h0 h [a3] ∧ OA Z h a3 .byte [(.int (nar .byte (c0.toInt8.toInt32))), (.int (nar .byte (c1.toInt8.toInt32)))]) s₁ (mkF m 0 #[.val (.ref a1), .val (.int (0 : Int32)), .val (.ref a3), .val (.int (0 : Int32)), .val (.int (2 : Int32)), .unset, .unset] [])
  refine own_st (fun t k => XS.iconst X0.here hx rfl (hb hby d14_0) k) ?_
  show OG p e _ s below _ s₁ (mkF m 1 #[.val (.ref a1), .val (.int (0 : Int32)), .val (.ref a3), .val (.int (0 : Int32)), .val (.int (2 : Int32)), .unset, .unset] [(.int (0 : Int32))])
  refine own_st (fun t k => XS.istore X0.here hx rfl (hb hby d14_1) rfl (l' := #[.val (.ref a1), .val (.int (0 : Int32)), .val (.ref a3), .val (.int (0 : Int32)), .val (.int (2 : Int32)), .val (.int (0 : Int32)), .unset]) rfl k) ?_
  show OG p e _ s below _ s₁ (mkF m 3 #[.val (.ref a1), .val (.int (0 : Int32)), .val (.ref a3), .val (.int (0 : Int32)), .val (.int (2 : Int32)), .val (.int (0 : Int32)), .unset] [])
  refine own_st (fun t k => XS.iload X0.here hx rfl (hb hby d14_3) rfl k) ?_
  show OG p e _ s below _ s₁ (mkF m 5 #[.val (.ref a1), .val (.int (0 : Int32)), .val (.ref a3), .val (.int (0 : Int32)), .val (.int (2 : Int32)), .val (.int (0 : Int32)), .unset] [(.int (0 : Int32))])
  refine own_st (fun t k => XS.iload X0.here hx rfl (hb hby d14_5) rfl k) ?_
  show OG p e _ s below _ s₁ (mkF m 7 #[.val (.ref a1), .val (.int (0 : Int32)), .val (.ref a3), .val (.int (0 : Int32)), .val (.int (2 : Int32)), .val (.int (0 : Int32)), .unset] [(.int (2 : Int32)), (.int (0 : Int32))])
  refine own_st (fun t k => XS.icmpNo X0.here hx rfl (hb hby d14_7) rfl (by decide) k) ?_
  show OG p e _ s below _ s₁ (mkF m 10 #[.val (.ref a1), .val (.int (0 : Int32)), .val (.ref a3), .val (.int (0 : Int32)), .val (.int (2 : Int32)), .val (.int (0 : Int32)), .unset] [])
  refine own_st (fun t k => XS.aloadN X0.here hx rfl (hb hby d14_10) rfl rfl k) ?_
  show OG p e _ s below _ s₁ (mkF m 11 #[.val (.ref a1), .val (.int (0 : Int32)), .val (.ref a3), .val (.int (0 : Int32)), .val (.int (2 : Int32)), .val (.int (0 : Int32)), .unset] [(.ref a1)])
  refine own_st (fun t k => XS.iloadN X0.here hx rfl (hb hby d14_11) rfl k) ?_
  show OG p e _ s below _ s₁ (mkF m 12 #[.val (.ref a1), .val (.int (0 : Int32)), .val (.ref a3), .val (.int (0 : Int32)), .val (.int (2 : Int32)), .val (.int (0 : Int32)), .unset] [(.int (0 : Int32)), (.ref a1)])
  obtain ⟨cl1, Ar1, hi1, ha1⟩ := own_rd R0 (j := (0 : Int32)) (i := 0) (by decide) (by decide) (v := (.int c0)) rfl
  refine own_st (fun t k => X0.caload hx (j := (0 : Int32)) (v := (.int c0)) (by rw [e0]; exact Ar1.1) (State.isArrayOf_alike hZ.alike Ar1.2.1) Ar1.2.2 hi1 ha1 (g := (mkF m 12 #[.val (.ref a1), .val (.int (0 : Int32)), .val (.ref a3), .val (.int (0 : Int32)), .val (.int (2 : Int32)), .val (.int (0 : Int32)), .unset] [(.int (0 : Int32)), (.ref a1)])) rfl rfl (hb hby d14_12) t k) ?_
  show OG p e _ s below _ s₁ (mkF m 13 #[.val (.ref a1), .val (.int (0 : Int32)), .val (.ref a3), .val (.int (0 : Int32)), .val (.int (2 : Int32)), .val (.int (0 : Int32)), .unset] [(.int c0)])
  refine own_st (fun t k => XS.istore X0.here hx rfl (hb hby d14_13) rfl (l' := #[.val (.ref a1), .val (.int (0 : Int32)), .val (.ref a3), .val (.int (0 : Int32)), .val (.int (2 : Int32)), .val (.int (0 : Int32)), .val (.int c0)]) rfl k) ?_
  show OG p e _ s below _ s₁ (mkF m 15 #[.val (.ref a1), .val (.int (0 : Int32)), .val (.ref a3), .val (.int (0 : Int32)), .val (.int (2 : Int32)), .val (.int (0 : Int32)), .val (.int c0)] [])
  refine own_st (fun t k => XS.iload X0.here hx rfl (hb hby d14_15) rfl k) ?_
  show OG p e _ s below _ s₁ (mkF m 17 #[.val (.ref a1), .val (.int (0 : Int32)), .val (.ref a3), .val (.int (0 : Int32)), .val (.int (2 : Int32)), .val (.int (0 : Int32)), .val (.int c0)] [(.int c0)])
  refine own_st (fun t k => XS.sipush X0.here hx rfl (hb hby d14_17) k) ?_
  show OG p e _ s below _ s₁ (mkF m 20 #[.val (.ref a1), .val (.int (0 : Int32)), .val (.ref a3), .val (.int (0 : Int32)), .val (.int (2 : Int32)), .val (.int (0 : Int32)), .val (.int c0)] [(.int (255 : Int32)), (.int c0)])
  refine own_st (fun t k => XS.icmpYes X0.here hx rfl (pc0 := 20) (pc' := 26) rfl (hb hby d14_20) rfl (flt hc0).2.2.2 (by decide) (by decide) k) ?_
  show OG p e _ s below _ s₁ (mkF m 26 #[.val (.ref a1), .val (.int (0 : Int32)), .val (.ref a3), .val (.int (0 : Int32)), .val (.int (2 : Int32)), .val (.int (0 : Int32)), .val (.int c0)] [])
  refine own_st (fun t k => XS.aloadN X0.here hx rfl (hb hby d14_26) rfl rfl k) ?_
  show OG p e _ s below _ s₁ (mkF m 27 #[.val (.ref a1), .val (.int (0 : Int32)), .val (.ref a3), .val (.int (0 : Int32)), .val (.int (2 : Int32)), .val (.int (0 : Int32)), .val (.int c0)] [(.ref a3)])
  refine own_st (fun t k => XS.iloadN X0.here hx rfl (hb hby d14_27) rfl k) ?_
  show OG p e _ s below _ s₁ (mkF m 28 #[.val (.ref a1), .val (.int (0 : Int32)), .val (.ref a3), .val (.int (0 : Int32)), .val (.int (2 : Int32)), .val (.int (0 : Int32)), .val (.int c0)] [(.int (0 : Int32)), (.ref a3)])
  refine own_st (fun t k => XS.iload X0.here hx rfl (hb hby d14_28) rfl k) ?_
  show OG p e _ s below _ s₁ (mkF m 30 #[.val (.ref a1), .val (.int (0 : Int32)), .val (.ref a3), .val (.int (0 : Int32)), .val (.int (2 : Int32)), .val (.int (0 : Int32)), .val (.int c0)] [(.int c0), (.int (0 : Int32)), (.ref a3)])
  refine own_st (fun t k => XS.i2b X0.here hx rfl (hb hby d14_30) rfl k) ?_
  show OG p e _ s below _ s₁ (mkF m 31 #[.val (.ref a1), .val (.int (0 : Int32)), .val (.ref a3), .val (.int (0 : Int32)), .val (.int (2 : Int32)), .val (.int (0 : Int32)), .val (.int c0)] [(.int (c0.toInt8.toInt32)), (.int (0 : Int32)), (.ref a3)])
  obtain ⟨cl2, Ar2, hi2⟩ := own_wr R1 (j := (0 : Int32)) (i := 0) (by decide) (by decide) (by decide : 0 < 2)
  obtain ⟨T2, h2, X2, e2, W2, st2⟩ := stB X0 hx hZ e0 Ar2 hi2 (g := (mkF m 31 #[.val (.ref a1), .val (.int (0 : Int32)), .val (.ref a3), .val (.int (0 : Int32)), .val (.int (2 : Int32)), .val (.int (0 : Int32)), .val (.int c0)] [(.int (c0.toInt8.toInt32)), (.int (0 : Int32)), (.ref a3)])) rfl rfl (hb hby d14_31)
  refine own_st st2 ?_
  have N2 := Fr.snoc X2 N0 g_a3
  have K3 : Keep h0 h2 [a3] := (Keep.refl h0 [a3]).wr W2 (Or.inl (List.mem_of_getElem? (i := 0) rfl))
  have F4 : OA Z h2 a1 .char [(.int c0), (.int c1)] := (R0.other W2 ne_a1_a3)
  have F5 : OA Z h2 a3 .byte [(.int (nar .byte (c0.toInt8.toInt32))), (.int (0 : Int32))] := (R1.set W2 (i := 0) (by decide))
  show OG p e _ s below _ T2 (mkF m 32 #[.val (.ref a1), .val (.int (0 : Int32)), .val (.ref a3), .val (.int (0 : Int32)), .val (.int (2 : Int32)), .val (.int (0 : Int32)), .val (.int c0)] [])
  refine own_st (fun t k => XS.iinc X2.here hx rfl (hb hby d14_32) rfl (l' := #[.val (.ref a1), .val (.int ((0 : Int32) + (1 : Int32))), .val (.ref a3), .val (.int (0 : Int32)), .val (.int (2 : Int32)), .val (.int (0 : Int32)), .val (.int c0)]) rfl k) ?_
  show OG p e _ s below _ T2 (mkF m 35 #[.val (.ref a1), .val (.int (1 : Int32)), .val (.ref a3), .val (.int (0 : Int32)), .val (.int (2 : Int32)), .val (.int (0 : Int32)), .val (.int c0)] [])
  refine own_st (fun t k => XS.iinc X2.here hx rfl (hb hby d14_35) rfl (l' := #[.val (.ref a1), .val (.int (1 : Int32)), .val (.ref a3), .val (.int ((0 : Int32) + (1 : Int32))), .val (.int (2 : Int32)), .val (.int (0 : Int32)), .val (.int c0)]) rfl k) ?_
  show OG p e _ s below _ T2 (mkF m 38 #[.val (.ref a1), .val (.int (1 : Int32)), .val (.ref a3), .val (.int (1 : Int32)), .val (.int (2 : Int32)), .val (.int (0 : Int32)), .val (.int c0)] [])
  refine own_st (fun t k => XS.iinc X2.here hx rfl (hb hby d14_38) rfl (l' := #[.val (.ref a1), .val (.int (1 : Int32)), .val (.ref a3), .val (.int (1 : Int32)), .val (.int (2 : Int32)), .val (.int ((0 : Int32) + (1 : Int32))), .val (.int c0)]) rfl k) ?_
  show OG p e _ s below _ T2 (mkF m 41 #[.val (.ref a1), .val (.int (1 : Int32)), .val (.ref a3), .val (.int (1 : Int32)), .val (.int (2 : Int32)), .val (.int (1 : Int32)), .val (.int c0)] [])
  refine own_st (fun t k => XS.goto X2.here hx rfl (pc0 := 41) (pc' := 3) rfl (hb hby d14_41) (by decide) (by decide) k) ?_
  show OG p e _ s below _ T2 (mkF m 3 #[.val (.ref a1), .val (.int (1 : Int32)), .val (.ref a3), .val (.int (1 : Int32)), .val (.int (2 : Int32)), .val (.int (1 : Int32)), .val (.int c0)] [])
  refine own_st (fun t k => XS.iload X2.here hx rfl (hb hby d14_3) rfl k) ?_
  show OG p e _ s below _ T2 (mkF m 5 #[.val (.ref a1), .val (.int (1 : Int32)), .val (.ref a3), .val (.int (1 : Int32)), .val (.int (2 : Int32)), .val (.int (1 : Int32)), .val (.int c0)] [(.int (1 : Int32))])
  refine own_st (fun t k => XS.iload X2.here hx rfl (hb hby d14_5) rfl k) ?_
  show OG p e _ s below _ T2 (mkF m 7 #[.val (.ref a1), .val (.int (1 : Int32)), .val (.ref a3), .val (.int (1 : Int32)), .val (.int (2 : Int32)), .val (.int (1 : Int32)), .val (.int c0)] [(.int (2 : Int32)), (.int (1 : Int32))])
  refine own_st (fun t k => XS.icmpNo X2.here hx rfl (hb hby d14_7) rfl (by decide) k) ?_
  show OG p e _ s below _ T2 (mkF m 10 #[.val (.ref a1), .val (.int (1 : Int32)), .val (.ref a3), .val (.int (1 : Int32)), .val (.int (2 : Int32)), .val (.int (1 : Int32)), .val (.int c0)] [])
  refine own_st (fun t k => XS.aloadN X2.here hx rfl (hb hby d14_10) rfl rfl k) ?_
  show OG p e _ s below _ T2 (mkF m 11 #[.val (.ref a1), .val (.int (1 : Int32)), .val (.ref a3), .val (.int (1 : Int32)), .val (.int (2 : Int32)), .val (.int (1 : Int32)), .val (.int c0)] [(.ref a1)])
  refine own_st (fun t k => XS.iloadN X2.here hx rfl (hb hby d14_11) rfl k) ?_
  show OG p e _ s below _ T2 (mkF m 12 #[.val (.ref a1), .val (.int (1 : Int32)), .val (.ref a3), .val (.int (1 : Int32)), .val (.int (2 : Int32)), .val (.int (1 : Int32)), .val (.int c0)] [(.int (1 : Int32)), (.ref a1)])
  obtain ⟨cl6, Ar6, hi6, ha6⟩ := own_rd F4 (j := (1 : Int32)) (i := 1) (by decide) (by decide) (v := (.int c1)) rfl
  refine own_st (fun t k => X2.caload hx (j := (1 : Int32)) (v := (.int c1)) (by rw [e2]; exact Ar6.1) (State.isArrayOf_alike hZ.alike Ar6.2.1) Ar6.2.2 hi6 ha6 (g := (mkF m 12 #[.val (.ref a1), .val (.int (1 : Int32)), .val (.ref a3), .val (.int (1 : Int32)), .val (.int (2 : Int32)), .val (.int (1 : Int32)), .val (.int c0)] [(.int (1 : Int32)), (.ref a1)])) rfl rfl (hb hby d14_12) t k) ?_
  show OG p e _ s below _ T2 (mkF m 13 #[.val (.ref a1), .val (.int (1 : Int32)), .val (.ref a3), .val (.int (1 : Int32)), .val (.int (2 : Int32)), .val (.int (1 : Int32)), .val (.int c0)] [(.int c1)])
  refine own_st (fun t k => XS.istore X2.here hx rfl (hb hby d14_13) rfl (l' := #[.val (.ref a1), .val (.int (1 : Int32)), .val (.ref a3), .val (.int (1 : Int32)), .val (.int (2 : Int32)), .val (.int (1 : Int32)), .val (.int c1)]) rfl k) ?_
  show OG p e _ s below _ T2 (mkF m 15 #[.val (.ref a1), .val (.int (1 : Int32)), .val (.ref a3), .val (.int (1 : Int32)), .val (.int (2 : Int32)), .val (.int (1 : Int32)), .val (.int c1)] [])
  refine own_st (fun t k => XS.iload X2.here hx rfl (hb hby d14_15) rfl k) ?_
  show OG p e _ s below _ T2 (mkF m 17 #[.val (.ref a1), .val (.int (1 : Int32)), .val (.ref a3), .val (.int (1 : Int32)), .val (.int (2 : Int32)), .val (.int (1 : Int32)), .val (.int c1)] [(.int c1)])
  refine own_st (fun t k => XS.sipush X2.here hx rfl (hb hby d14_17) k) ?_
  show OG p e _ s below _ T2 (mkF m 20 #[.val (.ref a1), .val (.int (1 : Int32)), .val (.ref a3), .val (.int (1 : Int32)), .val (.int (2 : Int32)), .val (.int (1 : Int32)), .val (.int c1)] [(.int (255 : Int32)), (.int c1)])
  refine own_st (fun t k => XS.icmpYes X2.here hx rfl (pc0 := 20) (pc' := 26) rfl (hb hby d14_20) rfl (flt hc1).2.2.2 (by decide) (by decide) k) ?_
  show OG p e _ s below _ T2 (mkF m 26 #[.val (.ref a1), .val (.int (1 : Int32)), .val (.ref a3), .val (.int (1 : Int32)), .val (.int (2 : Int32)), .val (.int (1 : Int32)), .val (.int c1)] [])
  refine own_st (fun t k => XS.aloadN X2.here hx rfl (hb hby d14_26) rfl rfl k) ?_
  show OG p e _ s below _ T2 (mkF m 27 #[.val (.ref a1), .val (.int (1 : Int32)), .val (.ref a3), .val (.int (1 : Int32)), .val (.int (2 : Int32)), .val (.int (1 : Int32)), .val (.int c1)] [(.ref a3)])
  refine own_st (fun t k => XS.iloadN X2.here hx rfl (hb hby d14_27) rfl k) ?_
  show OG p e _ s below _ T2 (mkF m 28 #[.val (.ref a1), .val (.int (1 : Int32)), .val (.ref a3), .val (.int (1 : Int32)), .val (.int (2 : Int32)), .val (.int (1 : Int32)), .val (.int c1)] [(.int (1 : Int32)), (.ref a3)])
  refine own_st (fun t k => XS.iload X2.here hx rfl (hb hby d14_28) rfl k) ?_
  show OG p e _ s below _ T2 (mkF m 30 #[.val (.ref a1), .val (.int (1 : Int32)), .val (.ref a3), .val (.int (1 : Int32)), .val (.int (2 : Int32)), .val (.int (1 : Int32)), .val (.int c1)] [(.int c1), (.int (1 : Int32)), (.ref a3)])
  refine own_st (fun t k => XS.i2b X2.here hx rfl (hb hby d14_30) rfl k) ?_
  show OG p e _ s below _ T2 (mkF m 31 #[.val (.ref a1), .val (.int (1 : Int32)), .val (.ref a3), .val (.int (1 : Int32)), .val (.int (2 : Int32)), .val (.int (1 : Int32)), .val (.int c1)] [(.int (c1.toInt8.toInt32)), (.int (1 : Int32)), (.ref a3)])
  obtain ⟨cl7, Ar7, hi7⟩ := own_wr F5 (j := (1 : Int32)) (i := 1) (by decide) (by decide) (by decide : 1 < 2)
  obtain ⟨T7, h7, X7, e7, W7, st7⟩ := stB X2 hx hZ e2 Ar7 hi7 (g := (mkF m 31 #[.val (.ref a1), .val (.int (1 : Int32)), .val (.ref a3), .val (.int (1 : Int32)), .val (.int (2 : Int32)), .val (.int (1 : Int32)), .val (.int c1)] [(.int (c1.toInt8.toInt32)), (.int (1 : Int32)), (.ref a3)])) rfl rfl (hb hby d14_31)
  refine own_st st7 ?_
  have N7 := Fr.snoc X7 N2 g_a3
  have K8 : Keep h0 h7 [a3] := K3.wr W7 (Or.inl (List.mem_of_getElem? (i := 0) rfl))
  have F9 : OA Z h7 a1 .char [(.int c0), (.int c1)] := (F4.other W7 ne_a1_a3)
  have F10 : OA Z h7 a3 .byte [(.int (nar .byte (c0.toInt8.toInt32))), (.int (nar .byte (c1.toInt8.toInt32)))] := (F5.set W7 (i := 1) (by decide))
  show OG p e _ s below _ T7 (mkF m 32 #[.val (.ref a1), .val (.int (1 : Int32)), .val (.ref a3), .val (.int (1 : Int32)), .val (.int (2 : Int32)), .val (.int (1 : Int32)), .val (.int c1)] [])
  refine own_st (fun t k => XS.iinc X7.here hx rfl (hb hby d14_32) rfl (l' := #[.val (.ref a1), .val (.int ((1 : Int32) + (1 : Int32))), .val (.ref a3), .val (.int (1 : Int32)), .val (.int (2 : Int32)), .val (.int (1 : Int32)), .val (.int c1)]) rfl k) ?_
  show OG p e _ s below _ T7 (mkF m 35 #[.val (.ref a1), .val (.int (2 : Int32)), .val (.ref a3), .val (.int (1 : Int32)), .val (.int (2 : Int32)), .val (.int (1 : Int32)), .val (.int c1)] [])
  refine own_st (fun t k => XS.iinc X7.here hx rfl (hb hby d14_35) rfl (l' := #[.val (.ref a1), .val (.int (2 : Int32)), .val (.ref a3), .val (.int ((1 : Int32) + (1 : Int32))), .val (.int (2 : Int32)), .val (.int (1 : Int32)), .val (.int c1)]) rfl k) ?_
  show OG p e _ s below _ T7 (mkF m 38 #[.val (.ref a1), .val (.int (2 : Int32)), .val (.ref a3), .val (.int (2 : Int32)), .val (.int (2 : Int32)), .val (.int (1 : Int32)), .val (.int c1)] [])
  refine own_st (fun t k => XS.iinc X7.here hx rfl (hb hby d14_38) rfl (l' := #[.val (.ref a1), .val (.int (2 : Int32)), .val (.ref a3), .val (.int (2 : Int32)), .val (.int (2 : Int32)), .val (.int ((1 : Int32) + (1 : Int32))), .val (.int c1)]) rfl k) ?_
  show OG p e _ s below _ T7 (mkF m 41 #[.val (.ref a1), .val (.int (2 : Int32)), .val (.ref a3), .val (.int (2 : Int32)), .val (.int (2 : Int32)), .val (.int (2 : Int32)), .val (.int c1)] [])
  refine own_st (fun t k => XS.goto X7.here hx rfl (pc0 := 41) (pc' := 3) rfl (hb hby d14_41) (by decide) (by decide) k) ?_
  show OG p e _ s below _ T7 (mkF m 3 #[.val (.ref a1), .val (.int (2 : Int32)), .val (.ref a3), .val (.int (2 : Int32)), .val (.int (2 : Int32)), .val (.int (2 : Int32)), .val (.int c1)] [])
  refine own_st (fun t k => XS.iload X7.here hx rfl (hb hby d14_3) rfl k) ?_
  show OG p e _ s below _ T7 (mkF m 5 #[.val (.ref a1), .val (.int (2 : Int32)), .val (.ref a3), .val (.int (2 : Int32)), .val (.int (2 : Int32)), .val (.int (2 : Int32)), .val (.int c1)] [(.int (2 : Int32))])
  refine own_st (fun t k => XS.iload X7.here hx rfl (hb hby d14_5) rfl k) ?_
  show OG p e _ s below _ T7 (mkF m 7 #[.val (.ref a1), .val (.int (2 : Int32)), .val (.ref a3), .val (.int (2 : Int32)), .val (.int (2 : Int32)), .val (.int (2 : Int32)), .val (.int c1)] [(.int (2 : Int32)), (.int (2 : Int32))])
  refine own_st (fun t k => XS.icmpYes X7.here hx rfl (pc0 := 7) (pc' := 44) rfl (hb hby d14_7) rfl (by decide) (by decide) (by decide) k) ?_
  show OG p e _ s below _ T7 (mkF m 44 #[.val (.ref a1), .val (.int (2 : Int32)), .val (.ref a3), .val (.int (2 : Int32)), .val (.int (2 : Int32)), .val (.int (2 : Int32)), .val (.int c1)] [])
  refine own_st (fun t k => XS.iload X7.here hx rfl (hb hby d14_44) rfl k) ?_
  show OG p e _ s below _ T7 (mkF m 46 #[.val (.ref a1), .val (.int (2 : Int32)), .val (.ref a3), .val (.int (2 : Int32)), .val (.int (2 : Int32)), .val (.int (2 : Int32)), .val (.int c1)] [(.int (2 : Int32))])
  refine own_retI X7 hx hret hlk (hb hby d14_46) (by decide) (by decide) ?_
  rw [e7]
  exact ⟨rfl, N7, K8, F10⟩
theorem d13_0 : decode jdk_52_method_16_code 0 = .ok (.iload_n 2, 1) := by decide +kernel
theorem d13_1 : decode jdk_52_method_16_code 1 = .ok (.newarray .byte, 2) := by decide +kernel
theorem d13_3 : decode jdk_52_method_16_code 3 = .ok (.astore_n 3, 1) := by decide +kernel
theorem d13_4 : decode jdk_52_method_16_code 4 = .ok (.aload_n 0, 1) := by decide +kernel
theorem d13_5 : decode jdk_52_method_16_code 5 = .ok (.iload_n 1, 1) := by decide +kernel
theorem d13_6 : decode jdk_52_method_16_code 6 = .ok (.aload_n 3, 1) := by decide +kernel
theorem d13_7 : decode jdk_52_method_16_code 7 = .ok (.iconst 0, 1) := by decide +kernel
theorem d13_8 : decode jdk_52_method_16_code 8 = .ok (.iload_n 2, 1) := by decide +kernel
theorem d13_9 : decode jdk_52_method_16_code 9 = .ok (.invokestatic 115, 3) := by decide +kernel
theorem d13_12 : decode jdk_52_method_16_code 12 = .ok (.istore 4, 2) := by decide +kernel
theorem d13_14 : decode jdk_52_method_16_code 14 = .ok (.iload 4, 2) := by decide +kernel
theorem d13_16 : decode jdk_52_method_16_code 16 = .ok (.iload_n 2, 1) := by decide +kernel
theorem d13_17 : decode jdk_52_method_16_code 17 = .ok (.if_icmp .eq 40, 3) := by decide +kernel
theorem d13_57 : decode jdk_52_method_16_code 57 = .ok (.aload_n 3, 1) := by decide +kernel
theorem d13_58 : decode jdk_52_method_16_code 58 = .ok (.areturn, 1) := by decide +kernel
theorem pd___CI_BII_I : parseMethodDescriptor "([CI[BII)I" = some ⟨[(.array .char), .int, (.array .byte), .int, .int], some .int⟩ := by decide +kernel
theorem pn_13 : plainFor (⟨"java/lang/StringUTF16", "compress", "([CII)[B"⟩ : MethodName) = true := by first | exact plainFor_of_name (by first | (simp [plainName, overriddenIn]; done) | decide +kernel) | decide +kernel
theorem ef_13_2 (m : MethodId) (a1 : Addr) : entryFrame m #[(.ref a1), (.int (0 : Int32)), (.int (2 : Int32))] 6 = (mkF m 0 #[.val (.ref a1), .val (.int (0 : Int32)), .val (.int (2 : Int32)), .unset, .unset, .unset] []) := by first | (simp [entryFrame, mkF, argsToLocals, Value.category]; done) | rfl
abbrev Q13_2 (Z : State) (a1 : Addr) (c0 : Int32) (c1 : Int32) (h0 : Heap) (n0 : Nat) : Option Value → Heap → List Loc → Prop := (fun v h L => Fr n0 L ∧ Keep h0 h [] ∧ ∃ b : Addr, h0.size ≤ b ∧ v = some (.ref b) ∧ OA Z h b .byte [(.int (nar .byte (c0.toInt8.toInt32))), (.int (nar .byte (c1.toInt8.toInt32)))])
set_option maxRecDepth 65536 in
set_option maxHeartbeats 40000000 in
theorem rm13_2 (l : Launch) (Z : State) (a0 : Array Value) (hw : ∀ d ∈ tables_1, d.before a0 Z = true) (ws : List Jvm.Cond) (a1 : Addr) (c0 : Int32) (c1 : Int32) (h0 : Heap) (n0 : Nat) (Z0 : n0 ≤ h0.size) (R0 : OA Z h0 a1 .char [(.int c0), (.int c1)]) (hc0 : ¬ (255 : Int32) < c0) (hc1 : ¬ (255 : Int32) < c1) :
    OMet l Z (⟨"java/lang/StringUTF16", "compress", "([CII)[B"⟩ : MethodName) jdk_52_method_16_code 6 (some (.array .byte)) ws ({ frames := 1, cells := 1, slots := 2, locals := 18 } : Room) #[(.ref a1), (.int (0 : Int32)), (.int (2 : Int32))] h0 (Q13_2 Z a1 c0 c1 h0 n0) := by
  refine own_enter pn_13 ?_
  intro p e s m below meth c s₁ hx hby hml0 hown hret hlk hnm hZ X0 e0
  have hml : c.maxLocals = 6 := hml0
  have N0 := Fr.nil n0
  refine own_cast (ef_13_2 m a1) ?_
  show OG p e ({ frames := 1, cells := 1, slots := 2, locals := 18 } : Room) s below (fun v h L => Fr n0 L ∧ Keep h0 h [] ∧ ∃ b : Addr, h0.size ≤ b ∧ v = some (.ref b) ∧ OA Z h b .byte [(.int (nar .byte (c0.toInt8.toInt32))), (.int (nar .byte (c1.toInt8.toInt32)))]) s₁ (mkF m 0 #[.val (.ref a1), .val (.int (0 : Int32)), .val (.int (2 : Int32)), .unset, .unset, .unset] [])
  refine own_st (fun t k => XS.iloadN X0.here hx rfl (hb hby d13_0) rfl k) ?_
  show OG p e _ s below _ s₁ (mkF m 1 #[.val (.ref a1), .val (.int (0 : Int32)), .val (.int (2 : Int32)), .unset, .unset, .unset] [(.int (2 : Int32))])
  obtain ⟨T1, h1, k1, X1, e1, E1, A1, st1⟩ := newP X0 hx hZ (hw _ (List.mem_of_getElem? (i := 14) rfl)) e0 (g := (mkF m 1 #[.val (.ref a1), .val (.int (0 : Int32)), .val (.int (2 : Int32)), .unset, .unset, .unset] [(.int (2 : Int32))])) rfl (hb hby d13_1) rfl (by decide) (cap := 2) (by decide) (by decide) (by decide) (by decide)
  obtain ⟨b1, gb1⟩ : ∃ z, z = h0.size := ⟨_, rfl⟩
  rw [← gb1] at A1 st1
  refine own_st st1 ?_
  have ge_b1 : n0 ≤ b1 := by rw [gb1]; exact Nat.le_trans Z0 (Keep.refl h0 []).1
  have sz_b1 : h0.size ≤ b1 := by rw [gb1]; exact (Keep.refl h0 []).1
  have ne_a1_b1 : a1 ≠ b1 := Nat.ne_of_lt (Nat.lt_of_lt_of_eq R0.lt gb1.symm)
  have F2 : OA Z h1 a1 .char [(.int c0), (.int c1)] := (R0.ext E1)
  have K3 : Keep h0 h1 [] := (Keep.refl h0 []).ext E1
  have F4 : OA Z h1 b1 .byte [(.int (0 : Int32)), (.int (0 : Int32))] := OA.new A1
  show OG p e _ s below _ T1 (mkF m 3 #[.val (.ref a1), .val (.int (0 : Int32)), .val (.int (2 : Int32)), .unset, .unset, .unset] [(.ref b1)])
  refine own_st (fun t k => XS.astoreN X1.here hx rfl (hb hby d13_3) rfl rfl (l' := #[.val (.ref a1), .val (.int (0 : Int32)), .val (.int (2 : Int32)), .val (.ref b1), .unset, .unset]) rfl k) ?_
  show OG p e _ s below _ T1 (mkF m 4 #[.val (.ref a1), .val (.int (0 : Int32)), .val (.int (2 : Int32)), .val (.ref b1), .unset, .unset] [])
  refine own_st (fun t k => XS.aloadN X1.here hx rfl (hb hby d13_4) rfl rfl k) ?_
  show OG p e _ s below _ T1 (mkF m 5 #[.val (.ref a1), .val (.int (0 : Int32)), .val (.int (2 : Int32)), .val (.ref b1), .unset, .unset] [(.ref a1)])
  refine own_st (fun t k => XS.iloadN X1.here hx rfl (hb hby d13_5) rfl k) ?_
  show OG p e _ s below _ T1 (mkF m 6 #[.val (.ref a1), .val (.int (0 : Int32)), .val (.int (2 : Int32)), .val (.ref b1), .unset, .unset] [(.int (0 : Int32)), (.ref a1)])
  refine own_st (fun t k => XS.aloadN X1.here hx rfl (hb hby d13_6) rfl rfl k) ?_
  show OG p e _ s below _ T1 (mkF m 7 #[.val (.ref a1), .val (.int (0 : Int32)), .val (.int (2 : Int32)), .val (.ref b1), .unset, .unset] [(.ref b1), (.int (0 : Int32)), (.ref a1)])
  refine own_st (fun t k => XS.iconst X1.here hx rfl (hb hby d13_7) k) ?_
  show OG p e _ s below _ T1 (mkF m 8 #[.val (.ref a1), .val (.int (0 : Int32)), .val (.int (2 : Int32)), .val (.ref b1), .unset, .unset] [(.int (0 : Int32)), (.ref b1), (.int (0 : Int32)), (.ref a1)])
  refine own_st (fun t k => XS.iloadN X1.here hx rfl (hb hby d13_8) rfl k) ?_
  show OG p e _ s below _ T1 (mkF m 9 #[.val (.ref a1), .val (.int (0 : Int32)), .val (.int (2 : Int32)), .val (.ref b1), .unset, .unset] [(.int (2 : Int32)), (.int (0 : Int32)), (.ref b1), (.int (0 : Int32)), (.ref a1)])
  obtain ⟨_, _, ⟨T5, L5, k5, n5⟩, -, X5, ⟨Lc5, hQ5, l5, y5, z5⟩, st5⟩ := Jvm.LawKit.callS X1 hx (y := (⟨"java/lang/StringUTF16", "compress", "([CI[BII)I"⟩ : MethodName)) hown (mvT hZ (hw _ (List.mem_of_getElem? (i := 80) rfl))) (mvT hZ (hw _ (List.mem_of_getElem? (i := 81) rfl))) (mvT hZ (hw _ (List.mem_of_getElem? (i := 78) rfl))) (mvT hZ (hw _ (List.mem_of_getElem? (i := 82) rfl))) (by decide) (backOf (W := 0) (rm := ({ frames := 0, cells := 0, slots := 0, locals := 0 } : Room)) (rm14_2 l Z a0 hw [] a1 b1 c0 c1 h1 n0 F2 F4 ge_b1 ne_a1_b1 hc0 hc1) hZ (hw _ (List.mem_of_getElem? (i := 82) rfl)) (hw _ (List.mem_of_getElem? (i := 78) rfl)) (by decide) (by decide)) (g := (mkF m 9 #[.val (.ref a1), .val (.int (0 : Int32)), .val (.int (2 : Int32)), .val (.ref b1), .unset, .unset] [(.int (2 : Int32)), (.int (0 : Int32)), (.ref b1), (.int (0 : Int32)), (.ref a1)])) rfl (by rw [hml]; rfl) (argsL := [(.ref a1), (.int (0 : Int32)), (.ref b1), (.int (0 : Int32)), (.int (2 : Int32))]) (rest := []) (lenOf pd___CI_BII_I rfl) rfl (by show 2 * 0 + _ ≤ _; exact Nat.le_of_eq rfl) (hb hby d13_9) (fun _ _ => ⟨rfl, e1, (by decide : 1 + 0 ≤ _), (by decide : 2 + 0 ≤ _)⟩)
  dsimp only [Pt.U, Pt.locs, Pt.cells, Pt.slots] at X5 l5 y5 z5 st5 hQ5
  subst l5 y5 z5
  obtain ⟨rfl, N5q, K5q, P5_0⟩ := hQ5
  refine own_st st5 ?_
  have N5 := Fr.app N0 N5q
  have K5 : Keep h0 T5.heap [] := K3.trans K5q (own_all1 (Or.inr sz_b1))
  have F6 : OA Z T5.heap a1 .char [(.int c0), (.int c1)] := (F2.keep K5q (own_nin1 ne_a1_b1))
  show OG p e _ s below _ T5 (mkF m 12 #[.val (.ref a1), .val (.int (0 : Int32)), .val (.int (2 : Int32)), .val (.ref b1), .unset, .unset] [(.int (2 : Int32))])
  refine own_st (fun t k => XS.istore X5.here hx rfl (hb hby d13_12) rfl (l' := #[.val (.ref a1), .val (.int (0 : Int32)), .val (.int (2 : Int32)), .val (.ref b1), .val (.int (2 : Int32)), .unset]) rfl k) ?_
  show OG p e _ s below _ T5 (mkF m 14 #[.val (.ref a1), .val (.int (0 : Int32)), .val (.int (2 : Int32)), .val (.ref b1), .val (.int (2 : Int32)), .unset] [])
  refine own_st (fun t k => XS.iload X5.here hx rfl (hb hby d13_14) rfl k) ?_
  show OG p e _ s below _ T5 (mkF m 16 #[.val (.ref a1), .val (.int (0 : Int32)), .val (.int (2 : Int32)), .val (.ref b1), .val (.int (2 : Int32)), .unset] [(.int (2 : Int32))])
  refine own_st (fun t k => XS.iloadN X5.here hx rfl (hb hby d13_16) rfl k) ?_
  show OG p e _ s below _ T5 (mkF m 17 #[.val (.ref a1), .val (.int (0 : Int32)), .val (.int (2 : Int32)), .val (.ref b1), .val (.int (2 : Int32)), .unset] [(.int (2 : Int32)), (.int (2 : Int32))])
  refine own_st (fun t k => XS.icmpYes X5.here hx rfl (pc0 := 17) (pc' := 57) rfl (hb hby d13_17) rfl (by decide) (by decide) (by decide) k) ?_
  show OG p e _ s below _ T5 (mkF m 57 #[.val (.ref a1), .val (.int (0 : Int32)), .val (.int (2 : Int32)), .val (.ref b1), .val (.int (2 : Int32)), .unset] [])
  refine own_st (fun t k => XS.aloadN X5.here hx rfl (hb hby d13_57) rfl rfl k) ?_
  show OG p e _ s below _ T5 (mkF m 58 #[.val (.ref a1), .val (.int (0 : Int32)), .val (.int (2 : Int32)), .val (.ref b1), .val (.int (2 : Int32)), .unset] [(.ref b1)])
  refine own_retV X5 hx hret rfl (Or.inr (Or.inr (Or.inr (Or.inr ⟨rfl, rfl, rfl⟩)))) hlk (hb hby d13_58) (by decide) (by decide) ?_
  exact ⟨N5, K5, b1, sz_b1, rfl, P5_0⟩
theorem d15_0 : decode jdk_52_method_15_code 0 = .ok (.iload_n 1, 1) := by decide +kernel
theorem d15_1 : decode jdk_52_method_15_code 1 = .ok (.aload_n 0, 1) := by decide +kernel
theorem d15_2 : decode jdk_52_method_15_code 2 = .ok (.arraylength, 1) := by decide +kernel
theorem d15_3 : decode jdk_52_method_15_code 3 = .ok (.isub, 1) := by decide +kernel
theorem d15_4 : decode jdk_52_method_15_code 4 = .ok (.bipush 31, 2) := by decide +kernel
theorem d15_6 : decode jdk_52_method_15_code 6 = .ok (.iushr, 1) := by decide +kernel
theorem d15_7 : decode jdk_52_method_15_code 7 = .ok (.i2b, 1) := by decide +kernel
theorem d15_8 : decode jdk_52_method_15_code 8 = .ok (.ireturn, 1) := by decide +kernel
theorem pn_15 : plainFor (⟨"java/lang/StringUTF16", "coderFromArrayLen", "([BI)B"⟩ : MethodName) = true := by first | exact plainFor_of_name (by first | (simp [plainName, overriddenIn]; done) | decide +kernel) | decide +kernel
theorem ef_15_2 (m : MethodId) (a1 : Addr) : entryFrame m #[(.ref a1), (.int (2 : Int32))] 2 = (mkF m 0 #[.val (.ref a1), .val (.int (2 : Int32))] []) := by first | (simp [entryFrame, mkF, argsToLocals, Value.category]; done) | rfl
abbrev Q15_2 (Z : State) (a1 : Addr) (c0 : Int32) (c1 : Int32) (h0 : Heap) (n0 : Nat) : Option Value → Heap → List Loc → Prop := (fun v h L => v = some (.int (0 : Int32)) ∧ Fr n0 L ∧ Keep h0 h [])
set_option maxRecDepth 65536 in
set_option maxHeartbeats 40000000 in
theorem rm15_2 (l : Launch) (Z : State) (a0 : Array Value) (hw : ∀ d ∈ tables_1, d.before a0 Z = true) (ws : List Jvm.Cond) (a1 : Addr) (c0 : Int32) (c1 : Int32) (h0 : Heap) (n0 : Nat) (R0 : OA Z h0 a1 .byte [(.int c0), (.int c1)]) :
    OMet l Z (⟨"java/lang/StringUTF16", "coderFromArrayLen", "([BI)B"⟩ : MethodName) jdk_52_method_15_code 2 (some .byte) ws ({ frames := 0, cells := 0, slots := 0, locals := 0 } : Room) #[(.ref a1), (.int (2 : Int32))] h0 (Q15_2 Z a1 c0 c1 h0 n0) := by
  refine own_enter pn_15 ?_
  intro p e s m below meth c s₁ hx hby hml0 hown hret hlk hnm hZ X0 e0
  have hml : c.maxLocals = 2 := hml0
  have N0 := Fr.nil n0
  refine own_cast (ef_15_2 m a1) ?_
  show OG p e ({ frames := 0, cells := 0, slots := 0, locals := 0 } : Room) s below (fun v h L => v = some (.int (0 : Int32)) ∧ Fr n0 L ∧ Keep h0 h []) s₁ (mkF m 0 #[.val (.ref a1), .val (.int (2 : Int32))] [])
  refine own_st (fun t k => XS.iloadN X0.here hx rfl (hb hby d15_0) rfl k) ?_
  show OG p e _ s below _ s₁ (mkF m 1 #[.val (.ref a1), .val (.int (2 : Int32))] [(.int (2 : Int32))])
  refine own_st (fun t k => XS.aloadN X0.here hx rfl (hb hby d15_1) rfl rfl k) ?_
  show OG p e _ s below _ s₁ (mkF m 2 #[.val (.ref a1), .val (.int (2 : Int32))] [(.ref a1), (.int (2 : Int32))])
  obtain ⟨cl1, Ar1, hz1⟩ := R0.len
  refine own_st (fun t k => X0.arraylength hx (by rw [e0]; exact Ar1.1) (State.isArrayOf_alike hZ.alike Ar1.2.1) (g := (mkF m 2 #[.val (.ref a1), .val (.int (2 : Int32))] [(.ref a1), (.int (2 : Int32))])) rfl rfl (hb hby d15_2) t k) ?_
  rw [hz1]
  show OG p e _ s below _ s₁ (mkF m 3 #[.val (.ref a1), .val (.int (2 : Int32))] [(.int (2 : Int32)), (.int (2 : Int32))])
  refine own_st (fun t k => XS.isub X0.here hx rfl (hb hby d15_3) rfl k) ?_
  show OG p e _ s below _ s₁ (mkF m 4 #[.val (.ref a1), .val (.int (2 : Int32))] [(.int (0 : Int32))])
  refine own_st (fun t k => XS.bipush X0.here hx rfl (hb hby d15_4) k) ?_
  show OG p e _ s below _ s₁ (mkF m 6 #[.val (.ref a1), .val (.int (2 : Int32))] [(.int (31 : Int32)), (.int (0 : Int32))])
  refine own_st (fun t k => XS.iushr X0.here hx rfl (hb hby d15_6) rfl k) ?_
  show OG p e _ s below _ s₁ (mkF m 7 #[.val (.ref a1), .val (.int (2 : Int32))] [(.int (0 : Int32))])
  refine own_st (fun t k => XS.i2b X0.here hx rfl (hb hby d15_7) rfl k) ?_
  show OG p e _ s below _ s₁ (mkF m 8 #[.val (.ref a1), .val (.int (2 : Int32))] [(.int ((0 : Int32).toInt8.toInt32))])
  refine own_retZ X0 hx (t := .byte) hret (by simp) hlk (hb hby d15_8) (by decide) (by decide) (w := (0 : Int32)) rfl ?_
  rw [e0]
  exact ⟨rfl, N0, (Keep.refl h0 [])⟩
theorem d12_0 : decode jdk_42_method_149_code 0 = .ok (.aload_n 0, 1) := by decide +kernel
theorem d12_1 : decode jdk_42_method_149_code 1 = .ok (.invokespecial 1, 3) := by decide +kernel
theorem d12_4 : decode jdk_42_method_149_code 4 = .ok (.iload_n 3, 1) := by decide +kernel
theorem d12_5 : decode jdk_42_method_149_code 5 = .ok (.ifCond .ne 22, 3) := by decide +kernel
theorem d12_27 : decode jdk_42_method_149_code 27 = .ok (.getstatic 38, 3) := by decide +kernel
theorem d12_30 : decode jdk_42_method_149_code 30 = .ok (.ifCond .eq 28, 3) := by decide +kernel
theorem d12_33 : decode jdk_42_method_149_code 33 = .ok (.aload_n 1, 1) := by decide +kernel
theorem d12_34 : decode jdk_42_method_149_code 34 = .ok (.iload_n 2, 1) := by decide +kernel
theorem d12_35 : decode jdk_42_method_149_code 35 = .ok (.iload_n 3, 1) := by decide +kernel
theorem d12_36 : decode jdk_42_method_149_code 36 = .ok (.invokestatic 177, 3) := by decide +kernel
theorem d12_39 : decode jdk_42_method_149_code 39 = .ok (.astore 5, 2) := by decide +kernel
theorem d12_41 : decode jdk_42_method_149_code 41 = .ok (.aload_n 0, 1) := by decide +kernel
theorem d12_42 : decode jdk_42_method_149_code 42 = .ok (.aload 5, 2) := by decide +kernel
theorem d12_44 : decode jdk_42_method_149_code 44 = .ok (.iload_n 3, 1) := by decide +kernel
theorem d12_45 : decode jdk_42_method_149_code 45 = .ok (.invokestatic 47, 3) := by decide +kernel
theorem d12_48 : decode jdk_42_method_149_code 48 = .ok (.putfield 15, 3) := by decide +kernel
theorem d12_51 : decode jdk_42_method_149_code 51 = .ok (.aload_n 0, 1) := by decide +kernel
theorem d12_52 : decode jdk_42_method_149_code 52 = .ok (.aload 5, 2) := by decide +kernel
theorem d12_54 : decode jdk_42_method_149_code 54 = .ok (.putfield 9, 3) := by decide +kernel
theorem d12_57 : decode jdk_42_method_149_code 57 = .ok (.return_, 1) := by decide +kernel
theorem pd___BI_B : parseMethodDescriptor "([BI)B" = some ⟨[(.array .byte), .int], some .byte⟩ := by decide +kernel
theorem pd___CII__B : parseMethodDescriptor "([CII)[B" = some ⟨[(.array .char), .int, .int], some (.array .byte)⟩ := by decide +kernel
theorem pn_12 : plainFor (⟨"java/lang/String", "<init>", "([CIILjava/lang/Void;)V"⟩ : MethodName) = true := by first | exact plainFor_of_name (by first | (simp [plainName, overriddenIn]; done) | decide +kernel) | decide +kernel
theorem ef_12_2 (m : MethodId) (a1 : Addr) (a2 : Addr) : entryFrame m #[(.ref a1), (.ref a2), (.int (0 : Int32)), (.int (2 : Int32)), .null] 6 = (mkF m 0 #[.val (.ref a1), .val (.ref a2), .val (.int (0 : Int32)), .val (.int (2 : Int32)), .val .null, .unset] []) := by first | (simp [entryFrame, mkF, argsToLocals, Value.category]; done) | rfl
abbrev Q12_2 (Z : State) (a1 : Addr) (a2 : Addr) (c0 : Int32) (c1 : Int32) (w : Int32) (h0 : Heap) (n0 : Nat) : Option Value → Heap → List Loc → Prop := (fun v h L => v = none ∧ Fr n0 L ∧ Keep h0 h [a1] ∧ ∃ b : Addr, h0.size ≤ b ∧ Exa Z h a1 "java/lang/String" ∧ Fld Z h a1 "java/lang/String" "value" "[B" (.ref b) ∧ Fld Z h a1 "java/lang/String" "coder" "B" (.int (0 : Int32)) ∧ OA Z h b .byte [(.int (nar .byte (c0.toInt8.toInt32))), (.int (nar .byte (c1.toInt8.toInt32)))])
set_option maxRecDepth 65536 in
set_option maxHeartbeats 40000000 in
theorem rm12_2 (l : Launch) (Z : State) (a0 : Array Value) (hw : ∀ d ∈ tables_1, d.before a0 Z = true) (ws : List Jvm.Cond) (a1 : Addr) (a2 : Addr) (c0 : Int32) (c1 : Int32) (w : Int32) (h0 : Heap) (n0 : Nat) (Z0 : n0 ≤ h0.size) (R0 : Exa Z h0 a1 "java/lang/String") (R1 : Fld Z h0 a1 "java/lang/String" "value" "[B" .null) (R2 : Fld Z h0 a1 "java/lang/String" "coder" "B" (.int (0 : Int32))) (R3 : OA Z h0 a2 .char [(.int c0), (.int c1)]) (R4 : Sta Z h0 "java/lang/String" "COMPACT_STRINGS" "Z" (.int w)) (g_a1 : n0 ≤ a1) (ne_a2_a1 : a2 ≠ a1) (hc0 : ¬ (255 : Int32) < c0) (hc1 : ¬ (255 : Int32) < c1) (hw0 : ¬ w = (0 : Int32)) :
    OMet l Z (⟨"java/lang/String", "<init>", "([CIILjava/lang/Void;)V"⟩ : MethodName) jdk_42_method_149_code 6 none ws ({ frames := 2, cells := 1, slots := 2, locals := 35 } : Room) #[(.ref a1), (.ref a2), (.int (0 : Int32)), (.int (2 : Int32)), .null] h0 (Q12_2 Z a1 a2 c0 c1 w h0 n0) := by
  refine own_enter pn_12 ?_
  intro p e s m below meth c s₁ hx hby hml0 hown hret hlk hnm hZ X0 e0
  have hml : c.maxLocals = 6 := hml0
  have N0 := Fr.nil n0
  refine own_cast (ef_12_2 m a1 a2) ?_
  show OG p e ({ frames := 2, cells := 1, slots := 2, locals := 35 } : Room) s below (fun v h L => v = none ∧ Fr n0 L ∧ Keep h0 h [a1] ∧ ∃ b : Addr, h0.size ≤ b ∧ Exa Z h a1 "java/lang/String" ∧ Fld Z h a1 "java/lang/String" "value" "[B" (.ref b) ∧ Fld Z h a1 "java/lang/String" "coder" "B" (.int (0 : Int32)) ∧ OA Z h b .byte [(.int (nar .byte (c0.toInt8.toInt32))), (.int (nar .byte (c1.toInt8.toInt32)))]) s₁ (mkF m 0 #[.val (.ref a1), .val (.ref a2), .val (.int (0 : Int32)), .val (.int (2 : Int32)), .val .null, .unset] [])
  refine own_st (fun t k => XS.aloadN X0.here hx rfl (hb hby d12_0) rfl rfl k) ?_
  show OG p e _ s below _ s₁ (mkF m 1 #[.val (.ref a1), .val (.ref a2), .val (.int (0 : Int32)), .val (.int (2 : Int32)), .val .null, .unset] [(.ref a1)])
  obtain ⟨T1, X1, e1, st1⟩ := initO X0 hx hZ hown (hw _ (List.mem_of_getElem? (i := 19) rfl)) (hw _ (List.mem_of_getElem? (i := 20) rfl)) (hw _ (List.mem_of_getElem? (i := 21) rfl)) e0 (g := (mkF m 1 #[.val (.ref a1), .val (.ref a2), .val (.int (0 : Int32)), .val (.int (2 : Int32)), .val .null, .unset] [(.ref a1)])) rfl (by rw [hml]; rfl) rfl (hb hby d12_1) (by decide) (W := 0) (by show 2 * 0 + _ ≤ _; exact Nat.le_of_eq rfl) (by decide)
  refine own_st st1 ?_
  show OG p e _ s below _ T1 (mkF m 4 #[.val (.ref a1), .val (.ref a2), .val (.int (0 : Int32)), .val (.int (2 : Int32)), .val .null, .unset] [])
  refine own_st (fun t k => XS.iloadN X1.here hx rfl (hb hby d12_4) rfl k) ?_
  show OG p e _ s below _ T1 (mkF m 5 #[.val (.ref a1), .val (.ref a2), .val (.int (0 : Int32)), .val (.int (2 : Int32)), .val .null, .unset] [(.int (2 : Int32))])
  refine own_st (fun t k => XS.ifYes X1.here hx rfl (pc0 := 5) (pc' := 27) rfl (hb hby d12_5) rfl (by decide) (by decide) (by decide) k) ?_
  show OG p e _ s below _ T1 (mkF m 27 #[.val (.ref a1), .val (.ref a2), .val (.int (0 : Int32)), .val (.int (2 : Int32)), .val .null, .unset] [])
  obtain ⟨T2, X2, e2, st2⟩ := getS X1 hx hZ (host := "") hown (hw _ (List.mem_of_getElem? (i := 4) rfl)) Via.refl e1 R4 (g := (mkF m 27 #[.val (.ref a1), .val (.ref a2), .val (.int (0 : Int32)), .val (.int (2 : Int32)), .val .null, .unset] [])) rfl (hb hby d12_27)
  refine own_st st2 ?_
  show OG p e _ s below _ T2 (mkF m 30 #[.val (.ref a1), .val (.ref a2), .val (.int (0 : Int32)), .val (.int (2 : Int32)), .val .null, .unset] [(.int w)])
  refine own_st (fun t k => XS.ifNo X2.here hx rfl (hb hby d12_30) rfl (own_if0 (feq hw0).1) k) ?_
  show OG p e _ s below _ T2 (mkF m 33 #[.val (.ref a1), .val (.ref a2), .val (.int (0 : Int32)), .val (.int (2 : Int32)), .val .null, .unset] [])
  refine own_st (fun t k => XS.aloadN X2.here hx rfl (hb hby d12_33) rfl rfl k) ?_
  show OG p e _ s below _ T2 (mkF m 34 #[.val (.ref a1), .val (.ref a2), .val (.int (0 : Int32)), .val (.int (2 : Int32)), .val .null, .unset] [(.ref a2)])
  refine own_st (fun t k => XS.iloadN X2.here hx rfl (hb hby d12_34) rfl k) ?_
  show OG p e _ s below _ T2 (mkF m 35 #[.val (.ref a1), .val (.ref a2), .val (.int (0 : Int32)), .val (.int (2 : Int32)), .val .null, .unset] [(.int (0 : Int32)), (.ref a2)])
  refine own_st (fun t k => XS.iloadN X2.here hx rfl (hb hby d12_35) rfl k) ?_
  show OG p e _ s below _ T2 (mkF m 36 #[.val (.ref a1), .val (.ref a2), .val (.int (0 : Int32)), .val (.int (2 : Int32)), .val .null, .unset] [(.int (2 : Int32)), (.int (0 : Int32)), (.ref a2)])
  obtain ⟨_, _, ⟨T3, L3, k3, n3⟩, -, X3, ⟨Lc3, hQ3, l3, y3, z3⟩, st3⟩ := Jvm.LawKit.callS X2 hx (y := (⟨"java/lang/StringUTF16", "compress", "([CII)[B"⟩ : MethodName)) hown (mvT hZ (hw _ (List.mem_of_getElem? (i := 76) rfl))) (mvT hZ (hw _ (List.mem_of_getElem? (i := 77) rfl))) (mvT hZ (hw _ (List.mem_of_getElem? (i := 78) rfl))) (mvT hZ (hw _ (List.mem_of_getElem? (i := 79) rfl))) (by decide) (backOf (W := 0) (rm := ({ frames := 1, cells := 1, slots := 2, locals := 18 } : Room)) (rm13_2 l Z a0 hw [] a2 c0 c1 h0 n0 (Nat.le_trans Z0 (Keep.refl h0 [a1]).1) R3 hc0 hc1) hZ (hw _ (List.mem_of_getElem? (i := 79) rfl)) (hw _ (List.mem_of_getElem? (i := 78) rfl)) (by decide) (by decide)) (g := (mkF m 36 #[.val (.ref a1), .val (.ref a2), .val (.int (0 : Int32)), .val (.int (2 : Int32)), .val .null, .unset] [(.int (2 : Int32)), (.int (0 : Int32)), (.ref a2)])) rfl (by rw [hml]; rfl) (argsL := [(.ref a2), (.int (0 : Int32)), (.int (2 : Int32))]) (rest := []) (lenOf pd___CII__B rfl) rfl (by show 2 * 0 + _ ≤ _; exact Nat.le_of_eq rfl) (hb hby d12_36) (fun _ _ => ⟨rfl, e2, (by decide : 0 + 1 ≤ _), (by decide : 0 + 2 ≤ _)⟩)
  dsimp only [Pt.U, Pt.locs, Pt.cells, Pt.slots] at X3 l3 y3 z3 st3 hQ3
  subst l3 y3 z3
  obtain ⟨N3q, K3q, b_3, sz_b_3, rfl, P3_0⟩ := hQ3
  refine own_st st3 ?_
  have N3 := Fr.app N0 N3q
  have ge_b_3 : n0 ≤ b_3 := Nat.le_trans (Nat.le_trans Z0 (Keep.refl h0 [a1]).1) sz_b_3
  have sy_b_3 : h0.size ≤ b_3 := Nat.le_trans (Keep.refl h0 [a1]).1 sz_b_3
  have ne_a1_b_3 : a1 ≠ b_3 := Nat.ne_of_lt (Nat.lt_of_lt_of_le R0.lt sz_b_3)
  have ne_a2_b_3 : a2 ≠ b_3 := Nat.ne_of_lt (Nat.lt_of_lt_of_le R3.lt sz_b_3)
  have K3 : Keep h0 T3.heap [a1] := (Keep.refl h0 [a1]).trans K3q (own_all0 )
  have F4 : Exa Z T3.heap a1 "java/lang/String" := (R0.keep K3q)
  have F5 : Fld Z T3.heap a1 "java/lang/String" "value" "[B" .null := (R1.keep K3q (own_nin0 ))
  have F6 : Fld Z T3.heap a1 "java/lang/String" "coder" "B" (.int (0 : Int32)) := (R2.keep K3q (own_nin0 ))
  have F7 : OA Z T3.heap a2 .char [(.int c0), (.int c1)] := (R3.keep K3q (own_nin0 ))
  have F8 : Sta Z T3.heap "java/lang/String" "COMPACT_STRINGS" "Z" (.int w) := (own_staK R4 K3q (own_all0 ))
  show OG p e _ s below _ T3 (mkF m 39 #[.val (.ref a1), .val (.ref a2), .val (.int (0 : Int32)), .val (.int (2 : Int32)), .val .null, .unset] [(.ref b_3)])
  refine own_st (fun t k => XS.astore X3.here hx rfl (hb hby d12_39) rfl rfl (l' := #[.val (.ref a1), .val (.ref a2), .val (.int (0 : Int32)), .val (.int (2 : Int32)), .val .null, .val (.ref b_3)]) rfl k) ?_
  show OG p e _ s below _ T3 (mkF m 41 #[.val (.ref a1), .val (.ref a2), .val (.int (0 : Int32)), .val (.int (2 : Int32)), .val .null, .val (.ref b_3)] [])
  refine own_st (fun t k => XS.aloadN X3.here hx rfl (hb hby d12_41) rfl rfl k) ?_
  show OG p e _ s below _ T3 (mkF m 42 #[.val (.ref a1), .val (.ref a2), .val (.int (0 : Int32)), .val (.int (2 : Int32)), .val .null, .val (.ref b_3)] [(.ref a1)])
  refine own_st (fun t k => XS.aload X3.here hx rfl (hb hby d12_42) rfl rfl k) ?_
  show OG p e _ s below _ T3 (mkF m 44 #[.val (.ref a1), .val (.ref a2), .val (.int (0 : Int32)), .val (.int (2 : Int32)), .val .null, .val (.ref b_3)] [(.ref b_3), (.ref a1)])
  refine own_st (fun t k => XS.iloadN X3.here hx rfl (hb hby d12_44) rfl k) ?_
  show OG p e _ s below _ T3 (mkF m 45 #[.val (.ref a1), .val (.ref a2), .val (.int (0 : Int32)), .val (.int (2 : Int32)), .val .null, .val (.ref b_3)] [(.int (2 : Int32)), (.ref b_3), (.ref a1)])
  obtain ⟨_, _, ⟨T9, L9, k9, n9⟩, -, X9, ⟨Lc9, hQ9, l9, y9, z9⟩, st9⟩ := Jvm.LawKit.callS X3 hx (y := (⟨"java/lang/StringUTF16", "coderFromArrayLen", "([BI)B"⟩ : MethodName)) hown (mvT hZ (hw _ (List.mem_of_getElem? (i := 83) rfl))) (mvT hZ (hw _ (List.mem_of_getElem? (i := 84) rfl))) (mvT hZ (hw _ (List.mem_of_getElem? (i := 78) rfl))) (mvT hZ (hw _ (List.mem_of_getElem? (i := 85) rfl))) (by decide) (backOf (W := 1) (rm := ({ frames := 0, cells := 0, slots := 0, locals := 0 } : Room)) (rm15_2 l Z a0 hw [] b_3 (nar .byte (c0.toInt8.toInt32)) (nar .byte (c1.toInt8.toInt32)) T3.heap n0 P3_0) hZ (hw _ (List.mem_of_getElem? (i := 85) rfl)) (hw _ (List.mem_of_getElem? (i := 78) rfl)) (by decide) (by decide)) (g := (mkF m 45 #[.val (.ref a1), .val (.ref a2), .val (.int (0 : Int32)), .val (.int (2 : Int32)), .val .null, .val (.ref b_3)] [(.int (2 : Int32)), (.ref b_3), (.ref a1)])) rfl (by rw [hml]; rfl) (argsL := [(.ref b_3), (.int (2 : Int32))]) (rest := [(.ref a1)]) (lenOf pd___BI_B rfl) rfl (by show 2 * 0 + _ ≤ _; exact Nat.le_of_eq rfl) (hb hby d12_45) (fun _ _ => ⟨rfl, rfl, (by decide : 1 + 0 ≤ _), (by decide : 2 + 0 ≤ _)⟩)
  dsimp only [Pt.U, Pt.locs, Pt.cells, Pt.slots] at X9 l9 y9 z9 st9 hQ9
  subst l9 y9 z9
  obtain ⟨rfl, N9q, K9q⟩ := hQ9
  refine own_st st9 ?_
  have N9 := Fr.app N3 N9q
  have K9 : Keep h0 T9.heap [a1] := K3.trans K9q (own_all0 )
  have F10 : Exa Z T9.heap a1 "java/lang/String" := (F4.keep K9q)
  have F11 : Fld Z T9.heap a1 "java/lang/String" "value" "[B" .null := (F5.keep K9q (own_nin0 ))
  have F12 : Fld Z T9.heap a1 "java/lang/String" "coder" "B" (.int (0 : Int32)) := (F6.keep K9q (own_nin0 ))
  have F13 : OA Z T9.heap a2 .char [(.int c0), (.int c1)] := (F7.keep K9q (own_nin0 ))
  have F14 : Sta Z T9.heap "java/lang/String" "COMPACT_STRINGS" "Z" (.int w) := (own_staK F8 K9q (own_all0 ))
  have F15 : OA Z T9.heap b_3 .byte [(.int (nar .byte (c0.toInt8.toInt32))), (.int (nar .byte (c1.toInt8.toInt32)))] := (P3_0.keep K9q (own_nin0 ))
  show OG p e _ s below _ T9 (mkF m 48 #[.val (.ref a1), .val (.ref a2), .val (.int (0 : Int32)), .val (.int (2 : Int32)), .val .null, .val (.ref b_3)] [(.int (0 : Int32)), (.ref a1)])
  obtain ⟨T16, h16, X16, e16, W16, st16⟩ := putF X9 hx hZ hown (host := "") (Or.inl (hw _ (List.mem_of_getElem? (i := 24) rfl))) Via.refl rfl F12 F10 (Or.inr ⟨(hw _ (List.mem_of_getElem? (i := 25) rfl)), rfl, hnm⟩) (hw _ (List.mem_of_getElem? (i := 10) rfl)) (ty := .byte) (by decide) rfl rfl (g := (mkF m 48 #[.val (.ref a1), .val (.ref a2), .val (.int (0 : Int32)), .val (.int (2 : Int32)), .val .null, .val (.ref b_3)] [(.int (0 : Int32)), (.ref a1)])) rfl rfl (hb hby d12_48)
  refine own_st st16 ?_
  have N16 := Fr.snoc X16 N9 g_a1
  have K17 : Keep h0 h16 [a1] := K9.wr W16 (Or.inl (List.mem_of_getElem? (i := 0) rfl))
  have F18 : Exa Z h16 a1 "java/lang/String" := (F10.wr W16)
  have F19 : Fld Z h16 a1 "java/lang/String" "value" "[B" .null := (F11.other W16 (Or.inr (slot_ne (Or.inr (hw _ (List.mem_of_getElem? (i := 23) rfl))) (Or.inr (hw _ (List.mem_of_getElem? (i := 25) rfl))) (by decide) (t := (.array .byte)) (t' := .byte) (by decide) (by decide))))
  have F20 : Fld Z h16 a1 "java/lang/String" "coder" "B" (.int (0 : Int32)) := (F12.same W16)
  have F21 : OA Z h16 a2 .char [(.int c0), (.int c1)] := (F13.other W16 ne_a2_a1)
  have F22 : Sta Z h16 "java/lang/String" "COMPACT_STRINGS" "Z" (.int w) := (F14.wr W16)
  have F23 : OA Z h16 b_3 .byte [(.int (nar .byte (c0.toInt8.toInt32))), (.int (nar .byte (c1.toInt8.toInt32)))] := (F15.other W16 (Ne.symm ne_a1_b_3))
  show OG p e _ s below _ T16 (mkF m 51 #[.val (.ref a1), .val (.ref a2), .val (.int (0 : Int32)), .val (.int (2 : Int32)), .val .null, .val (.ref b_3)] [])
  refine own_st (fun t k => XS.aloadN X16.here hx rfl (hb hby d12_51) rfl rfl k) ?_
  show OG p e _ s below _ T16 (mkF m 52 #[.val (.ref a1), .val (.ref a2), .val (.int (0 : Int32)), .val (.int (2 : Int32)), .val .null, .val (.ref b_3)] [(.ref a1)])
  refine own_st (fun t k => XS.aload X16.here hx rfl (hb hby d12_52) rfl rfl k) ?_
  show OG p e _ s below _ T16 (mkF m 54 #[.val (.ref a1), .val (.ref a2), .val (.int (0 : Int32)), .val (.int (2 : Int32)), .val .null, .val (.ref b_3)] [(.ref b_3), (.ref a1)])
  obtain ⟨T24, h24, X24, e24, W24, st24⟩ := putF X16 hx hZ hown (host := "") (Or.inl (hw _ (List.mem_of_getElem? (i := 22) rfl))) Via.refl e16 F19 F18 (Or.inr ⟨(hw _ (List.mem_of_getElem? (i := 23) rfl)), rfl, hnm⟩) (hw _ (List.mem_of_getElem? (i := 10) rfl)) (ty := (.array .byte)) (by decide) rfl rfl (g := (mkF m 54 #[.val (.ref a1), .val (.ref a2), .val (.int (0 : Int32)), .val (.int (2 : Int32)), .val .null, .val (.ref b_3)] [(.ref b_3), (.ref a1)])) rfl rfl (hb hby d12_54)
  refine own_st st24 ?_
  have N24 := Fr.snoc X24 N16 g_a1
  have K25 : Keep h0 h24 [a1] := K17.wr W24 (Or.inl (List.mem_of_getElem? (i := 0) rfl))
  have F26 : Exa Z h24 a1 "java/lang/String" := (F18.wr W24)
  have F27 : Fld Z h24 a1 "java/lang/String" "value" "[B" (.ref b_3) := (F19.same W24)
  have F28 : Fld Z h24 a1 "java/lang/String" "coder" "B" (.int (0 : Int32)) := (F20.other W24 (Or.inr (slot_ne (Or.inr (hw _ (List.mem_of_getElem? (i := 25) rfl))) (Or.inr (hw _ (List.mem_of_getElem? (i := 23) rfl))) (by decide) (t := .byte) (t' := (.array .byte)) (by decide) (by decide))))
  have F29 : OA Z h24 a2 .char [(.int c0), (.int c1)] := (F21.other W24 ne_a2_a1)
  have F30 : Sta Z h24 "java/lang/String" "COMPACT_STRINGS" "Z" (.int w) := (F22.wr W24)
  have F31 : OA Z h24 b_3 .byte [(.int (nar .byte (c0.toInt8.toInt32))), (.int (nar .byte (c1.toInt8.toInt32)))] := (F23.other W24 (Ne.symm ne_a1_b_3))
  show OG p e _ s below _ T24 (mkF m 57 #[.val (.ref a1), .val (.ref a2), .val (.int (0 : Int32)), .val (.int (2 : Int32)), .val .null, .val (.ref b_3)] [])
  refine own_ret0 X24 hx hret hlk (hb hby d12_57) (by decide) (by decide) ?_
  rw [e24]
  exact ⟨rfl, N24, K25, b_3, sy_b_3, F26, F27, F28, F31⟩
theorem d11_0 : decode jdk_42_method_3_code 0 = .ok (.aload_n 0, 1) := by decide +kernel
theorem d11_1 : decode jdk_42_method_3_code 1 = .ok (.aload_n 1, 1) := by decide +kernel
theorem d11_2 : decode jdk_42_method_3_code 2 = .ok (.iconst 0, 1) := by decide +kernel
theorem d11_3 : decode jdk_42_method_3_code 3 = .ok (.aload_n 1, 1) := by decide +kernel
theorem d11_4 : decode jdk_42_method_3_code 4 = .ok (.arraylength, 1) := by decide +kernel
theorem d11_5 : decode jdk_42_method_3_code 5 = .ok (.aconst_null, 1) := by decide +kernel
theorem d11_6 : decode jdk_42_method_3_code 6 = .ok (.invokespecial 27, 3) := by decide +kernel
theorem d11_9 : decode jdk_42_method_3_code 9 = .ok (.return_, 1) := by decide +kernel
theorem pd___CIILjava_lang_Void__V : parseMethodDescriptor "([CIILjava/lang/Void;)V" = some ⟨[(.array .char), .int, .int, (.object "java/lang/Void")], none⟩ := by decide +kernel
theorem pn_11 : plainFor (⟨"java/lang/String", "<init>", "([C)V"⟩ : MethodName) = true := by first | exact plainFor_of_name (by first | (simp [plainName, overriddenIn]; done) | decide +kernel) | decide +kernel
theorem ef_11 (m : MethodId) (a1 : Addr) (a2 : Addr) : entryFrame m #[(.ref a1), (.ref a2)] 2 = (mkF m 0 #[.val (.ref a1), .val (.ref a2)] []) := by first | (simp [entryFrame, mkF, argsToLocals, Value.category]; done) | rfl
abbrev Q11_2 (Z : State) (a1 : Addr) (a2 : Addr) (c0 : Int32) (c1 : Int32) (w : Int32) (h0 : Heap) (n0 : Nat) : Option Value → Heap → List Loc → Prop := (fun v h L => v = none ∧ Fr n0 L ∧ Keep h0 h [a1] ∧ ∃ b : Addr, h0.size ≤ b ∧ Exa Z h a1 "java/lang/String" ∧ Fld Z h a1 "java/lang/String" "value" "[B" (.ref b) ∧ Fld Z h a1 "java/lang/String" "coder" "B" (.int (0 : Int32)) ∧ OA Z h b .byte [(.int (nar .byte (c0.toInt8.toInt32))), (.int (nar .byte (c1.toInt8.toInt32)))])
set_option maxRecDepth 65536 in
set_option maxHeartbeats 40000000 in
theorem rm11_2 (l : Launch) (Z : State) (a0 : Array Value) (hw : ∀ d ∈ tables_1, d.before a0 Z = true) (ws : List Jvm.Cond) (a1 : Addr) (a2 : Addr) (c0 : Int32) (c1 : Int32) (w : Int32) (h0 : Heap) (n0 : Nat) (Z0 : n0 ≤ h0.size) (R0 : Exa Z h0 a1 "java/lang/String") (R1 : Fld Z h0 a1 "java/lang/String" "value" "[B" .null) (R2 : Fld Z h0 a1 "java/lang/String" "coder" "B" (.int (0 : Int32))) (R3 : OA Z h0 a2 .char [(.int c0), (.int c1)]) (R4 : Sta Z h0 "java/lang/String" "COMPACT_STRINGS" "Z" (.int w)) (g_a1 : n0 ≤ a1) (ne_a2_a1 : a2 ≠ a1) (hc0 : ¬ (255 : Int32) < c0) (hc1 : ¬ (255 : Int32) < c1) (hw0 : ¬ w = (0 : Int32)) :
    OMet l Z (⟨"java/lang/String", "<init>", "([C)V"⟩ : MethodName) jdk_42_method_3_code 2 none ws ({ frames := 3, cells := 1, slots := 2, locals := 52 } : Room) #[(.ref a1), (.ref a2)] h0 (Q11_2 Z a1 a2 c0 c1 w h0 n0) := by
  refine own_enter pn_11 ?_
  intro p e s m below meth c s₁ hx hby hml0 hown hret hlk hnm hZ X0 e0
  have hml : c.maxLocals = 2 := hml0
  have N0 := Fr.nil n0
  refine own_cast (ef_11 m a1 a2) ?_
  show OG p e ({ frames := 3, cells := 1, slots := 2, locals := 52 } : Room) s below (fun v h L => v = none ∧ Fr n0 L ∧ Keep h0 h [a1] ∧ ∃ b : Addr, h0.size ≤ b ∧ Exa Z h a1 "java/lang/String" ∧ Fld Z h a1 "java/lang/String" "value" "[B" (.ref b) ∧ Fld Z h a1 "java/lang/String" "coder" "B" (.int (0 : Int32)) ∧ OA Z h b .byte [(.int (nar .byte (c0.toInt8.toInt32))), (.int (nar .byte (c1.toInt8.toInt32)))]) s₁ (mkF m 0 #[.val (.ref a1), .val (.ref a2)] [])
  refine own_st (fun t k => XS.aloadN X0.here hx rfl (hb hby d11_0) rfl rfl k) ?_
  show OG p e _ s below _ s₁ (mkF m 1 #[.val (.ref a1), .val (.ref a2)] [(.ref a1)])
  refine own_st (fun t k => XS.aloadN X0.here hx rfl (hb hby d11_1) rfl rfl k) ?_
  show OG p e _ s below _ s₁ (mkF m 2 #[.val (.ref a1), .val (.ref a2)] [(.ref a2), (.ref a1)])
  refine own_st (fun t k => XS.iconst X0.here hx rfl (hb hby d11_2) k) ?_
  show OG p e _ s below _ s₁ (mkF m 3 #[.val (.ref a1), .val (.ref a2)] [(.int (0 : Int32)), (.ref a2), (.ref a1)])
  refine own_st (fun t k => XS.aloadN X0.here hx rfl (hb hby d11_3) rfl rfl k) ?_
  show OG p e _ s below _ s₁ (mkF m 4 #[.val (.ref a1), .val (.ref a2)] [(.ref a2), (.int (0 : Int32)), (.ref a2), (.ref a1)])
  obtain ⟨cl1, Ar1, hz1⟩ := R3.len
  refine own_st (fun t k => X0.arraylength hx (by rw [e0]; exact Ar1.1) (State.isArrayOf_alike hZ.alike Ar1.2.1) (g := (mkF m 4 #[.val (.ref a1), .val (.ref a2)] [(.ref a2), (.int (0 : Int32)), (.ref a2), (.ref a1)])) rfl rfl (hb hby d11_4) t k) ?_
  rw [hz1]
  show OG p e _ s below _ s₁ (mkF m 5 #[.val (.ref a1), .val (.ref a2)] [(.int (2 : Int32)), (.int (0 : Int32)), (.ref a2), (.ref a1)])
  refine own_st (fun t k => XS.aconstNull X0.here hx rfl (hb hby d11_5) k) ?_
  show OG p e _ s below _ s₁ (mkF m 6 #[.val (.ref a1), .val (.ref a2)] [.null, (.int (2 : Int32)), (.int (0 : Int32)), (.ref a2), (.ref a1)])
  obtain ⟨_, _, ⟨T2, L2, k2, n2⟩, -, X2, ⟨Lc2, hQ2, l2, y2, z2⟩, st2⟩ := X0.specialBack hx (y := (⟨"java/lang/String", "<init>", "([CIILjava/lang/Void;)V"⟩ : MethodName)) rfl hown (mvT hZ (hw _ (List.mem_of_getElem? (i := 73) rfl))) (mvT hZ (hw _ (List.mem_of_getElem? (i := 74) rfl))) (mvT hZ (hw _ (List.mem_of_getElem? (i := 75) rfl))) (by decide) (backOf (W := 0) (rm := ({ frames := 2, cells := 1, slots := 2, locals := 35 } : Room)) (rm12_2 l Z a0 hw [] a1 a2 c0 c1 w h0 n0 (Nat.le_trans Z0 (Keep.refl h0 [a1]).1) R0 R1 R2 R3 R4 g_a1 ne_a2_a1 hc0 hc1 hw0) hZ (hw _ (List.mem_of_getElem? (i := 75) rfl)) (hw _ (List.mem_of_getElem? (i := 2) rfl)) (by decide) (by decide)) (g := (mkF m 6 #[.val (.ref a1), .val (.ref a2)] [.null, (.int (2 : Int32)), (.int (0 : Int32)), (.ref a2), (.ref a1)])) rfl (by rw [hml]; rfl) (Steps.refl _) (a := a1) (argsL := [(.ref a2), (.int (0 : Int32)), (.int (2 : Int32)), .null]) (rest := []) (lenOf pd___CIILjava_lang_Void__V rfl) rfl (by show 2 * 0 + _ ≤ _; exact Nat.le_of_eq rfl) (hb hby d11_6) (fun _ _ => ⟨rfl, e0, (by decide : 0 + 1 ≤ _), (by decide : 0 + 2 ≤ _)⟩)
  dsimp only [Pt.U, Pt.locs, Pt.cells, Pt.slots] at X2 l2 y2 z2 st2 hQ2
  subst l2 y2 z2
  obtain ⟨rfl, N2q, K2q, b_2, sz_b_2, P2_0, P2_1, P2_2, P2_3⟩ := hQ2
  refine own_st (fun t k => st2.trans k) ?_
  have N2 := Fr.app N0 N2q
  have ge_b_2 : n0 ≤ b_2 := Nat.le_trans (Nat.le_trans Z0 (Keep.refl h0 [a1]).1) sz_b_2
  have sy_b_2 : h0.size ≤ b_2 := Nat.le_trans (Keep.refl h0 [a1]).1 sz_b_2
  have ne_a1_b_2 : a1 ≠ b_2 := Nat.ne_of_lt (Nat.lt_of_lt_of_le R0.lt sz_b_2)
  have ne_a2_b_2 : a2 ≠ b_2 := Nat.ne_of_lt (Nat.lt_of_lt_of_le R3.lt sz_b_2)
  have K2 : Keep h0 T2.heap [a1] := (Keep.refl h0 [a1]).trans K2q (own_all1 (Or.inl (List.mem_of_getElem? (i := 0) rfl)))
  have F3 : OA Z T2.heap a2 .char [(.int c0), (.int c1)] := (R3.keep K2q (own_nin1 ne_a2_a1))
  have F4 : Sta Z T2.heap "java/lang/String" "COMPACT_STRINGS" "Z" (.int w) := (own_staK R4 K2q (own_all1 (own_plE R0)))
  show OG p e _ s below _ T2 (mkF m 9 #[.val (.ref a1), .val (.ref a2)] [])
  refine own_ret0 X2 hx hret hlk (hb hby d11_9) (by decide) (by decide) ?_
  exact ⟨rfl, N2, K2, b_2, sy_b_2, P2_0, P2_1, P2_2, P2_3⟩
theorem d12_8 : decode jdk_42_method_149_code 8 = .ok (.aload_n 0, 1) := by decide +kernel
theorem d12_9 : decode jdk_42_method_149_code 9 = .ok (.ldc 7, 2) := by decide +kernel
theorem d12_11 : decode jdk_42_method_149_code 11 = .ok (.getfield 9, 3) := by decide +kernel
theorem d12_14 : decode jdk_42_method_149_code 14 = .ok (.putfield 9, 3) := by decide +kernel
theorem d12_17 : decode jdk_42_method_149_code 17 = .ok (.aload_n 0, 1) := by decide +kernel
theorem d12_18 : decode jdk_42_method_149_code 18 = .ok (.ldc 7, 2) := by decide +kernel
theorem d12_20 : decode jdk_42_method_149_code 20 = .ok (.getfield 15, 3) := by decide +kernel
theorem d12_23 : decode jdk_42_method_149_code 23 = .ok (.putfield 15, 3) := by decide +kernel
theorem d12_26 : decode jdk_42_method_149_code 26 = .ok (.return_, 1) := by decide +kernel
theorem ef_12_0 (m : MethodId) (a1 : Addr) (a2 : Addr) : entryFrame m #[(.ref a1), (.ref a2), (.int (0 : Int32)), (.int (0 : Int32)), .null] 6 = (mkF m 0 #[.val (.ref a1), .val (.ref a2), .val (.int (0 : Int32)), .val (.int (0 : Int32)), .val .null, .unset] []) := by first | (simp [entryFrame, mkF, argsToLocals, Value.category]; done) | rfl
abbrev Q12_0 (Z : State) (a1 : Addr) (a2 : Addr) (h0 : Heap) (n0 : Nat) : Option Value → Heap → List Loc → Prop := (fun v h L => v = none ∧ Fr n0 L ∧ Keep h0 h [a1] ∧ ∃ b : Addr, Exa Z h a1 "java/lang/String" ∧ Fld Z h a1 "java/lang/String" "value" "[B" (.ref b) ∧ Fld Z h a1 "java/lang/String" "coder" "B" (.int (0 : Int32)) ∧ OA Z h b .byte [])
set_option maxRecDepth 65536 in
set_option maxHeartbeats 40000000 in
theorem rm12_0 (l : Launch) (Z : State) (a0 : Array Value) (hw : ∀ d ∈ tables_1, d.before a0 Z = true) (ws : List Jvm.Cond) (a1 : Addr) (a2 : Addr) (h0 : Heap) (n0 : Nat) (R0 : Exa Z h0 a1 "java/lang/String") (R1 : Fld Z h0 a1 "java/lang/String" "value" "[B" .null) (R2 : Fld Z h0 a1 "java/lang/String" "coder" "B" (.int (0 : Int32))) (R3 : OA Z h0 a2 .char []) (g_a1 : n0 ≤ a1) (ne_a2_a1 : a2 ≠ a1) :
    OMetS l Z EL0 (⟨"java/lang/String", "<init>", "([CIILjava/lang/Void;)V"⟩ : MethodName) jdk_42_method_149_code 6 none ws ({ frames := 1, cells := 4, slots := 8, locals := 12 } : Room) #[(.ref a1), (.ref a2), (.int (0 : Int32)), (.int (0 : Int32)), .null] h0 (Q12_0 Z a1 a2 h0 n0) := by
  refine own_enterS pn_12 ?_
  intro p e s m below meth c s₁ hx hby hml0 hown hret hlk hnm hZ X0 e0 hs0 CH0
  have hEL := own_EW hw
  have hS0 : s.Since s.vm 0 := (State.WarmedH.refl s).since 0
  have hk0 : 0 ≤ h0.size := Nat.zero_le _
  have CR0 : CHr Z EL0 s.vm h0 s.vm h0 := CHr.refl CH0
  have sf_a1 : Safe Z EL0 s.vm h0 a1 := own_raw hZ.alike R0 R1
  have hml : c.maxLocals = 6 := hml0
  have N0 := Fr.nil n0
  refine own_castS (ef_12_0 m a1 a2) ?_
  show OGS Z EL0 p e ({ frames := 1, cells := 4, slots := 8, locals := 12 } : Room) s below (fun v h L => v = none ∧ Fr n0 L ∧ Keep h0 h [a1] ∧ ∃ b : Addr, Exa Z h a1 "java/lang/String" ∧ Fld Z h a1 "java/lang/String" "value" "[B" (.ref b) ∧ Fld Z h a1 "java/lang/String" "coder" "B" (.int (0 : Int32)) ∧ OA Z h b .byte []) s₁ (mkF m 0 #[.val (.ref a1), .val (.ref a2), .val (.int (0 : Int32)), .val (.int (0 : Int32)), .val .null, .unset] [])
  refine own_stS (fun t k => XS.aloadN X0.here hx rfl (hb hby d12_0) rfl rfl k) ?_
  show OGS _ _ p e _ s below _ s₁ (mkF m 1 #[.val (.ref a1), .val (.ref a2), .val (.int (0 : Int32)), .val (.int (0 : Int32)), .val .null, .unset] [(.ref a1)])
  obtain ⟨T1, X1, e1, st1⟩ := initO X0 hx hZ hown (hw _ (List.mem_of_getElem? (i := 19) rfl)) (hw _ (List.mem_of_getElem? (i := 20) rfl)) (hw _ (List.mem_of_getElem? (i := 21) rfl)) e0 (g := (mkF m 1 #[.val (.ref a1), .val (.ref a2), .val (.int (0 : Int32)), .val (.int (0 : Int32)), .val .null, .unset] [(.ref a1)])) rfl (by rw [hml]; rfl) rfl (hb hby d12_1) (by decide) (W := 0) (by show 2 * 0 + _ ≤ _; exact Nat.le_of_eq rfl) (by decide)
  refine own_stS st1 ?_
  show OGS _ _ p e _ s below _ T1 (mkF m 4 #[.val (.ref a1), .val (.ref a2), .val (.int (0 : Int32)), .val (.int (0 : Int32)), .val .null, .unset] [])
  refine own_stS (fun t k => XS.iloadN X1.here hx rfl (hb hby d12_4) rfl k) ?_
  show OGS _ _ p e _ s below _ T1 (mkF m 5 #[.val (.ref a1), .val (.ref a2), .val (.int (0 : Int32)), .val (.int (0 : Int32)), .val .null, .unset] [(.int (0 : Int32))])
  refine own_stS (fun t k => XS.ifNo X1.here hx rfl (hb hby d12_5) rfl (by decide) k) ?_
  show OGS _ _ p e _ s below _ T1 (mkF m 8 #[.val (.ref a1), .val (.ref a2), .val (.int (0 : Int32)), .val (.int (0 : Int32)), .val .null, .unset] [])
  refine own_stS (fun t k => XS.aloadN X1.here hx rfl (hb hby d12_8) rfl rfl k) ?_
  show OGS _ _ p e _ s below _ T1 (mkF m 9 #[.val (.ref a1), .val (.ref a2), .val (.int (0 : Int32)), .val (.int (0 : Int32)), .val .null, .unset] [(.ref a1)])
  obtain ⟨o2, T2, h2, k2, b2, kc2, X2, e2, E2, hS2, hk2, hZ2, hown2, A2, FC2, FV2, Av2, -, -, Cq2, -, nsf2, st2⟩ := ldcCH (EL := EL0) (n := 0) (z := (0 : Int32)) (vs := []) X1 hx hZ hown (hw _ (List.mem_of_getElem? (i := 86) rfl)) (own_wS hw) e1 hS0 hk0 hEL (by decide) CH0 (by decide) (by decide) (by decide) (g := (mkF m 9 #[.val (.ref a1), .val (.ref a2), .val (.int (0 : Int32)), .val (.int (0 : Int32)), .val .null, .unset] [(.ref a1)])) rfl (hb hby d12_9) (by decide) (by decide) (by decide) (by decide)
  refine own_stS st2 ?_
  have nq2_a1 := nsf2 a1 (CHr.safe Cq2 R0.lt sf_a1)
  have sf2_a1 : Safe Z EL0 T2.vm h2 a1 := CHr.safe Cq2 R0.lt sf_a1
  have CR2 := CHr.trans CR0 Cq2
  have F3 : Exa Z h2 a1 "java/lang/String" := (R0.ext E2)
  have F4 : Fld Z h2 a1 "java/lang/String" "value" "[B" .null := (R1.ext E2)
  have F5 : Fld Z h2 a1 "java/lang/String" "coder" "B" (.int (0 : Int32)) := (R2.ext E2)
  have F6 : OA Z h2 a2 .char [] := (R3.ext E2)
  have K7 : Keep h0 h2 [a1] := (Keep.refl h0 [a1]).ext E2
  have F8 : OA Z h2 b2 .byte [] := own_oaV Av2
  show OGS _ _ p e _ s below _ T2 (mkF m 11 #[.val (.ref a1), .val (.ref a2), .val (.int (0 : Int32)), .val (.int (0 : Int32)), .val .null, .unset] [(.ref o2), (.ref a1)])
  obtain ⟨T9, X9, e9, st9⟩ := getF X2 hx hZ2 hown2 (host := "") (Or.inl (hw _ (List.mem_of_getElem? (i := 22) rfl))) Via.refl e2 FV2 (g := (mkF m 11 #[.val (.ref a1), .val (.ref a2), .val (.int (0 : Int32)), .val (.int (0 : Int32)), .val .null, .unset] [(.ref o2), (.ref a1)])) rfl rfl (hb hby d12_11)
  refine own_stS st9 ?_
  show OGS _ _ p e _ s below _ T9 (mkF m 14 #[.val (.ref a1), .val (.ref a2), .val (.int (0 : Int32)), .val (.int (0 : Int32)), .val .null, .unset] [(.ref b2), (.ref a1)])
  obtain ⟨T10, h10, X10, e10, W10, st10⟩ := putF X9 hx hZ2 hown2 (host := "") (Or.inl (hw _ (List.mem_of_getElem? (i := 22) rfl))) Via.refl e9 F4 F3 (Or.inr ⟨(hw _ (List.mem_of_getElem? (i := 23) rfl)), rfl, hnm⟩) (hw _ (List.mem_of_getElem? (i := 10) rfl)) (ty := (.array .byte)) (by decide) rfl rfl (g := (mkF m 14 #[.val (.ref a1), .val (.ref a2), .val (.int (0 : Int32)), .val (.int (0 : Int32)), .val .null, .unset] [(.ref b2), (.ref a1)])) rfl rfl (hb hby d12_14)
  refine own_stS st10 ?_
  have N10 := Fr.snoc X10 N0 g_a1
  have K11 : Keep h0 h10 [a1] := K7.wr W10 (Or.inl (List.mem_of_getElem? (i := 0) rfl))
  have F12 : Exa Z h10 a1 "java/lang/String" := (F3.wr W10)
  have F13 : Fld Z h10 a1 "java/lang/String" "value" "[B" (.ref b2) := (F4.same W10)
  have F14 : Fld Z h10 a1 "java/lang/String" "coder" "B" (.int (0 : Int32)) := (F5.other W10 (Or.inr (slot_ne (Or.inr (hw _ (List.mem_of_getElem? (i := 25) rfl))) (Or.inr (hw _ (List.mem_of_getElem? (i := 23) rfl))) (by decide) (t := .byte) (t' := (.array .byte)) (by decide) (by decide))))
  have F15 : OA Z h10 a2 .char [] := (F6.other W10 ne_a2_a1)
  have F16 : Exa Z h10 o2 "java/lang/String" := (A2.wr W10)
  have F17 : Fld Z h10 o2 "java/lang/String" "coder" "B" (.int (0 : Int32)) := (FC2.other W10 (Or.inl (Ne.symm nq2_a1.1)))
  have F18 : Fld Z h10 o2 "java/lang/String" "value" "[B" (.ref b2) := (FV2.other W10 (Or.inl (Ne.symm nq2_a1.1)))
  have F19 : OA Z h10 b2 .byte [] := (F8.other W10 (Ne.symm nq2_a1.2))
  show OGS _ _ p e _ s below _ T10 (mkF m 17 #[.val (.ref a1), .val (.ref a2), .val (.int (0 : Int32)), .val (.int (0 : Int32)), .val .null, .unset] [])
  have sf20_a1 : Safe Z EL0 T2.vm h10 a1 := Safe.wr W10 sf2_a1 Cq2.1 sf2_a1
  have CR20 : CHr Z EL0 s.vm h0 T2.vm h10 := CHr.trans CR2 (CHr.wr W10 sf2_a1 Cq2.1)
  have CH20 : CHv Z EL0 T2.vm h10 := CHv.wr W10 sf2_a1 Cq2.1
  have hk20 := Nat.le_trans hk2 (Keep.of_wr W10).1
  refine own_stS (fun t k => XS.aloadN X10.here hx rfl (hb hby d12_17) rfl rfl k) ?_
  show OGS _ _ p e _ s below _ T10 (mkF m 18 #[.val (.ref a1), .val (.ref a2), .val (.int (0 : Int32)), .val (.int (0 : Int32)), .val .null, .unset] [(.ref a1)])
  obtain ⟨o21, T21, h21, k21, b21, kc21, X21, e21, E21, hS21, hk21, hZ21, hown21, A21, FC21, FV21, Av21, -, -, Cq21, -, nsf21, st21⟩ := ldcCH (EL := EL0) (n := 0) (z := (0 : Int32)) (vs := []) X10 hx hZ2 hown2 (hw _ (List.mem_of_getElem? (i := 86) rfl)) (own_wS hw) e10 hS2 hk20 hEL (by decide) CH20 (by decide) (by decide) (by decide) (g := (mkF m 18 #[.val (.ref a1), .val (.ref a2), .val (.int (0 : Int32)), .val (.int (0 : Int32)), .val .null, .unset] [(.ref a1)])) rfl (hb hby d12_18) (by decide) (by decide) (by decide) (by decide)
  refine own_stS st21 ?_
  have nq21_a1 := nsf21 a1 (CHr.safe Cq21 F12.lt sf20_a1)
  have sf21_a1 : Safe Z EL0 T21.vm h21 a1 := CHr.safe Cq21 F12.lt sf20_a1
  have CR21 := CHr.trans CR20 Cq21
  have F22 : Exa Z h21 a1 "java/lang/String" := (F12.ext E21)
  have F23 : Fld Z h21 a1 "java/lang/String" "value" "[B" (.ref b2) := (F13.ext E21)
  have F24 : Fld Z h21 a1 "java/lang/String" "coder" "B" (.int (0 : Int32)) := (F14.ext E21)
  have F25 : OA Z h21 a2 .char [] := (F15.ext E21)
  have F26 : Exa Z h21 o2 "java/lang/String" := (F16.ext E21)
  have F27 : Fld Z h21 o2 "java/lang/String" "coder" "B" (.int (0 : Int32)) := (F17.ext E21)
  have F28 : Fld Z h21 o2 "java/lang/String" "value" "[B" (.ref b2) := (F18.ext E21)
  have F29 : OA Z h21 b2 .byte [] := (F19.ext E21)
  have K30 : Keep h0 h21 [a1] := K11.ext E21
  have F31 : OA Z h21 b21 .byte [] := own_oaV Av21
  show OGS _ _ p e _ s below _ T21 (mkF m 20 #[.val (.ref a1), .val (.ref a2), .val (.int (0 : Int32)), .val (.int (0 : Int32)), .val .null, .unset] [(.ref o21), (.ref a1)])
  obtain ⟨T32, X32, e32, st32⟩ := getF X21 hx hZ21 hown21 (host := "") (Or.inl (hw _ (List.mem_of_getElem? (i := 24) rfl))) Via.refl e21 FC21 (g := (mkF m 20 #[.val (.ref a1), .val (.ref a2), .val (.int (0 : Int32)), .val (.int (0 : Int32)), .val .null, .unset] [(.ref o21), (.ref a1)])) rfl rfl (hb hby d12_20)
  refine own_stS st32 ?_
  show OGS _ _ p e _ s below _ T32 (mkF m 23 #[.val (.ref a1), .val (.ref a2), .val (.int (0 : Int32)), .val (.int (0 : Int32)), .val .null, .unset] [(.int (0 : Int32)), (.ref a1)])
  obtain ⟨T33, h33, X33, e33, W33, st33⟩ := putF X32 hx hZ21 hown21 (host := "") (Or.inl (hw _ (List.mem_of_getElem? (i := 24) rfl))) Via.refl e32 F24 F22 (Or.inr ⟨(hw _ (List.mem_of_getElem? (i := 25) rfl)), rfl, hnm⟩) (hw _ (List.mem_of_getElem? (i := 10) rfl)) (ty := .byte) (by decide) rfl rfl (g := (mkF m 23 #[.val (.ref a1), .val (.ref a2), .val (.int (0 : Int32)), .val (.int (0 : Int32)), .val .null, .unset] [(.int (0 : Int32)), (.ref a1)])) rfl rfl (hb hby d12_23)
  refine own_stS st33 ?_
  have N33 := Fr.snoc X33 N10 g_a1
  have K34 : Keep h0 h33 [a1] := K30.wr W33 (Or.inl (List.mem_of_getElem? (i := 0) rfl))
  have F35 : Exa Z h33 a1 "java/lang/String" := (F22.wr W33)
  have F36 : Fld Z h33 a1 "java/lang/String" "value" "[B" (.ref b2) := (F23.other W33 (Or.inr (slot_ne (Or.inr (hw _ (List.mem_of_getElem? (i := 23) rfl))) (Or.inr (hw _ (List.mem_of_getElem? (i := 25) rfl))) (by decide) (t := (.array .byte)) (t' := .byte) (by decide) (by decide))))
  have F37 : Fld Z h33 a1 "java/lang/String" "coder" "B" (.int (0 : Int32)) := (F24.same W33)
  have F38 : OA Z h33 a2 .char [] := (F25.other W33 ne_a2_a1)
  have F39 : Exa Z h33 o2 "java/lang/String" := (F26.wr W33)
  have F40 : Fld Z h33 o2 "java/lang/String" "coder" "B" (.int (0 : Int32)) := (F27.other W33 (Or.inl (Ne.symm nq2_a1.1)))
  have F41 : Fld Z h33 o2 "java/lang/String" "value" "[B" (.ref b2) := (F28.other W33 (Or.inl (Ne.symm nq2_a1.1)))
  have F42 : OA Z h33 b2 .byte [] := (F29.other W33 (Ne.symm nq2_a1.2))
  have F43 : Exa Z h33 o21 "java/lang/String" := (A21.wr W33)
  have F44 : Fld Z h33 o21 "java/lang/String" "coder" "B" (.int (0 : Int32)) := (FC21.other W33 (Or.inl (Ne.symm nq21_a1.1)))
  have F45 : Fld Z h33 o21 "java/lang/String" "value" "[B" (.ref b21) := (FV21.other W33 (Or.inl (Ne.symm nq21_a1.1)))
  have F46 : OA Z h33 b21 .byte [] := (F31.other W33 (Ne.symm nq21_a1.2))
  show OGS _ _ p e _ s below _ T33 (mkF m 26 #[.val (.ref a1), .val (.ref a2), .val (.int (0 : Int32)), .val (.int (0 : Int32)), .val .null, .unset] [])
  have sf47_a1 : Safe Z EL0 T21.vm h33 a1 := Safe.wr W33 sf21_a1 Cq21.1 sf21_a1
  have CR47 : CHr Z EL0 s.vm h0 T21.vm h33 := CHr.trans CR21 (CHr.wr W33 sf21_a1 Cq21.1)
  have CH47 : CHv Z EL0 T21.vm h33 := CHv.wr W33 sf21_a1 Cq21.1
  have hk47 := Nat.le_trans hk21 (Keep.of_wr W33).1
  refine own_endS X33 hlk hZ21 hEL e33 hs0 hS21 hk47 CH47 CR47 (v := none) (fun _ => rfl) (by decide) (by decide) ?_ (fun fs hr => X33.returnOut hx hret (hb hby d12_26) hr)
  exact ⟨rfl, N33, K34, b2, F35, F36, F37, F42⟩
abbrev Q11_0 (Z : State) (a1 : Addr) (a2 : Addr) (h0 : Heap) (n0 : Nat) : Option Value → Heap → List Loc → Prop := (fun v h L => v = none ∧ Fr n0 L ∧ Keep h0 h [a1] ∧ ∃ b : Addr, Exa Z h a1 "java/lang/String" ∧ Fld Z h a1 "java/lang/String" "value" "[B" (.ref b) ∧ Fld Z h a1 "java/lang/String" "coder" "B" (.int (0 : Int32)) ∧ OA Z h b .byte [])
set_option maxRecDepth 65536 in
set_option maxHeartbeats 40000000 in
theorem rm11_0 (l : Launch) (Z : State) (a0 : Array Value) (hw : ∀ d ∈ tables_1, d.before a0 Z = true) (ws : List Jvm.Cond) (a1 : Addr) (a2 : Addr) (h0 : Heap) (n0 : Nat) (R0 : Exa Z h0 a1 "java/lang/String") (R1 : Fld Z h0 a1 "java/lang/String" "value" "[B" .null) (R2 : Fld Z h0 a1 "java/lang/String" "coder" "B" (.int (0 : Int32))) (R3 : OA Z h0 a2 .char []) (g_a1 : n0 ≤ a1) (ne_a2_a1 : a2 ≠ a1) :
    OMetS l Z EL0 (⟨"java/lang/String", "<init>", "([C)V"⟩ : MethodName) jdk_42_method_3_code 2 none ws ({ frames := 2, cells := 4, slots := 8, locals := 29 } : Room) #[(.ref a1), (.ref a2)] h0 (Q11_0 Z a1 a2 h0 n0) := by
  refine own_enterS pn_11 ?_
  intro p e s m below meth c s₁ hx hby hml0 hown hret hlk hnm hZ X0 e0 hs0 CH0
  have hEL := own_EW hw
  have hS0 : s.Since s.vm 0 := (State.WarmedH.refl s).since 0
  have hk0 : 0 ≤ h0.size := Nat.zero_le _
  have CR0 : CHr Z EL0 s.vm h0 s.vm h0 := CHr.refl CH0
  have sf_a1 : Safe Z EL0 s.vm h0 a1 := own_raw hZ.alike R0 R1
  have hml : c.maxLocals = 2 := hml0
  have N0 := Fr.nil n0
  refine own_castS (ef_11 m a1 a2) ?_
  show OGS Z EL0 p e ({ frames := 2, cells := 4, slots := 8, locals := 29 } : Room) s below (fun v h L => v = none ∧ Fr n0 L ∧ Keep h0 h [a1] ∧ ∃ b : Addr, Exa Z h a1 "java/lang/String" ∧ Fld Z h a1 "java/lang/String" "value" "[B" (.ref b) ∧ Fld Z h a1 "java/lang/String" "coder" "B" (.int (0 : Int32)) ∧ OA Z h b .byte []) s₁ (mkF m 0 #[.val (.ref a1), .val (.ref a2)] [])
  refine own_stS (fun t k => XS.aloadN X0.here hx rfl (hb hby d11_0) rfl rfl k) ?_
  show OGS _ _ p e _ s below _ s₁ (mkF m 1 #[.val (.ref a1), .val (.ref a2)] [(.ref a1)])
  refine own_stS (fun t k => XS.aloadN X0.here hx rfl (hb hby d11_1) rfl rfl k) ?_
  show OGS _ _ p e _ s below _ s₁ (mkF m 2 #[.val (.ref a1), .val (.ref a2)] [(.ref a2), (.ref a1)])
  refine own_stS (fun t k => XS.iconst X0.here hx rfl (hb hby d11_2) k) ?_
  show OGS _ _ p e _ s below _ s₁ (mkF m 3 #[.val (.ref a1), .val (.ref a2)] [(.int (0 : Int32)), (.ref a2), (.ref a1)])
  refine own_stS (fun t k => XS.aloadN X0.here hx rfl (hb hby d11_3) rfl rfl k) ?_
  show OGS _ _ p e _ s below _ s₁ (mkF m 4 #[.val (.ref a1), .val (.ref a2)] [(.ref a2), (.int (0 : Int32)), (.ref a2), (.ref a1)])
  obtain ⟨cl1, Ar1, hz1⟩ := R3.len
  refine own_stS (fun t k => X0.arraylength hx (by rw [e0]; exact Ar1.1) (State.isArrayOf_alike hZ.alike Ar1.2.1) (g := (mkF m 4 #[.val (.ref a1), .val (.ref a2)] [(.ref a2), (.int (0 : Int32)), (.ref a2), (.ref a1)])) rfl rfl (hb hby d11_4) t k) ?_
  rw [hz1]
  show OGS _ _ p e _ s below _ s₁ (mkF m 5 #[.val (.ref a1), .val (.ref a2)] [(.int (0 : Int32)), (.int (0 : Int32)), (.ref a2), (.ref a1)])
  refine own_stS (fun t k => XS.aconstNull X0.here hx rfl (hb hby d11_5) k) ?_
  show OGS _ _ p e _ s below _ s₁ (mkF m 6 #[.val (.ref a1), .val (.ref a2)] [.null, (.int (0 : Int32)), (.int (0 : Int32)), (.ref a2), (.ref a1)])
  obtain ⟨_, _, ⟨T2, L2, k2, n2⟩, -, X2q, hS2q, hg2q, ⟨Lc2, hQ2, l2, y2, z2, Cq2⟩, st2⟩ := X0.specialBackS hx (y := (⟨"java/lang/String", "<init>", "([CIILjava/lang/Void;)V"⟩ : MethodName)) rfl hown (mvT hZ (hw _ (List.mem_of_getElem? (i := 73) rfl))) (mvT hZ (hw _ (List.mem_of_getElem? (i := 74) rfl))) (mvT hZ (hw _ (List.mem_of_getElem? (i := 75) rfl))) (by decide) (backOfSH (EL := EL0) (W := 0) (rm := ({ frames := 1, cells := 4, slots := 8, locals := 12 } : Room)) (rm12_0 l Z a0 hw [] a1 a2 h0 n0 R0 R1 R2 R3 g_a1 ne_a2_a1) hZ (hw _ (List.mem_of_getElem? (i := 75) rfl)) (hw _ (List.mem_of_getElem? (i := 2) rfl)) (by decide) (by decide) hEL CH0) (g := (mkF m 6 #[.val (.ref a1), .val (.ref a2)] [.null, (.int (0 : Int32)), (.int (0 : Int32)), (.ref a2), (.ref a1)])) rfl (by rw [hml]; rfl) (Steps.refl _) (a := a1) (argsL := [(.ref a2), (.int (0 : Int32)), (.int (0 : Int32)), .null]) (rest := []) (lenOf pd___CIILjava_lang_Void__V rfl) rfl (by show 2 * 0 + _ ≤ _; exact Nat.le_of_eq rfl) (hb hby d11_6) (fun _ _ => ⟨rfl, e0, (by decide : 0 + 4 ≤ _), (by decide : 0 + 8 ≤ _)⟩)
  dsimp only [Pt.U, Pt.locs, Pt.cells, Pt.slots] at X2q hS2q hg2q l2 y2 z2 st2 hQ2 Cq2
  subst l2 y2 z2
  obtain ⟨X2, hS2, hZ2, hown2⟩ := rebS hS0 (by rw [e0]; exact hk0) X2q hS2q hg2q hZ hown
  have sf2_a1 : Safe Z EL0 T2.vm T2.heap a1 := CHr.safe Cq2 R0.lt sf_a1
  have CR2 := CHr.trans CR0 Cq2
  have hk2 : T2.heap.size ≤ T2.heap.size := Nat.le_refl _
  obtain ⟨rfl, N2q, K2q, b_2, P2_0, P2_1, P2_2, P2_3⟩ := hQ2
  refine own_stS (fun t k => st2.trans k) ?_
  have N2 := Fr.app N0 N2q
  have K2 : Keep h0 T2.heap [a1] := (Keep.refl h0 [a1]).trans K2q (own_all1 (Or.inl (List.mem_of_getElem? (i := 0) rfl)))
  have F3 : OA Z T2.heap a2 .char [] := (R3.keep K2q (own_nin1 ne_a2_a1))
  show OGS _ _ p e _ s below _ T2 (mkF m 9 #[.val (.ref a1), .val (.ref a2)] [])
  refine own_endS X2 hlk hZ2 hEL rfl hs0 hS2 hk2 Cq2.1 CR2 (v := none) (fun _ => rfl) (by decide) (by decide) ?_ (fun fs hr => X2.returnOut hx hret (hb hby d11_9) hr)
  exact ⟨rfl, N2, K2, b_2, P2_0, P2_1, P2_2, P2_3⟩
theorem d2_0 : decode jdk_43_method_3_code 0 = .ok (.iload_n 0, 1) := by decide +kernel
theorem d2_1 : decode jdk_43_method_3_code 1 = .ok (.sipush 255, 3) := by decide +kernel
theorem d2_4 : decode jdk_43_method_3_code 4 = .ok (.if_icmp .gt 7, 3) := by decide +kernel
theorem d2_7 : decode jdk_43_method_3_code 7 = .ok (.iconst 1, 1) := by decide +kernel
theorem d2_8 : decode jdk_43_method_3_code 8 = .ok (.goto 4, 3) := by decide +kernel
theorem d2_11 : decode jdk_43_method_3_code 11 = .ok (.iconst 0, 1) := by decide +kernel
theorem d2_12 : decode jdk_43_method_3_code 12 = .ok (.ireturn, 1) := by decide +kernel
theorem pn_2 : plainFor (⟨"java/lang/StringLatin1", "canEncode", "(C)Z"⟩ : MethodName) = true := by first | exact plainFor_of_name (by first | (simp [plainName, overriddenIn]; done) | decide +kernel) | decide +kernel
def f2 (p1 : Int32) : Int32 := (if (255 : Int32) < p1 then (0 : Int32) else (1 : Int32))
theorem ef_2 (m : MethodId) (p1 : Int32) : entryFrame m #[(.int p1)] 1 = (mkF m 0 #[.val (.int p1)] []) := by first | (simp [entryFrame, mkF, argsToLocals, Value.category]; done) | rfl
abbrev Q2 (Z : State) (p1 : Int32) (h0 : Heap)  : Option Value → Heap → List Loc → Prop := (fun v h L => v = some (.int (f2 p1)) ∧ L = [] ∧ h = h0)
set_option maxRecDepth 65536 in
set_option maxHeartbeats 40000000 in
theorem rm2 (l : Launch) (Z : State) (a0 : Array Value) (hw : ∀ d ∈ tables_1, d.before a0 Z = true) (ws : List Jvm.Cond) (p1 : Int32) (h0 : Heap)  :
    OMet l Z (⟨"java/lang/StringLatin1", "canEncode", "(C)Z"⟩ : MethodName) jdk_43_method_3_code 1 (some .boolean) ws ({ frames := 0, cells := 0, slots := 0, locals := 0 } : Room) #[(.int p1)] h0 (Q2 Z p1 h0) := by
  refine own_enter pn_2 ?_
  intro p e s m below meth c s₁ hx hby hml0 hown hret hlk hnm hZ X0 e0
  have hml : c.maxLocals = 1 := hml0
  refine own_cast (ef_2 m p1) ?_
  show OG p e ({ frames := 0, cells := 0, slots := 0, locals := 0 } : Room) s below (fun v h L => v = some (.int (f2 p1)) ∧ L = [] ∧ h = h0) s₁ (mkF m 0 #[.val (.int p1)] [])
  refine own_st (fun t k => XS.iloadN X0.here hx rfl (hb hby d2_0) rfl k) ?_
  show OG p e _ s below _ s₁ (mkF m 1 #[.val (.int p1)] [(.int p1)])
  refine own_st (fun t k => XS.sipush X0.here hx rfl (hb hby d2_1) k) ?_
  show OG p e _ s below _ s₁ (mkF m 4 #[.val (.int p1)] [(.int (255 : Int32)), (.int p1)])
  by_cases c1 : (255 : Int32) < p1
  · refine own_st (fun t k => XS.icmpYes X0.here hx rfl (pc0 := 4) (pc' := 11) rfl (hb hby d2_4) rfl (tlt c1).2.2.1 (by decide) (by decide) k) ?_
    show OG p e _ s below _ s₁ (mkF m 11 #[.val (.int p1)] [])
    refine own_st (fun t k => XS.iconst X0.here hx rfl (hb hby d2_11) k) ?_
    show OG p e _ s below _ s₁ (mkF m 12 #[.val (.int p1)] [(.int (0 : Int32))])
    exact own_retZ X0 hx (t := .boolean) hret (by simp) hlk (hb hby d2_12) (by decide) (by decide) (w := (0 : Int32)) rfl ⟨congrArg (fun z => some (Value.int z)) (show f2 p1 = (0 : Int32) from (by rw [f2, if_pos c1])).symm, rfl, e0⟩
  · refine own_st (fun t k => XS.icmpNo X0.here hx rfl (hb hby d2_4) rfl (flt c1).2.2.1 k) ?_
    show OG p e _ s below _ s₁ (mkF m 7 #[.val (.int p1)] [])
    refine own_st (fun t k => XS.iconst X0.here hx rfl (hb hby d2_7) k) ?_
    show OG p e _ s below _ s₁ (mkF m 8 #[.val (.int p1)] [(.int (1 : Int32))])
    refine own_st (fun t k => XS.goto X0.here hx rfl (pc0 := 8) (pc' := 12) rfl (hb hby d2_8) (by decide) (by decide) k) ?_
    show OG p e _ s below _ s₁ (mkF m 12 #[.val (.int p1)] [(.int (1 : Int32))])
    exact own_retZ X0 hx (t := .boolean) hret (by simp) hlk (hb hby d2_12) (by decide) (by decide) (w := (1 : Int32)) rfl ⟨congrArg (fun z => some (Value.int z)) (show f2 p1 = (1 : Int32) from (by rw [f2, if_neg c1])).symm, rfl, e0⟩
theorem d3_0 : decode jdk_43_method_46_code 0 = .ok (.iconst 1, 1) := by decide +kernel
theorem d3_1 : decode jdk_43_method_46_code 1 = .ok (.newarray .byte, 2) := by decide +kernel
theorem d3_3 : decode jdk_43_method_46_code 3 = .ok (.dup, 1) := by decide +kernel
theorem d3_4 : decode jdk_43_method_46_code 4 = .ok (.iconst 0, 1) := by decide +kernel
theorem d3_5 : decode jdk_43_method_46_code 5 = .ok (.iload_n 0, 1) := by decide +kernel
theorem d3_6 : decode jdk_43_method_46_code 6 = .ok (.i2b, 1) := by decide +kernel
theorem d3_7 : decode jdk_43_method_46_code 7 = .ok (.bastore, 1) := by decide +kernel
theorem d3_8 : decode jdk_43_method_46_code 8 = .ok (.areturn, 1) := by decide +kernel
theorem pn_3 : plainFor (⟨"java/lang/StringLatin1", "toBytes", "(C)[B"⟩ : MethodName) = true := by first | exact plainFor_of_name (by first | (simp [plainName, overriddenIn]; done) | decide +kernel) | decide +kernel
theorem ef_3 (m : MethodId) (p1 : Int32) : entryFrame m #[(.int p1)] 1 = (mkF m 0 #[.val (.int p1)] []) := by first | (simp [entryFrame, mkF, argsToLocals, Value.category]; done) | rfl
abbrev Q3 (Z : State) (p1 : Int32) (h0 : Heap) (n0 : Nat) : Option Value → Heap → List Loc → Prop := (fun v h L => Fr n0 L ∧ Keep h0 h [] ∧ ∃ b : Addr, h0.size ≤ b ∧ v = some (.ref b) ∧ OA Z h b .byte [(.int (nar .byte (p1.toInt8.toInt32)))])
set_option maxRecDepth 65536 in
set_option maxHeartbeats 40000000 in
theorem rm3 (l : Launch) (Z : State) (a0 : Array Value) (hw : ∀ d ∈ tables_1, d.before a0 Z = true) (ws : List Jvm.Cond) (p1 : Int32) (h0 : Heap) (n0 : Nat) (Z0 : n0 ≤ h0.size) :
    OMet l Z (⟨"java/lang/StringLatin1", "toBytes", "(C)[B"⟩ : MethodName) jdk_43_method_46_code 1 (some (.array .byte)) ws ({ frames := 0, cells := 1, slots := 1, locals := 0 } : Room) #[(.int p1)] h0 (Q3 Z p1 h0 n0) := by
  refine own_enter pn_3 ?_
  intro p e s m below meth c s₁ hx hby hml0 hown hret hlk hnm hZ X0 e0
  have hml : c.maxLocals = 1 := hml0
  have N0 := Fr.nil n0
  refine own_cast (ef_3 m p1) ?_
  show OG p e ({ frames := 0, cells := 1, slots := 1, locals := 0 } : Room) s below (fun v h L => Fr n0 L ∧ Keep h0 h [] ∧ ∃ b : Addr, h0.size ≤ b ∧ v = some (.ref b) ∧ OA Z h b .byte [(.int (nar .byte (p1.toInt8.toInt32)))]) s₁ (mkF m 0 #[.val (.int p1)] [])
  refine own_st (fun t k => XS.iconst X0.here hx rfl (hb hby d3_0) k) ?_
  show OG p e _ s below _ s₁ (mkF m 1 #[.val (.int p1)] [(.int (1 : Int32))])
  obtain ⟨T1, h1, k1, X1, e1, E1, A1, st1⟩ := newP X0 hx hZ (hw _ (List.mem_of_getElem? (i := 14) rfl)) e0 (g := (mkF m 1 #[.val (.int p1)] [(.int (1 : Int32))])) rfl (hb hby d3_1) rfl (by decide) (cap := 1) (by decide) (by decide) (by decide) (by decide)
  obtain ⟨b1, gb1⟩ : ∃ z, z = h0.size := ⟨_, rfl⟩
  rw [← gb1] at A1 st1
  refine own_st st1 ?_
  have ge_b1 : n0 ≤ b1 := by rw [gb1]; exact Nat.le_trans Z0 (Keep.refl h0 []).1
  have sz_b1 : h0.size ≤ b1 := by rw [gb1]; exact (Keep.refl h0 []).1
  have K2 : Keep h0 h1 [] := (Keep.refl h0 []).ext E1
  have F3 : OA Z h1 b1 .byte [(.int (0 : Int32))] := OA.new A1
  show OG p e _ s below _ T1 (mkF m 3 #[.val (.int p1)] [(.ref b1)])
  refine own_st (fun t k => XS.dup X1.here hx rfl (hb hby d3_3) rfl rfl k) ?_
  show OG p e _ s below _ T1 (mkF m 4 #[.val (.int p1)] [(.ref b1), (.ref b1)])
  refine own_st (fun t k => XS.iconst X1.here hx rfl (hb hby d3_4) k) ?_
  show OG p e _ s below _ T1 (mkF m 5 #[.val (.int p1)] [(.int (0 : Int32)), (.ref b1), (.ref b1)])
  refine own_st (fun t k => XS.iloadN X1.here hx rfl (hb hby d3_5) rfl k) ?_
  show OG p e _ s below _ T1 (mkF m 6 #[.val (.int p1)] [(.int p1), (.int (0 : Int32)), (.ref b1), (.ref b1)])
  refine own_st (fun t k => XS.i2b X1.here hx rfl (hb hby d3_6) rfl k) ?_
  show OG p e _ s below _ T1 (mkF m 7 #[.val (.int p1)] [(.int (p1.toInt8.toInt32)), (.int (0 : Int32)), (.ref b1), (.ref b1)])
  obtain ⟨cl4, Ar4, hi4⟩ := own_wr F3 (j := (0 : Int32)) (i := 0) (by decide) (by decide) (by decide : 0 < 1)
  obtain ⟨T4, h4, X4, e4, W4, st4⟩ := stB X1 hx hZ e1 Ar4 hi4 (g := (mkF m 7 #[.val (.int p1)] [(.int (p1.toInt8.toInt32)), (.int (0 : Int32)), (.ref b1), (.ref b1)])) rfl rfl (hb hby d3_7)
  refine own_st st4 ?_
  have N4 := Fr.snoc X4 N0 ge_b1
  have K5 : Keep h0 h4 [] := K2.wr W4 (Or.inr sz_b1)
  have F6 : OA Z h4 b1 .byte [(.int (nar .byte (p1.toInt8.toInt32)))] := (F3.set W4 (i := 0) (by decide))
  show OG p e _ s below _ T4 (mkF m 8 #[.val (.int p1)] [(.ref b1)])
  refine own_retV X4 hx hret rfl (Or.inr (Or.inr (Or.inr (Or.inr ⟨rfl, rfl, rfl⟩)))) hlk (hb hby d3_8) (by decide) (by decide) ?_
  rw [e4]
  exact ⟨N4, K5, b1, sz_b1, rfl, F6⟩
theorem d4_0 : decode jdk_42_method_151_code 0 = .ok (.aload_n 0, 1) := by decide +kernel
theorem d4_1 : decode jdk_42_method_151_code 1 = .ok (.invokespecial 1, 3) := by decide +kernel
theorem d4_4 : decode jdk_42_method_151_code 4 = .ok (.aload_n 0, 1) := by decide +kernel
theorem d4_5 : decode jdk_42_method_151_code 5 = .ok (.aload_n 1, 1) := by decide +kernel
theorem d4_6 : decode jdk_42_method_151_code 6 = .ok (.putfield 9, 3) := by decide +kernel
theorem d4_9 : decode jdk_42_method_151_code 9 = .ok (.aload_n 0, 1) := by decide +kernel
theorem d4_10 : decode jdk_42_method_151_code 10 = .ok (.iload_n 2, 1) := by decide +kernel
theorem d4_11 : decode jdk_42_method_151_code 11 = .ok (.putfield 15, 3) := by decide +kernel
theorem d4_14 : decode jdk_42_method_151_code 14 = .ok (.return_, 1) := by decide +kernel
theorem pn_4 : plainFor (⟨"java/lang/String", "<init>", "([BB)V"⟩ : MethodName) = true := by first | exact plainFor_of_name (by first | (simp [plainName, overriddenIn]; done) | decide +kernel) | decide +kernel
theorem ef_4 (m : MethodId) (a1 : Addr) (a2 : Addr) : entryFrame m #[(.ref a1), (.ref a2), (.int (0 : Int32))] 3 = (mkF m 0 #[.val (.ref a1), .val (.ref a2), .val (.int (0 : Int32))] []) := by first | (simp [entryFrame, mkF, argsToLocals, Value.category]; done) | rfl
abbrev Q4 (Z : State) (a1 : Addr) (a2 : Addr) (h0 : Heap) (n0 : Nat) : Option Value → Heap → List Loc → Prop := (fun v h L => v = none ∧ Fr n0 L ∧ Keep h0 h [a1] ∧ Exa Z h a1 "java/lang/String")
set_option maxRecDepth 65536 in
set_option maxHeartbeats 40000000 in
theorem rm4 (l : Launch) (Z : State) (a0 : Array Value) (hw : ∀ d ∈ tables_1, d.before a0 Z = true) (ws : List Jvm.Cond) (a1 : Addr) (a2 : Addr) (h0 : Heap) (n0 : Nat) (R0 : Exa Z h0 a1 "java/lang/String") (R1 : Fld Z h0 a1 "java/lang/String" "value" "[B" .null) (R2 : Fld Z h0 a1 "java/lang/String" "coder" "B" (.int (0 : Int32))) (g_a1 : n0 ≤ a1) :
    OMet l Z (⟨"java/lang/String", "<init>", "([BB)V"⟩ : MethodName) jdk_42_method_151_code 3 none ws ({ frames := 1, cells := 0, slots := 0, locals := 12 } : Room) #[(.ref a1), (.ref a2), (.int (0 : Int32))] h0 (Q4 Z a1 a2 h0 n0) := by
  refine own_enter pn_4 ?_
  intro p e s m below meth c s₁ hx hby hml0 hown hret hlk hnm hZ X0 e0
  have hml : c.maxLocals = 3 := hml0
  have N0 := Fr.nil n0
  refine own_cast (ef_4 m a1 a2) ?_
  show OG p e ({ frames := 1, cells := 0, slots := 0, locals := 12 } : Room) s below (fun v h L => v = none ∧ Fr n0 L ∧ Keep h0 h [a1] ∧ Exa Z h a1 "java/lang/String") s₁ (mkF m 0 #[.val (.ref a1), .val (.ref a2), .val (.int (0 : Int32))] [])
  refine own_st (fun t k => XS.aloadN X0.here hx rfl (hb hby d4_0) rfl rfl k) ?_
  show OG p e _ s below _ s₁ (mkF m 1 #[.val (.ref a1), .val (.ref a2), .val (.int (0 : Int32))] [(.ref a1)])
  obtain ⟨T1, X1, e1, st1⟩ := initO X0 hx hZ hown (hw _ (List.mem_of_getElem? (i := 19) rfl)) (hw _ (List.mem_of_getElem? (i := 20) rfl)) (hw _ (List.mem_of_getElem? (i := 21) rfl)) e0 (g := (mkF m 1 #[.val (.ref a1), .val (.ref a2), .val (.int (0 : Int32))] [(.ref a1)])) rfl (by rw [hml]; rfl) rfl (hb hby d4_1) (by decide) (W := 0) (by show 2 * 0 + _ ≤ _; exact Nat.le_of_eq rfl) (by decide)
  refine own_st st1 ?_
  show OG p e _ s below _ T1 (mkF m 4 #[.val (.ref a1), .val (.ref a2), .val (.int (0 : Int32))] [])
  refine own_st (fun t k => XS.aloadN X1.here hx rfl (hb hby d4_4) rfl rfl k) ?_
  show OG p e _ s below _ T1 (mkF m 5 #[.val (.ref a1), .val (.ref a2), .val (.int (0 : Int32))] [(.ref a1)])
  refine own_st (fun t k => XS.aloadN X1.here hx rfl (hb hby d4_5) rfl rfl k) ?_
  show OG p e _ s below _ T1 (mkF m 6 #[.val (.ref a1), .val (.ref a2), .val (.int (0 : Int32))] [(.ref a2), (.ref a1)])
  obtain ⟨T2, h2, X2, e2, W2, st2⟩ := putF X1 hx hZ hown (host := "") (Or.inl (hw _ (List.mem_of_getElem? (i := 22) rfl))) Via.refl e1 R1 R0 (Or.inr ⟨(hw _ (List.mem_of_getElem? (i := 23) rfl)), rfl, hnm⟩) (hw _ (List.mem_of_getElem? (i := 10) rfl)) (ty := (.array .byte)) (by decide) rfl rfl (g := (mkF m 6 #[.val (.ref a1), .val (.ref a2), .val (.int (0 : Int32))] [(.ref a2), (.ref a1)])) rfl rfl (hb hby d4_6)
  refine own_st st2 ?_
  have N2 := Fr.snoc X2 N0 g_a1
  have K3 : Keep h0 h2 [a1] := (Keep.refl h0 [a1]).wr W2 (Or.inl (List.mem_of_getElem? (i := 0) rfl))
  have F4 : Exa Z h2 a1 "java/lang/String" := (R0.wr W2)
  have F5 : Fld Z h2 a1 "java/lang/String" "value" "[B" (.ref a2) := (R1.same W2)
  have F6 : Fld Z h2 a1 "java/lang/String" "coder" "B" (.int (0 : Int32)) := (R2.other W2 (Or.inr (slot_ne (Or.inr (hw _ (List.mem_of_getElem? (i := 25) rfl))) (Or.inr (hw _ (List.mem_of_getElem? (i := 23) rfl))) (by decide) (t := .byte) (t' := (.array .byte)) (by decide) (by decide))))
  show OG p e _ s below _ T2 (mkF m 9 #[.val (.ref a1), .val (.ref a2), .val (.int (0 : Int32))] [])
  refine own_st (fun t k => XS.aloadN X2.here hx rfl (hb hby d4_9) rfl rfl k) ?_
  show OG p e _ s below _ T2 (mkF m 10 #[.val (.ref a1), .val (.ref a2), .val (.int (0 : Int32))] [(.ref a1)])
  refine own_st (fun t k => XS.iloadN X2.here hx rfl (hb hby d4_10) rfl k) ?_
  show OG p e _ s below _ T2 (mkF m 11 #[.val (.ref a1), .val (.ref a2), .val (.int (0 : Int32))] [(.int (0 : Int32)), (.ref a1)])
  obtain ⟨T7, h7, X7, e7, W7, st7⟩ := putF X2 hx hZ hown (host := "") (Or.inl (hw _ (List.mem_of_getElem? (i := 24) rfl))) Via.refl e2 F6 F4 (Or.inr ⟨(hw _ (List.mem_of_getElem? (i := 25) rfl)), rfl, hnm⟩) (hw _ (List.mem_of_getElem? (i := 10) rfl)) (ty := .byte) (by decide) rfl rfl (g := (mkF m 11 #[.val (.ref a1), .val (.ref a2), .val (.int (0 : Int32))] [(.int (0 : Int32)), (.ref a1)])) rfl rfl (hb hby d4_11)
  refine own_st st7 ?_
  have N7 := Fr.snoc X7 N2 g_a1
  have K8 : Keep h0 h7 [a1] := K3.wr W7 (Or.inl (List.mem_of_getElem? (i := 0) rfl))
  have F9 : Exa Z h7 a1 "java/lang/String" := (F4.wr W7)
  have F10 : Fld Z h7 a1 "java/lang/String" "value" "[B" (.ref a2) := (F5.other W7 (Or.inr (slot_ne (Or.inr (hw _ (List.mem_of_getElem? (i := 23) rfl))) (Or.inr (hw _ (List.mem_of_getElem? (i := 25) rfl))) (by decide) (t := (.array .byte)) (t' := .byte) (by decide) (by decide))))
  have F11 : Fld Z h7 a1 "java/lang/String" "coder" "B" (.int (0 : Int32)) := (F6.same W7)
  show OG p e _ s below _ T7 (mkF m 14 #[.val (.ref a1), .val (.ref a2), .val (.int (0 : Int32))] [])
  refine own_ret0 X7 hx hret hlk (hb hby d4_14) (by decide) (by decide) ?_
  rw [e7]
  exact ⟨rfl, N7, K8, F9⟩
theorem d1_0 : decode jdk_42_method_139_code 0 = .ok (.getstatic 38, 3) := by decide +kernel
theorem d1_3 : decode jdk_42_method_139_code 3 = .ok (.ifCond .eq 23, 3) := by decide +kernel
theorem d1_6 : decode jdk_42_method_139_code 6 = .ok (.iload_n 0, 1) := by decide +kernel
theorem d1_7 : decode jdk_42_method_139_code 7 = .ok (.invokestatic 1015, 3) := by decide +kernel
theorem d1_10 : decode jdk_42_method_139_code 10 = .ok (.ifCond .eq 16, 3) := by decide +kernel
theorem d1_13 : decode jdk_42_method_139_code 13 = .ok (.new 10, 3) := by decide +kernel
theorem d1_16 : decode jdk_42_method_139_code 16 = .ok (.dup, 1) := by decide +kernel
theorem d1_17 : decode jdk_42_method_139_code 17 = .ok (.iload_n 0, 1) := by decide +kernel
theorem d1_18 : decode jdk_42_method_139_code 18 = .ok (.invokestatic 1018, 3) := by decide +kernel
theorem d1_21 : decode jdk_42_method_139_code 21 = .ok (.iconst 0, 1) := by decide +kernel
theorem d1_22 : decode jdk_42_method_139_code 22 = .ok (.invokespecial 209, 3) := by decide +kernel
theorem d1_25 : decode jdk_42_method_139_code 25 = .ok (.areturn, 1) := by decide +kernel
theorem pd__C_Z : parseMethodDescriptor "(C)Z" = some ⟨[.char], some .boolean⟩ := by decide +kernel
theorem pd__C__B : parseMethodDescriptor "(C)[B" = some ⟨[.char], some (.array .byte)⟩ := by decide +kernel
theorem pd___BB_V : parseMethodDescriptor "([BB)V" = some ⟨[(.array .byte), .byte], none⟩ := by decide +kernel
theorem pn_1 : plainFor (⟨"java/lang/String", "valueOf", "(C)Ljava/lang/String;"⟩ : MethodName) = true := by first | exact plainFor_of_name (by first | (simp [plainName, overriddenIn]; done) | decide +kernel) | decide +kernel
theorem ef_1 (m : MethodId) (p1 : Int32) : entryFrame m #[(.int p1)] 1 = (mkF m 0 #[.val (.int p1)] []) := by first | (simp [entryFrame, mkF, argsToLocals, Value.category]; done) | rfl
abbrev Q1 (Z : State) (p1 : Int32) (w : Int32) (h0 : Heap) (n0 : Nat) : Option Value → Heap → List Loc → Prop := (fun v h L => Fr n0 L ∧ Keep h0 h [] ∧ ∃ s : Addr, h0.size ≤ s ∧ v = some (.ref s) ∧ Exa Z h s "java/lang/String")
set_option maxRecDepth 65536 in
set_option maxHeartbeats 40000000 in
theorem rm1 (l : Launch) (Z : State) (a0 : Array Value) (hw : ∀ d ∈ tables_1, d.before a0 Z = true) (ws : List Jvm.Cond) (p1 : Int32) (w : Int32) (h0 : Heap) (n0 : Nat) (Z0 : n0 ≤ h0.size) (R0 : Sta Z h0 "java/lang/String" "COMPACT_STRINGS" "Z" (.int w)) (hw0 : ¬ w = (0 : Int32)) (hc : ¬ (255 : Int32) < p1) :
    OMet l Z (⟨"java/lang/String", "valueOf", "(C)Ljava/lang/String;"⟩ : MethodName) jdk_42_method_139_code 1 (some (.object "java/lang/String")) ws ({ frames := 2, cells := 2, slots := 5, locals := 27 } : Room) #[(.int p1)] h0 (Q1 Z p1 w h0 n0) := by
  refine own_enter pn_1 ?_
  intro p e s m below meth c s₁ hx hby hml0 hown hret hlk hnm hZ X0 e0
  have hml : c.maxLocals = 1 := hml0
  have N0 := Fr.nil n0
  refine own_cast (ef_1 m p1) ?_
  show OG p e ({ frames := 2, cells := 2, slots := 5, locals := 27 } : Room) s below (fun v h L => Fr n0 L ∧ Keep h0 h [] ∧ ∃ s : Addr, h0.size ≤ s ∧ v = some (.ref s) ∧ Exa Z h s "java/lang/String") s₁ (mkF m 0 #[.val (.int p1)] [])
  obtain ⟨T1, X1, e1, st1⟩ := getS X0 hx hZ (host := "") hown (hw _ (List.mem_of_getElem? (i := 4) rfl)) Via.refl e0 R0 (g := (mkF m 0 #[.val (.int p1)] [])) rfl (hb hby d1_0)
  refine own_st st1 ?_
  show OG p e _ s below _ T1 (mkF m 3 #[.val (.int p1)] [(.int w)])
  refine own_st (fun t k => XS.ifNo X1.here hx rfl (hb hby d1_3) rfl (own_if0 (feq hw0).1) k) ?_
  show OG p e _ s below _ T1 (mkF m 6 #[.val (.int p1)] [])
  refine own_st (fun t k => XS.iloadN X1.here hx rfl (hb hby d1_6) rfl k) ?_
  show OG p e _ s below _ T1 (mkF m 7 #[.val (.int p1)] [(.int p1)])
  obtain ⟨_, _, ⟨T2, L2, k2, n2⟩, -, X2, ⟨Lc2, hQ2, l2, y2, z2⟩, st2⟩ := Jvm.LawKit.callS X1 hx (y := (⟨"java/lang/StringLatin1", "canEncode", "(C)Z"⟩ : MethodName)) hown (mvT hZ (hw _ (List.mem_of_getElem? (i := 5) rfl))) (mvT hZ (hw _ (List.mem_of_getElem? (i := 6) rfl))) (mvT hZ (hw _ (List.mem_of_getElem? (i := 7) rfl))) (mvT hZ (hw _ (List.mem_of_getElem? (i := 8) rfl))) (by decide) (backOf (W := 0) (rm := ({ frames := 0, cells := 0, slots := 0, locals := 0 } : Room)) (rm2 l Z a0 hw [] p1 h0) hZ (hw _ (List.mem_of_getElem? (i := 8) rfl)) (hw _ (List.mem_of_getElem? (i := 7) rfl)) (by decide) (by decide)) (g := (mkF m 7 #[.val (.int p1)] [(.int p1)])) rfl (by rw [hml]; rfl) (argsL := [(.int p1)]) (rest := []) (lenOf pd__C_Z rfl) rfl (by show 2 * 0 + _ ≤ _; exact Nat.le_of_eq rfl) (hb hby d1_7) (fun _ _ => ⟨rfl, e1, (by decide : 0 + 0 ≤ _), (by decide : 0 + 0 ≤ _)⟩)
  dsimp only [Pt.U, Pt.locs, Pt.cells, Pt.slots] at X2 l2 y2 z2 st2 hQ2
  subst l2 y2 z2
  obtain ⟨rfl, rfl, e2⟩ := hQ2
  refine own_st st2 ?_
  have N2 := Fr.app N0 (Fr.nil n0)
  show OG p e _ s below _ T2 (mkF m 10 #[.val (.int p1)] [(.int (f2 p1))])
  refine own_st (fun t k => XS.ifNo X2.here hx rfl (hb hby d1_10) rfl (own_if0 (feq (by rw [f2, if_neg hc]; decide)).1) k) ?_
  show OG p e _ s below _ T2 (mkF m 13 #[.val (.int p1)] [])
  obtain ⟨T3, h3, X3, e3, E3, A3, D3, -, st3⟩ := newO X2 hx hZ hown (hw _ (List.mem_of_getElem? (i := 9) rfl)) (hw _ (List.mem_of_getElem? (i := 10) rfl)) (hw _ (List.mem_of_getElem? (i := 2) rfl)) e2 (g := (mkF m 13 #[.val (.int p1)] [])) rfl (hb hby d1_13) (by decide) (by decide)
  obtain ⟨o3, gb3⟩ : ∃ z, z = h0.size := ⟨_, rfl⟩
  rw [← gb3] at A3 D3 st3
  refine own_st st3 ?_
  have ge_o3 : n0 ≤ o3 := by rw [gb3]; exact Nat.le_trans Z0 (Keep.refl h0 []).1
  have sz_o3 : h0.size ≤ o3 := by rw [gb3]; exact (Keep.refl h0 []).1
  have F4 : Sta Z h3 "java/lang/String" "COMPACT_STRINGS" "Z" (.int w) := (R0.ext E3)
  have K5 : Keep h0 h3 [] := (Keep.refl h0 []).ext E3
  have F6 : Fld Z h3 o3 "java/lang/String" "value" "[B" .null := D3 (Or.inr (hw _ (List.mem_of_getElem? (i := 23) rfl))) (ty := (.array .byte)) (by decide)
  have F7 : Fld Z h3 o3 "java/lang/String" "coder" "B" (.int (0 : Int32)) := D3 (Or.inr (hw _ (List.mem_of_getElem? (i := 25) rfl))) (ty := .byte) (by decide)
  show OG p e _ s below _ T3 (mkF m 16 #[.val (.int p1)] [(.ref o3)])
  refine own_st (fun t k => XS.dup X3.here hx rfl (hb hby d1_16) rfl rfl k) ?_
  show OG p e _ s below _ T3 (mkF m 17 #[.val (.int p1)] [(.ref o3), (.ref o3)])
  refine own_st (fun t k => XS.iloadN X3.here hx rfl (hb hby d1_17) rfl k) ?_
  show OG p e _ s below _ T3 (mkF m 18 #[.val (.int p1)] [(.int p1), (.ref o3), (.ref o3)])
  obtain ⟨_, _, ⟨T8, L8, k8, n8⟩, -, X8, ⟨Lc8, hQ8, l8, y8, z8⟩, st8⟩ := Jvm.LawKit.callS X3 hx (y := (⟨"java/lang/StringLatin1", "toBytes", "(C)[B"⟩ : MethodName)) hown (mvT hZ (hw _ (List.mem_of_getElem? (i := 11) rfl))) (mvT hZ (hw _ (List.mem_of_getElem? (i := 12) rfl))) (mvT hZ (hw _ (List.mem_of_getElem? (i := 7) rfl))) (mvT hZ (hw _ (List.mem_of_getElem? (i := 13) rfl))) (by decide) (backOf (W := 2) (rm := ({ frames := 0, cells := 1, slots := 1, locals := 0 } : Room)) (rm3 l Z a0 hw [] p1 h3 n0 (Nat.le_trans Z0 K5.1)) hZ (hw _ (List.mem_of_getElem? (i := 13) rfl)) (hw _ (List.mem_of_getElem? (i := 7) rfl)) (by decide) (by decide)) (g := (mkF m 18 #[.val (.int p1)] [(.int p1), (.ref o3), (.ref o3)])) rfl (by rw [hml]; rfl) (argsL := [(.int p1)]) (rest := [(.ref o3), (.ref o3)]) (lenOf pd__C__B rfl) rfl (by show 2 * 0 + _ ≤ _; exact Nat.le_of_eq rfl) (hb hby d1_18) (fun _ _ => ⟨rfl, e3, (by decide : 1 + 1 ≤ _), (by decide : 4 + 1 ≤ _)⟩)
  dsimp only [Pt.U, Pt.locs, Pt.cells, Pt.slots] at X8 l8 y8 z8 st8 hQ8
  subst l8 y8 z8
  obtain ⟨N8q, K8q, b_8, sz_b_8, rfl, P8_0⟩ := hQ8
  refine own_st st8 ?_
  have N8 := Fr.app N2 N8q
  have ge_b_8 : n0 ≤ b_8 := Nat.le_trans (Nat.le_trans Z0 K5.1) sz_b_8
  have sy_b_8 : h0.size ≤ b_8 := Nat.le_trans K5.1 sz_b_8
  have ne_o3_b_8 : o3 ≠ b_8 := Nat.ne_of_lt (Nat.lt_of_lt_of_le A3.lt sz_b_8)
  have K8 : Keep h0 T8.heap [] := K5.trans K8q (own_all0 )
  have F9 : Sta Z T8.heap "java/lang/String" "COMPACT_STRINGS" "Z" (.int w) := (own_staK F4 K8q (own_all0 ))
  have F10 : Exa Z T8.heap o3 "java/lang/String" := (A3.keep K8q)
  have F11 : Fld Z T8.heap o3 "java/lang/String" "value" "[B" .null := (F6.keep K8q (own_nin0 ))
  have F12 : Fld Z T8.heap o3 "java/lang/String" "coder" "B" (.int (0 : Int32)) := (F7.keep K8q (own_nin0 ))
  show OG p e _ s below _ T8 (mkF m 21 #[.val (.int p1)] [(.ref b_8), (.ref o3), (.ref o3)])
  refine own_st (fun t k => XS.iconst X8.here hx rfl (hb hby d1_21) k) ?_
  show OG p e _ s below _ T8 (mkF m 22 #[.val (.int p1)] [(.int (0 : Int32)), (.ref b_8), (.ref o3), (.ref o3)])
  obtain ⟨_, _, ⟨T13, L13, k13, n13⟩, -, X13, ⟨Lc13, hQ13, l13, y13, z13⟩, st13⟩ := X8.specialBack hx (y := (⟨"java/lang/String", "<init>", "([BB)V"⟩ : MethodName)) rfl hown (mvT hZ (hw _ (List.mem_of_getElem? (i := 15) rfl))) (mvT hZ (hw _ (List.mem_of_getElem? (i := 16) rfl))) (mvT hZ (hw _ (List.mem_of_getElem? (i := 18) rfl))) (by decide) (backOf (W := 1) (rm := ({ frames := 1, cells := 0, slots := 0, locals := 12 } : Room)) (rm4 l Z a0 hw [] o3 b_8 T8.heap n0 F10 F11 F12 ge_o3) hZ (hw _ (List.mem_of_getElem? (i := 18) rfl)) (hw _ (List.mem_of_getElem? (i := 2) rfl)) (by decide) (by decide)) (g := (mkF m 22 #[.val (.int p1)] [(.int (0 : Int32)), (.ref b_8), (.ref o3), (.ref o3)])) rfl (by rw [hml]; rfl) (Steps.refl _) (a := o3) (argsL := [(.ref b_8), (.int (0 : Int32))]) (rest := [(.ref o3)]) (lenOf pd___BB_V rfl) rfl (by show 2 * 0 + _ ≤ _; exact Nat.le_of_eq rfl) (hb hby d1_22) (fun _ _ => ⟨rfl, rfl, (by decide : 2 + 0 ≤ _), (by decide : 5 + 0 ≤ _)⟩)
  dsimp only [Pt.U, Pt.locs, Pt.cells, Pt.slots] at X13 l13 y13 z13 st13 hQ13
  subst l13 y13 z13
  obtain ⟨rfl, N13q, K13q, P13_0⟩ := hQ13
  refine own_st (fun t k => st13.trans k) ?_
  have N13 := Fr.app N8 N13q
  have K13 : Keep h0 T13.heap [] := K8.trans K13q (own_all1 (Or.inr sz_o3))
  have F14 : Sta Z T13.heap "java/lang/String" "COMPACT_STRINGS" "Z" (.int w) := (own_staK F9 K13q (own_all1 (own_plE F10)))
  have F15 : OA Z T13.heap b_8 .byte [(.int (nar .byte (p1.toInt8.toInt32)))] := (P8_0.keep K13q (own_nin1 (Ne.symm ne_o3_b_8)))
  show OG p e _ s below _ T13 (mkF m 25 #[.val (.int p1)] [(.ref o3)])
  refine own_retV X13 hx hret rfl (Or.inr (Or.inr (Or.inr (Or.inr ⟨rfl, rfl, rfl⟩)))) hlk (hb hby d1_25) (by decide) (by decide) ?_
  exact ⟨N13, K13, o3, sz_o3, rfl, P13_0⟩
theorem d7_0 : decode jdk_30_method_1_code 0 = .ok (.aload_n 0, 1) := by decide +kernel
theorem d7_1 : decode jdk_30_method_1_code 1 = .ok (.invokespecial 1, 3) := by decide +kernel
theorem d7_4 : decode jdk_30_method_1_code 4 = .ok (.return_, 1) := by decide +kernel
theorem pn_7 : plainFor (⟨"java/lang/Record", "<init>", "()V"⟩ : MethodName) = true := by first | exact plainFor_of_name (by first | (simp [plainName, overriddenIn]; done) | decide +kernel) | decide +kernel
theorem ef_7 (m : MethodId) (a1 : Addr) : entryFrame m #[(.ref a1)] 1 = (mkF m 0 #[.val (.ref a1)] []) := by first | (simp [entryFrame, mkF, argsToLocals, Value.category]; done) | rfl
abbrev Q7 (Z : State) (a1 : Addr) (h0 : Heap) (n0 : Nat) : Option Value → Heap → List Loc → Prop := (fun v h L => v = none ∧ Fr n0 L ∧ Keep h0 h [])
set_option maxRecDepth 65536 in
set_option maxHeartbeats 40000000 in
theorem rm7 (l : Launch) (Z : State) (a0 : Array Value) (hw : ∀ d ∈ tables_1, d.before a0 Z = true) (ws : List Jvm.Cond) (a1 : Addr) (h0 : Heap) (n0 : Nat) :
    OMet l Z (⟨"java/lang/Record", "<init>", "()V"⟩ : MethodName) jdk_30_method_1_code 1 none ws ({ frames := 1, cells := 0, slots := 0, locals := 12 } : Room) #[(.ref a1)] h0 (Q7 Z a1 h0 n0) := by
  refine own_enter pn_7 ?_
  intro p e s m below meth c s₁ hx hby hml0 hown hret hlk hnm hZ X0 e0
  have hml : c.maxLocals = 1 := hml0
  have N0 := Fr.nil n0
  refine own_cast (ef_7 m a1) ?_
  show OG p e ({ frames := 1, cells := 0, slots := 0, locals := 12 } : Room) s below (fun v h L => v = none ∧ Fr n0 L ∧ Keep h0 h []) s₁ (mkF m 0 #[.val (.ref a1)] [])
  refine own_st (fun t k => XS.aloadN X0.here hx rfl (hb hby d7_0) rfl rfl k) ?_
  show OG p e _ s below _ s₁ (mkF m 1 #[.val (.ref a1)] [(.ref a1)])
  obtain ⟨T1, X1, e1, st1⟩ := initO X0 hx hZ hown (hw _ (List.mem_of_getElem? (i := 37) rfl)) (hw _ (List.mem_of_getElem? (i := 20) rfl)) (hw _ (List.mem_of_getElem? (i := 21) rfl)) e0 (g := (mkF m 1 #[.val (.ref a1)] [(.ref a1)])) rfl (by rw [hml]; rfl) rfl (hb hby d7_1) (by decide) (W := 0) (by show 2 * 0 + _ ≤ _; exact Nat.le_of_eq rfl) (by decide)
  refine own_st st1 ?_
  show OG p e _ s below _ T1 (mkF m 4 #[.val (.ref a1)] [])
  refine own_ret0 X1 hx hret hlk (hb hby d7_4) (by decide) (by decide) ?_
  rw [e1]
  exact ⟨rfl, N0, (Keep.refl h0 [])⟩
theorem d8_0 : decode jdk_31_method_11_code 0 = .ok (.aload_n 0, 1) := by decide +kernel
theorem d8_1 : decode jdk_31_method_11_code 1 = .ok (.ifnonnull 12, 3) := by decide +kernel
theorem d8_13 : decode jdk_31_method_11_code 13 = .ok (.aload_n 0, 1) := by decide +kernel
theorem d8_14 : decode jdk_31_method_11_code 14 = .ok (.areturn, 1) := by decide +kernel
theorem pn_8 : plainFor (⟨"java/util/Objects", "requireNonNull", "(Ljava/lang/Object;Ljava/lang/String;)Ljava/lang/Object;"⟩ : MethodName) = true := by first | exact plainFor_of_name (by first | (simp [plainName, overriddenIn]; done) | decide +kernel) | decide +kernel
theorem ef_8 (m : MethodId) (a1 : Addr) (a2 : Addr) : entryFrame m #[(.ref a1), (.ref a2)] 2 = (mkF m 0 #[.val (.ref a1), .val (.ref a2)] []) := by first | (simp [entryFrame, mkF, argsToLocals, Value.category]; done) | rfl
abbrev Q8 (Z : State) (a1 : Addr) (a2 : Addr) (h0 : Heap) (n0 : Nat) : Option Value → Heap → List Loc → Prop := (fun v h L => v = some (.ref a1) ∧ Fr n0 L ∧ Keep h0 h [])
set_option maxRecDepth 65536 in
set_option maxHeartbeats 40000000 in
theorem rm8 (l : Launch) (Z : State) (a0 : Array Value) (hw : ∀ d ∈ tables_1, d.before a0 Z = true) (ws : List Jvm.Cond) (a1 : Addr) (a2 : Addr) (h0 : Heap) (n0 : Nat) :
    OMet l Z (⟨"java/util/Objects", "requireNonNull", "(Ljava/lang/Object;Ljava/lang/String;)Ljava/lang/Object;"⟩ : MethodName) jdk_31_method_11_code 2 (some (.object "java/lang/Object")) ws ({ frames := 0, cells := 0, slots := 0, locals := 0 } : Room) #[(.ref a1), (.ref a2)] h0 (Q8 Z a1 a2 h0 n0) := by
  refine own_enter pn_8 ?_
  intro p e s m below meth c s₁ hx hby hml0 hown hret hlk hnm hZ X0 e0
  have hml : c.maxLocals = 2 := hml0
  have N0 := Fr.nil n0
  refine own_cast (ef_8 m a1 a2) ?_
  show OG p e ({ frames := 0, cells := 0, slots := 0, locals := 0 } : Room) s below (fun v h L => v = some (.ref a1) ∧ Fr n0 L ∧ Keep h0 h []) s₁ (mkF m 0 #[.val (.ref a1), .val (.ref a2)] [])
  refine own_st (fun t k => XS.aloadN X0.here hx rfl (hb hby d8_0) rfl rfl k) ?_
  show OG p e _ s below _ s₁ (mkF m 1 #[.val (.ref a1), .val (.ref a2)] [(.ref a1)])
  refine own_st (fun t k => XS.ifnonnullYes X0.here hx rfl (pc0 := 1) (pc' := 13) rfl (hb hby d8_1) rfl (by decide) (by decide) k) ?_
  show OG p e _ s below _ s₁ (mkF m 13 #[.val (.ref a1), .val (.ref a2)] [])
  refine own_st (fun t k => XS.aloadN X0.here hx rfl (hb hby d8_13) rfl rfl k) ?_
  show OG p e _ s below _ s₁ (mkF m 14 #[.val (.ref a1), .val (.ref a2)] [(.ref a1)])
  refine own_retV X0 hx hret rfl (Or.inr (Or.inr (Or.inr (Or.inr ⟨rfl, rfl, rfl⟩)))) hlk (hb hby d8_14) (by decide) (by decide) ?_
  rw [e0]
  exact ⟨rfl, N0, (Keep.refl h0 [])⟩
theorem d6_0 : decode prog_54_method_1_code 0 = .ok (.aload_n 0, 1) := by decide +kernel
theorem d6_1 : decode prog_54_method_1_code 1 = .ok (.invokespecial 1, 3) := by decide +kernel
theorem d6_4 : decode prog_54_method_1_code 4 = .ok (.aload_n 1, 1) := by decide +kernel
theorem d6_5 : decode prog_54_method_1_code 5 = .ok (.ldc 7, 2) := by decide +kernel
theorem d6_7 : decode prog_54_method_1_code 7 = .ok (.invokestatic 9, 3) := by decide +kernel
theorem d6_10 : decode prog_54_method_1_code 10 = .ok (.pop, 1) := by decide +kernel
theorem d6_11 : decode prog_54_method_1_code 11 = .ok (.aload_n 2, 1) := by decide +kernel
theorem d6_12 : decode prog_54_method_1_code 12 = .ok (.ldc 15, 2) := by decide +kernel
theorem d6_14 : decode prog_54_method_1_code 14 = .ok (.invokestatic 9, 3) := by decide +kernel
theorem d6_17 : decode prog_54_method_1_code 17 = .ok (.pop, 1) := by decide +kernel
theorem d6_18 : decode prog_54_method_1_code 18 = .ok (.aload_n 0, 1) := by decide +kernel
theorem d6_19 : decode prog_54_method_1_code 19 = .ok (.aload_n 1, 1) := by decide +kernel
theorem d6_20 : decode prog_54_method_1_code 20 = .ok (.putfield 17, 3) := by decide +kernel
theorem d6_23 : decode prog_54_method_1_code 23 = .ok (.aload_n 0, 1) := by decide +kernel
theorem d6_24 : decode prog_54_method_1_code 24 = .ok (.aload_n 2, 1) := by decide +kernel
theorem d6_25 : decode prog_54_method_1_code 25 = .ok (.putfield 22, 3) := by decide +kernel
theorem d6_28 : decode prog_54_method_1_code 28 = .ok (.aload_n 0, 1) := by decide +kernel
theorem d6_29 : decode prog_54_method_1_code 29 = .ok (.lload_n 3, 1) := by decide +kernel
theorem d6_30 : decode prog_54_method_1_code 30 = .ok (.putfield 24, 3) := by decide +kernel
theorem d6_33 : decode prog_54_method_1_code 33 = .ok (.aload_n 0, 1) := by decide +kernel
theorem d6_34 : decode prog_54_method_1_code 34 = .ok (.aload 5, 2) := by decide +kernel
theorem d6_36 : decode prog_54_method_1_code 36 = .ok (.putfield 28, 3) := by decide +kernel
theorem d6_39 : decode prog_54_method_1_code 39 = .ok (.aload_n 0, 1) := by decide +kernel
theorem d6_40 : decode prog_54_method_1_code 40 = .ok (.lload 6, 2) := by decide +kernel
theorem d6_42 : decode prog_54_method_1_code 42 = .ok (.putfield 31, 3) := by decide +kernel
theorem d6_45 : decode prog_54_method_1_code 45 = .ok (.return_, 1) := by decide +kernel
theorem pd___V : parseMethodDescriptor "()V" = some ⟨[], none⟩ := by decide +kernel
theorem pd__Ljava_lang_Object_Ljava_lang_String__Ljava_lang_Object_ : parseMethodDescriptor "(Ljava/lang/Object;Ljava/lang/String;)Ljava/lang/Object;" = some ⟨[(.object "java/lang/Object"), (.object "java/lang/String")], some (.object "java/lang/Object")⟩ := by decide +kernel
theorem pn_6 : plainFor (⟨"com/example/partwise/partwise/Part", "<init>", "(Ljava/lang/String;Ljava/lang/String;JLjava/lang/String;J)V"⟩ : MethodName) = true := by first | exact plainFor_of_name (by first | (simp [plainName, overriddenIn]; done) | decide +kernel) | decide +kernel
theorem ef_6 (m : MethodId) (a1 : Addr) (a2 : Addr) (a3 : Addr) (q4 : Int64) (a5 : Addr) (q6 : Int64) : entryFrame m #[(.ref a1), (.ref a2), (.ref a3), (.long q4), (.ref a5), (.long q6)] 8 = (mkF m 0 #[.val (.ref a1), .val (.ref a2), .val (.ref a3), .val (.long q4), .second, .val (.ref a5), .val (.long q6), .second] []) := by first | (simp [entryFrame, mkF, argsToLocals, Value.category]; done) | rfl
abbrev Q6_r (Z : State) (a1 : Addr) (a2 : Addr) (a3 : Addr) (q4 : Int64) (a5 : Addr) (q6 : Int64) (h0 : Heap) (n0 : Nat) : Option Value → Heap → List Loc → Prop := (fun v h L => v = none ∧ Fr n0 L ∧ Keep h0 h [a1] ∧ Exa Z h a1 "com/example/partwise/partwise/Part" ∧ Fld Z h a1 "com/example/partwise/partwise/Part" "table" "Ljava/lang/String;" (.ref a2) ∧ Fld Z h a1 "com/example/partwise/partwise/Part" "id" "Ljava/lang/String;" (.ref a3) ∧ Fld Z h a1 "com/example/partwise/partwise/Part" "rows" "J" (.long q4) ∧ Fld Z h a1 "com/example/partwise/partwise/Part" "inline" "Ljava/lang/String;" (.ref a5) ∧ Fld Z h a1 "com/example/partwise/partwise/Part" "addedBy" "J" (.long q6))
set_option maxRecDepth 65536 in
set_option maxHeartbeats 40000000 in
theorem rm6_r (l : Launch) (Z : State) (a0 : Array Value) (hw : ∀ d ∈ tables_1, d.before a0 Z = true) (ws : List Jvm.Cond) (a1 : Addr) (a2 : Addr) (a3 : Addr) (q4 : Int64) (a5 : Addr) (q6 : Int64) (h0 : Heap) (n0 : Nat) (R0 : Exa Z h0 a1 "com/example/partwise/partwise/Part") (R1 : Fld Z h0 a1 "com/example/partwise/partwise/Part" "table" "Ljava/lang/String;" .null) (R2 : Fld Z h0 a1 "com/example/partwise/partwise/Part" "id" "Ljava/lang/String;" .null) (R3 : Fld Z h0 a1 "com/example/partwise/partwise/Part" "rows" "J" (.long (0 : Int64))) (R4 : Fld Z h0 a1 "com/example/partwise/partwise/Part" "inline" "Ljava/lang/String;" .null) (R5 : Fld Z h0 a1 "com/example/partwise/partwise/Part" "addedBy" "J" (.long (0 : Int64))) (g_a1 : n0 ≤ a1) :
    OMetS l Z EL0 (⟨"com/example/partwise/partwise/Part", "<init>", "(Ljava/lang/String;Ljava/lang/String;JLjava/lang/String;J)V"⟩ : MethodName) prog_54_method_1_code 8 none ws ({ frames := 2, cells := 4, slots := 36, locals := 24 } : Room) #[(.ref a1), (.ref a2), (.ref a3), (.long q4), (.ref a5), (.long q6)] h0 (Q6_r Z a1 a2 a3 q4 a5 q6 h0 n0) := by
  refine own_enterS pn_6 ?_
  intro p e s m below meth c s₁ hx hby hml0 hown hret hlk hnm hZ X0 e0 hs0 CH0
  have hEL := own_EW hw
  have hS0 : s.Since s.vm 0 := (State.WarmedH.refl s).since 0
  have hk0 : 0 ≤ h0.size := Nat.zero_le _
  have CR0 : CHr Z EL0 s.vm h0 s.vm h0 := CHr.refl CH0
  have hml : c.maxLocals = 8 := hml0
  have N0 := Fr.nil n0
  refine own_castS (ef_6 m a1 a2 a3 q4 a5 q6) ?_
  show OGS Z EL0 p e ({ frames := 2, cells := 4, slots := 36, locals := 24 } : Room) s below (fun v h L => v = none ∧ Fr n0 L ∧ Keep h0 h [a1] ∧ Exa Z h a1 "com/example/partwise/partwise/Part" ∧ Fld Z h a1 "com/example/partwise/partwise/Part" "table" "Ljava/lang/String;" (.ref a2) ∧ Fld Z h a1 "com/example/partwise/partwise/Part" "id" "Ljava/lang/String;" (.ref a3) ∧ Fld Z h a1 "com/example/partwise/partwise/Part" "rows" "J" (.long q4) ∧ Fld Z h a1 "com/example/partwise/partwise/Part" "inline" "Ljava/lang/String;" (.ref a5) ∧ Fld Z h a1 "com/example/partwise/partwise/Part" "addedBy" "J" (.long q6)) s₁ (mkF m 0 #[.val (.ref a1), .val (.ref a2), .val (.ref a3), .val (.long q4), .second, .val (.ref a5), .val (.long q6), .second] [])
  refine own_stS (fun t k => XS.aloadN X0.here hx rfl (hb hby d6_0) rfl rfl k) ?_
  show OGS _ _ p e _ s below _ s₁ (mkF m 1 #[.val (.ref a1), .val (.ref a2), .val (.ref a3), .val (.long q4), .second, .val (.ref a5), .val (.long q6), .second] [(.ref a1)])
  obtain ⟨_, _, ⟨T1, L1, k1, n1⟩, -, X1, ⟨Lc1, hQ1, l1, y1, z1⟩, st1⟩ := X0.specialBack hx (y := (⟨"java/lang/Record", "<init>", "()V"⟩ : MethodName)) rfl hown (mvT hZ (hw _ (List.mem_of_getElem? (i := 32) rfl))) (mvT hZ (hw _ (List.mem_of_getElem? (i := 33) rfl))) (mvT hZ (hw _ (List.mem_of_getElem? (i := 36) rfl))) (by decide) (backOf (W := 0) (rm := ({ frames := 1, cells := 0, slots := 0, locals := 12 } : Room)) (rm7 l Z a0 hw [] a1 h0 n0) hZ (hw _ (List.mem_of_getElem? (i := 36) rfl)) (hw _ (List.mem_of_getElem? (i := 35) rfl)) (by decide) (by decide)) (g := (mkF m 1 #[.val (.ref a1), .val (.ref a2), .val (.ref a3), .val (.long q4), .second, .val (.ref a5), .val (.long q6), .second] [(.ref a1)])) rfl (by rw [hml]; rfl) (Steps.refl _) (a := a1) (argsL := []) (rest := []) (lenOf pd___V rfl) rfl (by show 2 * 0 + _ ≤ _; exact Nat.le_of_eq rfl) (hb hby d6_1) (fun _ _ => ⟨rfl, e0, (by decide : 0 + 0 ≤ _), (by decide : 0 + 0 ≤ _)⟩)
  dsimp only [Pt.U, Pt.locs, Pt.cells, Pt.slots] at X1 l1 y1 z1 st1 hQ1
  subst l1 y1 z1
  obtain ⟨rfl, N1q, K1q⟩ := hQ1
  refine own_stS (fun t k => st1.trans k) ?_
  have N1 := Fr.app N0 N1q
  have K1 : Keep h0 T1.heap [a1] := (Keep.refl h0 [a1]).trans K1q (own_all0 )
  have F2 : Exa Z T1.heap a1 "com/example/partwise/partwise/Part" := (R0.keep K1q)
  have F3 : Fld Z T1.heap a1 "com/example/partwise/partwise/Part" "table" "Ljava/lang/String;" .null := (R1.keep K1q (own_nin0 ))
  have F4 : Fld Z T1.heap a1 "com/example/partwise/partwise/Part" "id" "Ljava/lang/String;" .null := (R2.keep K1q (own_nin0 ))
  have F5 : Fld Z T1.heap a1 "com/example/partwise/partwise/Part" "rows" "J" (.long (0 : Int64)) := (R3.keep K1q (own_nin0 ))
  have F6 : Fld Z T1.heap a1 "com/example/partwise/partwise/Part" "inline" "Ljava/lang/String;" .null := (R4.keep K1q (own_nin0 ))
  have F7 : Fld Z T1.heap a1 "com/example/partwise/partwise/Part" "addedBy" "J" (.long (0 : Int64)) := (R5.keep K1q (own_nin0 ))
  show OGS _ _ p e _ s below _ T1 (mkF m 4 #[.val (.ref a1), .val (.ref a2), .val (.ref a3), .val (.long q4), .second, .val (.ref a5), .val (.long q6), .second] [])
  have CR8 : CHr Z EL0 s.vm h0 s.vm T1.heap := CHr.trans CR0 (CHr.keep K1q (own_all0 ) CH0)
  have CH8 : CHv Z EL0 s.vm T1.heap := CHv.keep K1q (own_all0 ) CH0
  have hk8 := Nat.le_trans hk0 K1q.1
  refine own_stS (fun t k => XS.aloadN X1.here hx rfl (hb hby d6_4) rfl rfl k) ?_
  show OGS _ _ p e _ s below _ T1 (mkF m 5 #[.val (.ref a1), .val (.ref a2), .val (.ref a3), .val (.long q4), .second, .val (.ref a5), .val (.long q6), .second] [(.ref a2)])
  obtain ⟨o9, T9, h9, k9, X9, e9, E9, hS9, hk9, hZ9, hown9, Cq9, -, st9⟩ := ldcOH (EL := EL0) (n := 20) X1 hx hZ hown (hw _ (List.mem_of_getElem? (i := 38) rfl)) (own_wS hw) rfl hS0 hk8 hEL CH8 (g := (mkF m 5 #[.val (.ref a1), .val (.ref a2), .val (.ref a3), .val (.long q4), .second, .val (.ref a5), .val (.long q6), .second] [(.ref a2)])) rfl (hb hby d6_5) (by decide) (by decide) (by decide) (by decide)
  refine own_stS st9 ?_
  have CR9 := CHr.trans CR8 Cq9
  have F10 : Exa Z h9 a1 "com/example/partwise/partwise/Part" := (F2.ext E9)
  have F11 : Fld Z h9 a1 "com/example/partwise/partwise/Part" "table" "Ljava/lang/String;" .null := (F3.ext E9)
  have F12 : Fld Z h9 a1 "com/example/partwise/partwise/Part" "id" "Ljava/lang/String;" .null := (F4.ext E9)
  have F13 : Fld Z h9 a1 "com/example/partwise/partwise/Part" "rows" "J" (.long (0 : Int64)) := (F5.ext E9)
  have F14 : Fld Z h9 a1 "com/example/partwise/partwise/Part" "inline" "Ljava/lang/String;" .null := (F6.ext E9)
  have F15 : Fld Z h9 a1 "com/example/partwise/partwise/Part" "addedBy" "J" (.long (0 : Int64)) := (F7.ext E9)
  have K16 : Keep h0 h9 [a1] := K1.ext E9
  show OGS _ _ p e _ s below _ T9 (mkF m 7 #[.val (.ref a1), .val (.ref a2), .val (.ref a3), .val (.long q4), .second, .val (.ref a5), .val (.long q6), .second] [(.ref o9), (.ref a2)])
  obtain ⟨_, _, ⟨T17, L17, k17, n17⟩, -, X17, ⟨Lc17, hQ17, l17, y17, z17⟩, st17⟩ := Jvm.LawKit.callS X9 hx (y := (⟨"java/util/Objects", "requireNonNull", "(Ljava/lang/Object;Ljava/lang/String;)Ljava/lang/Object;"⟩ : MethodName)) hown9 (mvT hZ9 (hw _ (List.mem_of_getElem? (i := 41) rfl))) (mvT hZ9 (hw _ (List.mem_of_getElem? (i := 42) rfl))) (mvT hZ9 (hw _ (List.mem_of_getElem? (i := 43) rfl))) (mvT hZ9 (hw _ (List.mem_of_getElem? (i := 44) rfl))) (by decide) (backOf (W := 0) (rm := ({ frames := 0, cells := 0, slots := 0, locals := 0 } : Room)) (rm8 l Z a0 hw [] a2 o9 h9 n0) hZ9 (hw _ (List.mem_of_getElem? (i := 44) rfl)) (hw _ (List.mem_of_getElem? (i := 43) rfl)) (by decide) (by decide)) (g := (mkF m 7 #[.val (.ref a1), .val (.ref a2), .val (.ref a3), .val (.long q4), .second, .val (.ref a5), .val (.long q6), .second] [(.ref o9), (.ref a2)])) rfl (by rw [hml]; rfl) (argsL := [(.ref a2), (.ref o9)]) (rest := []) (lenOf pd__Ljava_lang_Object_Ljava_lang_String__Ljava_lang_Object_ rfl) rfl (by show 2 * 0 + _ ≤ _; exact Nat.le_of_eq rfl) (hb hby d6_7) (fun _ _ => ⟨rfl, e9, (by decide : 2 + 0 ≤ _), (by decide : 24 + 0 ≤ _)⟩)
  dsimp only [Pt.U, Pt.locs, Pt.cells, Pt.slots] at X17 l17 y17 z17 st17 hQ17
  subst l17 y17 z17
  obtain ⟨rfl, N17q, K17q⟩ := hQ17
  refine own_stS st17 ?_
  have N17 := Fr.app N1 N17q
  have K17 : Keep h0 T17.heap [a1] := K16.trans K17q (own_all0 )
  have F18 : Exa Z T17.heap a1 "com/example/partwise/partwise/Part" := (F10.keep K17q)
  have F19 : Fld Z T17.heap a1 "com/example/partwise/partwise/Part" "table" "Ljava/lang/String;" .null := (F11.keep K17q (own_nin0 ))
  have F20 : Fld Z T17.heap a1 "com/example/partwise/partwise/Part" "id" "Ljava/lang/String;" .null := (F12.keep K17q (own_nin0 ))
  have F21 : Fld Z T17.heap a1 "com/example/partwise/partwise/Part" "rows" "J" (.long (0 : Int64)) := (F13.keep K17q (own_nin0 ))
  have F22 : Fld Z T17.heap a1 "com/example/partwise/partwise/Part" "inline" "Ljava/lang/String;" .null := (F14.keep K17q (own_nin0 ))
  have F23 : Fld Z T17.heap a1 "com/example/partwise/partwise/Part" "addedBy" "J" (.long (0 : Int64)) := (F15.keep K17q (own_nin0 ))
  show OGS _ _ p e _ s below _ T17 (mkF m 10 #[.val (.ref a1), .val (.ref a2), .val (.ref a3), .val (.long q4), .second, .val (.ref a5), .val (.long q6), .second] [(.ref a2)])
  have CR24 : CHr Z EL0 s.vm h0 T9.vm T17.heap := CHr.trans CR9 (CHr.keep K17q (own_all0 ) Cq9.1)
  have CH24 : CHv Z EL0 T9.vm T17.heap := CHv.keep K17q (own_all0 ) Cq9.1
  have hk24 := Nat.le_trans hk9 K17q.1
  refine own_stS (fun t k => XS.pop X17.here hx rfl (hb hby d6_10) rfl rfl k) ?_
  show OGS _ _ p e _ s below _ T17 (mkF m 11 #[.val (.ref a1), .val (.ref a2), .val (.ref a3), .val (.long q4), .second, .val (.ref a5), .val (.long q6), .second] [])
  refine own_stS (fun t k => XS.aloadN X17.here hx rfl (hb hby d6_11) rfl rfl k) ?_
  show OGS _ _ p e _ s below _ T17 (mkF m 12 #[.val (.ref a1), .val (.ref a2), .val (.ref a3), .val (.long q4), .second, .val (.ref a5), .val (.long q6), .second] [(.ref a3)])
  obtain ⟨o25, T25, h25, k25, X25, e25, E25, hS25, hk25, hZ25, hown25, Cq25, -, st25⟩ := ldcOH (EL := EL0) (n := 8) X17 hx hZ9 hown9 (hw _ (List.mem_of_getElem? (i := 45) rfl)) (own_wS hw) rfl hS9 hk24 hEL CH24 (g := (mkF m 12 #[.val (.ref a1), .val (.ref a2), .val (.ref a3), .val (.long q4), .second, .val (.ref a5), .val (.long q6), .second] [(.ref a3)])) rfl (hb hby d6_12) (by decide) (by decide) (by decide) (by decide)
  refine own_stS st25 ?_
  have CR25 := CHr.trans CR24 Cq25
  have F26 : Exa Z h25 a1 "com/example/partwise/partwise/Part" := (F18.ext E25)
  have F27 : Fld Z h25 a1 "com/example/partwise/partwise/Part" "table" "Ljava/lang/String;" .null := (F19.ext E25)
  have F28 : Fld Z h25 a1 "com/example/partwise/partwise/Part" "id" "Ljava/lang/String;" .null := (F20.ext E25)
  have F29 : Fld Z h25 a1 "com/example/partwise/partwise/Part" "rows" "J" (.long (0 : Int64)) := (F21.ext E25)
  have F30 : Fld Z h25 a1 "com/example/partwise/partwise/Part" "inline" "Ljava/lang/String;" .null := (F22.ext E25)
  have F31 : Fld Z h25 a1 "com/example/partwise/partwise/Part" "addedBy" "J" (.long (0 : Int64)) := (F23.ext E25)
  have K32 : Keep h0 h25 [a1] := K17.ext E25
  show OGS _ _ p e _ s below _ T25 (mkF m 14 #[.val (.ref a1), .val (.ref a2), .val (.ref a3), .val (.long q4), .second, .val (.ref a5), .val (.long q6), .second] [(.ref o25), (.ref a3)])
  obtain ⟨_, _, ⟨T33, L33, k33, n33⟩, -, X33, ⟨Lc33, hQ33, l33, y33, z33⟩, st33⟩ := Jvm.LawKit.callS X25 hx (y := (⟨"java/util/Objects", "requireNonNull", "(Ljava/lang/Object;Ljava/lang/String;)Ljava/lang/Object;"⟩ : MethodName)) hown25 (mvT hZ25 (hw _ (List.mem_of_getElem? (i := 41) rfl))) (mvT hZ25 (hw _ (List.mem_of_getElem? (i := 42) rfl))) (mvT hZ25 (hw _ (List.mem_of_getElem? (i := 43) rfl))) (mvT hZ25 (hw _ (List.mem_of_getElem? (i := 44) rfl))) (by decide) (backOf (W := 0) (rm := ({ frames := 0, cells := 0, slots := 0, locals := 0 } : Room)) (rm8 l Z a0 hw [] a3 o25 h25 n0) hZ25 (hw _ (List.mem_of_getElem? (i := 44) rfl)) (hw _ (List.mem_of_getElem? (i := 43) rfl)) (by decide) (by decide)) (g := (mkF m 14 #[.val (.ref a1), .val (.ref a2), .val (.ref a3), .val (.long q4), .second, .val (.ref a5), .val (.long q6), .second] [(.ref o25), (.ref a3)])) rfl (by rw [hml]; rfl) (argsL := [(.ref a3), (.ref o25)]) (rest := []) (lenOf pd__Ljava_lang_Object_Ljava_lang_String__Ljava_lang_Object_ rfl) rfl (by show 2 * 0 + _ ≤ _; exact Nat.le_of_eq rfl) (hb hby d6_14) (fun _ _ => ⟨rfl, e25, (by decide : 4 + 0 ≤ _), (by decide : 36 + 0 ≤ _)⟩)
  dsimp only [Pt.U, Pt.locs, Pt.cells, Pt.slots] at X33 l33 y33 z33 st33 hQ33
  subst l33 y33 z33
  obtain ⟨rfl, N33q, K33q⟩ := hQ33
  refine own_stS st33 ?_
  have N33 := Fr.app N17 N33q
  have K33 : Keep h0 T33.heap [a1] := K32.trans K33q (own_all0 )
  have F34 : Exa Z T33.heap a1 "com/example/partwise/partwise/Part" := (F26.keep K33q)
  have F35 : Fld Z T33.heap a1 "com/example/partwise/partwise/Part" "table" "Ljava/lang/String;" .null := (F27.keep K33q (own_nin0 ))
  have F36 : Fld Z T33.heap a1 "com/example/partwise/partwise/Part" "id" "Ljava/lang/String;" .null := (F28.keep K33q (own_nin0 ))
  have F37 : Fld Z T33.heap a1 "com/example/partwise/partwise/Part" "rows" "J" (.long (0 : Int64)) := (F29.keep K33q (own_nin0 ))
  have F38 : Fld Z T33.heap a1 "com/example/partwise/partwise/Part" "inline" "Ljava/lang/String;" .null := (F30.keep K33q (own_nin0 ))
  have F39 : Fld Z T33.heap a1 "com/example/partwise/partwise/Part" "addedBy" "J" (.long (0 : Int64)) := (F31.keep K33q (own_nin0 ))
  show OGS _ _ p e _ s below _ T33 (mkF m 17 #[.val (.ref a1), .val (.ref a2), .val (.ref a3), .val (.long q4), .second, .val (.ref a5), .val (.long q6), .second] [(.ref a3)])
  have CR40 : CHr Z EL0 s.vm h0 T25.vm T33.heap := CHr.trans CR25 (CHr.keep K33q (own_all0 ) Cq25.1)
  have CH40 : CHv Z EL0 T25.vm T33.heap := CHv.keep K33q (own_all0 ) Cq25.1
  have hk40 := Nat.le_trans hk25 K33q.1
  refine own_stS (fun t k => XS.pop X33.here hx rfl (hb hby d6_17) rfl rfl k) ?_
  show OGS _ _ p e _ s below _ T33 (mkF m 18 #[.val (.ref a1), .val (.ref a2), .val (.ref a3), .val (.long q4), .second, .val (.ref a5), .val (.long q6), .second] [])
  refine own_stS (fun t k => XS.aloadN X33.here hx rfl (hb hby d6_18) rfl rfl k) ?_
  show OGS _ _ p e _ s below _ T33 (mkF m 19 #[.val (.ref a1), .val (.ref a2), .val (.ref a3), .val (.long q4), .second, .val (.ref a5), .val (.long q6), .second] [(.ref a1)])
  refine own_stS (fun t k => XS.aloadN X33.here hx rfl (hb hby d6_19) rfl rfl k) ?_
  show OGS _ _ p e _ s below _ T33 (mkF m 20 #[.val (.ref a1), .val (.ref a2), .val (.ref a3), .val (.long q4), .second, .val (.ref a5), .val (.long q6), .second] [(.ref a2), (.ref a1)])
  obtain ⟨T41, h41, X41, e41, W41, st41⟩ := putF X33 hx hZ25 hown25 (host := "") (Or.inl (hw _ (List.mem_of_getElem? (i := 46) rfl))) Via.refl rfl F35 F34 (Or.inr ⟨(hw _ (List.mem_of_getElem? (i := 47) rfl)), rfl, hnm⟩) (hw _ (List.mem_of_getElem? (i := 27) rfl)) (ty := (.object "java/lang/String")) (by decide) rfl rfl (g := (mkF m 20 #[.val (.ref a1), .val (.ref a2), .val (.ref a3), .val (.long q4), .second, .val (.ref a5), .val (.long q6), .second] [(.ref a2), (.ref a1)])) rfl rfl (hb hby d6_20)
  refine own_stS st41 ?_
  have N41 := Fr.snoc X41 N33 g_a1
  have K42 : Keep h0 h41 [a1] := K33.wr W41 (Or.inl (List.mem_of_getElem? (i := 0) rfl))
  have F43 : Exa Z h41 a1 "com/example/partwise/partwise/Part" := (F34.wr W41)
  have F44 : Fld Z h41 a1 "com/example/partwise/partwise/Part" "table" "Ljava/lang/String;" (.ref a2) := (F35.same W41)
  have F45 : Fld Z h41 a1 "com/example/partwise/partwise/Part" "id" "Ljava/lang/String;" .null := (F36.other W41 (Or.inr (slot_ne (Or.inr (hw _ (List.mem_of_getElem? (i := 49) rfl))) (Or.inr (hw _ (List.mem_of_getElem? (i := 47) rfl))) (by decide) (t := (.object "java/lang/String")) (t' := (.object "java/lang/String")) (by decide) (by decide))))
  have F46 : Fld Z h41 a1 "com/example/partwise/partwise/Part" "rows" "J" (.long (0 : Int64)) := (F37.other W41 (Or.inr (slot_ne (Or.inr (hw _ (List.mem_of_getElem? (i := 51) rfl))) (Or.inr (hw _ (List.mem_of_getElem? (i := 47) rfl))) (by decide) (t := .long) (t' := (.object "java/lang/String")) (by decide) (by decide))))
  have F47 : Fld Z h41 a1 "com/example/partwise/partwise/Part" "inline" "Ljava/lang/String;" .null := (F38.other W41 (Or.inr (slot_ne (Or.inr (hw _ (List.mem_of_getElem? (i := 53) rfl))) (Or.inr (hw _ (List.mem_of_getElem? (i := 47) rfl))) (by decide) (t := (.object "java/lang/String")) (t' := (.object "java/lang/String")) (by decide) (by decide))))
  have F48 : Fld Z h41 a1 "com/example/partwise/partwise/Part" "addedBy" "J" (.long (0 : Int64)) := (F39.other W41 (Or.inr (slot_ne (Or.inr (hw _ (List.mem_of_getElem? (i := 55) rfl))) (Or.inr (hw _ (List.mem_of_getElem? (i := 47) rfl))) (by decide) (t := .long) (t' := (.object "java/lang/String")) (by decide) (by decide))))
  show OGS _ _ p e _ s below _ T41 (mkF m 23 #[.val (.ref a1), .val (.ref a2), .val (.ref a3), .val (.long q4), .second, .val (.ref a5), .val (.long q6), .second] [])
  have CR49 : CHr Z EL0 s.vm h0 T25.vm h41 := CHr.trans CR40 (CHr.wr W41 (Safe.exa hZ25.alike F34 (by decide) (by decide)) CH40)
  have CH49 : CHv Z EL0 T25.vm h41 := CHv.wr W41 (Safe.exa hZ25.alike F34 (by decide) (by decide)) CH40
  have hk49 := Nat.le_trans hk40 (Keep.of_wr W41).1
  refine own_stS (fun t k => XS.aloadN X41.here hx rfl (hb hby d6_23) rfl rfl k) ?_
  show OGS _ _ p e _ s below _ T41 (mkF m 24 #[.val (.ref a1), .val (.ref a2), .val (.ref a3), .val (.long q4), .second, .val (.ref a5), .val (.long q6), .second] [(.ref a1)])
  refine own_stS (fun t k => XS.aloadN X41.here hx rfl (hb hby d6_24) rfl rfl k) ?_
  show OGS _ _ p e _ s below _ T41 (mkF m 25 #[.val (.ref a1), .val (.ref a2), .val (.ref a3), .val (.long q4), .second, .val (.ref a5), .val (.long q6), .second] [(.ref a3), (.ref a1)])
  obtain ⟨T50, h50, X50, e50, W50, st50⟩ := putF X41 hx hZ25 hown25 (host := "") (Or.inl (hw _ (List.mem_of_getElem? (i := 48) rfl))) Via.refl e41 F45 F43 (Or.inr ⟨(hw _ (List.mem_of_getElem? (i := 49) rfl)), rfl, hnm⟩) (hw _ (List.mem_of_getElem? (i := 27) rfl)) (ty := (.object "java/lang/String")) (by decide) rfl rfl (g := (mkF m 25 #[.val (.ref a1), .val (.ref a2), .val (.ref a3), .val (.long q4), .second, .val (.ref a5), .val (.long q6), .second] [(.ref a3), (.ref a1)])) rfl rfl (hb hby d6_25)
  refine own_stS st50 ?_
  have N50 := Fr.snoc X50 N41 g_a1
  have K51 : Keep h0 h50 [a1] := K42.wr W50 (Or.inl (List.mem_of_getElem? (i := 0) rfl))
  have F52 : Exa Z h50 a1 "com/example/partwise/partwise/Part" := (F43.wr W50)
  have F53 : Fld Z h50 a1 "com/example/partwise/partwise/Part" "table" "Ljava/lang/String;" (.ref a2) := (F44.other W50 (Or.inr (slot_ne (Or.inr (hw _ (List.mem_of_getElem? (i := 47) rfl))) (Or.inr (hw _ (List.mem_of_getElem? (i := 49) rfl))) (by decide) (t := (.object "java/lang/String")) (t' := (.object "java/lang/String")) (by decide) (by decide))))
  have F54 : Fld Z h50 a1 "com/example/partwise/partwise/Part" "id" "Ljava/lang/String;" (.ref a3) := (F45.same W50)
  have F55 : Fld Z h50 a1 "com/example/partwise/partwise/Part" "rows" "J" (.long (0 : Int64)) := (F46.other W50 (Or.inr (slot_ne (Or.inr (hw _ (List.mem_of_getElem? (i := 51) rfl))) (Or.inr (hw _ (List.mem_of_getElem? (i := 49) rfl))) (by decide) (t := .long) (t' := (.object "java/lang/String")) (by decide) (by decide))))
  have F56 : Fld Z h50 a1 "com/example/partwise/partwise/Part" "inline" "Ljava/lang/String;" .null := (F47.other W50 (Or.inr (slot_ne (Or.inr (hw _ (List.mem_of_getElem? (i := 53) rfl))) (Or.inr (hw _ (List.mem_of_getElem? (i := 49) rfl))) (by decide) (t := (.object "java/lang/String")) (t' := (.object "java/lang/String")) (by decide) (by decide))))
  have F57 : Fld Z h50 a1 "com/example/partwise/partwise/Part" "addedBy" "J" (.long (0 : Int64)) := (F48.other W50 (Or.inr (slot_ne (Or.inr (hw _ (List.mem_of_getElem? (i := 55) rfl))) (Or.inr (hw _ (List.mem_of_getElem? (i := 49) rfl))) (by decide) (t := .long) (t' := (.object "java/lang/String")) (by decide) (by decide))))
  show OGS _ _ p e _ s below _ T50 (mkF m 28 #[.val (.ref a1), .val (.ref a2), .val (.ref a3), .val (.long q4), .second, .val (.ref a5), .val (.long q6), .second] [])
  have CR58 : CHr Z EL0 s.vm h0 T25.vm h50 := CHr.trans CR49 (CHr.wr W50 (Safe.exa hZ25.alike F43 (by decide) (by decide)) CH49)
  have CH58 : CHv Z EL0 T25.vm h50 := CHv.wr W50 (Safe.exa hZ25.alike F43 (by decide) (by decide)) CH49
  have hk58 := Nat.le_trans hk49 (Keep.of_wr W50).1
  refine own_stS (fun t k => XS.aloadN X50.here hx rfl (hb hby d6_28) rfl rfl k) ?_
  show OGS _ _ p e _ s below _ T50 (mkF m 29 #[.val (.ref a1), .val (.ref a2), .val (.ref a3), .val (.long q4), .second, .val (.ref a5), .val (.long q6), .second] [(.ref a1)])
  refine own_stS (fun t k => XS.lloadN X50.here hx rfl (hb hby d6_29) rfl k) ?_
  show OGS _ _ p e _ s below _ T50 (mkF m 30 #[.val (.ref a1), .val (.ref a2), .val (.ref a3), .val (.long q4), .second, .val (.ref a5), .val (.long q6), .second] [(.long q4), (.ref a1)])
  obtain ⟨T59, h59, X59, e59, W59, st59⟩ := putF X50 hx hZ25 hown25 (host := "") (Or.inl (hw _ (List.mem_of_getElem? (i := 50) rfl))) Via.refl e50 F55 F52 (Or.inr ⟨(hw _ (List.mem_of_getElem? (i := 51) rfl)), rfl, hnm⟩) (hw _ (List.mem_of_getElem? (i := 27) rfl)) (ty := .long) (by decide) rfl rfl (g := (mkF m 30 #[.val (.ref a1), .val (.ref a2), .val (.ref a3), .val (.long q4), .second, .val (.ref a5), .val (.long q6), .second] [(.long q4), (.ref a1)])) rfl rfl (hb hby d6_30)
  refine own_stS st59 ?_
  have N59 := Fr.snoc X59 N50 g_a1
  have K60 : Keep h0 h59 [a1] := K51.wr W59 (Or.inl (List.mem_of_getElem? (i := 0) rfl))
  have F61 : Exa Z h59 a1 "com/example/partwise/partwise/Part" := (F52.wr W59)
  have F62 : Fld Z h59 a1 "com/example/partwise/partwise/Part" "table" "Ljava/lang/String;" (.ref a2) := (F53.other W59 (Or.inr (slot_ne (Or.inr (hw _ (List.mem_of_getElem? (i := 47) rfl))) (Or.inr (hw _ (List.mem_of_getElem? (i := 51) rfl))) (by decide) (t := (.object "java/lang/String")) (t' := .long) (by decide) (by decide))))
  have F63 : Fld Z h59 a1 "com/example/partwise/partwise/Part" "id" "Ljava/lang/String;" (.ref a3) := (F54.other W59 (Or.inr (slot_ne (Or.inr (hw _ (List.mem_of_getElem? (i := 49) rfl))) (Or.inr (hw _ (List.mem_of_getElem? (i := 51) rfl))) (by decide) (t := (.object "java/lang/String")) (t' := .long) (by decide) (by decide))))
  have F64 : Fld Z h59 a1 "com/example/partwise/partwise/Part" "rows" "J" (.long q4) := (F55.same W59)
  have F65 : Fld Z h59 a1 "com/example/partwise/partwise/Part" "inline" "Ljava/lang/String;" .null := (F56.other W59 (Or.inr (slot_ne (Or.inr (hw _ (List.mem_of_getElem? (i := 53) rfl))) (Or.inr (hw _ (List.mem_of_getElem? (i := 51) rfl))) (by decide) (t := (.object "java/lang/String")) (t' := .long) (by decide) (by decide))))
  have F66 : Fld Z h59 a1 "com/example/partwise/partwise/Part" "addedBy" "J" (.long (0 : Int64)) := (F57.other W59 (Or.inr (slot_ne (Or.inr (hw _ (List.mem_of_getElem? (i := 55) rfl))) (Or.inr (hw _ (List.mem_of_getElem? (i := 51) rfl))) (by decide) (t := .long) (t' := .long) (by decide) (by decide))))
  show OGS _ _ p e _ s below _ T59 (mkF m 33 #[.val (.ref a1), .val (.ref a2), .val (.ref a3), .val (.long q4), .second, .val (.ref a5), .val (.long q6), .second] [])
  have CR67 : CHr Z EL0 s.vm h0 T25.vm h59 := CHr.trans CR58 (CHr.wr W59 (Safe.exa hZ25.alike F52 (by decide) (by decide)) CH58)
  have CH67 : CHv Z EL0 T25.vm h59 := CHv.wr W59 (Safe.exa hZ25.alike F52 (by decide) (by decide)) CH58
  have hk67 := Nat.le_trans hk58 (Keep.of_wr W59).1
  refine own_stS (fun t k => XS.aloadN X59.here hx rfl (hb hby d6_33) rfl rfl k) ?_
  show OGS _ _ p e _ s below _ T59 (mkF m 34 #[.val (.ref a1), .val (.ref a2), .val (.ref a3), .val (.long q4), .second, .val (.ref a5), .val (.long q6), .second] [(.ref a1)])
  refine own_stS (fun t k => XS.aload X59.here hx rfl (hb hby d6_34) rfl rfl k) ?_
  show OGS _ _ p e _ s below _ T59 (mkF m 36 #[.val (.ref a1), .val (.ref a2), .val (.ref a3), .val (.long q4), .second, .val (.ref a5), .val (.long q6), .second] [(.ref a5), (.ref a1)])
  obtain ⟨T68, h68, X68, e68, W68, st68⟩ := putF X59 hx hZ25 hown25 (host := "") (Or.inl (hw _ (List.mem_of_getElem? (i := 52) rfl))) Via.refl e59 F65 F61 (Or.inr ⟨(hw _ (List.mem_of_getElem? (i := 53) rfl)), rfl, hnm⟩) (hw _ (List.mem_of_getElem? (i := 27) rfl)) (ty := (.object "java/lang/String")) (by decide) rfl rfl (g := (mkF m 36 #[.val (.ref a1), .val (.ref a2), .val (.ref a3), .val (.long q4), .second, .val (.ref a5), .val (.long q6), .second] [(.ref a5), (.ref a1)])) rfl rfl (hb hby d6_36)
  refine own_stS st68 ?_
  have N68 := Fr.snoc X68 N59 g_a1
  have K69 : Keep h0 h68 [a1] := K60.wr W68 (Or.inl (List.mem_of_getElem? (i := 0) rfl))
  have F70 : Exa Z h68 a1 "com/example/partwise/partwise/Part" := (F61.wr W68)
  have F71 : Fld Z h68 a1 "com/example/partwise/partwise/Part" "table" "Ljava/lang/String;" (.ref a2) := (F62.other W68 (Or.inr (slot_ne (Or.inr (hw _ (List.mem_of_getElem? (i := 47) rfl))) (Or.inr (hw _ (List.mem_of_getElem? (i := 53) rfl))) (by decide) (t := (.object "java/lang/String")) (t' := (.object "java/lang/String")) (by decide) (by decide))))
  have F72 : Fld Z h68 a1 "com/example/partwise/partwise/Part" "id" "Ljava/lang/String;" (.ref a3) := (F63.other W68 (Or.inr (slot_ne (Or.inr (hw _ (List.mem_of_getElem? (i := 49) rfl))) (Or.inr (hw _ (List.mem_of_getElem? (i := 53) rfl))) (by decide) (t := (.object "java/lang/String")) (t' := (.object "java/lang/String")) (by decide) (by decide))))
  have F73 : Fld Z h68 a1 "com/example/partwise/partwise/Part" "rows" "J" (.long q4) := (F64.other W68 (Or.inr (slot_ne (Or.inr (hw _ (List.mem_of_getElem? (i := 51) rfl))) (Or.inr (hw _ (List.mem_of_getElem? (i := 53) rfl))) (by decide) (t := .long) (t' := (.object "java/lang/String")) (by decide) (by decide))))
  have F74 : Fld Z h68 a1 "com/example/partwise/partwise/Part" "inline" "Ljava/lang/String;" (.ref a5) := (F65.same W68)
  have F75 : Fld Z h68 a1 "com/example/partwise/partwise/Part" "addedBy" "J" (.long (0 : Int64)) := (F66.other W68 (Or.inr (slot_ne (Or.inr (hw _ (List.mem_of_getElem? (i := 55) rfl))) (Or.inr (hw _ (List.mem_of_getElem? (i := 53) rfl))) (by decide) (t := .long) (t' := (.object "java/lang/String")) (by decide) (by decide))))
  show OGS _ _ p e _ s below _ T68 (mkF m 39 #[.val (.ref a1), .val (.ref a2), .val (.ref a3), .val (.long q4), .second, .val (.ref a5), .val (.long q6), .second] [])
  have CR76 : CHr Z EL0 s.vm h0 T25.vm h68 := CHr.trans CR67 (CHr.wr W68 (Safe.exa hZ25.alike F61 (by decide) (by decide)) CH67)
  have CH76 : CHv Z EL0 T25.vm h68 := CHv.wr W68 (Safe.exa hZ25.alike F61 (by decide) (by decide)) CH67
  have hk76 := Nat.le_trans hk67 (Keep.of_wr W68).1
  refine own_stS (fun t k => XS.aloadN X68.here hx rfl (hb hby d6_39) rfl rfl k) ?_
  show OGS _ _ p e _ s below _ T68 (mkF m 40 #[.val (.ref a1), .val (.ref a2), .val (.ref a3), .val (.long q4), .second, .val (.ref a5), .val (.long q6), .second] [(.ref a1)])
  refine own_stS (fun t k => XS.lload X68.here hx rfl (hb hby d6_40) rfl k) ?_
  show OGS _ _ p e _ s below _ T68 (mkF m 42 #[.val (.ref a1), .val (.ref a2), .val (.ref a3), .val (.long q4), .second, .val (.ref a5), .val (.long q6), .second] [(.long q6), (.ref a1)])
  obtain ⟨T77, h77, X77, e77, W77, st77⟩ := putF X68 hx hZ25 hown25 (host := "") (Or.inl (hw _ (List.mem_of_getElem? (i := 54) rfl))) Via.refl e68 F75 F70 (Or.inr ⟨(hw _ (List.mem_of_getElem? (i := 55) rfl)), rfl, hnm⟩) (hw _ (List.mem_of_getElem? (i := 27) rfl)) (ty := .long) (by decide) rfl rfl (g := (mkF m 42 #[.val (.ref a1), .val (.ref a2), .val (.ref a3), .val (.long q4), .second, .val (.ref a5), .val (.long q6), .second] [(.long q6), (.ref a1)])) rfl rfl (hb hby d6_42)
  refine own_stS st77 ?_
  have N77 := Fr.snoc X77 N68 g_a1
  have K78 : Keep h0 h77 [a1] := K69.wr W77 (Or.inl (List.mem_of_getElem? (i := 0) rfl))
  have F79 : Exa Z h77 a1 "com/example/partwise/partwise/Part" := (F70.wr W77)
  have F80 : Fld Z h77 a1 "com/example/partwise/partwise/Part" "table" "Ljava/lang/String;" (.ref a2) := (F71.other W77 (Or.inr (slot_ne (Or.inr (hw _ (List.mem_of_getElem? (i := 47) rfl))) (Or.inr (hw _ (List.mem_of_getElem? (i := 55) rfl))) (by decide) (t := (.object "java/lang/String")) (t' := .long) (by decide) (by decide))))
  have F81 : Fld Z h77 a1 "com/example/partwise/partwise/Part" "id" "Ljava/lang/String;" (.ref a3) := (F72.other W77 (Or.inr (slot_ne (Or.inr (hw _ (List.mem_of_getElem? (i := 49) rfl))) (Or.inr (hw _ (List.mem_of_getElem? (i := 55) rfl))) (by decide) (t := (.object "java/lang/String")) (t' := .long) (by decide) (by decide))))
  have F82 : Fld Z h77 a1 "com/example/partwise/partwise/Part" "rows" "J" (.long q4) := (F73.other W77 (Or.inr (slot_ne (Or.inr (hw _ (List.mem_of_getElem? (i := 51) rfl))) (Or.inr (hw _ (List.mem_of_getElem? (i := 55) rfl))) (by decide) (t := .long) (t' := .long) (by decide) (by decide))))
  have F83 : Fld Z h77 a1 "com/example/partwise/partwise/Part" "inline" "Ljava/lang/String;" (.ref a5) := (F74.other W77 (Or.inr (slot_ne (Or.inr (hw _ (List.mem_of_getElem? (i := 53) rfl))) (Or.inr (hw _ (List.mem_of_getElem? (i := 55) rfl))) (by decide) (t := (.object "java/lang/String")) (t' := .long) (by decide) (by decide))))
  have F84 : Fld Z h77 a1 "com/example/partwise/partwise/Part" "addedBy" "J" (.long q6) := (F75.same W77)
  show OGS _ _ p e _ s below _ T77 (mkF m 45 #[.val (.ref a1), .val (.ref a2), .val (.ref a3), .val (.long q4), .second, .val (.ref a5), .val (.long q6), .second] [])
  have CR85 : CHr Z EL0 s.vm h0 T25.vm h77 := CHr.trans CR76 (CHr.wr W77 (Safe.exa hZ25.alike F70 (by decide) (by decide)) CH76)
  have CH85 : CHv Z EL0 T25.vm h77 := CHv.wr W77 (Safe.exa hZ25.alike F70 (by decide) (by decide)) CH76
  have hk85 := Nat.le_trans hk76 (Keep.of_wr W77).1
  refine own_endS X77 hlk hZ25 hEL e77 hs0 hS25 hk85 CH85 CR85 (v := none) (fun _ => rfl) (by decide) (by decide) ?_ (fun fs hr => X77.returnOut hx hret (hb hby d6_45) hr)
  exact ⟨rfl, N77, K78, F79, F80, F81, F82, F83, F84⟩
theorem ef_6_n (m : MethodId) (a1 : Addr) (a2 : Addr) (a3 : Addr) (q4 : Int64) (q6 : Int64) : entryFrame m #[(.ref a1), (.ref a2), (.ref a3), (.long q4), .null, (.long q6)] 8 = (mkF m 0 #[.val (.ref a1), .val (.ref a2), .val (.ref a3), .val (.long q4), .second, .val .null, .val (.long q6), .second] []) := by first | (simp [entryFrame, mkF, argsToLocals, Value.category]; done) | rfl
abbrev Q6_n (Z : State) (a1 : Addr) (a2 : Addr) (a3 : Addr) (q4 : Int64) (q6 : Int64) (h0 : Heap) (n0 : Nat) : Option Value → Heap → List Loc → Prop := (fun v h L => v = none ∧ Fr n0 L ∧ Keep h0 h [a1] ∧ Exa Z h a1 "com/example/partwise/partwise/Part" ∧ Fld Z h a1 "com/example/partwise/partwise/Part" "table" "Ljava/lang/String;" (.ref a2) ∧ Fld Z h a1 "com/example/partwise/partwise/Part" "id" "Ljava/lang/String;" (.ref a3) ∧ Fld Z h a1 "com/example/partwise/partwise/Part" "rows" "J" (.long q4) ∧ Fld Z h a1 "com/example/partwise/partwise/Part" "inline" "Ljava/lang/String;" .null ∧ Fld Z h a1 "com/example/partwise/partwise/Part" "addedBy" "J" (.long q6))
set_option maxRecDepth 65536 in
set_option maxHeartbeats 40000000 in
theorem rm6_n (l : Launch) (Z : State) (a0 : Array Value) (hw : ∀ d ∈ tables_1, d.before a0 Z = true) (ws : List Jvm.Cond) (a1 : Addr) (a2 : Addr) (a3 : Addr) (q4 : Int64) (q6 : Int64) (h0 : Heap) (n0 : Nat) (R0 : Exa Z h0 a1 "com/example/partwise/partwise/Part") (R1 : Fld Z h0 a1 "com/example/partwise/partwise/Part" "table" "Ljava/lang/String;" .null) (R2 : Fld Z h0 a1 "com/example/partwise/partwise/Part" "id" "Ljava/lang/String;" .null) (R3 : Fld Z h0 a1 "com/example/partwise/partwise/Part" "rows" "J" (.long (0 : Int64))) (R4 : Fld Z h0 a1 "com/example/partwise/partwise/Part" "inline" "Ljava/lang/String;" .null) (R5 : Fld Z h0 a1 "com/example/partwise/partwise/Part" "addedBy" "J" (.long (0 : Int64))) (g_a1 : n0 ≤ a1) :
    OMetS l Z EL0 (⟨"com/example/partwise/partwise/Part", "<init>", "(Ljava/lang/String;Ljava/lang/String;JLjava/lang/String;J)V"⟩ : MethodName) prog_54_method_1_code 8 none ws ({ frames := 2, cells := 4, slots := 36, locals := 24 } : Room) #[(.ref a1), (.ref a2), (.ref a3), (.long q4), .null, (.long q6)] h0 (Q6_n Z a1 a2 a3 q4 q6 h0 n0) := by
  refine own_enterS pn_6 ?_
  intro p e s m below meth c s₁ hx hby hml0 hown hret hlk hnm hZ X0 e0 hs0 CH0
  have hEL := own_EW hw
  have hS0 : s.Since s.vm 0 := (State.WarmedH.refl s).since 0
  have hk0 : 0 ≤ h0.size := Nat.zero_le _
  have CR0 : CHr Z EL0 s.vm h0 s.vm h0 := CHr.refl CH0
  have hml : c.maxLocals = 8 := hml0
  have N0 := Fr.nil n0
  refine own_castS (ef_6_n m a1 a2 a3 q4 q6) ?_
  show OGS Z EL0 p e ({ frames := 2, cells := 4, slots := 36, locals := 24 } : Room) s below (fun v h L => v = none ∧ Fr n0 L ∧ Keep h0 h [a1] ∧ Exa Z h a1 "com/example/partwise/partwise/Part" ∧ Fld Z h a1 "com/example/partwise/partwise/Part" "table" "Ljava/lang/String;" (.ref a2) ∧ Fld Z h a1 "com/example/partwise/partwise/Part" "id" "Ljava/lang/String;" (.ref a3) ∧ Fld Z h a1 "com/example/partwise/partwise/Part" "rows" "J" (.long q4) ∧ Fld Z h a1 "com/example/partwise/partwise/Part" "inline" "Ljava/lang/String;" .null ∧ Fld Z h a1 "com/example/partwise/partwise/Part" "addedBy" "J" (.long q6)) s₁ (mkF m 0 #[.val (.ref a1), .val (.ref a2), .val (.ref a3), .val (.long q4), .second, .val .null, .val (.long q6), .second] [])
  refine own_stS (fun t k => XS.aloadN X0.here hx rfl (hb hby d6_0) rfl rfl k) ?_
  show OGS _ _ p e _ s below _ s₁ (mkF m 1 #[.val (.ref a1), .val (.ref a2), .val (.ref a3), .val (.long q4), .second, .val .null, .val (.long q6), .second] [(.ref a1)])
  obtain ⟨_, _, ⟨T1, L1, k1, n1⟩, -, X1, ⟨Lc1, hQ1, l1, y1, z1⟩, st1⟩ := X0.specialBack hx (y := (⟨"java/lang/Record", "<init>", "()V"⟩ : MethodName)) rfl hown (mvT hZ (hw _ (List.mem_of_getElem? (i := 32) rfl))) (mvT hZ (hw _ (List.mem_of_getElem? (i := 33) rfl))) (mvT hZ (hw _ (List.mem_of_getElem? (i := 36) rfl))) (by decide) (backOf (W := 0) (rm := ({ frames := 1, cells := 0, slots := 0, locals := 12 } : Room)) (rm7 l Z a0 hw [] a1 h0 n0) hZ (hw _ (List.mem_of_getElem? (i := 36) rfl)) (hw _ (List.mem_of_getElem? (i := 35) rfl)) (by decide) (by decide)) (g := (mkF m 1 #[.val (.ref a1), .val (.ref a2), .val (.ref a3), .val (.long q4), .second, .val .null, .val (.long q6), .second] [(.ref a1)])) rfl (by rw [hml]; rfl) (Steps.refl _) (a := a1) (argsL := []) (rest := []) (lenOf pd___V rfl) rfl (by show 2 * 0 + _ ≤ _; exact Nat.le_of_eq rfl) (hb hby d6_1) (fun _ _ => ⟨rfl, e0, (by decide : 0 + 0 ≤ _), (by decide : 0 + 0 ≤ _)⟩)
  dsimp only [Pt.U, Pt.locs, Pt.cells, Pt.slots] at X1 l1 y1 z1 st1 hQ1
  subst l1 y1 z1
  obtain ⟨rfl, N1q, K1q⟩ := hQ1
  refine own_stS (fun t k => st1.trans k) ?_
  have N1 := Fr.app N0 N1q
  have K1 : Keep h0 T1.heap [a1] := (Keep.refl h0 [a1]).trans K1q (own_all0 )
  have F2 : Exa Z T1.heap a1 "com/example/partwise/partwise/Part" := (R0.keep K1q)
  have F3 : Fld Z T1.heap a1 "com/example/partwise/partwise/Part" "table" "Ljava/lang/String;" .null := (R1.keep K1q (own_nin0 ))
  have F4 : Fld Z T1.heap a1 "com/example/partwise/partwise/Part" "id" "Ljava/lang/String;" .null := (R2.keep K1q (own_nin0 ))
  have F5 : Fld Z T1.heap a1 "com/example/partwise/partwise/Part" "rows" "J" (.long (0 : Int64)) := (R3.keep K1q (own_nin0 ))
  have F6 : Fld Z T1.heap a1 "com/example/partwise/partwise/Part" "inline" "Ljava/lang/String;" .null := (R4.keep K1q (own_nin0 ))
  have F7 : Fld Z T1.heap a1 "com/example/partwise/partwise/Part" "addedBy" "J" (.long (0 : Int64)) := (R5.keep K1q (own_nin0 ))
  show OGS _ _ p e _ s below _ T1 (mkF m 4 #[.val (.ref a1), .val (.ref a2), .val (.ref a3), .val (.long q4), .second, .val .null, .val (.long q6), .second] [])
  have CR8 : CHr Z EL0 s.vm h0 s.vm T1.heap := CHr.trans CR0 (CHr.keep K1q (own_all0 ) CH0)
  have CH8 : CHv Z EL0 s.vm T1.heap := CHv.keep K1q (own_all0 ) CH0
  have hk8 := Nat.le_trans hk0 K1q.1
  refine own_stS (fun t k => XS.aloadN X1.here hx rfl (hb hby d6_4) rfl rfl k) ?_
  show OGS _ _ p e _ s below _ T1 (mkF m 5 #[.val (.ref a1), .val (.ref a2), .val (.ref a3), .val (.long q4), .second, .val .null, .val (.long q6), .second] [(.ref a2)])
  obtain ⟨o9, T9, h9, k9, X9, e9, E9, hS9, hk9, hZ9, hown9, Cq9, -, st9⟩ := ldcOH (EL := EL0) (n := 20) X1 hx hZ hown (hw _ (List.mem_of_getElem? (i := 38) rfl)) (own_wS hw) rfl hS0 hk8 hEL CH8 (g := (mkF m 5 #[.val (.ref a1), .val (.ref a2), .val (.ref a3), .val (.long q4), .second, .val .null, .val (.long q6), .second] [(.ref a2)])) rfl (hb hby d6_5) (by decide) (by decide) (by decide) (by decide)
  refine own_stS st9 ?_
  have CR9 := CHr.trans CR8 Cq9
  have F10 : Exa Z h9 a1 "com/example/partwise/partwise/Part" := (F2.ext E9)
  have F11 : Fld Z h9 a1 "com/example/partwise/partwise/Part" "table" "Ljava/lang/String;" .null := (F3.ext E9)
  have F12 : Fld Z h9 a1 "com/example/partwise/partwise/Part" "id" "Ljava/lang/String;" .null := (F4.ext E9)
  have F13 : Fld Z h9 a1 "com/example/partwise/partwise/Part" "rows" "J" (.long (0 : Int64)) := (F5.ext E9)
  have F14 : Fld Z h9 a1 "com/example/partwise/partwise/Part" "inline" "Ljava/lang/String;" .null := (F6.ext E9)
  have F15 : Fld Z h9 a1 "com/example/partwise/partwise/Part" "addedBy" "J" (.long (0 : Int64)) := (F7.ext E9)
  have K16 : Keep h0 h9 [a1] := K1.ext E9
  show OGS _ _ p e _ s below _ T9 (mkF m 7 #[.val (.ref a1), .val (.ref a2), .val (.ref a3), .val (.long q4), .second, .val .null, .val (.long q6), .second] [(.ref o9), (.ref a2)])
  obtain ⟨_, _, ⟨T17, L17, k17, n17⟩, -, X17, ⟨Lc17, hQ17, l17, y17, z17⟩, st17⟩ := Jvm.LawKit.callS X9 hx (y := (⟨"java/util/Objects", "requireNonNull", "(Ljava/lang/Object;Ljava/lang/String;)Ljava/lang/Object;"⟩ : MethodName)) hown9 (mvT hZ9 (hw _ (List.mem_of_getElem? (i := 41) rfl))) (mvT hZ9 (hw _ (List.mem_of_getElem? (i := 42) rfl))) (mvT hZ9 (hw _ (List.mem_of_getElem? (i := 43) rfl))) (mvT hZ9 (hw _ (List.mem_of_getElem? (i := 44) rfl))) (by decide) (backOf (W := 0) (rm := ({ frames := 0, cells := 0, slots := 0, locals := 0 } : Room)) (rm8 l Z a0 hw [] a2 o9 h9 n0) hZ9 (hw _ (List.mem_of_getElem? (i := 44) rfl)) (hw _ (List.mem_of_getElem? (i := 43) rfl)) (by decide) (by decide)) (g := (mkF m 7 #[.val (.ref a1), .val (.ref a2), .val (.ref a3), .val (.long q4), .second, .val .null, .val (.long q6), .second] [(.ref o9), (.ref a2)])) rfl (by rw [hml]; rfl) (argsL := [(.ref a2), (.ref o9)]) (rest := []) (lenOf pd__Ljava_lang_Object_Ljava_lang_String__Ljava_lang_Object_ rfl) rfl (by show 2 * 0 + _ ≤ _; exact Nat.le_of_eq rfl) (hb hby d6_7) (fun _ _ => ⟨rfl, e9, (by decide : 2 + 0 ≤ _), (by decide : 24 + 0 ≤ _)⟩)
  dsimp only [Pt.U, Pt.locs, Pt.cells, Pt.slots] at X17 l17 y17 z17 st17 hQ17
  subst l17 y17 z17
  obtain ⟨rfl, N17q, K17q⟩ := hQ17
  refine own_stS st17 ?_
  have N17 := Fr.app N1 N17q
  have K17 : Keep h0 T17.heap [a1] := K16.trans K17q (own_all0 )
  have F18 : Exa Z T17.heap a1 "com/example/partwise/partwise/Part" := (F10.keep K17q)
  have F19 : Fld Z T17.heap a1 "com/example/partwise/partwise/Part" "table" "Ljava/lang/String;" .null := (F11.keep K17q (own_nin0 ))
  have F20 : Fld Z T17.heap a1 "com/example/partwise/partwise/Part" "id" "Ljava/lang/String;" .null := (F12.keep K17q (own_nin0 ))
  have F21 : Fld Z T17.heap a1 "com/example/partwise/partwise/Part" "rows" "J" (.long (0 : Int64)) := (F13.keep K17q (own_nin0 ))
  have F22 : Fld Z T17.heap a1 "com/example/partwise/partwise/Part" "inline" "Ljava/lang/String;" .null := (F14.keep K17q (own_nin0 ))
  have F23 : Fld Z T17.heap a1 "com/example/partwise/partwise/Part" "addedBy" "J" (.long (0 : Int64)) := (F15.keep K17q (own_nin0 ))
  show OGS _ _ p e _ s below _ T17 (mkF m 10 #[.val (.ref a1), .val (.ref a2), .val (.ref a3), .val (.long q4), .second, .val .null, .val (.long q6), .second] [(.ref a2)])
  have CR24 : CHr Z EL0 s.vm h0 T9.vm T17.heap := CHr.trans CR9 (CHr.keep K17q (own_all0 ) Cq9.1)
  have CH24 : CHv Z EL0 T9.vm T17.heap := CHv.keep K17q (own_all0 ) Cq9.1
  have hk24 := Nat.le_trans hk9 K17q.1
  refine own_stS (fun t k => XS.pop X17.here hx rfl (hb hby d6_10) rfl rfl k) ?_
  show OGS _ _ p e _ s below _ T17 (mkF m 11 #[.val (.ref a1), .val (.ref a2), .val (.ref a3), .val (.long q4), .second, .val .null, .val (.long q6), .second] [])
  refine own_stS (fun t k => XS.aloadN X17.here hx rfl (hb hby d6_11) rfl rfl k) ?_
  show OGS _ _ p e _ s below _ T17 (mkF m 12 #[.val (.ref a1), .val (.ref a2), .val (.ref a3), .val (.long q4), .second, .val .null, .val (.long q6), .second] [(.ref a3)])
  obtain ⟨o25, T25, h25, k25, X25, e25, E25, hS25, hk25, hZ25, hown25, Cq25, -, st25⟩ := ldcOH (EL := EL0) (n := 8) X17 hx hZ9 hown9 (hw _ (List.mem_of_getElem? (i := 45) rfl)) (own_wS hw) rfl hS9 hk24 hEL CH24 (g := (mkF m 12 #[.val (.ref a1), .val (.ref a2), .val (.ref a3), .val (.long q4), .second, .val .null, .val (.long q6), .second] [(.ref a3)])) rfl (hb hby d6_12) (by decide) (by decide) (by decide) (by decide)
  refine own_stS st25 ?_
  have CR25 := CHr.trans CR24 Cq25
  have F26 : Exa Z h25 a1 "com/example/partwise/partwise/Part" := (F18.ext E25)
  have F27 : Fld Z h25 a1 "com/example/partwise/partwise/Part" "table" "Ljava/lang/String;" .null := (F19.ext E25)
  have F28 : Fld Z h25 a1 "com/example/partwise/partwise/Part" "id" "Ljava/lang/String;" .null := (F20.ext E25)
  have F29 : Fld Z h25 a1 "com/example/partwise/partwise/Part" "rows" "J" (.long (0 : Int64)) := (F21.ext E25)
  have F30 : Fld Z h25 a1 "com/example/partwise/partwise/Part" "inline" "Ljava/lang/String;" .null := (F22.ext E25)
  have F31 : Fld Z h25 a1 "com/example/partwise/partwise/Part" "addedBy" "J" (.long (0 : Int64)) := (F23.ext E25)
  have K32 : Keep h0 h25 [a1] := K17.ext E25
  show OGS _ _ p e _ s below _ T25 (mkF m 14 #[.val (.ref a1), .val (.ref a2), .val (.ref a3), .val (.long q4), .second, .val .null, .val (.long q6), .second] [(.ref o25), (.ref a3)])
  obtain ⟨_, _, ⟨T33, L33, k33, n33⟩, -, X33, ⟨Lc33, hQ33, l33, y33, z33⟩, st33⟩ := Jvm.LawKit.callS X25 hx (y := (⟨"java/util/Objects", "requireNonNull", "(Ljava/lang/Object;Ljava/lang/String;)Ljava/lang/Object;"⟩ : MethodName)) hown25 (mvT hZ25 (hw _ (List.mem_of_getElem? (i := 41) rfl))) (mvT hZ25 (hw _ (List.mem_of_getElem? (i := 42) rfl))) (mvT hZ25 (hw _ (List.mem_of_getElem? (i := 43) rfl))) (mvT hZ25 (hw _ (List.mem_of_getElem? (i := 44) rfl))) (by decide) (backOf (W := 0) (rm := ({ frames := 0, cells := 0, slots := 0, locals := 0 } : Room)) (rm8 l Z a0 hw [] a3 o25 h25 n0) hZ25 (hw _ (List.mem_of_getElem? (i := 44) rfl)) (hw _ (List.mem_of_getElem? (i := 43) rfl)) (by decide) (by decide)) (g := (mkF m 14 #[.val (.ref a1), .val (.ref a2), .val (.ref a3), .val (.long q4), .second, .val .null, .val (.long q6), .second] [(.ref o25), (.ref a3)])) rfl (by rw [hml]; rfl) (argsL := [(.ref a3), (.ref o25)]) (rest := []) (lenOf pd__Ljava_lang_Object_Ljava_lang_String__Ljava_lang_Object_ rfl) rfl (by show 2 * 0 + _ ≤ _; exact Nat.le_of_eq rfl) (hb hby d6_14) (fun _ _ => ⟨rfl, e25, (by decide : 4 + 0 ≤ _), (by decide : 36 + 0 ≤ _)⟩)
  dsimp only [Pt.U, Pt.locs, Pt.cells, Pt.slots] at X33 l33 y33 z33 st33 hQ33
  subst l33 y33 z33
  obtain ⟨rfl, N33q, K33q⟩ := hQ33
  refine own_stS st33 ?_
  have N33 := Fr.app N17 N33q
  have K33 : Keep h0 T33.heap [a1] := K32.trans K33q (own_all0 )
  have F34 : Exa Z T33.heap a1 "com/example/partwise/partwise/Part" := (F26.keep K33q)
  have F35 : Fld Z T33.heap a1 "com/example/partwise/partwise/Part" "table" "Ljava/lang/String;" .null := (F27.keep K33q (own_nin0 ))
  have F36 : Fld Z T33.heap a1 "com/example/partwise/partwise/Part" "id" "Ljava/lang/String;" .null := (F28.keep K33q (own_nin0 ))
  have F37 : Fld Z T33.heap a1 "com/example/partwise/partwise/Part" "rows" "J" (.long (0 : Int64)) := (F29.keep K33q (own_nin0 ))
  have F38 : Fld Z T33.heap a1 "com/example/partwise/partwise/Part" "inline" "Ljava/lang/String;" .null := (F30.keep K33q (own_nin0 ))
  have F39 : Fld Z T33.heap a1 "com/example/partwise/partwise/Part" "addedBy" "J" (.long (0 : Int64)) := (F31.keep K33q (own_nin0 ))
  show OGS _ _ p e _ s below _ T33 (mkF m 17 #[.val (.ref a1), .val (.ref a2), .val (.ref a3), .val (.long q4), .second, .val .null, .val (.long q6), .second] [(.ref a3)])
  have CR40 : CHr Z EL0 s.vm h0 T25.vm T33.heap := CHr.trans CR25 (CHr.keep K33q (own_all0 ) Cq25.1)
  have CH40 : CHv Z EL0 T25.vm T33.heap := CHv.keep K33q (own_all0 ) Cq25.1
  have hk40 := Nat.le_trans hk25 K33q.1
  refine own_stS (fun t k => XS.pop X33.here hx rfl (hb hby d6_17) rfl rfl k) ?_
  show OGS _ _ p e _ s below _ T33 (mkF m 18 #[.val (.ref a1), .val (.ref a2), .val (.ref a3), .val (.long q4), .second, .val .null, .val (.long q6), .second] [])
  refine own_stS (fun t k => XS.aloadN X33.here hx rfl (hb hby d6_18) rfl rfl k) ?_
  show OGS _ _ p e _ s below _ T33 (mkF m 19 #[.val (.ref a1), .val (.ref a2), .val (.ref a3), .val (.long q4), .second, .val .null, .val (.long q6), .second] [(.ref a1)])
  refine own_stS (fun t k => XS.aloadN X33.here hx rfl (hb hby d6_19) rfl rfl k) ?_
  show OGS _ _ p e _ s below _ T33 (mkF m 20 #[.val (.ref a1), .val (.ref a2), .val (.ref a3), .val (.long q4), .second, .val .null, .val (.long q6), .second] [(.ref a2), (.ref a1)])
  obtain ⟨T41, h41, X41, e41, W41, st41⟩ := putF X33 hx hZ25 hown25 (host := "") (Or.inl (hw _ (List.mem_of_getElem? (i := 46) rfl))) Via.refl rfl F35 F34 (Or.inr ⟨(hw _ (List.mem_of_getElem? (i := 47) rfl)), rfl, hnm⟩) (hw _ (List.mem_of_getElem? (i := 27) rfl)) (ty := (.object "java/lang/String")) (by decide) rfl rfl (g := (mkF m 20 #[.val (.ref a1), .val (.ref a2), .val (.ref a3), .val (.long q4), .second, .val .null, .val (.long q6), .second] [(.ref a2), (.ref a1)])) rfl rfl (hb hby d6_20)
  refine own_stS st41 ?_
  have N41 := Fr.snoc X41 N33 g_a1
  have K42 : Keep h0 h41 [a1] := K33.wr W41 (Or.inl (List.mem_of_getElem? (i := 0) rfl))
  have F43 : Exa Z h41 a1 "com/example/partwise/partwise/Part" := (F34.wr W41)
  have F44 : Fld Z h41 a1 "com/example/partwise/partwise/Part" "table" "Ljava/lang/String;" (.ref a2) := (F35.same W41)
  have F45 : Fld Z h41 a1 "com/example/partwise/partwise/Part" "id" "Ljava/lang/String;" .null := (F36.other W41 (Or.inr (slot_ne (Or.inr (hw _ (List.mem_of_getElem? (i := 49) rfl))) (Or.inr (hw _ (List.mem_of_getElem? (i := 47) rfl))) (by decide) (t := (.object "java/lang/String")) (t' := (.object "java/lang/String")) (by decide) (by decide))))
  have F46 : Fld Z h41 a1 "com/example/partwise/partwise/Part" "rows" "J" (.long (0 : Int64)) := (F37.other W41 (Or.inr (slot_ne (Or.inr (hw _ (List.mem_of_getElem? (i := 51) rfl))) (Or.inr (hw _ (List.mem_of_getElem? (i := 47) rfl))) (by decide) (t := .long) (t' := (.object "java/lang/String")) (by decide) (by decide))))
  have F47 : Fld Z h41 a1 "com/example/partwise/partwise/Part" "inline" "Ljava/lang/String;" .null := (F38.other W41 (Or.inr (slot_ne (Or.inr (hw _ (List.mem_of_getElem? (i := 53) rfl))) (Or.inr (hw _ (List.mem_of_getElem? (i := 47) rfl))) (by decide) (t := (.object "java/lang/String")) (t' := (.object "java/lang/String")) (by decide) (by decide))))
  have F48 : Fld Z h41 a1 "com/example/partwise/partwise/Part" "addedBy" "J" (.long (0 : Int64)) := (F39.other W41 (Or.inr (slot_ne (Or.inr (hw _ (List.mem_of_getElem? (i := 55) rfl))) (Or.inr (hw _ (List.mem_of_getElem? (i := 47) rfl))) (by decide) (t := .long) (t' := (.object "java/lang/String")) (by decide) (by decide))))
  show OGS _ _ p e _ s below _ T41 (mkF m 23 #[.val (.ref a1), .val (.ref a2), .val (.ref a3), .val (.long q4), .second, .val .null, .val (.long q6), .second] [])
  have CR49 : CHr Z EL0 s.vm h0 T25.vm h41 := CHr.trans CR40 (CHr.wr W41 (Safe.exa hZ25.alike F34 (by decide) (by decide)) CH40)
  have CH49 : CHv Z EL0 T25.vm h41 := CHv.wr W41 (Safe.exa hZ25.alike F34 (by decide) (by decide)) CH40
  have hk49 := Nat.le_trans hk40 (Keep.of_wr W41).1
  refine own_stS (fun t k => XS.aloadN X41.here hx rfl (hb hby d6_23) rfl rfl k) ?_
  show OGS _ _ p e _ s below _ T41 (mkF m 24 #[.val (.ref a1), .val (.ref a2), .val (.ref a3), .val (.long q4), .second, .val .null, .val (.long q6), .second] [(.ref a1)])
  refine own_stS (fun t k => XS.aloadN X41.here hx rfl (hb hby d6_24) rfl rfl k) ?_
  show OGS _ _ p e _ s below _ T41 (mkF m 25 #[.val (.ref a1), .val (.ref a2), .val (.ref a3), .val (.long q4), .second, .val .null, .val (.long q6), .second] [(.ref a3), (.ref a1)])
  obtain ⟨T50, h50, X50, e50, W50, st50⟩ := putF X41 hx hZ25 hown25 (host := "") (Or.inl (hw _ (List.mem_of_getElem? (i := 48) rfl))) Via.refl e41 F45 F43 (Or.inr ⟨(hw _ (List.mem_of_getElem? (i := 49) rfl)), rfl, hnm⟩) (hw _ (List.mem_of_getElem? (i := 27) rfl)) (ty := (.object "java/lang/String")) (by decide) rfl rfl (g := (mkF m 25 #[.val (.ref a1), .val (.ref a2), .val (.ref a3), .val (.long q4), .second, .val .null, .val (.long q6), .second] [(.ref a3), (.ref a1)])) rfl rfl (hb hby d6_25)
  refine own_stS st50 ?_
  have N50 := Fr.snoc X50 N41 g_a1
  have K51 : Keep h0 h50 [a1] := K42.wr W50 (Or.inl (List.mem_of_getElem? (i := 0) rfl))
  have F52 : Exa Z h50 a1 "com/example/partwise/partwise/Part" := (F43.wr W50)
  have F53 : Fld Z h50 a1 "com/example/partwise/partwise/Part" "table" "Ljava/lang/String;" (.ref a2) := (F44.other W50 (Or.inr (slot_ne (Or.inr (hw _ (List.mem_of_getElem? (i := 47) rfl))) (Or.inr (hw _ (List.mem_of_getElem? (i := 49) rfl))) (by decide) (t := (.object "java/lang/String")) (t' := (.object "java/lang/String")) (by decide) (by decide))))
  have F54 : Fld Z h50 a1 "com/example/partwise/partwise/Part" "id" "Ljava/lang/String;" (.ref a3) := (F45.same W50)
  have F55 : Fld Z h50 a1 "com/example/partwise/partwise/Part" "rows" "J" (.long (0 : Int64)) := (F46.other W50 (Or.inr (slot_ne (Or.inr (hw _ (List.mem_of_getElem? (i := 51) rfl))) (Or.inr (hw _ (List.mem_of_getElem? (i := 49) rfl))) (by decide) (t := .long) (t' := (.object "java/lang/String")) (by decide) (by decide))))
  have F56 : Fld Z h50 a1 "com/example/partwise/partwise/Part" "inline" "Ljava/lang/String;" .null := (F47.other W50 (Or.inr (slot_ne (Or.inr (hw _ (List.mem_of_getElem? (i := 53) rfl))) (Or.inr (hw _ (List.mem_of_getElem? (i := 49) rfl))) (by decide) (t := (.object "java/lang/String")) (t' := (.object "java/lang/String")) (by decide) (by decide))))
  have F57 : Fld Z h50 a1 "com/example/partwise/partwise/Part" "addedBy" "J" (.long (0 : Int64)) := (F48.other W50 (Or.inr (slot_ne (Or.inr (hw _ (List.mem_of_getElem? (i := 55) rfl))) (Or.inr (hw _ (List.mem_of_getElem? (i := 49) rfl))) (by decide) (t := .long) (t' := (.object "java/lang/String")) (by decide) (by decide))))
  show OGS _ _ p e _ s below _ T50 (mkF m 28 #[.val (.ref a1), .val (.ref a2), .val (.ref a3), .val (.long q4), .second, .val .null, .val (.long q6), .second] [])
  have CR58 : CHr Z EL0 s.vm h0 T25.vm h50 := CHr.trans CR49 (CHr.wr W50 (Safe.exa hZ25.alike F43 (by decide) (by decide)) CH49)
  have CH58 : CHv Z EL0 T25.vm h50 := CHv.wr W50 (Safe.exa hZ25.alike F43 (by decide) (by decide)) CH49
  have hk58 := Nat.le_trans hk49 (Keep.of_wr W50).1
  refine own_stS (fun t k => XS.aloadN X50.here hx rfl (hb hby d6_28) rfl rfl k) ?_
  show OGS _ _ p e _ s below _ T50 (mkF m 29 #[.val (.ref a1), .val (.ref a2), .val (.ref a3), .val (.long q4), .second, .val .null, .val (.long q6), .second] [(.ref a1)])
  refine own_stS (fun t k => XS.lloadN X50.here hx rfl (hb hby d6_29) rfl k) ?_
  show OGS _ _ p e _ s below _ T50 (mkF m 30 #[.val (.ref a1), .val (.ref a2), .val (.ref a3), .val (.long q4), .second, .val .null, .val (.long q6), .second] [(.long q4), (.ref a1)])
  obtain ⟨T59, h59, X59, e59, W59, st59⟩ := putF X50 hx hZ25 hown25 (host := "") (Or.inl (hw _ (List.mem_of_getElem? (i := 50) rfl))) Via.refl e50 F55 F52 (Or.inr ⟨(hw _ (List.mem_of_getElem? (i := 51) rfl)), rfl, hnm⟩) (hw _ (List.mem_of_getElem? (i := 27) rfl)) (ty := .long) (by decide) rfl rfl (g := (mkF m 30 #[.val (.ref a1), .val (.ref a2), .val (.ref a3), .val (.long q4), .second, .val .null, .val (.long q6), .second] [(.long q4), (.ref a1)])) rfl rfl (hb hby d6_30)
  refine own_stS st59 ?_
  have N59 := Fr.snoc X59 N50 g_a1
  have K60 : Keep h0 h59 [a1] := K51.wr W59 (Or.inl (List.mem_of_getElem? (i := 0) rfl))
  have F61 : Exa Z h59 a1 "com/example/partwise/partwise/Part" := (F52.wr W59)
  have F62 : Fld Z h59 a1 "com/example/partwise/partwise/Part" "table" "Ljava/lang/String;" (.ref a2) := (F53.other W59 (Or.inr (slot_ne (Or.inr (hw _ (List.mem_of_getElem? (i := 47) rfl))) (Or.inr (hw _ (List.mem_of_getElem? (i := 51) rfl))) (by decide) (t := (.object "java/lang/String")) (t' := .long) (by decide) (by decide))))
  have F63 : Fld Z h59 a1 "com/example/partwise/partwise/Part" "id" "Ljava/lang/String;" (.ref a3) := (F54.other W59 (Or.inr (slot_ne (Or.inr (hw _ (List.mem_of_getElem? (i := 49) rfl))) (Or.inr (hw _ (List.mem_of_getElem? (i := 51) rfl))) (by decide) (t := (.object "java/lang/String")) (t' := .long) (by decide) (by decide))))
  have F64 : Fld Z h59 a1 "com/example/partwise/partwise/Part" "rows" "J" (.long q4) := (F55.same W59)
  have F65 : Fld Z h59 a1 "com/example/partwise/partwise/Part" "inline" "Ljava/lang/String;" .null := (F56.other W59 (Or.inr (slot_ne (Or.inr (hw _ (List.mem_of_getElem? (i := 53) rfl))) (Or.inr (hw _ (List.mem_of_getElem? (i := 51) rfl))) (by decide) (t := (.object "java/lang/String")) (t' := .long) (by decide) (by decide))))
  have F66 : Fld Z h59 a1 "com/example/partwise/partwise/Part" "addedBy" "J" (.long (0 : Int64)) := (F57.other W59 (Or.inr (slot_ne (Or.inr (hw _ (List.mem_of_getElem? (i := 55) rfl))) (Or.inr (hw _ (List.mem_of_getElem? (i := 51) rfl))) (by decide) (t := .long) (t' := .long) (by decide) (by decide))))
  show OGS _ _ p e _ s below _ T59 (mkF m 33 #[.val (.ref a1), .val (.ref a2), .val (.ref a3), .val (.long q4), .second, .val .null, .val (.long q6), .second] [])
  have CR67 : CHr Z EL0 s.vm h0 T25.vm h59 := CHr.trans CR58 (CHr.wr W59 (Safe.exa hZ25.alike F52 (by decide) (by decide)) CH58)
  have CH67 : CHv Z EL0 T25.vm h59 := CHv.wr W59 (Safe.exa hZ25.alike F52 (by decide) (by decide)) CH58
  have hk67 := Nat.le_trans hk58 (Keep.of_wr W59).1
  refine own_stS (fun t k => XS.aloadN X59.here hx rfl (hb hby d6_33) rfl rfl k) ?_
  show OGS _ _ p e _ s below _ T59 (mkF m 34 #[.val (.ref a1), .val (.ref a2), .val (.ref a3), .val (.long q4), .second, .val .null, .val (.long q6), .second] [(.ref a1)])
  refine own_stS (fun t k => XS.aload X59.here hx rfl (hb hby d6_34) rfl rfl k) ?_
  show OGS _ _ p e _ s below _ T59 (mkF m 36 #[.val (.ref a1), .val (.ref a2), .val (.ref a3), .val (.long q4), .second, .val .null, .val (.long q6), .second] [.null, (.ref a1)])
  obtain ⟨T68, h68, X68, e68, W68, st68⟩ := putF X59 hx hZ25 hown25 (host := "") (Or.inl (hw _ (List.mem_of_getElem? (i := 52) rfl))) Via.refl e59 F65 F61 (Or.inr ⟨(hw _ (List.mem_of_getElem? (i := 53) rfl)), rfl, hnm⟩) (hw _ (List.mem_of_getElem? (i := 27) rfl)) (ty := (.object "java/lang/String")) (by decide) rfl rfl (g := (mkF m 36 #[.val (.ref a1), .val (.ref a2), .val (.ref a3), .val (.long q4), .second, .val .null, .val (.long q6), .second] [.null, (.ref a1)])) rfl rfl (hb hby d6_36)
  refine own_stS st68 ?_
  have N68 := Fr.snoc X68 N59 g_a1
  have K69 : Keep h0 h68 [a1] := K60.wr W68 (Or.inl (List.mem_of_getElem? (i := 0) rfl))
  have F70 : Exa Z h68 a1 "com/example/partwise/partwise/Part" := (F61.wr W68)
  have F71 : Fld Z h68 a1 "com/example/partwise/partwise/Part" "table" "Ljava/lang/String;" (.ref a2) := (F62.other W68 (Or.inr (slot_ne (Or.inr (hw _ (List.mem_of_getElem? (i := 47) rfl))) (Or.inr (hw _ (List.mem_of_getElem? (i := 53) rfl))) (by decide) (t := (.object "java/lang/String")) (t' := (.object "java/lang/String")) (by decide) (by decide))))
  have F72 : Fld Z h68 a1 "com/example/partwise/partwise/Part" "id" "Ljava/lang/String;" (.ref a3) := (F63.other W68 (Or.inr (slot_ne (Or.inr (hw _ (List.mem_of_getElem? (i := 49) rfl))) (Or.inr (hw _ (List.mem_of_getElem? (i := 53) rfl))) (by decide) (t := (.object "java/lang/String")) (t' := (.object "java/lang/String")) (by decide) (by decide))))
  have F73 : Fld Z h68 a1 "com/example/partwise/partwise/Part" "rows" "J" (.long q4) := (F64.other W68 (Or.inr (slot_ne (Or.inr (hw _ (List.mem_of_getElem? (i := 51) rfl))) (Or.inr (hw _ (List.mem_of_getElem? (i := 53) rfl))) (by decide) (t := .long) (t' := (.object "java/lang/String")) (by decide) (by decide))))
  have F74 : Fld Z h68 a1 "com/example/partwise/partwise/Part" "inline" "Ljava/lang/String;" .null := (F65.same W68)
  have F75 : Fld Z h68 a1 "com/example/partwise/partwise/Part" "addedBy" "J" (.long (0 : Int64)) := (F66.other W68 (Or.inr (slot_ne (Or.inr (hw _ (List.mem_of_getElem? (i := 55) rfl))) (Or.inr (hw _ (List.mem_of_getElem? (i := 53) rfl))) (by decide) (t := .long) (t' := (.object "java/lang/String")) (by decide) (by decide))))
  show OGS _ _ p e _ s below _ T68 (mkF m 39 #[.val (.ref a1), .val (.ref a2), .val (.ref a3), .val (.long q4), .second, .val .null, .val (.long q6), .second] [])
  have CR76 : CHr Z EL0 s.vm h0 T25.vm h68 := CHr.trans CR67 (CHr.wr W68 (Safe.exa hZ25.alike F61 (by decide) (by decide)) CH67)
  have CH76 : CHv Z EL0 T25.vm h68 := CHv.wr W68 (Safe.exa hZ25.alike F61 (by decide) (by decide)) CH67
  have hk76 := Nat.le_trans hk67 (Keep.of_wr W68).1
  refine own_stS (fun t k => XS.aloadN X68.here hx rfl (hb hby d6_39) rfl rfl k) ?_
  show OGS _ _ p e _ s below _ T68 (mkF m 40 #[.val (.ref a1), .val (.ref a2), .val (.ref a3), .val (.long q4), .second, .val .null, .val (.long q6), .second] [(.ref a1)])
  refine own_stS (fun t k => XS.lload X68.here hx rfl (hb hby d6_40) rfl k) ?_
  show OGS _ _ p e _ s below _ T68 (mkF m 42 #[.val (.ref a1), .val (.ref a2), .val (.ref a3), .val (.long q4), .second, .val .null, .val (.long q6), .second] [(.long q6), (.ref a1)])
  obtain ⟨T77, h77, X77, e77, W77, st77⟩ := putF X68 hx hZ25 hown25 (host := "") (Or.inl (hw _ (List.mem_of_getElem? (i := 54) rfl))) Via.refl e68 F75 F70 (Or.inr ⟨(hw _ (List.mem_of_getElem? (i := 55) rfl)), rfl, hnm⟩) (hw _ (List.mem_of_getElem? (i := 27) rfl)) (ty := .long) (by decide) rfl rfl (g := (mkF m 42 #[.val (.ref a1), .val (.ref a2), .val (.ref a3), .val (.long q4), .second, .val .null, .val (.long q6), .second] [(.long q6), (.ref a1)])) rfl rfl (hb hby d6_42)
  refine own_stS st77 ?_
  have N77 := Fr.snoc X77 N68 g_a1
  have K78 : Keep h0 h77 [a1] := K69.wr W77 (Or.inl (List.mem_of_getElem? (i := 0) rfl))
  have F79 : Exa Z h77 a1 "com/example/partwise/partwise/Part" := (F70.wr W77)
  have F80 : Fld Z h77 a1 "com/example/partwise/partwise/Part" "table" "Ljava/lang/String;" (.ref a2) := (F71.other W77 (Or.inr (slot_ne (Or.inr (hw _ (List.mem_of_getElem? (i := 47) rfl))) (Or.inr (hw _ (List.mem_of_getElem? (i := 55) rfl))) (by decide) (t := (.object "java/lang/String")) (t' := .long) (by decide) (by decide))))
  have F81 : Fld Z h77 a1 "com/example/partwise/partwise/Part" "id" "Ljava/lang/String;" (.ref a3) := (F72.other W77 (Or.inr (slot_ne (Or.inr (hw _ (List.mem_of_getElem? (i := 49) rfl))) (Or.inr (hw _ (List.mem_of_getElem? (i := 55) rfl))) (by decide) (t := (.object "java/lang/String")) (t' := .long) (by decide) (by decide))))
  have F82 : Fld Z h77 a1 "com/example/partwise/partwise/Part" "rows" "J" (.long q4) := (F73.other W77 (Or.inr (slot_ne (Or.inr (hw _ (List.mem_of_getElem? (i := 51) rfl))) (Or.inr (hw _ (List.mem_of_getElem? (i := 55) rfl))) (by decide) (t := .long) (t' := .long) (by decide) (by decide))))
  have F83 : Fld Z h77 a1 "com/example/partwise/partwise/Part" "inline" "Ljava/lang/String;" .null := (F74.other W77 (Or.inr (slot_ne (Or.inr (hw _ (List.mem_of_getElem? (i := 53) rfl))) (Or.inr (hw _ (List.mem_of_getElem? (i := 55) rfl))) (by decide) (t := (.object "java/lang/String")) (t' := .long) (by decide) (by decide))))
  have F84 : Fld Z h77 a1 "com/example/partwise/partwise/Part" "addedBy" "J" (.long q6) := (F75.same W77)
  show OGS _ _ p e _ s below _ T77 (mkF m 45 #[.val (.ref a1), .val (.ref a2), .val (.ref a3), .val (.long q4), .second, .val .null, .val (.long q6), .second] [])
  have CR85 : CHr Z EL0 s.vm h0 T25.vm h77 := CHr.trans CR76 (CHr.wr W77 (Safe.exa hZ25.alike F70 (by decide) (by decide)) CH76)
  have CH85 : CHv Z EL0 T25.vm h77 := CHv.wr W77 (Safe.exa hZ25.alike F70 (by decide) (by decide)) CH76
  have hk85 := Nat.le_trans hk76 (Keep.of_wr W77).1
  refine own_endS X77 hlk hZ25 hEL e77 hs0 hS25 hk85 CH85 CR85 (v := none) (fun _ => rfl) (by decide) (by decide) ?_ (fun fs hr => X77.returnOut hx hret (hb hby d6_45) hr)
  exact ⟨rfl, N77, K78, F79, F80, F81, F82, F83, F84⟩
theorem d9_0 : decode prog_54_method_3_code 0 = .ok (.aload_n 0, 1) := by decide +kernel
theorem d9_1 : decode prog_54_method_3_code 1 = .ok (.getfield 28, 3) := by decide +kernel
theorem d9_4 : decode prog_54_method_3_code 4 = .ok (.ifnonnull 7, 3) := by decide +kernel
theorem d9_11 : decode prog_54_method_3_code 11 = .ok (.iconst 0, 1) := by decide +kernel
theorem d9_12 : decode prog_54_method_3_code 12 = .ok (.ireturn, 1) := by decide +kernel
theorem pn_9 : plainFor (⟨"com/example/partwise/partwise/Part", "inFile", "()Z"⟩ : MethodName) = true := by first | exact plainFor_of_name (by first | (simp [plainName, overriddenIn]; done) | decide +kernel) | decide +kernel
def f9_r  : Int32 := (0 : Int32)
theorem ef_9 (m : MethodId) (a1 : Addr) : entryFrame m #[(.ref a1)] 1 = (mkF m 0 #[.val (.ref a1)] []) := by first | (simp [entryFrame, mkF, argsToLocals, Value.category]; done) | rfl
abbrev Q9_r (Z : State) (a1 : Addr) (z : Addr) (h0 : Heap)  : Option Value → Heap → List Loc → Prop := (fun v h L => v = some (.int f9_r) ∧ L = [] ∧ h = h0)
set_option maxRecDepth 65536 in
set_option maxHeartbeats 40000000 in
theorem rm9_r (l : Launch) (Z : State) (a0 : Array Value) (hw : ∀ d ∈ tables_1, d.before a0 Z = true) (ws : List Jvm.Cond) (a1 : Addr) (z : Addr) (h0 : Heap) (R0 : Fld Z h0 a1 "com/example/partwise/partwise/Part" "inline" "Ljava/lang/String;" (.ref z)) :
    OMet l Z (⟨"com/example/partwise/partwise/Part", "inFile", "()Z"⟩ : MethodName) prog_54_method_3_code 1 (some .boolean) ws ({ frames := 0, cells := 0, slots := 0, locals := 0 } : Room) #[(.ref a1)] h0 (Q9_r Z a1 z h0) := by
  refine own_enter pn_9 ?_
  intro p e s m below meth c s₁ hx hby hml0 hown hret hlk hnm hZ X0 e0
  have hml : c.maxLocals = 1 := hml0
  refine own_cast (ef_9 m a1) ?_
  show OG p e ({ frames := 0, cells := 0, slots := 0, locals := 0 } : Room) s below (fun v h L => v = some (.int f9_r) ∧ L = [] ∧ h = h0) s₁ (mkF m 0 #[.val (.ref a1)] [])
  refine own_st (fun t k => XS.aloadN X0.here hx rfl (hb hby d9_0) rfl rfl k) ?_
  show OG p e _ s below _ s₁ (mkF m 1 #[.val (.ref a1)] [(.ref a1)])
  obtain ⟨T1, X1, e1, st1⟩ := getF X0 hx hZ hown (host := "") (Or.inl (hw _ (List.mem_of_getElem? (i := 52) rfl))) Via.refl e0 R0 (g := (mkF m 1 #[.val (.ref a1)] [(.ref a1)])) rfl rfl (hb hby d9_1)
  refine own_st st1 ?_
  show OG p e _ s below _ T1 (mkF m 4 #[.val (.ref a1)] [(.ref z)])
  refine own_st (fun t k => XS.ifnonnullYes X1.here hx rfl (pc0 := 4) (pc' := 11) rfl (hb hby d9_4) rfl (by decide) (by decide) k) ?_
  show OG p e _ s below _ T1 (mkF m 11 #[.val (.ref a1)] [])
  refine own_st (fun t k => XS.iconst X1.here hx rfl (hb hby d9_11) k) ?_
  show OG p e _ s below _ T1 (mkF m 12 #[.val (.ref a1)] [(.int (0 : Int32))])
  exact own_retZ X1 hx (t := .boolean) hret (by simp) hlk (hb hby d9_12) (by decide) (by decide) (w := (0 : Int32)) rfl ⟨congrArg (fun z => some (Value.int z)) (show f9_r  = (0 : Int32) from (by rw [f9_r])).symm, rfl, e1⟩
theorem d9_7 : decode prog_54_method_3_code 7 = .ok (.iconst 1, 1) := by decide +kernel
theorem d9_8 : decode prog_54_method_3_code 8 = .ok (.goto 4, 3) := by decide +kernel
def f9_n  : Int32 := (1 : Int32)
abbrev Q9_n (Z : State) (a1 : Addr) (h0 : Heap)  : Option Value → Heap → List Loc → Prop := (fun v h L => v = some (.int f9_n) ∧ L = [] ∧ h = h0)
set_option maxRecDepth 65536 in
set_option maxHeartbeats 40000000 in
theorem rm9_n (l : Launch) (Z : State) (a0 : Array Value) (hw : ∀ d ∈ tables_1, d.before a0 Z = true) (ws : List Jvm.Cond) (a1 : Addr) (h0 : Heap) (R0 : Fld Z h0 a1 "com/example/partwise/partwise/Part" "inline" "Ljava/lang/String;" .null) :
    OMet l Z (⟨"com/example/partwise/partwise/Part", "inFile", "()Z"⟩ : MethodName) prog_54_method_3_code 1 (some .boolean) ws ({ frames := 0, cells := 0, slots := 0, locals := 0 } : Room) #[(.ref a1)] h0 (Q9_n Z a1 h0) := by
  refine own_enter pn_9 ?_
  intro p e s m below meth c s₁ hx hby hml0 hown hret hlk hnm hZ X0 e0
  have hml : c.maxLocals = 1 := hml0
  refine own_cast (ef_9 m a1) ?_
  show OG p e ({ frames := 0, cells := 0, slots := 0, locals := 0 } : Room) s below (fun v h L => v = some (.int f9_n) ∧ L = [] ∧ h = h0) s₁ (mkF m 0 #[.val (.ref a1)] [])
  refine own_st (fun t k => XS.aloadN X0.here hx rfl (hb hby d9_0) rfl rfl k) ?_
  show OG p e _ s below _ s₁ (mkF m 1 #[.val (.ref a1)] [(.ref a1)])
  obtain ⟨T1, X1, e1, st1⟩ := getF X0 hx hZ hown (host := "") (Or.inl (hw _ (List.mem_of_getElem? (i := 52) rfl))) Via.refl e0 R0 (g := (mkF m 1 #[.val (.ref a1)] [(.ref a1)])) rfl rfl (hb hby d9_1)
  refine own_st st1 ?_
  show OG p e _ s below _ T1 (mkF m 4 #[.val (.ref a1)] [.null])
  refine own_st (fun t k => XS.ifnonnullNo X1.here hx rfl (hb hby d9_4) rfl k) ?_
  show OG p e _ s below _ T1 (mkF m 7 #[.val (.ref a1)] [])
  refine own_st (fun t k => XS.iconst X1.here hx rfl (hb hby d9_7) k) ?_
  show OG p e _ s below _ T1 (mkF m 8 #[.val (.ref a1)] [(.int (1 : Int32))])
  refine own_st (fun t k => XS.goto X1.here hx rfl (pc0 := 8) (pc' := 12) rfl (hb hby d9_8) (by decide) (by decide) k) ?_
  show OG p e _ s below _ T1 (mkF m 12 #[.val (.ref a1)] [(.int (1 : Int32))])
  exact own_retZ X1 hx (t := .boolean) hret (by simp) hlk (hb hby d9_12) (by decide) (by decide) (w := (1 : Int32)) rfl ⟨congrArg (fun z => some (Value.int z)) (show f9_n  = (1 : Int32) from (by rw [f9_n])).symm, rfl, e1⟩
theorem d10_0 : decode prog_54_method_5_code 0 = .ok (.new 18, 3) := by decide +kernel
theorem d10_3 : decode prog_54_method_5_code 3 = .ok (.dup, 1) := by decide +kernel
theorem d10_4 : decode prog_54_method_5_code 4 = .ok (.aload_n 0, 1) := by decide +kernel
theorem d10_5 : decode prog_54_method_5_code 5 = .ok (.getfield 17, 3) := by decide +kernel
theorem d10_8 : decode prog_54_method_5_code 8 = .ok (.aload_n 0, 1) := by decide +kernel
theorem d10_9 : decode prog_54_method_5_code 9 = .ok (.getfield 22, 3) := by decide +kernel
theorem d10_12 : decode prog_54_method_5_code 12 = .ok (.aload_n 0, 1) := by decide +kernel
theorem d10_13 : decode prog_54_method_5_code 13 = .ok (.getfield 24, 3) := by decide +kernel
theorem d10_16 : decode prog_54_method_5_code 16 = .ok (.aload_n 0, 1) := by decide +kernel
theorem d10_17 : decode prog_54_method_5_code 17 = .ok (.getfield 28, 3) := by decide +kernel
theorem d10_20 : decode prog_54_method_5_code 20 = .ok (.lload_n 1, 1) := by decide +kernel
theorem d10_21 : decode prog_54_method_5_code 21 = .ok (.invokespecial 34, 3) := by decide +kernel
theorem d10_24 : decode prog_54_method_5_code 24 = .ok (.areturn, 1) := by decide +kernel
theorem pd__Ljava_lang_String_Ljava_lang_String_JLjava_lang_String_J_V : parseMethodDescriptor "(Ljava/lang/String;Ljava/lang/String;JLjava/lang/String;J)V" = some ⟨[(.object "java/lang/String"), (.object "java/lang/String"), .long, (.object "java/lang/String"), .long], none⟩ := by decide +kernel
theorem pn_10 : plainFor (⟨"com/example/partwise/partwise/Part", "asAddedBy", "(J)Lcom/example/partwise/partwise/Part;"⟩ : MethodName) = true := by first | exact plainFor_of_name (by first | (simp [plainName, overriddenIn]; done) | decide +kernel) | decide +kernel
theorem ef_10 (m : MethodId) (a1 : Addr) (q2 : Int64) : entryFrame m #[(.ref a1), (.long q2)] 3 = (mkF m 0 #[.val (.ref a1), .val (.long q2), .second] []) := by first | (simp [entryFrame, mkF, argsToLocals, Value.category]; done) | rfl
abbrev Q10_r (Z : State) (a1 : Addr) (q2 : Int64) (t : Addr) (i : Addr) (r : Int64) (z : Addr) (ad : Int64) (h0 : Heap) (n0 : Nat) : Option Value → Heap → List Loc → Prop := (fun v h L => Fr n0 L ∧ Keep h0 h [] ∧ ∃ q : Addr, h0.size ≤ q ∧ v = some (.ref q) ∧ Exa Z h q "com/example/partwise/partwise/Part" ∧ Fld Z h q "com/example/partwise/partwise/Part" "inline" "Ljava/lang/String;" (.ref z))
set_option maxRecDepth 65536 in
set_option maxHeartbeats 40000000 in
theorem rm10_r (l : Launch) (Z : State) (a0 : Array Value) (hw : ∀ d ∈ tables_1, d.before a0 Z = true) (ws : List Jvm.Cond) (a1 : Addr) (q2 : Int64) (t : Addr) (i : Addr) (r : Int64) (z : Addr) (ad : Int64) (h0 : Heap) (n0 : Nat) (Z0 : n0 ≤ h0.size) (R0 : Exa Z h0 a1 "com/example/partwise/partwise/Part") (R1 : Fld Z h0 a1 "com/example/partwise/partwise/Part" "table" "Ljava/lang/String;" (.ref t)) (R2 : Fld Z h0 a1 "com/example/partwise/partwise/Part" "id" "Ljava/lang/String;" (.ref i)) (R3 : Fld Z h0 a1 "com/example/partwise/partwise/Part" "rows" "J" (.long r)) (R4 : Fld Z h0 a1 "com/example/partwise/partwise/Part" "inline" "Ljava/lang/String;" (.ref z)) (R5 : Fld Z h0 a1 "com/example/partwise/partwise/Part" "addedBy" "J" (.long ad)) :
    OMetS l Z EL0 (⟨"com/example/partwise/partwise/Part", "asAddedBy", "(J)Lcom/example/partwise/partwise/Part;"⟩ : MethodName) prog_54_method_5_code 3 (some (.object "com/example/partwise/partwise/Part")) ws ({ frames := 3, cells := 5, slots := 41, locals := 44 } : Room) #[(.ref a1), (.long q2)] h0 (Q10_r Z a1 q2 t i r z ad h0 n0) := by
  refine own_enterS pn_10 ?_
  intro p e s m below meth c s₁ hx hby hml0 hown hret hlk hnm hZ X0 e0 hs0 CH0
  have hEL := own_EW hw
  have hS0 : s.Since s.vm 0 := (State.WarmedH.refl s).since 0
  have hk0 : 0 ≤ h0.size := Nat.zero_le _
  have CR0 : CHr Z EL0 s.vm h0 s.vm h0 := CHr.refl CH0
  have hml : c.maxLocals = 3 := hml0
  have N0 := Fr.nil n0
  refine own_castS (ef_10 m a1 q2) ?_
  show OGS Z EL0 p e ({ frames := 3, cells := 5, slots := 41, locals := 44 } : Room) s below (fun v h L => Fr n0 L ∧ Keep h0 h [] ∧ ∃ q : Addr, h0.size ≤ q ∧ v = some (.ref q) ∧ Exa Z h q "com/example/partwise/partwise/Part" ∧ Fld Z h q "com/example/partwise/partwise/Part" "inline" "Ljava/lang/String;" (.ref z)) s₁ (mkF m 0 #[.val (.ref a1), .val (.long q2), .second] [])
  obtain ⟨T1, h1, X1, e1, E1, A1, D1, -, st1⟩ := newO X0 hx hZ hown (hw _ (List.mem_of_getElem? (i := 66) rfl)) (hw _ (List.mem_of_getElem? (i := 27) rfl)) (hw _ (List.mem_of_getElem? (i := 28) rfl)) e0 (g := (mkF m 0 #[.val (.ref a1), .val (.long q2), .second] [])) rfl (hb hby d10_0) (by decide) (by decide)
  obtain ⟨o1, gb1⟩ : ∃ z, z = h0.size := ⟨_, rfl⟩
  rw [← gb1] at A1 D1 st1
  refine own_stS st1 ?_
  have ge_o1 : n0 ≤ o1 := by rw [gb1]; exact Nat.le_trans Z0 (Keep.refl h0 []).1
  have sz_o1 : h0.size ≤ o1 := by rw [gb1]; exact (Keep.refl h0 []).1
  have ne_a1_o1 : a1 ≠ o1 := Nat.ne_of_lt (Nat.lt_of_lt_of_eq R0.lt gb1.symm)
  have F2 : Exa Z h1 a1 "com/example/partwise/partwise/Part" := (R0.ext E1)
  have F3 : Fld Z h1 a1 "com/example/partwise/partwise/Part" "table" "Ljava/lang/String;" (.ref t) := (R1.ext E1)
  have F4 : Fld Z h1 a1 "com/example/partwise/partwise/Part" "id" "Ljava/lang/String;" (.ref i) := (R2.ext E1)
  have F5 : Fld Z h1 a1 "com/example/partwise/partwise/Part" "rows" "J" (.long r) := (R3.ext E1)
  have F6 : Fld Z h1 a1 "com/example/partwise/partwise/Part" "inline" "Ljava/lang/String;" (.ref z) := (R4.ext E1)
  have F7 : Fld Z h1 a1 "com/example/partwise/partwise/Part" "addedBy" "J" (.long ad) := (R5.ext E1)
  have K8 : Keep h0 h1 [] := (Keep.refl h0 []).ext E1
  have F9 : Fld Z h1 o1 "com/example/partwise/partwise/Part" "table" "Ljava/lang/String;" .null := D1 (Or.inr (hw _ (List.mem_of_getElem? (i := 47) rfl))) (ty := (.object "java/lang/String")) (by decide)
  have F10 : Fld Z h1 o1 "com/example/partwise/partwise/Part" "id" "Ljava/lang/String;" .null := D1 (Or.inr (hw _ (List.mem_of_getElem? (i := 49) rfl))) (ty := (.object "java/lang/String")) (by decide)
  have F11 : Fld Z h1 o1 "com/example/partwise/partwise/Part" "rows" "J" (.long (0 : Int64)) := D1 (Or.inr (hw _ (List.mem_of_getElem? (i := 51) rfl))) (ty := .long) (by decide)
  have F12 : Fld Z h1 o1 "com/example/partwise/partwise/Part" "inline" "Ljava/lang/String;" .null := D1 (Or.inr (hw _ (List.mem_of_getElem? (i := 53) rfl))) (ty := (.object "java/lang/String")) (by decide)
  have F13 : Fld Z h1 o1 "com/example/partwise/partwise/Part" "addedBy" "J" (.long (0 : Int64)) := D1 (Or.inr (hw _ (List.mem_of_getElem? (i := 55) rfl))) (ty := .long) (by decide)
  show OGS _ _ p e _ s below _ T1 (mkF m 3 #[.val (.ref a1), .val (.long q2), .second] [(.ref o1)])
  have CR14 : CHr Z EL0 s.vm h0 s.vm h1 := CHr.trans CR0 (CHr.ext E1 CH0)
  have CH14 : CHv Z EL0 s.vm h1 := CHv.ext E1 CH0
  have hk14 := Nat.le_trans hk0 E1.1
  refine own_stS (fun t k => XS.dup X1.here hx rfl (hb hby d10_3) rfl rfl k) ?_
  show OGS _ _ p e _ s below _ T1 (mkF m 4 #[.val (.ref a1), .val (.long q2), .second] [(.ref o1), (.ref o1)])
  refine own_stS (fun t k => XS.aloadN X1.here hx rfl (hb hby d10_4) rfl rfl k) ?_
  show OGS _ _ p e _ s below _ T1 (mkF m 5 #[.val (.ref a1), .val (.long q2), .second] [(.ref a1), (.ref o1), (.ref o1)])
  obtain ⟨T15, X15, e15, st15⟩ := getF X1 hx hZ hown (host := "") (Or.inl (hw _ (List.mem_of_getElem? (i := 46) rfl))) Via.refl e1 F3 (g := (mkF m 5 #[.val (.ref a1), .val (.long q2), .second] [(.ref a1), (.ref o1), (.ref o1)])) rfl rfl (hb hby d10_5)
  refine own_stS st15 ?_
  show OGS _ _ p e _ s below _ T15 (mkF m 8 #[.val (.ref a1), .val (.long q2), .second] [(.ref t), (.ref o1), (.ref o1)])
  refine own_stS (fun t k => XS.aloadN X15.here hx rfl (hb hby d10_8) rfl rfl k) ?_
  show OGS _ _ p e _ s below _ T15 (mkF m 9 #[.val (.ref a1), .val (.long q2), .second] [(.ref a1), (.ref t), (.ref o1), (.ref o1)])
  obtain ⟨T16, X16, e16, st16⟩ := getF X15 hx hZ hown (host := "") (Or.inl (hw _ (List.mem_of_getElem? (i := 48) rfl))) Via.refl e15 F4 (g := (mkF m 9 #[.val (.ref a1), .val (.long q2), .second] [(.ref a1), (.ref t), (.ref o1), (.ref o1)])) rfl rfl (hb hby d10_9)
  refine own_stS st16 ?_
  show OGS _ _ p e _ s below _ T16 (mkF m 12 #[.val (.ref a1), .val (.long q2), .second] [(.ref i), (.ref t), (.ref o1), (.ref o1)])
  refine own_stS (fun t k => XS.aloadN X16.here hx rfl (hb hby d10_12) rfl rfl k) ?_
  show OGS _ _ p e _ s below _ T16 (mkF m 13 #[.val (.ref a1), .val (.long q2), .second] [(.ref a1), (.ref i), (.ref t), (.ref o1), (.ref o1)])
  obtain ⟨T17, X17, e17, st17⟩ := getF X16 hx hZ hown (host := "") (Or.inl (hw _ (List.mem_of_getElem? (i := 50) rfl))) Via.refl e16 F5 (g := (mkF m 13 #[.val (.ref a1), .val (.long q2), .second] [(.ref a1), (.ref i), (.ref t), (.ref o1), (.ref o1)])) rfl rfl (hb hby d10_13)
  refine own_stS st17 ?_
  show OGS _ _ p e _ s below _ T17 (mkF m 16 #[.val (.ref a1), .val (.long q2), .second] [(.long r), (.ref i), (.ref t), (.ref o1), (.ref o1)])
  refine own_stS (fun t k => XS.aloadN X17.here hx rfl (hb hby d10_16) rfl rfl k) ?_
  show OGS _ _ p e _ s below _ T17 (mkF m 17 #[.val (.ref a1), .val (.long q2), .second] [(.ref a1), (.long r), (.ref i), (.ref t), (.ref o1), (.ref o1)])
  obtain ⟨T18, X18, e18, st18⟩ := getF X17 hx hZ hown (host := "") (Or.inl (hw _ (List.mem_of_getElem? (i := 52) rfl))) Via.refl e17 F6 (g := (mkF m 17 #[.val (.ref a1), .val (.long q2), .second] [(.ref a1), (.long r), (.ref i), (.ref t), (.ref o1), (.ref o1)])) rfl rfl (hb hby d10_17)
  refine own_stS st18 ?_
  show OGS _ _ p e _ s below _ T18 (mkF m 20 #[.val (.ref a1), .val (.long q2), .second] [(.ref z), (.long r), (.ref i), (.ref t), (.ref o1), (.ref o1)])
  refine own_stS (fun t k => XS.lloadN X18.here hx rfl (hb hby d10_20) rfl k) ?_
  show OGS _ _ p e _ s below _ T18 (mkF m 21 #[.val (.ref a1), .val (.long q2), .second] [(.long q2), (.ref z), (.long r), (.ref i), (.ref t), (.ref o1), (.ref o1)])
  obtain ⟨_, _, ⟨T19, L19, k19, n19⟩, -, X19q, hS19q, hg19q, ⟨Lc19, hQ19, l19, y19, z19, Cq19⟩, st19⟩ := X18.specialBackS hx (y := (⟨"com/example/partwise/partwise/Part", "<init>", "(Ljava/lang/String;Ljava/lang/String;JLjava/lang/String;J)V"⟩ : MethodName)) rfl hown (mvT hZ (hw _ (List.mem_of_getElem? (i := 67) rfl))) (mvT hZ (hw _ (List.mem_of_getElem? (i := 30) rfl))) (mvT hZ (hw _ (List.mem_of_getElem? (i := 31) rfl))) (by decide) (backOfSH (EL := EL0) (W := 1) (rm := ({ frames := 2, cells := 4, slots := 36, locals := 24 } : Room)) (rm6_r l Z a0 hw [] o1 t i r z q2 h1 n0 A1 F9 F10 F11 F12 F13 ge_o1) hZ (hw _ (List.mem_of_getElem? (i := 31) rfl)) (hw _ (List.mem_of_getElem? (i := 28) rfl)) (by decide) (by decide) hEL CH14) (g := (mkF m 21 #[.val (.ref a1), .val (.long q2), .second] [(.long q2), (.ref z), (.long r), (.ref i), (.ref t), (.ref o1), (.ref o1)])) rfl (by rw [hml]; rfl) (Steps.refl _) (a := o1) (argsL := [(.ref t), (.ref i), (.long r), (.ref z), (.long q2)]) (rest := [(.ref o1)]) (lenOf pd__Ljava_lang_String_Ljava_lang_String_JLjava_lang_String_J_V rfl) rfl (by show 2 * 0 + _ ≤ _; exact Nat.le_of_eq rfl) (hb hby d10_21) (fun _ _ => ⟨rfl, e18, (by decide : 1 + 4 ≤ _), (by decide : 5 + 36 ≤ _)⟩)
  dsimp only [Pt.U, Pt.locs, Pt.cells, Pt.slots] at X19q hS19q hg19q l19 y19 z19 st19 hQ19 Cq19
  subst l19 y19 z19
  obtain ⟨X19, hS19, hZ19, hown19⟩ := rebS hS0 (by rw [e18]; exact hk14) X19q hS19q hg19q hZ hown
  have CR19 := CHr.trans CR14 Cq19
  have hk19 : T19.heap.size ≤ T19.heap.size := Nat.le_refl _
  obtain ⟨rfl, N19q, K19q, P19_0, P19_1, P19_2, P19_3, P19_4, P19_5⟩ := hQ19
  refine own_stS (fun t k => st19.trans k) ?_
  have N19 := Fr.app N0 N19q
  have K19 : Keep h0 T19.heap [] := K8.trans K19q (own_all1 (Or.inr sz_o1))
  have F20 : Exa Z T19.heap a1 "com/example/partwise/partwise/Part" := (F2.keep K19q)
  have F21 : Fld Z T19.heap a1 "com/example/partwise/partwise/Part" "table" "Ljava/lang/String;" (.ref t) := (F3.keep K19q (own_nin1 ne_a1_o1))
  have F22 : Fld Z T19.heap a1 "com/example/partwise/partwise/Part" "id" "Ljava/lang/String;" (.ref i) := (F4.keep K19q (own_nin1 ne_a1_o1))
  have F23 : Fld Z T19.heap a1 "com/example/partwise/partwise/Part" "rows" "J" (.long r) := (F5.keep K19q (own_nin1 ne_a1_o1))
  have F24 : Fld Z T19.heap a1 "com/example/partwise/partwise/Part" "inline" "Ljava/lang/String;" (.ref z) := (F6.keep K19q (own_nin1 ne_a1_o1))
  have F25 : Fld Z T19.heap a1 "com/example/partwise/partwise/Part" "addedBy" "J" (.long ad) := (F7.keep K19q (own_nin1 ne_a1_o1))
  show OGS _ _ p e _ s below _ T19 (mkF m 24 #[.val (.ref a1), .val (.long q2), .second] [(.ref o1)])
  refine own_endS X19 hlk hZ19 hEL rfl hs0 hS19 hk19 Cq19.1 CR19 (v := some (.ref o1)) (fun h => by rw [hret] at h; cases h) (by decide) (by decide) ?_ (fun fs hr => retOut X19 hx hret rfl (Or.inr (Or.inr (Or.inr (Or.inr ⟨rfl, rfl, rfl⟩)))) (hb hby d10_24) hr)
  exact ⟨N19, K19, o1, sz_o1, rfl, P19_0, P19_4⟩
abbrev Q10_n (Z : State) (a1 : Addr) (q2 : Int64) (t : Addr) (i : Addr) (r : Int64) (ad : Int64) (h0 : Heap) (n0 : Nat) : Option Value → Heap → List Loc → Prop := (fun v h L => Fr n0 L ∧ Keep h0 h [] ∧ ∃ q : Addr, h0.size ≤ q ∧ v = some (.ref q) ∧ Exa Z h q "com/example/partwise/partwise/Part" ∧ Fld Z h q "com/example/partwise/partwise/Part" "inline" "Ljava/lang/String;" .null)
set_option maxRecDepth 65536 in
set_option maxHeartbeats 40000000 in
theorem rm10_n (l : Launch) (Z : State) (a0 : Array Value) (hw : ∀ d ∈ tables_1, d.before a0 Z = true) (ws : List Jvm.Cond) (a1 : Addr) (q2 : Int64) (t : Addr) (i : Addr) (r : Int64) (ad : Int64) (h0 : Heap) (n0 : Nat) (Z0 : n0 ≤ h0.size) (R0 : Exa Z h0 a1 "com/example/partwise/partwise/Part") (R1 : Fld Z h0 a1 "com/example/partwise/partwise/Part" "table" "Ljava/lang/String;" (.ref t)) (R2 : Fld Z h0 a1 "com/example/partwise/partwise/Part" "id" "Ljava/lang/String;" (.ref i)) (R3 : Fld Z h0 a1 "com/example/partwise/partwise/Part" "rows" "J" (.long r)) (R4 : Fld Z h0 a1 "com/example/partwise/partwise/Part" "inline" "Ljava/lang/String;" .null) (R5 : Fld Z h0 a1 "com/example/partwise/partwise/Part" "addedBy" "J" (.long ad)) :
    OMetS l Z EL0 (⟨"com/example/partwise/partwise/Part", "asAddedBy", "(J)Lcom/example/partwise/partwise/Part;"⟩ : MethodName) prog_54_method_5_code 3 (some (.object "com/example/partwise/partwise/Part")) ws ({ frames := 3, cells := 5, slots := 41, locals := 44 } : Room) #[(.ref a1), (.long q2)] h0 (Q10_n Z a1 q2 t i r ad h0 n0) := by
  refine own_enterS pn_10 ?_
  intro p e s m below meth c s₁ hx hby hml0 hown hret hlk hnm hZ X0 e0 hs0 CH0
  have hEL := own_EW hw
  have hS0 : s.Since s.vm 0 := (State.WarmedH.refl s).since 0
  have hk0 : 0 ≤ h0.size := Nat.zero_le _
  have CR0 : CHr Z EL0 s.vm h0 s.vm h0 := CHr.refl CH0
  have hml : c.maxLocals = 3 := hml0
  have N0 := Fr.nil n0
  refine own_castS (ef_10 m a1 q2) ?_
  show OGS Z EL0 p e ({ frames := 3, cells := 5, slots := 41, locals := 44 } : Room) s below (fun v h L => Fr n0 L ∧ Keep h0 h [] ∧ ∃ q : Addr, h0.size ≤ q ∧ v = some (.ref q) ∧ Exa Z h q "com/example/partwise/partwise/Part" ∧ Fld Z h q "com/example/partwise/partwise/Part" "inline" "Ljava/lang/String;" .null) s₁ (mkF m 0 #[.val (.ref a1), .val (.long q2), .second] [])
  obtain ⟨T1, h1, X1, e1, E1, A1, D1, -, st1⟩ := newO X0 hx hZ hown (hw _ (List.mem_of_getElem? (i := 66) rfl)) (hw _ (List.mem_of_getElem? (i := 27) rfl)) (hw _ (List.mem_of_getElem? (i := 28) rfl)) e0 (g := (mkF m 0 #[.val (.ref a1), .val (.long q2), .second] [])) rfl (hb hby d10_0) (by decide) (by decide)
  obtain ⟨o1, gb1⟩ : ∃ z, z = h0.size := ⟨_, rfl⟩
  rw [← gb1] at A1 D1 st1
  refine own_stS st1 ?_
  have ge_o1 : n0 ≤ o1 := by rw [gb1]; exact Nat.le_trans Z0 (Keep.refl h0 []).1
  have sz_o1 : h0.size ≤ o1 := by rw [gb1]; exact (Keep.refl h0 []).1
  have ne_a1_o1 : a1 ≠ o1 := Nat.ne_of_lt (Nat.lt_of_lt_of_eq R0.lt gb1.symm)
  have F2 : Exa Z h1 a1 "com/example/partwise/partwise/Part" := (R0.ext E1)
  have F3 : Fld Z h1 a1 "com/example/partwise/partwise/Part" "table" "Ljava/lang/String;" (.ref t) := (R1.ext E1)
  have F4 : Fld Z h1 a1 "com/example/partwise/partwise/Part" "id" "Ljava/lang/String;" (.ref i) := (R2.ext E1)
  have F5 : Fld Z h1 a1 "com/example/partwise/partwise/Part" "rows" "J" (.long r) := (R3.ext E1)
  have F6 : Fld Z h1 a1 "com/example/partwise/partwise/Part" "inline" "Ljava/lang/String;" .null := (R4.ext E1)
  have F7 : Fld Z h1 a1 "com/example/partwise/partwise/Part" "addedBy" "J" (.long ad) := (R5.ext E1)
  have K8 : Keep h0 h1 [] := (Keep.refl h0 []).ext E1
  have F9 : Fld Z h1 o1 "com/example/partwise/partwise/Part" "table" "Ljava/lang/String;" .null := D1 (Or.inr (hw _ (List.mem_of_getElem? (i := 47) rfl))) (ty := (.object "java/lang/String")) (by decide)
  have F10 : Fld Z h1 o1 "com/example/partwise/partwise/Part" "id" "Ljava/lang/String;" .null := D1 (Or.inr (hw _ (List.mem_of_getElem? (i := 49) rfl))) (ty := (.object "java/lang/String")) (by decide)
  have F11 : Fld Z h1 o1 "com/example/partwise/partwise/Part" "rows" "J" (.long (0 : Int64)) := D1 (Or.inr (hw _ (List.mem_of_getElem? (i := 51) rfl))) (ty := .long) (by decide)
  have F12 : Fld Z h1 o1 "com/example/partwise/partwise/Part" "inline" "Ljava/lang/String;" .null := D1 (Or.inr (hw _ (List.mem_of_getElem? (i := 53) rfl))) (ty := (.object "java/lang/String")) (by decide)
  have F13 : Fld Z h1 o1 "com/example/partwise/partwise/Part" "addedBy" "J" (.long (0 : Int64)) := D1 (Or.inr (hw _ (List.mem_of_getElem? (i := 55) rfl))) (ty := .long) (by decide)
  show OGS _ _ p e _ s below _ T1 (mkF m 3 #[.val (.ref a1), .val (.long q2), .second] [(.ref o1)])
  have CR14 : CHr Z EL0 s.vm h0 s.vm h1 := CHr.trans CR0 (CHr.ext E1 CH0)
  have CH14 : CHv Z EL0 s.vm h1 := CHv.ext E1 CH0
  have hk14 := Nat.le_trans hk0 E1.1
  refine own_stS (fun t k => XS.dup X1.here hx rfl (hb hby d10_3) rfl rfl k) ?_
  show OGS _ _ p e _ s below _ T1 (mkF m 4 #[.val (.ref a1), .val (.long q2), .second] [(.ref o1), (.ref o1)])
  refine own_stS (fun t k => XS.aloadN X1.here hx rfl (hb hby d10_4) rfl rfl k) ?_
  show OGS _ _ p e _ s below _ T1 (mkF m 5 #[.val (.ref a1), .val (.long q2), .second] [(.ref a1), (.ref o1), (.ref o1)])
  obtain ⟨T15, X15, e15, st15⟩ := getF X1 hx hZ hown (host := "") (Or.inl (hw _ (List.mem_of_getElem? (i := 46) rfl))) Via.refl e1 F3 (g := (mkF m 5 #[.val (.ref a1), .val (.long q2), .second] [(.ref a1), (.ref o1), (.ref o1)])) rfl rfl (hb hby d10_5)
  refine own_stS st15 ?_
  show OGS _ _ p e _ s below _ T15 (mkF m 8 #[.val (.ref a1), .val (.long q2), .second] [(.ref t), (.ref o1), (.ref o1)])
  refine own_stS (fun t k => XS.aloadN X15.here hx rfl (hb hby d10_8) rfl rfl k) ?_
  show OGS _ _ p e _ s below _ T15 (mkF m 9 #[.val (.ref a1), .val (.long q2), .second] [(.ref a1), (.ref t), (.ref o1), (.ref o1)])
  obtain ⟨T16, X16, e16, st16⟩ := getF X15 hx hZ hown (host := "") (Or.inl (hw _ (List.mem_of_getElem? (i := 48) rfl))) Via.refl e15 F4 (g := (mkF m 9 #[.val (.ref a1), .val (.long q2), .second] [(.ref a1), (.ref t), (.ref o1), (.ref o1)])) rfl rfl (hb hby d10_9)
  refine own_stS st16 ?_
  show OGS _ _ p e _ s below _ T16 (mkF m 12 #[.val (.ref a1), .val (.long q2), .second] [(.ref i), (.ref t), (.ref o1), (.ref o1)])
  refine own_stS (fun t k => XS.aloadN X16.here hx rfl (hb hby d10_12) rfl rfl k) ?_
  show OGS _ _ p e _ s below _ T16 (mkF m 13 #[.val (.ref a1), .val (.long q2), .second] [(.ref a1), (.ref i), (.ref t), (.ref o1), (.ref o1)])
  obtain ⟨T17, X17, e17, st17⟩ := getF X16 hx hZ hown (host := "") (Or.inl (hw _ (List.mem_of_getElem? (i := 50) rfl))) Via.refl e16 F5 (g := (mkF m 13 #[.val (.ref a1), .val (.long q2), .second] [(.ref a1), (.ref i), (.ref t), (.ref o1), (.ref o1)])) rfl rfl (hb hby d10_13)
  refine own_stS st17 ?_
  show OGS _ _ p e _ s below _ T17 (mkF m 16 #[.val (.ref a1), .val (.long q2), .second] [(.long r), (.ref i), (.ref t), (.ref o1), (.ref o1)])
  refine own_stS (fun t k => XS.aloadN X17.here hx rfl (hb hby d10_16) rfl rfl k) ?_
  show OGS _ _ p e _ s below _ T17 (mkF m 17 #[.val (.ref a1), .val (.long q2), .second] [(.ref a1), (.long r), (.ref i), (.ref t), (.ref o1), (.ref o1)])
  obtain ⟨T18, X18, e18, st18⟩ := getF X17 hx hZ hown (host := "") (Or.inl (hw _ (List.mem_of_getElem? (i := 52) rfl))) Via.refl e17 F6 (g := (mkF m 17 #[.val (.ref a1), .val (.long q2), .second] [(.ref a1), (.long r), (.ref i), (.ref t), (.ref o1), (.ref o1)])) rfl rfl (hb hby d10_17)
  refine own_stS st18 ?_
  show OGS _ _ p e _ s below _ T18 (mkF m 20 #[.val (.ref a1), .val (.long q2), .second] [.null, (.long r), (.ref i), (.ref t), (.ref o1), (.ref o1)])
  refine own_stS (fun t k => XS.lloadN X18.here hx rfl (hb hby d10_20) rfl k) ?_
  show OGS _ _ p e _ s below _ T18 (mkF m 21 #[.val (.ref a1), .val (.long q2), .second] [(.long q2), .null, (.long r), (.ref i), (.ref t), (.ref o1), (.ref o1)])
  obtain ⟨_, _, ⟨T19, L19, k19, n19⟩, -, X19q, hS19q, hg19q, ⟨Lc19, hQ19, l19, y19, z19, Cq19⟩, st19⟩ := X18.specialBackS hx (y := (⟨"com/example/partwise/partwise/Part", "<init>", "(Ljava/lang/String;Ljava/lang/String;JLjava/lang/String;J)V"⟩ : MethodName)) rfl hown (mvT hZ (hw _ (List.mem_of_getElem? (i := 67) rfl))) (mvT hZ (hw _ (List.mem_of_getElem? (i := 30) rfl))) (mvT hZ (hw _ (List.mem_of_getElem? (i := 31) rfl))) (by decide) (backOfSH (EL := EL0) (W := 1) (rm := ({ frames := 2, cells := 4, slots := 36, locals := 24 } : Room)) (rm6_n l Z a0 hw [] o1 t i r q2 h1 n0 A1 F9 F10 F11 F12 F13 ge_o1) hZ (hw _ (List.mem_of_getElem? (i := 31) rfl)) (hw _ (List.mem_of_getElem? (i := 28) rfl)) (by decide) (by decide) hEL CH14) (g := (mkF m 21 #[.val (.ref a1), .val (.long q2), .second] [(.long q2), .null, (.long r), (.ref i), (.ref t), (.ref o1), (.ref o1)])) rfl (by rw [hml]; rfl) (Steps.refl _) (a := o1) (argsL := [(.ref t), (.ref i), (.long r), .null, (.long q2)]) (rest := [(.ref o1)]) (lenOf pd__Ljava_lang_String_Ljava_lang_String_JLjava_lang_String_J_V rfl) rfl (by show 2 * 0 + _ ≤ _; exact Nat.le_of_eq rfl) (hb hby d10_21) (fun _ _ => ⟨rfl, e18, (by decide : 1 + 4 ≤ _), (by decide : 5 + 36 ≤ _)⟩)
  dsimp only [Pt.U, Pt.locs, Pt.cells, Pt.slots] at X19q hS19q hg19q l19 y19 z19 st19 hQ19 Cq19
  subst l19 y19 z19
  obtain ⟨X19, hS19, hZ19, hown19⟩ := rebS hS0 (by rw [e18]; exact hk14) X19q hS19q hg19q hZ hown
  have CR19 := CHr.trans CR14 Cq19
  have hk19 : T19.heap.size ≤ T19.heap.size := Nat.le_refl _
  obtain ⟨rfl, N19q, K19q, P19_0, P19_1, P19_2, P19_3, P19_4, P19_5⟩ := hQ19
  refine own_stS (fun t k => st19.trans k) ?_
  have N19 := Fr.app N0 N19q
  have K19 : Keep h0 T19.heap [] := K8.trans K19q (own_all1 (Or.inr sz_o1))
  have F20 : Exa Z T19.heap a1 "com/example/partwise/partwise/Part" := (F2.keep K19q)
  have F21 : Fld Z T19.heap a1 "com/example/partwise/partwise/Part" "table" "Ljava/lang/String;" (.ref t) := (F3.keep K19q (own_nin1 ne_a1_o1))
  have F22 : Fld Z T19.heap a1 "com/example/partwise/partwise/Part" "id" "Ljava/lang/String;" (.ref i) := (F4.keep K19q (own_nin1 ne_a1_o1))
  have F23 : Fld Z T19.heap a1 "com/example/partwise/partwise/Part" "rows" "J" (.long r) := (F5.keep K19q (own_nin1 ne_a1_o1))
  have F24 : Fld Z T19.heap a1 "com/example/partwise/partwise/Part" "inline" "Ljava/lang/String;" .null := (F6.keep K19q (own_nin1 ne_a1_o1))
  have F25 : Fld Z T19.heap a1 "com/example/partwise/partwise/Part" "addedBy" "J" (.long ad) := (F7.keep K19q (own_nin1 ne_a1_o1))
  show OGS _ _ p e _ s below _ T19 (mkF m 24 #[.val (.ref a1), .val (.long q2), .second] [(.ref o1)])
  refine own_endS X19 hlk hZ19 hEL rfl hs0 hS19 hk19 Cq19.1 CR19 (v := some (.ref o1)) (fun h => by rw [hret] at h; cases h) (by decide) (by decide) ?_ (fun fs hr => retOut X19 hx hret rfl (Or.inr (Or.inr (Or.inr (Or.inr ⟨rfl, rfl, rfl⟩)))) (hb hby d10_24) hr)
  exact ⟨N19, K19, o1, sz_o1, rfl, P19_0, P19_4⟩
theorem pd___Z : parseMethodDescriptor "()Z" = some ⟨[], some .boolean⟩ := by decide +kernel
theorem pd__C_Ljava_lang_String_ : parseMethodDescriptor "(C)Ljava/lang/String;" = some ⟨[.char], some (.object "java/lang/String")⟩ := by decide +kernel
theorem pd__J_Lcom_example_partwise_partwise_Part_ : parseMethodDescriptor "(J)Lcom/example/partwise/partwise/Part;" = some ⟨[.long], some (.object "com/example/partwise/partwise/Part")⟩ := by decide +kernel
theorem pd___C_V : parseMethodDescriptor "([C)V" = some ⟨[(.array .char)], none⟩ := by decide +kernel
theorem pn_0 : plainFor (⟨"com/example/partwise/partwise/PartInFilePinLaw", "law", "(IIJJJ)Z"⟩ : MethodName) = true := by first | exact plainFor_of_name (by first | (simp [plainName, overriddenIn]; done) | decide +kernel) | decide +kernel
def g0_1 (p1 : Int32) (p2 : Int32) (q3 : Int64) (q4 : Int64) (q5 : Int64) (w : Int32) : Int32 := (p1 &&& (3 : Int32))
def g0_2 (p1 : Int32) (p2 : Int32) (q3 : Int64) (q4 : Int64) (q5 : Int64) (w : Int32) : Int32 := ((p2 &&& (255 : Int32)).toUInt32.toUInt16.toUInt32.toInt32)
def g0_3 (p1 : Int32) (p2 : Int32) (q3 : Int64) (q4 : Int64) (q5 : Int64) (w : Int32) : Int32 := ((((p2.toUInt32 >>> ((8 : Int32) &&& 31).toUInt32).toInt32) &&& (255 : Int32)).toUInt32.toUInt16.toUInt32.toInt32)
def f0 (p1 : Int32) (p2 : Int32) (q3 : Int64) (q4 : Int64) (q5 : Int64) (w : Int32) : Int32 := (if (g0_1 p1 p2 q3 q4 q5 w) = (0 : Int32) then (if f9_n = (1 : Int32) then (1 : Int32) else (0 : Int32)) else (if (g0_1 p1 p2 q3 q4 q5 w) = (1 : Int32) then (if f9_r = (0 : Int32) then (1 : Int32) else (0 : Int32)) else (if (g0_1 p1 p2 q3 q4 q5 w) = (2 : Int32) then (if f9_r = (0 : Int32) then (1 : Int32) else (0 : Int32)) else (if (g0_1 p1 p2 q3 q4 q5 w) = (3 : Int32) then (if f9_r = (0 : Int32) then (1 : Int32) else (0 : Int32)) else 0))))
theorem own_rf (p1 p2 : Int32) (q3 q4 q5 : Int64) (w : Int32) (c0 : ¬ (g0_1 p1 p2 q3 q4 q5 w) = (0 : Int32)) (c1 : ¬ (g0_1 p1 p2 q3 q4 q5 w) = (1 : Int32)) (c2 : ¬ (g0_1 p1 p2 q3 q4 q5 w) = (2 : Int32)) (c3 : ¬ (g0_1 p1 p2 q3 q4 q5 w) = (3 : Int32)) : False := by
  have m := c_mask p1 3 2 (by decide) (by decide)
  simp only [g0_1, ← Int32.toInt_inj] at c0 c1 c2 c3
  have k0 : (0 : Int32).toInt = 0 := by decide
  have k1 : (1 : Int32).toInt = 1 := by decide
  have k2 : (2 : Int32).toInt = 2 := by decide
  have k3 : (3 : Int32).toInt = 3 := by decide
  omega
theorem ef_0 (m : MethodId) (p1 : Int32) (p2 : Int32) (q3 : Int64) (q4 : Int64) (q5 : Int64) : entryFrame m #[(.int p1), (.int p2), (.long q3), (.long q4), (.long q5)] 17 = (mkF m 0 #[.val (.int p1), .val (.int p2), .val (.long q3), .second, .val (.long q4), .second, .val (.long q5), .second, .unset, .unset, .unset, .unset, .unset, .unset, .unset, .unset, .unset] []) := by first | (simp [entryFrame, mkF, argsToLocals, Value.category]; done) | rfl
abbrev Q0 (Z : State) (p1 : Int32) (p2 : Int32) (q3 : Int64) (q4 : Int64) (q5 : Int64) (w : Int32) (h0 : Heap) (n0 : Nat) : Option Value → Heap → List Loc → Prop := (fun v h L => v = some (.int (f0 p1 p2 q3 q4 q5 w)) ∧ Fr n0 L)
set_option maxRecDepth 65536 in
set_option maxHeartbeats 40000000 in
theorem rm0 (l : Launch) (Z : State) (a0 : Array Value) (hw : ∀ d ∈ tables_1, d.before a0 Z = true) (ws : List Jvm.Cond) (p1 : Int32) (p2 : Int32) (q3 : Int64) (q4 : Int64) (q5 : Int64) (w : Int32) (h0 : Heap) (n0 : Nat) (Z0 : n0 ≤ h0.size) (R0 : Sta Z h0 "java/lang/String" "COMPACT_STRINGS" "Z" (.int w)) (hw0 : ¬ w = (0 : Int32)) :
    OMetS l Z EL0 x code maxLocals ret ws room_1 #[(.int p1), (.int p2), (.long q3), (.long q4), (.long q5)] h0 (Q0 Z p1 p2 q3 q4 q5 w h0 n0) := by
  refine own_enterS pn_0 ?_
  intro p e s m below meth c s₁ hx hby hml0 hown hret hlk hnm hZ X0 e0 hs0 CH0
  have hEL := own_EW hw
  have hS0 : s.Since s.vm 0 := (State.WarmedH.refl s).since 0
  have hk0 : 0 ≤ h0.size := Nat.zero_le _
  have CR0 : CHr Z EL0 s.vm h0 s.vm h0 := CHr.refl CH0
  have hml : c.maxLocals = 17 := hml0
  have N0 := Fr.nil n0
  refine own_castS (ef_0 m p1 p2 q3 q4 q5) ?_
  show OGS Z EL0 p e room_1 s below (fun v h L => v = some (.int (f0 p1 p2 q3 q4 q5 w)) ∧ Fr n0 L) s₁ (mkF m 0 #[.val (.int p1), .val (.int p2), .val (.long q3), .second, .val (.long q4), .second, .val (.long q5), .second, .unset, .unset, .unset, .unset, .unset, .unset, .unset, .unset, .unset] [])
  refine own_stS (fun t k => XS.iloadN X0.here hx rfl (hb hby at_0) rfl k) ?_
  show OGS _ _ p e _ s below _ s₁ (mkF m 1 #[.val (.int p1), .val (.int p2), .val (.long q3), .second, .val (.long q4), .second, .val (.long q5), .second, .unset, .unset, .unset, .unset, .unset, .unset, .unset, .unset, .unset] [(.int p1)])
  refine own_stS (fun t k => XS.iconst X0.here hx rfl (hb hby at_1) k) ?_
  show OGS _ _ p e _ s below _ s₁ (mkF m 2 #[.val (.int p1), .val (.int p2), .val (.long q3), .second, .val (.long q4), .second, .val (.long q5), .second, .unset, .unset, .unset, .unset, .unset, .unset, .unset, .unset, .unset] [(.int (3 : Int32)), (.int p1)])
  refine own_stS (fun t k => XS.iand X0.here hx rfl (hb hby at_2) rfl k) ?_
  show OGS _ _ p e _ s below _ s₁ (mkF m 3 #[.val (.int p1), .val (.int p2), .val (.long q3), .second, .val (.long q4), .second, .val (.long q5), .second, .unset, .unset, .unset, .unset, .unset, .unset, .unset, .unset, .unset] [(.int (p1 &&& (3 : Int32)))])
  refine own_stS (fun t k => XS.istore X0.here hx rfl (hb hby at_3) rfl (l' := #[.val (.int p1), .val (.int p2), .val (.long q3), .second, .val (.long q4), .second, .val (.long q5), .second, .val (.int (g0_1 p1 p2 q3 q4 q5 w)), .unset, .unset, .unset, .unset, .unset, .unset, .unset, .unset]) rfl k) ?_
  show OGS _ _ p e _ s below _ s₁ (mkF m 5 #[.val (.int p1), .val (.int p2), .val (.long q3), .second, .val (.long q4), .second, .val (.long q5), .second, .val (.int (g0_1 p1 p2 q3 q4 q5 w)), .unset, .unset, .unset, .unset, .unset, .unset, .unset, .unset] [])
  by_cases c1 : (g0_1 p1 p2 q3 q4 q5 w) = (0 : Int32)
  · rw [c1]
    show OGS _ _ p e _ s below _ s₁ (mkF m 5 #[.val (.int p1), .val (.int p2), .val (.long q3), .second, .val (.long q4), .second, .val (.long q5), .second, .val (.int (0 : Int32)), .unset, .unset, .unset, .unset, .unset, .unset, .unset, .unset] [])
    refine own_stS (fun t k => XS.iloadN X0.here hx rfl (hb hby at_5) rfl k) ?_
    show OGS _ _ p e _ s below _ s₁ (mkF m 6 #[.val (.int p1), .val (.int p2), .val (.long q3), .second, .val (.long q4), .second, .val (.long q5), .second, .val (.int (0 : Int32)), .unset, .unset, .unset, .unset, .unset, .unset, .unset, .unset] [(.int p2)])
    refine own_stS (fun t k => XS.sipush X0.here hx rfl (hb hby at_6) k) ?_
    show OGS _ _ p e _ s below _ s₁ (mkF m 9 #[.val (.int p1), .val (.int p2), .val (.long q3), .second, .val (.long q4), .second, .val (.long q5), .second, .val (.int (0 : Int32)), .unset, .unset, .unset, .unset, .unset, .unset, .unset, .unset] [(.int (255 : Int32)), (.int p2)])
    refine own_stS (fun t k => XS.iand X0.here hx rfl (hb hby at_9) rfl k) ?_
    show OGS _ _ p e _ s below _ s₁ (mkF m 10 #[.val (.int p1), .val (.int p2), .val (.long q3), .second, .val (.long q4), .second, .val (.long q5), .second, .val (.int (0 : Int32)), .unset, .unset, .unset, .unset, .unset, .unset, .unset, .unset] [(.int (p2 &&& (255 : Int32)))])
    refine own_stS (fun t k => XS.i2c X0.here hx rfl (hb hby at_10) rfl k) ?_
    show OGS _ _ p e _ s below _ s₁ (mkF m 11 #[.val (.int p1), .val (.int p2), .val (.long q3), .second, .val (.long q4), .second, .val (.long q5), .second, .val (.int (0 : Int32)), .unset, .unset, .unset, .unset, .unset, .unset, .unset, .unset] [(.int ((p2 &&& (255 : Int32)).toUInt32.toUInt16.toUInt32.toInt32))])
    refine own_stS (fun t k => XS.istore X0.here hx rfl (hb hby at_11) rfl (l' := #[.val (.int p1), .val (.int p2), .val (.long q3), .second, .val (.long q4), .second, .val (.long q5), .second, .val (.int (0 : Int32)), .val (.int (g0_2 p1 p2 q3 q4 q5 w)), .unset, .unset, .unset, .unset, .unset, .unset, .unset]) rfl k) ?_
    show OGS _ _ p e _ s below _ s₁ (mkF m 13 #[.val (.int p1), .val (.int p2), .val (.long q3), .second, .val (.long q4), .second, .val (.long q5), .second, .val (.int (0 : Int32)), .val (.int (g0_2 p1 p2 q3 q4 q5 w)), .unset, .unset, .unset, .unset, .unset, .unset, .unset] [])
    refine own_stS (fun t k => XS.iloadN X0.here hx rfl (hb hby at_13) rfl k) ?_
    show OGS _ _ p e _ s below _ s₁ (mkF m 14 #[.val (.int p1), .val (.int p2), .val (.long q3), .second, .val (.long q4), .second, .val (.long q5), .second, .val (.int (0 : Int32)), .val (.int (g0_2 p1 p2 q3 q4 q5 w)), .unset, .unset, .unset, .unset, .unset, .unset, .unset] [(.int p2)])
    refine own_stS (fun t k => XS.bipush X0.here hx rfl (hb hby at_14) k) ?_
    show OGS _ _ p e _ s below _ s₁ (mkF m 16 #[.val (.int p1), .val (.int p2), .val (.long q3), .second, .val (.long q4), .second, .val (.long q5), .second, .val (.int (0 : Int32)), .val (.int (g0_2 p1 p2 q3 q4 q5 w)), .unset, .unset, .unset, .unset, .unset, .unset, .unset] [(.int (8 : Int32)), (.int p2)])
    refine own_stS (fun t k => XS.iushr X0.here hx rfl (hb hby at_16) rfl k) ?_
    show OGS _ _ p e _ s below _ s₁ (mkF m 17 #[.val (.int p1), .val (.int p2), .val (.long q3), .second, .val (.long q4), .second, .val (.long q5), .second, .val (.int (0 : Int32)), .val (.int (g0_2 p1 p2 q3 q4 q5 w)), .unset, .unset, .unset, .unset, .unset, .unset, .unset] [(.int ((p2.toUInt32 >>> ((8 : Int32) &&& 31).toUInt32).toInt32))])
    refine own_stS (fun t k => XS.sipush X0.here hx rfl (hb hby at_17) k) ?_
    show OGS _ _ p e _ s below _ s₁ (mkF m 20 #[.val (.int p1), .val (.int p2), .val (.long q3), .second, .val (.long q4), .second, .val (.long q5), .second, .val (.int (0 : Int32)), .val (.int (g0_2 p1 p2 q3 q4 q5 w)), .unset, .unset, .unset, .unset, .unset, .unset, .unset] [(.int (255 : Int32)), (.int ((p2.toUInt32 >>> ((8 : Int32) &&& 31).toUInt32).toInt32))])
    refine own_stS (fun t k => XS.iand X0.here hx rfl (hb hby at_20) rfl k) ?_
    show OGS _ _ p e _ s below _ s₁ (mkF m 21 #[.val (.int p1), .val (.int p2), .val (.long q3), .second, .val (.long q4), .second, .val (.long q5), .second, .val (.int (0 : Int32)), .val (.int (g0_2 p1 p2 q3 q4 q5 w)), .unset, .unset, .unset, .unset, .unset, .unset, .unset] [(.int (((p2.toUInt32 >>> ((8 : Int32) &&& 31).toUInt32).toInt32) &&& (255 : Int32)))])
    refine own_stS (fun t k => XS.i2c X0.here hx rfl (hb hby at_21) rfl k) ?_
    show OGS _ _ p e _ s below _ s₁ (mkF m 22 #[.val (.int p1), .val (.int p2), .val (.long q3), .second, .val (.long q4), .second, .val (.long q5), .second, .val (.int (0 : Int32)), .val (.int (g0_2 p1 p2 q3 q4 q5 w)), .unset, .unset, .unset, .unset, .unset, .unset, .unset] [(.int ((((p2.toUInt32 >>> ((8 : Int32) &&& 31).toUInt32).toInt32) &&& (255 : Int32)).toUInt32.toUInt16.toUInt32.toInt32))])
    refine own_stS (fun t k => XS.istore X0.here hx rfl (hb hby at_22) rfl (l' := #[.val (.int p1), .val (.int p2), .val (.long q3), .second, .val (.long q4), .second, .val (.long q5), .second, .val (.int (0 : Int32)), .val (.int (g0_2 p1 p2 q3 q4 q5 w)), .val (.int (g0_3 p1 p2 q3 q4 q5 w)), .unset, .unset, .unset, .unset, .unset, .unset]) rfl k) ?_
    show OGS _ _ p e _ s below _ s₁ (mkF m 24 #[.val (.int p1), .val (.int p2), .val (.long q3), .second, .val (.long q4), .second, .val (.long q5), .second, .val (.int (0 : Int32)), .val (.int (g0_2 p1 p2 q3 q4 q5 w)), .val (.int (g0_3 p1 p2 q3 q4 q5 w)), .unset, .unset, .unset, .unset, .unset, .unset] [])
    refine own_stS (fun t k => XS.iload X0.here hx rfl (hb hby at_24) rfl k) ?_
    show OGS _ _ p e _ s below _ s₁ (mkF m 26 #[.val (.int p1), .val (.int p2), .val (.long q3), .second, .val (.long q4), .second, .val (.long q5), .second, .val (.int (0 : Int32)), .val (.int (g0_2 p1 p2 q3 q4 q5 w)), .val (.int (g0_3 p1 p2 q3 q4 q5 w)), .unset, .unset, .unset, .unset, .unset, .unset] [(.int (0 : Int32))])
    refine own_stS (fun t k => XS.ifNo X0.here hx rfl (hb hby at_26) rfl (by decide) k) ?_
    show OGS _ _ p e _ s below _ s₁ (mkF m 29 #[.val (.int p1), .val (.int p2), .val (.long q3), .second, .val (.long q4), .second, .val (.long q5), .second, .val (.int (0 : Int32)), .val (.int (g0_2 p1 p2 q3 q4 q5 w)), .val (.int (g0_3 p1 p2 q3 q4 q5 w)), .unset, .unset, .unset, .unset, .unset, .unset] [])
    refine own_stS (fun t k => XS.aconstNull X0.here hx rfl (hb hby at_29) k) ?_
    show OGS _ _ p e _ s below _ s₁ (mkF m 30 #[.val (.int p1), .val (.int p2), .val (.long q3), .second, .val (.long q4), .second, .val (.long q5), .second, .val (.int (0 : Int32)), .val (.int (g0_2 p1 p2 q3 q4 q5 w)), .val (.int (g0_3 p1 p2 q3 q4 q5 w)), .unset, .unset, .unset, .unset, .unset, .unset] [.null])
    refine own_stS (fun t k => XS.astore X0.here hx rfl (hb hby at_30) rfl rfl (l' := #[.val (.int p1), .val (.int p2), .val (.long q3), .second, .val (.long q4), .second, .val (.long q5), .second, .val (.int (0 : Int32)), .val (.int (g0_2 p1 p2 q3 q4 q5 w)), .val (.int (g0_3 p1 p2 q3 q4 q5 w)), .val .null, .unset, .unset, .unset, .unset, .unset]) rfl k) ?_
    show OGS _ _ p e _ s below _ s₁ (mkF m 32 #[.val (.int p1), .val (.int p2), .val (.long q3), .second, .val (.long q4), .second, .val (.long q5), .second, .val (.int (0 : Int32)), .val (.int (g0_2 p1 p2 q3 q4 q5 w)), .val (.int (g0_3 p1 p2 q3 q4 q5 w)), .val .null, .unset, .unset, .unset, .unset, .unset] [])
    refine own_stS (fun t k => XS.goto X0.here hx rfl (pc0 := 32) (pc' := 94) rfl (hb hby at_32) (by decide) (by decide) k) ?_
    show OGS _ _ p e _ s below _ s₁ (mkF m 94 #[.val (.int p1), .val (.int p2), .val (.long q3), .second, .val (.long q4), .second, .val (.long q5), .second, .val (.int (0 : Int32)), .val (.int (g0_2 p1 p2 q3 q4 q5 w)), .val (.int (g0_3 p1 p2 q3 q4 q5 w)), .val .null, .unset, .unset, .unset, .unset, .unset] [])
    refine own_stS (fun t k => XS.iloadN X0.here hx rfl (hb hby at_94) rfl k) ?_
    show OGS _ _ p e _ s below _ s₁ (mkF m 95 #[.val (.int p1), .val (.int p2), .val (.long q3), .second, .val (.long q4), .second, .val (.long q5), .second, .val (.int (0 : Int32)), .val (.int (g0_2 p1 p2 q3 q4 q5 w)), .val (.int (g0_3 p1 p2 q3 q4 q5 w)), .val .null, .unset, .unset, .unset, .unset, .unset] [(.int p2)])
    refine own_stS (fun t k => XS.bipush X0.here hx rfl (hb hby at_95) k) ?_
    show OGS _ _ p e _ s below _ s₁ (mkF m 97 #[.val (.int p1), .val (.int p2), .val (.long q3), .second, .val (.long q4), .second, .val (.long q5), .second, .val (.int (0 : Int32)), .val (.int (g0_2 p1 p2 q3 q4 q5 w)), .val (.int (g0_3 p1 p2 q3 q4 q5 w)), .val .null, .unset, .unset, .unset, .unset, .unset] [(.int (16 : Int32)), (.int p2)])
    refine own_stS (fun t k => XS.iushr X0.here hx rfl (hb hby at_97) rfl k) ?_
    show OGS _ _ p e _ s below _ s₁ (mkF m 98 #[.val (.int p1), .val (.int p2), .val (.long q3), .second, .val (.long q4), .second, .val (.long q5), .second, .val (.int (0 : Int32)), .val (.int (g0_2 p1 p2 q3 q4 q5 w)), .val (.int (g0_3 p1 p2 q3 q4 q5 w)), .val .null, .unset, .unset, .unset, .unset, .unset] [(.int ((p2.toUInt32 >>> ((16 : Int32) &&& 31).toUInt32).toInt32))])
    refine own_stS (fun t k => XS.sipush X0.here hx rfl (hb hby at_98) k) ?_
    show OGS _ _ p e _ s below _ s₁ (mkF m 101 #[.val (.int p1), .val (.int p2), .val (.long q3), .second, .val (.long q4), .second, .val (.long q5), .second, .val (.int (0 : Int32)), .val (.int (g0_2 p1 p2 q3 q4 q5 w)), .val (.int (g0_3 p1 p2 q3 q4 q5 w)), .val .null, .unset, .unset, .unset, .unset, .unset] [(.int (255 : Int32)), (.int ((p2.toUInt32 >>> ((16 : Int32) &&& 31).toUInt32).toInt32))])
    refine own_stS (fun t k => XS.iand X0.here hx rfl (hb hby at_101) rfl k) ?_
    show OGS _ _ p e _ s below _ s₁ (mkF m 102 #[.val (.int p1), .val (.int p2), .val (.long q3), .second, .val (.long q4), .second, .val (.long q5), .second, .val (.int (0 : Int32)), .val (.int (g0_2 p1 p2 q3 q4 q5 w)), .val (.int (g0_3 p1 p2 q3 q4 q5 w)), .val .null, .unset, .unset, .unset, .unset, .unset] [(.int (((p2.toUInt32 >>> ((16 : Int32) &&& 31).toUInt32).toInt32) &&& (255 : Int32)))])
    refine own_stS (fun t k => XS.i2c X0.here hx rfl (hb hby at_102) rfl k) ?_
    show OGS _ _ p e _ s below _ s₁ (mkF m 103 #[.val (.int p1), .val (.int p2), .val (.long q3), .second, .val (.long q4), .second, .val (.long q5), .second, .val (.int (0 : Int32)), .val (.int (g0_2 p1 p2 q3 q4 q5 w)), .val (.int (g0_3 p1 p2 q3 q4 q5 w)), .val .null, .unset, .unset, .unset, .unset, .unset] [(.int ((((p2.toUInt32 >>> ((16 : Int32) &&& 31).toUInt32).toInt32) &&& (255 : Int32)).toUInt32.toUInt16.toUInt32.toInt32))])
    obtain ⟨_, _, ⟨T2, L2, k2, n2⟩, -, X2, ⟨Lc2, hQ2, l2, y2, z2⟩, st2⟩ := Jvm.LawKit.callS X0 hx (y := (⟨"java/lang/String", "valueOf", "(C)Ljava/lang/String;"⟩ : MethodName)) hown (mvT hZ (hw _ (List.mem_of_getElem? (i := 0) rfl))) (mvT hZ (hw _ (List.mem_of_getElem? (i := 1) rfl))) (mvT hZ (hw _ (List.mem_of_getElem? (i := 2) rfl))) (mvT hZ (hw _ (List.mem_of_getElem? (i := 3) rfl))) (by decide) (backOf (W := 0) (rm := ({ frames := 2, cells := 2, slots := 5, locals := 27 } : Room)) (rm1 l Z a0 hw [] ((((p2.toUInt32 >>> ((16 : Int32) &&& 31).toUInt32).toInt32) &&& (255 : Int32)).toUInt32.toUInt16.toUInt32.toInt32) w h0 n0 (Nat.le_trans Z0 (Keep.refl h0 []).1) R0 hw0 (own_chA (((p2.toUInt32 >>> ((16 : Int32) &&& 31).toUInt32).toInt32)))) hZ (hw _ (List.mem_of_getElem? (i := 3) rfl)) (hw _ (List.mem_of_getElem? (i := 2) rfl)) (by decide) (by decide)) (g := (mkF m 103 #[.val (.int p1), .val (.int p2), .val (.long q3), .second, .val (.long q4), .second, .val (.long q5), .second, .val (.int (0 : Int32)), .val (.int (g0_2 p1 p2 q3 q4 q5 w)), .val (.int (g0_3 p1 p2 q3 q4 q5 w)), .val .null, .unset, .unset, .unset, .unset, .unset] [(.int ((((p2.toUInt32 >>> ((16 : Int32) &&& 31).toUInt32).toInt32) &&& (255 : Int32)).toUInt32.toUInt16.toUInt32.toInt32))])) rfl (by rw [hml]; rfl) (argsL := [(.int ((((p2.toUInt32 >>> ((16 : Int32) &&& 31).toUInt32).toInt32) &&& (255 : Int32)).toUInt32.toUInt16.toUInt32.toInt32))]) (rest := []) (lenOf pd__C_Ljava_lang_String_ rfl) rfl (by show 2 * 0 + _ ≤ _; exact Nat.le_of_eq rfl) (hb hby at_103) (fun _ _ => ⟨rfl, e0, (by decide : 0 + 2 ≤ _), (by decide : 0 + 5 ≤ _)⟩)
    dsimp only [Pt.U, Pt.locs, Pt.cells, Pt.slots] at X2 l2 y2 z2 st2 hQ2
    subst l2 y2 z2
    obtain ⟨N2q, K2q, s_2, sz_s_2, rfl, P2_0⟩ := hQ2
    refine own_stS st2 ?_
    have N2 := Fr.app N0 N2q
    have ge_s_2 : n0 ≤ s_2 := Nat.le_trans (Nat.le_trans Z0 (Keep.refl h0 []).1) sz_s_2
    have sy_s_2 : h0.size ≤ s_2 := Nat.le_trans (Keep.refl h0 []).1 sz_s_2
    have K2 : Keep h0 T2.heap [] := (Keep.refl h0 []).trans K2q (own_all0 )
    have F3 : Sta Z T2.heap "java/lang/String" "COMPACT_STRINGS" "Z" (.int w) := (own_staK R0 K2q (own_all0 ))
    show OGS _ _ p e _ s below _ T2 (mkF m 106 #[.val (.int p1), .val (.int p2), .val (.long q3), .second, .val (.long q4), .second, .val (.long q5), .second, .val (.int (0 : Int32)), .val (.int (g0_2 p1 p2 q3 q4 q5 w)), .val (.int (g0_3 p1 p2 q3 q4 q5 w)), .val .null, .unset, .unset, .unset, .unset, .unset] [(.ref s_2)])
    have CR4 : CHr Z EL0 s.vm h0 s.vm T2.heap := CHr.trans CR0 (CHr.keep K2q (own_all0 ) CH0)
    have CH4 : CHv Z EL0 s.vm T2.heap := CHv.keep K2q (own_all0 ) CH0
    have hk4 := Nat.le_trans hk0 K2q.1
    refine own_stS (fun t k => XS.astore X2.here hx rfl (hb hby at_106) rfl rfl (l' := #[.val (.int p1), .val (.int p2), .val (.long q3), .second, .val (.long q4), .second, .val (.long q5), .second, .val (.int (0 : Int32)), .val (.int (g0_2 p1 p2 q3 q4 q5 w)), .val (.int (g0_3 p1 p2 q3 q4 q5 w)), .val .null, .val (.ref s_2), .unset, .unset, .unset, .unset]) rfl k) ?_
    show OGS _ _ p e _ s below _ T2 (mkF m 108 #[.val (.int p1), .val (.int p2), .val (.long q3), .second, .val (.long q4), .second, .val (.long q5), .second, .val (.int (0 : Int32)), .val (.int (g0_2 p1 p2 q3 q4 q5 w)), .val (.int (g0_3 p1 p2 q3 q4 q5 w)), .val .null, .val (.ref s_2), .unset, .unset, .unset, .unset] [])
    refine own_stS (fun t k => XS.iloadN X2.here hx rfl (hb hby at_108) rfl k) ?_
    show OGS _ _ p e _ s below _ T2 (mkF m 109 #[.val (.int p1), .val (.int p2), .val (.long q3), .second, .val (.long q4), .second, .val (.long q5), .second, .val (.int (0 : Int32)), .val (.int (g0_2 p1 p2 q3 q4 q5 w)), .val (.int (g0_3 p1 p2 q3 q4 q5 w)), .val .null, .val (.ref s_2), .unset, .unset, .unset, .unset] [(.int p2)])
    refine own_stS (fun t k => XS.bipush X2.here hx rfl (hb hby at_109) k) ?_
    show OGS _ _ p e _ s below _ T2 (mkF m 111 #[.val (.int p1), .val (.int p2), .val (.long q3), .second, .val (.long q4), .second, .val (.long q5), .second, .val (.int (0 : Int32)), .val (.int (g0_2 p1 p2 q3 q4 q5 w)), .val (.int (g0_3 p1 p2 q3 q4 q5 w)), .val .null, .val (.ref s_2), .unset, .unset, .unset, .unset] [(.int (24 : Int32)), (.int p2)])
    refine own_stS (fun t k => XS.iushr X2.here hx rfl (hb hby at_111) rfl k) ?_
    show OGS _ _ p e _ s below _ T2 (mkF m 112 #[.val (.int p1), .val (.int p2), .val (.long q3), .second, .val (.long q4), .second, .val (.long q5), .second, .val (.int (0 : Int32)), .val (.int (g0_2 p1 p2 q3 q4 q5 w)), .val (.int (g0_3 p1 p2 q3 q4 q5 w)), .val .null, .val (.ref s_2), .unset, .unset, .unset, .unset] [(.int ((p2.toUInt32 >>> ((24 : Int32) &&& 31).toUInt32).toInt32))])
    refine own_stS (fun t k => XS.sipush X2.here hx rfl (hb hby at_112) k) ?_
    show OGS _ _ p e _ s below _ T2 (mkF m 115 #[.val (.int p1), .val (.int p2), .val (.long q3), .second, .val (.long q4), .second, .val (.long q5), .second, .val (.int (0 : Int32)), .val (.int (g0_2 p1 p2 q3 q4 q5 w)), .val (.int (g0_3 p1 p2 q3 q4 q5 w)), .val .null, .val (.ref s_2), .unset, .unset, .unset, .unset] [(.int (255 : Int32)), (.int ((p2.toUInt32 >>> ((24 : Int32) &&& 31).toUInt32).toInt32))])
    refine own_stS (fun t k => XS.iand X2.here hx rfl (hb hby at_115) rfl k) ?_
    show OGS _ _ p e _ s below _ T2 (mkF m 116 #[.val (.int p1), .val (.int p2), .val (.long q3), .second, .val (.long q4), .second, .val (.long q5), .second, .val (.int (0 : Int32)), .val (.int (g0_2 p1 p2 q3 q4 q5 w)), .val (.int (g0_3 p1 p2 q3 q4 q5 w)), .val .null, .val (.ref s_2), .unset, .unset, .unset, .unset] [(.int (((p2.toUInt32 >>> ((24 : Int32) &&& 31).toUInt32).toInt32) &&& (255 : Int32)))])
    refine own_stS (fun t k => XS.i2c X2.here hx rfl (hb hby at_116) rfl k) ?_
    show OGS _ _ p e _ s below _ T2 (mkF m 117 #[.val (.int p1), .val (.int p2), .val (.long q3), .second, .val (.long q4), .second, .val (.long q5), .second, .val (.int (0 : Int32)), .val (.int (g0_2 p1 p2 q3 q4 q5 w)), .val (.int (g0_3 p1 p2 q3 q4 q5 w)), .val .null, .val (.ref s_2), .unset, .unset, .unset, .unset] [(.int ((((p2.toUInt32 >>> ((24 : Int32) &&& 31).toUInt32).toInt32) &&& (255 : Int32)).toUInt32.toUInt16.toUInt32.toInt32))])
    obtain ⟨_, _, ⟨T5, L5, k5, n5⟩, -, X5, ⟨Lc5, hQ5, l5, y5, z5⟩, st5⟩ := Jvm.LawKit.callS X2 hx (y := (⟨"java/lang/String", "valueOf", "(C)Ljava/lang/String;"⟩ : MethodName)) hown (mvT hZ (hw _ (List.mem_of_getElem? (i := 0) rfl))) (mvT hZ (hw _ (List.mem_of_getElem? (i := 1) rfl))) (mvT hZ (hw _ (List.mem_of_getElem? (i := 2) rfl))) (mvT hZ (hw _ (List.mem_of_getElem? (i := 3) rfl))) (by decide) (backOf (W := 0) (rm := ({ frames := 2, cells := 2, slots := 5, locals := 27 } : Room)) (rm1 l Z a0 hw [] ((((p2.toUInt32 >>> ((24 : Int32) &&& 31).toUInt32).toInt32) &&& (255 : Int32)).toUInt32.toUInt16.toUInt32.toInt32) w T2.heap n0 (Nat.le_trans Z0 K2.1) F3 hw0 (own_chA (((p2.toUInt32 >>> ((24 : Int32) &&& 31).toUInt32).toInt32)))) hZ (hw _ (List.mem_of_getElem? (i := 3) rfl)) (hw _ (List.mem_of_getElem? (i := 2) rfl)) (by decide) (by decide)) (g := (mkF m 117 #[.val (.int p1), .val (.int p2), .val (.long q3), .second, .val (.long q4), .second, .val (.long q5), .second, .val (.int (0 : Int32)), .val (.int (g0_2 p1 p2 q3 q4 q5 w)), .val (.int (g0_3 p1 p2 q3 q4 q5 w)), .val .null, .val (.ref s_2), .unset, .unset, .unset, .unset] [(.int ((((p2.toUInt32 >>> ((24 : Int32) &&& 31).toUInt32).toInt32) &&& (255 : Int32)).toUInt32.toUInt16.toUInt32.toInt32))])) rfl (by rw [hml]; rfl) (argsL := [(.int ((((p2.toUInt32 >>> ((24 : Int32) &&& 31).toUInt32).toInt32) &&& (255 : Int32)).toUInt32.toUInt16.toUInt32.toInt32))]) (rest := []) (lenOf pd__C_Ljava_lang_String_ rfl) rfl (by show 2 * 0 + _ ≤ _; exact Nat.le_of_eq rfl) (hb hby at_117) (fun _ _ => ⟨rfl, rfl, (by decide : 2 + 2 ≤ _), (by decide : 5 + 5 ≤ _)⟩)
    dsimp only [Pt.U, Pt.locs, Pt.cells, Pt.slots] at X5 l5 y5 z5 st5 hQ5
    subst l5 y5 z5
    obtain ⟨N5q, K5q, s_5, sz_s_5, rfl, P5_0⟩ := hQ5
    refine own_stS st5 ?_
    have N5 := Fr.app N2 N5q
    have ge_s_5 : n0 ≤ s_5 := Nat.le_trans (Nat.le_trans Z0 K2.1) sz_s_5
    have sy_s_5 : h0.size ≤ s_5 := Nat.le_trans K2.1 sz_s_5
    have ne_s_2_s_5 : s_2 ≠ s_5 := Nat.ne_of_lt (Nat.lt_of_lt_of_le P2_0.lt sz_s_5)
    have K5 : Keep h0 T5.heap [] := K2.trans K5q (own_all0 )
    have F6 : Sta Z T5.heap "java/lang/String" "COMPACT_STRINGS" "Z" (.int w) := (own_staK F3 K5q (own_all0 ))
    have F7 : Exa Z T5.heap s_2 "java/lang/String" := (P2_0.keep K5q)
    show OGS _ _ p e _ s below _ T5 (mkF m 120 #[.val (.int p1), .val (.int p2), .val (.long q3), .second, .val (.long q4), .second, .val (.long q5), .second, .val (.int (0 : Int32)), .val (.int (g0_2 p1 p2 q3 q4 q5 w)), .val (.int (g0_3 p1 p2 q3 q4 q5 w)), .val .null, .val (.ref s_2), .unset, .unset, .unset, .unset] [(.ref s_5)])
    have CR8 : CHr Z EL0 s.vm h0 s.vm T5.heap := CHr.trans CR4 (CHr.keep K5q (own_all0 ) CH4)
    have CH8 : CHv Z EL0 s.vm T5.heap := CHv.keep K5q (own_all0 ) CH4
    have hk8 := Nat.le_trans hk4 K5q.1
    refine own_stS (fun t k => XS.astore X5.here hx rfl (hb hby at_120) rfl rfl (l' := #[.val (.int p1), .val (.int p2), .val (.long q3), .second, .val (.long q4), .second, .val (.long q5), .second, .val (.int (0 : Int32)), .val (.int (g0_2 p1 p2 q3 q4 q5 w)), .val (.int (g0_3 p1 p2 q3 q4 q5 w)), .val .null, .val (.ref s_2), .val (.ref s_5), .unset, .unset, .unset]) rfl k) ?_
    show OGS _ _ p e _ s below _ T5 (mkF m 122 #[.val (.int p1), .val (.int p2), .val (.long q3), .second, .val (.long q4), .second, .val (.long q5), .second, .val (.int (0 : Int32)), .val (.int (g0_2 p1 p2 q3 q4 q5 w)), .val (.int (g0_3 p1 p2 q3 q4 q5 w)), .val .null, .val (.ref s_2), .val (.ref s_5), .unset, .unset, .unset] [])
    obtain ⟨T9, h9, X9, e9, E9, A9, D9, -, st9⟩ := newO X5 hx hZ hown (hw _ (List.mem_of_getElem? (i := 26) rfl)) (hw _ (List.mem_of_getElem? (i := 27) rfl)) (hw _ (List.mem_of_getElem? (i := 28) rfl)) rfl (g := (mkF m 122 #[.val (.int p1), .val (.int p2), .val (.long q3), .second, .val (.long q4), .second, .val (.long q5), .second, .val (.int (0 : Int32)), .val (.int (g0_2 p1 p2 q3 q4 q5 w)), .val (.int (g0_3 p1 p2 q3 q4 q5 w)), .val .null, .val (.ref s_2), .val (.ref s_5), .unset, .unset, .unset] [])) rfl (hb hby at_122) (by decide) (by decide)
    obtain ⟨o9, gb9⟩ : ∃ z, z = T5.heap.size := ⟨_, rfl⟩
    rw [← gb9] at A9 D9 st9
    refine own_stS st9 ?_
    have ge_o9 : n0 ≤ o9 := by rw [gb9]; exact Nat.le_trans Z0 K5.1
    have sz_o9 : h0.size ≤ o9 := by rw [gb9]; exact K5.1
    have ne_s_2_o9 : s_2 ≠ o9 := Nat.ne_of_lt (Nat.lt_of_lt_of_eq F7.lt gb9.symm)
    have ne_s_5_o9 : s_5 ≠ o9 := Nat.ne_of_lt (Nat.lt_of_lt_of_eq P5_0.lt gb9.symm)
    have F10 : Sta Z h9 "java/lang/String" "COMPACT_STRINGS" "Z" (.int w) := (F6.ext E9)
    have F11 : Exa Z h9 s_2 "java/lang/String" := (F7.ext E9)
    have F12 : Exa Z h9 s_5 "java/lang/String" := (P5_0.ext E9)
    have K13 : Keep h0 h9 [] := K5.ext E9
    have F14 : Fld Z h9 o9 "com/example/partwise/partwise/Part" "table" "Ljava/lang/String;" .null := D9 (Or.inr (hw _ (List.mem_of_getElem? (i := 47) rfl))) (ty := (.object "java/lang/String")) (by decide)
    have F15 : Fld Z h9 o9 "com/example/partwise/partwise/Part" "id" "Ljava/lang/String;" .null := D9 (Or.inr (hw _ (List.mem_of_getElem? (i := 49) rfl))) (ty := (.object "java/lang/String")) (by decide)
    have F16 : Fld Z h9 o9 "com/example/partwise/partwise/Part" "rows" "J" (.long (0 : Int64)) := D9 (Or.inr (hw _ (List.mem_of_getElem? (i := 51) rfl))) (ty := .long) (by decide)
    have F17 : Fld Z h9 o9 "com/example/partwise/partwise/Part" "inline" "Ljava/lang/String;" .null := D9 (Or.inr (hw _ (List.mem_of_getElem? (i := 53) rfl))) (ty := (.object "java/lang/String")) (by decide)
    have F18 : Fld Z h9 o9 "com/example/partwise/partwise/Part" "addedBy" "J" (.long (0 : Int64)) := D9 (Or.inr (hw _ (List.mem_of_getElem? (i := 55) rfl))) (ty := .long) (by decide)
    show OGS _ _ p e _ s below _ T9 (mkF m 125 #[.val (.int p1), .val (.int p2), .val (.long q3), .second, .val (.long q4), .second, .val (.long q5), .second, .val (.int (0 : Int32)), .val (.int (g0_2 p1 p2 q3 q4 q5 w)), .val (.int (g0_3 p1 p2 q3 q4 q5 w)), .val .null, .val (.ref s_2), .val (.ref s_5), .unset, .unset, .unset] [(.ref o9)])
    have CR19 : CHr Z EL0 s.vm h0 s.vm h9 := CHr.trans CR8 (CHr.ext E9 CH8)
    have CH19 : CHv Z EL0 s.vm h9 := CHv.ext E9 CH8
    have hk19 := Nat.le_trans hk8 E9.1
    refine own_stS (fun t k => XS.dup X9.here hx rfl (hb hby at_125) rfl rfl k) ?_
    show OGS _ _ p e _ s below _ T9 (mkF m 126 #[.val (.int p1), .val (.int p2), .val (.long q3), .second, .val (.long q4), .second, .val (.long q5), .second, .val (.int (0 : Int32)), .val (.int (g0_2 p1 p2 q3 q4 q5 w)), .val (.int (g0_3 p1 p2 q3 q4 q5 w)), .val .null, .val (.ref s_2), .val (.ref s_5), .unset, .unset, .unset] [(.ref o9), (.ref o9)])
    refine own_stS (fun t k => XS.aload X9.here hx rfl (hb hby at_126) rfl rfl k) ?_
    show OGS _ _ p e _ s below _ T9 (mkF m 128 #[.val (.int p1), .val (.int p2), .val (.long q3), .second, .val (.long q4), .second, .val (.long q5), .second, .val (.int (0 : Int32)), .val (.int (g0_2 p1 p2 q3 q4 q5 w)), .val (.int (g0_3 p1 p2 q3 q4 q5 w)), .val .null, .val (.ref s_2), .val (.ref s_5), .unset, .unset, .unset] [(.ref s_2), (.ref o9), (.ref o9)])
    refine own_stS (fun t k => XS.aload X9.here hx rfl (hb hby at_128) rfl rfl k) ?_
    show OGS _ _ p e _ s below _ T9 (mkF m 130 #[.val (.int p1), .val (.int p2), .val (.long q3), .second, .val (.long q4), .second, .val (.long q5), .second, .val (.int (0 : Int32)), .val (.int (g0_2 p1 p2 q3 q4 q5 w)), .val (.int (g0_3 p1 p2 q3 q4 q5 w)), .val .null, .val (.ref s_2), .val (.ref s_5), .unset, .unset, .unset] [(.ref s_5), (.ref s_2), (.ref o9), (.ref o9)])
    refine own_stS (fun t k => XS.lloadN X9.here hx rfl (hb hby at_130) rfl k) ?_
    show OGS _ _ p e _ s below _ T9 (mkF m 131 #[.val (.int p1), .val (.int p2), .val (.long q3), .second, .val (.long q4), .second, .val (.long q5), .second, .val (.int (0 : Int32)), .val (.int (g0_2 p1 p2 q3 q4 q5 w)), .val (.int (g0_3 p1 p2 q3 q4 q5 w)), .val .null, .val (.ref s_2), .val (.ref s_5), .unset, .unset, .unset] [(.long q3), (.ref s_5), (.ref s_2), (.ref o9), (.ref o9)])
    refine own_stS (fun t k => XS.aload X9.here hx rfl (hb hby at_131) rfl rfl k) ?_
    show OGS _ _ p e _ s below _ T9 (mkF m 133 #[.val (.int p1), .val (.int p2), .val (.long q3), .second, .val (.long q4), .second, .val (.long q5), .second, .val (.int (0 : Int32)), .val (.int (g0_2 p1 p2 q3 q4 q5 w)), .val (.int (g0_3 p1 p2 q3 q4 q5 w)), .val .null, .val (.ref s_2), .val (.ref s_5), .unset, .unset, .unset] [.null, (.long q3), (.ref s_5), (.ref s_2), (.ref o9), (.ref o9)])
    refine own_stS (fun t k => XS.lload X9.here hx rfl (hb hby at_133) rfl k) ?_
    show OGS _ _ p e _ s below _ T9 (mkF m 135 #[.val (.int p1), .val (.int p2), .val (.long q3), .second, .val (.long q4), .second, .val (.long q5), .second, .val (.int (0 : Int32)), .val (.int (g0_2 p1 p2 q3 q4 q5 w)), .val (.int (g0_3 p1 p2 q3 q4 q5 w)), .val .null, .val (.ref s_2), .val (.ref s_5), .unset, .unset, .unset] [(.long q4), .null, (.long q3), (.ref s_5), (.ref s_2), (.ref o9), (.ref o9)])
    obtain ⟨_, _, ⟨T20, L20, k20, n20⟩, -, X20q, hS20q, hg20q, ⟨Lc20, hQ20, l20, y20, z20, Cq20⟩, st20⟩ := X9.specialBackS hx (y := (⟨"com/example/partwise/partwise/Part", "<init>", "(Ljava/lang/String;Ljava/lang/String;JLjava/lang/String;J)V"⟩ : MethodName)) rfl hown (mvT hZ (hw _ (List.mem_of_getElem? (i := 29) rfl))) (mvT hZ (hw _ (List.mem_of_getElem? (i := 30) rfl))) (mvT hZ (hw _ (List.mem_of_getElem? (i := 31) rfl))) (by decide) (backOfSH (EL := EL0) (W := 1) (rm := ({ frames := 2, cells := 4, slots := 36, locals := 24 } : Room)) (rm6_n l Z a0 hw [] o9 s_2 s_5 q3 q4 h9 n0 A9 F14 F15 F16 F17 F18 ge_o9) hZ (hw _ (List.mem_of_getElem? (i := 31) rfl)) (hw _ (List.mem_of_getElem? (i := 28) rfl)) (by decide) (by decide) hEL CH19) (g := (mkF m 135 #[.val (.int p1), .val (.int p2), .val (.long q3), .second, .val (.long q4), .second, .val (.long q5), .second, .val (.int (0 : Int32)), .val (.int (g0_2 p1 p2 q3 q4 q5 w)), .val (.int (g0_3 p1 p2 q3 q4 q5 w)), .val .null, .val (.ref s_2), .val (.ref s_5), .unset, .unset, .unset] [(.long q4), .null, (.long q3), (.ref s_5), (.ref s_2), (.ref o9), (.ref o9)])) rfl (by rw [hml]; rfl) (Steps.refl _) (a := o9) (argsL := [(.ref s_2), (.ref s_5), (.long q3), .null, (.long q4)]) (rest := [(.ref o9)]) (lenOf pd__Ljava_lang_String_Ljava_lang_String_JLjava_lang_String_J_V rfl) rfl (by show 2 * 0 + _ ≤ _; exact Nat.le_of_eq rfl) (hb hby at_135) (fun _ _ => ⟨rfl, e9, (by decide : 5 + 4 ≤ _), (by decide : 15 + 36 ≤ _)⟩)
    dsimp only [Pt.U, Pt.locs, Pt.cells, Pt.slots] at X20q hS20q hg20q l20 y20 z20 st20 hQ20 Cq20
    subst l20 y20 z20
    obtain ⟨X20, hS20, hZ20, hown20⟩ := rebS hS0 (by rw [e9]; exact hk19) X20q hS20q hg20q hZ hown
    have CR20 := CHr.trans CR19 Cq20
    have hk20 : T20.heap.size ≤ T20.heap.size := Nat.le_refl _
    obtain ⟨rfl, N20q, K20q, P20_0, P20_1, P20_2, P20_3, P20_4, P20_5⟩ := hQ20
    refine own_stS (fun t k => st20.trans k) ?_
    have N20 := Fr.app N5 N20q
    have K20 : Keep h0 T20.heap [] := K13.trans K20q (own_all1 (Or.inr sz_o9))
    have F21 : Sta Z T20.heap "java/lang/String" "COMPACT_STRINGS" "Z" (.int w) := (own_staK F10 K20q (own_all1 (own_plE A9)))
    have F22 : Exa Z T20.heap s_2 "java/lang/String" := (F11.keep K20q)
    have F23 : Exa Z T20.heap s_5 "java/lang/String" := (F12.keep K20q)
    show OGS _ _ p e _ s below _ T20 (mkF m 138 #[.val (.int p1), .val (.int p2), .val (.long q3), .second, .val (.long q4), .second, .val (.long q5), .second, .val (.int (0 : Int32)), .val (.int (g0_2 p1 p2 q3 q4 q5 w)), .val (.int (g0_3 p1 p2 q3 q4 q5 w)), .val .null, .val (.ref s_2), .val (.ref s_5), .unset, .unset, .unset] [(.ref o9)])
    refine own_stS (fun t k => XS.astore X20.here hx rfl (hb hby at_138) rfl rfl (l' := #[.val (.int p1), .val (.int p2), .val (.long q3), .second, .val (.long q4), .second, .val (.long q5), .second, .val (.int (0 : Int32)), .val (.int (g0_2 p1 p2 q3 q4 q5 w)), .val (.int (g0_3 p1 p2 q3 q4 q5 w)), .val .null, .val (.ref s_2), .val (.ref s_5), .val (.ref o9), .unset, .unset]) rfl k) ?_
    show OGS _ _ p e _ s below _ T20 (mkF m 140 #[.val (.int p1), .val (.int p2), .val (.long q3), .second, .val (.long q4), .second, .val (.long q5), .second, .val (.int (0 : Int32)), .val (.int (g0_2 p1 p2 q3 q4 q5 w)), .val (.int (g0_3 p1 p2 q3 q4 q5 w)), .val .null, .val (.ref s_2), .val (.ref s_5), .val (.ref o9), .unset, .unset] [])
    refine own_stS (fun t k => XS.iload X20.here hx rfl (hb hby at_140) rfl k) ?_
    show OGS _ _ p e _ s below _ T20 (mkF m 142 #[.val (.int p1), .val (.int p2), .val (.long q3), .second, .val (.long q4), .second, .val (.long q5), .second, .val (.int (0 : Int32)), .val (.int (g0_2 p1 p2 q3 q4 q5 w)), .val (.int (g0_3 p1 p2 q3 q4 q5 w)), .val .null, .val (.ref s_2), .val (.ref s_5), .val (.ref o9), .unset, .unset] [(.int (0 : Int32))])
    refine own_stS (fun t k => XS.ifNo X20.here hx rfl (hb hby at_142) rfl (by decide) k) ?_
    show OGS _ _ p e _ s below _ T20 (mkF m 145 #[.val (.int p1), .val (.int p2), .val (.long q3), .second, .val (.long q4), .second, .val (.long q5), .second, .val (.int (0 : Int32)), .val (.int (g0_2 p1 p2 q3 q4 q5 w)), .val (.int (g0_3 p1 p2 q3 q4 q5 w)), .val .null, .val (.ref s_2), .val (.ref s_5), .val (.ref o9), .unset, .unset] [])
    refine own_stS (fun t k => XS.iconst X20.here hx rfl (hb hby at_145) k) ?_
    show OGS _ _ p e _ s below _ T20 (mkF m 146 #[.val (.int p1), .val (.int p2), .val (.long q3), .second, .val (.long q4), .second, .val (.long q5), .second, .val (.int (0 : Int32)), .val (.int (g0_2 p1 p2 q3 q4 q5 w)), .val (.int (g0_3 p1 p2 q3 q4 q5 w)), .val .null, .val (.ref s_2), .val (.ref s_5), .val (.ref o9), .unset, .unset] [(.int (1 : Int32))])
    refine own_stS (fun t k => XS.goto X20.here hx rfl (pc0 := 146) (pc' := 150) rfl (hb hby at_146) (by decide) (by decide) k) ?_
    show OGS _ _ p e _ s below _ T20 (mkF m 150 #[.val (.int p1), .val (.int p2), .val (.long q3), .second, .val (.long q4), .second, .val (.long q5), .second, .val (.int (0 : Int32)), .val (.int (g0_2 p1 p2 q3 q4 q5 w)), .val (.int (g0_3 p1 p2 q3 q4 q5 w)), .val .null, .val (.ref s_2), .val (.ref s_5), .val (.ref o9), .unset, .unset] [(.int (1 : Int32))])
    refine own_stS (fun t k => XS.istore X20.here hx rfl (hb hby at_150) rfl (l' := #[.val (.int p1), .val (.int p2), .val (.long q3), .second, .val (.long q4), .second, .val (.long q5), .second, .val (.int (0 : Int32)), .val (.int (g0_2 p1 p2 q3 q4 q5 w)), .val (.int (g0_3 p1 p2 q3 q4 q5 w)), .val .null, .val (.ref s_2), .val (.ref s_5), .val (.ref o9), .val (.int (1 : Int32)), .unset]) rfl k) ?_
    show OGS _ _ p e _ s below _ T20 (mkF m 152 #[.val (.int p1), .val (.int p2), .val (.long q3), .second, .val (.long q4), .second, .val (.long q5), .second, .val (.int (0 : Int32)), .val (.int (g0_2 p1 p2 q3 q4 q5 w)), .val (.int (g0_3 p1 p2 q3 q4 q5 w)), .val .null, .val (.ref s_2), .val (.ref s_5), .val (.ref o9), .val (.int (1 : Int32)), .unset] [])
    refine own_stS (fun t k => XS.aload X20.here hx rfl (hb hby at_152) rfl rfl k) ?_
    show OGS _ _ p e _ s below _ T20 (mkF m 154 #[.val (.int p1), .val (.int p2), .val (.long q3), .second, .val (.long q4), .second, .val (.long q5), .second, .val (.int (0 : Int32)), .val (.int (g0_2 p1 p2 q3 q4 q5 w)), .val (.int (g0_3 p1 p2 q3 q4 q5 w)), .val .null, .val (.ref s_2), .val (.ref s_5), .val (.ref o9), .val (.int (1 : Int32)), .unset] [(.ref o9)])
    obtain ⟨cq24, kq24, q24a, q24b, q24c⟩ := isOf hZ20 rfl P20_0
    obtain ⟨_, _, ⟨T24, L24, k24, n24⟩, -, X24, ⟨Lc24, hQ24, l24, y24, z24⟩, st24⟩ := X20.virtualBack hx (y := (⟨"com/example/partwise/partwise/Part", "inFile", "()Z"⟩ : MethodName)) (z := (⟨"com/example/partwise/partwise/Part", "inFile", "()Z"⟩ : MethodName)) hown20 (mvT hZ20 (hw _ (List.mem_of_getElem? (i := 56) rfl))) (mvT hZ20 (hw _ (List.mem_of_getElem? (i := 57) rfl))) (notFace_of_selects (args := #[]) (mvT hZ20 (hw _ (List.mem_of_getElem? (i := 59) rfl)))) (mvT hZ20 (hw _ (List.mem_of_getElem? (i := 59) rfl))) (mvT hZ20 (hw _ (List.mem_of_getElem? (i := 58) rfl))) (by decide) (backOf (W := 0) (rm := ({ frames := 0, cells := 0, slots := 0, locals := 0 } : Room)) (rm9_n l Z a0 hw [] o9 T20.heap P20_4) hZ20 (hw _ (List.mem_of_getElem? (i := 60) rfl)) (hw _ (List.mem_of_getElem? (i := 28) rfl)) (by decide) (by decide)) q24a q24c (g := (mkF m 154 #[.val (.int p1), .val (.int p2), .val (.long q3), .second, .val (.long q4), .second, .val (.long q5), .second, .val (.int (0 : Int32)), .val (.int (g0_2 p1 p2 q3 q4 q5 w)), .val (.int (g0_3 p1 p2 q3 q4 q5 w)), .val .null, .val (.ref s_2), .val (.ref s_5), .val (.ref o9), .val (.int (1 : Int32)), .unset] [(.ref o9)])) rfl (by rw [hml]; rfl) (Steps.refl _) (argsL := []) (rest := []) (lenOf pd___Z rfl) rfl (by show 2 * 0 + _ ≤ _; exact Nat.le_of_eq rfl) (hb hby at_154) (fun _ _ => ⟨rfl, rfl, (by decide : 9 + 0 ≤ _), (by decide : 51 + 0 ≤ _)⟩)
    dsimp only [Pt.U, Pt.locs, Pt.cells, Pt.slots] at X24 l24 y24 z24 st24 hQ24
    subst l24 y24 z24
    obtain ⟨rfl, rfl, e24⟩ := hQ24
    refine own_stS (fun t k => st24.trans k) ?_
    have N24 := Fr.app N20 (Fr.nil n0)
    show OGS _ _ p e _ s below _ T24 (mkF m 157 #[.val (.int p1), .val (.int p2), .val (.long q3), .second, .val (.long q4), .second, .val (.long q5), .second, .val (.int (0 : Int32)), .val (.int (g0_2 p1 p2 q3 q4 q5 w)), .val (.int (g0_3 p1 p2 q3 q4 q5 w)), .val .null, .val (.ref s_2), .val (.ref s_5), .val (.ref o9), .val (.int (1 : Int32)), .unset] [(.int f9_n)])
    refine own_stS (fun t k => XS.iload X24.here hx rfl (hb hby at_157) rfl k) ?_
    show OGS _ _ p e _ s below _ T24 (mkF m 159 #[.val (.int p1), .val (.int p2), .val (.long q3), .second, .val (.long q4), .second, .val (.long q5), .second, .val (.int (0 : Int32)), .val (.int (g0_2 p1 p2 q3 q4 q5 w)), .val (.int (g0_3 p1 p2 q3 q4 q5 w)), .val .null, .val (.ref s_2), .val (.ref s_5), .val (.ref o9), .val (.int (1 : Int32)), .unset] [(.int (1 : Int32)), (.int f9_n)])
    by_cases c25 : f9_n = (1 : Int32)
    · refine own_stS (fun t k => XS.icmpYes X24.here hx rfl (pc0 := 159) (pc' := 164) rfl (hb hby at_159) rfl (teq c25).1 (by decide) (by decide) k) ?_
      show OGS _ _ p e _ s below _ T24 (mkF m 164 #[.val (.int p1), .val (.int p2), .val (.long q3), .second, .val (.long q4), .second, .val (.long q5), .second, .val (.int (0 : Int32)), .val (.int (g0_2 p1 p2 q3 q4 q5 w)), .val (.int (g0_3 p1 p2 q3 q4 q5 w)), .val .null, .val (.ref s_2), .val (.ref s_5), .val (.ref o9), .val (.int (1 : Int32)), .unset] [])
      refine own_stS (fun t k => XS.aload X24.here hx rfl (hb hby at_164) rfl rfl k) ?_
      show OGS _ _ p e _ s below _ T24 (mkF m 166 #[.val (.int p1), .val (.int p2), .val (.long q3), .second, .val (.long q4), .second, .val (.long q5), .second, .val (.int (0 : Int32)), .val (.int (g0_2 p1 p2 q3 q4 q5 w)), .val (.int (g0_3 p1 p2 q3 q4 q5 w)), .val .null, .val (.ref s_2), .val (.ref s_5), .val (.ref o9), .val (.int (1 : Int32)), .unset] [(.ref o9)])
      refine own_stS (fun t k => XS.lload X24.here hx rfl (hb hby at_166) rfl k) ?_
      show OGS _ _ p e _ s below _ T24 (mkF m 168 #[.val (.int p1), .val (.int p2), .val (.long q3), .second, .val (.long q4), .second, .val (.long q5), .second, .val (.int (0 : Int32)), .val (.int (g0_2 p1 p2 q3 q4 q5 w)), .val (.int (g0_3 p1 p2 q3 q4 q5 w)), .val .null, .val (.ref s_2), .val (.ref s_5), .val (.ref o9), .val (.int (1 : Int32)), .unset] [(.long q5), (.ref o9)])
      obtain ⟨cq26, kq26, q26a, q26b, q26c⟩ := isOf hZ20 e24 P20_0
      obtain ⟨_, _, ⟨T26, L26, k26, n26⟩, -, X26q, hS26q, hg26q, ⟨Lc26, hQ26, l26, y26, z26, Cq26⟩, st26⟩ := X24.virtualBackS hx (y := (⟨"com/example/partwise/partwise/Part", "asAddedBy", "(J)Lcom/example/partwise/partwise/Part;"⟩ : MethodName)) (z := (⟨"com/example/partwise/partwise/Part", "asAddedBy", "(J)Lcom/example/partwise/partwise/Part;"⟩ : MethodName)) hown20 (mvT hZ20 (hw _ (List.mem_of_getElem? (i := 61) rfl))) (mvT hZ20 (hw _ (List.mem_of_getElem? (i := 62) rfl))) (notFace_of_selects (args := #[]) (mvT hZ20 (hw _ (List.mem_of_getElem? (i := 64) rfl)))) (mvT hZ20 (hw _ (List.mem_of_getElem? (i := 64) rfl))) (mvT hZ20 (hw _ (List.mem_of_getElem? (i := 63) rfl))) (by decide) (backOfSH (EL := EL0) (W := 0) (rm := ({ frames := 3, cells := 5, slots := 41, locals := 44 } : Room)) (rm10_n l Z a0 hw [] o9 q5 s_2 s_5 q3 q4 T20.heap n0 (Nat.le_trans Z0 K20.1) P20_0 P20_1 P20_2 P20_3 P20_4 P20_5) hZ20 (hw _ (List.mem_of_getElem? (i := 65) rfl)) (hw _ (List.mem_of_getElem? (i := 28) rfl)) (by decide) (by decide) hEL Cq20.1) q26a q26c (g := (mkF m 168 #[.val (.int p1), .val (.int p2), .val (.long q3), .second, .val (.long q4), .second, .val (.long q5), .second, .val (.int (0 : Int32)), .val (.int (g0_2 p1 p2 q3 q4 q5 w)), .val (.int (g0_3 p1 p2 q3 q4 q5 w)), .val .null, .val (.ref s_2), .val (.ref s_5), .val (.ref o9), .val (.int (1 : Int32)), .unset] [(.long q5), (.ref o9)])) rfl (by rw [hml]; rfl) (Steps.refl _) (argsL := [(.long q5)]) (rest := []) (lenOf pd__J_Lcom_example_partwise_partwise_Part_ rfl) rfl (by show 2 * 0 + _ ≤ _; exact Nat.le_of_eq rfl) (hb hby at_168) (fun _ _ => ⟨rfl, e24, (by decide : 9 + 5 ≤ _), (by decide : 51 + 41 ≤ _)⟩)
      dsimp only [Pt.U, Pt.locs, Pt.cells, Pt.slots] at X26q hS26q hg26q l26 y26 z26 st26 hQ26 Cq26
      subst l26 y26 z26
      obtain ⟨X26, hS26, hZ26, hown26⟩ := rebS hS20 (by rw [e24]; exact hk20) X26q hS26q hg26q hZ20 hown20
      have CR26 := CHr.trans CR20 Cq26
      have hk26 : T26.heap.size ≤ T26.heap.size := Nat.le_refl _
      obtain ⟨N26q, K26q, q_26, sz_q_26, rfl, P26_0, P26_1⟩ := hQ26
      refine own_stS (fun t k => st26.trans k) ?_
      have N26 := Fr.app N24 N26q
      have ge_q_26 : n0 ≤ q_26 := Nat.le_trans (Nat.le_trans Z0 K20.1) sz_q_26
      have sy_q_26 : h0.size ≤ q_26 := Nat.le_trans K20.1 sz_q_26
      have ne_o9_q_26 : o9 ≠ q_26 := Nat.ne_of_lt (Nat.lt_of_lt_of_le P20_0.lt sz_q_26)
      have ne_s_2_q_26 : s_2 ≠ q_26 := Nat.ne_of_lt (Nat.lt_of_lt_of_le F22.lt sz_q_26)
      have ne_s_5_q_26 : s_5 ≠ q_26 := Nat.ne_of_lt (Nat.lt_of_lt_of_le F23.lt sz_q_26)
      have K26 : Keep h0 T26.heap [] := K20.trans K26q (own_all0 )
      have F27 : Sta Z T26.heap "java/lang/String" "COMPACT_STRINGS" "Z" (.int w) := (own_staK F21 K26q (own_all0 ))
      have F28 : Exa Z T26.heap s_2 "java/lang/String" := (F22.keep K26q)
      have F29 : Exa Z T26.heap s_5 "java/lang/String" := (F23.keep K26q)
      have F30 : Exa Z T26.heap o9 "com/example/partwise/partwise/Part" := (P20_0.keep K26q)
      have F31 : Fld Z T26.heap o9 "com/example/partwise/partwise/Part" "table" "Ljava/lang/String;" (.ref s_2) := (P20_1.keep K26q (own_nin0 ))
      have F32 : Fld Z T26.heap o9 "com/example/partwise/partwise/Part" "id" "Ljava/lang/String;" (.ref s_5) := (P20_2.keep K26q (own_nin0 ))
      have F33 : Fld Z T26.heap o9 "com/example/partwise/partwise/Part" "rows" "J" (.long q3) := (P20_3.keep K26q (own_nin0 ))
      have F34 : Fld Z T26.heap o9 "com/example/partwise/partwise/Part" "inline" "Ljava/lang/String;" .null := (P20_4.keep K26q (own_nin0 ))
      have F35 : Fld Z T26.heap o9 "com/example/partwise/partwise/Part" "addedBy" "J" (.long q4) := (P20_5.keep K26q (own_nin0 ))
      show OGS _ _ p e _ s below _ T26 (mkF m 171 #[.val (.int p1), .val (.int p2), .val (.long q3), .second, .val (.long q4), .second, .val (.long q5), .second, .val (.int (0 : Int32)), .val (.int (g0_2 p1 p2 q3 q4 q5 w)), .val (.int (g0_3 p1 p2 q3 q4 q5 w)), .val .null, .val (.ref s_2), .val (.ref s_5), .val (.ref o9), .val (.int (1 : Int32)), .unset] [(.ref q_26)])
      refine own_stS (fun t k => XS.astore X26.here hx rfl (hb hby at_171) rfl rfl (l' := #[.val (.int p1), .val (.int p2), .val (.long q3), .second, .val (.long q4), .second, .val (.long q5), .second, .val (.int (0 : Int32)), .val (.int (g0_2 p1 p2 q3 q4 q5 w)), .val (.int (g0_3 p1 p2 q3 q4 q5 w)), .val .null, .val (.ref s_2), .val (.ref s_5), .val (.ref o9), .val (.int (1 : Int32)), .val (.ref q_26)]) rfl k) ?_
      show OGS _ _ p e _ s below _ T26 (mkF m 173 #[.val (.int p1), .val (.int p2), .val (.long q3), .second, .val (.long q4), .second, .val (.long q5), .second, .val (.int (0 : Int32)), .val (.int (g0_2 p1 p2 q3 q4 q5 w)), .val (.int (g0_3 p1 p2 q3 q4 q5 w)), .val .null, .val (.ref s_2), .val (.ref s_5), .val (.ref o9), .val (.int (1 : Int32)), .val (.ref q_26)] [])
      refine own_stS (fun t k => XS.aload X26.here hx rfl (hb hby at_173) rfl rfl k) ?_
      show OGS _ _ p e _ s below _ T26 (mkF m 175 #[.val (.int p1), .val (.int p2), .val (.long q3), .second, .val (.long q4), .second, .val (.long q5), .second, .val (.int (0 : Int32)), .val (.int (g0_2 p1 p2 q3 q4 q5 w)), .val (.int (g0_3 p1 p2 q3 q4 q5 w)), .val .null, .val (.ref s_2), .val (.ref s_5), .val (.ref o9), .val (.int (1 : Int32)), .val (.ref q_26)] [(.ref q_26)])
      obtain ⟨cq36, kq36, q36a, q36b, q36c⟩ := isOf hZ26 rfl P26_0
      obtain ⟨_, _, ⟨T36, L36, k36, n36⟩, -, X36, ⟨Lc36, hQ36, l36, y36, z36⟩, st36⟩ := X26.virtualBack hx (y := (⟨"com/example/partwise/partwise/Part", "inFile", "()Z"⟩ : MethodName)) (z := (⟨"com/example/partwise/partwise/Part", "inFile", "()Z"⟩ : MethodName)) hown26 (mvT hZ26 (hw _ (List.mem_of_getElem? (i := 56) rfl))) (mvT hZ26 (hw _ (List.mem_of_getElem? (i := 57) rfl))) (notFace_of_selects (args := #[]) (mvT hZ26 (hw _ (List.mem_of_getElem? (i := 59) rfl)))) (mvT hZ26 (hw _ (List.mem_of_getElem? (i := 59) rfl))) (mvT hZ26 (hw _ (List.mem_of_getElem? (i := 58) rfl))) (by decide) (backOf (W := 0) (rm := ({ frames := 0, cells := 0, slots := 0, locals := 0 } : Room)) (rm9_n l Z a0 hw [] q_26 T26.heap P26_1) hZ26 (hw _ (List.mem_of_getElem? (i := 60) rfl)) (hw _ (List.mem_of_getElem? (i := 28) rfl)) (by decide) (by decide)) q36a q36c (g := (mkF m 175 #[.val (.int p1), .val (.int p2), .val (.long q3), .second, .val (.long q4), .second, .val (.long q5), .second, .val (.int (0 : Int32)), .val (.int (g0_2 p1 p2 q3 q4 q5 w)), .val (.int (g0_3 p1 p2 q3 q4 q5 w)), .val .null, .val (.ref s_2), .val (.ref s_5), .val (.ref o9), .val (.int (1 : Int32)), .val (.ref q_26)] [(.ref q_26)])) rfl (by rw [hml]; rfl) (Steps.refl _) (argsL := []) (rest := []) (lenOf pd___Z rfl) rfl (by show 2 * 0 + _ ≤ _; exact Nat.le_of_eq rfl) (hb hby at_175) (fun _ _ => ⟨rfl, rfl, (by decide : 14 + 0 ≤ _), (by decide : 92 + 0 ≤ _)⟩)
      dsimp only [Pt.U, Pt.locs, Pt.cells, Pt.slots] at X36 l36 y36 z36 st36 hQ36
      subst l36 y36 z36
      obtain ⟨rfl, rfl, e36⟩ := hQ36
      refine own_stS (fun t k => st36.trans k) ?_
      have N36 := Fr.app N26 (Fr.nil n0)
      show OGS _ _ p e _ s below _ T36 (mkF m 178 #[.val (.int p1), .val (.int p2), .val (.long q3), .second, .val (.long q4), .second, .val (.long q5), .second, .val (.int (0 : Int32)), .val (.int (g0_2 p1 p2 q3 q4 q5 w)), .val (.int (g0_3 p1 p2 q3 q4 q5 w)), .val .null, .val (.ref s_2), .val (.ref s_5), .val (.ref o9), .val (.int (1 : Int32)), .val (.ref q_26)] [(.int f9_n)])
      refine own_stS (fun t k => XS.iload X36.here hx rfl (hb hby at_178) rfl k) ?_
      show OGS _ _ p e _ s below _ T36 (mkF m 180 #[.val (.int p1), .val (.int p2), .val (.long q3), .second, .val (.long q4), .second, .val (.long q5), .second, .val (.int (0 : Int32)), .val (.int (g0_2 p1 p2 q3 q4 q5 w)), .val (.int (g0_3 p1 p2 q3 q4 q5 w)), .val .null, .val (.ref s_2), .val (.ref s_5), .val (.ref o9), .val (.int (1 : Int32)), .val (.ref q_26)] [(.int (1 : Int32)), (.int f9_n)])
      refine own_stS (fun t k => XS.icmpNo X36.here hx rfl (hb hby at_180) rfl (teq c25).2 k) ?_
      show OGS _ _ p e _ s below _ T36 (mkF m 183 #[.val (.int p1), .val (.int p2), .val (.long q3), .second, .val (.long q4), .second, .val (.long q5), .second, .val (.int (0 : Int32)), .val (.int (g0_2 p1 p2 q3 q4 q5 w)), .val (.int (g0_3 p1 p2 q3 q4 q5 w)), .val .null, .val (.ref s_2), .val (.ref s_5), .val (.ref o9), .val (.int (1 : Int32)), .val (.ref q_26)] [])
      refine own_stS (fun t k => XS.iconst X36.here hx rfl (hb hby at_183) k) ?_
      show OGS _ _ p e _ s below _ T36 (mkF m 184 #[.val (.int p1), .val (.int p2), .val (.long q3), .second, .val (.long q4), .second, .val (.long q5), .second, .val (.int (0 : Int32)), .val (.int (g0_2 p1 p2 q3 q4 q5 w)), .val (.int (g0_3 p1 p2 q3 q4 q5 w)), .val .null, .val (.ref s_2), .val (.ref s_5), .val (.ref o9), .val (.int (1 : Int32)), .val (.ref q_26)] [(.int (1 : Int32))])
      refine own_stS (fun t k => XS.goto X36.here hx rfl (pc0 := 184) (pc' := 188) rfl (hb hby at_184) (by decide) (by decide) k) ?_
      show OGS _ _ p e _ s below _ T36 (mkF m 188 #[.val (.int p1), .val (.int p2), .val (.long q3), .second, .val (.long q4), .second, .val (.long q5), .second, .val (.int (0 : Int32)), .val (.int (g0_2 p1 p2 q3 q4 q5 w)), .val (.int (g0_3 p1 p2 q3 q4 q5 w)), .val .null, .val (.ref s_2), .val (.ref s_5), .val (.ref o9), .val (.int (1 : Int32)), .val (.ref q_26)] [(.int (1 : Int32))])
      refine own_endS X36 hlk hZ26 hEL e36 hs0 hS26 hk26 Cq26.1 CR26 (v := some (.int (nar .boolean (1 : Int32)))) (fun h => by rw [hret] at h; cases h) (by decide) (by decide) ?_ (fun fs hr => retN X36 hx (t := .boolean) hret (by simp) (hb hby at_188) hr)
      exact ⟨congrArg (fun z => some (Value.int z)) (show f0 p1 p2 q3 q4 q5 w = (1 : Int32) from (by rw [f0, if_pos c1, if_pos c25])).symm, N36⟩
    · refine own_stS (fun t k => XS.icmpNo X24.here hx rfl (hb hby at_159) rfl (feq c25).1 k) ?_
      show OGS _ _ p e _ s below _ T24 (mkF m 162 #[.val (.int p1), .val (.int p2), .val (.long q3), .second, .val (.long q4), .second, .val (.long q5), .second, .val (.int (0 : Int32)), .val (.int (g0_2 p1 p2 q3 q4 q5 w)), .val (.int (g0_3 p1 p2 q3 q4 q5 w)), .val .null, .val (.ref s_2), .val (.ref s_5), .val (.ref o9), .val (.int (1 : Int32)), .unset] [])
      refine own_stS (fun t k => XS.iconst X24.here hx rfl (hb hby at_162) k) ?_
      show OGS _ _ p e _ s below _ T24 (mkF m 163 #[.val (.int p1), .val (.int p2), .val (.long q3), .second, .val (.long q4), .second, .val (.long q5), .second, .val (.int (0 : Int32)), .val (.int (g0_2 p1 p2 q3 q4 q5 w)), .val (.int (g0_3 p1 p2 q3 q4 q5 w)), .val .null, .val (.ref s_2), .val (.ref s_5), .val (.ref o9), .val (.int (1 : Int32)), .unset] [(.int (0 : Int32))])
      refine own_endS X24 hlk hZ20 hEL e24 hs0 hS20 hk20 Cq20.1 CR20 (v := some (.int (nar .boolean (0 : Int32)))) (fun h => by rw [hret] at h; cases h) (by decide) (by decide) ?_ (fun fs hr => retN X24 hx (t := .boolean) hret (by simp) (hb hby at_163) hr)
      exact ⟨congrArg (fun z => some (Value.int z)) (show f0 p1 p2 q3 q4 q5 w = (0 : Int32) from (by rw [f0, if_pos c1, if_neg c25])).symm, N24⟩
  · skip
    by_cases c37 : (g0_1 p1 p2 q3 q4 q5 w) = (1 : Int32)
    · rw [c37]
      show OGS _ _ p e _ s below _ s₁ (mkF m 5 #[.val (.int p1), .val (.int p2), .val (.long q3), .second, .val (.long q4), .second, .val (.long q5), .second, .val (.int (1 : Int32)), .unset, .unset, .unset, .unset, .unset, .unset, .unset, .unset] [])
      refine own_stS (fun t k => XS.iloadN X0.here hx rfl (hb hby at_5) rfl k) ?_
      show OGS _ _ p e _ s below _ s₁ (mkF m 6 #[.val (.int p1), .val (.int p2), .val (.long q3), .second, .val (.long q4), .second, .val (.long q5), .second, .val (.int (1 : Int32)), .unset, .unset, .unset, .unset, .unset, .unset, .unset, .unset] [(.int p2)])
      refine own_stS (fun t k => XS.sipush X0.here hx rfl (hb hby at_6) k) ?_
      show OGS _ _ p e _ s below _ s₁ (mkF m 9 #[.val (.int p1), .val (.int p2), .val (.long q3), .second, .val (.long q4), .second, .val (.long q5), .second, .val (.int (1 : Int32)), .unset, .unset, .unset, .unset, .unset, .unset, .unset, .unset] [(.int (255 : Int32)), (.int p2)])
      refine own_stS (fun t k => XS.iand X0.here hx rfl (hb hby at_9) rfl k) ?_
      show OGS _ _ p e _ s below _ s₁ (mkF m 10 #[.val (.int p1), .val (.int p2), .val (.long q3), .second, .val (.long q4), .second, .val (.long q5), .second, .val (.int (1 : Int32)), .unset, .unset, .unset, .unset, .unset, .unset, .unset, .unset] [(.int (p2 &&& (255 : Int32)))])
      refine own_stS (fun t k => XS.i2c X0.here hx rfl (hb hby at_10) rfl k) ?_
      show OGS _ _ p e _ s below _ s₁ (mkF m 11 #[.val (.int p1), .val (.int p2), .val (.long q3), .second, .val (.long q4), .second, .val (.long q5), .second, .val (.int (1 : Int32)), .unset, .unset, .unset, .unset, .unset, .unset, .unset, .unset] [(.int ((p2 &&& (255 : Int32)).toUInt32.toUInt16.toUInt32.toInt32))])
      refine own_stS (fun t k => XS.istore X0.here hx rfl (hb hby at_11) rfl (l' := #[.val (.int p1), .val (.int p2), .val (.long q3), .second, .val (.long q4), .second, .val (.long q5), .second, .val (.int (1 : Int32)), .val (.int (g0_2 p1 p2 q3 q4 q5 w)), .unset, .unset, .unset, .unset, .unset, .unset, .unset]) rfl k) ?_
      show OGS _ _ p e _ s below _ s₁ (mkF m 13 #[.val (.int p1), .val (.int p2), .val (.long q3), .second, .val (.long q4), .second, .val (.long q5), .second, .val (.int (1 : Int32)), .val (.int (g0_2 p1 p2 q3 q4 q5 w)), .unset, .unset, .unset, .unset, .unset, .unset, .unset] [])
      refine own_stS (fun t k => XS.iloadN X0.here hx rfl (hb hby at_13) rfl k) ?_
      show OGS _ _ p e _ s below _ s₁ (mkF m 14 #[.val (.int p1), .val (.int p2), .val (.long q3), .second, .val (.long q4), .second, .val (.long q5), .second, .val (.int (1 : Int32)), .val (.int (g0_2 p1 p2 q3 q4 q5 w)), .unset, .unset, .unset, .unset, .unset, .unset, .unset] [(.int p2)])
      refine own_stS (fun t k => XS.bipush X0.here hx rfl (hb hby at_14) k) ?_
      show OGS _ _ p e _ s below _ s₁ (mkF m 16 #[.val (.int p1), .val (.int p2), .val (.long q3), .second, .val (.long q4), .second, .val (.long q5), .second, .val (.int (1 : Int32)), .val (.int (g0_2 p1 p2 q3 q4 q5 w)), .unset, .unset, .unset, .unset, .unset, .unset, .unset] [(.int (8 : Int32)), (.int p2)])
      refine own_stS (fun t k => XS.iushr X0.here hx rfl (hb hby at_16) rfl k) ?_
      show OGS _ _ p e _ s below _ s₁ (mkF m 17 #[.val (.int p1), .val (.int p2), .val (.long q3), .second, .val (.long q4), .second, .val (.long q5), .second, .val (.int (1 : Int32)), .val (.int (g0_2 p1 p2 q3 q4 q5 w)), .unset, .unset, .unset, .unset, .unset, .unset, .unset] [(.int ((p2.toUInt32 >>> ((8 : Int32) &&& 31).toUInt32).toInt32))])
      refine own_stS (fun t k => XS.sipush X0.here hx rfl (hb hby at_17) k) ?_
      show OGS _ _ p e _ s below _ s₁ (mkF m 20 #[.val (.int p1), .val (.int p2), .val (.long q3), .second, .val (.long q4), .second, .val (.long q5), .second, .val (.int (1 : Int32)), .val (.int (g0_2 p1 p2 q3 q4 q5 w)), .unset, .unset, .unset, .unset, .unset, .unset, .unset] [(.int (255 : Int32)), (.int ((p2.toUInt32 >>> ((8 : Int32) &&& 31).toUInt32).toInt32))])
      refine own_stS (fun t k => XS.iand X0.here hx rfl (hb hby at_20) rfl k) ?_
      show OGS _ _ p e _ s below _ s₁ (mkF m 21 #[.val (.int p1), .val (.int p2), .val (.long q3), .second, .val (.long q4), .second, .val (.long q5), .second, .val (.int (1 : Int32)), .val (.int (g0_2 p1 p2 q3 q4 q5 w)), .unset, .unset, .unset, .unset, .unset, .unset, .unset] [(.int (((p2.toUInt32 >>> ((8 : Int32) &&& 31).toUInt32).toInt32) &&& (255 : Int32)))])
      refine own_stS (fun t k => XS.i2c X0.here hx rfl (hb hby at_21) rfl k) ?_
      show OGS _ _ p e _ s below _ s₁ (mkF m 22 #[.val (.int p1), .val (.int p2), .val (.long q3), .second, .val (.long q4), .second, .val (.long q5), .second, .val (.int (1 : Int32)), .val (.int (g0_2 p1 p2 q3 q4 q5 w)), .unset, .unset, .unset, .unset, .unset, .unset, .unset] [(.int ((((p2.toUInt32 >>> ((8 : Int32) &&& 31).toUInt32).toInt32) &&& (255 : Int32)).toUInt32.toUInt16.toUInt32.toInt32))])
      refine own_stS (fun t k => XS.istore X0.here hx rfl (hb hby at_22) rfl (l' := #[.val (.int p1), .val (.int p2), .val (.long q3), .second, .val (.long q4), .second, .val (.long q5), .second, .val (.int (1 : Int32)), .val (.int (g0_2 p1 p2 q3 q4 q5 w)), .val (.int (g0_3 p1 p2 q3 q4 q5 w)), .unset, .unset, .unset, .unset, .unset, .unset]) rfl k) ?_
      show OGS _ _ p e _ s below _ s₁ (mkF m 24 #[.val (.int p1), .val (.int p2), .val (.long q3), .second, .val (.long q4), .second, .val (.long q5), .second, .val (.int (1 : Int32)), .val (.int (g0_2 p1 p2 q3 q4 q5 w)), .val (.int (g0_3 p1 p2 q3 q4 q5 w)), .unset, .unset, .unset, .unset, .unset, .unset] [])
      refine own_stS (fun t k => XS.iload X0.here hx rfl (hb hby at_24) rfl k) ?_
      show OGS _ _ p e _ s below _ s₁ (mkF m 26 #[.val (.int p1), .val (.int p2), .val (.long q3), .second, .val (.long q4), .second, .val (.long q5), .second, .val (.int (1 : Int32)), .val (.int (g0_2 p1 p2 q3 q4 q5 w)), .val (.int (g0_3 p1 p2 q3 q4 q5 w)), .unset, .unset, .unset, .unset, .unset, .unset] [(.int (1 : Int32))])
      refine own_stS (fun t k => XS.ifYes X0.here hx rfl (pc0 := 26) (pc' := 35) rfl (hb hby at_26) rfl (by decide) (by decide) (by decide) k) ?_
      show OGS _ _ p e _ s below _ s₁ (mkF m 35 #[.val (.int p1), .val (.int p2), .val (.long q3), .second, .val (.long q4), .second, .val (.long q5), .second, .val (.int (1 : Int32)), .val (.int (g0_2 p1 p2 q3 q4 q5 w)), .val (.int (g0_3 p1 p2 q3 q4 q5 w)), .unset, .unset, .unset, .unset, .unset, .unset] [])
      refine own_stS (fun t k => XS.iload X0.here hx rfl (hb hby at_35) rfl k) ?_
      show OGS _ _ p e _ s below _ s₁ (mkF m 37 #[.val (.int p1), .val (.int p2), .val (.long q3), .second, .val (.long q4), .second, .val (.long q5), .second, .val (.int (1 : Int32)), .val (.int (g0_2 p1 p2 q3 q4 q5 w)), .val (.int (g0_3 p1 p2 q3 q4 q5 w)), .unset, .unset, .unset, .unset, .unset, .unset] [(.int (1 : Int32))])
      refine own_stS (fun t k => XS.iconst X0.here hx rfl (hb hby at_37) k) ?_
      show OGS _ _ p e _ s below _ s₁ (mkF m 38 #[.val (.int p1), .val (.int p2), .val (.long q3), .second, .val (.long q4), .second, .val (.long q5), .second, .val (.int (1 : Int32)), .val (.int (g0_2 p1 p2 q3 q4 q5 w)), .val (.int (g0_3 p1 p2 q3 q4 q5 w)), .unset, .unset, .unset, .unset, .unset, .unset] [(.int (1 : Int32)), (.int (1 : Int32))])
      refine own_stS (fun t k => XS.icmpNo X0.here hx rfl (hb hby at_38) rfl (by decide) k) ?_
      show OGS _ _ p e _ s below _ s₁ (mkF m 41 #[.val (.int p1), .val (.int p2), .val (.long q3), .second, .val (.long q4), .second, .val (.long q5), .second, .val (.int (1 : Int32)), .val (.int (g0_2 p1 p2 q3 q4 q5 w)), .val (.int (g0_3 p1 p2 q3 q4 q5 w)), .unset, .unset, .unset, .unset, .unset, .unset] [])
      obtain ⟨T38, h38, X38, e38, E38, A38, D38, -, st38⟩ := newO X0 hx hZ hown (hw _ (List.mem_of_getElem? (i := 68) rfl)) (hw _ (List.mem_of_getElem? (i := 10) rfl)) (hw _ (List.mem_of_getElem? (i := 2) rfl)) e0 (g := (mkF m 41 #[.val (.int p1), .val (.int p2), .val (.long q3), .second, .val (.long q4), .second, .val (.long q5), .second, .val (.int (1 : Int32)), .val (.int (g0_2 p1 p2 q3 q4 q5 w)), .val (.int (g0_3 p1 p2 q3 q4 q5 w)), .unset, .unset, .unset, .unset, .unset, .unset] [])) rfl (hb hby at_41) (by decide) (by decide)
      obtain ⟨o38, gb38⟩ : ∃ z, z = h0.size := ⟨_, rfl⟩
      rw [← gb38] at A38 D38 st38
      refine own_stS st38 ?_
      have ge_o38 : n0 ≤ o38 := by rw [gb38]; exact Nat.le_trans Z0 (Keep.refl h0 []).1
      have sz_o38 : h0.size ≤ o38 := by rw [gb38]; exact (Keep.refl h0 []).1
      have F39 : Sta Z h38 "java/lang/String" "COMPACT_STRINGS" "Z" (.int w) := (R0.ext E38)
      have K40 : Keep h0 h38 [] := (Keep.refl h0 []).ext E38
      have F41 : Fld Z h38 o38 "java/lang/String" "value" "[B" .null := D38 (Or.inr (hw _ (List.mem_of_getElem? (i := 23) rfl))) (ty := (.array .byte)) (by decide)
      have F42 : Fld Z h38 o38 "java/lang/String" "coder" "B" (.int (0 : Int32)) := D38 (Or.inr (hw _ (List.mem_of_getElem? (i := 25) rfl))) (ty := .byte) (by decide)
      show OGS _ _ p e _ s below _ T38 (mkF m 44 #[.val (.int p1), .val (.int p2), .val (.long q3), .second, .val (.long q4), .second, .val (.long q5), .second, .val (.int (1 : Int32)), .val (.int (g0_2 p1 p2 q3 q4 q5 w)), .val (.int (g0_3 p1 p2 q3 q4 q5 w)), .unset, .unset, .unset, .unset, .unset, .unset] [(.ref o38)])
      have CR43 : CHr Z EL0 s.vm h0 s.vm h38 := CHr.trans CR0 (CHr.ext E38 CH0)
      have CH43 : CHv Z EL0 s.vm h38 := CHv.ext E38 CH0
      have hk43 := Nat.le_trans hk0 E38.1
      have sn_o38 : Safe Z EL0 s.vm h38 o38 := Safe.ext E38 CH0 (Safe.new (Nat.le_of_eq gb38.symm))
      refine own_stS (fun t k => XS.dup X38.here hx rfl (hb hby at_44) rfl rfl k) ?_
      show OGS _ _ p e _ s below _ T38 (mkF m 45 #[.val (.int p1), .val (.int p2), .val (.long q3), .second, .val (.long q4), .second, .val (.long q5), .second, .val (.int (1 : Int32)), .val (.int (g0_2 p1 p2 q3 q4 q5 w)), .val (.int (g0_3 p1 p2 q3 q4 q5 w)), .unset, .unset, .unset, .unset, .unset, .unset] [(.ref o38), (.ref o38)])
      refine own_stS (fun t k => XS.iconst X38.here hx rfl (hb hby at_45) k) ?_
      show OGS _ _ p e _ s below _ T38 (mkF m 46 #[.val (.int p1), .val (.int p2), .val (.long q3), .second, .val (.long q4), .second, .val (.long q5), .second, .val (.int (1 : Int32)), .val (.int (g0_2 p1 p2 q3 q4 q5 w)), .val (.int (g0_3 p1 p2 q3 q4 q5 w)), .unset, .unset, .unset, .unset, .unset, .unset] [(.int (0 : Int32)), (.ref o38), (.ref o38)])
      obtain ⟨T44, h44, k44, X44, e44, E44, A44, st44⟩ := newP X38 hx hZ (hw _ (List.mem_of_getElem? (i := 69) rfl)) e38 (g := (mkF m 46 #[.val (.int p1), .val (.int p2), .val (.long q3), .second, .val (.long q4), .second, .val (.long q5), .second, .val (.int (1 : Int32)), .val (.int (g0_2 p1 p2 q3 q4 q5 w)), .val (.int (g0_3 p1 p2 q3 q4 q5 w)), .unset, .unset, .unset, .unset, .unset, .unset] [(.int (0 : Int32)), (.ref o38), (.ref o38)])) rfl (hb hby at_46) rfl (by decide) (cap := 0) (by decide) (by decide) (by decide) (by decide)
      obtain ⟨b44, gb44⟩ : ∃ z, z = h38.size := ⟨_, rfl⟩
      rw [← gb44] at A44 st44
      refine own_stS st44 ?_
      have ge_b44 : n0 ≤ b44 := by rw [gb44]; exact Nat.le_trans Z0 K40.1
      have sz_b44 : h0.size ≤ b44 := by rw [gb44]; exact K40.1
      have ne_o38_b44 : o38 ≠ b44 := Nat.ne_of_lt (Nat.lt_of_lt_of_eq A38.lt gb44.symm)
      have F45 : Sta Z h44 "java/lang/String" "COMPACT_STRINGS" "Z" (.int w) := (F39.ext E44)
      have F46 : Exa Z h44 o38 "java/lang/String" := (A38.ext E44)
      have F47 : Fld Z h44 o38 "java/lang/String" "value" "[B" .null := (F41.ext E44)
      have F48 : Fld Z h44 o38 "java/lang/String" "coder" "B" (.int (0 : Int32)) := (F42.ext E44)
      have K49 : Keep h0 h44 [] := K40.ext E44
      have F50 : OA Z h44 b44 .char [] := OA.new A44
      show OGS _ _ p e _ s below _ T44 (mkF m 48 #[.val (.int p1), .val (.int p2), .val (.long q3), .second, .val (.long q4), .second, .val (.long q5), .second, .val (.int (1 : Int32)), .val (.int (g0_2 p1 p2 q3 q4 q5 w)), .val (.int (g0_3 p1 p2 q3 q4 q5 w)), .unset, .unset, .unset, .unset, .unset, .unset] [(.ref b44), (.ref o38), (.ref o38)])
      have sf51_o38 : Safe Z EL0 s.vm h44 o38 := Safe.ext E44 CH43 sn_o38
      have CR51 : CHr Z EL0 s.vm h0 s.vm h44 := CHr.trans CR43 (CHr.ext E44 CH43)
      have CH51 : CHv Z EL0 s.vm h44 := CHv.ext E44 CH43
      have hk51 := Nat.le_trans hk43 E44.1
      obtain ⟨_, _, ⟨T52, L52, k52, n52⟩, -, X52q, hS52q, hg52q, ⟨Lc52, hQ52, l52, y52, z52, Cq52⟩, st52⟩ := X44.specialBackS hx (y := (⟨"java/lang/String", "<init>", "([C)V"⟩ : MethodName)) rfl hown (mvT hZ (hw _ (List.mem_of_getElem? (i := 70) rfl))) (mvT hZ (hw _ (List.mem_of_getElem? (i := 71) rfl))) (mvT hZ (hw _ (List.mem_of_getElem? (i := 72) rfl))) (by decide) (backOfSH (EL := EL0) (W := 1) (rm := ({ frames := 2, cells := 4, slots := 8, locals := 29 } : Room)) (rm11_0 l Z a0 hw [] o38 b44 h44 n0 F46 F47 F48 F50 ge_o38 (Ne.symm ne_o38_b44)) hZ (hw _ (List.mem_of_getElem? (i := 72) rfl)) (hw _ (List.mem_of_getElem? (i := 2) rfl)) (by decide) (by decide) hEL CH51) (g := (mkF m 48 #[.val (.int p1), .val (.int p2), .val (.long q3), .second, .val (.long q4), .second, .val (.long q5), .second, .val (.int (1 : Int32)), .val (.int (g0_2 p1 p2 q3 q4 q5 w)), .val (.int (g0_3 p1 p2 q3 q4 q5 w)), .unset, .unset, .unset, .unset, .unset, .unset] [(.ref b44), (.ref o38), (.ref o38)])) rfl (by rw [hml]; rfl) (Steps.refl _) (a := o38) (argsL := [(.ref b44)]) (rest := [(.ref o38)]) (lenOf pd___C_V rfl) rfl (by show 2 * 0 + _ ≤ _; exact Nat.le_of_eq rfl) (hb hby at_48) (fun _ _ => ⟨rfl, e44, (by decide : 2 + 4 ≤ _), (by decide : 4 + 8 ≤ _)⟩)
      dsimp only [Pt.U, Pt.locs, Pt.cells, Pt.slots] at X52q hS52q hg52q l52 y52 z52 st52 hQ52 Cq52
      subst l52 y52 z52
      obtain ⟨X52, hS52, hZ52, hown52⟩ := rebS hS0 (by rw [e44]; exact hk51) X52q hS52q hg52q hZ hown
      have sf52_o38 : Safe Z EL0 T52.vm T52.heap o38 := CHr.safe Cq52 F46.lt sf51_o38
      have CR52 := CHr.trans CR51 Cq52
      have hk52 : T52.heap.size ≤ T52.heap.size := Nat.le_refl _
      obtain ⟨rfl, N52q, K52q, b_52, P52_0, P52_1, P52_2, P52_3⟩ := hQ52
      refine own_stS (fun t k => st52.trans k) ?_
      have N52 := Fr.app N0 N52q
      have K52 : Keep h0 T52.heap [] := K49.trans K52q (own_all1 (Or.inr sz_o38))
      have F53 : Sta Z T52.heap "java/lang/String" "COMPACT_STRINGS" "Z" (.int w) := (own_staK F45 K52q (own_all1 (own_plE F46)))
      have F54 : OA Z T52.heap b44 .char [] := (F50.keep K52q (own_nin1 (Ne.symm ne_o38_b44)))
      show OGS _ _ p e _ s below _ T52 (mkF m 51 #[.val (.int p1), .val (.int p2), .val (.long q3), .second, .val (.long q4), .second, .val (.long q5), .second, .val (.int (1 : Int32)), .val (.int (g0_2 p1 p2 q3 q4 q5 w)), .val (.int (g0_3 p1 p2 q3 q4 q5 w)), .unset, .unset, .unset, .unset, .unset, .unset] [(.ref o38)])
      refine own_stS (fun t k => XS.astore X52.here hx rfl (hb hby at_51) rfl rfl (l' := #[.val (.int p1), .val (.int p2), .val (.long q3), .second, .val (.long q4), .second, .val (.long q5), .second, .val (.int (1 : Int32)), .val (.int (g0_2 p1 p2 q3 q4 q5 w)), .val (.int (g0_3 p1 p2 q3 q4 q5 w)), .val (.ref o38), .unset, .unset, .unset, .unset, .unset]) rfl k) ?_
      show OGS _ _ p e _ s below _ T52 (mkF m 53 #[.val (.int p1), .val (.int p2), .val (.long q3), .second, .val (.long q4), .second, .val (.long q5), .second, .val (.int (1 : Int32)), .val (.int (g0_2 p1 p2 q3 q4 q5 w)), .val (.int (g0_3 p1 p2 q3 q4 q5 w)), .val (.ref o38), .unset, .unset, .unset, .unset, .unset] [])
      refine own_stS (fun t k => XS.goto X52.here hx rfl (pc0 := 53) (pc' := 94) rfl (hb hby at_53) (by decide) (by decide) k) ?_
      show OGS _ _ p e _ s below _ T52 (mkF m 94 #[.val (.int p1), .val (.int p2), .val (.long q3), .second, .val (.long q4), .second, .val (.long q5), .second, .val (.int (1 : Int32)), .val (.int (g0_2 p1 p2 q3 q4 q5 w)), .val (.int (g0_3 p1 p2 q3 q4 q5 w)), .val (.ref o38), .unset, .unset, .unset, .unset, .unset] [])
      refine own_stS (fun t k => XS.iloadN X52.here hx rfl (hb hby at_94) rfl k) ?_
      show OGS _ _ p e _ s below _ T52 (mkF m 95 #[.val (.int p1), .val (.int p2), .val (.long q3), .second, .val (.long q4), .second, .val (.long q5), .second, .val (.int (1 : Int32)), .val (.int (g0_2 p1 p2 q3 q4 q5 w)), .val (.int (g0_3 p1 p2 q3 q4 q5 w)), .val (.ref o38), .unset, .unset, .unset, .unset, .unset] [(.int p2)])
      refine own_stS (fun t k => XS.bipush X52.here hx rfl (hb hby at_95) k) ?_
      show OGS _ _ p e _ s below _ T52 (mkF m 97 #[.val (.int p1), .val (.int p2), .val (.long q3), .second, .val (.long q4), .second, .val (.long q5), .second, .val (.int (1 : Int32)), .val (.int (g0_2 p1 p2 q3 q4 q5 w)), .val (.int (g0_3 p1 p2 q3 q4 q5 w)), .val (.ref o38), .unset, .unset, .unset, .unset, .unset] [(.int (16 : Int32)), (.int p2)])
      refine own_stS (fun t k => XS.iushr X52.here hx rfl (hb hby at_97) rfl k) ?_
      show OGS _ _ p e _ s below _ T52 (mkF m 98 #[.val (.int p1), .val (.int p2), .val (.long q3), .second, .val (.long q4), .second, .val (.long q5), .second, .val (.int (1 : Int32)), .val (.int (g0_2 p1 p2 q3 q4 q5 w)), .val (.int (g0_3 p1 p2 q3 q4 q5 w)), .val (.ref o38), .unset, .unset, .unset, .unset, .unset] [(.int ((p2.toUInt32 >>> ((16 : Int32) &&& 31).toUInt32).toInt32))])
      refine own_stS (fun t k => XS.sipush X52.here hx rfl (hb hby at_98) k) ?_
      show OGS _ _ p e _ s below _ T52 (mkF m 101 #[.val (.int p1), .val (.int p2), .val (.long q3), .second, .val (.long q4), .second, .val (.long q5), .second, .val (.int (1 : Int32)), .val (.int (g0_2 p1 p2 q3 q4 q5 w)), .val (.int (g0_3 p1 p2 q3 q4 q5 w)), .val (.ref o38), .unset, .unset, .unset, .unset, .unset] [(.int (255 : Int32)), (.int ((p2.toUInt32 >>> ((16 : Int32) &&& 31).toUInt32).toInt32))])
      refine own_stS (fun t k => XS.iand X52.here hx rfl (hb hby at_101) rfl k) ?_
      show OGS _ _ p e _ s below _ T52 (mkF m 102 #[.val (.int p1), .val (.int p2), .val (.long q3), .second, .val (.long q4), .second, .val (.long q5), .second, .val (.int (1 : Int32)), .val (.int (g0_2 p1 p2 q3 q4 q5 w)), .val (.int (g0_3 p1 p2 q3 q4 q5 w)), .val (.ref o38), .unset, .unset, .unset, .unset, .unset] [(.int (((p2.toUInt32 >>> ((16 : Int32) &&& 31).toUInt32).toInt32) &&& (255 : Int32)))])
      refine own_stS (fun t k => XS.i2c X52.here hx rfl (hb hby at_102) rfl k) ?_
      show OGS _ _ p e _ s below _ T52 (mkF m 103 #[.val (.int p1), .val (.int p2), .val (.long q3), .second, .val (.long q4), .second, .val (.long q5), .second, .val (.int (1 : Int32)), .val (.int (g0_2 p1 p2 q3 q4 q5 w)), .val (.int (g0_3 p1 p2 q3 q4 q5 w)), .val (.ref o38), .unset, .unset, .unset, .unset, .unset] [(.int ((((p2.toUInt32 >>> ((16 : Int32) &&& 31).toUInt32).toInt32) &&& (255 : Int32)).toUInt32.toUInt16.toUInt32.toInt32))])
      obtain ⟨_, _, ⟨T55, L55, k55, n55⟩, -, X55, ⟨Lc55, hQ55, l55, y55, z55⟩, st55⟩ := Jvm.LawKit.callS X52 hx (y := (⟨"java/lang/String", "valueOf", "(C)Ljava/lang/String;"⟩ : MethodName)) hown52 (mvT hZ52 (hw _ (List.mem_of_getElem? (i := 0) rfl))) (mvT hZ52 (hw _ (List.mem_of_getElem? (i := 1) rfl))) (mvT hZ52 (hw _ (List.mem_of_getElem? (i := 2) rfl))) (mvT hZ52 (hw _ (List.mem_of_getElem? (i := 3) rfl))) (by decide) (backOf (W := 0) (rm := ({ frames := 2, cells := 2, slots := 5, locals := 27 } : Room)) (rm1 l Z a0 hw [] ((((p2.toUInt32 >>> ((16 : Int32) &&& 31).toUInt32).toInt32) &&& (255 : Int32)).toUInt32.toUInt16.toUInt32.toInt32) w T52.heap n0 (Nat.le_trans Z0 K52.1) F53 hw0 (own_chA (((p2.toUInt32 >>> ((16 : Int32) &&& 31).toUInt32).toInt32)))) hZ52 (hw _ (List.mem_of_getElem? (i := 3) rfl)) (hw _ (List.mem_of_getElem? (i := 2) rfl)) (by decide) (by decide)) (g := (mkF m 103 #[.val (.int p1), .val (.int p2), .val (.long q3), .second, .val (.long q4), .second, .val (.long q5), .second, .val (.int (1 : Int32)), .val (.int (g0_2 p1 p2 q3 q4 q5 w)), .val (.int (g0_3 p1 p2 q3 q4 q5 w)), .val (.ref o38), .unset, .unset, .unset, .unset, .unset] [(.int ((((p2.toUInt32 >>> ((16 : Int32) &&& 31).toUInt32).toInt32) &&& (255 : Int32)).toUInt32.toUInt16.toUInt32.toInt32))])) rfl (by rw [hml]; rfl) (argsL := [(.int ((((p2.toUInt32 >>> ((16 : Int32) &&& 31).toUInt32).toInt32) &&& (255 : Int32)).toUInt32.toUInt16.toUInt32.toInt32))]) (rest := []) (lenOf pd__C_Ljava_lang_String_ rfl) rfl (by show 2 * 0 + _ ≤ _; exact Nat.le_of_eq rfl) (hb hby at_103) (fun _ _ => ⟨rfl, rfl, (by decide : 6 + 2 ≤ _), (by decide : 12 + 5 ≤ _)⟩)
      dsimp only [Pt.U, Pt.locs, Pt.cells, Pt.slots] at X55 l55 y55 z55 st55 hQ55
      subst l55 y55 z55
      obtain ⟨N55q, K55q, s_55, sz_s_55, rfl, P55_0⟩ := hQ55
      refine own_stS st55 ?_
      have N55 := Fr.app N52 N55q
      have ge_s_55 : n0 ≤ s_55 := Nat.le_trans (Nat.le_trans Z0 K52.1) sz_s_55
      have sy_s_55 : h0.size ≤ s_55 := Nat.le_trans K52.1 sz_s_55
      have ne_b44_s_55 : b44 ≠ s_55 := Nat.ne_of_lt (Nat.lt_of_lt_of_le F54.lt sz_s_55)
      have ne_b_52_s_55 : b_52 ≠ s_55 := Nat.ne_of_lt (Nat.lt_of_lt_of_le P52_3.lt sz_s_55)
      have ne_o38_s_55 : o38 ≠ s_55 := Nat.ne_of_lt (Nat.lt_of_lt_of_le P52_0.lt sz_s_55)
      have K55 : Keep h0 T55.heap [] := K52.trans K55q (own_all0 )
      have F56 : Sta Z T55.heap "java/lang/String" "COMPACT_STRINGS" "Z" (.int w) := (own_staK F53 K55q (own_all0 ))
      have F57 : OA Z T55.heap b44 .char [] := (F54.keep K55q (own_nin0 ))
      have F58 : Exa Z T55.heap o38 "java/lang/String" := (P52_0.keep K55q)
      have F59 : Fld Z T55.heap o38 "java/lang/String" "value" "[B" (.ref b_52) := (P52_1.keep K55q (own_nin0 ))
      have F60 : Fld Z T55.heap o38 "java/lang/String" "coder" "B" (.int (0 : Int32)) := (P52_2.keep K55q (own_nin0 ))
      have F61 : OA Z T55.heap b_52 .byte [] := (P52_3.keep K55q (own_nin0 ))
      show OGS _ _ p e _ s below _ T55 (mkF m 106 #[.val (.int p1), .val (.int p2), .val (.long q3), .second, .val (.long q4), .second, .val (.long q5), .second, .val (.int (1 : Int32)), .val (.int (g0_2 p1 p2 q3 q4 q5 w)), .val (.int (g0_3 p1 p2 q3 q4 q5 w)), .val (.ref o38), .unset, .unset, .unset, .unset, .unset] [(.ref s_55)])
      have sf62_o38 : Safe Z EL0 T52.vm T55.heap o38 := Safe.keep K55q (own_all0 ) Cq52.1 sf52_o38
      have CR62 : CHr Z EL0 s.vm h0 T52.vm T55.heap := CHr.trans CR52 (CHr.keep K55q (own_all0 ) Cq52.1)
      have CH62 : CHv Z EL0 T52.vm T55.heap := CHv.keep K55q (own_all0 ) Cq52.1
      have hk62 := Nat.le_trans hk52 K55q.1
      refine own_stS (fun t k => XS.astore X55.here hx rfl (hb hby at_106) rfl rfl (l' := #[.val (.int p1), .val (.int p2), .val (.long q3), .second, .val (.long q4), .second, .val (.long q5), .second, .val (.int (1 : Int32)), .val (.int (g0_2 p1 p2 q3 q4 q5 w)), .val (.int (g0_3 p1 p2 q3 q4 q5 w)), .val (.ref o38), .val (.ref s_55), .unset, .unset, .unset, .unset]) rfl k) ?_
      show OGS _ _ p e _ s below _ T55 (mkF m 108 #[.val (.int p1), .val (.int p2), .val (.long q3), .second, .val (.long q4), .second, .val (.long q5), .second, .val (.int (1 : Int32)), .val (.int (g0_2 p1 p2 q3 q4 q5 w)), .val (.int (g0_3 p1 p2 q3 q4 q5 w)), .val (.ref o38), .val (.ref s_55), .unset, .unset, .unset, .unset] [])
      refine own_stS (fun t k => XS.iloadN X55.here hx rfl (hb hby at_108) rfl k) ?_
      show OGS _ _ p e _ s below _ T55 (mkF m 109 #[.val (.int p1), .val (.int p2), .val (.long q3), .second, .val (.long q4), .second, .val (.long q5), .second, .val (.int (1 : Int32)), .val (.int (g0_2 p1 p2 q3 q4 q5 w)), .val (.int (g0_3 p1 p2 q3 q4 q5 w)), .val (.ref o38), .val (.ref s_55), .unset, .unset, .unset, .unset] [(.int p2)])
      refine own_stS (fun t k => XS.bipush X55.here hx rfl (hb hby at_109) k) ?_
      show OGS _ _ p e _ s below _ T55 (mkF m 111 #[.val (.int p1), .val (.int p2), .val (.long q3), .second, .val (.long q4), .second, .val (.long q5), .second, .val (.int (1 : Int32)), .val (.int (g0_2 p1 p2 q3 q4 q5 w)), .val (.int (g0_3 p1 p2 q3 q4 q5 w)), .val (.ref o38), .val (.ref s_55), .unset, .unset, .unset, .unset] [(.int (24 : Int32)), (.int p2)])
      refine own_stS (fun t k => XS.iushr X55.here hx rfl (hb hby at_111) rfl k) ?_
      show OGS _ _ p e _ s below _ T55 (mkF m 112 #[.val (.int p1), .val (.int p2), .val (.long q3), .second, .val (.long q4), .second, .val (.long q5), .second, .val (.int (1 : Int32)), .val (.int (g0_2 p1 p2 q3 q4 q5 w)), .val (.int (g0_3 p1 p2 q3 q4 q5 w)), .val (.ref o38), .val (.ref s_55), .unset, .unset, .unset, .unset] [(.int ((p2.toUInt32 >>> ((24 : Int32) &&& 31).toUInt32).toInt32))])
      refine own_stS (fun t k => XS.sipush X55.here hx rfl (hb hby at_112) k) ?_
      show OGS _ _ p e _ s below _ T55 (mkF m 115 #[.val (.int p1), .val (.int p2), .val (.long q3), .second, .val (.long q4), .second, .val (.long q5), .second, .val (.int (1 : Int32)), .val (.int (g0_2 p1 p2 q3 q4 q5 w)), .val (.int (g0_3 p1 p2 q3 q4 q5 w)), .val (.ref o38), .val (.ref s_55), .unset, .unset, .unset, .unset] [(.int (255 : Int32)), (.int ((p2.toUInt32 >>> ((24 : Int32) &&& 31).toUInt32).toInt32))])
      refine own_stS (fun t k => XS.iand X55.here hx rfl (hb hby at_115) rfl k) ?_
      show OGS _ _ p e _ s below _ T55 (mkF m 116 #[.val (.int p1), .val (.int p2), .val (.long q3), .second, .val (.long q4), .second, .val (.long q5), .second, .val (.int (1 : Int32)), .val (.int (g0_2 p1 p2 q3 q4 q5 w)), .val (.int (g0_3 p1 p2 q3 q4 q5 w)), .val (.ref o38), .val (.ref s_55), .unset, .unset, .unset, .unset] [(.int (((p2.toUInt32 >>> ((24 : Int32) &&& 31).toUInt32).toInt32) &&& (255 : Int32)))])
      refine own_stS (fun t k => XS.i2c X55.here hx rfl (hb hby at_116) rfl k) ?_
      show OGS _ _ p e _ s below _ T55 (mkF m 117 #[.val (.int p1), .val (.int p2), .val (.long q3), .second, .val (.long q4), .second, .val (.long q5), .second, .val (.int (1 : Int32)), .val (.int (g0_2 p1 p2 q3 q4 q5 w)), .val (.int (g0_3 p1 p2 q3 q4 q5 w)), .val (.ref o38), .val (.ref s_55), .unset, .unset, .unset, .unset] [(.int ((((p2.toUInt32 >>> ((24 : Int32) &&& 31).toUInt32).toInt32) &&& (255 : Int32)).toUInt32.toUInt16.toUInt32.toInt32))])
      obtain ⟨_, _, ⟨T63, L63, k63, n63⟩, -, X63, ⟨Lc63, hQ63, l63, y63, z63⟩, st63⟩ := Jvm.LawKit.callS X55 hx (y := (⟨"java/lang/String", "valueOf", "(C)Ljava/lang/String;"⟩ : MethodName)) hown52 (mvT hZ52 (hw _ (List.mem_of_getElem? (i := 0) rfl))) (mvT hZ52 (hw _ (List.mem_of_getElem? (i := 1) rfl))) (mvT hZ52 (hw _ (List.mem_of_getElem? (i := 2) rfl))) (mvT hZ52 (hw _ (List.mem_of_getElem? (i := 3) rfl))) (by decide) (backOf (W := 0) (rm := ({ frames := 2, cells := 2, slots := 5, locals := 27 } : Room)) (rm1 l Z a0 hw [] ((((p2.toUInt32 >>> ((24 : Int32) &&& 31).toUInt32).toInt32) &&& (255 : Int32)).toUInt32.toUInt16.toUInt32.toInt32) w T55.heap n0 (Nat.le_trans Z0 K55.1) F56 hw0 (own_chA (((p2.toUInt32 >>> ((24 : Int32) &&& 31).toUInt32).toInt32)))) hZ52 (hw _ (List.mem_of_getElem? (i := 3) rfl)) (hw _ (List.mem_of_getElem? (i := 2) rfl)) (by decide) (by decide)) (g := (mkF m 117 #[.val (.int p1), .val (.int p2), .val (.long q3), .second, .val (.long q4), .second, .val (.long q5), .second, .val (.int (1 : Int32)), .val (.int (g0_2 p1 p2 q3 q4 q5 w)), .val (.int (g0_3 p1 p2 q3 q4 q5 w)), .val (.ref o38), .val (.ref s_55), .unset, .unset, .unset, .unset] [(.int ((((p2.toUInt32 >>> ((24 : Int32) &&& 31).toUInt32).toInt32) &&& (255 : Int32)).toUInt32.toUInt16.toUInt32.toInt32))])) rfl (by rw [hml]; rfl) (argsL := [(.int ((((p2.toUInt32 >>> ((24 : Int32) &&& 31).toUInt32).toInt32) &&& (255 : Int32)).toUInt32.toUInt16.toUInt32.toInt32))]) (rest := []) (lenOf pd__C_Ljava_lang_String_ rfl) rfl (by show 2 * 0 + _ ≤ _; exact Nat.le_of_eq rfl) (hb hby at_117) (fun _ _ => ⟨rfl, rfl, (by decide : 8 + 2 ≤ _), (by decide : 17 + 5 ≤ _)⟩)
      dsimp only [Pt.U, Pt.locs, Pt.cells, Pt.slots] at X63 l63 y63 z63 st63 hQ63
      subst l63 y63 z63
      obtain ⟨N63q, K63q, s_63, sz_s_63, rfl, P63_0⟩ := hQ63
      refine own_stS st63 ?_
      have N63 := Fr.app N55 N63q
      have ge_s_63 : n0 ≤ s_63 := Nat.le_trans (Nat.le_trans Z0 K55.1) sz_s_63
      have sy_s_63 : h0.size ≤ s_63 := Nat.le_trans K55.1 sz_s_63
      have ne_b44_s_63 : b44 ≠ s_63 := Nat.ne_of_lt (Nat.lt_of_lt_of_le F57.lt sz_s_63)
      have ne_b_52_s_63 : b_52 ≠ s_63 := Nat.ne_of_lt (Nat.lt_of_lt_of_le F61.lt sz_s_63)
      have ne_o38_s_63 : o38 ≠ s_63 := Nat.ne_of_lt (Nat.lt_of_lt_of_le F58.lt sz_s_63)
      have ne_s_55_s_63 : s_55 ≠ s_63 := Nat.ne_of_lt (Nat.lt_of_lt_of_le P55_0.lt sz_s_63)
      have K63 : Keep h0 T63.heap [] := K55.trans K63q (own_all0 )
      have F64 : Sta Z T63.heap "java/lang/String" "COMPACT_STRINGS" "Z" (.int w) := (own_staK F56 K63q (own_all0 ))
      have F65 : OA Z T63.heap b44 .char [] := (F57.keep K63q (own_nin0 ))
      have F66 : Exa Z T63.heap o38 "java/lang/String" := (F58.keep K63q)
      have F67 : Fld Z T63.heap o38 "java/lang/String" "value" "[B" (.ref b_52) := (F59.keep K63q (own_nin0 ))
      have F68 : Fld Z T63.heap o38 "java/lang/String" "coder" "B" (.int (0 : Int32)) := (F60.keep K63q (own_nin0 ))
      have F69 : OA Z T63.heap b_52 .byte [] := (F61.keep K63q (own_nin0 ))
      have F70 : Exa Z T63.heap s_55 "java/lang/String" := (P55_0.keep K63q)
      show OGS _ _ p e _ s below _ T63 (mkF m 120 #[.val (.int p1), .val (.int p2), .val (.long q3), .second, .val (.long q4), .second, .val (.long q5), .second, .val (.int (1 : Int32)), .val (.int (g0_2 p1 p2 q3 q4 q5 w)), .val (.int (g0_3 p1 p2 q3 q4 q5 w)), .val (.ref o38), .val (.ref s_55), .unset, .unset, .unset, .unset] [(.ref s_63)])
      have sf71_o38 : Safe Z EL0 T52.vm T63.heap o38 := Safe.keep K63q (own_all0 ) CH62 sf62_o38
      have CR71 : CHr Z EL0 s.vm h0 T52.vm T63.heap := CHr.trans CR62 (CHr.keep K63q (own_all0 ) CH62)
      have CH71 : CHv Z EL0 T52.vm T63.heap := CHv.keep K63q (own_all0 ) CH62
      have hk71 := Nat.le_trans hk62 K63q.1
      refine own_stS (fun t k => XS.astore X63.here hx rfl (hb hby at_120) rfl rfl (l' := #[.val (.int p1), .val (.int p2), .val (.long q3), .second, .val (.long q4), .second, .val (.long q5), .second, .val (.int (1 : Int32)), .val (.int (g0_2 p1 p2 q3 q4 q5 w)), .val (.int (g0_3 p1 p2 q3 q4 q5 w)), .val (.ref o38), .val (.ref s_55), .val (.ref s_63), .unset, .unset, .unset]) rfl k) ?_
      show OGS _ _ p e _ s below _ T63 (mkF m 122 #[.val (.int p1), .val (.int p2), .val (.long q3), .second, .val (.long q4), .second, .val (.long q5), .second, .val (.int (1 : Int32)), .val (.int (g0_2 p1 p2 q3 q4 q5 w)), .val (.int (g0_3 p1 p2 q3 q4 q5 w)), .val (.ref o38), .val (.ref s_55), .val (.ref s_63), .unset, .unset, .unset] [])
      obtain ⟨T72, h72, X72, e72, E72, A72, D72, -, st72⟩ := newO X63 hx hZ52 hown52 (hw _ (List.mem_of_getElem? (i := 26) rfl)) (hw _ (List.mem_of_getElem? (i := 27) rfl)) (hw _ (List.mem_of_getElem? (i := 28) rfl)) rfl (g := (mkF m 122 #[.val (.int p1), .val (.int p2), .val (.long q3), .second, .val (.long q4), .second, .val (.long q5), .second, .val (.int (1 : Int32)), .val (.int (g0_2 p1 p2 q3 q4 q5 w)), .val (.int (g0_3 p1 p2 q3 q4 q5 w)), .val (.ref o38), .val (.ref s_55), .val (.ref s_63), .unset, .unset, .unset] [])) rfl (hb hby at_122) (by decide) (by decide)
      obtain ⟨o72, gb72⟩ : ∃ z, z = T63.heap.size := ⟨_, rfl⟩
      rw [← gb72] at A72 D72 st72
      refine own_stS st72 ?_
      have ge_o72 : n0 ≤ o72 := by rw [gb72]; exact Nat.le_trans Z0 K63.1
      have sz_o72 : h0.size ≤ o72 := by rw [gb72]; exact K63.1
      have ne_b44_o72 : b44 ≠ o72 := Nat.ne_of_lt (Nat.lt_of_lt_of_eq F65.lt gb72.symm)
      have ne_b_52_o72 : b_52 ≠ o72 := Nat.ne_of_lt (Nat.lt_of_lt_of_eq F69.lt gb72.symm)
      have ne_o38_o72 : o38 ≠ o72 := Nat.ne_of_lt (Nat.lt_of_lt_of_eq F66.lt gb72.symm)
      have ne_s_55_o72 : s_55 ≠ o72 := Nat.ne_of_lt (Nat.lt_of_lt_of_eq F70.lt gb72.symm)
      have ne_s_63_o72 : s_63 ≠ o72 := Nat.ne_of_lt (Nat.lt_of_lt_of_eq P63_0.lt gb72.symm)
      have F73 : Sta Z h72 "java/lang/String" "COMPACT_STRINGS" "Z" (.int w) := (F64.ext E72)
      have F74 : OA Z h72 b44 .char [] := (F65.ext E72)
      have F75 : Exa Z h72 o38 "java/lang/String" := (F66.ext E72)
      have F76 : Fld Z h72 o38 "java/lang/String" "value" "[B" (.ref b_52) := (F67.ext E72)
      have F77 : Fld Z h72 o38 "java/lang/String" "coder" "B" (.int (0 : Int32)) := (F68.ext E72)
      have F78 : OA Z h72 b_52 .byte [] := (F69.ext E72)
      have F79 : Exa Z h72 s_55 "java/lang/String" := (F70.ext E72)
      have F80 : Exa Z h72 s_63 "java/lang/String" := (P63_0.ext E72)
      have K81 : Keep h0 h72 [] := K63.ext E72
      have F82 : Fld Z h72 o72 "com/example/partwise/partwise/Part" "table" "Ljava/lang/String;" .null := D72 (Or.inr (hw _ (List.mem_of_getElem? (i := 47) rfl))) (ty := (.object "java/lang/String")) (by decide)
      have F83 : Fld Z h72 o72 "com/example/partwise/partwise/Part" "id" "Ljava/lang/String;" .null := D72 (Or.inr (hw _ (List.mem_of_getElem? (i := 49) rfl))) (ty := (.object "java/lang/String")) (by decide)
      have F84 : Fld Z h72 o72 "com/example/partwise/partwise/Part" "rows" "J" (.long (0 : Int64)) := D72 (Or.inr (hw _ (List.mem_of_getElem? (i := 51) rfl))) (ty := .long) (by decide)
      have F85 : Fld Z h72 o72 "com/example/partwise/partwise/Part" "inline" "Ljava/lang/String;" .null := D72 (Or.inr (hw _ (List.mem_of_getElem? (i := 53) rfl))) (ty := (.object "java/lang/String")) (by decide)
      have F86 : Fld Z h72 o72 "com/example/partwise/partwise/Part" "addedBy" "J" (.long (0 : Int64)) := D72 (Or.inr (hw _ (List.mem_of_getElem? (i := 55) rfl))) (ty := .long) (by decide)
      show OGS _ _ p e _ s below _ T72 (mkF m 125 #[.val (.int p1), .val (.int p2), .val (.long q3), .second, .val (.long q4), .second, .val (.long q5), .second, .val (.int (1 : Int32)), .val (.int (g0_2 p1 p2 q3 q4 q5 w)), .val (.int (g0_3 p1 p2 q3 q4 q5 w)), .val (.ref o38), .val (.ref s_55), .val (.ref s_63), .unset, .unset, .unset] [(.ref o72)])
      have sf87_o38 : Safe Z EL0 T52.vm h72 o38 := Safe.ext E72 CH71 sf71_o38
      have CR87 : CHr Z EL0 s.vm h0 T52.vm h72 := CHr.trans CR71 (CHr.ext E72 CH71)
      have CH87 : CHv Z EL0 T52.vm h72 := CHv.ext E72 CH71
      have hk87 := Nat.le_trans hk71 E72.1
      refine own_stS (fun t k => XS.dup X72.here hx rfl (hb hby at_125) rfl rfl k) ?_
      show OGS _ _ p e _ s below _ T72 (mkF m 126 #[.val (.int p1), .val (.int p2), .val (.long q3), .second, .val (.long q4), .second, .val (.long q5), .second, .val (.int (1 : Int32)), .val (.int (g0_2 p1 p2 q3 q4 q5 w)), .val (.int (g0_3 p1 p2 q3 q4 q5 w)), .val (.ref o38), .val (.ref s_55), .val (.ref s_63), .unset, .unset, .unset] [(.ref o72), (.ref o72)])
      refine own_stS (fun t k => XS.aload X72.here hx rfl (hb hby at_126) rfl rfl k) ?_
      show OGS _ _ p e _ s below _ T72 (mkF m 128 #[.val (.int p1), .val (.int p2), .val (.long q3), .second, .val (.long q4), .second, .val (.long q5), .second, .val (.int (1 : Int32)), .val (.int (g0_2 p1 p2 q3 q4 q5 w)), .val (.int (g0_3 p1 p2 q3 q4 q5 w)), .val (.ref o38), .val (.ref s_55), .val (.ref s_63), .unset, .unset, .unset] [(.ref s_55), (.ref o72), (.ref o72)])
      refine own_stS (fun t k => XS.aload X72.here hx rfl (hb hby at_128) rfl rfl k) ?_
      show OGS _ _ p e _ s below _ T72 (mkF m 130 #[.val (.int p1), .val (.int p2), .val (.long q3), .second, .val (.long q4), .second, .val (.long q5), .second, .val (.int (1 : Int32)), .val (.int (g0_2 p1 p2 q3 q4 q5 w)), .val (.int (g0_3 p1 p2 q3 q4 q5 w)), .val (.ref o38), .val (.ref s_55), .val (.ref s_63), .unset, .unset, .unset] [(.ref s_63), (.ref s_55), (.ref o72), (.ref o72)])
      refine own_stS (fun t k => XS.lloadN X72.here hx rfl (hb hby at_130) rfl k) ?_
      show OGS _ _ p e _ s below _ T72 (mkF m 131 #[.val (.int p1), .val (.int p2), .val (.long q3), .second, .val (.long q4), .second, .val (.long q5), .second, .val (.int (1 : Int32)), .val (.int (g0_2 p1 p2 q3 q4 q5 w)), .val (.int (g0_3 p1 p2 q3 q4 q5 w)), .val (.ref o38), .val (.ref s_55), .val (.ref s_63), .unset, .unset, .unset] [(.long q3), (.ref s_63), (.ref s_55), (.ref o72), (.ref o72)])
      refine own_stS (fun t k => XS.aload X72.here hx rfl (hb hby at_131) rfl rfl k) ?_
      show OGS _ _ p e _ s below _ T72 (mkF m 133 #[.val (.int p1), .val (.int p2), .val (.long q3), .second, .val (.long q4), .second, .val (.long q5), .second, .val (.int (1 : Int32)), .val (.int (g0_2 p1 p2 q3 q4 q5 w)), .val (.int (g0_3 p1 p2 q3 q4 q5 w)), .val (.ref o38), .val (.ref s_55), .val (.ref s_63), .unset, .unset, .unset] [(.ref o38), (.long q3), (.ref s_63), (.ref s_55), (.ref o72), (.ref o72)])
      refine own_stS (fun t k => XS.lload X72.here hx rfl (hb hby at_133) rfl k) ?_
      show OGS _ _ p e _ s below _ T72 (mkF m 135 #[.val (.int p1), .val (.int p2), .val (.long q3), .second, .val (.long q4), .second, .val (.long q5), .second, .val (.int (1 : Int32)), .val (.int (g0_2 p1 p2 q3 q4 q5 w)), .val (.int (g0_3 p1 p2 q3 q4 q5 w)), .val (.ref o38), .val (.ref s_55), .val (.ref s_63), .unset, .unset, .unset] [(.long q4), (.ref o38), (.long q3), (.ref s_63), (.ref s_55), (.ref o72), (.ref o72)])
      obtain ⟨_, _, ⟨T88, L88, k88, n88⟩, -, X88q, hS88q, hg88q, ⟨Lc88, hQ88, l88, y88, z88, Cq88⟩, st88⟩ := X72.specialBackS hx (y := (⟨"com/example/partwise/partwise/Part", "<init>", "(Ljava/lang/String;Ljava/lang/String;JLjava/lang/String;J)V"⟩ : MethodName)) rfl hown52 (mvT hZ52 (hw _ (List.mem_of_getElem? (i := 29) rfl))) (mvT hZ52 (hw _ (List.mem_of_getElem? (i := 30) rfl))) (mvT hZ52 (hw _ (List.mem_of_getElem? (i := 31) rfl))) (by decide) (backOfSH (EL := EL0) (W := 1) (rm := ({ frames := 2, cells := 4, slots := 36, locals := 24 } : Room)) (rm6_r l Z a0 hw [] o72 s_55 s_63 q3 o38 q4 h72 n0 A72 F82 F83 F84 F85 F86 ge_o72) hZ52 (hw _ (List.mem_of_getElem? (i := 31) rfl)) (hw _ (List.mem_of_getElem? (i := 28) rfl)) (by decide) (by decide) hEL CH87) (g := (mkF m 135 #[.val (.int p1), .val (.int p2), .val (.long q3), .second, .val (.long q4), .second, .val (.long q5), .second, .val (.int (1 : Int32)), .val (.int (g0_2 p1 p2 q3 q4 q5 w)), .val (.int (g0_3 p1 p2 q3 q4 q5 w)), .val (.ref o38), .val (.ref s_55), .val (.ref s_63), .unset, .unset, .unset] [(.long q4), (.ref o38), (.long q3), (.ref s_63), (.ref s_55), (.ref o72), (.ref o72)])) rfl (by rw [hml]; rfl) (Steps.refl _) (a := o72) (argsL := [(.ref s_55), (.ref s_63), (.long q3), (.ref o38), (.long q4)]) (rest := [(.ref o72)]) (lenOf pd__Ljava_lang_String_Ljava_lang_String_JLjava_lang_String_J_V rfl) rfl (by show 2 * 0 + _ ≤ _; exact Nat.le_of_eq rfl) (hb hby at_135) (fun _ _ => ⟨rfl, e72, (by decide : 11 + 4 ≤ _), (by decide : 27 + 36 ≤ _)⟩)
      dsimp only [Pt.U, Pt.locs, Pt.cells, Pt.slots] at X88q hS88q hg88q l88 y88 z88 st88 hQ88 Cq88
      subst l88 y88 z88
      obtain ⟨X88, hS88, hZ88, hown88⟩ := rebS hS52 (by rw [e72]; exact hk87) X88q hS88q hg88q hZ52 hown52
      have sf88_o38 : Safe Z EL0 T88.vm T88.heap o38 := CHr.safe Cq88 F75.lt sf87_o38
      have CR88 := CHr.trans CR87 Cq88
      have hk88 : T88.heap.size ≤ T88.heap.size := Nat.le_refl _
      obtain ⟨rfl, N88q, K88q, P88_0, P88_1, P88_2, P88_3, P88_4, P88_5⟩ := hQ88
      refine own_stS (fun t k => st88.trans k) ?_
      have N88 := Fr.app N63 N88q
      have K88 : Keep h0 T88.heap [] := K81.trans K88q (own_all1 (Or.inr sz_o72))
      have F89 : Sta Z T88.heap "java/lang/String" "COMPACT_STRINGS" "Z" (.int w) := (own_staK F73 K88q (own_all1 (own_plE A72)))
      have F90 : OA Z T88.heap b44 .char [] := (F74.keep K88q (own_nin1 ne_b44_o72))
      have F91 : Exa Z T88.heap o38 "java/lang/String" := (F75.keep K88q)
      have F92 : Fld Z T88.heap o38 "java/lang/String" "value" "[B" (.ref b_52) := (F76.keep K88q (own_nin1 ne_o38_o72))
      have F93 : Fld Z T88.heap o38 "java/lang/String" "coder" "B" (.int (0 : Int32)) := (F77.keep K88q (own_nin1 ne_o38_o72))
      have F94 : OA Z T88.heap b_52 .byte [] := (F78.keep K88q (own_nin1 ne_b_52_o72))
      have F95 : Exa Z T88.heap s_55 "java/lang/String" := (F79.keep K88q)
      have F96 : Exa Z T88.heap s_63 "java/lang/String" := (F80.keep K88q)
      show OGS _ _ p e _ s below _ T88 (mkF m 138 #[.val (.int p1), .val (.int p2), .val (.long q3), .second, .val (.long q4), .second, .val (.long q5), .second, .val (.int (1 : Int32)), .val (.int (g0_2 p1 p2 q3 q4 q5 w)), .val (.int (g0_3 p1 p2 q3 q4 q5 w)), .val (.ref o38), .val (.ref s_55), .val (.ref s_63), .unset, .unset, .unset] [(.ref o72)])
      refine own_stS (fun t k => XS.astore X88.here hx rfl (hb hby at_138) rfl rfl (l' := #[.val (.int p1), .val (.int p2), .val (.long q3), .second, .val (.long q4), .second, .val (.long q5), .second, .val (.int (1 : Int32)), .val (.int (g0_2 p1 p2 q3 q4 q5 w)), .val (.int (g0_3 p1 p2 q3 q4 q5 w)), .val (.ref o38), .val (.ref s_55), .val (.ref s_63), .val (.ref o72), .unset, .unset]) rfl k) ?_
      show OGS _ _ p e _ s below _ T88 (mkF m 140 #[.val (.int p1), .val (.int p2), .val (.long q3), .second, .val (.long q4), .second, .val (.long q5), .second, .val (.int (1 : Int32)), .val (.int (g0_2 p1 p2 q3 q4 q5 w)), .val (.int (g0_3 p1 p2 q3 q4 q5 w)), .val (.ref o38), .val (.ref s_55), .val (.ref s_63), .val (.ref o72), .unset, .unset] [])
      refine own_stS (fun t k => XS.iload X88.here hx rfl (hb hby at_140) rfl k) ?_
      show OGS _ _ p e _ s below _ T88 (mkF m 142 #[.val (.int p1), .val (.int p2), .val (.long q3), .second, .val (.long q4), .second, .val (.long q5), .second, .val (.int (1 : Int32)), .val (.int (g0_2 p1 p2 q3 q4 q5 w)), .val (.int (g0_3 p1 p2 q3 q4 q5 w)), .val (.ref o38), .val (.ref s_55), .val (.ref s_63), .val (.ref o72), .unset, .unset] [(.int (1 : Int32))])
      refine own_stS (fun t k => XS.ifYes X88.here hx rfl (pc0 := 142) (pc' := 149) rfl (hb hby at_142) rfl (by decide) (by decide) (by decide) k) ?_
      show OGS _ _ p e _ s below _ T88 (mkF m 149 #[.val (.int p1), .val (.int p2), .val (.long q3), .second, .val (.long q4), .second, .val (.long q5), .second, .val (.int (1 : Int32)), .val (.int (g0_2 p1 p2 q3 q4 q5 w)), .val (.int (g0_3 p1 p2 q3 q4 q5 w)), .val (.ref o38), .val (.ref s_55), .val (.ref s_63), .val (.ref o72), .unset, .unset] [])
      refine own_stS (fun t k => XS.iconst X88.here hx rfl (hb hby at_149) k) ?_
      show OGS _ _ p e _ s below _ T88 (mkF m 150 #[.val (.int p1), .val (.int p2), .val (.long q3), .second, .val (.long q4), .second, .val (.long q5), .second, .val (.int (1 : Int32)), .val (.int (g0_2 p1 p2 q3 q4 q5 w)), .val (.int (g0_3 p1 p2 q3 q4 q5 w)), .val (.ref o38), .val (.ref s_55), .val (.ref s_63), .val (.ref o72), .unset, .unset] [(.int (0 : Int32))])
      refine own_stS (fun t k => XS.istore X88.here hx rfl (hb hby at_150) rfl (l' := #[.val (.int p1), .val (.int p2), .val (.long q3), .second, .val (.long q4), .second, .val (.long q5), .second, .val (.int (1 : Int32)), .val (.int (g0_2 p1 p2 q3 q4 q5 w)), .val (.int (g0_3 p1 p2 q3 q4 q5 w)), .val (.ref o38), .val (.ref s_55), .val (.ref s_63), .val (.ref o72), .val (.int (0 : Int32)), .unset]) rfl k) ?_
      show OGS _ _ p e _ s below _ T88 (mkF m 152 #[.val (.int p1), .val (.int p2), .val (.long q3), .second, .val (.long q4), .second, .val (.long q5), .second, .val (.int (1 : Int32)), .val (.int (g0_2 p1 p2 q3 q4 q5 w)), .val (.int (g0_3 p1 p2 q3 q4 q5 w)), .val (.ref o38), .val (.ref s_55), .val (.ref s_63), .val (.ref o72), .val (.int (0 : Int32)), .unset] [])
      refine own_stS (fun t k => XS.aload X88.here hx rfl (hb hby at_152) rfl rfl k) ?_
      show OGS _ _ p e _ s below _ T88 (mkF m 154 #[.val (.int p1), .val (.int p2), .val (.long q3), .second, .val (.long q4), .second, .val (.long q5), .second, .val (.int (1 : Int32)), .val (.int (g0_2 p1 p2 q3 q4 q5 w)), .val (.int (g0_3 p1 p2 q3 q4 q5 w)), .val (.ref o38), .val (.ref s_55), .val (.ref s_63), .val (.ref o72), .val (.int (0 : Int32)), .unset] [(.ref o72)])
      obtain ⟨cq97, kq97, q97a, q97b, q97c⟩ := isOf hZ88 rfl P88_0
      obtain ⟨_, _, ⟨T97, L97, k97, n97⟩, -, X97, ⟨Lc97, hQ97, l97, y97, z97⟩, st97⟩ := X88.virtualBack hx (y := (⟨"com/example/partwise/partwise/Part", "inFile", "()Z"⟩ : MethodName)) (z := (⟨"com/example/partwise/partwise/Part", "inFile", "()Z"⟩ : MethodName)) hown88 (mvT hZ88 (hw _ (List.mem_of_getElem? (i := 56) rfl))) (mvT hZ88 (hw _ (List.mem_of_getElem? (i := 57) rfl))) (notFace_of_selects (args := #[]) (mvT hZ88 (hw _ (List.mem_of_getElem? (i := 59) rfl)))) (mvT hZ88 (hw _ (List.mem_of_getElem? (i := 59) rfl))) (mvT hZ88 (hw _ (List.mem_of_getElem? (i := 58) rfl))) (by decide) (backOf (W := 0) (rm := ({ frames := 0, cells := 0, slots := 0, locals := 0 } : Room)) (rm9_r l Z a0 hw [] o72 o38 T88.heap P88_4) hZ88 (hw _ (List.mem_of_getElem? (i := 60) rfl)) (hw _ (List.mem_of_getElem? (i := 28) rfl)) (by decide) (by decide)) q97a q97c (g := (mkF m 154 #[.val (.int p1), .val (.int p2), .val (.long q3), .second, .val (.long q4), .second, .val (.long q5), .second, .val (.int (1 : Int32)), .val (.int (g0_2 p1 p2 q3 q4 q5 w)), .val (.int (g0_3 p1 p2 q3 q4 q5 w)), .val (.ref o38), .val (.ref s_55), .val (.ref s_63), .val (.ref o72), .val (.int (0 : Int32)), .unset] [(.ref o72)])) rfl (by rw [hml]; rfl) (Steps.refl _) (argsL := []) (rest := []) (lenOf pd___Z rfl) rfl (by show 2 * 0 + _ ≤ _; exact Nat.le_of_eq rfl) (hb hby at_154) (fun _ _ => ⟨rfl, rfl, (by decide : 15 + 0 ≤ _), (by decide : 63 + 0 ≤ _)⟩)
      dsimp only [Pt.U, Pt.locs, Pt.cells, Pt.slots] at X97 l97 y97 z97 st97 hQ97
      subst l97 y97 z97
      obtain ⟨rfl, rfl, e97⟩ := hQ97
      refine own_stS (fun t k => st97.trans k) ?_
      have N97 := Fr.app N88 (Fr.nil n0)
      show OGS _ _ p e _ s below _ T97 (mkF m 157 #[.val (.int p1), .val (.int p2), .val (.long q3), .second, .val (.long q4), .second, .val (.long q5), .second, .val (.int (1 : Int32)), .val (.int (g0_2 p1 p2 q3 q4 q5 w)), .val (.int (g0_3 p1 p2 q3 q4 q5 w)), .val (.ref o38), .val (.ref s_55), .val (.ref s_63), .val (.ref o72), .val (.int (0 : Int32)), .unset] [(.int f9_r)])
      refine own_stS (fun t k => XS.iload X97.here hx rfl (hb hby at_157) rfl k) ?_
      show OGS _ _ p e _ s below _ T97 (mkF m 159 #[.val (.int p1), .val (.int p2), .val (.long q3), .second, .val (.long q4), .second, .val (.long q5), .second, .val (.int (1 : Int32)), .val (.int (g0_2 p1 p2 q3 q4 q5 w)), .val (.int (g0_3 p1 p2 q3 q4 q5 w)), .val (.ref o38), .val (.ref s_55), .val (.ref s_63), .val (.ref o72), .val (.int (0 : Int32)), .unset] [(.int (0 : Int32)), (.int f9_r)])
      by_cases c98 : f9_r = (0 : Int32)
      · refine own_stS (fun t k => XS.icmpYes X97.here hx rfl (pc0 := 159) (pc' := 164) rfl (hb hby at_159) rfl (teq c98).1 (by decide) (by decide) k) ?_
        show OGS _ _ p e _ s below _ T97 (mkF m 164 #[.val (.int p1), .val (.int p2), .val (.long q3), .second, .val (.long q4), .second, .val (.long q5), .second, .val (.int (1 : Int32)), .val (.int (g0_2 p1 p2 q3 q4 q5 w)), .val (.int (g0_3 p1 p2 q3 q4 q5 w)), .val (.ref o38), .val (.ref s_55), .val (.ref s_63), .val (.ref o72), .val (.int (0 : Int32)), .unset] [])
        refine own_stS (fun t k => XS.aload X97.here hx rfl (hb hby at_164) rfl rfl k) ?_
        show OGS _ _ p e _ s below _ T97 (mkF m 166 #[.val (.int p1), .val (.int p2), .val (.long q3), .second, .val (.long q4), .second, .val (.long q5), .second, .val (.int (1 : Int32)), .val (.int (g0_2 p1 p2 q3 q4 q5 w)), .val (.int (g0_3 p1 p2 q3 q4 q5 w)), .val (.ref o38), .val (.ref s_55), .val (.ref s_63), .val (.ref o72), .val (.int (0 : Int32)), .unset] [(.ref o72)])
        refine own_stS (fun t k => XS.lload X97.here hx rfl (hb hby at_166) rfl k) ?_
        show OGS _ _ p e _ s below _ T97 (mkF m 168 #[.val (.int p1), .val (.int p2), .val (.long q3), .second, .val (.long q4), .second, .val (.long q5), .second, .val (.int (1 : Int32)), .val (.int (g0_2 p1 p2 q3 q4 q5 w)), .val (.int (g0_3 p1 p2 q3 q4 q5 w)), .val (.ref o38), .val (.ref s_55), .val (.ref s_63), .val (.ref o72), .val (.int (0 : Int32)), .unset] [(.long q5), (.ref o72)])
        obtain ⟨cq99, kq99, q99a, q99b, q99c⟩ := isOf hZ88 e97 P88_0
        obtain ⟨_, _, ⟨T99, L99, k99, n99⟩, -, X99q, hS99q, hg99q, ⟨Lc99, hQ99, l99, y99, z99, Cq99⟩, st99⟩ := X97.virtualBackS hx (y := (⟨"com/example/partwise/partwise/Part", "asAddedBy", "(J)Lcom/example/partwise/partwise/Part;"⟩ : MethodName)) (z := (⟨"com/example/partwise/partwise/Part", "asAddedBy", "(J)Lcom/example/partwise/partwise/Part;"⟩ : MethodName)) hown88 (mvT hZ88 (hw _ (List.mem_of_getElem? (i := 61) rfl))) (mvT hZ88 (hw _ (List.mem_of_getElem? (i := 62) rfl))) (notFace_of_selects (args := #[]) (mvT hZ88 (hw _ (List.mem_of_getElem? (i := 64) rfl)))) (mvT hZ88 (hw _ (List.mem_of_getElem? (i := 64) rfl))) (mvT hZ88 (hw _ (List.mem_of_getElem? (i := 63) rfl))) (by decide) (backOfSH (EL := EL0) (W := 0) (rm := ({ frames := 3, cells := 5, slots := 41, locals := 44 } : Room)) (rm10_r l Z a0 hw [] o72 q5 s_55 s_63 q3 o38 q4 T88.heap n0 (Nat.le_trans Z0 K88.1) P88_0 P88_1 P88_2 P88_3 P88_4 P88_5) hZ88 (hw _ (List.mem_of_getElem? (i := 65) rfl)) (hw _ (List.mem_of_getElem? (i := 28) rfl)) (by decide) (by decide) hEL Cq88.1) q99a q99c (g := (mkF m 168 #[.val (.int p1), .val (.int p2), .val (.long q3), .second, .val (.long q4), .second, .val (.long q5), .second, .val (.int (1 : Int32)), .val (.int (g0_2 p1 p2 q3 q4 q5 w)), .val (.int (g0_3 p1 p2 q3 q4 q5 w)), .val (.ref o38), .val (.ref s_55), .val (.ref s_63), .val (.ref o72), .val (.int (0 : Int32)), .unset] [(.long q5), (.ref o72)])) rfl (by rw [hml]; rfl) (Steps.refl _) (argsL := [(.long q5)]) (rest := []) (lenOf pd__J_Lcom_example_partwise_partwise_Part_ rfl) rfl (by show 2 * 0 + _ ≤ _; exact Nat.le_of_eq rfl) (hb hby at_168) (fun _ _ => ⟨rfl, e97, (by decide : 15 + 5 ≤ _), (by decide : 63 + 41 ≤ _)⟩)
        dsimp only [Pt.U, Pt.locs, Pt.cells, Pt.slots] at X99q hS99q hg99q l99 y99 z99 st99 hQ99 Cq99
        subst l99 y99 z99
        obtain ⟨X99, hS99, hZ99, hown99⟩ := rebS hS88 (by rw [e97]; exact hk88) X99q hS99q hg99q hZ88 hown88
        have sf99_o38 : Safe Z EL0 T99.vm T99.heap o38 := CHr.safe Cq99 F91.lt sf88_o38
        have CR99 := CHr.trans CR88 Cq99
        have hk99 : T99.heap.size ≤ T99.heap.size := Nat.le_refl _
        obtain ⟨N99q, K99q, q_99, sz_q_99, rfl, P99_0, P99_1⟩ := hQ99
        refine own_stS (fun t k => st99.trans k) ?_
        have N99 := Fr.app N97 N99q
        have ge_q_99 : n0 ≤ q_99 := Nat.le_trans (Nat.le_trans Z0 K88.1) sz_q_99
        have sy_q_99 : h0.size ≤ q_99 := Nat.le_trans K88.1 sz_q_99
        have ne_b44_q_99 : b44 ≠ q_99 := Nat.ne_of_lt (Nat.lt_of_lt_of_le F90.lt sz_q_99)
        have ne_b_52_q_99 : b_52 ≠ q_99 := Nat.ne_of_lt (Nat.lt_of_lt_of_le F94.lt sz_q_99)
        have ne_o38_q_99 : o38 ≠ q_99 := Nat.ne_of_lt (Nat.lt_of_lt_of_le F91.lt sz_q_99)
        have ne_o72_q_99 : o72 ≠ q_99 := Nat.ne_of_lt (Nat.lt_of_lt_of_le P88_0.lt sz_q_99)
        have ne_s_55_q_99 : s_55 ≠ q_99 := Nat.ne_of_lt (Nat.lt_of_lt_of_le F95.lt sz_q_99)
        have ne_s_63_q_99 : s_63 ≠ q_99 := Nat.ne_of_lt (Nat.lt_of_lt_of_le F96.lt sz_q_99)
        have K99 : Keep h0 T99.heap [] := K88.trans K99q (own_all0 )
        have F100 : Sta Z T99.heap "java/lang/String" "COMPACT_STRINGS" "Z" (.int w) := (own_staK F89 K99q (own_all0 ))
        have F101 : OA Z T99.heap b44 .char [] := (F90.keep K99q (own_nin0 ))
        have F102 : Exa Z T99.heap o38 "java/lang/String" := (F91.keep K99q)
        have F103 : Fld Z T99.heap o38 "java/lang/String" "value" "[B" (.ref b_52) := (F92.keep K99q (own_nin0 ))
        have F104 : Fld Z T99.heap o38 "java/lang/String" "coder" "B" (.int (0 : Int32)) := (F93.keep K99q (own_nin0 ))
        have F105 : OA Z T99.heap b_52 .byte [] := (F94.keep K99q (own_nin0 ))
        have F106 : Exa Z T99.heap s_55 "java/lang/String" := (F95.keep K99q)
        have F107 : Exa Z T99.heap s_63 "java/lang/String" := (F96.keep K99q)
        have F108 : Exa Z T99.heap o72 "com/example/partwise/partwise/Part" := (P88_0.keep K99q)
        have F109 : Fld Z T99.heap o72 "com/example/partwise/partwise/Part" "table" "Ljava/lang/String;" (.ref s_55) := (P88_1.keep K99q (own_nin0 ))
        have F110 : Fld Z T99.heap o72 "com/example/partwise/partwise/Part" "id" "Ljava/lang/String;" (.ref s_63) := (P88_2.keep K99q (own_nin0 ))
        have F111 : Fld Z T99.heap o72 "com/example/partwise/partwise/Part" "rows" "J" (.long q3) := (P88_3.keep K99q (own_nin0 ))
        have F112 : Fld Z T99.heap o72 "com/example/partwise/partwise/Part" "inline" "Ljava/lang/String;" (.ref o38) := (P88_4.keep K99q (own_nin0 ))
        have F113 : Fld Z T99.heap o72 "com/example/partwise/partwise/Part" "addedBy" "J" (.long q4) := (P88_5.keep K99q (own_nin0 ))
        show OGS _ _ p e _ s below _ T99 (mkF m 171 #[.val (.int p1), .val (.int p2), .val (.long q3), .second, .val (.long q4), .second, .val (.long q5), .second, .val (.int (1 : Int32)), .val (.int (g0_2 p1 p2 q3 q4 q5 w)), .val (.int (g0_3 p1 p2 q3 q4 q5 w)), .val (.ref o38), .val (.ref s_55), .val (.ref s_63), .val (.ref o72), .val (.int (0 : Int32)), .unset] [(.ref q_99)])
        refine own_stS (fun t k => XS.astore X99.here hx rfl (hb hby at_171) rfl rfl (l' := #[.val (.int p1), .val (.int p2), .val (.long q3), .second, .val (.long q4), .second, .val (.long q5), .second, .val (.int (1 : Int32)), .val (.int (g0_2 p1 p2 q3 q4 q5 w)), .val (.int (g0_3 p1 p2 q3 q4 q5 w)), .val (.ref o38), .val (.ref s_55), .val (.ref s_63), .val (.ref o72), .val (.int (0 : Int32)), .val (.ref q_99)]) rfl k) ?_
        show OGS _ _ p e _ s below _ T99 (mkF m 173 #[.val (.int p1), .val (.int p2), .val (.long q3), .second, .val (.long q4), .second, .val (.long q5), .second, .val (.int (1 : Int32)), .val (.int (g0_2 p1 p2 q3 q4 q5 w)), .val (.int (g0_3 p1 p2 q3 q4 q5 w)), .val (.ref o38), .val (.ref s_55), .val (.ref s_63), .val (.ref o72), .val (.int (0 : Int32)), .val (.ref q_99)] [])
        refine own_stS (fun t k => XS.aload X99.here hx rfl (hb hby at_173) rfl rfl k) ?_
        show OGS _ _ p e _ s below _ T99 (mkF m 175 #[.val (.int p1), .val (.int p2), .val (.long q3), .second, .val (.long q4), .second, .val (.long q5), .second, .val (.int (1 : Int32)), .val (.int (g0_2 p1 p2 q3 q4 q5 w)), .val (.int (g0_3 p1 p2 q3 q4 q5 w)), .val (.ref o38), .val (.ref s_55), .val (.ref s_63), .val (.ref o72), .val (.int (0 : Int32)), .val (.ref q_99)] [(.ref q_99)])
        obtain ⟨cq114, kq114, q114a, q114b, q114c⟩ := isOf hZ99 rfl P99_0
        obtain ⟨_, _, ⟨T114, L114, k114, n114⟩, -, X114, ⟨Lc114, hQ114, l114, y114, z114⟩, st114⟩ := X99.virtualBack hx (y := (⟨"com/example/partwise/partwise/Part", "inFile", "()Z"⟩ : MethodName)) (z := (⟨"com/example/partwise/partwise/Part", "inFile", "()Z"⟩ : MethodName)) hown99 (mvT hZ99 (hw _ (List.mem_of_getElem? (i := 56) rfl))) (mvT hZ99 (hw _ (List.mem_of_getElem? (i := 57) rfl))) (notFace_of_selects (args := #[]) (mvT hZ99 (hw _ (List.mem_of_getElem? (i := 59) rfl)))) (mvT hZ99 (hw _ (List.mem_of_getElem? (i := 59) rfl))) (mvT hZ99 (hw _ (List.mem_of_getElem? (i := 58) rfl))) (by decide) (backOf (W := 0) (rm := ({ frames := 0, cells := 0, slots := 0, locals := 0 } : Room)) (rm9_r l Z a0 hw [] q_99 o38 T99.heap P99_1) hZ99 (hw _ (List.mem_of_getElem? (i := 60) rfl)) (hw _ (List.mem_of_getElem? (i := 28) rfl)) (by decide) (by decide)) q114a q114c (g := (mkF m 175 #[.val (.int p1), .val (.int p2), .val (.long q3), .second, .val (.long q4), .second, .val (.long q5), .second, .val (.int (1 : Int32)), .val (.int (g0_2 p1 p2 q3 q4 q5 w)), .val (.int (g0_3 p1 p2 q3 q4 q5 w)), .val (.ref o38), .val (.ref s_55), .val (.ref s_63), .val (.ref o72), .val (.int (0 : Int32)), .val (.ref q_99)] [(.ref q_99)])) rfl (by rw [hml]; rfl) (Steps.refl _) (argsL := []) (rest := []) (lenOf pd___Z rfl) rfl (by show 2 * 0 + _ ≤ _; exact Nat.le_of_eq rfl) (hb hby at_175) (fun _ _ => ⟨rfl, rfl, (by decide : 20 + 0 ≤ _), (by decide : 104 + 0 ≤ _)⟩)
        dsimp only [Pt.U, Pt.locs, Pt.cells, Pt.slots] at X114 l114 y114 z114 st114 hQ114
        subst l114 y114 z114
        obtain ⟨rfl, rfl, e114⟩ := hQ114
        refine own_stS (fun t k => st114.trans k) ?_
        have N114 := Fr.app N99 (Fr.nil n0)
        show OGS _ _ p e _ s below _ T114 (mkF m 178 #[.val (.int p1), .val (.int p2), .val (.long q3), .second, .val (.long q4), .second, .val (.long q5), .second, .val (.int (1 : Int32)), .val (.int (g0_2 p1 p2 q3 q4 q5 w)), .val (.int (g0_3 p1 p2 q3 q4 q5 w)), .val (.ref o38), .val (.ref s_55), .val (.ref s_63), .val (.ref o72), .val (.int (0 : Int32)), .val (.ref q_99)] [(.int f9_r)])
        refine own_stS (fun t k => XS.iload X114.here hx rfl (hb hby at_178) rfl k) ?_
        show OGS _ _ p e _ s below _ T114 (mkF m 180 #[.val (.int p1), .val (.int p2), .val (.long q3), .second, .val (.long q4), .second, .val (.long q5), .second, .val (.int (1 : Int32)), .val (.int (g0_2 p1 p2 q3 q4 q5 w)), .val (.int (g0_3 p1 p2 q3 q4 q5 w)), .val (.ref o38), .val (.ref s_55), .val (.ref s_63), .val (.ref o72), .val (.int (0 : Int32)), .val (.ref q_99)] [(.int (0 : Int32)), (.int f9_r)])
        refine own_stS (fun t k => XS.icmpNo X114.here hx rfl (hb hby at_180) rfl (teq c98).2 k) ?_
        show OGS _ _ p e _ s below _ T114 (mkF m 183 #[.val (.int p1), .val (.int p2), .val (.long q3), .second, .val (.long q4), .second, .val (.long q5), .second, .val (.int (1 : Int32)), .val (.int (g0_2 p1 p2 q3 q4 q5 w)), .val (.int (g0_3 p1 p2 q3 q4 q5 w)), .val (.ref o38), .val (.ref s_55), .val (.ref s_63), .val (.ref o72), .val (.int (0 : Int32)), .val (.ref q_99)] [])
        refine own_stS (fun t k => XS.iconst X114.here hx rfl (hb hby at_183) k) ?_
        show OGS _ _ p e _ s below _ T114 (mkF m 184 #[.val (.int p1), .val (.int p2), .val (.long q3), .second, .val (.long q4), .second, .val (.long q5), .second, .val (.int (1 : Int32)), .val (.int (g0_2 p1 p2 q3 q4 q5 w)), .val (.int (g0_3 p1 p2 q3 q4 q5 w)), .val (.ref o38), .val (.ref s_55), .val (.ref s_63), .val (.ref o72), .val (.int (0 : Int32)), .val (.ref q_99)] [(.int (1 : Int32))])
        refine own_stS (fun t k => XS.goto X114.here hx rfl (pc0 := 184) (pc' := 188) rfl (hb hby at_184) (by decide) (by decide) k) ?_
        show OGS _ _ p e _ s below _ T114 (mkF m 188 #[.val (.int p1), .val (.int p2), .val (.long q3), .second, .val (.long q4), .second, .val (.long q5), .second, .val (.int (1 : Int32)), .val (.int (g0_2 p1 p2 q3 q4 q5 w)), .val (.int (g0_3 p1 p2 q3 q4 q5 w)), .val (.ref o38), .val (.ref s_55), .val (.ref s_63), .val (.ref o72), .val (.int (0 : Int32)), .val (.ref q_99)] [(.int (1 : Int32))])
        refine own_endS X114 hlk hZ99 hEL e114 hs0 hS99 hk99 Cq99.1 CR99 (v := some (.int (nar .boolean (1 : Int32)))) (fun h => by rw [hret] at h; cases h) (by decide) (by decide) ?_ (fun fs hr => retN X114 hx (t := .boolean) hret (by simp) (hb hby at_188) hr)
        exact ⟨congrArg (fun z => some (Value.int z)) (show f0 p1 p2 q3 q4 q5 w = (1 : Int32) from (by rw [f0, if_neg c1, if_pos c37, if_pos c98])).symm, N114⟩
      · refine own_stS (fun t k => XS.icmpNo X97.here hx rfl (hb hby at_159) rfl (feq c98).1 k) ?_
        show OGS _ _ p e _ s below _ T97 (mkF m 162 #[.val (.int p1), .val (.int p2), .val (.long q3), .second, .val (.long q4), .second, .val (.long q5), .second, .val (.int (1 : Int32)), .val (.int (g0_2 p1 p2 q3 q4 q5 w)), .val (.int (g0_3 p1 p2 q3 q4 q5 w)), .val (.ref o38), .val (.ref s_55), .val (.ref s_63), .val (.ref o72), .val (.int (0 : Int32)), .unset] [])
        refine own_stS (fun t k => XS.iconst X97.here hx rfl (hb hby at_162) k) ?_
        show OGS _ _ p e _ s below _ T97 (mkF m 163 #[.val (.int p1), .val (.int p2), .val (.long q3), .second, .val (.long q4), .second, .val (.long q5), .second, .val (.int (1 : Int32)), .val (.int (g0_2 p1 p2 q3 q4 q5 w)), .val (.int (g0_3 p1 p2 q3 q4 q5 w)), .val (.ref o38), .val (.ref s_55), .val (.ref s_63), .val (.ref o72), .val (.int (0 : Int32)), .unset] [(.int (0 : Int32))])
        refine own_endS X97 hlk hZ88 hEL e97 hs0 hS88 hk88 Cq88.1 CR88 (v := some (.int (nar .boolean (0 : Int32)))) (fun h => by rw [hret] at h; cases h) (by decide) (by decide) ?_ (fun fs hr => retN X97 hx (t := .boolean) hret (by simp) (hb hby at_163) hr)
        exact ⟨congrArg (fun z => some (Value.int z)) (show f0 p1 p2 q3 q4 q5 w = (0 : Int32) from (by rw [f0, if_neg c1, if_pos c37, if_neg c98])).symm, N97⟩
    · skip
      by_cases c115 : (g0_1 p1 p2 q3 q4 q5 w) = (2 : Int32)
      · rw [c115]
        show OGS _ _ p e _ s below _ s₁ (mkF m 5 #[.val (.int p1), .val (.int p2), .val (.long q3), .second, .val (.long q4), .second, .val (.long q5), .second, .val (.int (2 : Int32)), .unset, .unset, .unset, .unset, .unset, .unset, .unset, .unset] [])
        refine own_stS (fun t k => XS.iloadN X0.here hx rfl (hb hby at_5) rfl k) ?_
        show OGS _ _ p e _ s below _ s₁ (mkF m 6 #[.val (.int p1), .val (.int p2), .val (.long q3), .second, .val (.long q4), .second, .val (.long q5), .second, .val (.int (2 : Int32)), .unset, .unset, .unset, .unset, .unset, .unset, .unset, .unset] [(.int p2)])
        refine own_stS (fun t k => XS.sipush X0.here hx rfl (hb hby at_6) k) ?_
        show OGS _ _ p e _ s below _ s₁ (mkF m 9 #[.val (.int p1), .val (.int p2), .val (.long q3), .second, .val (.long q4), .second, .val (.long q5), .second, .val (.int (2 : Int32)), .unset, .unset, .unset, .unset, .unset, .unset, .unset, .unset] [(.int (255 : Int32)), (.int p2)])
        refine own_stS (fun t k => XS.iand X0.here hx rfl (hb hby at_9) rfl k) ?_
        show OGS _ _ p e _ s below _ s₁ (mkF m 10 #[.val (.int p1), .val (.int p2), .val (.long q3), .second, .val (.long q4), .second, .val (.long q5), .second, .val (.int (2 : Int32)), .unset, .unset, .unset, .unset, .unset, .unset, .unset, .unset] [(.int (p2 &&& (255 : Int32)))])
        refine own_stS (fun t k => XS.i2c X0.here hx rfl (hb hby at_10) rfl k) ?_
        show OGS _ _ p e _ s below _ s₁ (mkF m 11 #[.val (.int p1), .val (.int p2), .val (.long q3), .second, .val (.long q4), .second, .val (.long q5), .second, .val (.int (2 : Int32)), .unset, .unset, .unset, .unset, .unset, .unset, .unset, .unset] [(.int ((p2 &&& (255 : Int32)).toUInt32.toUInt16.toUInt32.toInt32))])
        refine own_stS (fun t k => XS.istore X0.here hx rfl (hb hby at_11) rfl (l' := #[.val (.int p1), .val (.int p2), .val (.long q3), .second, .val (.long q4), .second, .val (.long q5), .second, .val (.int (2 : Int32)), .val (.int (g0_2 p1 p2 q3 q4 q5 w)), .unset, .unset, .unset, .unset, .unset, .unset, .unset]) rfl k) ?_
        show OGS _ _ p e _ s below _ s₁ (mkF m 13 #[.val (.int p1), .val (.int p2), .val (.long q3), .second, .val (.long q4), .second, .val (.long q5), .second, .val (.int (2 : Int32)), .val (.int (g0_2 p1 p2 q3 q4 q5 w)), .unset, .unset, .unset, .unset, .unset, .unset, .unset] [])
        refine own_stS (fun t k => XS.iloadN X0.here hx rfl (hb hby at_13) rfl k) ?_
        show OGS _ _ p e _ s below _ s₁ (mkF m 14 #[.val (.int p1), .val (.int p2), .val (.long q3), .second, .val (.long q4), .second, .val (.long q5), .second, .val (.int (2 : Int32)), .val (.int (g0_2 p1 p2 q3 q4 q5 w)), .unset, .unset, .unset, .unset, .unset, .unset, .unset] [(.int p2)])
        refine own_stS (fun t k => XS.bipush X0.here hx rfl (hb hby at_14) k) ?_
        show OGS _ _ p e _ s below _ s₁ (mkF m 16 #[.val (.int p1), .val (.int p2), .val (.long q3), .second, .val (.long q4), .second, .val (.long q5), .second, .val (.int (2 : Int32)), .val (.int (g0_2 p1 p2 q3 q4 q5 w)), .unset, .unset, .unset, .unset, .unset, .unset, .unset] [(.int (8 : Int32)), (.int p2)])
        refine own_stS (fun t k => XS.iushr X0.here hx rfl (hb hby at_16) rfl k) ?_
        show OGS _ _ p e _ s below _ s₁ (mkF m 17 #[.val (.int p1), .val (.int p2), .val (.long q3), .second, .val (.long q4), .second, .val (.long q5), .second, .val (.int (2 : Int32)), .val (.int (g0_2 p1 p2 q3 q4 q5 w)), .unset, .unset, .unset, .unset, .unset, .unset, .unset] [(.int ((p2.toUInt32 >>> ((8 : Int32) &&& 31).toUInt32).toInt32))])
        refine own_stS (fun t k => XS.sipush X0.here hx rfl (hb hby at_17) k) ?_
        show OGS _ _ p e _ s below _ s₁ (mkF m 20 #[.val (.int p1), .val (.int p2), .val (.long q3), .second, .val (.long q4), .second, .val (.long q5), .second, .val (.int (2 : Int32)), .val (.int (g0_2 p1 p2 q3 q4 q5 w)), .unset, .unset, .unset, .unset, .unset, .unset, .unset] [(.int (255 : Int32)), (.int ((p2.toUInt32 >>> ((8 : Int32) &&& 31).toUInt32).toInt32))])
        refine own_stS (fun t k => XS.iand X0.here hx rfl (hb hby at_20) rfl k) ?_
        show OGS _ _ p e _ s below _ s₁ (mkF m 21 #[.val (.int p1), .val (.int p2), .val (.long q3), .second, .val (.long q4), .second, .val (.long q5), .second, .val (.int (2 : Int32)), .val (.int (g0_2 p1 p2 q3 q4 q5 w)), .unset, .unset, .unset, .unset, .unset, .unset, .unset] [(.int (((p2.toUInt32 >>> ((8 : Int32) &&& 31).toUInt32).toInt32) &&& (255 : Int32)))])
        refine own_stS (fun t k => XS.i2c X0.here hx rfl (hb hby at_21) rfl k) ?_
        show OGS _ _ p e _ s below _ s₁ (mkF m 22 #[.val (.int p1), .val (.int p2), .val (.long q3), .second, .val (.long q4), .second, .val (.long q5), .second, .val (.int (2 : Int32)), .val (.int (g0_2 p1 p2 q3 q4 q5 w)), .unset, .unset, .unset, .unset, .unset, .unset, .unset] [(.int ((((p2.toUInt32 >>> ((8 : Int32) &&& 31).toUInt32).toInt32) &&& (255 : Int32)).toUInt32.toUInt16.toUInt32.toInt32))])
        refine own_stS (fun t k => XS.istore X0.here hx rfl (hb hby at_22) rfl (l' := #[.val (.int p1), .val (.int p2), .val (.long q3), .second, .val (.long q4), .second, .val (.long q5), .second, .val (.int (2 : Int32)), .val (.int (g0_2 p1 p2 q3 q4 q5 w)), .val (.int (g0_3 p1 p2 q3 q4 q5 w)), .unset, .unset, .unset, .unset, .unset, .unset]) rfl k) ?_
        show OGS _ _ p e _ s below _ s₁ (mkF m 24 #[.val (.int p1), .val (.int p2), .val (.long q3), .second, .val (.long q4), .second, .val (.long q5), .second, .val (.int (2 : Int32)), .val (.int (g0_2 p1 p2 q3 q4 q5 w)), .val (.int (g0_3 p1 p2 q3 q4 q5 w)), .unset, .unset, .unset, .unset, .unset, .unset] [])
        refine own_stS (fun t k => XS.iload X0.here hx rfl (hb hby at_24) rfl k) ?_
        show OGS _ _ p e _ s below _ s₁ (mkF m 26 #[.val (.int p1), .val (.int p2), .val (.long q3), .second, .val (.long q4), .second, .val (.long q5), .second, .val (.int (2 : Int32)), .val (.int (g0_2 p1 p2 q3 q4 q5 w)), .val (.int (g0_3 p1 p2 q3 q4 q5 w)), .unset, .unset, .unset, .unset, .unset, .unset] [(.int (2 : Int32))])
        refine own_stS (fun t k => XS.ifYes X0.here hx rfl (pc0 := 26) (pc' := 35) rfl (hb hby at_26) rfl (by decide) (by decide) (by decide) k) ?_
        show OGS _ _ p e _ s below _ s₁ (mkF m 35 #[.val (.int p1), .val (.int p2), .val (.long q3), .second, .val (.long q4), .second, .val (.long q5), .second, .val (.int (2 : Int32)), .val (.int (g0_2 p1 p2 q3 q4 q5 w)), .val (.int (g0_3 p1 p2 q3 q4 q5 w)), .unset, .unset, .unset, .unset, .unset, .unset] [])
        refine own_stS (fun t k => XS.iload X0.here hx rfl (hb hby at_35) rfl k) ?_
        show OGS _ _ p e _ s below _ s₁ (mkF m 37 #[.val (.int p1), .val (.int p2), .val (.long q3), .second, .val (.long q4), .second, .val (.long q5), .second, .val (.int (2 : Int32)), .val (.int (g0_2 p1 p2 q3 q4 q5 w)), .val (.int (g0_3 p1 p2 q3 q4 q5 w)), .unset, .unset, .unset, .unset, .unset, .unset] [(.int (2 : Int32))])
        refine own_stS (fun t k => XS.iconst X0.here hx rfl (hb hby at_37) k) ?_
        show OGS _ _ p e _ s below _ s₁ (mkF m 38 #[.val (.int p1), .val (.int p2), .val (.long q3), .second, .val (.long q4), .second, .val (.long q5), .second, .val (.int (2 : Int32)), .val (.int (g0_2 p1 p2 q3 q4 q5 w)), .val (.int (g0_3 p1 p2 q3 q4 q5 w)), .unset, .unset, .unset, .unset, .unset, .unset] [(.int (1 : Int32)), (.int (2 : Int32))])
        refine own_stS (fun t k => XS.icmpYes X0.here hx rfl (pc0 := 38) (pc' := 56) rfl (hb hby at_38) rfl (by decide) (by decide) (by decide) k) ?_
        show OGS _ _ p e _ s below _ s₁ (mkF m 56 #[.val (.int p1), .val (.int p2), .val (.long q3), .second, .val (.long q4), .second, .val (.long q5), .second, .val (.int (2 : Int32)), .val (.int (g0_2 p1 p2 q3 q4 q5 w)), .val (.int (g0_3 p1 p2 q3 q4 q5 w)), .unset, .unset, .unset, .unset, .unset, .unset] [])
        refine own_stS (fun t k => XS.iload X0.here hx rfl (hb hby at_56) rfl k) ?_
        show OGS _ _ p e _ s below _ s₁ (mkF m 58 #[.val (.int p1), .val (.int p2), .val (.long q3), .second, .val (.long q4), .second, .val (.long q5), .second, .val (.int (2 : Int32)), .val (.int (g0_2 p1 p2 q3 q4 q5 w)), .val (.int (g0_3 p1 p2 q3 q4 q5 w)), .unset, .unset, .unset, .unset, .unset, .unset] [(.int (2 : Int32))])
        refine own_stS (fun t k => XS.iconst X0.here hx rfl (hb hby at_58) k) ?_
        show OGS _ _ p e _ s below _ s₁ (mkF m 59 #[.val (.int p1), .val (.int p2), .val (.long q3), .second, .val (.long q4), .second, .val (.long q5), .second, .val (.int (2 : Int32)), .val (.int (g0_2 p1 p2 q3 q4 q5 w)), .val (.int (g0_3 p1 p2 q3 q4 q5 w)), .unset, .unset, .unset, .unset, .unset, .unset] [(.int (2 : Int32)), (.int (2 : Int32))])
        refine own_stS (fun t k => XS.icmpNo X0.here hx rfl (hb hby at_59) rfl (by decide) k) ?_
        show OGS _ _ p e _ s below _ s₁ (mkF m 62 #[.val (.int p1), .val (.int p2), .val (.long q3), .second, .val (.long q4), .second, .val (.long q5), .second, .val (.int (2 : Int32)), .val (.int (g0_2 p1 p2 q3 q4 q5 w)), .val (.int (g0_3 p1 p2 q3 q4 q5 w)), .unset, .unset, .unset, .unset, .unset, .unset] [])
        refine own_stS (fun t k => XS.iload X0.here hx rfl (hb hby at_62) rfl k) ?_
        show OGS _ _ p e _ s below _ s₁ (mkF m 64 #[.val (.int p1), .val (.int p2), .val (.long q3), .second, .val (.long q4), .second, .val (.long q5), .second, .val (.int (2 : Int32)), .val (.int (g0_2 p1 p2 q3 q4 q5 w)), .val (.int (g0_3 p1 p2 q3 q4 q5 w)), .unset, .unset, .unset, .unset, .unset, .unset] [(.int (g0_2 p1 p2 q3 q4 q5 w))])
        obtain ⟨_, _, ⟨T116, L116, k116, n116⟩, -, X116, ⟨Lc116, hQ116, l116, y116, z116⟩, st116⟩ := Jvm.LawKit.callS X0 hx (y := (⟨"java/lang/String", "valueOf", "(C)Ljava/lang/String;"⟩ : MethodName)) hown (mvT hZ (hw _ (List.mem_of_getElem? (i := 0) rfl))) (mvT hZ (hw _ (List.mem_of_getElem? (i := 1) rfl))) (mvT hZ (hw _ (List.mem_of_getElem? (i := 2) rfl))) (mvT hZ (hw _ (List.mem_of_getElem? (i := 3) rfl))) (by decide) (backOf (W := 0) (rm := ({ frames := 2, cells := 2, slots := 5, locals := 27 } : Room)) (rm1 l Z a0 hw [] (g0_2 p1 p2 q3 q4 q5 w) w h0 n0 (Nat.le_trans Z0 (Keep.refl h0 []).1) R0 hw0 (own_chA (p2))) hZ (hw _ (List.mem_of_getElem? (i := 3) rfl)) (hw _ (List.mem_of_getElem? (i := 2) rfl)) (by decide) (by decide)) (g := (mkF m 64 #[.val (.int p1), .val (.int p2), .val (.long q3), .second, .val (.long q4), .second, .val (.long q5), .second, .val (.int (2 : Int32)), .val (.int (g0_2 p1 p2 q3 q4 q5 w)), .val (.int (g0_3 p1 p2 q3 q4 q5 w)), .unset, .unset, .unset, .unset, .unset, .unset] [(.int (g0_2 p1 p2 q3 q4 q5 w))])) rfl (by rw [hml]; rfl) (argsL := [(.int (g0_2 p1 p2 q3 q4 q5 w))]) (rest := []) (lenOf pd__C_Ljava_lang_String_ rfl) rfl (by show 2 * 0 + _ ≤ _; exact Nat.le_of_eq rfl) (hb hby at_64) (fun _ _ => ⟨rfl, e0, (by decide : 0 + 2 ≤ _), (by decide : 0 + 5 ≤ _)⟩)
        dsimp only [Pt.U, Pt.locs, Pt.cells, Pt.slots] at X116 l116 y116 z116 st116 hQ116
        subst l116 y116 z116
        obtain ⟨N116q, K116q, s_116, sz_s_116, rfl, P116_0⟩ := hQ116
        refine own_stS st116 ?_
        have N116 := Fr.app N0 N116q
        have ge_s_116 : n0 ≤ s_116 := Nat.le_trans (Nat.le_trans Z0 (Keep.refl h0 []).1) sz_s_116
        have sy_s_116 : h0.size ≤ s_116 := Nat.le_trans (Keep.refl h0 []).1 sz_s_116
        have K116 : Keep h0 T116.heap [] := (Keep.refl h0 []).trans K116q (own_all0 )
        have F117 : Sta Z T116.heap "java/lang/String" "COMPACT_STRINGS" "Z" (.int w) := (own_staK R0 K116q (own_all0 ))
        show OGS _ _ p e _ s below _ T116 (mkF m 67 #[.val (.int p1), .val (.int p2), .val (.long q3), .second, .val (.long q4), .second, .val (.long q5), .second, .val (.int (2 : Int32)), .val (.int (g0_2 p1 p2 q3 q4 q5 w)), .val (.int (g0_3 p1 p2 q3 q4 q5 w)), .unset, .unset, .unset, .unset, .unset, .unset] [(.ref s_116)])
        have CR118 : CHr Z EL0 s.vm h0 s.vm T116.heap := CHr.trans CR0 (CHr.keep K116q (own_all0 ) CH0)
        have CH118 : CHv Z EL0 s.vm T116.heap := CHv.keep K116q (own_all0 ) CH0
        have hk118 := Nat.le_trans hk0 K116q.1
        refine own_stS (fun t k => XS.astore X116.here hx rfl (hb hby at_67) rfl rfl (l' := #[.val (.int p1), .val (.int p2), .val (.long q3), .second, .val (.long q4), .second, .val (.long q5), .second, .val (.int (2 : Int32)), .val (.int (g0_2 p1 p2 q3 q4 q5 w)), .val (.int (g0_3 p1 p2 q3 q4 q5 w)), .val (.ref s_116), .unset, .unset, .unset, .unset, .unset]) rfl k) ?_
        show OGS _ _ p e _ s below _ T116 (mkF m 69 #[.val (.int p1), .val (.int p2), .val (.long q3), .second, .val (.long q4), .second, .val (.long q5), .second, .val (.int (2 : Int32)), .val (.int (g0_2 p1 p2 q3 q4 q5 w)), .val (.int (g0_3 p1 p2 q3 q4 q5 w)), .val (.ref s_116), .unset, .unset, .unset, .unset, .unset] [])
        refine own_stS (fun t k => XS.goto X116.here hx rfl (pc0 := 69) (pc' := 94) rfl (hb hby at_69) (by decide) (by decide) k) ?_
        show OGS _ _ p e _ s below _ T116 (mkF m 94 #[.val (.int p1), .val (.int p2), .val (.long q3), .second, .val (.long q4), .second, .val (.long q5), .second, .val (.int (2 : Int32)), .val (.int (g0_2 p1 p2 q3 q4 q5 w)), .val (.int (g0_3 p1 p2 q3 q4 q5 w)), .val (.ref s_116), .unset, .unset, .unset, .unset, .unset] [])
        refine own_stS (fun t k => XS.iloadN X116.here hx rfl (hb hby at_94) rfl k) ?_
        show OGS _ _ p e _ s below _ T116 (mkF m 95 #[.val (.int p1), .val (.int p2), .val (.long q3), .second, .val (.long q4), .second, .val (.long q5), .second, .val (.int (2 : Int32)), .val (.int (g0_2 p1 p2 q3 q4 q5 w)), .val (.int (g0_3 p1 p2 q3 q4 q5 w)), .val (.ref s_116), .unset, .unset, .unset, .unset, .unset] [(.int p2)])
        refine own_stS (fun t k => XS.bipush X116.here hx rfl (hb hby at_95) k) ?_
        show OGS _ _ p e _ s below _ T116 (mkF m 97 #[.val (.int p1), .val (.int p2), .val (.long q3), .second, .val (.long q4), .second, .val (.long q5), .second, .val (.int (2 : Int32)), .val (.int (g0_2 p1 p2 q3 q4 q5 w)), .val (.int (g0_3 p1 p2 q3 q4 q5 w)), .val (.ref s_116), .unset, .unset, .unset, .unset, .unset] [(.int (16 : Int32)), (.int p2)])
        refine own_stS (fun t k => XS.iushr X116.here hx rfl (hb hby at_97) rfl k) ?_
        show OGS _ _ p e _ s below _ T116 (mkF m 98 #[.val (.int p1), .val (.int p2), .val (.long q3), .second, .val (.long q4), .second, .val (.long q5), .second, .val (.int (2 : Int32)), .val (.int (g0_2 p1 p2 q3 q4 q5 w)), .val (.int (g0_3 p1 p2 q3 q4 q5 w)), .val (.ref s_116), .unset, .unset, .unset, .unset, .unset] [(.int ((p2.toUInt32 >>> ((16 : Int32) &&& 31).toUInt32).toInt32))])
        refine own_stS (fun t k => XS.sipush X116.here hx rfl (hb hby at_98) k) ?_
        show OGS _ _ p e _ s below _ T116 (mkF m 101 #[.val (.int p1), .val (.int p2), .val (.long q3), .second, .val (.long q4), .second, .val (.long q5), .second, .val (.int (2 : Int32)), .val (.int (g0_2 p1 p2 q3 q4 q5 w)), .val (.int (g0_3 p1 p2 q3 q4 q5 w)), .val (.ref s_116), .unset, .unset, .unset, .unset, .unset] [(.int (255 : Int32)), (.int ((p2.toUInt32 >>> ((16 : Int32) &&& 31).toUInt32).toInt32))])
        refine own_stS (fun t k => XS.iand X116.here hx rfl (hb hby at_101) rfl k) ?_
        show OGS _ _ p e _ s below _ T116 (mkF m 102 #[.val (.int p1), .val (.int p2), .val (.long q3), .second, .val (.long q4), .second, .val (.long q5), .second, .val (.int (2 : Int32)), .val (.int (g0_2 p1 p2 q3 q4 q5 w)), .val (.int (g0_3 p1 p2 q3 q4 q5 w)), .val (.ref s_116), .unset, .unset, .unset, .unset, .unset] [(.int (((p2.toUInt32 >>> ((16 : Int32) &&& 31).toUInt32).toInt32) &&& (255 : Int32)))])
        refine own_stS (fun t k => XS.i2c X116.here hx rfl (hb hby at_102) rfl k) ?_
        show OGS _ _ p e _ s below _ T116 (mkF m 103 #[.val (.int p1), .val (.int p2), .val (.long q3), .second, .val (.long q4), .second, .val (.long q5), .second, .val (.int (2 : Int32)), .val (.int (g0_2 p1 p2 q3 q4 q5 w)), .val (.int (g0_3 p1 p2 q3 q4 q5 w)), .val (.ref s_116), .unset, .unset, .unset, .unset, .unset] [(.int ((((p2.toUInt32 >>> ((16 : Int32) &&& 31).toUInt32).toInt32) &&& (255 : Int32)).toUInt32.toUInt16.toUInt32.toInt32))])
        obtain ⟨_, _, ⟨T119, L119, k119, n119⟩, -, X119, ⟨Lc119, hQ119, l119, y119, z119⟩, st119⟩ := Jvm.LawKit.callS X116 hx (y := (⟨"java/lang/String", "valueOf", "(C)Ljava/lang/String;"⟩ : MethodName)) hown (mvT hZ (hw _ (List.mem_of_getElem? (i := 0) rfl))) (mvT hZ (hw _ (List.mem_of_getElem? (i := 1) rfl))) (mvT hZ (hw _ (List.mem_of_getElem? (i := 2) rfl))) (mvT hZ (hw _ (List.mem_of_getElem? (i := 3) rfl))) (by decide) (backOf (W := 0) (rm := ({ frames := 2, cells := 2, slots := 5, locals := 27 } : Room)) (rm1 l Z a0 hw [] ((((p2.toUInt32 >>> ((16 : Int32) &&& 31).toUInt32).toInt32) &&& (255 : Int32)).toUInt32.toUInt16.toUInt32.toInt32) w T116.heap n0 (Nat.le_trans Z0 K116.1) F117 hw0 (own_chA (((p2.toUInt32 >>> ((16 : Int32) &&& 31).toUInt32).toInt32)))) hZ (hw _ (List.mem_of_getElem? (i := 3) rfl)) (hw _ (List.mem_of_getElem? (i := 2) rfl)) (by decide) (by decide)) (g := (mkF m 103 #[.val (.int p1), .val (.int p2), .val (.long q3), .second, .val (.long q4), .second, .val (.long q5), .second, .val (.int (2 : Int32)), .val (.int (g0_2 p1 p2 q3 q4 q5 w)), .val (.int (g0_3 p1 p2 q3 q4 q5 w)), .val (.ref s_116), .unset, .unset, .unset, .unset, .unset] [(.int ((((p2.toUInt32 >>> ((16 : Int32) &&& 31).toUInt32).toInt32) &&& (255 : Int32)).toUInt32.toUInt16.toUInt32.toInt32))])) rfl (by rw [hml]; rfl) (argsL := [(.int ((((p2.toUInt32 >>> ((16 : Int32) &&& 31).toUInt32).toInt32) &&& (255 : Int32)).toUInt32.toUInt16.toUInt32.toInt32))]) (rest := []) (lenOf pd__C_Ljava_lang_String_ rfl) rfl (by show 2 * 0 + _ ≤ _; exact Nat.le_of_eq rfl) (hb hby at_103) (fun _ _ => ⟨rfl, rfl, (by decide : 2 + 2 ≤ _), (by decide : 5 + 5 ≤ _)⟩)
        dsimp only [Pt.U, Pt.locs, Pt.cells, Pt.slots] at X119 l119 y119 z119 st119 hQ119
        subst l119 y119 z119
        obtain ⟨N119q, K119q, s_119, sz_s_119, rfl, P119_0⟩ := hQ119
        refine own_stS st119 ?_
        have N119 := Fr.app N116 N119q
        have ge_s_119 : n0 ≤ s_119 := Nat.le_trans (Nat.le_trans Z0 K116.1) sz_s_119
        have sy_s_119 : h0.size ≤ s_119 := Nat.le_trans K116.1 sz_s_119
        have ne_s_116_s_119 : s_116 ≠ s_119 := Nat.ne_of_lt (Nat.lt_of_lt_of_le P116_0.lt sz_s_119)
        have K119 : Keep h0 T119.heap [] := K116.trans K119q (own_all0 )
        have F120 : Sta Z T119.heap "java/lang/String" "COMPACT_STRINGS" "Z" (.int w) := (own_staK F117 K119q (own_all0 ))
        have F121 : Exa Z T119.heap s_116 "java/lang/String" := (P116_0.keep K119q)
        show OGS _ _ p e _ s below _ T119 (mkF m 106 #[.val (.int p1), .val (.int p2), .val (.long q3), .second, .val (.long q4), .second, .val (.long q5), .second, .val (.int (2 : Int32)), .val (.int (g0_2 p1 p2 q3 q4 q5 w)), .val (.int (g0_3 p1 p2 q3 q4 q5 w)), .val (.ref s_116), .unset, .unset, .unset, .unset, .unset] [(.ref s_119)])
        have CR122 : CHr Z EL0 s.vm h0 s.vm T119.heap := CHr.trans CR118 (CHr.keep K119q (own_all0 ) CH118)
        have CH122 : CHv Z EL0 s.vm T119.heap := CHv.keep K119q (own_all0 ) CH118
        have hk122 := Nat.le_trans hk118 K119q.1
        refine own_stS (fun t k => XS.astore X119.here hx rfl (hb hby at_106) rfl rfl (l' := #[.val (.int p1), .val (.int p2), .val (.long q3), .second, .val (.long q4), .second, .val (.long q5), .second, .val (.int (2 : Int32)), .val (.int (g0_2 p1 p2 q3 q4 q5 w)), .val (.int (g0_3 p1 p2 q3 q4 q5 w)), .val (.ref s_116), .val (.ref s_119), .unset, .unset, .unset, .unset]) rfl k) ?_
        show OGS _ _ p e _ s below _ T119 (mkF m 108 #[.val (.int p1), .val (.int p2), .val (.long q3), .second, .val (.long q4), .second, .val (.long q5), .second, .val (.int (2 : Int32)), .val (.int (g0_2 p1 p2 q3 q4 q5 w)), .val (.int (g0_3 p1 p2 q3 q4 q5 w)), .val (.ref s_116), .val (.ref s_119), .unset, .unset, .unset, .unset] [])
        refine own_stS (fun t k => XS.iloadN X119.here hx rfl (hb hby at_108) rfl k) ?_
        show OGS _ _ p e _ s below _ T119 (mkF m 109 #[.val (.int p1), .val (.int p2), .val (.long q3), .second, .val (.long q4), .second, .val (.long q5), .second, .val (.int (2 : Int32)), .val (.int (g0_2 p1 p2 q3 q4 q5 w)), .val (.int (g0_3 p1 p2 q3 q4 q5 w)), .val (.ref s_116), .val (.ref s_119), .unset, .unset, .unset, .unset] [(.int p2)])
        refine own_stS (fun t k => XS.bipush X119.here hx rfl (hb hby at_109) k) ?_
        show OGS _ _ p e _ s below _ T119 (mkF m 111 #[.val (.int p1), .val (.int p2), .val (.long q3), .second, .val (.long q4), .second, .val (.long q5), .second, .val (.int (2 : Int32)), .val (.int (g0_2 p1 p2 q3 q4 q5 w)), .val (.int (g0_3 p1 p2 q3 q4 q5 w)), .val (.ref s_116), .val (.ref s_119), .unset, .unset, .unset, .unset] [(.int (24 : Int32)), (.int p2)])
        refine own_stS (fun t k => XS.iushr X119.here hx rfl (hb hby at_111) rfl k) ?_
        show OGS _ _ p e _ s below _ T119 (mkF m 112 #[.val (.int p1), .val (.int p2), .val (.long q3), .second, .val (.long q4), .second, .val (.long q5), .second, .val (.int (2 : Int32)), .val (.int (g0_2 p1 p2 q3 q4 q5 w)), .val (.int (g0_3 p1 p2 q3 q4 q5 w)), .val (.ref s_116), .val (.ref s_119), .unset, .unset, .unset, .unset] [(.int ((p2.toUInt32 >>> ((24 : Int32) &&& 31).toUInt32).toInt32))])
        refine own_stS (fun t k => XS.sipush X119.here hx rfl (hb hby at_112) k) ?_
        show OGS _ _ p e _ s below _ T119 (mkF m 115 #[.val (.int p1), .val (.int p2), .val (.long q3), .second, .val (.long q4), .second, .val (.long q5), .second, .val (.int (2 : Int32)), .val (.int (g0_2 p1 p2 q3 q4 q5 w)), .val (.int (g0_3 p1 p2 q3 q4 q5 w)), .val (.ref s_116), .val (.ref s_119), .unset, .unset, .unset, .unset] [(.int (255 : Int32)), (.int ((p2.toUInt32 >>> ((24 : Int32) &&& 31).toUInt32).toInt32))])
        refine own_stS (fun t k => XS.iand X119.here hx rfl (hb hby at_115) rfl k) ?_
        show OGS _ _ p e _ s below _ T119 (mkF m 116 #[.val (.int p1), .val (.int p2), .val (.long q3), .second, .val (.long q4), .second, .val (.long q5), .second, .val (.int (2 : Int32)), .val (.int (g0_2 p1 p2 q3 q4 q5 w)), .val (.int (g0_3 p1 p2 q3 q4 q5 w)), .val (.ref s_116), .val (.ref s_119), .unset, .unset, .unset, .unset] [(.int (((p2.toUInt32 >>> ((24 : Int32) &&& 31).toUInt32).toInt32) &&& (255 : Int32)))])
        refine own_stS (fun t k => XS.i2c X119.here hx rfl (hb hby at_116) rfl k) ?_
        show OGS _ _ p e _ s below _ T119 (mkF m 117 #[.val (.int p1), .val (.int p2), .val (.long q3), .second, .val (.long q4), .second, .val (.long q5), .second, .val (.int (2 : Int32)), .val (.int (g0_2 p1 p2 q3 q4 q5 w)), .val (.int (g0_3 p1 p2 q3 q4 q5 w)), .val (.ref s_116), .val (.ref s_119), .unset, .unset, .unset, .unset] [(.int ((((p2.toUInt32 >>> ((24 : Int32) &&& 31).toUInt32).toInt32) &&& (255 : Int32)).toUInt32.toUInt16.toUInt32.toInt32))])
        obtain ⟨_, _, ⟨T123, L123, k123, n123⟩, -, X123, ⟨Lc123, hQ123, l123, y123, z123⟩, st123⟩ := Jvm.LawKit.callS X119 hx (y := (⟨"java/lang/String", "valueOf", "(C)Ljava/lang/String;"⟩ : MethodName)) hown (mvT hZ (hw _ (List.mem_of_getElem? (i := 0) rfl))) (mvT hZ (hw _ (List.mem_of_getElem? (i := 1) rfl))) (mvT hZ (hw _ (List.mem_of_getElem? (i := 2) rfl))) (mvT hZ (hw _ (List.mem_of_getElem? (i := 3) rfl))) (by decide) (backOf (W := 0) (rm := ({ frames := 2, cells := 2, slots := 5, locals := 27 } : Room)) (rm1 l Z a0 hw [] ((((p2.toUInt32 >>> ((24 : Int32) &&& 31).toUInt32).toInt32) &&& (255 : Int32)).toUInt32.toUInt16.toUInt32.toInt32) w T119.heap n0 (Nat.le_trans Z0 K119.1) F120 hw0 (own_chA (((p2.toUInt32 >>> ((24 : Int32) &&& 31).toUInt32).toInt32)))) hZ (hw _ (List.mem_of_getElem? (i := 3) rfl)) (hw _ (List.mem_of_getElem? (i := 2) rfl)) (by decide) (by decide)) (g := (mkF m 117 #[.val (.int p1), .val (.int p2), .val (.long q3), .second, .val (.long q4), .second, .val (.long q5), .second, .val (.int (2 : Int32)), .val (.int (g0_2 p1 p2 q3 q4 q5 w)), .val (.int (g0_3 p1 p2 q3 q4 q5 w)), .val (.ref s_116), .val (.ref s_119), .unset, .unset, .unset, .unset] [(.int ((((p2.toUInt32 >>> ((24 : Int32) &&& 31).toUInt32).toInt32) &&& (255 : Int32)).toUInt32.toUInt16.toUInt32.toInt32))])) rfl (by rw [hml]; rfl) (argsL := [(.int ((((p2.toUInt32 >>> ((24 : Int32) &&& 31).toUInt32).toInt32) &&& (255 : Int32)).toUInt32.toUInt16.toUInt32.toInt32))]) (rest := []) (lenOf pd__C_Ljava_lang_String_ rfl) rfl (by show 2 * 0 + _ ≤ _; exact Nat.le_of_eq rfl) (hb hby at_117) (fun _ _ => ⟨rfl, rfl, (by decide : 4 + 2 ≤ _), (by decide : 10 + 5 ≤ _)⟩)
        dsimp only [Pt.U, Pt.locs, Pt.cells, Pt.slots] at X123 l123 y123 z123 st123 hQ123
        subst l123 y123 z123
        obtain ⟨N123q, K123q, s_123, sz_s_123, rfl, P123_0⟩ := hQ123
        refine own_stS st123 ?_
        have N123 := Fr.app N119 N123q
        have ge_s_123 : n0 ≤ s_123 := Nat.le_trans (Nat.le_trans Z0 K119.1) sz_s_123
        have sy_s_123 : h0.size ≤ s_123 := Nat.le_trans K119.1 sz_s_123
        have ne_s_116_s_123 : s_116 ≠ s_123 := Nat.ne_of_lt (Nat.lt_of_lt_of_le F121.lt sz_s_123)
        have ne_s_119_s_123 : s_119 ≠ s_123 := Nat.ne_of_lt (Nat.lt_of_lt_of_le P119_0.lt sz_s_123)
        have K123 : Keep h0 T123.heap [] := K119.trans K123q (own_all0 )
        have F124 : Sta Z T123.heap "java/lang/String" "COMPACT_STRINGS" "Z" (.int w) := (own_staK F120 K123q (own_all0 ))
        have F125 : Exa Z T123.heap s_116 "java/lang/String" := (F121.keep K123q)
        have F126 : Exa Z T123.heap s_119 "java/lang/String" := (P119_0.keep K123q)
        show OGS _ _ p e _ s below _ T123 (mkF m 120 #[.val (.int p1), .val (.int p2), .val (.long q3), .second, .val (.long q4), .second, .val (.long q5), .second, .val (.int (2 : Int32)), .val (.int (g0_2 p1 p2 q3 q4 q5 w)), .val (.int (g0_3 p1 p2 q3 q4 q5 w)), .val (.ref s_116), .val (.ref s_119), .unset, .unset, .unset, .unset] [(.ref s_123)])
        have CR127 : CHr Z EL0 s.vm h0 s.vm T123.heap := CHr.trans CR122 (CHr.keep K123q (own_all0 ) CH122)
        have CH127 : CHv Z EL0 s.vm T123.heap := CHv.keep K123q (own_all0 ) CH122
        have hk127 := Nat.le_trans hk122 K123q.1
        refine own_stS (fun t k => XS.astore X123.here hx rfl (hb hby at_120) rfl rfl (l' := #[.val (.int p1), .val (.int p2), .val (.long q3), .second, .val (.long q4), .second, .val (.long q5), .second, .val (.int (2 : Int32)), .val (.int (g0_2 p1 p2 q3 q4 q5 w)), .val (.int (g0_3 p1 p2 q3 q4 q5 w)), .val (.ref s_116), .val (.ref s_119), .val (.ref s_123), .unset, .unset, .unset]) rfl k) ?_
        show OGS _ _ p e _ s below _ T123 (mkF m 122 #[.val (.int p1), .val (.int p2), .val (.long q3), .second, .val (.long q4), .second, .val (.long q5), .second, .val (.int (2 : Int32)), .val (.int (g0_2 p1 p2 q3 q4 q5 w)), .val (.int (g0_3 p1 p2 q3 q4 q5 w)), .val (.ref s_116), .val (.ref s_119), .val (.ref s_123), .unset, .unset, .unset] [])
        obtain ⟨T128, h128, X128, e128, E128, A128, D128, -, st128⟩ := newO X123 hx hZ hown (hw _ (List.mem_of_getElem? (i := 26) rfl)) (hw _ (List.mem_of_getElem? (i := 27) rfl)) (hw _ (List.mem_of_getElem? (i := 28) rfl)) rfl (g := (mkF m 122 #[.val (.int p1), .val (.int p2), .val (.long q3), .second, .val (.long q4), .second, .val (.long q5), .second, .val (.int (2 : Int32)), .val (.int (g0_2 p1 p2 q3 q4 q5 w)), .val (.int (g0_3 p1 p2 q3 q4 q5 w)), .val (.ref s_116), .val (.ref s_119), .val (.ref s_123), .unset, .unset, .unset] [])) rfl (hb hby at_122) (by decide) (by decide)
        obtain ⟨o128, gb128⟩ : ∃ z, z = T123.heap.size := ⟨_, rfl⟩
        rw [← gb128] at A128 D128 st128
        refine own_stS st128 ?_
        have ge_o128 : n0 ≤ o128 := by rw [gb128]; exact Nat.le_trans Z0 K123.1
        have sz_o128 : h0.size ≤ o128 := by rw [gb128]; exact K123.1
        have ne_s_116_o128 : s_116 ≠ o128 := Nat.ne_of_lt (Nat.lt_of_lt_of_eq F125.lt gb128.symm)
        have ne_s_119_o128 : s_119 ≠ o128 := Nat.ne_of_lt (Nat.lt_of_lt_of_eq F126.lt gb128.symm)
        have ne_s_123_o128 : s_123 ≠ o128 := Nat.ne_of_lt (Nat.lt_of_lt_of_eq P123_0.lt gb128.symm)
        have F129 : Sta Z h128 "java/lang/String" "COMPACT_STRINGS" "Z" (.int w) := (F124.ext E128)
        have F130 : Exa Z h128 s_116 "java/lang/String" := (F125.ext E128)
        have F131 : Exa Z h128 s_119 "java/lang/String" := (F126.ext E128)
        have F132 : Exa Z h128 s_123 "java/lang/String" := (P123_0.ext E128)
        have K133 : Keep h0 h128 [] := K123.ext E128
        have F134 : Fld Z h128 o128 "com/example/partwise/partwise/Part" "table" "Ljava/lang/String;" .null := D128 (Or.inr (hw _ (List.mem_of_getElem? (i := 47) rfl))) (ty := (.object "java/lang/String")) (by decide)
        have F135 : Fld Z h128 o128 "com/example/partwise/partwise/Part" "id" "Ljava/lang/String;" .null := D128 (Or.inr (hw _ (List.mem_of_getElem? (i := 49) rfl))) (ty := (.object "java/lang/String")) (by decide)
        have F136 : Fld Z h128 o128 "com/example/partwise/partwise/Part" "rows" "J" (.long (0 : Int64)) := D128 (Or.inr (hw _ (List.mem_of_getElem? (i := 51) rfl))) (ty := .long) (by decide)
        have F137 : Fld Z h128 o128 "com/example/partwise/partwise/Part" "inline" "Ljava/lang/String;" .null := D128 (Or.inr (hw _ (List.mem_of_getElem? (i := 53) rfl))) (ty := (.object "java/lang/String")) (by decide)
        have F138 : Fld Z h128 o128 "com/example/partwise/partwise/Part" "addedBy" "J" (.long (0 : Int64)) := D128 (Or.inr (hw _ (List.mem_of_getElem? (i := 55) rfl))) (ty := .long) (by decide)
        show OGS _ _ p e _ s below _ T128 (mkF m 125 #[.val (.int p1), .val (.int p2), .val (.long q3), .second, .val (.long q4), .second, .val (.long q5), .second, .val (.int (2 : Int32)), .val (.int (g0_2 p1 p2 q3 q4 q5 w)), .val (.int (g0_3 p1 p2 q3 q4 q5 w)), .val (.ref s_116), .val (.ref s_119), .val (.ref s_123), .unset, .unset, .unset] [(.ref o128)])
        have CR139 : CHr Z EL0 s.vm h0 s.vm h128 := CHr.trans CR127 (CHr.ext E128 CH127)
        have CH139 : CHv Z EL0 s.vm h128 := CHv.ext E128 CH127
        have hk139 := Nat.le_trans hk127 E128.1
        refine own_stS (fun t k => XS.dup X128.here hx rfl (hb hby at_125) rfl rfl k) ?_
        show OGS _ _ p e _ s below _ T128 (mkF m 126 #[.val (.int p1), .val (.int p2), .val (.long q3), .second, .val (.long q4), .second, .val (.long q5), .second, .val (.int (2 : Int32)), .val (.int (g0_2 p1 p2 q3 q4 q5 w)), .val (.int (g0_3 p1 p2 q3 q4 q5 w)), .val (.ref s_116), .val (.ref s_119), .val (.ref s_123), .unset, .unset, .unset] [(.ref o128), (.ref o128)])
        refine own_stS (fun t k => XS.aload X128.here hx rfl (hb hby at_126) rfl rfl k) ?_
        show OGS _ _ p e _ s below _ T128 (mkF m 128 #[.val (.int p1), .val (.int p2), .val (.long q3), .second, .val (.long q4), .second, .val (.long q5), .second, .val (.int (2 : Int32)), .val (.int (g0_2 p1 p2 q3 q4 q5 w)), .val (.int (g0_3 p1 p2 q3 q4 q5 w)), .val (.ref s_116), .val (.ref s_119), .val (.ref s_123), .unset, .unset, .unset] [(.ref s_119), (.ref o128), (.ref o128)])
        refine own_stS (fun t k => XS.aload X128.here hx rfl (hb hby at_128) rfl rfl k) ?_
        show OGS _ _ p e _ s below _ T128 (mkF m 130 #[.val (.int p1), .val (.int p2), .val (.long q3), .second, .val (.long q4), .second, .val (.long q5), .second, .val (.int (2 : Int32)), .val (.int (g0_2 p1 p2 q3 q4 q5 w)), .val (.int (g0_3 p1 p2 q3 q4 q5 w)), .val (.ref s_116), .val (.ref s_119), .val (.ref s_123), .unset, .unset, .unset] [(.ref s_123), (.ref s_119), (.ref o128), (.ref o128)])
        refine own_stS (fun t k => XS.lloadN X128.here hx rfl (hb hby at_130) rfl k) ?_
        show OGS _ _ p e _ s below _ T128 (mkF m 131 #[.val (.int p1), .val (.int p2), .val (.long q3), .second, .val (.long q4), .second, .val (.long q5), .second, .val (.int (2 : Int32)), .val (.int (g0_2 p1 p2 q3 q4 q5 w)), .val (.int (g0_3 p1 p2 q3 q4 q5 w)), .val (.ref s_116), .val (.ref s_119), .val (.ref s_123), .unset, .unset, .unset] [(.long q3), (.ref s_123), (.ref s_119), (.ref o128), (.ref o128)])
        refine own_stS (fun t k => XS.aload X128.here hx rfl (hb hby at_131) rfl rfl k) ?_
        show OGS _ _ p e _ s below _ T128 (mkF m 133 #[.val (.int p1), .val (.int p2), .val (.long q3), .second, .val (.long q4), .second, .val (.long q5), .second, .val (.int (2 : Int32)), .val (.int (g0_2 p1 p2 q3 q4 q5 w)), .val (.int (g0_3 p1 p2 q3 q4 q5 w)), .val (.ref s_116), .val (.ref s_119), .val (.ref s_123), .unset, .unset, .unset] [(.ref s_116), (.long q3), (.ref s_123), (.ref s_119), (.ref o128), (.ref o128)])
        refine own_stS (fun t k => XS.lload X128.here hx rfl (hb hby at_133) rfl k) ?_
        show OGS _ _ p e _ s below _ T128 (mkF m 135 #[.val (.int p1), .val (.int p2), .val (.long q3), .second, .val (.long q4), .second, .val (.long q5), .second, .val (.int (2 : Int32)), .val (.int (g0_2 p1 p2 q3 q4 q5 w)), .val (.int (g0_3 p1 p2 q3 q4 q5 w)), .val (.ref s_116), .val (.ref s_119), .val (.ref s_123), .unset, .unset, .unset] [(.long q4), (.ref s_116), (.long q3), (.ref s_123), (.ref s_119), (.ref o128), (.ref o128)])
        obtain ⟨_, _, ⟨T140, L140, k140, n140⟩, -, X140q, hS140q, hg140q, ⟨Lc140, hQ140, l140, y140, z140, Cq140⟩, st140⟩ := X128.specialBackS hx (y := (⟨"com/example/partwise/partwise/Part", "<init>", "(Ljava/lang/String;Ljava/lang/String;JLjava/lang/String;J)V"⟩ : MethodName)) rfl hown (mvT hZ (hw _ (List.mem_of_getElem? (i := 29) rfl))) (mvT hZ (hw _ (List.mem_of_getElem? (i := 30) rfl))) (mvT hZ (hw _ (List.mem_of_getElem? (i := 31) rfl))) (by decide) (backOfSH (EL := EL0) (W := 1) (rm := ({ frames := 2, cells := 4, slots := 36, locals := 24 } : Room)) (rm6_r l Z a0 hw [] o128 s_119 s_123 q3 s_116 q4 h128 n0 A128 F134 F135 F136 F137 F138 ge_o128) hZ (hw _ (List.mem_of_getElem? (i := 31) rfl)) (hw _ (List.mem_of_getElem? (i := 28) rfl)) (by decide) (by decide) hEL CH139) (g := (mkF m 135 #[.val (.int p1), .val (.int p2), .val (.long q3), .second, .val (.long q4), .second, .val (.long q5), .second, .val (.int (2 : Int32)), .val (.int (g0_2 p1 p2 q3 q4 q5 w)), .val (.int (g0_3 p1 p2 q3 q4 q5 w)), .val (.ref s_116), .val (.ref s_119), .val (.ref s_123), .unset, .unset, .unset] [(.long q4), (.ref s_116), (.long q3), (.ref s_123), (.ref s_119), (.ref o128), (.ref o128)])) rfl (by rw [hml]; rfl) (Steps.refl _) (a := o128) (argsL := [(.ref s_119), (.ref s_123), (.long q3), (.ref s_116), (.long q4)]) (rest := [(.ref o128)]) (lenOf pd__Ljava_lang_String_Ljava_lang_String_JLjava_lang_String_J_V rfl) rfl (by show 2 * 0 + _ ≤ _; exact Nat.le_of_eq rfl) (hb hby at_135) (fun _ _ => ⟨rfl, e128, (by decide : 7 + 4 ≤ _), (by decide : 20 + 36 ≤ _)⟩)
        dsimp only [Pt.U, Pt.locs, Pt.cells, Pt.slots] at X140q hS140q hg140q l140 y140 z140 st140 hQ140 Cq140
        subst l140 y140 z140
        obtain ⟨X140, hS140, hZ140, hown140⟩ := rebS hS0 (by rw [e128]; exact hk139) X140q hS140q hg140q hZ hown
        have CR140 := CHr.trans CR139 Cq140
        have hk140 : T140.heap.size ≤ T140.heap.size := Nat.le_refl _
        obtain ⟨rfl, N140q, K140q, P140_0, P140_1, P140_2, P140_3, P140_4, P140_5⟩ := hQ140
        refine own_stS (fun t k => st140.trans k) ?_
        have N140 := Fr.app N123 N140q
        have K140 : Keep h0 T140.heap [] := K133.trans K140q (own_all1 (Or.inr sz_o128))
        have F141 : Sta Z T140.heap "java/lang/String" "COMPACT_STRINGS" "Z" (.int w) := (own_staK F129 K140q (own_all1 (own_plE A128)))
        have F142 : Exa Z T140.heap s_116 "java/lang/String" := (F130.keep K140q)
        have F143 : Exa Z T140.heap s_119 "java/lang/String" := (F131.keep K140q)
        have F144 : Exa Z T140.heap s_123 "java/lang/String" := (F132.keep K140q)
        show OGS _ _ p e _ s below _ T140 (mkF m 138 #[.val (.int p1), .val (.int p2), .val (.long q3), .second, .val (.long q4), .second, .val (.long q5), .second, .val (.int (2 : Int32)), .val (.int (g0_2 p1 p2 q3 q4 q5 w)), .val (.int (g0_3 p1 p2 q3 q4 q5 w)), .val (.ref s_116), .val (.ref s_119), .val (.ref s_123), .unset, .unset, .unset] [(.ref o128)])
        refine own_stS (fun t k => XS.astore X140.here hx rfl (hb hby at_138) rfl rfl (l' := #[.val (.int p1), .val (.int p2), .val (.long q3), .second, .val (.long q4), .second, .val (.long q5), .second, .val (.int (2 : Int32)), .val (.int (g0_2 p1 p2 q3 q4 q5 w)), .val (.int (g0_3 p1 p2 q3 q4 q5 w)), .val (.ref s_116), .val (.ref s_119), .val (.ref s_123), .val (.ref o128), .unset, .unset]) rfl k) ?_
        show OGS _ _ p e _ s below _ T140 (mkF m 140 #[.val (.int p1), .val (.int p2), .val (.long q3), .second, .val (.long q4), .second, .val (.long q5), .second, .val (.int (2 : Int32)), .val (.int (g0_2 p1 p2 q3 q4 q5 w)), .val (.int (g0_3 p1 p2 q3 q4 q5 w)), .val (.ref s_116), .val (.ref s_119), .val (.ref s_123), .val (.ref o128), .unset, .unset] [])
        refine own_stS (fun t k => XS.iload X140.here hx rfl (hb hby at_140) rfl k) ?_
        show OGS _ _ p e _ s below _ T140 (mkF m 142 #[.val (.int p1), .val (.int p2), .val (.long q3), .second, .val (.long q4), .second, .val (.long q5), .second, .val (.int (2 : Int32)), .val (.int (g0_2 p1 p2 q3 q4 q5 w)), .val (.int (g0_3 p1 p2 q3 q4 q5 w)), .val (.ref s_116), .val (.ref s_119), .val (.ref s_123), .val (.ref o128), .unset, .unset] [(.int (2 : Int32))])
        refine own_stS (fun t k => XS.ifYes X140.here hx rfl (pc0 := 142) (pc' := 149) rfl (hb hby at_142) rfl (by decide) (by decide) (by decide) k) ?_
        show OGS _ _ p e _ s below _ T140 (mkF m 149 #[.val (.int p1), .val (.int p2), .val (.long q3), .second, .val (.long q4), .second, .val (.long q5), .second, .val (.int (2 : Int32)), .val (.int (g0_2 p1 p2 q3 q4 q5 w)), .val (.int (g0_3 p1 p2 q3 q4 q5 w)), .val (.ref s_116), .val (.ref s_119), .val (.ref s_123), .val (.ref o128), .unset, .unset] [])
        refine own_stS (fun t k => XS.iconst X140.here hx rfl (hb hby at_149) k) ?_
        show OGS _ _ p e _ s below _ T140 (mkF m 150 #[.val (.int p1), .val (.int p2), .val (.long q3), .second, .val (.long q4), .second, .val (.long q5), .second, .val (.int (2 : Int32)), .val (.int (g0_2 p1 p2 q3 q4 q5 w)), .val (.int (g0_3 p1 p2 q3 q4 q5 w)), .val (.ref s_116), .val (.ref s_119), .val (.ref s_123), .val (.ref o128), .unset, .unset] [(.int (0 : Int32))])
        refine own_stS (fun t k => XS.istore X140.here hx rfl (hb hby at_150) rfl (l' := #[.val (.int p1), .val (.int p2), .val (.long q3), .second, .val (.long q4), .second, .val (.long q5), .second, .val (.int (2 : Int32)), .val (.int (g0_2 p1 p2 q3 q4 q5 w)), .val (.int (g0_3 p1 p2 q3 q4 q5 w)), .val (.ref s_116), .val (.ref s_119), .val (.ref s_123), .val (.ref o128), .val (.int (0 : Int32)), .unset]) rfl k) ?_
        show OGS _ _ p e _ s below _ T140 (mkF m 152 #[.val (.int p1), .val (.int p2), .val (.long q3), .second, .val (.long q4), .second, .val (.long q5), .second, .val (.int (2 : Int32)), .val (.int (g0_2 p1 p2 q3 q4 q5 w)), .val (.int (g0_3 p1 p2 q3 q4 q5 w)), .val (.ref s_116), .val (.ref s_119), .val (.ref s_123), .val (.ref o128), .val (.int (0 : Int32)), .unset] [])
        refine own_stS (fun t k => XS.aload X140.here hx rfl (hb hby at_152) rfl rfl k) ?_
        show OGS _ _ p e _ s below _ T140 (mkF m 154 #[.val (.int p1), .val (.int p2), .val (.long q3), .second, .val (.long q4), .second, .val (.long q5), .second, .val (.int (2 : Int32)), .val (.int (g0_2 p1 p2 q3 q4 q5 w)), .val (.int (g0_3 p1 p2 q3 q4 q5 w)), .val (.ref s_116), .val (.ref s_119), .val (.ref s_123), .val (.ref o128), .val (.int (0 : Int32)), .unset] [(.ref o128)])
        obtain ⟨cq145, kq145, q145a, q145b, q145c⟩ := isOf hZ140 rfl P140_0
        obtain ⟨_, _, ⟨T145, L145, k145, n145⟩, -, X145, ⟨Lc145, hQ145, l145, y145, z145⟩, st145⟩ := X140.virtualBack hx (y := (⟨"com/example/partwise/partwise/Part", "inFile", "()Z"⟩ : MethodName)) (z := (⟨"com/example/partwise/partwise/Part", "inFile", "()Z"⟩ : MethodName)) hown140 (mvT hZ140 (hw _ (List.mem_of_getElem? (i := 56) rfl))) (mvT hZ140 (hw _ (List.mem_of_getElem? (i := 57) rfl))) (notFace_of_selects (args := #[]) (mvT hZ140 (hw _ (List.mem_of_getElem? (i := 59) rfl)))) (mvT hZ140 (hw _ (List.mem_of_getElem? (i := 59) rfl))) (mvT hZ140 (hw _ (List.mem_of_getElem? (i := 58) rfl))) (by decide) (backOf (W := 0) (rm := ({ frames := 0, cells := 0, slots := 0, locals := 0 } : Room)) (rm9_r l Z a0 hw [] o128 s_116 T140.heap P140_4) hZ140 (hw _ (List.mem_of_getElem? (i := 60) rfl)) (hw _ (List.mem_of_getElem? (i := 28) rfl)) (by decide) (by decide)) q145a q145c (g := (mkF m 154 #[.val (.int p1), .val (.int p2), .val (.long q3), .second, .val (.long q4), .second, .val (.long q5), .second, .val (.int (2 : Int32)), .val (.int (g0_2 p1 p2 q3 q4 q5 w)), .val (.int (g0_3 p1 p2 q3 q4 q5 w)), .val (.ref s_116), .val (.ref s_119), .val (.ref s_123), .val (.ref o128), .val (.int (0 : Int32)), .unset] [(.ref o128)])) rfl (by rw [hml]; rfl) (Steps.refl _) (argsL := []) (rest := []) (lenOf pd___Z rfl) rfl (by show 2 * 0 + _ ≤ _; exact Nat.le_of_eq rfl) (hb hby at_154) (fun _ _ => ⟨rfl, rfl, (by decide : 11 + 0 ≤ _), (by decide : 56 + 0 ≤ _)⟩)
        dsimp only [Pt.U, Pt.locs, Pt.cells, Pt.slots] at X145 l145 y145 z145 st145 hQ145
        subst l145 y145 z145
        obtain ⟨rfl, rfl, e145⟩ := hQ145
        refine own_stS (fun t k => st145.trans k) ?_
        have N145 := Fr.app N140 (Fr.nil n0)
        show OGS _ _ p e _ s below _ T145 (mkF m 157 #[.val (.int p1), .val (.int p2), .val (.long q3), .second, .val (.long q4), .second, .val (.long q5), .second, .val (.int (2 : Int32)), .val (.int (g0_2 p1 p2 q3 q4 q5 w)), .val (.int (g0_3 p1 p2 q3 q4 q5 w)), .val (.ref s_116), .val (.ref s_119), .val (.ref s_123), .val (.ref o128), .val (.int (0 : Int32)), .unset] [(.int f9_r)])
        refine own_stS (fun t k => XS.iload X145.here hx rfl (hb hby at_157) rfl k) ?_
        show OGS _ _ p e _ s below _ T145 (mkF m 159 #[.val (.int p1), .val (.int p2), .val (.long q3), .second, .val (.long q4), .second, .val (.long q5), .second, .val (.int (2 : Int32)), .val (.int (g0_2 p1 p2 q3 q4 q5 w)), .val (.int (g0_3 p1 p2 q3 q4 q5 w)), .val (.ref s_116), .val (.ref s_119), .val (.ref s_123), .val (.ref o128), .val (.int (0 : Int32)), .unset] [(.int (0 : Int32)), (.int f9_r)])
        by_cases c146 : f9_r = (0 : Int32)
        · refine own_stS (fun t k => XS.icmpYes X145.here hx rfl (pc0 := 159) (pc' := 164) rfl (hb hby at_159) rfl (teq c146).1 (by decide) (by decide) k) ?_
          show OGS _ _ p e _ s below _ T145 (mkF m 164 #[.val (.int p1), .val (.int p2), .val (.long q3), .second, .val (.long q4), .second, .val (.long q5), .second, .val (.int (2 : Int32)), .val (.int (g0_2 p1 p2 q3 q4 q5 w)), .val (.int (g0_3 p1 p2 q3 q4 q5 w)), .val (.ref s_116), .val (.ref s_119), .val (.ref s_123), .val (.ref o128), .val (.int (0 : Int32)), .unset] [])
          refine own_stS (fun t k => XS.aload X145.here hx rfl (hb hby at_164) rfl rfl k) ?_
          show OGS _ _ p e _ s below _ T145 (mkF m 166 #[.val (.int p1), .val (.int p2), .val (.long q3), .second, .val (.long q4), .second, .val (.long q5), .second, .val (.int (2 : Int32)), .val (.int (g0_2 p1 p2 q3 q4 q5 w)), .val (.int (g0_3 p1 p2 q3 q4 q5 w)), .val (.ref s_116), .val (.ref s_119), .val (.ref s_123), .val (.ref o128), .val (.int (0 : Int32)), .unset] [(.ref o128)])
          refine own_stS (fun t k => XS.lload X145.here hx rfl (hb hby at_166) rfl k) ?_
          show OGS _ _ p e _ s below _ T145 (mkF m 168 #[.val (.int p1), .val (.int p2), .val (.long q3), .second, .val (.long q4), .second, .val (.long q5), .second, .val (.int (2 : Int32)), .val (.int (g0_2 p1 p2 q3 q4 q5 w)), .val (.int (g0_3 p1 p2 q3 q4 q5 w)), .val (.ref s_116), .val (.ref s_119), .val (.ref s_123), .val (.ref o128), .val (.int (0 : Int32)), .unset] [(.long q5), (.ref o128)])
          obtain ⟨cq147, kq147, q147a, q147b, q147c⟩ := isOf hZ140 e145 P140_0
          obtain ⟨_, _, ⟨T147, L147, k147, n147⟩, -, X147q, hS147q, hg147q, ⟨Lc147, hQ147, l147, y147, z147, Cq147⟩, st147⟩ := X145.virtualBackS hx (y := (⟨"com/example/partwise/partwise/Part", "asAddedBy", "(J)Lcom/example/partwise/partwise/Part;"⟩ : MethodName)) (z := (⟨"com/example/partwise/partwise/Part", "asAddedBy", "(J)Lcom/example/partwise/partwise/Part;"⟩ : MethodName)) hown140 (mvT hZ140 (hw _ (List.mem_of_getElem? (i := 61) rfl))) (mvT hZ140 (hw _ (List.mem_of_getElem? (i := 62) rfl))) (notFace_of_selects (args := #[]) (mvT hZ140 (hw _ (List.mem_of_getElem? (i := 64) rfl)))) (mvT hZ140 (hw _ (List.mem_of_getElem? (i := 64) rfl))) (mvT hZ140 (hw _ (List.mem_of_getElem? (i := 63) rfl))) (by decide) (backOfSH (EL := EL0) (W := 0) (rm := ({ frames := 3, cells := 5, slots := 41, locals := 44 } : Room)) (rm10_r l Z a0 hw [] o128 q5 s_119 s_123 q3 s_116 q4 T140.heap n0 (Nat.le_trans Z0 K140.1) P140_0 P140_1 P140_2 P140_3 P140_4 P140_5) hZ140 (hw _ (List.mem_of_getElem? (i := 65) rfl)) (hw _ (List.mem_of_getElem? (i := 28) rfl)) (by decide) (by decide) hEL Cq140.1) q147a q147c (g := (mkF m 168 #[.val (.int p1), .val (.int p2), .val (.long q3), .second, .val (.long q4), .second, .val (.long q5), .second, .val (.int (2 : Int32)), .val (.int (g0_2 p1 p2 q3 q4 q5 w)), .val (.int (g0_3 p1 p2 q3 q4 q5 w)), .val (.ref s_116), .val (.ref s_119), .val (.ref s_123), .val (.ref o128), .val (.int (0 : Int32)), .unset] [(.long q5), (.ref o128)])) rfl (by rw [hml]; rfl) (Steps.refl _) (argsL := [(.long q5)]) (rest := []) (lenOf pd__J_Lcom_example_partwise_partwise_Part_ rfl) rfl (by show 2 * 0 + _ ≤ _; exact Nat.le_of_eq rfl) (hb hby at_168) (fun _ _ => ⟨rfl, e145, (by decide : 11 + 5 ≤ _), (by decide : 56 + 41 ≤ _)⟩)
          dsimp only [Pt.U, Pt.locs, Pt.cells, Pt.slots] at X147q hS147q hg147q l147 y147 z147 st147 hQ147 Cq147
          subst l147 y147 z147
          obtain ⟨X147, hS147, hZ147, hown147⟩ := rebS hS140 (by rw [e145]; exact hk140) X147q hS147q hg147q hZ140 hown140
          have CR147 := CHr.trans CR140 Cq147
          have hk147 : T147.heap.size ≤ T147.heap.size := Nat.le_refl _
          obtain ⟨N147q, K147q, q_147, sz_q_147, rfl, P147_0, P147_1⟩ := hQ147
          refine own_stS (fun t k => st147.trans k) ?_
          have N147 := Fr.app N145 N147q
          have ge_q_147 : n0 ≤ q_147 := Nat.le_trans (Nat.le_trans Z0 K140.1) sz_q_147
          have sy_q_147 : h0.size ≤ q_147 := Nat.le_trans K140.1 sz_q_147
          have ne_o128_q_147 : o128 ≠ q_147 := Nat.ne_of_lt (Nat.lt_of_lt_of_le P140_0.lt sz_q_147)
          have ne_s_116_q_147 : s_116 ≠ q_147 := Nat.ne_of_lt (Nat.lt_of_lt_of_le F142.lt sz_q_147)
          have ne_s_119_q_147 : s_119 ≠ q_147 := Nat.ne_of_lt (Nat.lt_of_lt_of_le F143.lt sz_q_147)
          have ne_s_123_q_147 : s_123 ≠ q_147 := Nat.ne_of_lt (Nat.lt_of_lt_of_le F144.lt sz_q_147)
          have K147 : Keep h0 T147.heap [] := K140.trans K147q (own_all0 )
          have F148 : Sta Z T147.heap "java/lang/String" "COMPACT_STRINGS" "Z" (.int w) := (own_staK F141 K147q (own_all0 ))
          have F149 : Exa Z T147.heap s_116 "java/lang/String" := (F142.keep K147q)
          have F150 : Exa Z T147.heap s_119 "java/lang/String" := (F143.keep K147q)
          have F151 : Exa Z T147.heap s_123 "java/lang/String" := (F144.keep K147q)
          have F152 : Exa Z T147.heap o128 "com/example/partwise/partwise/Part" := (P140_0.keep K147q)
          have F153 : Fld Z T147.heap o128 "com/example/partwise/partwise/Part" "table" "Ljava/lang/String;" (.ref s_119) := (P140_1.keep K147q (own_nin0 ))
          have F154 : Fld Z T147.heap o128 "com/example/partwise/partwise/Part" "id" "Ljava/lang/String;" (.ref s_123) := (P140_2.keep K147q (own_nin0 ))
          have F155 : Fld Z T147.heap o128 "com/example/partwise/partwise/Part" "rows" "J" (.long q3) := (P140_3.keep K147q (own_nin0 ))
          have F156 : Fld Z T147.heap o128 "com/example/partwise/partwise/Part" "inline" "Ljava/lang/String;" (.ref s_116) := (P140_4.keep K147q (own_nin0 ))
          have F157 : Fld Z T147.heap o128 "com/example/partwise/partwise/Part" "addedBy" "J" (.long q4) := (P140_5.keep K147q (own_nin0 ))
          show OGS _ _ p e _ s below _ T147 (mkF m 171 #[.val (.int p1), .val (.int p2), .val (.long q3), .second, .val (.long q4), .second, .val (.long q5), .second, .val (.int (2 : Int32)), .val (.int (g0_2 p1 p2 q3 q4 q5 w)), .val (.int (g0_3 p1 p2 q3 q4 q5 w)), .val (.ref s_116), .val (.ref s_119), .val (.ref s_123), .val (.ref o128), .val (.int (0 : Int32)), .unset] [(.ref q_147)])
          refine own_stS (fun t k => XS.astore X147.here hx rfl (hb hby at_171) rfl rfl (l' := #[.val (.int p1), .val (.int p2), .val (.long q3), .second, .val (.long q4), .second, .val (.long q5), .second, .val (.int (2 : Int32)), .val (.int (g0_2 p1 p2 q3 q4 q5 w)), .val (.int (g0_3 p1 p2 q3 q4 q5 w)), .val (.ref s_116), .val (.ref s_119), .val (.ref s_123), .val (.ref o128), .val (.int (0 : Int32)), .val (.ref q_147)]) rfl k) ?_
          show OGS _ _ p e _ s below _ T147 (mkF m 173 #[.val (.int p1), .val (.int p2), .val (.long q3), .second, .val (.long q4), .second, .val (.long q5), .second, .val (.int (2 : Int32)), .val (.int (g0_2 p1 p2 q3 q4 q5 w)), .val (.int (g0_3 p1 p2 q3 q4 q5 w)), .val (.ref s_116), .val (.ref s_119), .val (.ref s_123), .val (.ref o128), .val (.int (0 : Int32)), .val (.ref q_147)] [])
          refine own_stS (fun t k => XS.aload X147.here hx rfl (hb hby at_173) rfl rfl k) ?_
          show OGS _ _ p e _ s below _ T147 (mkF m 175 #[.val (.int p1), .val (.int p2), .val (.long q3), .second, .val (.long q4), .second, .val (.long q5), .second, .val (.int (2 : Int32)), .val (.int (g0_2 p1 p2 q3 q4 q5 w)), .val (.int (g0_3 p1 p2 q3 q4 q5 w)), .val (.ref s_116), .val (.ref s_119), .val (.ref s_123), .val (.ref o128), .val (.int (0 : Int32)), .val (.ref q_147)] [(.ref q_147)])
          obtain ⟨cq158, kq158, q158a, q158b, q158c⟩ := isOf hZ147 rfl P147_0
          obtain ⟨_, _, ⟨T158, L158, k158, n158⟩, -, X158, ⟨Lc158, hQ158, l158, y158, z158⟩, st158⟩ := X147.virtualBack hx (y := (⟨"com/example/partwise/partwise/Part", "inFile", "()Z"⟩ : MethodName)) (z := (⟨"com/example/partwise/partwise/Part", "inFile", "()Z"⟩ : MethodName)) hown147 (mvT hZ147 (hw _ (List.mem_of_getElem? (i := 56) rfl))) (mvT hZ147 (hw _ (List.mem_of_getElem? (i := 57) rfl))) (notFace_of_selects (args := #[]) (mvT hZ147 (hw _ (List.mem_of_getElem? (i := 59) rfl)))) (mvT hZ147 (hw _ (List.mem_of_getElem? (i := 59) rfl))) (mvT hZ147 (hw _ (List.mem_of_getElem? (i := 58) rfl))) (by decide) (backOf (W := 0) (rm := ({ frames := 0, cells := 0, slots := 0, locals := 0 } : Room)) (rm9_r l Z a0 hw [] q_147 s_116 T147.heap P147_1) hZ147 (hw _ (List.mem_of_getElem? (i := 60) rfl)) (hw _ (List.mem_of_getElem? (i := 28) rfl)) (by decide) (by decide)) q158a q158c (g := (mkF m 175 #[.val (.int p1), .val (.int p2), .val (.long q3), .second, .val (.long q4), .second, .val (.long q5), .second, .val (.int (2 : Int32)), .val (.int (g0_2 p1 p2 q3 q4 q5 w)), .val (.int (g0_3 p1 p2 q3 q4 q5 w)), .val (.ref s_116), .val (.ref s_119), .val (.ref s_123), .val (.ref o128), .val (.int (0 : Int32)), .val (.ref q_147)] [(.ref q_147)])) rfl (by rw [hml]; rfl) (Steps.refl _) (argsL := []) (rest := []) (lenOf pd___Z rfl) rfl (by show 2 * 0 + _ ≤ _; exact Nat.le_of_eq rfl) (hb hby at_175) (fun _ _ => ⟨rfl, rfl, (by decide : 16 + 0 ≤ _), (by decide : 97 + 0 ≤ _)⟩)
          dsimp only [Pt.U, Pt.locs, Pt.cells, Pt.slots] at X158 l158 y158 z158 st158 hQ158
          subst l158 y158 z158
          obtain ⟨rfl, rfl, e158⟩ := hQ158
          refine own_stS (fun t k => st158.trans k) ?_
          have N158 := Fr.app N147 (Fr.nil n0)
          show OGS _ _ p e _ s below _ T158 (mkF m 178 #[.val (.int p1), .val (.int p2), .val (.long q3), .second, .val (.long q4), .second, .val (.long q5), .second, .val (.int (2 : Int32)), .val (.int (g0_2 p1 p2 q3 q4 q5 w)), .val (.int (g0_3 p1 p2 q3 q4 q5 w)), .val (.ref s_116), .val (.ref s_119), .val (.ref s_123), .val (.ref o128), .val (.int (0 : Int32)), .val (.ref q_147)] [(.int f9_r)])
          refine own_stS (fun t k => XS.iload X158.here hx rfl (hb hby at_178) rfl k) ?_
          show OGS _ _ p e _ s below _ T158 (mkF m 180 #[.val (.int p1), .val (.int p2), .val (.long q3), .second, .val (.long q4), .second, .val (.long q5), .second, .val (.int (2 : Int32)), .val (.int (g0_2 p1 p2 q3 q4 q5 w)), .val (.int (g0_3 p1 p2 q3 q4 q5 w)), .val (.ref s_116), .val (.ref s_119), .val (.ref s_123), .val (.ref o128), .val (.int (0 : Int32)), .val (.ref q_147)] [(.int (0 : Int32)), (.int f9_r)])
          refine own_stS (fun t k => XS.icmpNo X158.here hx rfl (hb hby at_180) rfl (teq c146).2 k) ?_
          show OGS _ _ p e _ s below _ T158 (mkF m 183 #[.val (.int p1), .val (.int p2), .val (.long q3), .second, .val (.long q4), .second, .val (.long q5), .second, .val (.int (2 : Int32)), .val (.int (g0_2 p1 p2 q3 q4 q5 w)), .val (.int (g0_3 p1 p2 q3 q4 q5 w)), .val (.ref s_116), .val (.ref s_119), .val (.ref s_123), .val (.ref o128), .val (.int (0 : Int32)), .val (.ref q_147)] [])
          refine own_stS (fun t k => XS.iconst X158.here hx rfl (hb hby at_183) k) ?_
          show OGS _ _ p e _ s below _ T158 (mkF m 184 #[.val (.int p1), .val (.int p2), .val (.long q3), .second, .val (.long q4), .second, .val (.long q5), .second, .val (.int (2 : Int32)), .val (.int (g0_2 p1 p2 q3 q4 q5 w)), .val (.int (g0_3 p1 p2 q3 q4 q5 w)), .val (.ref s_116), .val (.ref s_119), .val (.ref s_123), .val (.ref o128), .val (.int (0 : Int32)), .val (.ref q_147)] [(.int (1 : Int32))])
          refine own_stS (fun t k => XS.goto X158.here hx rfl (pc0 := 184) (pc' := 188) rfl (hb hby at_184) (by decide) (by decide) k) ?_
          show OGS _ _ p e _ s below _ T158 (mkF m 188 #[.val (.int p1), .val (.int p2), .val (.long q3), .second, .val (.long q4), .second, .val (.long q5), .second, .val (.int (2 : Int32)), .val (.int (g0_2 p1 p2 q3 q4 q5 w)), .val (.int (g0_3 p1 p2 q3 q4 q5 w)), .val (.ref s_116), .val (.ref s_119), .val (.ref s_123), .val (.ref o128), .val (.int (0 : Int32)), .val (.ref q_147)] [(.int (1 : Int32))])
          refine own_endS X158 hlk hZ147 hEL e158 hs0 hS147 hk147 Cq147.1 CR147 (v := some (.int (nar .boolean (1 : Int32)))) (fun h => by rw [hret] at h; cases h) (by decide) (by decide) ?_ (fun fs hr => retN X158 hx (t := .boolean) hret (by simp) (hb hby at_188) hr)
          exact ⟨congrArg (fun z => some (Value.int z)) (show f0 p1 p2 q3 q4 q5 w = (1 : Int32) from (by rw [f0, if_neg c1, if_neg c37, if_pos c115, if_pos c146])).symm, N158⟩
        · refine own_stS (fun t k => XS.icmpNo X145.here hx rfl (hb hby at_159) rfl (feq c146).1 k) ?_
          show OGS _ _ p e _ s below _ T145 (mkF m 162 #[.val (.int p1), .val (.int p2), .val (.long q3), .second, .val (.long q4), .second, .val (.long q5), .second, .val (.int (2 : Int32)), .val (.int (g0_2 p1 p2 q3 q4 q5 w)), .val (.int (g0_3 p1 p2 q3 q4 q5 w)), .val (.ref s_116), .val (.ref s_119), .val (.ref s_123), .val (.ref o128), .val (.int (0 : Int32)), .unset] [])
          refine own_stS (fun t k => XS.iconst X145.here hx rfl (hb hby at_162) k) ?_
          show OGS _ _ p e _ s below _ T145 (mkF m 163 #[.val (.int p1), .val (.int p2), .val (.long q3), .second, .val (.long q4), .second, .val (.long q5), .second, .val (.int (2 : Int32)), .val (.int (g0_2 p1 p2 q3 q4 q5 w)), .val (.int (g0_3 p1 p2 q3 q4 q5 w)), .val (.ref s_116), .val (.ref s_119), .val (.ref s_123), .val (.ref o128), .val (.int (0 : Int32)), .unset] [(.int (0 : Int32))])
          refine own_endS X145 hlk hZ140 hEL e145 hs0 hS140 hk140 Cq140.1 CR140 (v := some (.int (nar .boolean (0 : Int32)))) (fun h => by rw [hret] at h; cases h) (by decide) (by decide) ?_ (fun fs hr => retN X145 hx (t := .boolean) hret (by simp) (hb hby at_163) hr)
          exact ⟨congrArg (fun z => some (Value.int z)) (show f0 p1 p2 q3 q4 q5 w = (0 : Int32) from (by rw [f0, if_neg c1, if_neg c37, if_pos c115, if_neg c146])).symm, N145⟩
      · skip
        by_cases c159 : (g0_1 p1 p2 q3 q4 q5 w) = (3 : Int32)
        · rw [c159]
          show OGS _ _ p e _ s below _ s₁ (mkF m 5 #[.val (.int p1), .val (.int p2), .val (.long q3), .second, .val (.long q4), .second, .val (.long q5), .second, .val (.int (3 : Int32)), .unset, .unset, .unset, .unset, .unset, .unset, .unset, .unset] [])
          refine own_stS (fun t k => XS.iloadN X0.here hx rfl (hb hby at_5) rfl k) ?_
          show OGS _ _ p e _ s below _ s₁ (mkF m 6 #[.val (.int p1), .val (.int p2), .val (.long q3), .second, .val (.long q4), .second, .val (.long q5), .second, .val (.int (3 : Int32)), .unset, .unset, .unset, .unset, .unset, .unset, .unset, .unset] [(.int p2)])
          refine own_stS (fun t k => XS.sipush X0.here hx rfl (hb hby at_6) k) ?_
          show OGS _ _ p e _ s below _ s₁ (mkF m 9 #[.val (.int p1), .val (.int p2), .val (.long q3), .second, .val (.long q4), .second, .val (.long q5), .second, .val (.int (3 : Int32)), .unset, .unset, .unset, .unset, .unset, .unset, .unset, .unset] [(.int (255 : Int32)), (.int p2)])
          refine own_stS (fun t k => XS.iand X0.here hx rfl (hb hby at_9) rfl k) ?_
          show OGS _ _ p e _ s below _ s₁ (mkF m 10 #[.val (.int p1), .val (.int p2), .val (.long q3), .second, .val (.long q4), .second, .val (.long q5), .second, .val (.int (3 : Int32)), .unset, .unset, .unset, .unset, .unset, .unset, .unset, .unset] [(.int (p2 &&& (255 : Int32)))])
          refine own_stS (fun t k => XS.i2c X0.here hx rfl (hb hby at_10) rfl k) ?_
          show OGS _ _ p e _ s below _ s₁ (mkF m 11 #[.val (.int p1), .val (.int p2), .val (.long q3), .second, .val (.long q4), .second, .val (.long q5), .second, .val (.int (3 : Int32)), .unset, .unset, .unset, .unset, .unset, .unset, .unset, .unset] [(.int ((p2 &&& (255 : Int32)).toUInt32.toUInt16.toUInt32.toInt32))])
          refine own_stS (fun t k => XS.istore X0.here hx rfl (hb hby at_11) rfl (l' := #[.val (.int p1), .val (.int p2), .val (.long q3), .second, .val (.long q4), .second, .val (.long q5), .second, .val (.int (3 : Int32)), .val (.int (g0_2 p1 p2 q3 q4 q5 w)), .unset, .unset, .unset, .unset, .unset, .unset, .unset]) rfl k) ?_
          show OGS _ _ p e _ s below _ s₁ (mkF m 13 #[.val (.int p1), .val (.int p2), .val (.long q3), .second, .val (.long q4), .second, .val (.long q5), .second, .val (.int (3 : Int32)), .val (.int (g0_2 p1 p2 q3 q4 q5 w)), .unset, .unset, .unset, .unset, .unset, .unset, .unset] [])
          refine own_stS (fun t k => XS.iloadN X0.here hx rfl (hb hby at_13) rfl k) ?_
          show OGS _ _ p e _ s below _ s₁ (mkF m 14 #[.val (.int p1), .val (.int p2), .val (.long q3), .second, .val (.long q4), .second, .val (.long q5), .second, .val (.int (3 : Int32)), .val (.int (g0_2 p1 p2 q3 q4 q5 w)), .unset, .unset, .unset, .unset, .unset, .unset, .unset] [(.int p2)])
          refine own_stS (fun t k => XS.bipush X0.here hx rfl (hb hby at_14) k) ?_
          show OGS _ _ p e _ s below _ s₁ (mkF m 16 #[.val (.int p1), .val (.int p2), .val (.long q3), .second, .val (.long q4), .second, .val (.long q5), .second, .val (.int (3 : Int32)), .val (.int (g0_2 p1 p2 q3 q4 q5 w)), .unset, .unset, .unset, .unset, .unset, .unset, .unset] [(.int (8 : Int32)), (.int p2)])
          refine own_stS (fun t k => XS.iushr X0.here hx rfl (hb hby at_16) rfl k) ?_
          show OGS _ _ p e _ s below _ s₁ (mkF m 17 #[.val (.int p1), .val (.int p2), .val (.long q3), .second, .val (.long q4), .second, .val (.long q5), .second, .val (.int (3 : Int32)), .val (.int (g0_2 p1 p2 q3 q4 q5 w)), .unset, .unset, .unset, .unset, .unset, .unset, .unset] [(.int ((p2.toUInt32 >>> ((8 : Int32) &&& 31).toUInt32).toInt32))])
          refine own_stS (fun t k => XS.sipush X0.here hx rfl (hb hby at_17) k) ?_
          show OGS _ _ p e _ s below _ s₁ (mkF m 20 #[.val (.int p1), .val (.int p2), .val (.long q3), .second, .val (.long q4), .second, .val (.long q5), .second, .val (.int (3 : Int32)), .val (.int (g0_2 p1 p2 q3 q4 q5 w)), .unset, .unset, .unset, .unset, .unset, .unset, .unset] [(.int (255 : Int32)), (.int ((p2.toUInt32 >>> ((8 : Int32) &&& 31).toUInt32).toInt32))])
          refine own_stS (fun t k => XS.iand X0.here hx rfl (hb hby at_20) rfl k) ?_
          show OGS _ _ p e _ s below _ s₁ (mkF m 21 #[.val (.int p1), .val (.int p2), .val (.long q3), .second, .val (.long q4), .second, .val (.long q5), .second, .val (.int (3 : Int32)), .val (.int (g0_2 p1 p2 q3 q4 q5 w)), .unset, .unset, .unset, .unset, .unset, .unset, .unset] [(.int (((p2.toUInt32 >>> ((8 : Int32) &&& 31).toUInt32).toInt32) &&& (255 : Int32)))])
          refine own_stS (fun t k => XS.i2c X0.here hx rfl (hb hby at_21) rfl k) ?_
          show OGS _ _ p e _ s below _ s₁ (mkF m 22 #[.val (.int p1), .val (.int p2), .val (.long q3), .second, .val (.long q4), .second, .val (.long q5), .second, .val (.int (3 : Int32)), .val (.int (g0_2 p1 p2 q3 q4 q5 w)), .unset, .unset, .unset, .unset, .unset, .unset, .unset] [(.int ((((p2.toUInt32 >>> ((8 : Int32) &&& 31).toUInt32).toInt32) &&& (255 : Int32)).toUInt32.toUInt16.toUInt32.toInt32))])
          refine own_stS (fun t k => XS.istore X0.here hx rfl (hb hby at_22) rfl (l' := #[.val (.int p1), .val (.int p2), .val (.long q3), .second, .val (.long q4), .second, .val (.long q5), .second, .val (.int (3 : Int32)), .val (.int (g0_2 p1 p2 q3 q4 q5 w)), .val (.int (g0_3 p1 p2 q3 q4 q5 w)), .unset, .unset, .unset, .unset, .unset, .unset]) rfl k) ?_
          show OGS _ _ p e _ s below _ s₁ (mkF m 24 #[.val (.int p1), .val (.int p2), .val (.long q3), .second, .val (.long q4), .second, .val (.long q5), .second, .val (.int (3 : Int32)), .val (.int (g0_2 p1 p2 q3 q4 q5 w)), .val (.int (g0_3 p1 p2 q3 q4 q5 w)), .unset, .unset, .unset, .unset, .unset, .unset] [])
          refine own_stS (fun t k => XS.iload X0.here hx rfl (hb hby at_24) rfl k) ?_
          show OGS _ _ p e _ s below _ s₁ (mkF m 26 #[.val (.int p1), .val (.int p2), .val (.long q3), .second, .val (.long q4), .second, .val (.long q5), .second, .val (.int (3 : Int32)), .val (.int (g0_2 p1 p2 q3 q4 q5 w)), .val (.int (g0_3 p1 p2 q3 q4 q5 w)), .unset, .unset, .unset, .unset, .unset, .unset] [(.int (3 : Int32))])
          refine own_stS (fun t k => XS.ifYes X0.here hx rfl (pc0 := 26) (pc' := 35) rfl (hb hby at_26) rfl (by decide) (by decide) (by decide) k) ?_
          show OGS _ _ p e _ s below _ s₁ (mkF m 35 #[.val (.int p1), .val (.int p2), .val (.long q3), .second, .val (.long q4), .second, .val (.long q5), .second, .val (.int (3 : Int32)), .val (.int (g0_2 p1 p2 q3 q4 q5 w)), .val (.int (g0_3 p1 p2 q3 q4 q5 w)), .unset, .unset, .unset, .unset, .unset, .unset] [])
          refine own_stS (fun t k => XS.iload X0.here hx rfl (hb hby at_35) rfl k) ?_
          show OGS _ _ p e _ s below _ s₁ (mkF m 37 #[.val (.int p1), .val (.int p2), .val (.long q3), .second, .val (.long q4), .second, .val (.long q5), .second, .val (.int (3 : Int32)), .val (.int (g0_2 p1 p2 q3 q4 q5 w)), .val (.int (g0_3 p1 p2 q3 q4 q5 w)), .unset, .unset, .unset, .unset, .unset, .unset] [(.int (3 : Int32))])
          refine own_stS (fun t k => XS.iconst X0.here hx rfl (hb hby at_37) k) ?_
          show OGS _ _ p e _ s below _ s₁ (mkF m 38 #[.val (.int p1), .val (.int p2), .val (.long q3), .second, .val (.long q4), .second, .val (.long q5), .second, .val (.int (3 : Int32)), .val (.int (g0_2 p1 p2 q3 q4 q5 w)), .val (.int (g0_3 p1 p2 q3 q4 q5 w)), .unset, .unset, .unset, .unset, .unset, .unset] [(.int (1 : Int32)), (.int (3 : Int32))])
          refine own_stS (fun t k => XS.icmpYes X0.here hx rfl (pc0 := 38) (pc' := 56) rfl (hb hby at_38) rfl (by decide) (by decide) (by decide) k) ?_
          show OGS _ _ p e _ s below _ s₁ (mkF m 56 #[.val (.int p1), .val (.int p2), .val (.long q3), .second, .val (.long q4), .second, .val (.long q5), .second, .val (.int (3 : Int32)), .val (.int (g0_2 p1 p2 q3 q4 q5 w)), .val (.int (g0_3 p1 p2 q3 q4 q5 w)), .unset, .unset, .unset, .unset, .unset, .unset] [])
          refine own_stS (fun t k => XS.iload X0.here hx rfl (hb hby at_56) rfl k) ?_
          show OGS _ _ p e _ s below _ s₁ (mkF m 58 #[.val (.int p1), .val (.int p2), .val (.long q3), .second, .val (.long q4), .second, .val (.long q5), .second, .val (.int (3 : Int32)), .val (.int (g0_2 p1 p2 q3 q4 q5 w)), .val (.int (g0_3 p1 p2 q3 q4 q5 w)), .unset, .unset, .unset, .unset, .unset, .unset] [(.int (3 : Int32))])
          refine own_stS (fun t k => XS.iconst X0.here hx rfl (hb hby at_58) k) ?_
          show OGS _ _ p e _ s below _ s₁ (mkF m 59 #[.val (.int p1), .val (.int p2), .val (.long q3), .second, .val (.long q4), .second, .val (.long q5), .second, .val (.int (3 : Int32)), .val (.int (g0_2 p1 p2 q3 q4 q5 w)), .val (.int (g0_3 p1 p2 q3 q4 q5 w)), .unset, .unset, .unset, .unset, .unset, .unset] [(.int (2 : Int32)), (.int (3 : Int32))])
          refine own_stS (fun t k => XS.icmpYes X0.here hx rfl (pc0 := 59) (pc' := 72) rfl (hb hby at_59) rfl (by decide) (by decide) (by decide) k) ?_
          show OGS _ _ p e _ s below _ s₁ (mkF m 72 #[.val (.int p1), .val (.int p2), .val (.long q3), .second, .val (.long q4), .second, .val (.long q5), .second, .val (.int (3 : Int32)), .val (.int (g0_2 p1 p2 q3 q4 q5 w)), .val (.int (g0_3 p1 p2 q3 q4 q5 w)), .unset, .unset, .unset, .unset, .unset, .unset] [])
          obtain ⟨T160, h160, X160, e160, E160, A160, D160, -, st160⟩ := newO X0 hx hZ hown (hw _ (List.mem_of_getElem? (i := 68) rfl)) (hw _ (List.mem_of_getElem? (i := 10) rfl)) (hw _ (List.mem_of_getElem? (i := 2) rfl)) e0 (g := (mkF m 72 #[.val (.int p1), .val (.int p2), .val (.long q3), .second, .val (.long q4), .second, .val (.long q5), .second, .val (.int (3 : Int32)), .val (.int (g0_2 p1 p2 q3 q4 q5 w)), .val (.int (g0_3 p1 p2 q3 q4 q5 w)), .unset, .unset, .unset, .unset, .unset, .unset] [])) rfl (hb hby at_72) (by decide) (by decide)
          obtain ⟨o160, gb160⟩ : ∃ z, z = h0.size := ⟨_, rfl⟩
          rw [← gb160] at A160 D160 st160
          refine own_stS st160 ?_
          have ge_o160 : n0 ≤ o160 := by rw [gb160]; exact Nat.le_trans Z0 (Keep.refl h0 []).1
          have sz_o160 : h0.size ≤ o160 := by rw [gb160]; exact (Keep.refl h0 []).1
          have F161 : Sta Z h160 "java/lang/String" "COMPACT_STRINGS" "Z" (.int w) := (R0.ext E160)
          have K162 : Keep h0 h160 [] := (Keep.refl h0 []).ext E160
          have F163 : Fld Z h160 o160 "java/lang/String" "value" "[B" .null := D160 (Or.inr (hw _ (List.mem_of_getElem? (i := 23) rfl))) (ty := (.array .byte)) (by decide)
          have F164 : Fld Z h160 o160 "java/lang/String" "coder" "B" (.int (0 : Int32)) := D160 (Or.inr (hw _ (List.mem_of_getElem? (i := 25) rfl))) (ty := .byte) (by decide)
          show OGS _ _ p e _ s below _ T160 (mkF m 75 #[.val (.int p1), .val (.int p2), .val (.long q3), .second, .val (.long q4), .second, .val (.long q5), .second, .val (.int (3 : Int32)), .val (.int (g0_2 p1 p2 q3 q4 q5 w)), .val (.int (g0_3 p1 p2 q3 q4 q5 w)), .unset, .unset, .unset, .unset, .unset, .unset] [(.ref o160)])
          have CR165 : CHr Z EL0 s.vm h0 s.vm h160 := CHr.trans CR0 (CHr.ext E160 CH0)
          have CH165 : CHv Z EL0 s.vm h160 := CHv.ext E160 CH0
          have hk165 := Nat.le_trans hk0 E160.1
          have sn_o160 : Safe Z EL0 s.vm h160 o160 := Safe.ext E160 CH0 (Safe.new (Nat.le_of_eq gb160.symm))
          refine own_stS (fun t k => XS.dup X160.here hx rfl (hb hby at_75) rfl rfl k) ?_
          show OGS _ _ p e _ s below _ T160 (mkF m 76 #[.val (.int p1), .val (.int p2), .val (.long q3), .second, .val (.long q4), .second, .val (.long q5), .second, .val (.int (3 : Int32)), .val (.int (g0_2 p1 p2 q3 q4 q5 w)), .val (.int (g0_3 p1 p2 q3 q4 q5 w)), .unset, .unset, .unset, .unset, .unset, .unset] [(.ref o160), (.ref o160)])
          refine own_stS (fun t k => XS.iconst X160.here hx rfl (hb hby at_76) k) ?_
          show OGS _ _ p e _ s below _ T160 (mkF m 77 #[.val (.int p1), .val (.int p2), .val (.long q3), .second, .val (.long q4), .second, .val (.long q5), .second, .val (.int (3 : Int32)), .val (.int (g0_2 p1 p2 q3 q4 q5 w)), .val (.int (g0_3 p1 p2 q3 q4 q5 w)), .unset, .unset, .unset, .unset, .unset, .unset] [(.int (2 : Int32)), (.ref o160), (.ref o160)])
          obtain ⟨T166, h166, k166, X166, e166, E166, A166, st166⟩ := newP X160 hx hZ (hw _ (List.mem_of_getElem? (i := 69) rfl)) e160 (g := (mkF m 77 #[.val (.int p1), .val (.int p2), .val (.long q3), .second, .val (.long q4), .second, .val (.long q5), .second, .val (.int (3 : Int32)), .val (.int (g0_2 p1 p2 q3 q4 q5 w)), .val (.int (g0_3 p1 p2 q3 q4 q5 w)), .unset, .unset, .unset, .unset, .unset, .unset] [(.int (2 : Int32)), (.ref o160), (.ref o160)])) rfl (hb hby at_77) rfl (by decide) (cap := 2) (by decide) (by decide) (by decide) (by decide)
          obtain ⟨b166, gb166⟩ : ∃ z, z = h160.size := ⟨_, rfl⟩
          rw [← gb166] at A166 st166
          refine own_stS st166 ?_
          have ge_b166 : n0 ≤ b166 := by rw [gb166]; exact Nat.le_trans Z0 K162.1
          have sz_b166 : h0.size ≤ b166 := by rw [gb166]; exact K162.1
          have ne_o160_b166 : o160 ≠ b166 := Nat.ne_of_lt (Nat.lt_of_lt_of_eq A160.lt gb166.symm)
          have F167 : Sta Z h166 "java/lang/String" "COMPACT_STRINGS" "Z" (.int w) := (F161.ext E166)
          have F168 : Exa Z h166 o160 "java/lang/String" := (A160.ext E166)
          have F169 : Fld Z h166 o160 "java/lang/String" "value" "[B" .null := (F163.ext E166)
          have F170 : Fld Z h166 o160 "java/lang/String" "coder" "B" (.int (0 : Int32)) := (F164.ext E166)
          have K171 : Keep h0 h166 [] := K162.ext E166
          have F172 : OA Z h166 b166 .char [(.int (0 : Int32)), (.int (0 : Int32))] := OA.new A166
          show OGS _ _ p e _ s below _ T166 (mkF m 79 #[.val (.int p1), .val (.int p2), .val (.long q3), .second, .val (.long q4), .second, .val (.long q5), .second, .val (.int (3 : Int32)), .val (.int (g0_2 p1 p2 q3 q4 q5 w)), .val (.int (g0_3 p1 p2 q3 q4 q5 w)), .unset, .unset, .unset, .unset, .unset, .unset] [(.ref b166), (.ref o160), (.ref o160)])
          have sf173_o160 : Safe Z EL0 s.vm h166 o160 := Safe.ext E166 CH165 sn_o160
          have CR173 : CHr Z EL0 s.vm h0 s.vm h166 := CHr.trans CR165 (CHr.ext E166 CH165)
          have CH173 : CHv Z EL0 s.vm h166 := CHv.ext E166 CH165
          have hk173 := Nat.le_trans hk165 E166.1
          refine own_stS (fun t k => XS.dup X166.here hx rfl (hb hby at_79) rfl rfl k) ?_
          show OGS _ _ p e _ s below _ T166 (mkF m 80 #[.val (.int p1), .val (.int p2), .val (.long q3), .second, .val (.long q4), .second, .val (.long q5), .second, .val (.int (3 : Int32)), .val (.int (g0_2 p1 p2 q3 q4 q5 w)), .val (.int (g0_3 p1 p2 q3 q4 q5 w)), .unset, .unset, .unset, .unset, .unset, .unset] [(.ref b166), (.ref b166), (.ref o160), (.ref o160)])
          refine own_stS (fun t k => XS.iconst X166.here hx rfl (hb hby at_80) k) ?_
          show OGS _ _ p e _ s below _ T166 (mkF m 81 #[.val (.int p1), .val (.int p2), .val (.long q3), .second, .val (.long q4), .second, .val (.long q5), .second, .val (.int (3 : Int32)), .val (.int (g0_2 p1 p2 q3 q4 q5 w)), .val (.int (g0_3 p1 p2 q3 q4 q5 w)), .unset, .unset, .unset, .unset, .unset, .unset] [(.int (0 : Int32)), (.ref b166), (.ref b166), (.ref o160), (.ref o160)])
          refine own_stS (fun t k => XS.iload X166.here hx rfl (hb hby at_81) rfl k) ?_
          show OGS _ _ p e _ s below _ T166 (mkF m 83 #[.val (.int p1), .val (.int p2), .val (.long q3), .second, .val (.long q4), .second, .val (.long q5), .second, .val (.int (3 : Int32)), .val (.int (g0_2 p1 p2 q3 q4 q5 w)), .val (.int (g0_3 p1 p2 q3 q4 q5 w)), .unset, .unset, .unset, .unset, .unset, .unset] [(.int (g0_2 p1 p2 q3 q4 q5 w)), (.int (0 : Int32)), (.ref b166), (.ref b166), (.ref o160), (.ref o160)])
          obtain ⟨cl174, Ar174, hi174⟩ := own_wr F172 (j := (0 : Int32)) (i := 0) (by decide) (by decide) (by decide : 0 < 2)
          obtain ⟨T174, h174, X174, e174, W174, st174⟩ := stC X166 hx hZ e166 Ar174 hi174 (g := (mkF m 83 #[.val (.int p1), .val (.int p2), .val (.long q3), .second, .val (.long q4), .second, .val (.long q5), .second, .val (.int (3 : Int32)), .val (.int (g0_2 p1 p2 q3 q4 q5 w)), .val (.int (g0_3 p1 p2 q3 q4 q5 w)), .unset, .unset, .unset, .unset, .unset, .unset] [(.int (g0_2 p1 p2 q3 q4 q5 w)), (.int (0 : Int32)), (.ref b166), (.ref b166), (.ref o160), (.ref o160)])) rfl rfl (hb hby at_83)
          refine own_stS st174 ?_
          have N174 := Fr.snoc X174 N0 ge_b166
          have K175 : Keep h0 h174 [] := K171.wr W174 (Or.inr sz_b166)
          have F176 : Sta Z h174 "java/lang/String" "COMPACT_STRINGS" "Z" (.int w) := (F167.wr W174)
          have F177 : Exa Z h174 o160 "java/lang/String" := (F168.wr W174)
          have F178 : Fld Z h174 o160 "java/lang/String" "value" "[B" .null := (F169.other W174 (Or.inl ne_o160_b166))
          have F179 : Fld Z h174 o160 "java/lang/String" "coder" "B" (.int (0 : Int32)) := (F170.other W174 (Or.inl ne_o160_b166))
          have F180 : OA Z h174 b166 .char [(.int (nar .char (g0_2 p1 p2 q3 q4 q5 w))), (.int (0 : Int32))] := (F172.set W174 (i := 0) (by decide))
          show OGS _ _ p e _ s below _ T174 (mkF m 84 #[.val (.int p1), .val (.int p2), .val (.long q3), .second, .val (.long q4), .second, .val (.long q5), .second, .val (.int (3 : Int32)), .val (.int (g0_2 p1 p2 q3 q4 q5 w)), .val (.int (g0_3 p1 p2 q3 q4 q5 w)), .unset, .unset, .unset, .unset, .unset, .unset] [(.ref b166), (.ref o160), (.ref o160)])
          have sf181_o160 : Safe Z EL0 s.vm h174 o160 := Safe.wr W174 (own_safeA hZ.alike F172 (by decide)) CH173 sf173_o160
          have CR181 : CHr Z EL0 s.vm h0 s.vm h174 := CHr.trans CR173 (CHr.wr W174 (own_safeA hZ.alike F172 (by decide)) CH173)
          have CH181 : CHv Z EL0 s.vm h174 := CHv.wr W174 (own_safeA hZ.alike F172 (by decide)) CH173
          have hk181 := Nat.le_trans hk173 (Keep.of_wr W174).1
          refine own_stS (fun t k => XS.dup X174.here hx rfl (hb hby at_84) rfl rfl k) ?_
          show OGS _ _ p e _ s below _ T174 (mkF m 85 #[.val (.int p1), .val (.int p2), .val (.long q3), .second, .val (.long q4), .second, .val (.long q5), .second, .val (.int (3 : Int32)), .val (.int (g0_2 p1 p2 q3 q4 q5 w)), .val (.int (g0_3 p1 p2 q3 q4 q5 w)), .unset, .unset, .unset, .unset, .unset, .unset] [(.ref b166), (.ref b166), (.ref o160), (.ref o160)])
          refine own_stS (fun t k => XS.iconst X174.here hx rfl (hb hby at_85) k) ?_
          show OGS _ _ p e _ s below _ T174 (mkF m 86 #[.val (.int p1), .val (.int p2), .val (.long q3), .second, .val (.long q4), .second, .val (.long q5), .second, .val (.int (3 : Int32)), .val (.int (g0_2 p1 p2 q3 q4 q5 w)), .val (.int (g0_3 p1 p2 q3 q4 q5 w)), .unset, .unset, .unset, .unset, .unset, .unset] [(.int (1 : Int32)), (.ref b166), (.ref b166), (.ref o160), (.ref o160)])
          refine own_stS (fun t k => XS.iload X174.here hx rfl (hb hby at_86) rfl k) ?_
          show OGS _ _ p e _ s below _ T174 (mkF m 88 #[.val (.int p1), .val (.int p2), .val (.long q3), .second, .val (.long q4), .second, .val (.long q5), .second, .val (.int (3 : Int32)), .val (.int (g0_2 p1 p2 q3 q4 q5 w)), .val (.int (g0_3 p1 p2 q3 q4 q5 w)), .unset, .unset, .unset, .unset, .unset, .unset] [(.int (g0_3 p1 p2 q3 q4 q5 w)), (.int (1 : Int32)), (.ref b166), (.ref b166), (.ref o160), (.ref o160)])
          obtain ⟨cl182, Ar182, hi182⟩ := own_wr F180 (j := (1 : Int32)) (i := 1) (by decide) (by decide) (by decide : 1 < 2)
          obtain ⟨T182, h182, X182, e182, W182, st182⟩ := stC X174 hx hZ e174 Ar182 hi182 (g := (mkF m 88 #[.val (.int p1), .val (.int p2), .val (.long q3), .second, .val (.long q4), .second, .val (.long q5), .second, .val (.int (3 : Int32)), .val (.int (g0_2 p1 p2 q3 q4 q5 w)), .val (.int (g0_3 p1 p2 q3 q4 q5 w)), .unset, .unset, .unset, .unset, .unset, .unset] [(.int (g0_3 p1 p2 q3 q4 q5 w)), (.int (1 : Int32)), (.ref b166), (.ref b166), (.ref o160), (.ref o160)])) rfl rfl (hb hby at_88)
          refine own_stS st182 ?_
          have N182 := Fr.snoc X182 N174 ge_b166
          have K183 : Keep h0 h182 [] := K175.wr W182 (Or.inr sz_b166)
          have F184 : Sta Z h182 "java/lang/String" "COMPACT_STRINGS" "Z" (.int w) := (F176.wr W182)
          have F185 : Exa Z h182 o160 "java/lang/String" := (F177.wr W182)
          have F186 : Fld Z h182 o160 "java/lang/String" "value" "[B" .null := (F178.other W182 (Or.inl ne_o160_b166))
          have F187 : Fld Z h182 o160 "java/lang/String" "coder" "B" (.int (0 : Int32)) := (F179.other W182 (Or.inl ne_o160_b166))
          have F188 : OA Z h182 b166 .char [(.int (nar .char (g0_2 p1 p2 q3 q4 q5 w))), (.int (nar .char (g0_3 p1 p2 q3 q4 q5 w)))] := (F180.set W182 (i := 1) (by decide))
          show OGS _ _ p e _ s below _ T182 (mkF m 89 #[.val (.int p1), .val (.int p2), .val (.long q3), .second, .val (.long q4), .second, .val (.long q5), .second, .val (.int (3 : Int32)), .val (.int (g0_2 p1 p2 q3 q4 q5 w)), .val (.int (g0_3 p1 p2 q3 q4 q5 w)), .unset, .unset, .unset, .unset, .unset, .unset] [(.ref b166), (.ref o160), (.ref o160)])
          have sf189_o160 : Safe Z EL0 s.vm h182 o160 := Safe.wr W182 (own_safeA hZ.alike F180 (by decide)) CH181 sf181_o160
          have CR189 : CHr Z EL0 s.vm h0 s.vm h182 := CHr.trans CR181 (CHr.wr W182 (own_safeA hZ.alike F180 (by decide)) CH181)
          have CH189 : CHv Z EL0 s.vm h182 := CHv.wr W182 (own_safeA hZ.alike F180 (by decide)) CH181
          have hk189 := Nat.le_trans hk181 (Keep.of_wr W182).1
          obtain ⟨_, _, ⟨T190, L190, k190, n190⟩, -, X190, ⟨Lc190, hQ190, l190, y190, z190⟩, st190⟩ := X182.specialBack hx (y := (⟨"java/lang/String", "<init>", "([C)V"⟩ : MethodName)) rfl hown (mvT hZ (hw _ (List.mem_of_getElem? (i := 70) rfl))) (mvT hZ (hw _ (List.mem_of_getElem? (i := 71) rfl))) (mvT hZ (hw _ (List.mem_of_getElem? (i := 72) rfl))) (by decide) (backOf (W := 1) (rm := ({ frames := 3, cells := 1, slots := 2, locals := 52 } : Room)) (rm11_2 l Z a0 hw [] o160 b166 (nar .char (g0_2 p1 p2 q3 q4 q5 w)) (nar .char (g0_3 p1 p2 q3 q4 q5 w)) w h182 n0 (Nat.le_trans Z0 K183.1) F185 F186 F187 F188 F184 ge_o160 (Ne.symm ne_o160_b166) (own_chB (p2)) (own_chB (((p2.toUInt32 >>> ((8 : Int32) &&& 31).toUInt32).toInt32))) hw0) hZ (hw _ (List.mem_of_getElem? (i := 72) rfl)) (hw _ (List.mem_of_getElem? (i := 2) rfl)) (by decide) (by decide)) (g := (mkF m 89 #[.val (.int p1), .val (.int p2), .val (.long q3), .second, .val (.long q4), .second, .val (.long q5), .second, .val (.int (3 : Int32)), .val (.int (g0_2 p1 p2 q3 q4 q5 w)), .val (.int (g0_3 p1 p2 q3 q4 q5 w)), .unset, .unset, .unset, .unset, .unset, .unset] [(.ref b166), (.ref o160), (.ref o160)])) rfl (by rw [hml]; rfl) (Steps.refl _) (a := o160) (argsL := [(.ref b166)]) (rest := [(.ref o160)]) (lenOf pd___C_V rfl) rfl (by show 2 * 0 + _ ≤ _; exact Nat.le_of_eq rfl) (hb hby at_89) (fun _ _ => ⟨rfl, e182, (by decide : 2 + 1 ≤ _), (by decide : 6 + 2 ≤ _)⟩)
          dsimp only [Pt.U, Pt.locs, Pt.cells, Pt.slots] at X190 l190 y190 z190 st190 hQ190
          subst l190 y190 z190
          obtain ⟨rfl, N190q, K190q, b_190, sz_b_190, P190_0, P190_1, P190_2, P190_3⟩ := hQ190
          refine own_stS (fun t k => st190.trans k) ?_
          have N190 := Fr.app N182 N190q
          have ge_b_190 : n0 ≤ b_190 := Nat.le_trans (Nat.le_trans Z0 K183.1) sz_b_190
          have sy_b_190 : h0.size ≤ b_190 := Nat.le_trans K183.1 sz_b_190
          have ne_b166_b_190 : b166 ≠ b_190 := Nat.ne_of_lt (Nat.lt_of_lt_of_le F188.lt sz_b_190)
          have ne_o160_b_190 : o160 ≠ b_190 := Nat.ne_of_lt (Nat.lt_of_lt_of_le F185.lt sz_b_190)
          have K190 : Keep h0 T190.heap [] := K183.trans K190q (own_all1 (Or.inr sz_o160))
          have F191 : Sta Z T190.heap "java/lang/String" "COMPACT_STRINGS" "Z" (.int w) := (own_staK F184 K190q (own_all1 (own_plE F185)))
          have F192 : OA Z T190.heap b166 .char [(.int (nar .char (g0_2 p1 p2 q3 q4 q5 w))), (.int (nar .char (g0_3 p1 p2 q3 q4 q5 w)))] := (F188.keep K190q (own_nin1 (Ne.symm ne_o160_b166)))
          show OGS _ _ p e _ s below _ T190 (mkF m 92 #[.val (.int p1), .val (.int p2), .val (.long q3), .second, .val (.long q4), .second, .val (.long q5), .second, .val (.int (3 : Int32)), .val (.int (g0_2 p1 p2 q3 q4 q5 w)), .val (.int (g0_3 p1 p2 q3 q4 q5 w)), .unset, .unset, .unset, .unset, .unset, .unset] [(.ref o160)])
          have sf193_o160 : Safe Z EL0 s.vm T190.heap o160 := Safe.keep K190q (own_all1 sf189_o160) CH189 sf189_o160
          have CR193 : CHr Z EL0 s.vm h0 s.vm T190.heap := CHr.trans CR189 (CHr.keep K190q (own_all1 sf189_o160) CH189)
          have CH193 : CHv Z EL0 s.vm T190.heap := CHv.keep K190q (own_all1 sf189_o160) CH189
          have hk193 := Nat.le_trans hk189 K190q.1
          refine own_stS (fun t k => XS.astore X190.here hx rfl (hb hby at_92) rfl rfl (l' := #[.val (.int p1), .val (.int p2), .val (.long q3), .second, .val (.long q4), .second, .val (.long q5), .second, .val (.int (3 : Int32)), .val (.int (g0_2 p1 p2 q3 q4 q5 w)), .val (.int (g0_3 p1 p2 q3 q4 q5 w)), .val (.ref o160), .unset, .unset, .unset, .unset, .unset]) rfl k) ?_
          show OGS _ _ p e _ s below _ T190 (mkF m 94 #[.val (.int p1), .val (.int p2), .val (.long q3), .second, .val (.long q4), .second, .val (.long q5), .second, .val (.int (3 : Int32)), .val (.int (g0_2 p1 p2 q3 q4 q5 w)), .val (.int (g0_3 p1 p2 q3 q4 q5 w)), .val (.ref o160), .unset, .unset, .unset, .unset, .unset] [])
          refine own_stS (fun t k => XS.iloadN X190.here hx rfl (hb hby at_94) rfl k) ?_
          show OGS _ _ p e _ s below _ T190 (mkF m 95 #[.val (.int p1), .val (.int p2), .val (.long q3), .second, .val (.long q4), .second, .val (.long q5), .second, .val (.int (3 : Int32)), .val (.int (g0_2 p1 p2 q3 q4 q5 w)), .val (.int (g0_3 p1 p2 q3 q4 q5 w)), .val (.ref o160), .unset, .unset, .unset, .unset, .unset] [(.int p2)])
          refine own_stS (fun t k => XS.bipush X190.here hx rfl (hb hby at_95) k) ?_
          show OGS _ _ p e _ s below _ T190 (mkF m 97 #[.val (.int p1), .val (.int p2), .val (.long q3), .second, .val (.long q4), .second, .val (.long q5), .second, .val (.int (3 : Int32)), .val (.int (g0_2 p1 p2 q3 q4 q5 w)), .val (.int (g0_3 p1 p2 q3 q4 q5 w)), .val (.ref o160), .unset, .unset, .unset, .unset, .unset] [(.int (16 : Int32)), (.int p2)])
          refine own_stS (fun t k => XS.iushr X190.here hx rfl (hb hby at_97) rfl k) ?_
          show OGS _ _ p e _ s below _ T190 (mkF m 98 #[.val (.int p1), .val (.int p2), .val (.long q3), .second, .val (.long q4), .second, .val (.long q5), .second, .val (.int (3 : Int32)), .val (.int (g0_2 p1 p2 q3 q4 q5 w)), .val (.int (g0_3 p1 p2 q3 q4 q5 w)), .val (.ref o160), .unset, .unset, .unset, .unset, .unset] [(.int ((p2.toUInt32 >>> ((16 : Int32) &&& 31).toUInt32).toInt32))])
          refine own_stS (fun t k => XS.sipush X190.here hx rfl (hb hby at_98) k) ?_
          show OGS _ _ p e _ s below _ T190 (mkF m 101 #[.val (.int p1), .val (.int p2), .val (.long q3), .second, .val (.long q4), .second, .val (.long q5), .second, .val (.int (3 : Int32)), .val (.int (g0_2 p1 p2 q3 q4 q5 w)), .val (.int (g0_3 p1 p2 q3 q4 q5 w)), .val (.ref o160), .unset, .unset, .unset, .unset, .unset] [(.int (255 : Int32)), (.int ((p2.toUInt32 >>> ((16 : Int32) &&& 31).toUInt32).toInt32))])
          refine own_stS (fun t k => XS.iand X190.here hx rfl (hb hby at_101) rfl k) ?_
          show OGS _ _ p e _ s below _ T190 (mkF m 102 #[.val (.int p1), .val (.int p2), .val (.long q3), .second, .val (.long q4), .second, .val (.long q5), .second, .val (.int (3 : Int32)), .val (.int (g0_2 p1 p2 q3 q4 q5 w)), .val (.int (g0_3 p1 p2 q3 q4 q5 w)), .val (.ref o160), .unset, .unset, .unset, .unset, .unset] [(.int (((p2.toUInt32 >>> ((16 : Int32) &&& 31).toUInt32).toInt32) &&& (255 : Int32)))])
          refine own_stS (fun t k => XS.i2c X190.here hx rfl (hb hby at_102) rfl k) ?_
          show OGS _ _ p e _ s below _ T190 (mkF m 103 #[.val (.int p1), .val (.int p2), .val (.long q3), .second, .val (.long q4), .second, .val (.long q5), .second, .val (.int (3 : Int32)), .val (.int (g0_2 p1 p2 q3 q4 q5 w)), .val (.int (g0_3 p1 p2 q3 q4 q5 w)), .val (.ref o160), .unset, .unset, .unset, .unset, .unset] [(.int ((((p2.toUInt32 >>> ((16 : Int32) &&& 31).toUInt32).toInt32) &&& (255 : Int32)).toUInt32.toUInt16.toUInt32.toInt32))])
          obtain ⟨_, _, ⟨T194, L194, k194, n194⟩, -, X194, ⟨Lc194, hQ194, l194, y194, z194⟩, st194⟩ := Jvm.LawKit.callS X190 hx (y := (⟨"java/lang/String", "valueOf", "(C)Ljava/lang/String;"⟩ : MethodName)) hown (mvT hZ (hw _ (List.mem_of_getElem? (i := 0) rfl))) (mvT hZ (hw _ (List.mem_of_getElem? (i := 1) rfl))) (mvT hZ (hw _ (List.mem_of_getElem? (i := 2) rfl))) (mvT hZ (hw _ (List.mem_of_getElem? (i := 3) rfl))) (by decide) (backOf (W := 0) (rm := ({ frames := 2, cells := 2, slots := 5, locals := 27 } : Room)) (rm1 l Z a0 hw [] ((((p2.toUInt32 >>> ((16 : Int32) &&& 31).toUInt32).toInt32) &&& (255 : Int32)).toUInt32.toUInt16.toUInt32.toInt32) w T190.heap n0 (Nat.le_trans Z0 K190.1) F191 hw0 (own_chA (((p2.toUInt32 >>> ((16 : Int32) &&& 31).toUInt32).toInt32)))) hZ (hw _ (List.mem_of_getElem? (i := 3) rfl)) (hw _ (List.mem_of_getElem? (i := 2) rfl)) (by decide) (by decide)) (g := (mkF m 103 #[.val (.int p1), .val (.int p2), .val (.long q3), .second, .val (.long q4), .second, .val (.long q5), .second, .val (.int (3 : Int32)), .val (.int (g0_2 p1 p2 q3 q4 q5 w)), .val (.int (g0_3 p1 p2 q3 q4 q5 w)), .val (.ref o160), .unset, .unset, .unset, .unset, .unset] [(.int ((((p2.toUInt32 >>> ((16 : Int32) &&& 31).toUInt32).toInt32) &&& (255 : Int32)).toUInt32.toUInt16.toUInt32.toInt32))])) rfl (by rw [hml]; rfl) (argsL := [(.int ((((p2.toUInt32 >>> ((16 : Int32) &&& 31).toUInt32).toInt32) &&& (255 : Int32)).toUInt32.toUInt16.toUInt32.toInt32))]) (rest := []) (lenOf pd__C_Ljava_lang_String_ rfl) rfl (by show 2 * 0 + _ ≤ _; exact Nat.le_of_eq rfl) (hb hby at_103) (fun _ _ => ⟨rfl, rfl, (by decide : 3 + 2 ≤ _), (by decide : 8 + 5 ≤ _)⟩)
          dsimp only [Pt.U, Pt.locs, Pt.cells, Pt.slots] at X194 l194 y194 z194 st194 hQ194
          subst l194 y194 z194
          obtain ⟨N194q, K194q, s_194, sz_s_194, rfl, P194_0⟩ := hQ194
          refine own_stS st194 ?_
          have N194 := Fr.app N190 N194q
          have ge_s_194 : n0 ≤ s_194 := Nat.le_trans (Nat.le_trans Z0 K190.1) sz_s_194
          have sy_s_194 : h0.size ≤ s_194 := Nat.le_trans K190.1 sz_s_194
          have ne_b166_s_194 : b166 ≠ s_194 := Nat.ne_of_lt (Nat.lt_of_lt_of_le F192.lt sz_s_194)
          have ne_b_190_s_194 : b_190 ≠ s_194 := Nat.ne_of_lt (Nat.lt_of_lt_of_le P190_3.lt sz_s_194)
          have ne_o160_s_194 : o160 ≠ s_194 := Nat.ne_of_lt (Nat.lt_of_lt_of_le P190_0.lt sz_s_194)
          have K194 : Keep h0 T194.heap [] := K190.trans K194q (own_all0 )
          have F195 : Sta Z T194.heap "java/lang/String" "COMPACT_STRINGS" "Z" (.int w) := (own_staK F191 K194q (own_all0 ))
          have F196 : OA Z T194.heap b166 .char [(.int (nar .char (g0_2 p1 p2 q3 q4 q5 w))), (.int (nar .char (g0_3 p1 p2 q3 q4 q5 w)))] := (F192.keep K194q (own_nin0 ))
          have F197 : Exa Z T194.heap o160 "java/lang/String" := (P190_0.keep K194q)
          have F198 : Fld Z T194.heap o160 "java/lang/String" "value" "[B" (.ref b_190) := (P190_1.keep K194q (own_nin0 ))
          have F199 : Fld Z T194.heap o160 "java/lang/String" "coder" "B" (.int (0 : Int32)) := (P190_2.keep K194q (own_nin0 ))
          have F200 : OA Z T194.heap b_190 .byte [(.int (nar .byte ((nar .char (g0_2 p1 p2 q3 q4 q5 w)).toInt8.toInt32))), (.int (nar .byte ((nar .char (g0_3 p1 p2 q3 q4 q5 w)).toInt8.toInt32)))] := (P190_3.keep K194q (own_nin0 ))
          show OGS _ _ p e _ s below _ T194 (mkF m 106 #[.val (.int p1), .val (.int p2), .val (.long q3), .second, .val (.long q4), .second, .val (.long q5), .second, .val (.int (3 : Int32)), .val (.int (g0_2 p1 p2 q3 q4 q5 w)), .val (.int (g0_3 p1 p2 q3 q4 q5 w)), .val (.ref o160), .unset, .unset, .unset, .unset, .unset] [(.ref s_194)])
          have sf201_o160 : Safe Z EL0 s.vm T194.heap o160 := Safe.keep K194q (own_all0 ) CH193 sf193_o160
          have CR201 : CHr Z EL0 s.vm h0 s.vm T194.heap := CHr.trans CR193 (CHr.keep K194q (own_all0 ) CH193)
          have CH201 : CHv Z EL0 s.vm T194.heap := CHv.keep K194q (own_all0 ) CH193
          have hk201 := Nat.le_trans hk193 K194q.1
          refine own_stS (fun t k => XS.astore X194.here hx rfl (hb hby at_106) rfl rfl (l' := #[.val (.int p1), .val (.int p2), .val (.long q3), .second, .val (.long q4), .second, .val (.long q5), .second, .val (.int (3 : Int32)), .val (.int (g0_2 p1 p2 q3 q4 q5 w)), .val (.int (g0_3 p1 p2 q3 q4 q5 w)), .val (.ref o160), .val (.ref s_194), .unset, .unset, .unset, .unset]) rfl k) ?_
          show OGS _ _ p e _ s below _ T194 (mkF m 108 #[.val (.int p1), .val (.int p2), .val (.long q3), .second, .val (.long q4), .second, .val (.long q5), .second, .val (.int (3 : Int32)), .val (.int (g0_2 p1 p2 q3 q4 q5 w)), .val (.int (g0_3 p1 p2 q3 q4 q5 w)), .val (.ref o160), .val (.ref s_194), .unset, .unset, .unset, .unset] [])
          refine own_stS (fun t k => XS.iloadN X194.here hx rfl (hb hby at_108) rfl k) ?_
          show OGS _ _ p e _ s below _ T194 (mkF m 109 #[.val (.int p1), .val (.int p2), .val (.long q3), .second, .val (.long q4), .second, .val (.long q5), .second, .val (.int (3 : Int32)), .val (.int (g0_2 p1 p2 q3 q4 q5 w)), .val (.int (g0_3 p1 p2 q3 q4 q5 w)), .val (.ref o160), .val (.ref s_194), .unset, .unset, .unset, .unset] [(.int p2)])
          refine own_stS (fun t k => XS.bipush X194.here hx rfl (hb hby at_109) k) ?_
          show OGS _ _ p e _ s below _ T194 (mkF m 111 #[.val (.int p1), .val (.int p2), .val (.long q3), .second, .val (.long q4), .second, .val (.long q5), .second, .val (.int (3 : Int32)), .val (.int (g0_2 p1 p2 q3 q4 q5 w)), .val (.int (g0_3 p1 p2 q3 q4 q5 w)), .val (.ref o160), .val (.ref s_194), .unset, .unset, .unset, .unset] [(.int (24 : Int32)), (.int p2)])
          refine own_stS (fun t k => XS.iushr X194.here hx rfl (hb hby at_111) rfl k) ?_
          show OGS _ _ p e _ s below _ T194 (mkF m 112 #[.val (.int p1), .val (.int p2), .val (.long q3), .second, .val (.long q4), .second, .val (.long q5), .second, .val (.int (3 : Int32)), .val (.int (g0_2 p1 p2 q3 q4 q5 w)), .val (.int (g0_3 p1 p2 q3 q4 q5 w)), .val (.ref o160), .val (.ref s_194), .unset, .unset, .unset, .unset] [(.int ((p2.toUInt32 >>> ((24 : Int32) &&& 31).toUInt32).toInt32))])
          refine own_stS (fun t k => XS.sipush X194.here hx rfl (hb hby at_112) k) ?_
          show OGS _ _ p e _ s below _ T194 (mkF m 115 #[.val (.int p1), .val (.int p2), .val (.long q3), .second, .val (.long q4), .second, .val (.long q5), .second, .val (.int (3 : Int32)), .val (.int (g0_2 p1 p2 q3 q4 q5 w)), .val (.int (g0_3 p1 p2 q3 q4 q5 w)), .val (.ref o160), .val (.ref s_194), .unset, .unset, .unset, .unset] [(.int (255 : Int32)), (.int ((p2.toUInt32 >>> ((24 : Int32) &&& 31).toUInt32).toInt32))])
          refine own_stS (fun t k => XS.iand X194.here hx rfl (hb hby at_115) rfl k) ?_
          show OGS _ _ p e _ s below _ T194 (mkF m 116 #[.val (.int p1), .val (.int p2), .val (.long q3), .second, .val (.long q4), .second, .val (.long q5), .second, .val (.int (3 : Int32)), .val (.int (g0_2 p1 p2 q3 q4 q5 w)), .val (.int (g0_3 p1 p2 q3 q4 q5 w)), .val (.ref o160), .val (.ref s_194), .unset, .unset, .unset, .unset] [(.int (((p2.toUInt32 >>> ((24 : Int32) &&& 31).toUInt32).toInt32) &&& (255 : Int32)))])
          refine own_stS (fun t k => XS.i2c X194.here hx rfl (hb hby at_116) rfl k) ?_
          show OGS _ _ p e _ s below _ T194 (mkF m 117 #[.val (.int p1), .val (.int p2), .val (.long q3), .second, .val (.long q4), .second, .val (.long q5), .second, .val (.int (3 : Int32)), .val (.int (g0_2 p1 p2 q3 q4 q5 w)), .val (.int (g0_3 p1 p2 q3 q4 q5 w)), .val (.ref o160), .val (.ref s_194), .unset, .unset, .unset, .unset] [(.int ((((p2.toUInt32 >>> ((24 : Int32) &&& 31).toUInt32).toInt32) &&& (255 : Int32)).toUInt32.toUInt16.toUInt32.toInt32))])
          obtain ⟨_, _, ⟨T202, L202, k202, n202⟩, -, X202, ⟨Lc202, hQ202, l202, y202, z202⟩, st202⟩ := Jvm.LawKit.callS X194 hx (y := (⟨"java/lang/String", "valueOf", "(C)Ljava/lang/String;"⟩ : MethodName)) hown (mvT hZ (hw _ (List.mem_of_getElem? (i := 0) rfl))) (mvT hZ (hw _ (List.mem_of_getElem? (i := 1) rfl))) (mvT hZ (hw _ (List.mem_of_getElem? (i := 2) rfl))) (mvT hZ (hw _ (List.mem_of_getElem? (i := 3) rfl))) (by decide) (backOf (W := 0) (rm := ({ frames := 2, cells := 2, slots := 5, locals := 27 } : Room)) (rm1 l Z a0 hw [] ((((p2.toUInt32 >>> ((24 : Int32) &&& 31).toUInt32).toInt32) &&& (255 : Int32)).toUInt32.toUInt16.toUInt32.toInt32) w T194.heap n0 (Nat.le_trans Z0 K194.1) F195 hw0 (own_chA (((p2.toUInt32 >>> ((24 : Int32) &&& 31).toUInt32).toInt32)))) hZ (hw _ (List.mem_of_getElem? (i := 3) rfl)) (hw _ (List.mem_of_getElem? (i := 2) rfl)) (by decide) (by decide)) (g := (mkF m 117 #[.val (.int p1), .val (.int p2), .val (.long q3), .second, .val (.long q4), .second, .val (.long q5), .second, .val (.int (3 : Int32)), .val (.int (g0_2 p1 p2 q3 q4 q5 w)), .val (.int (g0_3 p1 p2 q3 q4 q5 w)), .val (.ref o160), .val (.ref s_194), .unset, .unset, .unset, .unset] [(.int ((((p2.toUInt32 >>> ((24 : Int32) &&& 31).toUInt32).toInt32) &&& (255 : Int32)).toUInt32.toUInt16.toUInt32.toInt32))])) rfl (by rw [hml]; rfl) (argsL := [(.int ((((p2.toUInt32 >>> ((24 : Int32) &&& 31).toUInt32).toInt32) &&& (255 : Int32)).toUInt32.toUInt16.toUInt32.toInt32))]) (rest := []) (lenOf pd__C_Ljava_lang_String_ rfl) rfl (by show 2 * 0 + _ ≤ _; exact Nat.le_of_eq rfl) (hb hby at_117) (fun _ _ => ⟨rfl, rfl, (by decide : 5 + 2 ≤ _), (by decide : 13 + 5 ≤ _)⟩)
          dsimp only [Pt.U, Pt.locs, Pt.cells, Pt.slots] at X202 l202 y202 z202 st202 hQ202
          subst l202 y202 z202
          obtain ⟨N202q, K202q, s_202, sz_s_202, rfl, P202_0⟩ := hQ202
          refine own_stS st202 ?_
          have N202 := Fr.app N194 N202q
          have ge_s_202 : n0 ≤ s_202 := Nat.le_trans (Nat.le_trans Z0 K194.1) sz_s_202
          have sy_s_202 : h0.size ≤ s_202 := Nat.le_trans K194.1 sz_s_202
          have ne_b166_s_202 : b166 ≠ s_202 := Nat.ne_of_lt (Nat.lt_of_lt_of_le F196.lt sz_s_202)
          have ne_b_190_s_202 : b_190 ≠ s_202 := Nat.ne_of_lt (Nat.lt_of_lt_of_le F200.lt sz_s_202)
          have ne_o160_s_202 : o160 ≠ s_202 := Nat.ne_of_lt (Nat.lt_of_lt_of_le F197.lt sz_s_202)
          have ne_s_194_s_202 : s_194 ≠ s_202 := Nat.ne_of_lt (Nat.lt_of_lt_of_le P194_0.lt sz_s_202)
          have K202 : Keep h0 T202.heap [] := K194.trans K202q (own_all0 )
          have F203 : Sta Z T202.heap "java/lang/String" "COMPACT_STRINGS" "Z" (.int w) := (own_staK F195 K202q (own_all0 ))
          have F204 : OA Z T202.heap b166 .char [(.int (nar .char (g0_2 p1 p2 q3 q4 q5 w))), (.int (nar .char (g0_3 p1 p2 q3 q4 q5 w)))] := (F196.keep K202q (own_nin0 ))
          have F205 : Exa Z T202.heap o160 "java/lang/String" := (F197.keep K202q)
          have F206 : Fld Z T202.heap o160 "java/lang/String" "value" "[B" (.ref b_190) := (F198.keep K202q (own_nin0 ))
          have F207 : Fld Z T202.heap o160 "java/lang/String" "coder" "B" (.int (0 : Int32)) := (F199.keep K202q (own_nin0 ))
          have F208 : OA Z T202.heap b_190 .byte [(.int (nar .byte ((nar .char (g0_2 p1 p2 q3 q4 q5 w)).toInt8.toInt32))), (.int (nar .byte ((nar .char (g0_3 p1 p2 q3 q4 q5 w)).toInt8.toInt32)))] := (F200.keep K202q (own_nin0 ))
          have F209 : Exa Z T202.heap s_194 "java/lang/String" := (P194_0.keep K202q)
          show OGS _ _ p e _ s below _ T202 (mkF m 120 #[.val (.int p1), .val (.int p2), .val (.long q3), .second, .val (.long q4), .second, .val (.long q5), .second, .val (.int (3 : Int32)), .val (.int (g0_2 p1 p2 q3 q4 q5 w)), .val (.int (g0_3 p1 p2 q3 q4 q5 w)), .val (.ref o160), .val (.ref s_194), .unset, .unset, .unset, .unset] [(.ref s_202)])
          have sf210_o160 : Safe Z EL0 s.vm T202.heap o160 := Safe.keep K202q (own_all0 ) CH201 sf201_o160
          have CR210 : CHr Z EL0 s.vm h0 s.vm T202.heap := CHr.trans CR201 (CHr.keep K202q (own_all0 ) CH201)
          have CH210 : CHv Z EL0 s.vm T202.heap := CHv.keep K202q (own_all0 ) CH201
          have hk210 := Nat.le_trans hk201 K202q.1
          refine own_stS (fun t k => XS.astore X202.here hx rfl (hb hby at_120) rfl rfl (l' := #[.val (.int p1), .val (.int p2), .val (.long q3), .second, .val (.long q4), .second, .val (.long q5), .second, .val (.int (3 : Int32)), .val (.int (g0_2 p1 p2 q3 q4 q5 w)), .val (.int (g0_3 p1 p2 q3 q4 q5 w)), .val (.ref o160), .val (.ref s_194), .val (.ref s_202), .unset, .unset, .unset]) rfl k) ?_
          show OGS _ _ p e _ s below _ T202 (mkF m 122 #[.val (.int p1), .val (.int p2), .val (.long q3), .second, .val (.long q4), .second, .val (.long q5), .second, .val (.int (3 : Int32)), .val (.int (g0_2 p1 p2 q3 q4 q5 w)), .val (.int (g0_3 p1 p2 q3 q4 q5 w)), .val (.ref o160), .val (.ref s_194), .val (.ref s_202), .unset, .unset, .unset] [])
          obtain ⟨T211, h211, X211, e211, E211, A211, D211, -, st211⟩ := newO X202 hx hZ hown (hw _ (List.mem_of_getElem? (i := 26) rfl)) (hw _ (List.mem_of_getElem? (i := 27) rfl)) (hw _ (List.mem_of_getElem? (i := 28) rfl)) rfl (g := (mkF m 122 #[.val (.int p1), .val (.int p2), .val (.long q3), .second, .val (.long q4), .second, .val (.long q5), .second, .val (.int (3 : Int32)), .val (.int (g0_2 p1 p2 q3 q4 q5 w)), .val (.int (g0_3 p1 p2 q3 q4 q5 w)), .val (.ref o160), .val (.ref s_194), .val (.ref s_202), .unset, .unset, .unset] [])) rfl (hb hby at_122) (by decide) (by decide)
          obtain ⟨o211, gb211⟩ : ∃ z, z = T202.heap.size := ⟨_, rfl⟩
          rw [← gb211] at A211 D211 st211
          refine own_stS st211 ?_
          have ge_o211 : n0 ≤ o211 := by rw [gb211]; exact Nat.le_trans Z0 K202.1
          have sz_o211 : h0.size ≤ o211 := by rw [gb211]; exact K202.1
          have ne_b166_o211 : b166 ≠ o211 := Nat.ne_of_lt (Nat.lt_of_lt_of_eq F204.lt gb211.symm)
          have ne_b_190_o211 : b_190 ≠ o211 := Nat.ne_of_lt (Nat.lt_of_lt_of_eq F208.lt gb211.symm)
          have ne_o160_o211 : o160 ≠ o211 := Nat.ne_of_lt (Nat.lt_of_lt_of_eq F205.lt gb211.symm)
          have ne_s_194_o211 : s_194 ≠ o211 := Nat.ne_of_lt (Nat.lt_of_lt_of_eq F209.lt gb211.symm)
          have ne_s_202_o211 : s_202 ≠ o211 := Nat.ne_of_lt (Nat.lt_of_lt_of_eq P202_0.lt gb211.symm)
          have F212 : Sta Z h211 "java/lang/String" "COMPACT_STRINGS" "Z" (.int w) := (F203.ext E211)
          have F213 : OA Z h211 b166 .char [(.int (nar .char (g0_2 p1 p2 q3 q4 q5 w))), (.int (nar .char (g0_3 p1 p2 q3 q4 q5 w)))] := (F204.ext E211)
          have F214 : Exa Z h211 o160 "java/lang/String" := (F205.ext E211)
          have F215 : Fld Z h211 o160 "java/lang/String" "value" "[B" (.ref b_190) := (F206.ext E211)
          have F216 : Fld Z h211 o160 "java/lang/String" "coder" "B" (.int (0 : Int32)) := (F207.ext E211)
          have F217 : OA Z h211 b_190 .byte [(.int (nar .byte ((nar .char (g0_2 p1 p2 q3 q4 q5 w)).toInt8.toInt32))), (.int (nar .byte ((nar .char (g0_3 p1 p2 q3 q4 q5 w)).toInt8.toInt32)))] := (F208.ext E211)
          have F218 : Exa Z h211 s_194 "java/lang/String" := (F209.ext E211)
          have F219 : Exa Z h211 s_202 "java/lang/String" := (P202_0.ext E211)
          have K220 : Keep h0 h211 [] := K202.ext E211
          have F221 : Fld Z h211 o211 "com/example/partwise/partwise/Part" "table" "Ljava/lang/String;" .null := D211 (Or.inr (hw _ (List.mem_of_getElem? (i := 47) rfl))) (ty := (.object "java/lang/String")) (by decide)
          have F222 : Fld Z h211 o211 "com/example/partwise/partwise/Part" "id" "Ljava/lang/String;" .null := D211 (Or.inr (hw _ (List.mem_of_getElem? (i := 49) rfl))) (ty := (.object "java/lang/String")) (by decide)
          have F223 : Fld Z h211 o211 "com/example/partwise/partwise/Part" "rows" "J" (.long (0 : Int64)) := D211 (Or.inr (hw _ (List.mem_of_getElem? (i := 51) rfl))) (ty := .long) (by decide)
          have F224 : Fld Z h211 o211 "com/example/partwise/partwise/Part" "inline" "Ljava/lang/String;" .null := D211 (Or.inr (hw _ (List.mem_of_getElem? (i := 53) rfl))) (ty := (.object "java/lang/String")) (by decide)
          have F225 : Fld Z h211 o211 "com/example/partwise/partwise/Part" "addedBy" "J" (.long (0 : Int64)) := D211 (Or.inr (hw _ (List.mem_of_getElem? (i := 55) rfl))) (ty := .long) (by decide)
          show OGS _ _ p e _ s below _ T211 (mkF m 125 #[.val (.int p1), .val (.int p2), .val (.long q3), .second, .val (.long q4), .second, .val (.long q5), .second, .val (.int (3 : Int32)), .val (.int (g0_2 p1 p2 q3 q4 q5 w)), .val (.int (g0_3 p1 p2 q3 q4 q5 w)), .val (.ref o160), .val (.ref s_194), .val (.ref s_202), .unset, .unset, .unset] [(.ref o211)])
          have sf226_o160 : Safe Z EL0 s.vm h211 o160 := Safe.ext E211 CH210 sf210_o160
          have CR226 : CHr Z EL0 s.vm h0 s.vm h211 := CHr.trans CR210 (CHr.ext E211 CH210)
          have CH226 : CHv Z EL0 s.vm h211 := CHv.ext E211 CH210
          have hk226 := Nat.le_trans hk210 E211.1
          refine own_stS (fun t k => XS.dup X211.here hx rfl (hb hby at_125) rfl rfl k) ?_
          show OGS _ _ p e _ s below _ T211 (mkF m 126 #[.val (.int p1), .val (.int p2), .val (.long q3), .second, .val (.long q4), .second, .val (.long q5), .second, .val (.int (3 : Int32)), .val (.int (g0_2 p1 p2 q3 q4 q5 w)), .val (.int (g0_3 p1 p2 q3 q4 q5 w)), .val (.ref o160), .val (.ref s_194), .val (.ref s_202), .unset, .unset, .unset] [(.ref o211), (.ref o211)])
          refine own_stS (fun t k => XS.aload X211.here hx rfl (hb hby at_126) rfl rfl k) ?_
          show OGS _ _ p e _ s below _ T211 (mkF m 128 #[.val (.int p1), .val (.int p2), .val (.long q3), .second, .val (.long q4), .second, .val (.long q5), .second, .val (.int (3 : Int32)), .val (.int (g0_2 p1 p2 q3 q4 q5 w)), .val (.int (g0_3 p1 p2 q3 q4 q5 w)), .val (.ref o160), .val (.ref s_194), .val (.ref s_202), .unset, .unset, .unset] [(.ref s_194), (.ref o211), (.ref o211)])
          refine own_stS (fun t k => XS.aload X211.here hx rfl (hb hby at_128) rfl rfl k) ?_
          show OGS _ _ p e _ s below _ T211 (mkF m 130 #[.val (.int p1), .val (.int p2), .val (.long q3), .second, .val (.long q4), .second, .val (.long q5), .second, .val (.int (3 : Int32)), .val (.int (g0_2 p1 p2 q3 q4 q5 w)), .val (.int (g0_3 p1 p2 q3 q4 q5 w)), .val (.ref o160), .val (.ref s_194), .val (.ref s_202), .unset, .unset, .unset] [(.ref s_202), (.ref s_194), (.ref o211), (.ref o211)])
          refine own_stS (fun t k => XS.lloadN X211.here hx rfl (hb hby at_130) rfl k) ?_
          show OGS _ _ p e _ s below _ T211 (mkF m 131 #[.val (.int p1), .val (.int p2), .val (.long q3), .second, .val (.long q4), .second, .val (.long q5), .second, .val (.int (3 : Int32)), .val (.int (g0_2 p1 p2 q3 q4 q5 w)), .val (.int (g0_3 p1 p2 q3 q4 q5 w)), .val (.ref o160), .val (.ref s_194), .val (.ref s_202), .unset, .unset, .unset] [(.long q3), (.ref s_202), (.ref s_194), (.ref o211), (.ref o211)])
          refine own_stS (fun t k => XS.aload X211.here hx rfl (hb hby at_131) rfl rfl k) ?_
          show OGS _ _ p e _ s below _ T211 (mkF m 133 #[.val (.int p1), .val (.int p2), .val (.long q3), .second, .val (.long q4), .second, .val (.long q5), .second, .val (.int (3 : Int32)), .val (.int (g0_2 p1 p2 q3 q4 q5 w)), .val (.int (g0_3 p1 p2 q3 q4 q5 w)), .val (.ref o160), .val (.ref s_194), .val (.ref s_202), .unset, .unset, .unset] [(.ref o160), (.long q3), (.ref s_202), (.ref s_194), (.ref o211), (.ref o211)])
          refine own_stS (fun t k => XS.lload X211.here hx rfl (hb hby at_133) rfl k) ?_
          show OGS _ _ p e _ s below _ T211 (mkF m 135 #[.val (.int p1), .val (.int p2), .val (.long q3), .second, .val (.long q4), .second, .val (.long q5), .second, .val (.int (3 : Int32)), .val (.int (g0_2 p1 p2 q3 q4 q5 w)), .val (.int (g0_3 p1 p2 q3 q4 q5 w)), .val (.ref o160), .val (.ref s_194), .val (.ref s_202), .unset, .unset, .unset] [(.long q4), (.ref o160), (.long q3), (.ref s_202), (.ref s_194), (.ref o211), (.ref o211)])
          obtain ⟨_, _, ⟨T227, L227, k227, n227⟩, -, X227q, hS227q, hg227q, ⟨Lc227, hQ227, l227, y227, z227, Cq227⟩, st227⟩ := X211.specialBackS hx (y := (⟨"com/example/partwise/partwise/Part", "<init>", "(Ljava/lang/String;Ljava/lang/String;JLjava/lang/String;J)V"⟩ : MethodName)) rfl hown (mvT hZ (hw _ (List.mem_of_getElem? (i := 29) rfl))) (mvT hZ (hw _ (List.mem_of_getElem? (i := 30) rfl))) (mvT hZ (hw _ (List.mem_of_getElem? (i := 31) rfl))) (by decide) (backOfSH (EL := EL0) (W := 1) (rm := ({ frames := 2, cells := 4, slots := 36, locals := 24 } : Room)) (rm6_r l Z a0 hw [] o211 s_194 s_202 q3 o160 q4 h211 n0 A211 F221 F222 F223 F224 F225 ge_o211) hZ (hw _ (List.mem_of_getElem? (i := 31) rfl)) (hw _ (List.mem_of_getElem? (i := 28) rfl)) (by decide) (by decide) hEL CH226) (g := (mkF m 135 #[.val (.int p1), .val (.int p2), .val (.long q3), .second, .val (.long q4), .second, .val (.long q5), .second, .val (.int (3 : Int32)), .val (.int (g0_2 p1 p2 q3 q4 q5 w)), .val (.int (g0_3 p1 p2 q3 q4 q5 w)), .val (.ref o160), .val (.ref s_194), .val (.ref s_202), .unset, .unset, .unset] [(.long q4), (.ref o160), (.long q3), (.ref s_202), (.ref s_194), (.ref o211), (.ref o211)])) rfl (by rw [hml]; rfl) (Steps.refl _) (a := o211) (argsL := [(.ref s_194), (.ref s_202), (.long q3), (.ref o160), (.long q4)]) (rest := [(.ref o211)]) (lenOf pd__Ljava_lang_String_Ljava_lang_String_JLjava_lang_String_J_V rfl) rfl (by show 2 * 0 + _ ≤ _; exact Nat.le_of_eq rfl) (hb hby at_135) (fun _ _ => ⟨rfl, e211, (by decide : 8 + 4 ≤ _), (by decide : 23 + 36 ≤ _)⟩)
          dsimp only [Pt.U, Pt.locs, Pt.cells, Pt.slots] at X227q hS227q hg227q l227 y227 z227 st227 hQ227 Cq227
          subst l227 y227 z227
          obtain ⟨X227, hS227, hZ227, hown227⟩ := rebS hS0 (by rw [e211]; exact hk226) X227q hS227q hg227q hZ hown
          have sf227_o160 : Safe Z EL0 T227.vm T227.heap o160 := CHr.safe Cq227 F214.lt sf226_o160
          have CR227 := CHr.trans CR226 Cq227
          have hk227 : T227.heap.size ≤ T227.heap.size := Nat.le_refl _
          obtain ⟨rfl, N227q, K227q, P227_0, P227_1, P227_2, P227_3, P227_4, P227_5⟩ := hQ227
          refine own_stS (fun t k => st227.trans k) ?_
          have N227 := Fr.app N202 N227q
          have K227 : Keep h0 T227.heap [] := K220.trans K227q (own_all1 (Or.inr sz_o211))
          have F228 : Sta Z T227.heap "java/lang/String" "COMPACT_STRINGS" "Z" (.int w) := (own_staK F212 K227q (own_all1 (own_plE A211)))
          have F229 : OA Z T227.heap b166 .char [(.int (nar .char (g0_2 p1 p2 q3 q4 q5 w))), (.int (nar .char (g0_3 p1 p2 q3 q4 q5 w)))] := (F213.keep K227q (own_nin1 ne_b166_o211))
          have F230 : Exa Z T227.heap o160 "java/lang/String" := (F214.keep K227q)
          have F231 : Fld Z T227.heap o160 "java/lang/String" "value" "[B" (.ref b_190) := (F215.keep K227q (own_nin1 ne_o160_o211))
          have F232 : Fld Z T227.heap o160 "java/lang/String" "coder" "B" (.int (0 : Int32)) := (F216.keep K227q (own_nin1 ne_o160_o211))
          have F233 : OA Z T227.heap b_190 .byte [(.int (nar .byte ((nar .char (g0_2 p1 p2 q3 q4 q5 w)).toInt8.toInt32))), (.int (nar .byte ((nar .char (g0_3 p1 p2 q3 q4 q5 w)).toInt8.toInt32)))] := (F217.keep K227q (own_nin1 ne_b_190_o211))
          have F234 : Exa Z T227.heap s_194 "java/lang/String" := (F218.keep K227q)
          have F235 : Exa Z T227.heap s_202 "java/lang/String" := (F219.keep K227q)
          show OGS _ _ p e _ s below _ T227 (mkF m 138 #[.val (.int p1), .val (.int p2), .val (.long q3), .second, .val (.long q4), .second, .val (.long q5), .second, .val (.int (3 : Int32)), .val (.int (g0_2 p1 p2 q3 q4 q5 w)), .val (.int (g0_3 p1 p2 q3 q4 q5 w)), .val (.ref o160), .val (.ref s_194), .val (.ref s_202), .unset, .unset, .unset] [(.ref o211)])
          refine own_stS (fun t k => XS.astore X227.here hx rfl (hb hby at_138) rfl rfl (l' := #[.val (.int p1), .val (.int p2), .val (.long q3), .second, .val (.long q4), .second, .val (.long q5), .second, .val (.int (3 : Int32)), .val (.int (g0_2 p1 p2 q3 q4 q5 w)), .val (.int (g0_3 p1 p2 q3 q4 q5 w)), .val (.ref o160), .val (.ref s_194), .val (.ref s_202), .val (.ref o211), .unset, .unset]) rfl k) ?_
          show OGS _ _ p e _ s below _ T227 (mkF m 140 #[.val (.int p1), .val (.int p2), .val (.long q3), .second, .val (.long q4), .second, .val (.long q5), .second, .val (.int (3 : Int32)), .val (.int (g0_2 p1 p2 q3 q4 q5 w)), .val (.int (g0_3 p1 p2 q3 q4 q5 w)), .val (.ref o160), .val (.ref s_194), .val (.ref s_202), .val (.ref o211), .unset, .unset] [])
          refine own_stS (fun t k => XS.iload X227.here hx rfl (hb hby at_140) rfl k) ?_
          show OGS _ _ p e _ s below _ T227 (mkF m 142 #[.val (.int p1), .val (.int p2), .val (.long q3), .second, .val (.long q4), .second, .val (.long q5), .second, .val (.int (3 : Int32)), .val (.int (g0_2 p1 p2 q3 q4 q5 w)), .val (.int (g0_3 p1 p2 q3 q4 q5 w)), .val (.ref o160), .val (.ref s_194), .val (.ref s_202), .val (.ref o211), .unset, .unset] [(.int (3 : Int32))])
          refine own_stS (fun t k => XS.ifYes X227.here hx rfl (pc0 := 142) (pc' := 149) rfl (hb hby at_142) rfl (by decide) (by decide) (by decide) k) ?_
          show OGS _ _ p e _ s below _ T227 (mkF m 149 #[.val (.int p1), .val (.int p2), .val (.long q3), .second, .val (.long q4), .second, .val (.long q5), .second, .val (.int (3 : Int32)), .val (.int (g0_2 p1 p2 q3 q4 q5 w)), .val (.int (g0_3 p1 p2 q3 q4 q5 w)), .val (.ref o160), .val (.ref s_194), .val (.ref s_202), .val (.ref o211), .unset, .unset] [])
          refine own_stS (fun t k => XS.iconst X227.here hx rfl (hb hby at_149) k) ?_
          show OGS _ _ p e _ s below _ T227 (mkF m 150 #[.val (.int p1), .val (.int p2), .val (.long q3), .second, .val (.long q4), .second, .val (.long q5), .second, .val (.int (3 : Int32)), .val (.int (g0_2 p1 p2 q3 q4 q5 w)), .val (.int (g0_3 p1 p2 q3 q4 q5 w)), .val (.ref o160), .val (.ref s_194), .val (.ref s_202), .val (.ref o211), .unset, .unset] [(.int (0 : Int32))])
          refine own_stS (fun t k => XS.istore X227.here hx rfl (hb hby at_150) rfl (l' := #[.val (.int p1), .val (.int p2), .val (.long q3), .second, .val (.long q4), .second, .val (.long q5), .second, .val (.int (3 : Int32)), .val (.int (g0_2 p1 p2 q3 q4 q5 w)), .val (.int (g0_3 p1 p2 q3 q4 q5 w)), .val (.ref o160), .val (.ref s_194), .val (.ref s_202), .val (.ref o211), .val (.int (0 : Int32)), .unset]) rfl k) ?_
          show OGS _ _ p e _ s below _ T227 (mkF m 152 #[.val (.int p1), .val (.int p2), .val (.long q3), .second, .val (.long q4), .second, .val (.long q5), .second, .val (.int (3 : Int32)), .val (.int (g0_2 p1 p2 q3 q4 q5 w)), .val (.int (g0_3 p1 p2 q3 q4 q5 w)), .val (.ref o160), .val (.ref s_194), .val (.ref s_202), .val (.ref o211), .val (.int (0 : Int32)), .unset] [])
          refine own_stS (fun t k => XS.aload X227.here hx rfl (hb hby at_152) rfl rfl k) ?_
          show OGS _ _ p e _ s below _ T227 (mkF m 154 #[.val (.int p1), .val (.int p2), .val (.long q3), .second, .val (.long q4), .second, .val (.long q5), .second, .val (.int (3 : Int32)), .val (.int (g0_2 p1 p2 q3 q4 q5 w)), .val (.int (g0_3 p1 p2 q3 q4 q5 w)), .val (.ref o160), .val (.ref s_194), .val (.ref s_202), .val (.ref o211), .val (.int (0 : Int32)), .unset] [(.ref o211)])
          obtain ⟨cq236, kq236, q236a, q236b, q236c⟩ := isOf hZ227 rfl P227_0
          obtain ⟨_, _, ⟨T236, L236, k236, n236⟩, -, X236, ⟨Lc236, hQ236, l236, y236, z236⟩, st236⟩ := X227.virtualBack hx (y := (⟨"com/example/partwise/partwise/Part", "inFile", "()Z"⟩ : MethodName)) (z := (⟨"com/example/partwise/partwise/Part", "inFile", "()Z"⟩ : MethodName)) hown227 (mvT hZ227 (hw _ (List.mem_of_getElem? (i := 56) rfl))) (mvT hZ227 (hw _ (List.mem_of_getElem? (i := 57) rfl))) (notFace_of_selects (args := #[]) (mvT hZ227 (hw _ (List.mem_of_getElem? (i := 59) rfl)))) (mvT hZ227 (hw _ (List.mem_of_getElem? (i := 59) rfl))) (mvT hZ227 (hw _ (List.mem_of_getElem? (i := 58) rfl))) (by decide) (backOf (W := 0) (rm := ({ frames := 0, cells := 0, slots := 0, locals := 0 } : Room)) (rm9_r l Z a0 hw [] o211 o160 T227.heap P227_4) hZ227 (hw _ (List.mem_of_getElem? (i := 60) rfl)) (hw _ (List.mem_of_getElem? (i := 28) rfl)) (by decide) (by decide)) q236a q236c (g := (mkF m 154 #[.val (.int p1), .val (.int p2), .val (.long q3), .second, .val (.long q4), .second, .val (.long q5), .second, .val (.int (3 : Int32)), .val (.int (g0_2 p1 p2 q3 q4 q5 w)), .val (.int (g0_3 p1 p2 q3 q4 q5 w)), .val (.ref o160), .val (.ref s_194), .val (.ref s_202), .val (.ref o211), .val (.int (0 : Int32)), .unset] [(.ref o211)])) rfl (by rw [hml]; rfl) (Steps.refl _) (argsL := []) (rest := []) (lenOf pd___Z rfl) rfl (by show 2 * 0 + _ ≤ _; exact Nat.le_of_eq rfl) (hb hby at_154) (fun _ _ => ⟨rfl, rfl, (by decide : 12 + 0 ≤ _), (by decide : 59 + 0 ≤ _)⟩)
          dsimp only [Pt.U, Pt.locs, Pt.cells, Pt.slots] at X236 l236 y236 z236 st236 hQ236
          subst l236 y236 z236
          obtain ⟨rfl, rfl, e236⟩ := hQ236
          refine own_stS (fun t k => st236.trans k) ?_
          have N236 := Fr.app N227 (Fr.nil n0)
          show OGS _ _ p e _ s below _ T236 (mkF m 157 #[.val (.int p1), .val (.int p2), .val (.long q3), .second, .val (.long q4), .second, .val (.long q5), .second, .val (.int (3 : Int32)), .val (.int (g0_2 p1 p2 q3 q4 q5 w)), .val (.int (g0_3 p1 p2 q3 q4 q5 w)), .val (.ref o160), .val (.ref s_194), .val (.ref s_202), .val (.ref o211), .val (.int (0 : Int32)), .unset] [(.int f9_r)])
          refine own_stS (fun t k => XS.iload X236.here hx rfl (hb hby at_157) rfl k) ?_
          show OGS _ _ p e _ s below _ T236 (mkF m 159 #[.val (.int p1), .val (.int p2), .val (.long q3), .second, .val (.long q4), .second, .val (.long q5), .second, .val (.int (3 : Int32)), .val (.int (g0_2 p1 p2 q3 q4 q5 w)), .val (.int (g0_3 p1 p2 q3 q4 q5 w)), .val (.ref o160), .val (.ref s_194), .val (.ref s_202), .val (.ref o211), .val (.int (0 : Int32)), .unset] [(.int (0 : Int32)), (.int f9_r)])
          by_cases c237 : f9_r = (0 : Int32)
          · refine own_stS (fun t k => XS.icmpYes X236.here hx rfl (pc0 := 159) (pc' := 164) rfl (hb hby at_159) rfl (teq c237).1 (by decide) (by decide) k) ?_
            show OGS _ _ p e _ s below _ T236 (mkF m 164 #[.val (.int p1), .val (.int p2), .val (.long q3), .second, .val (.long q4), .second, .val (.long q5), .second, .val (.int (3 : Int32)), .val (.int (g0_2 p1 p2 q3 q4 q5 w)), .val (.int (g0_3 p1 p2 q3 q4 q5 w)), .val (.ref o160), .val (.ref s_194), .val (.ref s_202), .val (.ref o211), .val (.int (0 : Int32)), .unset] [])
            refine own_stS (fun t k => XS.aload X236.here hx rfl (hb hby at_164) rfl rfl k) ?_
            show OGS _ _ p e _ s below _ T236 (mkF m 166 #[.val (.int p1), .val (.int p2), .val (.long q3), .second, .val (.long q4), .second, .val (.long q5), .second, .val (.int (3 : Int32)), .val (.int (g0_2 p1 p2 q3 q4 q5 w)), .val (.int (g0_3 p1 p2 q3 q4 q5 w)), .val (.ref o160), .val (.ref s_194), .val (.ref s_202), .val (.ref o211), .val (.int (0 : Int32)), .unset] [(.ref o211)])
            refine own_stS (fun t k => XS.lload X236.here hx rfl (hb hby at_166) rfl k) ?_
            show OGS _ _ p e _ s below _ T236 (mkF m 168 #[.val (.int p1), .val (.int p2), .val (.long q3), .second, .val (.long q4), .second, .val (.long q5), .second, .val (.int (3 : Int32)), .val (.int (g0_2 p1 p2 q3 q4 q5 w)), .val (.int (g0_3 p1 p2 q3 q4 q5 w)), .val (.ref o160), .val (.ref s_194), .val (.ref s_202), .val (.ref o211), .val (.int (0 : Int32)), .unset] [(.long q5), (.ref o211)])
            obtain ⟨cq238, kq238, q238a, q238b, q238c⟩ := isOf hZ227 e236 P227_0
            obtain ⟨_, _, ⟨T238, L238, k238, n238⟩, -, X238q, hS238q, hg238q, ⟨Lc238, hQ238, l238, y238, z238, Cq238⟩, st238⟩ := X236.virtualBackS hx (y := (⟨"com/example/partwise/partwise/Part", "asAddedBy", "(J)Lcom/example/partwise/partwise/Part;"⟩ : MethodName)) (z := (⟨"com/example/partwise/partwise/Part", "asAddedBy", "(J)Lcom/example/partwise/partwise/Part;"⟩ : MethodName)) hown227 (mvT hZ227 (hw _ (List.mem_of_getElem? (i := 61) rfl))) (mvT hZ227 (hw _ (List.mem_of_getElem? (i := 62) rfl))) (notFace_of_selects (args := #[]) (mvT hZ227 (hw _ (List.mem_of_getElem? (i := 64) rfl)))) (mvT hZ227 (hw _ (List.mem_of_getElem? (i := 64) rfl))) (mvT hZ227 (hw _ (List.mem_of_getElem? (i := 63) rfl))) (by decide) (backOfSH (EL := EL0) (W := 0) (rm := ({ frames := 3, cells := 5, slots := 41, locals := 44 } : Room)) (rm10_r l Z a0 hw [] o211 q5 s_194 s_202 q3 o160 q4 T227.heap n0 (Nat.le_trans Z0 K227.1) P227_0 P227_1 P227_2 P227_3 P227_4 P227_5) hZ227 (hw _ (List.mem_of_getElem? (i := 65) rfl)) (hw _ (List.mem_of_getElem? (i := 28) rfl)) (by decide) (by decide) hEL Cq227.1) q238a q238c (g := (mkF m 168 #[.val (.int p1), .val (.int p2), .val (.long q3), .second, .val (.long q4), .second, .val (.long q5), .second, .val (.int (3 : Int32)), .val (.int (g0_2 p1 p2 q3 q4 q5 w)), .val (.int (g0_3 p1 p2 q3 q4 q5 w)), .val (.ref o160), .val (.ref s_194), .val (.ref s_202), .val (.ref o211), .val (.int (0 : Int32)), .unset] [(.long q5), (.ref o211)])) rfl (by rw [hml]; rfl) (Steps.refl _) (argsL := [(.long q5)]) (rest := []) (lenOf pd__J_Lcom_example_partwise_partwise_Part_ rfl) rfl (by show 2 * 0 + _ ≤ _; exact Nat.le_of_eq rfl) (hb hby at_168) (fun _ _ => ⟨rfl, e236, (by decide : 12 + 5 ≤ _), (by decide : 59 + 41 ≤ _)⟩)
            dsimp only [Pt.U, Pt.locs, Pt.cells, Pt.slots] at X238q hS238q hg238q l238 y238 z238 st238 hQ238 Cq238
            subst l238 y238 z238
            obtain ⟨X238, hS238, hZ238, hown238⟩ := rebS hS227 (by rw [e236]; exact hk227) X238q hS238q hg238q hZ227 hown227
            have sf238_o160 : Safe Z EL0 T238.vm T238.heap o160 := CHr.safe Cq238 F230.lt sf227_o160
            have CR238 := CHr.trans CR227 Cq238
            have hk238 : T238.heap.size ≤ T238.heap.size := Nat.le_refl _
            obtain ⟨N238q, K238q, q_238, sz_q_238, rfl, P238_0, P238_1⟩ := hQ238
            refine own_stS (fun t k => st238.trans k) ?_
            have N238 := Fr.app N236 N238q
            have ge_q_238 : n0 ≤ q_238 := Nat.le_trans (Nat.le_trans Z0 K227.1) sz_q_238
            have sy_q_238 : h0.size ≤ q_238 := Nat.le_trans K227.1 sz_q_238
            have ne_b166_q_238 : b166 ≠ q_238 := Nat.ne_of_lt (Nat.lt_of_lt_of_le F229.lt sz_q_238)
            have ne_b_190_q_238 : b_190 ≠ q_238 := Nat.ne_of_lt (Nat.lt_of_lt_of_le F233.lt sz_q_238)
            have ne_o160_q_238 : o160 ≠ q_238 := Nat.ne_of_lt (Nat.lt_of_lt_of_le F230.lt sz_q_238)
            have ne_o211_q_238 : o211 ≠ q_238 := Nat.ne_of_lt (Nat.lt_of_lt_of_le P227_0.lt sz_q_238)
            have ne_s_194_q_238 : s_194 ≠ q_238 := Nat.ne_of_lt (Nat.lt_of_lt_of_le F234.lt sz_q_238)
            have ne_s_202_q_238 : s_202 ≠ q_238 := Nat.ne_of_lt (Nat.lt_of_lt_of_le F235.lt sz_q_238)
            have K238 : Keep h0 T238.heap [] := K227.trans K238q (own_all0 )
            have F239 : Sta Z T238.heap "java/lang/String" "COMPACT_STRINGS" "Z" (.int w) := (own_staK F228 K238q (own_all0 ))
            have F240 : OA Z T238.heap b166 .char [(.int (nar .char (g0_2 p1 p2 q3 q4 q5 w))), (.int (nar .char (g0_3 p1 p2 q3 q4 q5 w)))] := (F229.keep K238q (own_nin0 ))
            have F241 : Exa Z T238.heap o160 "java/lang/String" := (F230.keep K238q)
            have F242 : Fld Z T238.heap o160 "java/lang/String" "value" "[B" (.ref b_190) := (F231.keep K238q (own_nin0 ))
            have F243 : Fld Z T238.heap o160 "java/lang/String" "coder" "B" (.int (0 : Int32)) := (F232.keep K238q (own_nin0 ))
            have F244 : OA Z T238.heap b_190 .byte [(.int (nar .byte ((nar .char (g0_2 p1 p2 q3 q4 q5 w)).toInt8.toInt32))), (.int (nar .byte ((nar .char (g0_3 p1 p2 q3 q4 q5 w)).toInt8.toInt32)))] := (F233.keep K238q (own_nin0 ))
            have F245 : Exa Z T238.heap s_194 "java/lang/String" := (F234.keep K238q)
            have F246 : Exa Z T238.heap s_202 "java/lang/String" := (F235.keep K238q)
            have F247 : Exa Z T238.heap o211 "com/example/partwise/partwise/Part" := (P227_0.keep K238q)
            have F248 : Fld Z T238.heap o211 "com/example/partwise/partwise/Part" "table" "Ljava/lang/String;" (.ref s_194) := (P227_1.keep K238q (own_nin0 ))
            have F249 : Fld Z T238.heap o211 "com/example/partwise/partwise/Part" "id" "Ljava/lang/String;" (.ref s_202) := (P227_2.keep K238q (own_nin0 ))
            have F250 : Fld Z T238.heap o211 "com/example/partwise/partwise/Part" "rows" "J" (.long q3) := (P227_3.keep K238q (own_nin0 ))
            have F251 : Fld Z T238.heap o211 "com/example/partwise/partwise/Part" "inline" "Ljava/lang/String;" (.ref o160) := (P227_4.keep K238q (own_nin0 ))
            have F252 : Fld Z T238.heap o211 "com/example/partwise/partwise/Part" "addedBy" "J" (.long q4) := (P227_5.keep K238q (own_nin0 ))
            show OGS _ _ p e _ s below _ T238 (mkF m 171 #[.val (.int p1), .val (.int p2), .val (.long q3), .second, .val (.long q4), .second, .val (.long q5), .second, .val (.int (3 : Int32)), .val (.int (g0_2 p1 p2 q3 q4 q5 w)), .val (.int (g0_3 p1 p2 q3 q4 q5 w)), .val (.ref o160), .val (.ref s_194), .val (.ref s_202), .val (.ref o211), .val (.int (0 : Int32)), .unset] [(.ref q_238)])
            refine own_stS (fun t k => XS.astore X238.here hx rfl (hb hby at_171) rfl rfl (l' := #[.val (.int p1), .val (.int p2), .val (.long q3), .second, .val (.long q4), .second, .val (.long q5), .second, .val (.int (3 : Int32)), .val (.int (g0_2 p1 p2 q3 q4 q5 w)), .val (.int (g0_3 p1 p2 q3 q4 q5 w)), .val (.ref o160), .val (.ref s_194), .val (.ref s_202), .val (.ref o211), .val (.int (0 : Int32)), .val (.ref q_238)]) rfl k) ?_
            show OGS _ _ p e _ s below _ T238 (mkF m 173 #[.val (.int p1), .val (.int p2), .val (.long q3), .second, .val (.long q4), .second, .val (.long q5), .second, .val (.int (3 : Int32)), .val (.int (g0_2 p1 p2 q3 q4 q5 w)), .val (.int (g0_3 p1 p2 q3 q4 q5 w)), .val (.ref o160), .val (.ref s_194), .val (.ref s_202), .val (.ref o211), .val (.int (0 : Int32)), .val (.ref q_238)] [])
            refine own_stS (fun t k => XS.aload X238.here hx rfl (hb hby at_173) rfl rfl k) ?_
            show OGS _ _ p e _ s below _ T238 (mkF m 175 #[.val (.int p1), .val (.int p2), .val (.long q3), .second, .val (.long q4), .second, .val (.long q5), .second, .val (.int (3 : Int32)), .val (.int (g0_2 p1 p2 q3 q4 q5 w)), .val (.int (g0_3 p1 p2 q3 q4 q5 w)), .val (.ref o160), .val (.ref s_194), .val (.ref s_202), .val (.ref o211), .val (.int (0 : Int32)), .val (.ref q_238)] [(.ref q_238)])
            obtain ⟨cq253, kq253, q253a, q253b, q253c⟩ := isOf hZ238 rfl P238_0
            obtain ⟨_, _, ⟨T253, L253, k253, n253⟩, -, X253, ⟨Lc253, hQ253, l253, y253, z253⟩, st253⟩ := X238.virtualBack hx (y := (⟨"com/example/partwise/partwise/Part", "inFile", "()Z"⟩ : MethodName)) (z := (⟨"com/example/partwise/partwise/Part", "inFile", "()Z"⟩ : MethodName)) hown238 (mvT hZ238 (hw _ (List.mem_of_getElem? (i := 56) rfl))) (mvT hZ238 (hw _ (List.mem_of_getElem? (i := 57) rfl))) (notFace_of_selects (args := #[]) (mvT hZ238 (hw _ (List.mem_of_getElem? (i := 59) rfl)))) (mvT hZ238 (hw _ (List.mem_of_getElem? (i := 59) rfl))) (mvT hZ238 (hw _ (List.mem_of_getElem? (i := 58) rfl))) (by decide) (backOf (W := 0) (rm := ({ frames := 0, cells := 0, slots := 0, locals := 0 } : Room)) (rm9_r l Z a0 hw [] q_238 o160 T238.heap P238_1) hZ238 (hw _ (List.mem_of_getElem? (i := 60) rfl)) (hw _ (List.mem_of_getElem? (i := 28) rfl)) (by decide) (by decide)) q253a q253c (g := (mkF m 175 #[.val (.int p1), .val (.int p2), .val (.long q3), .second, .val (.long q4), .second, .val (.long q5), .second, .val (.int (3 : Int32)), .val (.int (g0_2 p1 p2 q3 q4 q5 w)), .val (.int (g0_3 p1 p2 q3 q4 q5 w)), .val (.ref o160), .val (.ref s_194), .val (.ref s_202), .val (.ref o211), .val (.int (0 : Int32)), .val (.ref q_238)] [(.ref q_238)])) rfl (by rw [hml]; rfl) (Steps.refl _) (argsL := []) (rest := []) (lenOf pd___Z rfl) rfl (by show 2 * 0 + _ ≤ _; exact Nat.le_of_eq rfl) (hb hby at_175) (fun _ _ => ⟨rfl, rfl, (by decide : 17 + 0 ≤ _), (by decide : 100 + 0 ≤ _)⟩)
            dsimp only [Pt.U, Pt.locs, Pt.cells, Pt.slots] at X253 l253 y253 z253 st253 hQ253
            subst l253 y253 z253
            obtain ⟨rfl, rfl, e253⟩ := hQ253
            refine own_stS (fun t k => st253.trans k) ?_
            have N253 := Fr.app N238 (Fr.nil n0)
            show OGS _ _ p e _ s below _ T253 (mkF m 178 #[.val (.int p1), .val (.int p2), .val (.long q3), .second, .val (.long q4), .second, .val (.long q5), .second, .val (.int (3 : Int32)), .val (.int (g0_2 p1 p2 q3 q4 q5 w)), .val (.int (g0_3 p1 p2 q3 q4 q5 w)), .val (.ref o160), .val (.ref s_194), .val (.ref s_202), .val (.ref o211), .val (.int (0 : Int32)), .val (.ref q_238)] [(.int f9_r)])
            refine own_stS (fun t k => XS.iload X253.here hx rfl (hb hby at_178) rfl k) ?_
            show OGS _ _ p e _ s below _ T253 (mkF m 180 #[.val (.int p1), .val (.int p2), .val (.long q3), .second, .val (.long q4), .second, .val (.long q5), .second, .val (.int (3 : Int32)), .val (.int (g0_2 p1 p2 q3 q4 q5 w)), .val (.int (g0_3 p1 p2 q3 q4 q5 w)), .val (.ref o160), .val (.ref s_194), .val (.ref s_202), .val (.ref o211), .val (.int (0 : Int32)), .val (.ref q_238)] [(.int (0 : Int32)), (.int f9_r)])
            refine own_stS (fun t k => XS.icmpNo X253.here hx rfl (hb hby at_180) rfl (teq c237).2 k) ?_
            show OGS _ _ p e _ s below _ T253 (mkF m 183 #[.val (.int p1), .val (.int p2), .val (.long q3), .second, .val (.long q4), .second, .val (.long q5), .second, .val (.int (3 : Int32)), .val (.int (g0_2 p1 p2 q3 q4 q5 w)), .val (.int (g0_3 p1 p2 q3 q4 q5 w)), .val (.ref o160), .val (.ref s_194), .val (.ref s_202), .val (.ref o211), .val (.int (0 : Int32)), .val (.ref q_238)] [])
            refine own_stS (fun t k => XS.iconst X253.here hx rfl (hb hby at_183) k) ?_
            show OGS _ _ p e _ s below _ T253 (mkF m 184 #[.val (.int p1), .val (.int p2), .val (.long q3), .second, .val (.long q4), .second, .val (.long q5), .second, .val (.int (3 : Int32)), .val (.int (g0_2 p1 p2 q3 q4 q5 w)), .val (.int (g0_3 p1 p2 q3 q4 q5 w)), .val (.ref o160), .val (.ref s_194), .val (.ref s_202), .val (.ref o211), .val (.int (0 : Int32)), .val (.ref q_238)] [(.int (1 : Int32))])
            refine own_stS (fun t k => XS.goto X253.here hx rfl (pc0 := 184) (pc' := 188) rfl (hb hby at_184) (by decide) (by decide) k) ?_
            show OGS _ _ p e _ s below _ T253 (mkF m 188 #[.val (.int p1), .val (.int p2), .val (.long q3), .second, .val (.long q4), .second, .val (.long q5), .second, .val (.int (3 : Int32)), .val (.int (g0_2 p1 p2 q3 q4 q5 w)), .val (.int (g0_3 p1 p2 q3 q4 q5 w)), .val (.ref o160), .val (.ref s_194), .val (.ref s_202), .val (.ref o211), .val (.int (0 : Int32)), .val (.ref q_238)] [(.int (1 : Int32))])
            refine own_endS X253 hlk hZ238 hEL e253 hs0 hS238 hk238 Cq238.1 CR238 (v := some (.int (nar .boolean (1 : Int32)))) (fun h => by rw [hret] at h; cases h) (by decide) (by decide) ?_ (fun fs hr => retN X253 hx (t := .boolean) hret (by simp) (hb hby at_188) hr)
            exact ⟨congrArg (fun z => some (Value.int z)) (show f0 p1 p2 q3 q4 q5 w = (1 : Int32) from (by rw [f0, if_neg c1, if_neg c37, if_neg c115, if_pos c159, if_pos c237])).symm, N253⟩
          · refine own_stS (fun t k => XS.icmpNo X236.here hx rfl (hb hby at_159) rfl (feq c237).1 k) ?_
            show OGS _ _ p e _ s below _ T236 (mkF m 162 #[.val (.int p1), .val (.int p2), .val (.long q3), .second, .val (.long q4), .second, .val (.long q5), .second, .val (.int (3 : Int32)), .val (.int (g0_2 p1 p2 q3 q4 q5 w)), .val (.int (g0_3 p1 p2 q3 q4 q5 w)), .val (.ref o160), .val (.ref s_194), .val (.ref s_202), .val (.ref o211), .val (.int (0 : Int32)), .unset] [])
            refine own_stS (fun t k => XS.iconst X236.here hx rfl (hb hby at_162) k) ?_
            show OGS _ _ p e _ s below _ T236 (mkF m 163 #[.val (.int p1), .val (.int p2), .val (.long q3), .second, .val (.long q4), .second, .val (.long q5), .second, .val (.int (3 : Int32)), .val (.int (g0_2 p1 p2 q3 q4 q5 w)), .val (.int (g0_3 p1 p2 q3 q4 q5 w)), .val (.ref o160), .val (.ref s_194), .val (.ref s_202), .val (.ref o211), .val (.int (0 : Int32)), .unset] [(.int (0 : Int32))])
            refine own_endS X236 hlk hZ227 hEL e236 hs0 hS227 hk227 Cq227.1 CR227 (v := some (.int (nar .boolean (0 : Int32)))) (fun h => by rw [hret] at h; cases h) (by decide) (by decide) ?_ (fun fs hr => retN X236 hx (t := .boolean) hret (by simp) (hb hby at_163) hr)
            exact ⟨congrArg (fun z => some (Value.int z)) (show f0 p1 p2 q3 q4 q5 w = (0 : Int32) from (by rw [f0, if_neg c1, if_neg c37, if_neg c115, if_pos c159, if_neg c237])).symm, N236⟩
        · skip
          exact (own_rf p1 p2 q3 q4 q5 w c1 c37 c115 c159).elim
theorem own_law (p1 p2 : Int32) (q3 q4 q5 : Int64) (w : Int32) : f0 p1 p2 q3 q4 q5 w = 1 := by
  have rf := own_rf p1 p2 q3 q4 q5 w
  have e1 : f9_n = 1 := by decide
  have e0 : f9_r = 0 := by decide
  simp only [f0, if_pos e1, if_pos e0]
  generalize g0_1 p1 p2 q3 q4 q5 w = g at *
  repeat' split
  all_goals first | rfl | (exfalso; apply rf <;> assumption)

theorem own_met (l : Launch) (Z : State) (a0 : Array Value) (hw : ∀ d ∈ tables_1, d.before a0 Z = true) (ws : List Jvm.Cond) (p1 : Int32) (p2 : Int32) (q3 : Int64) (q4 : Int64) (q5 : Int64) (w : Int32) (h0 : Heap) (R0 : Sta Z h0 "java/lang/String" "COMPACT_STRINGS" "Z" (.int w)) (hw0 : ¬ w = (0 : Int32))  :
    OMetS l Z EL0 x code maxLocals ret ws room_1 #[(.int p1), (.int p2), (.long q3), (.long q4), (.long q5)] h0 (fun v h L => v = some (.int 1) ∧ Fr h0.size L) := by
  intro p e ha hc hk s m args below hf happ hP hK
  obtain ⟨n, o, h1, h2, h3, v, L, ho, ⟨hv, hL⟩, hCR, hq⟩ := rm0 l Z a0 hw ws p1 p2 q3 q4 q5 w h0 h0.size (Nat.le_refl _) R0 hw0  p e ha hc hk s m args below hf happ hP hK
  rw [own_law] at hv
  exact ⟨n, o, h1, h2, h3, v, L, ho, ⟨hv, hL⟩, hCR, hq⟩
set_option maxRecDepth 65536 in
set_option maxHeartbeats 40000000 in
theorem comes_1 {Post : Tables → Env → Array Value → State → Outcome → State → Prop} (hpost : ∀ tb e args s v u, (limb_1_1.after args s (.returned v) u = true ∧ limb_1_2.after args s (.returned v) u = true ∧ True) → ReturnedEndW s (.returned v) u (Jvm.fieldLocs frame_1_writes args s ++ Jvm.arrayLocs frame_1_arrays args s ++ Jvm.staticLocs frame_1_statics s) 32 3264 → Post tb e args s (.returned v) u) :
    ArmFor flags0 classFile x code maxLocals ret World_1 tables_1 room_1 Calls_1 rest_1 Pre_1 Post := by
  intro l hfl _ _ p e ha hc hk s m args below hf hA hF happ hP
  obtain ⟨hcalls, hrest, hpre⟩ := hP
  obtain ⟨-, -, -, hnamed, -, -, -, hat⟩ := (Spec.applies_iff hf).mp happ
  obtain ⟨hg, hn⟩ := and_e (Cond.before_iff.mp (show (Jvm.Cond.and given_1 narrow_1).before args s = true from hpre))
  obtain ⟨h1, g0⟩ := and_e hg
  obtain ⟨w0, w1, w2, w3, w4, rfl⟩ : ∃ w0 w1 w2 w3 w4 : Value, args = #[w0, w1, w2, w3, w4] := by
    have hs : args.size = 5 := by simpa [Cond.value, given_1] using h1
    obtain ⟨L⟩ := args
    match L, hs with
    | [w0, w1, w2, w3, w4], _ => exact ⟨w0, w1, w2, w3, w4, rfl⟩
  have hw := fun d (hd : d ∈ tables_1) => atoms_spec (ws := Jvm.Cond.code x code maxLocals ret :: tables_1) hat d (List.mem_cons_of_mem _ hd)
  obtain ⟨b0, g1⟩ := and_e g0
  obtain ⟨i0, e0⟩ := is_v b0
  obtain rfl : w0 = (.int i0) := Option.some.inj e0
  obtain ⟨b1, g2⟩ := and_e g1
  obtain ⟨i1, e1⟩ := is_v b1
  obtain rfl : w1 = (.int i1) := Option.some.inj e1
  obtain ⟨b2, g3⟩ := and_e g2
  obtain ⟨i2, e2⟩ := isL_v b2
  obtain rfl : w2 = (.long i2) := Option.some.inj e2
  obtain ⟨b3, g4⟩ := and_e g3
  obtain ⟨i3, e3⟩ := isL_v b3
  obtain rfl : w3 = (.long i3) := Option.some.inj e3
  obtain ⟨i4, e4⟩ := isL_v g4
  obtain rfl : w4 = (.long i4) := Option.some.inj e4
  obtain ⟨hsets, hown0⟩ := atoms_of _ (rest_1_c_eq ▸ (show rest_1_c.before _ s = true from hrest))
  obtain ⟨iw, ew⟩ := is_v (Cond.before_iff.mp (hsets _ (List.mem_of_getElem? (i := 1) rfl)))
  have S_W : Sta s s.heap "java/lang/String" "COMPACT_STRINGS" "Z" (.int iw) := Sta.start ew (Or.inl (hsets _ (List.mem_of_getElem? (i := 0) rfl)))
  have cw0 : ¬ (iw = (0 : Int32)) := gotF (Cond.eq_ints ew (Term.int_eval (0))) (not_v (Cond.before_iff.mp (hsets _ (List.mem_of_getElem? (i := 2) rfl))))
  have hcw := hsets _ (List.mem_of_getElem? (i := 2) rfl)
  have CH : CHv s EL0 s.vm s.heap := CHv.start (own_EW hw) (fun p hp => hcalls.1 p hp) hcw (hw _ (List.mem_of_getElem? (i := 14) rfl)) (hw _ (List.mem_of_getElem? (i := 10) rfl))
  obtain ⟨n, o, h1, h2, h3, _, L, rfl, ⟨rfl, N⟩, hCR, hq⟩ := own_met l s _ hw tables_1 i0 i1 i2 i3 i4 iw s.heap S_W cw0 p e ha hc hk s m _ below hf ((Spec.applies_iff_loose hf).mp happ).1 ⟨rfl, State.Warmed39.refl s, rfl, CH⟩ trivial
  refine ⟨n, _, h1, h2, h3, hpost _ _ _ _ _ _ ⟨Cond.after_iff.mpr rfl, Cond.after_iff.mpr (eq_i res_at (Term.int_eval (1)) rfl), trivial⟩ ⟨hq.1, hq.2.1, hq.2.2.1, (hq.2.2.2.sift fun y hy => Or.inr (N y hy)).mono (by decide) (by decide)⟩⟩
theorem main_1_1 : Claimed_1_1 := comes_1 fun _ _ _ _ _ _ h hF => ⟨h.1, hF⟩
theorem main_1_2 : Claimed_1_2 := comes_1 fun _ _ _ _ _ _ h hF => ⟨h.2.1, hF⟩
end Jvm.Pilot.@@N@@
namespace Jvm.Pilot.@@N@@
open Jvm Jvm.ClassFile Sem Op Lib Jvm.Free Jvm.Stand Jvm.Pilot.@@N@@.Jvm.D
/-! MADE BY PROGRAM (witnessworld.py) out of the Statement's table words and the real class files: 22 classes; the members and pool entries that the words name. The judged class is class 1, her method 1. -/
namespace start1
open Jvm.ClassFile
def u (s : String) : CpInfo := .utf8 (stringToUtf16 s)
/-- a pool by its gaps: so many unusable entries, then the entry; so many at the end -/
def gap : Nat → List CpInfo → List CpInfo
  | 0, r => r
  | n + 1, r => .unusable :: gap n r
def poolList (es : List (Nat × CpInfo)) (last : Nat) : List CpInfo := es.foldr (fun e r => gap e.1 (e.2 :: r)) (gap last [])
def pool (es : List (Nat × CpInfo)) (last : Nat) : Array CpInfo := ⟨poolList es last⟩
def fileOf (pool : Array CpInfo) (this : Nat) (attrs : Array Attribute := #[]) (ms : Array MethodInfo := #[]) (fl : Nat := 33) (sup : Nat := 0) (ifs : Array Nat := #[]) (fds : Array FieldInfo := #[]) : ClassFile where
  minorVersion := 0
  majorVersion := 65
  constantPool := pool
  accessFlags := fl
  thisClass := this
  superClass := sup
  interfaces := ifs
  fields := fds
  methods := ms
  attributes := attrs
def plain (name : String) (sup : Option ClassId) : Class where
  name := name
  kind := .ordinary
  loader := none
  accessFlags := 33
  super := sup
  interfaces := #[]
  cf := none
  fields := #[]
  methods := #[]
  instanceTypes := #[]
  staticTypes := #[]
  resolved := #[]
  callSites := []
  init := .initialized
  statics := none
  mirror := none

def pool0 : Array CpInfo := pool [(5, u "<init>"), (0, u "()V"), (1, .class_ 10), (1, u "java/lang/Object")] 113

def k0c0 : Code := { maxStack := 0, maxLocals := 1, code := object_method_1_code, exceptionTable := #[], attributes := #[] }
def k0m0 : Method := { name := "<init>", desc := "()V", sig := { parameters := [], returnType := none }, accessFlags := 1, code := some k0c0 }
/-- java/lang/Object -/
def k0 : Class := { plain "java/lang/Object" none with
  accessFlags := 33
  interfaces := #[]
  cf := some (fileOf pool0 8 #[] #[{ accessFlags := 1, nameIndex := 5, descriptorIndex := 6, attributes := #[] }] 33 0 #[] #[])
  fields := #[]
  methods := #[k0m0]
  instanceTypes := #[]
  staticTypes := #[]
  resolved := Array.replicate 124 none
  statics := none }

def pool1 : Array CpInfo := pool [(2, .class_ 4), (1, u "java/lang/Object"), (0, u "<init>"), (0, u "()V"), (0, .class_ 8), (0, u "java/lang/String"), (0, .methodref 7 10), (0, .nameAndType 5 11), (0, u "([C)V"), (0, .methodref 7 13), (0, .nameAndType 14 15), (0, u "valueOf"), (0, u "(C)Ljava/lang/String;"), (0, .class_ 17), (0, u "com/example/partwise/partwise/Part"), (0, .methodref 16 19), (0, .nameAndType 5 20), (0, u "(Ljava/lang/String;Ljava/lang/String;JLjava/lang/String;J)V"), (0, .methodref 16 22), (0, .nameAndType 23 24), (0, u "inFile"), (0, u "()Z"), (0, .methodref 16 26), (0, .nameAndType 27 28), (0, u "asAddedBy"), (0, u "(J)Lcom/example/partwise/partwise/Part;"), (0, .class_ 30), (0, u "com/example/partwise/partwise/PartInFilePinLaw"), (2, u "law"), (0, u "(IIJJJ)Z")] 3

def k1m0 : Method := { name := "<init>", desc := "()V", sig := { parameters := [], returnType := none }, accessFlags := 1, code := none }
def k1c1 : Code := { maxStack := 9, maxLocals := 17, code := code, exceptionTable := #[], attributes := #[] }
def k1m1 : Method := { name := "law", desc := "(IIJJJ)Z", sig := { parameters := [.int, .int, .long, .long, .long], returnType := some .boolean }, accessFlags := 9, code := some k1c1 }
/-- com/example/partwise/partwise/PartInFilePinLaw -/
def k1 : Class := { plain "com/example/partwise/partwise/PartInFilePinLaw" (some 0) with
  accessFlags := 49
  interfaces := #[]
  cf := some (fileOf pool1 29 #[] #[{ accessFlags := 1, nameIndex := 5, descriptorIndex := 6, attributes := #[] }, { accessFlags := 9, nameIndex := 33, descriptorIndex := 34, attributes := #[] }] 49 2 #[] #[])
  fields := #[]
  methods := #[k1m0, k1m1]
  instanceTypes := #[]
  staticTypes := #[]
  resolved := Array.replicate 38 none
  statics := none }

def pool2 : Array CpInfo := pool [(1, .class_ 2), (0, u "java/io/Serializable"), (0, .class_ 4), (0, u "java/lang/Object")] 2

/-- java/io/Serializable -/
def k2 : Class := { plain "java/io/Serializable" (some 0) with
  accessFlags := 1537
  interfaces := #[]
  cf := some (fileOf pool2 1 #[] #[] 1537 3 #[] #[])
  fields := #[]
  methods := #[]
  instanceTypes := #[]
  staticTypes := #[]
  resolved := Array.replicate 7 none
  statics := none }

def pool3 : Array CpInfo := pool [(1, .class_ 2), (0, u "java/lang/Comparable"), (0, .class_ 4), (0, u "java/lang/Object")] 7

/-- java/lang/Comparable -/
def k3 : Class := { plain "java/lang/Comparable" (some 0) with
  accessFlags := 1537
  interfaces := #[]
  cf := some (fileOf pool3 1 #[] #[] 1537 3 #[] #[])
  fields := #[]
  methods := #[]
  instanceTypes := #[]
  staticTypes := #[]
  resolved := Array.replicate 12 none
  statics := none }

def pool4 : Array CpInfo := pool [(2, .class_ 4), (1, u "java/lang/CharSequence"), (42, .class_ 48), (0, u "java/lang/CharSequence$1CodePointIterator"), (10, .class_ 60), (0, u "java/lang/CharSequence$1CharIterator"), (5, .class_ 67), (0, u "java/lang/Object")] 63

/-- java/lang/CharSequence -/
def k4 : Class := { plain "java/lang/CharSequence" (some 0) with
  accessFlags := 1537
  interfaces := #[]
  cf := some (fileOf pool4 2 #[.nestMembers #[47, 59]] #[] 1537 66 #[] #[])
  fields := #[]
  methods := #[]
  instanceTypes := #[]
  staticTypes := #[]
  resolved := Array.replicate 131 none
  statics := none }

def pool5 : Array CpInfo := pool [(1, .class_ 2), (0, u "java/lang/constant/Constable"), (0, .class_ 4), (0, u "java/lang/Object")] 6

/-- java/lang/constant/Constable -/
def k5 : Class := { plain "java/lang/constant/Constable" (some 0) with
  accessFlags := 1537
  interfaces := #[]
  cf := some (fileOf pool5 1 #[] #[] 1537 3 #[] #[])
  fields := #[]
  methods := #[]
  instanceTypes := #[]
  staticTypes := #[]
  resolved := Array.replicate 11 none
  statics := none }

def pool6 : Array CpInfo := pool [(1, .class_ 2), (0, u "java/lang/constant/ConstantDesc"), (0, .class_ 4), (0, u "java/lang/Object")] 32

/-- java/lang/constant/ConstantDesc -/
def k6 : Class := { plain "java/lang/constant/ConstantDesc" (some 0) with
  accessFlags := 1537
  interfaces := #[]
  cf := some (fileOf pool6 1 #[] #[] 1537 3 #[] #[])
  fields := #[]
  methods := #[]
  instanceTypes := #[]
  staticTypes := #[]
  resolved := Array.replicate 37 none
  statics := none }

def pool7 : Array CpInfo := pool [(1, .methodref 2 3), (0, .class_ 4), (0, .nameAndType 5 6), (0, u "java/lang/Object"), (0, u "<init>"), (0, u "()V"), (0, .string 8), (0, u ""), (0, .fieldref 10 11), (0, .class_ 12), (0, .nameAndType 13 14), (0, u "java/lang/String"), (0, u "value"), (0, u "[B"), (0, .fieldref 10 16), (0, .nameAndType 17 18), (0, u "coder"), (0, u "B"), (2, u "hash"), (0, u "I"), (2, u "hashIsZero"), (0, u "Z"), (0, .methodref 10 28), (0, .nameAndType 5 29), (0, u "([CIILjava/lang/Void;)V"), (8, .fieldref 10 39), (0, .nameAndType 40 26), (0, u "COMPACT_STRINGS"), (1, .class_ 44), (1, u "java/lang/StringUTF16"), (0, u "compress"), (1, .methodref 42 48), (0, .nameAndType 49 50), (0, u "coderFromArrayLen"), (0, u "([BI)B"), (2, u "toBytes"), (53, .class_ 109), (1, u "java/lang/StringLatin1"), (67, .methodref 42 178), (0, .nameAndType 45 179), (0, u "([CII)[B"), (29, .methodref 10 210), (0, .nameAndType 5 211), (0, u "([BB)V"), (157, u "(C)Z"), (205, .class_ 576), (0, u "java/lang/CharSequence"), (22, u "CASE_INSENSITIVE_ORDER"), (0, u "Ljava/util/Comparator;"), (181, u "valueOf"), (0, u "(C)Ljava/lang/String;"), (226, u "([C)V"), (4, .methodref 107 1016), (0, .nameAndType 1017 369), (0, u "canEncode"), (0, .methodref 107 1019), (0, .nameAndType 53 1020), (0, u "(C)[B"), (80, u "serialPersistentFields"), (0, u "[Ljava/io/ObjectStreamField;"), (0, .class_ 1104), (0, u "java/lang/String$CaseInsensitiveComparator"), (1, .class_ 1107), (0, u "java/io/Serializable"), (0, .class_ 1109), (0, u "java/lang/Comparable"), (0, .class_ 1111), (0, u "java/lang/constant/Constable"), (0, .class_ 1113), (0, u "java/lang/constant/ConstantDesc"), (2, u "serialVersionUID"), (0, u "J"), (3, u "REPL"), (0, u "C"), (2, u "LATIN1"), (1, u "UTF16")] 323

def k7m0 : Method := { name := "<init>", desc := "()V", sig := { parameters := [], returnType := none }, accessFlags := 1, code := none }
def k7c1 : Code := { maxStack := 5, maxLocals := 2, code := jdk_42_method_3_code, exceptionTable := #[], attributes := #[] }
def k7m1 : Method := { name := "<init>", desc := "([C)V", sig := { parameters := [(.array .char)], returnType := none }, accessFlags := 1, code := some k7c1 }
def k7c2 : Code := { maxStack := 4, maxLocals := 1, code := jdk_42_method_139_code, exceptionTable := #[], attributes := #[] }
def k7m2 : Method := { name := "valueOf", desc := "(C)Ljava/lang/String;", sig := { parameters := [.char], returnType := some (.object "java/lang/String") }, accessFlags := 9, code := some k7c2 }
def k7c3 : Code := { maxStack := 4, maxLocals := 6, code := jdk_42_method_149_code, exceptionTable := #[], attributes := #[] }
def k7m3 : Method := { name := "<init>", desc := "([CIILjava/lang/Void;)V", sig := { parameters := [(.array .char), .int, .int, (.object "java/lang/Void")], returnType := none }, accessFlags := 2, code := some k7c3 }
def k7c4 : Code := { maxStack := 2, maxLocals := 3, code := jdk_42_method_151_code, exceptionTable := #[], attributes := #[] }
def k7m4 : Method := { name := "<init>", desc := "([BB)V", sig := { parameters := [(.array .byte), .byte], returnType := none }, accessFlags := 0, code := some k7c4 }
/-- java/lang/String -/
def k7 : Class := { plain "java/lang/String" (some 0) with
  accessFlags := 49
  interfaces := #[2, 3, 4, 5, 6]
  cf := some (fileOf pool7 10 #[.nestMembers #[1103]] #[{ accessFlags := 1, nameIndex := 5, descriptorIndex := 6, attributes := #[] }, { accessFlags := 1, nameIndex := 5, descriptorIndex := 1010, attributes := #[] }, { accessFlags := 9, nameIndex := 782, descriptorIndex := 783, attributes := #[] }, { accessFlags := 2, nameIndex := 5, descriptorIndex := 29, attributes := #[] }, { accessFlags := 0, nameIndex := 5, descriptorIndex := 211, attributes := #[] }] 49 2 #[1106, 1108, 575, 1110, 1112] #[{ accessFlags := 18, nameIndex := 13, descriptorIndex := 14, attributes := #[] }, { accessFlags := 18, nameIndex := 17, descriptorIndex := 18, attributes := #[] }, { accessFlags := 2, nameIndex := 21, descriptorIndex := 22, attributes := #[] }, { accessFlags := 2, nameIndex := 25, descriptorIndex := 26, attributes := #[] }, { accessFlags := 26, nameIndex := 1116, descriptorIndex := 1117, attributes := #[] }, { accessFlags := 24, nameIndex := 40, descriptorIndex := 26, attributes := #[] }, { accessFlags := 26, nameIndex := 1101, descriptorIndex := 1102, attributes := #[] }, { accessFlags := 26, nameIndex := 1121, descriptorIndex := 1122, attributes := #[] }, { accessFlags := 25, nameIndex := 599, descriptorIndex := 600, attributes := #[] }, { accessFlags := 24, nameIndex := 1125, descriptorIndex := 18, attributes := #[] }, { accessFlags := 24, nameIndex := 1127, descriptorIndex := 18, attributes := #[] }])
  fields := #[{ name := "value", type := (.array .byte), accessFlags := 18, slot := 0, constantValue := 0 }, { name := "coder", type := .byte, accessFlags := 18, slot := 1, constantValue := 0 }, { name := "hash", type := .int, accessFlags := 2, slot := 2, constantValue := 0 }, { name := "hashIsZero", type := .boolean, accessFlags := 2, slot := 3, constantValue := 0 }, { name := "serialVersionUID", type := .long, accessFlags := 26, slot := 0, constantValue := 0 }, { name := "COMPACT_STRINGS", type := .boolean, accessFlags := 24, slot := 1, constantValue := 0 }, { name := "serialPersistentFields", type := (.array (.object "java/io/ObjectStreamField")), accessFlags := 26, slot := 2, constantValue := 0 }, { name := "REPL", type := .char, accessFlags := 26, slot := 3, constantValue := 0 }, { name := "CASE_INSENSITIVE_ORDER", type := (.object "java/util/Comparator"), accessFlags := 25, slot := 4, constantValue := 0 }, { name := "LATIN1", type := .byte, accessFlags := 24, slot := 5, constantValue := 0 }, { name := "UTF16", type := .byte, accessFlags := 24, slot := 6, constantValue := 0 }]
  methods := #[k7m0, k7m1, k7m2, k7m3, k7m4]
  instanceTypes := #[(.array .byte), .byte, .int, .boolean]
  staticTypes := #[.long, .boolean, (.array (.object "java/io/ObjectStreamField")), .char, (.object "java/util/Comparator"), .byte, .byte]
  resolved := Array.replicate 1451 none
  statics := some 0 }

def pool8 : Array CpInfo := pool [(4, .class_ 6), (1, u "java/lang/Object"), (0, u "<init>"), (0, u "()V"), (5, .class_ 16), (1, u "java/lang/StringLatin1"), (73, u "canEncode"), (14, u "(C)Z"), (15, u "$assertionsDisabled"), (0, u "Z"), (98, .class_ 223), (1, u "java/lang/StringLatin1$LinesSpliterator"), (156, u "toBytes"), (1, u "(C)[B"), (7, .class_ 391), (0, u "java/lang/StringLatin1$CharsSpliterator")] 3

def k8m0 : Method := { name := "<init>", desc := "()V", sig := { parameters := [], returnType := none }, accessFlags := 0, code := none }
def k8c1 : Code := { maxStack := 2, maxLocals := 1, code := jdk_43_method_3_code, exceptionTable := #[], attributes := #[] }
def k8m1 : Method := { name := "canEncode", desc := "(C)Z", sig := { parameters := [.char], returnType := some .boolean }, accessFlags := 9, code := some k8c1 }
def k8c2 : Code := { maxStack := 4, maxLocals := 1, code := jdk_43_method_46_code, exceptionTable := #[], attributes := #[] }
def k8m2 : Method := { name := "toBytes", desc := "(C)[B", sig := { parameters := [.char], returnType := some (.array .byte) }, accessFlags := 9, code := some k8c2 }
/-- java/lang/StringLatin1 -/
def k8 : Class := { plain "java/lang/StringLatin1" (some 0) with
  accessFlags := 48
  interfaces := #[]
  cf := some (fileOf pool8 14 #[.nestMembers #[390, 221]] #[{ accessFlags := 0, nameIndex := 7, descriptorIndex := 8, attributes := #[] }, { accessFlags := 9, nameIndex := 90, descriptorIndex := 105, attributes := #[] }, { accessFlags := 9, nameIndex := 380, descriptorIndex := 382, attributes := #[] }] 48 4 #[] #[{ accessFlags := 4120, nameIndex := 121, descriptorIndex := 122, attributes := #[] }])
  fields := #[{ name := "$assertionsDisabled", type := .boolean, accessFlags := 4120, slot := 0, constantValue := 0 }]
  methods := #[k8m0, k8m1, k8m2]
  instanceTypes := #[]
  staticTypes := #[.boolean]
  resolved := Array.replicate 395 none
  statics := none }

def pool9 : Array CpInfo := pool [(1, .methodref 2 3), (0, .class_ 4), (0, .nameAndType 5 6), (0, u "java/lang/Object"), (0, u "<init>"), (0, u "()V"), (0, .class_ 8), (0, u "java/lang/Record")] 13

def k9c0 : Code := { maxStack := 1, maxLocals := 1, code := jdk_30_method_1_code, exceptionTable := #[], attributes := #[] }
def k9m0 : Method := { name := "<init>", desc := "()V", sig := { parameters := [], returnType := none }, accessFlags := 4, code := some k9c0 }
/-- java/lang/Record -/
def k9 : Class := { plain "java/lang/Record" (some 0) with
  accessFlags := 1057
  interfaces := #[]
  cf := some (fileOf pool9 7 #[] #[{ accessFlags := 4, nameIndex := 5, descriptorIndex := 6, attributes := #[] }] 1057 2 #[] #[])
  fields := #[]
  methods := #[k9m0]
  instanceTypes := #[]
  staticTypes := #[]
  resolved := Array.replicate 22 none
  statics := none }

def pool10 : Array CpInfo := pool [(1, .methodref 2 3), (0, .class_ 4), (0, .nameAndType 5 6), (0, u "java/lang/Record"), (0, u "<init>"), (0, u "()V"), (0, .string 8), (0, u "table"), (0, .methodref 10 11), (0, .class_ 12), (0, .nameAndType 13 14), (0, u "java/util/Objects"), (0, u "requireNonNull"), (0, u "(Ljava/lang/Object;Ljava/lang/String;)Ljava/lang/Object;"), (0, .string 16), (0, u "id"), (0, .fieldref 18 19), (0, .class_ 20), (0, .nameAndType 8 21), (0, u "com/example/partwise/partwise/Part"), (0, u "Ljava/lang/String;"), (0, .fieldref 18 23), (0, .nameAndType 16 21), (0, .fieldref 18 25), (0, .nameAndType 26 27), (0, u "rows"), (0, u "J"), (0, .fieldref 18 29), (0, .nameAndType 30 21), (0, u "inline"), (0, .fieldref 18 32), (0, .nameAndType 33 27), (0, u "addedBy"), (0, .methodref 18 35), (0, .nameAndType 5 36), (0, u "(Ljava/lang/String;Ljava/lang/String;JLjava/lang/String;J)V"), (20, u "inFile"), (0, u "()Z"), (3, u "asAddedBy"), (0, u "(J)Lcom/example/partwise/partwise/Part;")] 35

def k10c0 : Code := { maxStack := 3, maxLocals := 8, code := prog_54_method_1_code, exceptionTable := #[], attributes := #[] }
def k10m0 : Method := { name := "<init>", desc := "(Ljava/lang/String;Ljava/lang/String;JLjava/lang/String;J)V", sig := { parameters := [(.object "java/lang/String"), (.object "java/lang/String"), .long, (.object "java/lang/String"), .long], returnType := none }, accessFlags := 0, code := some k10c0 }
def k10c1 : Code := { maxStack := 1, maxLocals := 1, code := prog_54_method_3_code, exceptionTable := #[], attributes := #[] }
def k10m1 : Method := { name := "inFile", desc := "()Z", sig := { parameters := [], returnType := some .boolean }, accessFlags := 0, code := some k10c1 }
def k10c2 : Code := { maxStack := 9, maxLocals := 3, code := prog_54_method_5_code, exceptionTable := #[], attributes := #[] }
def k10m2 : Method := { name := "asAddedBy", desc := "(J)Lcom/example/partwise/partwise/Part;", sig := { parameters := [.long], returnType := some (.object "com/example/partwise/partwise/Part") }, accessFlags := 0, code := some k10c2 }
/-- com/example/partwise/partwise/Part -/
def k10 : Class := { plain "com/example/partwise/partwise/Part" (some 9) with
  accessFlags := 48
  interfaces := #[]
  cf := some (fileOf pool10 18 #[] #[{ accessFlags := 0, nameIndex := 5, descriptorIndex := 36, attributes := #[] }, { accessFlags := 0, nameIndex := 57, descriptorIndex := 58, attributes := #[] }, { accessFlags := 0, nameIndex := 62, descriptorIndex := 63, attributes := #[] }] 48 2 #[] #[{ accessFlags := 18, nameIndex := 8, descriptorIndex := 21, attributes := #[] }, { accessFlags := 18, nameIndex := 16, descriptorIndex := 21, attributes := #[] }, { accessFlags := 18, nameIndex := 26, descriptorIndex := 27, attributes := #[] }, { accessFlags := 18, nameIndex := 30, descriptorIndex := 21, attributes := #[] }, { accessFlags := 18, nameIndex := 33, descriptorIndex := 27, attributes := #[] }])
  fields := #[{ name := "table", type := (.object "java/lang/String"), accessFlags := 18, slot := 0, constantValue := 0 }, { name := "id", type := (.object "java/lang/String"), accessFlags := 18, slot := 1, constantValue := 0 }, { name := "rows", type := .long, accessFlags := 18, slot := 2, constantValue := 0 }, { name := "inline", type := (.object "java/lang/String"), accessFlags := 18, slot := 3, constantValue := 0 }, { name := "addedBy", type := .long, accessFlags := 18, slot := 4, constantValue := 0 }]
  methods := #[k10m0, k10m1, k10m2]
  instanceTypes := #[(.object "java/lang/String"), (.object "java/lang/String"), .long, (.object "java/lang/String"), .long]
  staticTypes := #[]
  resolved := Array.replicate 99 none
  statics := none }

def pool11 : Array CpInfo := pool [(2, .class_ 4), (1, u "java/lang/Object"), (0, u "<init>"), (0, u "()V"), (35, .class_ 44), (1, u "java/util/Objects"), (0, u "requireNonNull"), (48, u "(Ljava/lang/Object;Ljava/lang/String;)Ljava/lang/Object;")] 89

def k11m0 : Method := { name := "<init>", desc := "()V", sig := { parameters := [], returnType := none }, accessFlags := 2, code := none }
def k11c1 : Code := { maxStack := 3, maxLocals := 2, code := jdk_31_method_11_code, exceptionTable := #[], attributes := #[] }
def k11m1 : Method := { name := "requireNonNull", desc := "(Ljava/lang/Object;Ljava/lang/String;)Ljava/lang/Object;", sig := { parameters := [(.object "java/lang/Object"), (.object "java/lang/String")], returnType := some (.object "java/lang/Object") }, accessFlags := 9, code := some k11c1 }
/-- java/util/Objects -/
def k11 : Class := { plain "java/util/Objects" (some 0) with
  accessFlags := 49
  interfaces := #[]
  cf := some (fileOf pool11 42 #[] #[{ accessFlags := 2, nameIndex := 5, descriptorIndex := 6, attributes := #[] }, { accessFlags := 9, nameIndex := 45, descriptorIndex := 94, attributes := #[] }] 49 2 #[] #[])
  fields := #[]
  methods := #[k11m0, k11m1]
  instanceTypes := #[]
  staticTypes := #[]
  resolved := Array.replicate 184 none
  statics := none }

def pool12 : Array CpInfo := pool [(6, .class_ 8), (1, u "java/lang/Object"), (0, u "<init>"), (0, u "()V"), (1, .class_ 14), (1, u "java/lang/StringUTF16"), (31, u "$assertionsDisabled"), (0, u "Z"), (13, u "HI_BYTE_SHIFT"), (0, u "I"), (2, u "LO_BYTE_SHIFT"), (49, .methodref 12 116), (0, .nameAndType 117 118), (0, u "compress"), (0, u "([CI[BII)I"), (3, u "([CII)[B"), (138, u "coderFromArrayLen"), (0, u "([BI)B"), (106, .class_ 371), (1, u "java/lang/StringUTF16$LinesSpliterator"), (58, u "MAX_LENGTH"), (196, .class_ 628), (0, u "java/lang/StringUTF16$CodePointsSpliterator"), (0, .class_ 630), (0, u "java/lang/StringUTF16$CharsSpliterator")] 4

def k12m0 : Method := { name := "<init>", desc := "()V", sig := { parameters := [], returnType := none }, accessFlags := 0, code := none }
def k12c1 : Code := { maxStack := 2, maxLocals := 2, code := jdk_52_method_15_code, exceptionTable := #[], attributes := #[] }
def k12m1 : Method := { name := "coderFromArrayLen", desc := "([BI)B", sig := { parameters := [(.array .byte), .int], returnType := some .byte }, accessFlags := 8, code := some k12c1 }
def k12c2 : Code := { maxStack := 5, maxLocals := 6, code := jdk_52_method_16_code, exceptionTable := #[], attributes := #[] }
def k12m2 : Method := { name := "compress", desc := "([CII)[B", sig := { parameters := [(.array .char), .int, .int], returnType := some (.array .byte) }, accessFlags := 9, code := some k12c2 }
def k12c3 : Code := { maxStack := 3, maxLocals := 7, code := jdk_52_method_21_code, exceptionTable := #[], attributes := #[] }
def k12m3 : Method := { name := "compress", desc := "([CI[BII)I", sig := { parameters := [(.array .char), .int, (.array .byte), .int, .int], returnType := some .int }, accessFlags := 9, code := some k12c3 }
/-- java/lang/StringUTF16 -/
def k12 : Class := { plain "java/lang/StringUTF16" (some 0) with
  accessFlags := 48
  interfaces := #[]
  cf := some (fileOf pool12 12 #[.nestMembers #[627, 629, 369]] #[{ accessFlags := 0, nameIndex := 9, descriptorIndex := 10, attributes := #[] }, { accessFlags := 8, nameIndex := 261, descriptorIndex := 262, attributes := #[] }, { accessFlags := 9, nameIndex := 117, descriptorIndex := 122, attributes := #[] }, { accessFlags := 9, nameIndex := 117, descriptorIndex := 118, attributes := #[] }] 48 6 #[] #[{ accessFlags := 26, nameIndex := 61, descriptorIndex := 62, attributes := #[] }, { accessFlags := 26, nameIndex := 65, descriptorIndex := 62, attributes := #[] }, { accessFlags := 24, nameIndex := 430, descriptorIndex := 62, attributes := #[] }, { accessFlags := 4120, nameIndex := 46, descriptorIndex := 47, attributes := #[] }])
  fields := #[{ name := "HI_BYTE_SHIFT", type := .int, accessFlags := 26, slot := 0, constantValue := 0 }, { name := "LO_BYTE_SHIFT", type := .int, accessFlags := 26, slot := 1, constantValue := 0 }, { name := "MAX_LENGTH", type := .int, accessFlags := 24, slot := 2, constantValue := 0 }, { name := "$assertionsDisabled", type := .boolean, accessFlags := 4120, slot := 3, constantValue := 0 }]
  methods := #[k12m0, k12m1, k12m2, k12m3]
  instanceTypes := #[]
  staticTypes := #[.int, .int, .int, .boolean]
  resolved := Array.replicate 635 none
  statics := none }

def pool13 : Array CpInfo := pool [(2, .class_ 4), (1, u "java/lang/Object"), (0, u "<init>"), (0, u "()V"), (17, .class_ 26), (1, u "jdk/internal/util/Preconditions"), (28, .class_ 56), (0, u "jdk/internal/util/Preconditions$4"), (57, .class_ 115), (0, u "jdk/internal/util/Preconditions$1"), (7, u "SIOOBE_FORMATTER"), (0, u "Ljava/util/function/BiFunction;"), (0, .class_ 126), (0, u "jdk/internal/util/Preconditions$2"), (3, u "AIOOBE_FORMATTER"), (0, .class_ 132), (0, u "jdk/internal/util/Preconditions$3"), (3, u "IOOBE_FORMATTER")] 57

def k13m0 : Method := { name := "<init>", desc := "()V", sig := { parameters := [], returnType := none }, accessFlags := 1, code := none }
/-- jdk/internal/util/Preconditions -/
def k13 : Class := { plain "jdk/internal/util/Preconditions" (some 0) with
  accessFlags := 33
  interfaces := #[]
  cf := some (fileOf pool13 24 #[.nestMembers #[55, 131, 125, 114]] #[{ accessFlags := 1, nameIndex := 5, descriptorIndex := 6, attributes := #[] }] 33 2 #[] #[{ accessFlags := 25, nameIndex := 123, descriptorIndex := 124, attributes := #[] }, { accessFlags := 25, nameIndex := 130, descriptorIndex := 124, attributes := #[] }, { accessFlags := 25, nameIndex := 136, descriptorIndex := 124, attributes := #[] }])
  fields := #[{ name := "SIOOBE_FORMATTER", type := (.object "java/util/function/BiFunction"), accessFlags := 25, slot := 0, constantValue := 0 }, { name := "AIOOBE_FORMATTER", type := (.object "java/util/function/BiFunction"), accessFlags := 25, slot := 1, constantValue := 0 }, { name := "IOOBE_FORMATTER", type := (.object "java/util/function/BiFunction"), accessFlags := 25, slot := 2, constantValue := 0 }]
  methods := #[k13m0]
  instanceTypes := #[]
  staticTypes := #[(.object "java/util/function/BiFunction"), (.object "java/util/function/BiFunction"), (.object "java/util/function/BiFunction")]
  resolved := Array.replicate 194 none
  statics := some 1 }

def pool14 : Array CpInfo := pool [(9, u "<init>"), (6, .class_ 18), (1, u "java/lang/Object"), (0, u "()V"), (1, .class_ 23), (1, u "jdk/internal/util/ArraysSupport"), (0, u "LOG2_ARRAY_LONG_INDEX_SCALE"), (0, u "I"), (2, u "U"), (0, u "Ljdk/internal/misc/Unsafe;"), (8, u "BIG_ENDIAN"), (0, u "Z"), (8, u "LOG2_BYTE_BIT_SIZE"), (4, u "LOG2_ARRAY_INT_INDEX_SCALE"), (54, u "JLA"), (0, u "Ljdk/internal/access/JavaLangAccess;"), (11, u "LOG2_ARRAY_BOOLEAN_INDEX_SCALE"), (9, u "LOG2_ARRAY_BYTE_INDEX_SCALE"), (5, u "LOG2_ARRAY_CHAR_INDEX_SCALE"), (5, u "LOG2_ARRAY_SHORT_INDEX_SCALE"), (18, u "LOG2_ARRAY_FLOAT_INDEX_SCALE"), (24, u "LOG2_ARRAY_DOUBLE_INDEX_SCALE"), (89, u "T_BOOLEAN"), (2, u "T_CHAR"), (1, u "T_FLOAT"), (1, u "T_DOUBLE"), (1, u "T_BYTE"), (1, u "T_SHORT"), (1, u "T_INT"), (1, u "T_LONG"), (1, u "SOFT_MAX_ARRAY_LENGTH")] 83

def k14m0 : Method := { name := "<init>", desc := "()V", sig := { parameters := [], returnType := none }, accessFlags := 2, code := none }
/-- jdk/internal/util/ArraysSupport -/
def k14 : Class := { plain "jdk/internal/util/ArraysSupport" (some 0) with
  accessFlags := 33
  interfaces := #[]
  cf := some (fileOf pool14 21 #[] #[{ accessFlags := 2, nameIndex := 9, descriptorIndex := 19, attributes := #[] }] 33 16 #[] #[{ accessFlags := 24, nameIndex := 28, descriptorIndex := 29, attributes := #[] }, { accessFlags := 26, nameIndex := 38, descriptorIndex := 39, attributes := #[] }, { accessFlags := 25, nameIndex := 121, descriptorIndex := 25, attributes := #[] }, { accessFlags := 25, nameIndex := 131, descriptorIndex := 25, attributes := #[] }, { accessFlags := 25, nameIndex := 137, descriptorIndex := 25, attributes := #[] }, { accessFlags := 25, nameIndex := 143, descriptorIndex := 25, attributes := #[] }, { accessFlags := 25, nameIndex := 53, descriptorIndex := 25, attributes := #[] }, { accessFlags := 25, nameIndex := 24, descriptorIndex := 25, attributes := #[] }, { accessFlags := 25, nameIndex := 162, descriptorIndex := 25, attributes := #[] }, { accessFlags := 25, nameIndex := 187, descriptorIndex := 25, attributes := #[] }, { accessFlags := 26, nameIndex := 48, descriptorIndex := 25, attributes := #[] }, { accessFlags := 25, nameIndex := 277, descriptorIndex := 25, attributes := #[] }, { accessFlags := 25, nameIndex := 280, descriptorIndex := 25, attributes := #[] }, { accessFlags := 25, nameIndex := 282, descriptorIndex := 25, attributes := #[] }, { accessFlags := 25, nameIndex := 284, descriptorIndex := 25, attributes := #[] }, { accessFlags := 25, nameIndex := 286, descriptorIndex := 25, attributes := #[] }, { accessFlags := 25, nameIndex := 288, descriptorIndex := 25, attributes := #[] }, { accessFlags := 25, nameIndex := 290, descriptorIndex := 25, attributes := #[] }, { accessFlags := 25, nameIndex := 292, descriptorIndex := 25, attributes := #[] }, { accessFlags := 26, nameIndex := 108, descriptorIndex := 109, attributes := #[] }, { accessFlags := 25, nameIndex := 294, descriptorIndex := 25, attributes := #[] }])
  fields := #[{ name := "U", type := (.object "jdk/internal/misc/Unsafe"), accessFlags := 24, slot := 0, constantValue := 0 }, { name := "BIG_ENDIAN", type := .boolean, accessFlags := 26, slot := 1, constantValue := 0 }, { name := "LOG2_ARRAY_BOOLEAN_INDEX_SCALE", type := .int, accessFlags := 25, slot := 2, constantValue := 0 }, { name := "LOG2_ARRAY_BYTE_INDEX_SCALE", type := .int, accessFlags := 25, slot := 3, constantValue := 0 }, { name := "LOG2_ARRAY_CHAR_INDEX_SCALE", type := .int, accessFlags := 25, slot := 4, constantValue := 0 }, { name := "LOG2_ARRAY_SHORT_INDEX_SCALE", type := .int, accessFlags := 25, slot := 5, constantValue := 0 }, { name := "LOG2_ARRAY_INT_INDEX_SCALE", type := .int, accessFlags := 25, slot := 6, constantValue := 0 }, { name := "LOG2_ARRAY_LONG_INDEX_SCALE", type := .int, accessFlags := 25, slot := 7, constantValue := 0 }, { name := "LOG2_ARRAY_FLOAT_INDEX_SCALE", type := .int, accessFlags := 25, slot := 8, constantValue := 0 }, { name := "LOG2_ARRAY_DOUBLE_INDEX_SCALE", type := .int, accessFlags := 25, slot := 9, constantValue := 0 }, { name := "LOG2_BYTE_BIT_SIZE", type := .int, accessFlags := 26, slot := 10, constantValue := 0 }, { name := "T_BOOLEAN", type := .int, accessFlags := 25, slot := 11, constantValue := 0 }, { name := "T_CHAR", type := .int, accessFlags := 25, slot := 12, constantValue := 0 }, { name := "T_FLOAT", type := .int, accessFlags := 25, slot := 13, constantValue := 0 }, { name := "T_DOUBLE", type := .int, accessFlags := 25, slot := 14, constantValue := 0 }, { name := "T_BYTE", type := .int, accessFlags := 25, slot := 15, constantValue := 0 }, { name := "T_SHORT", type := .int, accessFlags := 25, slot := 16, constantValue := 0 }, { name := "T_INT", type := .int, accessFlags := 25, slot := 17, constantValue := 0 }, { name := "T_LONG", type := .int, accessFlags := 25, slot := 18, constantValue := 0 }, { name := "JLA", type := (.object "jdk/internal/access/JavaLangAccess"), accessFlags := 26, slot := 19, constantValue := 0 }, { name := "SOFT_MAX_ARRAY_LENGTH", type := .int, accessFlags := 25, slot := 20, constantValue := 0 }]
  methods := #[k14m0]
  instanceTypes := #[]
  staticTypes := #[(.object "jdk/internal/misc/Unsafe"), .boolean, .int, .int, .int, .int, .int, .int, .int, .int, .int, .int, .int, .int, .int, .int, .int, .int, .int, (.object "jdk/internal/access/JavaLangAccess"), .int]
  resolved := Array.replicate 378 none
  statics := none }

def pool15 : Array CpInfo := pool [(1, u "java/lang/Cloneable"), (0, .class_ 1), (0, u "java/lang/Object"), (0, .class_ 3)] 3

/-- java/lang/Cloneable -/
def k15 : Class := { plain "java/lang/Cloneable" (some 0) with
  accessFlags := 1537
  interfaces := #[]
  cf := some (fileOf pool15 2 #[] #[] 1537 4 #[] #[])
  fields := #[]
  methods := #[]
  instanceTypes := #[]
  staticTypes := #[]
  resolved := Array.replicate 8 none
  statics := none }

/-- the primitive byte -/
def k16 : Class := { plain "byte" none with kind := .primitive 'B', accessFlags := 0x411 }
/-- [B -/
def k17 : Class := { plain "[B" (some 0) with kind := .array 16 .byte, interfaces := #[15, 2], accessFlags := 1041 }

/-- the primitive char -/
def k18 : Class := { plain "char" none with kind := .primitive 'C', accessFlags := 0x411 }
/-- [C -/
def k19 : Class := { plain "[C" (some 0) with kind := .array 18 .char, interfaces := #[15, 2], accessFlags := 1041 }

/-- the primitive int -/
def k20 : Class := { plain "int" none with kind := .primitive 'I', accessFlags := 0x411 }
/-- [I -/
def k21 : Class := { plain "[I" (some 0) with kind := .array 20 .int, interfaces := #[15, 2], accessFlags := 1041 }

def heap : Heap := #[{ cls := 7, slots := #[.long 0, .int 1, .null, .int 0, .null, .int 0, .int 0], vm := .statics 7 },
  { cls := 13, slots := #[.null, .null, .null], vm := .statics 13 }]
def classes : Array Class := #[k0, k1, k2, k3, k4, k5, k6, k7, k8, k9, k10, k11, k12, k13, k14, k15, k16, k17, k18, k19, k20, k21]
def interned : List (Array UInt16 × Addr) := []
def slotsUsed : Nat := 10
def theMethod : MethodId := ⟨1, 1⟩
def args0 : Array Value := #[.int 5, .int 5, .long 5, .long 5, .long 5]
def aboutOver (below : List Frame) : State where
  vm := { classes := classes, interned := interned.toArray }
  heap := heap
  slotsUsed := slotsUsed
  threads := #[{ frames := .invoking theMethod args0 :: below }]
def below0 : List Frame := [.native { method := ⟨0, 0⟩, args := #[] }]
def about1 : State := aboutOver below0
def p0 : Program := .bare "" "" ""
def e0 : Env := launch0.env 0 0 0
theorem w_frames : about1.frames = Frame.invoking theMethod args0 :: below0 := rfl
set_option maxRecDepth 65536 in
theorem w_args : argsFit about1.vm theMethod args0 = true := by decide +kernel
set_option maxRecDepth 65536 in
theorem w_heap : heapFits about1 = true := by decide +kernel
set_option maxRecDepth 65536 in
theorem w_runnable : about1.curStatus? = some .runnable := by decide +kernel
set_option maxRecDepth 65536 in
theorem w_alone : about1.alone = true := by decide +kernel
set_option maxRecDepth 65536 in
theorem w_named : about1.methodNamed? x = some theMethod := by decide +kernel
set_option maxRecDepth 65536 in
theorem w_hears : about1.hears theMethod below0 = true := by decide +kernel
set_option maxRecDepth 65536 in
theorem w_ripe : about1.ripe theMethod args0 below0 = true := by decide +kernel
theorem w_running : about1.status = .running := rfl
set_option maxRecDepth 65536 in
theorem w_room : about1.hasRoom e0.platform room_1 = true :=
  launch0.hasRoom_least _ room_1 (by decide +kernel) (by decide +kernel) (by decide +kernel) (by decide +kernel) (by decide +kernel) (by decide +kernel)
theorem allAtoms_all (ts : List Jvm.Cond) (a : Array Jvm.Value) (st : Jvm.State) : (allAtoms ts).before a st = ts.all (fun c => c.before a st) := by
  induction ts with
  | nil => rfl
  | cons c t ih =>
    show (Jvm.Cond.and c (allAtoms t)).before a st = _
    rw [Jvm.Cond.before_and, ih, List.all_cons]
def words1 : List Jvm.Cond := Jvm.Cond.code x code maxLocals ret :: tables_1
/-- a 'code' word, met by the world's own term for the bytes: nothing is compared byte by byte -/
theorem code_word {y : MethodName} {bytes : ByteArray} {mx : Nat} {rt : Option FieldType} {a : Array Value} {s : State} {m : MethodId} {meth : Method} {c : Code} (h1 : s.methodNamed? y = some m) (h2 : s.vm.method? m = some meth) (h3 : meth.code = some c) (h4 : c.code = bytes)
    (h5 : (c.maxLocals == mx && c.exceptionTable.isEmpty && decide (c.maxStack ≤ mostOperands) && decide (meth.sig.returnType = rt) && !meth.locks && decide (parseMethodDescriptor y.desc = some meth.sig)) = true) : (Jvm.Cond.code y bytes mx rt).before a s = true := by
  simp only [Bool.and_eq_true, beq_iff_eq, Bool.not_eq_true', decide_eq_true_eq] at h5
  obtain ⟨⟨⟨⟨⟨g1, g2⟩, g3⟩, g4⟩, g5⟩, g6⟩ := h5
  simp [Cond.before, Cond.holds, Cond.value, h1, h2, h3, h4, g1, g2, g3, g4, g5, g6]
def isCode : Jvm.Cond → Bool
  | .code _ _ _ _ => true
  | _ => false
theorem all_split {L : List Jvm.Cond} {P : Jvm.Cond → Bool} (h1 : L.all (fun c => isCode c || P c) = true) (h2 : ∀ c ∈ L.filter isCode, P c = true) : L.all P = true := by
  refine List.all_eq_true.mpr fun c hc => ?_
  have h := List.all_eq_true.mp h1 c hc
  rcases Bool.eq_false_or_eq_true (isCode c) with hi | hi
  · exact h2 c (List.mem_filter.mpr ⟨hc, hi⟩)
  · simpa [hi] using h
set_option maxRecDepth 65536 in
theorem w_c0 : (Jvm.Cond.code x code maxLocals ret).before args0 about1 = true := code_word (m := ⟨1, 1⟩) (meth := k1m1) (c := k1c1) (by decide +kernel) rfl rfl rfl (by decide +kernel)
set_option maxRecDepth 65536 in
theorem w_c1 : (Jvm.Cond.code ({ cls := "java/lang/String", name := "valueOf", desc := "(C)Ljava/lang/String;" } : Jvm.MethodName) jdk_42_method_139_code (1 : Nat) (Option.some (Jvm.ClassFile.FieldType.object "java/lang/String"))).before args0 about1 = true := code_word (m := ⟨7, 2⟩) (meth := k7m2) (c := k7c2) (by decide +kernel) rfl rfl rfl (by decide +kernel)
set_option maxRecDepth 65536 in
theorem w_c2 : (Jvm.Cond.code ({ cls := "java/lang/StringLatin1", name := "canEncode", desc := "(C)Z" } : Jvm.MethodName) jdk_43_method_3_code (1 : Nat) (Option.some Jvm.ClassFile.FieldType.boolean)).before args0 about1 = true := code_word (m := ⟨8, 1⟩) (meth := k8m1) (c := k8c1) (by decide +kernel) rfl rfl rfl (by decide +kernel)
set_option maxRecDepth 65536 in
theorem w_c3 : (Jvm.Cond.code ({ cls := "java/lang/StringLatin1", name := "toBytes", desc := "(C)[B" } : Jvm.MethodName) jdk_43_method_46_code (1 : Nat) (Option.some (Jvm.ClassFile.FieldType.array Jvm.ClassFile.FieldType.byte))).before args0 about1 = true := code_word (m := ⟨8, 2⟩) (meth := k8m2) (c := k8c2) (by decide +kernel) rfl rfl rfl (by decide +kernel)
set_option maxRecDepth 65536 in
theorem w_c4 : (Jvm.Cond.code ({ cls := "java/lang/String", name := "<init>", desc := "([BB)V" } : Jvm.MethodName) jdk_42_method_151_code (3 : Nat) (Option.none : Option Jvm.ClassFile.FieldType)).before args0 about1 = true := code_word (m := ⟨7, 4⟩) (meth := k7m4) (c := k7c4) (by decide +kernel) rfl rfl rfl (by decide +kernel)
set_option maxRecDepth 65536 in
theorem w_c5 : (Jvm.Cond.code ({ cls := "java/lang/Object", name := "<init>", desc := "()V" } : Jvm.MethodName) object_method_1_code (1 : Nat) (Option.none : Option Jvm.ClassFile.FieldType)).before args0 about1 = true := code_word (m := ⟨0, 0⟩) (meth := k0m0) (c := k0c0) (by decide +kernel) rfl rfl rfl (by decide +kernel)
set_option maxRecDepth 65536 in
theorem w_c6 : (Jvm.Cond.code ({ cls := "com/example/partwise/partwise/Part", name := "<init>", desc := "(Ljava/lang/String;Ljava/lang/String;JLjava/lang/String;J)V" } : Jvm.MethodName) prog_54_method_1_code (8 : Nat) (Option.none : Option Jvm.ClassFile.FieldType)).before args0 about1 = true := code_word (m := ⟨10, 0⟩) (meth := k10m0) (c := k10c0) (by decide +kernel) rfl rfl rfl (by decide +kernel)
set_option maxRecDepth 65536 in
theorem w_c7 : (Jvm.Cond.code ({ cls := "java/lang/Record", name := "<init>", desc := "()V" } : Jvm.MethodName) jdk_30_method_1_code (1 : Nat) (Option.none : Option Jvm.ClassFile.FieldType)).before args0 about1 = true := code_word (m := ⟨9, 0⟩) (meth := k9m0) (c := k9c0) (by decide +kernel) rfl rfl rfl (by decide +kernel)
set_option maxRecDepth 65536 in
theorem w_c8 : (Jvm.Cond.code ({ cls := "java/util/Objects", name := "requireNonNull", desc := "(Ljava/lang/Object;Ljava/lang/String;)Ljava/lang/Object;" } : Jvm.MethodName) jdk_31_method_11_code (2 : Nat) (Option.some (Jvm.ClassFile.FieldType.object "java/lang/Object"))).before args0 about1 = true := code_word (m := ⟨11, 1⟩) (meth := k11m1) (c := k11c1) (by decide +kernel) rfl rfl rfl (by decide +kernel)
set_option maxRecDepth 65536 in
theorem w_c9 : (Jvm.Cond.code ({ cls := "com/example/partwise/partwise/Part", name := "inFile", desc := "()Z" } : Jvm.MethodName) prog_54_method_3_code (1 : Nat) (Option.some Jvm.ClassFile.FieldType.boolean)).before args0 about1 = true := code_word (m := ⟨10, 1⟩) (meth := k10m1) (c := k10c1) (by decide +kernel) rfl rfl rfl (by decide +kernel)
set_option maxRecDepth 65536 in
theorem w_c10 : (Jvm.Cond.code ({ cls := "com/example/partwise/partwise/Part", name := "asAddedBy", desc := "(J)Lcom/example/partwise/partwise/Part;" } : Jvm.MethodName) prog_54_method_5_code (3 : Nat) (Option.some (Jvm.ClassFile.FieldType.object "com/example/partwise/partwise/Part"))).before args0 about1 = true := code_word (m := ⟨10, 2⟩) (meth := k10m2) (c := k10c2) (by decide +kernel) rfl rfl rfl (by decide +kernel)
set_option maxRecDepth 65536 in
theorem w_c11 : (Jvm.Cond.code ({ cls := "java/lang/String", name := "<init>", desc := "([C)V" } : Jvm.MethodName) jdk_42_method_3_code (2 : Nat) (Option.none : Option Jvm.ClassFile.FieldType)).before args0 about1 = true := code_word (m := ⟨7, 1⟩) (meth := k7m1) (c := k7c1) (by decide +kernel) rfl rfl rfl (by decide +kernel)
set_option maxRecDepth 65536 in
theorem w_c12 : (Jvm.Cond.code ({ cls := "java/lang/String", name := "<init>", desc := "([CIILjava/lang/Void;)V" } : Jvm.MethodName) jdk_42_method_149_code (6 : Nat) (Option.none : Option Jvm.ClassFile.FieldType)).before args0 about1 = true := code_word (m := ⟨7, 3⟩) (meth := k7m3) (c := k7c3) (by decide +kernel) rfl rfl rfl (by decide +kernel)
set_option maxRecDepth 65536 in
theorem w_c13 : (Jvm.Cond.code ({ cls := "java/lang/StringUTF16", name := "compress", desc := "([CII)[B" } : Jvm.MethodName) jdk_52_method_16_code (6 : Nat) (Option.some (Jvm.ClassFile.FieldType.array Jvm.ClassFile.FieldType.byte))).before args0 about1 = true := code_word (m := ⟨12, 2⟩) (meth := k12m2) (c := k12c2) (by decide +kernel) rfl rfl rfl (by decide +kernel)
set_option maxRecDepth 65536 in
theorem w_c14 : (Jvm.Cond.code ({ cls := "java/lang/StringUTF16", name := "compress", desc := "([CI[BII)I" } : Jvm.MethodName) jdk_52_method_21_code (7 : Nat) (Option.some Jvm.ClassFile.FieldType.int)).before args0 about1 = true := code_word (m := ⟨12, 3⟩) (meth := k12m3) (c := k12c3) (by decide +kernel) rfl rfl rfl (by decide +kernel)
set_option maxRecDepth 65536 in
theorem w_c15 : (Jvm.Cond.code ({ cls := "java/lang/StringUTF16", name := "coderFromArrayLen", desc := "([BI)B" } : Jvm.MethodName) jdk_52_method_15_code (2 : Nat) (Option.some Jvm.ClassFile.FieldType.byte)).before args0 about1 = true := code_word (m := ⟨12, 1⟩) (meth := k12m1) (c := k12c1) (by decide +kernel) rfl rfl rfl (by decide +kernel)
def codes1 : List Jvm.Cond := [Jvm.Cond.code x code maxLocals ret, Jvm.Cond.code ({ cls := "java/lang/String", name := "valueOf", desc := "(C)Ljava/lang/String;" } : Jvm.MethodName) jdk_42_method_139_code (1 : Nat) (Option.some (Jvm.ClassFile.FieldType.object "java/lang/String")), Jvm.Cond.code ({ cls := "java/lang/StringLatin1", name := "canEncode", desc := "(C)Z" } : Jvm.MethodName) jdk_43_method_3_code (1 : Nat) (Option.some Jvm.ClassFile.FieldType.boolean), Jvm.Cond.code ({ cls := "java/lang/StringLatin1", name := "toBytes", desc := "(C)[B" } : Jvm.MethodName) jdk_43_method_46_code (1 : Nat) (Option.some (Jvm.ClassFile.FieldType.array Jvm.ClassFile.FieldType.byte)), Jvm.Cond.code ({ cls := "java/lang/String", name := "<init>", desc := "([BB)V" } : Jvm.MethodName) jdk_42_method_151_code (3 : Nat) (Option.none : Option Jvm.ClassFile.FieldType), Jvm.Cond.code ({ cls := "java/lang/Object", name := "<init>", desc := "()V" } : Jvm.MethodName) object_method_1_code (1 : Nat) (Option.none : Option Jvm.ClassFile.FieldType), Jvm.Cond.code ({ cls := "com/example/partwise/partwise/Part", name := "<init>", desc := "(Ljava/lang/String;Ljava/lang/String;JLjava/lang/String;J)V" } : Jvm.MethodName) prog_54_method_1_code (8 : Nat) (Option.none : Option Jvm.ClassFile.FieldType), Jvm.Cond.code ({ cls := "java/lang/Record", name := "<init>", desc := "()V" } : Jvm.MethodName) jdk_30_method_1_code (1 : Nat) (Option.none : Option Jvm.ClassFile.FieldType), Jvm.Cond.code ({ cls := "java/util/Objects", name := "requireNonNull", desc := "(Ljava/lang/Object;Ljava/lang/String;)Ljava/lang/Object;" } : Jvm.MethodName) jdk_31_method_11_code (2 : Nat) (Option.some (Jvm.ClassFile.FieldType.object "java/lang/Object")), Jvm.Cond.code ({ cls := "com/example/partwise/partwise/Part", name := "inFile", desc := "()Z" } : Jvm.MethodName) prog_54_method_3_code (1 : Nat) (Option.some Jvm.ClassFile.FieldType.boolean), Jvm.Cond.code ({ cls := "com/example/partwise/partwise/Part", name := "asAddedBy", desc := "(J)Lcom/example/partwise/partwise/Part;" } : Jvm.MethodName) prog_54_method_5_code (3 : Nat) (Option.some (Jvm.ClassFile.FieldType.object "com/example/partwise/partwise/Part")), Jvm.Cond.code ({ cls := "java/lang/String", name := "<init>", desc := "([C)V" } : Jvm.MethodName) jdk_42_method_3_code (2 : Nat) (Option.none : Option Jvm.ClassFile.FieldType), Jvm.Cond.code ({ cls := "java/lang/String", name := "<init>", desc := "([CIILjava/lang/Void;)V" } : Jvm.MethodName) jdk_42_method_149_code (6 : Nat) (Option.none : Option Jvm.ClassFile.FieldType), Jvm.Cond.code ({ cls := "java/lang/StringUTF16", name := "compress", desc := "([CII)[B" } : Jvm.MethodName) jdk_52_method_16_code (6 : Nat) (Option.some (Jvm.ClassFile.FieldType.array Jvm.ClassFile.FieldType.byte)), Jvm.Cond.code ({ cls := "java/lang/StringUTF16", name := "compress", desc := "([CI[BII)I" } : Jvm.MethodName) jdk_52_method_21_code (7 : Nat) (Option.some Jvm.ClassFile.FieldType.int), Jvm.Cond.code ({ cls := "java/lang/StringUTF16", name := "coderFromArrayLen", desc := "([BI)B" } : Jvm.MethodName) jdk_52_method_15_code (2 : Nat) (Option.some Jvm.ClassFile.FieldType.byte)]
set_option maxRecDepth 65536 in
theorem codes_eq : words1.filter isCode = codes1 := rfl
theorem w_codes : ∀ c ∈ words1.filter isCode, c.before args0 about1 = true := by
  rw [codes_eq]
  intro c hc
  simp only [codes1, List.mem_cons, List.not_mem_nil, or_false] at hc
  rcases hc with rfl | rfl | rfl | rfl | rfl | rfl | rfl | rfl | rfl | rfl | rfl | rfl | rfl | rfl | rfl | rfl
  · exact w_c0
  · exact w_c1
  · exact w_c2
  · exact w_c3
  · exact w_c4
  · exact w_c5
  · exact w_c6
  · exact w_c7
  · exact w_c8
  · exact w_c9
  · exact w_c10
  · exact w_c11
  · exact w_c12
  · exact w_c13
  · exact w_c14
  · exact w_c15
set_option maxRecDepth 65536 in
theorem w_t1 : (words1.take 24).all (fun c => isCode c || c.before args0 about1) = true := by decide +kernel
set_option maxRecDepth 65536 in
theorem w_t2 : ((words1.drop 24).take 24).all (fun c => isCode c || c.before args0 about1) = true := by decide +kernel
set_option maxRecDepth 65536 in
theorem w_t3 : (((words1.drop 24).drop 24).take 24).all (fun c => isCode c || c.before args0 about1) = true := by decide +kernel
set_option maxRecDepth 65536 in
theorem w_t4 : (((words1.drop 24).drop 24).drop 24).all (fun c => isCode c || c.before args0 about1) = true := by decide +kernel
theorem w_tables : (allAtoms (Jvm.Cond.code x code maxLocals ret :: tables_1)).before args0 about1 = true := by
  rw [allAtoms_all]
  show words1.all (fun c => c.before args0 about1) = true
  refine all_split ?_ w_codes
  rw [← List.take_append_drop 24 words1, List.all_append, w_t1, ← List.take_append_drop 24 (words1.drop 24), List.all_append, w_t2, ← List.take_append_drop 24 ((words1.drop 24).drop 24), List.all_append, w_t3, w_t4]
  rfl
set_option maxRecDepth 65536 in
theorem w_rest : rest_1_c.before args0 about1 = true := by decide +kernel
set_option maxRecDepth 65536 in
theorem w_case : (Jvm.Cond.and given_1 narrow_1).before args0 about1 = true := by decide +kernel
set_option maxRecDepth 65536 in
theorem w_consts : constsHeld consts_1 about1 := Jvm.Lit.constsHeldB_iff.mp (by decide +kernel)
theorem w_applies : (headSpec (Jvm.Cond.code x code maxLocals ret :: tables_1) room_1).applies x e0.platform about1 = true :=
  (Spec.applies_iff w_frames).mpr ⟨w_running, w_runnable, w_alone, w_named, w_hears, w_ripe, w_room, w_tables⟩
theorem atStart : AtStart classFile x code maxLocals ret World_1 tables_1 room_1 Calls_1 rest_1 Pre_1 launch0 p0 e0 about1 theMethod args0 below0 :=
  ⟨lists_1, trivial, launch0.admits_env _ _ _, launch0.least_env, fairChoices_fair.cas, fairChoices_fair.clock, w_frames, w_args, w_heap, w_applies, ⟨w_consts, trivial⟩, w_rest, w_case⟩
end start1
theorem witness_1 : WitnessClaimed_1 := ⟨start1.p0, start1.e0, start1.about1, start1.theMethod, start1.args0, start1.below0, start1.atStart⟩
end Jvm.Pilot.@@N@@
