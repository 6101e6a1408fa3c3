import JvmDerived
import JvmDerived.Pilot.@@N@@Statement
import JvmDerived.Pilot.@@N@@Code
set_option linter.unusedVariables false
set_option linter.unusedSimpArgs false
set_option maxRecDepth 65536
set_option maxHeartbeats 40000000
namespace Jvm.Pilot.@@N@@
open Jvm Jvm.ClassFile Sem Op Lib Jvm.Free Jvm.Stand Jvm.LawKit Jvm.RoadKit Bundle Jvm.Pilot.@@N@@.Jvm.D
/-! what a body's walk owes, in the manner of a continuation -/
section Own
variable {p : Program} {l : Launch} {e : Env} {R : Room} {s : State} {m : MethodId} {args : Array Value} {below : List Frame} {meth : Method} {c : Code} {T T' : State} {locs : List Loc} {cells slots : Nat} {Q Q' : Option Value → Heap → List Loc → Prop}
abbrev OMet (l : Launch) (Z : State) (y : MethodName) (bytes : ByteArray) (maxL : Nat) (ret : Option FieldType) (ws : List Jvm.Cond) (rm : Room) (as : Array Value) (h0 : Heap) (Q : Option Value → Heap → List Loc → Prop) : Prop :=
  MetFree l y (head1 (Jvm.Cond.code y bytes maxL ret :: ws) rm) (fun a U => a = as ∧ Z.Warmed39 U.vm ∧ U.heap = h0) (fun _ _ _ _ _ => True) (fun _ U o U' => ∃ v L, o = .returned v ∧ Q v U'.heap L ∧ FrameEnd U o U' L rm.cells rm.slots)
def OG (p : Program) (e : Env) (R : Room) (s : State) (below : List Frame) (Q : Option Value → Heap → List Loc → Prop) (T : State) (g : JFrame) : Prop :=
  ∃ s₂ o, Steps p.tables e below (T.setTop g) s₂ ∧ s₂.status = .running ∧ Ended s₂ below o ∧ ∃ v L, o = .returned v ∧ Q v s₂.heap L ∧ FrameEnd s o s₂ L R.cells R.slots
theorem own_st {g g' : JFrame} (h : ∀ t, Steps p.tables e below (T'.setTop g') t → Steps p.tables e below (T.setTop g) t) (k : OG p e R s below Q T' g') : OG p e R s below Q T g := by
  obtain ⟨s₂, o, h1, h2⟩ := k
  exact ⟨s₂, o, h _ h1, h2⟩
theorem own_sp {g g' : JFrame} {t : State} (h : ∀ t, Steps p.tables e below (T'.setTop g') t → Steps p.tables e below (T.setTop g) t) (k : Steps p.tables e below (T'.setTop g') t) : Steps p.tables e below (T.setTop g) t := h _ k
theorem own_cast {g g' : JFrame} (q : g = g') (k : OG p e R s below Q T g') : OG p e R s below Q T g := q ▸ k
theorem own_irr {x : Int64} : ¬ x < x := Int64.lt_irrefl
theorem own_if0 {cd : ClassFile.Cond} {x : Int32} {b : Bool} (h : if_icmp.holds cd x 0 = b) : ifCond.holds cd x = b := by rw [if0]; exact h
theorem own_retZ (X : Stand p l e R s m args below meth c T locs cells slots) (hx : p.tables.exec = Jvm.exec) {t : FieldType} (hret : meth.sig.returnType = some t) (ht : t = .boolean ∨ t = .byte ∨ t = .char ∨ t = .short) (hlk : meth.locks = false) {pc : Nat} {Ls : Array Slot} {z : Int32} {rest : List Value}
    (hd : decode c.code pc = .ok (.ireturn, 1)) (hc : cells ≤ R.cells) (hs : slots ≤ R.slots) {w : Int32} (hn : nar t z = w) (hq : Q (some (.int w)) T.heap locs) : OG p e R s below Q T (mkF m pc Ls (.int z :: rest)) := by
  subst hn
  obtain ⟨fs, hr, hrun, hended, hW, hsame⟩ := X.leave (v := some (.int (nar t z))) (fun h => by rw [hret] at h; cases h) hlk
  exact ⟨_, _, retN X hx hret ht hd hr, hrun, hended, _, _, rfl, hq, ⟨_, rfl⟩, hW, hsame.mono hc hs⟩
theorem own_retV (X : Stand p l e R s m args below meth c T locs cells slots) (hx : p.tables.exec = Jvm.exec) {t : FieldType} {i : Instr} {w : Value} (hret : meth.sig.returnType = some t) (hn : narrow t w = w)
    (hi : (i = .ireturn ∧ (t = .int ∨ t = .boolean ∨ t = .byte ∨ t = .char ∨ t = .short) ∧ ∃ z, w = .int z) ∨ (i = .lreturn ∧ t = .long ∧ ∃ z, w = .long z) ∨ (i = .dreturn ∧ t = .double ∧ ∃ z, w = .double z) ∨ (i = .freturn ∧ t = .float ∧ ∃ z, w = .float z) ∨ (i = .areturn ∧ t.isReference = true ∧ w.isRef = true))
    (hlk : meth.locks = false) {pc : Nat} {Ls : Array Slot} {rest : List Value}
    (hd : decode c.code pc = .ok (i, 1)) (hc : cells ≤ R.cells) (hs : slots ≤ R.slots) (hq : Q (some w) T.heap locs) : OG p e R s below Q T (mkF m pc Ls (w :: rest)) := by
  obtain ⟨fs, hr, hrun, hended, hW, hsame⟩ := X.leave (v := some w) (fun h => by rw [hret] at h; cases h) hlk
  exact ⟨_, _, retOut X hx hret hn hi hd hr, hrun, hended, _, _, rfl, hq, ⟨_, rfl⟩, hW, hsame.mono hc hs⟩
theorem own_retI (X : Stand p l e R s m args below meth c T locs cells slots) (hx : p.tables.exec = Jvm.exec) (hret : meth.sig.returnType = some .int) (hlk : meth.locks = false) {pc : Nat} {Ls : Array Slot} {z : Int32} {rest : List Value}
    (hd : decode c.code pc = .ok (.ireturn, 1)) (hc : cells ≤ R.cells) (hs : slots ≤ R.slots) (hq : Q (some (.int z)) T.heap locs) : OG p e R s below Q T (mkF m pc Ls (.int z :: rest)) :=
  own_retV X hx hret rfl (Or.inl ⟨rfl, Or.inl rfl, _, rfl⟩) hlk hd hc hs hq
theorem own_retL (X : Stand p l e R s m args below meth c T locs cells slots) (hx : p.tables.exec = Jvm.exec) (hret : meth.sig.returnType = some .long) (hlk : meth.locks = false) {pc : Nat} {Ls : Array Slot} {z : Int64} {rest : List Value}
    (hd : decode c.code pc = .ok (.lreturn, 1)) (hc : cells ≤ R.cells) (hs : slots ≤ R.slots) (hq : Q (some (.long z)) T.heap locs) : OG p e R s below Q T (mkF m pc Ls (.long z :: rest)) :=
  own_retV X hx hret rfl (Or.inr (Or.inl ⟨rfl, rfl, _, rfl⟩)) hlk hd hc hs hq
theorem own_ret0 (X : Stand p l e R s m args below meth c T locs cells slots) (hx : p.tables.exec = Jvm.exec) (hret : meth.sig.returnType = none) (hlk : meth.locks = false) {pc : Nat} {Ls : Array Slot}
    (hd : decode c.code pc = .ok (.return_, 1)) (hc : cells ≤ R.cells) (hs : slots ≤ R.slots) (hq : Q none T.heap locs) : OG p e R s below Q T (mkF m pc Ls []) := by
  obtain ⟨fs, hr, hrun, hended, hW, hsame⟩ := X.leave (v := none) (fun _ => rfl) hlk
  exact ⟨_, _, X.returnOut hx hret hd hr, hrun, hended, _, _, rfl, hq, ⟨_, rfl⟩, hW, hsame.mono hc hs⟩
theorem own_enter {Z : State} {y : MethodName} {bytes : ByteArray} {maxL : Nat} {ret : Option FieldType} {ws : List Jvm.Cond} {rm : Room} {as : Array Value} {h0 : Heap} (hp : plainFor y = true)
    (body : ∀ (p : Program) (e : Env) (s : State) (m : MethodId) (below : List Frame) (meth : Method) (c : Code) (s₁ : State), p.tables.exec = Jvm.exec → c.code = bytes → c.maxLocals = maxL → s.vm.findClass y.cls = some m.cls → meth.sig.returnType = ret → meth.locks = false → meth.name = y.name → Z.Warmed39 s.vm →
      Stand p l e rm s m as below meth c s₁ [] 0 0 → s₁.heap = h0 → OG p e rm s below Q s₁ (entryFrame m as maxL)) : OMet l Z y bytes maxL ret ws rm as h0 Q := by
  refine MetFree.of_bodySF hp hisR ?_
  intro p e s m args below meth c s₁ Bd hml0 hP hK
  obtain ⟨rfl, hZ, hh⟩ := hP
  exact body p e s m below meth c s₁ Bd.exec Bd.bytes hml0 (findClass_of_methodNamed Bd.named) Bd.returns Bd.notSynchronized (name_of_methodNamed Bd.named Bd.method).1 hZ (Stand.of_body Bd) (by rw [← hh, Bd.state]; rfl)
end Own
section OwnH
variable {Z : State} {h h' h0 : Heap} {a b : Addr} {ty : FieldType} {vs : List Value} {n sl : Nat} {v : Value} {ws : List Addr}
/-- an array, by the whole list of what it holds -/
def OA (Z : State) (h : Heap) (a : Addr) (ty : FieldType) (vs : List Value) : Prop := ∃ c : Cell, Arr Z h a c ty ∧ c.slots.toList = vs
/-- an array, by its length alone -/
def OL (Z : State) (h : Heap) (a : Addr) (ty : FieldType) (n : Nat) : Prop := ∃ c : Cell, Arr Z h a c ty ∧ c.slots.size = n
theorem OA.lt (F : OA Z h a ty vs) : a < h.size := by obtain ⟨c, A, -⟩ := F; exact A.lt
theorem OL.lt (F : OL Z h a ty n) : a < h.size := by obtain ⟨c, A, -⟩ := F; exact A.lt
theorem OA.ext (F : OA Z h a ty vs) (E : Ext h h') : OA Z h' a ty vs := by obtain ⟨c, A, r⟩ := F; exact ⟨c, A.ext E, r⟩
theorem OL.ext (F : OL Z h a ty n) (E : Ext h h') : OL Z h' a ty n := by obtain ⟨c, A, r⟩ := F; exact ⟨c, A.ext E, r⟩
theorem OA.other (F : OA Z h b ty vs) (W : Wr h h' a sl v) (q : b ≠ a) : OA Z h' b ty vs := by obtain ⟨c, A, r⟩ := F; exact ⟨c, A.other W q, r⟩
theorem OL.other (F : OL Z h b ty n) (W : Wr h h' a sl v) (q : b ≠ a) : OL Z h' b ty n := by obtain ⟨c, A, r⟩ := F; exact ⟨c, A.other W q, r⟩
theorem OA.keep (F : OA Z h a ty vs) (K : Keep h h' ws) (q : a ∉ ws) : OA Z h' a ty vs := by obtain ⟨c, A, r⟩ := F; exact ⟨c, ⟨K.2.1 a c A.1 q, A.2⟩, r⟩
theorem OL.keep (F : OL Z h a ty n) (K : Keep h h' ws) (q : a ∉ ws) : OL Z h' a ty n := by obtain ⟨c, A, r⟩ := F; exact ⟨c, ⟨K.2.1 a c A.1 q, A.2⟩, r⟩
theorem OA.new {k : ClassId} {z : Int32} (A : Arr Z h a (newA k ty z) ty) : OA Z h a ty (List.replicate z.toNatClampNeg (defaultValue ty)) := ⟨_, A, by show (Array.replicate _ _).toList = _; exact Array.toList_replicate⟩
theorem OL.new {k : ClassId} {z : Int32} (A : Arr Z h a (newA k ty z) ty) : OL Z h a ty z.toNatClampNeg := ⟨_, A, sz_new _ _ _⟩
theorem OA.len (F : OA Z h a ty vs) : ∃ c : Cell, Arr Z h a c ty ∧ c.slots.size = vs.length := by obtain ⟨c, A, r⟩ := F; exact ⟨c, A, by rw [← r]; simp⟩
theorem OA.set {j : Int32} {i : Nat} (F : OA Z h a ty vs) (W : Wr h h' a j.toNatClampNeg v) (hj : j.toNatClampNeg = i) : OA Z h' a ty (vs.set i v) := by
  obtain ⟨c, A, r⟩ := F
  refine ⟨_, A.same W, ?_⟩
  subst hj r
  show (c.slots.setIfInBounds _ _).toList = _
  exact Array.toList_setIfInBounds
theorem OL.set {j : Int32} (F : OL Z h a ty n) (W : Wr h h' a j.toNatClampNeg v) : OL Z h' a ty n := by
  obtain ⟨c, A, r⟩ := F
  exact ⟨_, A.same W, by rw [sz_set]; exact r⟩
theorem own_rd (F : OA Z h a ty vs) {j : Int32} {i : Nat} (hj : j.toNatClampNeg = i) (hn : ¬ j < 0) (hv : vs[i]? = some v) : ∃ c : Cell, Arr Z h a c ty ∧ ¬ (j < 0 ∨ c.slots.size ≤ j.toNatClampNeg) ∧ c.slots[j.toNatClampNeg]? = some v := by
  obtain ⟨c, A, r⟩ := F
  subst hj r
  rw [Array.getElem?_toList] at hv
  refine ⟨c, A, fun q => ?_, hv⟩
  rcases q with q | q
  · exact hn q
  · have := (Array.getElem?_eq_some_iff.mp hv).1; omega
theorem own_wr (F : OA Z h a ty vs) {j : Int32} {i : Nat} (hj : j.toNatClampNeg = i) (hn : ¬ j < 0) (hi : i < vs.length) : ∃ c : Cell, Arr Z h a c ty ∧ ¬ (j < 0 ∨ c.slots.size ≤ j.toNatClampNeg) := by
  obtain ⟨c, A, r⟩ := F
  subst hj r
  rw [Array.length_toList] at hi
  refine ⟨c, A, fun q => ?_⟩
  rcases q with q | q
  · exact hn q
  · omega
theorem own_wrL (F : OL Z h a ty n) {j : Int32} (hj : ¬ j < 0 ∧ j.toNatClampNeg < n) : ∃ c : Cell, Arr Z h a c ty ∧ ¬ (j < 0 ∨ c.slots.size ≤ j.toNatClampNeg) := by
  obtain ⟨c, A, r⟩ := F
  subst r
  exact ⟨c, A, fun q => by rcases q with q | q; exact hj.1 q; omega⟩
theorem own_acN {x y : Addr} (h : x ≠ y) : if_acmp.holds .ne (some x) (some y) = true ∧ if_acmp.holds .eq (some x) (some y) = false := by simp [if_acmp.holds, h]
theorem own_plE {C : String} (E : Exa Z h a C) : ∀ cell : Cell, h[a]? = some cell → cell.vm.isStatics = false := fun cell q => by obtain ⟨c, k, h1, -, -, h4, -⟩ := E; cases h1.symm.trans q; exact h4
theorem own_plA (F : OA Z h a ty vs) : ∀ cell : Cell, h[a]? = some cell → cell.vm.isStatics = false := fun cell q => by obtain ⟨c, A, -⟩ := F; cases A.1.symm.trans q; exact A.plain
theorem own_plL (F : OL Z h a ty n) : ∀ cell : Cell, h[a]? = some cell → cell.vm.isStatics = false := fun cell q => by obtain ⟨c, A, -⟩ := F; cases A.1.symm.trans q; exact A.plain
theorem own_staK {C f d : String} {w : Value} (F : Sta Z h C f d w) (K : Keep h h' ws) (hp : ∀ x ∈ ws, ∀ cell : Cell, h[x]? = some cell → cell.vm.isStatics = false) : Sta Z h' C f d w := by
  obtain ⟨cf, i, k, g, st, cell, h1, h2, h3, h4, h5, h6, h7⟩ := F
  exact ⟨cf, i, k, g, st, cell, h1, h2, h3, h4, K.2.1 st cell h5 (fun q => by rw [hp st q cell h5] at h6; cases h6), h6, h7⟩
theorem own_selp {s : State} {y : MethodName} {a0 args : Array Value} {k : Nat} (hZ : Z.Warmed39 s.vm) (wi : (Jvm.Cond.instantiable y.cls k).before a0 Z = true) (wp : (Jvm.Cond.privateMethod y).before a0 Z = true) (wm : (Jvm.Cond.instanceMethod y).before a0 Z = true) (hy : y.cls ≠ "java/lang/invoke/MethodHandle" ∧ y.cls ≠ "java/lang/invoke/VarHandle") : (Jvm.Cond.selects y.cls y y).before args s = true := by
  have wi' : (Jvm.Cond.instantiable y.cls k).before args s = true := mv hZ wi
  obtain ⟨c, kc, i1, i2, -, i4, -⟩ := Cond.instantiable_spec wi'
  exact selects_self_of_private i1 i2 (Bool.or_eq_false_iff.mp i4).1 (Cond.privateMethod_at (mvP hZ wp (args := args))) (mvT hZ wm) hy
theorem own_all0 {P : Addr → Prop} : ∀ x ∈ ([] : List Addr), P x := fun x hx => by cases hx
theorem own_all1 {P : Addr → Prop} {a : Addr} (h : P a) : ∀ x ∈ [a], P x := fun x hx => by simp only [List.mem_cons, List.not_mem_nil, or_false] at hx; subst hx; exact h
theorem own_all2 {P : Addr → Prop} {a b : Addr} (h : P a) (h2 : P b) : ∀ x ∈ [a, b], P x := fun x hx => by
  simp only [List.mem_cons, List.not_mem_nil, or_false] at hx; rcases hx with rfl | rfl; exact h; exact h2
theorem own_all3 {P : Addr → Prop} {a b c : Addr} (h : P a) (h2 : P b) (h3 : P c) : ∀ x ∈ [a, b, c], P x := fun x hx => by
  simp only [List.mem_cons, List.not_mem_nil, or_false] at hx; rcases hx with rfl | rfl | rfl; exact h; exact h2; exact h3
theorem own_all4 {P : Addr → Prop} {a b c d : Addr} (h : P a) (h2 : P b) (h3 : P c) (h4 : P d) : ∀ x ∈ [a, b, c, d], P x := fun x hx => by
  simp only [List.mem_cons, List.not_mem_nil, or_false] at hx; rcases hx with rfl | rfl | rfl | rfl; exact h; exact h2; exact h3; exact h4
theorem own_nin0 {x : Addr} : x ∉ ([] : List Addr) := List.not_mem_nil
theorem own_nin1 {x a : Addr} (h : x ≠ a) : x ∉ [a] := by simp [h]
theorem own_nin2 {x a b : Addr} (h : x ≠ a) (h2 : x ≠ b) : x ∉ [a, b] := by simp [h, h2]
theorem own_nin3 {x a b c : Addr} (h : x ≠ a) (h2 : x ≠ b) (h3 : x ≠ c) : x ∉ [a, b, c] := by simp [h, h2, h3]
theorem own_nin4 {x a b c d : Addr} (h : x ≠ a) (h2 : x ≠ b) (h3 : x ≠ c) (h4 : x ≠ d) : x ∉ [a, b, c, d] := by simp [h, h2, h3, h4]
end OwnH
section OwnS
variable {p : Program} {l : Launch} {e : Env} {R : Room} {s : State} {m : MethodId} {args : Array Value} {below : List Frame} {meth : Method} {c : Code} {T T' Z : State} {locs : List Loc} {cells slots : Nat} {Q Q' : Option Value → Heap → List Loc → Prop} {EL : List (String × Nat)} {vm : Vm} {k0 : Nat} {h h0 : Heap}
abbrev OMetS (l : Launch) (Z : State) (EL : List (String × Nat)) (y : MethodName) (bytes : ByteArray) (maxL : Nat) (ret : Option FieldType) (ws : List Jvm.Cond) (rm : Room) (as : Array Value) (h0 : Heap) (Q : Option Value → Heap → List Loc → Prop) : Prop :=
  MetFree l y (head1 (Jvm.Cond.code y bytes maxL ret :: ws) rm) (fun a U => a = as ∧ Z.Warmed39 U.vm ∧ U.heap = h0 ∧ CHv Z EL U.vm h0) (fun _ _ _ _ _ => True) (fun _ U o U' => ∃ v L, o = .returned v ∧ Q v U'.heap L ∧ CHr Z EL U.vm U.heap U'.vm U'.heap ∧ ReturnedEndW U o U' L rm.cells rm.slots)
def OGS (Z : State) (EL : List (String × Nat)) (p : Program) (e : Env) (R : Room) (s : State) (below : List Frame) (Q : Option Value → Heap → List Loc → Prop) (T : State) (g : JFrame) : Prop :=
  ∃ s₂ o, Steps p.tables e below (T.setTop g) s₂ ∧ s₂.status = .running ∧ Ended s₂ below o ∧ ∃ v L, o = .returned v ∧ Q v s₂.heap L ∧ CHr Z EL s.vm s.heap s₂.vm s₂.heap ∧ ReturnedEndW s o s₂ L R.cells R.slots
theorem own_stS {g g' : JFrame} (h : ∀ t, Steps p.tables e below (T'.setTop g') t → Steps p.tables e below (T.setTop g) t) (k : OGS Z EL p e R s below Q T' g') : OGS Z EL p e R s below Q T g := by
  obtain ⟨s₂, o, h1, h2⟩ := k
  exact ⟨s₂, o, h _ h1, h2⟩
theorem own_castS {g g' : JFrame} (q : g = g') (k : OGS Z EL p e R s below Q T g') : OGS Z EL p e R s below Q T g := q ▸ k
theorem own_endS (X : Stand p l e R (s.setVm vm) m args below meth c T locs cells slots) (hlk : meth.locks = false) (hZ : Z.Warmed39 vm) (hEL : EW Z a0 EL) (eT : T.heap = h) (hs0 : s.heap = h0) (hS : s.Since vm k0) (hk : k0 ≤ h.size) (CH : CHv Z EL vm h) (CR : CHr Z EL s.vm h0 vm h) {v : Option Value} (hv : meth.sig.returnType = none → v = none) (hc : cells ≤ R.cells) (hs : slots ≤ R.slots) (hq : Q v h locs)
    {g : JFrame} (k : ∀ fs, (∀ (f : JFrame) (acts : List Action), f.method = m → f.locked = none → f.entered = [] → (doReturn e (T.setTop f) acts v).1 = T.setFrames fs) → Steps p.tables e below (T.setTop g) (T.setFrames fs)) : OGS Z EL p e R s below Q T g := by
  obtain ⟨fs, hr, hrun, hended, hW, hsame⟩ := X.leave (v := v) hv hlk
  subst eT
  have hC := CHr.trans CR (CHv.at X hZ hEL CH)
  rw [← hs0] at hC
  obtain ⟨r1, r2, r3⟩ := hS.ended (U := T.setFrames fs) hW hk hsame
  exact ⟨_, _, k fs hr, hrun, hended, _, _, rfl, hq, hC, ⟨_, rfl⟩, r1, r2, r3.mono hc hs⟩
theorem own_enterS {y : MethodName} {bytes : ByteArray} {maxL : Nat} {ret : Option FieldType} {ws : List Jvm.Cond} {rm : Room} {as : Array Value} (hp : plainFor y = true)
    (body : ∀ (p : Program) (e : Env) (s : State) (m : MethodId) (below : List Frame) (meth : Method) (c : Code) (s₁ : State), p.tables.exec = Jvm.exec → c.code = bytes → c.maxLocals = maxL → s.vm.findClass y.cls = some m.cls → meth.sig.returnType = ret → meth.locks = false → meth.name = y.name → Z.Warmed39 s.vm →
      Stand p l e rm (s.setVm s.vm) m as below meth c s₁ [] 0 0 → s₁.heap = h0 → s.heap = h0 → CHv Z EL s.vm h0 → OGS Z EL p e rm s below Q s₁ (entryFrame m as maxL)) : OMetS l Z EL y bytes maxL ret ws rm as h0 Q := by
  refine MetFree.of_bodySF hp hisR ?_
  intro p e s m args below meth c s₁ Bd hml0 hP hK
  obtain ⟨rfl, hZ, hh, hC⟩ := hP
  exact body p e s m below meth c s₁ Bd.exec Bd.bytes hml0 (findClass_of_methodNamed Bd.named) Bd.returns Bd.notSynchronized (name_of_methodNamed Bd.named Bd.method).1 hZ (Stand.of_body Bd) (by rw [← hh, Bd.state]; rfl) hh hC
theorem own_safeA {ty : FieldType} {x : Addr} {vs : List Value} (hal : Z.vm.Alike vm) (F : OA Z h x ty vs) (ht : ty ≠ .byte) : Safe Z EL vm h x := by obtain ⟨c, A, -⟩ := F; exact Safe.arr hal A ht
theorem own_oaV {b : Addr} {kc : ClassId} {z : Int32} {vs : List Value} {d : Value} (F : Arv Z h b kc .byte z vs d) (hl : z.toNatClampNeg = vs.length := by decide) : OA Z h b .byte vs := by
  obtain ⟨c, A, -, S, -, H, -⟩ := F
  refine ⟨c, A, List.ext_getElem? fun i => ?_⟩
  rw [Array.getElem?_toList]
  by_cases q : i < c.slots.size
  · rw [H i q, List.getD_eq_getElem?_getD, List.getElem?_eq_getElem (by omega)]; rfl
  · rw [Array.getElem?_eq_none (by omega), List.getElem?_eq_none (by omega)]
theorem own_raw {x : Addr} (hal : Z.vm.Alike vm) (E : Exa Z h x "java/lang/String") (F : Fld Z h x "java/lang/String" "value" "[B" .null) : Safe Z EL vm h x := fun B => by
  obtain ⟨p, hp, u, a, hb, q, hq, G, hx⟩ := B
  rcases hx with rfl | rfl
  · obtain ⟨cS, ⟨⟨s1, s2, s3, ⟨cv, kv, iv, s4, s4'⟩, -, s6, s7, s8, -⟩, -⟩, -⟩ := G
    obtain ⟨cell, cf, k, i, f, h1, h2, h3, h4, h5, h6, h7⟩ := F
    obtain ⟨k', z4⟩ := ff_back (U := Wst Z vm h) hal s4
    cases h1.symm.trans s1
    have e := h2.symm.trans z4
    simp only [Option.some.injEq, Prod.mk.injEq] at e
    rw [← e.2.2.2, h7] at s8
    cases s8
  · have hd := G.hd
    obtain ⟨cS, -, -, hB, -⟩ := G
    obtain ⟨cell, k, h1, h2, -⟩ := E
    cases h1.symm.trans hd
    have hB' : Z.vm.findClass "[B" = some q.SA.cls := by rw [← hal.findClass]; exact hB
    obtain ⟨k1, a1, a2⟩ := Vm.findClass_spec h2
    obtain ⟨k2, b1, b2⟩ := Vm.findClass_spec hB'
    cases a1.symm.trans b1
    exact absurd (a2.symm.trans b2) (by decide)
end OwnS
/-! a class that is no interface, said by another word; the native copy -/
section OwnB
variable {Z s : State} {a0 args : Array Value} {h : Heap}
theorem own_ni {C : String} {y : MethodName} (w : (Jvm.Cond.selects C y y).before a0 Z = true) : ∃ c k, Z.vm.findClass y.cls = some c ∧ Z.vm.classes[c]? = some k ∧ k.isInterface = false := by
  obtain ⟨c, r, m, -, -, h3, -, mk, h5, h6⟩ := Cond.selects_spec w
  exact ⟨m.cls, mk, findClass_of_methodNamed h3, h5, h6⟩
theorem own_same {C : String} {y y' : MethodName} (wm : (Jvm.Cond.instanceMethod y).before a0 Z = true) (w : (Jvm.Cond.selects C y' y').before a0 Z = true) (hc : y'.cls = y.cls) (hy : y.cls ≠ "java/lang/invoke/MethodHandle" ∧ y.cls ≠ "java/lang/invoke/VarHandle") : (Jvm.Cond.sameMethod y.cls y.cls y.name y.desc).before a0 Z = true := by
  obtain ⟨mk, meth, hn, -⟩ := Cond.instanceMethod_spec wm
  obtain ⟨c, k, h1, h2, h3⟩ := own_ni w
  rw [hc] at h1
  have hf := State.methodFound?_of_named hn hy
  have hn' : Z.methodNamed? ⟨y.cls, y.name, y.desc⟩ = some mk := hn
  simp [Cond.before, Cond.holds, Cond.value, h1, hf, hn', h2, h3]
theorem own_nf {C : String} {y y' : MethodName} (w : (Jvm.Cond.selects C y' y').before args s = true) (hc : y'.cls = y.cls) : NotFace s y := fun r0 h0 => by
  obtain ⟨c, k, h1, h2, h3⟩ := own_ni w
  have q := findClass_of_methodNamed h0
  rw [← hc, h1] at q
  cases q
  exact ⟨k, h2, h3⟩
theorem own_selp2 {C : String} {y : MethodName} (hZ : Z.Warmed39 s.vm) (w : (Jvm.Cond.selects C y y).before a0 Z = true) (wp : (Jvm.Cond.privateMethod y).before a0 Z = true) (wm : (Jvm.Cond.instanceMethod y).before a0 Z = true) (hy : y.cls ≠ "java/lang/invoke/MethodHandle" ∧ y.cls ≠ "java/lang/invoke/VarHandle") : (Jvm.Cond.selects y.cls y y).before args s = true := by
  obtain ⟨c, k, h1, h2, h3⟩ := own_ni (mvT (args := args) hZ w)
  exact selects_self_of_private h1 h2 h3 (Cond.privateMethod_at (mvP hZ wp (args := args))) (mvT hZ wm) hy
/-- every component is a byte -/
def Byt (vs : List Value) : Prop := ∀ v ∈ vs, fits .byte v = true
theorem own_fb (x : Int32) : fits .byte (.int (nar .byte x)) = true := Jvm.Joins.fits_int8 x.toInt8
theorem Byt.nil : Byt [] := fun v hv => by cases hv
theorem Byt.cons {x : Int32} {vs : List Value} (h : Byt vs) : Byt (.int (nar .byte x) :: vs) := fun v hv => by
  rcases List.mem_cons.mp hv with rfl | hv
  · exact own_fb x
  · exact h v hv
theorem Byt.zero {vs : List Value} (h : Byt vs) : Byt (.int (0 : Int32) :: vs) := fun v hv => by
  rcases List.mem_cons.mp hv with rfl | hv
  · decide
  · exact h v hv
theorem own_arv {a : Addr} {vs : List Value} {z : Int32} (F : OA Z h a .byte vs) (hb : Byt vs) (hz : z.toNatClampNeg = vs.length) (hn : ¬ z < 0) : ∃ k, Arv Z h a k .byte z vs (.int 0) := by
  obtain ⟨c, A, r⟩ := F
  subst r
  refine ⟨c.cls, c, A, rfl, by rw [hz]; simp, hn, ?_, fun i hi => ?_⟩
  · intro i hi
    rw [List.getD_eq_getElem?_getD, Array.getElem?_toList, Array.getElem?_eq_getElem hi]; rfl
  · rw [List.getD_eq_getElem?_getD, Array.getElem?_toList, Array.getElem?_eq_getElem hi]
    exact hb _ (by simp)
theorem own_cp {p : Program} {l : Launch} {e : Env} {R : Room} {m : MethodId} {below : List Frame} {meth : Method} {c : Code} {T : State} {locs : List Loc} {cells slots : Nat} (X : Stand p l e R s m args below meth c T locs cells slots) (hx : p.tables.exec = Jvm.exec) (hZ : Z.Warmed39 s.vm) {own : String} {index : Nat} (hown : s.vm.findClass own = some m.cls)
    (w1 : (Jvm.Cond.methodLink own index Jvm.Stand.acN).before a0 Z = true) (w2 : (Jvm.Cond.native Jvm.Stand.acN).before a0 Z = true) (w3 : (Jvm.Cond.static Jvm.Stand.acN).before a0 Z = true) (w4 : (Jvm.Cond.initialized "java/lang/System").before a0 Z = true) (eT : T.heap = h)
    {a b : Addr} {vs vd us res : List Value} (A : OA Z h a .byte vs) (B : OA Z h b .byte vd) (hA : Byt vs) (hB : Byt vd) {z z' sp dp nn : Int32} {S D K : Nat} (hz : z.toNatClampNeg = vs.length) (hzn : ¬ z < 0) (hz' : z'.toNatClampNeg = vd.length) (hzn' : ¬ z' < 0)
    (h1 : ¬ sp < 0) (h2 : ¬ dp < 0) (h3 : ¬ nn < 0) (hS : sp.toNatClampNeg = S) (hD : dp.toNatClampNeg = D) (hK : nn.toNatClampNeg = K) (h4 : S + K ≤ vs.length) (h5 : D + K ≤ vd.length) (hus : us = (List.range K).map fun i => vs.getD (S + i) (.int 0)) (hr : vd.take D ++ us ++ vd.drop (D + K) = res) (hl : vd.length = res.length)
    {n0 : Nat} (N : Fr n0 locs) (ge : n0 ≤ b) {g : JFrame} (hg : g.method = m) (hsize : g.locals.size = c.maxLocals) {rest : List Value} (hs : g.stack = .int nn :: .int dp :: .ref b :: .int sp :: .ref a :: rest) (hd : decode c.code g.pc = .ok (.invokestatic index, 3))
    (hf : 1 ≤ R.frames) {W : Nat} (hW : 2 * g.monitorRoom + (rest.map fun v => v.category).sum ≤ W) (hlo : W + 18 ≤ R.locals) :
    ∃ T' h' L, Stand p l e R s m args below meth c T' L cells slots ∧ T'.heap = h' ∧ Fr n0 L ∧ Keep h h' [b] ∧ OA Z h' b .byte res ∧ ∀ target, Steps p.tables e below (T'.setTop { g with pc := g.pc + 3, stack := rest }) target → Steps p.tables e below (T.setTop g) target := by
  obtain ⟨k, A'⟩ := own_arv A hA hz hzn
  obtain ⟨k', B'⟩ := own_arv B hB hz' hzn'
  subst hS hD hK
  obtain ⟨T', h', L, X', e', N', K', F, st⟩ := cpA X hx hZ hown w1 w2 w3 w4 eT A' B' (Or.inl ⟨rfl, rfl⟩) h1 h2 h3 (by rw [hz]; exact h4) (by rw [hz']; exact h5) hus (by exact h5) N ge hg hsize hs hd hf hW hlo
  subst hr
  exact ⟨T', h', L, X', e', N', K', own_oaV F (hz'.trans hl), st⟩
end OwnB
section Sq
variable {p : Program} {l : Launch} {e : Env} {R : Room} {s : State} {m : MethodId} {args : Array Value} {below : List Frame} {meth : Method} {c : Code} {T Z : State} {locs : List Loc} {cells slots : Nat} {P : State → JFrame → Prop} {bytes : ByteArray} {pc : Nat} {L : Array Slot} {S : List Value} {a0 : Array Value} {h : Heap}
abbrev BX (p : Program) (c : Code) (bytes : ByteArray) : Prop := p.tables.exec = Jvm.exec ∧ c.code = bytes
abbrev CL (p : Program) (e : Env) (below : List Frame) (P : State → JFrame → Prop) : Prop := ∀ (T T' : State) (g g' : JFrame), (∀ t, Steps p.tables e below (T'.setTop g') t → Steps p.tables e below (T.setTop g) t) → P T' g' → P T g
theorem OGc {Q : Option Value → Heap → List Loc → Prop} : CL p e below (OG p e R s below Q) := fun _ _ _ _ h k => own_st h k
theorem OSc {EL : List (String × Nat)} {Q : Option Value → Heap → List Loc → Prop} : CL p e below (OGS Z EL p e R s below Q) := fun _ _ _ _ h k => own_stS h k
theorem ow {Z : State} {a0 : Array Value} (hw : ∀ d ∈ tables_1, d.before a0 Z = true) (i : Nat) {d : Jvm.Cond} (h : tables_1[i]? = some d) : d.before a0 Z = true := hw _ (List.mem_of_getElem? h)
theorem own_stk {S' : List Value} (h : S = S') (k : P T (mkF m pc L S')) : P T (mkF m pc L S) := h ▸ k
theorem wiload (G : CL p e below P) (n : Nat) (X : Stand p l e R s m args below meth c T locs cells slots) (B : BX p c bytes) {k : Nat} {v : Int32} (hd : decode bytes pc = .ok (.iload k, 2)) (hl : L[k]? = some (.val (.int v))) (hn : pc + 2 = n) (K : P T (mkF m n L (.int v :: S))) : P T (mkF m pc L S) := by
  subst hn; exact G _ _ _ _ (fun t k => XS.iload X.here B.1 rfl (hb B.2 hd) hl k) K
theorem wiloadN (G : CL p e below P) (n : Nat) (X : Stand p l e R s m args below meth c T locs cells slots) (B : BX p c bytes) {k : Fin 4} {v : Int32} (hd : decode bytes pc = .ok (.iload_n k, 1)) (hl : L[k.val]? = some (.val (.int v))) (hn : pc + 1 = n) (K : P T (mkF m n L (.int v :: S))) : P T (mkF m pc L S) := by
  subst hn; exact G _ _ _ _ (fun t k => XS.iloadN X.here B.1 rfl (hb B.2 hd) hl k) K
theorem wlload (G : CL p e below P) (n : Nat) (X : Stand p l e R s m args below meth c T locs cells slots) (B : BX p c bytes) {k : Nat} {v : Int64} (hd : decode bytes pc = .ok (.lload k, 2)) (hl : L[k]? = some (.val (.long v))) (hn : pc + 2 = n) (K : P T (mkF m n L (.long v :: S))) : P T (mkF m pc L S) := by
  subst hn; exact G _ _ _ _ (fun t k => XS.lload X.here B.1 rfl (hb B.2 hd) hl k) K
theorem wlloadN (G : CL p e below P) (n : Nat) (X : Stand p l e R s m args below meth c T locs cells slots) (B : BX p c bytes) {k : Fin 4} {v : Int64} (hd : decode bytes pc = .ok (.lload_n k, 1)) (hl : L[k.val]? = some (.val (.long v))) (hn : pc + 1 = n) (K : P T (mkF m n L (.long v :: S))) : P T (mkF m pc L S) := by
  subst hn; exact G _ _ _ _ (fun t k => XS.lloadN X.here B.1 rfl (hb B.2 hd) hl k) K
theorem waload (G : CL p e below P) (n : Nat) (X : Stand p l e R s m args below meth c T locs cells slots) (B : BX p c bytes) {k : Nat} {v : Value} (hd : decode bytes pc = .ok (.aload k, 2)) (hl : L[k]? = some (.val v)) (hv : v.isRef = true) (hn : pc + 2 = n) (K : P T (mkF m n L (v :: S))) : P T (mkF m pc L S) := by
  subst hn; exact G _ _ _ _ (fun t k => XS.aload X.here B.1 rfl (hb B.2 hd) hl hv k) K
theorem waloadN (G : CL p e below P) (n : Nat) (X : Stand p l e R s m args below meth c T locs cells slots) (B : BX p c bytes) {k : Fin 4} {v : Value} (hd : decode bytes pc = .ok (.aload_n k, 1)) (hl : L[k.val]? = some (.val v)) (hv : v.isRef = true) (hn : pc + 1 = n) (K : P T (mkF m n L (v :: S))) : P T (mkF m pc L S) := by
  subst hn; exact G _ _ _ _ (fun t k => XS.aloadN X.here B.1 rfl (hb B.2 hd) hl hv k) K
theorem wistore (G : CL p e below P) (n : Nat) (X : Stand p l e R s m args below meth c T locs cells slots) (B : BX p c bytes) {k : Nat} {x : Int32} (hd : decode bytes pc = .ok (.istore k, 2)) (L' : Array Slot) (hl : storeLocals L k (.int x) = some L') (hn : pc + 2 = n) (K : P T (mkF m n L' S)) : P T (mkF m pc L (.int x :: S)) := by
  subst hn; exact G _ _ _ _ (fun t k => XS.istore X.here B.1 rfl (hb B.2 hd) rfl hl k) K
theorem wistoreN (G : CL p e below P) (n : Nat) (X : Stand p l e R s m args below meth c T locs cells slots) (B : BX p c bytes) {k : Fin 4} {x : Int32} (hd : decode bytes pc = .ok (.istore_n k, 1)) (L' : Array Slot) (hl : storeLocals L k.val (.int x) = some L') (hn : pc + 1 = n) (K : P T (mkF m n L' S)) : P T (mkF m pc L (.int x :: S)) := by
  subst hn; exact G _ _ _ _ (fun t k => XS.istoreN X.here B.1 rfl (hb B.2 hd) rfl hl k) K
theorem wlstore (G : CL p e below P) (n : Nat) (X : Stand p l e R s m args below meth c T locs cells slots) (B : BX p c bytes) {k : Nat} {x : Int64} (hd : decode bytes pc = .ok (.lstore k, 2)) (L' : Array Slot) (hl : storeLocals L k (.long x) = some L') (hn : pc + 2 = n) (K : P T (mkF m n L' S)) : P T (mkF m pc L (.long x :: S)) := by
  subst hn; exact G _ _ _ _ (fun t k => XS.lstore X.here B.1 rfl (hb B.2 hd) rfl hl k) K
theorem wlstoreN (G : CL p e below P) (n : Nat) (X : Stand p l e R s m args below meth c T locs cells slots) (B : BX p c bytes) {k : Fin 4} {x : Int64} (hd : decode bytes pc = .ok (.lstore_n k, 1)) (L' : Array Slot) (hl : storeLocals L k.val (.long x) = some L') (hn : pc + 1 = n) (K : P T (mkF m n L' S)) : P T (mkF m pc L (.long x :: S)) := by
  subst hn; exact G _ _ _ _ (fun t k => XS.lstoreN X.here B.1 rfl (hb B.2 hd) rfl hl k) K
theorem wastore (G : CL p e below P) (n : Nat) (X : Stand p l e R s m args below meth c T locs cells slots) (B : BX p c bytes) {k : Nat} {x : Value} (hd : decode bytes pc = .ok (.astore k, 2)) (L' : Array Slot) (hv : x.isRef = true) (hl : storeLocals L k x = some L') (hn : pc + 2 = n) (K : P T (mkF m n L' S)) : P T (mkF m pc L (x :: S)) := by
  subst hn; exact G _ _ _ _ (fun t k => XS.astore X.here B.1 rfl (hb B.2 hd) rfl hv hl k) K
theorem wastoreN (G : CL p e below P) (n : Nat) (X : Stand p l e R s m args below meth c T locs cells slots) (B : BX p c bytes) {k : Fin 4} {x : Value} (hd : decode bytes pc = .ok (.astore_n k, 1)) (L' : Array Slot) (hv : x.isRef = true) (hl : storeLocals L k.val x = some L') (hn : pc + 1 = n) (K : P T (mkF m n L' S)) : P T (mkF m pc L (x :: S)) := by
  subst hn; exact G _ _ _ _ (fun t k => XS.astoreN X.here B.1 rfl (hb B.2 hd) rfl hv hl k) K
theorem wiconst (G : CL p e below P) (n : Nat) (X : Stand p l e R s m args below meth c T locs cells slots) (B : BX p c bytes) {i : Int} (hd : decode bytes pc = .ok (.iconst i, 1)) (z : Int32) (hz : Int32.ofInt i = z) (hn : pc + 1 = n) (K : P T (mkF m n L (.int z :: S))) : P T (mkF m pc L S) := by
  subst hn hz; exact G _ _ _ _ (fun t k => XS.iconst X.here B.1 rfl (hb B.2 hd)  k) K
theorem wbipush (G : CL p e below P) (n : Nat) (X : Stand p l e R s m args below meth c T locs cells slots) (B : BX p c bytes) {i : Int} (hd : decode bytes pc = .ok (.bipush i, 2)) (z : Int32) (hz : (Int8.ofInt i).toInt32 = z) (hn : pc + 2 = n) (K : P T (mkF m n L (.int z :: S))) : P T (mkF m pc L S) := by
  subst hn hz; exact G _ _ _ _ (fun t k => XS.bipush X.here B.1 rfl (hb B.2 hd)  k) K
theorem wsipush (G : CL p e below P) (n : Nat) (X : Stand p l e R s m args below meth c T locs cells slots) (B : BX p c bytes) {i : Int} (hd : decode bytes pc = .ok (.sipush i, 3)) (z : Int32) (hz : (Int16.ofInt i).toInt32 = z) (hn : pc + 3 = n) (K : P T (mkF m n L (.int z :: S))) : P T (mkF m pc L S) := by
  subst hn hz; exact G _ _ _ _ (fun t k => XS.sipush X.here B.1 rfl (hb B.2 hd)  k) K
theorem wlconst (G : CL p e below P) (n : Nat) (X : Stand p l e R s m args below meth c T locs cells slots) (B : BX p c bytes) {i : Fin 2} (hd : decode bytes pc = .ok (.lconst i, 1)) (z : Int64) (hz : Int64.ofNat i = z) (hn : pc + 1 = n) (K : P T (mkF m n L (.long z :: S))) : P T (mkF m pc L S) := by
  subst hn hz; exact G _ _ _ _ (fun t k => XS.lconst X.here B.1 rfl (hb B.2 hd)  k) K
theorem waconstNull (G : CL p e below P) (n : Nat) (X : Stand p l e R s m args below meth c T locs cells slots) (B : BX p c bytes)  (hd : decode bytes pc = .ok (.aconst_null, 1))  (hn : pc + 1 = n) (K : P T (mkF m n L (.null :: S))) : P T (mkF m pc L S) := by
  subst hn; exact G _ _ _ _ (fun t k => XS.aconstNull X.here B.1 rfl (hb B.2 hd)  k) K
theorem wdup (G : CL p e below P) (n : Nat) (X : Stand p l e R s m args below meth c T locs cells slots) (B : BX p c bytes) {x : Value} (hd : decode bytes pc = .ok (.dup, 1)) (hc : x.category = 1) (hn : pc + 1 = n) (K : P T (mkF m n L (x :: x :: S))) : P T (mkF m pc L (x :: S)) := by
  subst hn; exact G _ _ _ _ (fun t k => XS.dup X.here B.1 rfl (hb B.2 hd) rfl hc k) K
theorem wpop (G : CL p e below P) (n : Nat) (X : Stand p l e R s m args below meth c T locs cells slots) (B : BX p c bytes) {x : Value} (hd : decode bytes pc = .ok (.pop, 1)) (hc : x.category = 1) (hn : pc + 1 = n) (K : P T (mkF m n L S)) : P T (mkF m pc L (x :: S)) := by
  subst hn; exact G _ _ _ _ (fun t k => XS.pop X.here B.1 rfl (hb B.2 hd) rfl hc k) K
theorem wiadd (G : CL p e below P) (n : Nat) (X : Stand p l e R s m args below meth c T locs cells slots) (B : BX p c bytes) {x y : Int32} (hd : decode bytes pc = .ok (.iadd, 1))  (hn : pc + 1 = n) (K : P T (mkF m n L (.int (x + y) :: S))) : P T (mkF m pc L (.int y :: .int x :: S)) := by
  subst hn; exact G _ _ _ _ (fun t k => XS.iadd X.here B.1 rfl (hb B.2 hd) rfl k) K
theorem wisub (G : CL p e below P) (n : Nat) (X : Stand p l e R s m args below meth c T locs cells slots) (B : BX p c bytes) {x y : Int32} (hd : decode bytes pc = .ok (.isub, 1))  (hn : pc + 1 = n) (K : P T (mkF m n L (.int (x - y) :: S))) : P T (mkF m pc L (.int y :: .int x :: S)) := by
  subst hn; exact G _ _ _ _ (fun t k => XS.isub X.here B.1 rfl (hb B.2 hd) rfl k) K
theorem wiand (G : CL p e below P) (n : Nat) (X : Stand p l e R s m args below meth c T locs cells slots) (B : BX p c bytes) {x y : Int32} (hd : decode bytes pc = .ok (.iand, 1))  (hn : pc + 1 = n) (K : P T (mkF m n L (.int (x &&& y) :: S))) : P T (mkF m pc L (.int y :: .int x :: S)) := by
  subst hn; exact G _ _ _ _ (fun t k => XS.iand X.here B.1 rfl (hb B.2 hd) rfl k) K
theorem wladd (G : CL p e below P) (n : Nat) (X : Stand p l e R s m args below meth c T locs cells slots) (B : BX p c bytes) {x y : Int64} (hd : decode bytes pc = .ok (.ladd, 1))  (hn : pc + 1 = n) (K : P T (mkF m n L (.long (x + y) :: S))) : P T (mkF m pc L (.long y :: .long x :: S)) := by
  subst hn; exact G _ _ _ _ (fun t k => XS.ladd X.here B.1 rfl (hb B.2 hd) rfl k) K
theorem wlsub (G : CL p e below P) (n : Nat) (X : Stand p l e R s m args below meth c T locs cells slots) (B : BX p c bytes) {x y : Int64} (hd : decode bytes pc = .ok (.lsub, 1))  (hn : pc + 1 = n) (K : P T (mkF m n L (.long (x - y) :: S))) : P T (mkF m pc L (.long y :: .long x :: S)) := by
  subst hn; exact G _ _ _ _ (fun t k => XS.lsub X.here B.1 rfl (hb B.2 hd) rfl k) K
theorem wlcmp (G : CL p e below P) (n : Nat) (X : Stand p l e R s m args below meth c T locs cells slots) (B : BX p c bytes) {x y : Int64} (hd : decode bytes pc = .ok (.lcmp, 1))  (hn : pc + 1 = n) (K : P T (mkF m n L (.int (lcmpW x y) :: S))) : P T (mkF m pc L (.long y :: .long x :: S)) := by
  subst hn; exact G _ _ _ _ (fun t k => XS.lcmp X.here B.1 rfl (hb B.2 hd) rfl k) K
theorem wiinc (G : CL p e below P) (n : Nat) (X : Stand p l e R s m args below meth c T locs cells slots) (B : BX p c bytes) {k : Nat} {cst : Int} {x : Int32} (hd : decode bytes pc = .ok (.iinc k cst, 3)) (L' : Array Slot) (hl : L[k]? = some (.val (.int x))) (hl' : storeLocals L k (.int (x + Int32.ofInt cst)) = some L') (hn : pc + 3 = n) (K : P T (mkF m n L' S)) : P T (mkF m pc L S) := by
  subst hn; exact G _ _ _ _ (fun t k => XS.iinc X.here B.1 rfl (hb B.2 hd) hl hl' k) K
theorem wgoto (G : CL p e below P) (n : Nat) (X : Stand p l e R s m args below meth c T locs cells slots) (B : BX p c bytes)  {o : Int} (hd : decode bytes pc = .ok (.goto o, 3))  (hj : (pc : Int) + o = (n : Int)) (K : P T (mkF m n L S)) : P T (mkF m pc L S) :=
  G _ _ _ _ (fun t k => XS.goto X.here B.1 rfl (pc0 := pc) (pc' := n) rfl (hb B.2 hd)  (by rw [hj]; exact Int.natCast_nonneg n) (by rw [hj]; exact Int.toNat_natCast n) k) K
theorem wifYes (G : CL p e below P) (n : Nat) (X : Stand p l e R s m args below meth c T locs cells slots) (B : BX p c bytes) {cd : ClassFile.Cond} {x : Int32} {o : Int} (hd : decode bytes pc = .ok (.ifCond cd o, 3)) (hc : ifCond.holds cd x = true) (hj : (pc : Int) + o = (n : Int)) (K : P T (mkF m n L S)) : P T (mkF m pc L (.int x :: S)) :=
  G _ _ _ _ (fun t k => XS.ifYes X.here B.1 rfl (pc0 := pc) (pc' := n) rfl (hb B.2 hd) rfl hc (by rw [hj]; exact Int.natCast_nonneg n) (by rw [hj]; exact Int.toNat_natCast n) k) K
theorem wicmpYes (G : CL p e below P) (n : Nat) (X : Stand p l e R s m args below meth c T locs cells slots) (B : BX p c bytes) {cd : ClassFile.Cond} {x y : Int32} {o : Int} (hd : decode bytes pc = .ok (.if_icmp cd o, 3)) (hc : if_icmp.holds cd x y = true) (hj : (pc : Int) + o = (n : Int)) (K : P T (mkF m n L S)) : P T (mkF m pc L (.int y :: .int x :: S)) :=
  G _ _ _ _ (fun t k => XS.icmpYes X.here B.1 rfl (pc0 := pc) (pc' := n) rfl (hb B.2 hd) rfl hc (by rw [hj]; exact Int.natCast_nonneg n) (by rw [hj]; exact Int.toNat_natCast n) k) K
theorem wifnullYes (G : CL p e below P) (n : Nat) (X : Stand p l e R s m args below meth c T locs cells slots) (B : BX p c bytes)  {o : Int} (hd : decode bytes pc = .ok (.ifnull o, 3))  (hj : (pc : Int) + o = (n : Int)) (K : P T (mkF m n L S)) : P T (mkF m pc L (.null :: S)) :=
  G _ _ _ _ (fun t k => XS.ifnullYes X.here B.1 rfl (pc0 := pc) (pc' := n) rfl (hb B.2 hd) rfl (by rw [hj]; exact Int.natCast_nonneg n) (by rw [hj]; exact Int.toNat_natCast n) k) K
theorem wifnonnullYes (G : CL p e below P) (n : Nat) (X : Stand p l e R s m args below meth c T locs cells slots) (B : BX p c bytes) {b : Addr} {o : Int} (hd : decode bytes pc = .ok (.ifnonnull o, 3))  (hj : (pc : Int) + o = (n : Int)) (K : P T (mkF m n L S)) : P T (mkF m pc L (.ref b :: S)) :=
  G _ _ _ _ (fun t k => XS.ifnonnullYes X.here B.1 rfl (pc0 := pc) (pc' := n) rfl (hb B.2 hd) rfl (by rw [hj]; exact Int.natCast_nonneg n) (by rw [hj]; exact Int.toNat_natCast n) k) K
theorem wifNo (G : CL p e below P) (n : Nat) (X : Stand p l e R s m args below meth c T locs cells slots) (B : BX p c bytes) {cd : ClassFile.Cond} {o : Int} {x : Int32} (hd : decode bytes pc = .ok (.ifCond cd o, 3)) (hc : ifCond.holds cd x = false) (hn : pc + 3 = n) (K : P T (mkF m n L S)) : P T (mkF m pc L (.int x :: S)) := by
  subst hn; exact G _ _ _ _ (fun t k => XS.ifNo X.here B.1 rfl (hb B.2 hd) rfl hc k) K
theorem wicmpNo (G : CL p e below P) (n : Nat) (X : Stand p l e R s m args below meth c T locs cells slots) (B : BX p c bytes) {cd : ClassFile.Cond} {o : Int} {x y : Int32} (hd : decode bytes pc = .ok (.if_icmp cd o, 3)) (hc : if_icmp.holds cd x y = false) (hn : pc + 3 = n) (K : P T (mkF m n L S)) : P T (mkF m pc L (.int y :: .int x :: S)) := by
  subst hn; exact G _ _ _ _ (fun t k => XS.icmpNo X.here B.1 rfl (hb B.2 hd) rfl hc k) K
theorem wifnullNo (G : CL p e below P) (n : Nat) (X : Stand p l e R s m args below meth c T locs cells slots) (B : BX p c bytes) {o : Int} {b : Addr} (hd : decode bytes pc = .ok (.ifnull o, 3))  (hn : pc + 3 = n) (K : P T (mkF m n L S)) : P T (mkF m pc L (.ref b :: S)) := by
  subst hn; exact G _ _ _ _ (fun t k => XS.ifnullNo X.here B.1 rfl (hb B.2 hd) rfl k) K
theorem wifnonnullNo (G : CL p e below P) (n : Nat) (X : Stand p l e R s m args below meth c T locs cells slots) (B : BX p c bytes) {o : Int} (hd : decode bytes pc = .ok (.ifnonnull o, 3))  (hn : pc + 3 = n) (K : P T (mkF m n L S)) : P T (mkF m pc L (.null :: S)) := by
  subst hn; exact G _ _ _ _ (fun t k => XS.ifnonnullNo X.here B.1 rfl (hb B.2 hd) rfl k) K
theorem wgetF (G : CL p e below P) (n : Nat) (X : Stand p l e R s m args below meth c T locs cells slots) (B : BX p c bytes) (hZ : Z.Warmed39 s.vm) {own R0 nm d : String} {index : Nat} (hown : s.vm.findClass own = some m.cls) (w : (Jvm.Cond.fieldLink own index R0 nm d).before a0 Z = true) (eT : T.heap = h) {a : Addr} {v : Value} (F : Fld Z h a R0 nm d v) (hd : decode bytes pc = .ok (.getfield index, 3)) (hn : pc + 3 = n) (K : ∀ T', Stand p l e R s m args below meth c T' locs cells slots → T'.heap = h → P T' (mkF m n L (v :: S))) : P T (mkF m pc L (.ref a :: S)) := by
  subst hn
  obtain ⟨T', X', e', st⟩ := getF X B.1 hZ hown (host := "") (Or.inl w) Via.refl eT F (g := mkF m pc L (.ref a :: S)) rfl rfl (hb B.2 hd)
  exact G _ _ _ _ st (K T' X' e')
theorem wgetS (G : CL p e below P) (n : Nat) (X : Stand p l e R s m args below meth c T locs cells slots) (B : BX p c bytes) (hZ : Z.Warmed39 s.vm) {own R0 nm d : String} {index : Nat} (hown : s.vm.findClass own = some m.cls) (w : (Jvm.Cond.fieldLink own index R0 nm d).before a0 Z = true) (eT : T.heap = h) {v : Value} (F : Sta Z h R0 nm d v) (hd : decode bytes pc = .ok (.getstatic index, 3)) (hn : pc + 3 = n) (K : ∀ T', Stand p l e R s m args below meth c T' locs cells slots → T'.heap = h → P T' (mkF m n L (v :: S))) : P T (mkF m pc L S) := by
  subst hn
  obtain ⟨T', X', e', st⟩ := getS X B.1 hZ (host := "") hown w Via.refl eT F (g := mkF m pc L S) rfl (hb B.2 hd)
  exact G _ _ _ _ st (K T' X' e')
theorem wputF (G : CL p e below P) (n : Nat) (X : Stand p l e R s m args below meth c T locs cells slots) (B : BX p c bytes) (hZ : Z.Warmed39 s.vm) {own R0 nm d C : String} {index kk : Nat} {ty : FieldType} (hown : s.vm.findClass own = some m.cls) (w : (Jvm.Cond.fieldLink own index R0 nm d).before a0 Z = true) (eT : T.heap = h) {a : Addr} {v old : Value} (F : Fld Z h a R0 nm d old) (E : Exa Z h a C) (Ly : (Jvm.Cond.lays C R0 nm d).before a0 Z = true ∨ ((Jvm.Cond.laysFinal C R0 nm d).before a0 Z = true ∧ own = R0 ∧ meth.name = "<init>")) (wi : (Jvm.Cond.instantiable C kk).before a0 Z = true)
    (hty : parseFieldDescriptor d = some ty) (hnn : narrow ty v = v) (hf : fits ty v = true) (hd : decode bytes pc = .ok (.putfield index, 3)) (hn : pc + 3 = n) (K : ∀ T' h', Stand p l e R s m args below meth c T' (locs ++ [⟨a, Jvm.RoadKit.slotOf Z R0 nm d⟩]) cells slots → T'.heap = h' → Wr h h' a (Jvm.RoadKit.slotOf Z R0 nm d) v → P T' (mkF m n L S)) : P T (mkF m pc L (v :: .ref a :: S)) := by
  subst hn
  obtain ⟨T', h', X', e', W', st⟩ := putF X B.1 hZ hown (host := "") (Or.inl w) Via.refl eT F E Ly wi hty hnn hf (g := mkF m pc L (v :: .ref a :: S)) rfl rfl (hb B.2 hd)
  exact G _ _ _ _ st (K T' h' X' e' W')
theorem wnewO (G : CL p e below P) (n : Nat) (X : Stand p l e R s m args below meth c T locs cells slots) (B : BX p c bytes) (hZ : Z.Warmed39 s.vm) {own C : String} {index k : Nat} (hown : s.vm.findClass own = some m.cls) (w : (Jvm.Cond.classLink own index C).before a0 Z = true) (wi : (Jvm.Cond.instantiable C k).before a0 Z = true) (wz : (Jvm.Cond.initialized C).before a0 Z = true) (eT : T.heap = h) (hd : decode bytes pc = .ok (.new index, 3)) (hc : cells + 1 ≤ R.cells ∧ slots + k ≤ R.slots) (hn : pc + 3 = n)
    (K : ∀ T' h' x, x = h.size → Stand p l e R s m args below meth c T' locs (cells + 1) (slots + k) → T'.heap = h' → Ext h h' → Exa Z h' x C → (∀ {O nm d : String} {ty : FieldType}, Laid Z a0 C O nm d → parseFieldDescriptor d = some ty → Fld Z h' x O nm d (defaultValue ty)) → P T' (mkF m n L (.ref x :: S))) : P T (mkF m pc L S) := by
  subst hn
  obtain ⟨T', h', X', e', E', A', D', -, st⟩ := newO X B.1 hZ hown w wi wz eT (g := mkF m pc L S) rfl (hb B.2 hd) hc.1 hc.2
  exact G _ _ _ _ st (K T' h' _ rfl X' e' E' A' D')
theorem wnewP (G : CL p e below P) (n : Nat) (X : Stand p l e R s m args below meth c T locs cells slots) (B : BX p c bytes) (hZ : Z.Warmed39 s.vm) {aty : ArrayType} (w : (Jvm.Cond.arrayClass (newarray.typeOf aty)).before a0 Z = true) (eT : T.heap = h) (hd : decode bytes pc = .ok (.newarray aty, 2)) {z : Int32} (cap : Nat) (hz : ¬ z < 0 ∧ z.toNatClampNeg ≤ cap ∧ cap * 8 ≤ 536870912) (hc : cells + 1 ≤ R.cells ∧ slots + cap ≤ R.slots) (hn : pc + 2 = n)
    (K : ∀ T' h' x cA, x = h.size → Stand p l e R s m args below meth c T' locs (cells + 1) (slots + cap) → T'.heap = h' → Ext h h' → Arr Z h' x (newA cA (newarray.typeOf aty) z) (newarray.typeOf aty) → P T' (mkF m n L (.ref x :: S))) : P T (mkF m pc L (.int z :: S)) := by
  subst hn
  obtain ⟨T', h', k', X', e', E', A', st⟩ := newP X B.1 hZ w eT (g := mkF m pc L (.int z :: S)) rfl (hb B.2 hd) rfl hz.1 hz.2.1 hz.2.2 hc.1 hc.2
  exact G _ _ _ _ st (K T' h' _ k' rfl X' e' E' A')
theorem wstI (G : CL p e below P) (n : Nat) (X : Stand p l e R s m args below meth c T locs cells slots) (B : BX p c bytes) (hZ : Z.Warmed39 s.vm) (eT : T.heap = h) {a : Addr} {vs : List Value} (F : OA Z h a .int vs) {j : Int32} {x : Int32} (i : Nat) (hj : j.toNatClampNeg = i) (h0 : ¬ j < 0) (hi : i < vs.length) (hd : decode bytes pc = .ok (.iastore, 1)) (hn : pc + 1 = n)
    (K : ∀ T' h', Stand p l e R s m args below meth c T' (locs ++ [⟨a, j.toNatClampNeg⟩]) cells slots → T'.heap = h' → Wr h h' a j.toNatClampNeg (.int x) → P T' (mkF m n L S)) : P T (mkF m pc L (.int x :: .int j :: .ref a :: S)) := by
  subst hn
  obtain ⟨cl, A, hi'⟩ := own_wr F hj h0 hi
  obtain ⟨T', h', X', e', W', st⟩ := stI X B.1 hZ eT A hi' (g := mkF m pc L (.int x :: .int j :: .ref a :: S)) rfl rfl (hb B.2 hd)
  exact G _ _ _ _ st (K T' h' X' e' W')
theorem wstJ (G : CL p e below P) (n : Nat) (X : Stand p l e R s m args below meth c T locs cells slots) (B : BX p c bytes) (hZ : Z.Warmed39 s.vm) (eT : T.heap = h) {a : Addr} {vs : List Value} (F : OA Z h a .long vs) {j : Int32} {x : Int64} (i : Nat) (hj : j.toNatClampNeg = i) (h0 : ¬ j < 0) (hi : i < vs.length) (hd : decode bytes pc = .ok (.lastore, 1)) (hn : pc + 1 = n)
    (K : ∀ T' h', Stand p l e R s m args below meth c T' (locs ++ [⟨a, j.toNatClampNeg⟩]) cells slots → T'.heap = h' → Wr h h' a j.toNatClampNeg (.long x) → P T' (mkF m n L S)) : P T (mkF m pc L (.long x :: .int j :: .ref a :: S)) := by
  subst hn
  obtain ⟨cl, A, hi'⟩ := own_wr F hj h0 hi
  obtain ⟨T', h', X', e', W', st⟩ := stJ X B.1 hZ eT A hi' (g := mkF m pc L (.long x :: .int j :: .ref a :: S)) rfl rfl (hb B.2 hd)
  exact G _ _ _ _ st (K T' h' X' e' W')
theorem wstB (G : CL p e below P) (n : Nat) (X : Stand p l e R s m args below meth c T locs cells slots) (B : BX p c bytes) (hZ : Z.Warmed39 s.vm) (eT : T.heap = h) {a : Addr} {vs : List Value} (F : OA Z h a .byte vs) {j : Int32} {x : Int32} (i : Nat) (hj : j.toNatClampNeg = i) (h0 : ¬ j < 0) (hi : i < vs.length) (hd : decode bytes pc = .ok (.bastore, 1)) (hn : pc + 1 = n)
    (K : ∀ T' h', Stand p l e R s m args below meth c T' (locs ++ [⟨a, j.toNatClampNeg⟩]) cells slots → T'.heap = h' → Wr h h' a j.toNatClampNeg (.int (nar .byte x)) → P T' (mkF m n L S)) : P T (mkF m pc L (.int x :: .int j :: .ref a :: S)) := by
  subst hn
  obtain ⟨cl, A, hi'⟩ := own_wr F hj h0 hi
  obtain ⟨T', h', X', e', W', st⟩ := stB X B.1 hZ eT A hi' (g := mkF m pc L (.int x :: .int j :: .ref a :: S)) rfl rfl (hb B.2 hd)
  exact G _ _ _ _ st (K T' h' X' e' W')
theorem wstC (G : CL p e below P) (n : Nat) (X : Stand p l e R s m args below meth c T locs cells slots) (B : BX p c bytes) (hZ : Z.Warmed39 s.vm) (eT : T.heap = h) {a : Addr} {vs : List Value} (F : OA Z h a .char vs) {j : Int32} {x : Int32} (i : Nat) (hj : j.toNatClampNeg = i) (h0 : ¬ j < 0) (hi : i < vs.length) (hd : decode bytes pc = .ok (.castore, 1)) (hn : pc + 1 = n)
    (K : ∀ T' h', Stand p l e R s m args below meth c T' (locs ++ [⟨a, j.toNatClampNeg⟩]) cells slots → T'.heap = h' → Wr h h' a j.toNatClampNeg (.int (nar .char x)) → P T' (mkF m n L S)) : P T (mkF m pc L (.int x :: .int j :: .ref a :: S)) := by
  subst hn
  obtain ⟨cl, A, hi'⟩ := own_wr F hj h0 hi
  obtain ⟨T', h', X', e', W', st⟩ := stC X B.1 hZ eT A hi' (g := mkF m pc L (.int x :: .int j :: .ref a :: S)) rfl rfl (hb B.2 hd)
  exact G _ _ _ _ st (K T' h' X' e' W')
theorem wiaload (G : CL p e below P) (n : Nat) (X : Stand p l e R s m args below meth c T locs cells slots) (B : BX p c bytes) (hZ : Z.Warmed39 s.vm) (eT : T.heap = h) {a : Addr} {vs : List Value} (F : OA Z h a .int vs) {j : Int32} {v : Value} (i : Nat) (hj : j.toNatClampNeg = i) (h0 : ¬ j < 0) (hv : vs[i]? = some v) (hd : decode bytes pc = .ok (.iaload, 1)) (hn : pc + 1 = n) (K : P T (mkF m n L (v :: S))) : P T (mkF m pc L (.int j :: .ref a :: S)) := by
  subst hn
  obtain ⟨cl, Ar, hi, ha⟩ := own_rd F hj h0 hv
  exact G _ _ _ _ (fun t k => X.iaload B.1 (j := j) (v := v) (by rw [eT]; exact Ar.1) (State.isArrayOf_alike hZ.alike Ar.2.1) Ar.2.2 hi ha (g := mkF m pc L (.int j :: .ref a :: S)) rfl rfl (hb B.2 hd) t k) K
theorem wlaload (G : CL p e below P) (n : Nat) (X : Stand p l e R s m args below meth c T locs cells slots) (B : BX p c bytes) (hZ : Z.Warmed39 s.vm) (eT : T.heap = h) {a : Addr} {vs : List Value} (F : OA Z h a .long vs) {j : Int32} {v : Value} (i : Nat) (hj : j.toNatClampNeg = i) (h0 : ¬ j < 0) (hv : vs[i]? = some v) (hd : decode bytes pc = .ok (.laload, 1)) (hn : pc + 1 = n) (K : P T (mkF m n L (v :: S))) : P T (mkF m pc L (.int j :: .ref a :: S)) := by
  subst hn
  obtain ⟨cl, Ar, hi, ha⟩ := own_rd F hj h0 hv
  exact G _ _ _ _ (fun t k => X.laload B.1 (j := j) (v := v) (by rw [eT]; exact Ar.1) (State.isArrayOf_alike hZ.alike Ar.2.1) Ar.2.2 hi ha (g := mkF m pc L (.int j :: .ref a :: S)) rfl rfl (hb B.2 hd) t k) K
theorem wcaload (G : CL p e below P) (n : Nat) (X : Stand p l e R s m args below meth c T locs cells slots) (B : BX p c bytes) (hZ : Z.Warmed39 s.vm) (eT : T.heap = h) {a : Addr} {vs : List Value} (F : OA Z h a .char vs) {j : Int32} {v : Value} (i : Nat) (hj : j.toNatClampNeg = i) (h0 : ¬ j < 0) (hv : vs[i]? = some v) (hd : decode bytes pc = .ok (.caload, 1)) (hn : pc + 1 = n) (K : P T (mkF m n L (v :: S))) : P T (mkF m pc L (.int j :: .ref a :: S)) := by
  subst hn
  obtain ⟨cl, Ar, hi, ha⟩ := own_rd F hj h0 hv
  exact G _ _ _ _ (fun t k => X.caload B.1 (j := j) (v := v) (by rw [eT]; exact Ar.1) (State.isArrayOf_alike hZ.alike Ar.2.1) Ar.2.2 hi ha (g := mkF m pc L (.int j :: .ref a :: S)) rfl rfl (hb B.2 hd) t k) K
theorem wbaload (G : CL p e below P) (n : Nat) (X : Stand p l e R s m args below meth c T locs cells slots) (B : BX p c bytes) (hZ : Z.Warmed39 s.vm) (eT : T.heap = h) {a : Addr} {vs : List Value} (F : OA Z h a .byte vs) {j : Int32} {v : Value} (i : Nat) (hj : j.toNatClampNeg = i) (h0 : ¬ j < 0) (hv : vs[i]? = some v) (hd : decode bytes pc = .ok (.baload, 1)) (hn : pc + 1 = n) (K : P T (mkF m n L (v :: S))) : P T (mkF m pc L (.int j :: .ref a :: S)) := by
  subst hn
  obtain ⟨cl, Ar, hi, ha⟩ := own_rd F hj h0 hv
  exact G _ _ _ _ (fun t k => X.baloadBytes B.1 (j := j) (v := v) (by rw [eT]; exact Ar.1) (State.isArrayOf_alike hZ.alike Ar.2.1) Ar.2.2 hi ha (g := mkF m pc L (.int j :: .ref a :: S)) rfl rfl (hb B.2 hd) t k) K
theorem warlenA (G : CL p e below P) (n : Nat) (X : Stand p l e R s m args below meth c T locs cells slots) (B : BX p c bytes) (hZ : Z.Warmed39 s.vm) (eT : T.heap = h) {a : Addr} {ty : FieldType} {vs : List Value} (F : OA Z h a ty vs) (z : Int32) (hz : vs.length.toInt32 = z) (hd : decode bytes pc = .ok (.arraylength, 1)) (hn : pc + 1 = n) (K : P T (mkF m n L (.int z :: S))) : P T (mkF m pc L (.ref a :: S)) := by
  subst hn
  obtain ⟨cl, Ar, hs⟩ := F.len
  rw [← hs] at hz
  subst hz
  exact G _ _ _ _ (fun t k => X.arraylength B.1 (by rw [eT]; exact Ar.1) (State.isArrayOf_alike hZ.alike Ar.2.1) (g := mkF m pc L (.ref a :: S)) rfl rfl (hb B.2 hd) t k) K
theorem warlenL (G : CL p e below P) (n : Nat) (X : Stand p l e R s m args below meth c T locs cells slots) (B : BX p c bytes) (hZ : Z.Warmed39 s.vm) (eT : T.heap = h) {a : Addr} {ty : FieldType} {q : Nat} (F : OL Z h a ty q) (z : Int32) (hz : q.toInt32 = z) (hd : decode bytes pc = .ok (.arraylength, 1)) (hn : pc + 1 = n) (K : P T (mkF m n L (.int z :: S))) : P T (mkF m pc L (.ref a :: S)) := by
  subst hn
  obtain ⟨cl, Ar, hs⟩ := F
  rw [← hs] at hz
  subst hz
  exact G _ _ _ _ (fun t k => X.arraylength B.1 (by rw [eT]; exact Ar.1) (State.isArrayOf_alike hZ.alike Ar.2.1) (g := mkF m pc L (.ref a :: S)) rfl rfl (hb B.2 hd) t k) K
theorem wstat (G : CL p e below P) (n : Nat) (X : Stand p l e R s m args below meth c T locs cells slots) (B : BX p c bytes) (hZ : Z.Warmed39 s.vm) {own : String} {index : Nat} {y : MethodName} {ret : Option FieldType} {bs : ByteArray} {maxL : Nat} (hown : s.vm.findClass own = some m.cls) (w1 : (Jvm.Cond.methodLink own index y).before a0 Z = true) (w2 : (Jvm.Cond.static y).before a0 Z = true) (wc : (Jvm.Cond.code y bs maxL ret).before a0 Z = true) (wz : (Jvm.Cond.initialized y.cls).before a0 Z = true) (eT : T.heap = h) {rm : Room} {argsL : List Value} {Q : Option Value → Heap → List Loc → Prop} (hM : OMet l Z y bs maxL ret [] rm argsL.toArray h Q) (W : Nat) (hy : y.cls ≠ "java/lang/invoke/MethodHandle" ∧ y.cls ≠ "java/lang/invoke/VarHandle") (hr : rm.frames + 1 ≤ R.frames ∧ W + (maxL + 11) + rm.locals ≤ R.locals ∧ cells + rm.cells ≤ R.cells ∧ slots + rm.slots ≤ R.slots) {k : Nat} (hml : c.maxLocals = k) (hsz : L.size = k)
    (hlen : ∀ sig, parseMethodDescriptor y.desc = some sig → argsL.length = sig.parameters.length) (rest : List Value) (hst : S = argsL.reverse ++ rest) (hW : (rest.map fun v => v.category).sum = W) (hd : decode bytes pc = .ok (.invokestatic index, 3)) (hn : pc + 3 = n)
    (K : ∀ (v : Option Value) (T' : State) (L' : List Loc), Stand p l e R s m args below meth c T' (locs ++ L') (cells + rm.cells) (slots + rm.slots) → Q v T'.heap L' → P T' (mkF m n L (v.toList ++ rest))) : P T (mkF m pc L S) := by
  subst hn
  obtain ⟨hf, hl, hc, hs⟩ := hr
  obtain ⟨v, _, ⟨T', L', k', n'⟩, -, X', ⟨Lc, hQ, l1, l2, l3⟩, st⟩ := Jvm.LawKit.callS X B.1 (y := y) hown (mvT hZ w1) (mvT hZ w2) (mvT hZ wz) (mvT hZ wc) hy (backOf (W := W) (rm := rm) hM hZ wc wz hf hl) (g := mkF m pc L S) rfl (by rw [hml]; exact hsz) (argsL := argsL) (rest := rest) hlen hst (by show 2 * 0 + _ ≤ _; omega) (hb B.2 hd) (fun _ _ => ⟨rfl, eT, hc, hs⟩)
  dsimp only [Pt.U, Pt.locs, Pt.cells, Pt.slots] at X' l1 l2 l3 st hQ
  subst l1 l2 l3
  exact G _ _ _ _ st (K v T' Lc X' hQ)
theorem wspec (G : CL p e below P) (n : Nat) (X : Stand p l e R s m args below meth c T locs cells slots) (B : BX p c bytes) (hZ : Z.Warmed39 s.vm) {own : String} {index : Nat} {y : MethodName} {a : Addr} {bs : ByteArray} {maxL : Nat} (hown : s.vm.findClass own = some m.cls) (w1 : (Jvm.Cond.methodLink own index y).before a0 Z = true) (w2 : (Jvm.Cond.instanceMethod y).before a0 Z = true) (hy1 : y.name = "<init>") (wc : (Jvm.Cond.code y bs maxL none).before a0 Z = true) (wz : (Jvm.Cond.initialized y.cls).before a0 Z = true) (eT : T.heap = h) {rm : Room} {argsL : List Value} {Q : Option Value → Heap → List Loc → Prop} (hM : OMet l Z y bs maxL none [] rm (.ref a :: argsL).toArray h Q) (W : Nat) (hy : y.cls ≠ "java/lang/invoke/MethodHandle" ∧ y.cls ≠ "java/lang/invoke/VarHandle") (hr : rm.frames + 1 ≤ R.frames ∧ W + (maxL + 11) + rm.locals ≤ R.locals ∧ cells + rm.cells ≤ R.cells ∧ slots + rm.slots ≤ R.slots) {k : Nat} (hml : c.maxLocals = k) (hsz : L.size = k)
    (hlen : ∀ sig, parseMethodDescriptor y.desc = some sig → argsL.length = sig.parameters.length) (rest : List Value) (hst : S = argsL.reverse ++ .ref a :: rest) (hW : (rest.map fun v => v.category).sum = W) (hd : decode bytes pc = .ok (.invokespecial index, 3)) (hn : pc + 3 = n)
    (K : ∀ (v : Option Value) (T' : State) (L' : List Loc), Stand p l e R s m args below meth c T' (locs ++ L') (cells + rm.cells) (slots + rm.slots) → Q v T'.heap L' → P T' (mkF m n L (v.toList ++ rest))) : P T (mkF m pc L S) := by
  subst hn
  obtain ⟨hf, hl, hc, hs⟩ := hr
  obtain ⟨v, _, ⟨T', L', k', n'⟩, -, X', ⟨Lc, hQ, l1, l2, l3⟩, st⟩ := X.specialBack B.1 (y := y) hy1 hown (mvT hZ w1) (mvT hZ w2) (mvT hZ wc) hy (backOf (W := W) (rm := rm) hM hZ wc wz hf hl) (g := mkF m pc L S) rfl (by rw [hml]; exact hsz) (Steps.refl _) (a := a) (argsL := argsL) (rest := rest) hlen hst (by show 2 * 0 + _ ≤ _; omega) (hb B.2 hd) (fun _ _ => ⟨rfl, eT, hc, hs⟩)
  dsimp only [Pt.U, Pt.locs, Pt.cells, Pt.slots] at X' l1 l2 l3 st hQ
  subst l1 l2 l3
  exact G _ _ _ _ (fun t k => st.trans k) (K v T' Lc X' hQ)
theorem wvirt (G : CL p e below P) (n : Nat) (X : Stand p l e R s m args below meth c T locs cells slots) (B : BX p c bytes) (hZ : Z.Warmed39 s.vm) {own : String} {index : Nat} {y : MethodName} {C : String} {a : Addr} {ret : Option FieldType} {bs : ByteArray} {maxL : Nat} (hown : s.vm.findClass own = some m.cls) (w1 : (Jvm.Cond.methodLink own index y).before a0 Z = true) (w2 : (Jvm.Cond.declares y).before a0 Z = true) (w3 : (Jvm.Cond.selects C y y).before a0 Z = true) (w4 : (Jvm.Cond.instanceMethod y).before a0 Z = true) (E : Exa Z h a C) (wc : (Jvm.Cond.code y bs maxL ret).before a0 Z = true) (wz : (Jvm.Cond.initialized y.cls).before a0 Z = true) (eT : T.heap = h) {rm : Room} {argsL : List Value} {Q : Option Value → Heap → List Loc → Prop} (hM : OMet l Z y bs maxL ret [] rm (.ref a :: argsL).toArray h Q) (W : Nat) (hy : y.cls ≠ "java/lang/invoke/MethodHandle" ∧ y.cls ≠ "java/lang/invoke/VarHandle") (hr : rm.frames + 1 ≤ R.frames ∧ W + (maxL + 11) + rm.locals ≤ R.locals ∧ cells + rm.cells ≤ R.cells ∧ slots + rm.slots ≤ R.slots) {k : Nat} (hml : c.maxLocals = k) (hsz : L.size = k)
    (hlen : ∀ sig, parseMethodDescriptor y.desc = some sig → argsL.length = sig.parameters.length) (rest : List Value) (hst : S = argsL.reverse ++ .ref a :: rest) (hW : (rest.map fun v => v.category).sum = W) (hd : decode bytes pc = .ok (.invokevirtual index, 3)) (hn : pc + 3 = n)
    (K : ∀ (v : Option Value) (T' : State) (L' : List Loc), Stand p l e R s m args below meth c T' (locs ++ L') (cells + rm.cells) (slots + rm.slots) → Q v T'.heap L' → P T' (mkF m n L (v.toList ++ rest))) : P T (mkF m pc L S) := by
  subst hn
  obtain ⟨hf, hl, hc, hs⟩ := hr
  obtain ⟨cq, kq, qa, qb, qc⟩ := isOf hZ eT E
  obtain ⟨v, _, ⟨T', L', k', n'⟩, -, X', ⟨Lc, hQ, l1, l2, l3⟩, st⟩ := X.virtualBack B.1 (y := y) (z := y) hown (mvT hZ w1) (mvT hZ w2) (notFace_of_selects (args := #[]) (mvT hZ w3)) (mvT hZ w3) (mvT hZ w4) hy (backOf (W := W) (rm := rm) hM hZ wc wz hf hl) qa qc (g := mkF m pc L S) rfl (by rw [hml]; exact hsz) (Steps.refl _) (argsL := argsL) (rest := rest) hlen hst (by show 2 * 0 + _ ≤ _; omega) (hb B.2 hd) (fun _ _ => ⟨rfl, eT, hc, hs⟩)
  dsimp only [Pt.U, Pt.locs, Pt.cells, Pt.slots] at X' l1 l2 l3 st hQ
  subst l1 l2 l3
  exact G _ _ _ _ (fun t k => st.trans k) (K v T' Lc X' hQ)
theorem wpriv (G : CL p e below P) (n : Nat) (X : Stand p l e R s m args below meth c T locs cells slots) (B : BX p c bytes) (hZ : Z.Warmed39 s.vm) {own : String} {index : Nat} {y : MethodName} {C : String} {a : Addr} {ret : Option FieldType} {bs : ByteArray} {maxL : Nat} (hown : s.vm.findClass own = some m.cls) (w1 : (Jvm.Cond.methodLink own index y).before a0 Z = true) (w2 : (Jvm.Cond.instanceMethod y).before a0 Z = true) (hsel : (Jvm.Cond.selects y.cls y y).before args s = true) (w4 : (Jvm.Cond.privateMethod y).before a0 Z = true) (E : Exa Z h a C) (wc : (Jvm.Cond.code y bs maxL ret).before a0 Z = true) (wz : (Jvm.Cond.initialized y.cls).before a0 Z = true) (eT : T.heap = h) {rm : Room} {argsL : List Value} {Q : Option Value → Heap → List Loc → Prop} (hM : OMet l Z y bs maxL ret [] rm (.ref a :: argsL).toArray h Q) (W : Nat) (hy : y.cls ≠ "java/lang/invoke/MethodHandle" ∧ y.cls ≠ "java/lang/invoke/VarHandle") (hr : rm.frames + 1 ≤ R.frames ∧ W + (maxL + 11) + rm.locals ≤ R.locals ∧ cells + rm.cells ≤ R.cells ∧ slots + rm.slots ≤ R.slots) {k : Nat} (hml : c.maxLocals = k) (hsz : L.size = k)
    (hlen : ∀ sig, parseMethodDescriptor y.desc = some sig → argsL.length = sig.parameters.length) (rest : List Value) (hst : S = argsL.reverse ++ .ref a :: rest) (hW : (rest.map fun v => v.category).sum = W) (hd : decode bytes pc = .ok (.invokevirtual index, 3)) (hn : pc + 3 = n)
    (K : ∀ (v : Option Value) (T' : State) (L' : List Loc), Stand p l e R s m args below meth c T' (locs ++ L') (cells + rm.cells) (slots + rm.slots) → Q v T'.heap L' → P T' (mkF m n L (v.toList ++ rest))) : P T (mkF m pc L S) := by
  subst hn
  obtain ⟨hf, hl, hc, hs⟩ := hr
  obtain ⟨cq, q1, q2⟩ := E.cell
  obtain ⟨v, _, ⟨T', L', k', n'⟩, -, X', ⟨Lc, hQ, l1, l2, l3⟩, st⟩ := X.privateBack B.1 (y := y) hown (mvT hZ w1) (mvT hZ w2) hsel (Cond.privateMethod_at (mvP hZ w4 (args := #[]))) (mvT hZ wc) hy (backOf (W := W) (rm := rm) hM hZ wc wz hf hl) (g := mkF m pc L S) rfl (by rw [hml]; exact hsz) (Steps.refl _) (a := a) (by rw [eT]; exact q1) q2 (argsL := argsL) (rest := rest) hlen hst (by show 2 * 0 + _ ≤ _; omega) (hb B.2 hd) (fun _ _ => ⟨rfl, eT, hc, hs⟩)
  dsimp only [Pt.U, Pt.locs, Pt.cells, Pt.slots] at X' l1 l2 l3 st hQ
  subst l1 l2 l3
  exact G _ _ _ _ (fun t k => st.trans k) (K v T' Lc X' hQ)
theorem wcp (G : CL p e below P) (n : Nat) (X : Stand p l e R s m args below meth c T locs cells slots) (B : BX p c bytes) (hZ : Z.Warmed39 s.vm) {own : String} {index : Nat} (hown : s.vm.findClass own = some m.cls) (w1 : (Jvm.Cond.methodLink own index Jvm.Stand.acN).before a0 Z = true) (w2 : (Jvm.Cond.native Jvm.Stand.acN).before a0 Z = true) (w3 : (Jvm.Cond.static Jvm.Stand.acN).before a0 Z = true) (w4 : (Jvm.Cond.initialized "java/lang/System").before a0 Z = true) (eT : T.heap = h)
    {a b : Addr} {vs vd : List Value} (A : OA Z h a .byte vs) (A' : OA Z h b .byte vd) (hA : Byt vs) (hB : Byt vd) (la lb S' D K' : Nat) (hla : vs.length = la) (hlb : vd.length = lb) {z z' sp dp nn : Int32} (hq : z.toNatClampNeg = la ∧ ¬ z < 0 ∧ z'.toNatClampNeg = lb ∧ ¬ z' < 0 ∧ ¬ sp < 0 ∧ ¬ dp < 0 ∧ ¬ nn < 0 ∧ sp.toNatClampNeg = S' ∧ dp.toNatClampNeg = D ∧ nn.toNatClampNeg = K' ∧ S' + K' ≤ la ∧ D + K' ≤ lb)
    (us : List Value) (hus : us = (List.range K').map fun i => vs.getD (S' + i) (.int 0)) (res : List Value) (hr : vd.take D ++ us ++ vd.drop (D + K') = res) (hl : vd.length = res.length) {n0 : Nat} (N : Fr n0 locs) (ge : n0 ≤ b) {k : Nat} (hml : c.maxLocals = k) (hsz : L.size = k) (hd : decode bytes pc = .ok (.invokestatic index, 3)) {W : Nat} (hW : (S.map fun v => v.category).sum = W) (hlo : 1 ≤ R.frames ∧ W + 18 ≤ R.locals) (hn : pc + 3 = n)
    (K : ∀ T' h' L', Stand p l e R s m args below meth c T' L' cells slots → T'.heap = h' → Fr n0 L' → Keep h h' [b] → OA Z h' b .byte res → P T' (mkF m n L S)) : P T (mkF m pc L (.int nn :: .int dp :: .ref b :: .int sp :: .ref a :: S)) := by
  subst hn hla hlb
  obtain ⟨q1, q2, q3, q4, q5, q6, q7, q8, q9, q10, q11, q12⟩ := hq
  obtain ⟨T', h', L', X', e', N', K1, A1, st⟩ := own_cp X B.1 hZ hown w1 w2 w3 w4 eT A A' hA hB q1 q2 q3 q4 q5 q6 q7 q8 q9 q10 q11 q12 hus hr hl N ge (g := mkF m pc L (.int nn :: .int dp :: .ref b :: .int sp :: .ref a :: S)) rfl (by rw [hml]; exact hsz) rfl (hb B.2 hd) hlo.1 (W := W) (by show 2 * 0 + _ ≤ _; omega) hlo.2
  exact G _ _ _ _ st (K T' h' L' X' e' N' K1 A1)
end Sq
/-! byte lists -/
def obv (x : Int32) : Value := .int (nar .byte x)
def obuf (u : List Int32) : List Value := u.map obv ++ List.replicate (16 - u.length) (.int (0 : Int32))
def oln (l : List Int32) : Int32 := (l.map obv).length.toInt32
def olen (l : List Int32) : Int32 := (oln l) >>> ((0 : Int32) &&& 31)
def ogl (l : List Int32) (i : Int32) : Int32 := nar .char (((nar .byte (l.getD i.toNatClampNeg 0)) &&& (255 : Int32)).toUInt32.toUInt16.toUInt32.toInt32)
def ogc (l : List Int32) (i : Int32) : Int32 := nar .char (ogl l i)
theorem own_sub {α : Type} {F : α → Prop} {a b : α} (h : a = b) (k : F b) : F a := h ▸ k
theorem own_bytB (u : List Int32) (k : Nat) : Byt (u.map obv ++ List.replicate k (.int (0 : Int32))) := fun v hv => by
  rcases List.mem_append.mp hv with hv | hv
  · obtain ⟨x, -, rfl⟩ := List.mem_map.mp hv
    exact own_fb x
  · rw [(List.mem_replicate.mp hv).2]; decide
theorem own_n6 : ∀ n : Nat, n ≤ 6 → (n.toInt32).toInt = (n : Int) := by decide
theorem own_oln {l : List Int32} (h : l.length ≤ 6) : (oln l).toInt = l.length := by
  unfold oln; rw [List.length_map]; exact own_n6 _ h
theorem own_olen (l : List Int32) : olen l = oln l := by
  unfold olen
  generalize oln l = x
  exact Int32.shiftRight_zero
theorem own_ol {l : List Int32} {i : Int32} (h : i < olen l) : i < oln l := own_olen l ▸ h
theorem own_nn {i : Int32} (h : ¬ i < 0) : 0 ≤ i.toInt := by
  have k0 : (0 : Int32).toInt = 0 := by decide
  rw [Int32.lt_iff_toInt_lt, k0] at h
  omega
theorem own_cl (i : Int32) : i.toNatClampNeg = i.toInt.toNat := rfl
theorem own_gd {l : List Int32} {i : Int32} (h0 : ¬ i < 0) (h1 : i < oln l) (hl : l.length ≤ 6) : (l.map obv)[i.toNatClampNeg]? = some (.int (nar .byte (l.getD i.toNatClampNeg 0))) := by
  have q := own_oln hl
  have n := own_nn h0
  rw [Int32.lt_iff_toInt_lt, q] at h1
  have hi : i.toNatClampNeg < l.length := by rw [own_cl]; omega
  rw [List.getElem?_map, List.getD_eq_getElem?_getD, List.getElem?_eq_getElem hi]; rfl
theorem own_sb {l : List Int32} {i : Int32} (h0 : ¬ i < 0) (c : ¬ i < olen l) (hl : l.length ≤ 6) : ¬ (i - olen l) < 0 := by
  rw [own_olen] at *
  have q := own_oln hl
  have n := own_nn h0
  have s := c_isub i (oln l)
  have r := rng32 (i - oln l)
  have r2 := rng32 i
  have k0 : (0 : Int32).toInt = 0 := by decide
  rw [Int32.lt_iff_toInt_lt] at c
  rw [Int32.lt_iff_toInt_lt, k0]
  omega
theorem own_36 {l : List Int32} (h : l.length ≤ 3) : l.length ≤ 6 := Nat.le_trans h (by decide)
theorem own_b6 {l1 l2 : List Int32} (h1 : l1.length ≤ 3) (h2 : l2.length ≤ 3) : (l1 ++ l2).length ≤ 6 := by rw [List.length_append]; omega
theorem own_l3 (l : List Int32) (h : l.length ≤ 3) : l = [] ∨ (∃ a, l = [a]) ∨ (∃ a b, l = [a, b]) ∨ ∃ a b c, l = [a, b, c] := by
  rcases l with _ | ⟨a, _ | ⟨b, _ | ⟨c, _ | ⟨d, t⟩⟩⟩⟩
  · exact Or.inl rfl
  · exact Or.inr (Or.inl ⟨a, rfl⟩)
  · exact Or.inr (Or.inr (Or.inl ⟨a, b, rfl⟩))
  · exact Or.inr (Or.inr (Or.inr ⟨a, b, c, rfl⟩))
  · simp only [List.length_cons] at h; omega
theorem own_l6 (l : List Int32) (h : l.length ≤ 6) : l = [] ∨ (∃ a, l = [a]) ∨ (∃ a b, l = [a, b]) ∨ (∃ a b c, l = [a, b, c]) ∨ (∃ a b c d, l = [a, b, c, d]) ∨ (∃ a b c d e, l = [a, b, c, d, e]) ∨ ∃ a b c d e f, l = [a, b, c, d, e, f] := by
  rcases l with _ | ⟨a, _ | ⟨b, _ | ⟨c, _ | ⟨d, _ | ⟨e, _ | ⟨f, _ | ⟨g, t⟩⟩⟩⟩⟩⟩⟩
  · exact Or.inl rfl
  · exact Or.inr (Or.inl ⟨a, rfl⟩)
  · exact Or.inr (Or.inr (Or.inl ⟨a, b, rfl⟩))
  · exact Or.inr (Or.inr (Or.inr (Or.inl ⟨a, b, c, rfl⟩)))
  · exact Or.inr (Or.inr (Or.inr (Or.inr (Or.inl ⟨a, b, c, d, rfl⟩))))
  · exact Or.inr (Or.inr (Or.inr (Or.inr (Or.inr (Or.inl ⟨a, b, c, d, e, rfl⟩)))))
  · exact Or.inr (Or.inr (Or.inr (Or.inr (Or.inr (Or.inr ⟨a, b, c, d, e, f, rfl⟩)))))
  · simp only [List.length_cons] at h; omega
theorem own_refv {v : Value} (h : v.isRef = true) : v = .null ∨ ∃ a, v = .ref a := by
  cases v with
  | null => exact Or.inl rfl
  | ref a => exact Or.inr ⟨a, rfl⟩
  | _ => exact absurd (show false = true from h) Bool.false_ne_true
def EL0 : List (String × Nat) := [("com/example/tidewire/tidewire/protocol/RestParams", 7), ("com/example/tidewire/tidewire/protocol/RestParams", 22), ("java/lang/String", 7)]
theorem own_wS {Z : State} {a0 : Array Value} (hw : ∀ d ∈ tables_1, d.before a0 Z = true) : ∀ a ∈ Bundle.stringAtoms, a.before a0 Z = true := fun a ha => by
  simp only [Bundle.stringAtoms, List.mem_cons, List.not_mem_nil, or_false] at ha
  rcases ha with rfl | rfl | rfl | rfl | rfl | rfl | rfl
  · exact (ow hw 6 rfl)
  · exact (ow hw 5 rfl)
  · exact (ow hw 19 rfl)
  · exact (ow hw 20 rfl)
  · exact (ow hw 21 rfl)
  · exact (ow hw 22 rfl)
  · exact (ow hw 23 rfl)
theorem own_EW {Z : State} {a0 : Array Value} (hw : ∀ d ∈ tables_1, d.before a0 Z = true) : EW Z a0 EL0 := (EW.cons (ow hw 33 rfl) (by decide) (EW.cons (ow hw 41 rfl) (by decide) (EW.cons (ow hw 18 rfl) (by decide) EW.nil)))
theorem own_nc (y : Int32) (h0 : 0 ≤ y.toInt) (h1 : y.toInt ≤ 255) : y.toUInt32.toUInt16.toUInt32.toInt32 = y := by
  have q := c_i2c y
  apply Int32.toInt_inj.mp
  generalize y.toUInt32.toUInt16.toUInt32.toInt32.toInt = z at *
  omega
theorem own_m8 (x : Int32) : 0 ≤ (x &&& 255).toInt ∧ (x &&& 255).toInt ≤ 255 := by
  have m := c_mask x 255 8 (by decide) (by decide)
  rw [m]; omega
theorem own_chA (x : Int32) : ¬ (255 : Int32) < ((x &&& 255).toUInt32.toUInt16.toUInt32.toInt32) := by
  have h := own_m8 x
  have k : (255 : Int32).toInt = 255 := by decide
  rw [own_nc _ h.1 h.2, Int32.lt_iff_toInt_lt, k]; omega
theorem own_chB (x : Int32) : ¬ (255 : Int32) < (nar .char ((x &&& 255).toUInt32.toUInt16.toUInt32.toInt32)) := by
  have h := own_m8 x
  show ¬ (255 : Int32) < ((x &&& 255).toUInt32.toUInt16.toUInt32.toInt32).toUInt32.toUInt16.toUInt32.toInt32
  rw [own_nc _ h.1 h.2]; exact own_chA x
theorem d33_0 : decode jdk_52_method_21_code 0 = .ok (.iconst 0, 1) := by decide +kernel
theorem d33_1 : decode jdk_52_method_21_code 1 = .ok (.istore 5, 2) := by decide +kernel
theorem d33_3 : decode jdk_52_method_21_code 3 = .ok (.iload 5, 2) := by decide +kernel
theorem d33_5 : decode jdk_52_method_21_code 5 = .ok (.iload 4, 2) := by decide +kernel
theorem d33_7 : decode jdk_52_method_21_code 7 = .ok (.if_icmp .ge 37, 3) := by decide +kernel
theorem d33_10 : decode jdk_52_method_21_code 10 = .ok (.aload_n 0, 1) := by decide +kernel
theorem d33_11 : decode jdk_52_method_21_code 11 = .ok (.iload_n 1, 1) := by decide +kernel
theorem d33_12 : decode jdk_52_method_21_code 12 = .ok (.caload, 1) := by decide +kernel
theorem d33_13 : decode jdk_52_method_21_code 13 = .ok (.istore 6, 2) := by decide +kernel
theorem d33_15 : decode jdk_52_method_21_code 15 = .ok (.iload 6, 2) := by decide +kernel
theorem d33_17 : decode jdk_52_method_21_code 17 = .ok (.sipush 255, 3) := by decide +kernel
theorem d33_20 : decode jdk_52_method_21_code 20 = .ok (.if_icmp .le 6, 3) := by decide +kernel
theorem d33_26 : decode jdk_52_method_21_code 26 = .ok (.aload_n 2, 1) := by decide +kernel
theorem d33_27 : decode jdk_52_method_21_code 27 = .ok (.iload_n 3, 1) := by decide +kernel
theorem d33_28 : decode jdk_52_method_21_code 28 = .ok (.iload 6, 2) := by decide +kernel
theorem d33_30 : decode jdk_52_method_21_code 30 = .ok (.i2b, 1) := by decide +kernel
theorem d33_31 : decode jdk_52_method_21_code 31 = .ok (.bastore, 1) := by decide +kernel
theorem d33_32 : decode jdk_52_method_21_code 32 = .ok (.iinc 1 1, 3) := by decide +kernel
theorem d33_35 : decode jdk_52_method_21_code 35 = .ok (.iinc 3 1, 3) := by decide +kernel
theorem d33_38 : decode jdk_52_method_21_code 38 = .ok (.iinc 5 1, 3) := by decide +kernel
theorem d33_41 : decode jdk_52_method_21_code 41 = .ok (.goto (-38), 3) := by decide +kernel
theorem d33_44 : decode jdk_52_method_21_code 44 = .ok (.iload 4, 2) := by decide +kernel
theorem d33_46 : decode jdk_52_method_21_code 46 = .ok (.ireturn, 1) := by decide +kernel
theorem pn_33 : plainFor (⟨"java/lang/StringUTF16", "compress", "([CI[BII)I"⟩ : MethodName) = true := by first | exact plainFor_of_name (by first | (simp [plainName, overriddenIn]; done) | decide +kernel) | decide +kernel
theorem ef_33_1 (m : MethodId) (a1 : Addr) (a3 : Addr) : entryFrame m #[(.ref a1), (.int (0 : Int32)), (.ref a3), (.int (0 : Int32)), (.int (1 : Int32))] 7 = (mkF m 0 #[.val (.ref a1), .val (.int (0 : Int32)), .val (.ref a3), .val (.int (0 : Int32)), .val (.int (1 : Int32)), .unset, .unset] []) := by first | (simp [entryFrame, mkF, argsToLocals, Value.category]; done) | rfl
abbrev Q33_1 (Z : State) (a1 : Addr) (a3 : Addr) (c0 : Int32) (h0 : Heap) (n0 : Nat) : Option Value → Heap → List Loc → Prop := (fun v h L => v = some (.int (1 : Int32)) ∧ Fr n0 L ∧ Keep h0 h [a3] ∧ OA Z h a3 .byte (([(c0.toInt8.toInt32)] : List Int32).map obv))
theorem rm33_1 (l : Launch) (Z : State) (a0 : Array Value) (hw : ∀ d ∈ tables_1, d.before a0 Z = true) (ws : List Jvm.Cond) (a1 : Addr) (a3 : Addr) (c0 : Int32) (h0 : Heap) (n0 : Nat) (R0 : OA Z h0 a1 .char [(.int c0)]) (R1 : OA Z h0 a3 .byte [(.int (0 : Int32))]) (g_a3 : n0 ≤ a3) (ne_a1_a3 : a1 ≠ a3) (hc0 : ¬ (255 : Int32) < c0) :
    OMet l Z (⟨"java/lang/StringUTF16", "compress", "([CI[BII)I"⟩ : MethodName) jdk_52_method_21_code 7 (some .int) ws ({ frames := 0, cells := 0, slots := 0, locals := 0 } : Room) #[(.ref a1), (.int (0 : Int32)), (.ref a3), (.int (0 : Int32)), (.int (1 : Int32))] h0 (Q33_1 Z a1 a3 c0 h0 n0) := by
  refine own_enter pn_33 ?_
  intro p e s m below meth c s₁ hx hby hml0 hown hret hlk hnm hZ X0 e0
  have hml : c.maxLocals = 7 := hml0
  have B : BX p c jdk_52_method_21_code := ⟨hx, hby⟩
  have N0 := Fr.nil n0
  refine own_cast (ef_33_1 m a1 a3) ?_
  refine wiconst OGc 1 X0 B d33_0 0 rfl rfl ?_
  refine wistore OGc 3 X0 B d33_1 #[.val (.ref a1), .val (.int (0 : Int32)), .val (.ref a3), .val (.int (0 : Int32)), .val (.int (1 : Int32)), .val (.int (0 : Int32)), .unset] rfl rfl ?_
  refine wiload OGc 5 X0 B d33_3 rfl rfl ?_
  refine wiload OGc 7 X0 B d33_5 rfl rfl ?_
  refine wicmpNo OGc 10 X0 B d33_7 (by decide) rfl ?_
  refine waloadN OGc 11 X0 B d33_10 rfl rfl rfl ?_
  refine wiloadN OGc 12 X0 B d33_11 rfl rfl ?_
  refine wcaload OGc 13 X0 B hZ e0 R0 (v := (.int c0)) 0 (by decide) (by decide) rfl d33_12 rfl ?_
  refine wistore OGc 15 X0 B d33_13 #[.val (.ref a1), .val (.int (0 : Int32)), .val (.ref a3), .val (.int (0 : Int32)), .val (.int (1 : Int32)), .val (.int (0 : Int32)), .val (.int c0)] rfl rfl ?_
  refine wiload OGc 17 X0 B d33_15 rfl rfl ?_
  refine wsipush OGc 20 X0 B d33_17 255 rfl rfl ?_
  refine wicmpYes OGc 26 X0 B d33_20 (flt hc0).2.2.2 rfl ?_
  refine waloadN OGc 27 X0 B d33_26 rfl rfl rfl ?_
  refine wiloadN OGc 28 X0 B d33_27 rfl rfl ?_
  refine wiload OGc 30 X0 B d33_28 rfl rfl ?_
  refine own_st (fun t k => XS.i2b X0.here hx rfl (hb hby d33_30) rfl k) ?_
  show OG p e _ s below _ s₁ (mkF m 31 #[.val (.ref a1), .val (.int (0 : Int32)), .val (.ref a3), .val (.int (0 : Int32)), .val (.int (1 : Int32)), .val (.int (0 : Int32)), .val (.int c0)] [(.int (c0.toInt8.toInt32)), (.int (0 : Int32)), (.ref a3)])
  refine wstB OGc 32 X0 B hZ e0 R1 0 (by decide) (by decide) (by decide : 0 < 1) d33_31 rfl fun T2 h2 X2 e2 W2 => ?_
  have N2 := Fr.snoc X2 N0 g_a3
  have K3 := (Keep.refl h0 [a3]).wr W2 (Or.inl (List.mem_of_getElem? (i := 0) rfl))
  have F4 := R0.other W2 ne_a1_a3
  have F5 : OA Z h2 a3 .byte (([(c0.toInt8.toInt32)] : List Int32).map obv) := (R1.set W2 (i := 0) (by decide))
  refine wiinc OGc 35 X2 B d33_32 #[.val (.ref a1), .val (.int ((0 : Int32) + (1 : Int32))), .val (.ref a3), .val (.int (0 : Int32)), .val (.int (1 : Int32)), .val (.int (0 : Int32)), .val (.int c0)] rfl rfl rfl ?_
  show OG p e _ s below _ T2 (mkF m 35 #[.val (.ref a1), .val (.int (1 : Int32)), .val (.ref a3), .val (.int (0 : Int32)), .val (.int (1 : Int32)), .val (.int (0 : Int32)), .val (.int c0)] [])
  refine wiinc OGc 38 X2 B d33_35 #[.val (.ref a1), .val (.int (1 : Int32)), .val (.ref a3), .val (.int ((0 : Int32) + (1 : Int32))), .val (.int (1 : Int32)), .val (.int (0 : Int32)), .val (.int c0)] rfl rfl rfl ?_
  show OG p e _ s below _ T2 (mkF m 38 #[.val (.ref a1), .val (.int (1 : Int32)), .val (.ref a3), .val (.int (1 : Int32)), .val (.int (1 : Int32)), .val (.int (0 : Int32)), .val (.int c0)] [])
  refine wiinc OGc 41 X2 B d33_38 #[.val (.ref a1), .val (.int (1 : Int32)), .val (.ref a3), .val (.int (1 : Int32)), .val (.int (1 : Int32)), .val (.int ((0 : Int32) + (1 : Int32))), .val (.int c0)] rfl rfl rfl ?_
  show OG p e _ s below _ T2 (mkF m 41 #[.val (.ref a1), .val (.int (1 : Int32)), .val (.ref a3), .val (.int (1 : Int32)), .val (.int (1 : Int32)), .val (.int (1 : Int32)), .val (.int c0)] [])
  refine wgoto OGc 3 X2 B d33_41 rfl ?_
  refine wiload OGc 5 X2 B d33_3 rfl rfl ?_
  refine wiload OGc 7 X2 B d33_5 rfl rfl ?_
  refine wicmpYes OGc 44 X2 B d33_7 (by decide) rfl ?_
  refine wiload OGc 46 X2 B d33_44 rfl rfl ?_
  refine own_retI X2 hx hret hlk (hb hby d33_46) (by decide) (by decide) ?_
  rw [e2]
  exact ⟨rfl, N2, K3, F5⟩
theorem d32_0 : decode jdk_52_method_16_code 0 = .ok (.iload_n 2, 1) := by decide +kernel
theorem d32_1 : decode jdk_52_method_16_code 1 = .ok (.newarray .byte, 2) := by decide +kernel
theorem d32_3 : decode jdk_52_method_16_code 3 = .ok (.astore_n 3, 1) := by decide +kernel
theorem d32_4 : decode jdk_52_method_16_code 4 = .ok (.aload_n 0, 1) := by decide +kernel
theorem d32_5 : decode jdk_52_method_16_code 5 = .ok (.iload_n 1, 1) := by decide +kernel
theorem d32_6 : decode jdk_52_method_16_code 6 = .ok (.aload_n 3, 1) := by decide +kernel
theorem d32_7 : decode jdk_52_method_16_code 7 = .ok (.iconst 0, 1) := by decide +kernel
theorem d32_8 : decode jdk_52_method_16_code 8 = .ok (.iload_n 2, 1) := by decide +kernel
theorem d32_9 : decode jdk_52_method_16_code 9 = .ok (.invokestatic 115, 3) := by decide +kernel
theorem d32_12 : decode jdk_52_method_16_code 12 = .ok (.istore 4, 2) := by decide +kernel
theorem d32_14 : decode jdk_52_method_16_code 14 = .ok (.iload 4, 2) := by decide +kernel
theorem d32_16 : decode jdk_52_method_16_code 16 = .ok (.iload_n 2, 1) := by decide +kernel
theorem d32_17 : decode jdk_52_method_16_code 17 = .ok (.if_icmp .eq 40, 3) := by decide +kernel
theorem d32_57 : decode jdk_52_method_16_code 57 = .ok (.aload_n 3, 1) := by decide +kernel
theorem d32_58 : decode jdk_52_method_16_code 58 = .ok (.areturn, 1) := by decide +kernel
theorem pd___CI_BII_I : parseMethodDescriptor "([CI[BII)I" = some ⟨[(.array .char), .int, (.array .byte), .int, .int], some .int⟩ := by decide +kernel
theorem pn_32 : plainFor (⟨"java/lang/StringUTF16", "compress", "([CII)[B"⟩ : MethodName) = true := by first | exact plainFor_of_name (by first | (simp [plainName, overriddenIn]; done) | decide +kernel) | decide +kernel
theorem ef_32_1 (m : MethodId) (a1 : Addr) : entryFrame m #[(.ref a1), (.int (0 : Int32)), (.int (1 : Int32))] 6 = (mkF m 0 #[.val (.ref a1), .val (.int (0 : Int32)), .val (.int (1 : Int32)), .unset, .unset, .unset] []) := by first | (simp [entryFrame, mkF, argsToLocals, Value.category]; done) | rfl
abbrev Q32_1 (Z : State) (a1 : Addr) (c0 : Int32) (h0 : Heap) (n0 : Nat) : Option Value → Heap → List Loc → Prop := (fun v h L => Fr n0 L ∧ Keep h0 h [] ∧ ∃ b : Addr, h0.size ≤ b ∧ v = some (.ref b) ∧ OA Z h b .byte (([(c0.toInt8.toInt32)] : List Int32).map obv))
theorem rm32_1 (l : Launch) (Z : State) (a0 : Array Value) (hw : ∀ d ∈ tables_1, d.before a0 Z = true) (ws : List Jvm.Cond) (a1 : Addr) (c0 : Int32) (h0 : Heap) (n0 : Nat) (Z0 : n0 ≤ h0.size) (R0 : OA Z h0 a1 .char [(.int c0)]) (hc0 : ¬ (255 : Int32) < c0) :
    OMet l Z (⟨"java/lang/StringUTF16", "compress", "([CII)[B"⟩ : MethodName) jdk_52_method_16_code 6 (some (.array .byte)) ws ({ frames := 1, cells := 1, slots := 1, locals := 18 } : Room) #[(.ref a1), (.int (0 : Int32)), (.int (1 : Int32))] h0 (Q32_1 Z a1 c0 h0 n0) := by
  refine own_enter pn_32 ?_
  intro p e s m below meth c s₁ hx hby hml0 hown hret hlk hnm hZ X0 e0
  have hml : c.maxLocals = 6 := hml0
  have B : BX p c jdk_52_method_16_code := ⟨hx, hby⟩
  have N0 := Fr.nil n0
  refine own_cast (ef_32_1 m a1) ?_
  refine wiloadN OGc 1 X0 B d32_0 rfl rfl ?_
  refine wnewP OGc 3 X0 B hZ (ow hw 19 rfl) e0 d32_1 1 (by decide) (by decide) rfl fun T1 h1 b1 k1 gb1 X1 e1 E1 A1 => ?_
  have ge_b1 : n0 ≤ b1 := by rw [gb1]; exact Nat.le_trans Z0 (Keep.refl h0 []).1
  have sz_b1 : h0.size ≤ b1 := by rw [gb1]; exact (Keep.refl h0 []).1
  have ne_a1_b1 : a1 ≠ b1 := Nat.ne_of_lt (Nat.lt_of_lt_of_eq R0.lt gb1.symm)
  have F2 := R0.ext E1
  have K3 := (Keep.refl h0 []).ext E1
  have F4 : OA Z h1 b1 .byte [(.int (0 : Int32))] := OA.new A1
  refine wastoreN OGc 4 X1 B d32_3 #[.val (.ref a1), .val (.int (0 : Int32)), .val (.int (1 : Int32)), .val (.ref b1), .unset, .unset] rfl rfl rfl ?_
  refine waloadN OGc 5 X1 B d32_4 rfl rfl rfl ?_
  refine wiloadN OGc 6 X1 B d32_5 rfl rfl ?_
  refine waloadN OGc 7 X1 B d32_6 rfl rfl rfl ?_
  refine wiconst OGc 8 X1 B d32_7 0 rfl rfl ?_
  refine wiloadN OGc 9 X1 B d32_8 rfl rfl ?_
  refine wstat OGc 12 X1 B hZ hown (ow hw 174 rfl) (ow hw 175 rfl) (ow hw 176 rfl) (ow hw 172 rfl) e1 (rm33_1 l Z a0 hw [] a1 b1 c0 h1 n0 F2 F4 ge_b1 ne_a1_b1 hc0) 0 (by decide) (by decide) hml rfl (lenOf pd___CI_BII_I rfl) [] rfl rfl d32_9 rfl fun _ T5 L5 X5 hQ5 => ?_
  obtain ⟨rfl, N5q, K5q, P5_0⟩ := hQ5
  have N5 := Fr.app N0 N5q
  have K5 := K3.trans K5q (own_all1 (Or.inr sz_b1))
  have F6 := F2.keep K5q (own_nin1 ne_a1_b1)
  refine own_stk (S' := [(.int (1 : Int32))]) rfl ?_
  refine wistore OGc 14 X5 B d32_12 #[.val (.ref a1), .val (.int (0 : Int32)), .val (.int (1 : Int32)), .val (.ref b1), .val (.int (1 : Int32)), .unset] rfl rfl ?_
  refine wiload OGc 16 X5 B d32_14 rfl rfl ?_
  refine wiloadN OGc 17 X5 B d32_16 rfl rfl ?_
  refine wicmpYes OGc 57 X5 B d32_17 (by decide) rfl ?_
  refine waloadN OGc 58 X5 B d32_57 rfl rfl rfl ?_
  refine own_retV X5 hx hret rfl (Or.inr (Or.inr (Or.inr (Or.inr ⟨rfl, rfl, rfl⟩)))) hlk (hb hby d32_58) (by decide) (by decide) ?_
  exact ⟨N5, K5, b1, sz_b1, rfl, P5_0⟩
theorem d34_0 : decode jdk_52_method_15_code 0 = .ok (.iload_n 1, 1) := by decide +kernel
theorem d34_1 : decode jdk_52_method_15_code 1 = .ok (.aload_n 0, 1) := by decide +kernel
theorem d34_2 : decode jdk_52_method_15_code 2 = .ok (.arraylength, 1) := by decide +kernel
theorem d34_3 : decode jdk_52_method_15_code 3 = .ok (.isub, 1) := by decide +kernel
theorem d34_4 : decode jdk_52_method_15_code 4 = .ok (.bipush 31, 2) := by decide +kernel
theorem d34_6 : decode jdk_52_method_15_code 6 = .ok (.iushr, 1) := by decide +kernel
theorem d34_7 : decode jdk_52_method_15_code 7 = .ok (.i2b, 1) := by decide +kernel
theorem d34_8 : decode jdk_52_method_15_code 8 = .ok (.ireturn, 1) := by decide +kernel
theorem pn_34 : plainFor (⟨"java/lang/StringUTF16", "coderFromArrayLen", "([BI)B"⟩ : MethodName) = true := by first | exact plainFor_of_name (by first | (simp [plainName, overriddenIn]; done) | decide +kernel) | decide +kernel
theorem ef_34_1 (m : MethodId) (a1 : Addr) : entryFrame m #[(.ref a1), (.int (1 : Int32))] 2 = (mkF m 0 #[.val (.ref a1), .val (.int (1 : Int32))] []) := by first | (simp [entryFrame, mkF, argsToLocals, Value.category]; done) | rfl
abbrev Q34_1 (Z : State) (a1 : Addr) (c0 : Int32) (h0 : Heap) (n0 : Nat) : Option Value → Heap → List Loc → Prop := (fun v h L => v = some (.int (0 : Int32)) ∧ Fr n0 L ∧ Keep h0 h [])
theorem rm34_1 (l : Launch) (Z : State) (a0 : Array Value) (hw : ∀ d ∈ tables_1, d.before a0 Z = true) (ws : List Jvm.Cond) (a1 : Addr) (c0 : Int32) (h0 : Heap) (n0 : Nat) (R0 : OA Z h0 a1 .byte [(.int c0)]) :
    OMet l Z (⟨"java/lang/StringUTF16", "coderFromArrayLen", "([BI)B"⟩ : MethodName) jdk_52_method_15_code 2 (some .byte) ws ({ frames := 0, cells := 0, slots := 0, locals := 0 } : Room) #[(.ref a1), (.int (1 : Int32))] h0 (Q34_1 Z a1 c0 h0 n0) := by
  refine own_enter pn_34 ?_
  intro p e s m below meth c s₁ hx hby hml0 hown hret hlk hnm hZ X0 e0
  have hml : c.maxLocals = 2 := hml0
  have B : BX p c jdk_52_method_15_code := ⟨hx, hby⟩
  have N0 := Fr.nil n0
  refine own_cast (ef_34_1 m a1) ?_
  refine wiloadN OGc 1 X0 B d34_0 rfl rfl ?_
  refine waloadN OGc 2 X0 B d34_1 rfl rfl rfl ?_
  refine warlenA OGc 3 X0 B hZ e0 R0 (1 : Int32) rfl d34_2 rfl ?_
  refine wisub OGc 4 X0 B d34_3 rfl ?_
  show OG p e _ s below _ s₁ (mkF m 4 #[.val (.ref a1), .val (.int (1 : Int32))] [(.int (0 : Int32))])
  refine wbipush OGc 6 X0 B d34_4 31 rfl rfl ?_
  refine own_st (fun t k => XS.iushr X0.here hx rfl (hb hby d34_6) rfl k) ?_
  show OG p e _ s below _ s₁ (mkF m 7 #[.val (.ref a1), .val (.int (1 : Int32))] [(.int (0 : Int32))])
  refine own_st (fun t k => XS.i2b X0.here hx rfl (hb hby d34_7) rfl k) ?_
  show OG p e _ s below _ s₁ (mkF m 8 #[.val (.ref a1), .val (.int (1 : Int32))] [(.int ((0 : Int32).toInt8.toInt32))])
  refine own_retZ X0 hx (t := .byte) hret (by simp) hlk (hb hby d34_8) (by decide) (by decide) (w := (0 : Int32)) rfl ?_
  rw [e0]
  exact ⟨rfl, N0, (Keep.refl h0 [])⟩
theorem d3_0 : decode jdk_42_method_149_code 0 = .ok (.aload_n 0, 1) := by decide +kernel
theorem d3_1 : decode jdk_42_method_149_code 1 = .ok (.invokespecial 1, 3) := by decide +kernel
theorem d3_4 : decode jdk_42_method_149_code 4 = .ok (.iload_n 3, 1) := by decide +kernel
theorem d3_5 : decode jdk_42_method_149_code 5 = .ok (.ifCond .ne 22, 3) := by decide +kernel
theorem d3_27 : decode jdk_42_method_149_code 27 = .ok (.getstatic 38, 3) := by decide +kernel
theorem d3_30 : decode jdk_42_method_149_code 30 = .ok (.ifCond .eq 28, 3) := by decide +kernel
theorem d3_33 : decode jdk_42_method_149_code 33 = .ok (.aload_n 1, 1) := by decide +kernel
theorem d3_34 : decode jdk_42_method_149_code 34 = .ok (.iload_n 2, 1) := by decide +kernel
theorem d3_35 : decode jdk_42_method_149_code 35 = .ok (.iload_n 3, 1) := by decide +kernel
theorem d3_36 : decode jdk_42_method_149_code 36 = .ok (.invokestatic 177, 3) := by decide +kernel
theorem d3_39 : decode jdk_42_method_149_code 39 = .ok (.astore 5, 2) := by decide +kernel
theorem d3_41 : decode jdk_42_method_149_code 41 = .ok (.aload_n 0, 1) := by decide +kernel
theorem d3_42 : decode jdk_42_method_149_code 42 = .ok (.aload 5, 2) := by decide +kernel
theorem d3_44 : decode jdk_42_method_149_code 44 = .ok (.iload_n 3, 1) := by decide +kernel
theorem d3_45 : decode jdk_42_method_149_code 45 = .ok (.invokestatic 47, 3) := by decide +kernel
theorem d3_48 : decode jdk_42_method_149_code 48 = .ok (.putfield 15, 3) := by decide +kernel
theorem d3_51 : decode jdk_42_method_149_code 51 = .ok (.aload_n 0, 1) := by decide +kernel
theorem d3_52 : decode jdk_42_method_149_code 52 = .ok (.aload 5, 2) := by decide +kernel
theorem d3_54 : decode jdk_42_method_149_code 54 = .ok (.putfield 9, 3) := by decide +kernel
theorem d3_57 : decode jdk_42_method_149_code 57 = .ok (.return_, 1) := by decide +kernel
theorem pd___BI_B : parseMethodDescriptor "([BI)B" = some ⟨[(.array .byte), .int], some .byte⟩ := by decide +kernel
theorem pd___CII__B : parseMethodDescriptor "([CII)[B" = some ⟨[(.array .char), .int, .int], some (.array .byte)⟩ := by decide +kernel
theorem pn_3 : plainFor (⟨"java/lang/String", "<init>", "([CIILjava/lang/Void;)V"⟩ : MethodName) = true := by first | exact plainFor_of_name (by first | (simp [plainName, overriddenIn]; done) | decide +kernel) | decide +kernel
theorem ef_3_1 (m : MethodId) (a1 : Addr) (a2 : Addr) : entryFrame m #[(.ref a1), (.ref a2), (.int (0 : Int32)), (.int (1 : Int32)), .null] 6 = (mkF m 0 #[.val (.ref a1), .val (.ref a2), .val (.int (0 : Int32)), .val (.int (1 : Int32)), .val .null, .unset] []) := by first | (simp [entryFrame, mkF, argsToLocals, Value.category]; done) | rfl
abbrev Q3_1 (Z : State) (a1 : Addr) (a2 : Addr) (c0 : Int32) (w : Int32) (h0 : Heap) (n0 : Nat) : Option Value → Heap → List Loc → Prop := (fun v h L => v = none ∧ Fr n0 L ∧ Keep h0 h [a1] ∧ ∃ b : Addr, h0.size ≤ b ∧ Exa Z h a1 "java/lang/String" ∧ Fld Z h a1 "java/lang/String" "value" "[B" (.ref b) ∧ Fld Z h a1 "java/lang/String" "coder" "B" (.int (0 : Int32)) ∧ OA Z h b .byte (([(c0.toInt8.toInt32)] : List Int32).map obv))
theorem rm3_1 (l : Launch) (Z : State) (a0 : Array Value) (hw : ∀ d ∈ tables_1, d.before a0 Z = true) (ws : List Jvm.Cond) (a1 : Addr) (a2 : Addr) (c0 : Int32) (w : Int32) (h0 : Heap) (n0 : Nat) (Z0 : n0 ≤ h0.size) (R0 : Exa Z h0 a1 "java/lang/String") (R1 : Fld Z h0 a1 "java/lang/String" "value" "[B" .null) (R2 : Fld Z h0 a1 "java/lang/String" "coder" "B" (.int (0 : Int32))) (R3 : OA Z h0 a2 .char [(.int c0)]) (R4 : Sta Z h0 "java/lang/String" "COMPACT_STRINGS" "Z" (.int w)) (g_a1 : n0 ≤ a1) (ne_a2_a1 : a2 ≠ a1) (hc0 : ¬ (255 : Int32) < c0) (hw0 : ¬ w = (0 : Int32)) :
    OMet l Z (⟨"java/lang/String", "<init>", "([CIILjava/lang/Void;)V"⟩ : MethodName) jdk_42_method_149_code 6 none ws ({ frames := 2, cells := 1, slots := 1, locals := 35 } : Room) #[(.ref a1), (.ref a2), (.int (0 : Int32)), (.int (1 : Int32)), .null] h0 (Q3_1 Z a1 a2 c0 w h0 n0) := by
  refine own_enter pn_3 ?_
  intro p e s m below meth c s₁ hx hby hml0 hown hret hlk hnm hZ X0 e0
  have hml : c.maxLocals = 6 := hml0
  have B : BX p c jdk_42_method_149_code := ⟨hx, hby⟩
  have N0 := Fr.nil n0
  refine own_cast (ef_3_1 m a1 a2) ?_
  refine waloadN OGc 1 X0 B d3_0 rfl rfl rfl ?_
  obtain ⟨T1, X1, e1, st1⟩ := initO X0 hx hZ hown (ow hw 15 rfl) (ow hw 16 rfl) (ow hw 17 rfl) e0 (g := (mkF m 1 #[.val (.ref a1), .val (.ref a2), .val (.int (0 : Int32)), .val (.int (1 : Int32)), .val .null, .unset] [(.ref a1)])) rfl (by rw [hml]; rfl) rfl (hb hby d3_1) (by decide) (W := 0) (by show 2 * 0 + _ ≤ _; exact Nat.le_of_eq rfl) (by decide)
  refine own_st st1 ?_
  show OG p e _ s below _ T1 (mkF m 4 #[.val (.ref a1), .val (.ref a2), .val (.int (0 : Int32)), .val (.int (1 : Int32)), .val .null, .unset] [])
  refine wiloadN OGc 5 X1 B d3_4 rfl rfl ?_
  refine wifYes OGc 27 X1 B d3_5 (by decide) rfl ?_
  refine wgetS OGc 30 X1 B hZ hown (ow hw 87 rfl) e1 R4 d3_27 rfl fun T2 X2 e2 => ?_
  refine wifNo OGc 33 X2 B d3_30 (own_if0 (feq hw0).1) rfl ?_
  refine waloadN OGc 34 X2 B d3_33 rfl rfl rfl ?_
  refine wiloadN OGc 35 X2 B d3_34 rfl rfl ?_
  refine wiloadN OGc 36 X2 B d3_35 rfl rfl ?_
  refine wstat OGc 39 X2 B hZ hown (ow hw 170 rfl) (ow hw 171 rfl) (ow hw 173 rfl) (ow hw 172 rfl) e2 (rm32_1 l Z a0 hw [] a2 c0 h0 n0 (Nat.le_trans Z0 (Keep.refl h0 [a1]).1) R3 hc0) 0 (by decide) (by decide) hml rfl (lenOf pd___CII__B rfl) [] rfl rfl d3_36 rfl fun _ T3 L3 X3 hQ3 => ?_
  obtain ⟨N3q, K3q, b_3, sz_b_3, rfl, P3_0⟩ := hQ3
  have N3 := Fr.app N0 N3q
  have ge_b_3 : n0 ≤ b_3 := Nat.le_trans (Nat.le_trans Z0 (Keep.refl h0 [a1]).1) sz_b_3
  have sy_b_3 : h0.size ≤ b_3 := Nat.le_trans (Keep.refl h0 [a1]).1 sz_b_3
  have ne_a1_b_3 : a1 ≠ b_3 := Nat.ne_of_lt (Nat.lt_of_lt_of_le R0.lt sz_b_3)
  have ne_a2_b_3 : a2 ≠ b_3 := Nat.ne_of_lt (Nat.lt_of_lt_of_le R3.lt sz_b_3)
  have K3 := (Keep.refl h0 [a1]).trans K3q (own_all0 )
  have F4 := R0.keep K3q
  have F5 := R1.keep K3q (own_nin0 )
  have F6 := R2.keep K3q (own_nin0 )
  have F7 := R3.keep K3q (own_nin0 )
  have F8 := own_staK R4 K3q (own_all0 )
  refine own_stk (S' := [(.ref b_3)]) rfl ?_
  refine wastore OGc 41 X3 B d3_39 #[.val (.ref a1), .val (.ref a2), .val (.int (0 : Int32)), .val (.int (1 : Int32)), .val .null, .val (.ref b_3)] rfl rfl rfl ?_
  refine waloadN OGc 42 X3 B d3_41 rfl rfl rfl ?_
  refine waload OGc 44 X3 B d3_42 rfl rfl rfl ?_
  refine wiloadN OGc 45 X3 B d3_44 rfl rfl ?_
  refine wstat OGc 48 X3 B hZ hown (ow hw 177 rfl) (ow hw 178 rfl) (ow hw 179 rfl) (ow hw 172 rfl) rfl (rm34_1 l Z a0 hw [] b_3 (nar .byte (c0.toInt8.toInt32)) T3.heap n0 P3_0) 1 (by decide) (by decide) hml rfl (lenOf pd___BI_B rfl) [(.ref a1)] rfl rfl d3_45 rfl fun _ T9 L9 X9 hQ9 => ?_
  obtain ⟨rfl, N9q, K9q⟩ := hQ9
  have N9 := Fr.app N3 N9q
  have K9 := K3.trans K9q (own_all0 )
  have F10 := F4.keep K9q
  have F11 := F5.keep K9q (own_nin0 )
  have F12 := F6.keep K9q (own_nin0 )
  have F13 := F7.keep K9q (own_nin0 )
  have F14 := own_staK F8 K9q (own_all0 )
  have F15 := P3_0.keep K9q (own_nin0 )
  refine own_stk (S' := [(.int (0 : Int32)), (.ref a1)]) rfl ?_
  refine wputF OGc 51 X9 B hZ hown (ow hw 25 rfl) rfl F12 F10 (Or.inr ⟨(ow hw 21 rfl), rfl, hnm⟩) (ow hw 5 rfl) (ty := .byte) (by decide) rfl rfl d3_48 rfl fun T16 h16 X16 e16 W16 => ?_
  have N16 := Fr.snoc X16 N9 g_a1
  have K17 := K9.wr W16 (Or.inl (List.mem_of_getElem? (i := 0) rfl))
  have F18 := F10.wr W16
  have F19 := F11.other W16 (Or.inr (slot_ne (Or.inr (ow hw 20 rfl)) (Or.inr (ow hw 21 rfl)) (by decide) (t := (.array .byte)) (t' := .byte) (by decide) (by decide)))
  have F20 : Fld Z h16 a1 "java/lang/String" "coder" "B" (.int (0 : Int32)) := (F12.same W16)
  have F21 := F13.other W16 ne_a2_a1
  have F22 := F14.wr W16
  have F23 := F15.other W16 (Ne.symm ne_a1_b_3)
  refine waloadN OGc 52 X16 B d3_51 rfl rfl rfl ?_
  refine waload OGc 54 X16 B d3_52 rfl rfl rfl ?_
  refine wputF OGc 57 X16 B hZ hown (ow hw 24 rfl) e16 F19 F18 (Or.inr ⟨(ow hw 20 rfl), rfl, hnm⟩) (ow hw 5 rfl) (ty := (.array .byte)) (by decide) rfl rfl d3_54 rfl fun T24 h24 X24 e24 W24 => ?_
  have N24 := Fr.snoc X24 N16 g_a1
  have K25 := K17.wr W24 (Or.inl (List.mem_of_getElem? (i := 0) rfl))
  have F26 := F18.wr W24
  have F27 : Fld Z h24 a1 "java/lang/String" "value" "[B" (.ref b_3) := (F19.same W24)
  have F28 := F20.other W24 (Or.inr (slot_ne (Or.inr (ow hw 21 rfl)) (Or.inr (ow hw 20 rfl)) (by decide) (t := .byte) (t' := (.array .byte)) (by decide) (by decide)))
  have F29 := F21.other W24 ne_a2_a1
  have F30 := F22.wr W24
  have F31 := F23.other W24 (Ne.symm ne_a1_b_3)
  refine own_ret0 X24 hx hret hlk (hb hby d3_57) (by decide) (by decide) ?_
  rw [e24]
  exact ⟨rfl, N24, K25, b_3, sy_b_3, F26, F27, F28, F31⟩
theorem d2_0 : decode jdk_42_method_3_code 0 = .ok (.aload_n 0, 1) := by decide +kernel
theorem d2_1 : decode jdk_42_method_3_code 1 = .ok (.aload_n 1, 1) := by decide +kernel
theorem d2_2 : decode jdk_42_method_3_code 2 = .ok (.iconst 0, 1) := by decide +kernel
theorem d2_3 : decode jdk_42_method_3_code 3 = .ok (.aload_n 1, 1) := by decide +kernel
theorem d2_4 : decode jdk_42_method_3_code 4 = .ok (.arraylength, 1) := by decide +kernel
theorem d2_5 : decode jdk_42_method_3_code 5 = .ok (.aconst_null, 1) := by decide +kernel
theorem d2_6 : decode jdk_42_method_3_code 6 = .ok (.invokespecial 27, 3) := by decide +kernel
theorem d2_9 : decode jdk_42_method_3_code 9 = .ok (.return_, 1) := by decide +kernel
theorem pd___CIILjava_lang_Void__V : parseMethodDescriptor "([CIILjava/lang/Void;)V" = some ⟨[(.array .char), .int, .int, (.object "java/lang/Void")], none⟩ := by decide +kernel
theorem pn_2 : plainFor (⟨"java/lang/String", "<init>", "([C)V"⟩ : MethodName) = true := by first | exact plainFor_of_name (by first | (simp [plainName, overriddenIn]; done) | decide +kernel) | decide +kernel
theorem ef_2 (m : MethodId) (a1 : Addr) (a2 : Addr) : entryFrame m #[(.ref a1), (.ref a2)] 2 = (mkF m 0 #[.val (.ref a1), .val (.ref a2)] []) := by first | (simp [entryFrame, mkF, argsToLocals, Value.category]; done) | rfl
abbrev Q2_1 (Z : State) (a1 : Addr) (a2 : Addr) (c0 : Int32) (w : Int32) (h0 : Heap) (n0 : Nat) : Option Value → Heap → List Loc → Prop := (fun v h L => v = none ∧ Fr n0 L ∧ Keep h0 h [a1] ∧ ∃ b : Addr, h0.size ≤ b ∧ Exa Z h a1 "java/lang/String" ∧ Fld Z h a1 "java/lang/String" "value" "[B" (.ref b) ∧ Fld Z h a1 "java/lang/String" "coder" "B" (.int (0 : Int32)) ∧ OA Z h b .byte (([(c0.toInt8.toInt32)] : List Int32).map obv))
theorem rm2_1 (l : Launch) (Z : State) (a0 : Array Value) (hw : ∀ d ∈ tables_1, d.before a0 Z = true) (ws : List Jvm.Cond) (a1 : Addr) (a2 : Addr) (c0 : Int32) (w : Int32) (h0 : Heap) (n0 : Nat) (Z0 : n0 ≤ h0.size) (R0 : Exa Z h0 a1 "java/lang/String") (R1 : Fld Z h0 a1 "java/lang/String" "value" "[B" .null) (R2 : Fld Z h0 a1 "java/lang/String" "coder" "B" (.int (0 : Int32))) (R3 : OA Z h0 a2 .char [(.int c0)]) (R4 : Sta Z h0 "java/lang/String" "COMPACT_STRINGS" "Z" (.int w)) (g_a1 : n0 ≤ a1) (ne_a2_a1 : a2 ≠ a1) (hc0 : ¬ (255 : Int32) < c0) (hw0 : ¬ w = (0 : Int32)) :
    OMet l Z (⟨"java/lang/String", "<init>", "([C)V"⟩ : MethodName) jdk_42_method_3_code 2 none ws ({ frames := 3, cells := 1, slots := 1, locals := 52 } : Room) #[(.ref a1), (.ref a2)] h0 (Q2_1 Z a1 a2 c0 w h0 n0) := by
  refine own_enter pn_2 ?_
  intro p e s m below meth c s₁ hx hby hml0 hown hret hlk hnm hZ X0 e0
  have hml : c.maxLocals = 2 := hml0
  have B : BX p c jdk_42_method_3_code := ⟨hx, hby⟩
  have N0 := Fr.nil n0
  refine own_cast (ef_2 m a1 a2) ?_
  refine waloadN OGc 1 X0 B d2_0 rfl rfl rfl ?_
  refine waloadN OGc 2 X0 B d2_1 rfl rfl rfl ?_
  refine wiconst OGc 3 X0 B d2_2 0 rfl rfl ?_
  refine waloadN OGc 4 X0 B d2_3 rfl rfl rfl ?_
  refine warlenA OGc 5 X0 B hZ e0 R3 (1 : Int32) rfl d2_4 rfl ?_
  refine waconstNull OGc 6 X0 B d2_5 rfl ?_
  refine wspec OGc 9 X0 B hZ hown (ow hw 11 rfl) (ow hw 12 rfl) rfl (ow hw 14 rfl) (ow hw 6 rfl) e0 (rm3_1 l Z a0 hw [] a1 a2 c0 w h0 n0 (Nat.le_trans Z0 (Keep.refl h0 [a1]).1) R0 R1 R2 R3 R4 g_a1 ne_a2_a1 hc0 hw0) 0 (by decide) (by decide) hml rfl (lenOf pd___CIILjava_lang_Void__V rfl) [] rfl rfl d2_6 rfl fun _ T2 L2 X2 hQ2 => ?_
  obtain ⟨rfl, N2q, K2q, b_2, sz_b_2, P2_0, P2_1, P2_2, P2_3⟩ := hQ2
  have N2 := Fr.app N0 N2q
  have ge_b_2 : n0 ≤ b_2 := Nat.le_trans (Nat.le_trans Z0 (Keep.refl h0 [a1]).1) sz_b_2
  have sy_b_2 : h0.size ≤ b_2 := Nat.le_trans (Keep.refl h0 [a1]).1 sz_b_2
  have ne_a1_b_2 : a1 ≠ b_2 := Nat.ne_of_lt (Nat.lt_of_lt_of_le R0.lt sz_b_2)
  have ne_a2_b_2 : a2 ≠ b_2 := Nat.ne_of_lt (Nat.lt_of_lt_of_le R3.lt sz_b_2)
  have K2 := (Keep.refl h0 [a1]).trans K2q (own_all1 (Or.inl (List.mem_of_getElem? (i := 0) rfl)))
  have F3 := R3.keep K2q (own_nin1 ne_a2_a1)
  have F4 := own_staK R4 K2q (own_all1 (own_plE R0))
  refine own_stk (S' := []) rfl ?_
  refine own_ret0 X2 hx hret hlk (hb hby d2_9) (by decide) (by decide) ?_
  exact ⟨rfl, N2, K2, b_2, sy_b_2, P2_0, P2_1, P2_2, P2_3⟩
theorem ef_33_2 (m : MethodId) (a1 : Addr) (a3 : Addr) : entryFrame m #[(.ref a1), (.int (0 : Int32)), (.ref a3), (.int (0 : Int32)), (.int (2 : Int32))] 7 = (mkF m 0 #[.val (.ref a1), .val (.int (0 : Int32)), .val (.ref a3), .val (.int (0 : Int32)), .val (.int (2 : Int32)), .unset, .unset] []) := by first | (simp [entryFrame, mkF, argsToLocals, Value.category]; done) | rfl
abbrev Q33_2 (Z : State) (a1 : Addr) (a3 : Addr) (c0 : Int32) (c1 : Int32) (h0 : Heap) (n0 : Nat) : Option Value → Heap → List Loc → Prop := (fun v h L => v = some (.int (2 : Int32)) ∧ Fr n0 L ∧ Keep h0 h [a3] ∧ OA Z h a3 .byte (([(c0.toInt8.toInt32), (c1.toInt8.toInt32)] : List Int32).map obv))
theorem rm33_2 (l : Launch) (Z : State) (a0 : Array Value) (hw : ∀ d ∈ tables_1, d.before a0 Z = true) (ws : List Jvm.Cond) (a1 : Addr) (a3 : Addr) (c0 : Int32) (c1 : Int32) (h0 : Heap) (n0 : Nat) (R0 : OA Z h0 a1 .char [(.int c0), (.int c1)]) (R1 : OA Z h0 a3 .byte [(.int (0 : Int32)), (.int (0 : Int32))]) (g_a3 : n0 ≤ a3) (ne_a1_a3 : a1 ≠ a3) (hc0 : ¬ (255 : Int32) < c0) (hc1 : ¬ (255 : Int32) < c1) :
    OMet l Z (⟨"java/lang/StringUTF16", "compress", "([CI[BII)I"⟩ : MethodName) jdk_52_method_21_code 7 (some .int) ws ({ frames := 0, cells := 0, slots := 0, locals := 0 } : Room) #[(.ref a1), (.int (0 : Int32)), (.ref a3), (.int (0 : Int32)), (.int (2 : Int32))] h0 (Q33_2 Z a1 a3 c0 c1 h0 n0) := by
  refine own_enter pn_33 ?_
  intro p e s m below meth c s₁ hx hby hml0 hown hret hlk hnm hZ X0 e0
  have hml : c.maxLocals = 7 := hml0
  have B : BX p c jdk_52_method_21_code := ⟨hx, hby⟩
  have N0 := Fr.nil n0
  refine own_cast (ef_33_2 m a1 a3) ?_
  refine wiconst OGc 1 X0 B d33_0 0 rfl rfl ?_
  refine wistore OGc 3 X0 B d33_1 #[.val (.ref a1), .val (.int (0 : Int32)), .val (.ref a3), .val (.int (0 : Int32)), .val (.int (2 : Int32)), .val (.int (0 : Int32)), .unset] rfl rfl ?_
  refine wiload OGc 5 X0 B d33_3 rfl rfl ?_
  refine wiload OGc 7 X0 B d33_5 rfl rfl ?_
  refine wicmpNo OGc 10 X0 B d33_7 (by decide) rfl ?_
  refine waloadN OGc 11 X0 B d33_10 rfl rfl rfl ?_
  refine wiloadN OGc 12 X0 B d33_11 rfl rfl ?_
  refine wcaload OGc 13 X0 B hZ e0 R0 (v := (.int c0)) 0 (by decide) (by decide) rfl d33_12 rfl ?_
  refine wistore OGc 15 X0 B d33_13 #[.val (.ref a1), .val (.int (0 : Int32)), .val (.ref a3), .val (.int (0 : Int32)), .val (.int (2 : Int32)), .val (.int (0 : Int32)), .val (.int c0)] rfl rfl ?_
  refine wiload OGc 17 X0 B d33_15 rfl rfl ?_
  refine wsipush OGc 20 X0 B d33_17 255 rfl rfl ?_
  refine wicmpYes OGc 26 X0 B d33_20 (flt hc0).2.2.2 rfl ?_
  refine waloadN OGc 27 X0 B d33_26 rfl rfl rfl ?_
  refine wiloadN OGc 28 X0 B d33_27 rfl rfl ?_
  refine wiload OGc 30 X0 B d33_28 rfl rfl ?_
  refine own_st (fun t k => XS.i2b X0.here hx rfl (hb hby d33_30) rfl k) ?_
  show OG p e _ s below _ s₁ (mkF m 31 #[.val (.ref a1), .val (.int (0 : Int32)), .val (.ref a3), .val (.int (0 : Int32)), .val (.int (2 : Int32)), .val (.int (0 : Int32)), .val (.int c0)] [(.int (c0.toInt8.toInt32)), (.int (0 : Int32)), (.ref a3)])
  refine wstB OGc 32 X0 B hZ e0 R1 0 (by decide) (by decide) (by decide : 0 < 2) d33_31 rfl fun T2 h2 X2 e2 W2 => ?_
  have N2 := Fr.snoc X2 N0 g_a3
  have K3 := (Keep.refl h0 [a3]).wr W2 (Or.inl (List.mem_of_getElem? (i := 0) rfl))
  have F4 := R0.other W2 ne_a1_a3
  have F5 : OA Z h2 a3 .byte [(.int (nar .byte (c0.toInt8.toInt32))), (.int (0 : Int32))] := (R1.set W2 (i := 0) (by decide))
  refine wiinc OGc 35 X2 B d33_32 #[.val (.ref a1), .val (.int ((0 : Int32) + (1 : Int32))), .val (.ref a3), .val (.int (0 : Int32)), .val (.int (2 : Int32)), .val (.int (0 : Int32)), .val (.int c0)] rfl rfl rfl ?_
  show OG p e _ s below _ T2 (mkF m 35 #[.val (.ref a1), .val (.int (1 : Int32)), .val (.ref a3), .val (.int (0 : Int32)), .val (.int (2 : Int32)), .val (.int (0 : Int32)), .val (.int c0)] [])
  refine wiinc OGc 38 X2 B d33_35 #[.val (.ref a1), .val (.int (1 : Int32)), .val (.ref a3), .val (.int ((0 : Int32) + (1 : Int32))), .val (.int (2 : Int32)), .val (.int (0 : Int32)), .val (.int c0)] rfl rfl rfl ?_
  show OG p e _ s below _ T2 (mkF m 38 #[.val (.ref a1), .val (.int (1 : Int32)), .val (.ref a3), .val (.int (1 : Int32)), .val (.int (2 : Int32)), .val (.int (0 : Int32)), .val (.int c0)] [])
  refine wiinc OGc 41 X2 B d33_38 #[.val (.ref a1), .val (.int (1 : Int32)), .val (.ref a3), .val (.int (1 : Int32)), .val (.int (2 : Int32)), .val (.int ((0 : Int32) + (1 : Int32))), .val (.int c0)] rfl rfl rfl ?_
  show OG p e _ s below _ T2 (mkF m 41 #[.val (.ref a1), .val (.int (1 : Int32)), .val (.ref a3), .val (.int (1 : Int32)), .val (.int (2 : Int32)), .val (.int (1 : Int32)), .val (.int c0)] [])
  refine wgoto OGc 3 X2 B d33_41 rfl ?_
  refine wiload OGc 5 X2 B d33_3 rfl rfl ?_
  refine wiload OGc 7 X2 B d33_5 rfl rfl ?_
  refine wicmpNo OGc 10 X2 B d33_7 (by decide) rfl ?_
  refine waloadN OGc 11 X2 B d33_10 rfl rfl rfl ?_
  refine wiloadN OGc 12 X2 B d33_11 rfl rfl ?_
  refine wcaload OGc 13 X2 B hZ e2 F4 (v := (.int c1)) 1 (by decide) (by decide) rfl d33_12 rfl ?_
  refine wistore OGc 15 X2 B d33_13 #[.val (.ref a1), .val (.int (1 : Int32)), .val (.ref a3), .val (.int (1 : Int32)), .val (.int (2 : Int32)), .val (.int (1 : Int32)), .val (.int c1)] rfl rfl ?_
  refine wiload OGc 17 X2 B d33_15 rfl rfl ?_
  refine wsipush OGc 20 X2 B d33_17 255 rfl rfl ?_
  refine wicmpYes OGc 26 X2 B d33_20 (flt hc1).2.2.2 rfl ?_
  refine waloadN OGc 27 X2 B d33_26 rfl rfl rfl ?_
  refine wiloadN OGc 28 X2 B d33_27 rfl rfl ?_
  refine wiload OGc 30 X2 B d33_28 rfl rfl ?_
  refine own_st (fun t k => XS.i2b X2.here hx rfl (hb hby d33_30) rfl k) ?_
  show OG p e _ s below _ T2 (mkF m 31 #[.val (.ref a1), .val (.int (1 : Int32)), .val (.ref a3), .val (.int (1 : Int32)), .val (.int (2 : Int32)), .val (.int (1 : Int32)), .val (.int c1)] [(.int (c1.toInt8.toInt32)), (.int (1 : Int32)), (.ref a3)])
  refine wstB OGc 32 X2 B hZ e2 F5 1 (by decide) (by decide) (by decide : 1 < 2) d33_31 rfl fun T7 h7 X7 e7 W7 => ?_
  have N7 := Fr.snoc X7 N2 g_a3
  have K8 := K3.wr W7 (Or.inl (List.mem_of_getElem? (i := 0) rfl))
  have F9 := F4.other W7 ne_a1_a3
  have F10 : OA Z h7 a3 .byte (([(c0.toInt8.toInt32), (c1.toInt8.toInt32)] : List Int32).map obv) := (F5.set W7 (i := 1) (by decide))
  refine wiinc OGc 35 X7 B d33_32 #[.val (.ref a1), .val (.int ((1 : Int32) + (1 : Int32))), .val (.ref a3), .val (.int (1 : Int32)), .val (.int (2 : Int32)), .val (.int (1 : Int32)), .val (.int c1)] rfl rfl rfl ?_
  show OG p e _ s below _ T7 (mkF m 35 #[.val (.ref a1), .val (.int (2 : Int32)), .val (.ref a3), .val (.int (1 : Int32)), .val (.int (2 : Int32)), .val (.int (1 : Int32)), .val (.int c1)] [])
  refine wiinc OGc 38 X7 B d33_35 #[.val (.ref a1), .val (.int (2 : Int32)), .val (.ref a3), .val (.int ((1 : Int32) + (1 : Int32))), .val (.int (2 : Int32)), .val (.int (1 : Int32)), .val (.int c1)] rfl rfl rfl ?_
  show OG p e _ s below _ T7 (mkF m 38 #[.val (.ref a1), .val (.int (2 : Int32)), .val (.ref a3), .val (.int (2 : Int32)), .val (.int (2 : Int32)), .val (.int (1 : Int32)), .val (.int c1)] [])
  refine wiinc OGc 41 X7 B d33_38 #[.val (.ref a1), .val (.int (2 : Int32)), .val (.ref a3), .val (.int (2 : Int32)), .val (.int (2 : Int32)), .val (.int ((1 : Int32) + (1 : Int32))), .val (.int c1)] rfl rfl rfl ?_
  show OG p e _ s below _ T7 (mkF m 41 #[.val (.ref a1), .val (.int (2 : Int32)), .val (.ref a3), .val (.int (2 : Int32)), .val (.int (2 : Int32)), .val (.int (2 : Int32)), .val (.int c1)] [])
  refine wgoto OGc 3 X7 B d33_41 rfl ?_
  refine wiload OGc 5 X7 B d33_3 rfl rfl ?_
  refine wiload OGc 7 X7 B d33_5 rfl rfl ?_
  refine wicmpYes OGc 44 X7 B d33_7 (by decide) rfl ?_
  refine wiload OGc 46 X7 B d33_44 rfl rfl ?_
  refine own_retI X7 hx hret hlk (hb hby d33_46) (by decide) (by decide) ?_
  rw [e7]
  exact ⟨rfl, N7, K8, F10⟩
theorem ef_32_2 (m : MethodId) (a1 : Addr) : entryFrame m #[(.ref a1), (.int (0 : Int32)), (.int (2 : Int32))] 6 = (mkF m 0 #[.val (.ref a1), .val (.int (0 : Int32)), .val (.int (2 : Int32)), .unset, .unset, .unset] []) := by first | (simp [entryFrame, mkF, argsToLocals, Value.category]; done) | rfl
abbrev Q32_2 (Z : State) (a1 : Addr) (c0 : Int32) (c1 : Int32) (h0 : Heap) (n0 : Nat) : Option Value → Heap → List Loc → Prop := (fun v h L => Fr n0 L ∧ Keep h0 h [] ∧ ∃ b : Addr, h0.size ≤ b ∧ v = some (.ref b) ∧ OA Z h b .byte (([(c0.toInt8.toInt32), (c1.toInt8.toInt32)] : List Int32).map obv))
theorem rm32_2 (l : Launch) (Z : State) (a0 : Array Value) (hw : ∀ d ∈ tables_1, d.before a0 Z = true) (ws : List Jvm.Cond) (a1 : Addr) (c0 : Int32) (c1 : Int32) (h0 : Heap) (n0 : Nat) (Z0 : n0 ≤ h0.size) (R0 : OA Z h0 a1 .char [(.int c0), (.int c1)]) (hc0 : ¬ (255 : Int32) < c0) (hc1 : ¬ (255 : Int32) < c1) :
    OMet l Z (⟨"java/lang/StringUTF16", "compress", "([CII)[B"⟩ : MethodName) jdk_52_method_16_code 6 (some (.array .byte)) ws ({ frames := 1, cells := 1, slots := 2, locals := 18 } : Room) #[(.ref a1), (.int (0 : Int32)), (.int (2 : Int32))] h0 (Q32_2 Z a1 c0 c1 h0 n0) := by
  refine own_enter pn_32 ?_
  intro p e s m below meth c s₁ hx hby hml0 hown hret hlk hnm hZ X0 e0
  have hml : c.maxLocals = 6 := hml0
  have B : BX p c jdk_52_method_16_code := ⟨hx, hby⟩
  have N0 := Fr.nil n0
  refine own_cast (ef_32_2 m a1) ?_
  refine wiloadN OGc 1 X0 B d32_0 rfl rfl ?_
  refine wnewP OGc 3 X0 B hZ (ow hw 19 rfl) e0 d32_1 2 (by decide) (by decide) rfl fun T1 h1 b1 k1 gb1 X1 e1 E1 A1 => ?_
  have ge_b1 : n0 ≤ b1 := by rw [gb1]; exact Nat.le_trans Z0 (Keep.refl h0 []).1
  have sz_b1 : h0.size ≤ b1 := by rw [gb1]; exact (Keep.refl h0 []).1
  have ne_a1_b1 : a1 ≠ b1 := Nat.ne_of_lt (Nat.lt_of_lt_of_eq R0.lt gb1.symm)
  have F2 := R0.ext E1
  have K3 := (Keep.refl h0 []).ext E1
  have F4 : OA Z h1 b1 .byte [(.int (0 : Int32)), (.int (0 : Int32))] := OA.new A1
  refine wastoreN OGc 4 X1 B d32_3 #[.val (.ref a1), .val (.int (0 : Int32)), .val (.int (2 : Int32)), .val (.ref b1), .unset, .unset] rfl rfl rfl ?_
  refine waloadN OGc 5 X1 B d32_4 rfl rfl rfl ?_
  refine wiloadN OGc 6 X1 B d32_5 rfl rfl ?_
  refine waloadN OGc 7 X1 B d32_6 rfl rfl rfl ?_
  refine wiconst OGc 8 X1 B d32_7 0 rfl rfl ?_
  refine wiloadN OGc 9 X1 B d32_8 rfl rfl ?_
  refine wstat OGc 12 X1 B hZ hown (ow hw 174 rfl) (ow hw 175 rfl) (ow hw 176 rfl) (ow hw 172 rfl) e1 (rm33_2 l Z a0 hw [] a1 b1 c0 c1 h1 n0 F2 F4 ge_b1 ne_a1_b1 hc0 hc1) 0 (by decide) (by decide) hml rfl (lenOf pd___CI_BII_I rfl) [] rfl rfl d32_9 rfl fun _ T5 L5 X5 hQ5 => ?_
  obtain ⟨rfl, N5q, K5q, P5_0⟩ := hQ5
  have N5 := Fr.app N0 N5q
  have K5 := K3.trans K5q (own_all1 (Or.inr sz_b1))
  have F6 := F2.keep K5q (own_nin1 ne_a1_b1)
  refine own_stk (S' := [(.int (2 : Int32))]) rfl ?_
  refine wistore OGc 14 X5 B d32_12 #[.val (.ref a1), .val (.int (0 : Int32)), .val (.int (2 : Int32)), .val (.ref b1), .val (.int (2 : Int32)), .unset] rfl rfl ?_
  refine wiload OGc 16 X5 B d32_14 rfl rfl ?_
  refine wiloadN OGc 17 X5 B d32_16 rfl rfl ?_
  refine wicmpYes OGc 57 X5 B d32_17 (by decide) rfl ?_
  refine waloadN OGc 58 X5 B d32_57 rfl rfl rfl ?_
  refine own_retV X5 hx hret rfl (Or.inr (Or.inr (Or.inr (Or.inr ⟨rfl, rfl, rfl⟩)))) hlk (hb hby d32_58) (by decide) (by decide) ?_
  exact ⟨N5, K5, b1, sz_b1, rfl, P5_0⟩
theorem ef_34_2 (m : MethodId) (a1 : Addr) : entryFrame m #[(.ref a1), (.int (2 : Int32))] 2 = (mkF m 0 #[.val (.ref a1), .val (.int (2 : Int32))] []) := by first | (simp [entryFrame, mkF, argsToLocals, Value.category]; done) | rfl
abbrev Q34_2 (Z : State) (a1 : Addr) (c0 : Int32) (c1 : Int32) (h0 : Heap) (n0 : Nat) : Option Value → Heap → List Loc → Prop := (fun v h L => v = some (.int (0 : Int32)) ∧ Fr n0 L ∧ Keep h0 h [])
theorem rm34_2 (l : Launch) (Z : State) (a0 : Array Value) (hw : ∀ d ∈ tables_1, d.before a0 Z = true) (ws : List Jvm.Cond) (a1 : Addr) (c0 : Int32) (c1 : Int32) (h0 : Heap) (n0 : Nat) (R0 : OA Z h0 a1 .byte [(.int c0), (.int c1)]) :
    OMet l Z (⟨"java/lang/StringUTF16", "coderFromArrayLen", "([BI)B"⟩ : MethodName) jdk_52_method_15_code 2 (some .byte) ws ({ frames := 0, cells := 0, slots := 0, locals := 0 } : Room) #[(.ref a1), (.int (2 : Int32))] h0 (Q34_2 Z a1 c0 c1 h0 n0) := by
  refine own_enter pn_34 ?_
  intro p e s m below meth c s₁ hx hby hml0 hown hret hlk hnm hZ X0 e0
  have hml : c.maxLocals = 2 := hml0
  have B : BX p c jdk_52_method_15_code := ⟨hx, hby⟩
  have N0 := Fr.nil n0
  refine own_cast (ef_34_2 m a1) ?_
  refine wiloadN OGc 1 X0 B d34_0 rfl rfl ?_
  refine waloadN OGc 2 X0 B d34_1 rfl rfl rfl ?_
  refine warlenA OGc 3 X0 B hZ e0 R0 (2 : Int32) rfl d34_2 rfl ?_
  refine wisub OGc 4 X0 B d34_3 rfl ?_
  show OG p e _ s below _ s₁ (mkF m 4 #[.val (.ref a1), .val (.int (2 : Int32))] [(.int (0 : Int32))])
  refine wbipush OGc 6 X0 B d34_4 31 rfl rfl ?_
  refine own_st (fun t k => XS.iushr X0.here hx rfl (hb hby d34_6) rfl k) ?_
  show OG p e _ s below _ s₁ (mkF m 7 #[.val (.ref a1), .val (.int (2 : Int32))] [(.int (0 : Int32))])
  refine own_st (fun t k => XS.i2b X0.here hx rfl (hb hby d34_7) rfl k) ?_
  show OG p e _ s below _ s₁ (mkF m 8 #[.val (.ref a1), .val (.int (2 : Int32))] [(.int ((0 : Int32).toInt8.toInt32))])
  refine own_retZ X0 hx (t := .byte) hret (by simp) hlk (hb hby d34_8) (by decide) (by decide) (w := (0 : Int32)) rfl ?_
  rw [e0]
  exact ⟨rfl, N0, (Keep.refl h0 [])⟩
theorem ef_3_2 (m : MethodId) (a1 : Addr) (a2 : Addr) : entryFrame m #[(.ref a1), (.ref a2), (.int (0 : Int32)), (.int (2 : Int32)), .null] 6 = (mkF m 0 #[.val (.ref a1), .val (.ref a2), .val (.int (0 : Int32)), .val (.int (2 : Int32)), .val .null, .unset] []) := by first | (simp [entryFrame, mkF, argsToLocals, Value.category]; done) | rfl
abbrev Q3_2 (Z : State) (a1 : Addr) (a2 : Addr) (c0 : Int32) (c1 : Int32) (w : Int32) (h0 : Heap) (n0 : Nat) : Option Value → Heap → List Loc → Prop := (fun v h L => v = none ∧ Fr n0 L ∧ Keep h0 h [a1] ∧ ∃ b : Addr, h0.size ≤ b ∧ Exa Z h a1 "java/lang/String" ∧ Fld Z h a1 "java/lang/String" "value" "[B" (.ref b) ∧ Fld Z h a1 "java/lang/String" "coder" "B" (.int (0 : Int32)) ∧ OA Z h b .byte (([(c0.toInt8.toInt32), (c1.toInt8.toInt32)] : List Int32).map obv))
theorem rm3_2 (l : Launch) (Z : State) (a0 : Array Value) (hw : ∀ d ∈ tables_1, d.before a0 Z = true) (ws : List Jvm.Cond) (a1 : Addr) (a2 : Addr) (c0 : Int32) (c1 : Int32) (w : Int32) (h0 : Heap) (n0 : Nat) (Z0 : n0 ≤ h0.size) (R0 : Exa Z h0 a1 "java/lang/String") (R1 : Fld Z h0 a1 "java/lang/String" "value" "[B" .null) (R2 : Fld Z h0 a1 "java/lang/String" "coder" "B" (.int (0 : Int32))) (R3 : OA Z h0 a2 .char [(.int c0), (.int c1)]) (R4 : Sta Z h0 "java/lang/String" "COMPACT_STRINGS" "Z" (.int w)) (g_a1 : n0 ≤ a1) (ne_a2_a1 : a2 ≠ a1) (hc0 : ¬ (255 : Int32) < c0) (hc1 : ¬ (255 : Int32) < c1) (hw0 : ¬ w = (0 : Int32)) :
    OMet l Z (⟨"java/lang/String", "<init>", "([CIILjava/lang/Void;)V"⟩ : MethodName) jdk_42_method_149_code 6 none ws ({ frames := 2, cells := 1, slots := 2, locals := 35 } : Room) #[(.ref a1), (.ref a2), (.int (0 : Int32)), (.int (2 : Int32)), .null] h0 (Q3_2 Z a1 a2 c0 c1 w h0 n0) := by
  refine own_enter pn_3 ?_
  intro p e s m below meth c s₁ hx hby hml0 hown hret hlk hnm hZ X0 e0
  have hml : c.maxLocals = 6 := hml0
  have B : BX p c jdk_42_method_149_code := ⟨hx, hby⟩
  have N0 := Fr.nil n0
  refine own_cast (ef_3_2 m a1 a2) ?_
  refine waloadN OGc 1 X0 B d3_0 rfl rfl rfl ?_
  obtain ⟨T1, X1, e1, st1⟩ := initO X0 hx hZ hown (ow hw 15 rfl) (ow hw 16 rfl) (ow hw 17 rfl) e0 (g := (mkF m 1 #[.val (.ref a1), .val (.ref a2), .val (.int (0 : Int32)), .val (.int (2 : Int32)), .val .null, .unset] [(.ref a1)])) rfl (by rw [hml]; rfl) rfl (hb hby d3_1) (by decide) (W := 0) (by show 2 * 0 + _ ≤ _; exact Nat.le_of_eq rfl) (by decide)
  refine own_st st1 ?_
  show OG p e _ s below _ T1 (mkF m 4 #[.val (.ref a1), .val (.ref a2), .val (.int (0 : Int32)), .val (.int (2 : Int32)), .val .null, .unset] [])
  refine wiloadN OGc 5 X1 B d3_4 rfl rfl ?_
  refine wifYes OGc 27 X1 B d3_5 (by decide) rfl ?_
  refine wgetS OGc 30 X1 B hZ hown (ow hw 87 rfl) e1 R4 d3_27 rfl fun T2 X2 e2 => ?_
  refine wifNo OGc 33 X2 B d3_30 (own_if0 (feq hw0).1) rfl ?_
  refine waloadN OGc 34 X2 B d3_33 rfl rfl rfl ?_
  refine wiloadN OGc 35 X2 B d3_34 rfl rfl ?_
  refine wiloadN OGc 36 X2 B d3_35 rfl rfl ?_
  refine wstat OGc 39 X2 B hZ hown (ow hw 170 rfl) (ow hw 171 rfl) (ow hw 173 rfl) (ow hw 172 rfl) e2 (rm32_2 l Z a0 hw [] a2 c0 c1 h0 n0 (Nat.le_trans Z0 (Keep.refl h0 [a1]).1) R3 hc0 hc1) 0 (by decide) (by decide) hml rfl (lenOf pd___CII__B rfl) [] rfl rfl d3_36 rfl fun _ T3 L3 X3 hQ3 => ?_
  obtain ⟨N3q, K3q, b_3, sz_b_3, rfl, P3_0⟩ := hQ3
  have N3 := Fr.app N0 N3q
  have ge_b_3 : n0 ≤ b_3 := Nat.le_trans (Nat.le_trans Z0 (Keep.refl h0 [a1]).1) sz_b_3
  have sy_b_3 : h0.size ≤ b_3 := Nat.le_trans (Keep.refl h0 [a1]).1 sz_b_3
  have ne_a1_b_3 : a1 ≠ b_3 := Nat.ne_of_lt (Nat.lt_of_lt_of_le R0.lt sz_b_3)
  have ne_a2_b_3 : a2 ≠ b_3 := Nat.ne_of_lt (Nat.lt_of_lt_of_le R3.lt sz_b_3)
  have K3 := (Keep.refl h0 [a1]).trans K3q (own_all0 )
  have F4 := R0.keep K3q
  have F5 := R1.keep K3q (own_nin0 )
  have F6 := R2.keep K3q (own_nin0 )
  have F7 := R3.keep K3q (own_nin0 )
  have F8 := own_staK R4 K3q (own_all0 )
  refine own_stk (S' := [(.ref b_3)]) rfl ?_
  refine wastore OGc 41 X3 B d3_39 #[.val (.ref a1), .val (.ref a2), .val (.int (0 : Int32)), .val (.int (2 : Int32)), .val .null, .val (.ref b_3)] rfl rfl rfl ?_
  refine waloadN OGc 42 X3 B d3_41 rfl rfl rfl ?_
  refine waload OGc 44 X3 B d3_42 rfl rfl rfl ?_
  refine wiloadN OGc 45 X3 B d3_44 rfl rfl ?_
  refine wstat OGc 48 X3 B hZ hown (ow hw 177 rfl) (ow hw 178 rfl) (ow hw 179 rfl) (ow hw 172 rfl) rfl (rm34_2 l Z a0 hw [] b_3 (nar .byte (c0.toInt8.toInt32)) (nar .byte (c1.toInt8.toInt32)) T3.heap n0 P3_0) 1 (by decide) (by decide) hml rfl (lenOf pd___BI_B rfl) [(.ref a1)] rfl rfl d3_45 rfl fun _ T9 L9 X9 hQ9 => ?_
  obtain ⟨rfl, N9q, K9q⟩ := hQ9
  have N9 := Fr.app N3 N9q
  have K9 := K3.trans K9q (own_all0 )
  have F10 := F4.keep K9q
  have F11 := F5.keep K9q (own_nin0 )
  have F12 := F6.keep K9q (own_nin0 )
  have F13 := F7.keep K9q (own_nin0 )
  have F14 := own_staK F8 K9q (own_all0 )
  have F15 := P3_0.keep K9q (own_nin0 )
  refine own_stk (S' := [(.int (0 : Int32)), (.ref a1)]) rfl ?_
  refine wputF OGc 51 X9 B hZ hown (ow hw 25 rfl) rfl F12 F10 (Or.inr ⟨(ow hw 21 rfl), rfl, hnm⟩) (ow hw 5 rfl) (ty := .byte) (by decide) rfl rfl d3_48 rfl fun T16 h16 X16 e16 W16 => ?_
  have N16 := Fr.snoc X16 N9 g_a1
  have K17 := K9.wr W16 (Or.inl (List.mem_of_getElem? (i := 0) rfl))
  have F18 := F10.wr W16
  have F19 := F11.other W16 (Or.inr (slot_ne (Or.inr (ow hw 20 rfl)) (Or.inr (ow hw 21 rfl)) (by decide) (t := (.array .byte)) (t' := .byte) (by decide) (by decide)))
  have F20 : Fld Z h16 a1 "java/lang/String" "coder" "B" (.int (0 : Int32)) := (F12.same W16)
  have F21 := F13.other W16 ne_a2_a1
  have F22 := F14.wr W16
  have F23 := F15.other W16 (Ne.symm ne_a1_b_3)
  refine waloadN OGc 52 X16 B d3_51 rfl rfl rfl ?_
  refine waload OGc 54 X16 B d3_52 rfl rfl rfl ?_
  refine wputF OGc 57 X16 B hZ hown (ow hw 24 rfl) e16 F19 F18 (Or.inr ⟨(ow hw 20 rfl), rfl, hnm⟩) (ow hw 5 rfl) (ty := (.array .byte)) (by decide) rfl rfl d3_54 rfl fun T24 h24 X24 e24 W24 => ?_
  have N24 := Fr.snoc X24 N16 g_a1
  have K25 := K17.wr W24 (Or.inl (List.mem_of_getElem? (i := 0) rfl))
  have F26 := F18.wr W24
  have F27 : Fld Z h24 a1 "java/lang/String" "value" "[B" (.ref b_3) := (F19.same W24)
  have F28 := F20.other W24 (Or.inr (slot_ne (Or.inr (ow hw 21 rfl)) (Or.inr (ow hw 20 rfl)) (by decide) (t := .byte) (t' := (.array .byte)) (by decide) (by decide)))
  have F29 := F21.other W24 ne_a2_a1
  have F30 := F22.wr W24
  have F31 := F23.other W24 (Ne.symm ne_a1_b_3)
  refine own_ret0 X24 hx hret hlk (hb hby d3_57) (by decide) (by decide) ?_
  rw [e24]
  exact ⟨rfl, N24, K25, b_3, sy_b_3, F26, F27, F28, F31⟩
abbrev Q2_2 (Z : State) (a1 : Addr) (a2 : Addr) (c0 : Int32) (c1 : Int32) (w : Int32) (h0 : Heap) (n0 : Nat) : Option Value → Heap → List Loc → Prop := (fun v h L => v = none ∧ Fr n0 L ∧ Keep h0 h [a1] ∧ ∃ b : Addr, h0.size ≤ b ∧ Exa Z h a1 "java/lang/String" ∧ Fld Z h a1 "java/lang/String" "value" "[B" (.ref b) ∧ Fld Z h a1 "java/lang/String" "coder" "B" (.int (0 : Int32)) ∧ OA Z h b .byte (([(c0.toInt8.toInt32), (c1.toInt8.toInt32)] : List Int32).map obv))
theorem rm2_2 (l : Launch) (Z : State) (a0 : Array Value) (hw : ∀ d ∈ tables_1, d.before a0 Z = true) (ws : List Jvm.Cond) (a1 : Addr) (a2 : Addr) (c0 : Int32) (c1 : Int32) (w : Int32) (h0 : Heap) (n0 : Nat) (Z0 : n0 ≤ h0.size) (R0 : Exa Z h0 a1 "java/lang/String") (R1 : Fld Z h0 a1 "java/lang/String" "value" "[B" .null) (R2 : Fld Z h0 a1 "java/lang/String" "coder" "B" (.int (0 : Int32))) (R3 : OA Z h0 a2 .char [(.int c0), (.int c1)]) (R4 : Sta Z h0 "java/lang/String" "COMPACT_STRINGS" "Z" (.int w)) (g_a1 : n0 ≤ a1) (ne_a2_a1 : a2 ≠ a1) (hc0 : ¬ (255 : Int32) < c0) (hc1 : ¬ (255 : Int32) < c1) (hw0 : ¬ w = (0 : Int32)) :
    OMet l Z (⟨"java/lang/String", "<init>", "([C)V"⟩ : MethodName) jdk_42_method_3_code 2 none ws ({ frames := 3, cells := 1, slots := 2, locals := 52 } : Room) #[(.ref a1), (.ref a2)] h0 (Q2_2 Z a1 a2 c0 c1 w h0 n0) := by
  refine own_enter pn_2 ?_
  intro p e s m below meth c s₁ hx hby hml0 hown hret hlk hnm hZ X0 e0
  have hml : c.maxLocals = 2 := hml0
  have B : BX p c jdk_42_method_3_code := ⟨hx, hby⟩
  have N0 := Fr.nil n0
  refine own_cast (ef_2 m a1 a2) ?_
  refine waloadN OGc 1 X0 B d2_0 rfl rfl rfl ?_
  refine waloadN OGc 2 X0 B d2_1 rfl rfl rfl ?_
  refine wiconst OGc 3 X0 B d2_2 0 rfl rfl ?_
  refine waloadN OGc 4 X0 B d2_3 rfl rfl rfl ?_
  refine warlenA OGc 5 X0 B hZ e0 R3 (2 : Int32) rfl d2_4 rfl ?_
  refine waconstNull OGc 6 X0 B d2_5 rfl ?_
  refine wspec OGc 9 X0 B hZ hown (ow hw 11 rfl) (ow hw 12 rfl) rfl (ow hw 14 rfl) (ow hw 6 rfl) e0 (rm3_2 l Z a0 hw [] a1 a2 c0 c1 w h0 n0 (Nat.le_trans Z0 (Keep.refl h0 [a1]).1) R0 R1 R2 R3 R4 g_a1 ne_a2_a1 hc0 hc1 hw0) 0 (by decide) (by decide) hml rfl (lenOf pd___CIILjava_lang_Void__V rfl) [] rfl rfl d2_6 rfl fun _ T2 L2 X2 hQ2 => ?_
  obtain ⟨rfl, N2q, K2q, b_2, sz_b_2, P2_0, P2_1, P2_2, P2_3⟩ := hQ2
  have N2 := Fr.app N0 N2q
  have ge_b_2 : n0 ≤ b_2 := Nat.le_trans (Nat.le_trans Z0 (Keep.refl h0 [a1]).1) sz_b_2
  have sy_b_2 : h0.size ≤ b_2 := Nat.le_trans (Keep.refl h0 [a1]).1 sz_b_2
  have ne_a1_b_2 : a1 ≠ b_2 := Nat.ne_of_lt (Nat.lt_of_lt_of_le R0.lt sz_b_2)
  have ne_a2_b_2 : a2 ≠ b_2 := Nat.ne_of_lt (Nat.lt_of_lt_of_le R3.lt sz_b_2)
  have K2 := (Keep.refl h0 [a1]).trans K2q (own_all1 (Or.inl (List.mem_of_getElem? (i := 0) rfl)))
  have F3 := R3.keep K2q (own_nin1 ne_a2_a1)
  have F4 := own_staK R4 K2q (own_all1 (own_plE R0))
  refine own_stk (S' := []) rfl ?_
  refine own_ret0 X2 hx hret hlk (hb hby d2_9) (by decide) (by decide) ?_
  exact ⟨rfl, N2, K2, b_2, sy_b_2, P2_0, P2_1, P2_2, P2_3⟩
theorem ef_33_3 (m : MethodId) (a1 : Addr) (a3 : Addr) : entryFrame m #[(.ref a1), (.int (0 : Int32)), (.ref a3), (.int (0 : Int32)), (.int (3 : Int32))] 7 = (mkF m 0 #[.val (.ref a1), .val (.int (0 : Int32)), .val (.ref a3), .val (.int (0 : Int32)), .val (.int (3 : Int32)), .unset, .unset] []) := by first | (simp [entryFrame, mkF, argsToLocals, Value.category]; done) | rfl
abbrev Q33_3 (Z : State) (a1 : Addr) (a3 : Addr) (c0 : Int32) (c1 : Int32) (c2 : Int32) (h0 : Heap) (n0 : Nat) : Option Value → Heap → List Loc → Prop := (fun v h L => v = some (.int (3 : Int32)) ∧ Fr n0 L ∧ Keep h0 h [a3] ∧ OA Z h a3 .byte (([(c0.toInt8.toInt32), (c1.toInt8.toInt32), (c2.toInt8.toInt32)] : List Int32).map obv))
theorem rm33_3 (l : Launch) (Z : State) (a0 : Array Value) (hw : ∀ d ∈ tables_1, d.before a0 Z = true) (ws : List Jvm.Cond) (a1 : Addr) (a3 : Addr) (c0 : Int32) (c1 : Int32) (c2 : Int32) (h0 : Heap) (n0 : Nat) (R0 : OA Z h0 a1 .char [(.int c0), (.int c1), (.int c2)]) (R1 : OA Z h0 a3 .byte [(.int (0 : Int32)), (.int (0 : Int32)), (.int (0 : Int32))]) (g_a3 : n0 ≤ a3) (ne_a1_a3 : a1 ≠ a3) (hc0 : ¬ (255 : Int32) < c0) (hc1 : ¬ (255 : Int32) < c1) (hc2 : ¬ (255 : Int32) < c2) :
    OMet l Z (⟨"java/lang/StringUTF16", "compress", "([CI[BII)I"⟩ : MethodName) jdk_52_method_21_code 7 (some .int) ws ({ frames := 0, cells := 0, slots := 0, locals := 0 } : Room) #[(.ref a1), (.int (0 : Int32)), (.ref a3), (.int (0 : Int32)), (.int (3 : Int32))] h0 (Q33_3 Z a1 a3 c0 c1 c2 h0 n0) := by
  refine own_enter pn_33 ?_
  intro p e s m below meth c s₁ hx hby hml0 hown hret hlk hnm hZ X0 e0
  have hml : c.maxLocals = 7 := hml0
  have B : BX p c jdk_52_method_21_code := ⟨hx, hby⟩
  have N0 := Fr.nil n0
  refine own_cast (ef_33_3 m a1 a3) ?_
  refine wiconst OGc 1 X0 B d33_0 0 rfl rfl ?_
  refine wistore OGc 3 X0 B d33_1 #[.val (.ref a1), .val (.int (0 : Int32)), .val (.ref a3), .val (.int (0 : Int32)), .val (.int (3 : Int32)), .val (.int (0 : Int32)), .unset] rfl rfl ?_
  refine wiload OGc 5 X0 B d33_3 rfl rfl ?_
  refine wiload OGc 7 X0 B d33_5 rfl rfl ?_
  refine wicmpNo OGc 10 X0 B d33_7 (by decide) rfl ?_
  refine waloadN OGc 11 X0 B d33_10 rfl rfl rfl ?_
  refine wiloadN OGc 12 X0 B d33_11 rfl rfl ?_
  refine wcaload OGc 13 X0 B hZ e0 R0 (v := (.int c0)) 0 (by decide) (by decide) rfl d33_12 rfl ?_
  refine wistore OGc 15 X0 B d33_13 #[.val (.ref a1), .val (.int (0 : Int32)), .val (.ref a3), .val (.int (0 : Int32)), .val (.int (3 : Int32)), .val (.int (0 : Int32)), .val (.int c0)] rfl rfl ?_
  refine wiload OGc 17 X0 B d33_15 rfl rfl ?_
  refine wsipush OGc 20 X0 B d33_17 255 rfl rfl ?_
  refine wicmpYes OGc 26 X0 B d33_20 (flt hc0).2.2.2 rfl ?_
  refine waloadN OGc 27 X0 B d33_26 rfl rfl rfl ?_
  refine wiloadN OGc 28 X0 B d33_27 rfl rfl ?_
  refine wiload OGc 30 X0 B d33_28 rfl rfl ?_
  refine own_st (fun t k => XS.i2b X0.here hx rfl (hb hby d33_30) rfl k) ?_
  show OG p e _ s below _ s₁ (mkF m 31 #[.val (.ref a1), .val (.int (0 : Int32)), .val (.ref a3), .val (.int (0 : Int32)), .val (.int (3 : Int32)), .val (.int (0 : Int32)), .val (.int c0)] [(.int (c0.toInt8.toInt32)), (.int (0 : Int32)), (.ref a3)])
  refine wstB OGc 32 X0 B hZ e0 R1 0 (by decide) (by decide) (by decide : 0 < 3) d33_31 rfl fun T2 h2 X2 e2 W2 => ?_
  have N2 := Fr.snoc X2 N0 g_a3
  have K3 := (Keep.refl h0 [a3]).wr W2 (Or.inl (List.mem_of_getElem? (i := 0) rfl))
  have F4 := R0.other W2 ne_a1_a3
  have F5 : OA Z h2 a3 .byte [(.int (nar .byte (c0.toInt8.toInt32))), (.int (0 : Int32)), (.int (0 : Int32))] := (R1.set W2 (i := 0) (by decide))
  refine wiinc OGc 35 X2 B d33_32 #[.val (.ref a1), .val (.int ((0 : Int32) + (1 : Int32))), .val (.ref a3), .val (.int (0 : Int32)), .val (.int (3 : Int32)), .val (.int (0 : Int32)), .val (.int c0)] rfl rfl rfl ?_
  show OG p e _ s below _ T2 (mkF m 35 #[.val (.ref a1), .val (.int (1 : Int32)), .val (.ref a3), .val (.int (0 : Int32)), .val (.int (3 : Int32)), .val (.int (0 : Int32)), .val (.int c0)] [])
  refine wiinc OGc 38 X2 B d33_35 #[.val (.ref a1), .val (.int (1 : Int32)), .val (.ref a3), .val (.int ((0 : Int32) + (1 : Int32))), .val (.int (3 : Int32)), .val (.int (0 : Int32)), .val (.int c0)] rfl rfl rfl ?_
  show OG p e _ s below _ T2 (mkF m 38 #[.val (.ref a1), .val (.int (1 : Int32)), .val (.ref a3), .val (.int (1 : Int32)), .val (.int (3 : Int32)), .val (.int (0 : Int32)), .val (.int c0)] [])
  refine wiinc OGc 41 X2 B d33_38 #[.val (.ref a1), .val (.int (1 : Int32)), .val (.ref a3), .val (.int (1 : Int32)), .val (.int (3 : Int32)), .val (.int ((0 : Int32) + (1 : Int32))), .val (.int c0)] rfl rfl rfl ?_
  show OG p e _ s below _ T2 (mkF m 41 #[.val (.ref a1), .val (.int (1 : Int32)), .val (.ref a3), .val (.int (1 : Int32)), .val (.int (3 : Int32)), .val (.int (1 : Int32)), .val (.int c0)] [])
  refine wgoto OGc 3 X2 B d33_41 rfl ?_
  refine wiload OGc 5 X2 B d33_3 rfl rfl ?_
  refine wiload OGc 7 X2 B d33_5 rfl rfl ?_
  refine wicmpNo OGc 10 X2 B d33_7 (by decide) rfl ?_
  refine waloadN OGc 11 X2 B d33_10 rfl rfl rfl ?_
  refine wiloadN OGc 12 X2 B d33_11 rfl rfl ?_
  refine wcaload OGc 13 X2 B hZ e2 F4 (v := (.int c1)) 1 (by decide) (by decide) rfl d33_12 rfl ?_
  refine wistore OGc 15 X2 B d33_13 #[.val (.ref a1), .val (.int (1 : Int32)), .val (.ref a3), .val (.int (1 : Int32)), .val (.int (3 : Int32)), .val (.int (1 : Int32)), .val (.int c1)] rfl rfl ?_
  refine wiload OGc 17 X2 B d33_15 rfl rfl ?_
  refine wsipush OGc 20 X2 B d33_17 255 rfl rfl ?_
  refine wicmpYes OGc 26 X2 B d33_20 (flt hc1).2.2.2 rfl ?_
  refine waloadN OGc 27 X2 B d33_26 rfl rfl rfl ?_
  refine wiloadN OGc 28 X2 B d33_27 rfl rfl ?_
  refine wiload OGc 30 X2 B d33_28 rfl rfl ?_
  refine own_st (fun t k => XS.i2b X2.here hx rfl (hb hby d33_30) rfl k) ?_
  show OG p e _ s below _ T2 (mkF m 31 #[.val (.ref a1), .val (.int (1 : Int32)), .val (.ref a3), .val (.int (1 : Int32)), .val (.int (3 : Int32)), .val (.int (1 : Int32)), .val (.int c1)] [(.int (c1.toInt8.toInt32)), (.int (1 : Int32)), (.ref a3)])
  refine wstB OGc 32 X2 B hZ e2 F5 1 (by decide) (by decide) (by decide : 1 < 3) d33_31 rfl fun T7 h7 X7 e7 W7 => ?_
  have N7 := Fr.snoc X7 N2 g_a3
  have K8 := K3.wr W7 (Or.inl (List.mem_of_getElem? (i := 0) rfl))
  have F9 := F4.other W7 ne_a1_a3
  have F10 : OA Z h7 a3 .byte [(.int (nar .byte (c0.toInt8.toInt32))), (.int (nar .byte (c1.toInt8.toInt32))), (.int (0 : Int32))] := (F5.set W7 (i := 1) (by decide))
  refine wiinc OGc 35 X7 B d33_32 #[.val (.ref a1), .val (.int ((1 : Int32) + (1 : Int32))), .val (.ref a3), .val (.int (1 : Int32)), .val (.int (3 : Int32)), .val (.int (1 : Int32)), .val (.int c1)] rfl rfl rfl ?_
  show OG p e _ s below _ T7 (mkF m 35 #[.val (.ref a1), .val (.int (2 : Int32)), .val (.ref a3), .val (.int (1 : Int32)), .val (.int (3 : Int32)), .val (.int (1 : Int32)), .val (.int c1)] [])
  refine wiinc OGc 38 X7 B d33_35 #[.val (.ref a1), .val (.int (2 : Int32)), .val (.ref a3), .val (.int ((1 : Int32) + (1 : Int32))), .val (.int (3 : Int32)), .val (.int (1 : Int32)), .val (.int c1)] rfl rfl rfl ?_
  show OG p e _ s below _ T7 (mkF m 38 #[.val (.ref a1), .val (.int (2 : Int32)), .val (.ref a3), .val (.int (2 : Int32)), .val (.int (3 : Int32)), .val (.int (1 : Int32)), .val (.int c1)] [])
  refine wiinc OGc 41 X7 B d33_38 #[.val (.ref a1), .val (.int (2 : Int32)), .val (.ref a3), .val (.int (2 : Int32)), .val (.int (3 : Int32)), .val (.int ((1 : Int32) + (1 : Int32))), .val (.int c1)] rfl rfl rfl ?_
  show OG p e _ s below _ T7 (mkF m 41 #[.val (.ref a1), .val (.int (2 : Int32)), .val (.ref a3), .val (.int (2 : Int32)), .val (.int (3 : Int32)), .val (.int (2 : Int32)), .val (.int c1)] [])
  refine wgoto OGc 3 X7 B d33_41 rfl ?_
  refine wiload OGc 5 X7 B d33_3 rfl rfl ?_
  refine wiload OGc 7 X7 B d33_5 rfl rfl ?_
  refine wicmpNo OGc 10 X7 B d33_7 (by decide) rfl ?_
  refine waloadN OGc 11 X7 B d33_10 rfl rfl rfl ?_
  refine wiloadN OGc 12 X7 B d33_11 rfl rfl ?_
  refine wcaload OGc 13 X7 B hZ e7 F9 (v := (.int c2)) 2 (by decide) (by decide) rfl d33_12 rfl ?_
  refine wistore OGc 15 X7 B d33_13 #[.val (.ref a1), .val (.int (2 : Int32)), .val (.ref a3), .val (.int (2 : Int32)), .val (.int (3 : Int32)), .val (.int (2 : Int32)), .val (.int c2)] rfl rfl ?_
  refine wiload OGc 17 X7 B d33_15 rfl rfl ?_
  refine wsipush OGc 20 X7 B d33_17 255 rfl rfl ?_
  refine wicmpYes OGc 26 X7 B d33_20 (flt hc2).2.2.2 rfl ?_
  refine waloadN OGc 27 X7 B d33_26 rfl rfl rfl ?_
  refine wiloadN OGc 28 X7 B d33_27 rfl rfl ?_
  refine wiload OGc 30 X7 B d33_28 rfl rfl ?_
  refine own_st (fun t k => XS.i2b X7.here hx rfl (hb hby d33_30) rfl k) ?_
  show OG p e _ s below _ T7 (mkF m 31 #[.val (.ref a1), .val (.int (2 : Int32)), .val (.ref a3), .val (.int (2 : Int32)), .val (.int (3 : Int32)), .val (.int (2 : Int32)), .val (.int c2)] [(.int (c2.toInt8.toInt32)), (.int (2 : Int32)), (.ref a3)])
  refine wstB OGc 32 X7 B hZ e7 F10 2 (by decide) (by decide) (by decide : 2 < 3) d33_31 rfl fun T12 h12 X12 e12 W12 => ?_
  have N12 := Fr.snoc X12 N7 g_a3
  have K13 := K8.wr W12 (Or.inl (List.mem_of_getElem? (i := 0) rfl))
  have F14 := F9.other W12 ne_a1_a3
  have F15 : OA Z h12 a3 .byte (([(c0.toInt8.toInt32), (c1.toInt8.toInt32), (c2.toInt8.toInt32)] : List Int32).map obv) := (F10.set W12 (i := 2) (by decide))
  refine wiinc OGc 35 X12 B d33_32 #[.val (.ref a1), .val (.int ((2 : Int32) + (1 : Int32))), .val (.ref a3), .val (.int (2 : Int32)), .val (.int (3 : Int32)), .val (.int (2 : Int32)), .val (.int c2)] rfl rfl rfl ?_
  show OG p e _ s below _ T12 (mkF m 35 #[.val (.ref a1), .val (.int (3 : Int32)), .val (.ref a3), .val (.int (2 : Int32)), .val (.int (3 : Int32)), .val (.int (2 : Int32)), .val (.int c2)] [])
  refine wiinc OGc 38 X12 B d33_35 #[.val (.ref a1), .val (.int (3 : Int32)), .val (.ref a3), .val (.int ((2 : Int32) + (1 : Int32))), .val (.int (3 : Int32)), .val (.int (2 : Int32)), .val (.int c2)] rfl rfl rfl ?_
  show OG p e _ s below _ T12 (mkF m 38 #[.val (.ref a1), .val (.int (3 : Int32)), .val (.ref a3), .val (.int (3 : Int32)), .val (.int (3 : Int32)), .val (.int (2 : Int32)), .val (.int c2)] [])
  refine wiinc OGc 41 X12 B d33_38 #[.val (.ref a1), .val (.int (3 : Int32)), .val (.ref a3), .val (.int (3 : Int32)), .val (.int (3 : Int32)), .val (.int ((2 : Int32) + (1 : Int32))), .val (.int c2)] rfl rfl rfl ?_
  show OG p e _ s below _ T12 (mkF m 41 #[.val (.ref a1), .val (.int (3 : Int32)), .val (.ref a3), .val (.int (3 : Int32)), .val (.int (3 : Int32)), .val (.int (3 : Int32)), .val (.int c2)] [])
  refine wgoto OGc 3 X12 B d33_41 rfl ?_
  refine wiload OGc 5 X12 B d33_3 rfl rfl ?_
  refine wiload OGc 7 X12 B d33_5 rfl rfl ?_
  refine wicmpYes OGc 44 X12 B d33_7 (by decide) rfl ?_
  refine wiload OGc 46 X12 B d33_44 rfl rfl ?_
  refine own_retI X12 hx hret hlk (hb hby d33_46) (by decide) (by decide) ?_
  rw [e12]
  exact ⟨rfl, N12, K13, F15⟩
theorem ef_32_3 (m : MethodId) (a1 : Addr) : entryFrame m #[(.ref a1), (.int (0 : Int32)), (.int (3 : Int32))] 6 = (mkF m 0 #[.val (.ref a1), .val (.int (0 : Int32)), .val (.int (3 : Int32)), .unset, .unset, .unset] []) := by first | (simp [entryFrame, mkF, argsToLocals, Value.category]; done) | rfl
abbrev Q32_3 (Z : State) (a1 : Addr) (c0 : Int32) (c1 : Int32) (c2 : Int32) (h0 : Heap) (n0 : Nat) : Option Value → Heap → List Loc → Prop := (fun v h L => Fr n0 L ∧ Keep h0 h [] ∧ ∃ b : Addr, h0.size ≤ b ∧ v = some (.ref b) ∧ OA Z h b .byte (([(c0.toInt8.toInt32), (c1.toInt8.toInt32), (c2.toInt8.toInt32)] : List Int32).map obv))
theorem rm32_3 (l : Launch) (Z : State) (a0 : Array Value) (hw : ∀ d ∈ tables_1, d.before a0 Z = true) (ws : List Jvm.Cond) (a1 : Addr) (c0 : Int32) (c1 : Int32) (c2 : Int32) (h0 : Heap) (n0 : Nat) (Z0 : n0 ≤ h0.size) (R0 : OA Z h0 a1 .char [(.int c0), (.int c1), (.int c2)]) (hc0 : ¬ (255 : Int32) < c0) (hc1 : ¬ (255 : Int32) < c1) (hc2 : ¬ (255 : Int32) < c2) :
    OMet l Z (⟨"java/lang/StringUTF16", "compress", "([CII)[B"⟩ : MethodName) jdk_52_method_16_code 6 (some (.array .byte)) ws ({ frames := 1, cells := 1, slots := 3, locals := 18 } : Room) #[(.ref a1), (.int (0 : Int32)), (.int (3 : Int32))] h0 (Q32_3 Z a1 c0 c1 c2 h0 n0) := by
  refine own_enter pn_32 ?_
  intro p e s m below meth c s₁ hx hby hml0 hown hret hlk hnm hZ X0 e0
  have hml : c.maxLocals = 6 := hml0
  have B : BX p c jdk_52_method_16_code := ⟨hx, hby⟩
  have N0 := Fr.nil n0
  refine own_cast (ef_32_3 m a1) ?_
  refine wiloadN OGc 1 X0 B d32_0 rfl rfl ?_
  refine wnewP OGc 3 X0 B hZ (ow hw 19 rfl) e0 d32_1 3 (by decide) (by decide) rfl fun T1 h1 b1 k1 gb1 X1 e1 E1 A1 => ?_
  have ge_b1 : n0 ≤ b1 := by rw [gb1]; exact Nat.le_trans Z0 (Keep.refl h0 []).1
  have sz_b1 : h0.size ≤ b1 := by rw [gb1]; exact (Keep.refl h0 []).1
  have ne_a1_b1 : a1 ≠ b1 := Nat.ne_of_lt (Nat.lt_of_lt_of_eq R0.lt gb1.symm)
  have F2 := R0.ext E1
  have K3 := (Keep.refl h0 []).ext E1
  have F4 : OA Z h1 b1 .byte [(.int (0 : Int32)), (.int (0 : Int32)), (.int (0 : Int32))] := OA.new A1
  refine wastoreN OGc 4 X1 B d32_3 #[.val (.ref a1), .val (.int (0 : Int32)), .val (.int (3 : Int32)), .val (.ref b1), .unset, .unset] rfl rfl rfl ?_
  refine waloadN OGc 5 X1 B d32_4 rfl rfl rfl ?_
  refine wiloadN OGc 6 X1 B d32_5 rfl rfl ?_
  refine waloadN OGc 7 X1 B d32_6 rfl rfl rfl ?_
  refine wiconst OGc 8 X1 B d32_7 0 rfl rfl ?_
  refine wiloadN OGc 9 X1 B d32_8 rfl rfl ?_
  refine wstat OGc 12 X1 B hZ hown (ow hw 174 rfl) (ow hw 175 rfl) (ow hw 176 rfl) (ow hw 172 rfl) e1 (rm33_3 l Z a0 hw [] a1 b1 c0 c1 c2 h1 n0 F2 F4 ge_b1 ne_a1_b1 hc0 hc1 hc2) 0 (by decide) (by decide) hml rfl (lenOf pd___CI_BII_I rfl) [] rfl rfl d32_9 rfl fun _ T5 L5 X5 hQ5 => ?_
  obtain ⟨rfl, N5q, K5q, P5_0⟩ := hQ5
  have N5 := Fr.app N0 N5q
  have K5 := K3.trans K5q (own_all1 (Or.inr sz_b1))
  have F6 := F2.keep K5q (own_nin1 ne_a1_b1)
  refine own_stk (S' := [(.int (3 : Int32))]) rfl ?_
  refine wistore OGc 14 X5 B d32_12 #[.val (.ref a1), .val (.int (0 : Int32)), .val (.int (3 : Int32)), .val (.ref b1), .val (.int (3 : Int32)), .unset] rfl rfl ?_
  refine wiload OGc 16 X5 B d32_14 rfl rfl ?_
  refine wiloadN OGc 17 X5 B d32_16 rfl rfl ?_
  refine wicmpYes OGc 57 X5 B d32_17 (by decide) rfl ?_
  refine waloadN OGc 58 X5 B d32_57 rfl rfl rfl ?_
  refine own_retV X5 hx hret rfl (Or.inr (Or.inr (Or.inr (Or.inr ⟨rfl, rfl, rfl⟩)))) hlk (hb hby d32_58) (by decide) (by decide) ?_
  exact ⟨N5, K5, b1, sz_b1, rfl, P5_0⟩
theorem ef_34_3 (m : MethodId) (a1 : Addr) : entryFrame m #[(.ref a1), (.int (3 : Int32))] 2 = (mkF m 0 #[.val (.ref a1), .val (.int (3 : Int32))] []) := by first | (simp [entryFrame, mkF, argsToLocals, Value.category]; done) | rfl
abbrev Q34_3 (Z : State) (a1 : Addr) (c0 : Int32) (c1 : Int32) (c2 : Int32) (h0 : Heap) (n0 : Nat) : Option Value → Heap → List Loc → Prop := (fun v h L => v = some (.int (0 : Int32)) ∧ Fr n0 L ∧ Keep h0 h [])
theorem rm34_3 (l : Launch) (Z : State) (a0 : Array Value) (hw : ∀ d ∈ tables_1, d.before a0 Z = true) (ws : List Jvm.Cond) (a1 : Addr) (c0 : Int32) (c1 : Int32) (c2 : Int32) (h0 : Heap) (n0 : Nat) (R0 : OA Z h0 a1 .byte [(.int c0), (.int c1), (.int c2)]) :
    OMet l Z (⟨"java/lang/StringUTF16", "coderFromArrayLen", "([BI)B"⟩ : MethodName) jdk_52_method_15_code 2 (some .byte) ws ({ frames := 0, cells := 0, slots := 0, locals := 0 } : Room) #[(.ref a1), (.int (3 : Int32))] h0 (Q34_3 Z a1 c0 c1 c2 h0 n0) := by
  refine own_enter pn_34 ?_
  intro p e s m below meth c s₁ hx hby hml0 hown hret hlk hnm hZ X0 e0
  have hml : c.maxLocals = 2 := hml0
  have B : BX p c jdk_52_method_15_code := ⟨hx, hby⟩
  have N0 := Fr.nil n0
  refine own_cast (ef_34_3 m a1) ?_
  refine wiloadN OGc 1 X0 B d34_0 rfl rfl ?_
  refine waloadN OGc 2 X0 B d34_1 rfl rfl rfl ?_
  refine warlenA OGc 3 X0 B hZ e0 R0 (3 : Int32) rfl d34_2 rfl ?_
  refine wisub OGc 4 X0 B d34_3 rfl ?_
  show OG p e _ s below _ s₁ (mkF m 4 #[.val (.ref a1), .val (.int (3 : Int32))] [(.int (0 : Int32))])
  refine wbipush OGc 6 X0 B d34_4 31 rfl rfl ?_
  refine own_st (fun t k => XS.iushr X0.here hx rfl (hb hby d34_6) rfl k) ?_
  show OG p e _ s below _ s₁ (mkF m 7 #[.val (.ref a1), .val (.int (3 : Int32))] [(.int (0 : Int32))])
  refine own_st (fun t k => XS.i2b X0.here hx rfl (hb hby d34_7) rfl k) ?_
  show OG p e _ s below _ s₁ (mkF m 8 #[.val (.ref a1), .val (.int (3 : Int32))] [(.int ((0 : Int32).toInt8.toInt32))])
  refine own_retZ X0 hx (t := .byte) hret (by simp) hlk (hb hby d34_8) (by decide) (by decide) (w := (0 : Int32)) rfl ?_
  rw [e0]
  exact ⟨rfl, N0, (Keep.refl h0 [])⟩
theorem ef_3_3 (m : MethodId) (a1 : Addr) (a2 : Addr) : entryFrame m #[(.ref a1), (.ref a2), (.int (0 : Int32)), (.int (3 : Int32)), .null] 6 = (mkF m 0 #[.val (.ref a1), .val (.ref a2), .val (.int (0 : Int32)), .val (.int (3 : Int32)), .val .null, .unset] []) := by first | (simp [entryFrame, mkF, argsToLocals, Value.category]; done) | rfl
abbrev Q3_3 (Z : State) (a1 : Addr) (a2 : Addr) (c0 : Int32) (c1 : Int32) (c2 : Int32) (w : Int32) (h0 : Heap) (n0 : Nat) : Option Value → Heap → List Loc → Prop := (fun v h L => v = none ∧ Fr n0 L ∧ Keep h0 h [a1] ∧ ∃ b : Addr, h0.size ≤ b ∧ Exa Z h a1 "java/lang/String" ∧ Fld Z h a1 "java/lang/String" "value" "[B" (.ref b) ∧ Fld Z h a1 "java/lang/String" "coder" "B" (.int (0 : Int32)) ∧ OA Z h b .byte (([(c0.toInt8.toInt32), (c1.toInt8.toInt32), (c2.toInt8.toInt32)] : List Int32).map obv))
theorem rm3_3 (l : Launch) (Z : State) (a0 : Array Value) (hw : ∀ d ∈ tables_1, d.before a0 Z = true) (ws : List Jvm.Cond) (a1 : Addr) (a2 : Addr) (c0 : Int32) (c1 : Int32) (c2 : Int32) (w : Int32) (h0 : Heap) (n0 : Nat) (Z0 : n0 ≤ h0.size) (R0 : Exa Z h0 a1 "java/lang/String") (R1 : Fld Z h0 a1 "java/lang/String" "value" "[B" .null) (R2 : Fld Z h0 a1 "java/lang/String" "coder" "B" (.int (0 : Int32))) (R3 : OA Z h0 a2 .char [(.int c0), (.int c1), (.int c2)]) (R4 : Sta Z h0 "java/lang/String" "COMPACT_STRINGS" "Z" (.int w)) (g_a1 : n0 ≤ a1) (ne_a2_a1 : a2 ≠ a1) (hc0 : ¬ (255 : Int32) < c0) (hc1 : ¬ (255 : Int32) < c1) (hc2 : ¬ (255 : Int32) < c2) (hw0 : ¬ w = (0 : Int32)) :
    OMet l Z (⟨"java/lang/String", "<init>", "([CIILjava/lang/Void;)V"⟩ : MethodName) jdk_42_method_149_code 6 none ws ({ frames := 2, cells := 1, slots := 3, locals := 35 } : Room) #[(.ref a1), (.ref a2), (.int (0 : Int32)), (.int (3 : Int32)), .null] h0 (Q3_3 Z a1 a2 c0 c1 c2 w h0 n0) := by
  refine own_enter pn_3 ?_
  intro p e s m below meth c s₁ hx hby hml0 hown hret hlk hnm hZ X0 e0
  have hml : c.maxLocals = 6 := hml0
  have B : BX p c jdk_42_method_149_code := ⟨hx, hby⟩
  have N0 := Fr.nil n0
  refine own_cast (ef_3_3 m a1 a2) ?_
  refine waloadN OGc 1 X0 B d3_0 rfl rfl rfl ?_
  obtain ⟨T1, X1, e1, st1⟩ := initO X0 hx hZ hown (ow hw 15 rfl) (ow hw 16 rfl) (ow hw 17 rfl) e0 (g := (mkF m 1 #[.val (.ref a1), .val (.ref a2), .val (.int (0 : Int32)), .val (.int (3 : Int32)), .val .null, .unset] [(.ref a1)])) rfl (by rw [hml]; rfl) rfl (hb hby d3_1) (by decide) (W := 0) (by show 2 * 0 + _ ≤ _; exact Nat.le_of_eq rfl) (by decide)
  refine own_st st1 ?_
  show OG p e _ s below _ T1 (mkF m 4 #[.val (.ref a1), .val (.ref a2), .val (.int (0 : Int32)), .val (.int (3 : Int32)), .val .null, .unset] [])
  refine wiloadN OGc 5 X1 B d3_4 rfl rfl ?_
  refine wifYes OGc 27 X1 B d3_5 (by decide) rfl ?_
  refine wgetS OGc 30 X1 B hZ hown (ow hw 87 rfl) e1 R4 d3_27 rfl fun T2 X2 e2 => ?_
  refine wifNo OGc 33 X2 B d3_30 (own_if0 (feq hw0).1) rfl ?_
  refine waloadN OGc 34 X2 B d3_33 rfl rfl rfl ?_
  refine wiloadN OGc 35 X2 B d3_34 rfl rfl ?_
  refine wiloadN OGc 36 X2 B d3_35 rfl rfl ?_
  refine wstat OGc 39 X2 B hZ hown (ow hw 170 rfl) (ow hw 171 rfl) (ow hw 173 rfl) (ow hw 172 rfl) e2 (rm32_3 l Z a0 hw [] a2 c0 c1 c2 h0 n0 (Nat.le_trans Z0 (Keep.refl h0 [a1]).1) R3 hc0 hc1 hc2) 0 (by decide) (by decide) hml rfl (lenOf pd___CII__B rfl) [] rfl rfl d3_36 rfl fun _ T3 L3 X3 hQ3 => ?_
  obtain ⟨N3q, K3q, b_3, sz_b_3, rfl, P3_0⟩ := hQ3
  have N3 := Fr.app N0 N3q
  have ge_b_3 : n0 ≤ b_3 := Nat.le_trans (Nat.le_trans Z0 (Keep.refl h0 [a1]).1) sz_b_3
  have sy_b_3 : h0.size ≤ b_3 := Nat.le_trans (Keep.refl h0 [a1]).1 sz_b_3
  have ne_a1_b_3 : a1 ≠ b_3 := Nat.ne_of_lt (Nat.lt_of_lt_of_le R0.lt sz_b_3)
  have ne_a2_b_3 : a2 ≠ b_3 := Nat.ne_of_lt (Nat.lt_of_lt_of_le R3.lt sz_b_3)
  have K3 := (Keep.refl h0 [a1]).trans K3q (own_all0 )
  have F4 := R0.keep K3q
  have F5 := R1.keep K3q (own_nin0 )
  have F6 := R2.keep K3q (own_nin0 )
  have F7 := R3.keep K3q (own_nin0 )
  have F8 := own_staK R4 K3q (own_all0 )
  refine own_stk (S' := [(.ref b_3)]) rfl ?_
  refine wastore OGc 41 X3 B d3_39 #[.val (.ref a1), .val (.ref a2), .val (.int (0 : Int32)), .val (.int (3 : Int32)), .val .null, .val (.ref b_3)] rfl rfl rfl ?_
  refine waloadN OGc 42 X3 B d3_41 rfl rfl rfl ?_
  refine waload OGc 44 X3 B d3_42 rfl rfl rfl ?_
  refine wiloadN OGc 45 X3 B d3_44 rfl rfl ?_
  refine wstat OGc 48 X3 B hZ hown (ow hw 177 rfl) (ow hw 178 rfl) (ow hw 179 rfl) (ow hw 172 rfl) rfl (rm34_3 l Z a0 hw [] b_3 (nar .byte (c0.toInt8.toInt32)) (nar .byte (c1.toInt8.toInt32)) (nar .byte (c2.toInt8.toInt32)) T3.heap n0 P3_0) 1 (by decide) (by decide) hml rfl (lenOf pd___BI_B rfl) [(.ref a1)] rfl rfl d3_45 rfl fun _ T9 L9 X9 hQ9 => ?_
  obtain ⟨rfl, N9q, K9q⟩ := hQ9
  have N9 := Fr.app N3 N9q
  have K9 := K3.trans K9q (own_all0 )
  have F10 := F4.keep K9q
  have F11 := F5.keep K9q (own_nin0 )
  have F12 := F6.keep K9q (own_nin0 )
  have F13 := F7.keep K9q (own_nin0 )
  have F14 := own_staK F8 K9q (own_all0 )
  have F15 := P3_0.keep K9q (own_nin0 )
  refine own_stk (S' := [(.int (0 : Int32)), (.ref a1)]) rfl ?_
  refine wputF OGc 51 X9 B hZ hown (ow hw 25 rfl) rfl F12 F10 (Or.inr ⟨(ow hw 21 rfl), rfl, hnm⟩) (ow hw 5 rfl) (ty := .byte) (by decide) rfl rfl d3_48 rfl fun T16 h16 X16 e16 W16 => ?_
  have N16 := Fr.snoc X16 N9 g_a1
  have K17 := K9.wr W16 (Or.inl (List.mem_of_getElem? (i := 0) rfl))
  have F18 := F10.wr W16
  have F19 := F11.other W16 (Or.inr (slot_ne (Or.inr (ow hw 20 rfl)) (Or.inr (ow hw 21 rfl)) (by decide) (t := (.array .byte)) (t' := .byte) (by decide) (by decide)))
  have F20 : Fld Z h16 a1 "java/lang/String" "coder" "B" (.int (0 : Int32)) := (F12.same W16)
  have F21 := F13.other W16 ne_a2_a1
  have F22 := F14.wr W16
  have F23 := F15.other W16 (Ne.symm ne_a1_b_3)
  refine waloadN OGc 52 X16 B d3_51 rfl rfl rfl ?_
  refine waload OGc 54 X16 B d3_52 rfl rfl rfl ?_
  refine wputF OGc 57 X16 B hZ hown (ow hw 24 rfl) e16 F19 F18 (Or.inr ⟨(ow hw 20 rfl), rfl, hnm⟩) (ow hw 5 rfl) (ty := (.array .byte)) (by decide) rfl rfl d3_54 rfl fun T24 h24 X24 e24 W24 => ?_
  have N24 := Fr.snoc X24 N16 g_a1
  have K25 := K17.wr W24 (Or.inl (List.mem_of_getElem? (i := 0) rfl))
  have F26 := F18.wr W24
  have F27 : Fld Z h24 a1 "java/lang/String" "value" "[B" (.ref b_3) := (F19.same W24)
  have F28 := F20.other W24 (Or.inr (slot_ne (Or.inr (ow hw 21 rfl)) (Or.inr (ow hw 20 rfl)) (by decide) (t := .byte) (t' := (.array .byte)) (by decide) (by decide)))
  have F29 := F21.other W24 ne_a2_a1
  have F30 := F22.wr W24
  have F31 := F23.other W24 (Ne.symm ne_a1_b_3)
  refine own_ret0 X24 hx hret hlk (hb hby d3_57) (by decide) (by decide) ?_
  rw [e24]
  exact ⟨rfl, N24, K25, b_3, sy_b_3, F26, F27, F28, F31⟩
abbrev Q2_3 (Z : State) (a1 : Addr) (a2 : Addr) (c0 : Int32) (c1 : Int32) (c2 : Int32) (w : Int32) (h0 : Heap) (n0 : Nat) : Option Value → Heap → List Loc → Prop := (fun v h L => v = none ∧ Fr n0 L ∧ Keep h0 h [a1] ∧ ∃ b : Addr, h0.size ≤ b ∧ Exa Z h a1 "java/lang/String" ∧ Fld Z h a1 "java/lang/String" "value" "[B" (.ref b) ∧ Fld Z h a1 "java/lang/String" "coder" "B" (.int (0 : Int32)) ∧ OA Z h b .byte (([(c0.toInt8.toInt32), (c1.toInt8.toInt32), (c2.toInt8.toInt32)] : List Int32).map obv))
theorem rm2_3 (l : Launch) (Z : State) (a0 : Array Value) (hw : ∀ d ∈ tables_1, d.before a0 Z = true) (ws : List Jvm.Cond) (a1 : Addr) (a2 : Addr) (c0 : Int32) (c1 : Int32) (c2 : Int32) (w : Int32) (h0 : Heap) (n0 : Nat) (Z0 : n0 ≤ h0.size) (R0 : Exa Z h0 a1 "java/lang/String") (R1 : Fld Z h0 a1 "java/lang/String" "value" "[B" .null) (R2 : Fld Z h0 a1 "java/lang/String" "coder" "B" (.int (0 : Int32))) (R3 : OA Z h0 a2 .char [(.int c0), (.int c1), (.int c2)]) (R4 : Sta Z h0 "java/lang/String" "COMPACT_STRINGS" "Z" (.int w)) (g_a1 : n0 ≤ a1) (ne_a2_a1 : a2 ≠ a1) (hc0 : ¬ (255 : Int32) < c0) (hc1 : ¬ (255 : Int32) < c1) (hc2 : ¬ (255 : Int32) < c2) (hw0 : ¬ w = (0 : Int32)) :
    OMet l Z (⟨"java/lang/String", "<init>", "([C)V"⟩ : MethodName) jdk_42_method_3_code 2 none ws ({ frames := 3, cells := 1, slots := 3, locals := 52 } : Room) #[(.ref a1), (.ref a2)] h0 (Q2_3 Z a1 a2 c0 c1 c2 w h0 n0) := by
  refine own_enter pn_2 ?_
  intro p e s m below meth c s₁ hx hby hml0 hown hret hlk hnm hZ X0 e0
  have hml : c.maxLocals = 2 := hml0
  have B : BX p c jdk_42_method_3_code := ⟨hx, hby⟩
  have N0 := Fr.nil n0
  refine own_cast (ef_2 m a1 a2) ?_
  refine waloadN OGc 1 X0 B d2_0 rfl rfl rfl ?_
  refine waloadN OGc 2 X0 B d2_1 rfl rfl rfl ?_
  refine wiconst OGc 3 X0 B d2_2 0 rfl rfl ?_
  refine waloadN OGc 4 X0 B d2_3 rfl rfl rfl ?_
  refine warlenA OGc 5 X0 B hZ e0 R3 (3 : Int32) rfl d2_4 rfl ?_
  refine waconstNull OGc 6 X0 B d2_5 rfl ?_
  refine wspec OGc 9 X0 B hZ hown (ow hw 11 rfl) (ow hw 12 rfl) rfl (ow hw 14 rfl) (ow hw 6 rfl) e0 (rm3_3 l Z a0 hw [] a1 a2 c0 c1 c2 w h0 n0 (Nat.le_trans Z0 (Keep.refl h0 [a1]).1) R0 R1 R2 R3 R4 g_a1 ne_a2_a1 hc0 hc1 hc2 hw0) 0 (by decide) (by decide) hml rfl (lenOf pd___CIILjava_lang_Void__V rfl) [] rfl rfl d2_6 rfl fun _ T2 L2 X2 hQ2 => ?_
  obtain ⟨rfl, N2q, K2q, b_2, sz_b_2, P2_0, P2_1, P2_2, P2_3⟩ := hQ2
  have N2 := Fr.app N0 N2q
  have ge_b_2 : n0 ≤ b_2 := Nat.le_trans (Nat.le_trans Z0 (Keep.refl h0 [a1]).1) sz_b_2
  have sy_b_2 : h0.size ≤ b_2 := Nat.le_trans (Keep.refl h0 [a1]).1 sz_b_2
  have ne_a1_b_2 : a1 ≠ b_2 := Nat.ne_of_lt (Nat.lt_of_lt_of_le R0.lt sz_b_2)
  have ne_a2_b_2 : a2 ≠ b_2 := Nat.ne_of_lt (Nat.lt_of_lt_of_le R3.lt sz_b_2)
  have K2 := (Keep.refl h0 [a1]).trans K2q (own_all1 (Or.inl (List.mem_of_getElem? (i := 0) rfl)))
  have F3 := R3.keep K2q (own_nin1 ne_a2_a1)
  have F4 := own_staK R4 K2q (own_all1 (own_plE R0))
  refine own_stk (S' := []) rfl ?_
  refine own_ret0 X2 hx hret hlk (hb hby d2_9) (by decide) (by decide) ?_
  exact ⟨rfl, N2, K2, b_2, sy_b_2, P2_0, P2_1, P2_2, P2_3⟩
theorem d3_8 : decode jdk_42_method_149_code 8 = .ok (.aload_n 0, 1) := by decide +kernel
theorem d3_9 : decode jdk_42_method_149_code 9 = .ok (.ldc 7, 2) := by decide +kernel
theorem d3_11 : decode jdk_42_method_149_code 11 = .ok (.getfield 9, 3) := by decide +kernel
theorem d3_14 : decode jdk_42_method_149_code 14 = .ok (.putfield 9, 3) := by decide +kernel
theorem d3_17 : decode jdk_42_method_149_code 17 = .ok (.aload_n 0, 1) := by decide +kernel
theorem d3_18 : decode jdk_42_method_149_code 18 = .ok (.ldc 7, 2) := by decide +kernel
theorem d3_20 : decode jdk_42_method_149_code 20 = .ok (.getfield 15, 3) := by decide +kernel
theorem d3_23 : decode jdk_42_method_149_code 23 = .ok (.putfield 15, 3) := by decide +kernel
theorem d3_26 : decode jdk_42_method_149_code 26 = .ok (.return_, 1) := by decide +kernel
theorem ef_3_0 (m : MethodId) (a1 : Addr) (a2 : Addr) : entryFrame m #[(.ref a1), (.ref a2), (.int (0 : Int32)), (.int (0 : Int32)), .null] 6 = (mkF m 0 #[.val (.ref a1), .val (.ref a2), .val (.int (0 : Int32)), .val (.int (0 : Int32)), .val .null, .unset] []) := by first | (simp [entryFrame, mkF, argsToLocals, Value.category]; done) | rfl
abbrev Q3_0 (Z : State) (a1 : Addr) (a2 : Addr) (h0 : Heap) (n0 : Nat) : Option Value → Heap → List Loc → Prop := (fun v h L => v = none ∧ Fr n0 L ∧ Keep h0 h [a1] ∧ ∃ b : Addr, Exa Z h a1 "java/lang/String" ∧ Fld Z h a1 "java/lang/String" "value" "[B" (.ref b) ∧ Fld Z h a1 "java/lang/String" "coder" "B" (.int (0 : Int32)) ∧ OA Z h b .byte (([] : List Int32).map obv))
theorem rm3_0 (l : Launch) (Z : State) (a0 : Array Value) (hw : ∀ d ∈ tables_1, d.before a0 Z = true) (ws : List Jvm.Cond) (a1 : Addr) (a2 : Addr) (h0 : Heap) (n0 : Nat) (R0 : Exa Z h0 a1 "java/lang/String") (R1 : Fld Z h0 a1 "java/lang/String" "value" "[B" .null) (R2 : Fld Z h0 a1 "java/lang/String" "coder" "B" (.int (0 : Int32))) (R3 : OA Z h0 a2 .char (([] : List Int32).map obv)) (g_a1 : n0 ≤ a1) (ne_a2_a1 : a2 ≠ a1) :
    OMetS l Z EL0 (⟨"java/lang/String", "<init>", "([CIILjava/lang/Void;)V"⟩ : MethodName) jdk_42_method_149_code 6 none ws ({ frames := 1, cells := 4, slots := 8, locals := 12 } : Room) #[(.ref a1), (.ref a2), (.int (0 : Int32)), (.int (0 : Int32)), .null] h0 (Q3_0 Z a1 a2 h0 n0) := by
  refine own_enterS pn_3 ?_
  intro p e s m below meth c s₁ hx hby hml0 hown hret hlk hnm hZ X0 e0 hs0 CH0
  have hEL := own_EW hw
  have hS0 : s.Since s.vm 0 := (State.WarmedH.refl s).since 0
  have hk0 : 0 ≤ h0.size := Nat.zero_le _
  have CR0 : CHr Z EL0 s.vm h0 s.vm h0 := CHr.refl CH0
  have sf_a1 : Safe Z EL0 s.vm h0 a1 := own_raw hZ.alike R0 R1
  have hml : c.maxLocals = 6 := hml0
  have B : BX p c jdk_42_method_149_code := ⟨hx, hby⟩
  have N0 := Fr.nil n0
  refine own_castS (ef_3_0 m a1 a2) ?_
  refine waloadN OSc 1 X0 B d3_0 rfl rfl rfl ?_
  obtain ⟨T1, X1, e1, st1⟩ := initO X0 hx hZ hown (ow hw 15 rfl) (ow hw 16 rfl) (ow hw 17 rfl) e0 (g := (mkF m 1 #[.val (.ref a1), .val (.ref a2), .val (.int (0 : Int32)), .val (.int (0 : Int32)), .val .null, .unset] [(.ref a1)])) rfl (by rw [hml]; rfl) rfl (hb hby d3_1) (by decide) (W := 0) (by show 2 * 0 + _ ≤ _; exact Nat.le_of_eq rfl) (by decide)
  refine own_stS st1 ?_
  show OGS _ _ p e _ s below _ T1 (mkF m 4 #[.val (.ref a1), .val (.ref a2), .val (.int (0 : Int32)), .val (.int (0 : Int32)), .val .null, .unset] [])
  refine wiloadN OSc 5 X1 B d3_4 rfl rfl ?_
  refine wifNo OSc 8 X1 B d3_5 (by decide) rfl ?_
  refine waloadN OSc 9 X1 B d3_8 rfl rfl rfl ?_
  obtain ⟨o2, T2, h2, k2, b2, kc2, X2, e2, E2, hS2, hk2, hZ2, hown2, A2, FC2, FV2, Av2, -, -, Cq2, -, nsf2, st2⟩ := ldcCH (EL := EL0) (n := 0) (z := (0 : Int32)) (vs := []) X1 hx hZ hown (ow hw 18 rfl) (own_wS hw) e1 hS0 hk0 hEL (by decide) CH0 (by decide) (by decide) (by decide) (g := (mkF m 9 #[.val (.ref a1), .val (.ref a2), .val (.int (0 : Int32)), .val (.int (0 : Int32)), .val .null, .unset] [(.ref a1)])) rfl (hb hby d3_9) (by decide) (by decide) (by decide) (by decide)
  refine own_stS st2 ?_
  have nq2_a1 := nsf2 a1 (CHr.safe Cq2 R0.lt sf_a1)
  have sf2_a1 := CHr.safe Cq2 R0.lt sf_a1
  have CR2 := CHr.trans CR0 Cq2
  have F3 := R0.ext E2
  have F4 := R1.ext E2
  have F5 := R2.ext E2
  have F6 := R3.ext E2
  have K7 := (Keep.refl h0 [a1]).ext E2
  have F8 : OA Z h2 b2 .byte (([] : List Int32).map obv) := own_oaV Av2
  show OGS _ _ p e _ s below _ T2 (mkF m 11 #[.val (.ref a1), .val (.ref a2), .val (.int (0 : Int32)), .val (.int (0 : Int32)), .val .null, .unset] [(.ref o2), (.ref a1)])
  refine wgetF OSc 14 X2 B hZ2 hown2 (ow hw 24 rfl) e2 FV2 d3_11 rfl fun T9 X9 e9 => ?_
  refine wputF OSc 17 X9 B hZ2 hown2 (ow hw 24 rfl) e9 F4 F3 (Or.inr ⟨(ow hw 20 rfl), rfl, hnm⟩) (ow hw 5 rfl) (ty := (.array .byte)) (by decide) rfl rfl d3_14 rfl fun T10 h10 X10 e10 W10 => ?_
  have N10 := Fr.snoc X10 N0 g_a1
  have K11 := K7.wr W10 (Or.inl (List.mem_of_getElem? (i := 0) rfl))
  have F12 := F3.wr W10
  have F13 : Fld Z h10 a1 "java/lang/String" "value" "[B" (.ref b2) := (F4.same W10)
  have F14 := F5.other W10 (Or.inr (slot_ne (Or.inr (ow hw 21 rfl)) (Or.inr (ow hw 20 rfl)) (by decide) (t := .byte) (t' := (.array .byte)) (by decide) (by decide)))
  have F15 := F6.other W10 ne_a2_a1
  have F16 := A2.wr W10
  have F17 := FC2.other W10 (Or.inl (Ne.symm nq2_a1.1))
  have F18 := FV2.other W10 (Or.inl (Ne.symm nq2_a1.1))
  have F19 := F8.other W10 (Ne.symm nq2_a1.2)
  have sf20_a1 := Safe.wr W10 sf2_a1 Cq2.1 sf2_a1
  have CR20 := CHr.trans CR2 (CHr.wr W10 sf2_a1 Cq2.1)
  have CH20 := CHv.wr W10 sf2_a1 Cq2.1
  have hk20 := Nat.le_trans hk2 (Keep.of_wr W10).1
  refine waloadN OSc 18 X10 B d3_17 rfl rfl rfl ?_
  obtain ⟨o21, T21, h21, k21, b21, kc21, X21, e21, E21, hS21, hk21, hZ21, hown21, A21, FC21, FV21, Av21, -, -, Cq21, -, nsf21, st21⟩ := ldcCH (EL := EL0) (n := 0) (z := (0 : Int32)) (vs := []) X10 hx hZ2 hown2 (ow hw 18 rfl) (own_wS hw) e10 hS2 hk20 hEL (by decide) CH20 (by decide) (by decide) (by decide) (g := (mkF m 18 #[.val (.ref a1), .val (.ref a2), .val (.int (0 : Int32)), .val (.int (0 : Int32)), .val .null, .unset] [(.ref a1)])) rfl (hb hby d3_18) (by decide) (by decide) (by decide) (by decide)
  refine own_stS st21 ?_
  have nq21_a1 := nsf21 a1 (CHr.safe Cq21 F12.lt sf20_a1)
  have sf21_a1 := CHr.safe Cq21 F12.lt sf20_a1
  have CR21 := CHr.trans CR20 Cq21
  have F22 := F12.ext E21
  have F23 := F13.ext E21
  have F24 := F14.ext E21
  have F25 := F15.ext E21
  have F26 := F16.ext E21
  have F27 := F17.ext E21
  have F28 := F18.ext E21
  have F29 := F19.ext E21
  have K30 := K11.ext E21
  have F31 : OA Z h21 b21 .byte (([] : List Int32).map obv) := own_oaV Av21
  show OGS _ _ p e _ s below _ T21 (mkF m 20 #[.val (.ref a1), .val (.ref a2), .val (.int (0 : Int32)), .val (.int (0 : Int32)), .val .null, .unset] [(.ref o21), (.ref a1)])
  refine wgetF OSc 23 X21 B hZ21 hown21 (ow hw 25 rfl) e21 FC21 d3_20 rfl fun T32 X32 e32 => ?_
  refine wputF OSc 26 X32 B hZ21 hown21 (ow hw 25 rfl) e32 F24 F22 (Or.inr ⟨(ow hw 21 rfl), rfl, hnm⟩) (ow hw 5 rfl) (ty := .byte) (by decide) rfl rfl d3_23 rfl fun T33 h33 X33 e33 W33 => ?_
  have N33 := Fr.snoc X33 N10 g_a1
  have K34 := K30.wr W33 (Or.inl (List.mem_of_getElem? (i := 0) rfl))
  have F35 := F22.wr W33
  have F36 := F23.other W33 (Or.inr (slot_ne (Or.inr (ow hw 20 rfl)) (Or.inr (ow hw 21 rfl)) (by decide) (t := (.array .byte)) (t' := .byte) (by decide) (by decide)))
  have F37 : Fld Z h33 a1 "java/lang/String" "coder" "B" (.int (0 : Int32)) := (F24.same W33)
  have F38 := F25.other W33 ne_a2_a1
  have F39 := F26.wr W33
  have F40 := F27.other W33 (Or.inl (Ne.symm nq2_a1.1))
  have F41 := F28.other W33 (Or.inl (Ne.symm nq2_a1.1))
  have F42 := F29.other W33 (Ne.symm nq2_a1.2)
  have F43 := A21.wr W33
  have F44 := FC21.other W33 (Or.inl (Ne.symm nq21_a1.1))
  have F45 := FV21.other W33 (Or.inl (Ne.symm nq21_a1.1))
  have F46 := F31.other W33 (Ne.symm nq21_a1.2)
  have sf47_a1 := Safe.wr W33 sf21_a1 Cq21.1 sf21_a1
  have CR47 := CHr.trans CR21 (CHr.wr W33 sf21_a1 Cq21.1)
  have CH47 := CHv.wr W33 sf21_a1 Cq21.1
  have hk47 := Nat.le_trans hk21 (Keep.of_wr W33).1
  refine own_endS X33 hlk hZ21 hEL e33 hs0 hS21 hk47 CH47 CR47 (v := none) (fun _ => rfl) (by decide) (by decide) ?_ (fun fs hr => X33.returnOut hx hret (hb hby d3_26) hr)
  exact ⟨rfl, N33, K34, b2, F35, F36, F37, F42⟩
abbrev Q2_0 (Z : State) (a1 : Addr) (a2 : Addr) (h0 : Heap) (n0 : Nat) : Option Value → Heap → List Loc → Prop := (fun v h L => v = none ∧ Fr n0 L ∧ Keep h0 h [a1] ∧ ∃ b : Addr, Exa Z h a1 "java/lang/String" ∧ Fld Z h a1 "java/lang/String" "value" "[B" (.ref b) ∧ Fld Z h a1 "java/lang/String" "coder" "B" (.int (0 : Int32)) ∧ OA Z h b .byte (([] : List Int32).map obv))
theorem rm2_0 (l : Launch) (Z : State) (a0 : Array Value) (hw : ∀ d ∈ tables_1, d.before a0 Z = true) (ws : List Jvm.Cond) (a1 : Addr) (a2 : Addr) (h0 : Heap) (n0 : Nat) (R0 : Exa Z h0 a1 "java/lang/String") (R1 : Fld Z h0 a1 "java/lang/String" "value" "[B" .null) (R2 : Fld Z h0 a1 "java/lang/String" "coder" "B" (.int (0 : Int32))) (R3 : OA Z h0 a2 .char (([] : List Int32).map obv)) (g_a1 : n0 ≤ a1) (ne_a2_a1 : a2 ≠ a1) :
    OMetS l Z EL0 (⟨"java/lang/String", "<init>", "([C)V"⟩ : MethodName) jdk_42_method_3_code 2 none ws ({ frames := 2, cells := 4, slots := 8, locals := 29 } : Room) #[(.ref a1), (.ref a2)] h0 (Q2_0 Z a1 a2 h0 n0) := by
  refine own_enterS pn_2 ?_
  intro p e s m below meth c s₁ hx hby hml0 hown hret hlk hnm hZ X0 e0 hs0 CH0
  have hEL := own_EW hw
  have hS0 : s.Since s.vm 0 := (State.WarmedH.refl s).since 0
  have hk0 : 0 ≤ h0.size := Nat.zero_le _
  have CR0 : CHr Z EL0 s.vm h0 s.vm h0 := CHr.refl CH0
  have sf_a1 : Safe Z EL0 s.vm h0 a1 := own_raw hZ.alike R0 R1
  have hml : c.maxLocals = 2 := hml0
  have B : BX p c jdk_42_method_3_code := ⟨hx, hby⟩
  have N0 := Fr.nil n0
  refine own_castS (ef_2 m a1 a2) ?_
  refine waloadN OSc 1 X0 B d2_0 rfl rfl rfl ?_
  refine waloadN OSc 2 X0 B d2_1 rfl rfl rfl ?_
  refine wiconst OSc 3 X0 B d2_2 0 rfl rfl ?_
  refine waloadN OSc 4 X0 B d2_3 rfl rfl rfl ?_
  refine warlenA OSc 5 X0 B hZ e0 R3 (0 : Int32) rfl d2_4 rfl ?_
  refine waconstNull OSc 6 X0 B d2_5 rfl ?_
  obtain ⟨_, _, ⟨T2, L2, k2, n2⟩, -, X2q, hS2q, hg2q, ⟨Lc2, hQ2, l2, y2, z2, Cq2⟩, st2⟩ := X0.specialBackS hx (y := (⟨"java/lang/String", "<init>", "([CIILjava/lang/Void;)V"⟩ : MethodName)) rfl hown (mvT hZ (ow hw 11 rfl)) (mvT hZ (ow hw 12 rfl)) (mvT hZ (ow hw 14 rfl)) (by decide) (backOfSH (EL := EL0) (W := 0) (rm := ({ frames := 1, cells := 4, slots := 8, locals := 12 } : Room)) (rm3_0 l Z a0 hw [] a1 a2 h0 n0 R0 R1 R2 R3 g_a1 ne_a2_a1) hZ (ow hw 14 rfl) (ow hw 6 rfl) (by decide) (by decide) hEL CH0) (g := (mkF m 6 #[.val (.ref a1), .val (.ref a2)] [.null, (.int (0 : Int32)), (.int (0 : Int32)), (.ref a2), (.ref a1)])) rfl (by rw [hml]; rfl) (Steps.refl _) (a := a1) (argsL := [(.ref a2), (.int (0 : Int32)), (.int (0 : Int32)), .null]) (rest := []) (lenOf pd___CIILjava_lang_Void__V rfl) rfl (by show 2 * 0 + _ ≤ _; exact Nat.le_of_eq rfl) (hb hby d2_6) (fun _ _ => ⟨rfl, e0, (by decide : 0 + 4 ≤ _), (by decide : 0 + 8 ≤ _)⟩)
  dsimp only [Pt.U, Pt.locs, Pt.cells, Pt.slots] at X2q hS2q hg2q l2 y2 z2 st2 hQ2 Cq2
  subst l2 y2 z2
  obtain ⟨X2, hS2, hZ2, hown2⟩ := rebS hS0 (by rw [e0]; exact hk0) X2q hS2q hg2q hZ hown
  have sf2_a1 := CHr.safe Cq2 R0.lt sf_a1
  have CR2 := CHr.trans CR0 Cq2
  have hk2 : T2.heap.size ≤ T2.heap.size := Nat.le_refl _
  obtain ⟨rfl, N2q, K2q, b_2, P2_0, P2_1, P2_2, P2_3⟩ := hQ2
  refine own_stS (fun t k => st2.trans k) ?_
  have N2 := Fr.app N0 N2q
  have K2 := (Keep.refl h0 [a1]).trans K2q (own_all1 (Or.inl (List.mem_of_getElem? (i := 0) rfl)))
  have F3 := R3.keep K2q (own_nin1 ne_a2_a1)
  show OGS _ _ p e _ s below _ T2 (mkF m 9 #[.val (.ref a1), .val (.ref a2)] [])
  refine own_endS X2 hlk hZ2 hEL rfl hs0 hS2 hk2 Cq2.1 CR2 (v := none) (fun _ => rfl) (by decide) (by decide) ?_ (fun fs hr => X2.returnOut hx hret (hb hby d2_9) hr)
  exact ⟨rfl, N2, K2, b_2, P2_0, P2_1, P2_2, P2_3⟩
def own_n (p1 : Int32) : Int32 := (((p1.toUInt32 >>> ((16 : Int32) &&& 31).toUInt32).toInt32) &&& (3 : Int32))
theorem d1_0 : decode method_2_code 0 = .ok (.iload_n 0, 1) := by decide +kernel
theorem d1_1 : decode method_2_code 1 = .ok (.bipush 16, 2) := by decide +kernel
theorem d1_3 : decode method_2_code 3 = .ok (.iushr, 1) := by decide +kernel
theorem d1_4 : decode method_2_code 4 = .ok (.iconst 3, 1) := by decide +kernel
theorem d1_5 : decode method_2_code 5 = .ok (.iand, 1) := by decide +kernel
theorem d1_6 : decode method_2_code 6 = .ok (.istore_n 1, 1) := by decide +kernel
theorem d1_7 : decode method_2_code 7 = .ok (.iload_n 0, 1) := by decide +kernel
theorem d1_8 : decode method_2_code 8 = .ok (.sipush 255, 3) := by decide +kernel
theorem d1_11 : decode method_2_code 11 = .ok (.iand, 1) := by decide +kernel
theorem d1_12 : decode method_2_code 12 = .ok (.i2c, 1) := by decide +kernel
theorem d1_13 : decode method_2_code 13 = .ok (.istore_n 2, 1) := by decide +kernel
theorem d1_14 : decode method_2_code 14 = .ok (.iload_n 0, 1) := by decide +kernel
theorem d1_15 : decode method_2_code 15 = .ok (.bipush 8, 2) := by decide +kernel
theorem d1_17 : decode method_2_code 17 = .ok (.iushr, 1) := by decide +kernel
theorem d1_18 : decode method_2_code 18 = .ok (.sipush 255, 3) := by decide +kernel
theorem d1_21 : decode method_2_code 21 = .ok (.iand, 1) := by decide +kernel
theorem d1_22 : decode method_2_code 22 = .ok (.i2c, 1) := by decide +kernel
theorem d1_23 : decode method_2_code 23 = .ok (.istore_n 3, 1) := by decide +kernel
theorem d1_24 : decode method_2_code 24 = .ok (.iload_n 0, 1) := by decide +kernel
theorem d1_25 : decode method_2_code 25 = .ok (.bipush 24, 2) := by decide +kernel
theorem d1_27 : decode method_2_code 27 = .ok (.iushr, 1) := by decide +kernel
theorem d1_28 : decode method_2_code 28 = .ok (.sipush 255, 3) := by decide +kernel
theorem d1_31 : decode method_2_code 31 = .ok (.iand, 1) := by decide +kernel
theorem d1_32 : decode method_2_code 32 = .ok (.i2c, 1) := by decide +kernel
theorem d1_33 : decode method_2_code 33 = .ok (.istore 4, 2) := by decide +kernel
theorem d1_35 : decode method_2_code 35 = .ok (.iload_n 1, 1) := by decide +kernel
theorem d1_36 : decode method_2_code 36 = .ok (.ifCond .ne 14, 3) := by decide +kernel
theorem d1_39 : decode method_2_code 39 = .ok (.new 7, 3) := by decide +kernel
theorem d1_42 : decode method_2_code 42 = .ok (.dup, 1) := by decide +kernel
theorem d1_43 : decode method_2_code 43 = .ok (.iconst 0, 1) := by decide +kernel
theorem d1_44 : decode method_2_code 44 = .ok (.newarray .char, 2) := by decide +kernel
theorem d1_46 : decode method_2_code 46 = .ok (.invokespecial 9, 3) := by decide +kernel
theorem d1_49 : decode method_2_code 49 = .ok (.areturn, 1) := by decide +kernel
theorem pd___C_V : parseMethodDescriptor "([C)V" = some ⟨[(.array .char)], none⟩ := by decide +kernel
theorem pn_1 : plainFor (⟨"com/example/tidewire/tidewire/protocol/RestParamsSignedTextPinLaw", "draw", "(I)Ljava/lang/String;"⟩ : MethodName) = true := by first | exact plainFor_of_name (by first | (simp [plainName, overriddenIn]; done) | decide +kernel) | decide +kernel
def g1_0_1 (p1 : Int32) (w : Int32) : Int32 := (((p1.toUInt32 >>> ((16 : Int32) &&& 31).toUInt32).toInt32) &&& (3 : Int32))
def g1_0_2 (p1 : Int32) (w : Int32) : Int32 := ((p1 &&& (255 : Int32)).toUInt32.toUInt16.toUInt32.toInt32)
def g1_0_3 (p1 : Int32) (w : Int32) : Int32 := ((((p1.toUInt32 >>> ((8 : Int32) &&& 31).toUInt32).toInt32) &&& (255 : Int32)).toUInt32.toUInt16.toUInt32.toInt32)
def g1_0_4 (p1 : Int32) (w : Int32) : Int32 := ((((p1.toUInt32 >>> ((24 : Int32) &&& 31).toUInt32).toInt32) &&& (255 : Int32)).toUInt32.toUInt16.toUInt32.toInt32)
theorem ef_1 (m : MethodId) (p1 : Int32) : entryFrame m #[(.int p1)] 5 = (mkF m 0 #[.val (.int p1), .unset, .unset, .unset, .unset] []) := by first | (simp [entryFrame, mkF, argsToLocals, Value.category]; done) | rfl
abbrev Q1_0 (Z : State) (p1 : Int32) (w : Int32) (h0 : Heap) (n0 : Nat) : Option Value → Heap → List Loc → Prop := (fun v h L => Fr n0 L ∧ Keep h0 h [] ∧ ∃ s : Addr, ∃ b : Addr, h0.size ≤ s ∧ v = some (.ref s) ∧ Exa Z h s "java/lang/String" ∧ Fld Z h s "java/lang/String" "value" "[B" (.ref b) ∧ Fld Z h s "java/lang/String" "coder" "B" (.int (0 : Int32)) ∧ OA Z h b .byte (([] : List Int32).map obv))
theorem rm1_0 (l : Launch) (Z : State) (a0 : Array Value) (hw : ∀ d ∈ tables_1, d.before a0 Z = true) (ws : List Jvm.Cond) (p1 : Int32) (w : Int32) (h0 : Heap) (n0 : Nat) (Z0 : n0 ≤ h0.size) (R0 : Sta Z h0 "java/lang/String" "COMPACT_STRINGS" "Z" (.int w)) (hw0 : ¬ w = (0 : Int32)) (hn0 : own_n p1 = (0 : Int32)) :
    OMetS l Z EL0 (⟨"com/example/tidewire/tidewire/protocol/RestParamsSignedTextPinLaw", "draw", "(I)Ljava/lang/String;"⟩ : MethodName) method_2_code 5 (some (.object "java/lang/String")) ws ({ frames := 4, cells := 6, slots := 12, locals := 66 } : Room) #[(.int p1)] h0 (Q1_0 Z p1 w h0 n0) := by
  refine own_enterS pn_1 ?_
  intro p e s m below meth c s₁ hx hby hml0 hown hret hlk hnm hZ X0 e0 hs0 CH0
  have hEL := own_EW hw
  have hS0 : s.Since s.vm 0 := (State.WarmedH.refl s).since 0
  have hk0 : 0 ≤ h0.size := Nat.zero_le _
  have CR0 : CHr Z EL0 s.vm h0 s.vm h0 := CHr.refl CH0
  have hml : c.maxLocals = 5 := hml0
  have B : BX p c method_2_code := ⟨hx, hby⟩
  have N0 := Fr.nil n0
  refine own_castS (ef_1 m p1) ?_
  refine wiloadN OSc 1 X0 B d1_0 rfl rfl ?_
  refine wbipush OSc 3 X0 B d1_1 16 rfl rfl ?_
  refine own_stS (fun t k => XS.iushr X0.here hx rfl (hb hby d1_3) rfl k) ?_
  show OGS _ _ p e _ s below _ s₁ (mkF m 4 #[.val (.int p1), .unset, .unset, .unset, .unset] [(.int ((p1.toUInt32 >>> ((16 : Int32) &&& 31).toUInt32).toInt32))])
  refine wiconst OSc 5 X0 B d1_4 3 rfl rfl ?_
  refine wiand OSc 6 X0 B d1_5 rfl ?_
  refine wistoreN OSc 7 X0 B d1_6 #[.val (.int p1), .val (.int (g1_0_1 p1 w)), .unset, .unset, .unset] rfl rfl ?_
  refine wiloadN OSc 8 X0 B d1_7 rfl rfl ?_
  refine wsipush OSc 11 X0 B d1_8 255 rfl rfl ?_
  refine wiand OSc 12 X0 B d1_11 rfl ?_
  refine own_stS (fun t k => XS.i2c X0.here hx rfl (hb hby d1_12) rfl k) ?_
  show OGS _ _ p e _ s below _ s₁ (mkF m 13 #[.val (.int p1), .val (.int (g1_0_1 p1 w)), .unset, .unset, .unset] [(.int ((p1 &&& (255 : Int32)).toUInt32.toUInt16.toUInt32.toInt32))])
  refine wistoreN OSc 14 X0 B d1_13 #[.val (.int p1), .val (.int (g1_0_1 p1 w)), .val (.int (g1_0_2 p1 w)), .unset, .unset] rfl rfl ?_
  refine wiloadN OSc 15 X0 B d1_14 rfl rfl ?_
  refine wbipush OSc 17 X0 B d1_15 8 rfl rfl ?_
  refine own_stS (fun t k => XS.iushr X0.here hx rfl (hb hby d1_17) rfl k) ?_
  show OGS _ _ p e _ s below _ s₁ (mkF m 18 #[.val (.int p1), .val (.int (g1_0_1 p1 w)), .val (.int (g1_0_2 p1 w)), .unset, .unset] [(.int ((p1.toUInt32 >>> ((8 : Int32) &&& 31).toUInt32).toInt32))])
  refine wsipush OSc 21 X0 B d1_18 255 rfl rfl ?_
  refine wiand OSc 22 X0 B d1_21 rfl ?_
  refine own_stS (fun t k => XS.i2c X0.here hx rfl (hb hby d1_22) rfl k) ?_
  show OGS _ _ p e _ s below _ s₁ (mkF m 23 #[.val (.int p1), .val (.int (g1_0_1 p1 w)), .val (.int (g1_0_2 p1 w)), .unset, .unset] [(.int ((((p1.toUInt32 >>> ((8 : Int32) &&& 31).toUInt32).toInt32) &&& (255 : Int32)).toUInt32.toUInt16.toUInt32.toInt32))])
  refine wistoreN OSc 24 X0 B d1_23 #[.val (.int p1), .val (.int (g1_0_1 p1 w)), .val (.int (g1_0_2 p1 w)), .val (.int (g1_0_3 p1 w)), .unset] rfl rfl ?_
  refine wiloadN OSc 25 X0 B d1_24 rfl rfl ?_
  refine wbipush OSc 27 X0 B d1_25 24 rfl rfl ?_
  refine own_stS (fun t k => XS.iushr X0.here hx rfl (hb hby d1_27) rfl k) ?_
  show OGS _ _ p e _ s below _ s₁ (mkF m 28 #[.val (.int p1), .val (.int (g1_0_1 p1 w)), .val (.int (g1_0_2 p1 w)), .val (.int (g1_0_3 p1 w)), .unset] [(.int ((p1.toUInt32 >>> ((24 : Int32) &&& 31).toUInt32).toInt32))])
  refine wsipush OSc 31 X0 B d1_28 255 rfl rfl ?_
  refine wiand OSc 32 X0 B d1_31 rfl ?_
  refine own_stS (fun t k => XS.i2c X0.here hx rfl (hb hby d1_32) rfl k) ?_
  show OGS _ _ p e _ s below _ s₁ (mkF m 33 #[.val (.int p1), .val (.int (g1_0_1 p1 w)), .val (.int (g1_0_2 p1 w)), .val (.int (g1_0_3 p1 w)), .unset] [(.int ((((p1.toUInt32 >>> ((24 : Int32) &&& 31).toUInt32).toInt32) &&& (255 : Int32)).toUInt32.toUInt16.toUInt32.toInt32))])
  refine wistore OSc 35 X0 B d1_33 #[.val (.int p1), .val (.int (g1_0_1 p1 w)), .val (.int (g1_0_2 p1 w)), .val (.int (g1_0_3 p1 w)), .val (.int (g1_0_4 p1 w))] rfl rfl ?_
  refine wiloadN OSc 36 X0 B d1_35 rfl rfl ?_
  refine wifNo OSc 39 X0 B d1_36 (own_if0 (teq hn0).2) rfl ?_
  refine wnewO OSc 42 X0 B hZ hown (ow hw 4 rfl) (ow hw 5 rfl) (ow hw 6 rfl) e0 d1_39 (by decide) rfl fun T1 h1 o1 gb1 X1 e1 E1 A1 D1 => ?_
  have ge_o1 : n0 ≤ o1 := by rw [gb1]; exact Nat.le_trans Z0 (Keep.refl h0 []).1
  have sz_o1 : h0.size ≤ o1 := by rw [gb1]; exact (Keep.refl h0 []).1
  have F2 := R0.ext E1
  have K3 := (Keep.refl h0 []).ext E1
  have F4 : Fld Z h1 o1 "java/lang/String" "value" "[B" .null := D1 (Or.inr (ow hw 20 rfl)) (ty := (.array .byte)) (by decide)
  have F5 : Fld Z h1 o1 "java/lang/String" "coder" "B" (.int (0 : Int32)) := D1 (Or.inr (ow hw 21 rfl)) (ty := .byte) (by decide)
  have CR6 := CHr.trans CR0 (CHr.ext E1 CH0)
  have CH6 := CHv.ext E1 CH0
  have hk6 := Nat.le_trans hk0 E1.1
  have sn_o1 := Safe.ext E1 CH0 (Safe.new (Nat.le_of_eq gb1.symm))
  refine wdup OSc 43 X1 B d1_42 rfl rfl ?_
  refine wiconst OSc 44 X1 B d1_43 0 rfl rfl ?_
  refine wnewP OSc 46 X1 B hZ (ow hw 7 rfl) e1 d1_44 0 (by decide) (by decide) rfl fun T7 h7 b7 k7 gb7 X7 e7 E7 A7 => ?_
  have ge_b7 : n0 ≤ b7 := by rw [gb7]; exact Nat.le_trans Z0 K3.1
  have sz_b7 : h0.size ≤ b7 := by rw [gb7]; exact K3.1
  have ne_o1_b7 : o1 ≠ b7 := Nat.ne_of_lt (Nat.lt_of_lt_of_eq A1.lt gb7.symm)
  have F8 := F2.ext E7
  have F9 := A1.ext E7
  have F10 := F4.ext E7
  have F11 := F5.ext E7
  have K12 := K3.ext E7
  have F13 : OA Z h7 b7 .char (([] : List Int32).map obv) := OA.new A7
  have sf14_o1 := Safe.ext E7 CH6 sn_o1
  have CR14 := CHr.trans CR6 (CHr.ext E7 CH6)
  have CH14 := CHv.ext E7 CH6
  have hk14 := Nat.le_trans hk6 E7.1
  obtain ⟨_, _, ⟨T15, L15, k15, n15⟩, -, X15q, hS15q, hg15q, ⟨Lc15, hQ15, l15, y15, z15, Cq15⟩, st15⟩ := X7.specialBackS hx (y := (⟨"java/lang/String", "<init>", "([C)V"⟩ : MethodName)) rfl hown (mvT hZ (ow hw 8 rfl)) (mvT hZ (ow hw 9 rfl)) (mvT hZ (ow hw 10 rfl)) (by decide) (backOfSH (EL := EL0) (W := 1) (rm := ({ frames := 2, cells := 4, slots := 8, locals := 29 } : Room)) (rm2_0 l Z a0 hw [] o1 b7 h7 n0 F9 F10 F11 F13 ge_o1 (Ne.symm ne_o1_b7)) hZ (ow hw 10 rfl) (ow hw 6 rfl) (by decide) (by decide) hEL CH14) (g := (mkF m 46 #[.val (.int p1), .val (.int (g1_0_1 p1 w)), .val (.int (g1_0_2 p1 w)), .val (.int (g1_0_3 p1 w)), .val (.int (g1_0_4 p1 w))] [(.ref b7), (.ref o1), (.ref o1)])) rfl (by rw [hml]; rfl) (Steps.refl _) (a := o1) (argsL := [(.ref b7)]) (rest := [(.ref o1)]) (lenOf pd___C_V rfl) rfl (by show 2 * 0 + _ ≤ _; exact Nat.le_of_eq rfl) (hb hby d1_46) (fun _ _ => ⟨rfl, e7, (by decide : 2 + 4 ≤ _), (by decide : 4 + 8 ≤ _)⟩)
  dsimp only [Pt.U, Pt.locs, Pt.cells, Pt.slots] at X15q hS15q hg15q l15 y15 z15 st15 hQ15 Cq15
  subst l15 y15 z15
  obtain ⟨X15, hS15, hZ15, hown15⟩ := rebS hS0 (by rw [e7]; exact hk14) X15q hS15q hg15q hZ hown
  have sf15_o1 := CHr.safe Cq15 F9.lt sf14_o1
  have CR15 := CHr.trans CR14 Cq15
  have hk15 : T15.heap.size ≤ T15.heap.size := Nat.le_refl _
  obtain ⟨rfl, N15q, K15q, b_15, P15_0, P15_1, P15_2, P15_3⟩ := hQ15
  refine own_stS (fun t k => st15.trans k) ?_
  have N15 := Fr.app N0 N15q
  have K15 := K12.trans K15q (own_all1 (Or.inr sz_o1))
  have F16 := own_staK F8 K15q (own_all1 (own_plE F9))
  have F17 := F13.keep K15q (own_nin1 (Ne.symm ne_o1_b7))
  show OGS _ _ p e _ s below _ T15 (mkF m 49 #[.val (.int p1), .val (.int (g1_0_1 p1 w)), .val (.int (g1_0_2 p1 w)), .val (.int (g1_0_3 p1 w)), .val (.int (g1_0_4 p1 w))] [(.ref o1)])
  refine own_endS X15 hlk hZ15 hEL rfl hs0 hS15 hk15 Cq15.1 CR15 (v := some (.ref o1)) (fun h => by rw [hret] at h; cases h) (by decide) (by decide) ?_ (fun fs hr => retOut X15 hx hret rfl (Or.inr (Or.inr (Or.inr (Or.inr ⟨rfl, rfl, rfl⟩)))) (hb hby d1_49) hr)
  exact ⟨N15, K15, o1, b_15, sz_o1, rfl, P15_0, P15_1, P15_2, P15_3⟩
theorem d1_50 : decode method_2_code 50 = .ok (.iload_n 1, 1) := by decide +kernel
theorem d1_51 : decode method_2_code 51 = .ok (.iconst 1, 1) := by decide +kernel
theorem d1_52 : decode method_2_code 52 = .ok (.if_icmp .ne 18, 3) := by decide +kernel
theorem d1_55 : decode method_2_code 55 = .ok (.new 7, 3) := by decide +kernel
theorem d1_58 : decode method_2_code 58 = .ok (.dup, 1) := by decide +kernel
theorem d1_59 : decode method_2_code 59 = .ok (.iconst 1, 1) := by decide +kernel
theorem d1_60 : decode method_2_code 60 = .ok (.newarray .char, 2) := by decide +kernel
theorem d1_62 : decode method_2_code 62 = .ok (.dup, 1) := by decide +kernel
theorem d1_63 : decode method_2_code 63 = .ok (.iconst 0, 1) := by decide +kernel
theorem d1_64 : decode method_2_code 64 = .ok (.iload_n 2, 1) := by decide +kernel
theorem d1_65 : decode method_2_code 65 = .ok (.castore, 1) := by decide +kernel
theorem d1_66 : decode method_2_code 66 = .ok (.invokespecial 9, 3) := by decide +kernel
theorem d1_69 : decode method_2_code 69 = .ok (.areturn, 1) := by decide +kernel
def g1_1_1 (p1 : Int32) (w : Int32) : Int32 := (((p1.toUInt32 >>> ((16 : Int32) &&& 31).toUInt32).toInt32) &&& (3 : Int32))
def g1_1_2 (p1 : Int32) (w : Int32) : Int32 := ((p1 &&& (255 : Int32)).toUInt32.toUInt16.toUInt32.toInt32)
def g1_1_3 (p1 : Int32) (w : Int32) : Int32 := ((((p1.toUInt32 >>> ((8 : Int32) &&& 31).toUInt32).toInt32) &&& (255 : Int32)).toUInt32.toUInt16.toUInt32.toInt32)
def g1_1_4 (p1 : Int32) (w : Int32) : Int32 := ((((p1.toUInt32 >>> ((24 : Int32) &&& 31).toUInt32).toInt32) &&& (255 : Int32)).toUInt32.toUInt16.toUInt32.toInt32)
abbrev Q1_1 (Z : State) (p1 : Int32) (w : Int32) (h0 : Heap) (n0 : Nat) : Option Value → Heap → List Loc → Prop := (fun v h L => Fr n0 L ∧ Keep h0 h [] ∧ ∃ s : Addr, ∃ b : Addr, h0.size ≤ s ∧ v = some (.ref s) ∧ Exa Z h s "java/lang/String" ∧ Fld Z h s "java/lang/String" "value" "[B" (.ref b) ∧ Fld Z h s "java/lang/String" "coder" "B" (.int (0 : Int32)) ∧ OA Z h b .byte (([((nar .char (g1_1_2 p1 w)).toInt8.toInt32)] : List Int32).map obv))
theorem rm1_1 (l : Launch) (Z : State) (a0 : Array Value) (hw : ∀ d ∈ tables_1, d.before a0 Z = true) (ws : List Jvm.Cond) (p1 : Int32) (w : Int32) (h0 : Heap) (n0 : Nat) (Z0 : n0 ≤ h0.size) (R0 : Sta Z h0 "java/lang/String" "COMPACT_STRINGS" "Z" (.int w)) (hw0 : ¬ w = (0 : Int32)) (hn0 : ¬ own_n p1 = (0 : Int32)) (hn1 : own_n p1 = (1 : Int32)) :
    OMetS l Z EL0 (⟨"com/example/tidewire/tidewire/protocol/RestParamsSignedTextPinLaw", "draw", "(I)Ljava/lang/String;"⟩ : MethodName) method_2_code 5 (some (.object "java/lang/String")) ws ({ frames := 4, cells := 6, slots := 12, locals := 66 } : Room) #[(.int p1)] h0 (Q1_1 Z p1 w h0 n0) := by
  refine own_enterS pn_1 ?_
  intro p e s m below meth c s₁ hx hby hml0 hown hret hlk hnm hZ X0 e0 hs0 CH0
  have hEL := own_EW hw
  have hS0 : s.Since s.vm 0 := (State.WarmedH.refl s).since 0
  have hk0 : 0 ≤ h0.size := Nat.zero_le _
  have CR0 : CHr Z EL0 s.vm h0 s.vm h0 := CHr.refl CH0
  have hml : c.maxLocals = 5 := hml0
  have B : BX p c method_2_code := ⟨hx, hby⟩
  have N0 := Fr.nil n0
  refine own_castS (ef_1 m p1) ?_
  refine wiloadN OSc 1 X0 B d1_0 rfl rfl ?_
  refine wbipush OSc 3 X0 B d1_1 16 rfl rfl ?_
  refine own_stS (fun t k => XS.iushr X0.here hx rfl (hb hby d1_3) rfl k) ?_
  show OGS _ _ p e _ s below _ s₁ (mkF m 4 #[.val (.int p1), .unset, .unset, .unset, .unset] [(.int ((p1.toUInt32 >>> ((16 : Int32) &&& 31).toUInt32).toInt32))])
  refine wiconst OSc 5 X0 B d1_4 3 rfl rfl ?_
  refine wiand OSc 6 X0 B d1_5 rfl ?_
  refine wistoreN OSc 7 X0 B d1_6 #[.val (.int p1), .val (.int (g1_1_1 p1 w)), .unset, .unset, .unset] rfl rfl ?_
  refine wiloadN OSc 8 X0 B d1_7 rfl rfl ?_
  refine wsipush OSc 11 X0 B d1_8 255 rfl rfl ?_
  refine wiand OSc 12 X0 B d1_11 rfl ?_
  refine own_stS (fun t k => XS.i2c X0.here hx rfl (hb hby d1_12) rfl k) ?_
  show OGS _ _ p e _ s below _ s₁ (mkF m 13 #[.val (.int p1), .val (.int (g1_1_1 p1 w)), .unset, .unset, .unset] [(.int ((p1 &&& (255 : Int32)).toUInt32.toUInt16.toUInt32.toInt32))])
  refine wistoreN OSc 14 X0 B d1_13 #[.val (.int p1), .val (.int (g1_1_1 p1 w)), .val (.int (g1_1_2 p1 w)), .unset, .unset] rfl rfl ?_
  refine wiloadN OSc 15 X0 B d1_14 rfl rfl ?_
  refine wbipush OSc 17 X0 B d1_15 8 rfl rfl ?_
  refine own_stS (fun t k => XS.iushr X0.here hx rfl (hb hby d1_17) rfl k) ?_
  show OGS _ _ p e _ s below _ s₁ (mkF m 18 #[.val (.int p1), .val (.int (g1_1_1 p1 w)), .val (.int (g1_1_2 p1 w)), .unset, .unset] [(.int ((p1.toUInt32 >>> ((8 : Int32) &&& 31).toUInt32).toInt32))])
  refine wsipush OSc 21 X0 B d1_18 255 rfl rfl ?_
  refine wiand OSc 22 X0 B d1_21 rfl ?_
  refine own_stS (fun t k => XS.i2c X0.here hx rfl (hb hby d1_22) rfl k) ?_
  show OGS _ _ p e _ s below _ s₁ (mkF m 23 #[.val (.int p1), .val (.int (g1_1_1 p1 w)), .val (.int (g1_1_2 p1 w)), .unset, .unset] [(.int ((((p1.toUInt32 >>> ((8 : Int32) &&& 31).toUInt32).toInt32) &&& (255 : Int32)).toUInt32.toUInt16.toUInt32.toInt32))])
  refine wistoreN OSc 24 X0 B d1_23 #[.val (.int p1), .val (.int (g1_1_1 p1 w)), .val (.int (g1_1_2 p1 w)), .val (.int (g1_1_3 p1 w)), .unset] rfl rfl ?_
  refine wiloadN OSc 25 X0 B d1_24 rfl rfl ?_
  refine wbipush OSc 27 X0 B d1_25 24 rfl rfl ?_
  refine own_stS (fun t k => XS.iushr X0.here hx rfl (hb hby d1_27) rfl k) ?_
  show OGS _ _ p e _ s below _ s₁ (mkF m 28 #[.val (.int p1), .val (.int (g1_1_1 p1 w)), .val (.int (g1_1_2 p1 w)), .val (.int (g1_1_3 p1 w)), .unset] [(.int ((p1.toUInt32 >>> ((24 : Int32) &&& 31).toUInt32).toInt32))])
  refine wsipush OSc 31 X0 B d1_28 255 rfl rfl ?_
  refine wiand OSc 32 X0 B d1_31 rfl ?_
  refine own_stS (fun t k => XS.i2c X0.here hx rfl (hb hby d1_32) rfl k) ?_
  show OGS _ _ p e _ s below _ s₁ (mkF m 33 #[.val (.int p1), .val (.int (g1_1_1 p1 w)), .val (.int (g1_1_2 p1 w)), .val (.int (g1_1_3 p1 w)), .unset] [(.int ((((p1.toUInt32 >>> ((24 : Int32) &&& 31).toUInt32).toInt32) &&& (255 : Int32)).toUInt32.toUInt16.toUInt32.toInt32))])
  refine wistore OSc 35 X0 B d1_33 #[.val (.int p1), .val (.int (g1_1_1 p1 w)), .val (.int (g1_1_2 p1 w)), .val (.int (g1_1_3 p1 w)), .val (.int (g1_1_4 p1 w))] rfl rfl ?_
  refine wiloadN OSc 36 X0 B d1_35 rfl rfl ?_
  refine wifYes OSc 50 X0 B d1_36 (own_if0 (feq hn0).2) rfl ?_
  refine wiloadN OSc 51 X0 B d1_50 rfl rfl ?_
  refine wiconst OSc 52 X0 B d1_51 1 rfl rfl ?_
  refine wicmpNo OSc 55 X0 B d1_52 (teq hn1).2 rfl ?_
  refine wnewO OSc 58 X0 B hZ hown (ow hw 4 rfl) (ow hw 5 rfl) (ow hw 6 rfl) e0 d1_55 (by decide) rfl fun T1 h1 o1 gb1 X1 e1 E1 A1 D1 => ?_
  have ge_o1 : n0 ≤ o1 := by rw [gb1]; exact Nat.le_trans Z0 (Keep.refl h0 []).1
  have sz_o1 : h0.size ≤ o1 := by rw [gb1]; exact (Keep.refl h0 []).1
  have F2 := R0.ext E1
  have K3 := (Keep.refl h0 []).ext E1
  have F4 : Fld Z h1 o1 "java/lang/String" "value" "[B" .null := D1 (Or.inr (ow hw 20 rfl)) (ty := (.array .byte)) (by decide)
  have F5 : Fld Z h1 o1 "java/lang/String" "coder" "B" (.int (0 : Int32)) := D1 (Or.inr (ow hw 21 rfl)) (ty := .byte) (by decide)
  have CR6 := CHr.trans CR0 (CHr.ext E1 CH0)
  have CH6 := CHv.ext E1 CH0
  have hk6 := Nat.le_trans hk0 E1.1
  have sn_o1 := Safe.ext E1 CH0 (Safe.new (Nat.le_of_eq gb1.symm))
  refine wdup OSc 59 X1 B d1_58 rfl rfl ?_
  refine wiconst OSc 60 X1 B d1_59 1 rfl rfl ?_
  refine wnewP OSc 62 X1 B hZ (ow hw 7 rfl) e1 d1_60 1 (by decide) (by decide) rfl fun T7 h7 b7 k7 gb7 X7 e7 E7 A7 => ?_
  have ge_b7 : n0 ≤ b7 := by rw [gb7]; exact Nat.le_trans Z0 K3.1
  have sz_b7 : h0.size ≤ b7 := by rw [gb7]; exact K3.1
  have ne_o1_b7 : o1 ≠ b7 := Nat.ne_of_lt (Nat.lt_of_lt_of_eq A1.lt gb7.symm)
  have F8 := F2.ext E7
  have F9 := A1.ext E7
  have F10 := F4.ext E7
  have F11 := F5.ext E7
  have K12 := K3.ext E7
  have F13 : OA Z h7 b7 .char [(.int (0 : Int32))] := OA.new A7
  have sf14_o1 := Safe.ext E7 CH6 sn_o1
  have CR14 := CHr.trans CR6 (CHr.ext E7 CH6)
  have CH14 := CHv.ext E7 CH6
  have hk14 := Nat.le_trans hk6 E7.1
  refine wdup OSc 63 X7 B d1_62 rfl rfl ?_
  refine wiconst OSc 64 X7 B d1_63 0 rfl rfl ?_
  refine wiloadN OSc 65 X7 B d1_64 rfl rfl ?_
  refine wstC OSc 66 X7 B hZ e7 F13 0 (by decide) (by decide) (by decide : 0 < 1) d1_65 rfl fun T15 h15 X15 e15 W15 => ?_
  have N15 := Fr.snoc X15 N0 ge_b7
  have K16 := K12.wr W15 (Or.inr sz_b7)
  have F17 := F8.wr W15
  have F18 := F9.wr W15
  have F19 := F10.other W15 (Or.inl ne_o1_b7)
  have F20 := F11.other W15 (Or.inl ne_o1_b7)
  have F21 : OA Z h15 b7 .char [(.int (nar .char (g1_1_2 p1 w)))] := (F13.set W15 (i := 0) (by decide))
  have sf22_o1 := Safe.wr W15 (own_safeA hZ.alike F13 (by decide)) CH14 sf14_o1
  have CR22 := CHr.trans CR14 (CHr.wr W15 (own_safeA hZ.alike F13 (by decide)) CH14)
  have CH22 := CHv.wr W15 (own_safeA hZ.alike F13 (by decide)) CH14
  have hk22 := Nat.le_trans hk14 (Keep.of_wr W15).1
  refine wspec OSc 69 X15 B hZ hown (ow hw 8 rfl) (ow hw 9 rfl) rfl (ow hw 10 rfl) (ow hw 6 rfl) e15 (rm2_1 l Z a0 hw [] o1 b7 (nar .char (g1_1_2 p1 w)) w h15 n0 (Nat.le_trans Z0 K16.1) F18 F19 F20 F21 F17 ge_o1 (Ne.symm ne_o1_b7) (own_chB (p1)) hw0) 1 (by decide) (by decide) hml rfl (lenOf pd___C_V rfl) [(.ref o1)] rfl rfl d1_66 rfl fun _ T23 L23 X23 hQ23 => ?_
  obtain ⟨rfl, N23q, K23q, b_23, sz_b_23, P23_0, P23_1, P23_2, P23_3⟩ := hQ23
  have N23 := Fr.app N15 N23q
  have ge_b_23 : n0 ≤ b_23 := Nat.le_trans (Nat.le_trans Z0 K16.1) sz_b_23
  have sy_b_23 : h0.size ≤ b_23 := Nat.le_trans K16.1 sz_b_23
  have ne_b7_b_23 : b7 ≠ b_23 := Nat.ne_of_lt (Nat.lt_of_lt_of_le F21.lt sz_b_23)
  have ne_o1_b_23 : o1 ≠ b_23 := Nat.ne_of_lt (Nat.lt_of_lt_of_le F18.lt sz_b_23)
  have K23 := K16.trans K23q (own_all1 (Or.inr sz_o1))
  have F24 := own_staK F17 K23q (own_all1 (own_plE F18))
  have F25 := F21.keep K23q (own_nin1 (Ne.symm ne_o1_b7))
  refine own_stk (S' := [(.ref o1)]) rfl ?_
  have sf26_o1 := Safe.keep K23q (own_all1 sf22_o1) CH22 sf22_o1
  have CR26 := CHr.trans CR22 (CHr.keep K23q (own_all1 sf22_o1) CH22)
  have CH26 := CHv.keep K23q (own_all1 sf22_o1) CH22
  have hk26 := Nat.le_trans hk22 K23q.1
  refine own_endS X23 hlk hZ hEL rfl hs0 hS0 hk26 CH26 CR26 (v := some (.ref o1)) (fun h => by rw [hret] at h; cases h) (by decide) (by decide) ?_ (fun fs hr => retOut X23 hx hret rfl (Or.inr (Or.inr (Or.inr (Or.inr ⟨rfl, rfl, rfl⟩)))) (hb hby d1_69) hr)
  exact ⟨N23, K23, o1, b_23, sz_o1, rfl, P23_0, P23_1, P23_2, P23_3⟩
theorem d1_70 : decode method_2_code 70 = .ok (.iload_n 1, 1) := by decide +kernel
theorem d1_71 : decode method_2_code 71 = .ok (.iconst 2, 1) := by decide +kernel
theorem d1_72 : decode method_2_code 72 = .ok (.if_icmp .ne 22, 3) := by decide +kernel
theorem d1_75 : decode method_2_code 75 = .ok (.new 7, 3) := by decide +kernel
theorem d1_78 : decode method_2_code 78 = .ok (.dup, 1) := by decide +kernel
theorem d1_79 : decode method_2_code 79 = .ok (.iconst 2, 1) := by decide +kernel
theorem d1_80 : decode method_2_code 80 = .ok (.newarray .char, 2) := by decide +kernel
theorem d1_82 : decode method_2_code 82 = .ok (.dup, 1) := by decide +kernel
theorem d1_83 : decode method_2_code 83 = .ok (.iconst 0, 1) := by decide +kernel
theorem d1_84 : decode method_2_code 84 = .ok (.iload_n 2, 1) := by decide +kernel
theorem d1_85 : decode method_2_code 85 = .ok (.castore, 1) := by decide +kernel
theorem d1_86 : decode method_2_code 86 = .ok (.dup, 1) := by decide +kernel
theorem d1_87 : decode method_2_code 87 = .ok (.iconst 1, 1) := by decide +kernel
theorem d1_88 : decode method_2_code 88 = .ok (.iload_n 3, 1) := by decide +kernel
theorem d1_89 : decode method_2_code 89 = .ok (.castore, 1) := by decide +kernel
theorem d1_90 : decode method_2_code 90 = .ok (.invokespecial 9, 3) := by decide +kernel
theorem d1_93 : decode method_2_code 93 = .ok (.areturn, 1) := by decide +kernel
def g1_2_1 (p1 : Int32) (w : Int32) : Int32 := (((p1.toUInt32 >>> ((16 : Int32) &&& 31).toUInt32).toInt32) &&& (3 : Int32))
def g1_2_2 (p1 : Int32) (w : Int32) : Int32 := ((p1 &&& (255 : Int32)).toUInt32.toUInt16.toUInt32.toInt32)
def g1_2_3 (p1 : Int32) (w : Int32) : Int32 := ((((p1.toUInt32 >>> ((8 : Int32) &&& 31).toUInt32).toInt32) &&& (255 : Int32)).toUInt32.toUInt16.toUInt32.toInt32)
def g1_2_4 (p1 : Int32) (w : Int32) : Int32 := ((((p1.toUInt32 >>> ((24 : Int32) &&& 31).toUInt32).toInt32) &&& (255 : Int32)).toUInt32.toUInt16.toUInt32.toInt32)
abbrev Q1_2 (Z : State) (p1 : Int32) (w : Int32) (h0 : Heap) (n0 : Nat) : Option Value → Heap → List Loc → Prop := (fun v h L => Fr n0 L ∧ Keep h0 h [] ∧ ∃ s : Addr, ∃ b : Addr, h0.size ≤ s ∧ v = some (.ref s) ∧ Exa Z h s "java/lang/String" ∧ Fld Z h s "java/lang/String" "value" "[B" (.ref b) ∧ Fld Z h s "java/lang/String" "coder" "B" (.int (0 : Int32)) ∧ OA Z h b .byte (([((nar .char (g1_2_2 p1 w)).toInt8.toInt32), ((nar .char (g1_2_3 p1 w)).toInt8.toInt32)] : List Int32).map obv))
theorem rm1_2 (l : Launch) (Z : State) (a0 : Array Value) (hw : ∀ d ∈ tables_1, d.before a0 Z = true) (ws : List Jvm.Cond) (p1 : Int32) (w : Int32) (h0 : Heap) (n0 : Nat) (Z0 : n0 ≤ h0.size) (R0 : Sta Z h0 "java/lang/String" "COMPACT_STRINGS" "Z" (.int w)) (hw0 : ¬ w = (0 : Int32)) (hn0 : ¬ own_n p1 = (0 : Int32)) (hn1 : ¬ own_n p1 = (1 : Int32)) (hn2 : own_n p1 = (2 : Int32)) :
    OMetS l Z EL0 (⟨"com/example/tidewire/tidewire/protocol/RestParamsSignedTextPinLaw", "draw", "(I)Ljava/lang/String;"⟩ : MethodName) method_2_code 5 (some (.object "java/lang/String")) ws ({ frames := 4, cells := 6, slots := 12, locals := 66 } : Room) #[(.int p1)] h0 (Q1_2 Z p1 w h0 n0) := by
  refine own_enterS pn_1 ?_
  intro p e s m below meth c s₁ hx hby hml0 hown hret hlk hnm hZ X0 e0 hs0 CH0
  have hEL := own_EW hw
  have hS0 : s.Since s.vm 0 := (State.WarmedH.refl s).since 0
  have hk0 : 0 ≤ h0.size := Nat.zero_le _
  have CR0 : CHr Z EL0 s.vm h0 s.vm h0 := CHr.refl CH0
  have hml : c.maxLocals = 5 := hml0
  have B : BX p c method_2_code := ⟨hx, hby⟩
  have N0 := Fr.nil n0
  refine own_castS (ef_1 m p1) ?_
  refine wiloadN OSc 1 X0 B d1_0 rfl rfl ?_
  refine wbipush OSc 3 X0 B d1_1 16 rfl rfl ?_
  refine own_stS (fun t k => XS.iushr X0.here hx rfl (hb hby d1_3) rfl k) ?_
  show OGS _ _ p e _ s below _ s₁ (mkF m 4 #[.val (.int p1), .unset, .unset, .unset, .unset] [(.int ((p1.toUInt32 >>> ((16 : Int32) &&& 31).toUInt32).toInt32))])
  refine wiconst OSc 5 X0 B d1_4 3 rfl rfl ?_
  refine wiand OSc 6 X0 B d1_5 rfl ?_
  refine wistoreN OSc 7 X0 B d1_6 #[.val (.int p1), .val (.int (g1_2_1 p1 w)), .unset, .unset, .unset] rfl rfl ?_
  refine wiloadN OSc 8 X0 B d1_7 rfl rfl ?_
  refine wsipush OSc 11 X0 B d1_8 255 rfl rfl ?_
  refine wiand OSc 12 X0 B d1_11 rfl ?_
  refine own_stS (fun t k => XS.i2c X0.here hx rfl (hb hby d1_12) rfl k) ?_
  show OGS _ _ p e _ s below _ s₁ (mkF m 13 #[.val (.int p1), .val (.int (g1_2_1 p1 w)), .unset, .unset, .unset] [(.int ((p1 &&& (255 : Int32)).toUInt32.toUInt16.toUInt32.toInt32))])
  refine wistoreN OSc 14 X0 B d1_13 #[.val (.int p1), .val (.int (g1_2_1 p1 w)), .val (.int (g1_2_2 p1 w)), .unset, .unset] rfl rfl ?_
  refine wiloadN OSc 15 X0 B d1_14 rfl rfl ?_
  refine wbipush OSc 17 X0 B d1_15 8 rfl rfl ?_
  refine own_stS (fun t k => XS.iushr X0.here hx rfl (hb hby d1_17) rfl k) ?_
  show OGS _ _ p e _ s below _ s₁ (mkF m 18 #[.val (.int p1), .val (.int (g1_2_1 p1 w)), .val (.int (g1_2_2 p1 w)), .unset, .unset] [(.int ((p1.toUInt32 >>> ((8 : Int32) &&& 31).toUInt32).toInt32))])
  refine wsipush OSc 21 X0 B d1_18 255 rfl rfl ?_
  refine wiand OSc 22 X0 B d1_21 rfl ?_
  refine own_stS (fun t k => XS.i2c X0.here hx rfl (hb hby d1_22) rfl k) ?_
  show OGS _ _ p e _ s below _ s₁ (mkF m 23 #[.val (.int p1), .val (.int (g1_2_1 p1 w)), .val (.int (g1_2_2 p1 w)), .unset, .unset] [(.int ((((p1.toUInt32 >>> ((8 : Int32) &&& 31).toUInt32).toInt32) &&& (255 : Int32)).toUInt32.toUInt16.toUInt32.toInt32))])
  refine wistoreN OSc 24 X0 B d1_23 #[.val (.int p1), .val (.int (g1_2_1 p1 w)), .val (.int (g1_2_2 p1 w)), .val (.int (g1_2_3 p1 w)), .unset] rfl rfl ?_
  refine wiloadN OSc 25 X0 B d1_24 rfl rfl ?_
  refine wbipush OSc 27 X0 B d1_25 24 rfl rfl ?_
  refine own_stS (fun t k => XS.iushr X0.here hx rfl (hb hby d1_27) rfl k) ?_
  show OGS _ _ p e _ s below _ s₁ (mkF m 28 #[.val (.int p1), .val (.int (g1_2_1 p1 w)), .val (.int (g1_2_2 p1 w)), .val (.int (g1_2_3 p1 w)), .unset] [(.int ((p1.toUInt32 >>> ((24 : Int32) &&& 31).toUInt32).toInt32))])
  refine wsipush OSc 31 X0 B d1_28 255 rfl rfl ?_
  refine wiand OSc 32 X0 B d1_31 rfl ?_
  refine own_stS (fun t k => XS.i2c X0.here hx rfl (hb hby d1_32) rfl k) ?_
  show OGS _ _ p e _ s below _ s₁ (mkF m 33 #[.val (.int p1), .val (.int (g1_2_1 p1 w)), .val (.int (g1_2_2 p1 w)), .val (.int (g1_2_3 p1 w)), .unset] [(.int ((((p1.toUInt32 >>> ((24 : Int32) &&& 31).toUInt32).toInt32) &&& (255 : Int32)).toUInt32.toUInt16.toUInt32.toInt32))])
  refine wistore OSc 35 X0 B d1_33 #[.val (.int p1), .val (.int (g1_2_1 p1 w)), .val (.int (g1_2_2 p1 w)), .val (.int (g1_2_3 p1 w)), .val (.int (g1_2_4 p1 w))] rfl rfl ?_
  refine wiloadN OSc 36 X0 B d1_35 rfl rfl ?_
  refine wifYes OSc 50 X0 B d1_36 (own_if0 (feq hn0).2) rfl ?_
  refine wiloadN OSc 51 X0 B d1_50 rfl rfl ?_
  refine wiconst OSc 52 X0 B d1_51 1 rfl rfl ?_
  refine wicmpYes OSc 70 X0 B d1_52 (feq hn1).2 rfl ?_
  refine wiloadN OSc 71 X0 B d1_70 rfl rfl ?_
  refine wiconst OSc 72 X0 B d1_71 2 rfl rfl ?_
  refine wicmpNo OSc 75 X0 B d1_72 (teq hn2).2 rfl ?_
  refine wnewO OSc 78 X0 B hZ hown (ow hw 4 rfl) (ow hw 5 rfl) (ow hw 6 rfl) e0 d1_75 (by decide) rfl fun T1 h1 o1 gb1 X1 e1 E1 A1 D1 => ?_
  have ge_o1 : n0 ≤ o1 := by rw [gb1]; exact Nat.le_trans Z0 (Keep.refl h0 []).1
  have sz_o1 : h0.size ≤ o1 := by rw [gb1]; exact (Keep.refl h0 []).1
  have F2 := R0.ext E1
  have K3 := (Keep.refl h0 []).ext E1
  have F4 : Fld Z h1 o1 "java/lang/String" "value" "[B" .null := D1 (Or.inr (ow hw 20 rfl)) (ty := (.array .byte)) (by decide)
  have F5 : Fld Z h1 o1 "java/lang/String" "coder" "B" (.int (0 : Int32)) := D1 (Or.inr (ow hw 21 rfl)) (ty := .byte) (by decide)
  have CR6 := CHr.trans CR0 (CHr.ext E1 CH0)
  have CH6 := CHv.ext E1 CH0
  have hk6 := Nat.le_trans hk0 E1.1
  have sn_o1 := Safe.ext E1 CH0 (Safe.new (Nat.le_of_eq gb1.symm))
  refine wdup OSc 79 X1 B d1_78 rfl rfl ?_
  refine wiconst OSc 80 X1 B d1_79 2 rfl rfl ?_
  refine wnewP OSc 82 X1 B hZ (ow hw 7 rfl) e1 d1_80 2 (by decide) (by decide) rfl fun T7 h7 b7 k7 gb7 X7 e7 E7 A7 => ?_
  have ge_b7 : n0 ≤ b7 := by rw [gb7]; exact Nat.le_trans Z0 K3.1
  have sz_b7 : h0.size ≤ b7 := by rw [gb7]; exact K3.1
  have ne_o1_b7 : o1 ≠ b7 := Nat.ne_of_lt (Nat.lt_of_lt_of_eq A1.lt gb7.symm)
  have F8 := F2.ext E7
  have F9 := A1.ext E7
  have F10 := F4.ext E7
  have F11 := F5.ext E7
  have K12 := K3.ext E7
  have F13 : OA Z h7 b7 .char [(.int (0 : Int32)), (.int (0 : Int32))] := OA.new A7
  have sf14_o1 := Safe.ext E7 CH6 sn_o1
  have CR14 := CHr.trans CR6 (CHr.ext E7 CH6)
  have CH14 := CHv.ext E7 CH6
  have hk14 := Nat.le_trans hk6 E7.1
  refine wdup OSc 83 X7 B d1_82 rfl rfl ?_
  refine wiconst OSc 84 X7 B d1_83 0 rfl rfl ?_
  refine wiloadN OSc 85 X7 B d1_84 rfl rfl ?_
  refine wstC OSc 86 X7 B hZ e7 F13 0 (by decide) (by decide) (by decide : 0 < 2) d1_85 rfl fun T15 h15 X15 e15 W15 => ?_
  have N15 := Fr.snoc X15 N0 ge_b7
  have K16 := K12.wr W15 (Or.inr sz_b7)
  have F17 := F8.wr W15
  have F18 := F9.wr W15
  have F19 := F10.other W15 (Or.inl ne_o1_b7)
  have F20 := F11.other W15 (Or.inl ne_o1_b7)
  have F21 : OA Z h15 b7 .char [(.int (nar .char (g1_2_2 p1 w))), (.int (0 : Int32))] := (F13.set W15 (i := 0) (by decide))
  have sf22_o1 := Safe.wr W15 (own_safeA hZ.alike F13 (by decide)) CH14 sf14_o1
  have CR22 := CHr.trans CR14 (CHr.wr W15 (own_safeA hZ.alike F13 (by decide)) CH14)
  have CH22 := CHv.wr W15 (own_safeA hZ.alike F13 (by decide)) CH14
  have hk22 := Nat.le_trans hk14 (Keep.of_wr W15).1
  refine wdup OSc 87 X15 B d1_86 rfl rfl ?_
  refine wiconst OSc 88 X15 B d1_87 1 rfl rfl ?_
  refine wiloadN OSc 89 X15 B d1_88 rfl rfl ?_
  refine wstC OSc 90 X15 B hZ e15 F21 1 (by decide) (by decide) (by decide : 1 < 2) d1_89 rfl fun T23 h23 X23 e23 W23 => ?_
  have N23 := Fr.snoc X23 N15 ge_b7
  have K24 := K16.wr W23 (Or.inr sz_b7)
  have F25 := F17.wr W23
  have F26 := F18.wr W23
  have F27 := F19.other W23 (Or.inl ne_o1_b7)
  have F28 := F20.other W23 (Or.inl ne_o1_b7)
  have F29 : OA Z h23 b7 .char [(.int (nar .char (g1_2_2 p1 w))), (.int (nar .char (g1_2_3 p1 w)))] := (F21.set W23 (i := 1) (by decide))
  have sf30_o1 := Safe.wr W23 (own_safeA hZ.alike F21 (by decide)) CH22 sf22_o1
  have CR30 := CHr.trans CR22 (CHr.wr W23 (own_safeA hZ.alike F21 (by decide)) CH22)
  have CH30 := CHv.wr W23 (own_safeA hZ.alike F21 (by decide)) CH22
  have hk30 := Nat.le_trans hk22 (Keep.of_wr W23).1
  refine wspec OSc 93 X23 B hZ hown (ow hw 8 rfl) (ow hw 9 rfl) rfl (ow hw 10 rfl) (ow hw 6 rfl) e23 (rm2_2 l Z a0 hw [] o1 b7 (nar .char (g1_2_2 p1 w)) (nar .char (g1_2_3 p1 w)) w h23 n0 (Nat.le_trans Z0 K24.1) F26 F27 F28 F29 F25 ge_o1 (Ne.symm ne_o1_b7) (own_chB (p1)) (own_chB (((p1.toUInt32 >>> ((8 : Int32) &&& 31).toUInt32).toInt32))) hw0) 1 (by decide) (by decide) hml rfl (lenOf pd___C_V rfl) [(.ref o1)] rfl rfl d1_90 rfl fun _ T31 L31 X31 hQ31 => ?_
  obtain ⟨rfl, N31q, K31q, b_31, sz_b_31, P31_0, P31_1, P31_2, P31_3⟩ := hQ31
  have N31 := Fr.app N23 N31q
  have ge_b_31 : n0 ≤ b_31 := Nat.le_trans (Nat.le_trans Z0 K24.1) sz_b_31
  have sy_b_31 : h0.size ≤ b_31 := Nat.le_trans K24.1 sz_b_31
  have ne_b7_b_31 : b7 ≠ b_31 := Nat.ne_of_lt (Nat.lt_of_lt_of_le F29.lt sz_b_31)
  have ne_o1_b_31 : o1 ≠ b_31 := Nat.ne_of_lt (Nat.lt_of_lt_of_le F26.lt sz_b_31)
  have K31 := K24.trans K31q (own_all1 (Or.inr sz_o1))
  have F32 := own_staK F25 K31q (own_all1 (own_plE F26))
  have F33 := F29.keep K31q (own_nin1 (Ne.symm ne_o1_b7))
  refine own_stk (S' := [(.ref o1)]) rfl ?_
  have sf34_o1 := Safe.keep K31q (own_all1 sf30_o1) CH30 sf30_o1
  have CR34 := CHr.trans CR30 (CHr.keep K31q (own_all1 sf30_o1) CH30)
  have CH34 := CHv.keep K31q (own_all1 sf30_o1) CH30
  have hk34 := Nat.le_trans hk30 K31q.1
  refine own_endS X31 hlk hZ hEL rfl hs0 hS0 hk34 CH34 CR34 (v := some (.ref o1)) (fun h => by rw [hret] at h; cases h) (by decide) (by decide) ?_ (fun fs hr => retOut X31 hx hret rfl (Or.inr (Or.inr (Or.inr (Or.inr ⟨rfl, rfl, rfl⟩)))) (hb hby d1_93) hr)
  exact ⟨N31, K31, o1, b_31, sz_o1, rfl, P31_0, P31_1, P31_2, P31_3⟩
theorem d1_94 : decode method_2_code 94 = .ok (.new 7, 3) := by decide +kernel
theorem d1_97 : decode method_2_code 97 = .ok (.dup, 1) := by decide +kernel
theorem d1_98 : decode method_2_code 98 = .ok (.iconst 3, 1) := by decide +kernel
theorem d1_99 : decode method_2_code 99 = .ok (.newarray .char, 2) := by decide +kernel
theorem d1_101 : decode method_2_code 101 = .ok (.dup, 1) := by decide +kernel
theorem d1_102 : decode method_2_code 102 = .ok (.iconst 0, 1) := by decide +kernel
theorem d1_103 : decode method_2_code 103 = .ok (.iload_n 2, 1) := by decide +kernel
theorem d1_104 : decode method_2_code 104 = .ok (.castore, 1) := by decide +kernel
theorem d1_105 : decode method_2_code 105 = .ok (.dup, 1) := by decide +kernel
theorem d1_106 : decode method_2_code 106 = .ok (.iconst 1, 1) := by decide +kernel
theorem d1_107 : decode method_2_code 107 = .ok (.iload_n 3, 1) := by decide +kernel
theorem d1_108 : decode method_2_code 108 = .ok (.castore, 1) := by decide +kernel
theorem d1_109 : decode method_2_code 109 = .ok (.dup, 1) := by decide +kernel
theorem d1_110 : decode method_2_code 110 = .ok (.iconst 2, 1) := by decide +kernel
theorem d1_111 : decode method_2_code 111 = .ok (.iload 4, 2) := by decide +kernel
theorem d1_113 : decode method_2_code 113 = .ok (.castore, 1) := by decide +kernel
theorem d1_114 : decode method_2_code 114 = .ok (.invokespecial 9, 3) := by decide +kernel
theorem d1_117 : decode method_2_code 117 = .ok (.areturn, 1) := by decide +kernel
def g1_3_1 (p1 : Int32) (w : Int32) : Int32 := (((p1.toUInt32 >>> ((16 : Int32) &&& 31).toUInt32).toInt32) &&& (3 : Int32))
def g1_3_2 (p1 : Int32) (w : Int32) : Int32 := ((p1 &&& (255 : Int32)).toUInt32.toUInt16.toUInt32.toInt32)
def g1_3_3 (p1 : Int32) (w : Int32) : Int32 := ((((p1.toUInt32 >>> ((8 : Int32) &&& 31).toUInt32).toInt32) &&& (255 : Int32)).toUInt32.toUInt16.toUInt32.toInt32)
def g1_3_4 (p1 : Int32) (w : Int32) : Int32 := ((((p1.toUInt32 >>> ((24 : Int32) &&& 31).toUInt32).toInt32) &&& (255 : Int32)).toUInt32.toUInt16.toUInt32.toInt32)
abbrev Q1_3 (Z : State) (p1 : Int32) (w : Int32) (h0 : Heap) (n0 : Nat) : Option Value → Heap → List Loc → Prop := (fun v h L => Fr n0 L ∧ Keep h0 h [] ∧ ∃ s : Addr, ∃ b : Addr, h0.size ≤ s ∧ v = some (.ref s) ∧ Exa Z h s "java/lang/String" ∧ Fld Z h s "java/lang/String" "value" "[B" (.ref b) ∧ Fld Z h s "java/lang/String" "coder" "B" (.int (0 : Int32)) ∧ OA Z h b .byte (([((nar .char (g1_3_2 p1 w)).toInt8.toInt32), ((nar .char (g1_3_3 p1 w)).toInt8.toInt32), ((nar .char (g1_3_4 p1 w)).toInt8.toInt32)] : List Int32).map obv))
theorem rm1_3 (l : Launch) (Z : State) (a0 : Array Value) (hw : ∀ d ∈ tables_1, d.before a0 Z = true) (ws : List Jvm.Cond) (p1 : Int32) (w : Int32) (h0 : Heap) (n0 : Nat) (Z0 : n0 ≤ h0.size) (R0 : Sta Z h0 "java/lang/String" "COMPACT_STRINGS" "Z" (.int w)) (hw0 : ¬ w = (0 : Int32)) (hn0 : ¬ own_n p1 = (0 : Int32)) (hn1 : ¬ own_n p1 = (1 : Int32)) (hn2 : ¬ own_n p1 = (2 : Int32)) :
    OMetS l Z EL0 (⟨"com/example/tidewire/tidewire/protocol/RestParamsSignedTextPinLaw", "draw", "(I)Ljava/lang/String;"⟩ : MethodName) method_2_code 5 (some (.object "java/lang/String")) ws ({ frames := 4, cells := 6, slots := 12, locals := 66 } : Room) #[(.int p1)] h0 (Q1_3 Z p1 w h0 n0) := by
  refine own_enterS pn_1 ?_
  intro p e s m below meth c s₁ hx hby hml0 hown hret hlk hnm hZ X0 e0 hs0 CH0
  have hEL := own_EW hw
  have hS0 : s.Since s.vm 0 := (State.WarmedH.refl s).since 0
  have hk0 : 0 ≤ h0.size := Nat.zero_le _
  have CR0 : CHr Z EL0 s.vm h0 s.vm h0 := CHr.refl CH0
  have hml : c.maxLocals = 5 := hml0
  have B : BX p c method_2_code := ⟨hx, hby⟩
  have N0 := Fr.nil n0
  refine own_castS (ef_1 m p1) ?_
  refine wiloadN OSc 1 X0 B d1_0 rfl rfl ?_
  refine wbipush OSc 3 X0 B d1_1 16 rfl rfl ?_
  refine own_stS (fun t k => XS.iushr X0.here hx rfl (hb hby d1_3) rfl k) ?_
  show OGS _ _ p e _ s below _ s₁ (mkF m 4 #[.val (.int p1), .unset, .unset, .unset, .unset] [(.int ((p1.toUInt32 >>> ((16 : Int32) &&& 31).toUInt32).toInt32))])
  refine wiconst OSc 5 X0 B d1_4 3 rfl rfl ?_
  refine wiand OSc 6 X0 B d1_5 rfl ?_
  refine wistoreN OSc 7 X0 B d1_6 #[.val (.int p1), .val (.int (g1_3_1 p1 w)), .unset, .unset, .unset] rfl rfl ?_
  refine wiloadN OSc 8 X0 B d1_7 rfl rfl ?_
  refine wsipush OSc 11 X0 B d1_8 255 rfl rfl ?_
  refine wiand OSc 12 X0 B d1_11 rfl ?_
  refine own_stS (fun t k => XS.i2c X0.here hx rfl (hb hby d1_12) rfl k) ?_
  show OGS _ _ p e _ s below _ s₁ (mkF m 13 #[.val (.int p1), .val (.int (g1_3_1 p1 w)), .unset, .unset, .unset] [(.int ((p1 &&& (255 : Int32)).toUInt32.toUInt16.toUInt32.toInt32))])
  refine wistoreN OSc 14 X0 B d1_13 #[.val (.int p1), .val (.int (g1_3_1 p1 w)), .val (.int (g1_3_2 p1 w)), .unset, .unset] rfl rfl ?_
  refine wiloadN OSc 15 X0 B d1_14 rfl rfl ?_
  refine wbipush OSc 17 X0 B d1_15 8 rfl rfl ?_
  refine own_stS (fun t k => XS.iushr X0.here hx rfl (hb hby d1_17) rfl k) ?_
  show OGS _ _ p e _ s below _ s₁ (mkF m 18 #[.val (.int p1), .val (.int (g1_3_1 p1 w)), .val (.int (g1_3_2 p1 w)), .unset, .unset] [(.int ((p1.toUInt32 >>> ((8 : Int32) &&& 31).toUInt32).toInt32))])
  refine wsipush OSc 21 X0 B d1_18 255 rfl rfl ?_
  refine wiand OSc 22 X0 B d1_21 rfl ?_
  refine own_stS (fun t k => XS.i2c X0.here hx rfl (hb hby d1_22) rfl k) ?_
  show OGS _ _ p e _ s below _ s₁ (mkF m 23 #[.val (.int p1), .val (.int (g1_3_1 p1 w)), .val (.int (g1_3_2 p1 w)), .unset, .unset] [(.int ((((p1.toUInt32 >>> ((8 : Int32) &&& 31).toUInt32).toInt32) &&& (255 : Int32)).toUInt32.toUInt16.toUInt32.toInt32))])
  refine wistoreN OSc 24 X0 B d1_23 #[.val (.int p1), .val (.int (g1_3_1 p1 w)), .val (.int (g1_3_2 p1 w)), .val (.int (g1_3_3 p1 w)), .unset] rfl rfl ?_
  refine wiloadN OSc 25 X0 B d1_24 rfl rfl ?_
  refine wbipush OSc 27 X0 B d1_25 24 rfl rfl ?_
  refine own_stS (fun t k => XS.iushr X0.here hx rfl (hb hby d1_27) rfl k) ?_
  show OGS _ _ p e _ s below _ s₁ (mkF m 28 #[.val (.int p1), .val (.int (g1_3_1 p1 w)), .val (.int (g1_3_2 p1 w)), .val (.int (g1_3_3 p1 w)), .unset] [(.int ((p1.toUInt32 >>> ((24 : Int32) &&& 31).toUInt32).toInt32))])
  refine wsipush OSc 31 X0 B d1_28 255 rfl rfl ?_
  refine wiand OSc 32 X0 B d1_31 rfl ?_
  refine own_stS (fun t k => XS.i2c X0.here hx rfl (hb hby d1_32) rfl k) ?_
  show OGS _ _ p e _ s below _ s₁ (mkF m 33 #[.val (.int p1), .val (.int (g1_3_1 p1 w)), .val (.int (g1_3_2 p1 w)), .val (.int (g1_3_3 p1 w)), .unset] [(.int ((((p1.toUInt32 >>> ((24 : Int32) &&& 31).toUInt32).toInt32) &&& (255 : Int32)).toUInt32.toUInt16.toUInt32.toInt32))])
  refine wistore OSc 35 X0 B d1_33 #[.val (.int p1), .val (.int (g1_3_1 p1 w)), .val (.int (g1_3_2 p1 w)), .val (.int (g1_3_3 p1 w)), .val (.int (g1_3_4 p1 w))] rfl rfl ?_
  refine wiloadN OSc 36 X0 B d1_35 rfl rfl ?_
  refine wifYes OSc 50 X0 B d1_36 (own_if0 (feq hn0).2) rfl ?_
  refine wiloadN OSc 51 X0 B d1_50 rfl rfl ?_
  refine wiconst OSc 52 X0 B d1_51 1 rfl rfl ?_
  refine wicmpYes OSc 70 X0 B d1_52 (feq hn1).2 rfl ?_
  refine wiloadN OSc 71 X0 B d1_70 rfl rfl ?_
  refine wiconst OSc 72 X0 B d1_71 2 rfl rfl ?_
  refine wicmpYes OSc 94 X0 B d1_72 (feq hn2).2 rfl ?_
  refine wnewO OSc 97 X0 B hZ hown (ow hw 4 rfl) (ow hw 5 rfl) (ow hw 6 rfl) e0 d1_94 (by decide) rfl fun T1 h1 o1 gb1 X1 e1 E1 A1 D1 => ?_
  have ge_o1 : n0 ≤ o1 := by rw [gb1]; exact Nat.le_trans Z0 (Keep.refl h0 []).1
  have sz_o1 : h0.size ≤ o1 := by rw [gb1]; exact (Keep.refl h0 []).1
  have F2 := R0.ext E1
  have K3 := (Keep.refl h0 []).ext E1
  have F4 : Fld Z h1 o1 "java/lang/String" "value" "[B" .null := D1 (Or.inr (ow hw 20 rfl)) (ty := (.array .byte)) (by decide)
  have F5 : Fld Z h1 o1 "java/lang/String" "coder" "B" (.int (0 : Int32)) := D1 (Or.inr (ow hw 21 rfl)) (ty := .byte) (by decide)
  have CR6 := CHr.trans CR0 (CHr.ext E1 CH0)
  have CH6 := CHv.ext E1 CH0
  have hk6 := Nat.le_trans hk0 E1.1
  have sn_o1 := Safe.ext E1 CH0 (Safe.new (Nat.le_of_eq gb1.symm))
  refine wdup OSc 98 X1 B d1_97 rfl rfl ?_
  refine wiconst OSc 99 X1 B d1_98 3 rfl rfl ?_
  refine wnewP OSc 101 X1 B hZ (ow hw 7 rfl) e1 d1_99 3 (by decide) (by decide) rfl fun T7 h7 b7 k7 gb7 X7 e7 E7 A7 => ?_
  have ge_b7 : n0 ≤ b7 := by rw [gb7]; exact Nat.le_trans Z0 K3.1
  have sz_b7 : h0.size ≤ b7 := by rw [gb7]; exact K3.1
  have ne_o1_b7 : o1 ≠ b7 := Nat.ne_of_lt (Nat.lt_of_lt_of_eq A1.lt gb7.symm)
  have F8 := F2.ext E7
  have F9 := A1.ext E7
  have F10 := F4.ext E7
  have F11 := F5.ext E7
  have K12 := K3.ext E7
  have F13 : OA Z h7 b7 .char [(.int (0 : Int32)), (.int (0 : Int32)), (.int (0 : Int32))] := OA.new A7
  have sf14_o1 := Safe.ext E7 CH6 sn_o1
  have CR14 := CHr.trans CR6 (CHr.ext E7 CH6)
  have CH14 := CHv.ext E7 CH6
  have hk14 := Nat.le_trans hk6 E7.1
  refine wdup OSc 102 X7 B d1_101 rfl rfl ?_
  refine wiconst OSc 103 X7 B d1_102 0 rfl rfl ?_
  refine wiloadN OSc 104 X7 B d1_103 rfl rfl ?_
  refine wstC OSc 105 X7 B hZ e7 F13 0 (by decide) (by decide) (by decide : 0 < 3) d1_104 rfl fun T15 h15 X15 e15 W15 => ?_
  have N15 := Fr.snoc X15 N0 ge_b7
  have K16 := K12.wr W15 (Or.inr sz_b7)
  have F17 := F8.wr W15
  have F18 := F9.wr W15
  have F19 := F10.other W15 (Or.inl ne_o1_b7)
  have F20 := F11.other W15 (Or.inl ne_o1_b7)
  have F21 : OA Z h15 b7 .char [(.int (nar .char (g1_3_2 p1 w))), (.int (0 : Int32)), (.int (0 : Int32))] := (F13.set W15 (i := 0) (by decide))
  have sf22_o1 := Safe.wr W15 (own_safeA hZ.alike F13 (by decide)) CH14 sf14_o1
  have CR22 := CHr.trans CR14 (CHr.wr W15 (own_safeA hZ.alike F13 (by decide)) CH14)
  have CH22 := CHv.wr W15 (own_safeA hZ.alike F13 (by decide)) CH14
  have hk22 := Nat.le_trans hk14 (Keep.of_wr W15).1
  refine wdup OSc 106 X15 B d1_105 rfl rfl ?_
  refine wiconst OSc 107 X15 B d1_106 1 rfl rfl ?_
  refine wiloadN OSc 108 X15 B d1_107 rfl rfl ?_
  refine wstC OSc 109 X15 B hZ e15 F21 1 (by decide) (by decide) (by decide : 1 < 3) d1_108 rfl fun T23 h23 X23 e23 W23 => ?_
  have N23 := Fr.snoc X23 N15 ge_b7
  have K24 := K16.wr W23 (Or.inr sz_b7)
  have F25 := F17.wr W23
  have F26 := F18.wr W23
  have F27 := F19.other W23 (Or.inl ne_o1_b7)
  have F28 := F20.other W23 (Or.inl ne_o1_b7)
  have F29 : OA Z h23 b7 .char [(.int (nar .char (g1_3_2 p1 w))), (.int (nar .char (g1_3_3 p1 w))), (.int (0 : Int32))] := (F21.set W23 (i := 1) (by decide))
  have sf30_o1 := Safe.wr W23 (own_safeA hZ.alike F21 (by decide)) CH22 sf22_o1
  have CR30 := CHr.trans CR22 (CHr.wr W23 (own_safeA hZ.alike F21 (by decide)) CH22)
  have CH30 := CHv.wr W23 (own_safeA hZ.alike F21 (by decide)) CH22
  have hk30 := Nat.le_trans hk22 (Keep.of_wr W23).1
  refine wdup OSc 110 X23 B d1_109 rfl rfl ?_
  refine wiconst OSc 111 X23 B d1_110 2 rfl rfl ?_
  refine wiload OSc 113 X23 B d1_111 rfl rfl ?_
  refine wstC OSc 114 X23 B hZ e23 F29 2 (by decide) (by decide) (by decide : 2 < 3) d1_113 rfl fun T31 h31 X31 e31 W31 => ?_
  have N31 := Fr.snoc X31 N23 ge_b7
  have K32 := K24.wr W31 (Or.inr sz_b7)
  have F33 := F25.wr W31
  have F34 := F26.wr W31
  have F35 := F27.other W31 (Or.inl ne_o1_b7)
  have F36 := F28.other W31 (Or.inl ne_o1_b7)
  have F37 : OA Z h31 b7 .char [(.int (nar .char (g1_3_2 p1 w))), (.int (nar .char (g1_3_3 p1 w))), (.int (nar .char (g1_3_4 p1 w)))] := (F29.set W31 (i := 2) (by decide))
  have sf38_o1 := Safe.wr W31 (own_safeA hZ.alike F29 (by decide)) CH30 sf30_o1
  have CR38 := CHr.trans CR30 (CHr.wr W31 (own_safeA hZ.alike F29 (by decide)) CH30)
  have CH38 := CHv.wr W31 (own_safeA hZ.alike F29 (by decide)) CH30
  have hk38 := Nat.le_trans hk30 (Keep.of_wr W31).1
  refine wspec OSc 117 X31 B hZ hown (ow hw 8 rfl) (ow hw 9 rfl) rfl (ow hw 10 rfl) (ow hw 6 rfl) e31 (rm2_3 l Z a0 hw [] o1 b7 (nar .char (g1_3_2 p1 w)) (nar .char (g1_3_3 p1 w)) (nar .char (g1_3_4 p1 w)) w h31 n0 (Nat.le_trans Z0 K32.1) F34 F35 F36 F37 F33 ge_o1 (Ne.symm ne_o1_b7) (own_chB (p1)) (own_chB (((p1.toUInt32 >>> ((8 : Int32) &&& 31).toUInt32).toInt32))) (own_chB (((p1.toUInt32 >>> ((24 : Int32) &&& 31).toUInt32).toInt32))) hw0) 1 (by decide) (by decide) hml rfl (lenOf pd___C_V rfl) [(.ref o1)] rfl rfl d1_114 rfl fun _ T39 L39 X39 hQ39 => ?_
  obtain ⟨rfl, N39q, K39q, b_39, sz_b_39, P39_0, P39_1, P39_2, P39_3⟩ := hQ39
  have N39 := Fr.app N31 N39q
  have ge_b_39 : n0 ≤ b_39 := Nat.le_trans (Nat.le_trans Z0 K32.1) sz_b_39
  have sy_b_39 : h0.size ≤ b_39 := Nat.le_trans K32.1 sz_b_39
  have ne_b7_b_39 : b7 ≠ b_39 := Nat.ne_of_lt (Nat.lt_of_lt_of_le F37.lt sz_b_39)
  have ne_o1_b_39 : o1 ≠ b_39 := Nat.ne_of_lt (Nat.lt_of_lt_of_le F34.lt sz_b_39)
  have K39 := K32.trans K39q (own_all1 (Or.inr sz_o1))
  have F40 := own_staK F33 K39q (own_all1 (own_plE F34))
  have F41 := F37.keep K39q (own_nin1 (Ne.symm ne_o1_b7))
  refine own_stk (S' := [(.ref o1)]) rfl ?_
  have sf42_o1 := Safe.keep K39q (own_all1 sf38_o1) CH38 sf38_o1
  have CR42 := CHr.trans CR38 (CHr.keep K39q (own_all1 sf38_o1) CH38)
  have CH42 := CHv.keep K39q (own_all1 sf38_o1) CH38
  have hk42 := Nat.le_trans hk38 K39q.1
  refine own_endS X39 hlk hZ hEL rfl hs0 hS0 hk42 CH42 CR42 (v := some (.ref o1)) (fun h => by rw [hret] at h; cases h) (by decide) (by decide) ?_ (fun fs hr => retOut X39 hx hret rfl (Or.inr (Or.inr (Or.inr (Or.inr ⟨rfl, rfl, rfl⟩)))) (hb hby d1_117) hr)
  exact ⟨N39, K39, o1, b_39, sz_o1, rfl, P39_0, P39_1, P39_2, P39_3⟩
def odl (p1 w : Int32) : List Int32 := if own_n p1 = (0 : Int32) then [] else if own_n p1 = (1 : Int32) then [((nar .char (g1_1_2 p1 w)).toInt8.toInt32)] else if own_n p1 = (2 : Int32) then [((nar .char (g1_2_2 p1 w)).toInt8.toInt32), ((nar .char (g1_2_3 p1 w)).toInt8.toInt32)] else [((nar .char (g1_3_2 p1 w)).toInt8.toInt32), ((nar .char (g1_3_3 p1 w)).toInt8.toInt32), ((nar .char (g1_3_4 p1 w)).toInt8.toInt32)]
theorem own_dl3 (p1 w : Int32) : (odl p1 w).length ≤ 3 := by
  rw [odl]
  split
  · exact (by decide : 0 ≤ 3)
  · split
    · exact (by decide : 1 ≤ 3)
    · split
      · exact (by decide : 2 ≤ 3)
      · exact (by decide : 3 ≤ 3)
abbrev FD (l : Launch) (Z : State) (ws : List Jvm.Cond) (p1 : Int32) (h0 : Heap) (n0 : Nat) (q : List Int32) : Prop := OMetS l Z EL0 (⟨"com/example/tidewire/tidewire/protocol/RestParamsSignedTextPinLaw", "draw", "(I)Ljava/lang/String;"⟩ : MethodName) method_2_code 5 (some (.object "java/lang/String")) ws ({ frames := 4, cells := 6, slots := 12, locals := 66 } : Room) #[.int p1] h0 (fun v h L => Fr n0 L ∧ Keep h0 h [] ∧ ∃ s : Addr, ∃ b : Addr, h0.size ≤ s ∧ v = some (.ref s) ∧ Exa Z h s "java/lang/String" ∧ Fld Z h s "java/lang/String" "value" "[B" (.ref b) ∧ Fld Z h s "java/lang/String" "coder" "B" (.int (0 : Int32)) ∧ OA Z h b .byte (q.map obv))
abbrev Q1 (Z : State) (p1 : Int32) (w : Int32) (h0 : Heap) (n0 : Nat) : Option Value → Heap → List Loc → Prop := (fun v h L => Fr n0 L ∧ Keep h0 h [] ∧ ∃ s : Addr, ∃ b : Addr, h0.size ≤ s ∧ v = some (.ref s) ∧ Exa Z h s "java/lang/String" ∧ Fld Z h s "java/lang/String" "value" "[B" (.ref b) ∧ Fld Z h s "java/lang/String" "coder" "B" (.int (0 : Int32)) ∧ OA Z h b .byte ((odl p1 w).map obv))
theorem rm1 (l : Launch) (Z : State) (a0 : Array Value) (hw : ∀ d ∈ tables_1, d.before a0 Z = true) (ws : List Jvm.Cond) (p1 : Int32) (w : Int32) (h0 : Heap) (n0 : Nat) (Z0 : n0 ≤ h0.size) (R0 : Sta Z h0 "java/lang/String" "COMPACT_STRINGS" "Z" (.int w)) (hw0 : ¬ w = (0 : Int32)) :
    OMetS l Z EL0 (⟨"com/example/tidewire/tidewire/protocol/RestParamsSignedTextPinLaw", "draw", "(I)Ljava/lang/String;"⟩ : MethodName) method_2_code 5 (some (.object "java/lang/String")) ws ({ frames := 4, cells := 6, slots := 12, locals := 66 } : Room) #[(.int p1)] h0 (Q1 Z p1 w h0 n0) := by
  show FD l Z ws p1 h0 n0 (odl p1 w)
  by_cases c0 : own_n p1 = (0 : Int32)
  · exact own_sub (F := FD l Z ws p1 h0 n0) (show odl p1 w = [] from by rw [odl, if_pos c0]) (rm1_0 l Z a0 hw ws p1 w h0 n0 Z0 R0 hw0 c0)
  by_cases c1 : own_n p1 = (1 : Int32)
  · exact own_sub (F := FD l Z ws p1 h0 n0) (show odl p1 w = [((nar .char (g1_1_2 p1 w)).toInt8.toInt32)] from by rw [odl, if_neg c0, if_pos c1]) (rm1_1 l Z a0 hw ws p1 w h0 n0 Z0 R0 hw0 c0 c1)
  by_cases c2 : own_n p1 = (2 : Int32)
  · exact own_sub (F := FD l Z ws p1 h0 n0) (show odl p1 w = [((nar .char (g1_2_2 p1 w)).toInt8.toInt32), ((nar .char (g1_2_3 p1 w)).toInt8.toInt32)] from by rw [odl, if_neg c0, if_neg c1, if_pos c2]) (rm1_2 l Z a0 hw ws p1 w h0 n0 Z0 R0 hw0 c0 c1 c2)
  exact own_sub (F := FD l Z ws p1 h0 n0) (show odl p1 w = [((nar .char (g1_3_2 p1 w)).toInt8.toInt32), ((nar .char (g1_3_3 p1 w)).toInt8.toInt32), ((nar .char (g1_3_4 p1 w)).toInt8.toInt32)] from by rw [odl, if_neg c0, if_neg c1, if_neg c2]) (rm1_3 l Z a0 hw ws p1 w h0 n0 Z0 R0 hw0 c0 c1 c2)
theorem d13_0 : decode jdk_42_method_152_code 0 = .ok (.getstatic 38, 3) := by decide +kernel
theorem d13_3 : decode jdk_42_method_152_code 3 = .ok (.ifCond .eq 10, 3) := by decide +kernel
theorem d13_6 : decode jdk_42_method_152_code 6 = .ok (.aload_n 0, 1) := by decide +kernel
theorem d13_7 : decode jdk_42_method_152_code 7 = .ok (.getfield 15, 3) := by decide +kernel
theorem d13_10 : decode jdk_42_method_152_code 10 = .ok (.goto 4, 3) := by decide +kernel
theorem d13_14 : decode jdk_42_method_152_code 14 = .ok (.ireturn, 1) := by decide +kernel
theorem pn_13 : plainFor (⟨"java/lang/String", "coder", "()B"⟩ : MethodName) = true := by first | exact plainFor_of_name (by first | (simp [plainName, overriddenIn]; done) | decide +kernel) | decide +kernel
theorem ef_13 (m : MethodId) (a1 : Addr) : entryFrame m #[(.ref a1)] 1 = (mkF m 0 #[.val (.ref a1)] []) := by first | (simp [entryFrame, mkF, argsToLocals, Value.category]; done) | rfl
abbrev Q13 (Z : State) (a1 : Addr) (w : Int32) (h0 : Heap)  : Option Value → Heap → List Loc → Prop := (fun v h L => v = some (.int (0 : Int32)) ∧ L = [] ∧ h = h0)
theorem rm13 (l : Launch) (Z : State) (a0 : Array Value) (hw : ∀ d ∈ tables_1, d.before a0 Z = true) (ws : List Jvm.Cond) (a1 : Addr) (w : Int32) (h0 : Heap) (R0 : Fld Z h0 a1 "java/lang/String" "coder" "B" (.int (0 : Int32))) (R1 : Sta Z h0 "java/lang/String" "COMPACT_STRINGS" "Z" (.int w)) (hw0 : ¬ w = (0 : Int32)) :
    OMet l Z (⟨"java/lang/String", "coder", "()B"⟩ : MethodName) jdk_42_method_152_code 1 (some .byte) ws ({ frames := 0, cells := 0, slots := 0, locals := 0 } : Room) #[(.ref a1)] h0 (Q13 Z a1 w h0) := by
  refine own_enter pn_13 ?_
  intro p e s m below meth c s₁ hx hby hml0 hown hret hlk hnm hZ X0 e0
  have hml : c.maxLocals = 1 := hml0
  have B : BX p c jdk_42_method_152_code := ⟨hx, hby⟩
  refine own_cast (ef_13 m a1) ?_
  refine wgetS OGc 3 X0 B hZ hown (ow hw 87 rfl) e0 R1 d13_0 rfl fun T1 X1 e1 => ?_
  refine wifNo OGc 6 X1 B d13_3 (own_if0 (feq hw0).1) rfl ?_
  refine waloadN OGc 7 X1 B d13_6 rfl rfl rfl ?_
  refine wgetF OGc 10 X1 B hZ hown (ow hw 25 rfl) e1 R0 d13_7 rfl fun T2 X2 e2 => ?_
  refine wgoto OGc 14 X2 B d13_10 rfl ?_
  exact own_retZ X2 hx (t := .byte) hret (by simp) hlk (hb hby d13_14) (by decide) (by decide) (w := (nar .byte (0 : Int32))) rfl ⟨rfl, rfl, e2⟩
theorem d12_0 : decode jdk_42_method_54_code 0 = .ok (.aload_n 0, 1) := by decide +kernel
theorem d12_1 : decode jdk_42_method_54_code 1 = .ok (.getfield 9, 3) := by decide +kernel
theorem d12_4 : decode jdk_42_method_54_code 4 = .ok (.arraylength, 1) := by decide +kernel
theorem d12_5 : decode jdk_42_method_54_code 5 = .ok (.aload_n 0, 1) := by decide +kernel
theorem d12_6 : decode jdk_42_method_54_code 6 = .ok (.invokevirtual 335, 3) := by decide +kernel
theorem d12_9 : decode jdk_42_method_54_code 9 = .ok (.ishr, 1) := by decide +kernel
theorem d12_10 : decode jdk_42_method_54_code 10 = .ok (.ireturn, 1) := by decide +kernel
theorem pd___B : parseMethodDescriptor "()B" = some ⟨[], some .byte⟩ := by decide +kernel
theorem pn_12 : plainFor (⟨"java/lang/String", "length", "()I"⟩ : MethodName) = true := by first | exact plainFor_of_name (by first | (simp [plainName, overriddenIn]; done) | decide +kernel) | decide +kernel
theorem ef_12 (m : MethodId) (a1 : Addr) : entryFrame m #[(.ref a1)] 1 = (mkF m 0 #[.val (.ref a1)] []) := by first | (simp [entryFrame, mkF, argsToLocals, Value.category]; done) | rfl
abbrev Q12 (Z : State) (a1 : Addr) (b : Addr) (ls : List Int32) (w : Int32) (h0 : Heap)  : Option Value → Heap → List Loc → Prop := (fun v h L => v = some (.int (olen ls)) ∧ L = [] ∧ h = h0)
theorem rm12 (l : Launch) (Z : State) (a0 : Array Value) (hw : ∀ d ∈ tables_1, d.before a0 Z = true) (ws : List Jvm.Cond) (a1 : Addr) (b : Addr) (ls : List Int32) (w : Int32) (h0 : Heap) (R0 : Exa Z h0 a1 "java/lang/String") (R1 : Fld Z h0 a1 "java/lang/String" "value" "[B" (.ref b)) (R2 : Fld Z h0 a1 "java/lang/String" "coder" "B" (.int (0 : Int32))) (R3 : OA Z h0 b .byte (ls.map obv)) (R4 : Sta Z h0 "java/lang/String" "COMPACT_STRINGS" "Z" (.int w)) (hw0 : ¬ w = (0 : Int32)) :
    OMet l Z (⟨"java/lang/String", "length", "()I"⟩ : MethodName) jdk_42_method_54_code 1 (some .int) ws ({ frames := 1, cells := 0, slots := 0, locals := 13 } : Room) #[(.ref a1)] h0 (Q12 Z a1 b ls w h0) := by
  refine own_enter pn_12 ?_
  intro p e s m below meth c s₁ hx hby hml0 hown hret hlk hnm hZ X0 e0
  have hml : c.maxLocals = 1 := hml0
  have B : BX p c jdk_42_method_54_code := ⟨hx, hby⟩
  refine own_cast (ef_12 m a1) ?_
  refine waloadN OGc 1 X0 B d12_0 rfl rfl rfl ?_
  refine wgetF OGc 4 X0 B hZ hown (ow hw 24 rfl) e0 R1 d12_1 rfl fun T1 X1 e1 => ?_
  refine warlenA OGc 5 X1 B hZ e1 R3 (oln ls) rfl d12_4 rfl ?_
  refine waloadN OGc 6 X1 B d12_5 rfl rfl rfl ?_
  refine wvirt OGc 9 X1 B hZ hown (ow hw 82 rfl) (ow hw 83 rfl) (ow hw 85 rfl) (ow hw 84 rfl) R0 (ow hw 86 rfl) (ow hw 6 rfl) e1 (rm13 l Z a0 hw [] a1 w h0 R2 R4 hw0) 1 (by decide) (by decide) hml rfl (lenOf pd___B rfl) [(.int (oln ls))] rfl rfl d12_6 rfl fun _ T3 L3 X3 hQ3 => ?_
  obtain ⟨rfl, rfl, e3⟩ := hQ3
  refine own_stk (S' := [(.int (0 : Int32)), (.int (oln ls))]) rfl ?_
  refine own_st (fun t k => XS.ishr X3.here hx rfl (hb hby d12_9) rfl k) ?_
  show OG p e _ s below _ T3 (mkF m 10 #[.val (.ref a1)] [(.int ((oln ls) >>> ((0 : Int32) &&& 31)))])
  exact own_retI X3 hx hret hlk (hb hby d12_10) (by decide) (by decide) ⟨rfl, rfl, e3⟩
theorem d36_0 : decode jdk_42_method_154_code 0 = .ok (.getstatic 38, 3) := by decide +kernel
theorem d36_3 : decode jdk_42_method_154_code 3 = .ok (.ifCond .eq 14, 3) := by decide +kernel
theorem d36_6 : decode jdk_42_method_154_code 6 = .ok (.aload_n 0, 1) := by decide +kernel
theorem d36_7 : decode jdk_42_method_154_code 7 = .ok (.getfield 15, 3) := by decide +kernel
theorem d36_10 : decode jdk_42_method_154_code 10 = .ok (.ifCond .ne 7, 3) := by decide +kernel
theorem d36_13 : decode jdk_42_method_154_code 13 = .ok (.iconst 1, 1) := by decide +kernel
theorem d36_14 : decode jdk_42_method_154_code 14 = .ok (.goto 4, 3) := by decide +kernel
theorem d36_18 : decode jdk_42_method_154_code 18 = .ok (.ireturn, 1) := by decide +kernel
theorem pn_36 : plainFor (⟨"java/lang/String", "isLatin1", "()Z"⟩ : MethodName) = true := by first | exact plainFor_of_name (by first | (simp [plainName, overriddenIn]; done) | decide +kernel) | decide +kernel
theorem ef_36 (m : MethodId) (a1 : Addr) : entryFrame m #[(.ref a1)] 1 = (mkF m 0 #[.val (.ref a1)] []) := by first | (simp [entryFrame, mkF, argsToLocals, Value.category]; done) | rfl
abbrev Q36 (Z : State) (a1 : Addr) (w : Int32) (h0 : Heap)  : Option Value → Heap → List Loc → Prop := (fun v h L => v = some (.int (1 : Int32)) ∧ L = [] ∧ h = h0)
theorem rm36 (l : Launch) (Z : State) (a0 : Array Value) (hw : ∀ d ∈ tables_1, d.before a0 Z = true) (ws : List Jvm.Cond) (a1 : Addr) (w : Int32) (h0 : Heap) (R0 : Fld Z h0 a1 "java/lang/String" "coder" "B" (.int (0 : Int32))) (R1 : Sta Z h0 "java/lang/String" "COMPACT_STRINGS" "Z" (.int w)) (hw0 : ¬ w = (0 : Int32)) :
    OMet l Z (⟨"java/lang/String", "isLatin1", "()Z"⟩ : MethodName) jdk_42_method_154_code 1 (some .boolean) ws ({ frames := 0, cells := 0, slots := 0, locals := 0 } : Room) #[(.ref a1)] h0 (Q36 Z a1 w h0) := by
  refine own_enter pn_36 ?_
  intro p e s m below meth c s₁ hx hby hml0 hown hret hlk hnm hZ X0 e0
  have hml : c.maxLocals = 1 := hml0
  have B : BX p c jdk_42_method_154_code := ⟨hx, hby⟩
  refine own_cast (ef_36 m a1) ?_
  refine wgetS OGc 3 X0 B hZ hown (ow hw 87 rfl) e0 R1 d36_0 rfl fun T1 X1 e1 => ?_
  refine wifNo OGc 6 X1 B d36_3 (own_if0 (feq hw0).1) rfl ?_
  refine waloadN OGc 7 X1 B d36_6 rfl rfl rfl ?_
  refine wgetF OGc 10 X1 B hZ hown (ow hw 25 rfl) e1 R0 d36_7 rfl fun T2 X2 e2 => ?_
  refine wifNo OGc 13 X2 B d36_10 (by decide) rfl ?_
  refine wiconst OGc 14 X2 B d36_13 1 rfl rfl ?_
  refine wgoto OGc 18 X2 B d36_14 rfl ?_
  exact own_retZ X2 hx (t := .boolean) hret (by simp) hlk (hb hby d36_18) (by decide) (by decide) (w := (1 : Int32)) rfl ⟨rfl, rfl, e2⟩
theorem d39_0 : decode jdk_41_method_11_code 0 = .ok (.iload_n 0, 1) := by decide +kernel
theorem d39_1 : decode jdk_41_method_11_code 1 = .ok (.ifCond .lt 8, 3) := by decide +kernel
theorem d39_4 : decode jdk_41_method_11_code 4 = .ok (.iload_n 0, 1) := by decide +kernel
theorem d39_5 : decode jdk_41_method_11_code 5 = .ok (.iload_n 1, 1) := by decide +kernel
theorem d39_6 : decode jdk_41_method_11_code 6 = .ok (.if_icmp .lt 10, 3) := by decide +kernel
theorem d39_16 : decode jdk_41_method_11_code 16 = .ok (.iload_n 0, 1) := by decide +kernel
theorem d39_17 : decode jdk_41_method_11_code 17 = .ok (.ireturn, 1) := by decide +kernel
theorem pn_39 : plainFor (⟨"jdk/internal/util/Preconditions", "checkIndex", "(IILjava/util/function/BiFunction;)I"⟩ : MethodName) = true := by first | exact plainFor_of_name (by first | (simp [plainName, overriddenIn]; done) | decide +kernel) | decide +kernel
theorem ef_39_n (m : MethodId) (p1 : Int32) (p2 : Int32) : entryFrame m #[(.int p1), (.int p2), .null] 3 = (mkF m 0 #[.val (.int p1), .val (.int p2), .val .null] []) := by first | (simp [entryFrame, mkF, argsToLocals, Value.category]; done) | rfl
abbrev Q39_n (Z : State) (p1 : Int32) (p2 : Int32) (h0 : Heap)  : Option Value → Heap → List Loc → Prop := (fun v h L => v = some (.int p1) ∧ L = [] ∧ h = h0)
theorem rm39_n (l : Launch) (Z : State) (a0 : Array Value) (hw : ∀ d ∈ tables_1, d.before a0 Z = true) (ws : List Jvm.Cond) (p1 : Int32) (p2 : Int32) (h0 : Heap) (hp0 : ¬ p1 < (0 : Int32)) (h1 : p1 < p2) :
    OMet l Z (⟨"jdk/internal/util/Preconditions", "checkIndex", "(IILjava/util/function/BiFunction;)I"⟩ : MethodName) jdk_41_method_11_code 3 (some .int) ws ({ frames := 0, cells := 0, slots := 0, locals := 0 } : Room) #[(.int p1), (.int p2), .null] h0 (Q39_n Z p1 p2 h0) := by
  refine own_enter pn_39 ?_
  intro p e s m below meth c s₁ hx hby hml0 hown hret hlk hnm hZ X0 e0
  have hml : c.maxLocals = 3 := hml0
  have B : BX p c jdk_41_method_11_code := ⟨hx, hby⟩
  refine own_cast (ef_39_n m p1 p2) ?_
  refine wiloadN OGc 1 X0 B d39_0 rfl rfl ?_
  refine wifNo OGc 4 X0 B d39_1 (own_if0 (flt hp0).1) rfl ?_
  refine wiloadN OGc 5 X0 B d39_4 rfl rfl ?_
  refine wiloadN OGc 6 X0 B d39_5 rfl rfl ?_
  refine wicmpYes OGc 16 X0 B d39_6 (tlt h1).1 rfl ?_
  refine wiloadN OGc 17 X0 B d39_16 rfl rfl ?_
  exact own_retI X0 hx hret hlk (hb hby d39_17) (by decide) (by decide) ⟨rfl, rfl, e0⟩
theorem ef_39 (m : MethodId) (p1 : Int32) (p2 : Int32) (a3 : Addr) : entryFrame m #[(.int p1), (.int p2), (.ref a3)] 3 = (mkF m 0 #[.val (.int p1), .val (.int p2), .val (.ref a3)] []) := by first | (simp [entryFrame, mkF, argsToLocals, Value.category]; done) | rfl
abbrev Q39_r (Z : State) (p1 : Int32) (p2 : Int32) (a3 : Addr) (h0 : Heap)  : Option Value → Heap → List Loc → Prop := (fun v h L => v = some (.int p1) ∧ L = [] ∧ h = h0)
theorem rm39_r (l : Launch) (Z : State) (a0 : Array Value) (hw : ∀ d ∈ tables_1, d.before a0 Z = true) (ws : List Jvm.Cond) (p1 : Int32) (p2 : Int32) (a3 : Addr) (h0 : Heap) (hp0 : ¬ p1 < (0 : Int32)) (h1 : p1 < p2) :
    OMet l Z (⟨"jdk/internal/util/Preconditions", "checkIndex", "(IILjava/util/function/BiFunction;)I"⟩ : MethodName) jdk_41_method_11_code 3 (some .int) ws ({ frames := 0, cells := 0, slots := 0, locals := 0 } : Room) #[(.int p1), (.int p2), (.ref a3)] h0 (Q39_r Z p1 p2 a3 h0) := by
  refine own_enter pn_39 ?_
  intro p e s m below meth c s₁ hx hby hml0 hown hret hlk hnm hZ X0 e0
  have hml : c.maxLocals = 3 := hml0
  have B : BX p c jdk_41_method_11_code := ⟨hx, hby⟩
  refine own_cast (ef_39 m p1 p2 a3) ?_
  refine wiloadN OGc 1 X0 B d39_0 rfl rfl ?_
  refine wifNo OGc 4 X0 B d39_1 (own_if0 (flt hp0).1) rfl ?_
  refine wiloadN OGc 5 X0 B d39_4 rfl rfl ?_
  refine wiloadN OGc 6 X0 B d39_5 rfl rfl ?_
  refine wicmpYes OGc 16 X0 B d39_6 (tlt h1).1 rfl ?_
  refine wiloadN OGc 17 X0 B d39_16 rfl rfl ?_
  exact own_retI X0 hx hret hlk (hb hby d39_17) (by decide) (by decide) ⟨rfl, rfl, e0⟩
theorem d38_0 : decode jdk_42_method_155_code 0 = .ok (.iload_n 0, 1) := by decide +kernel
theorem d38_1 : decode jdk_42_method_155_code 1 = .ok (.iload_n 1, 1) := by decide +kernel
theorem d38_2 : decode jdk_42_method_155_code 2 = .ok (.getstatic 1053, 3) := by decide +kernel
theorem d38_5 : decode jdk_42_method_155_code 5 = .ok (.invokestatic 1059, 3) := by decide +kernel
theorem d38_8 : decode jdk_42_method_155_code 8 = .ok (.pop, 1) := by decide +kernel
theorem d38_9 : decode jdk_42_method_155_code 9 = .ok (.return_, 1) := by decide +kernel
theorem pd__IILjava_util_function_BiFunction__I : parseMethodDescriptor "(IILjava/util/function/BiFunction;)I" = some ⟨[.int, .int, (.object "java/util/function/BiFunction")], some .int⟩ := by decide +kernel
theorem pn_38 : plainFor (⟨"java/lang/String", "checkIndex", "(II)V"⟩ : MethodName) = true := by first | exact plainFor_of_name (by first | (simp [plainName, overriddenIn]; done) | decide +kernel) | decide +kernel
theorem ef_38 (m : MethodId) (p1 : Int32) (p2 : Int32) : entryFrame m #[(.int p1), (.int p2)] 2 = (mkF m 0 #[.val (.int p1), .val (.int p2)] []) := by first | (simp [entryFrame, mkF, argsToLocals, Value.category]; done) | rfl
abbrev Q38_n (Z : State) (p1 : Int32) (p2 : Int32) (h0 : Heap)  : Option Value → Heap → List Loc → Prop := (fun v h L => v = none ∧ L = [] ∧ h = h0)
theorem rm38_n (l : Launch) (Z : State) (a0 : Array Value) (hw : ∀ d ∈ tables_1, d.before a0 Z = true) (ws : List Jvm.Cond) (p1 : Int32) (p2 : Int32) (h0 : Heap) (R0 : Sta Z h0 "jdk/internal/util/Preconditions" "SIOOBE_FORMATTER" "Ljava/util/function/BiFunction;" .null) (hp0 : ¬ p1 < (0 : Int32)) (h1 : p1 < p2) :
    OMet l Z (⟨"java/lang/String", "checkIndex", "(II)V"⟩ : MethodName) jdk_42_method_155_code 2 none ws ({ frames := 1, cells := 0, slots := 0, locals := 14 } : Room) #[(.int p1), (.int p2)] h0 (Q38_n Z p1 p2 h0) := by
  refine own_enter pn_38 ?_
  intro p e s m below meth c s₁ hx hby hml0 hown hret hlk hnm hZ X0 e0
  have hml : c.maxLocals = 2 := hml0
  have B : BX p c jdk_42_method_155_code := ⟨hx, hby⟩
  refine own_cast (ef_38 m p1 p2) ?_
  refine wiloadN OGc 1 X0 B d38_0 rfl rfl ?_
  refine wiloadN OGc 2 X0 B d38_1 rfl rfl ?_
  refine wgetS OGc 5 X0 B hZ hown (ow hw 197 rfl) e0 R0 d38_2 rfl fun T1 X1 e1 => ?_
  refine wstat OGc 8 X1 B hZ hown (ow hw 199 rfl) (ow hw 200 rfl) (ow hw 201 rfl) (ow hw 198 rfl) e1 (rm39_n l Z a0 hw [] p1 p2 h0 hp0 h1) 0 (by decide) (by decide) hml rfl (lenOf pd__IILjava_util_function_BiFunction__I rfl) [] rfl rfl d38_5 rfl fun _ T2 L2 X2 hQ2 => ?_
  obtain ⟨rfl, rfl, e2⟩ := hQ2
  refine own_stk (S' := [(.int p1)]) rfl ?_
  refine wpop OGc 9 X2 B d38_8 rfl rfl ?_
  exact own_ret0 X2 hx hret hlk (hb hby d38_9) (by decide) (by decide) ⟨rfl, rfl, e2⟩
abbrev Q38_r (Z : State) (p1 : Int32) (p2 : Int32) (bf : Addr) (h0 : Heap)  : Option Value → Heap → List Loc → Prop := (fun v h L => v = none ∧ L = [] ∧ h = h0)
theorem rm38_r (l : Launch) (Z : State) (a0 : Array Value) (hw : ∀ d ∈ tables_1, d.before a0 Z = true) (ws : List Jvm.Cond) (p1 : Int32) (p2 : Int32) (bf : Addr) (h0 : Heap) (R0 : Sta Z h0 "jdk/internal/util/Preconditions" "SIOOBE_FORMATTER" "Ljava/util/function/BiFunction;" (.ref bf)) (hp0 : ¬ p1 < (0 : Int32)) (h1 : p1 < p2) :
    OMet l Z (⟨"java/lang/String", "checkIndex", "(II)V"⟩ : MethodName) jdk_42_method_155_code 2 none ws ({ frames := 1, cells := 0, slots := 0, locals := 14 } : Room) #[(.int p1), (.int p2)] h0 (Q38_r Z p1 p2 bf h0) := by
  refine own_enter pn_38 ?_
  intro p e s m below meth c s₁ hx hby hml0 hown hret hlk hnm hZ X0 e0
  have hml : c.maxLocals = 2 := hml0
  have B : BX p c jdk_42_method_155_code := ⟨hx, hby⟩
  refine own_cast (ef_38 m p1 p2) ?_
  refine wiloadN OGc 1 X0 B d38_0 rfl rfl ?_
  refine wiloadN OGc 2 X0 B d38_1 rfl rfl ?_
  refine wgetS OGc 5 X0 B hZ hown (ow hw 197 rfl) e0 R0 d38_2 rfl fun T1 X1 e1 => ?_
  refine wstat OGc 8 X1 B hZ hown (ow hw 199 rfl) (ow hw 200 rfl) (ow hw 201 rfl) (ow hw 198 rfl) e1 (rm39_r l Z a0 hw [] p1 p2 bf h0 hp0 h1) 0 (by decide) (by decide) hml rfl (lenOf pd__IILjava_util_function_BiFunction__I rfl) [] rfl rfl d38_5 rfl fun _ T2 L2 X2 hQ2 => ?_
  obtain ⟨rfl, rfl, e2⟩ := hQ2
  refine own_stk (S' := [(.int p1)]) rfl ?_
  refine wpop OGc 9 X2 B d38_8 rfl rfl ?_
  exact own_ret0 X2 hx hret hlk (hb hby d38_9) (by decide) (by decide) ⟨rfl, rfl, e2⟩
abbrev Q38 (Z : State) (p1 : Int32) (p2 : Int32) (bv : Value) (h0 : Heap)  : Option Value → Heap → List Loc → Prop := (fun v h L => v = none ∧ L = [] ∧ h = h0)
theorem rm38 (l : Launch) (Z : State) (a0 : Array Value) (hw : ∀ d ∈ tables_1, d.before a0 Z = true) (ws : List Jvm.Cond) (p1 : Int32) (p2 : Int32) (bv : Value) (h0 : Heap) (R0 : Sta Z h0 "jdk/internal/util/Preconditions" "SIOOBE_FORMATTER" "Ljava/util/function/BiFunction;" bv) (hbv : bv.isRef = true) (hp0 : ¬ p1 < (0 : Int32)) (h1 : p1 < p2) :
    OMet l Z (⟨"java/lang/String", "checkIndex", "(II)V"⟩ : MethodName) jdk_42_method_155_code 2 none ws ({ frames := 1, cells := 0, slots := 0, locals := 14 } : Room) #[(.int p1), (.int p2)] h0 (Q38 Z p1 p2 bv h0) := by
  rcases own_refv hbv with rfl | ⟨bf, rfl⟩
  · exact rm38_n l Z a0 hw ws p1 p2 h0 R0 hp0 h1
  · exact rm38_r l Z a0 hw ws p1 p2 bf h0 R0 hp0 h1
theorem d37_0 : decode jdk_43_method_2_code 0 = .ok (.iload_n 1, 1) := by decide +kernel
theorem d37_1 : decode jdk_43_method_2_code 1 = .ok (.aload_n 0, 1) := by decide +kernel
theorem d37_2 : decode jdk_43_method_2_code 2 = .ok (.arraylength, 1) := by decide +kernel
theorem d37_3 : decode jdk_43_method_2_code 3 = .ok (.invokestatic 9, 3) := by decide +kernel
theorem d37_6 : decode jdk_43_method_2_code 6 = .ok (.aload_n 0, 1) := by decide +kernel
theorem d37_7 : decode jdk_43_method_2_code 7 = .ok (.iload_n 1, 1) := by decide +kernel
theorem d37_8 : decode jdk_43_method_2_code 8 = .ok (.baload, 1) := by decide +kernel
theorem d37_9 : decode jdk_43_method_2_code 9 = .ok (.sipush 255, 3) := by decide +kernel
theorem d37_12 : decode jdk_43_method_2_code 12 = .ok (.iand, 1) := by decide +kernel
theorem d37_13 : decode jdk_43_method_2_code 13 = .ok (.i2c, 1) := by decide +kernel
theorem d37_14 : decode jdk_43_method_2_code 14 = .ok (.ireturn, 1) := by decide +kernel
theorem pd__II_V : parseMethodDescriptor "(II)V" = some ⟨[.int, .int], none⟩ := by decide +kernel
theorem pn_37 : plainFor (⟨"java/lang/StringLatin1", "charAt", "([BI)C"⟩ : MethodName) = true := by first | exact plainFor_of_name (by first | (simp [plainName, overriddenIn]; done) | decide +kernel) | decide +kernel
theorem ef_37 (m : MethodId) (a1 : Addr) (p2 : Int32) : entryFrame m #[(.ref a1), (.int p2)] 2 = (mkF m 0 #[.val (.ref a1), .val (.int p2)] []) := by first | (simp [entryFrame, mkF, argsToLocals, Value.category]; done) | rfl
abbrev Q37 (Z : State) (a1 : Addr) (p2 : Int32) (ls : List Int32) (bv : Value) (h0 : Heap)  : Option Value → Heap → List Loc → Prop := (fun v h L => v = some (.int (ogl ls p2)) ∧ L = [] ∧ h = h0)
theorem rm37 (l : Launch) (Z : State) (a0 : Array Value) (hw : ∀ d ∈ tables_1, d.before a0 Z = true) (ws : List Jvm.Cond) (a1 : Addr) (p2 : Int32) (ls : List Int32) (bv : Value) (h0 : Heap) (R0 : OA Z h0 a1 .byte (ls.map obv)) (R1 : Sta Z h0 "jdk/internal/util/Preconditions" "SIOOBE_FORMATTER" "Ljava/util/function/BiFunction;" bv) (hbv : bv.isRef = true) (hp0 : ¬ p2 < (0 : Int32)) (h1 : p2 < (oln ls)) (hl : ls.length ≤ 6) :
    OMet l Z (⟨"java/lang/StringLatin1", "charAt", "([BI)C"⟩ : MethodName) jdk_43_method_2_code 2 (some .char) ws ({ frames := 2, cells := 0, slots := 0, locals := 27 } : Room) #[(.ref a1), (.int p2)] h0 (Q37 Z a1 p2 ls bv h0) := by
  refine own_enter pn_37 ?_
  intro p e s m below meth c s₁ hx hby hml0 hown hret hlk hnm hZ X0 e0
  have hml : c.maxLocals = 2 := hml0
  have B : BX p c jdk_43_method_2_code := ⟨hx, hby⟩
  refine own_cast (ef_37 m a1 p2) ?_
  refine wiloadN OGc 1 X0 B d37_0 rfl rfl ?_
  refine waloadN OGc 2 X0 B d37_1 rfl rfl rfl ?_
  refine warlenA OGc 3 X0 B hZ e0 R0 (oln ls) rfl d37_2 rfl ?_
  refine wstat OGc 6 X0 B hZ hown (ow hw 194 rfl) (ow hw 195 rfl) (ow hw 196 rfl) (ow hw 6 rfl) e0 (rm38 l Z a0 hw [] p2 (oln ls) bv h0 R1 hbv hp0 h1) 0 (by decide) (by decide) hml rfl (lenOf pd__II_V rfl) [] rfl rfl d37_3 rfl fun _ T2 L2 X2 hQ2 => ?_
  obtain ⟨rfl, rfl, e2⟩ := hQ2
  refine own_stk (S' := []) rfl ?_
  refine waloadN OGc 7 X2 B d37_6 rfl rfl rfl ?_
  refine wiloadN OGc 8 X2 B d37_7 rfl rfl ?_
  refine wbaload OGc 9 X2 B hZ e2 R0 (v := (.int (nar .byte (ls.getD p2.toNatClampNeg 0)))) p2.toNatClampNeg rfl hp0 (own_gd hp0 h1 hl) d37_8 rfl ?_
  refine wsipush OGc 12 X2 B d37_9 255 rfl rfl ?_
  refine wiand OGc 13 X2 B d37_12 rfl ?_
  refine own_st (fun t k => XS.i2c X2.here hx rfl (hb hby d37_13) rfl k) ?_
  show OG p e _ s below _ T2 (mkF m 14 #[.val (.ref a1), .val (.int p2)] [(.int (((nar .byte (ls.getD p2.toNatClampNeg 0)) &&& (255 : Int32)).toUInt32.toUInt16.toUInt32.toInt32))])
  exact own_retZ X2 hx (t := .char) hret (by simp) hlk (hb hby d37_14) (by decide) (by decide) (w := (nar .char (((nar .byte (ls.getD p2.toNatClampNeg 0)) &&& (255 : Int32)).toUInt32.toUInt16.toUInt32.toInt32))) rfl ⟨rfl, rfl, e2⟩
theorem d35_0 : decode jdk_42_method_56_code 0 = .ok (.aload_n 0, 1) := by decide +kernel
theorem d35_1 : decode jdk_42_method_56_code 1 = .ok (.invokevirtual 492, 3) := by decide +kernel
theorem d35_4 : decode jdk_42_method_56_code 4 = .ok (.ifCond .eq 12, 3) := by decide +kernel
theorem d35_7 : decode jdk_42_method_56_code 7 = .ok (.aload_n 0, 1) := by decide +kernel
theorem d35_8 : decode jdk_42_method_56_code 8 = .ok (.getfield 9, 3) := by decide +kernel
theorem d35_11 : decode jdk_42_method_56_code 11 = .ok (.iload_n 1, 1) := by decide +kernel
theorem d35_12 : decode jdk_42_method_56_code 12 = .ok (.invokestatic 495, 3) := by decide +kernel
theorem d35_15 : decode jdk_42_method_56_code 15 = .ok (.ireturn, 1) := by decide +kernel
theorem pd___Z : parseMethodDescriptor "()Z" = some ⟨[], some .boolean⟩ := by decide +kernel
theorem pd___BI_C : parseMethodDescriptor "([BI)C" = some ⟨[(.array .byte), .int], some .char⟩ := by decide +kernel
theorem pn_35 : plainFor (⟨"java/lang/String", "charAt", "(I)C"⟩ : MethodName) = true := by first | exact plainFor_of_name (by first | (simp [plainName, overriddenIn]; done) | decide +kernel) | decide +kernel
theorem ef_35 (m : MethodId) (a1 : Addr) (p2 : Int32) : entryFrame m #[(.ref a1), (.int p2)] 2 = (mkF m 0 #[.val (.ref a1), .val (.int p2)] []) := by first | (simp [entryFrame, mkF, argsToLocals, Value.category]; done) | rfl
abbrev Q35 (Z : State) (a1 : Addr) (p2 : Int32) (b : Addr) (ls : List Int32) (w : Int32) (bv : Value) (h0 : Heap)  : Option Value → Heap → List Loc → Prop := (fun v h L => v = some (.int (ogc ls p2)) ∧ L = [] ∧ h = h0)
theorem rm35 (l : Launch) (Z : State) (a0 : Array Value) (hw : ∀ d ∈ tables_1, d.before a0 Z = true) (ws : List Jvm.Cond) (a1 : Addr) (p2 : Int32) (b : Addr) (ls : List Int32) (w : Int32) (bv : Value) (h0 : Heap) (R0 : Exa Z h0 a1 "java/lang/String") (R1 : Fld Z h0 a1 "java/lang/String" "value" "[B" (.ref b)) (R2 : Fld Z h0 a1 "java/lang/String" "coder" "B" (.int (0 : Int32))) (R3 : OA Z h0 b .byte (ls.map obv)) (R4 : Sta Z h0 "java/lang/String" "COMPACT_STRINGS" "Z" (.int w)) (R5 : Sta Z h0 "jdk/internal/util/Preconditions" "SIOOBE_FORMATTER" "Ljava/util/function/BiFunction;" bv) (hw0 : ¬ w = (0 : Int32)) (hbv : bv.isRef = true) (hp0 : ¬ p2 < (0 : Int32)) (h1 : p2 < (olen ls)) (hl : ls.length ≤ 6) :
    OMet l Z (⟨"java/lang/String", "charAt", "(I)C"⟩ : MethodName) jdk_42_method_56_code 2 (some .char) ws ({ frames := 3, cells := 0, slots := 0, locals := 40 } : Room) #[(.ref a1), (.int p2)] h0 (Q35 Z a1 p2 b ls w bv h0) := by
  refine own_enter pn_35 ?_
  intro p e s m below meth c s₁ hx hby hml0 hown hret hlk hnm hZ X0 e0
  have hml : c.maxLocals = 2 := hml0
  have B : BX p c jdk_42_method_56_code := ⟨hx, hby⟩
  refine own_cast (ef_35 m a1 p2) ?_
  refine waloadN OGc 1 X0 B d35_0 rfl rfl rfl ?_
  refine wvirt OGc 4 X0 B hZ hown (ow hw 185 rfl) (ow hw 186 rfl) (ow hw 188 rfl) (ow hw 187 rfl) R0 (ow hw 189 rfl) (ow hw 6 rfl) e0 (rm36 l Z a0 hw [] a1 w h0 R2 R4 hw0) 0 (by decide) (by decide) hml rfl (lenOf pd___Z rfl) [] rfl rfl d35_1 rfl fun _ T1 L1 X1 hQ1 => ?_
  obtain ⟨rfl, rfl, e1⟩ := hQ1
  refine own_stk (S' := [(.int (1 : Int32))]) rfl ?_
  refine wifNo OGc 7 X1 B d35_4 (by decide) rfl ?_
  refine waloadN OGc 8 X1 B d35_7 rfl rfl rfl ?_
  refine wgetF OGc 11 X1 B hZ hown (ow hw 24 rfl) e1 R1 d35_8 rfl fun T2 X2 e2 => ?_
  refine wiloadN OGc 12 X2 B d35_11 rfl rfl ?_
  refine wstat OGc 15 X2 B hZ hown (ow hw 190 rfl) (ow hw 191 rfl) (ow hw 193 rfl) (ow hw 192 rfl) e2 (rm37 l Z a0 hw [] b p2 ls bv h0 R3 R5 hbv hp0 (own_ol h1) hl) 0 (by decide) (by decide) hml rfl (lenOf pd___BI_C rfl) [] rfl rfl d35_12 rfl fun _ T3 L3 X3 hQ3 => ?_
  obtain ⟨rfl, rfl, e3⟩ := hQ3
  refine own_stk (S' := [(.int (ogl ls p2))]) rfl ?_
  exact own_retZ X3 hx (t := .char) hret (by simp) hlk (hb hby d35_15) (by decide) (by decide) (w := (nar .char (ogl ls p2))) rfl ⟨rfl, rfl, e3⟩
theorem d30_0 : decode method_4_code 0 = .ok (.iload_n 1, 1) := by decide +kernel
theorem d30_1 : decode method_4_code 1 = .ok (.aload_n 0, 1) := by decide +kernel
theorem d30_2 : decode method_4_code 2 = .ok (.invokevirtual 12, 3) := by decide +kernel
theorem d30_5 : decode method_4_code 5 = .ok (.if_icmp .ge 9, 3) := by decide +kernel
theorem d30_8 : decode method_4_code 8 = .ok (.aload_n 0, 1) := by decide +kernel
theorem d30_9 : decode method_4_code 9 = .ok (.iload_n 1, 1) := by decide +kernel
theorem d30_10 : decode method_4_code 10 = .ok (.invokevirtual 16, 3) := by decide +kernel
theorem d30_13 : decode method_4_code 13 = .ok (.ireturn, 1) := by decide +kernel
theorem d30_14 : decode method_4_code 14 = .ok (.iconst (-1), 1) := by decide +kernel
theorem d30_15 : decode method_4_code 15 = .ok (.ireturn, 1) := by decide +kernel
theorem pd___I : parseMethodDescriptor "()I" = some ⟨[], some .int⟩ := by decide +kernel
theorem pd__I_C : parseMethodDescriptor "(I)C" = some ⟨[.int], some .char⟩ := by decide +kernel
theorem pn_30 : plainFor (⟨"com/example/tidewire/tidewire/protocol/RestParamsSignedTextPinLaw", "actualAt", "(Ljava/lang/String;I)I"⟩ : MethodName) = true := by first | exact plainFor_of_name (by first | (simp [plainName, overriddenIn]; done) | decide +kernel) | decide +kernel
def f30 (p2 : Int32) (ls : List Int32) (w : Int32) : Int32 := (if p2 < (olen ls) then (ogc ls p2) else (-1 : Int32))
theorem ef_30 (m : MethodId) (a1 : Addr) (p2 : Int32) : entryFrame m #[(.ref a1), (.int p2)] 2 = (mkF m 0 #[.val (.ref a1), .val (.int p2)] []) := by first | (simp [entryFrame, mkF, argsToLocals, Value.category]; done) | rfl
abbrev Q30 (Z : State) (a1 : Addr) (p2 : Int32) (b : Addr) (ls : List Int32) (w : Int32) (bv : Value) (h0 : Heap)  : Option Value → Heap → List Loc → Prop := (fun v h L => v = some (.int (f30 p2 ls w)) ∧ L = [] ∧ h = h0)
theorem rm30 (l : Launch) (Z : State) (a0 : Array Value) (hw : ∀ d ∈ tables_1, d.before a0 Z = true) (ws : List Jvm.Cond) (a1 : Addr) (p2 : Int32) (b : Addr) (ls : List Int32) (w : Int32) (bv : Value) (h0 : Heap) (R0 : Exa Z h0 a1 "java/lang/String") (R1 : Fld Z h0 a1 "java/lang/String" "value" "[B" (.ref b)) (R2 : Fld Z h0 a1 "java/lang/String" "coder" "B" (.int (0 : Int32))) (R3 : OA Z h0 b .byte (ls.map obv)) (R4 : Sta Z h0 "java/lang/String" "COMPACT_STRINGS" "Z" (.int w)) (R5 : Sta Z h0 "jdk/internal/util/Preconditions" "SIOOBE_FORMATTER" "Ljava/util/function/BiFunction;" bv) (hw0 : ¬ w = (0 : Int32)) (hbv : bv.isRef = true) (hp0 : ¬ p2 < (0 : Int32)) (hl : ls.length ≤ 6) :
    OMet l Z (⟨"com/example/tidewire/tidewire/protocol/RestParamsSignedTextPinLaw", "actualAt", "(Ljava/lang/String;I)I"⟩ : MethodName) method_4_code 2 (some .int) ws ({ frames := 4, cells := 0, slots := 0, locals := 53 } : Room) #[(.ref a1), (.int p2)] h0 (Q30 Z a1 p2 b ls w bv h0) := by
  refine own_enter pn_30 ?_
  intro p e s m below meth c s₁ hx hby hml0 hown hret hlk hnm hZ X0 e0
  have hml : c.maxLocals = 2 := hml0
  have B : BX p c method_4_code := ⟨hx, hby⟩
  refine own_cast (ef_30 m a1 p2) ?_
  refine wiloadN OGc 1 X0 B d30_0 rfl rfl ?_
  refine waloadN OGc 2 X0 B d30_1 rfl rfl rfl ?_
  refine wvirt OGc 5 X0 B hZ hown (ow hw 160 rfl) (ow hw 78 rfl) (ow hw 80 rfl) (ow hw 79 rfl) R0 (ow hw 81 rfl) (ow hw 6 rfl) e0 (rm12 l Z a0 hw [] a1 b ls w h0 R0 R1 R2 R3 R4 hw0) 1 (by decide) (by decide) hml rfl (lenOf pd___I rfl) [(.int p2)] rfl rfl d30_2 rfl fun _ T1 L1 X1 hQ1 => ?_
  obtain ⟨rfl, rfl, e1⟩ := hQ1
  refine own_stk (S' := [(.int (olen ls)), (.int p2)]) rfl ?_
  by_cases c2 : p2 < (olen ls)
  · refine wicmpNo OGc 8 X1 B d30_5 (tlt c2).2.1 rfl ?_
    refine waloadN OGc 9 X1 B d30_8 rfl rfl rfl ?_
    refine wiloadN OGc 10 X1 B d30_9 rfl rfl ?_
    refine wvirt OGc 13 X1 B hZ hown (ow hw 180 rfl) (ow hw 181 rfl) (ow hw 183 rfl) (ow hw 182 rfl) R0 (ow hw 184 rfl) (ow hw 6 rfl) e1 (rm35 l Z a0 hw [] a1 p2 b ls w bv h0 R0 R1 R2 R3 R4 R5 hw0 hbv hp0 c2 hl) 0 (by decide) (by decide) hml rfl (lenOf pd__I_C rfl) [] rfl rfl d30_10 rfl fun _ T3 L3 X3 hQ3 => ?_
    obtain ⟨rfl, rfl, e3⟩ := hQ3
    refine own_stk (S' := [(.int (ogc ls p2))]) rfl ?_
    exact own_retI X3 hx hret hlk (hb hby d30_13) (by decide) (by decide) ⟨congrArg (fun z => some (Value.int z)) (show f30 p2 ls w = (ogc ls p2) from (by rw [f30, if_pos c2])).symm, rfl, e3⟩
  · refine wicmpYes OGc 14 X1 B d30_5 (flt c2).2.1 rfl ?_
    refine wiconst OGc 15 X1 B d30_14 (-1 : Int32) rfl rfl ?_
    exact own_retI X1 hx hret hlk (hb hby d30_15) (by decide) (by decide) ⟨congrArg (fun z => some (Value.int z)) (show f30 p2 ls w = (-1 : Int32) from (by rw [f30, if_neg c2])).symm, rfl, e1⟩
theorem d31_0 : decode method_3_code 0 = .ok (.iload_n 2, 1) := by decide +kernel
theorem d31_1 : decode method_3_code 1 = .ok (.aload_n 0, 1) := by decide +kernel
theorem d31_2 : decode method_3_code 2 = .ok (.invokevirtual 12, 3) := by decide +kernel
theorem d31_5 : decode method_3_code 5 = .ok (.if_icmp .ge 9, 3) := by decide +kernel
theorem d31_8 : decode method_3_code 8 = .ok (.aload_n 0, 1) := by decide +kernel
theorem d31_9 : decode method_3_code 9 = .ok (.iload_n 2, 1) := by decide +kernel
theorem d31_10 : decode method_3_code 10 = .ok (.invokevirtual 16, 3) := by decide +kernel
theorem d31_13 : decode method_3_code 13 = .ok (.ireturn, 1) := by decide +kernel
theorem d31_14 : decode method_3_code 14 = .ok (.iload_n 2, 1) := by decide +kernel
theorem d31_15 : decode method_3_code 15 = .ok (.aload_n 0, 1) := by decide +kernel
theorem d31_16 : decode method_3_code 16 = .ok (.invokevirtual 12, 3) := by decide +kernel
theorem d31_19 : decode method_3_code 19 = .ok (.isub, 1) := by decide +kernel
theorem d31_20 : decode method_3_code 20 = .ok (.istore_n 3, 1) := by decide +kernel
theorem d31_21 : decode method_3_code 21 = .ok (.iload_n 3, 1) := by decide +kernel
theorem d31_22 : decode method_3_code 22 = .ok (.aload_n 1, 1) := by decide +kernel
theorem d31_23 : decode method_3_code 23 = .ok (.invokevirtual 12, 3) := by decide +kernel
theorem d31_26 : decode method_3_code 26 = .ok (.if_icmp .ge 9, 3) := by decide +kernel
theorem d31_29 : decode method_3_code 29 = .ok (.aload_n 1, 1) := by decide +kernel
theorem d31_30 : decode method_3_code 30 = .ok (.iload_n 3, 1) := by decide +kernel
theorem d31_31 : decode method_3_code 31 = .ok (.invokevirtual 16, 3) := by decide +kernel
theorem d31_34 : decode method_3_code 34 = .ok (.ireturn, 1) := by decide +kernel
theorem d31_35 : decode method_3_code 35 = .ok (.iconst (-1), 1) := by decide +kernel
theorem d31_36 : decode method_3_code 36 = .ok (.ireturn, 1) := by decide +kernel
theorem pn_31 : plainFor (⟨"com/example/tidewire/tidewire/protocol/RestParamsSignedTextPinLaw", "expectedAt", "(Ljava/lang/String;Ljava/lang/String;I)I"⟩ : MethodName) = true := by first | exact plainFor_of_name (by first | (simp [plainName, overriddenIn]; done) | decide +kernel) | decide +kernel
def f31 (p3 : Int32) (lb : List Int32) (lc : List Int32) (w : Int32) : Int32 := (if p3 < (olen lb) then (ogc lb p3) else (if (p3 - (olen lb)) < (olen lc) then (ogc lc (p3 - (olen lb))) else (-1 : Int32)))
theorem ef_31 (m : MethodId) (a1 : Addr) (a2 : Addr) (p3 : Int32) : entryFrame m #[(.ref a1), (.ref a2), (.int p3)] 4 = (mkF m 0 #[.val (.ref a1), .val (.ref a2), .val (.int p3), .unset] []) := by first | (simp [entryFrame, mkF, argsToLocals, Value.category]; done) | rfl
abbrev Q31 (Z : State) (a1 : Addr) (a2 : Addr) (p3 : Int32) (b1 : Addr) (b2 : Addr) (lb : List Int32) (lc : List Int32) (w : Int32) (bv : Value) (h0 : Heap)  : Option Value → Heap → List Loc → Prop := (fun v h L => v = some (.int (f31 p3 lb lc w)) ∧ L = [] ∧ h = h0)
theorem rm31 (l : Launch) (Z : State) (a0 : Array Value) (hw : ∀ d ∈ tables_1, d.before a0 Z = true) (ws : List Jvm.Cond) (a1 : Addr) (a2 : Addr) (p3 : Int32) (b1 : Addr) (b2 : Addr) (lb : List Int32) (lc : List Int32) (w : Int32) (bv : Value) (h0 : Heap) (R0 : Exa Z h0 a1 "java/lang/String") (R1 : Fld Z h0 a1 "java/lang/String" "value" "[B" (.ref b1)) (R2 : Fld Z h0 a1 "java/lang/String" "coder" "B" (.int (0 : Int32))) (R3 : OA Z h0 b1 .byte (lb.map obv)) (R4 : Exa Z h0 a2 "java/lang/String") (R5 : Fld Z h0 a2 "java/lang/String" "value" "[B" (.ref b2)) (R6 : Fld Z h0 a2 "java/lang/String" "coder" "B" (.int (0 : Int32))) (R7 : OA Z h0 b2 .byte (lc.map obv)) (R8 : Sta Z h0 "java/lang/String" "COMPACT_STRINGS" "Z" (.int w)) (R9 : Sta Z h0 "jdk/internal/util/Preconditions" "SIOOBE_FORMATTER" "Ljava/util/function/BiFunction;" bv) (hw0 : ¬ w = (0 : Int32)) (hbv : bv.isRef = true) (hp0 : ¬ p3 < (0 : Int32)) (hl1 : lb.length ≤ 6) (hl2 : lc.length ≤ 6) :
    OMet l Z (⟨"com/example/tidewire/tidewire/protocol/RestParamsSignedTextPinLaw", "expectedAt", "(Ljava/lang/String;Ljava/lang/String;I)I"⟩ : MethodName) method_3_code 4 (some .int) ws ({ frames := 4, cells := 0, slots := 0, locals := 53 } : Room) #[(.ref a1), (.ref a2), (.int p3)] h0 (Q31 Z a1 a2 p3 b1 b2 lb lc w bv h0) := by
  refine own_enter pn_31 ?_
  intro p e s m below meth c s₁ hx hby hml0 hown hret hlk hnm hZ X0 e0
  have hml : c.maxLocals = 4 := hml0
  have B : BX p c method_3_code := ⟨hx, hby⟩
  refine own_cast (ef_31 m a1 a2 p3) ?_
  refine wiloadN OGc 1 X0 B d31_0 rfl rfl ?_
  refine waloadN OGc 2 X0 B d31_1 rfl rfl rfl ?_
  refine wvirt OGc 5 X0 B hZ hown (ow hw 160 rfl) (ow hw 78 rfl) (ow hw 80 rfl) (ow hw 79 rfl) R0 (ow hw 81 rfl) (ow hw 6 rfl) e0 (rm12 l Z a0 hw [] a1 b1 lb w h0 R0 R1 R2 R3 R8 hw0) 1 (by decide) (by decide) hml rfl (lenOf pd___I rfl) [(.int p3)] rfl rfl d31_2 rfl fun _ T1 L1 X1 hQ1 => ?_
  obtain ⟨rfl, rfl, e1⟩ := hQ1
  refine own_stk (S' := [(.int (olen lb)), (.int p3)]) rfl ?_
  by_cases c2 : p3 < (olen lb)
  · refine wicmpNo OGc 8 X1 B d31_5 (tlt c2).2.1 rfl ?_
    refine waloadN OGc 9 X1 B d31_8 rfl rfl rfl ?_
    refine wiloadN OGc 10 X1 B d31_9 rfl rfl ?_
    refine wvirt OGc 13 X1 B hZ hown (ow hw 180 rfl) (ow hw 181 rfl) (ow hw 183 rfl) (ow hw 182 rfl) R0 (ow hw 184 rfl) (ow hw 6 rfl) e1 (rm35 l Z a0 hw [] a1 p3 b1 lb w bv h0 R0 R1 R2 R3 R8 R9 hw0 hbv hp0 c2 hl1) 0 (by decide) (by decide) hml rfl (lenOf pd__I_C rfl) [] rfl rfl d31_10 rfl fun _ T3 L3 X3 hQ3 => ?_
    obtain ⟨rfl, rfl, e3⟩ := hQ3
    refine own_stk (S' := [(.int (ogc lb p3))]) rfl ?_
    exact own_retI X3 hx hret hlk (hb hby d31_13) (by decide) (by decide) ⟨congrArg (fun z => some (Value.int z)) (show f31 p3 lb lc w = (ogc lb p3) from (by rw [f31, if_pos c2])).symm, rfl, e3⟩
  · refine wicmpYes OGc 14 X1 B d31_5 (flt c2).2.1 rfl ?_
    refine wiloadN OGc 15 X1 B d31_14 rfl rfl ?_
    refine waloadN OGc 16 X1 B d31_15 rfl rfl rfl ?_
    refine wvirt OGc 19 X1 B hZ hown (ow hw 160 rfl) (ow hw 78 rfl) (ow hw 80 rfl) (ow hw 79 rfl) R0 (ow hw 81 rfl) (ow hw 6 rfl) e1 (rm12 l Z a0 hw [] a1 b1 lb w h0 R0 R1 R2 R3 R8 hw0) 1 (by decide) (by decide) hml rfl (lenOf pd___I rfl) [(.int p3)] rfl rfl d31_16 rfl fun _ T4 L4 X4 hQ4 => ?_
    obtain ⟨rfl, rfl, e4⟩ := hQ4
    refine own_stk (S' := [(.int (olen lb)), (.int p3)]) rfl ?_
    refine wisub OGc 20 X4 B d31_19 rfl ?_
    refine wistoreN OGc 21 X4 B d31_20 #[.val (.ref a1), .val (.ref a2), .val (.int p3), .val (.int (p3 - (olen lb)))] rfl rfl ?_
    refine wiloadN OGc 22 X4 B d31_21 rfl rfl ?_
    refine waloadN OGc 23 X4 B d31_22 rfl rfl rfl ?_
    refine wvirt OGc 26 X4 B hZ hown (ow hw 160 rfl) (ow hw 78 rfl) (ow hw 80 rfl) (ow hw 79 rfl) R4 (ow hw 81 rfl) (ow hw 6 rfl) e4 (rm12 l Z a0 hw [] a2 b2 lc w h0 R4 R5 R6 R7 R8 hw0) 1 (by decide) (by decide) hml rfl (lenOf pd___I rfl) [(.int (p3 - (olen lb)))] rfl rfl d31_23 rfl fun _ T5 L5 X5 hQ5 => ?_
    obtain ⟨rfl, rfl, e5⟩ := hQ5
    refine own_stk (S' := [(.int (olen lc)), (.int (p3 - (olen lb)))]) rfl ?_
    by_cases c6 : (p3 - (olen lb)) < (olen lc)
    · refine wicmpNo OGc 29 X5 B d31_26 (tlt c6).2.1 rfl ?_
      refine waloadN OGc 30 X5 B d31_29 rfl rfl rfl ?_
      refine wiloadN OGc 31 X5 B d31_30 rfl rfl ?_
      refine wvirt OGc 34 X5 B hZ hown (ow hw 180 rfl) (ow hw 181 rfl) (ow hw 183 rfl) (ow hw 182 rfl) R4 (ow hw 184 rfl) (ow hw 6 rfl) e5 (rm35 l Z a0 hw [] a2 (p3 - (olen lb)) b2 lc w bv h0 R4 R5 R6 R7 R8 R9 hw0 hbv (own_sb hp0 c2 hl1) c6 hl2) 0 (by decide) (by decide) hml rfl (lenOf pd__I_C rfl) [] rfl rfl d31_31 rfl fun _ T7 L7 X7 hQ7 => ?_
      obtain ⟨rfl, rfl, e7⟩ := hQ7
      refine own_stk (S' := [(.int (ogc lc (p3 - (olen lb))))]) rfl ?_
      exact own_retI X7 hx hret hlk (hb hby d31_34) (by decide) (by decide) ⟨congrArg (fun z => some (Value.int z)) (show f31 p3 lb lc w = (ogc lc (p3 - (olen lb))) from (by rw [f31, if_neg c2, if_pos c6])).symm, rfl, e7⟩
    · refine wicmpYes OGc 35 X5 B d31_26 (flt c6).2.1 rfl ?_
      refine wiconst OGc 36 X5 B d31_35 (-1 : Int32) rfl rfl ?_
      exact own_retI X5 hx hret hlk (hb hby d31_36) (by decide) (by decide) ⟨congrArg (fun z => some (Value.int z)) (show f31 p3 lb lc w = (-1 : Int32) from (by rw [f31, if_neg c2, if_neg c6])).symm, rfl, e5⟩
theorem d29_0 : decode method_5_code 0 = .ok (.aload_n 0, 1) := by decide +kernel
theorem d29_1 : decode method_5_code 1 = .ok (.iload_n 3, 1) := by decide +kernel
theorem d29_2 : decode method_5_code 2 = .ok (.invokestatic 20, 3) := by decide +kernel
theorem d29_5 : decode method_5_code 5 = .ok (.aload_n 1, 1) := by decide +kernel
theorem d29_6 : decode method_5_code 6 = .ok (.aload_n 2, 1) := by decide +kernel
theorem d29_7 : decode method_5_code 7 = .ok (.iload_n 3, 1) := by decide +kernel
theorem d29_8 : decode method_5_code 8 = .ok (.invokestatic 26, 3) := by decide +kernel
theorem d29_11 : decode method_5_code 11 = .ok (.if_icmp .ne 7, 3) := by decide +kernel
theorem d29_14 : decode method_5_code 14 = .ok (.iconst 1, 1) := by decide +kernel
theorem d29_15 : decode method_5_code 15 = .ok (.goto 4, 3) := by decide +kernel
theorem d29_18 : decode method_5_code 18 = .ok (.iconst 0, 1) := by decide +kernel
theorem d29_19 : decode method_5_code 19 = .ok (.ireturn, 1) := by decide +kernel
theorem pd__Ljava_lang_String_I_I : parseMethodDescriptor "(Ljava/lang/String;I)I" = some ⟨[(.object "java/lang/String"), .int], some .int⟩ := by decide +kernel
theorem pd__Ljava_lang_String_Ljava_lang_String_I_I : parseMethodDescriptor "(Ljava/lang/String;Ljava/lang/String;I)I" = some ⟨[(.object "java/lang/String"), (.object "java/lang/String"), .int], some .int⟩ := by decide +kernel
theorem pn_29 : plainFor (⟨"com/example/tidewire/tidewire/protocol/RestParamsSignedTextPinLaw", "same", "(Ljava/lang/String;Ljava/lang/String;Ljava/lang/String;I)Z"⟩ : MethodName) = true := by first | exact plainFor_of_name (by first | (simp [plainName, overriddenIn]; done) | decide +kernel) | decide +kernel
def f29 (p4 : Int32) (la : List Int32) (lb : List Int32) (lc : List Int32) (w : Int32) : Int32 := (if (f30 p4 la w) = (f31 p4 lb lc w) then (1 : Int32) else (0 : Int32))
theorem ef_29 (m : MethodId) (a1 : Addr) (a2 : Addr) (a3 : Addr) (p4 : Int32) : entryFrame m #[(.ref a1), (.ref a2), (.ref a3), (.int p4)] 4 = (mkF m 0 #[.val (.ref a1), .val (.ref a2), .val (.ref a3), .val (.int p4)] []) := by first | (simp [entryFrame, mkF, argsToLocals, Value.category]; done) | rfl
abbrev Q29 (Z : State) (a1 : Addr) (a2 : Addr) (a3 : Addr) (p4 : Int32) (b0 : Addr) (b1 : Addr) (b2 : Addr) (la : List Int32) (lb : List Int32) (lc : List Int32) (w : Int32) (bv : Value) (h0 : Heap)  : Option Value → Heap → List Loc → Prop := (fun v h L => v = some (.int (f29 p4 la lb lc w)) ∧ L = [] ∧ h = h0)
theorem rm29 (l : Launch) (Z : State) (a0 : Array Value) (hw : ∀ d ∈ tables_1, d.before a0 Z = true) (ws : List Jvm.Cond) (a1 : Addr) (a2 : Addr) (a3 : Addr) (p4 : Int32) (b0 : Addr) (b1 : Addr) (b2 : Addr) (la : List Int32) (lb : List Int32) (lc : List Int32) (w : Int32) (bv : Value) (h0 : Heap) (R0 : Exa Z h0 a2 "java/lang/String") (R1 : Fld Z h0 a2 "java/lang/String" "value" "[B" (.ref b1)) (R2 : Fld Z h0 a2 "java/lang/String" "coder" "B" (.int (0 : Int32))) (R3 : OA Z h0 b1 .byte (lb.map obv)) (R4 : Exa Z h0 a3 "java/lang/String") (R5 : Fld Z h0 a3 "java/lang/String" "value" "[B" (.ref b2)) (R6 : Fld Z h0 a3 "java/lang/String" "coder" "B" (.int (0 : Int32))) (R7 : OA Z h0 b2 .byte (lc.map obv)) (R8 : Exa Z h0 a1 "java/lang/String") (R9 : Fld Z h0 a1 "java/lang/String" "value" "[B" (.ref b0)) (R10 : Fld Z h0 a1 "java/lang/String" "coder" "B" (.int (0 : Int32))) (R11 : OA Z h0 b0 .byte (la.map obv)) (R12 : Sta Z h0 "java/lang/String" "COMPACT_STRINGS" "Z" (.int w)) (R13 : Sta Z h0 "jdk/internal/util/Preconditions" "SIOOBE_FORMATTER" "Ljava/util/function/BiFunction;" bv) (hw0 : ¬ w = (0 : Int32)) (hbv : bv.isRef = true) (hp0 : ¬ p4 < (0 : Int32)) (hl0 : la.length ≤ 6) (hl1 : lb.length ≤ 6) (hl2 : lc.length ≤ 6) :
    OMet l Z (⟨"com/example/tidewire/tidewire/protocol/RestParamsSignedTextPinLaw", "same", "(Ljava/lang/String;Ljava/lang/String;Ljava/lang/String;I)Z"⟩ : MethodName) method_5_code 4 (some .boolean) ws ({ frames := 5, cells := 0, slots := 0, locals := 69 } : Room) #[(.ref a1), (.ref a2), (.ref a3), (.int p4)] h0 (Q29 Z a1 a2 a3 p4 b0 b1 b2 la lb lc w bv h0) := by
  refine own_enter pn_29 ?_
  intro p e s m below meth c s₁ hx hby hml0 hown hret hlk hnm hZ X0 e0
  have hml : c.maxLocals = 4 := hml0
  have B : BX p c method_5_code := ⟨hx, hby⟩
  refine own_cast (ef_29 m a1 a2 a3 p4) ?_
  refine waloadN OGc 1 X0 B d29_0 rfl rfl rfl ?_
  refine wiloadN OGc 2 X0 B d29_1 rfl rfl ?_
  refine wstat OGc 5 X0 B hZ hown (ow hw 164 rfl) (ow hw 165 rfl) (ow hw 166 rfl) (ow hw 2 rfl) e0 (rm30 l Z a0 hw [] a1 p4 b0 la w bv h0 R8 R9 R10 R11 R12 R13 hw0 hbv hp0 hl0) 0 (by decide) (by decide) hml rfl (lenOf pd__Ljava_lang_String_I_I rfl) [] rfl rfl d29_2 rfl fun _ T1 L1 X1 hQ1 => ?_
  obtain ⟨rfl, rfl, e1⟩ := hQ1
  refine own_stk (S' := [(.int (f30 p4 la w))]) rfl ?_
  refine waloadN OGc 6 X1 B d29_5 rfl rfl rfl ?_
  refine waloadN OGc 7 X1 B d29_6 rfl rfl rfl ?_
  refine wiloadN OGc 8 X1 B d29_7 rfl rfl ?_
  refine wstat OGc 11 X1 B hZ hown (ow hw 167 rfl) (ow hw 168 rfl) (ow hw 169 rfl) (ow hw 2 rfl) e1 (rm31 l Z a0 hw [] a2 a3 p4 b1 b2 lb lc w bv h0 R0 R1 R2 R3 R4 R5 R6 R7 R12 R13 hw0 hbv hp0 hl1 hl2) 1 (by decide) (by decide) hml rfl (lenOf pd__Ljava_lang_String_Ljava_lang_String_I_I rfl) [(.int (f30 p4 la w))] rfl rfl d29_8 rfl fun _ T2 L2 X2 hQ2 => ?_
  obtain ⟨rfl, rfl, e2⟩ := hQ2
  refine own_stk (S' := [(.int (f31 p4 lb lc w)), (.int (f30 p4 la w))]) rfl ?_
  by_cases c3 : (f30 p4 la w) = (f31 p4 lb lc w)
  · refine wicmpNo OGc 14 X2 B d29_11 (teq c3).2 rfl ?_
    refine wiconst OGc 15 X2 B d29_14 1 rfl rfl ?_
    refine wgoto OGc 19 X2 B d29_15 rfl ?_
    exact own_retZ X2 hx (t := .boolean) hret (by simp) hlk (hb hby d29_19) (by decide) (by decide) (w := (1 : Int32)) rfl ⟨congrArg (fun z => some (Value.int z)) (show f29 p4 la lb lc w = (1 : Int32) from (by rw [f29, if_pos c3])).symm, rfl, e2⟩
  · refine wicmpYes OGc 18 X2 B d29_11 (feq c3).2 rfl ?_
    refine wiconst OGc 19 X2 B d29_18 0 rfl rfl ?_
    exact own_retZ X2 hx (t := .boolean) hret (by simp) hlk (hb hby d29_19) (by decide) (by decide) (w := (0 : Int32)) rfl ⟨congrArg (fun z => some (Value.int z)) (show f29 p4 la lb lc w = (0 : Int32) from (by rw [f29, if_neg c3])).symm, rfl, e2⟩
theorem d9_0 : decode jdk_68_method_2_code 0 = .ok (.aload_n 0, 1) := by decide +kernel
theorem d9_1 : decode jdk_68_method_2_code 1 = .ok (.invokespecial 3, 3) := by decide +kernel
theorem d9_4 : decode jdk_68_method_2_code 4 = .ok (.getstatic 18, 3) := by decide +kernel
theorem d9_7 : decode jdk_68_method_2_code 7 = .ok (.ifCond .eq 18, 3) := by decide +kernel
theorem d9_10 : decode jdk_68_method_2_code 10 = .ok (.aload_n 0, 1) := by decide +kernel
theorem d9_11 : decode jdk_68_method_2_code 11 = .ok (.iload_n 1, 1) := by decide +kernel
theorem d9_12 : decode jdk_68_method_2_code 12 = .ok (.newarray .byte, 2) := by decide +kernel
theorem d9_14 : decode jdk_68_method_2_code 14 = .ok (.putfield 15, 3) := by decide +kernel
theorem d9_17 : decode jdk_68_method_2_code 17 = .ok (.aload_n 0, 1) := by decide +kernel
theorem d9_18 : decode jdk_68_method_2_code 18 = .ok (.iconst 0, 1) := by decide +kernel
theorem d9_19 : decode jdk_68_method_2_code 19 = .ok (.putfield 22, 3) := by decide +kernel
theorem d9_22 : decode jdk_68_method_2_code 22 = .ok (.goto 16, 3) := by decide +kernel
theorem d9_38 : decode jdk_68_method_2_code 38 = .ok (.return_, 1) := by decide +kernel
theorem pn_9 : plainFor (⟨"java/lang/AbstractStringBuilder", "<init>", "(I)V"⟩ : MethodName) = true := by first | exact plainFor_of_name (by first | (simp [plainName, overriddenIn]; done) | decide +kernel) | decide +kernel
theorem ef_9 (m : MethodId) (a1 : Addr) : entryFrame m #[(.ref a1), (.int (16 : Int32))] 2 = (mkF m 0 #[.val (.ref a1), .val (.int (16 : Int32))] []) := by first | (simp [entryFrame, mkF, argsToLocals, Value.category]; done) | rfl
abbrev Q9 (Z : State) (a1 : Addr) (w : Int32) (h0 : Heap) (n0 : Nat) : Option Value → Heap → List Loc → Prop := (fun v h L => v = none ∧ Fr n0 L ∧ Keep h0 h [a1] ∧ ∃ vb : Addr, h0.size ≤ vb ∧ Exa Z h a1 "java/lang/StringBuilder" ∧ Fld Z h a1 "java/lang/AbstractStringBuilder" "value" "[B" (.ref vb) ∧ Fld Z h a1 "java/lang/AbstractStringBuilder" "coder" "B" (.int (0 : Int32)) ∧ Fld Z h a1 "java/lang/AbstractStringBuilder" "count" "I" (.int (0 : Int32)) ∧ OA Z h vb .byte (obuf []))
theorem rm9 (l : Launch) (Z : State) (a0 : Array Value) (hw : ∀ d ∈ tables_1, d.before a0 Z = true) (ws : List Jvm.Cond) (a1 : Addr) (w : Int32) (h0 : Heap) (n0 : Nat) (Z0 : n0 ≤ h0.size) (R0 : Exa Z h0 a1 "java/lang/StringBuilder") (R1 : Fld Z h0 a1 "java/lang/AbstractStringBuilder" "value" "[B" .null) (R2 : Fld Z h0 a1 "java/lang/AbstractStringBuilder" "coder" "B" (.int (0 : Int32))) (R3 : Fld Z h0 a1 "java/lang/AbstractStringBuilder" "count" "I" (.int (0 : Int32))) (R4 : Sta Z h0 "java/lang/String" "COMPACT_STRINGS" "Z" (.int w)) (g_a1 : n0 ≤ a1) (hw0 : ¬ w = (0 : Int32)) :
    OMet l Z (⟨"java/lang/AbstractStringBuilder", "<init>", "(I)V"⟩ : MethodName) jdk_68_method_2_code 2 none ws ({ frames := 1, cells := 1, slots := 16, locals := 12 } : Room) #[(.ref a1), (.int (16 : Int32))] h0 (Q9 Z a1 w h0 n0) := by
  refine own_enter pn_9 ?_
  intro p e s m below meth c s₁ hx hby hml0 hown hret hlk hnm hZ X0 e0
  have hml : c.maxLocals = 2 := hml0
  have B : BX p c jdk_68_method_2_code := ⟨hx, hby⟩
  have N0 := Fr.nil n0
  refine own_cast (ef_9 m a1) ?_
  refine waloadN OGc 1 X0 B d9_0 rfl rfl rfl ?_
  obtain ⟨T1, X1, e1, st1⟩ := initO X0 hx hZ hown (ow hw 61 rfl) (ow hw 16 rfl) (ow hw 17 rfl) e0 (g := (mkF m 1 #[.val (.ref a1), .val (.int (16 : Int32))] [(.ref a1)])) rfl (by rw [hml]; rfl) rfl (hb hby d9_1) (by decide) (W := 0) (by show 2 * 0 + _ ≤ _; exact Nat.le_of_eq rfl) (by decide)
  refine own_st st1 ?_
  show OG p e _ s below _ T1 (mkF m 4 #[.val (.ref a1), .val (.int (16 : Int32))] [])
  refine wgetS OGc 7 X1 B hZ hown (ow hw 62 rfl) e1 R4 d9_4 rfl fun T2 X2 e2 => ?_
  refine wifNo OGc 10 X2 B d9_7 (own_if0 (feq hw0).1) rfl ?_
  refine waloadN OGc 11 X2 B d9_10 rfl rfl rfl ?_
  refine wiloadN OGc 12 X2 B d9_11 rfl rfl ?_
  refine wnewP OGc 14 X2 B hZ (ow hw 19 rfl) e2 d9_12 16 (by decide) (by decide) rfl fun T3 h3 b3 k3 gb3 X3 e3 E3 A3 => ?_
  have ge_b3 : n0 ≤ b3 := by rw [gb3]; exact Nat.le_trans Z0 (Keep.refl h0 [a1]).1
  have sz_b3 : h0.size ≤ b3 := by rw [gb3]; exact (Keep.refl h0 [a1]).1
  have ne_a1_b3 : a1 ≠ b3 := Nat.ne_of_lt (Nat.lt_of_lt_of_eq R0.lt gb3.symm)
  have F4 := R0.ext E3
  have F5 := R1.ext E3
  have F6 := R2.ext E3
  have F7 := R3.ext E3
  have F8 := R4.ext E3
  have K9 := (Keep.refl h0 [a1]).ext E3
  have F10 : OA Z h3 b3 .byte (obuf []) := OA.new A3
  refine wputF OGc 17 X3 B hZ hown (ow hw 63 rfl) e3 F5 F4 (Or.inl (ow hw 64 rfl)) (ow hw 50 rfl) (ty := (.array .byte)) (by decide) rfl rfl d9_14 rfl fun T11 h11 X11 e11 W11 => ?_
  have N11 := Fr.snoc X11 N0 g_a1
  have K12 := K9.wr W11 (Or.inl (List.mem_of_getElem? (i := 0) rfl))
  have F13 := F4.wr W11
  have F14 : Fld Z h11 a1 "java/lang/AbstractStringBuilder" "value" "[B" (.ref b3) := (F5.same W11)
  have F15 := F6.other W11 (Or.inr (slot_ne (Or.inl (ow hw 66 rfl)) (Or.inl (ow hw 64 rfl)) (by decide) (t := .byte) (t' := (.array .byte)) (by decide) (by decide)))
  have F16 := F7.other W11 (Or.inr (slot_ne (Or.inl (ow hw 89 rfl)) (Or.inl (ow hw 64 rfl)) (by decide) (t := .int) (t' := (.array .byte)) (by decide) (by decide)))
  have F17 := F8.wr W11
  have F18 := F10.other W11 (Ne.symm ne_a1_b3)
  refine waloadN OGc 18 X11 B d9_17 rfl rfl rfl ?_
  refine wiconst OGc 19 X11 B d9_18 0 rfl rfl ?_
  refine wputF OGc 22 X11 B hZ hown (ow hw 65 rfl) e11 F15 F13 (Or.inl (ow hw 66 rfl)) (ow hw 50 rfl) (ty := .byte) (by decide) rfl rfl d9_19 rfl fun T19 h19 X19 e19 W19 => ?_
  have N19 := Fr.snoc X19 N11 g_a1
  have K20 := K12.wr W19 (Or.inl (List.mem_of_getElem? (i := 0) rfl))
  have F21 := F13.wr W19
  have F22 := F14.other W19 (Or.inr (slot_ne (Or.inl (ow hw 64 rfl)) (Or.inl (ow hw 66 rfl)) (by decide) (t := (.array .byte)) (t' := .byte) (by decide) (by decide)))
  have F23 : Fld Z h19 a1 "java/lang/AbstractStringBuilder" "coder" "B" (.int (0 : Int32)) := (F15.same W19)
  have F24 := F16.other W19 (Or.inr (slot_ne (Or.inl (ow hw 89 rfl)) (Or.inl (ow hw 66 rfl)) (by decide) (t := .int) (t' := .byte) (by decide) (by decide)))
  have F25 := F17.wr W19
  have F26 := F18.other W19 (Ne.symm ne_a1_b3)
  refine wgoto OGc 38 X19 B d9_22 rfl ?_
  refine own_ret0 X19 hx hret hlk (hb hby d9_38) (by decide) (by decide) ?_
  rw [e19]
  exact ⟨rfl, N19, K20, b3, sz_b3, F21, F22, F23, F24, F26⟩
theorem d8_0 : decode jdk_67_method_1_code 0 = .ok (.aload_n 0, 1) := by decide +kernel
theorem d8_1 : decode jdk_67_method_1_code 1 = .ok (.bipush 16, 2) := by decide +kernel
theorem d8_3 : decode jdk_67_method_1_code 3 = .ok (.invokespecial 1, 3) := by decide +kernel
theorem d8_6 : decode jdk_67_method_1_code 6 = .ok (.return_, 1) := by decide +kernel
theorem pd__I_V : parseMethodDescriptor "(I)V" = some ⟨[.int], none⟩ := by decide +kernel
theorem pn_8 : plainFor (⟨"java/lang/StringBuilder", "<init>", "()V"⟩ : MethodName) = true := by first | exact plainFor_of_name (by first | (simp [plainName, overriddenIn]; done) | decide +kernel) | decide +kernel
theorem ef_8 (m : MethodId) (a1 : Addr) : entryFrame m #[(.ref a1)] 1 = (mkF m 0 #[.val (.ref a1)] []) := by first | (simp [entryFrame, mkF, argsToLocals, Value.category]; done) | rfl
abbrev Q8 (Z : State) (a1 : Addr) (w : Int32) (h0 : Heap) (n0 : Nat) : Option Value → Heap → List Loc → Prop := (fun v h L => v = none ∧ Fr n0 L ∧ Keep h0 h [a1] ∧ ∃ vb : Addr, h0.size ≤ vb ∧ Exa Z h a1 "java/lang/StringBuilder" ∧ Fld Z h a1 "java/lang/AbstractStringBuilder" "value" "[B" (.ref vb) ∧ Fld Z h a1 "java/lang/AbstractStringBuilder" "coder" "B" (.int (0 : Int32)) ∧ Fld Z h a1 "java/lang/AbstractStringBuilder" "count" "I" (.int (0 : Int32)) ∧ OA Z h vb .byte (obuf []))
theorem rm8 (l : Launch) (Z : State) (a0 : Array Value) (hw : ∀ d ∈ tables_1, d.before a0 Z = true) (ws : List Jvm.Cond) (a1 : Addr) (w : Int32) (h0 : Heap) (n0 : Nat) (Z0 : n0 ≤ h0.size) (R0 : Exa Z h0 a1 "java/lang/StringBuilder") (R1 : Fld Z h0 a1 "java/lang/AbstractStringBuilder" "value" "[B" .null) (R2 : Fld Z h0 a1 "java/lang/AbstractStringBuilder" "coder" "B" (.int (0 : Int32))) (R3 : Fld Z h0 a1 "java/lang/AbstractStringBuilder" "count" "I" (.int (0 : Int32))) (R4 : Sta Z h0 "java/lang/String" "COMPACT_STRINGS" "Z" (.int w)) (g_a1 : n0 ≤ a1) (hw0 : ¬ w = (0 : Int32)) :
    OMet l Z (⟨"java/lang/StringBuilder", "<init>", "()V"⟩ : MethodName) jdk_67_method_1_code 1 none ws ({ frames := 2, cells := 1, slots := 16, locals := 25 } : Room) #[(.ref a1)] h0 (Q8 Z a1 w h0 n0) := by
  refine own_enter pn_8 ?_
  intro p e s m below meth c s₁ hx hby hml0 hown hret hlk hnm hZ X0 e0
  have hml : c.maxLocals = 1 := hml0
  have B : BX p c jdk_67_method_1_code := ⟨hx, hby⟩
  have N0 := Fr.nil n0
  refine own_cast (ef_8 m a1) ?_
  refine waloadN OGc 1 X0 B d8_0 rfl rfl rfl ?_
  refine wbipush OGc 3 X0 B d8_1 16 rfl rfl ?_
  refine wspec OGc 6 X0 B hZ hown (ow hw 55 rfl) (ow hw 56 rfl) rfl (ow hw 60 rfl) (ow hw 59 rfl) e0 (rm9 l Z a0 hw [] a1 w h0 n0 (Nat.le_trans Z0 (Keep.refl h0 [a1]).1) R0 R1 R2 R3 R4 g_a1 hw0) 0 (by decide) (by decide) hml rfl (lenOf pd__I_V rfl) [] rfl rfl d8_3 rfl fun _ T1 L1 X1 hQ1 => ?_
  obtain ⟨rfl, N1q, K1q, vb_1, sz_vb_1, P1_0, P1_1, P1_2, P1_3, P1_4⟩ := hQ1
  have N1 := Fr.app N0 N1q
  have ge_vb_1 : n0 ≤ vb_1 := Nat.le_trans (Nat.le_trans Z0 (Keep.refl h0 [a1]).1) sz_vb_1
  have sy_vb_1 : h0.size ≤ vb_1 := Nat.le_trans (Keep.refl h0 [a1]).1 sz_vb_1
  have ne_a1_vb_1 : a1 ≠ vb_1 := Nat.ne_of_lt (Nat.lt_of_lt_of_le R0.lt sz_vb_1)
  have K1 := (Keep.refl h0 [a1]).trans K1q (own_all1 (Or.inl (List.mem_of_getElem? (i := 0) rfl)))
  have F2 := own_staK R4 K1q (own_all1 (own_plE R0))
  refine own_stk (S' := []) rfl ?_
  refine own_ret0 X1 hx hret hlk (hb hby d8_6) (by decide) (by decide) ?_
  exact ⟨rfl, N1, K1, vb_1, sy_vb_1, P1_0, P1_1, P1_2, P1_3, P1_4⟩
theorem d14_0 : decode jdk_68_method_9_code 0 = .ok (.aload_n 0, 1) := by decide +kernel
theorem d14_1 : decode jdk_68_method_9_code 1 = .ok (.getfield 15, 3) := by decide +kernel
theorem d14_4 : decode jdk_68_method_9_code 4 = .ok (.arraylength, 1) := by decide +kernel
theorem d14_5 : decode jdk_68_method_9_code 5 = .ok (.aload_n 0, 1) := by decide +kernel
theorem d14_6 : decode jdk_68_method_9_code 6 = .ok (.getfield 22, 3) := by decide +kernel
theorem d14_9 : decode jdk_68_method_9_code 9 = .ok (.ishr, 1) := by decide +kernel
theorem d14_10 : decode jdk_68_method_9_code 10 = .ok (.istore_n 2, 1) := by decide +kernel
theorem d14_11 : decode jdk_68_method_9_code 11 = .ok (.iload_n 1, 1) := by decide +kernel
theorem d14_12 : decode jdk_68_method_9_code 12 = .ok (.iload_n 2, 1) := by decide +kernel
theorem d14_13 : decode jdk_68_method_9_code 13 = .ok (.isub, 1) := by decide +kernel
theorem d14_14 : decode jdk_68_method_9_code 14 = .ok (.ifCond .le 24, 3) := by decide +kernel
theorem d14_38 : decode jdk_68_method_9_code 38 = .ok (.return_, 1) := by decide +kernel
theorem pn_14 : plainFor (⟨"java/lang/AbstractStringBuilder", "ensureCapacityInternal", "(I)V"⟩ : MethodName) = true := by first | exact plainFor_of_name (by first | (simp [plainName, overriddenIn]; done) | decide +kernel) | decide +kernel
theorem ef_14_0 (m : MethodId) (a1 : Addr) : entryFrame m #[(.ref a1), (.int (0 : Int32))] 3 = (mkF m 0 #[.val (.ref a1), .val (.int (0 : Int32)), .unset] []) := by first | (simp [entryFrame, mkF, argsToLocals, Value.category]; done) | rfl
abbrev Q14_0 (Z : State) (a1 : Addr) (vb : Addr) (x0 : Int32) (x1 : Int32) (x2 : Int32) (x3 : Int32) (x4 : Int32) (x5 : Int32) (x6 : Int32) (x7 : Int32) (x8 : Int32) (x9 : Int32) (x10 : Int32) (x11 : Int32) (x12 : Int32) (x13 : Int32) (x14 : Int32) (x15 : Int32) (h0 : Heap) (n0 : Nat) : Option Value → Heap → List Loc → Prop := (fun v h L => v = none ∧ Fr n0 L ∧ Keep h0 h [])
theorem rm14_0 (l : Launch) (Z : State) (a0 : Array Value) (hw : ∀ d ∈ tables_1, d.before a0 Z = true) (ws : List Jvm.Cond) (a1 : Addr) (vb : Addr) (x0 : Int32) (x1 : Int32) (x2 : Int32) (x3 : Int32) (x4 : Int32) (x5 : Int32) (x6 : Int32) (x7 : Int32) (x8 : Int32) (x9 : Int32) (x10 : Int32) (x11 : Int32) (x12 : Int32) (x13 : Int32) (x14 : Int32) (x15 : Int32) (h0 : Heap) (n0 : Nat) (R0 : Fld Z h0 a1 "java/lang/AbstractStringBuilder" "value" "[B" (.ref vb)) (R1 : Fld Z h0 a1 "java/lang/AbstractStringBuilder" "coder" "B" (.int (0 : Int32))) (R2 : OA Z h0 vb .byte [(.int x0), (.int x1), (.int x2), (.int x3), (.int x4), (.int x5), (.int x6), (.int x7), (.int x8), (.int x9), (.int x10), (.int x11), (.int x12), (.int x13), (.int x14), (.int x15)]) :
    OMet l Z (⟨"java/lang/AbstractStringBuilder", "ensureCapacityInternal", "(I)V"⟩ : MethodName) jdk_68_method_9_code 3 none ws ({ frames := 0, cells := 0, slots := 0, locals := 0 } : Room) #[(.ref a1), (.int (0 : Int32))] h0 (Q14_0 Z a1 vb x0 x1 x2 x3 x4 x5 x6 x7 x8 x9 x10 x11 x12 x13 x14 x15 h0 n0) := by
  refine own_enter pn_14 ?_
  intro p e s m below meth c s₁ hx hby hml0 hown hret hlk hnm hZ X0 e0
  have hml : c.maxLocals = 3 := hml0
  have B : BX p c jdk_68_method_9_code := ⟨hx, hby⟩
  have N0 := Fr.nil n0
  refine own_cast (ef_14_0 m a1) ?_
  refine waloadN OGc 1 X0 B d14_0 rfl rfl rfl ?_
  refine wgetF OGc 4 X0 B hZ hown (ow hw 63 rfl) e0 R0 d14_1 rfl fun T1 X1 e1 => ?_
  refine warlenA OGc 5 X1 B hZ e1 R2 (16 : Int32) rfl d14_4 rfl ?_
  refine waloadN OGc 6 X1 B d14_5 rfl rfl rfl ?_
  refine wgetF OGc 9 X1 B hZ hown (ow hw 65 rfl) e1 R1 d14_6 rfl fun T3 X3 e3 => ?_
  refine own_st (fun t k => XS.ishr X3.here hx rfl (hb hby d14_9) rfl k) ?_
  show OG p e _ s below _ T3 (mkF m 10 #[.val (.ref a1), .val (.int (0 : Int32)), .unset] [(.int (16 : Int32))])
  refine wistoreN OGc 11 X3 B d14_10 #[.val (.ref a1), .val (.int (0 : Int32)), .val (.int (16 : Int32))] rfl rfl ?_
  refine wiloadN OGc 12 X3 B d14_11 rfl rfl ?_
  refine wiloadN OGc 13 X3 B d14_12 rfl rfl ?_
  refine wisub OGc 14 X3 B d14_13 rfl ?_
  show OG p e _ s below _ T3 (mkF m 14 #[.val (.ref a1), .val (.int (0 : Int32)), .val (.int (16 : Int32))] [(.int (-16 : Int32))])
  refine wifYes OGc 38 X3 B d14_14 (by decide) rfl ?_
  refine own_ret0 X3 hx hret hlk (hb hby d14_38) (by decide) (by decide) ?_
  rw [e3]
  exact ⟨rfl, N0, (Keep.refl h0 [])⟩
theorem ef_14_1 (m : MethodId) (a1 : Addr) : entryFrame m #[(.ref a1), (.int (1 : Int32))] 3 = (mkF m 0 #[.val (.ref a1), .val (.int (1 : Int32)), .unset] []) := by first | (simp [entryFrame, mkF, argsToLocals, Value.category]; done) | rfl
abbrev Q14_1 (Z : State) (a1 : Addr) (vb : Addr) (x0 : Int32) (x1 : Int32) (x2 : Int32) (x3 : Int32) (x4 : Int32) (x5 : Int32) (x6 : Int32) (x7 : Int32) (x8 : Int32) (x9 : Int32) (x10 : Int32) (x11 : Int32) (x12 : Int32) (x13 : Int32) (x14 : Int32) (x15 : Int32) (h0 : Heap) (n0 : Nat) : Option Value → Heap → List Loc → Prop := (fun v h L => v = none ∧ Fr n0 L ∧ Keep h0 h [])
theorem rm14_1 (l : Launch) (Z : State) (a0 : Array Value) (hw : ∀ d ∈ tables_1, d.before a0 Z = true) (ws : List Jvm.Cond) (a1 : Addr) (vb : Addr) (x0 : Int32) (x1 : Int32) (x2 : Int32) (x3 : Int32) (x4 : Int32) (x5 : Int32) (x6 : Int32) (x7 : Int32) (x8 : Int32) (x9 : Int32) (x10 : Int32) (x11 : Int32) (x12 : Int32) (x13 : Int32) (x14 : Int32) (x15 : Int32) (h0 : Heap) (n0 : Nat) (R0 : Fld Z h0 a1 "java/lang/AbstractStringBuilder" "value" "[B" (.ref vb)) (R1 : Fld Z h0 a1 "java/lang/AbstractStringBuilder" "coder" "B" (.int (0 : Int32))) (R2 : OA Z h0 vb .byte [(.int x0), (.int x1), (.int x2), (.int x3), (.int x4), (.int x5), (.int x6), (.int x7), (.int x8), (.int x9), (.int x10), (.int x11), (.int x12), (.int x13), (.int x14), (.int x15)]) :
    OMet l Z (⟨"java/lang/AbstractStringBuilder", "ensureCapacityInternal", "(I)V"⟩ : MethodName) jdk_68_method_9_code 3 none ws ({ frames := 0, cells := 0, slots := 0, locals := 0 } : Room) #[(.ref a1), (.int (1 : Int32))] h0 (Q14_1 Z a1 vb x0 x1 x2 x3 x4 x5 x6 x7 x8 x9 x10 x11 x12 x13 x14 x15 h0 n0) := by
  refine own_enter pn_14 ?_
  intro p e s m below meth c s₁ hx hby hml0 hown hret hlk hnm hZ X0 e0
  have hml : c.maxLocals = 3 := hml0
  have B : BX p c jdk_68_method_9_code := ⟨hx, hby⟩
  have N0 := Fr.nil n0
  refine own_cast (ef_14_1 m a1) ?_
  refine waloadN OGc 1 X0 B d14_0 rfl rfl rfl ?_
  refine wgetF OGc 4 X0 B hZ hown (ow hw 63 rfl) e0 R0 d14_1 rfl fun T1 X1 e1 => ?_
  refine warlenA OGc 5 X1 B hZ e1 R2 (16 : Int32) rfl d14_4 rfl ?_
  refine waloadN OGc 6 X1 B d14_5 rfl rfl rfl ?_
  refine wgetF OGc 9 X1 B hZ hown (ow hw 65 rfl) e1 R1 d14_6 rfl fun T3 X3 e3 => ?_
  refine own_st (fun t k => XS.ishr X3.here hx rfl (hb hby d14_9) rfl k) ?_
  show OG p e _ s below _ T3 (mkF m 10 #[.val (.ref a1), .val (.int (1 : Int32)), .unset] [(.int (16 : Int32))])
  refine wistoreN OGc 11 X3 B d14_10 #[.val (.ref a1), .val (.int (1 : Int32)), .val (.int (16 : Int32))] rfl rfl ?_
  refine wiloadN OGc 12 X3 B d14_11 rfl rfl ?_
  refine wiloadN OGc 13 X3 B d14_12 rfl rfl ?_
  refine wisub OGc 14 X3 B d14_13 rfl ?_
  show OG p e _ s below _ T3 (mkF m 14 #[.val (.ref a1), .val (.int (1 : Int32)), .val (.int (16 : Int32))] [(.int (-15 : Int32))])
  refine wifYes OGc 38 X3 B d14_14 (by decide) rfl ?_
  refine own_ret0 X3 hx hret hlk (hb hby d14_38) (by decide) (by decide) ?_
  rw [e3]
  exact ⟨rfl, N0, (Keep.refl h0 [])⟩
theorem ef_14_2 (m : MethodId) (a1 : Addr) : entryFrame m #[(.ref a1), (.int (2 : Int32))] 3 = (mkF m 0 #[.val (.ref a1), .val (.int (2 : Int32)), .unset] []) := by first | (simp [entryFrame, mkF, argsToLocals, Value.category]; done) | rfl
abbrev Q14_2 (Z : State) (a1 : Addr) (vb : Addr) (x0 : Int32) (x1 : Int32) (x2 : Int32) (x3 : Int32) (x4 : Int32) (x5 : Int32) (x6 : Int32) (x7 : Int32) (x8 : Int32) (x9 : Int32) (x10 : Int32) (x11 : Int32) (x12 : Int32) (x13 : Int32) (x14 : Int32) (x15 : Int32) (h0 : Heap) (n0 : Nat) : Option Value → Heap → List Loc → Prop := (fun v h L => v = none ∧ Fr n0 L ∧ Keep h0 h [])
theorem rm14_2 (l : Launch) (Z : State) (a0 : Array Value) (hw : ∀ d ∈ tables_1, d.before a0 Z = true) (ws : List Jvm.Cond) (a1 : Addr) (vb : Addr) (x0 : Int32) (x1 : Int32) (x2 : Int32) (x3 : Int32) (x4 : Int32) (x5 : Int32) (x6 : Int32) (x7 : Int32) (x8 : Int32) (x9 : Int32) (x10 : Int32) (x11 : Int32) (x12 : Int32) (x13 : Int32) (x14 : Int32) (x15 : Int32) (h0 : Heap) (n0 : Nat) (R0 : Fld Z h0 a1 "java/lang/AbstractStringBuilder" "value" "[B" (.ref vb)) (R1 : Fld Z h0 a1 "java/lang/AbstractStringBuilder" "coder" "B" (.int (0 : Int32))) (R2 : OA Z h0 vb .byte [(.int x0), (.int x1), (.int x2), (.int x3), (.int x4), (.int x5), (.int x6), (.int x7), (.int x8), (.int x9), (.int x10), (.int x11), (.int x12), (.int x13), (.int x14), (.int x15)]) :
    OMet l Z (⟨"java/lang/AbstractStringBuilder", "ensureCapacityInternal", "(I)V"⟩ : MethodName) jdk_68_method_9_code 3 none ws ({ frames := 0, cells := 0, slots := 0, locals := 0 } : Room) #[(.ref a1), (.int (2 : Int32))] h0 (Q14_2 Z a1 vb x0 x1 x2 x3 x4 x5 x6 x7 x8 x9 x10 x11 x12 x13 x14 x15 h0 n0) := by
  refine own_enter pn_14 ?_
  intro p e s m below meth c s₁ hx hby hml0 hown hret hlk hnm hZ X0 e0
  have hml : c.maxLocals = 3 := hml0
  have B : BX p c jdk_68_method_9_code := ⟨hx, hby⟩
  have N0 := Fr.nil n0
  refine own_cast (ef_14_2 m a1) ?_
  refine waloadN OGc 1 X0 B d14_0 rfl rfl rfl ?_
  refine wgetF OGc 4 X0 B hZ hown (ow hw 63 rfl) e0 R0 d14_1 rfl fun T1 X1 e1 => ?_
  refine warlenA OGc 5 X1 B hZ e1 R2 (16 : Int32) rfl d14_4 rfl ?_
  refine waloadN OGc 6 X1 B d14_5 rfl rfl rfl ?_
  refine wgetF OGc 9 X1 B hZ hown (ow hw 65 rfl) e1 R1 d14_6 rfl fun T3 X3 e3 => ?_
  refine own_st (fun t k => XS.ishr X3.here hx rfl (hb hby d14_9) rfl k) ?_
  show OG p e _ s below _ T3 (mkF m 10 #[.val (.ref a1), .val (.int (2 : Int32)), .unset] [(.int (16 : Int32))])
  refine wistoreN OGc 11 X3 B d14_10 #[.val (.ref a1), .val (.int (2 : Int32)), .val (.int (16 : Int32))] rfl rfl ?_
  refine wiloadN OGc 12 X3 B d14_11 rfl rfl ?_
  refine wiloadN OGc 13 X3 B d14_12 rfl rfl ?_
  refine wisub OGc 14 X3 B d14_13 rfl ?_
  show OG p e _ s below _ T3 (mkF m 14 #[.val (.ref a1), .val (.int (2 : Int32)), .val (.int (16 : Int32))] [(.int (-14 : Int32))])
  refine wifYes OGc 38 X3 B d14_14 (by decide) rfl ?_
  refine own_ret0 X3 hx hret hlk (hb hby d14_38) (by decide) (by decide) ?_
  rw [e3]
  exact ⟨rfl, N0, (Keep.refl h0 [])⟩
theorem ef_14_3 (m : MethodId) (a1 : Addr) : entryFrame m #[(.ref a1), (.int (3 : Int32))] 3 = (mkF m 0 #[.val (.ref a1), .val (.int (3 : Int32)), .unset] []) := by first | (simp [entryFrame, mkF, argsToLocals, Value.category]; done) | rfl
abbrev Q14_3 (Z : State) (a1 : Addr) (vb : Addr) (x0 : Int32) (x1 : Int32) (x2 : Int32) (x3 : Int32) (x4 : Int32) (x5 : Int32) (x6 : Int32) (x7 : Int32) (x8 : Int32) (x9 : Int32) (x10 : Int32) (x11 : Int32) (x12 : Int32) (x13 : Int32) (x14 : Int32) (x15 : Int32) (h0 : Heap) (n0 : Nat) : Option Value → Heap → List Loc → Prop := (fun v h L => v = none ∧ Fr n0 L ∧ Keep h0 h [])
theorem rm14_3 (l : Launch) (Z : State) (a0 : Array Value) (hw : ∀ d ∈ tables_1, d.before a0 Z = true) (ws : List Jvm.Cond) (a1 : Addr) (vb : Addr) (x0 : Int32) (x1 : Int32) (x2 : Int32) (x3 : Int32) (x4 : Int32) (x5 : Int32) (x6 : Int32) (x7 : Int32) (x8 : Int32) (x9 : Int32) (x10 : Int32) (x11 : Int32) (x12 : Int32) (x13 : Int32) (x14 : Int32) (x15 : Int32) (h0 : Heap) (n0 : Nat) (R0 : Fld Z h0 a1 "java/lang/AbstractStringBuilder" "value" "[B" (.ref vb)) (R1 : Fld Z h0 a1 "java/lang/AbstractStringBuilder" "coder" "B" (.int (0 : Int32))) (R2 : OA Z h0 vb .byte [(.int x0), (.int x1), (.int x2), (.int x3), (.int x4), (.int x5), (.int x6), (.int x7), (.int x8), (.int x9), (.int x10), (.int x11), (.int x12), (.int x13), (.int x14), (.int x15)]) :
    OMet l Z (⟨"java/lang/AbstractStringBuilder", "ensureCapacityInternal", "(I)V"⟩ : MethodName) jdk_68_method_9_code 3 none ws ({ frames := 0, cells := 0, slots := 0, locals := 0 } : Room) #[(.ref a1), (.int (3 : Int32))] h0 (Q14_3 Z a1 vb x0 x1 x2 x3 x4 x5 x6 x7 x8 x9 x10 x11 x12 x13 x14 x15 h0 n0) := by
  refine own_enter pn_14 ?_
  intro p e s m below meth c s₁ hx hby hml0 hown hret hlk hnm hZ X0 e0
  have hml : c.maxLocals = 3 := hml0
  have B : BX p c jdk_68_method_9_code := ⟨hx, hby⟩
  have N0 := Fr.nil n0
  refine own_cast (ef_14_3 m a1) ?_
  refine waloadN OGc 1 X0 B d14_0 rfl rfl rfl ?_
  refine wgetF OGc 4 X0 B hZ hown (ow hw 63 rfl) e0 R0 d14_1 rfl fun T1 X1 e1 => ?_
  refine warlenA OGc 5 X1 B hZ e1 R2 (16 : Int32) rfl d14_4 rfl ?_
  refine waloadN OGc 6 X1 B d14_5 rfl rfl rfl ?_
  refine wgetF OGc 9 X1 B hZ hown (ow hw 65 rfl) e1 R1 d14_6 rfl fun T3 X3 e3 => ?_
  refine own_st (fun t k => XS.ishr X3.here hx rfl (hb hby d14_9) rfl k) ?_
  show OG p e _ s below _ T3 (mkF m 10 #[.val (.ref a1), .val (.int (3 : Int32)), .unset] [(.int (16 : Int32))])
  refine wistoreN OGc 11 X3 B d14_10 #[.val (.ref a1), .val (.int (3 : Int32)), .val (.int (16 : Int32))] rfl rfl ?_
  refine wiloadN OGc 12 X3 B d14_11 rfl rfl ?_
  refine wiloadN OGc 13 X3 B d14_12 rfl rfl ?_
  refine wisub OGc 14 X3 B d14_13 rfl ?_
  show OG p e _ s below _ T3 (mkF m 14 #[.val (.ref a1), .val (.int (3 : Int32)), .val (.int (16 : Int32))] [(.int (-13 : Int32))])
  refine wifYes OGc 38 X3 B d14_14 (by decide) rfl ?_
  refine own_ret0 X3 hx hret hlk (hb hby d14_38) (by decide) (by decide) ?_
  rw [e3]
  exact ⟨rfl, N0, (Keep.refl h0 [])⟩
theorem ef_14_4 (m : MethodId) (a1 : Addr) : entryFrame m #[(.ref a1), (.int (4 : Int32))] 3 = (mkF m 0 #[.val (.ref a1), .val (.int (4 : Int32)), .unset] []) := by first | (simp [entryFrame, mkF, argsToLocals, Value.category]; done) | rfl
abbrev Q14_4 (Z : State) (a1 : Addr) (vb : Addr) (x0 : Int32) (x1 : Int32) (x2 : Int32) (x3 : Int32) (x4 : Int32) (x5 : Int32) (x6 : Int32) (x7 : Int32) (x8 : Int32) (x9 : Int32) (x10 : Int32) (x11 : Int32) (x12 : Int32) (x13 : Int32) (x14 : Int32) (x15 : Int32) (h0 : Heap) (n0 : Nat) : Option Value → Heap → List Loc → Prop := (fun v h L => v = none ∧ Fr n0 L ∧ Keep h0 h [])
theorem rm14_4 (l : Launch) (Z : State) (a0 : Array Value) (hw : ∀ d ∈ tables_1, d.before a0 Z = true) (ws : List Jvm.Cond) (a1 : Addr) (vb : Addr) (x0 : Int32) (x1 : Int32) (x2 : Int32) (x3 : Int32) (x4 : Int32) (x5 : Int32) (x6 : Int32) (x7 : Int32) (x8 : Int32) (x9 : Int32) (x10 : Int32) (x11 : Int32) (x12 : Int32) (x13 : Int32) (x14 : Int32) (x15 : Int32) (h0 : Heap) (n0 : Nat) (R0 : Fld Z h0 a1 "java/lang/AbstractStringBuilder" "value" "[B" (.ref vb)) (R1 : Fld Z h0 a1 "java/lang/AbstractStringBuilder" "coder" "B" (.int (0 : Int32))) (R2 : OA Z h0 vb .byte [(.int x0), (.int x1), (.int x2), (.int x3), (.int x4), (.int x5), (.int x6), (.int x7), (.int x8), (.int x9), (.int x10), (.int x11), (.int x12), (.int x13), (.int x14), (.int x15)]) :
    OMet l Z (⟨"java/lang/AbstractStringBuilder", "ensureCapacityInternal", "(I)V"⟩ : MethodName) jdk_68_method_9_code 3 none ws ({ frames := 0, cells := 0, slots := 0, locals := 0 } : Room) #[(.ref a1), (.int (4 : Int32))] h0 (Q14_4 Z a1 vb x0 x1 x2 x3 x4 x5 x6 x7 x8 x9 x10 x11 x12 x13 x14 x15 h0 n0) := by
  refine own_enter pn_14 ?_
  intro p e s m below meth c s₁ hx hby hml0 hown hret hlk hnm hZ X0 e0
  have hml : c.maxLocals = 3 := hml0
  have B : BX p c jdk_68_method_9_code := ⟨hx, hby⟩
  have N0 := Fr.nil n0
  refine own_cast (ef_14_4 m a1) ?_
  refine waloadN OGc 1 X0 B d14_0 rfl rfl rfl ?_
  refine wgetF OGc 4 X0 B hZ hown (ow hw 63 rfl) e0 R0 d14_1 rfl fun T1 X1 e1 => ?_
  refine warlenA OGc 5 X1 B hZ e1 R2 (16 : Int32) rfl d14_4 rfl ?_
  refine waloadN OGc 6 X1 B d14_5 rfl rfl rfl ?_
  refine wgetF OGc 9 X1 B hZ hown (ow hw 65 rfl) e1 R1 d14_6 rfl fun T3 X3 e3 => ?_
  refine own_st (fun t k => XS.ishr X3.here hx rfl (hb hby d14_9) rfl k) ?_
  show OG p e _ s below _ T3 (mkF m 10 #[.val (.ref a1), .val (.int (4 : Int32)), .unset] [(.int (16 : Int32))])
  refine wistoreN OGc 11 X3 B d14_10 #[.val (.ref a1), .val (.int (4 : Int32)), .val (.int (16 : Int32))] rfl rfl ?_
  refine wiloadN OGc 12 X3 B d14_11 rfl rfl ?_
  refine wiloadN OGc 13 X3 B d14_12 rfl rfl ?_
  refine wisub OGc 14 X3 B d14_13 rfl ?_
  show OG p e _ s below _ T3 (mkF m 14 #[.val (.ref a1), .val (.int (4 : Int32)), .val (.int (16 : Int32))] [(.int (-12 : Int32))])
  refine wifYes OGc 38 X3 B d14_14 (by decide) rfl ?_
  refine own_ret0 X3 hx hret hlk (hb hby d14_38) (by decide) (by decide) ?_
  rw [e3]
  exact ⟨rfl, N0, (Keep.refl h0 [])⟩
theorem ef_14_5 (m : MethodId) (a1 : Addr) : entryFrame m #[(.ref a1), (.int (5 : Int32))] 3 = (mkF m 0 #[.val (.ref a1), .val (.int (5 : Int32)), .unset] []) := by first | (simp [entryFrame, mkF, argsToLocals, Value.category]; done) | rfl
abbrev Q14_5 (Z : State) (a1 : Addr) (vb : Addr) (x0 : Int32) (x1 : Int32) (x2 : Int32) (x3 : Int32) (x4 : Int32) (x5 : Int32) (x6 : Int32) (x7 : Int32) (x8 : Int32) (x9 : Int32) (x10 : Int32) (x11 : Int32) (x12 : Int32) (x13 : Int32) (x14 : Int32) (x15 : Int32) (h0 : Heap) (n0 : Nat) : Option Value → Heap → List Loc → Prop := (fun v h L => v = none ∧ Fr n0 L ∧ Keep h0 h [])
theorem rm14_5 (l : Launch) (Z : State) (a0 : Array Value) (hw : ∀ d ∈ tables_1, d.before a0 Z = true) (ws : List Jvm.Cond) (a1 : Addr) (vb : Addr) (x0 : Int32) (x1 : Int32) (x2 : Int32) (x3 : Int32) (x4 : Int32) (x5 : Int32) (x6 : Int32) (x7 : Int32) (x8 : Int32) (x9 : Int32) (x10 : Int32) (x11 : Int32) (x12 : Int32) (x13 : Int32) (x14 : Int32) (x15 : Int32) (h0 : Heap) (n0 : Nat) (R0 : Fld Z h0 a1 "java/lang/AbstractStringBuilder" "value" "[B" (.ref vb)) (R1 : Fld Z h0 a1 "java/lang/AbstractStringBuilder" "coder" "B" (.int (0 : Int32))) (R2 : OA Z h0 vb .byte [(.int x0), (.int x1), (.int x2), (.int x3), (.int x4), (.int x5), (.int x6), (.int x7), (.int x8), (.int x9), (.int x10), (.int x11), (.int x12), (.int x13), (.int x14), (.int x15)]) :
    OMet l Z (⟨"java/lang/AbstractStringBuilder", "ensureCapacityInternal", "(I)V"⟩ : MethodName) jdk_68_method_9_code 3 none ws ({ frames := 0, cells := 0, slots := 0, locals := 0 } : Room) #[(.ref a1), (.int (5 : Int32))] h0 (Q14_5 Z a1 vb x0 x1 x2 x3 x4 x5 x6 x7 x8 x9 x10 x11 x12 x13 x14 x15 h0 n0) := by
  refine own_enter pn_14 ?_
  intro p e s m below meth c s₁ hx hby hml0 hown hret hlk hnm hZ X0 e0
  have hml : c.maxLocals = 3 := hml0
  have B : BX p c jdk_68_method_9_code := ⟨hx, hby⟩
  have N0 := Fr.nil n0
  refine own_cast (ef_14_5 m a1) ?_
  refine waloadN OGc 1 X0 B d14_0 rfl rfl rfl ?_
  refine wgetF OGc 4 X0 B hZ hown (ow hw 63 rfl) e0 R0 d14_1 rfl fun T1 X1 e1 => ?_
  refine warlenA OGc 5 X1 B hZ e1 R2 (16 : Int32) rfl d14_4 rfl ?_
  refine waloadN OGc 6 X1 B d14_5 rfl rfl rfl ?_
  refine wgetF OGc 9 X1 B hZ hown (ow hw 65 rfl) e1 R1 d14_6 rfl fun T3 X3 e3 => ?_
  refine own_st (fun t k => XS.ishr X3.here hx rfl (hb hby d14_9) rfl k) ?_
  show OG p e _ s below _ T3 (mkF m 10 #[.val (.ref a1), .val (.int (5 : Int32)), .unset] [(.int (16 : Int32))])
  refine wistoreN OGc 11 X3 B d14_10 #[.val (.ref a1), .val (.int (5 : Int32)), .val (.int (16 : Int32))] rfl rfl ?_
  refine wiloadN OGc 12 X3 B d14_11 rfl rfl ?_
  refine wiloadN OGc 13 X3 B d14_12 rfl rfl ?_
  refine wisub OGc 14 X3 B d14_13 rfl ?_
  show OG p e _ s below _ T3 (mkF m 14 #[.val (.ref a1), .val (.int (5 : Int32)), .val (.int (16 : Int32))] [(.int (-11 : Int32))])
  refine wifYes OGc 38 X3 B d14_14 (by decide) rfl ?_
  refine own_ret0 X3 hx hret hlk (hb hby d14_38) (by decide) (by decide) ?_
  rw [e3]
  exact ⟨rfl, N0, (Keep.refl h0 [])⟩
theorem ef_14_6 (m : MethodId) (a1 : Addr) : entryFrame m #[(.ref a1), (.int (6 : Int32))] 3 = (mkF m 0 #[.val (.ref a1), .val (.int (6 : Int32)), .unset] []) := by first | (simp [entryFrame, mkF, argsToLocals, Value.category]; done) | rfl
abbrev Q14_6 (Z : State) (a1 : Addr) (vb : Addr) (x0 : Int32) (x1 : Int32) (x2 : Int32) (x3 : Int32) (x4 : Int32) (x5 : Int32) (x6 : Int32) (x7 : Int32) (x8 : Int32) (x9 : Int32) (x10 : Int32) (x11 : Int32) (x12 : Int32) (x13 : Int32) (x14 : Int32) (x15 : Int32) (h0 : Heap) (n0 : Nat) : Option Value → Heap → List Loc → Prop := (fun v h L => v = none ∧ Fr n0 L ∧ Keep h0 h [])
theorem rm14_6 (l : Launch) (Z : State) (a0 : Array Value) (hw : ∀ d ∈ tables_1, d.before a0 Z = true) (ws : List Jvm.Cond) (a1 : Addr) (vb : Addr) (x0 : Int32) (x1 : Int32) (x2 : Int32) (x3 : Int32) (x4 : Int32) (x5 : Int32) (x6 : Int32) (x7 : Int32) (x8 : Int32) (x9 : Int32) (x10 : Int32) (x11 : Int32) (x12 : Int32) (x13 : Int32) (x14 : Int32) (x15 : Int32) (h0 : Heap) (n0 : Nat) (R0 : Fld Z h0 a1 "java/lang/AbstractStringBuilder" "value" "[B" (.ref vb)) (R1 : Fld Z h0 a1 "java/lang/AbstractStringBuilder" "coder" "B" (.int (0 : Int32))) (R2 : OA Z h0 vb .byte [(.int x0), (.int x1), (.int x2), (.int x3), (.int x4), (.int x5), (.int x6), (.int x7), (.int x8), (.int x9), (.int x10), (.int x11), (.int x12), (.int x13), (.int x14), (.int x15)]) :
    OMet l Z (⟨"java/lang/AbstractStringBuilder", "ensureCapacityInternal", "(I)V"⟩ : MethodName) jdk_68_method_9_code 3 none ws ({ frames := 0, cells := 0, slots := 0, locals := 0 } : Room) #[(.ref a1), (.int (6 : Int32))] h0 (Q14_6 Z a1 vb x0 x1 x2 x3 x4 x5 x6 x7 x8 x9 x10 x11 x12 x13 x14 x15 h0 n0) := by
  refine own_enter pn_14 ?_
  intro p e s m below meth c s₁ hx hby hml0 hown hret hlk hnm hZ X0 e0
  have hml : c.maxLocals = 3 := hml0
  have B : BX p c jdk_68_method_9_code := ⟨hx, hby⟩
  have N0 := Fr.nil n0
  refine own_cast (ef_14_6 m a1) ?_
  refine waloadN OGc 1 X0 B d14_0 rfl rfl rfl ?_
  refine wgetF OGc 4 X0 B hZ hown (ow hw 63 rfl) e0 R0 d14_1 rfl fun T1 X1 e1 => ?_
  refine warlenA OGc 5 X1 B hZ e1 R2 (16 : Int32) rfl d14_4 rfl ?_
  refine waloadN OGc 6 X1 B d14_5 rfl rfl rfl ?_
  refine wgetF OGc 9 X1 B hZ hown (ow hw 65 rfl) e1 R1 d14_6 rfl fun T3 X3 e3 => ?_
  refine own_st (fun t k => XS.ishr X3.here hx rfl (hb hby d14_9) rfl k) ?_
  show OG p e _ s below _ T3 (mkF m 10 #[.val (.ref a1), .val (.int (6 : Int32)), .unset] [(.int (16 : Int32))])
  refine wistoreN OGc 11 X3 B d14_10 #[.val (.ref a1), .val (.int (6 : Int32)), .val (.int (16 : Int32))] rfl rfl ?_
  refine wiloadN OGc 12 X3 B d14_11 rfl rfl ?_
  refine wiloadN OGc 13 X3 B d14_12 rfl rfl ?_
  refine wisub OGc 14 X3 B d14_13 rfl ?_
  show OG p e _ s below _ T3 (mkF m 14 #[.val (.ref a1), .val (.int (6 : Int32)), .val (.int (16 : Int32))] [(.int (-10 : Int32))])
  refine wifYes OGc 38 X3 B d14_14 (by decide) rfl ?_
  refine own_ret0 X3 hx hret hlk (hb hby d14_38) (by decide) (by decide) ?_
  rw [e3]
  exact ⟨rfl, N0, (Keep.refl h0 [])⟩
theorem d16_0 : decode jdk_68_method_71_code 0 = .ok (.getstatic 18, 3) := by decide +kernel
theorem d16_3 : decode jdk_68_method_71_code 3 = .ok (.ifCond .eq 18, 3) := by decide +kernel
theorem d16_6 : decode jdk_68_method_71_code 6 = .ok (.aload_n 0, 1) := by decide +kernel
theorem d16_7 : decode jdk_68_method_71_code 7 = .ok (.getfield 22, 3) := by decide +kernel
theorem d16_10 : decode jdk_68_method_71_code 10 = .ok (.aload_n 1, 1) := by decide +kernel
theorem d16_11 : decode jdk_68_method_71_code 11 = .ok (.invokevirtual 40, 3) := by decide +kernel
theorem d16_14 : decode jdk_68_method_71_code 14 = .ok (.if_icmp .eq 7, 3) := by decide +kernel
theorem d16_21 : decode jdk_68_method_71_code 21 = .ok (.return_, 1) := by decide +kernel
theorem pn_16 : plainFor (⟨"java/lang/AbstractStringBuilder", "inflateIfNeededFor", "(Ljava/lang/String;)V"⟩ : MethodName) = true := by first | exact plainFor_of_name (by first | (simp [plainName, overriddenIn]; done) | decide +kernel) | decide +kernel
theorem ef_16 (m : MethodId) (a1 : Addr) (a2 : Addr) : entryFrame m #[(.ref a1), (.ref a2)] 2 = (mkF m 0 #[.val (.ref a1), .val (.ref a2)] []) := by first | (simp [entryFrame, mkF, argsToLocals, Value.category]; done) | rfl
abbrev Q16 (Z : State) (a1 : Addr) (a2 : Addr) (w : Int32) (h0 : Heap) (n0 : Nat) : Option Value → Heap → List Loc → Prop := (fun v h L => v = none ∧ Fr n0 L ∧ Keep h0 h [])
theorem rm16 (l : Launch) (Z : State) (a0 : Array Value) (hw : ∀ d ∈ tables_1, d.before a0 Z = true) (ws : List Jvm.Cond) (a1 : Addr) (a2 : Addr) (w : Int32) (h0 : Heap) (n0 : Nat) (R0 : Fld Z h0 a1 "java/lang/AbstractStringBuilder" "coder" "B" (.int (0 : Int32))) (R1 : Exa Z h0 a2 "java/lang/String") (R2 : Fld Z h0 a2 "java/lang/String" "coder" "B" (.int (0 : Int32))) (R3 : Sta Z h0 "java/lang/String" "COMPACT_STRINGS" "Z" (.int w)) (hw0 : ¬ w = (0 : Int32)) :
    OMet l Z (⟨"java/lang/AbstractStringBuilder", "inflateIfNeededFor", "(Ljava/lang/String;)V"⟩ : MethodName) jdk_68_method_71_code 2 none ws ({ frames := 1, cells := 0, slots := 0, locals := 13 } : Room) #[(.ref a1), (.ref a2)] h0 (Q16 Z a1 a2 w h0 n0) := by
  refine own_enter pn_16 ?_
  intro p e s m below meth c s₁ hx hby hml0 hown hret hlk hnm hZ X0 e0
  have hml : c.maxLocals = 2 := hml0
  have B : BX p c jdk_68_method_71_code := ⟨hx, hby⟩
  have N0 := Fr.nil n0
  refine own_cast (ef_16 m a1 a2) ?_
  refine wgetS OGc 3 X0 B hZ hown (ow hw 62 rfl) e0 R3 d16_0 rfl fun T1 X1 e1 => ?_
  refine wifNo OGc 6 X1 B d16_3 (own_if0 (feq hw0).1) rfl ?_
  refine waloadN OGc 7 X1 B d16_6 rfl rfl rfl ?_
  refine wgetF OGc 10 X1 B hZ hown (ow hw 65 rfl) e1 R0 d16_7 rfl fun T2 X2 e2 => ?_
  refine waloadN OGc 11 X2 B d16_10 rfl rfl rfl ?_
  refine wvirt OGc 14 X2 B hZ hown (ow hw 105 rfl) (ow hw 83 rfl) (ow hw 85 rfl) (ow hw 84 rfl) R1 (ow hw 86 rfl) (ow hw 6 rfl) e2 (rm13 l Z a0 hw [] a2 w h0 R2 R3 hw0) 1 (by decide) (by decide) hml rfl (lenOf pd___B rfl) [(.int (0 : Int32))] rfl rfl d16_11 rfl fun _ T3 L3 X3 hQ3 => ?_
  obtain ⟨rfl, rfl, e3⟩ := hQ3
  have N3 := Fr.app N0 (Fr.nil n0)
  refine own_stk (S' := [(.int (0 : Int32)), (.int (0 : Int32))]) rfl ?_
  refine wicmpYes OGc 21 X3 B d16_14 (by decide) rfl ?_
  refine own_ret0 X3 hx hret hlk (hb hby d16_21) (by decide) (by decide) ?_
  rw [e3]
  exact ⟨rfl, N3, (Keep.refl h0 [])⟩
theorem d17_0 : decode jdk_42_method_147_code 0 = .ok (.aload_n 0, 1) := by decide +kernel
theorem d17_1 : decode jdk_42_method_147_code 1 = .ok (.invokevirtual 335, 3) := by decide +kernel
theorem d17_4 : decode jdk_42_method_147_code 4 = .ok (.iload_n 3, 1) := by decide +kernel
theorem d17_5 : decode jdk_42_method_147_code 5 = .ok (.if_icmp .ne 23, 3) := by decide +kernel
theorem d17_8 : decode jdk_42_method_147_code 8 = .ok (.aload_n 0, 1) := by decide +kernel
theorem d17_9 : decode jdk_42_method_147_code 9 = .ok (.getfield 9, 3) := by decide +kernel
theorem d17_12 : decode jdk_42_method_147_code 12 = .ok (.iconst 0, 1) := by decide +kernel
theorem d17_13 : decode jdk_42_method_147_code 13 = .ok (.aload_n 1, 1) := by decide +kernel
theorem d17_14 : decode jdk_42_method_147_code 14 = .ok (.iload_n 2, 1) := by decide +kernel
theorem d17_15 : decode jdk_42_method_147_code 15 = .ok (.iload_n 3, 1) := by decide +kernel
theorem d17_16 : decode jdk_42_method_147_code 16 = .ok (.ishl, 1) := by decide +kernel
theorem d17_17 : decode jdk_42_method_147_code 17 = .ok (.aload_n 0, 1) := by decide +kernel
theorem d17_18 : decode jdk_42_method_147_code 18 = .ok (.getfield 9, 3) := by decide +kernel
theorem d17_21 : decode jdk_42_method_147_code 21 = .ok (.arraylength, 1) := by decide +kernel
theorem d17_22 : decode jdk_42_method_147_code 22 = .ok (.invokestatic 212, 3) := by decide +kernel
theorem d17_25 : decode jdk_42_method_147_code 25 = .ok (.goto 18, 3) := by decide +kernel
theorem d17_43 : decode jdk_42_method_147_code 43 = .ok (.return_, 1) := by decide +kernel
theorem pn_17 : plainFor (⟨"java/lang/String", "getBytes", "([BIB)V"⟩ : MethodName) = true := by first | exact plainFor_of_name (by first | (simp [plainName, overriddenIn]; done) | decide +kernel) | decide +kernel
theorem ef_17_0_0 (m : MethodId) (a1 : Addr) (a2 : Addr) : entryFrame m #[(.ref a1), (.ref a2), (.int (0 : Int32)), (.int (0 : Int32))] 4 = (mkF m 0 #[.val (.ref a1), .val (.ref a2), .val (.int (0 : Int32)), .val (.int (0 : Int32))] []) := by first | (simp [entryFrame, mkF, argsToLocals, Value.category]; done) | rfl
abbrev Q17_0_0 (Z : State) (a1 : Addr) (a2 : Addr) (b : Addr) (w : Int32) (h0 : Heap) (n0 : Nat) : Option Value → Heap → List Loc → Prop := (fun v h L => v = none ∧ Fr n0 L ∧ Keep h0 h [a2] ∧ OA Z h a2 .byte (obuf []))
theorem rm17_0_0 (l : Launch) (Z : State) (a0 : Array Value) (hw : ∀ d ∈ tables_1, d.before a0 Z = true) (ws : List Jvm.Cond) (a1 : Addr) (a2 : Addr) (b : Addr) (w : Int32) (h0 : Heap) (n0 : Nat) (R0 : Exa Z h0 a1 "java/lang/String") (R1 : Fld Z h0 a1 "java/lang/String" "value" "[B" (.ref b)) (R2 : Fld Z h0 a1 "java/lang/String" "coder" "B" (.int (0 : Int32))) (R3 : OA Z h0 b .byte (([] : List Int32).map obv)) (R4 : OA Z h0 a2 .byte (obuf [])) (R5 : Sta Z h0 "java/lang/String" "COMPACT_STRINGS" "Z" (.int w)) (g_a2 : n0 ≤ a2) (ne_a1_a2 : a1 ≠ a2) (ne_b_a2 : b ≠ a2) (hw0 : ¬ w = (0 : Int32)) :
    OMet l Z (⟨"java/lang/String", "getBytes", "([BIB)V"⟩ : MethodName) jdk_42_method_147_code 4 none ws ({ frames := 1, cells := 0, slots := 0, locals := 18 } : Room) #[(.ref a1), (.ref a2), (.int (0 : Int32)), (.int (0 : Int32))] h0 (Q17_0_0 Z a1 a2 b w h0 n0) := by
  refine own_enter pn_17 ?_
  intro p e s m below meth c s₁ hx hby hml0 hown hret hlk hnm hZ X0 e0
  have hml : c.maxLocals = 4 := hml0
  have B : BX p c jdk_42_method_147_code := ⟨hx, hby⟩
  have N0 := Fr.nil n0
  refine own_cast (ef_17_0_0 m a1 a2) ?_
  refine waloadN OGc 1 X0 B d17_0 rfl rfl rfl ?_
  refine wvirt OGc 4 X0 B hZ hown (ow hw 82 rfl) (ow hw 83 rfl) (ow hw 85 rfl) (ow hw 84 rfl) R0 (ow hw 86 rfl) (ow hw 6 rfl) e0 (rm13 l Z a0 hw [] a1 w h0 R2 R5 hw0) 0 (by decide) (by decide) hml rfl (lenOf pd___B rfl) [] rfl rfl d17_1 rfl fun _ T1 L1 X1 hQ1 => ?_
  obtain ⟨rfl, rfl, e1⟩ := hQ1
  have N1 := Fr.app N0 (Fr.nil n0)
  refine own_stk (S' := [(.int (0 : Int32))]) rfl ?_
  refine wiloadN OGc 5 X1 B d17_4 rfl rfl ?_
  refine wicmpNo OGc 8 X1 B d17_5 (by decide) rfl ?_
  refine waloadN OGc 9 X1 B d17_8 rfl rfl rfl ?_
  refine wgetF OGc 12 X1 B hZ hown (ow hw 24 rfl) e1 R1 d17_9 rfl fun T2 X2 e2 => ?_
  refine wiconst OGc 13 X2 B d17_12 0 rfl rfl ?_
  refine waloadN OGc 14 X2 B d17_13 rfl rfl rfl ?_
  refine wiloadN OGc 15 X2 B d17_14 rfl rfl ?_
  refine wiloadN OGc 16 X2 B d17_15 rfl rfl ?_
  refine own_st (fun t k => XS.ishl X2.here hx rfl (hb hby d17_16) rfl k) ?_
  show OG p e _ s below _ T2 (mkF m 17 #[.val (.ref a1), .val (.ref a2), .val (.int (0 : Int32)), .val (.int (0 : Int32))] [(.int (0 : Int32)), (.ref a2), (.int (0 : Int32)), (.ref b)])
  refine waloadN OGc 18 X2 B d17_17 rfl rfl rfl ?_
  refine wgetF OGc 21 X2 B hZ hown (ow hw 24 rfl) e2 R1 d17_18 rfl fun T3 X3 e3 => ?_
  refine warlenA OGc 22 X3 B hZ e3 R3 (0 : Int32) rfl d17_21 rfl ?_
  refine wcp OGc 25 X3 B hZ hown (ow hw 111 rfl) (ow hw 114 rfl) (ow hw 112 rfl) (ow hw 113 rfl) e3 R3 R4 (own_bytB [] 0) (own_bytB [] 16) 0 16 0 0 0 rfl rfl (z := (0 : Int32)) (z' := (16 : Int32)) (by decide) (([] : List Int32).map obv) rfl (obuf []) rfl rfl N1 g_a2 hml rfl d17_22 (W := 0) rfl (by decide) rfl fun T5 h5 L5 X5 e5 N5 K5q A5 => ?_
  have K5 : Keep h0 h5 [a2] := (Keep.refl h0 [a2]).trans K5q (own_all1 (Or.inl (List.mem_of_getElem? (i := 0) rfl)))
  have F6 := R0.keep K5q
  have F7 := R1.keep K5q (own_nin1 ne_a1_a2)
  have F8 := R2.keep K5q (own_nin1 ne_a1_a2)
  have F9 := R3.keep K5q (own_nin1 ne_b_a2)
  have F10 : OA Z h5 a2 .byte (obuf []) := A5
  have F11 := own_staK R5 K5q (own_all1 (own_plA R4))
  refine wgoto OGc 43 X5 B d17_25 rfl ?_
  refine own_ret0 X5 hx hret hlk (hb hby d17_43) (by decide) (by decide) ?_
  rw [e5]
  exact ⟨rfl, N5, K5, F10⟩
theorem d15_0 : decode jdk_68_method_73_code 0 = .ok (.aload_n 0, 1) := by decide +kernel
theorem d15_1 : decode jdk_68_method_73_code 1 = .ok (.aload_n 2, 1) := by decide +kernel
theorem d15_2 : decode jdk_68_method_73_code 2 = .ok (.invokevirtual 397, 3) := by decide +kernel
theorem d15_5 : decode jdk_68_method_73_code 5 = .ok (.aload_n 2, 1) := by decide +kernel
theorem d15_6 : decode jdk_68_method_73_code 6 = .ok (.aload_n 0, 1) := by decide +kernel
theorem d15_7 : decode jdk_68_method_73_code 7 = .ok (.getfield 15, 3) := by decide +kernel
theorem d15_10 : decode jdk_68_method_73_code 10 = .ok (.iload_n 1, 1) := by decide +kernel
theorem d15_11 : decode jdk_68_method_73_code 11 = .ok (.aload_n 0, 1) := by decide +kernel
theorem d15_12 : decode jdk_68_method_73_code 12 = .ok (.getfield 22, 3) := by decide +kernel
theorem d15_15 : decode jdk_68_method_73_code 15 = .ok (.invokevirtual 399, 3) := by decide +kernel
theorem d15_18 : decode jdk_68_method_73_code 18 = .ok (.return_, 1) := by decide +kernel
theorem pd__Ljava_lang_String__V : parseMethodDescriptor "(Ljava/lang/String;)V" = some ⟨[(.object "java/lang/String")], none⟩ := by decide +kernel
theorem pd___BIB_V : parseMethodDescriptor "([BIB)V" = some ⟨[(.array .byte), .int, .byte], none⟩ := by decide +kernel
theorem pn_15 : plainFor (⟨"java/lang/AbstractStringBuilder", "putStringAt", "(ILjava/lang/String;)V"⟩ : MethodName) = true := by first | exact plainFor_of_name (by first | (simp [plainName, overriddenIn]; done) | decide +kernel) | decide +kernel
theorem ef_15_0_0 (m : MethodId) (a1 : Addr) (a3 : Addr) : entryFrame m #[(.ref a1), (.int (0 : Int32)), (.ref a3)] 3 = (mkF m 0 #[.val (.ref a1), .val (.int (0 : Int32)), .val (.ref a3)] []) := by first | (simp [entryFrame, mkF, argsToLocals, Value.category]; done) | rfl
abbrev Q15_0_0 (Z : State) (a1 : Addr) (a3 : Addr) (vb : Addr) (b : Addr) (w : Int32) (h0 : Heap) (n0 : Nat) : Option Value → Heap → List Loc → Prop := (fun v h L => v = none ∧ Fr n0 L ∧ Keep h0 h [vb] ∧ OA Z h vb .byte (obuf []))
theorem rm15_0_0 (l : Launch) (Z : State) (a0 : Array Value) (hw : ∀ d ∈ tables_1, d.before a0 Z = true) (ws : List Jvm.Cond) (a1 : Addr) (a3 : Addr) (vb : Addr) (b : Addr) (w : Int32) (h0 : Heap) (n0 : Nat) (R0 : Exa Z h0 a1 "java/lang/StringBuilder") (R1 : Fld Z h0 a1 "java/lang/AbstractStringBuilder" "value" "[B" (.ref vb)) (R2 : Fld Z h0 a1 "java/lang/AbstractStringBuilder" "coder" "B" (.int (0 : Int32))) (R3 : OA Z h0 vb .byte (obuf [])) (R4 : Exa Z h0 a3 "java/lang/String") (R5 : Fld Z h0 a3 "java/lang/String" "value" "[B" (.ref b)) (R6 : Fld Z h0 a3 "java/lang/String" "coder" "B" (.int (0 : Int32))) (R7 : OA Z h0 b .byte (([] : List Int32).map obv)) (R8 : Sta Z h0 "java/lang/String" "COMPACT_STRINGS" "Z" (.int w)) (g_vb : n0 ≤ vb) (ne_a3_vb : a3 ≠ vb) (ne_b_vb : b ≠ vb) (ne_a1_vb : a1 ≠ vb) (hw0 : ¬ w = (0 : Int32)) :
    OMet l Z (⟨"java/lang/AbstractStringBuilder", "putStringAt", "(ILjava/lang/String;)V"⟩ : MethodName) jdk_68_method_73_code 3 none ws ({ frames := 2, cells := 0, slots := 0, locals := 33 } : Room) #[(.ref a1), (.int (0 : Int32)), (.ref a3)] h0 (Q15_0_0 Z a1 a3 vb b w h0 n0) := by
  refine own_enter pn_15 ?_
  intro p e s m below meth c s₁ hx hby hml0 hown hret hlk hnm hZ X0 e0
  have hml : c.maxLocals = 3 := hml0
  have B : BX p c jdk_68_method_73_code := ⟨hx, hby⟩
  have N0 := Fr.nil n0
  refine own_cast (ef_15_0_0 m a1 a3) ?_
  refine waloadN OGc 1 X0 B d15_0 rfl rfl rfl ?_
  refine waloadN OGc 2 X0 B d15_1 rfl rfl rfl ?_
  refine wpriv OGc 5 X0 B hZ hown (ow hw 100 rfl) (ow hw 101 rfl) (own_selp2 hZ (ow hw 103 rfl) (ow hw 102 rfl) (ow hw 101 rfl) (by decide)) (ow hw 102 rfl) R0 (ow hw 104 rfl) (ow hw 59 rfl) e0 (rm16 l Z a0 hw [] a1 a3 w h0 n0 R2 R4 R6 R8 hw0) 0 (by decide) (by decide) hml rfl (lenOf pd__Ljava_lang_String__V rfl) [] rfl rfl d15_2 rfl fun _ T1 L1 X1 hQ1 => ?_
  obtain ⟨rfl, N1q, K1q⟩ := hQ1
  have N1 := Fr.app N0 N1q
  have K1 := (Keep.refl h0 [vb]).trans K1q (own_all0 )
  have F2 := R0.keep K1q
  have F3 := R1.keep K1q (own_nin0 )
  have F4 := R2.keep K1q (own_nin0 )
  have F5 := R3.keep K1q (own_nin0 )
  have F6 := R4.keep K1q
  have F7 := R5.keep K1q (own_nin0 )
  have F8 := R6.keep K1q (own_nin0 )
  have F9 := R7.keep K1q (own_nin0 )
  have F10 := own_staK R8 K1q (own_all0 )
  refine own_stk (S' := []) rfl ?_
  refine waloadN OGc 6 X1 B d15_5 rfl rfl rfl ?_
  refine waloadN OGc 7 X1 B d15_6 rfl rfl rfl ?_
  refine wgetF OGc 10 X1 B hZ hown (ow hw 63 rfl) rfl F3 d15_7 rfl fun T11 X11 e11 => ?_
  refine wiloadN OGc 11 X11 B d15_10 rfl rfl ?_
  refine waloadN OGc 12 X11 B d15_11 rfl rfl rfl ?_
  refine wgetF OGc 15 X11 B hZ hown (ow hw 65 rfl) e11 F4 d15_12 rfl fun T12 X12 e12 => ?_
  refine wvirt OGc 18 X12 B hZ hown (ow hw 106 rfl) (ow hw 107 rfl) (ow hw 109 rfl) (ow hw 108 rfl) F6 (ow hw 110 rfl) (ow hw 6 rfl) e12 (rm17_0_0 l Z a0 hw [] a3 vb b w T1.heap n0 F6 F7 F8 F9 F5 F10 g_vb ne_a3_vb ne_b_vb hw0) 0 (by decide) (by decide) hml rfl (lenOf pd___BIB_V rfl) [] rfl rfl d15_15 rfl fun _ T13 L13 X13 hQ13 => ?_
  obtain ⟨rfl, N13q, K13q, P13_0⟩ := hQ13
  have N13 := Fr.app N1 N13q
  have K13 := K1.trans K13q (own_all1 (Or.inl (List.mem_of_getElem? (i := 0) rfl)))
  have F14 := F2.keep K13q
  have F15 := F3.keep K13q (own_nin1 ne_a1_vb)
  have F16 := F4.keep K13q (own_nin1 ne_a1_vb)
  have F17 := F6.keep K13q
  have F18 := F7.keep K13q (own_nin1 ne_a3_vb)
  have F19 := F8.keep K13q (own_nin1 ne_a3_vb)
  have F20 := F9.keep K13q (own_nin1 ne_b_vb)
  have F21 := own_staK F10 K13q (own_all1 (own_plA F5))
  refine own_stk (S' := []) rfl ?_
  refine own_ret0 X13 hx hret hlk (hb hby d15_18) (by decide) (by decide) ?_
  exact ⟨rfl, N13, K13, P13_0⟩
theorem d11_0 : decode jdk_68_method_22_code 0 = .ok (.aload_n 1, 1) := by decide +kernel
theorem d11_1 : decode jdk_68_method_22_code 1 = .ok (.ifnonnull 8, 3) := by decide +kernel
theorem d11_9 : decode jdk_68_method_22_code 9 = .ok (.aload_n 1, 1) := by decide +kernel
theorem d11_10 : decode jdk_68_method_22_code 10 = .ok (.invokevirtual 32, 3) := by decide +kernel
theorem d11_13 : decode jdk_68_method_22_code 13 = .ok (.istore_n 2, 1) := by decide +kernel
theorem d11_14 : decode jdk_68_method_22_code 14 = .ok (.aload_n 0, 1) := by decide +kernel
theorem d11_15 : decode jdk_68_method_22_code 15 = .ok (.aload_n 0, 1) := by decide +kernel
theorem d11_16 : decode jdk_68_method_22_code 16 = .ok (.getfield 79, 3) := by decide +kernel
theorem d11_19 : decode jdk_68_method_22_code 19 = .ok (.iload_n 2, 1) := by decide +kernel
theorem d11_20 : decode jdk_68_method_22_code 20 = .ok (.iadd, 1) := by decide +kernel
theorem d11_21 : decode jdk_68_method_22_code 21 = .ok (.invokevirtual 100, 3) := by decide +kernel
theorem d11_24 : decode jdk_68_method_22_code 24 = .ok (.aload_n 0, 1) := by decide +kernel
theorem d11_25 : decode jdk_68_method_22_code 25 = .ok (.aload_n 0, 1) := by decide +kernel
theorem d11_26 : decode jdk_68_method_22_code 26 = .ok (.getfield 79, 3) := by decide +kernel
theorem d11_29 : decode jdk_68_method_22_code 29 = .ok (.aload_n 1, 1) := by decide +kernel
theorem d11_30 : decode jdk_68_method_22_code 30 = .ok (.invokevirtual 208, 3) := by decide +kernel
theorem d11_33 : decode jdk_68_method_22_code 33 = .ok (.aload_n 0, 1) := by decide +kernel
theorem d11_34 : decode jdk_68_method_22_code 34 = .ok (.dup, 1) := by decide +kernel
theorem d11_35 : decode jdk_68_method_22_code 35 = .ok (.getfield 79, 3) := by decide +kernel
theorem d11_38 : decode jdk_68_method_22_code 38 = .ok (.iload_n 2, 1) := by decide +kernel
theorem d11_39 : decode jdk_68_method_22_code 39 = .ok (.iadd, 1) := by decide +kernel
theorem d11_40 : decode jdk_68_method_22_code 40 = .ok (.putfield 79, 3) := by decide +kernel
theorem d11_43 : decode jdk_68_method_22_code 43 = .ok (.aload_n 0, 1) := by decide +kernel
theorem d11_44 : decode jdk_68_method_22_code 44 = .ok (.areturn, 1) := by decide +kernel
theorem pd__ILjava_lang_String__V : parseMethodDescriptor "(ILjava/lang/String;)V" = some ⟨[.int, (.object "java/lang/String")], none⟩ := by decide +kernel
theorem pn_11 : plainFor (⟨"java/lang/AbstractStringBuilder", "append", "(Ljava/lang/String;)Ljava/lang/AbstractStringBuilder;"⟩ : MethodName) = true := by first | exact plainFor_of_name (by first | (simp [plainName, overriddenIn]; done) | decide +kernel) | decide +kernel
theorem ef_11 (m : MethodId) (a1 : Addr) (a2 : Addr) : entryFrame m #[(.ref a1), (.ref a2)] 3 = (mkF m 0 #[.val (.ref a1), .val (.ref a2), .unset] []) := by first | (simp [entryFrame, mkF, argsToLocals, Value.category]; done) | rfl
abbrev Q11_0_0 (Z : State) (a1 : Addr) (a2 : Addr) (vb : Addr) (b : Addr) (w : Int32) (h0 : Heap) (n0 : Nat) : Option Value → Heap → List Loc → Prop := (fun v h L => v = some (.ref a1) ∧ Fr n0 L ∧ Keep h0 h [a1, vb] ∧ Exa Z h a1 "java/lang/StringBuilder" ∧ Fld Z h a1 "java/lang/AbstractStringBuilder" "value" "[B" (.ref vb) ∧ Fld Z h a1 "java/lang/AbstractStringBuilder" "coder" "B" (.int (0 : Int32)) ∧ Fld Z h a1 "java/lang/AbstractStringBuilder" "count" "I" (.int (0 : Int32)) ∧ OA Z h vb .byte (obuf []))
theorem rm11_0_0 (l : Launch) (Z : State) (a0 : Array Value) (hw : ∀ d ∈ tables_1, d.before a0 Z = true) (ws : List Jvm.Cond) (a1 : Addr) (a2 : Addr) (vb : Addr) (b : Addr) (w : Int32) (h0 : Heap) (n0 : Nat) (R0 : Exa Z h0 a1 "java/lang/StringBuilder") (R1 : Fld Z h0 a1 "java/lang/AbstractStringBuilder" "value" "[B" (.ref vb)) (R2 : Fld Z h0 a1 "java/lang/AbstractStringBuilder" "coder" "B" (.int (0 : Int32))) (R3 : Fld Z h0 a1 "java/lang/AbstractStringBuilder" "count" "I" (.int (0 : Int32))) (R4 : OA Z h0 vb .byte (obuf [])) (R5 : Exa Z h0 a2 "java/lang/String") (R6 : Fld Z h0 a2 "java/lang/String" "value" "[B" (.ref b)) (R7 : Fld Z h0 a2 "java/lang/String" "coder" "B" (.int (0 : Int32))) (R8 : OA Z h0 b .byte (([] : List Int32).map obv)) (R9 : Sta Z h0 "java/lang/String" "COMPACT_STRINGS" "Z" (.int w)) (g_a1 : n0 ≤ a1) (g_vb : n0 ≤ vb) (ne_a2_vb : a2 ≠ vb) (ne_b_vb : b ≠ vb) (ne_a1_vb : a1 ≠ vb) (ne_a1_a2 : a1 ≠ a2) (ne_a1_b : a1 ≠ b) (hw0 : ¬ w = (0 : Int32)) :
    OMet l Z (⟨"java/lang/AbstractStringBuilder", "append", "(Ljava/lang/String;)Ljava/lang/AbstractStringBuilder;"⟩ : MethodName) jdk_68_method_22_code 3 (some (.object "java/lang/AbstractStringBuilder")) ws ({ frames := 3, cells := 0, slots := 0, locals := 47 } : Room) #[(.ref a1), (.ref a2)] h0 (Q11_0_0 Z a1 a2 vb b w h0 n0) := by
  refine own_enter pn_11 ?_
  intro p e s m below meth c s₁ hx hby hml0 hown hret hlk hnm hZ X0 e0
  have hml : c.maxLocals = 3 := hml0
  have B : BX p c jdk_68_method_22_code := ⟨hx, hby⟩
  have N0 := Fr.nil n0
  refine own_cast (ef_11 m a1 a2) ?_
  refine waloadN OGc 1 X0 B d11_0 rfl rfl rfl ?_
  refine wifnonnullYes OGc 9 X0 B d11_1 rfl ?_
  refine waloadN OGc 10 X0 B d11_9 rfl rfl rfl ?_
  refine wvirt OGc 13 X0 B hZ hown (ow hw 77 rfl) (ow hw 78 rfl) (ow hw 80 rfl) (ow hw 79 rfl) R5 (ow hw 81 rfl) (ow hw 6 rfl) e0 (rm12 l Z a0 hw [] a2 b ([] : List Int32) w h0 R5 R6 R7 R8 R9 hw0) 0 (by decide) (by decide) hml rfl (lenOf pd___I rfl) [] rfl rfl d11_10 rfl fun _ T1 L1 X1 hQ1 => ?_
  obtain ⟨rfl, rfl, e1⟩ := hQ1
  have N1 := Fr.app N0 (Fr.nil n0)
  refine own_stk (S' := [(.int (0 : Int32))]) rfl ?_
  refine wistoreN OGc 14 X1 B d11_13 #[.val (.ref a1), .val (.ref a2), .val (.int (0 : Int32))] rfl rfl ?_
  refine waloadN OGc 15 X1 B d11_14 rfl rfl rfl ?_
  refine waloadN OGc 16 X1 B d11_15 rfl rfl rfl ?_
  refine wgetF OGc 19 X1 B hZ hown (ow hw 88 rfl) e1 R3 d11_16 rfl fun T2 X2 e2 => ?_
  refine wiloadN OGc 20 X2 B d11_19 rfl rfl ?_
  refine wiadd OGc 21 X2 B d11_20 rfl ?_
  show OG p e _ s below _ T2 (mkF m 21 #[.val (.ref a1), .val (.ref a2), .val (.int (0 : Int32))] [(.int (0 : Int32)), (.ref a1)])
  refine wpriv OGc 24 X2 B hZ hown (ow hw 90 rfl) (ow hw 91 rfl) (own_selp2 hZ (ow hw 93 rfl) (ow hw 92 rfl) (ow hw 91 rfl) (by decide)) (ow hw 92 rfl) R0 (ow hw 94 rfl) (ow hw 59 rfl) e2 (rm14_0 l Z a0 hw [] a1 vb (0 : Int32) (0 : Int32) (0 : Int32) (0 : Int32) (0 : Int32) (0 : Int32) (0 : Int32) (0 : Int32) (0 : Int32) (0 : Int32) (0 : Int32) (0 : Int32) (0 : Int32) (0 : Int32) (0 : Int32) (0 : Int32) h0 n0 R1 R2 R4) 0 (by decide) (by decide) hml rfl (lenOf pd__I_V rfl) [] rfl rfl d11_21 rfl fun _ T3 L3 X3 hQ3 => ?_
  obtain ⟨rfl, N3q, K3q⟩ := hQ3
  have N3 := Fr.app N1 N3q
  have K3 := (Keep.refl h0 [a1, vb]).trans K3q (own_all0 )
  have F4 := R0.keep K3q
  have F5 := R1.keep K3q (own_nin0 )
  have F6 := R2.keep K3q (own_nin0 )
  have F7 := R3.keep K3q (own_nin0 )
  have F8 := R4.keep K3q (own_nin0 )
  have F9 := R5.keep K3q
  have F10 := R6.keep K3q (own_nin0 )
  have F11 := R7.keep K3q (own_nin0 )
  have F12 := R8.keep K3q (own_nin0 )
  have F13 := own_staK R9 K3q (own_all0 )
  refine own_stk (S' := []) rfl ?_
  refine waloadN OGc 25 X3 B d11_24 rfl rfl rfl ?_
  refine waloadN OGc 26 X3 B d11_25 rfl rfl rfl ?_
  refine wgetF OGc 29 X3 B hZ hown (ow hw 88 rfl) rfl F7 d11_26 rfl fun T14 X14 e14 => ?_
  refine waloadN OGc 30 X14 B d11_29 rfl rfl rfl ?_
  refine wpriv OGc 33 X14 B hZ hown (ow hw 95 rfl) (ow hw 96 rfl) (own_selp2 hZ (ow hw 98 rfl) (ow hw 97 rfl) (ow hw 96 rfl) (by decide)) (ow hw 97 rfl) F4 (ow hw 99 rfl) (ow hw 59 rfl) e14 (rm15_0_0 l Z a0 hw [] a1 a2 vb b w T3.heap n0 F4 F5 F6 F8 F9 F10 F11 F12 F13 g_vb ne_a2_vb ne_b_vb ne_a1_vb hw0) 0 (by decide) (by decide) hml rfl (lenOf pd__ILjava_lang_String__V rfl) [] rfl rfl d11_30 rfl fun _ T15 L15 X15 hQ15 => ?_
  obtain ⟨rfl, N15q, K15q, P15_0⟩ := hQ15
  have N15 := Fr.app N3 N15q
  have K15 := K3.trans K15q (own_all1 (Or.inl (List.mem_of_getElem? (i := 1) rfl)))
  have F16 := F4.keep K15q
  have F17 := F5.keep K15q (own_nin1 ne_a1_vb)
  have F18 := F6.keep K15q (own_nin1 ne_a1_vb)
  have F19 := F7.keep K15q (own_nin1 ne_a1_vb)
  have F20 := F9.keep K15q
  have F21 := F10.keep K15q (own_nin1 ne_a2_vb)
  have F22 := F11.keep K15q (own_nin1 ne_a2_vb)
  have F23 := F12.keep K15q (own_nin1 ne_b_vb)
  have F24 := own_staK F13 K15q (own_all1 (own_plA F8))
  refine own_stk (S' := []) rfl ?_
  refine waloadN OGc 34 X15 B d11_33 rfl rfl rfl ?_
  refine wdup OGc 35 X15 B d11_34 rfl rfl ?_
  refine wgetF OGc 38 X15 B hZ hown (ow hw 88 rfl) rfl F19 d11_35 rfl fun T25 X25 e25 => ?_
  refine wiloadN OGc 39 X25 B d11_38 rfl rfl ?_
  refine wiadd OGc 40 X25 B d11_39 rfl ?_
  show OG p e _ s below _ T25 (mkF m 40 #[.val (.ref a1), .val (.ref a2), .val (.int (0 : Int32))] [(.int (0 : Int32)), (.ref a1)])
  refine wputF OGc 43 X25 B hZ hown (ow hw 88 rfl) e25 F19 F16 (Or.inl (ow hw 89 rfl)) (ow hw 50 rfl) (ty := .int) (by decide) rfl rfl d11_40 rfl fun T26 h26 X26 e26 W26 => ?_
  have N26 := Fr.snoc X26 N15 g_a1
  have K27 := K15.wr W26 (Or.inl (List.mem_of_getElem? (i := 0) rfl))
  have F28 := F16.wr W26
  have F29 := F17.other W26 (Or.inr (slot_ne (Or.inl (ow hw 64 rfl)) (Or.inl (ow hw 89 rfl)) (by decide) (t := (.array .byte)) (t' := .int) (by decide) (by decide)))
  have F30 := F18.other W26 (Or.inr (slot_ne (Or.inl (ow hw 66 rfl)) (Or.inl (ow hw 89 rfl)) (by decide) (t := .byte) (t' := .int) (by decide) (by decide)))
  have F31 : Fld Z h26 a1 "java/lang/AbstractStringBuilder" "count" "I" (.int (0 : Int32)) := (F19.same W26)
  have F32 := F20.wr W26
  have F33 := F21.other W26 (Or.inl (Ne.symm ne_a1_a2))
  have F34 := F22.other W26 (Or.inl (Ne.symm ne_a1_a2))
  have F35 := F23.other W26 (Ne.symm ne_a1_b)
  have F36 := F24.wr W26
  have F37 := P15_0.other W26 (Ne.symm ne_a1_vb)
  refine waloadN OGc 44 X26 B d11_43 rfl rfl rfl ?_
  refine own_retV X26 hx hret rfl (Or.inr (Or.inr (Or.inr (Or.inr ⟨rfl, rfl, rfl⟩)))) hlk (hb hby d11_44) (by decide) (by decide) ?_
  rw [e26]
  exact ⟨rfl, N26, K27, F28, F29, F30, F31, F37⟩
theorem ef_17_0_1 (m : MethodId) (a1 : Addr) (a2 : Addr) : entryFrame m #[(.ref a1), (.ref a2), (.int (0 : Int32)), (.int (0 : Int32))] 4 = (mkF m 0 #[.val (.ref a1), .val (.ref a2), .val (.int (0 : Int32)), .val (.int (0 : Int32))] []) := by first | (simp [entryFrame, mkF, argsToLocals, Value.category]; done) | rfl
abbrev Q17_0_1 (Z : State) (a1 : Addr) (a2 : Addr) (b : Addr) (x0 : Int32) (w : Int32) (h0 : Heap) (n0 : Nat) : Option Value → Heap → List Loc → Prop := (fun v h L => v = none ∧ Fr n0 L ∧ Keep h0 h [a2] ∧ OA Z h a2 .byte (obuf [x0]))
theorem rm17_0_1 (l : Launch) (Z : State) (a0 : Array Value) (hw : ∀ d ∈ tables_1, d.before a0 Z = true) (ws : List Jvm.Cond) (a1 : Addr) (a2 : Addr) (b : Addr) (x0 : Int32) (w : Int32) (h0 : Heap) (n0 : Nat) (R0 : Exa Z h0 a1 "java/lang/String") (R1 : Fld Z h0 a1 "java/lang/String" "value" "[B" (.ref b)) (R2 : Fld Z h0 a1 "java/lang/String" "coder" "B" (.int (0 : Int32))) (R3 : OA Z h0 b .byte (([x0] : List Int32).map obv)) (R4 : OA Z h0 a2 .byte (obuf [])) (R5 : Sta Z h0 "java/lang/String" "COMPACT_STRINGS" "Z" (.int w)) (g_a2 : n0 ≤ a2) (ne_a1_a2 : a1 ≠ a2) (ne_b_a2 : b ≠ a2) (hw0 : ¬ w = (0 : Int32)) :
    OMet l Z (⟨"java/lang/String", "getBytes", "([BIB)V"⟩ : MethodName) jdk_42_method_147_code 4 none ws ({ frames := 1, cells := 0, slots := 0, locals := 18 } : Room) #[(.ref a1), (.ref a2), (.int (0 : Int32)), (.int (0 : Int32))] h0 (Q17_0_1 Z a1 a2 b x0 w h0 n0) := by
  refine own_enter pn_17 ?_
  intro p e s m below meth c s₁ hx hby hml0 hown hret hlk hnm hZ X0 e0
  have hml : c.maxLocals = 4 := hml0
  have B : BX p c jdk_42_method_147_code := ⟨hx, hby⟩
  have N0 := Fr.nil n0
  refine own_cast (ef_17_0_1 m a1 a2) ?_
  refine waloadN OGc 1 X0 B d17_0 rfl rfl rfl ?_
  refine wvirt OGc 4 X0 B hZ hown (ow hw 82 rfl) (ow hw 83 rfl) (ow hw 85 rfl) (ow hw 84 rfl) R0 (ow hw 86 rfl) (ow hw 6 rfl) e0 (rm13 l Z a0 hw [] a1 w h0 R2 R5 hw0) 0 (by decide) (by decide) hml rfl (lenOf pd___B rfl) [] rfl rfl d17_1 rfl fun _ T1 L1 X1 hQ1 => ?_
  obtain ⟨rfl, rfl, e1⟩ := hQ1
  have N1 := Fr.app N0 (Fr.nil n0)
  refine own_stk (S' := [(.int (0 : Int32))]) rfl ?_
  refine wiloadN OGc 5 X1 B d17_4 rfl rfl ?_
  refine wicmpNo OGc 8 X1 B d17_5 (by decide) rfl ?_
  refine waloadN OGc 9 X1 B d17_8 rfl rfl rfl ?_
  refine wgetF OGc 12 X1 B hZ hown (ow hw 24 rfl) e1 R1 d17_9 rfl fun T2 X2 e2 => ?_
  refine wiconst OGc 13 X2 B d17_12 0 rfl rfl ?_
  refine waloadN OGc 14 X2 B d17_13 rfl rfl rfl ?_
  refine wiloadN OGc 15 X2 B d17_14 rfl rfl ?_
  refine wiloadN OGc 16 X2 B d17_15 rfl rfl ?_
  refine own_st (fun t k => XS.ishl X2.here hx rfl (hb hby d17_16) rfl k) ?_
  show OG p e _ s below _ T2 (mkF m 17 #[.val (.ref a1), .val (.ref a2), .val (.int (0 : Int32)), .val (.int (0 : Int32))] [(.int (0 : Int32)), (.ref a2), (.int (0 : Int32)), (.ref b)])
  refine waloadN OGc 18 X2 B d17_17 rfl rfl rfl ?_
  refine wgetF OGc 21 X2 B hZ hown (ow hw 24 rfl) e2 R1 d17_18 rfl fun T3 X3 e3 => ?_
  refine warlenA OGc 22 X3 B hZ e3 R3 (1 : Int32) rfl d17_21 rfl ?_
  refine wcp OGc 25 X3 B hZ hown (ow hw 111 rfl) (ow hw 114 rfl) (ow hw 112 rfl) (ow hw 113 rfl) e3 R3 R4 (own_bytB [x0] 0) (own_bytB [] 16) 1 16 0 0 1 rfl rfl (z := (1 : Int32)) (z' := (16 : Int32)) (by decide) (([x0] : List Int32).map obv) rfl (obuf [x0]) rfl rfl N1 g_a2 hml rfl d17_22 (W := 0) rfl (by decide) rfl fun T5 h5 L5 X5 e5 N5 K5q A5 => ?_
  have K5 : Keep h0 h5 [a2] := (Keep.refl h0 [a2]).trans K5q (own_all1 (Or.inl (List.mem_of_getElem? (i := 0) rfl)))
  have F6 := R0.keep K5q
  have F7 := R1.keep K5q (own_nin1 ne_a1_a2)
  have F8 := R2.keep K5q (own_nin1 ne_a1_a2)
  have F9 := R3.keep K5q (own_nin1 ne_b_a2)
  have F10 : OA Z h5 a2 .byte (obuf [x0]) := A5
  have F11 := own_staK R5 K5q (own_all1 (own_plA R4))
  refine wgoto OGc 43 X5 B d17_25 rfl ?_
  refine own_ret0 X5 hx hret hlk (hb hby d17_43) (by decide) (by decide) ?_
  rw [e5]
  exact ⟨rfl, N5, K5, F10⟩
theorem ef_15_0_1 (m : MethodId) (a1 : Addr) (a3 : Addr) : entryFrame m #[(.ref a1), (.int (0 : Int32)), (.ref a3)] 3 = (mkF m 0 #[.val (.ref a1), .val (.int (0 : Int32)), .val (.ref a3)] []) := by first | (simp [entryFrame, mkF, argsToLocals, Value.category]; done) | rfl
abbrev Q15_0_1 (Z : State) (a1 : Addr) (a3 : Addr) (vb : Addr) (b : Addr) (x0 : Int32) (w : Int32) (h0 : Heap) (n0 : Nat) : Option Value → Heap → List Loc → Prop := (fun v h L => v = none ∧ Fr n0 L ∧ Keep h0 h [vb] ∧ OA Z h vb .byte (obuf [x0]))
theorem rm15_0_1 (l : Launch) (Z : State) (a0 : Array Value) (hw : ∀ d ∈ tables_1, d.before a0 Z = true) (ws : List Jvm.Cond) (a1 : Addr) (a3 : Addr) (vb : Addr) (b : Addr) (x0 : Int32) (w : Int32) (h0 : Heap) (n0 : Nat) (R0 : Exa Z h0 a1 "java/lang/StringBuilder") (R1 : Fld Z h0 a1 "java/lang/AbstractStringBuilder" "value" "[B" (.ref vb)) (R2 : Fld Z h0 a1 "java/lang/AbstractStringBuilder" "coder" "B" (.int (0 : Int32))) (R3 : OA Z h0 vb .byte (obuf [])) (R4 : Exa Z h0 a3 "java/lang/String") (R5 : Fld Z h0 a3 "java/lang/String" "value" "[B" (.ref b)) (R6 : Fld Z h0 a3 "java/lang/String" "coder" "B" (.int (0 : Int32))) (R7 : OA Z h0 b .byte (([x0] : List Int32).map obv)) (R8 : Sta Z h0 "java/lang/String" "COMPACT_STRINGS" "Z" (.int w)) (g_vb : n0 ≤ vb) (ne_a3_vb : a3 ≠ vb) (ne_b_vb : b ≠ vb) (ne_a1_vb : a1 ≠ vb) (hw0 : ¬ w = (0 : Int32)) :
    OMet l Z (⟨"java/lang/AbstractStringBuilder", "putStringAt", "(ILjava/lang/String;)V"⟩ : MethodName) jdk_68_method_73_code 3 none ws ({ frames := 2, cells := 0, slots := 0, locals := 33 } : Room) #[(.ref a1), (.int (0 : Int32)), (.ref a3)] h0 (Q15_0_1 Z a1 a3 vb b x0 w h0 n0) := by
  refine own_enter pn_15 ?_
  intro p e s m below meth c s₁ hx hby hml0 hown hret hlk hnm hZ X0 e0
  have hml : c.maxLocals = 3 := hml0
  have B : BX p c jdk_68_method_73_code := ⟨hx, hby⟩
  have N0 := Fr.nil n0
  refine own_cast (ef_15_0_1 m a1 a3) ?_
  refine waloadN OGc 1 X0 B d15_0 rfl rfl rfl ?_
  refine waloadN OGc 2 X0 B d15_1 rfl rfl rfl ?_
  refine wpriv OGc 5 X0 B hZ hown (ow hw 100 rfl) (ow hw 101 rfl) (own_selp2 hZ (ow hw 103 rfl) (ow hw 102 rfl) (ow hw 101 rfl) (by decide)) (ow hw 102 rfl) R0 (ow hw 104 rfl) (ow hw 59 rfl) e0 (rm16 l Z a0 hw [] a1 a3 w h0 n0 R2 R4 R6 R8 hw0) 0 (by decide) (by decide) hml rfl (lenOf pd__Ljava_lang_String__V rfl) [] rfl rfl d15_2 rfl fun _ T1 L1 X1 hQ1 => ?_
  obtain ⟨rfl, N1q, K1q⟩ := hQ1
  have N1 := Fr.app N0 N1q
  have K1 := (Keep.refl h0 [vb]).trans K1q (own_all0 )
  have F2 := R0.keep K1q
  have F3 := R1.keep K1q (own_nin0 )
  have F4 := R2.keep K1q (own_nin0 )
  have F5 := R3.keep K1q (own_nin0 )
  have F6 := R4.keep K1q
  have F7 := R5.keep K1q (own_nin0 )
  have F8 := R6.keep K1q (own_nin0 )
  have F9 := R7.keep K1q (own_nin0 )
  have F10 := own_staK R8 K1q (own_all0 )
  refine own_stk (S' := []) rfl ?_
  refine waloadN OGc 6 X1 B d15_5 rfl rfl rfl ?_
  refine waloadN OGc 7 X1 B d15_6 rfl rfl rfl ?_
  refine wgetF OGc 10 X1 B hZ hown (ow hw 63 rfl) rfl F3 d15_7 rfl fun T11 X11 e11 => ?_
  refine wiloadN OGc 11 X11 B d15_10 rfl rfl ?_
  refine waloadN OGc 12 X11 B d15_11 rfl rfl rfl ?_
  refine wgetF OGc 15 X11 B hZ hown (ow hw 65 rfl) e11 F4 d15_12 rfl fun T12 X12 e12 => ?_
  refine wvirt OGc 18 X12 B hZ hown (ow hw 106 rfl) (ow hw 107 rfl) (ow hw 109 rfl) (ow hw 108 rfl) F6 (ow hw 110 rfl) (ow hw 6 rfl) e12 (rm17_0_1 l Z a0 hw [] a3 vb b x0 w T1.heap n0 F6 F7 F8 F9 F5 F10 g_vb ne_a3_vb ne_b_vb hw0) 0 (by decide) (by decide) hml rfl (lenOf pd___BIB_V rfl) [] rfl rfl d15_15 rfl fun _ T13 L13 X13 hQ13 => ?_
  obtain ⟨rfl, N13q, K13q, P13_0⟩ := hQ13
  have N13 := Fr.app N1 N13q
  have K13 := K1.trans K13q (own_all1 (Or.inl (List.mem_of_getElem? (i := 0) rfl)))
  have F14 := F2.keep K13q
  have F15 := F3.keep K13q (own_nin1 ne_a1_vb)
  have F16 := F4.keep K13q (own_nin1 ne_a1_vb)
  have F17 := F6.keep K13q
  have F18 := F7.keep K13q (own_nin1 ne_a3_vb)
  have F19 := F8.keep K13q (own_nin1 ne_a3_vb)
  have F20 := F9.keep K13q (own_nin1 ne_b_vb)
  have F21 := own_staK F10 K13q (own_all1 (own_plA F5))
  refine own_stk (S' := []) rfl ?_
  refine own_ret0 X13 hx hret hlk (hb hby d15_18) (by decide) (by decide) ?_
  exact ⟨rfl, N13, K13, P13_0⟩
abbrev Q11_0_1 (Z : State) (a1 : Addr) (a2 : Addr) (vb : Addr) (b : Addr) (x0 : Int32) (w : Int32) (h0 : Heap) (n0 : Nat) : Option Value → Heap → List Loc → Prop := (fun v h L => v = some (.ref a1) ∧ Fr n0 L ∧ Keep h0 h [a1, vb] ∧ Exa Z h a1 "java/lang/StringBuilder" ∧ Fld Z h a1 "java/lang/AbstractStringBuilder" "value" "[B" (.ref vb) ∧ Fld Z h a1 "java/lang/AbstractStringBuilder" "coder" "B" (.int (0 : Int32)) ∧ Fld Z h a1 "java/lang/AbstractStringBuilder" "count" "I" (.int (1 : Int32)) ∧ OA Z h vb .byte (obuf [x0]))
theorem rm11_0_1 (l : Launch) (Z : State) (a0 : Array Value) (hw : ∀ d ∈ tables_1, d.before a0 Z = true) (ws : List Jvm.Cond) (a1 : Addr) (a2 : Addr) (vb : Addr) (b : Addr) (x0 : Int32) (w : Int32) (h0 : Heap) (n0 : Nat) (R0 : Exa Z h0 a1 "java/lang/StringBuilder") (R1 : Fld Z h0 a1 "java/lang/AbstractStringBuilder" "value" "[B" (.ref vb)) (R2 : Fld Z h0 a1 "java/lang/AbstractStringBuilder" "coder" "B" (.int (0 : Int32))) (R3 : Fld Z h0 a1 "java/lang/AbstractStringBuilder" "count" "I" (.int (0 : Int32))) (R4 : OA Z h0 vb .byte (obuf [])) (R5 : Exa Z h0 a2 "java/lang/String") (R6 : Fld Z h0 a2 "java/lang/String" "value" "[B" (.ref b)) (R7 : Fld Z h0 a2 "java/lang/String" "coder" "B" (.int (0 : Int32))) (R8 : OA Z h0 b .byte (([x0] : List Int32).map obv)) (R9 : Sta Z h0 "java/lang/String" "COMPACT_STRINGS" "Z" (.int w)) (g_a1 : n0 ≤ a1) (g_vb : n0 ≤ vb) (ne_a2_vb : a2 ≠ vb) (ne_b_vb : b ≠ vb) (ne_a1_vb : a1 ≠ vb) (ne_a1_a2 : a1 ≠ a2) (ne_a1_b : a1 ≠ b) (hw0 : ¬ w = (0 : Int32)) :
    OMet l Z (⟨"java/lang/AbstractStringBuilder", "append", "(Ljava/lang/String;)Ljava/lang/AbstractStringBuilder;"⟩ : MethodName) jdk_68_method_22_code 3 (some (.object "java/lang/AbstractStringBuilder")) ws ({ frames := 3, cells := 0, slots := 0, locals := 47 } : Room) #[(.ref a1), (.ref a2)] h0 (Q11_0_1 Z a1 a2 vb b x0 w h0 n0) := by
  refine own_enter pn_11 ?_
  intro p e s m below meth c s₁ hx hby hml0 hown hret hlk hnm hZ X0 e0
  have hml : c.maxLocals = 3 := hml0
  have B : BX p c jdk_68_method_22_code := ⟨hx, hby⟩
  have N0 := Fr.nil n0
  refine own_cast (ef_11 m a1 a2) ?_
  refine waloadN OGc 1 X0 B d11_0 rfl rfl rfl ?_
  refine wifnonnullYes OGc 9 X0 B d11_1 rfl ?_
  refine waloadN OGc 10 X0 B d11_9 rfl rfl rfl ?_
  refine wvirt OGc 13 X0 B hZ hown (ow hw 77 rfl) (ow hw 78 rfl) (ow hw 80 rfl) (ow hw 79 rfl) R5 (ow hw 81 rfl) (ow hw 6 rfl) e0 (rm12 l Z a0 hw [] a2 b ([x0] : List Int32) w h0 R5 R6 R7 R8 R9 hw0) 0 (by decide) (by decide) hml rfl (lenOf pd___I rfl) [] rfl rfl d11_10 rfl fun _ T1 L1 X1 hQ1 => ?_
  obtain ⟨rfl, rfl, e1⟩ := hQ1
  have N1 := Fr.app N0 (Fr.nil n0)
  refine own_stk (S' := [(.int (1 : Int32))]) rfl ?_
  refine wistoreN OGc 14 X1 B d11_13 #[.val (.ref a1), .val (.ref a2), .val (.int (1 : Int32))] rfl rfl ?_
  refine waloadN OGc 15 X1 B d11_14 rfl rfl rfl ?_
  refine waloadN OGc 16 X1 B d11_15 rfl rfl rfl ?_
  refine wgetF OGc 19 X1 B hZ hown (ow hw 88 rfl) e1 R3 d11_16 rfl fun T2 X2 e2 => ?_
  refine wiloadN OGc 20 X2 B d11_19 rfl rfl ?_
  refine wiadd OGc 21 X2 B d11_20 rfl ?_
  show OG p e _ s below _ T2 (mkF m 21 #[.val (.ref a1), .val (.ref a2), .val (.int (1 : Int32))] [(.int (1 : Int32)), (.ref a1)])
  refine wpriv OGc 24 X2 B hZ hown (ow hw 90 rfl) (ow hw 91 rfl) (own_selp2 hZ (ow hw 93 rfl) (ow hw 92 rfl) (ow hw 91 rfl) (by decide)) (ow hw 92 rfl) R0 (ow hw 94 rfl) (ow hw 59 rfl) e2 (rm14_1 l Z a0 hw [] a1 vb (0 : Int32) (0 : Int32) (0 : Int32) (0 : Int32) (0 : Int32) (0 : Int32) (0 : Int32) (0 : Int32) (0 : Int32) (0 : Int32) (0 : Int32) (0 : Int32) (0 : Int32) (0 : Int32) (0 : Int32) (0 : Int32) h0 n0 R1 R2 R4) 0 (by decide) (by decide) hml rfl (lenOf pd__I_V rfl) [] rfl rfl d11_21 rfl fun _ T3 L3 X3 hQ3 => ?_
  obtain ⟨rfl, N3q, K3q⟩ := hQ3
  have N3 := Fr.app N1 N3q
  have K3 := (Keep.refl h0 [a1, vb]).trans K3q (own_all0 )
  have F4 := R0.keep K3q
  have F5 := R1.keep K3q (own_nin0 )
  have F6 := R2.keep K3q (own_nin0 )
  have F7 := R3.keep K3q (own_nin0 )
  have F8 := R4.keep K3q (own_nin0 )
  have F9 := R5.keep K3q
  have F10 := R6.keep K3q (own_nin0 )
  have F11 := R7.keep K3q (own_nin0 )
  have F12 := R8.keep K3q (own_nin0 )
  have F13 := own_staK R9 K3q (own_all0 )
  refine own_stk (S' := []) rfl ?_
  refine waloadN OGc 25 X3 B d11_24 rfl rfl rfl ?_
  refine waloadN OGc 26 X3 B d11_25 rfl rfl rfl ?_
  refine wgetF OGc 29 X3 B hZ hown (ow hw 88 rfl) rfl F7 d11_26 rfl fun T14 X14 e14 => ?_
  refine waloadN OGc 30 X14 B d11_29 rfl rfl rfl ?_
  refine wpriv OGc 33 X14 B hZ hown (ow hw 95 rfl) (ow hw 96 rfl) (own_selp2 hZ (ow hw 98 rfl) (ow hw 97 rfl) (ow hw 96 rfl) (by decide)) (ow hw 97 rfl) F4 (ow hw 99 rfl) (ow hw 59 rfl) e14 (rm15_0_1 l Z a0 hw [] a1 a2 vb b x0 w T3.heap n0 F4 F5 F6 F8 F9 F10 F11 F12 F13 g_vb ne_a2_vb ne_b_vb ne_a1_vb hw0) 0 (by decide) (by decide) hml rfl (lenOf pd__ILjava_lang_String__V rfl) [] rfl rfl d11_30 rfl fun _ T15 L15 X15 hQ15 => ?_
  obtain ⟨rfl, N15q, K15q, P15_0⟩ := hQ15
  have N15 := Fr.app N3 N15q
  have K15 := K3.trans K15q (own_all1 (Or.inl (List.mem_of_getElem? (i := 1) rfl)))
  have F16 := F4.keep K15q
  have F17 := F5.keep K15q (own_nin1 ne_a1_vb)
  have F18 := F6.keep K15q (own_nin1 ne_a1_vb)
  have F19 := F7.keep K15q (own_nin1 ne_a1_vb)
  have F20 := F9.keep K15q
  have F21 := F10.keep K15q (own_nin1 ne_a2_vb)
  have F22 := F11.keep K15q (own_nin1 ne_a2_vb)
  have F23 := F12.keep K15q (own_nin1 ne_b_vb)
  have F24 := own_staK F13 K15q (own_all1 (own_plA F8))
  refine own_stk (S' := []) rfl ?_
  refine waloadN OGc 34 X15 B d11_33 rfl rfl rfl ?_
  refine wdup OGc 35 X15 B d11_34 rfl rfl ?_
  refine wgetF OGc 38 X15 B hZ hown (ow hw 88 rfl) rfl F19 d11_35 rfl fun T25 X25 e25 => ?_
  refine wiloadN OGc 39 X25 B d11_38 rfl rfl ?_
  refine wiadd OGc 40 X25 B d11_39 rfl ?_
  show OG p e _ s below _ T25 (mkF m 40 #[.val (.ref a1), .val (.ref a2), .val (.int (1 : Int32))] [(.int (1 : Int32)), (.ref a1)])
  refine wputF OGc 43 X25 B hZ hown (ow hw 88 rfl) e25 F19 F16 (Or.inl (ow hw 89 rfl)) (ow hw 50 rfl) (ty := .int) (by decide) rfl rfl d11_40 rfl fun T26 h26 X26 e26 W26 => ?_
  have N26 := Fr.snoc X26 N15 g_a1
  have K27 := K15.wr W26 (Or.inl (List.mem_of_getElem? (i := 0) rfl))
  have F28 := F16.wr W26
  have F29 := F17.other W26 (Or.inr (slot_ne (Or.inl (ow hw 64 rfl)) (Or.inl (ow hw 89 rfl)) (by decide) (t := (.array .byte)) (t' := .int) (by decide) (by decide)))
  have F30 := F18.other W26 (Or.inr (slot_ne (Or.inl (ow hw 66 rfl)) (Or.inl (ow hw 89 rfl)) (by decide) (t := .byte) (t' := .int) (by decide) (by decide)))
  have F31 : Fld Z h26 a1 "java/lang/AbstractStringBuilder" "count" "I" (.int (1 : Int32)) := (F19.same W26)
  have F32 := F20.wr W26
  have F33 := F21.other W26 (Or.inl (Ne.symm ne_a1_a2))
  have F34 := F22.other W26 (Or.inl (Ne.symm ne_a1_a2))
  have F35 := F23.other W26 (Ne.symm ne_a1_b)
  have F36 := F24.wr W26
  have F37 := P15_0.other W26 (Ne.symm ne_a1_vb)
  refine waloadN OGc 44 X26 B d11_43 rfl rfl rfl ?_
  refine own_retV X26 hx hret rfl (Or.inr (Or.inr (Or.inr (Or.inr ⟨rfl, rfl, rfl⟩)))) hlk (hb hby d11_44) (by decide) (by decide) ?_
  rw [e26]
  exact ⟨rfl, N26, K27, F28, F29, F30, F31, F37⟩
theorem ef_17_0_2 (m : MethodId) (a1 : Addr) (a2 : Addr) : entryFrame m #[(.ref a1), (.ref a2), (.int (0 : Int32)), (.int (0 : Int32))] 4 = (mkF m 0 #[.val (.ref a1), .val (.ref a2), .val (.int (0 : Int32)), .val (.int (0 : Int32))] []) := by first | (simp [entryFrame, mkF, argsToLocals, Value.category]; done) | rfl
abbrev Q17_0_2 (Z : State) (a1 : Addr) (a2 : Addr) (b : Addr) (x0 : Int32) (x1 : Int32) (w : Int32) (h0 : Heap) (n0 : Nat) : Option Value → Heap → List Loc → Prop := (fun v h L => v = none ∧ Fr n0 L ∧ Keep h0 h [a2] ∧ OA Z h a2 .byte (obuf [x0, x1]))
theorem rm17_0_2 (l : Launch) (Z : State) (a0 : Array Value) (hw : ∀ d ∈ tables_1, d.before a0 Z = true) (ws : List Jvm.Cond) (a1 : Addr) (a2 : Addr) (b : Addr) (x0 : Int32) (x1 : Int32) (w : Int32) (h0 : Heap) (n0 : Nat) (R0 : Exa Z h0 a1 "java/lang/String") (R1 : Fld Z h0 a1 "java/lang/String" "value" "[B" (.ref b)) (R2 : Fld Z h0 a1 "java/lang/String" "coder" "B" (.int (0 : Int32))) (R3 : OA Z h0 b .byte (([x0, x1] : List Int32).map obv)) (R4 : OA Z h0 a2 .byte (obuf [])) (R5 : Sta Z h0 "java/lang/String" "COMPACT_STRINGS" "Z" (.int w)) (g_a2 : n0 ≤ a2) (ne_a1_a2 : a1 ≠ a2) (ne_b_a2 : b ≠ a2) (hw0 : ¬ w = (0 : Int32)) :
    OMet l Z (⟨"java/lang/String", "getBytes", "([BIB)V"⟩ : MethodName) jdk_42_method_147_code 4 none ws ({ frames := 1, cells := 0, slots := 0, locals := 18 } : Room) #[(.ref a1), (.ref a2), (.int (0 : Int32)), (.int (0 : Int32))] h0 (Q17_0_2 Z a1 a2 b x0 x1 w h0 n0) := by
  refine own_enter pn_17 ?_
  intro p e s m below meth c s₁ hx hby hml0 hown hret hlk hnm hZ X0 e0
  have hml : c.maxLocals = 4 := hml0
  have B : BX p c jdk_42_method_147_code := ⟨hx, hby⟩
  have N0 := Fr.nil n0
  refine own_cast (ef_17_0_2 m a1 a2) ?_
  refine waloadN OGc 1 X0 B d17_0 rfl rfl rfl ?_
  refine wvirt OGc 4 X0 B hZ hown (ow hw 82 rfl) (ow hw 83 rfl) (ow hw 85 rfl) (ow hw 84 rfl) R0 (ow hw 86 rfl) (ow hw 6 rfl) e0 (rm13 l Z a0 hw [] a1 w h0 R2 R5 hw0) 0 (by decide) (by decide) hml rfl (lenOf pd___B rfl) [] rfl rfl d17_1 rfl fun _ T1 L1 X1 hQ1 => ?_
  obtain ⟨rfl, rfl, e1⟩ := hQ1
  have N1 := Fr.app N0 (Fr.nil n0)
  refine own_stk (S' := [(.int (0 : Int32))]) rfl ?_
  refine wiloadN OGc 5 X1 B d17_4 rfl rfl ?_
  refine wicmpNo OGc 8 X1 B d17_5 (by decide) rfl ?_
  refine waloadN OGc 9 X1 B d17_8 rfl rfl rfl ?_
  refine wgetF OGc 12 X1 B hZ hown (ow hw 24 rfl) e1 R1 d17_9 rfl fun T2 X2 e2 => ?_
  refine wiconst OGc 13 X2 B d17_12 0 rfl rfl ?_
  refine waloadN OGc 14 X2 B d17_13 rfl rfl rfl ?_
  refine wiloadN OGc 15 X2 B d17_14 rfl rfl ?_
  refine wiloadN OGc 16 X2 B d17_15 rfl rfl ?_
  refine own_st (fun t k => XS.ishl X2.here hx rfl (hb hby d17_16) rfl k) ?_
  show OG p e _ s below _ T2 (mkF m 17 #[.val (.ref a1), .val (.ref a2), .val (.int (0 : Int32)), .val (.int (0 : Int32))] [(.int (0 : Int32)), (.ref a2), (.int (0 : Int32)), (.ref b)])
  refine waloadN OGc 18 X2 B d17_17 rfl rfl rfl ?_
  refine wgetF OGc 21 X2 B hZ hown (ow hw 24 rfl) e2 R1 d17_18 rfl fun T3 X3 e3 => ?_
  refine warlenA OGc 22 X3 B hZ e3 R3 (2 : Int32) rfl d17_21 rfl ?_
  refine wcp OGc 25 X3 B hZ hown (ow hw 111 rfl) (ow hw 114 rfl) (ow hw 112 rfl) (ow hw 113 rfl) e3 R3 R4 (own_bytB [x0, x1] 0) (own_bytB [] 16) 2 16 0 0 2 rfl rfl (z := (2 : Int32)) (z' := (16 : Int32)) (by decide) (([x0, x1] : List Int32).map obv) rfl (obuf [x0, x1]) rfl rfl N1 g_a2 hml rfl d17_22 (W := 0) rfl (by decide) rfl fun T5 h5 L5 X5 e5 N5 K5q A5 => ?_
  have K5 : Keep h0 h5 [a2] := (Keep.refl h0 [a2]).trans K5q (own_all1 (Or.inl (List.mem_of_getElem? (i := 0) rfl)))
  have F6 := R0.keep K5q
  have F7 := R1.keep K5q (own_nin1 ne_a1_a2)
  have F8 := R2.keep K5q (own_nin1 ne_a1_a2)
  have F9 := R3.keep K5q (own_nin1 ne_b_a2)
  have F10 : OA Z h5 a2 .byte (obuf [x0, x1]) := A5
  have F11 := own_staK R5 K5q (own_all1 (own_plA R4))
  refine wgoto OGc 43 X5 B d17_25 rfl ?_
  refine own_ret0 X5 hx hret hlk (hb hby d17_43) (by decide) (by decide) ?_
  rw [e5]
  exact ⟨rfl, N5, K5, F10⟩
theorem ef_15_0_2 (m : MethodId) (a1 : Addr) (a3 : Addr) : entryFrame m #[(.ref a1), (.int (0 : Int32)), (.ref a3)] 3 = (mkF m 0 #[.val (.ref a1), .val (.int (0 : Int32)), .val (.ref a3)] []) := by first | (simp [entryFrame, mkF, argsToLocals, Value.category]; done) | rfl
abbrev Q15_0_2 (Z : State) (a1 : Addr) (a3 : Addr) (vb : Addr) (b : Addr) (x0 : Int32) (x1 : Int32) (w : Int32) (h0 : Heap) (n0 : Nat) : Option Value → Heap → List Loc → Prop := (fun v h L => v = none ∧ Fr n0 L ∧ Keep h0 h [vb] ∧ OA Z h vb .byte (obuf [x0, x1]))
theorem rm15_0_2 (l : Launch) (Z : State) (a0 : Array Value) (hw : ∀ d ∈ tables_1, d.before a0 Z = true) (ws : List Jvm.Cond) (a1 : Addr) (a3 : Addr) (vb : Addr) (b : Addr) (x0 : Int32) (x1 : Int32) (w : Int32) (h0 : Heap) (n0 : Nat) (R0 : Exa Z h0 a1 "java/lang/StringBuilder") (R1 : Fld Z h0 a1 "java/lang/AbstractStringBuilder" "value" "[B" (.ref vb)) (R2 : Fld Z h0 a1 "java/lang/AbstractStringBuilder" "coder" "B" (.int (0 : Int32))) (R3 : OA Z h0 vb .byte (obuf [])) (R4 : Exa Z h0 a3 "java/lang/String") (R5 : Fld Z h0 a3 "java/lang/String" "value" "[B" (.ref b)) (R6 : Fld Z h0 a3 "java/lang/String" "coder" "B" (.int (0 : Int32))) (R7 : OA Z h0 b .byte (([x0, x1] : List Int32).map obv)) (R8 : Sta Z h0 "java/lang/String" "COMPACT_STRINGS" "Z" (.int w)) (g_vb : n0 ≤ vb) (ne_a3_vb : a3 ≠ vb) (ne_b_vb : b ≠ vb) (ne_a1_vb : a1 ≠ vb) (hw0 : ¬ w = (0 : Int32)) :
    OMet l Z (⟨"java/lang/AbstractStringBuilder", "putStringAt", "(ILjava/lang/String;)V"⟩ : MethodName) jdk_68_method_73_code 3 none ws ({ frames := 2, cells := 0, slots := 0, locals := 33 } : Room) #[(.ref a1), (.int (0 : Int32)), (.ref a3)] h0 (Q15_0_2 Z a1 a3 vb b x0 x1 w h0 n0) := by
  refine own_enter pn_15 ?_
  intro p e s m below meth c s₁ hx hby hml0 hown hret hlk hnm hZ X0 e0
  have hml : c.maxLocals = 3 := hml0
  have B : BX p c jdk_68_method_73_code := ⟨hx, hby⟩
  have N0 := Fr.nil n0
  refine own_cast (ef_15_0_2 m a1 a3) ?_
  refine waloadN OGc 1 X0 B d15_0 rfl rfl rfl ?_
  refine waloadN OGc 2 X0 B d15_1 rfl rfl rfl ?_
  refine wpriv OGc 5 X0 B hZ hown (ow hw 100 rfl) (ow hw 101 rfl) (own_selp2 hZ (ow hw 103 rfl) (ow hw 102 rfl) (ow hw 101 rfl) (by decide)) (ow hw 102 rfl) R0 (ow hw 104 rfl) (ow hw 59 rfl) e0 (rm16 l Z a0 hw [] a1 a3 w h0 n0 R2 R4 R6 R8 hw0) 0 (by decide) (by decide) hml rfl (lenOf pd__Ljava_lang_String__V rfl) [] rfl rfl d15_2 rfl fun _ T1 L1 X1 hQ1 => ?_
  obtain ⟨rfl, N1q, K1q⟩ := hQ1
  have N1 := Fr.app N0 N1q
  have K1 := (Keep.refl h0 [vb]).trans K1q (own_all0 )
  have F2 := R0.keep K1q
  have F3 := R1.keep K1q (own_nin0 )
  have F4 := R2.keep K1q (own_nin0 )
  have F5 := R3.keep K1q (own_nin0 )
  have F6 := R4.keep K1q
  have F7 := R5.keep K1q (own_nin0 )
  have F8 := R6.keep K1q (own_nin0 )
  have F9 := R7.keep K1q (own_nin0 )
  have F10 := own_staK R8 K1q (own_all0 )
  refine own_stk (S' := []) rfl ?_
  refine waloadN OGc 6 X1 B d15_5 rfl rfl rfl ?_
  refine waloadN OGc 7 X1 B d15_6 rfl rfl rfl ?_
  refine wgetF OGc 10 X1 B hZ hown (ow hw 63 rfl) rfl F3 d15_7 rfl fun T11 X11 e11 => ?_
  refine wiloadN OGc 11 X11 B d15_10 rfl rfl ?_
  refine waloadN OGc 12 X11 B d15_11 rfl rfl rfl ?_
  refine wgetF OGc 15 X11 B hZ hown (ow hw 65 rfl) e11 F4 d15_12 rfl fun T12 X12 e12 => ?_
  refine wvirt OGc 18 X12 B hZ hown (ow hw 106 rfl) (ow hw 107 rfl) (ow hw 109 rfl) (ow hw 108 rfl) F6 (ow hw 110 rfl) (ow hw 6 rfl) e12 (rm17_0_2 l Z a0 hw [] a3 vb b x0 x1 w T1.heap n0 F6 F7 F8 F9 F5 F10 g_vb ne_a3_vb ne_b_vb hw0) 0 (by decide) (by decide) hml rfl (lenOf pd___BIB_V rfl) [] rfl rfl d15_15 rfl fun _ T13 L13 X13 hQ13 => ?_
  obtain ⟨rfl, N13q, K13q, P13_0⟩ := hQ13
  have N13 := Fr.app N1 N13q
  have K13 := K1.trans K13q (own_all1 (Or.inl (List.mem_of_getElem? (i := 0) rfl)))
  have F14 := F2.keep K13q
  have F15 := F3.keep K13q (own_nin1 ne_a1_vb)
  have F16 := F4.keep K13q (own_nin1 ne_a1_vb)
  have F17 := F6.keep K13q
  have F18 := F7.keep K13q (own_nin1 ne_a3_vb)
  have F19 := F8.keep K13q (own_nin1 ne_a3_vb)
  have F20 := F9.keep K13q (own_nin1 ne_b_vb)
  have F21 := own_staK F10 K13q (own_all1 (own_plA F5))
  refine own_stk (S' := []) rfl ?_
  refine own_ret0 X13 hx hret hlk (hb hby d15_18) (by decide) (by decide) ?_
  exact ⟨rfl, N13, K13, P13_0⟩
abbrev Q11_0_2 (Z : State) (a1 : Addr) (a2 : Addr) (vb : Addr) (b : Addr) (x0 : Int32) (x1 : Int32) (w : Int32) (h0 : Heap) (n0 : Nat) : Option Value → Heap → List Loc → Prop := (fun v h L => v = some (.ref a1) ∧ Fr n0 L ∧ Keep h0 h [a1, vb] ∧ Exa Z h a1 "java/lang/StringBuilder" ∧ Fld Z h a1 "java/lang/AbstractStringBuilder" "value" "[B" (.ref vb) ∧ Fld Z h a1 "java/lang/AbstractStringBuilder" "coder" "B" (.int (0 : Int32)) ∧ Fld Z h a1 "java/lang/AbstractStringBuilder" "count" "I" (.int (2 : Int32)) ∧ OA Z h vb .byte (obuf [x0, x1]))
theorem rm11_0_2 (l : Launch) (Z : State) (a0 : Array Value) (hw : ∀ d ∈ tables_1, d.before a0 Z = true) (ws : List Jvm.Cond) (a1 : Addr) (a2 : Addr) (vb : Addr) (b : Addr) (x0 : Int32) (x1 : Int32) (w : Int32) (h0 : Heap) (n0 : Nat) (R0 : Exa Z h0 a1 "java/lang/StringBuilder") (R1 : Fld Z h0 a1 "java/lang/AbstractStringBuilder" "value" "[B" (.ref vb)) (R2 : Fld Z h0 a1 "java/lang/AbstractStringBuilder" "coder" "B" (.int (0 : Int32))) (R3 : Fld Z h0 a1 "java/lang/AbstractStringBuilder" "count" "I" (.int (0 : Int32))) (R4 : OA Z h0 vb .byte (obuf [])) (R5 : Exa Z h0 a2 "java/lang/String") (R6 : Fld Z h0 a2 "java/lang/String" "value" "[B" (.ref b)) (R7 : Fld Z h0 a2 "java/lang/String" "coder" "B" (.int (0 : Int32))) (R8 : OA Z h0 b .byte (([x0, x1] : List Int32).map obv)) (R9 : Sta Z h0 "java/lang/String" "COMPACT_STRINGS" "Z" (.int w)) (g_a1 : n0 ≤ a1) (g_vb : n0 ≤ vb) (ne_a2_vb : a2 ≠ vb) (ne_b_vb : b ≠ vb) (ne_a1_vb : a1 ≠ vb) (ne_a1_a2 : a1 ≠ a2) (ne_a1_b : a1 ≠ b) (hw0 : ¬ w = (0 : Int32)) :
    OMet l Z (⟨"java/lang/AbstractStringBuilder", "append", "(Ljava/lang/String;)Ljava/lang/AbstractStringBuilder;"⟩ : MethodName) jdk_68_method_22_code 3 (some (.object "java/lang/AbstractStringBuilder")) ws ({ frames := 3, cells := 0, slots := 0, locals := 47 } : Room) #[(.ref a1), (.ref a2)] h0 (Q11_0_2 Z a1 a2 vb b x0 x1 w h0 n0) := by
  refine own_enter pn_11 ?_
  intro p e s m below meth c s₁ hx hby hml0 hown hret hlk hnm hZ X0 e0
  have hml : c.maxLocals = 3 := hml0
  have B : BX p c jdk_68_method_22_code := ⟨hx, hby⟩
  have N0 := Fr.nil n0
  refine own_cast (ef_11 m a1 a2) ?_
  refine waloadN OGc 1 X0 B d11_0 rfl rfl rfl ?_
  refine wifnonnullYes OGc 9 X0 B d11_1 rfl ?_
  refine waloadN OGc 10 X0 B d11_9 rfl rfl rfl ?_
  refine wvirt OGc 13 X0 B hZ hown (ow hw 77 rfl) (ow hw 78 rfl) (ow hw 80 rfl) (ow hw 79 rfl) R5 (ow hw 81 rfl) (ow hw 6 rfl) e0 (rm12 l Z a0 hw [] a2 b ([x0, x1] : List Int32) w h0 R5 R6 R7 R8 R9 hw0) 0 (by decide) (by decide) hml rfl (lenOf pd___I rfl) [] rfl rfl d11_10 rfl fun _ T1 L1 X1 hQ1 => ?_
  obtain ⟨rfl, rfl, e1⟩ := hQ1
  have N1 := Fr.app N0 (Fr.nil n0)
  refine own_stk (S' := [(.int (2 : Int32))]) rfl ?_
  refine wistoreN OGc 14 X1 B d11_13 #[.val (.ref a1), .val (.ref a2), .val (.int (2 : Int32))] rfl rfl ?_
  refine waloadN OGc 15 X1 B d11_14 rfl rfl rfl ?_
  refine waloadN OGc 16 X1 B d11_15 rfl rfl rfl ?_
  refine wgetF OGc 19 X1 B hZ hown (ow hw 88 rfl) e1 R3 d11_16 rfl fun T2 X2 e2 => ?_
  refine wiloadN OGc 20 X2 B d11_19 rfl rfl ?_
  refine wiadd OGc 21 X2 B d11_20 rfl ?_
  show OG p e _ s below _ T2 (mkF m 21 #[.val (.ref a1), .val (.ref a2), .val (.int (2 : Int32))] [(.int (2 : Int32)), (.ref a1)])
  refine wpriv OGc 24 X2 B hZ hown (ow hw 90 rfl) (ow hw 91 rfl) (own_selp2 hZ (ow hw 93 rfl) (ow hw 92 rfl) (ow hw 91 rfl) (by decide)) (ow hw 92 rfl) R0 (ow hw 94 rfl) (ow hw 59 rfl) e2 (rm14_2 l Z a0 hw [] a1 vb (0 : Int32) (0 : Int32) (0 : Int32) (0 : Int32) (0 : Int32) (0 : Int32) (0 : Int32) (0 : Int32) (0 : Int32) (0 : Int32) (0 : Int32) (0 : Int32) (0 : Int32) (0 : Int32) (0 : Int32) (0 : Int32) h0 n0 R1 R2 R4) 0 (by decide) (by decide) hml rfl (lenOf pd__I_V rfl) [] rfl rfl d11_21 rfl fun _ T3 L3 X3 hQ3 => ?_
  obtain ⟨rfl, N3q, K3q⟩ := hQ3
  have N3 := Fr.app N1 N3q
  have K3 := (Keep.refl h0 [a1, vb]).trans K3q (own_all0 )
  have F4 := R0.keep K3q
  have F5 := R1.keep K3q (own_nin0 )
  have F6 := R2.keep K3q (own_nin0 )
  have F7 := R3.keep K3q (own_nin0 )
  have F8 := R4.keep K3q (own_nin0 )
  have F9 := R5.keep K3q
  have F10 := R6.keep K3q (own_nin0 )
  have F11 := R7.keep K3q (own_nin0 )
  have F12 := R8.keep K3q (own_nin0 )
  have F13 := own_staK R9 K3q (own_all0 )
  refine own_stk (S' := []) rfl ?_
  refine waloadN OGc 25 X3 B d11_24 rfl rfl rfl ?_
  refine waloadN OGc 26 X3 B d11_25 rfl rfl rfl ?_
  refine wgetF OGc 29 X3 B hZ hown (ow hw 88 rfl) rfl F7 d11_26 rfl fun T14 X14 e14 => ?_
  refine waloadN OGc 30 X14 B d11_29 rfl rfl rfl ?_
  refine wpriv OGc 33 X14 B hZ hown (ow hw 95 rfl) (ow hw 96 rfl) (own_selp2 hZ (ow hw 98 rfl) (ow hw 97 rfl) (ow hw 96 rfl) (by decide)) (ow hw 97 rfl) F4 (ow hw 99 rfl) (ow hw 59 rfl) e14 (rm15_0_2 l Z a0 hw [] a1 a2 vb b x0 x1 w T3.heap n0 F4 F5 F6 F8 F9 F10 F11 F12 F13 g_vb ne_a2_vb ne_b_vb ne_a1_vb hw0) 0 (by decide) (by decide) hml rfl (lenOf pd__ILjava_lang_String__V rfl) [] rfl rfl d11_30 rfl fun _ T15 L15 X15 hQ15 => ?_
  obtain ⟨rfl, N15q, K15q, P15_0⟩ := hQ15
  have N15 := Fr.app N3 N15q
  have K15 := K3.trans K15q (own_all1 (Or.inl (List.mem_of_getElem? (i := 1) rfl)))
  have F16 := F4.keep K15q
  have F17 := F5.keep K15q (own_nin1 ne_a1_vb)
  have F18 := F6.keep K15q (own_nin1 ne_a1_vb)
  have F19 := F7.keep K15q (own_nin1 ne_a1_vb)
  have F20 := F9.keep K15q
  have F21 := F10.keep K15q (own_nin1 ne_a2_vb)
  have F22 := F11.keep K15q (own_nin1 ne_a2_vb)
  have F23 := F12.keep K15q (own_nin1 ne_b_vb)
  have F24 := own_staK F13 K15q (own_all1 (own_plA F8))
  refine own_stk (S' := []) rfl ?_
  refine waloadN OGc 34 X15 B d11_33 rfl rfl rfl ?_
  refine wdup OGc 35 X15 B d11_34 rfl rfl ?_
  refine wgetF OGc 38 X15 B hZ hown (ow hw 88 rfl) rfl F19 d11_35 rfl fun T25 X25 e25 => ?_
  refine wiloadN OGc 39 X25 B d11_38 rfl rfl ?_
  refine wiadd OGc 40 X25 B d11_39 rfl ?_
  show OG p e _ s below _ T25 (mkF m 40 #[.val (.ref a1), .val (.ref a2), .val (.int (2 : Int32))] [(.int (2 : Int32)), (.ref a1)])
  refine wputF OGc 43 X25 B hZ hown (ow hw 88 rfl) e25 F19 F16 (Or.inl (ow hw 89 rfl)) (ow hw 50 rfl) (ty := .int) (by decide) rfl rfl d11_40 rfl fun T26 h26 X26 e26 W26 => ?_
  have N26 := Fr.snoc X26 N15 g_a1
  have K27 := K15.wr W26 (Or.inl (List.mem_of_getElem? (i := 0) rfl))
  have F28 := F16.wr W26
  have F29 := F17.other W26 (Or.inr (slot_ne (Or.inl (ow hw 64 rfl)) (Or.inl (ow hw 89 rfl)) (by decide) (t := (.array .byte)) (t' := .int) (by decide) (by decide)))
  have F30 := F18.other W26 (Or.inr (slot_ne (Or.inl (ow hw 66 rfl)) (Or.inl (ow hw 89 rfl)) (by decide) (t := .byte) (t' := .int) (by decide) (by decide)))
  have F31 : Fld Z h26 a1 "java/lang/AbstractStringBuilder" "count" "I" (.int (2 : Int32)) := (F19.same W26)
  have F32 := F20.wr W26
  have F33 := F21.other W26 (Or.inl (Ne.symm ne_a1_a2))
  have F34 := F22.other W26 (Or.inl (Ne.symm ne_a1_a2))
  have F35 := F23.other W26 (Ne.symm ne_a1_b)
  have F36 := F24.wr W26
  have F37 := P15_0.other W26 (Ne.symm ne_a1_vb)
  refine waloadN OGc 44 X26 B d11_43 rfl rfl rfl ?_
  refine own_retV X26 hx hret rfl (Or.inr (Or.inr (Or.inr (Or.inr ⟨rfl, rfl, rfl⟩)))) hlk (hb hby d11_44) (by decide) (by decide) ?_
  rw [e26]
  exact ⟨rfl, N26, K27, F28, F29, F30, F31, F37⟩
theorem ef_17_0_3 (m : MethodId) (a1 : Addr) (a2 : Addr) : entryFrame m #[(.ref a1), (.ref a2), (.int (0 : Int32)), (.int (0 : Int32))] 4 = (mkF m 0 #[.val (.ref a1), .val (.ref a2), .val (.int (0 : Int32)), .val (.int (0 : Int32))] []) := by first | (simp [entryFrame, mkF, argsToLocals, Value.category]; done) | rfl
abbrev Q17_0_3 (Z : State) (a1 : Addr) (a2 : Addr) (b : Addr) (x0 : Int32) (x1 : Int32) (x2 : Int32) (w : Int32) (h0 : Heap) (n0 : Nat) : Option Value → Heap → List Loc → Prop := (fun v h L => v = none ∧ Fr n0 L ∧ Keep h0 h [a2] ∧ OA Z h a2 .byte (obuf [x0, x1, x2]))
theorem rm17_0_3 (l : Launch) (Z : State) (a0 : Array Value) (hw : ∀ d ∈ tables_1, d.before a0 Z = true) (ws : List Jvm.Cond) (a1 : Addr) (a2 : Addr) (b : Addr) (x0 : Int32) (x1 : Int32) (x2 : Int32) (w : Int32) (h0 : Heap) (n0 : Nat) (R0 : Exa Z h0 a1 "java/lang/String") (R1 : Fld Z h0 a1 "java/lang/String" "value" "[B" (.ref b)) (R2 : Fld Z h0 a1 "java/lang/String" "coder" "B" (.int (0 : Int32))) (R3 : OA Z h0 b .byte (([x0, x1, x2] : List Int32).map obv)) (R4 : OA Z h0 a2 .byte (obuf [])) (R5 : Sta Z h0 "java/lang/String" "COMPACT_STRINGS" "Z" (.int w)) (g_a2 : n0 ≤ a2) (ne_a1_a2 : a1 ≠ a2) (ne_b_a2 : b ≠ a2) (hw0 : ¬ w = (0 : Int32)) :
    OMet l Z (⟨"java/lang/String", "getBytes", "([BIB)V"⟩ : MethodName) jdk_42_method_147_code 4 none ws ({ frames := 1, cells := 0, slots := 0, locals := 18 } : Room) #[(.ref a1), (.ref a2), (.int (0 : Int32)), (.int (0 : Int32))] h0 (Q17_0_3 Z a1 a2 b x0 x1 x2 w h0 n0) := by
  refine own_enter pn_17 ?_
  intro p e s m below meth c s₁ hx hby hml0 hown hret hlk hnm hZ X0 e0
  have hml : c.maxLocals = 4 := hml0
  have B : BX p c jdk_42_method_147_code := ⟨hx, hby⟩
  have N0 := Fr.nil n0
  refine own_cast (ef_17_0_3 m a1 a2) ?_
  refine waloadN OGc 1 X0 B d17_0 rfl rfl rfl ?_
  refine wvirt OGc 4 X0 B hZ hown (ow hw 82 rfl) (ow hw 83 rfl) (ow hw 85 rfl) (ow hw 84 rfl) R0 (ow hw 86 rfl) (ow hw 6 rfl) e0 (rm13 l Z a0 hw [] a1 w h0 R2 R5 hw0) 0 (by decide) (by decide) hml rfl (lenOf pd___B rfl) [] rfl rfl d17_1 rfl fun _ T1 L1 X1 hQ1 => ?_
  obtain ⟨rfl, rfl, e1⟩ := hQ1
  have N1 := Fr.app N0 (Fr.nil n0)
  refine own_stk (S' := [(.int (0 : Int32))]) rfl ?_
  refine wiloadN OGc 5 X1 B d17_4 rfl rfl ?_
  refine wicmpNo OGc 8 X1 B d17_5 (by decide) rfl ?_
  refine waloadN OGc 9 X1 B d17_8 rfl rfl rfl ?_
  refine wgetF OGc 12 X1 B hZ hown (ow hw 24 rfl) e1 R1 d17_9 rfl fun T2 X2 e2 => ?_
  refine wiconst OGc 13 X2 B d17_12 0 rfl rfl ?_
  refine waloadN OGc 14 X2 B d17_13 rfl rfl rfl ?_
  refine wiloadN OGc 15 X2 B d17_14 rfl rfl ?_
  refine wiloadN OGc 16 X2 B d17_15 rfl rfl ?_
  refine own_st (fun t k => XS.ishl X2.here hx rfl (hb hby d17_16) rfl k) ?_
  show OG p e _ s below _ T2 (mkF m 17 #[.val (.ref a1), .val (.ref a2), .val (.int (0 : Int32)), .val (.int (0 : Int32))] [(.int (0 : Int32)), (.ref a2), (.int (0 : Int32)), (.ref b)])
  refine waloadN OGc 18 X2 B d17_17 rfl rfl rfl ?_
  refine wgetF OGc 21 X2 B hZ hown (ow hw 24 rfl) e2 R1 d17_18 rfl fun T3 X3 e3 => ?_
  refine warlenA OGc 22 X3 B hZ e3 R3 (3 : Int32) rfl d17_21 rfl ?_
  refine wcp OGc 25 X3 B hZ hown (ow hw 111 rfl) (ow hw 114 rfl) (ow hw 112 rfl) (ow hw 113 rfl) e3 R3 R4 (own_bytB [x0, x1, x2] 0) (own_bytB [] 16) 3 16 0 0 3 rfl rfl (z := (3 : Int32)) (z' := (16 : Int32)) (by decide) (([x0, x1, x2] : List Int32).map obv) rfl (obuf [x0, x1, x2]) rfl rfl N1 g_a2 hml rfl d17_22 (W := 0) rfl (by decide) rfl fun T5 h5 L5 X5 e5 N5 K5q A5 => ?_
  have K5 : Keep h0 h5 [a2] := (Keep.refl h0 [a2]).trans K5q (own_all1 (Or.inl (List.mem_of_getElem? (i := 0) rfl)))
  have F6 := R0.keep K5q
  have F7 := R1.keep K5q (own_nin1 ne_a1_a2)
  have F8 := R2.keep K5q (own_nin1 ne_a1_a2)
  have F9 := R3.keep K5q (own_nin1 ne_b_a2)
  have F10 : OA Z h5 a2 .byte (obuf [x0, x1, x2]) := A5
  have F11 := own_staK R5 K5q (own_all1 (own_plA R4))
  refine wgoto OGc 43 X5 B d17_25 rfl ?_
  refine own_ret0 X5 hx hret hlk (hb hby d17_43) (by decide) (by decide) ?_
  rw [e5]
  exact ⟨rfl, N5, K5, F10⟩
theorem ef_15_0_3 (m : MethodId) (a1 : Addr) (a3 : Addr) : entryFrame m #[(.ref a1), (.int (0 : Int32)), (.ref a3)] 3 = (mkF m 0 #[.val (.ref a1), .val (.int (0 : Int32)), .val (.ref a3)] []) := by first | (simp [entryFrame, mkF, argsToLocals, Value.category]; done) | rfl
abbrev Q15_0_3 (Z : State) (a1 : Addr) (a3 : Addr) (vb : Addr) (b : Addr) (x0 : Int32) (x1 : Int32) (x2 : Int32) (w : Int32) (h0 : Heap) (n0 : Nat) : Option Value → Heap → List Loc → Prop := (fun v h L => v = none ∧ Fr n0 L ∧ Keep h0 h [vb] ∧ OA Z h vb .byte (obuf [x0, x1, x2]))
theorem rm15_0_3 (l : Launch) (Z : State) (a0 : Array Value) (hw : ∀ d ∈ tables_1, d.before a0 Z = true) (ws : List Jvm.Cond) (a1 : Addr) (a3 : Addr) (vb : Addr) (b : Addr) (x0 : Int32) (x1 : Int32) (x2 : Int32) (w : Int32) (h0 : Heap) (n0 : Nat) (R0 : Exa Z h0 a1 "java/lang/StringBuilder") (R1 : Fld Z h0 a1 "java/lang/AbstractStringBuilder" "value" "[B" (.ref vb)) (R2 : Fld Z h0 a1 "java/lang/AbstractStringBuilder" "coder" "B" (.int (0 : Int32))) (R3 : OA Z h0 vb .byte (obuf [])) (R4 : Exa Z h0 a3 "java/lang/String") (R5 : Fld Z h0 a3 "java/lang/String" "value" "[B" (.ref b)) (R6 : Fld Z h0 a3 "java/lang/String" "coder" "B" (.int (0 : Int32))) (R7 : OA Z h0 b .byte (([x0, x1, x2] : List Int32).map obv)) (R8 : Sta Z h0 "java/lang/String" "COMPACT_STRINGS" "Z" (.int w)) (g_vb : n0 ≤ vb) (ne_a3_vb : a3 ≠ vb) (ne_b_vb : b ≠ vb) (ne_a1_vb : a1 ≠ vb) (hw0 : ¬ w = (0 : Int32)) :
    OMet l Z (⟨"java/lang/AbstractStringBuilder", "putStringAt", "(ILjava/lang/String;)V"⟩ : MethodName) jdk_68_method_73_code 3 none ws ({ frames := 2, cells := 0, slots := 0, locals := 33 } : Room) #[(.ref a1), (.int (0 : Int32)), (.ref a3)] h0 (Q15_0_3 Z a1 a3 vb b x0 x1 x2 w h0 n0) := by
  refine own_enter pn_15 ?_
  intro p e s m below meth c s₁ hx hby hml0 hown hret hlk hnm hZ X0 e0
  have hml : c.maxLocals = 3 := hml0
  have B : BX p c jdk_68_method_73_code := ⟨hx, hby⟩
  have N0 := Fr.nil n0
  refine own_cast (ef_15_0_3 m a1 a3) ?_
  refine waloadN OGc 1 X0 B d15_0 rfl rfl rfl ?_
  refine waloadN OGc 2 X0 B d15_1 rfl rfl rfl ?_
  refine wpriv OGc 5 X0 B hZ hown (ow hw 100 rfl) (ow hw 101 rfl) (own_selp2 hZ (ow hw 103 rfl) (ow hw 102 rfl) (ow hw 101 rfl) (by decide)) (ow hw 102 rfl) R0 (ow hw 104 rfl) (ow hw 59 rfl) e0 (rm16 l Z a0 hw [] a1 a3 w h0 n0 R2 R4 R6 R8 hw0) 0 (by decide) (by decide) hml rfl (lenOf pd__Ljava_lang_String__V rfl) [] rfl rfl d15_2 rfl fun _ T1 L1 X1 hQ1 => ?_
  obtain ⟨rfl, N1q, K1q⟩ := hQ1
  have N1 := Fr.app N0 N1q
  have K1 := (Keep.refl h0 [vb]).trans K1q (own_all0 )
  have F2 := R0.keep K1q
  have F3 := R1.keep K1q (own_nin0 )
  have F4 := R2.keep K1q (own_nin0 )
  have F5 := R3.keep K1q (own_nin0 )
  have F6 := R4.keep K1q
  have F7 := R5.keep K1q (own_nin0 )
  have F8 := R6.keep K1q (own_nin0 )
  have F9 := R7.keep K1q (own_nin0 )
  have F10 := own_staK R8 K1q (own_all0 )
  refine own_stk (S' := []) rfl ?_
  refine waloadN OGc 6 X1 B d15_5 rfl rfl rfl ?_
  refine waloadN OGc 7 X1 B d15_6 rfl rfl rfl ?_
  refine wgetF OGc 10 X1 B hZ hown (ow hw 63 rfl) rfl F3 d15_7 rfl fun T11 X11 e11 => ?_
  refine wiloadN OGc 11 X11 B d15_10 rfl rfl ?_
  refine waloadN OGc 12 X11 B d15_11 rfl rfl rfl ?_
  refine wgetF OGc 15 X11 B hZ hown (ow hw 65 rfl) e11 F4 d15_12 rfl fun T12 X12 e12 => ?_
  refine wvirt OGc 18 X12 B hZ hown (ow hw 106 rfl) (ow hw 107 rfl) (ow hw 109 rfl) (ow hw 108 rfl) F6 (ow hw 110 rfl) (ow hw 6 rfl) e12 (rm17_0_3 l Z a0 hw [] a3 vb b x0 x1 x2 w T1.heap n0 F6 F7 F8 F9 F5 F10 g_vb ne_a3_vb ne_b_vb hw0) 0 (by decide) (by decide) hml rfl (lenOf pd___BIB_V rfl) [] rfl rfl d15_15 rfl fun _ T13 L13 X13 hQ13 => ?_
  obtain ⟨rfl, N13q, K13q, P13_0⟩ := hQ13
  have N13 := Fr.app N1 N13q
  have K13 := K1.trans K13q (own_all1 (Or.inl (List.mem_of_getElem? (i := 0) rfl)))
  have F14 := F2.keep K13q
  have F15 := F3.keep K13q (own_nin1 ne_a1_vb)
  have F16 := F4.keep K13q (own_nin1 ne_a1_vb)
  have F17 := F6.keep K13q
  have F18 := F7.keep K13q (own_nin1 ne_a3_vb)
  have F19 := F8.keep K13q (own_nin1 ne_a3_vb)
  have F20 := F9.keep K13q (own_nin1 ne_b_vb)
  have F21 := own_staK F10 K13q (own_all1 (own_plA F5))
  refine own_stk (S' := []) rfl ?_
  refine own_ret0 X13 hx hret hlk (hb hby d15_18) (by decide) (by decide) ?_
  exact ⟨rfl, N13, K13, P13_0⟩
abbrev Q11_0_3 (Z : State) (a1 : Addr) (a2 : Addr) (vb : Addr) (b : Addr) (x0 : Int32) (x1 : Int32) (x2 : Int32) (w : Int32) (h0 : Heap) (n0 : Nat) : Option Value → Heap → List Loc → Prop := (fun v h L => v = some (.ref a1) ∧ Fr n0 L ∧ Keep h0 h [a1, vb] ∧ Exa Z h a1 "java/lang/StringBuilder" ∧ Fld Z h a1 "java/lang/AbstractStringBuilder" "value" "[B" (.ref vb) ∧ Fld Z h a1 "java/lang/AbstractStringBuilder" "coder" "B" (.int (0 : Int32)) ∧ Fld Z h a1 "java/lang/AbstractStringBuilder" "count" "I" (.int (3 : Int32)) ∧ OA Z h vb .byte (obuf [x0, x1, x2]))
theorem rm11_0_3 (l : Launch) (Z : State) (a0 : Array Value) (hw : ∀ d ∈ tables_1, d.before a0 Z = true) (ws : List Jvm.Cond) (a1 : Addr) (a2 : Addr) (vb : Addr) (b : Addr) (x0 : Int32) (x1 : Int32) (x2 : Int32) (w : Int32) (h0 : Heap) (n0 : Nat) (R0 : Exa Z h0 a1 "java/lang/StringBuilder") (R1 : Fld Z h0 a1 "java/lang/AbstractStringBuilder" "value" "[B" (.ref vb)) (R2 : Fld Z h0 a1 "java/lang/AbstractStringBuilder" "coder" "B" (.int (0 : Int32))) (R3 : Fld Z h0 a1 "java/lang/AbstractStringBuilder" "count" "I" (.int (0 : Int32))) (R4 : OA Z h0 vb .byte (obuf [])) (R5 : Exa Z h0 a2 "java/lang/String") (R6 : Fld Z h0 a2 "java/lang/String" "value" "[B" (.ref b)) (R7 : Fld Z h0 a2 "java/lang/String" "coder" "B" (.int (0 : Int32))) (R8 : OA Z h0 b .byte (([x0, x1, x2] : List Int32).map obv)) (R9 : Sta Z h0 "java/lang/String" "COMPACT_STRINGS" "Z" (.int w)) (g_a1 : n0 ≤ a1) (g_vb : n0 ≤ vb) (ne_a2_vb : a2 ≠ vb) (ne_b_vb : b ≠ vb) (ne_a1_vb : a1 ≠ vb) (ne_a1_a2 : a1 ≠ a2) (ne_a1_b : a1 ≠ b) (hw0 : ¬ w = (0 : Int32)) :
    OMet l Z (⟨"java/lang/AbstractStringBuilder", "append", "(Ljava/lang/String;)Ljava/lang/AbstractStringBuilder;"⟩ : MethodName) jdk_68_method_22_code 3 (some (.object "java/lang/AbstractStringBuilder")) ws ({ frames := 3, cells := 0, slots := 0, locals := 47 } : Room) #[(.ref a1), (.ref a2)] h0 (Q11_0_3 Z a1 a2 vb b x0 x1 x2 w h0 n0) := by
  refine own_enter pn_11 ?_
  intro p e s m below meth c s₁ hx hby hml0 hown hret hlk hnm hZ X0 e0
  have hml : c.maxLocals = 3 := hml0
  have B : BX p c jdk_68_method_22_code := ⟨hx, hby⟩
  have N0 := Fr.nil n0
  refine own_cast (ef_11 m a1 a2) ?_
  refine waloadN OGc 1 X0 B d11_0 rfl rfl rfl ?_
  refine wifnonnullYes OGc 9 X0 B d11_1 rfl ?_
  refine waloadN OGc 10 X0 B d11_9 rfl rfl rfl ?_
  refine wvirt OGc 13 X0 B hZ hown (ow hw 77 rfl) (ow hw 78 rfl) (ow hw 80 rfl) (ow hw 79 rfl) R5 (ow hw 81 rfl) (ow hw 6 rfl) e0 (rm12 l Z a0 hw [] a2 b ([x0, x1, x2] : List Int32) w h0 R5 R6 R7 R8 R9 hw0) 0 (by decide) (by decide) hml rfl (lenOf pd___I rfl) [] rfl rfl d11_10 rfl fun _ T1 L1 X1 hQ1 => ?_
  obtain ⟨rfl, rfl, e1⟩ := hQ1
  have N1 := Fr.app N0 (Fr.nil n0)
  refine own_stk (S' := [(.int (3 : Int32))]) rfl ?_
  refine wistoreN OGc 14 X1 B d11_13 #[.val (.ref a1), .val (.ref a2), .val (.int (3 : Int32))] rfl rfl ?_
  refine waloadN OGc 15 X1 B d11_14 rfl rfl rfl ?_
  refine waloadN OGc 16 X1 B d11_15 rfl rfl rfl ?_
  refine wgetF OGc 19 X1 B hZ hown (ow hw 88 rfl) e1 R3 d11_16 rfl fun T2 X2 e2 => ?_
  refine wiloadN OGc 20 X2 B d11_19 rfl rfl ?_
  refine wiadd OGc 21 X2 B d11_20 rfl ?_
  show OG p e _ s below _ T2 (mkF m 21 #[.val (.ref a1), .val (.ref a2), .val (.int (3 : Int32))] [(.int (3 : Int32)), (.ref a1)])
  refine wpriv OGc 24 X2 B hZ hown (ow hw 90 rfl) (ow hw 91 rfl) (own_selp2 hZ (ow hw 93 rfl) (ow hw 92 rfl) (ow hw 91 rfl) (by decide)) (ow hw 92 rfl) R0 (ow hw 94 rfl) (ow hw 59 rfl) e2 (rm14_3 l Z a0 hw [] a1 vb (0 : Int32) (0 : Int32) (0 : Int32) (0 : Int32) (0 : Int32) (0 : Int32) (0 : Int32) (0 : Int32) (0 : Int32) (0 : Int32) (0 : Int32) (0 : Int32) (0 : Int32) (0 : Int32) (0 : Int32) (0 : Int32) h0 n0 R1 R2 R4) 0 (by decide) (by decide) hml rfl (lenOf pd__I_V rfl) [] rfl rfl d11_21 rfl fun _ T3 L3 X3 hQ3 => ?_
  obtain ⟨rfl, N3q, K3q⟩ := hQ3
  have N3 := Fr.app N1 N3q
  have K3 := (Keep.refl h0 [a1, vb]).trans K3q (own_all0 )
  have F4 := R0.keep K3q
  have F5 := R1.keep K3q (own_nin0 )
  have F6 := R2.keep K3q (own_nin0 )
  have F7 := R3.keep K3q (own_nin0 )
  have F8 := R4.keep K3q (own_nin0 )
  have F9 := R5.keep K3q
  have F10 := R6.keep K3q (own_nin0 )
  have F11 := R7.keep K3q (own_nin0 )
  have F12 := R8.keep K3q (own_nin0 )
  have F13 := own_staK R9 K3q (own_all0 )
  refine own_stk (S' := []) rfl ?_
  refine waloadN OGc 25 X3 B d11_24 rfl rfl rfl ?_
  refine waloadN OGc 26 X3 B d11_25 rfl rfl rfl ?_
  refine wgetF OGc 29 X3 B hZ hown (ow hw 88 rfl) rfl F7 d11_26 rfl fun T14 X14 e14 => ?_
  refine waloadN OGc 30 X14 B d11_29 rfl rfl rfl ?_
  refine wpriv OGc 33 X14 B hZ hown (ow hw 95 rfl) (ow hw 96 rfl) (own_selp2 hZ (ow hw 98 rfl) (ow hw 97 rfl) (ow hw 96 rfl) (by decide)) (ow hw 97 rfl) F4 (ow hw 99 rfl) (ow hw 59 rfl) e14 (rm15_0_3 l Z a0 hw [] a1 a2 vb b x0 x1 x2 w T3.heap n0 F4 F5 F6 F8 F9 F10 F11 F12 F13 g_vb ne_a2_vb ne_b_vb ne_a1_vb hw0) 0 (by decide) (by decide) hml rfl (lenOf pd__ILjava_lang_String__V rfl) [] rfl rfl d11_30 rfl fun _ T15 L15 X15 hQ15 => ?_
  obtain ⟨rfl, N15q, K15q, P15_0⟩ := hQ15
  have N15 := Fr.app N3 N15q
  have K15 := K3.trans K15q (own_all1 (Or.inl (List.mem_of_getElem? (i := 1) rfl)))
  have F16 := F4.keep K15q
  have F17 := F5.keep K15q (own_nin1 ne_a1_vb)
  have F18 := F6.keep K15q (own_nin1 ne_a1_vb)
  have F19 := F7.keep K15q (own_nin1 ne_a1_vb)
  have F20 := F9.keep K15q
  have F21 := F10.keep K15q (own_nin1 ne_a2_vb)
  have F22 := F11.keep K15q (own_nin1 ne_a2_vb)
  have F23 := F12.keep K15q (own_nin1 ne_b_vb)
  have F24 := own_staK F13 K15q (own_all1 (own_plA F8))
  refine own_stk (S' := []) rfl ?_
  refine waloadN OGc 34 X15 B d11_33 rfl rfl rfl ?_
  refine wdup OGc 35 X15 B d11_34 rfl rfl ?_
  refine wgetF OGc 38 X15 B hZ hown (ow hw 88 rfl) rfl F19 d11_35 rfl fun T25 X25 e25 => ?_
  refine wiloadN OGc 39 X25 B d11_38 rfl rfl ?_
  refine wiadd OGc 40 X25 B d11_39 rfl ?_
  show OG p e _ s below _ T25 (mkF m 40 #[.val (.ref a1), .val (.ref a2), .val (.int (3 : Int32))] [(.int (3 : Int32)), (.ref a1)])
  refine wputF OGc 43 X25 B hZ hown (ow hw 88 rfl) e25 F19 F16 (Or.inl (ow hw 89 rfl)) (ow hw 50 rfl) (ty := .int) (by decide) rfl rfl d11_40 rfl fun T26 h26 X26 e26 W26 => ?_
  have N26 := Fr.snoc X26 N15 g_a1
  have K27 := K15.wr W26 (Or.inl (List.mem_of_getElem? (i := 0) rfl))
  have F28 := F16.wr W26
  have F29 := F17.other W26 (Or.inr (slot_ne (Or.inl (ow hw 64 rfl)) (Or.inl (ow hw 89 rfl)) (by decide) (t := (.array .byte)) (t' := .int) (by decide) (by decide)))
  have F30 := F18.other W26 (Or.inr (slot_ne (Or.inl (ow hw 66 rfl)) (Or.inl (ow hw 89 rfl)) (by decide) (t := .byte) (t' := .int) (by decide) (by decide)))
  have F31 : Fld Z h26 a1 "java/lang/AbstractStringBuilder" "count" "I" (.int (3 : Int32)) := (F19.same W26)
  have F32 := F20.wr W26
  have F33 := F21.other W26 (Or.inl (Ne.symm ne_a1_a2))
  have F34 := F22.other W26 (Or.inl (Ne.symm ne_a1_a2))
  have F35 := F23.other W26 (Ne.symm ne_a1_b)
  have F36 := F24.wr W26
  have F37 := P15_0.other W26 (Ne.symm ne_a1_vb)
  refine waloadN OGc 44 X26 B d11_43 rfl rfl rfl ?_
  refine own_retV X26 hx hret rfl (Or.inr (Or.inr (Or.inr (Or.inr ⟨rfl, rfl, rfl⟩)))) hlk (hb hby d11_44) (by decide) (by decide) ?_
  rw [e26]
  exact ⟨rfl, N26, K27, F28, F29, F30, F31, F37⟩
theorem ef_17_1_0 (m : MethodId) (a1 : Addr) (a2 : Addr) : entryFrame m #[(.ref a1), (.ref a2), (.int (1 : Int32)), (.int (0 : Int32))] 4 = (mkF m 0 #[.val (.ref a1), .val (.ref a2), .val (.int (1 : Int32)), .val (.int (0 : Int32))] []) := by first | (simp [entryFrame, mkF, argsToLocals, Value.category]; done) | rfl
abbrev Q17_1_0 (Z : State) (a1 : Addr) (a2 : Addr) (b : Addr) (u0 : Int32) (w : Int32) (h0 : Heap) (n0 : Nat) : Option Value → Heap → List Loc → Prop := (fun v h L => v = none ∧ Fr n0 L ∧ Keep h0 h [a2] ∧ OA Z h a2 .byte (obuf [u0]))
theorem rm17_1_0 (l : Launch) (Z : State) (a0 : Array Value) (hw : ∀ d ∈ tables_1, d.before a0 Z = true) (ws : List Jvm.Cond) (a1 : Addr) (a2 : Addr) (b : Addr) (u0 : Int32) (w : Int32) (h0 : Heap) (n0 : Nat) (R0 : Exa Z h0 a1 "java/lang/String") (R1 : Fld Z h0 a1 "java/lang/String" "value" "[B" (.ref b)) (R2 : Fld Z h0 a1 "java/lang/String" "coder" "B" (.int (0 : Int32))) (R3 : OA Z h0 b .byte (([] : List Int32).map obv)) (R4 : OA Z h0 a2 .byte (obuf [u0])) (R5 : Sta Z h0 "java/lang/String" "COMPACT_STRINGS" "Z" (.int w)) (g_a2 : n0 ≤ a2) (ne_a1_a2 : a1 ≠ a2) (ne_b_a2 : b ≠ a2) (hw0 : ¬ w = (0 : Int32)) :
    OMet l Z (⟨"java/lang/String", "getBytes", "([BIB)V"⟩ : MethodName) jdk_42_method_147_code 4 none ws ({ frames := 1, cells := 0, slots := 0, locals := 18 } : Room) #[(.ref a1), (.ref a2), (.int (1 : Int32)), (.int (0 : Int32))] h0 (Q17_1_0 Z a1 a2 b u0 w h0 n0) := by
  refine own_enter pn_17 ?_
  intro p e s m below meth c s₁ hx hby hml0 hown hret hlk hnm hZ X0 e0
  have hml : c.maxLocals = 4 := hml0
  have B : BX p c jdk_42_method_147_code := ⟨hx, hby⟩
  have N0 := Fr.nil n0
  refine own_cast (ef_17_1_0 m a1 a2) ?_
  refine waloadN OGc 1 X0 B d17_0 rfl rfl rfl ?_
  refine wvirt OGc 4 X0 B hZ hown (ow hw 82 rfl) (ow hw 83 rfl) (ow hw 85 rfl) (ow hw 84 rfl) R0 (ow hw 86 rfl) (ow hw 6 rfl) e0 (rm13 l Z a0 hw [] a1 w h0 R2 R5 hw0) 0 (by decide) (by decide) hml rfl (lenOf pd___B rfl) [] rfl rfl d17_1 rfl fun _ T1 L1 X1 hQ1 => ?_
  obtain ⟨rfl, rfl, e1⟩ := hQ1
  have N1 := Fr.app N0 (Fr.nil n0)
  refine own_stk (S' := [(.int (0 : Int32))]) rfl ?_
  refine wiloadN OGc 5 X1 B d17_4 rfl rfl ?_
  refine wicmpNo OGc 8 X1 B d17_5 (by decide) rfl ?_
  refine waloadN OGc 9 X1 B d17_8 rfl rfl rfl ?_
  refine wgetF OGc 12 X1 B hZ hown (ow hw 24 rfl) e1 R1 d17_9 rfl fun T2 X2 e2 => ?_
  refine wiconst OGc 13 X2 B d17_12 0 rfl rfl ?_
  refine waloadN OGc 14 X2 B d17_13 rfl rfl rfl ?_
  refine wiloadN OGc 15 X2 B d17_14 rfl rfl ?_
  refine wiloadN OGc 16 X2 B d17_15 rfl rfl ?_
  refine own_st (fun t k => XS.ishl X2.here hx rfl (hb hby d17_16) rfl k) ?_
  show OG p e _ s below _ T2 (mkF m 17 #[.val (.ref a1), .val (.ref a2), .val (.int (1 : Int32)), .val (.int (0 : Int32))] [(.int (1 : Int32)), (.ref a2), (.int (0 : Int32)), (.ref b)])
  refine waloadN OGc 18 X2 B d17_17 rfl rfl rfl ?_
  refine wgetF OGc 21 X2 B hZ hown (ow hw 24 rfl) e2 R1 d17_18 rfl fun T3 X3 e3 => ?_
  refine warlenA OGc 22 X3 B hZ e3 R3 (0 : Int32) rfl d17_21 rfl ?_
  refine wcp OGc 25 X3 B hZ hown (ow hw 111 rfl) (ow hw 114 rfl) (ow hw 112 rfl) (ow hw 113 rfl) e3 R3 R4 (own_bytB [] 0) (own_bytB [u0] 15) 0 16 0 1 0 rfl rfl (z := (0 : Int32)) (z' := (16 : Int32)) (by decide) (([] : List Int32).map obv) rfl (obuf [u0]) rfl rfl N1 g_a2 hml rfl d17_22 (W := 0) rfl (by decide) rfl fun T5 h5 L5 X5 e5 N5 K5q A5 => ?_
  have K5 : Keep h0 h5 [a2] := (Keep.refl h0 [a2]).trans K5q (own_all1 (Or.inl (List.mem_of_getElem? (i := 0) rfl)))
  have F6 := R0.keep K5q
  have F7 := R1.keep K5q (own_nin1 ne_a1_a2)
  have F8 := R2.keep K5q (own_nin1 ne_a1_a2)
  have F9 := R3.keep K5q (own_nin1 ne_b_a2)
  have F10 : OA Z h5 a2 .byte (obuf [u0]) := A5
  have F11 := own_staK R5 K5q (own_all1 (own_plA R4))
  refine wgoto OGc 43 X5 B d17_25 rfl ?_
  refine own_ret0 X5 hx hret hlk (hb hby d17_43) (by decide) (by decide) ?_
  rw [e5]
  exact ⟨rfl, N5, K5, F10⟩
theorem ef_15_1_0 (m : MethodId) (a1 : Addr) (a3 : Addr) : entryFrame m #[(.ref a1), (.int (1 : Int32)), (.ref a3)] 3 = (mkF m 0 #[.val (.ref a1), .val (.int (1 : Int32)), .val (.ref a3)] []) := by first | (simp [entryFrame, mkF, argsToLocals, Value.category]; done) | rfl
abbrev Q15_1_0 (Z : State) (a1 : Addr) (a3 : Addr) (vb : Addr) (b : Addr) (u0 : Int32) (w : Int32) (h0 : Heap) (n0 : Nat) : Option Value → Heap → List Loc → Prop := (fun v h L => v = none ∧ Fr n0 L ∧ Keep h0 h [vb] ∧ OA Z h vb .byte (obuf [u0]))
theorem rm15_1_0 (l : Launch) (Z : State) (a0 : Array Value) (hw : ∀ d ∈ tables_1, d.before a0 Z = true) (ws : List Jvm.Cond) (a1 : Addr) (a3 : Addr) (vb : Addr) (b : Addr) (u0 : Int32) (w : Int32) (h0 : Heap) (n0 : Nat) (R0 : Exa Z h0 a1 "java/lang/StringBuilder") (R1 : Fld Z h0 a1 "java/lang/AbstractStringBuilder" "value" "[B" (.ref vb)) (R2 : Fld Z h0 a1 "java/lang/AbstractStringBuilder" "coder" "B" (.int (0 : Int32))) (R3 : OA Z h0 vb .byte (obuf [u0])) (R4 : Exa Z h0 a3 "java/lang/String") (R5 : Fld Z h0 a3 "java/lang/String" "value" "[B" (.ref b)) (R6 : Fld Z h0 a3 "java/lang/String" "coder" "B" (.int (0 : Int32))) (R7 : OA Z h0 b .byte (([] : List Int32).map obv)) (R8 : Sta Z h0 "java/lang/String" "COMPACT_STRINGS" "Z" (.int w)) (g_vb : n0 ≤ vb) (ne_a3_vb : a3 ≠ vb) (ne_b_vb : b ≠ vb) (ne_a1_vb : a1 ≠ vb) (hw0 : ¬ w = (0 : Int32)) :
    OMet l Z (⟨"java/lang/AbstractStringBuilder", "putStringAt", "(ILjava/lang/String;)V"⟩ : MethodName) jdk_68_method_73_code 3 none ws ({ frames := 2, cells := 0, slots := 0, locals := 33 } : Room) #[(.ref a1), (.int (1 : Int32)), (.ref a3)] h0 (Q15_1_0 Z a1 a3 vb b u0 w h0 n0) := by
  refine own_enter pn_15 ?_
  intro p e s m below meth c s₁ hx hby hml0 hown hret hlk hnm hZ X0 e0
  have hml : c.maxLocals = 3 := hml0
  have B : BX p c jdk_68_method_73_code := ⟨hx, hby⟩
  have N0 := Fr.nil n0
  refine own_cast (ef_15_1_0 m a1 a3) ?_
  refine waloadN OGc 1 X0 B d15_0 rfl rfl rfl ?_
  refine waloadN OGc 2 X0 B d15_1 rfl rfl rfl ?_
  refine wpriv OGc 5 X0 B hZ hown (ow hw 100 rfl) (ow hw 101 rfl) (own_selp2 hZ (ow hw 103 rfl) (ow hw 102 rfl) (ow hw 101 rfl) (by decide)) (ow hw 102 rfl) R0 (ow hw 104 rfl) (ow hw 59 rfl) e0 (rm16 l Z a0 hw [] a1 a3 w h0 n0 R2 R4 R6 R8 hw0) 0 (by decide) (by decide) hml rfl (lenOf pd__Ljava_lang_String__V rfl) [] rfl rfl d15_2 rfl fun _ T1 L1 X1 hQ1 => ?_
  obtain ⟨rfl, N1q, K1q⟩ := hQ1
  have N1 := Fr.app N0 N1q
  have K1 := (Keep.refl h0 [vb]).trans K1q (own_all0 )
  have F2 := R0.keep K1q
  have F3 := R1.keep K1q (own_nin0 )
  have F4 := R2.keep K1q (own_nin0 )
  have F5 := R3.keep K1q (own_nin0 )
  have F6 := R4.keep K1q
  have F7 := R5.keep K1q (own_nin0 )
  have F8 := R6.keep K1q (own_nin0 )
  have F9 := R7.keep K1q (own_nin0 )
  have F10 := own_staK R8 K1q (own_all0 )
  refine own_stk (S' := []) rfl ?_
  refine waloadN OGc 6 X1 B d15_5 rfl rfl rfl ?_
  refine waloadN OGc 7 X1 B d15_6 rfl rfl rfl ?_
  refine wgetF OGc 10 X1 B hZ hown (ow hw 63 rfl) rfl F3 d15_7 rfl fun T11 X11 e11 => ?_
  refine wiloadN OGc 11 X11 B d15_10 rfl rfl ?_
  refine waloadN OGc 12 X11 B d15_11 rfl rfl rfl ?_
  refine wgetF OGc 15 X11 B hZ hown (ow hw 65 rfl) e11 F4 d15_12 rfl fun T12 X12 e12 => ?_
  refine wvirt OGc 18 X12 B hZ hown (ow hw 106 rfl) (ow hw 107 rfl) (ow hw 109 rfl) (ow hw 108 rfl) F6 (ow hw 110 rfl) (ow hw 6 rfl) e12 (rm17_1_0 l Z a0 hw [] a3 vb b u0 w T1.heap n0 F6 F7 F8 F9 F5 F10 g_vb ne_a3_vb ne_b_vb hw0) 0 (by decide) (by decide) hml rfl (lenOf pd___BIB_V rfl) [] rfl rfl d15_15 rfl fun _ T13 L13 X13 hQ13 => ?_
  obtain ⟨rfl, N13q, K13q, P13_0⟩ := hQ13
  have N13 := Fr.app N1 N13q
  have K13 := K1.trans K13q (own_all1 (Or.inl (List.mem_of_getElem? (i := 0) rfl)))
  have F14 := F2.keep K13q
  have F15 := F3.keep K13q (own_nin1 ne_a1_vb)
  have F16 := F4.keep K13q (own_nin1 ne_a1_vb)
  have F17 := F6.keep K13q
  have F18 := F7.keep K13q (own_nin1 ne_a3_vb)
  have F19 := F8.keep K13q (own_nin1 ne_a3_vb)
  have F20 := F9.keep K13q (own_nin1 ne_b_vb)
  have F21 := own_staK F10 K13q (own_all1 (own_plA F5))
  refine own_stk (S' := []) rfl ?_
  refine own_ret0 X13 hx hret hlk (hb hby d15_18) (by decide) (by decide) ?_
  exact ⟨rfl, N13, K13, P13_0⟩
abbrev Q11_1_0 (Z : State) (a1 : Addr) (a2 : Addr) (vb : Addr) (b : Addr) (u0 : Int32) (w : Int32) (h0 : Heap) (n0 : Nat) : Option Value → Heap → List Loc → Prop := (fun v h L => v = some (.ref a1) ∧ Fr n0 L ∧ Keep h0 h [a1, vb] ∧ Exa Z h a1 "java/lang/StringBuilder" ∧ Fld Z h a1 "java/lang/AbstractStringBuilder" "value" "[B" (.ref vb) ∧ Fld Z h a1 "java/lang/AbstractStringBuilder" "coder" "B" (.int (0 : Int32)) ∧ Fld Z h a1 "java/lang/AbstractStringBuilder" "count" "I" (.int (1 : Int32)) ∧ OA Z h vb .byte (obuf [u0]))
theorem rm11_1_0 (l : Launch) (Z : State) (a0 : Array Value) (hw : ∀ d ∈ tables_1, d.before a0 Z = true) (ws : List Jvm.Cond) (a1 : Addr) (a2 : Addr) (vb : Addr) (b : Addr) (u0 : Int32) (w : Int32) (h0 : Heap) (n0 : Nat) (R0 : Exa Z h0 a1 "java/lang/StringBuilder") (R1 : Fld Z h0 a1 "java/lang/AbstractStringBuilder" "value" "[B" (.ref vb)) (R2 : Fld Z h0 a1 "java/lang/AbstractStringBuilder" "coder" "B" (.int (0 : Int32))) (R3 : Fld Z h0 a1 "java/lang/AbstractStringBuilder" "count" "I" (.int (1 : Int32))) (R4 : OA Z h0 vb .byte (obuf [u0])) (R5 : Exa Z h0 a2 "java/lang/String") (R6 : Fld Z h0 a2 "java/lang/String" "value" "[B" (.ref b)) (R7 : Fld Z h0 a2 "java/lang/String" "coder" "B" (.int (0 : Int32))) (R8 : OA Z h0 b .byte (([] : List Int32).map obv)) (R9 : Sta Z h0 "java/lang/String" "COMPACT_STRINGS" "Z" (.int w)) (g_a1 : n0 ≤ a1) (g_vb : n0 ≤ vb) (ne_a2_vb : a2 ≠ vb) (ne_b_vb : b ≠ vb) (ne_a1_vb : a1 ≠ vb) (ne_a1_a2 : a1 ≠ a2) (ne_a1_b : a1 ≠ b) (hw0 : ¬ w = (0 : Int32)) :
    OMet l Z (⟨"java/lang/AbstractStringBuilder", "append", "(Ljava/lang/String;)Ljava/lang/AbstractStringBuilder;"⟩ : MethodName) jdk_68_method_22_code 3 (some (.object "java/lang/AbstractStringBuilder")) ws ({ frames := 3, cells := 0, slots := 0, locals := 47 } : Room) #[(.ref a1), (.ref a2)] h0 (Q11_1_0 Z a1 a2 vb b u0 w h0 n0) := by
  refine own_enter pn_11 ?_
  intro p e s m below meth c s₁ hx hby hml0 hown hret hlk hnm hZ X0 e0
  have hml : c.maxLocals = 3 := hml0
  have B : BX p c jdk_68_method_22_code := ⟨hx, hby⟩
  have N0 := Fr.nil n0
  refine own_cast (ef_11 m a1 a2) ?_
  refine waloadN OGc 1 X0 B d11_0 rfl rfl rfl ?_
  refine wifnonnullYes OGc 9 X0 B d11_1 rfl ?_
  refine waloadN OGc 10 X0 B d11_9 rfl rfl rfl ?_
  refine wvirt OGc 13 X0 B hZ hown (ow hw 77 rfl) (ow hw 78 rfl) (ow hw 80 rfl) (ow hw 79 rfl) R5 (ow hw 81 rfl) (ow hw 6 rfl) e0 (rm12 l Z a0 hw [] a2 b ([] : List Int32) w h0 R5 R6 R7 R8 R9 hw0) 0 (by decide) (by decide) hml rfl (lenOf pd___I rfl) [] rfl rfl d11_10 rfl fun _ T1 L1 X1 hQ1 => ?_
  obtain ⟨rfl, rfl, e1⟩ := hQ1
  have N1 := Fr.app N0 (Fr.nil n0)
  refine own_stk (S' := [(.int (0 : Int32))]) rfl ?_
  refine wistoreN OGc 14 X1 B d11_13 #[.val (.ref a1), .val (.ref a2), .val (.int (0 : Int32))] rfl rfl ?_
  refine waloadN OGc 15 X1 B d11_14 rfl rfl rfl ?_
  refine waloadN OGc 16 X1 B d11_15 rfl rfl rfl ?_
  refine wgetF OGc 19 X1 B hZ hown (ow hw 88 rfl) e1 R3 d11_16 rfl fun T2 X2 e2 => ?_
  refine wiloadN OGc 20 X2 B d11_19 rfl rfl ?_
  refine wiadd OGc 21 X2 B d11_20 rfl ?_
  show OG p e _ s below _ T2 (mkF m 21 #[.val (.ref a1), .val (.ref a2), .val (.int (0 : Int32))] [(.int (1 : Int32)), (.ref a1)])
  refine wpriv OGc 24 X2 B hZ hown (ow hw 90 rfl) (ow hw 91 rfl) (own_selp2 hZ (ow hw 93 rfl) (ow hw 92 rfl) (ow hw 91 rfl) (by decide)) (ow hw 92 rfl) R0 (ow hw 94 rfl) (ow hw 59 rfl) e2 (rm14_1 l Z a0 hw [] a1 vb (nar .byte u0) (0 : Int32) (0 : Int32) (0 : Int32) (0 : Int32) (0 : Int32) (0 : Int32) (0 : Int32) (0 : Int32) (0 : Int32) (0 : Int32) (0 : Int32) (0 : Int32) (0 : Int32) (0 : Int32) (0 : Int32) h0 n0 R1 R2 R4) 0 (by decide) (by decide) hml rfl (lenOf pd__I_V rfl) [] rfl rfl d11_21 rfl fun _ T3 L3 X3 hQ3 => ?_
  obtain ⟨rfl, N3q, K3q⟩ := hQ3
  have N3 := Fr.app N1 N3q
  have K3 := (Keep.refl h0 [a1, vb]).trans K3q (own_all0 )
  have F4 := R0.keep K3q
  have F5 := R1.keep K3q (own_nin0 )
  have F6 := R2.keep K3q (own_nin0 )
  have F7 := R3.keep K3q (own_nin0 )
  have F8 := R4.keep K3q (own_nin0 )
  have F9 := R5.keep K3q
  have F10 := R6.keep K3q (own_nin0 )
  have F11 := R7.keep K3q (own_nin0 )
  have F12 := R8.keep K3q (own_nin0 )
  have F13 := own_staK R9 K3q (own_all0 )
  refine own_stk (S' := []) rfl ?_
  refine waloadN OGc 25 X3 B d11_24 rfl rfl rfl ?_
  refine waloadN OGc 26 X3 B d11_25 rfl rfl rfl ?_
  refine wgetF OGc 29 X3 B hZ hown (ow hw 88 rfl) rfl F7 d11_26 rfl fun T14 X14 e14 => ?_
  refine waloadN OGc 30 X14 B d11_29 rfl rfl rfl ?_
  refine wpriv OGc 33 X14 B hZ hown (ow hw 95 rfl) (ow hw 96 rfl) (own_selp2 hZ (ow hw 98 rfl) (ow hw 97 rfl) (ow hw 96 rfl) (by decide)) (ow hw 97 rfl) F4 (ow hw 99 rfl) (ow hw 59 rfl) e14 (rm15_1_0 l Z a0 hw [] a1 a2 vb b u0 w T3.heap n0 F4 F5 F6 F8 F9 F10 F11 F12 F13 g_vb ne_a2_vb ne_b_vb ne_a1_vb hw0) 0 (by decide) (by decide) hml rfl (lenOf pd__ILjava_lang_String__V rfl) [] rfl rfl d11_30 rfl fun _ T15 L15 X15 hQ15 => ?_
  obtain ⟨rfl, N15q, K15q, P15_0⟩ := hQ15
  have N15 := Fr.app N3 N15q
  have K15 := K3.trans K15q (own_all1 (Or.inl (List.mem_of_getElem? (i := 1) rfl)))
  have F16 := F4.keep K15q
  have F17 := F5.keep K15q (own_nin1 ne_a1_vb)
  have F18 := F6.keep K15q (own_nin1 ne_a1_vb)
  have F19 := F7.keep K15q (own_nin1 ne_a1_vb)
  have F20 := F9.keep K15q
  have F21 := F10.keep K15q (own_nin1 ne_a2_vb)
  have F22 := F11.keep K15q (own_nin1 ne_a2_vb)
  have F23 := F12.keep K15q (own_nin1 ne_b_vb)
  have F24 := own_staK F13 K15q (own_all1 (own_plA F8))
  refine own_stk (S' := []) rfl ?_
  refine waloadN OGc 34 X15 B d11_33 rfl rfl rfl ?_
  refine wdup OGc 35 X15 B d11_34 rfl rfl ?_
  refine wgetF OGc 38 X15 B hZ hown (ow hw 88 rfl) rfl F19 d11_35 rfl fun T25 X25 e25 => ?_
  refine wiloadN OGc 39 X25 B d11_38 rfl rfl ?_
  refine wiadd OGc 40 X25 B d11_39 rfl ?_
  show OG p e _ s below _ T25 (mkF m 40 #[.val (.ref a1), .val (.ref a2), .val (.int (0 : Int32))] [(.int (1 : Int32)), (.ref a1)])
  refine wputF OGc 43 X25 B hZ hown (ow hw 88 rfl) e25 F19 F16 (Or.inl (ow hw 89 rfl)) (ow hw 50 rfl) (ty := .int) (by decide) rfl rfl d11_40 rfl fun T26 h26 X26 e26 W26 => ?_
  have N26 := Fr.snoc X26 N15 g_a1
  have K27 := K15.wr W26 (Or.inl (List.mem_of_getElem? (i := 0) rfl))
  have F28 := F16.wr W26
  have F29 := F17.other W26 (Or.inr (slot_ne (Or.inl (ow hw 64 rfl)) (Or.inl (ow hw 89 rfl)) (by decide) (t := (.array .byte)) (t' := .int) (by decide) (by decide)))
  have F30 := F18.other W26 (Or.inr (slot_ne (Or.inl (ow hw 66 rfl)) (Or.inl (ow hw 89 rfl)) (by decide) (t := .byte) (t' := .int) (by decide) (by decide)))
  have F31 : Fld Z h26 a1 "java/lang/AbstractStringBuilder" "count" "I" (.int (1 : Int32)) := (F19.same W26)
  have F32 := F20.wr W26
  have F33 := F21.other W26 (Or.inl (Ne.symm ne_a1_a2))
  have F34 := F22.other W26 (Or.inl (Ne.symm ne_a1_a2))
  have F35 := F23.other W26 (Ne.symm ne_a1_b)
  have F36 := F24.wr W26
  have F37 := P15_0.other W26 (Ne.symm ne_a1_vb)
  refine waloadN OGc 44 X26 B d11_43 rfl rfl rfl ?_
  refine own_retV X26 hx hret rfl (Or.inr (Or.inr (Or.inr (Or.inr ⟨rfl, rfl, rfl⟩)))) hlk (hb hby d11_44) (by decide) (by decide) ?_
  rw [e26]
  exact ⟨rfl, N26, K27, F28, F29, F30, F31, F37⟩
theorem ef_17_1_1 (m : MethodId) (a1 : Addr) (a2 : Addr) : entryFrame m #[(.ref a1), (.ref a2), (.int (1 : Int32)), (.int (0 : Int32))] 4 = (mkF m 0 #[.val (.ref a1), .val (.ref a2), .val (.int (1 : Int32)), .val (.int (0 : Int32))] []) := by first | (simp [entryFrame, mkF, argsToLocals, Value.category]; done) | rfl
abbrev Q17_1_1 (Z : State) (a1 : Addr) (a2 : Addr) (b : Addr) (u0 : Int32) (x0 : Int32) (w : Int32) (h0 : Heap) (n0 : Nat) : Option Value → Heap → List Loc → Prop := (fun v h L => v = none ∧ Fr n0 L ∧ Keep h0 h [a2] ∧ OA Z h a2 .byte (obuf [u0, x0]))
theorem rm17_1_1 (l : Launch) (Z : State) (a0 : Array Value) (hw : ∀ d ∈ tables_1, d.before a0 Z = true) (ws : List Jvm.Cond) (a1 : Addr) (a2 : Addr) (b : Addr) (u0 : Int32) (x0 : Int32) (w : Int32) (h0 : Heap) (n0 : Nat) (R0 : Exa Z h0 a1 "java/lang/String") (R1 : Fld Z h0 a1 "java/lang/String" "value" "[B" (.ref b)) (R2 : Fld Z h0 a1 "java/lang/String" "coder" "B" (.int (0 : Int32))) (R3 : OA Z h0 b .byte (([x0] : List Int32).map obv)) (R4 : OA Z h0 a2 .byte (obuf [u0])) (R5 : Sta Z h0 "java/lang/String" "COMPACT_STRINGS" "Z" (.int w)) (g_a2 : n0 ≤ a2) (ne_a1_a2 : a1 ≠ a2) (ne_b_a2 : b ≠ a2) (hw0 : ¬ w = (0 : Int32)) :
    OMet l Z (⟨"java/lang/String", "getBytes", "([BIB)V"⟩ : MethodName) jdk_42_method_147_code 4 none ws ({ frames := 1, cells := 0, slots := 0, locals := 18 } : Room) #[(.ref a1), (.ref a2), (.int (1 : Int32)), (.int (0 : Int32))] h0 (Q17_1_1 Z a1 a2 b u0 x0 w h0 n0) := by
  refine own_enter pn_17 ?_
  intro p e s m below meth c s₁ hx hby hml0 hown hret hlk hnm hZ X0 e0
  have hml : c.maxLocals = 4 := hml0
  have B : BX p c jdk_42_method_147_code := ⟨hx, hby⟩
  have N0 := Fr.nil n0
  refine own_cast (ef_17_1_1 m a1 a2) ?_
  refine waloadN OGc 1 X0 B d17_0 rfl rfl rfl ?_
  refine wvirt OGc 4 X0 B hZ hown (ow hw 82 rfl) (ow hw 83 rfl) (ow hw 85 rfl) (ow hw 84 rfl) R0 (ow hw 86 rfl) (ow hw 6 rfl) e0 (rm13 l Z a0 hw [] a1 w h0 R2 R5 hw0) 0 (by decide) (by decide) hml rfl (lenOf pd___B rfl) [] rfl rfl d17_1 rfl fun _ T1 L1 X1 hQ1 => ?_
  obtain ⟨rfl, rfl, e1⟩ := hQ1
  have N1 := Fr.app N0 (Fr.nil n0)
  refine own_stk (S' := [(.int (0 : Int32))]) rfl ?_
  refine wiloadN OGc 5 X1 B d17_4 rfl rfl ?_
  refine wicmpNo OGc 8 X1 B d17_5 (by decide) rfl ?_
  refine waloadN OGc 9 X1 B d17_8 rfl rfl rfl ?_
  refine wgetF OGc 12 X1 B hZ hown (ow hw 24 rfl) e1 R1 d17_9 rfl fun T2 X2 e2 => ?_
  refine wiconst OGc 13 X2 B d17_12 0 rfl rfl ?_
  refine waloadN OGc 14 X2 B d17_13 rfl rfl rfl ?_
  refine wiloadN OGc 15 X2 B d17_14 rfl rfl ?_
  refine wiloadN OGc 16 X2 B d17_15 rfl rfl ?_
  refine own_st (fun t k => XS.ishl X2.here hx rfl (hb hby d17_16) rfl k) ?_
  show OG p e _ s below _ T2 (mkF m 17 #[.val (.ref a1), .val (.ref a2), .val (.int (1 : Int32)), .val (.int (0 : Int32))] [(.int (1 : Int32)), (.ref a2), (.int (0 : Int32)), (.ref b)])
  refine waloadN OGc 18 X2 B d17_17 rfl rfl rfl ?_
  refine wgetF OGc 21 X2 B hZ hown (ow hw 24 rfl) e2 R1 d17_18 rfl fun T3 X3 e3 => ?_
  refine warlenA OGc 22 X3 B hZ e3 R3 (1 : Int32) rfl d17_21 rfl ?_
  refine wcp OGc 25 X3 B hZ hown (ow hw 111 rfl) (ow hw 114 rfl) (ow hw 112 rfl) (ow hw 113 rfl) e3 R3 R4 (own_bytB [x0] 0) (own_bytB [u0] 15) 1 16 0 1 1 rfl rfl (z := (1 : Int32)) (z' := (16 : Int32)) (by decide) (([x0] : List Int32).map obv) rfl (obuf [u0, x0]) rfl rfl N1 g_a2 hml rfl d17_22 (W := 0) rfl (by decide) rfl fun T5 h5 L5 X5 e5 N5 K5q A5 => ?_
  have K5 : Keep h0 h5 [a2] := (Keep.refl h0 [a2]).trans K5q (own_all1 (Or.inl (List.mem_of_getElem? (i := 0) rfl)))
  have F6 := R0.keep K5q
  have F7 := R1.keep K5q (own_nin1 ne_a1_a2)
  have F8 := R2.keep K5q (own_nin1 ne_a1_a2)
  have F9 := R3.keep K5q (own_nin1 ne_b_a2)
  have F10 : OA Z h5 a2 .byte (obuf [u0, x0]) := A5
  have F11 := own_staK R5 K5q (own_all1 (own_plA R4))
  refine wgoto OGc 43 X5 B d17_25 rfl ?_
  refine own_ret0 X5 hx hret hlk (hb hby d17_43) (by decide) (by decide) ?_
  rw [e5]
  exact ⟨rfl, N5, K5, F10⟩
theorem ef_15_1_1 (m : MethodId) (a1 : Addr) (a3 : Addr) : entryFrame m #[(.ref a1), (.int (1 : Int32)), (.ref a3)] 3 = (mkF m 0 #[.val (.ref a1), .val (.int (1 : Int32)), .val (.ref a3)] []) := by first | (simp [entryFrame, mkF, argsToLocals, Value.category]; done) | rfl
abbrev Q15_1_1 (Z : State) (a1 : Addr) (a3 : Addr) (vb : Addr) (b : Addr) (u0 : Int32) (x0 : Int32) (w : Int32) (h0 : Heap) (n0 : Nat) : Option Value → Heap → List Loc → Prop := (fun v h L => v = none ∧ Fr n0 L ∧ Keep h0 h [vb] ∧ OA Z h vb .byte (obuf [u0, x0]))
theorem rm15_1_1 (l : Launch) (Z : State) (a0 : Array Value) (hw : ∀ d ∈ tables_1, d.before a0 Z = true) (ws : List Jvm.Cond) (a1 : Addr) (a3 : Addr) (vb : Addr) (b : Addr) (u0 : Int32) (x0 : Int32) (w : Int32) (h0 : Heap) (n0 : Nat) (R0 : Exa Z h0 a1 "java/lang/StringBuilder") (R1 : Fld Z h0 a1 "java/lang/AbstractStringBuilder" "value" "[B" (.ref vb)) (R2 : Fld Z h0 a1 "java/lang/AbstractStringBuilder" "coder" "B" (.int (0 : Int32))) (R3 : OA Z h0 vb .byte (obuf [u0])) (R4 : Exa Z h0 a3 "java/lang/String") (R5 : Fld Z h0 a3 "java/lang/String" "value" "[B" (.ref b)) (R6 : Fld Z h0 a3 "java/lang/String" "coder" "B" (.int (0 : Int32))) (R7 : OA Z h0 b .byte (([x0] : List Int32).map obv)) (R8 : Sta Z h0 "java/lang/String" "COMPACT_STRINGS" "Z" (.int w)) (g_vb : n0 ≤ vb) (ne_a3_vb : a3 ≠ vb) (ne_b_vb : b ≠ vb) (ne_a1_vb : a1 ≠ vb) (hw0 : ¬ w = (0 : Int32)) :
    OMet l Z (⟨"java/lang/AbstractStringBuilder", "putStringAt", "(ILjava/lang/String;)V"⟩ : MethodName) jdk_68_method_73_code 3 none ws ({ frames := 2, cells := 0, slots := 0, locals := 33 } : Room) #[(.ref a1), (.int (1 : Int32)), (.ref a3)] h0 (Q15_1_1 Z a1 a3 vb b u0 x0 w h0 n0) := by
  refine own_enter pn_15 ?_
  intro p e s m below meth c s₁ hx hby hml0 hown hret hlk hnm hZ X0 e0
  have hml : c.maxLocals = 3 := hml0
  have B : BX p c jdk_68_method_73_code := ⟨hx, hby⟩
  have N0 := Fr.nil n0
  refine own_cast (ef_15_1_1 m a1 a3) ?_
  refine waloadN OGc 1 X0 B d15_0 rfl rfl rfl ?_
  refine waloadN OGc 2 X0 B d15_1 rfl rfl rfl ?_
  refine wpriv OGc 5 X0 B hZ hown (ow hw 100 rfl) (ow hw 101 rfl) (own_selp2 hZ (ow hw 103 rfl) (ow hw 102 rfl) (ow hw 101 rfl) (by decide)) (ow hw 102 rfl) R0 (ow hw 104 rfl) (ow hw 59 rfl) e0 (rm16 l Z a0 hw [] a1 a3 w h0 n0 R2 R4 R6 R8 hw0) 0 (by decide) (by decide) hml rfl (lenOf pd__Ljava_lang_String__V rfl) [] rfl rfl d15_2 rfl fun _ T1 L1 X1 hQ1 => ?_
  obtain ⟨rfl, N1q, K1q⟩ := hQ1
  have N1 := Fr.app N0 N1q
  have K1 := (Keep.refl h0 [vb]).trans K1q (own_all0 )
  have F2 := R0.keep K1q
  have F3 := R1.keep K1q (own_nin0 )
  have F4 := R2.keep K1q (own_nin0 )
  have F5 := R3.keep K1q (own_nin0 )
  have F6 := R4.keep K1q
  have F7 := R5.keep K1q (own_nin0 )
  have F8 := R6.keep K1q (own_nin0 )
  have F9 := R7.keep K1q (own_nin0 )
  have F10 := own_staK R8 K1q (own_all0 )
  refine own_stk (S' := []) rfl ?_
  refine waloadN OGc 6 X1 B d15_5 rfl rfl rfl ?_
  refine waloadN OGc 7 X1 B d15_6 rfl rfl rfl ?_
  refine wgetF OGc 10 X1 B hZ hown (ow hw 63 rfl) rfl F3 d15_7 rfl fun T11 X11 e11 => ?_
  refine wiloadN OGc 11 X11 B d15_10 rfl rfl ?_
  refine waloadN OGc 12 X11 B d15_11 rfl rfl rfl ?_
  refine wgetF OGc 15 X11 B hZ hown (ow hw 65 rfl) e11 F4 d15_12 rfl fun T12 X12 e12 => ?_
  refine wvirt OGc 18 X12 B hZ hown (ow hw 106 rfl) (ow hw 107 rfl) (ow hw 109 rfl) (ow hw 108 rfl) F6 (ow hw 110 rfl) (ow hw 6 rfl) e12 (rm17_1_1 l Z a0 hw [] a3 vb b u0 x0 w T1.heap n0 F6 F7 F8 F9 F5 F10 g_vb ne_a3_vb ne_b_vb hw0) 0 (by decide) (by decide) hml rfl (lenOf pd___BIB_V rfl) [] rfl rfl d15_15 rfl fun _ T13 L13 X13 hQ13 => ?_
  obtain ⟨rfl, N13q, K13q, P13_0⟩ := hQ13
  have N13 := Fr.app N1 N13q
  have K13 := K1.trans K13q (own_all1 (Or.inl (List.mem_of_getElem? (i := 0) rfl)))
  have F14 := F2.keep K13q
  have F15 := F3.keep K13q (own_nin1 ne_a1_vb)
  have F16 := F4.keep K13q (own_nin1 ne_a1_vb)
  have F17 := F6.keep K13q
  have F18 := F7.keep K13q (own_nin1 ne_a3_vb)
  have F19 := F8.keep K13q (own_nin1 ne_a3_vb)
  have F20 := F9.keep K13q (own_nin1 ne_b_vb)
  have F21 := own_staK F10 K13q (own_all1 (own_plA F5))
  refine own_stk (S' := []) rfl ?_
  refine own_ret0 X13 hx hret hlk (hb hby d15_18) (by decide) (by decide) ?_
  exact ⟨rfl, N13, K13, P13_0⟩
abbrev Q11_1_1 (Z : State) (a1 : Addr) (a2 : Addr) (vb : Addr) (b : Addr) (u0 : Int32) (x0 : Int32) (w : Int32) (h0 : Heap) (n0 : Nat) : Option Value → Heap → List Loc → Prop := (fun v h L => v = some (.ref a1) ∧ Fr n0 L ∧ Keep h0 h [a1, vb] ∧ Exa Z h a1 "java/lang/StringBuilder" ∧ Fld Z h a1 "java/lang/AbstractStringBuilder" "value" "[B" (.ref vb) ∧ Fld Z h a1 "java/lang/AbstractStringBuilder" "coder" "B" (.int (0 : Int32)) ∧ Fld Z h a1 "java/lang/AbstractStringBuilder" "count" "I" (.int (2 : Int32)) ∧ OA Z h vb .byte (obuf [u0, x0]))
theorem rm11_1_1 (l : Launch) (Z : State) (a0 : Array Value) (hw : ∀ d ∈ tables_1, d.before a0 Z = true) (ws : List Jvm.Cond) (a1 : Addr) (a2 : Addr) (vb : Addr) (b : Addr) (u0 : Int32) (x0 : Int32) (w : Int32) (h0 : Heap) (n0 : Nat) (R0 : Exa Z h0 a1 "java/lang/StringBuilder") (R1 : Fld Z h0 a1 "java/lang/AbstractStringBuilder" "value" "[B" (.ref vb)) (R2 : Fld Z h0 a1 "java/lang/AbstractStringBuilder" "coder" "B" (.int (0 : Int32))) (R3 : Fld Z h0 a1 "java/lang/AbstractStringBuilder" "count" "I" (.int (1 : Int32))) (R4 : OA Z h0 vb .byte (obuf [u0])) (R5 : Exa Z h0 a2 "java/lang/String") (R6 : Fld Z h0 a2 "java/lang/String" "value" "[B" (.ref b)) (R7 : Fld Z h0 a2 "java/lang/String" "coder" "B" (.int (0 : Int32))) (R8 : OA Z h0 b .byte (([x0] : List Int32).map obv)) (R9 : Sta Z h0 "java/lang/String" "COMPACT_STRINGS" "Z" (.int w)) (g_a1 : n0 ≤ a1) (g_vb : n0 ≤ vb) (ne_a2_vb : a2 ≠ vb) (ne_b_vb : b ≠ vb) (ne_a1_vb : a1 ≠ vb) (ne_a1_a2 : a1 ≠ a2) (ne_a1_b : a1 ≠ b) (hw0 : ¬ w = (0 : Int32)) :
    OMet l Z (⟨"java/lang/AbstractStringBuilder", "append", "(Ljava/lang/String;)Ljava/lang/AbstractStringBuilder;"⟩ : MethodName) jdk_68_method_22_code 3 (some (.object "java/lang/AbstractStringBuilder")) ws ({ frames := 3, cells := 0, slots := 0, locals := 47 } : Room) #[(.ref a1), (.ref a2)] h0 (Q11_1_1 Z a1 a2 vb b u0 x0 w h0 n0) := by
  refine own_enter pn_11 ?_
  intro p e s m below meth c s₁ hx hby hml0 hown hret hlk hnm hZ X0 e0
  have hml : c.maxLocals = 3 := hml0
  have B : BX p c jdk_68_method_22_code := ⟨hx, hby⟩
  have N0 := Fr.nil n0
  refine own_cast (ef_11 m a1 a2) ?_
  refine waloadN OGc 1 X0 B d11_0 rfl rfl rfl ?_
  refine wifnonnullYes OGc 9 X0 B d11_1 rfl ?_
  refine waloadN OGc 10 X0 B d11_9 rfl rfl rfl ?_
  refine wvirt OGc 13 X0 B hZ hown (ow hw 77 rfl) (ow hw 78 rfl) (ow hw 80 rfl) (ow hw 79 rfl) R5 (ow hw 81 rfl) (ow hw 6 rfl) e0 (rm12 l Z a0 hw [] a2 b ([x0] : List Int32) w h0 R5 R6 R7 R8 R9 hw0) 0 (by decide) (by decide) hml rfl (lenOf pd___I rfl) [] rfl rfl d11_10 rfl fun _ T1 L1 X1 hQ1 => ?_
  obtain ⟨rfl, rfl, e1⟩ := hQ1
  have N1 := Fr.app N0 (Fr.nil n0)
  refine own_stk (S' := [(.int (1 : Int32))]) rfl ?_
  refine wistoreN OGc 14 X1 B d11_13 #[.val (.ref a1), .val (.ref a2), .val (.int (1 : Int32))] rfl rfl ?_
  refine waloadN OGc 15 X1 B d11_14 rfl rfl rfl ?_
  refine waloadN OGc 16 X1 B d11_15 rfl rfl rfl ?_
  refine wgetF OGc 19 X1 B hZ hown (ow hw 88 rfl) e1 R3 d11_16 rfl fun T2 X2 e2 => ?_
  refine wiloadN OGc 20 X2 B d11_19 rfl rfl ?_
  refine wiadd OGc 21 X2 B d11_20 rfl ?_
  show OG p e _ s below _ T2 (mkF m 21 #[.val (.ref a1), .val (.ref a2), .val (.int (1 : Int32))] [(.int (2 : Int32)), (.ref a1)])
  refine wpriv OGc 24 X2 B hZ hown (ow hw 90 rfl) (ow hw 91 rfl) (own_selp2 hZ (ow hw 93 rfl) (ow hw 92 rfl) (ow hw 91 rfl) (by decide)) (ow hw 92 rfl) R0 (ow hw 94 rfl) (ow hw 59 rfl) e2 (rm14_2 l Z a0 hw [] a1 vb (nar .byte u0) (0 : Int32) (0 : Int32) (0 : Int32) (0 : Int32) (0 : Int32) (0 : Int32) (0 : Int32) (0 : Int32) (0 : Int32) (0 : Int32) (0 : Int32) (0 : Int32) (0 : Int32) (0 : Int32) (0 : Int32) h0 n0 R1 R2 R4) 0 (by decide) (by decide) hml rfl (lenOf pd__I_V rfl) [] rfl rfl d11_21 rfl fun _ T3 L3 X3 hQ3 => ?_
  obtain ⟨rfl, N3q, K3q⟩ := hQ3
  have N3 := Fr.app N1 N3q
  have K3 := (Keep.refl h0 [a1, vb]).trans K3q (own_all0 )
  have F4 := R0.keep K3q
  have F5 := R1.keep K3q (own_nin0 )
  have F6 := R2.keep K3q (own_nin0 )
  have F7 := R3.keep K3q (own_nin0 )
  have F8 := R4.keep K3q (own_nin0 )
  have F9 := R5.keep K3q
  have F10 := R6.keep K3q (own_nin0 )
  have F11 := R7.keep K3q (own_nin0 )
  have F12 := R8.keep K3q (own_nin0 )
  have F13 := own_staK R9 K3q (own_all0 )
  refine own_stk (S' := []) rfl ?_
  refine waloadN OGc 25 X3 B d11_24 rfl rfl rfl ?_
  refine waloadN OGc 26 X3 B d11_25 rfl rfl rfl ?_
  refine wgetF OGc 29 X3 B hZ hown (ow hw 88 rfl) rfl F7 d11_26 rfl fun T14 X14 e14 => ?_
  refine waloadN OGc 30 X14 B d11_29 rfl rfl rfl ?_
  refine wpriv OGc 33 X14 B hZ hown (ow hw 95 rfl) (ow hw 96 rfl) (own_selp2 hZ (ow hw 98 rfl) (ow hw 97 rfl) (ow hw 96 rfl) (by decide)) (ow hw 97 rfl) F4 (ow hw 99 rfl) (ow hw 59 rfl) e14 (rm15_1_1 l Z a0 hw [] a1 a2 vb b u0 x0 w T3.heap n0 F4 F5 F6 F8 F9 F10 F11 F12 F13 g_vb ne_a2_vb ne_b_vb ne_a1_vb hw0) 0 (by decide) (by decide) hml rfl (lenOf pd__ILjava_lang_String__V rfl) [] rfl rfl d11_30 rfl fun _ T15 L15 X15 hQ15 => ?_
  obtain ⟨rfl, N15q, K15q, P15_0⟩ := hQ15
  have N15 := Fr.app N3 N15q
  have K15 := K3.trans K15q (own_all1 (Or.inl (List.mem_of_getElem? (i := 1) rfl)))
  have F16 := F4.keep K15q
  have F17 := F5.keep K15q (own_nin1 ne_a1_vb)
  have F18 := F6.keep K15q (own_nin1 ne_a1_vb)
  have F19 := F7.keep K15q (own_nin1 ne_a1_vb)
  have F20 := F9.keep K15q
  have F21 := F10.keep K15q (own_nin1 ne_a2_vb)
  have F22 := F11.keep K15q (own_nin1 ne_a2_vb)
  have F23 := F12.keep K15q (own_nin1 ne_b_vb)
  have F24 := own_staK F13 K15q (own_all1 (own_plA F8))
  refine own_stk (S' := []) rfl ?_
  refine waloadN OGc 34 X15 B d11_33 rfl rfl rfl ?_
  refine wdup OGc 35 X15 B d11_34 rfl rfl ?_
  refine wgetF OGc 38 X15 B hZ hown (ow hw 88 rfl) rfl F19 d11_35 rfl fun T25 X25 e25 => ?_
  refine wiloadN OGc 39 X25 B d11_38 rfl rfl ?_
  refine wiadd OGc 40 X25 B d11_39 rfl ?_
  show OG p e _ s below _ T25 (mkF m 40 #[.val (.ref a1), .val (.ref a2), .val (.int (1 : Int32))] [(.int (2 : Int32)), (.ref a1)])
  refine wputF OGc 43 X25 B hZ hown (ow hw 88 rfl) e25 F19 F16 (Or.inl (ow hw 89 rfl)) (ow hw 50 rfl) (ty := .int) (by decide) rfl rfl d11_40 rfl fun T26 h26 X26 e26 W26 => ?_
  have N26 := Fr.snoc X26 N15 g_a1
  have K27 := K15.wr W26 (Or.inl (List.mem_of_getElem? (i := 0) rfl))
  have F28 := F16.wr W26
  have F29 := F17.other W26 (Or.inr (slot_ne (Or.inl (ow hw 64 rfl)) (Or.inl (ow hw 89 rfl)) (by decide) (t := (.array .byte)) (t' := .int) (by decide) (by decide)))
  have F30 := F18.other W26 (Or.inr (slot_ne (Or.inl (ow hw 66 rfl)) (Or.inl (ow hw 89 rfl)) (by decide) (t := .byte) (t' := .int) (by decide) (by decide)))
  have F31 : Fld Z h26 a1 "java/lang/AbstractStringBuilder" "count" "I" (.int (2 : Int32)) := (F19.same W26)
  have F32 := F20.wr W26
  have F33 := F21.other W26 (Or.inl (Ne.symm ne_a1_a2))
  have F34 := F22.other W26 (Or.inl (Ne.symm ne_a1_a2))
  have F35 := F23.other W26 (Ne.symm ne_a1_b)
  have F36 := F24.wr W26
  have F37 := P15_0.other W26 (Ne.symm ne_a1_vb)
  refine waloadN OGc 44 X26 B d11_43 rfl rfl rfl ?_
  refine own_retV X26 hx hret rfl (Or.inr (Or.inr (Or.inr (Or.inr ⟨rfl, rfl, rfl⟩)))) hlk (hb hby d11_44) (by decide) (by decide) ?_
  rw [e26]
  exact ⟨rfl, N26, K27, F28, F29, F30, F31, F37⟩
theorem ef_17_1_2 (m : MethodId) (a1 : Addr) (a2 : Addr) : entryFrame m #[(.ref a1), (.ref a2), (.int (1 : Int32)), (.int (0 : Int32))] 4 = (mkF m 0 #[.val (.ref a1), .val (.ref a2), .val (.int (1 : Int32)), .val (.int (0 : Int32))] []) := by first | (simp [entryFrame, mkF, argsToLocals, Value.category]; done) | rfl
abbrev Q17_1_2 (Z : State) (a1 : Addr) (a2 : Addr) (b : Addr) (u0 : Int32) (x0 : Int32) (x1 : Int32) (w : Int32) (h0 : Heap) (n0 : Nat) : Option Value → Heap → List Loc → Prop := (fun v h L => v = none ∧ Fr n0 L ∧ Keep h0 h [a2] ∧ OA Z h a2 .byte (obuf [u0, x0, x1]))
theorem rm17_1_2 (l : Launch) (Z : State) (a0 : Array Value) (hw : ∀ d ∈ tables_1, d.before a0 Z = true) (ws : List Jvm.Cond) (a1 : Addr) (a2 : Addr) (b : Addr) (u0 : Int32) (x0 : Int32) (x1 : Int32) (w : Int32) (h0 : Heap) (n0 : Nat) (R0 : Exa Z h0 a1 "java/lang/String") (R1 : Fld Z h0 a1 "java/lang/String" "value" "[B" (.ref b)) (R2 : Fld Z h0 a1 "java/lang/String" "coder" "B" (.int (0 : Int32))) (R3 : OA Z h0 b .byte (([x0, x1] : List Int32).map obv)) (R4 : OA Z h0 a2 .byte (obuf [u0])) (R5 : Sta Z h0 "java/lang/String" "COMPACT_STRINGS" "Z" (.int w)) (g_a2 : n0 ≤ a2) (ne_a1_a2 : a1 ≠ a2) (ne_b_a2 : b ≠ a2) (hw0 : ¬ w = (0 : Int32)) :
    OMet l Z (⟨"java/lang/String", "getBytes", "([BIB)V"⟩ : MethodName) jdk_42_method_147_code 4 none ws ({ frames := 1, cells := 0, slots := 0, locals := 18 } : Room) #[(.ref a1), (.ref a2), (.int (1 : Int32)), (.int (0 : Int32))] h0 (Q17_1_2 Z a1 a2 b u0 x0 x1 w h0 n0) := by
  refine own_enter pn_17 ?_
  intro p e s m below meth c s₁ hx hby hml0 hown hret hlk hnm hZ X0 e0
  have hml : c.maxLocals = 4 := hml0
  have B : BX p c jdk_42_method_147_code := ⟨hx, hby⟩
  have N0 := Fr.nil n0
  refine own_cast (ef_17_1_2 m a1 a2) ?_
  refine waloadN OGc 1 X0 B d17_0 rfl rfl rfl ?_
  refine wvirt OGc 4 X0 B hZ hown (ow hw 82 rfl) (ow hw 83 rfl) (ow hw 85 rfl) (ow hw 84 rfl) R0 (ow hw 86 rfl) (ow hw 6 rfl) e0 (rm13 l Z a0 hw [] a1 w h0 R2 R5 hw0) 0 (by decide) (by decide) hml rfl (lenOf pd___B rfl) [] rfl rfl d17_1 rfl fun _ T1 L1 X1 hQ1 => ?_
  obtain ⟨rfl, rfl, e1⟩ := hQ1
  have N1 := Fr.app N0 (Fr.nil n0)
  refine own_stk (S' := [(.int (0 : Int32))]) rfl ?_
  refine wiloadN OGc 5 X1 B d17_4 rfl rfl ?_
  refine wicmpNo OGc 8 X1 B d17_5 (by decide) rfl ?_
  refine waloadN OGc 9 X1 B d17_8 rfl rfl rfl ?_
  refine wgetF OGc 12 X1 B hZ hown (ow hw 24 rfl) e1 R1 d17_9 rfl fun T2 X2 e2 => ?_
  refine wiconst OGc 13 X2 B d17_12 0 rfl rfl ?_
  refine waloadN OGc 14 X2 B d17_13 rfl rfl rfl ?_
  refine wiloadN OGc 15 X2 B d17_14 rfl rfl ?_
  refine wiloadN OGc 16 X2 B d17_15 rfl rfl ?_
  refine own_st (fun t k => XS.ishl X2.here hx rfl (hb hby d17_16) rfl k) ?_
  show OG p e _ s below _ T2 (mkF m 17 #[.val (.ref a1), .val (.ref a2), .val (.int (1 : Int32)), .val (.int (0 : Int32))] [(.int (1 : Int32)), (.ref a2), (.int (0 : Int32)), (.ref b)])
  refine waloadN OGc 18 X2 B d17_17 rfl rfl rfl ?_
  refine wgetF OGc 21 X2 B hZ hown (ow hw 24 rfl) e2 R1 d17_18 rfl fun T3 X3 e3 => ?_
  refine warlenA OGc 22 X3 B hZ e3 R3 (2 : Int32) rfl d17_21 rfl ?_
  refine wcp OGc 25 X3 B hZ hown (ow hw 111 rfl) (ow hw 114 rfl) (ow hw 112 rfl) (ow hw 113 rfl) e3 R3 R4 (own_bytB [x0, x1] 0) (own_bytB [u0] 15) 2 16 0 1 2 rfl rfl (z := (2 : Int32)) (z' := (16 : Int32)) (by decide) (([x0, x1] : List Int32).map obv) rfl (obuf [u0, x0, x1]) rfl rfl N1 g_a2 hml rfl d17_22 (W := 0) rfl (by decide) rfl fun T5 h5 L5 X5 e5 N5 K5q A5 => ?_
  have K5 : Keep h0 h5 [a2] := (Keep.refl h0 [a2]).trans K5q (own_all1 (Or.inl (List.mem_of_getElem? (i := 0) rfl)))
  have F6 := R0.keep K5q
  have F7 := R1.keep K5q (own_nin1 ne_a1_a2)
  have F8 := R2.keep K5q (own_nin1 ne_a1_a2)
  have F9 := R3.keep K5q (own_nin1 ne_b_a2)
  have F10 : OA Z h5 a2 .byte (obuf [u0, x0, x1]) := A5
  have F11 := own_staK R5 K5q (own_all1 (own_plA R4))
  refine wgoto OGc 43 X5 B d17_25 rfl ?_
  refine own_ret0 X5 hx hret hlk (hb hby d17_43) (by decide) (by decide) ?_
  rw [e5]
  exact ⟨rfl, N5, K5, F10⟩
theorem ef_15_1_2 (m : MethodId) (a1 : Addr) (a3 : Addr) : entryFrame m #[(.ref a1), (.int (1 : Int32)), (.ref a3)] 3 = (mkF m 0 #[.val (.ref a1), .val (.int (1 : Int32)), .val (.ref a3)] []) := by first | (simp [entryFrame, mkF, argsToLocals, Value.category]; done) | rfl
abbrev Q15_1_2 (Z : State) (a1 : Addr) (a3 : Addr) (vb : Addr) (b : Addr) (u0 : Int32) (x0 : Int32) (x1 : Int32) (w : Int32) (h0 : Heap) (n0 : Nat) : Option Value → Heap → List Loc → Prop := (fun v h L => v = none ∧ Fr n0 L ∧ Keep h0 h [vb] ∧ OA Z h vb .byte (obuf [u0, x0, x1]))
theorem rm15_1_2 (l : Launch) (Z : State) (a0 : Array Value) (hw : ∀ d ∈ tables_1, d.before a0 Z = true) (ws : List Jvm.Cond) (a1 : Addr) (a3 : Addr) (vb : Addr) (b : Addr) (u0 : Int32) (x0 : Int32) (x1 : Int32) (w : Int32) (h0 : Heap) (n0 : Nat) (R0 : Exa Z h0 a1 "java/lang/StringBuilder") (R1 : Fld Z h0 a1 "java/lang/AbstractStringBuilder" "value" "[B" (.ref vb)) (R2 : Fld Z h0 a1 "java/lang/AbstractStringBuilder" "coder" "B" (.int (0 : Int32))) (R3 : OA Z h0 vb .byte (obuf [u0])) (R4 : Exa Z h0 a3 "java/lang/String") (R5 : Fld Z h0 a3 "java/lang/String" "value" "[B" (.ref b)) (R6 : Fld Z h0 a3 "java/lang/String" "coder" "B" (.int (0 : Int32))) (R7 : OA Z h0 b .byte (([x0, x1] : List Int32).map obv)) (R8 : Sta Z h0 "java/lang/String" "COMPACT_STRINGS" "Z" (.int w)) (g_vb : n0 ≤ vb) (ne_a3_vb : a3 ≠ vb) (ne_b_vb : b ≠ vb) (ne_a1_vb : a1 ≠ vb) (hw0 : ¬ w = (0 : Int32)) :
    OMet l Z (⟨"java/lang/AbstractStringBuilder", "putStringAt", "(ILjava/lang/String;)V"⟩ : MethodName) jdk_68_method_73_code 3 none ws ({ frames := 2, cells := 0, slots := 0, locals := 33 } : Room) #[(.ref a1), (.int (1 : Int32)), (.ref a3)] h0 (Q15_1_2 Z a1 a3 vb b u0 x0 x1 w h0 n0) := by
  refine own_enter pn_15 ?_
  intro p e s m below meth c s₁ hx hby hml0 hown hret hlk hnm hZ X0 e0
  have hml : c.maxLocals = 3 := hml0
  have B : BX p c jdk_68_method_73_code := ⟨hx, hby⟩
  have N0 := Fr.nil n0
  refine own_cast (ef_15_1_2 m a1 a3) ?_
  refine waloadN OGc 1 X0 B d15_0 rfl rfl rfl ?_
  refine waloadN OGc 2 X0 B d15_1 rfl rfl rfl ?_
  refine wpriv OGc 5 X0 B hZ hown (ow hw 100 rfl) (ow hw 101 rfl) (own_selp2 hZ (ow hw 103 rfl) (ow hw 102 rfl) (ow hw 101 rfl) (by decide)) (ow hw 102 rfl) R0 (ow hw 104 rfl) (ow hw 59 rfl) e0 (rm16 l Z a0 hw [] a1 a3 w h0 n0 R2 R4 R6 R8 hw0) 0 (by decide) (by decide) hml rfl (lenOf pd__Ljava_lang_String__V rfl) [] rfl rfl d15_2 rfl fun _ T1 L1 X1 hQ1 => ?_
  obtain ⟨rfl, N1q, K1q⟩ := hQ1
  have N1 := Fr.app N0 N1q
  have K1 := (Keep.refl h0 [vb]).trans K1q (own_all0 )
  have F2 := R0.keep K1q
  have F3 := R1.keep K1q (own_nin0 )
  have F4 := R2.keep K1q (own_nin0 )
  have F5 := R3.keep K1q (own_nin0 )
  have F6 := R4.keep K1q
  have F7 := R5.keep K1q (own_nin0 )
  have F8 := R6.keep K1q (own_nin0 )
  have F9 := R7.keep K1q (own_nin0 )
  have F10 := own_staK R8 K1q (own_all0 )
  refine own_stk (S' := []) rfl ?_
  refine waloadN OGc 6 X1 B d15_5 rfl rfl rfl ?_
  refine waloadN OGc 7 X1 B d15_6 rfl rfl rfl ?_
  refine wgetF OGc 10 X1 B hZ hown (ow hw 63 rfl) rfl F3 d15_7 rfl fun T11 X11 e11 => ?_
  refine wiloadN OGc 11 X11 B d15_10 rfl rfl ?_
  refine waloadN OGc 12 X11 B d15_11 rfl rfl rfl ?_
  refine wgetF OGc 15 X11 B hZ hown (ow hw 65 rfl) e11 F4 d15_12 rfl fun T12 X12 e12 => ?_
  refine wvirt OGc 18 X12 B hZ hown (ow hw 106 rfl) (ow hw 107 rfl) (ow hw 109 rfl) (ow hw 108 rfl) F6 (ow hw 110 rfl) (ow hw 6 rfl) e12 (rm17_1_2 l Z a0 hw [] a3 vb b u0 x0 x1 w T1.heap n0 F6 F7 F8 F9 F5 F10 g_vb ne_a3_vb ne_b_vb hw0) 0 (by decide) (by decide) hml rfl (lenOf pd___BIB_V rfl) [] rfl rfl d15_15 rfl fun _ T13 L13 X13 hQ13 => ?_
  obtain ⟨rfl, N13q, K13q, P13_0⟩ := hQ13
  have N13 := Fr.app N1 N13q
  have K13 := K1.trans K13q (own_all1 (Or.inl (List.mem_of_getElem? (i := 0) rfl)))
  have F14 := F2.keep K13q
  have F15 := F3.keep K13q (own_nin1 ne_a1_vb)
  have F16 := F4.keep K13q (own_nin1 ne_a1_vb)
  have F17 := F6.keep K13q
  have F18 := F7.keep K13q (own_nin1 ne_a3_vb)
  have F19 := F8.keep K13q (own_nin1 ne_a3_vb)
  have F20 := F9.keep K13q (own_nin1 ne_b_vb)
  have F21 := own_staK F10 K13q (own_all1 (own_plA F5))
  refine own_stk (S' := []) rfl ?_
  refine own_ret0 X13 hx hret hlk (hb hby d15_18) (by decide) (by decide) ?_
  exact ⟨rfl, N13, K13, P13_0⟩
abbrev Q11_1_2 (Z : State) (a1 : Addr) (a2 : Addr) (vb : Addr) (b : Addr) (u0 : Int32) (x0 : Int32) (x1 : Int32) (w : Int32) (h0 : Heap) (n0 : Nat) : Option Value → Heap → List Loc → Prop := (fun v h L => v = some (.ref a1) ∧ Fr n0 L ∧ Keep h0 h [a1, vb] ∧ Exa Z h a1 "java/lang/StringBuilder" ∧ Fld Z h a1 "java/lang/AbstractStringBuilder" "value" "[B" (.ref vb) ∧ Fld Z h a1 "java/lang/AbstractStringBuilder" "coder" "B" (.int (0 : Int32)) ∧ Fld Z h a1 "java/lang/AbstractStringBuilder" "count" "I" (.int (3 : Int32)) ∧ OA Z h vb .byte (obuf [u0, x0, x1]))
theorem rm11_1_2 (l : Launch) (Z : State) (a0 : Array Value) (hw : ∀ d ∈ tables_1, d.before a0 Z = true) (ws : List Jvm.Cond) (a1 : Addr) (a2 : Addr) (vb : Addr) (b : Addr) (u0 : Int32) (x0 : Int32) (x1 : Int32) (w : Int32) (h0 : Heap) (n0 : Nat) (R0 : Exa Z h0 a1 "java/lang/StringBuilder") (R1 : Fld Z h0 a1 "java/lang/AbstractStringBuilder" "value" "[B" (.ref vb)) (R2 : Fld Z h0 a1 "java/lang/AbstractStringBuilder" "coder" "B" (.int (0 : Int32))) (R3 : Fld Z h0 a1 "java/lang/AbstractStringBuilder" "count" "I" (.int (1 : Int32))) (R4 : OA Z h0 vb .byte (obuf [u0])) (R5 : Exa Z h0 a2 "java/lang/String") (R6 : Fld Z h0 a2 "java/lang/String" "value" "[B" (.ref b)) (R7 : Fld Z h0 a2 "java/lang/String" "coder" "B" (.int (0 : Int32))) (R8 : OA Z h0 b .byte (([x0, x1] : List Int32).map obv)) (R9 : Sta Z h0 "java/lang/String" "COMPACT_STRINGS" "Z" (.int w)) (g_a1 : n0 ≤ a1) (g_vb : n0 ≤ vb) (ne_a2_vb : a2 ≠ vb) (ne_b_vb : b ≠ vb) (ne_a1_vb : a1 ≠ vb) (ne_a1_a2 : a1 ≠ a2) (ne_a1_b : a1 ≠ b) (hw0 : ¬ w = (0 : Int32)) :
    OMet l Z (⟨"java/lang/AbstractStringBuilder", "append", "(Ljava/lang/String;)Ljava/lang/AbstractStringBuilder;"⟩ : MethodName) jdk_68_method_22_code 3 (some (.object "java/lang/AbstractStringBuilder")) ws ({ frames := 3, cells := 0, slots := 0, locals := 47 } : Room) #[(.ref a1), (.ref a2)] h0 (Q11_1_2 Z a1 a2 vb b u0 x0 x1 w h0 n0) := by
  refine own_enter pn_11 ?_
  intro p e s m below meth c s₁ hx hby hml0 hown hret hlk hnm hZ X0 e0
  have hml : c.maxLocals = 3 := hml0
  have B : BX p c jdk_68_method_22_code := ⟨hx, hby⟩
  have N0 := Fr.nil n0
  refine own_cast (ef_11 m a1 a2) ?_
  refine waloadN OGc 1 X0 B d11_0 rfl rfl rfl ?_
  refine wifnonnullYes OGc 9 X0 B d11_1 rfl ?_
  refine waloadN OGc 10 X0 B d11_9 rfl rfl rfl ?_
  refine wvirt OGc 13 X0 B hZ hown (ow hw 77 rfl) (ow hw 78 rfl) (ow hw 80 rfl) (ow hw 79 rfl) R5 (ow hw 81 rfl) (ow hw 6 rfl) e0 (rm12 l Z a0 hw [] a2 b ([x0, x1] : List Int32) w h0 R5 R6 R7 R8 R9 hw0) 0 (by decide) (by decide) hml rfl (lenOf pd___I rfl) [] rfl rfl d11_10 rfl fun _ T1 L1 X1 hQ1 => ?_
  obtain ⟨rfl, rfl, e1⟩ := hQ1
  have N1 := Fr.app N0 (Fr.nil n0)
  refine own_stk (S' := [(.int (2 : Int32))]) rfl ?_
  refine wistoreN OGc 14 X1 B d11_13 #[.val (.ref a1), .val (.ref a2), .val (.int (2 : Int32))] rfl rfl ?_
  refine waloadN OGc 15 X1 B d11_14 rfl rfl rfl ?_
  refine waloadN OGc 16 X1 B d11_15 rfl rfl rfl ?_
  refine wgetF OGc 19 X1 B hZ hown (ow hw 88 rfl) e1 R3 d11_16 rfl fun T2 X2 e2 => ?_
  refine wiloadN OGc 20 X2 B d11_19 rfl rfl ?_
  refine wiadd OGc 21 X2 B d11_20 rfl ?_
  show OG p e _ s below _ T2 (mkF m 21 #[.val (.ref a1), .val (.ref a2), .val (.int (2 : Int32))] [(.int (3 : Int32)), (.ref a1)])
  refine wpriv OGc 24 X2 B hZ hown (ow hw 90 rfl) (ow hw 91 rfl) (own_selp2 hZ (ow hw 93 rfl) (ow hw 92 rfl) (ow hw 91 rfl) (by decide)) (ow hw 92 rfl) R0 (ow hw 94 rfl) (ow hw 59 rfl) e2 (rm14_3 l Z a0 hw [] a1 vb (nar .byte u0) (0 : Int32) (0 : Int32) (0 : Int32) (0 : Int32) (0 : Int32) (0 : Int32) (0 : Int32) (0 : Int32) (0 : Int32) (0 : Int32) (0 : Int32) (0 : Int32) (0 : Int32) (0 : Int32) (0 : Int32) h0 n0 R1 R2 R4) 0 (by decide) (by decide) hml rfl (lenOf pd__I_V rfl) [] rfl rfl d11_21 rfl fun _ T3 L3 X3 hQ3 => ?_
  obtain ⟨rfl, N3q, K3q⟩ := hQ3
  have N3 := Fr.app N1 N3q
  have K3 := (Keep.refl h0 [a1, vb]).trans K3q (own_all0 )
  have F4 := R0.keep K3q
  have F5 := R1.keep K3q (own_nin0 )
  have F6 := R2.keep K3q (own_nin0 )
  have F7 := R3.keep K3q (own_nin0 )
  have F8 := R4.keep K3q (own_nin0 )
  have F9 := R5.keep K3q
  have F10 := R6.keep K3q (own_nin0 )
  have F11 := R7.keep K3q (own_nin0 )
  have F12 := R8.keep K3q (own_nin0 )
  have F13 := own_staK R9 K3q (own_all0 )
  refine own_stk (S' := []) rfl ?_
  refine waloadN OGc 25 X3 B d11_24 rfl rfl rfl ?_
  refine waloadN OGc 26 X3 B d11_25 rfl rfl rfl ?_
  refine wgetF OGc 29 X3 B hZ hown (ow hw 88 rfl) rfl F7 d11_26 rfl fun T14 X14 e14 => ?_
  refine waloadN OGc 30 X14 B d11_29 rfl rfl rfl ?_
  refine wpriv OGc 33 X14 B hZ hown (ow hw 95 rfl) (ow hw 96 rfl) (own_selp2 hZ (ow hw 98 rfl) (ow hw 97 rfl) (ow hw 96 rfl) (by decide)) (ow hw 97 rfl) F4 (ow hw 99 rfl) (ow hw 59 rfl) e14 (rm15_1_2 l Z a0 hw [] a1 a2 vb b u0 x0 x1 w T3.heap n0 F4 F5 F6 F8 F9 F10 F11 F12 F13 g_vb ne_a2_vb ne_b_vb ne_a1_vb hw0) 0 (by decide) (by decide) hml rfl (lenOf pd__ILjava_lang_String__V rfl) [] rfl rfl d11_30 rfl fun _ T15 L15 X15 hQ15 => ?_
  obtain ⟨rfl, N15q, K15q, P15_0⟩ := hQ15
  have N15 := Fr.app N3 N15q
  have K15 := K3.trans K15q (own_all1 (Or.inl (List.mem_of_getElem? (i := 1) rfl)))
  have F16 := F4.keep K15q
  have F17 := F5.keep K15q (own_nin1 ne_a1_vb)
  have F18 := F6.keep K15q (own_nin1 ne_a1_vb)
  have F19 := F7.keep K15q (own_nin1 ne_a1_vb)
  have F20 := F9.keep K15q
  have F21 := F10.keep K15q (own_nin1 ne_a2_vb)
  have F22 := F11.keep K15q (own_nin1 ne_a2_vb)
  have F23 := F12.keep K15q (own_nin1 ne_b_vb)
  have F24 := own_staK F13 K15q (own_all1 (own_plA F8))
  refine own_stk (S' := []) rfl ?_
  refine waloadN OGc 34 X15 B d11_33 rfl rfl rfl ?_
  refine wdup OGc 35 X15 B d11_34 rfl rfl ?_
  refine wgetF OGc 38 X15 B hZ hown (ow hw 88 rfl) rfl F19 d11_35 rfl fun T25 X25 e25 => ?_
  refine wiloadN OGc 39 X25 B d11_38 rfl rfl ?_
  refine wiadd OGc 40 X25 B d11_39 rfl ?_
  show OG p e _ s below _ T25 (mkF m 40 #[.val (.ref a1), .val (.ref a2), .val (.int (2 : Int32))] [(.int (3 : Int32)), (.ref a1)])
  refine wputF OGc 43 X25 B hZ hown (ow hw 88 rfl) e25 F19 F16 (Or.inl (ow hw 89 rfl)) (ow hw 50 rfl) (ty := .int) (by decide) rfl rfl d11_40 rfl fun T26 h26 X26 e26 W26 => ?_
  have N26 := Fr.snoc X26 N15 g_a1
  have K27 := K15.wr W26 (Or.inl (List.mem_of_getElem? (i := 0) rfl))
  have F28 := F16.wr W26
  have F29 := F17.other W26 (Or.inr (slot_ne (Or.inl (ow hw 64 rfl)) (Or.inl (ow hw 89 rfl)) (by decide) (t := (.array .byte)) (t' := .int) (by decide) (by decide)))
  have F30 := F18.other W26 (Or.inr (slot_ne (Or.inl (ow hw 66 rfl)) (Or.inl (ow hw 89 rfl)) (by decide) (t := .byte) (t' := .int) (by decide) (by decide)))
  have F31 : Fld Z h26 a1 "java/lang/AbstractStringBuilder" "count" "I" (.int (3 : Int32)) := (F19.same W26)
  have F32 := F20.wr W26
  have F33 := F21.other W26 (Or.inl (Ne.symm ne_a1_a2))
  have F34 := F22.other W26 (Or.inl (Ne.symm ne_a1_a2))
  have F35 := F23.other W26 (Ne.symm ne_a1_b)
  have F36 := F24.wr W26
  have F37 := P15_0.other W26 (Ne.symm ne_a1_vb)
  refine waloadN OGc 44 X26 B d11_43 rfl rfl rfl ?_
  refine own_retV X26 hx hret rfl (Or.inr (Or.inr (Or.inr (Or.inr ⟨rfl, rfl, rfl⟩)))) hlk (hb hby d11_44) (by decide) (by decide) ?_
  rw [e26]
  exact ⟨rfl, N26, K27, F28, F29, F30, F31, F37⟩
theorem ef_17_1_3 (m : MethodId) (a1 : Addr) (a2 : Addr) : entryFrame m #[(.ref a1), (.ref a2), (.int (1 : Int32)), (.int (0 : Int32))] 4 = (mkF m 0 #[.val (.ref a1), .val (.ref a2), .val (.int (1 : Int32)), .val (.int (0 : Int32))] []) := by first | (simp [entryFrame, mkF, argsToLocals, Value.category]; done) | rfl
abbrev Q17_1_3 (Z : State) (a1 : Addr) (a2 : Addr) (b : Addr) (u0 : Int32) (x0 : Int32) (x1 : Int32) (x2 : Int32) (w : Int32) (h0 : Heap) (n0 : Nat) : Option Value → Heap → List Loc → Prop := (fun v h L => v = none ∧ Fr n0 L ∧ Keep h0 h [a2] ∧ OA Z h a2 .byte (obuf [u0, x0, x1, x2]))
theorem rm17_1_3 (l : Launch) (Z : State) (a0 : Array Value) (hw : ∀ d ∈ tables_1, d.before a0 Z = true) (ws : List Jvm.Cond) (a1 : Addr) (a2 : Addr) (b : Addr) (u0 : Int32) (x0 : Int32) (x1 : Int32) (x2 : Int32) (w : Int32) (h0 : Heap) (n0 : Nat) (R0 : Exa Z h0 a1 "java/lang/String") (R1 : Fld Z h0 a1 "java/lang/String" "value" "[B" (.ref b)) (R2 : Fld Z h0 a1 "java/lang/String" "coder" "B" (.int (0 : Int32))) (R3 : OA Z h0 b .byte (([x0, x1, x2] : List Int32).map obv)) (R4 : OA Z h0 a2 .byte (obuf [u0])) (R5 : Sta Z h0 "java/lang/String" "COMPACT_STRINGS" "Z" (.int w)) (g_a2 : n0 ≤ a2) (ne_a1_a2 : a1 ≠ a2) (ne_b_a2 : b ≠ a2) (hw0 : ¬ w = (0 : Int32)) :
    OMet l Z (⟨"java/lang/String", "getBytes", "([BIB)V"⟩ : MethodName) jdk_42_method_147_code 4 none ws ({ frames := 1, cells := 0, slots := 0, locals := 18 } : Room) #[(.ref a1), (.ref a2), (.int (1 : Int32)), (.int (0 : Int32))] h0 (Q17_1_3 Z a1 a2 b u0 x0 x1 x2 w h0 n0) := by
  refine own_enter pn_17 ?_
  intro p e s m below meth c s₁ hx hby hml0 hown hret hlk hnm hZ X0 e0
  have hml : c.maxLocals = 4 := hml0
  have B : BX p c jdk_42_method_147_code := ⟨hx, hby⟩
  have N0 := Fr.nil n0
  refine own_cast (ef_17_1_3 m a1 a2) ?_
  refine waloadN OGc 1 X0 B d17_0 rfl rfl rfl ?_
  refine wvirt OGc 4 X0 B hZ hown (ow hw 82 rfl) (ow hw 83 rfl) (ow hw 85 rfl) (ow hw 84 rfl) R0 (ow hw 86 rfl) (ow hw 6 rfl) e0 (rm13 l Z a0 hw [] a1 w h0 R2 R5 hw0) 0 (by decide) (by decide) hml rfl (lenOf pd___B rfl) [] rfl rfl d17_1 rfl fun _ T1 L1 X1 hQ1 => ?_
  obtain ⟨rfl, rfl, e1⟩ := hQ1
  have N1 := Fr.app N0 (Fr.nil n0)
  refine own_stk (S' := [(.int (0 : Int32))]) rfl ?_
  refine wiloadN OGc 5 X1 B d17_4 rfl rfl ?_
  refine wicmpNo OGc 8 X1 B d17_5 (by decide) rfl ?_
  refine waloadN OGc 9 X1 B d17_8 rfl rfl rfl ?_
  refine wgetF OGc 12 X1 B hZ hown (ow hw 24 rfl) e1 R1 d17_9 rfl fun T2 X2 e2 => ?_
  refine wiconst OGc 13 X2 B d17_12 0 rfl rfl ?_
  refine waloadN OGc 14 X2 B d17_13 rfl rfl rfl ?_
  refine wiloadN OGc 15 X2 B d17_14 rfl rfl ?_
  refine wiloadN OGc 16 X2 B d17_15 rfl rfl ?_
  refine own_st (fun t k => XS.ishl X2.here hx rfl (hb hby d17_16) rfl k) ?_
  show OG p e _ s below _ T2 (mkF m 17 #[.val (.ref a1), .val (.ref a2), .val (.int (1 : Int32)), .val (.int (0 : Int32))] [(.int (1 : Int32)), (.ref a2), (.int (0 : Int32)), (.ref b)])
  refine waloadN OGc 18 X2 B d17_17 rfl rfl rfl ?_
  refine wgetF OGc 21 X2 B hZ hown (ow hw 24 rfl) e2 R1 d17_18 rfl fun T3 X3 e3 => ?_
  refine warlenA OGc 22 X3 B hZ e3 R3 (3 : Int32) rfl d17_21 rfl ?_
  refine wcp OGc 25 X3 B hZ hown (ow hw 111 rfl) (ow hw 114 rfl) (ow hw 112 rfl) (ow hw 113 rfl) e3 R3 R4 (own_bytB [x0, x1, x2] 0) (own_bytB [u0] 15) 3 16 0 1 3 rfl rfl (z := (3 : Int32)) (z' := (16 : Int32)) (by decide) (([x0, x1, x2] : List Int32).map obv) rfl (obuf [u0, x0, x1, x2]) rfl rfl N1 g_a2 hml rfl d17_22 (W := 0) rfl (by decide) rfl fun T5 h5 L5 X5 e5 N5 K5q A5 => ?_
  have K5 : Keep h0 h5 [a2] := (Keep.refl h0 [a2]).trans K5q (own_all1 (Or.inl (List.mem_of_getElem? (i := 0) rfl)))
  have F6 := R0.keep K5q
  have F7 := R1.keep K5q (own_nin1 ne_a1_a2)
  have F8 := R2.keep K5q (own_nin1 ne_a1_a2)
  have F9 := R3.keep K5q (own_nin1 ne_b_a2)
  have F10 : OA Z h5 a2 .byte (obuf [u0, x0, x1, x2]) := A5
  have F11 := own_staK R5 K5q (own_all1 (own_plA R4))
  refine wgoto OGc 43 X5 B d17_25 rfl ?_
  refine own_ret0 X5 hx hret hlk (hb hby d17_43) (by decide) (by decide) ?_
  rw [e5]
  exact ⟨rfl, N5, K5, F10⟩
theorem ef_15_1_3 (m : MethodId) (a1 : Addr) (a3 : Addr) : entryFrame m #[(.ref a1), (.int (1 : Int32)), (.ref a3)] 3 = (mkF m 0 #[.val (.ref a1), .val (.int (1 : Int32)), .val (.ref a3)] []) := by first | (simp [entryFrame, mkF, argsToLocals, Value.category]; done) | rfl
abbrev Q15_1_3 (Z : State) (a1 : Addr) (a3 : Addr) (vb : Addr) (b : Addr) (u0 : Int32) (x0 : Int32) (x1 : Int32) (x2 : Int32) (w : Int32) (h0 : Heap) (n0 : Nat) : Option Value → Heap → List Loc → Prop := (fun v h L => v = none ∧ Fr n0 L ∧ Keep h0 h [vb] ∧ OA Z h vb .byte (obuf [u0, x0, x1, x2]))
theorem rm15_1_3 (l : Launch) (Z : State) (a0 : Array Value) (hw : ∀ d ∈ tables_1, d.before a0 Z = true) (ws : List Jvm.Cond) (a1 : Addr) (a3 : Addr) (vb : Addr) (b : Addr) (u0 : Int32) (x0 : Int32) (x1 : Int32) (x2 : Int32) (w : Int32) (h0 : Heap) (n0 : Nat) (R0 : Exa Z h0 a1 "java/lang/StringBuilder") (R1 : Fld Z h0 a1 "java/lang/AbstractStringBuilder" "value" "[B" (.ref vb)) (R2 : Fld Z h0 a1 "java/lang/AbstractStringBuilder" "coder" "B" (.int (0 : Int32))) (R3 : OA Z h0 vb .byte (obuf [u0])) (R4 : Exa Z h0 a3 "java/lang/String") (R5 : Fld Z h0 a3 "java/lang/String" "value" "[B" (.ref b)) (R6 : Fld Z h0 a3 "java/lang/String" "coder" "B" (.int (0 : Int32))) (R7 : OA Z h0 b .byte (([x0, x1, x2] : List Int32).map obv)) (R8 : Sta Z h0 "java/lang/String" "COMPACT_STRINGS" "Z" (.int w)) (g_vb : n0 ≤ vb) (ne_a3_vb : a3 ≠ vb) (ne_b_vb : b ≠ vb) (ne_a1_vb : a1 ≠ vb) (hw0 : ¬ w = (0 : Int32)) :
    OMet l Z (⟨"java/lang/AbstractStringBuilder", "putStringAt", "(ILjava/lang/String;)V"⟩ : MethodName) jdk_68_method_73_code 3 none ws ({ frames := 2, cells := 0, slots := 0, locals := 33 } : Room) #[(.ref a1), (.int (1 : Int32)), (.ref a3)] h0 (Q15_1_3 Z a1 a3 vb b u0 x0 x1 x2 w h0 n0) := by
  refine own_enter pn_15 ?_
  intro p e s m below meth c s₁ hx hby hml0 hown hret hlk hnm hZ X0 e0
  have hml : c.maxLocals = 3 := hml0
  have B : BX p c jdk_68_method_73_code := ⟨hx, hby⟩
  have N0 := Fr.nil n0
  refine own_cast (ef_15_1_3 m a1 a3) ?_
  refine waloadN OGc 1 X0 B d15_0 rfl rfl rfl ?_
  refine waloadN OGc 2 X0 B d15_1 rfl rfl rfl ?_
  refine wpriv OGc 5 X0 B hZ hown (ow hw 100 rfl) (ow hw 101 rfl) (own_selp2 hZ (ow hw 103 rfl) (ow hw 102 rfl) (ow hw 101 rfl) (by decide)) (ow hw 102 rfl) R0 (ow hw 104 rfl) (ow hw 59 rfl) e0 (rm16 l Z a0 hw [] a1 a3 w h0 n0 R2 R4 R6 R8 hw0) 0 (by decide) (by decide) hml rfl (lenOf pd__Ljava_lang_String__V rfl) [] rfl rfl d15_2 rfl fun _ T1 L1 X1 hQ1 => ?_
  obtain ⟨rfl, N1q, K1q⟩ := hQ1
  have N1 := Fr.app N0 N1q
  have K1 := (Keep.refl h0 [vb]).trans K1q (own_all0 )
  have F2 := R0.keep K1q
  have F3 := R1.keep K1q (own_nin0 )
  have F4 := R2.keep K1q (own_nin0 )
  have F5 := R3.keep K1q (own_nin0 )
  have F6 := R4.keep K1q
  have F7 := R5.keep K1q (own_nin0 )
  have F8 := R6.keep K1q (own_nin0 )
  have F9 := R7.keep K1q (own_nin0 )
  have F10 := own_staK R8 K1q (own_all0 )
  refine own_stk (S' := []) rfl ?_
  refine waloadN OGc 6 X1 B d15_5 rfl rfl rfl ?_
  refine waloadN OGc 7 X1 B d15_6 rfl rfl rfl ?_
  refine wgetF OGc 10 X1 B hZ hown (ow hw 63 rfl) rfl F3 d15_7 rfl fun T11 X11 e11 => ?_
  refine wiloadN OGc 11 X11 B d15_10 rfl rfl ?_
  refine waloadN OGc 12 X11 B d15_11 rfl rfl rfl ?_
  refine wgetF OGc 15 X11 B hZ hown (ow hw 65 rfl) e11 F4 d15_12 rfl fun T12 X12 e12 => ?_
  refine wvirt OGc 18 X12 B hZ hown (ow hw 106 rfl) (ow hw 107 rfl) (ow hw 109 rfl) (ow hw 108 rfl) F6 (ow hw 110 rfl) (ow hw 6 rfl) e12 (rm17_1_3 l Z a0 hw [] a3 vb b u0 x0 x1 x2 w T1.heap n0 F6 F7 F8 F9 F5 F10 g_vb ne_a3_vb ne_b_vb hw0) 0 (by decide) (by decide) hml rfl (lenOf pd___BIB_V rfl) [] rfl rfl d15_15 rfl fun _ T13 L13 X13 hQ13 => ?_
  obtain ⟨rfl, N13q, K13q, P13_0⟩ := hQ13
  have N13 := Fr.app N1 N13q
  have K13 := K1.trans K13q (own_all1 (Or.inl (List.mem_of_getElem? (i := 0) rfl)))
  have F14 := F2.keep K13q
  have F15 := F3.keep K13q (own_nin1 ne_a1_vb)
  have F16 := F4.keep K13q (own_nin1 ne_a1_vb)
  have F17 := F6.keep K13q
  have F18 := F7.keep K13q (own_nin1 ne_a3_vb)
  have F19 := F8.keep K13q (own_nin1 ne_a3_vb)
  have F20 := F9.keep K13q (own_nin1 ne_b_vb)
  have F21 := own_staK F10 K13q (own_all1 (own_plA F5))
  refine own_stk (S' := []) rfl ?_
  refine own_ret0 X13 hx hret hlk (hb hby d15_18) (by decide) (by decide) ?_
  exact ⟨rfl, N13, K13, P13_0⟩
abbrev Q11_1_3 (Z : State) (a1 : Addr) (a2 : Addr) (vb : Addr) (b : Addr) (u0 : Int32) (x0 : Int32) (x1 : Int32) (x2 : Int32) (w : Int32) (h0 : Heap) (n0 : Nat) : Option Value → Heap → List Loc → Prop := (fun v h L => v = some (.ref a1) ∧ Fr n0 L ∧ Keep h0 h [a1, vb] ∧ Exa Z h a1 "java/lang/StringBuilder" ∧ Fld Z h a1 "java/lang/AbstractStringBuilder" "value" "[B" (.ref vb) ∧ Fld Z h a1 "java/lang/AbstractStringBuilder" "coder" "B" (.int (0 : Int32)) ∧ Fld Z h a1 "java/lang/AbstractStringBuilder" "count" "I" (.int (4 : Int32)) ∧ OA Z h vb .byte (obuf [u0, x0, x1, x2]))
theorem rm11_1_3 (l : Launch) (Z : State) (a0 : Array Value) (hw : ∀ d ∈ tables_1, d.before a0 Z = true) (ws : List Jvm.Cond) (a1 : Addr) (a2 : Addr) (vb : Addr) (b : Addr) (u0 : Int32) (x0 : Int32) (x1 : Int32) (x2 : Int32) (w : Int32) (h0 : Heap) (n0 : Nat) (R0 : Exa Z h0 a1 "java/lang/StringBuilder") (R1 : Fld Z h0 a1 "java/lang/AbstractStringBuilder" "value" "[B" (.ref vb)) (R2 : Fld Z h0 a1 "java/lang/AbstractStringBuilder" "coder" "B" (.int (0 : Int32))) (R3 : Fld Z h0 a1 "java/lang/AbstractStringBuilder" "count" "I" (.int (1 : Int32))) (R4 : OA Z h0 vb .byte (obuf [u0])) (R5 : Exa Z h0 a2 "java/lang/String") (R6 : Fld Z h0 a2 "java/lang/String" "value" "[B" (.ref b)) (R7 : Fld Z h0 a2 "java/lang/String" "coder" "B" (.int (0 : Int32))) (R8 : OA Z h0 b .byte (([x0, x1, x2] : List Int32).map obv)) (R9 : Sta Z h0 "java/lang/String" "COMPACT_STRINGS" "Z" (.int w)) (g_a1 : n0 ≤ a1) (g_vb : n0 ≤ vb) (ne_a2_vb : a2 ≠ vb) (ne_b_vb : b ≠ vb) (ne_a1_vb : a1 ≠ vb) (ne_a1_a2 : a1 ≠ a2) (ne_a1_b : a1 ≠ b) (hw0 : ¬ w = (0 : Int32)) :
    OMet l Z (⟨"java/lang/AbstractStringBuilder", "append", "(Ljava/lang/String;)Ljava/lang/AbstractStringBuilder;"⟩ : MethodName) jdk_68_method_22_code 3 (some (.object "java/lang/AbstractStringBuilder")) ws ({ frames := 3, cells := 0, slots := 0, locals := 47 } : Room) #[(.ref a1), (.ref a2)] h0 (Q11_1_3 Z a1 a2 vb b u0 x0 x1 x2 w h0 n0) := by
  refine own_enter pn_11 ?_
  intro p e s m below meth c s₁ hx hby hml0 hown hret hlk hnm hZ X0 e0
  have hml : c.maxLocals = 3 := hml0
  have B : BX p c jdk_68_method_22_code := ⟨hx, hby⟩
  have N0 := Fr.nil n0
  refine own_cast (ef_11 m a1 a2) ?_
  refine waloadN OGc 1 X0 B d11_0 rfl rfl rfl ?_
  refine wifnonnullYes OGc 9 X0 B d11_1 rfl ?_
  refine waloadN OGc 10 X0 B d11_9 rfl rfl rfl ?_
  refine wvirt OGc 13 X0 B hZ hown (ow hw 77 rfl) (ow hw 78 rfl) (ow hw 80 rfl) (ow hw 79 rfl) R5 (ow hw 81 rfl) (ow hw 6 rfl) e0 (rm12 l Z a0 hw [] a2 b ([x0, x1, x2] : List Int32) w h0 R5 R6 R7 R8 R9 hw0) 0 (by decide) (by decide) hml rfl (lenOf pd___I rfl) [] rfl rfl d11_10 rfl fun _ T1 L1 X1 hQ1 => ?_
  obtain ⟨rfl, rfl, e1⟩ := hQ1
  have N1 := Fr.app N0 (Fr.nil n0)
  refine own_stk (S' := [(.int (3 : Int32))]) rfl ?_
  refine wistoreN OGc 14 X1 B d11_13 #[.val (.ref a1), .val (.ref a2), .val (.int (3 : Int32))] rfl rfl ?_
  refine waloadN OGc 15 X1 B d11_14 rfl rfl rfl ?_
  refine waloadN OGc 16 X1 B d11_15 rfl rfl rfl ?_
  refine wgetF OGc 19 X1 B hZ hown (ow hw 88 rfl) e1 R3 d11_16 rfl fun T2 X2 e2 => ?_
  refine wiloadN OGc 20 X2 B d11_19 rfl rfl ?_
  refine wiadd OGc 21 X2 B d11_20 rfl ?_
  show OG p e _ s below _ T2 (mkF m 21 #[.val (.ref a1), .val (.ref a2), .val (.int (3 : Int32))] [(.int (4 : Int32)), (.ref a1)])
  refine wpriv OGc 24 X2 B hZ hown (ow hw 90 rfl) (ow hw 91 rfl) (own_selp2 hZ (ow hw 93 rfl) (ow hw 92 rfl) (ow hw 91 rfl) (by decide)) (ow hw 92 rfl) R0 (ow hw 94 rfl) (ow hw 59 rfl) e2 (rm14_4 l Z a0 hw [] a1 vb (nar .byte u0) (0 : Int32) (0 : Int32) (0 : Int32) (0 : Int32) (0 : Int32) (0 : Int32) (0 : Int32) (0 : Int32) (0 : Int32) (0 : Int32) (0 : Int32) (0 : Int32) (0 : Int32) (0 : Int32) (0 : Int32) h0 n0 R1 R2 R4) 0 (by decide) (by decide) hml rfl (lenOf pd__I_V rfl) [] rfl rfl d11_21 rfl fun _ T3 L3 X3 hQ3 => ?_
  obtain ⟨rfl, N3q, K3q⟩ := hQ3
  have N3 := Fr.app N1 N3q
  have K3 := (Keep.refl h0 [a1, vb]).trans K3q (own_all0 )
  have F4 := R0.keep K3q
  have F5 := R1.keep K3q (own_nin0 )
  have F6 := R2.keep K3q (own_nin0 )
  have F7 := R3.keep K3q (own_nin0 )
  have F8 := R4.keep K3q (own_nin0 )
  have F9 := R5.keep K3q
  have F10 := R6.keep K3q (own_nin0 )
  have F11 := R7.keep K3q (own_nin0 )
  have F12 := R8.keep K3q (own_nin0 )
  have F13 := own_staK R9 K3q (own_all0 )
  refine own_stk (S' := []) rfl ?_
  refine waloadN OGc 25 X3 B d11_24 rfl rfl rfl ?_
  refine waloadN OGc 26 X3 B d11_25 rfl rfl rfl ?_
  refine wgetF OGc 29 X3 B hZ hown (ow hw 88 rfl) rfl F7 d11_26 rfl fun T14 X14 e14 => ?_
  refine waloadN OGc 30 X14 B d11_29 rfl rfl rfl ?_
  refine wpriv OGc 33 X14 B hZ hown (ow hw 95 rfl) (ow hw 96 rfl) (own_selp2 hZ (ow hw 98 rfl) (ow hw 97 rfl) (ow hw 96 rfl) (by decide)) (ow hw 97 rfl) F4 (ow hw 99 rfl) (ow hw 59 rfl) e14 (rm15_1_3 l Z a0 hw [] a1 a2 vb b u0 x0 x1 x2 w T3.heap n0 F4 F5 F6 F8 F9 F10 F11 F12 F13 g_vb ne_a2_vb ne_b_vb ne_a1_vb hw0) 0 (by decide) (by decide) hml rfl (lenOf pd__ILjava_lang_String__V rfl) [] rfl rfl d11_30 rfl fun _ T15 L15 X15 hQ15 => ?_
  obtain ⟨rfl, N15q, K15q, P15_0⟩ := hQ15
  have N15 := Fr.app N3 N15q
  have K15 := K3.trans K15q (own_all1 (Or.inl (List.mem_of_getElem? (i := 1) rfl)))
  have F16 := F4.keep K15q
  have F17 := F5.keep K15q (own_nin1 ne_a1_vb)
  have F18 := F6.keep K15q (own_nin1 ne_a1_vb)
  have F19 := F7.keep K15q (own_nin1 ne_a1_vb)
  have F20 := F9.keep K15q
  have F21 := F10.keep K15q (own_nin1 ne_a2_vb)
  have F22 := F11.keep K15q (own_nin1 ne_a2_vb)
  have F23 := F12.keep K15q (own_nin1 ne_b_vb)
  have F24 := own_staK F13 K15q (own_all1 (own_plA F8))
  refine own_stk (S' := []) rfl ?_
  refine waloadN OGc 34 X15 B d11_33 rfl rfl rfl ?_
  refine wdup OGc 35 X15 B d11_34 rfl rfl ?_
  refine wgetF OGc 38 X15 B hZ hown (ow hw 88 rfl) rfl F19 d11_35 rfl fun T25 X25 e25 => ?_
  refine wiloadN OGc 39 X25 B d11_38 rfl rfl ?_
  refine wiadd OGc 40 X25 B d11_39 rfl ?_
  show OG p e _ s below _ T25 (mkF m 40 #[.val (.ref a1), .val (.ref a2), .val (.int (3 : Int32))] [(.int (4 : Int32)), (.ref a1)])
  refine wputF OGc 43 X25 B hZ hown (ow hw 88 rfl) e25 F19 F16 (Or.inl (ow hw 89 rfl)) (ow hw 50 rfl) (ty := .int) (by decide) rfl rfl d11_40 rfl fun T26 h26 X26 e26 W26 => ?_
  have N26 := Fr.snoc X26 N15 g_a1
  have K27 := K15.wr W26 (Or.inl (List.mem_of_getElem? (i := 0) rfl))
  have F28 := F16.wr W26
  have F29 := F17.other W26 (Or.inr (slot_ne (Or.inl (ow hw 64 rfl)) (Or.inl (ow hw 89 rfl)) (by decide) (t := (.array .byte)) (t' := .int) (by decide) (by decide)))
  have F30 := F18.other W26 (Or.inr (slot_ne (Or.inl (ow hw 66 rfl)) (Or.inl (ow hw 89 rfl)) (by decide) (t := .byte) (t' := .int) (by decide) (by decide)))
  have F31 : Fld Z h26 a1 "java/lang/AbstractStringBuilder" "count" "I" (.int (4 : Int32)) := (F19.same W26)
  have F32 := F20.wr W26
  have F33 := F21.other W26 (Or.inl (Ne.symm ne_a1_a2))
  have F34 := F22.other W26 (Or.inl (Ne.symm ne_a1_a2))
  have F35 := F23.other W26 (Ne.symm ne_a1_b)
  have F36 := F24.wr W26
  have F37 := P15_0.other W26 (Ne.symm ne_a1_vb)
  refine waloadN OGc 44 X26 B d11_43 rfl rfl rfl ?_
  refine own_retV X26 hx hret rfl (Or.inr (Or.inr (Or.inr (Or.inr ⟨rfl, rfl, rfl⟩)))) hlk (hb hby d11_44) (by decide) (by decide) ?_
  rw [e26]
  exact ⟨rfl, N26, K27, F28, F29, F30, F31, F37⟩
theorem ef_17_2_0 (m : MethodId) (a1 : Addr) (a2 : Addr) : entryFrame m #[(.ref a1), (.ref a2), (.int (2 : Int32)), (.int (0 : Int32))] 4 = (mkF m 0 #[.val (.ref a1), .val (.ref a2), .val (.int (2 : Int32)), .val (.int (0 : Int32))] []) := by first | (simp [entryFrame, mkF, argsToLocals, Value.category]; done) | rfl
abbrev Q17_2_0 (Z : State) (a1 : Addr) (a2 : Addr) (b : Addr) (u0 : Int32) (u1 : Int32) (w : Int32) (h0 : Heap) (n0 : Nat) : Option Value → Heap → List Loc → Prop := (fun v h L => v = none ∧ Fr n0 L ∧ Keep h0 h [a2] ∧ OA Z h a2 .byte (obuf [u0, u1]))
theorem rm17_2_0 (l : Launch) (Z : State) (a0 : Array Value) (hw : ∀ d ∈ tables_1, d.before a0 Z = true) (ws : List Jvm.Cond) (a1 : Addr) (a2 : Addr) (b : Addr) (u0 : Int32) (u1 : Int32) (w : Int32) (h0 : Heap) (n0 : Nat) (R0 : Exa Z h0 a1 "java/lang/String") (R1 : Fld Z h0 a1 "java/lang/String" "value" "[B" (.ref b)) (R2 : Fld Z h0 a1 "java/lang/String" "coder" "B" (.int (0 : Int32))) (R3 : OA Z h0 b .byte (([] : List Int32).map obv)) (R4 : OA Z h0 a2 .byte (obuf [u0, u1])) (R5 : Sta Z h0 "java/lang/String" "COMPACT_STRINGS" "Z" (.int w)) (g_a2 : n0 ≤ a2) (ne_a1_a2 : a1 ≠ a2) (ne_b_a2 : b ≠ a2) (hw0 : ¬ w = (0 : Int32)) :
    OMet l Z (⟨"java/lang/String", "getBytes", "([BIB)V"⟩ : MethodName) jdk_42_method_147_code 4 none ws ({ frames := 1, cells := 0, slots := 0, locals := 18 } : Room) #[(.ref a1), (.ref a2), (.int (2 : Int32)), (.int (0 : Int32))] h0 (Q17_2_0 Z a1 a2 b u0 u1 w h0 n0) := by
  refine own_enter pn_17 ?_
  intro p e s m below meth c s₁ hx hby hml0 hown hret hlk hnm hZ X0 e0
  have hml : c.maxLocals = 4 := hml0
  have B : BX p c jdk_42_method_147_code := ⟨hx, hby⟩
  have N0 := Fr.nil n0
  refine own_cast (ef_17_2_0 m a1 a2) ?_
  refine waloadN OGc 1 X0 B d17_0 rfl rfl rfl ?_
  refine wvirt OGc 4 X0 B hZ hown (ow hw 82 rfl) (ow hw 83 rfl) (ow hw 85 rfl) (ow hw 84 rfl) R0 (ow hw 86 rfl) (ow hw 6 rfl) e0 (rm13 l Z a0 hw [] a1 w h0 R2 R5 hw0) 0 (by decide) (by decide) hml rfl (lenOf pd___B rfl) [] rfl rfl d17_1 rfl fun _ T1 L1 X1 hQ1 => ?_
  obtain ⟨rfl, rfl, e1⟩ := hQ1
  have N1 := Fr.app N0 (Fr.nil n0)
  refine own_stk (S' := [(.int (0 : Int32))]) rfl ?_
  refine wiloadN OGc 5 X1 B d17_4 rfl rfl ?_
  refine wicmpNo OGc 8 X1 B d17_5 (by decide) rfl ?_
  refine waloadN OGc 9 X1 B d17_8 rfl rfl rfl ?_
  refine wgetF OGc 12 X1 B hZ hown (ow hw 24 rfl) e1 R1 d17_9 rfl fun T2 X2 e2 => ?_
  refine wiconst OGc 13 X2 B d17_12 0 rfl rfl ?_
  refine waloadN OGc 14 X2 B d17_13 rfl rfl rfl ?_
  refine wiloadN OGc 15 X2 B d17_14 rfl rfl ?_
  refine wiloadN OGc 16 X2 B d17_15 rfl rfl ?_
  refine own_st (fun t k => XS.ishl X2.here hx rfl (hb hby d17_16) rfl k) ?_
  show OG p e _ s below _ T2 (mkF m 17 #[.val (.ref a1), .val (.ref a2), .val (.int (2 : Int32)), .val (.int (0 : Int32))] [(.int (2 : Int32)), (.ref a2), (.int (0 : Int32)), (.ref b)])
  refine waloadN OGc 18 X2 B d17_17 rfl rfl rfl ?_
  refine wgetF OGc 21 X2 B hZ hown (ow hw 24 rfl) e2 R1 d17_18 rfl fun T3 X3 e3 => ?_
  refine warlenA OGc 22 X3 B hZ e3 R3 (0 : Int32) rfl d17_21 rfl ?_
  refine wcp OGc 25 X3 B hZ hown (ow hw 111 rfl) (ow hw 114 rfl) (ow hw 112 rfl) (ow hw 113 rfl) e3 R3 R4 (own_bytB [] 0) (own_bytB [u0, u1] 14) 0 16 0 2 0 rfl rfl (z := (0 : Int32)) (z' := (16 : Int32)) (by decide) (([] : List Int32).map obv) rfl (obuf [u0, u1]) rfl rfl N1 g_a2 hml rfl d17_22 (W := 0) rfl (by decide) rfl fun T5 h5 L5 X5 e5 N5 K5q A5 => ?_
  have K5 : Keep h0 h5 [a2] := (Keep.refl h0 [a2]).trans K5q (own_all1 (Or.inl (List.mem_of_getElem? (i := 0) rfl)))
  have F6 := R0.keep K5q
  have F7 := R1.keep K5q (own_nin1 ne_a1_a2)
  have F8 := R2.keep K5q (own_nin1 ne_a1_a2)
  have F9 := R3.keep K5q (own_nin1 ne_b_a2)
  have F10 : OA Z h5 a2 .byte (obuf [u0, u1]) := A5
  have F11 := own_staK R5 K5q (own_all1 (own_plA R4))
  refine wgoto OGc 43 X5 B d17_25 rfl ?_
  refine own_ret0 X5 hx hret hlk (hb hby d17_43) (by decide) (by decide) ?_
  rw [e5]
  exact ⟨rfl, N5, K5, F10⟩
theorem ef_15_2_0 (m : MethodId) (a1 : Addr) (a3 : Addr) : entryFrame m #[(.ref a1), (.int (2 : Int32)), (.ref a3)] 3 = (mkF m 0 #[.val (.ref a1), .val (.int (2 : Int32)), .val (.ref a3)] []) := by first | (simp [entryFrame, mkF, argsToLocals, Value.category]; done) | rfl
abbrev Q15_2_0 (Z : State) (a1 : Addr) (a3 : Addr) (vb : Addr) (b : Addr) (u0 : Int32) (u1 : Int32) (w : Int32) (h0 : Heap) (n0 : Nat) : Option Value → Heap → List Loc → Prop := (fun v h L => v = none ∧ Fr n0 L ∧ Keep h0 h [vb] ∧ OA Z h vb .byte (obuf [u0, u1]))
theorem rm15_2_0 (l : Launch) (Z : State) (a0 : Array Value) (hw : ∀ d ∈ tables_1, d.before a0 Z = true) (ws : List Jvm.Cond) (a1 : Addr) (a3 : Addr) (vb : Addr) (b : Addr) (u0 : Int32) (u1 : Int32) (w : Int32) (h0 : Heap) (n0 : Nat) (R0 : Exa Z h0 a1 "java/lang/StringBuilder") (R1 : Fld Z h0 a1 "java/lang/AbstractStringBuilder" "value" "[B" (.ref vb)) (R2 : Fld Z h0 a1 "java/lang/AbstractStringBuilder" "coder" "B" (.int (0 : Int32))) (R3 : OA Z h0 vb .byte (obuf [u0, u1])) (R4 : Exa Z h0 a3 "java/lang/String") (R5 : Fld Z h0 a3 "java/lang/String" "value" "[B" (.ref b)) (R6 : Fld Z h0 a3 "java/lang/String" "coder" "B" (.int (0 : Int32))) (R7 : OA Z h0 b .byte (([] : List Int32).map obv)) (R8 : Sta Z h0 "java/lang/String" "COMPACT_STRINGS" "Z" (.int w)) (g_vb : n0 ≤ vb) (ne_a3_vb : a3 ≠ vb) (ne_b_vb : b ≠ vb) (ne_a1_vb : a1 ≠ vb) (hw0 : ¬ w = (0 : Int32)) :
    OMet l Z (⟨"java/lang/AbstractStringBuilder", "putStringAt", "(ILjava/lang/String;)V"⟩ : MethodName) jdk_68_method_73_code 3 none ws ({ frames := 2, cells := 0, slots := 0, locals := 33 } : Room) #[(.ref a1), (.int (2 : Int32)), (.ref a3)] h0 (Q15_2_0 Z a1 a3 vb b u0 u1 w h0 n0) := by
  refine own_enter pn_15 ?_
  intro p e s m below meth c s₁ hx hby hml0 hown hret hlk hnm hZ X0 e0
  have hml : c.maxLocals = 3 := hml0
  have B : BX p c jdk_68_method_73_code := ⟨hx, hby⟩
  have N0 := Fr.nil n0
  refine own_cast (ef_15_2_0 m a1 a3) ?_
  refine waloadN OGc 1 X0 B d15_0 rfl rfl rfl ?_
  refine waloadN OGc 2 X0 B d15_1 rfl rfl rfl ?_
  refine wpriv OGc 5 X0 B hZ hown (ow hw 100 rfl) (ow hw 101 rfl) (own_selp2 hZ (ow hw 103 rfl) (ow hw 102 rfl) (ow hw 101 rfl) (by decide)) (ow hw 102 rfl) R0 (ow hw 104 rfl) (ow hw 59 rfl) e0 (rm16 l Z a0 hw [] a1 a3 w h0 n0 R2 R4 R6 R8 hw0) 0 (by decide) (by decide) hml rfl (lenOf pd__Ljava_lang_String__V rfl) [] rfl rfl d15_2 rfl fun _ T1 L1 X1 hQ1 => ?_
  obtain ⟨rfl, N1q, K1q⟩ := hQ1
  have N1 := Fr.app N0 N1q
  have K1 := (Keep.refl h0 [vb]).trans K1q (own_all0 )
  have F2 := R0.keep K1q
  have F3 := R1.keep K1q (own_nin0 )
  have F4 := R2.keep K1q (own_nin0 )
  have F5 := R3.keep K1q (own_nin0 )
  have F6 := R4.keep K1q
  have F7 := R5.keep K1q (own_nin0 )
  have F8 := R6.keep K1q (own_nin0 )
  have F9 := R7.keep K1q (own_nin0 )
  have F10 := own_staK R8 K1q (own_all0 )
  refine own_stk (S' := []) rfl ?_
  refine waloadN OGc 6 X1 B d15_5 rfl rfl rfl ?_
  refine waloadN OGc 7 X1 B d15_6 rfl rfl rfl ?_
  refine wgetF OGc 10 X1 B hZ hown (ow hw 63 rfl) rfl F3 d15_7 rfl fun T11 X11 e11 => ?_
  refine wiloadN OGc 11 X11 B d15_10 rfl rfl ?_
  refine waloadN OGc 12 X11 B d15_11 rfl rfl rfl ?_
  refine wgetF OGc 15 X11 B hZ hown (ow hw 65 rfl) e11 F4 d15_12 rfl fun T12 X12 e12 => ?_
  refine wvirt OGc 18 X12 B hZ hown (ow hw 106 rfl) (ow hw 107 rfl) (ow hw 109 rfl) (ow hw 108 rfl) F6 (ow hw 110 rfl) (ow hw 6 rfl) e12 (rm17_2_0 l Z a0 hw [] a3 vb b u0 u1 w T1.heap n0 F6 F7 F8 F9 F5 F10 g_vb ne_a3_vb ne_b_vb hw0) 0 (by decide) (by decide) hml rfl (lenOf pd___BIB_V rfl) [] rfl rfl d15_15 rfl fun _ T13 L13 X13 hQ13 => ?_
  obtain ⟨rfl, N13q, K13q, P13_0⟩ := hQ13
  have N13 := Fr.app N1 N13q
  have K13 := K1.trans K13q (own_all1 (Or.inl (List.mem_of_getElem? (i := 0) rfl)))
  have F14 := F2.keep K13q
  have F15 := F3.keep K13q (own_nin1 ne_a1_vb)
  have F16 := F4.keep K13q (own_nin1 ne_a1_vb)
  have F17 := F6.keep K13q
  have F18 := F7.keep K13q (own_nin1 ne_a3_vb)
  have F19 := F8.keep K13q (own_nin1 ne_a3_vb)
  have F20 := F9.keep K13q (own_nin1 ne_b_vb)
  have F21 := own_staK F10 K13q (own_all1 (own_plA F5))
  refine own_stk (S' := []) rfl ?_
  refine own_ret0 X13 hx hret hlk (hb hby d15_18) (by decide) (by decide) ?_
  exact ⟨rfl, N13, K13, P13_0⟩
abbrev Q11_2_0 (Z : State) (a1 : Addr) (a2 : Addr) (vb : Addr) (b : Addr) (u0 : Int32) (u1 : Int32) (w : Int32) (h0 : Heap) (n0 : Nat) : Option Value → Heap → List Loc → Prop := (fun v h L => v = some (.ref a1) ∧ Fr n0 L ∧ Keep h0 h [a1, vb] ∧ Exa Z h a1 "java/lang/StringBuilder" ∧ Fld Z h a1 "java/lang/AbstractStringBuilder" "value" "[B" (.ref vb) ∧ Fld Z h a1 "java/lang/AbstractStringBuilder" "coder" "B" (.int (0 : Int32)) ∧ Fld Z h a1 "java/lang/AbstractStringBuilder" "count" "I" (.int (2 : Int32)) ∧ OA Z h vb .byte (obuf [u0, u1]))
theorem rm11_2_0 (l : Launch) (Z : State) (a0 : Array Value) (hw : ∀ d ∈ tables_1, d.before a0 Z = true) (ws : List Jvm.Cond) (a1 : Addr) (a2 : Addr) (vb : Addr) (b : Addr) (u0 : Int32) (u1 : Int32) (w : Int32) (h0 : Heap) (n0 : Nat) (R0 : Exa Z h0 a1 "java/lang/StringBuilder") (R1 : Fld Z h0 a1 "java/lang/AbstractStringBuilder" "value" "[B" (.ref vb)) (R2 : Fld Z h0 a1 "java/lang/AbstractStringBuilder" "coder" "B" (.int (0 : Int32))) (R3 : Fld Z h0 a1 "java/lang/AbstractStringBuilder" "count" "I" (.int (2 : Int32))) (R4 : OA Z h0 vb .byte (obuf [u0, u1])) (R5 : Exa Z h0 a2 "java/lang/String") (R6 : Fld Z h0 a2 "java/lang/String" "value" "[B" (.ref b)) (R7 : Fld Z h0 a2 "java/lang/String" "coder" "B" (.int (0 : Int32))) (R8 : OA Z h0 b .byte (([] : List Int32).map obv)) (R9 : Sta Z h0 "java/lang/String" "COMPACT_STRINGS" "Z" (.int w)) (g_a1 : n0 ≤ a1) (g_vb : n0 ≤ vb) (ne_a2_vb : a2 ≠ vb) (ne_b_vb : b ≠ vb) (ne_a1_vb : a1 ≠ vb) (ne_a1_a2 : a1 ≠ a2) (ne_a1_b : a1 ≠ b) (hw0 : ¬ w = (0 : Int32)) :
    OMet l Z (⟨"java/lang/AbstractStringBuilder", "append", "(Ljava/lang/String;)Ljava/lang/AbstractStringBuilder;"⟩ : MethodName) jdk_68_method_22_code 3 (some (.object "java/lang/AbstractStringBuilder")) ws ({ frames := 3, cells := 0, slots := 0, locals := 47 } : Room) #[(.ref a1), (.ref a2)] h0 (Q11_2_0 Z a1 a2 vb b u0 u1 w h0 n0) := by
  refine own_enter pn_11 ?_
  intro p e s m below meth c s₁ hx hby hml0 hown hret hlk hnm hZ X0 e0
  have hml : c.maxLocals = 3 := hml0
  have B : BX p c jdk_68_method_22_code := ⟨hx, hby⟩
  have N0 := Fr.nil n0
  refine own_cast (ef_11 m a1 a2) ?_
  refine waloadN OGc 1 X0 B d11_0 rfl rfl rfl ?_
  refine wifnonnullYes OGc 9 X0 B d11_1 rfl ?_
  refine waloadN OGc 10 X0 B d11_9 rfl rfl rfl ?_
  refine wvirt OGc 13 X0 B hZ hown (ow hw 77 rfl) (ow hw 78 rfl) (ow hw 80 rfl) (ow hw 79 rfl) R5 (ow hw 81 rfl) (ow hw 6 rfl) e0 (rm12 l Z a0 hw [] a2 b ([] : List Int32) w h0 R5 R6 R7 R8 R9 hw0) 0 (by decide) (by decide) hml rfl (lenOf pd___I rfl) [] rfl rfl d11_10 rfl fun _ T1 L1 X1 hQ1 => ?_
  obtain ⟨rfl, rfl, e1⟩ := hQ1
  have N1 := Fr.app N0 (Fr.nil n0)
  refine own_stk (S' := [(.int (0 : Int32))]) rfl ?_
  refine wistoreN OGc 14 X1 B d11_13 #[.val (.ref a1), .val (.ref a2), .val (.int (0 : Int32))] rfl rfl ?_
  refine waloadN OGc 15 X1 B d11_14 rfl rfl rfl ?_
  refine waloadN OGc 16 X1 B d11_15 rfl rfl rfl ?_
  refine wgetF OGc 19 X1 B hZ hown (ow hw 88 rfl) e1 R3 d11_16 rfl fun T2 X2 e2 => ?_
  refine wiloadN OGc 20 X2 B d11_19 rfl rfl ?_
  refine wiadd OGc 21 X2 B d11_20 rfl ?_
  show OG p e _ s below _ T2 (mkF m 21 #[.val (.ref a1), .val (.ref a2), .val (.int (0 : Int32))] [(.int (2 : Int32)), (.ref a1)])
  refine wpriv OGc 24 X2 B hZ hown (ow hw 90 rfl) (ow hw 91 rfl) (own_selp2 hZ (ow hw 93 rfl) (ow hw 92 rfl) (ow hw 91 rfl) (by decide)) (ow hw 92 rfl) R0 (ow hw 94 rfl) (ow hw 59 rfl) e2 (rm14_2 l Z a0 hw [] a1 vb (nar .byte u0) (nar .byte u1) (0 : Int32) (0 : Int32) (0 : Int32) (0 : Int32) (0 : Int32) (0 : Int32) (0 : Int32) (0 : Int32) (0 : Int32) (0 : Int32) (0 : Int32) (0 : Int32) (0 : Int32) (0 : Int32) h0 n0 R1 R2 R4) 0 (by decide) (by decide) hml rfl (lenOf pd__I_V rfl) [] rfl rfl d11_21 rfl fun _ T3 L3 X3 hQ3 => ?_
  obtain ⟨rfl, N3q, K3q⟩ := hQ3
  have N3 := Fr.app N1 N3q
  have K3 := (Keep.refl h0 [a1, vb]).trans K3q (own_all0 )
  have F4 := R0.keep K3q
  have F5 := R1.keep K3q (own_nin0 )
  have F6 := R2.keep K3q (own_nin0 )
  have F7 := R3.keep K3q (own_nin0 )
  have F8 := R4.keep K3q (own_nin0 )
  have F9 := R5.keep K3q
  have F10 := R6.keep K3q (own_nin0 )
  have F11 := R7.keep K3q (own_nin0 )
  have F12 := R8.keep K3q (own_nin0 )
  have F13 := own_staK R9 K3q (own_all0 )
  refine own_stk (S' := []) rfl ?_
  refine waloadN OGc 25 X3 B d11_24 rfl rfl rfl ?_
  refine waloadN OGc 26 X3 B d11_25 rfl rfl rfl ?_
  refine wgetF OGc 29 X3 B hZ hown (ow hw 88 rfl) rfl F7 d11_26 rfl fun T14 X14 e14 => ?_
  refine waloadN OGc 30 X14 B d11_29 rfl rfl rfl ?_
  refine wpriv OGc 33 X14 B hZ hown (ow hw 95 rfl) (ow hw 96 rfl) (own_selp2 hZ (ow hw 98 rfl) (ow hw 97 rfl) (ow hw 96 rfl) (by decide)) (ow hw 97 rfl) F4 (ow hw 99 rfl) (ow hw 59 rfl) e14 (rm15_2_0 l Z a0 hw [] a1 a2 vb b u0 u1 w T3.heap n0 F4 F5 F6 F8 F9 F10 F11 F12 F13 g_vb ne_a2_vb ne_b_vb ne_a1_vb hw0) 0 (by decide) (by decide) hml rfl (lenOf pd__ILjava_lang_String__V rfl) [] rfl rfl d11_30 rfl fun _ T15 L15 X15 hQ15 => ?_
  obtain ⟨rfl, N15q, K15q, P15_0⟩ := hQ15
  have N15 := Fr.app N3 N15q
  have K15 := K3.trans K15q (own_all1 (Or.inl (List.mem_of_getElem? (i := 1) rfl)))
  have F16 := F4.keep K15q
  have F17 := F5.keep K15q (own_nin1 ne_a1_vb)
  have F18 := F6.keep K15q (own_nin1 ne_a1_vb)
  have F19 := F7.keep K15q (own_nin1 ne_a1_vb)
  have F20 := F9.keep K15q
  have F21 := F10.keep K15q (own_nin1 ne_a2_vb)
  have F22 := F11.keep K15q (own_nin1 ne_a2_vb)
  have F23 := F12.keep K15q (own_nin1 ne_b_vb)
  have F24 := own_staK F13 K15q (own_all1 (own_plA F8))
  refine own_stk (S' := []) rfl ?_
  refine waloadN OGc 34 X15 B d11_33 rfl rfl rfl ?_
  refine wdup OGc 35 X15 B d11_34 rfl rfl ?_
  refine wgetF OGc 38 X15 B hZ hown (ow hw 88 rfl) rfl F19 d11_35 rfl fun T25 X25 e25 => ?_
  refine wiloadN OGc 39 X25 B d11_38 rfl rfl ?_
  refine wiadd OGc 40 X25 B d11_39 rfl ?_
  show OG p e _ s below _ T25 (mkF m 40 #[.val (.ref a1), .val (.ref a2), .val (.int (0 : Int32))] [(.int (2 : Int32)), (.ref a1)])
  refine wputF OGc 43 X25 B hZ hown (ow hw 88 rfl) e25 F19 F16 (Or.inl (ow hw 89 rfl)) (ow hw 50 rfl) (ty := .int) (by decide) rfl rfl d11_40 rfl fun T26 h26 X26 e26 W26 => ?_
  have N26 := Fr.snoc X26 N15 g_a1
  have K27 := K15.wr W26 (Or.inl (List.mem_of_getElem? (i := 0) rfl))
  have F28 := F16.wr W26
  have F29 := F17.other W26 (Or.inr (slot_ne (Or.inl (ow hw 64 rfl)) (Or.inl (ow hw 89 rfl)) (by decide) (t := (.array .byte)) (t' := .int) (by decide) (by decide)))
  have F30 := F18.other W26 (Or.inr (slot_ne (Or.inl (ow hw 66 rfl)) (Or.inl (ow hw 89 rfl)) (by decide) (t := .byte) (t' := .int) (by decide) (by decide)))
  have F31 : Fld Z h26 a1 "java/lang/AbstractStringBuilder" "count" "I" (.int (2 : Int32)) := (F19.same W26)
  have F32 := F20.wr W26
  have F33 := F21.other W26 (Or.inl (Ne.symm ne_a1_a2))
  have F34 := F22.other W26 (Or.inl (Ne.symm ne_a1_a2))
  have F35 := F23.other W26 (Ne.symm ne_a1_b)
  have F36 := F24.wr W26
  have F37 := P15_0.other W26 (Ne.symm ne_a1_vb)
  refine waloadN OGc 44 X26 B d11_43 rfl rfl rfl ?_
  refine own_retV X26 hx hret rfl (Or.inr (Or.inr (Or.inr (Or.inr ⟨rfl, rfl, rfl⟩)))) hlk (hb hby d11_44) (by decide) (by decide) ?_
  rw [e26]
  exact ⟨rfl, N26, K27, F28, F29, F30, F31, F37⟩
theorem ef_17_2_1 (m : MethodId) (a1 : Addr) (a2 : Addr) : entryFrame m #[(.ref a1), (.ref a2), (.int (2 : Int32)), (.int (0 : Int32))] 4 = (mkF m 0 #[.val (.ref a1), .val (.ref a2), .val (.int (2 : Int32)), .val (.int (0 : Int32))] []) := by first | (simp [entryFrame, mkF, argsToLocals, Value.category]; done) | rfl
abbrev Q17_2_1 (Z : State) (a1 : Addr) (a2 : Addr) (b : Addr) (u0 : Int32) (u1 : Int32) (x0 : Int32) (w : Int32) (h0 : Heap) (n0 : Nat) : Option Value → Heap → List Loc → Prop := (fun v h L => v = none ∧ Fr n0 L ∧ Keep h0 h [a2] ∧ OA Z h a2 .byte (obuf [u0, u1, x0]))
theorem rm17_2_1 (l : Launch) (Z : State) (a0 : Array Value) (hw : ∀ d ∈ tables_1, d.before a0 Z = true) (ws : List Jvm.Cond) (a1 : Addr) (a2 : Addr) (b : Addr) (u0 : Int32) (u1 : Int32) (x0 : Int32) (w : Int32) (h0 : Heap) (n0 : Nat) (R0 : Exa Z h0 a1 "java/lang/String") (R1 : Fld Z h0 a1 "java/lang/String" "value" "[B" (.ref b)) (R2 : Fld Z h0 a1 "java/lang/String" "coder" "B" (.int (0 : Int32))) (R3 : OA Z h0 b .byte (([x0] : List Int32).map obv)) (R4 : OA Z h0 a2 .byte (obuf [u0, u1])) (R5 : Sta Z h0 "java/lang/String" "COMPACT_STRINGS" "Z" (.int w)) (g_a2 : n0 ≤ a2) (ne_a1_a2 : a1 ≠ a2) (ne_b_a2 : b ≠ a2) (hw0 : ¬ w = (0 : Int32)) :
    OMet l Z (⟨"java/lang/String", "getBytes", "([BIB)V"⟩ : MethodName) jdk_42_method_147_code 4 none ws ({ frames := 1, cells := 0, slots := 0, locals := 18 } : Room) #[(.ref a1), (.ref a2), (.int (2 : Int32)), (.int (0 : Int32))] h0 (Q17_2_1 Z a1 a2 b u0 u1 x0 w h0 n0) := by
  refine own_enter pn_17 ?_
  intro p e s m below meth c s₁ hx hby hml0 hown hret hlk hnm hZ X0 e0
  have hml : c.maxLocals = 4 := hml0
  have B : BX p c jdk_42_method_147_code := ⟨hx, hby⟩
  have N0 := Fr.nil n0
  refine own_cast (ef_17_2_1 m a1 a2) ?_
  refine waloadN OGc 1 X0 B d17_0 rfl rfl rfl ?_
  refine wvirt OGc 4 X0 B hZ hown (ow hw 82 rfl) (ow hw 83 rfl) (ow hw 85 rfl) (ow hw 84 rfl) R0 (ow hw 86 rfl) (ow hw 6 rfl) e0 (rm13 l Z a0 hw [] a1 w h0 R2 R5 hw0) 0 (by decide) (by decide) hml rfl (lenOf pd___B rfl) [] rfl rfl d17_1 rfl fun _ T1 L1 X1 hQ1 => ?_
  obtain ⟨rfl, rfl, e1⟩ := hQ1
  have N1 := Fr.app N0 (Fr.nil n0)
  refine own_stk (S' := [(.int (0 : Int32))]) rfl ?_
  refine wiloadN OGc 5 X1 B d17_4 rfl rfl ?_
  refine wicmpNo OGc 8 X1 B d17_5 (by decide) rfl ?_
  refine waloadN OGc 9 X1 B d17_8 rfl rfl rfl ?_
  refine wgetF OGc 12 X1 B hZ hown (ow hw 24 rfl) e1 R1 d17_9 rfl fun T2 X2 e2 => ?_
  refine wiconst OGc 13 X2 B d17_12 0 rfl rfl ?_
  refine waloadN OGc 14 X2 B d17_13 rfl rfl rfl ?_
  refine wiloadN OGc 15 X2 B d17_14 rfl rfl ?_
  refine wiloadN OGc 16 X2 B d17_15 rfl rfl ?_
  refine own_st (fun t k => XS.ishl X2.here hx rfl (hb hby d17_16) rfl k) ?_
  show OG p e _ s below _ T2 (mkF m 17 #[.val (.ref a1), .val (.ref a2), .val (.int (2 : Int32)), .val (.int (0 : Int32))] [(.int (2 : Int32)), (.ref a2), (.int (0 : Int32)), (.ref b)])
  refine waloadN OGc 18 X2 B d17_17 rfl rfl rfl ?_
  refine wgetF OGc 21 X2 B hZ hown (ow hw 24 rfl) e2 R1 d17_18 rfl fun T3 X3 e3 => ?_
  refine warlenA OGc 22 X3 B hZ e3 R3 (1 : Int32) rfl d17_21 rfl ?_
  refine wcp OGc 25 X3 B hZ hown (ow hw 111 rfl) (ow hw 114 rfl) (ow hw 112 rfl) (ow hw 113 rfl) e3 R3 R4 (own_bytB [x0] 0) (own_bytB [u0, u1] 14) 1 16 0 2 1 rfl rfl (z := (1 : Int32)) (z' := (16 : Int32)) (by decide) (([x0] : List Int32).map obv) rfl (obuf [u0, u1, x0]) rfl rfl N1 g_a2 hml rfl d17_22 (W := 0) rfl (by decide) rfl fun T5 h5 L5 X5 e5 N5 K5q A5 => ?_
  have K5 : Keep h0 h5 [a2] := (Keep.refl h0 [a2]).trans K5q (own_all1 (Or.inl (List.mem_of_getElem? (i := 0) rfl)))
  have F6 := R0.keep K5q
  have F7 := R1.keep K5q (own_nin1 ne_a1_a2)
  have F8 := R2.keep K5q (own_nin1 ne_a1_a2)
  have F9 := R3.keep K5q (own_nin1 ne_b_a2)
  have F10 : OA Z h5 a2 .byte (obuf [u0, u1, x0]) := A5
  have F11 := own_staK R5 K5q (own_all1 (own_plA R4))
  refine wgoto OGc 43 X5 B d17_25 rfl ?_
  refine own_ret0 X5 hx hret hlk (hb hby d17_43) (by decide) (by decide) ?_
  rw [e5]
  exact ⟨rfl, N5, K5, F10⟩
theorem ef_15_2_1 (m : MethodId) (a1 : Addr) (a3 : Addr) : entryFrame m #[(.ref a1), (.int (2 : Int32)), (.ref a3)] 3 = (mkF m 0 #[.val (.ref a1), .val (.int (2 : Int32)), .val (.ref a3)] []) := by first | (simp [entryFrame, mkF, argsToLocals, Value.category]; done) | rfl
abbrev Q15_2_1 (Z : State) (a1 : Addr) (a3 : Addr) (vb : Addr) (b : Addr) (u0 : Int32) (u1 : Int32) (x0 : Int32) (w : Int32) (h0 : Heap) (n0 : Nat) : Option Value → Heap → List Loc → Prop := (fun v h L => v = none ∧ Fr n0 L ∧ Keep h0 h [vb] ∧ OA Z h vb .byte (obuf [u0, u1, x0]))
theorem rm15_2_1 (l : Launch) (Z : State) (a0 : Array Value) (hw : ∀ d ∈ tables_1, d.before a0 Z = true) (ws : List Jvm.Cond) (a1 : Addr) (a3 : Addr) (vb : Addr) (b : Addr) (u0 : Int32) (u1 : Int32) (x0 : Int32) (w : Int32) (h0 : Heap) (n0 : Nat) (R0 : Exa Z h0 a1 "java/lang/StringBuilder") (R1 : Fld Z h0 a1 "java/lang/AbstractStringBuilder" "value" "[B" (.ref vb)) (R2 : Fld Z h0 a1 "java/lang/AbstractStringBuilder" "coder" "B" (.int (0 : Int32))) (R3 : OA Z h0 vb .byte (obuf [u0, u1])) (R4 : Exa Z h0 a3 "java/lang/String") (R5 : Fld Z h0 a3 "java/lang/String" "value" "[B" (.ref b)) (R6 : Fld Z h0 a3 "java/lang/String" "coder" "B" (.int (0 : Int32))) (R7 : OA Z h0 b .byte (([x0] : List Int32).map obv)) (R8 : Sta Z h0 "java/lang/String" "COMPACT_STRINGS" "Z" (.int w)) (g_vb : n0 ≤ vb) (ne_a3_vb : a3 ≠ vb) (ne_b_vb : b ≠ vb) (ne_a1_vb : a1 ≠ vb) (hw0 : ¬ w = (0 : Int32)) :
    OMet l Z (⟨"java/lang/AbstractStringBuilder", "putStringAt", "(ILjava/lang/String;)V"⟩ : MethodName) jdk_68_method_73_code 3 none ws ({ frames := 2, cells := 0, slots := 0, locals := 33 } : Room) #[(.ref a1), (.int (2 : Int32)), (.ref a3)] h0 (Q15_2_1 Z a1 a3 vb b u0 u1 x0 w h0 n0) := by
  refine own_enter pn_15 ?_
  intro p e s m below meth c s₁ hx hby hml0 hown hret hlk hnm hZ X0 e0
  have hml : c.maxLocals = 3 := hml0
  have B : BX p c jdk_68_method_73_code := ⟨hx, hby⟩
  have N0 := Fr.nil n0
  refine own_cast (ef_15_2_1 m a1 a3) ?_
  refine waloadN OGc 1 X0 B d15_0 rfl rfl rfl ?_
  refine waloadN OGc 2 X0 B d15_1 rfl rfl rfl ?_
  refine wpriv OGc 5 X0 B hZ hown (ow hw 100 rfl) (ow hw 101 rfl) (own_selp2 hZ (ow hw 103 rfl) (ow hw 102 rfl) (ow hw 101 rfl) (by decide)) (ow hw 102 rfl) R0 (ow hw 104 rfl) (ow hw 59 rfl) e0 (rm16 l Z a0 hw [] a1 a3 w h0 n0 R2 R4 R6 R8 hw0) 0 (by decide) (by decide) hml rfl (lenOf pd__Ljava_lang_String__V rfl) [] rfl rfl d15_2 rfl fun _ T1 L1 X1 hQ1 => ?_
  obtain ⟨rfl, N1q, K1q⟩ := hQ1
  have N1 := Fr.app N0 N1q
  have K1 := (Keep.refl h0 [vb]).trans K1q (own_all0 )
  have F2 := R0.keep K1q
  have F3 := R1.keep K1q (own_nin0 )
  have F4 := R2.keep K1q (own_nin0 )
  have F5 := R3.keep K1q (own_nin0 )
  have F6 := R4.keep K1q
  have F7 := R5.keep K1q (own_nin0 )
  have F8 := R6.keep K1q (own_nin0 )
  have F9 := R7.keep K1q (own_nin0 )
  have F10 := own_staK R8 K1q (own_all0 )
  refine own_stk (S' := []) rfl ?_
  refine waloadN OGc 6 X1 B d15_5 rfl rfl rfl ?_
  refine waloadN OGc 7 X1 B d15_6 rfl rfl rfl ?_
  refine wgetF OGc 10 X1 B hZ hown (ow hw 63 rfl) rfl F3 d15_7 rfl fun T11 X11 e11 => ?_
  refine wiloadN OGc 11 X11 B d15_10 rfl rfl ?_
  refine waloadN OGc 12 X11 B d15_11 rfl rfl rfl ?_
  refine wgetF OGc 15 X11 B hZ hown (ow hw 65 rfl) e11 F4 d15_12 rfl fun T12 X12 e12 => ?_
  refine wvirt OGc 18 X12 B hZ hown (ow hw 106 rfl) (ow hw 107 rfl) (ow hw 109 rfl) (ow hw 108 rfl) F6 (ow hw 110 rfl) (ow hw 6 rfl) e12 (rm17_2_1 l Z a0 hw [] a3 vb b u0 u1 x0 w T1.heap n0 F6 F7 F8 F9 F5 F10 g_vb ne_a3_vb ne_b_vb hw0) 0 (by decide) (by decide) hml rfl (lenOf pd___BIB_V rfl) [] rfl rfl d15_15 rfl fun _ T13 L13 X13 hQ13 => ?_
  obtain ⟨rfl, N13q, K13q, P13_0⟩ := hQ13
  have N13 := Fr.app N1 N13q
  have K13 := K1.trans K13q (own_all1 (Or.inl (List.mem_of_getElem? (i := 0) rfl)))
  have F14 := F2.keep K13q
  have F15 := F3.keep K13q (own_nin1 ne_a1_vb)
  have F16 := F4.keep K13q (own_nin1 ne_a1_vb)
  have F17 := F6.keep K13q
  have F18 := F7.keep K13q (own_nin1 ne_a3_vb)
  have F19 := F8.keep K13q (own_nin1 ne_a3_vb)
  have F20 := F9.keep K13q (own_nin1 ne_b_vb)
  have F21 := own_staK F10 K13q (own_all1 (own_plA F5))
  refine own_stk (S' := []) rfl ?_
  refine own_ret0 X13 hx hret hlk (hb hby d15_18) (by decide) (by decide) ?_
  exact ⟨rfl, N13, K13, P13_0⟩
abbrev Q11_2_1 (Z : State) (a1 : Addr) (a2 : Addr) (vb : Addr) (b : Addr) (u0 : Int32) (u1 : Int32) (x0 : Int32) (w : Int32) (h0 : Heap) (n0 : Nat) : Option Value → Heap → List Loc → Prop := (fun v h L => v = some (.ref a1) ∧ Fr n0 L ∧ Keep h0 h [a1, vb] ∧ Exa Z h a1 "java/lang/StringBuilder" ∧ Fld Z h a1 "java/lang/AbstractStringBuilder" "value" "[B" (.ref vb) ∧ Fld Z h a1 "java/lang/AbstractStringBuilder" "coder" "B" (.int (0 : Int32)) ∧ Fld Z h a1 "java/lang/AbstractStringBuilder" "count" "I" (.int (3 : Int32)) ∧ OA Z h vb .byte (obuf [u0, u1, x0]))
theorem rm11_2_1 (l : Launch) (Z : State) (a0 : Array Value) (hw : ∀ d ∈ tables_1, d.before a0 Z = true) (ws : List Jvm.Cond) (a1 : Addr) (a2 : Addr) (vb : Addr) (b : Addr) (u0 : Int32) (u1 : Int32) (x0 : Int32) (w : Int32) (h0 : Heap) (n0 : Nat) (R0 : Exa Z h0 a1 "java/lang/StringBuilder") (R1 : Fld Z h0 a1 "java/lang/AbstractStringBuilder" "value" "[B" (.ref vb)) (R2 : Fld Z h0 a1 "java/lang/AbstractStringBuilder" "coder" "B" (.int (0 : Int32))) (R3 : Fld Z h0 a1 "java/lang/AbstractStringBuilder" "count" "I" (.int (2 : Int32))) (R4 : OA Z h0 vb .byte (obuf [u0, u1])) (R5 : Exa Z h0 a2 "java/lang/String") (R6 : Fld Z h0 a2 "java/lang/String" "value" "[B" (.ref b)) (R7 : Fld Z h0 a2 "java/lang/String" "coder" "B" (.int (0 : Int32))) (R8 : OA Z h0 b .byte (([x0] : List Int32).map obv)) (R9 : Sta Z h0 "java/lang/String" "COMPACT_STRINGS" "Z" (.int w)) (g_a1 : n0 ≤ a1) (g_vb : n0 ≤ vb) (ne_a2_vb : a2 ≠ vb) (ne_b_vb : b ≠ vb) (ne_a1_vb : a1 ≠ vb) (ne_a1_a2 : a1 ≠ a2) (ne_a1_b : a1 ≠ b) (hw0 : ¬ w = (0 : Int32)) :
    OMet l Z (⟨"java/lang/AbstractStringBuilder", "append", "(Ljava/lang/String;)Ljava/lang/AbstractStringBuilder;"⟩ : MethodName) jdk_68_method_22_code 3 (some (.object "java/lang/AbstractStringBuilder")) ws ({ frames := 3, cells := 0, slots := 0, locals := 47 } : Room) #[(.ref a1), (.ref a2)] h0 (Q11_2_1 Z a1 a2 vb b u0 u1 x0 w h0 n0) := by
  refine own_enter pn_11 ?_
  intro p e s m below meth c s₁ hx hby hml0 hown hret hlk hnm hZ X0 e0
  have hml : c.maxLocals = 3 := hml0
  have B : BX p c jdk_68_method_22_code := ⟨hx, hby⟩
  have N0 := Fr.nil n0
  refine own_cast (ef_11 m a1 a2) ?_
  refine waloadN OGc 1 X0 B d11_0 rfl rfl rfl ?_
  refine wifnonnullYes OGc 9 X0 B d11_1 rfl ?_
  refine waloadN OGc 10 X0 B d11_9 rfl rfl rfl ?_
  refine wvirt OGc 13 X0 B hZ hown (ow hw 77 rfl) (ow hw 78 rfl) (ow hw 80 rfl) (ow hw 79 rfl) R5 (ow hw 81 rfl) (ow hw 6 rfl) e0 (rm12 l Z a0 hw [] a2 b ([x0] : List Int32) w h0 R5 R6 R7 R8 R9 hw0) 0 (by decide) (by decide) hml rfl (lenOf pd___I rfl) [] rfl rfl d11_10 rfl fun _ T1 L1 X1 hQ1 => ?_
  obtain ⟨rfl, rfl, e1⟩ := hQ1
  have N1 := Fr.app N0 (Fr.nil n0)
  refine own_stk (S' := [(.int (1 : Int32))]) rfl ?_
  refine wistoreN OGc 14 X1 B d11_13 #[.val (.ref a1), .val (.ref a2), .val (.int (1 : Int32))] rfl rfl ?_
  refine waloadN OGc 15 X1 B d11_14 rfl rfl rfl ?_
  refine waloadN OGc 16 X1 B d11_15 rfl rfl rfl ?_
  refine wgetF OGc 19 X1 B hZ hown (ow hw 88 rfl) e1 R3 d11_16 rfl fun T2 X2 e2 => ?_
  refine wiloadN OGc 20 X2 B d11_19 rfl rfl ?_
  refine wiadd OGc 21 X2 B d11_20 rfl ?_
  show OG p e _ s below _ T2 (mkF m 21 #[.val (.ref a1), .val (.ref a2), .val (.int (1 : Int32))] [(.int (3 : Int32)), (.ref a1)])
  refine wpriv OGc 24 X2 B hZ hown (ow hw 90 rfl) (ow hw 91 rfl) (own_selp2 hZ (ow hw 93 rfl) (ow hw 92 rfl) (ow hw 91 rfl) (by decide)) (ow hw 92 rfl) R0 (ow hw 94 rfl) (ow hw 59 rfl) e2 (rm14_3 l Z a0 hw [] a1 vb (nar .byte u0) (nar .byte u1) (0 : Int32) (0 : Int32) (0 : Int32) (0 : Int32) (0 : Int32) (0 : Int32) (0 : Int32) (0 : Int32) (0 : Int32) (0 : Int32) (0 : Int32) (0 : Int32) (0 : Int32) (0 : Int32) h0 n0 R1 R2 R4) 0 (by decide) (by decide) hml rfl (lenOf pd__I_V rfl) [] rfl rfl d11_21 rfl fun _ T3 L3 X3 hQ3 => ?_
  obtain ⟨rfl, N3q, K3q⟩ := hQ3
  have N3 := Fr.app N1 N3q
  have K3 := (Keep.refl h0 [a1, vb]).trans K3q (own_all0 )
  have F4 := R0.keep K3q
  have F5 := R1.keep K3q (own_nin0 )
  have F6 := R2.keep K3q (own_nin0 )
  have F7 := R3.keep K3q (own_nin0 )
  have F8 := R4.keep K3q (own_nin0 )
  have F9 := R5.keep K3q
  have F10 := R6.keep K3q (own_nin0 )
  have F11 := R7.keep K3q (own_nin0 )
  have F12 := R8.keep K3q (own_nin0 )
  have F13 := own_staK R9 K3q (own_all0 )
  refine own_stk (S' := []) rfl ?_
  refine waloadN OGc 25 X3 B d11_24 rfl rfl rfl ?_
  refine waloadN OGc 26 X3 B d11_25 rfl rfl rfl ?_
  refine wgetF OGc 29 X3 B hZ hown (ow hw 88 rfl) rfl F7 d11_26 rfl fun T14 X14 e14 => ?_
  refine waloadN OGc 30 X14 B d11_29 rfl rfl rfl ?_
  refine wpriv OGc 33 X14 B hZ hown (ow hw 95 rfl) (ow hw 96 rfl) (own_selp2 hZ (ow hw 98 rfl) (ow hw 97 rfl) (ow hw 96 rfl) (by decide)) (ow hw 97 rfl) F4 (ow hw 99 rfl) (ow hw 59 rfl) e14 (rm15_2_1 l Z a0 hw [] a1 a2 vb b u0 u1 x0 w T3.heap n0 F4 F5 F6 F8 F9 F10 F11 F12 F13 g_vb ne_a2_vb ne_b_vb ne_a1_vb hw0) 0 (by decide) (by decide) hml rfl (lenOf pd__ILjava_lang_String__V rfl) [] rfl rfl d11_30 rfl fun _ T15 L15 X15 hQ15 => ?_
  obtain ⟨rfl, N15q, K15q, P15_0⟩ := hQ15
  have N15 := Fr.app N3 N15q
  have K15 := K3.trans K15q (own_all1 (Or.inl (List.mem_of_getElem? (i := 1) rfl)))
  have F16 := F4.keep K15q
  have F17 := F5.keep K15q (own_nin1 ne_a1_vb)
  have F18 := F6.keep K15q (own_nin1 ne_a1_vb)
  have F19 := F7.keep K15q (own_nin1 ne_a1_vb)
  have F20 := F9.keep K15q
  have F21 := F10.keep K15q (own_nin1 ne_a2_vb)
  have F22 := F11.keep K15q (own_nin1 ne_a2_vb)
  have F23 := F12.keep K15q (own_nin1 ne_b_vb)
  have F24 := own_staK F13 K15q (own_all1 (own_plA F8))
  refine own_stk (S' := []) rfl ?_
  refine waloadN OGc 34 X15 B d11_33 rfl rfl rfl ?_
  refine wdup OGc 35 X15 B d11_34 rfl rfl ?_
  refine wgetF OGc 38 X15 B hZ hown (ow hw 88 rfl) rfl F19 d11_35 rfl fun T25 X25 e25 => ?_
  refine wiloadN OGc 39 X25 B d11_38 rfl rfl ?_
  refine wiadd OGc 40 X25 B d11_39 rfl ?_
  show OG p e _ s below _ T25 (mkF m 40 #[.val (.ref a1), .val (.ref a2), .val (.int (1 : Int32))] [(.int (3 : Int32)), (.ref a1)])
  refine wputF OGc 43 X25 B hZ hown (ow hw 88 rfl) e25 F19 F16 (Or.inl (ow hw 89 rfl)) (ow hw 50 rfl) (ty := .int) (by decide) rfl rfl d11_40 rfl fun T26 h26 X26 e26 W26 => ?_
  have N26 := Fr.snoc X26 N15 g_a1
  have K27 := K15.wr W26 (Or.inl (List.mem_of_getElem? (i := 0) rfl))
  have F28 := F16.wr W26
  have F29 := F17.other W26 (Or.inr (slot_ne (Or.inl (ow hw 64 rfl)) (Or.inl (ow hw 89 rfl)) (by decide) (t := (.array .byte)) (t' := .int) (by decide) (by decide)))
  have F30 := F18.other W26 (Or.inr (slot_ne (Or.inl (ow hw 66 rfl)) (Or.inl (ow hw 89 rfl)) (by decide) (t := .byte) (t' := .int) (by decide) (by decide)))
  have F31 : Fld Z h26 a1 "java/lang/AbstractStringBuilder" "count" "I" (.int (3 : Int32)) := (F19.same W26)
  have F32 := F20.wr W26
  have F33 := F21.other W26 (Or.inl (Ne.symm ne_a1_a2))
  have F34 := F22.other W26 (Or.inl (Ne.symm ne_a1_a2))
  have F35 := F23.other W26 (Ne.symm ne_a1_b)
  have F36 := F24.wr W26
  have F37 := P15_0.other W26 (Ne.symm ne_a1_vb)
  refine waloadN OGc 44 X26 B d11_43 rfl rfl rfl ?_
  refine own_retV X26 hx hret rfl (Or.inr (Or.inr (Or.inr (Or.inr ⟨rfl, rfl, rfl⟩)))) hlk (hb hby d11_44) (by decide) (by decide) ?_
  rw [e26]
  exact ⟨rfl, N26, K27, F28, F29, F30, F31, F37⟩
theorem ef_17_2_2 (m : MethodId) (a1 : Addr) (a2 : Addr) : entryFrame m #[(.ref a1), (.ref a2), (.int (2 : Int32)), (.int (0 : Int32))] 4 = (mkF m 0 #[.val (.ref a1), .val (.ref a2), .val (.int (2 : Int32)), .val (.int (0 : Int32))] []) := by first | (simp [entryFrame, mkF, argsToLocals, Value.category]; done) | rfl
abbrev Q17_2_2 (Z : State) (a1 : Addr) (a2 : Addr) (b : Addr) (u0 : Int32) (u1 : Int32) (x0 : Int32) (x1 : Int32) (w : Int32) (h0 : Heap) (n0 : Nat) : Option Value → Heap → List Loc → Prop := (fun v h L => v = none ∧ Fr n0 L ∧ Keep h0 h [a2] ∧ OA Z h a2 .byte (obuf [u0, u1, x0, x1]))
theorem rm17_2_2 (l : Launch) (Z : State) (a0 : Array Value) (hw : ∀ d ∈ tables_1, d.before a0 Z = true) (ws : List Jvm.Cond) (a1 : Addr) (a2 : Addr) (b : Addr) (u0 : Int32) (u1 : Int32) (x0 : Int32) (x1 : Int32) (w : Int32) (h0 : Heap) (n0 : Nat) (R0 : Exa Z h0 a1 "java/lang/String") (R1 : Fld Z h0 a1 "java/lang/String" "value" "[B" (.ref b)) (R2 : Fld Z h0 a1 "java/lang/String" "coder" "B" (.int (0 : Int32))) (R3 : OA Z h0 b .byte (([x0, x1] : List Int32).map obv)) (R4 : OA Z h0 a2 .byte (obuf [u0, u1])) (R5 : Sta Z h0 "java/lang/String" "COMPACT_STRINGS" "Z" (.int w)) (g_a2 : n0 ≤ a2) (ne_a1_a2 : a1 ≠ a2) (ne_b_a2 : b ≠ a2) (hw0 : ¬ w = (0 : Int32)) :
    OMet l Z (⟨"java/lang/String", "getBytes", "([BIB)V"⟩ : MethodName) jdk_42_method_147_code 4 none ws ({ frames := 1, cells := 0, slots := 0, locals := 18 } : Room) #[(.ref a1), (.ref a2), (.int (2 : Int32)), (.int (0 : Int32))] h0 (Q17_2_2 Z a1 a2 b u0 u1 x0 x1 w h0 n0) := by
  refine own_enter pn_17 ?_
  intro p e s m below meth c s₁ hx hby hml0 hown hret hlk hnm hZ X0 e0
  have hml : c.maxLocals = 4 := hml0
  have B : BX p c jdk_42_method_147_code := ⟨hx, hby⟩
  have N0 := Fr.nil n0
  refine own_cast (ef_17_2_2 m a1 a2) ?_
  refine waloadN OGc 1 X0 B d17_0 rfl rfl rfl ?_
  refine wvirt OGc 4 X0 B hZ hown (ow hw 82 rfl) (ow hw 83 rfl) (ow hw 85 rfl) (ow hw 84 rfl) R0 (ow hw 86 rfl) (ow hw 6 rfl) e0 (rm13 l Z a0 hw [] a1 w h0 R2 R5 hw0) 0 (by decide) (by decide) hml rfl (lenOf pd___B rfl) [] rfl rfl d17_1 rfl fun _ T1 L1 X1 hQ1 => ?_
  obtain ⟨rfl, rfl, e1⟩ := hQ1
  have N1 := Fr.app N0 (Fr.nil n0)
  refine own_stk (S' := [(.int (0 : Int32))]) rfl ?_
  refine wiloadN OGc 5 X1 B d17_4 rfl rfl ?_
  refine wicmpNo OGc 8 X1 B d17_5 (by decide) rfl ?_
  refine waloadN OGc 9 X1 B d17_8 rfl rfl rfl ?_
  refine wgetF OGc 12 X1 B hZ hown (ow hw 24 rfl) e1 R1 d17_9 rfl fun T2 X2 e2 => ?_
  refine wiconst OGc 13 X2 B d17_12 0 rfl rfl ?_
  refine waloadN OGc 14 X2 B d17_13 rfl rfl rfl ?_
  refine wiloadN OGc 15 X2 B d17_14 rfl rfl ?_
  refine wiloadN OGc 16 X2 B d17_15 rfl rfl ?_
  refine own_st (fun t k => XS.ishl X2.here hx rfl (hb hby d17_16) rfl k) ?_
  show OG p e _ s below _ T2 (mkF m 17 #[.val (.ref a1), .val (.ref a2), .val (.int (2 : Int32)), .val (.int (0 : Int32))] [(.int (2 : Int32)), (.ref a2), (.int (0 : Int32)), (.ref b)])
  refine waloadN OGc 18 X2 B d17_17 rfl rfl rfl ?_
  refine wgetF OGc 21 X2 B hZ hown (ow hw 24 rfl) e2 R1 d17_18 rfl fun T3 X3 e3 => ?_
  refine warlenA OGc 22 X3 B hZ e3 R3 (2 : Int32) rfl d17_21 rfl ?_
  refine wcp OGc 25 X3 B hZ hown (ow hw 111 rfl) (ow hw 114 rfl) (ow hw 112 rfl) (ow hw 113 rfl) e3 R3 R4 (own_bytB [x0, x1] 0) (own_bytB [u0, u1] 14) 2 16 0 2 2 rfl rfl (z := (2 : Int32)) (z' := (16 : Int32)) (by decide) (([x0, x1] : List Int32).map obv) rfl (obuf [u0, u1, x0, x1]) rfl rfl N1 g_a2 hml rfl d17_22 (W := 0) rfl (by decide) rfl fun T5 h5 L5 X5 e5 N5 K5q A5 => ?_
  have K5 : Keep h0 h5 [a2] := (Keep.refl h0 [a2]).trans K5q (own_all1 (Or.inl (List.mem_of_getElem? (i := 0) rfl)))
  have F6 := R0.keep K5q
  have F7 := R1.keep K5q (own_nin1 ne_a1_a2)
  have F8 := R2.keep K5q (own_nin1 ne_a1_a2)
  have F9 := R3.keep K5q (own_nin1 ne_b_a2)
  have F10 : OA Z h5 a2 .byte (obuf [u0, u1, x0, x1]) := A5
  have F11 := own_staK R5 K5q (own_all1 (own_plA R4))
  refine wgoto OGc 43 X5 B d17_25 rfl ?_
  refine own_ret0 X5 hx hret hlk (hb hby d17_43) (by decide) (by decide) ?_
  rw [e5]
  exact ⟨rfl, N5, K5, F10⟩
theorem ef_15_2_2 (m : MethodId) (a1 : Addr) (a3 : Addr) : entryFrame m #[(.ref a1), (.int (2 : Int32)), (.ref a3)] 3 = (mkF m 0 #[.val (.ref a1), .val (.int (2 : Int32)), .val (.ref a3)] []) := by first | (simp [entryFrame, mkF, argsToLocals, Value.category]; done) | rfl
abbrev Q15_2_2 (Z : State) (a1 : Addr) (a3 : Addr) (vb : Addr) (b : Addr) (u0 : Int32) (u1 : Int32) (x0 : Int32) (x1 : Int32) (w : Int32) (h0 : Heap) (n0 : Nat) : Option Value → Heap → List Loc → Prop := (fun v h L => v = none ∧ Fr n0 L ∧ Keep h0 h [vb] ∧ OA Z h vb .byte (obuf [u0, u1, x0, x1]))
theorem rm15_2_2 (l : Launch) (Z : State) (a0 : Array Value) (hw : ∀ d ∈ tables_1, d.before a0 Z = true) (ws : List Jvm.Cond) (a1 : Addr) (a3 : Addr) (vb : Addr) (b : Addr) (u0 : Int32) (u1 : Int32) (x0 : Int32) (x1 : Int32) (w : Int32) (h0 : Heap) (n0 : Nat) (R0 : Exa Z h0 a1 "java/lang/StringBuilder") (R1 : Fld Z h0 a1 "java/lang/AbstractStringBuilder" "value" "[B" (.ref vb)) (R2 : Fld Z h0 a1 "java/lang/AbstractStringBuilder" "coder" "B" (.int (0 : Int32))) (R3 : OA Z h0 vb .byte (obuf [u0, u1])) (R4 : Exa Z h0 a3 "java/lang/String") (R5 : Fld Z h0 a3 "java/lang/String" "value" "[B" (.ref b)) (R6 : Fld Z h0 a3 "java/lang/String" "coder" "B" (.int (0 : Int32))) (R7 : OA Z h0 b .byte (([x0, x1] : List Int32).map obv)) (R8 : Sta Z h0 "java/lang/String" "COMPACT_STRINGS" "Z" (.int w)) (g_vb : n0 ≤ vb) (ne_a3_vb : a3 ≠ vb) (ne_b_vb : b ≠ vb) (ne_a1_vb : a1 ≠ vb) (hw0 : ¬ w = (0 : Int32)) :
    OMet l Z (⟨"java/lang/AbstractStringBuilder", "putStringAt", "(ILjava/lang/String;)V"⟩ : MethodName) jdk_68_method_73_code 3 none ws ({ frames := 2, cells := 0, slots := 0, locals := 33 } : Room) #[(.ref a1), (.int (2 : Int32)), (.ref a3)] h0 (Q15_2_2 Z a1 a3 vb b u0 u1 x0 x1 w h0 n0) := by
  refine own_enter pn_15 ?_
  intro p e s m below meth c s₁ hx hby hml0 hown hret hlk hnm hZ X0 e0
  have hml : c.maxLocals = 3 := hml0
  have B : BX p c jdk_68_method_73_code := ⟨hx, hby⟩
  have N0 := Fr.nil n0
  refine own_cast (ef_15_2_2 m a1 a3) ?_
  refine waloadN OGc 1 X0 B d15_0 rfl rfl rfl ?_
  refine waloadN OGc 2 X0 B d15_1 rfl rfl rfl ?_
  refine wpriv OGc 5 X0 B hZ hown (ow hw 100 rfl) (ow hw 101 rfl) (own_selp2 hZ (ow hw 103 rfl) (ow hw 102 rfl) (ow hw 101 rfl) (by decide)) (ow hw 102 rfl) R0 (ow hw 104 rfl) (ow hw 59 rfl) e0 (rm16 l Z a0 hw [] a1 a3 w h0 n0 R2 R4 R6 R8 hw0) 0 (by decide) (by decide) hml rfl (lenOf pd__Ljava_lang_String__V rfl) [] rfl rfl d15_2 rfl fun _ T1 L1 X1 hQ1 => ?_
  obtain ⟨rfl, N1q, K1q⟩ := hQ1
  have N1 := Fr.app N0 N1q
  have K1 := (Keep.refl h0 [vb]).trans K1q (own_all0 )
  have F2 := R0.keep K1q
  have F3 := R1.keep K1q (own_nin0 )
  have F4 := R2.keep K1q (own_nin0 )
  have F5 := R3.keep K1q (own_nin0 )
  have F6 := R4.keep K1q
  have F7 := R5.keep K1q (own_nin0 )
  have F8 := R6.keep K1q (own_nin0 )
  have F9 := R7.keep K1q (own_nin0 )
  have F10 := own_staK R8 K1q (own_all0 )
  refine own_stk (S' := []) rfl ?_
  refine waloadN OGc 6 X1 B d15_5 rfl rfl rfl ?_
  refine waloadN OGc 7 X1 B d15_6 rfl rfl rfl ?_
  refine wgetF OGc 10 X1 B hZ hown (ow hw 63 rfl) rfl F3 d15_7 rfl fun T11 X11 e11 => ?_
  refine wiloadN OGc 11 X11 B d15_10 rfl rfl ?_
  refine waloadN OGc 12 X11 B d15_11 rfl rfl rfl ?_
  refine wgetF OGc 15 X11 B hZ hown (ow hw 65 rfl) e11 F4 d15_12 rfl fun T12 X12 e12 => ?_
  refine wvirt OGc 18 X12 B hZ hown (ow hw 106 rfl) (ow hw 107 rfl) (ow hw 109 rfl) (ow hw 108 rfl) F6 (ow hw 110 rfl) (ow hw 6 rfl) e12 (rm17_2_2 l Z a0 hw [] a3 vb b u0 u1 x0 x1 w T1.heap n0 F6 F7 F8 F9 F5 F10 g_vb ne_a3_vb ne_b_vb hw0) 0 (by decide) (by decide) hml rfl (lenOf pd___BIB_V rfl) [] rfl rfl d15_15 rfl fun _ T13 L13 X13 hQ13 => ?_
  obtain ⟨rfl, N13q, K13q, P13_0⟩ := hQ13
  have N13 := Fr.app N1 N13q
  have K13 := K1.trans K13q (own_all1 (Or.inl (List.mem_of_getElem? (i := 0) rfl)))
  have F14 := F2.keep K13q
  have F15 := F3.keep K13q (own_nin1 ne_a1_vb)
  have F16 := F4.keep K13q (own_nin1 ne_a1_vb)
  have F17 := F6.keep K13q
  have F18 := F7.keep K13q (own_nin1 ne_a3_vb)
  have F19 := F8.keep K13q (own_nin1 ne_a3_vb)
  have F20 := F9.keep K13q (own_nin1 ne_b_vb)
  have F21 := own_staK F10 K13q (own_all1 (own_plA F5))
  refine own_stk (S' := []) rfl ?_
  refine own_ret0 X13 hx hret hlk (hb hby d15_18) (by decide) (by decide) ?_
  exact ⟨rfl, N13, K13, P13_0⟩
abbrev Q11_2_2 (Z : State) (a1 : Addr) (a2 : Addr) (vb : Addr) (b : Addr) (u0 : Int32) (u1 : Int32) (x0 : Int32) (x1 : Int32) (w : Int32) (h0 : Heap) (n0 : Nat) : Option Value → Heap → List Loc → Prop := (fun v h L => v = some (.ref a1) ∧ Fr n0 L ∧ Keep h0 h [a1, vb] ∧ Exa Z h a1 "java/lang/StringBuilder" ∧ Fld Z h a1 "java/lang/AbstractStringBuilder" "value" "[B" (.ref vb) ∧ Fld Z h a1 "java/lang/AbstractStringBuilder" "coder" "B" (.int (0 : Int32)) ∧ Fld Z h a1 "java/lang/AbstractStringBuilder" "count" "I" (.int (4 : Int32)) ∧ OA Z h vb .byte (obuf [u0, u1, x0, x1]))
theorem rm11_2_2 (l : Launch) (Z : State) (a0 : Array Value) (hw : ∀ d ∈ tables_1, d.before a0 Z = true) (ws : List Jvm.Cond) (a1 : Addr) (a2 : Addr) (vb : Addr) (b : Addr) (u0 : Int32) (u1 : Int32) (x0 : Int32) (x1 : Int32) (w : Int32) (h0 : Heap) (n0 : Nat) (R0 : Exa Z h0 a1 "java/lang/StringBuilder") (R1 : Fld Z h0 a1 "java/lang/AbstractStringBuilder" "value" "[B" (.ref vb)) (R2 : Fld Z h0 a1 "java/lang/AbstractStringBuilder" "coder" "B" (.int (0 : Int32))) (R3 : Fld Z h0 a1 "java/lang/AbstractStringBuilder" "count" "I" (.int (2 : Int32))) (R4 : OA Z h0 vb .byte (obuf [u0, u1])) (R5 : Exa Z h0 a2 "java/lang/String") (R6 : Fld Z h0 a2 "java/lang/String" "value" "[B" (.ref b)) (R7 : Fld Z h0 a2 "java/lang/String" "coder" "B" (.int (0 : Int32))) (R8 : OA Z h0 b .byte (([x0, x1] : List Int32).map obv)) (R9 : Sta Z h0 "java/lang/String" "COMPACT_STRINGS" "Z" (.int w)) (g_a1 : n0 ≤ a1) (g_vb : n0 ≤ vb) (ne_a2_vb : a2 ≠ vb) (ne_b_vb : b ≠ vb) (ne_a1_vb : a1 ≠ vb) (ne_a1_a2 : a1 ≠ a2) (ne_a1_b : a1 ≠ b) (hw0 : ¬ w = (0 : Int32)) :
    OMet l Z (⟨"java/lang/AbstractStringBuilder", "append", "(Ljava/lang/String;)Ljava/lang/AbstractStringBuilder;"⟩ : MethodName) jdk_68_method_22_code 3 (some (.object "java/lang/AbstractStringBuilder")) ws ({ frames := 3, cells := 0, slots := 0, locals := 47 } : Room) #[(.ref a1), (.ref a2)] h0 (Q11_2_2 Z a1 a2 vb b u0 u1 x0 x1 w h0 n0) := by
  refine own_enter pn_11 ?_
  intro p e s m below meth c s₁ hx hby hml0 hown hret hlk hnm hZ X0 e0
  have hml : c.maxLocals = 3 := hml0
  have B : BX p c jdk_68_method_22_code := ⟨hx, hby⟩
  have N0 := Fr.nil n0
  refine own_cast (ef_11 m a1 a2) ?_
  refine waloadN OGc 1 X0 B d11_0 rfl rfl rfl ?_
  refine wifnonnullYes OGc 9 X0 B d11_1 rfl ?_
  refine waloadN OGc 10 X0 B d11_9 rfl rfl rfl ?_
  refine wvirt OGc 13 X0 B hZ hown (ow hw 77 rfl) (ow hw 78 rfl) (ow hw 80 rfl) (ow hw 79 rfl) R5 (ow hw 81 rfl) (ow hw 6 rfl) e0 (rm12 l Z a0 hw [] a2 b ([x0, x1] : List Int32) w h0 R5 R6 R7 R8 R9 hw0) 0 (by decide) (by decide) hml rfl (lenOf pd___I rfl) [] rfl rfl d11_10 rfl fun _ T1 L1 X1 hQ1 => ?_
  obtain ⟨rfl, rfl, e1⟩ := hQ1
  have N1 := Fr.app N0 (Fr.nil n0)
  refine own_stk (S' := [(.int (2 : Int32))]) rfl ?_
  refine wistoreN OGc 14 X1 B d11_13 #[.val (.ref a1), .val (.ref a2), .val (.int (2 : Int32))] rfl rfl ?_
  refine waloadN OGc 15 X1 B d11_14 rfl rfl rfl ?_
  refine waloadN OGc 16 X1 B d11_15 rfl rfl rfl ?_
  refine wgetF OGc 19 X1 B hZ hown (ow hw 88 rfl) e1 R3 d11_16 rfl fun T2 X2 e2 => ?_
  refine wiloadN OGc 20 X2 B d11_19 rfl rfl ?_
  refine wiadd OGc 21 X2 B d11_20 rfl ?_
  show OG p e _ s below _ T2 (mkF m 21 #[.val (.ref a1), .val (.ref a2), .val (.int (2 : Int32))] [(.int (4 : Int32)), (.ref a1)])
  refine wpriv OGc 24 X2 B hZ hown (ow hw 90 rfl) (ow hw 91 rfl) (own_selp2 hZ (ow hw 93 rfl) (ow hw 92 rfl) (ow hw 91 rfl) (by decide)) (ow hw 92 rfl) R0 (ow hw 94 rfl) (ow hw 59 rfl) e2 (rm14_4 l Z a0 hw [] a1 vb (nar .byte u0) (nar .byte u1) (0 : Int32) (0 : Int32) (0 : Int32) (0 : Int32) (0 : Int32) (0 : Int32) (0 : Int32) (0 : Int32) (0 : Int32) (0 : Int32) (0 : Int32) (0 : Int32) (0 : Int32) (0 : Int32) h0 n0 R1 R2 R4) 0 (by decide) (by decide) hml rfl (lenOf pd__I_V rfl) [] rfl rfl d11_21 rfl fun _ T3 L3 X3 hQ3 => ?_
  obtain ⟨rfl, N3q, K3q⟩ := hQ3
  have N3 := Fr.app N1 N3q
  have K3 := (Keep.refl h0 [a1, vb]).trans K3q (own_all0 )
  have F4 := R0.keep K3q
  have F5 := R1.keep K3q (own_nin0 )
  have F6 := R2.keep K3q (own_nin0 )
  have F7 := R3.keep K3q (own_nin0 )
  have F8 := R4.keep K3q (own_nin0 )
  have F9 := R5.keep K3q
  have F10 := R6.keep K3q (own_nin0 )
  have F11 := R7.keep K3q (own_nin0 )
  have F12 := R8.keep K3q (own_nin0 )
  have F13 := own_staK R9 K3q (own_all0 )
  refine own_stk (S' := []) rfl ?_
  refine waloadN OGc 25 X3 B d11_24 rfl rfl rfl ?_
  refine waloadN OGc 26 X3 B d11_25 rfl rfl rfl ?_
  refine wgetF OGc 29 X3 B hZ hown (ow hw 88 rfl) rfl F7 d11_26 rfl fun T14 X14 e14 => ?_
  refine waloadN OGc 30 X14 B d11_29 rfl rfl rfl ?_
  refine wpriv OGc 33 X14 B hZ hown (ow hw 95 rfl) (ow hw 96 rfl) (own_selp2 hZ (ow hw 98 rfl) (ow hw 97 rfl) (ow hw 96 rfl) (by decide)) (ow hw 97 rfl) F4 (ow hw 99 rfl) (ow hw 59 rfl) e14 (rm15_2_2 l Z a0 hw [] a1 a2 vb b u0 u1 x0 x1 w T3.heap n0 F4 F5 F6 F8 F9 F10 F11 F12 F13 g_vb ne_a2_vb ne_b_vb ne_a1_vb hw0) 0 (by decide) (by decide) hml rfl (lenOf pd__ILjava_lang_String__V rfl) [] rfl rfl d11_30 rfl fun _ T15 L15 X15 hQ15 => ?_
  obtain ⟨rfl, N15q, K15q, P15_0⟩ := hQ15
  have N15 := Fr.app N3 N15q
  have K15 := K3.trans K15q (own_all1 (Or.inl (List.mem_of_getElem? (i := 1) rfl)))
  have F16 := F4.keep K15q
  have F17 := F5.keep K15q (own_nin1 ne_a1_vb)
  have F18 := F6.keep K15q (own_nin1 ne_a1_vb)
  have F19 := F7.keep K15q (own_nin1 ne_a1_vb)
  have F20 := F9.keep K15q
  have F21 := F10.keep K15q (own_nin1 ne_a2_vb)
  have F22 := F11.keep K15q (own_nin1 ne_a2_vb)
  have F23 := F12.keep K15q (own_nin1 ne_b_vb)
  have F24 := own_staK F13 K15q (own_all1 (own_plA F8))
  refine own_stk (S' := []) rfl ?_
  refine waloadN OGc 34 X15 B d11_33 rfl rfl rfl ?_
  refine wdup OGc 35 X15 B d11_34 rfl rfl ?_
  refine wgetF OGc 38 X15 B hZ hown (ow hw 88 rfl) rfl F19 d11_35 rfl fun T25 X25 e25 => ?_
  refine wiloadN OGc 39 X25 B d11_38 rfl rfl ?_
  refine wiadd OGc 40 X25 B d11_39 rfl ?_
  show OG p e _ s below _ T25 (mkF m 40 #[.val (.ref a1), .val (.ref a2), .val (.int (2 : Int32))] [(.int (4 : Int32)), (.ref a1)])
  refine wputF OGc 43 X25 B hZ hown (ow hw 88 rfl) e25 F19 F16 (Or.inl (ow hw 89 rfl)) (ow hw 50 rfl) (ty := .int) (by decide) rfl rfl d11_40 rfl fun T26 h26 X26 e26 W26 => ?_
  have N26 := Fr.snoc X26 N15 g_a1
  have K27 := K15.wr W26 (Or.inl (List.mem_of_getElem? (i := 0) rfl))
  have F28 := F16.wr W26
  have F29 := F17.other W26 (Or.inr (slot_ne (Or.inl (ow hw 64 rfl)) (Or.inl (ow hw 89 rfl)) (by decide) (t := (.array .byte)) (t' := .int) (by decide) (by decide)))
  have F30 := F18.other W26 (Or.inr (slot_ne (Or.inl (ow hw 66 rfl)) (Or.inl (ow hw 89 rfl)) (by decide) (t := .byte) (t' := .int) (by decide) (by decide)))
  have F31 : Fld Z h26 a1 "java/lang/AbstractStringBuilder" "count" "I" (.int (4 : Int32)) := (F19.same W26)
  have F32 := F20.wr W26
  have F33 := F21.other W26 (Or.inl (Ne.symm ne_a1_a2))
  have F34 := F22.other W26 (Or.inl (Ne.symm ne_a1_a2))
  have F35 := F23.other W26 (Ne.symm ne_a1_b)
  have F36 := F24.wr W26
  have F37 := P15_0.other W26 (Ne.symm ne_a1_vb)
  refine waloadN OGc 44 X26 B d11_43 rfl rfl rfl ?_
  refine own_retV X26 hx hret rfl (Or.inr (Or.inr (Or.inr (Or.inr ⟨rfl, rfl, rfl⟩)))) hlk (hb hby d11_44) (by decide) (by decide) ?_
  rw [e26]
  exact ⟨rfl, N26, K27, F28, F29, F30, F31, F37⟩
theorem ef_17_2_3 (m : MethodId) (a1 : Addr) (a2 : Addr) : entryFrame m #[(.ref a1), (.ref a2), (.int (2 : Int32)), (.int (0 : Int32))] 4 = (mkF m 0 #[.val (.ref a1), .val (.ref a2), .val (.int (2 : Int32)), .val (.int (0 : Int32))] []) := by first | (simp [entryFrame, mkF, argsToLocals, Value.category]; done) | rfl
abbrev Q17_2_3 (Z : State) (a1 : Addr) (a2 : Addr) (b : Addr) (u0 : Int32) (u1 : Int32) (x0 : Int32) (x1 : Int32) (x2 : Int32) (w : Int32) (h0 : Heap) (n0 : Nat) : Option Value → Heap → List Loc → Prop := (fun v h L => v = none ∧ Fr n0 L ∧ Keep h0 h [a2] ∧ OA Z h a2 .byte (obuf [u0, u1, x0, x1, x2]))
theorem rm17_2_3 (l : Launch) (Z : State) (a0 : Array Value) (hw : ∀ d ∈ tables_1, d.before a0 Z = true) (ws : List Jvm.Cond) (a1 : Addr) (a2 : Addr) (b : Addr) (u0 : Int32) (u1 : Int32) (x0 : Int32) (x1 : Int32) (x2 : Int32) (w : Int32) (h0 : Heap) (n0 : Nat) (R0 : Exa Z h0 a1 "java/lang/String") (R1 : Fld Z h0 a1 "java/lang/String" "value" "[B" (.ref b)) (R2 : Fld Z h0 a1 "java/lang/String" "coder" "B" (.int (0 : Int32))) (R3 : OA Z h0 b .byte (([x0, x1, x2] : List Int32).map obv)) (R4 : OA Z h0 a2 .byte (obuf [u0, u1])) (R5 : Sta Z h0 "java/lang/String" "COMPACT_STRINGS" "Z" (.int w)) (g_a2 : n0 ≤ a2) (ne_a1_a2 : a1 ≠ a2) (ne_b_a2 : b ≠ a2) (hw0 : ¬ w = (0 : Int32)) :
    OMet l Z (⟨"java/lang/String", "getBytes", "([BIB)V"⟩ : MethodName) jdk_42_method_147_code 4 none ws ({ frames := 1, cells := 0, slots := 0, locals := 18 } : Room) #[(.ref a1), (.ref a2), (.int (2 : Int32)), (.int (0 : Int32))] h0 (Q17_2_3 Z a1 a2 b u0 u1 x0 x1 x2 w h0 n0) := by
  refine own_enter pn_17 ?_
  intro p e s m below meth c s₁ hx hby hml0 hown hret hlk hnm hZ X0 e0
  have hml : c.maxLocals = 4 := hml0
  have B : BX p c jdk_42_method_147_code := ⟨hx, hby⟩
  have N0 := Fr.nil n0
  refine own_cast (ef_17_2_3 m a1 a2) ?_
  refine waloadN OGc 1 X0 B d17_0 rfl rfl rfl ?_
  refine wvirt OGc 4 X0 B hZ hown (ow hw 82 rfl) (ow hw 83 rfl) (ow hw 85 rfl) (ow hw 84 rfl) R0 (ow hw 86 rfl) (ow hw 6 rfl) e0 (rm13 l Z a0 hw [] a1 w h0 R2 R5 hw0) 0 (by decide) (by decide) hml rfl (lenOf pd___B rfl) [] rfl rfl d17_1 rfl fun _ T1 L1 X1 hQ1 => ?_
  obtain ⟨rfl, rfl, e1⟩ := hQ1
  have N1 := Fr.app N0 (Fr.nil n0)
  refine own_stk (S' := [(.int (0 : Int32))]) rfl ?_
  refine wiloadN OGc 5 X1 B d17_4 rfl rfl ?_
  refine wicmpNo OGc 8 X1 B d17_5 (by decide) rfl ?_
  refine waloadN OGc 9 X1 B d17_8 rfl rfl rfl ?_
  refine wgetF OGc 12 X1 B hZ hown (ow hw 24 rfl) e1 R1 d17_9 rfl fun T2 X2 e2 => ?_
  refine wiconst OGc 13 X2 B d17_12 0 rfl rfl ?_
  refine waloadN OGc 14 X2 B d17_13 rfl rfl rfl ?_
  refine wiloadN OGc 15 X2 B d17_14 rfl rfl ?_
  refine wiloadN OGc 16 X2 B d17_15 rfl rfl ?_
  refine own_st (fun t k => XS.ishl X2.here hx rfl (hb hby d17_16) rfl k) ?_
  show OG p e _ s below _ T2 (mkF m 17 #[.val (.ref a1), .val (.ref a2), .val (.int (2 : Int32)), .val (.int (0 : Int32))] [(.int (2 : Int32)), (.ref a2), (.int (0 : Int32)), (.ref b)])
  refine waloadN OGc 18 X2 B d17_17 rfl rfl rfl ?_
  refine wgetF OGc 21 X2 B hZ hown (ow hw 24 rfl) e2 R1 d17_18 rfl fun T3 X3 e3 => ?_
  refine warlenA OGc 22 X3 B hZ e3 R3 (3 : Int32) rfl d17_21 rfl ?_
  refine wcp OGc 25 X3 B hZ hown (ow hw 111 rfl) (ow hw 114 rfl) (ow hw 112 rfl) (ow hw 113 rfl) e3 R3 R4 (own_bytB [x0, x1, x2] 0) (own_bytB [u0, u1] 14) 3 16 0 2 3 rfl rfl (z := (3 : Int32)) (z' := (16 : Int32)) (by decide) (([x0, x1, x2] : List Int32).map obv) rfl (obuf [u0, u1, x0, x1, x2]) rfl rfl N1 g_a2 hml rfl d17_22 (W := 0) rfl (by decide) rfl fun T5 h5 L5 X5 e5 N5 K5q A5 => ?_
  have K5 : Keep h0 h5 [a2] := (Keep.refl h0 [a2]).trans K5q (own_all1 (Or.inl (List.mem_of_getElem? (i := 0) rfl)))
  have F6 := R0.keep K5q
  have F7 := R1.keep K5q (own_nin1 ne_a1_a2)
  have F8 := R2.keep K5q (own_nin1 ne_a1_a2)
  have F9 := R3.keep K5q (own_nin1 ne_b_a2)
  have F10 : OA Z h5 a2 .byte (obuf [u0, u1, x0, x1, x2]) := A5
  have F11 := own_staK R5 K5q (own_all1 (own_plA R4))
  refine wgoto OGc 43 X5 B d17_25 rfl ?_
  refine own_ret0 X5 hx hret hlk (hb hby d17_43) (by decide) (by decide) ?_
  rw [e5]
  exact ⟨rfl, N5, K5, F10⟩
theorem ef_15_2_3 (m : MethodId) (a1 : Addr) (a3 : Addr) : entryFrame m #[(.ref a1), (.int (2 : Int32)), (.ref a3)] 3 = (mkF m 0 #[.val (.ref a1), .val (.int (2 : Int32)), .val (.ref a3)] []) := by first | (simp [entryFrame, mkF, argsToLocals, Value.category]; done) | rfl
abbrev Q15_2_3 (Z : State) (a1 : Addr) (a3 : Addr) (vb : Addr) (b : Addr) (u0 : Int32) (u1 : Int32) (x0 : Int32) (x1 : Int32) (x2 : Int32) (w : Int32) (h0 : Heap) (n0 : Nat) : Option Value → Heap → List Loc → Prop := (fun v h L => v = none ∧ Fr n0 L ∧ Keep h0 h [vb] ∧ OA Z h vb .byte (obuf [u0, u1, x0, x1, x2]))
theorem rm15_2_3 (l : Launch) (Z : State) (a0 : Array Value) (hw : ∀ d ∈ tables_1, d.before a0 Z = true) (ws : List Jvm.Cond) (a1 : Addr) (a3 : Addr) (vb : Addr) (b : Addr) (u0 : Int32) (u1 : Int32) (x0 : Int32) (x1 : Int32) (x2 : Int32) (w : Int32) (h0 : Heap) (n0 : Nat) (R0 : Exa Z h0 a1 "java/lang/StringBuilder") (R1 : Fld Z h0 a1 "java/lang/AbstractStringBuilder" "value" "[B" (.ref vb)) (R2 : Fld Z h0 a1 "java/lang/AbstractStringBuilder" "coder" "B" (.int (0 : Int32))) (R3 : OA Z h0 vb .byte (obuf [u0, u1])) (R4 : Exa Z h0 a3 "java/lang/String") (R5 : Fld Z h0 a3 "java/lang/String" "value" "[B" (.ref b)) (R6 : Fld Z h0 a3 "java/lang/String" "coder" "B" (.int (0 : Int32))) (R7 : OA Z h0 b .byte (([x0, x1, x2] : List Int32).map obv)) (R8 : Sta Z h0 "java/lang/String" "COMPACT_STRINGS" "Z" (.int w)) (g_vb : n0 ≤ vb) (ne_a3_vb : a3 ≠ vb) (ne_b_vb : b ≠ vb) (ne_a1_vb : a1 ≠ vb) (hw0 : ¬ w = (0 : Int32)) :
    OMet l Z (⟨"java/lang/AbstractStringBuilder", "putStringAt", "(ILjava/lang/String;)V"⟩ : MethodName) jdk_68_method_73_code 3 none ws ({ frames := 2, cells := 0, slots := 0, locals := 33 } : Room) #[(.ref a1), (.int (2 : Int32)), (.ref a3)] h0 (Q15_2_3 Z a1 a3 vb b u0 u1 x0 x1 x2 w h0 n0) := by
  refine own_enter pn_15 ?_
  intro p e s m below meth c s₁ hx hby hml0 hown hret hlk hnm hZ X0 e0
  have hml : c.maxLocals = 3 := hml0
  have B : BX p c jdk_68_method_73_code := ⟨hx, hby⟩
  have N0 := Fr.nil n0
  refine own_cast (ef_15_2_3 m a1 a3) ?_
  refine waloadN OGc 1 X0 B d15_0 rfl rfl rfl ?_
  refine waloadN OGc 2 X0 B d15_1 rfl rfl rfl ?_
  refine wpriv OGc 5 X0 B hZ hown (ow hw 100 rfl) (ow hw 101 rfl) (own_selp2 hZ (ow hw 103 rfl) (ow hw 102 rfl) (ow hw 101 rfl) (by decide)) (ow hw 102 rfl) R0 (ow hw 104 rfl) (ow hw 59 rfl) e0 (rm16 l Z a0 hw [] a1 a3 w h0 n0 R2 R4 R6 R8 hw0) 0 (by decide) (by decide) hml rfl (lenOf pd__Ljava_lang_String__V rfl) [] rfl rfl d15_2 rfl fun _ T1 L1 X1 hQ1 => ?_
  obtain ⟨rfl, N1q, K1q⟩ := hQ1
  have N1 := Fr.app N0 N1q
  have K1 := (Keep.refl h0 [vb]).trans K1q (own_all0 )
  have F2 := R0.keep K1q
  have F3 := R1.keep K1q (own_nin0 )
  have F4 := R2.keep K1q (own_nin0 )
  have F5 := R3.keep K1q (own_nin0 )
  have F6 := R4.keep K1q
  have F7 := R5.keep K1q (own_nin0 )
  have F8 := R6.keep K1q (own_nin0 )
  have F9 := R7.keep K1q (own_nin0 )
  have F10 := own_staK R8 K1q (own_all0 )
  refine own_stk (S' := []) rfl ?_
  refine waloadN OGc 6 X1 B d15_5 rfl rfl rfl ?_
  refine waloadN OGc 7 X1 B d15_6 rfl rfl rfl ?_
  refine wgetF OGc 10 X1 B hZ hown (ow hw 63 rfl) rfl F3 d15_7 rfl fun T11 X11 e11 => ?_
  refine wiloadN OGc 11 X11 B d15_10 rfl rfl ?_
  refine waloadN OGc 12 X11 B d15_11 rfl rfl rfl ?_
  refine wgetF OGc 15 X11 B hZ hown (ow hw 65 rfl) e11 F4 d15_12 rfl fun T12 X12 e12 => ?_
  refine wvirt OGc 18 X12 B hZ hown (ow hw 106 rfl) (ow hw 107 rfl) (ow hw 109 rfl) (ow hw 108 rfl) F6 (ow hw 110 rfl) (ow hw 6 rfl) e12 (rm17_2_3 l Z a0 hw [] a3 vb b u0 u1 x0 x1 x2 w T1.heap n0 F6 F7 F8 F9 F5 F10 g_vb ne_a3_vb ne_b_vb hw0) 0 (by decide) (by decide) hml rfl (lenOf pd___BIB_V rfl) [] rfl rfl d15_15 rfl fun _ T13 L13 X13 hQ13 => ?_
  obtain ⟨rfl, N13q, K13q, P13_0⟩ := hQ13
  have N13 := Fr.app N1 N13q
  have K13 := K1.trans K13q (own_all1 (Or.inl (List.mem_of_getElem? (i := 0) rfl)))
  have F14 := F2.keep K13q
  have F15 := F3.keep K13q (own_nin1 ne_a1_vb)
  have F16 := F4.keep K13q (own_nin1 ne_a1_vb)
  have F17 := F6.keep K13q
  have F18 := F7.keep K13q (own_nin1 ne_a3_vb)
  have F19 := F8.keep K13q (own_nin1 ne_a3_vb)
  have F20 := F9.keep K13q (own_nin1 ne_b_vb)
  have F21 := own_staK F10 K13q (own_all1 (own_plA F5))
  refine own_stk (S' := []) rfl ?_
  refine own_ret0 X13 hx hret hlk (hb hby d15_18) (by decide) (by decide) ?_
  exact ⟨rfl, N13, K13, P13_0⟩
abbrev Q11_2_3 (Z : State) (a1 : Addr) (a2 : Addr) (vb : Addr) (b : Addr) (u0 : Int32) (u1 : Int32) (x0 : Int32) (x1 : Int32) (x2 : Int32) (w : Int32) (h0 : Heap) (n0 : Nat) : Option Value → Heap → List Loc → Prop := (fun v h L => v = some (.ref a1) ∧ Fr n0 L ∧ Keep h0 h [a1, vb] ∧ Exa Z h a1 "java/lang/StringBuilder" ∧ Fld Z h a1 "java/lang/AbstractStringBuilder" "value" "[B" (.ref vb) ∧ Fld Z h a1 "java/lang/AbstractStringBuilder" "coder" "B" (.int (0 : Int32)) ∧ Fld Z h a1 "java/lang/AbstractStringBuilder" "count" "I" (.int (5 : Int32)) ∧ OA Z h vb .byte (obuf [u0, u1, x0, x1, x2]))
theorem rm11_2_3 (l : Launch) (Z : State) (a0 : Array Value) (hw : ∀ d ∈ tables_1, d.before a0 Z = true) (ws : List Jvm.Cond) (a1 : Addr) (a2 : Addr) (vb : Addr) (b : Addr) (u0 : Int32) (u1 : Int32) (x0 : Int32) (x1 : Int32) (x2 : Int32) (w : Int32) (h0 : Heap) (n0 : Nat) (R0 : Exa Z h0 a1 "java/lang/StringBuilder") (R1 : Fld Z h0 a1 "java/lang/AbstractStringBuilder" "value" "[B" (.ref vb)) (R2 : Fld Z h0 a1 "java/lang/AbstractStringBuilder" "coder" "B" (.int (0 : Int32))) (R3 : Fld Z h0 a1 "java/lang/AbstractStringBuilder" "count" "I" (.int (2 : Int32))) (R4 : OA Z h0 vb .byte (obuf [u0, u1])) (R5 : Exa Z h0 a2 "java/lang/String") (R6 : Fld Z h0 a2 "java/lang/String" "value" "[B" (.ref b)) (R7 : Fld Z h0 a2 "java/lang/String" "coder" "B" (.int (0 : Int32))) (R8 : OA Z h0 b .byte (([x0, x1, x2] : List Int32).map obv)) (R9 : Sta Z h0 "java/lang/String" "COMPACT_STRINGS" "Z" (.int w)) (g_a1 : n0 ≤ a1) (g_vb : n0 ≤ vb) (ne_a2_vb : a2 ≠ vb) (ne_b_vb : b ≠ vb) (ne_a1_vb : a1 ≠ vb) (ne_a1_a2 : a1 ≠ a2) (ne_a1_b : a1 ≠ b) (hw0 : ¬ w = (0 : Int32)) :
    OMet l Z (⟨"java/lang/AbstractStringBuilder", "append", "(Ljava/lang/String;)Ljava/lang/AbstractStringBuilder;"⟩ : MethodName) jdk_68_method_22_code 3 (some (.object "java/lang/AbstractStringBuilder")) ws ({ frames := 3, cells := 0, slots := 0, locals := 47 } : Room) #[(.ref a1), (.ref a2)] h0 (Q11_2_3 Z a1 a2 vb b u0 u1 x0 x1 x2 w h0 n0) := by
  refine own_enter pn_11 ?_
  intro p e s m below meth c s₁ hx hby hml0 hown hret hlk hnm hZ X0 e0
  have hml : c.maxLocals = 3 := hml0
  have B : BX p c jdk_68_method_22_code := ⟨hx, hby⟩
  have N0 := Fr.nil n0
  refine own_cast (ef_11 m a1 a2) ?_
  refine waloadN OGc 1 X0 B d11_0 rfl rfl rfl ?_
  refine wifnonnullYes OGc 9 X0 B d11_1 rfl ?_
  refine waloadN OGc 10 X0 B d11_9 rfl rfl rfl ?_
  refine wvirt OGc 13 X0 B hZ hown (ow hw 77 rfl) (ow hw 78 rfl) (ow hw 80 rfl) (ow hw 79 rfl) R5 (ow hw 81 rfl) (ow hw 6 rfl) e0 (rm12 l Z a0 hw [] a2 b ([x0, x1, x2] : List Int32) w h0 R5 R6 R7 R8 R9 hw0) 0 (by decide) (by decide) hml rfl (lenOf pd___I rfl) [] rfl rfl d11_10 rfl fun _ T1 L1 X1 hQ1 => ?_
  obtain ⟨rfl, rfl, e1⟩ := hQ1
  have N1 := Fr.app N0 (Fr.nil n0)
  refine own_stk (S' := [(.int (3 : Int32))]) rfl ?_
  refine wistoreN OGc 14 X1 B d11_13 #[.val (.ref a1), .val (.ref a2), .val (.int (3 : Int32))] rfl rfl ?_
  refine waloadN OGc 15 X1 B d11_14 rfl rfl rfl ?_
  refine waloadN OGc 16 X1 B d11_15 rfl rfl rfl ?_
  refine wgetF OGc 19 X1 B hZ hown (ow hw 88 rfl) e1 R3 d11_16 rfl fun T2 X2 e2 => ?_
  refine wiloadN OGc 20 X2 B d11_19 rfl rfl ?_
  refine wiadd OGc 21 X2 B d11_20 rfl ?_
  show OG p e _ s below _ T2 (mkF m 21 #[.val (.ref a1), .val (.ref a2), .val (.int (3 : Int32))] [(.int (5 : Int32)), (.ref a1)])
  refine wpriv OGc 24 X2 B hZ hown (ow hw 90 rfl) (ow hw 91 rfl) (own_selp2 hZ (ow hw 93 rfl) (ow hw 92 rfl) (ow hw 91 rfl) (by decide)) (ow hw 92 rfl) R0 (ow hw 94 rfl) (ow hw 59 rfl) e2 (rm14_5 l Z a0 hw [] a1 vb (nar .byte u0) (nar .byte u1) (0 : Int32) (0 : Int32) (0 : Int32) (0 : Int32) (0 : Int32) (0 : Int32) (0 : Int32) (0 : Int32) (0 : Int32) (0 : Int32) (0 : Int32) (0 : Int32) (0 : Int32) (0 : Int32) h0 n0 R1 R2 R4) 0 (by decide) (by decide) hml rfl (lenOf pd__I_V rfl) [] rfl rfl d11_21 rfl fun _ T3 L3 X3 hQ3 => ?_
  obtain ⟨rfl, N3q, K3q⟩ := hQ3
  have N3 := Fr.app N1 N3q
  have K3 := (Keep.refl h0 [a1, vb]).trans K3q (own_all0 )
  have F4 := R0.keep K3q
  have F5 := R1.keep K3q (own_nin0 )
  have F6 := R2.keep K3q (own_nin0 )
  have F7 := R3.keep K3q (own_nin0 )
  have F8 := R4.keep K3q (own_nin0 )
  have F9 := R5.keep K3q
  have F10 := R6.keep K3q (own_nin0 )
  have F11 := R7.keep K3q (own_nin0 )
  have F12 := R8.keep K3q (own_nin0 )
  have F13 := own_staK R9 K3q (own_all0 )
  refine own_stk (S' := []) rfl ?_
  refine waloadN OGc 25 X3 B d11_24 rfl rfl rfl ?_
  refine waloadN OGc 26 X3 B d11_25 rfl rfl rfl ?_
  refine wgetF OGc 29 X3 B hZ hown (ow hw 88 rfl) rfl F7 d11_26 rfl fun T14 X14 e14 => ?_
  refine waloadN OGc 30 X14 B d11_29 rfl rfl rfl ?_
  refine wpriv OGc 33 X14 B hZ hown (ow hw 95 rfl) (ow hw 96 rfl) (own_selp2 hZ (ow hw 98 rfl) (ow hw 97 rfl) (ow hw 96 rfl) (by decide)) (ow hw 97 rfl) F4 (ow hw 99 rfl) (ow hw 59 rfl) e14 (rm15_2_3 l Z a0 hw [] a1 a2 vb b u0 u1 x0 x1 x2 w T3.heap n0 F4 F5 F6 F8 F9 F10 F11 F12 F13 g_vb ne_a2_vb ne_b_vb ne_a1_vb hw0) 0 (by decide) (by decide) hml rfl (lenOf pd__ILjava_lang_String__V rfl) [] rfl rfl d11_30 rfl fun _ T15 L15 X15 hQ15 => ?_
  obtain ⟨rfl, N15q, K15q, P15_0⟩ := hQ15
  have N15 := Fr.app N3 N15q
  have K15 := K3.trans K15q (own_all1 (Or.inl (List.mem_of_getElem? (i := 1) rfl)))
  have F16 := F4.keep K15q
  have F17 := F5.keep K15q (own_nin1 ne_a1_vb)
  have F18 := F6.keep K15q (own_nin1 ne_a1_vb)
  have F19 := F7.keep K15q (own_nin1 ne_a1_vb)
  have F20 := F9.keep K15q
  have F21 := F10.keep K15q (own_nin1 ne_a2_vb)
  have F22 := F11.keep K15q (own_nin1 ne_a2_vb)
  have F23 := F12.keep K15q (own_nin1 ne_b_vb)
  have F24 := own_staK F13 K15q (own_all1 (own_plA F8))
  refine own_stk (S' := []) rfl ?_
  refine waloadN OGc 34 X15 B d11_33 rfl rfl rfl ?_
  refine wdup OGc 35 X15 B d11_34 rfl rfl ?_
  refine wgetF OGc 38 X15 B hZ hown (ow hw 88 rfl) rfl F19 d11_35 rfl fun T25 X25 e25 => ?_
  refine wiloadN OGc 39 X25 B d11_38 rfl rfl ?_
  refine wiadd OGc 40 X25 B d11_39 rfl ?_
  show OG p e _ s below _ T25 (mkF m 40 #[.val (.ref a1), .val (.ref a2), .val (.int (3 : Int32))] [(.int (5 : Int32)), (.ref a1)])
  refine wputF OGc 43 X25 B hZ hown (ow hw 88 rfl) e25 F19 F16 (Or.inl (ow hw 89 rfl)) (ow hw 50 rfl) (ty := .int) (by decide) rfl rfl d11_40 rfl fun T26 h26 X26 e26 W26 => ?_
  have N26 := Fr.snoc X26 N15 g_a1
  have K27 := K15.wr W26 (Or.inl (List.mem_of_getElem? (i := 0) rfl))
  have F28 := F16.wr W26
  have F29 := F17.other W26 (Or.inr (slot_ne (Or.inl (ow hw 64 rfl)) (Or.inl (ow hw 89 rfl)) (by decide) (t := (.array .byte)) (t' := .int) (by decide) (by decide)))
  have F30 := F18.other W26 (Or.inr (slot_ne (Or.inl (ow hw 66 rfl)) (Or.inl (ow hw 89 rfl)) (by decide) (t := .byte) (t' := .int) (by decide) (by decide)))
  have F31 : Fld Z h26 a1 "java/lang/AbstractStringBuilder" "count" "I" (.int (5 : Int32)) := (F19.same W26)
  have F32 := F20.wr W26
  have F33 := F21.other W26 (Or.inl (Ne.symm ne_a1_a2))
  have F34 := F22.other W26 (Or.inl (Ne.symm ne_a1_a2))
  have F35 := F23.other W26 (Ne.symm ne_a1_b)
  have F36 := F24.wr W26
  have F37 := P15_0.other W26 (Ne.symm ne_a1_vb)
  refine waloadN OGc 44 X26 B d11_43 rfl rfl rfl ?_
  refine own_retV X26 hx hret rfl (Or.inr (Or.inr (Or.inr (Or.inr ⟨rfl, rfl, rfl⟩)))) hlk (hb hby d11_44) (by decide) (by decide) ?_
  rw [e26]
  exact ⟨rfl, N26, K27, F28, F29, F30, F31, F37⟩
theorem ef_17_3_0 (m : MethodId) (a1 : Addr) (a2 : Addr) : entryFrame m #[(.ref a1), (.ref a2), (.int (3 : Int32)), (.int (0 : Int32))] 4 = (mkF m 0 #[.val (.ref a1), .val (.ref a2), .val (.int (3 : Int32)), .val (.int (0 : Int32))] []) := by first | (simp [entryFrame, mkF, argsToLocals, Value.category]; done) | rfl
abbrev Q17_3_0 (Z : State) (a1 : Addr) (a2 : Addr) (b : Addr) (u0 : Int32) (u1 : Int32) (u2 : Int32) (w : Int32) (h0 : Heap) (n0 : Nat) : Option Value → Heap → List Loc → Prop := (fun v h L => v = none ∧ Fr n0 L ∧ Keep h0 h [a2] ∧ OA Z h a2 .byte (obuf [u0, u1, u2]))
theorem rm17_3_0 (l : Launch) (Z : State) (a0 : Array Value) (hw : ∀ d ∈ tables_1, d.before a0 Z = true) (ws : List Jvm.Cond) (a1 : Addr) (a2 : Addr) (b : Addr) (u0 : Int32) (u1 : Int32) (u2 : Int32) (w : Int32) (h0 : Heap) (n0 : Nat) (R0 : Exa Z h0 a1 "java/lang/String") (R1 : Fld Z h0 a1 "java/lang/String" "value" "[B" (.ref b)) (R2 : Fld Z h0 a1 "java/lang/String" "coder" "B" (.int (0 : Int32))) (R3 : OA Z h0 b .byte (([] : List Int32).map obv)) (R4 : OA Z h0 a2 .byte (obuf [u0, u1, u2])) (R5 : Sta Z h0 "java/lang/String" "COMPACT_STRINGS" "Z" (.int w)) (g_a2 : n0 ≤ a2) (ne_a1_a2 : a1 ≠ a2) (ne_b_a2 : b ≠ a2) (hw0 : ¬ w = (0 : Int32)) :
    OMet l Z (⟨"java/lang/String", "getBytes", "([BIB)V"⟩ : MethodName) jdk_42_method_147_code 4 none ws ({ frames := 1, cells := 0, slots := 0, locals := 18 } : Room) #[(.ref a1), (.ref a2), (.int (3 : Int32)), (.int (0 : Int32))] h0 (Q17_3_0 Z a1 a2 b u0 u1 u2 w h0 n0) := by
  refine own_enter pn_17 ?_
  intro p e s m below meth c s₁ hx hby hml0 hown hret hlk hnm hZ X0 e0
  have hml : c.maxLocals = 4 := hml0
  have B : BX p c jdk_42_method_147_code := ⟨hx, hby⟩
  have N0 := Fr.nil n0
  refine own_cast (ef_17_3_0 m a1 a2) ?_
  refine waloadN OGc 1 X0 B d17_0 rfl rfl rfl ?_
  refine wvirt OGc 4 X0 B hZ hown (ow hw 82 rfl) (ow hw 83 rfl) (ow hw 85 rfl) (ow hw 84 rfl) R0 (ow hw 86 rfl) (ow hw 6 rfl) e0 (rm13 l Z a0 hw [] a1 w h0 R2 R5 hw0) 0 (by decide) (by decide) hml rfl (lenOf pd___B rfl) [] rfl rfl d17_1 rfl fun _ T1 L1 X1 hQ1 => ?_
  obtain ⟨rfl, rfl, e1⟩ := hQ1
  have N1 := Fr.app N0 (Fr.nil n0)
  refine own_stk (S' := [(.int (0 : Int32))]) rfl ?_
  refine wiloadN OGc 5 X1 B d17_4 rfl rfl ?_
  refine wicmpNo OGc 8 X1 B d17_5 (by decide) rfl ?_
  refine waloadN OGc 9 X1 B d17_8 rfl rfl rfl ?_
  refine wgetF OGc 12 X1 B hZ hown (ow hw 24 rfl) e1 R1 d17_9 rfl fun T2 X2 e2 => ?_
  refine wiconst OGc 13 X2 B d17_12 0 rfl rfl ?_
  refine waloadN OGc 14 X2 B d17_13 rfl rfl rfl ?_
  refine wiloadN OGc 15 X2 B d17_14 rfl rfl ?_
  refine wiloadN OGc 16 X2 B d17_15 rfl rfl ?_
  refine own_st (fun t k => XS.ishl X2.here hx rfl (hb hby d17_16) rfl k) ?_
  show OG p e _ s below _ T2 (mkF m 17 #[.val (.ref a1), .val (.ref a2), .val (.int (3 : Int32)), .val (.int (0 : Int32))] [(.int (3 : Int32)), (.ref a2), (.int (0 : Int32)), (.ref b)])
  refine waloadN OGc 18 X2 B d17_17 rfl rfl rfl ?_
  refine wgetF OGc 21 X2 B hZ hown (ow hw 24 rfl) e2 R1 d17_18 rfl fun T3 X3 e3 => ?_
  refine warlenA OGc 22 X3 B hZ e3 R3 (0 : Int32) rfl d17_21 rfl ?_
  refine wcp OGc 25 X3 B hZ hown (ow hw 111 rfl) (ow hw 114 rfl) (ow hw 112 rfl) (ow hw 113 rfl) e3 R3 R4 (own_bytB [] 0) (own_bytB [u0, u1, u2] 13) 0 16 0 3 0 rfl rfl (z := (0 : Int32)) (z' := (16 : Int32)) (by decide) (([] : List Int32).map obv) rfl (obuf [u0, u1, u2]) rfl rfl N1 g_a2 hml rfl d17_22 (W := 0) rfl (by decide) rfl fun T5 h5 L5 X5 e5 N5 K5q A5 => ?_
  have K5 : Keep h0 h5 [a2] := (Keep.refl h0 [a2]).trans K5q (own_all1 (Or.inl (List.mem_of_getElem? (i := 0) rfl)))
  have F6 := R0.keep K5q
  have F7 := R1.keep K5q (own_nin1 ne_a1_a2)
  have F8 := R2.keep K5q (own_nin1 ne_a1_a2)
  have F9 := R3.keep K5q (own_nin1 ne_b_a2)
  have F10 : OA Z h5 a2 .byte (obuf [u0, u1, u2]) := A5
  have F11 := own_staK R5 K5q (own_all1 (own_plA R4))
  refine wgoto OGc 43 X5 B d17_25 rfl ?_
  refine own_ret0 X5 hx hret hlk (hb hby d17_43) (by decide) (by decide) ?_
  rw [e5]
  exact ⟨rfl, N5, K5, F10⟩
theorem ef_15_3_0 (m : MethodId) (a1 : Addr) (a3 : Addr) : entryFrame m #[(.ref a1), (.int (3 : Int32)), (.ref a3)] 3 = (mkF m 0 #[.val (.ref a1), .val (.int (3 : Int32)), .val (.ref a3)] []) := by first | (simp [entryFrame, mkF, argsToLocals, Value.category]; done) | rfl
abbrev Q15_3_0 (Z : State) (a1 : Addr) (a3 : Addr) (vb : Addr) (b : Addr) (u0 : Int32) (u1 : Int32) (u2 : Int32) (w : Int32) (h0 : Heap) (n0 : Nat) : Option Value → Heap → List Loc → Prop := (fun v h L => v = none ∧ Fr n0 L ∧ Keep h0 h [vb] ∧ OA Z h vb .byte (obuf [u0, u1, u2]))
theorem rm15_3_0 (l : Launch) (Z : State) (a0 : Array Value) (hw : ∀ d ∈ tables_1, d.before a0 Z = true) (ws : List Jvm.Cond) (a1 : Addr) (a3 : Addr) (vb : Addr) (b : Addr) (u0 : Int32) (u1 : Int32) (u2 : Int32) (w : Int32) (h0 : Heap) (n0 : Nat) (R0 : Exa Z h0 a1 "java/lang/StringBuilder") (R1 : Fld Z h0 a1 "java/lang/AbstractStringBuilder" "value" "[B" (.ref vb)) (R2 : Fld Z h0 a1 "java/lang/AbstractStringBuilder" "coder" "B" (.int (0 : Int32))) (R3 : OA Z h0 vb .byte (obuf [u0, u1, u2])) (R4 : Exa Z h0 a3 "java/lang/String") (R5 : Fld Z h0 a3 "java/lang/String" "value" "[B" (.ref b)) (R6 : Fld Z h0 a3 "java/lang/String" "coder" "B" (.int (0 : Int32))) (R7 : OA Z h0 b .byte (([] : List Int32).map obv)) (R8 : Sta Z h0 "java/lang/String" "COMPACT_STRINGS" "Z" (.int w)) (g_vb : n0 ≤ vb) (ne_a3_vb : a3 ≠ vb) (ne_b_vb : b ≠ vb) (ne_a1_vb : a1 ≠ vb) (hw0 : ¬ w = (0 : Int32)) :
    OMet l Z (⟨"java/lang/AbstractStringBuilder", "putStringAt", "(ILjava/lang/String;)V"⟩ : MethodName) jdk_68_method_73_code 3 none ws ({ frames := 2, cells := 0, slots := 0, locals := 33 } : Room) #[(.ref a1), (.int (3 : Int32)), (.ref a3)] h0 (Q15_3_0 Z a1 a3 vb b u0 u1 u2 w h0 n0) := by
  refine own_enter pn_15 ?_
  intro p e s m below meth c s₁ hx hby hml0 hown hret hlk hnm hZ X0 e0
  have hml : c.maxLocals = 3 := hml0
  have B : BX p c jdk_68_method_73_code := ⟨hx, hby⟩
  have N0 := Fr.nil n0
  refine own_cast (ef_15_3_0 m a1 a3) ?_
  refine waloadN OGc 1 X0 B d15_0 rfl rfl rfl ?_
  refine waloadN OGc 2 X0 B d15_1 rfl rfl rfl ?_
  refine wpriv OGc 5 X0 B hZ hown (ow hw 100 rfl) (ow hw 101 rfl) (own_selp2 hZ (ow hw 103 rfl) (ow hw 102 rfl) (ow hw 101 rfl) (by decide)) (ow hw 102 rfl) R0 (ow hw 104 rfl) (ow hw 59 rfl) e0 (rm16 l Z a0 hw [] a1 a3 w h0 n0 R2 R4 R6 R8 hw0) 0 (by decide) (by decide) hml rfl (lenOf pd__Ljava_lang_String__V rfl) [] rfl rfl d15_2 rfl fun _ T1 L1 X1 hQ1 => ?_
  obtain ⟨rfl, N1q, K1q⟩ := hQ1
  have N1 := Fr.app N0 N1q
  have K1 := (Keep.refl h0 [vb]).trans K1q (own_all0 )
  have F2 := R0.keep K1q
  have F3 := R1.keep K1q (own_nin0 )
  have F4 := R2.keep K1q (own_nin0 )
  have F5 := R3.keep K1q (own_nin0 )
  have F6 := R4.keep K1q
  have F7 := R5.keep K1q (own_nin0 )
  have F8 := R6.keep K1q (own_nin0 )
  have F9 := R7.keep K1q (own_nin0 )
  have F10 := own_staK R8 K1q (own_all0 )
  refine own_stk (S' := []) rfl ?_
  refine waloadN OGc 6 X1 B d15_5 rfl rfl rfl ?_
  refine waloadN OGc 7 X1 B d15_6 rfl rfl rfl ?_
  refine wgetF OGc 10 X1 B hZ hown (ow hw 63 rfl) rfl F3 d15_7 rfl fun T11 X11 e11 => ?_
  refine wiloadN OGc 11 X11 B d15_10 rfl rfl ?_
  refine waloadN OGc 12 X11 B d15_11 rfl rfl rfl ?_
  refine wgetF OGc 15 X11 B hZ hown (ow hw 65 rfl) e11 F4 d15_12 rfl fun T12 X12 e12 => ?_
  refine wvirt OGc 18 X12 B hZ hown (ow hw 106 rfl) (ow hw 107 rfl) (ow hw 109 rfl) (ow hw 108 rfl) F6 (ow hw 110 rfl) (ow hw 6 rfl) e12 (rm17_3_0 l Z a0 hw [] a3 vb b u0 u1 u2 w T1.heap n0 F6 F7 F8 F9 F5 F10 g_vb ne_a3_vb ne_b_vb hw0) 0 (by decide) (by decide) hml rfl (lenOf pd___BIB_V rfl) [] rfl rfl d15_15 rfl fun _ T13 L13 X13 hQ13 => ?_
  obtain ⟨rfl, N13q, K13q, P13_0⟩ := hQ13
  have N13 := Fr.app N1 N13q
  have K13 := K1.trans K13q (own_all1 (Or.inl (List.mem_of_getElem? (i := 0) rfl)))
  have F14 := F2.keep K13q
  have F15 := F3.keep K13q (own_nin1 ne_a1_vb)
  have F16 := F4.keep K13q (own_nin1 ne_a1_vb)
  have F17 := F6.keep K13q
  have F18 := F7.keep K13q (own_nin1 ne_a3_vb)
  have F19 := F8.keep K13q (own_nin1 ne_a3_vb)
  have F20 := F9.keep K13q (own_nin1 ne_b_vb)
  have F21 := own_staK F10 K13q (own_all1 (own_plA F5))
  refine own_stk (S' := []) rfl ?_
  refine own_ret0 X13 hx hret hlk (hb hby d15_18) (by decide) (by decide) ?_
  exact ⟨rfl, N13, K13, P13_0⟩
abbrev Q11_3_0 (Z : State) (a1 : Addr) (a2 : Addr) (vb : Addr) (b : Addr) (u0 : Int32) (u1 : Int32) (u2 : Int32) (w : Int32) (h0 : Heap) (n0 : Nat) : Option Value → Heap → List Loc → Prop := (fun v h L => v = some (.ref a1) ∧ Fr n0 L ∧ Keep h0 h [a1, vb] ∧ Exa Z h a1 "java/lang/StringBuilder" ∧ Fld Z h a1 "java/lang/AbstractStringBuilder" "value" "[B" (.ref vb) ∧ Fld Z h a1 "java/lang/AbstractStringBuilder" "coder" "B" (.int (0 : Int32)) ∧ Fld Z h a1 "java/lang/AbstractStringBuilder" "count" "I" (.int (3 : Int32)) ∧ OA Z h vb .byte (obuf [u0, u1, u2]))
theorem rm11_3_0 (l : Launch) (Z : State) (a0 : Array Value) (hw : ∀ d ∈ tables_1, d.before a0 Z = true) (ws : List Jvm.Cond) (a1 : Addr) (a2 : Addr) (vb : Addr) (b : Addr) (u0 : Int32) (u1 : Int32) (u2 : Int32) (w : Int32) (h0 : Heap) (n0 : Nat) (R0 : Exa Z h0 a1 "java/lang/StringBuilder") (R1 : Fld Z h0 a1 "java/lang/AbstractStringBuilder" "value" "[B" (.ref vb)) (R2 : Fld Z h0 a1 "java/lang/AbstractStringBuilder" "coder" "B" (.int (0 : Int32))) (R3 : Fld Z h0 a1 "java/lang/AbstractStringBuilder" "count" "I" (.int (3 : Int32))) (R4 : OA Z h0 vb .byte (obuf [u0, u1, u2])) (R5 : Exa Z h0 a2 "java/lang/String") (R6 : Fld Z h0 a2 "java/lang/String" "value" "[B" (.ref b)) (R7 : Fld Z h0 a2 "java/lang/String" "coder" "B" (.int (0 : Int32))) (R8 : OA Z h0 b .byte (([] : List Int32).map obv)) (R9 : Sta Z h0 "java/lang/String" "COMPACT_STRINGS" "Z" (.int w)) (g_a1 : n0 ≤ a1) (g_vb : n0 ≤ vb) (ne_a2_vb : a2 ≠ vb) (ne_b_vb : b ≠ vb) (ne_a1_vb : a1 ≠ vb) (ne_a1_a2 : a1 ≠ a2) (ne_a1_b : a1 ≠ b) (hw0 : ¬ w = (0 : Int32)) :
    OMet l Z (⟨"java/lang/AbstractStringBuilder", "append", "(Ljava/lang/String;)Ljava/lang/AbstractStringBuilder;"⟩ : MethodName) jdk_68_method_22_code 3 (some (.object "java/lang/AbstractStringBuilder")) ws ({ frames := 3, cells := 0, slots := 0, locals := 47 } : Room) #[(.ref a1), (.ref a2)] h0 (Q11_3_0 Z a1 a2 vb b u0 u1 u2 w h0 n0) := by
  refine own_enter pn_11 ?_
  intro p e s m below meth c s₁ hx hby hml0 hown hret hlk hnm hZ X0 e0
  have hml : c.maxLocals = 3 := hml0
  have B : BX p c jdk_68_method_22_code := ⟨hx, hby⟩
  have N0 := Fr.nil n0
  refine own_cast (ef_11 m a1 a2) ?_
  refine waloadN OGc 1 X0 B d11_0 rfl rfl rfl ?_
  refine wifnonnullYes OGc 9 X0 B d11_1 rfl ?_
  refine waloadN OGc 10 X0 B d11_9 rfl rfl rfl ?_
  refine wvirt OGc 13 X0 B hZ hown (ow hw 77 rfl) (ow hw 78 rfl) (ow hw 80 rfl) (ow hw 79 rfl) R5 (ow hw 81 rfl) (ow hw 6 rfl) e0 (rm12 l Z a0 hw [] a2 b ([] : List Int32) w h0 R5 R6 R7 R8 R9 hw0) 0 (by decide) (by decide) hml rfl (lenOf pd___I rfl) [] rfl rfl d11_10 rfl fun _ T1 L1 X1 hQ1 => ?_
  obtain ⟨rfl, rfl, e1⟩ := hQ1
  have N1 := Fr.app N0 (Fr.nil n0)
  refine own_stk (S' := [(.int (0 : Int32))]) rfl ?_
  refine wistoreN OGc 14 X1 B d11_13 #[.val (.ref a1), .val (.ref a2), .val (.int (0 : Int32))] rfl rfl ?_
  refine waloadN OGc 15 X1 B d11_14 rfl rfl rfl ?_
  refine waloadN OGc 16 X1 B d11_15 rfl rfl rfl ?_
  refine wgetF OGc 19 X1 B hZ hown (ow hw 88 rfl) e1 R3 d11_16 rfl fun T2 X2 e2 => ?_
  refine wiloadN OGc 20 X2 B d11_19 rfl rfl ?_
  refine wiadd OGc 21 X2 B d11_20 rfl ?_
  show OG p e _ s below _ T2 (mkF m 21 #[.val (.ref a1), .val (.ref a2), .val (.int (0 : Int32))] [(.int (3 : Int32)), (.ref a1)])
  refine wpriv OGc 24 X2 B hZ hown (ow hw 90 rfl) (ow hw 91 rfl) (own_selp2 hZ (ow hw 93 rfl) (ow hw 92 rfl) (ow hw 91 rfl) (by decide)) (ow hw 92 rfl) R0 (ow hw 94 rfl) (ow hw 59 rfl) e2 (rm14_3 l Z a0 hw [] a1 vb (nar .byte u0) (nar .byte u1) (nar .byte u2) (0 : Int32) (0 : Int32) (0 : Int32) (0 : Int32) (0 : Int32) (0 : Int32) (0 : Int32) (0 : Int32) (0 : Int32) (0 : Int32) (0 : Int32) (0 : Int32) (0 : Int32) h0 n0 R1 R2 R4) 0 (by decide) (by decide) hml rfl (lenOf pd__I_V rfl) [] rfl rfl d11_21 rfl fun _ T3 L3 X3 hQ3 => ?_
  obtain ⟨rfl, N3q, K3q⟩ := hQ3
  have N3 := Fr.app N1 N3q
  have K3 := (Keep.refl h0 [a1, vb]).trans K3q (own_all0 )
  have F4 := R0.keep K3q
  have F5 := R1.keep K3q (own_nin0 )
  have F6 := R2.keep K3q (own_nin0 )
  have F7 := R3.keep K3q (own_nin0 )
  have F8 := R4.keep K3q (own_nin0 )
  have F9 := R5.keep K3q
  have F10 := R6.keep K3q (own_nin0 )
  have F11 := R7.keep K3q (own_nin0 )
  have F12 := R8.keep K3q (own_nin0 )
  have F13 := own_staK R9 K3q (own_all0 )
  refine own_stk (S' := []) rfl ?_
  refine waloadN OGc 25 X3 B d11_24 rfl rfl rfl ?_
  refine waloadN OGc 26 X3 B d11_25 rfl rfl rfl ?_
  refine wgetF OGc 29 X3 B hZ hown (ow hw 88 rfl) rfl F7 d11_26 rfl fun T14 X14 e14 => ?_
  refine waloadN OGc 30 X14 B d11_29 rfl rfl rfl ?_
  refine wpriv OGc 33 X14 B hZ hown (ow hw 95 rfl) (ow hw 96 rfl) (own_selp2 hZ (ow hw 98 rfl) (ow hw 97 rfl) (ow hw 96 rfl) (by decide)) (ow hw 97 rfl) F4 (ow hw 99 rfl) (ow hw 59 rfl) e14 (rm15_3_0 l Z a0 hw [] a1 a2 vb b u0 u1 u2 w T3.heap n0 F4 F5 F6 F8 F9 F10 F11 F12 F13 g_vb ne_a2_vb ne_b_vb ne_a1_vb hw0) 0 (by decide) (by decide) hml rfl (lenOf pd__ILjava_lang_String__V rfl) [] rfl rfl d11_30 rfl fun _ T15 L15 X15 hQ15 => ?_
  obtain ⟨rfl, N15q, K15q, P15_0⟩ := hQ15
  have N15 := Fr.app N3 N15q
  have K15 := K3.trans K15q (own_all1 (Or.inl (List.mem_of_getElem? (i := 1) rfl)))
  have F16 := F4.keep K15q
  have F17 := F5.keep K15q (own_nin1 ne_a1_vb)
  have F18 := F6.keep K15q (own_nin1 ne_a1_vb)
  have F19 := F7.keep K15q (own_nin1 ne_a1_vb)
  have F20 := F9.keep K15q
  have F21 := F10.keep K15q (own_nin1 ne_a2_vb)
  have F22 := F11.keep K15q (own_nin1 ne_a2_vb)
  have F23 := F12.keep K15q (own_nin1 ne_b_vb)
  have F24 := own_staK F13 K15q (own_all1 (own_plA F8))
  refine own_stk (S' := []) rfl ?_
  refine waloadN OGc 34 X15 B d11_33 rfl rfl rfl ?_
  refine wdup OGc 35 X15 B d11_34 rfl rfl ?_
  refine wgetF OGc 38 X15 B hZ hown (ow hw 88 rfl) rfl F19 d11_35 rfl fun T25 X25 e25 => ?_
  refine wiloadN OGc 39 X25 B d11_38 rfl rfl ?_
  refine wiadd OGc 40 X25 B d11_39 rfl ?_
  show OG p e _ s below _ T25 (mkF m 40 #[.val (.ref a1), .val (.ref a2), .val (.int (0 : Int32))] [(.int (3 : Int32)), (.ref a1)])
  refine wputF OGc 43 X25 B hZ hown (ow hw 88 rfl) e25 F19 F16 (Or.inl (ow hw 89 rfl)) (ow hw 50 rfl) (ty := .int) (by decide) rfl rfl d11_40 rfl fun T26 h26 X26 e26 W26 => ?_
  have N26 := Fr.snoc X26 N15 g_a1
  have K27 := K15.wr W26 (Or.inl (List.mem_of_getElem? (i := 0) rfl))
  have F28 := F16.wr W26
  have F29 := F17.other W26 (Or.inr (slot_ne (Or.inl (ow hw 64 rfl)) (Or.inl (ow hw 89 rfl)) (by decide) (t := (.array .byte)) (t' := .int) (by decide) (by decide)))
  have F30 := F18.other W26 (Or.inr (slot_ne (Or.inl (ow hw 66 rfl)) (Or.inl (ow hw 89 rfl)) (by decide) (t := .byte) (t' := .int) (by decide) (by decide)))
  have F31 : Fld Z h26 a1 "java/lang/AbstractStringBuilder" "count" "I" (.int (3 : Int32)) := (F19.same W26)
  have F32 := F20.wr W26
  have F33 := F21.other W26 (Or.inl (Ne.symm ne_a1_a2))
  have F34 := F22.other W26 (Or.inl (Ne.symm ne_a1_a2))
  have F35 := F23.other W26 (Ne.symm ne_a1_b)
  have F36 := F24.wr W26
  have F37 := P15_0.other W26 (Ne.symm ne_a1_vb)
  refine waloadN OGc 44 X26 B d11_43 rfl rfl rfl ?_
  refine own_retV X26 hx hret rfl (Or.inr (Or.inr (Or.inr (Or.inr ⟨rfl, rfl, rfl⟩)))) hlk (hb hby d11_44) (by decide) (by decide) ?_
  rw [e26]
  exact ⟨rfl, N26, K27, F28, F29, F30, F31, F37⟩
theorem ef_17_3_1 (m : MethodId) (a1 : Addr) (a2 : Addr) : entryFrame m #[(.ref a1), (.ref a2), (.int (3 : Int32)), (.int (0 : Int32))] 4 = (mkF m 0 #[.val (.ref a1), .val (.ref a2), .val (.int (3 : Int32)), .val (.int (0 : Int32))] []) := by first | (simp [entryFrame, mkF, argsToLocals, Value.category]; done) | rfl
abbrev Q17_3_1 (Z : State) (a1 : Addr) (a2 : Addr) (b : Addr) (u0 : Int32) (u1 : Int32) (u2 : Int32) (x0 : Int32) (w : Int32) (h0 : Heap) (n0 : Nat) : Option Value → Heap → List Loc → Prop := (fun v h L => v = none ∧ Fr n0 L ∧ Keep h0 h [a2] ∧ OA Z h a2 .byte (obuf [u0, u1, u2, x0]))
theorem rm17_3_1 (l : Launch) (Z : State) (a0 : Array Value) (hw : ∀ d ∈ tables_1, d.before a0 Z = true) (ws : List Jvm.Cond) (a1 : Addr) (a2 : Addr) (b : Addr) (u0 : Int32) (u1 : Int32) (u2 : Int32) (x0 : Int32) (w : Int32) (h0 : Heap) (n0 : Nat) (R0 : Exa Z h0 a1 "java/lang/String") (R1 : Fld Z h0 a1 "java/lang/String" "value" "[B" (.ref b)) (R2 : Fld Z h0 a1 "java/lang/String" "coder" "B" (.int (0 : Int32))) (R3 : OA Z h0 b .byte (([x0] : List Int32).map obv)) (R4 : OA Z h0 a2 .byte (obuf [u0, u1, u2])) (R5 : Sta Z h0 "java/lang/String" "COMPACT_STRINGS" "Z" (.int w)) (g_a2 : n0 ≤ a2) (ne_a1_a2 : a1 ≠ a2) (ne_b_a2 : b ≠ a2) (hw0 : ¬ w = (0 : Int32)) :
    OMet l Z (⟨"java/lang/String", "getBytes", "([BIB)V"⟩ : MethodName) jdk_42_method_147_code 4 none ws ({ frames := 1, cells := 0, slots := 0, locals := 18 } : Room) #[(.ref a1), (.ref a2), (.int (3 : Int32)), (.int (0 : Int32))] h0 (Q17_3_1 Z a1 a2 b u0 u1 u2 x0 w h0 n0) := by
  refine own_enter pn_17 ?_
  intro p e s m below meth c s₁ hx hby hml0 hown hret hlk hnm hZ X0 e0
  have hml : c.maxLocals = 4 := hml0
  have B : BX p c jdk_42_method_147_code := ⟨hx, hby⟩
  have N0 := Fr.nil n0
  refine own_cast (ef_17_3_1 m a1 a2) ?_
  refine waloadN OGc 1 X0 B d17_0 rfl rfl rfl ?_
  refine wvirt OGc 4 X0 B hZ hown (ow hw 82 rfl) (ow hw 83 rfl) (ow hw 85 rfl) (ow hw 84 rfl) R0 (ow hw 86 rfl) (ow hw 6 rfl) e0 (rm13 l Z a0 hw [] a1 w h0 R2 R5 hw0) 0 (by decide) (by decide) hml rfl (lenOf pd___B rfl) [] rfl rfl d17_1 rfl fun _ T1 L1 X1 hQ1 => ?_
  obtain ⟨rfl, rfl, e1⟩ := hQ1
  have N1 := Fr.app N0 (Fr.nil n0)
  refine own_stk (S' := [(.int (0 : Int32))]) rfl ?_
  refine wiloadN OGc 5 X1 B d17_4 rfl rfl ?_
  refine wicmpNo OGc 8 X1 B d17_5 (by decide) rfl ?_
  refine waloadN OGc 9 X1 B d17_8 rfl rfl rfl ?_
  refine wgetF OGc 12 X1 B hZ hown (ow hw 24 rfl) e1 R1 d17_9 rfl fun T2 X2 e2 => ?_
  refine wiconst OGc 13 X2 B d17_12 0 rfl rfl ?_
  refine waloadN OGc 14 X2 B d17_13 rfl rfl rfl ?_
  refine wiloadN OGc 15 X2 B d17_14 rfl rfl ?_
  refine wiloadN OGc 16 X2 B d17_15 rfl rfl ?_
  refine own_st (fun t k => XS.ishl X2.here hx rfl (hb hby d17_16) rfl k) ?_
  show OG p e _ s below _ T2 (mkF m 17 #[.val (.ref a1), .val (.ref a2), .val (.int (3 : Int32)), .val (.int (0 : Int32))] [(.int (3 : Int32)), (.ref a2), (.int (0 : Int32)), (.ref b)])
  refine waloadN OGc 18 X2 B d17_17 rfl rfl rfl ?_
  refine wgetF OGc 21 X2 B hZ hown (ow hw 24 rfl) e2 R1 d17_18 rfl fun T3 X3 e3 => ?_
  refine warlenA OGc 22 X3 B hZ e3 R3 (1 : Int32) rfl d17_21 rfl ?_
  refine wcp OGc 25 X3 B hZ hown (ow hw 111 rfl) (ow hw 114 rfl) (ow hw 112 rfl) (ow hw 113 rfl) e3 R3 R4 (own_bytB [x0] 0) (own_bytB [u0, u1, u2] 13) 1 16 0 3 1 rfl rfl (z := (1 : Int32)) (z' := (16 : Int32)) (by decide) (([x0] : List Int32).map obv) rfl (obuf [u0, u1, u2, x0]) rfl rfl N1 g_a2 hml rfl d17_22 (W := 0) rfl (by decide) rfl fun T5 h5 L5 X5 e5 N5 K5q A5 => ?_
  have K5 : Keep h0 h5 [a2] := (Keep.refl h0 [a2]).trans K5q (own_all1 (Or.inl (List.mem_of_getElem? (i := 0) rfl)))
  have F6 := R0.keep K5q
  have F7 := R1.keep K5q (own_nin1 ne_a1_a2)
  have F8 := R2.keep K5q (own_nin1 ne_a1_a2)
  have F9 := R3.keep K5q (own_nin1 ne_b_a2)
  have F10 : OA Z h5 a2 .byte (obuf [u0, u1, u2, x0]) := A5
  have F11 := own_staK R5 K5q (own_all1 (own_plA R4))
  refine wgoto OGc 43 X5 B d17_25 rfl ?_
  refine own_ret0 X5 hx hret hlk (hb hby d17_43) (by decide) (by decide) ?_
  rw [e5]
  exact ⟨rfl, N5, K5, F10⟩
theorem ef_15_3_1 (m : MethodId) (a1 : Addr) (a3 : Addr) : entryFrame m #[(.ref a1), (.int (3 : Int32)), (.ref a3)] 3 = (mkF m 0 #[.val (.ref a1), .val (.int (3 : Int32)), .val (.ref a3)] []) := by first | (simp [entryFrame, mkF, argsToLocals, Value.category]; done) | rfl
abbrev Q15_3_1 (Z : State) (a1 : Addr) (a3 : Addr) (vb : Addr) (b : Addr) (u0 : Int32) (u1 : Int32) (u2 : Int32) (x0 : Int32) (w : Int32) (h0 : Heap) (n0 : Nat) : Option Value → Heap → List Loc → Prop := (fun v h L => v = none ∧ Fr n0 L ∧ Keep h0 h [vb] ∧ OA Z h vb .byte (obuf [u0, u1, u2, x0]))
theorem rm15_3_1 (l : Launch) (Z : State) (a0 : Array Value) (hw : ∀ d ∈ tables_1, d.before a0 Z = true) (ws : List Jvm.Cond) (a1 : Addr) (a3 : Addr) (vb : Addr) (b : Addr) (u0 : Int32) (u1 : Int32) (u2 : Int32) (x0 : Int32) (w : Int32) (h0 : Heap) (n0 : Nat) (R0 : Exa Z h0 a1 "java/lang/StringBuilder") (R1 : Fld Z h0 a1 "java/lang/AbstractStringBuilder" "value" "[B" (.ref vb)) (R2 : Fld Z h0 a1 "java/lang/AbstractStringBuilder" "coder" "B" (.int (0 : Int32))) (R3 : OA Z h0 vb .byte (obuf [u0, u1, u2])) (R4 : Exa Z h0 a3 "java/lang/String") (R5 : Fld Z h0 a3 "java/lang/String" "value" "[B" (.ref b)) (R6 : Fld Z h0 a3 "java/lang/String" "coder" "B" (.int (0 : Int32))) (R7 : OA Z h0 b .byte (([x0] : List Int32).map obv)) (R8 : Sta Z h0 "java/lang/String" "COMPACT_STRINGS" "Z" (.int w)) (g_vb : n0 ≤ vb) (ne_a3_vb : a3 ≠ vb) (ne_b_vb : b ≠ vb) (ne_a1_vb : a1 ≠ vb) (hw0 : ¬ w = (0 : Int32)) :
    OMet l Z (⟨"java/lang/AbstractStringBuilder", "putStringAt", "(ILjava/lang/String;)V"⟩ : MethodName) jdk_68_method_73_code 3 none ws ({ frames := 2, cells := 0, slots := 0, locals := 33 } : Room) #[(.ref a1), (.int (3 : Int32)), (.ref a3)] h0 (Q15_3_1 Z a1 a3 vb b u0 u1 u2 x0 w h0 n0) := by
  refine own_enter pn_15 ?_
  intro p e s m below meth c s₁ hx hby hml0 hown hret hlk hnm hZ X0 e0
  have hml : c.maxLocals = 3 := hml0
  have B : BX p c jdk_68_method_73_code := ⟨hx, hby⟩
  have N0 := Fr.nil n0
  refine own_cast (ef_15_3_1 m a1 a3) ?_
  refine waloadN OGc 1 X0 B d15_0 rfl rfl rfl ?_
  refine waloadN OGc 2 X0 B d15_1 rfl rfl rfl ?_
  refine wpriv OGc 5 X0 B hZ hown (ow hw 100 rfl) (ow hw 101 rfl) (own_selp2 hZ (ow hw 103 rfl) (ow hw 102 rfl) (ow hw 101 rfl) (by decide)) (ow hw 102 rfl) R0 (ow hw 104 rfl) (ow hw 59 rfl) e0 (rm16 l Z a0 hw [] a1 a3 w h0 n0 R2 R4 R6 R8 hw0) 0 (by decide) (by decide) hml rfl (lenOf pd__Ljava_lang_String__V rfl) [] rfl rfl d15_2 rfl fun _ T1 L1 X1 hQ1 => ?_
  obtain ⟨rfl, N1q, K1q⟩ := hQ1
  have N1 := Fr.app N0 N1q
  have K1 := (Keep.refl h0 [vb]).trans K1q (own_all0 )
  have F2 := R0.keep K1q
  have F3 := R1.keep K1q (own_nin0 )
  have F4 := R2.keep K1q (own_nin0 )
  have F5 := R3.keep K1q (own_nin0 )
  have F6 := R4.keep K1q
  have F7 := R5.keep K1q (own_nin0 )
  have F8 := R6.keep K1q (own_nin0 )
  have F9 := R7.keep K1q (own_nin0 )
  have F10 := own_staK R8 K1q (own_all0 )
  refine own_stk (S' := []) rfl ?_
  refine waloadN OGc 6 X1 B d15_5 rfl rfl rfl ?_
  refine waloadN OGc 7 X1 B d15_6 rfl rfl rfl ?_
  refine wgetF OGc 10 X1 B hZ hown (ow hw 63 rfl) rfl F3 d15_7 rfl fun T11 X11 e11 => ?_
  refine wiloadN OGc 11 X11 B d15_10 rfl rfl ?_
  refine waloadN OGc 12 X11 B d15_11 rfl rfl rfl ?_
  refine wgetF OGc 15 X11 B hZ hown (ow hw 65 rfl) e11 F4 d15_12 rfl fun T12 X12 e12 => ?_
  refine wvirt OGc 18 X12 B hZ hown (ow hw 106 rfl) (ow hw 107 rfl) (ow hw 109 rfl) (ow hw 108 rfl) F6 (ow hw 110 rfl) (ow hw 6 rfl) e12 (rm17_3_1 l Z a0 hw [] a3 vb b u0 u1 u2 x0 w T1.heap n0 F6 F7 F8 F9 F5 F10 g_vb ne_a3_vb ne_b_vb hw0) 0 (by decide) (by decide) hml rfl (lenOf pd___BIB_V rfl) [] rfl rfl d15_15 rfl fun _ T13 L13 X13 hQ13 => ?_
  obtain ⟨rfl, N13q, K13q, P13_0⟩ := hQ13
  have N13 := Fr.app N1 N13q
  have K13 := K1.trans K13q (own_all1 (Or.inl (List.mem_of_getElem? (i := 0) rfl)))
  have F14 := F2.keep K13q
  have F15 := F3.keep K13q (own_nin1 ne_a1_vb)
  have F16 := F4.keep K13q (own_nin1 ne_a1_vb)
  have F17 := F6.keep K13q
  have F18 := F7.keep K13q (own_nin1 ne_a3_vb)
  have F19 := F8.keep K13q (own_nin1 ne_a3_vb)
  have F20 := F9.keep K13q (own_nin1 ne_b_vb)
  have F21 := own_staK F10 K13q (own_all1 (own_plA F5))
  refine own_stk (S' := []) rfl ?_
  refine own_ret0 X13 hx hret hlk (hb hby d15_18) (by decide) (by decide) ?_
  exact ⟨rfl, N13, K13, P13_0⟩
abbrev Q11_3_1 (Z : State) (a1 : Addr) (a2 : Addr) (vb : Addr) (b : Addr) (u0 : Int32) (u1 : Int32) (u2 : Int32) (x0 : Int32) (w : Int32) (h0 : Heap) (n0 : Nat) : Option Value → Heap → List Loc → Prop := (fun v h L => v = some (.ref a1) ∧ Fr n0 L ∧ Keep h0 h [a1, vb] ∧ Exa Z h a1 "java/lang/StringBuilder" ∧ Fld Z h a1 "java/lang/AbstractStringBuilder" "value" "[B" (.ref vb) ∧ Fld Z h a1 "java/lang/AbstractStringBuilder" "coder" "B" (.int (0 : Int32)) ∧ Fld Z h a1 "java/lang/AbstractStringBuilder" "count" "I" (.int (4 : Int32)) ∧ OA Z h vb .byte (obuf [u0, u1, u2, x0]))
theorem rm11_3_1 (l : Launch) (Z : State) (a0 : Array Value) (hw : ∀ d ∈ tables_1, d.before a0 Z = true) (ws : List Jvm.Cond) (a1 : Addr) (a2 : Addr) (vb : Addr) (b : Addr) (u0 : Int32) (u1 : Int32) (u2 : Int32) (x0 : Int32) (w : Int32) (h0 : Heap) (n0 : Nat) (R0 : Exa Z h0 a1 "java/lang/StringBuilder") (R1 : Fld Z h0 a1 "java/lang/AbstractStringBuilder" "value" "[B" (.ref vb)) (R2 : Fld Z h0 a1 "java/lang/AbstractStringBuilder" "coder" "B" (.int (0 : Int32))) (R3 : Fld Z h0 a1 "java/lang/AbstractStringBuilder" "count" "I" (.int (3 : Int32))) (R4 : OA Z h0 vb .byte (obuf [u0, u1, u2])) (R5 : Exa Z h0 a2 "java/lang/String") (R6 : Fld Z h0 a2 "java/lang/String" "value" "[B" (.ref b)) (R7 : Fld Z h0 a2 "java/lang/String" "coder" "B" (.int (0 : Int32))) (R8 : OA Z h0 b .byte (([x0] : List Int32).map obv)) (R9 : Sta Z h0 "java/lang/String" "COMPACT_STRINGS" "Z" (.int w)) (g_a1 : n0 ≤ a1) (g_vb : n0 ≤ vb) (ne_a2_vb : a2 ≠ vb) (ne_b_vb : b ≠ vb) (ne_a1_vb : a1 ≠ vb) (ne_a1_a2 : a1 ≠ a2) (ne_a1_b : a1 ≠ b) (hw0 : ¬ w = (0 : Int32)) :
    OMet l Z (⟨"java/lang/AbstractStringBuilder", "append", "(Ljava/lang/String;)Ljava/lang/AbstractStringBuilder;"⟩ : MethodName) jdk_68_method_22_code 3 (some (.object "java/lang/AbstractStringBuilder")) ws ({ frames := 3, cells := 0, slots := 0, locals := 47 } : Room) #[(.ref a1), (.ref a2)] h0 (Q11_3_1 Z a1 a2 vb b u0 u1 u2 x0 w h0 n0) := by
  refine own_enter pn_11 ?_
  intro p e s m below meth c s₁ hx hby hml0 hown hret hlk hnm hZ X0 e0
  have hml : c.maxLocals = 3 := hml0
  have B : BX p c jdk_68_method_22_code := ⟨hx, hby⟩
  have N0 := Fr.nil n0
  refine own_cast (ef_11 m a1 a2) ?_
  refine waloadN OGc 1 X0 B d11_0 rfl rfl rfl ?_
  refine wifnonnullYes OGc 9 X0 B d11_1 rfl ?_
  refine waloadN OGc 10 X0 B d11_9 rfl rfl rfl ?_
  refine wvirt OGc 13 X0 B hZ hown (ow hw 77 rfl) (ow hw 78 rfl) (ow hw 80 rfl) (ow hw 79 rfl) R5 (ow hw 81 rfl) (ow hw 6 rfl) e0 (rm12 l Z a0 hw [] a2 b ([x0] : List Int32) w h0 R5 R6 R7 R8 R9 hw0) 0 (by decide) (by decide) hml rfl (lenOf pd___I rfl) [] rfl rfl d11_10 rfl fun _ T1 L1 X1 hQ1 => ?_
  obtain ⟨rfl, rfl, e1⟩ := hQ1
  have N1 := Fr.app N0 (Fr.nil n0)
  refine own_stk (S' := [(.int (1 : Int32))]) rfl ?_
  refine wistoreN OGc 14 X1 B d11_13 #[.val (.ref a1), .val (.ref a2), .val (.int (1 : Int32))] rfl rfl ?_
  refine waloadN OGc 15 X1 B d11_14 rfl rfl rfl ?_
  refine waloadN OGc 16 X1 B d11_15 rfl rfl rfl ?_
  refine wgetF OGc 19 X1 B hZ hown (ow hw 88 rfl) e1 R3 d11_16 rfl fun T2 X2 e2 => ?_
  refine wiloadN OGc 20 X2 B d11_19 rfl rfl ?_
  refine wiadd OGc 21 X2 B d11_20 rfl ?_
  show OG p e _ s below _ T2 (mkF m 21 #[.val (.ref a1), .val (.ref a2), .val (.int (1 : Int32))] [(.int (4 : Int32)), (.ref a1)])
  refine wpriv OGc 24 X2 B hZ hown (ow hw 90 rfl) (ow hw 91 rfl) (own_selp2 hZ (ow hw 93 rfl) (ow hw 92 rfl) (ow hw 91 rfl) (by decide)) (ow hw 92 rfl) R0 (ow hw 94 rfl) (ow hw 59 rfl) e2 (rm14_4 l Z a0 hw [] a1 vb (nar .byte u0) (nar .byte u1) (nar .byte u2) (0 : Int32) (0 : Int32) (0 : Int32) (0 : Int32) (0 : Int32) (0 : Int32) (0 : Int32) (0 : Int32) (0 : Int32) (0 : Int32) (0 : Int32) (0 : Int32) (0 : Int32) h0 n0 R1 R2 R4) 0 (by decide) (by decide) hml rfl (lenOf pd__I_V rfl) [] rfl rfl d11_21 rfl fun _ T3 L3 X3 hQ3 => ?_
  obtain ⟨rfl, N3q, K3q⟩ := hQ3
  have N3 := Fr.app N1 N3q
  have K3 := (Keep.refl h0 [a1, vb]).trans K3q (own_all0 )
  have F4 := R0.keep K3q
  have F5 := R1.keep K3q (own_nin0 )
  have F6 := R2.keep K3q (own_nin0 )
  have F7 := R3.keep K3q (own_nin0 )
  have F8 := R4.keep K3q (own_nin0 )
  have F9 := R5.keep K3q
  have F10 := R6.keep K3q (own_nin0 )
  have F11 := R7.keep K3q (own_nin0 )
  have F12 := R8.keep K3q (own_nin0 )
  have F13 := own_staK R9 K3q (own_all0 )
  refine own_stk (S' := []) rfl ?_
  refine waloadN OGc 25 X3 B d11_24 rfl rfl rfl ?_
  refine waloadN OGc 26 X3 B d11_25 rfl rfl rfl ?_
  refine wgetF OGc 29 X3 B hZ hown (ow hw 88 rfl) rfl F7 d11_26 rfl fun T14 X14 e14 => ?_
  refine waloadN OGc 30 X14 B d11_29 rfl rfl rfl ?_
  refine wpriv OGc 33 X14 B hZ hown (ow hw 95 rfl) (ow hw 96 rfl) (own_selp2 hZ (ow hw 98 rfl) (ow hw 97 rfl) (ow hw 96 rfl) (by decide)) (ow hw 97 rfl) F4 (ow hw 99 rfl) (ow hw 59 rfl) e14 (rm15_3_1 l Z a0 hw [] a1 a2 vb b u0 u1 u2 x0 w T3.heap n0 F4 F5 F6 F8 F9 F10 F11 F12 F13 g_vb ne_a2_vb ne_b_vb ne_a1_vb hw0) 0 (by decide) (by decide) hml rfl (lenOf pd__ILjava_lang_String__V rfl) [] rfl rfl d11_30 rfl fun _ T15 L15 X15 hQ15 => ?_
  obtain ⟨rfl, N15q, K15q, P15_0⟩ := hQ15
  have N15 := Fr.app N3 N15q
  have K15 := K3.trans K15q (own_all1 (Or.inl (List.mem_of_getElem? (i := 1) rfl)))
  have F16 := F4.keep K15q
  have F17 := F5.keep K15q (own_nin1 ne_a1_vb)
  have F18 := F6.keep K15q (own_nin1 ne_a1_vb)
  have F19 := F7.keep K15q (own_nin1 ne_a1_vb)
  have F20 := F9.keep K15q
  have F21 := F10.keep K15q (own_nin1 ne_a2_vb)
  have F22 := F11.keep K15q (own_nin1 ne_a2_vb)
  have F23 := F12.keep K15q (own_nin1 ne_b_vb)
  have F24 := own_staK F13 K15q (own_all1 (own_plA F8))
  refine own_stk (S' := []) rfl ?_
  refine waloadN OGc 34 X15 B d11_33 rfl rfl rfl ?_
  refine wdup OGc 35 X15 B d11_34 rfl rfl ?_
  refine wgetF OGc 38 X15 B hZ hown (ow hw 88 rfl) rfl F19 d11_35 rfl fun T25 X25 e25 => ?_
  refine wiloadN OGc 39 X25 B d11_38 rfl rfl ?_
  refine wiadd OGc 40 X25 B d11_39 rfl ?_
  show OG p e _ s below _ T25 (mkF m 40 #[.val (.ref a1), .val (.ref a2), .val (.int (1 : Int32))] [(.int (4 : Int32)), (.ref a1)])
  refine wputF OGc 43 X25 B hZ hown (ow hw 88 rfl) e25 F19 F16 (Or.inl (ow hw 89 rfl)) (ow hw 50 rfl) (ty := .int) (by decide) rfl rfl d11_40 rfl fun T26 h26 X26 e26 W26 => ?_
  have N26 := Fr.snoc X26 N15 g_a1
  have K27 := K15.wr W26 (Or.inl (List.mem_of_getElem? (i := 0) rfl))
  have F28 := F16.wr W26
  have F29 := F17.other W26 (Or.inr (slot_ne (Or.inl (ow hw 64 rfl)) (Or.inl (ow hw 89 rfl)) (by decide) (t := (.array .byte)) (t' := .int) (by decide) (by decide)))
  have F30 := F18.other W26 (Or.inr (slot_ne (Or.inl (ow hw 66 rfl)) (Or.inl (ow hw 89 rfl)) (by decide) (t := .byte) (t' := .int) (by decide) (by decide)))
  have F31 : Fld Z h26 a1 "java/lang/AbstractStringBuilder" "count" "I" (.int (4 : Int32)) := (F19.same W26)
  have F32 := F20.wr W26
  have F33 := F21.other W26 (Or.inl (Ne.symm ne_a1_a2))
  have F34 := F22.other W26 (Or.inl (Ne.symm ne_a1_a2))
  have F35 := F23.other W26 (Ne.symm ne_a1_b)
  have F36 := F24.wr W26
  have F37 := P15_0.other W26 (Ne.symm ne_a1_vb)
  refine waloadN OGc 44 X26 B d11_43 rfl rfl rfl ?_
  refine own_retV X26 hx hret rfl (Or.inr (Or.inr (Or.inr (Or.inr ⟨rfl, rfl, rfl⟩)))) hlk (hb hby d11_44) (by decide) (by decide) ?_
  rw [e26]
  exact ⟨rfl, N26, K27, F28, F29, F30, F31, F37⟩
theorem ef_17_3_2 (m : MethodId) (a1 : Addr) (a2 : Addr) : entryFrame m #[(.ref a1), (.ref a2), (.int (3 : Int32)), (.int (0 : Int32))] 4 = (mkF m 0 #[.val (.ref a1), .val (.ref a2), .val (.int (3 : Int32)), .val (.int (0 : Int32))] []) := by first | (simp [entryFrame, mkF, argsToLocals, Value.category]; done) | rfl
abbrev Q17_3_2 (Z : State) (a1 : Addr) (a2 : Addr) (b : Addr) (u0 : Int32) (u1 : Int32) (u2 : Int32) (x0 : Int32) (x1 : Int32) (w : Int32) (h0 : Heap) (n0 : Nat) : Option Value → Heap → List Loc → Prop := (fun v h L => v = none ∧ Fr n0 L ∧ Keep h0 h [a2] ∧ OA Z h a2 .byte (obuf [u0, u1, u2, x0, x1]))
theorem rm17_3_2 (l : Launch) (Z : State) (a0 : Array Value) (hw : ∀ d ∈ tables_1, d.before a0 Z = true) (ws : List Jvm.Cond) (a1 : Addr) (a2 : Addr) (b : Addr) (u0 : Int32) (u1 : Int32) (u2 : Int32) (x0 : Int32) (x1 : Int32) (w : Int32) (h0 : Heap) (n0 : Nat) (R0 : Exa Z h0 a1 "java/lang/String") (R1 : Fld Z h0 a1 "java/lang/String" "value" "[B" (.ref b)) (R2 : Fld Z h0 a1 "java/lang/String" "coder" "B" (.int (0 : Int32))) (R3 : OA Z h0 b .byte (([x0, x1] : List Int32).map obv)) (R4 : OA Z h0 a2 .byte (obuf [u0, u1, u2])) (R5 : Sta Z h0 "java/lang/String" "COMPACT_STRINGS" "Z" (.int w)) (g_a2 : n0 ≤ a2) (ne_a1_a2 : a1 ≠ a2) (ne_b_a2 : b ≠ a2) (hw0 : ¬ w = (0 : Int32)) :
    OMet l Z (⟨"java/lang/String", "getBytes", "([BIB)V"⟩ : MethodName) jdk_42_method_147_code 4 none ws ({ frames := 1, cells := 0, slots := 0, locals := 18 } : Room) #[(.ref a1), (.ref a2), (.int (3 : Int32)), (.int (0 : Int32))] h0 (Q17_3_2 Z a1 a2 b u0 u1 u2 x0 x1 w h0 n0) := by
  refine own_enter pn_17 ?_
  intro p e s m below meth c s₁ hx hby hml0 hown hret hlk hnm hZ X0 e0
  have hml : c.maxLocals = 4 := hml0
  have B : BX p c jdk_42_method_147_code := ⟨hx, hby⟩
  have N0 := Fr.nil n0
  refine own_cast (ef_17_3_2 m a1 a2) ?_
  refine waloadN OGc 1 X0 B d17_0 rfl rfl rfl ?_
  refine wvirt OGc 4 X0 B hZ hown (ow hw 82 rfl) (ow hw 83 rfl) (ow hw 85 rfl) (ow hw 84 rfl) R0 (ow hw 86 rfl) (ow hw 6 rfl) e0 (rm13 l Z a0 hw [] a1 w h0 R2 R5 hw0) 0 (by decide) (by decide) hml rfl (lenOf pd___B rfl) [] rfl rfl d17_1 rfl fun _ T1 L1 X1 hQ1 => ?_
  obtain ⟨rfl, rfl, e1⟩ := hQ1
  have N1 := Fr.app N0 (Fr.nil n0)
  refine own_stk (S' := [(.int (0 : Int32))]) rfl ?_
  refine wiloadN OGc 5 X1 B d17_4 rfl rfl ?_
  refine wicmpNo OGc 8 X1 B d17_5 (by decide) rfl ?_
  refine waloadN OGc 9 X1 B d17_8 rfl rfl rfl ?_
  refine wgetF OGc 12 X1 B hZ hown (ow hw 24 rfl) e1 R1 d17_9 rfl fun T2 X2 e2 => ?_
  refine wiconst OGc 13 X2 B d17_12 0 rfl rfl ?_
  refine waloadN OGc 14 X2 B d17_13 rfl rfl rfl ?_
  refine wiloadN OGc 15 X2 B d17_14 rfl rfl ?_
  refine wiloadN OGc 16 X2 B d17_15 rfl rfl ?_
  refine own_st (fun t k => XS.ishl X2.here hx rfl (hb hby d17_16) rfl k) ?_
  show OG p e _ s below _ T2 (mkF m 17 #[.val (.ref a1), .val (.ref a2), .val (.int (3 : Int32)), .val (.int (0 : Int32))] [(.int (3 : Int32)), (.ref a2), (.int (0 : Int32)), (.ref b)])
  refine waloadN OGc 18 X2 B d17_17 rfl rfl rfl ?_
  refine wgetF OGc 21 X2 B hZ hown (ow hw 24 rfl) e2 R1 d17_18 rfl fun T3 X3 e3 => ?_
  refine warlenA OGc 22 X3 B hZ e3 R3 (2 : Int32) rfl d17_21 rfl ?_
  refine wcp OGc 25 X3 B hZ hown (ow hw 111 rfl) (ow hw 114 rfl) (ow hw 112 rfl) (ow hw 113 rfl) e3 R3 R4 (own_bytB [x0, x1] 0) (own_bytB [u0, u1, u2] 13) 2 16 0 3 2 rfl rfl (z := (2 : Int32)) (z' := (16 : Int32)) (by decide) (([x0, x1] : List Int32).map obv) rfl (obuf [u0, u1, u2, x0, x1]) rfl rfl N1 g_a2 hml rfl d17_22 (W := 0) rfl (by decide) rfl fun T5 h5 L5 X5 e5 N5 K5q A5 => ?_
  have K5 : Keep h0 h5 [a2] := (Keep.refl h0 [a2]).trans K5q (own_all1 (Or.inl (List.mem_of_getElem? (i := 0) rfl)))
  have F6 := R0.keep K5q
  have F7 := R1.keep K5q (own_nin1 ne_a1_a2)
  have F8 := R2.keep K5q (own_nin1 ne_a1_a2)
  have F9 := R3.keep K5q (own_nin1 ne_b_a2)
  have F10 : OA Z h5 a2 .byte (obuf [u0, u1, u2, x0, x1]) := A5
  have F11 := own_staK R5 K5q (own_all1 (own_plA R4))
  refine wgoto OGc 43 X5 B d17_25 rfl ?_
  refine own_ret0 X5 hx hret hlk (hb hby d17_43) (by decide) (by decide) ?_
  rw [e5]
  exact ⟨rfl, N5, K5, F10⟩
theorem ef_15_3_2 (m : MethodId) (a1 : Addr) (a3 : Addr) : entryFrame m #[(.ref a1), (.int (3 : Int32)), (.ref a3)] 3 = (mkF m 0 #[.val (.ref a1), .val (.int (3 : Int32)), .val (.ref a3)] []) := by first | (simp [entryFrame, mkF, argsToLocals, Value.category]; done) | rfl
abbrev Q15_3_2 (Z : State) (a1 : Addr) (a3 : Addr) (vb : Addr) (b : Addr) (u0 : Int32) (u1 : Int32) (u2 : Int32) (x0 : Int32) (x1 : Int32) (w : Int32) (h0 : Heap) (n0 : Nat) : Option Value → Heap → List Loc → Prop := (fun v h L => v = none ∧ Fr n0 L ∧ Keep h0 h [vb] ∧ OA Z h vb .byte (obuf [u0, u1, u2, x0, x1]))
theorem rm15_3_2 (l : Launch) (Z : State) (a0 : Array Value) (hw : ∀ d ∈ tables_1, d.before a0 Z = true) (ws : List Jvm.Cond) (a1 : Addr) (a3 : Addr) (vb : Addr) (b : Addr) (u0 : Int32) (u1 : Int32) (u2 : Int32) (x0 : Int32) (x1 : Int32) (w : Int32) (h0 : Heap) (n0 : Nat) (R0 : Exa Z h0 a1 "java/lang/StringBuilder") (R1 : Fld Z h0 a1 "java/lang/AbstractStringBuilder" "value" "[B" (.ref vb)) (R2 : Fld Z h0 a1 "java/lang/AbstractStringBuilder" "coder" "B" (.int (0 : Int32))) (R3 : OA Z h0 vb .byte (obuf [u0, u1, u2])) (R4 : Exa Z h0 a3 "java/lang/String") (R5 : Fld Z h0 a3 "java/lang/String" "value" "[B" (.ref b)) (R6 : Fld Z h0 a3 "java/lang/String" "coder" "B" (.int (0 : Int32))) (R7 : OA Z h0 b .byte (([x0, x1] : List Int32).map obv)) (R8 : Sta Z h0 "java/lang/String" "COMPACT_STRINGS" "Z" (.int w)) (g_vb : n0 ≤ vb) (ne_a3_vb : a3 ≠ vb) (ne_b_vb : b ≠ vb) (ne_a1_vb : a1 ≠ vb) (hw0 : ¬ w = (0 : Int32)) :
    OMet l Z (⟨"java/lang/AbstractStringBuilder", "putStringAt", "(ILjava/lang/String;)V"⟩ : MethodName) jdk_68_method_73_code 3 none ws ({ frames := 2, cells := 0, slots := 0, locals := 33 } : Room) #[(.ref a1), (.int (3 : Int32)), (.ref a3)] h0 (Q15_3_2 Z a1 a3 vb b u0 u1 u2 x0 x1 w h0 n0) := by
  refine own_enter pn_15 ?_
  intro p e s m below meth c s₁ hx hby hml0 hown hret hlk hnm hZ X0 e0
  have hml : c.maxLocals = 3 := hml0
  have B : BX p c jdk_68_method_73_code := ⟨hx, hby⟩
  have N0 := Fr.nil n0
  refine own_cast (ef_15_3_2 m a1 a3) ?_
  refine waloadN OGc 1 X0 B d15_0 rfl rfl rfl ?_
  refine waloadN OGc 2 X0 B d15_1 rfl rfl rfl ?_
  refine wpriv OGc 5 X0 B hZ hown (ow hw 100 rfl) (ow hw 101 rfl) (own_selp2 hZ (ow hw 103 rfl) (ow hw 102 rfl) (ow hw 101 rfl) (by decide)) (ow hw 102 rfl) R0 (ow hw 104 rfl) (ow hw 59 rfl) e0 (rm16 l Z a0 hw [] a1 a3 w h0 n0 R2 R4 R6 R8 hw0) 0 (by decide) (by decide) hml rfl (lenOf pd__Ljava_lang_String__V rfl) [] rfl rfl d15_2 rfl fun _ T1 L1 X1 hQ1 => ?_
  obtain ⟨rfl, N1q, K1q⟩ := hQ1
  have N1 := Fr.app N0 N1q
  have K1 := (Keep.refl h0 [vb]).trans K1q (own_all0 )
  have F2 := R0.keep K1q
  have F3 := R1.keep K1q (own_nin0 )
  have F4 := R2.keep K1q (own_nin0 )
  have F5 := R3.keep K1q (own_nin0 )
  have F6 := R4.keep K1q
  have F7 := R5.keep K1q (own_nin0 )
  have F8 := R6.keep K1q (own_nin0 )
  have F9 := R7.keep K1q (own_nin0 )
  have F10 := own_staK R8 K1q (own_all0 )
  refine own_stk (S' := []) rfl ?_
  refine waloadN OGc 6 X1 B d15_5 rfl rfl rfl ?_
  refine waloadN OGc 7 X1 B d15_6 rfl rfl rfl ?_
  refine wgetF OGc 10 X1 B hZ hown (ow hw 63 rfl) rfl F3 d15_7 rfl fun T11 X11 e11 => ?_
  refine wiloadN OGc 11 X11 B d15_10 rfl rfl ?_
  refine waloadN OGc 12 X11 B d15_11 rfl rfl rfl ?_
  refine wgetF OGc 15 X11 B hZ hown (ow hw 65 rfl) e11 F4 d15_12 rfl fun T12 X12 e12 => ?_
  refine wvirt OGc 18 X12 B hZ hown (ow hw 106 rfl) (ow hw 107 rfl) (ow hw 109 rfl) (ow hw 108 rfl) F6 (ow hw 110 rfl) (ow hw 6 rfl) e12 (rm17_3_2 l Z a0 hw [] a3 vb b u0 u1 u2 x0 x1 w T1.heap n0 F6 F7 F8 F9 F5 F10 g_vb ne_a3_vb ne_b_vb hw0) 0 (by decide) (by decide) hml rfl (lenOf pd___BIB_V rfl) [] rfl rfl d15_15 rfl fun _ T13 L13 X13 hQ13 => ?_
  obtain ⟨rfl, N13q, K13q, P13_0⟩ := hQ13
  have N13 := Fr.app N1 N13q
  have K13 := K1.trans K13q (own_all1 (Or.inl (List.mem_of_getElem? (i := 0) rfl)))
  have F14 := F2.keep K13q
  have F15 := F3.keep K13q (own_nin1 ne_a1_vb)
  have F16 := F4.keep K13q (own_nin1 ne_a1_vb)
  have F17 := F6.keep K13q
  have F18 := F7.keep K13q (own_nin1 ne_a3_vb)
  have F19 := F8.keep K13q (own_nin1 ne_a3_vb)
  have F20 := F9.keep K13q (own_nin1 ne_b_vb)
  have F21 := own_staK F10 K13q (own_all1 (own_plA F5))
  refine own_stk (S' := []) rfl ?_
  refine own_ret0 X13 hx hret hlk (hb hby d15_18) (by decide) (by decide) ?_
  exact ⟨rfl, N13, K13, P13_0⟩
abbrev Q11_3_2 (Z : State) (a1 : Addr) (a2 : Addr) (vb : Addr) (b : Addr) (u0 : Int32) (u1 : Int32) (u2 : Int32) (x0 : Int32) (x1 : Int32) (w : Int32) (h0 : Heap) (n0 : Nat) : Option Value → Heap → List Loc → Prop := (fun v h L => v = some (.ref a1) ∧ Fr n0 L ∧ Keep h0 h [a1, vb] ∧ Exa Z h a1 "java/lang/StringBuilder" ∧ Fld Z h a1 "java/lang/AbstractStringBuilder" "value" "[B" (.ref vb) ∧ Fld Z h a1 "java/lang/AbstractStringBuilder" "coder" "B" (.int (0 : Int32)) ∧ Fld Z h a1 "java/lang/AbstractStringBuilder" "count" "I" (.int (5 : Int32)) ∧ OA Z h vb .byte (obuf [u0, u1, u2, x0, x1]))
theorem rm11_3_2 (l : Launch) (Z : State) (a0 : Array Value) (hw : ∀ d ∈ tables_1, d.before a0 Z = true) (ws : List Jvm.Cond) (a1 : Addr) (a2 : Addr) (vb : Addr) (b : Addr) (u0 : Int32) (u1 : Int32) (u2 : Int32) (x0 : Int32) (x1 : Int32) (w : Int32) (h0 : Heap) (n0 : Nat) (R0 : Exa Z h0 a1 "java/lang/StringBuilder") (R1 : Fld Z h0 a1 "java/lang/AbstractStringBuilder" "value" "[B" (.ref vb)) (R2 : Fld Z h0 a1 "java/lang/AbstractStringBuilder" "coder" "B" (.int (0 : Int32))) (R3 : Fld Z h0 a1 "java/lang/AbstractStringBuilder" "count" "I" (.int (3 : Int32))) (R4 : OA Z h0 vb .byte (obuf [u0, u1, u2])) (R5 : Exa Z h0 a2 "java/lang/String") (R6 : Fld Z h0 a2 "java/lang/String" "value" "[B" (.ref b)) (R7 : Fld Z h0 a2 "java/lang/String" "coder" "B" (.int (0 : Int32))) (R8 : OA Z h0 b .byte (([x0, x1] : List Int32).map obv)) (R9 : Sta Z h0 "java/lang/String" "COMPACT_STRINGS" "Z" (.int w)) (g_a1 : n0 ≤ a1) (g_vb : n0 ≤ vb) (ne_a2_vb : a2 ≠ vb) (ne_b_vb : b ≠ vb) (ne_a1_vb : a1 ≠ vb) (ne_a1_a2 : a1 ≠ a2) (ne_a1_b : a1 ≠ b) (hw0 : ¬ w = (0 : Int32)) :
    OMet l Z (⟨"java/lang/AbstractStringBuilder", "append", "(Ljava/lang/String;)Ljava/lang/AbstractStringBuilder;"⟩ : MethodName) jdk_68_method_22_code 3 (some (.object "java/lang/AbstractStringBuilder")) ws ({ frames := 3, cells := 0, slots := 0, locals := 47 } : Room) #[(.ref a1), (.ref a2)] h0 (Q11_3_2 Z a1 a2 vb b u0 u1 u2 x0 x1 w h0 n0) := by
  refine own_enter pn_11 ?_
  intro p e s m below meth c s₁ hx hby hml0 hown hret hlk hnm hZ X0 e0
  have hml : c.maxLocals = 3 := hml0
  have B : BX p c jdk_68_method_22_code := ⟨hx, hby⟩
  have N0 := Fr.nil n0
  refine own_cast (ef_11 m a1 a2) ?_
  refine waloadN OGc 1 X0 B d11_0 rfl rfl rfl ?_
  refine wifnonnullYes OGc 9 X0 B d11_1 rfl ?_
  refine waloadN OGc 10 X0 B d11_9 rfl rfl rfl ?_
  refine wvirt OGc 13 X0 B hZ hown (ow hw 77 rfl) (ow hw 78 rfl) (ow hw 80 rfl) (ow hw 79 rfl) R5 (ow hw 81 rfl) (ow hw 6 rfl) e0 (rm12 l Z a0 hw [] a2 b ([x0, x1] : List Int32) w h0 R5 R6 R7 R8 R9 hw0) 0 (by decide) (by decide) hml rfl (lenOf pd___I rfl) [] rfl rfl d11_10 rfl fun _ T1 L1 X1 hQ1 => ?_
  obtain ⟨rfl, rfl, e1⟩ := hQ1
  have N1 := Fr.app N0 (Fr.nil n0)
  refine own_stk (S' := [(.int (2 : Int32))]) rfl ?_
  refine wistoreN OGc 14 X1 B d11_13 #[.val (.ref a1), .val (.ref a2), .val (.int (2 : Int32))] rfl rfl ?_
  refine waloadN OGc 15 X1 B d11_14 rfl rfl rfl ?_
  refine waloadN OGc 16 X1 B d11_15 rfl rfl rfl ?_
  refine wgetF OGc 19 X1 B hZ hown (ow hw 88 rfl) e1 R3 d11_16 rfl fun T2 X2 e2 => ?_
  refine wiloadN OGc 20 X2 B d11_19 rfl rfl ?_
  refine wiadd OGc 21 X2 B d11_20 rfl ?_
  show OG p e _ s below _ T2 (mkF m 21 #[.val (.ref a1), .val (.ref a2), .val (.int (2 : Int32))] [(.int (5 : Int32)), (.ref a1)])
  refine wpriv OGc 24 X2 B hZ hown (ow hw 90 rfl) (ow hw 91 rfl) (own_selp2 hZ (ow hw 93 rfl) (ow hw 92 rfl) (ow hw 91 rfl) (by decide)) (ow hw 92 rfl) R0 (ow hw 94 rfl) (ow hw 59 rfl) e2 (rm14_5 l Z a0 hw [] a1 vb (nar .byte u0) (nar .byte u1) (nar .byte u2) (0 : Int32) (0 : Int32) (0 : Int32) (0 : Int32) (0 : Int32) (0 : Int32) (0 : Int32) (0 : Int32) (0 : Int32) (0 : Int32) (0 : Int32) (0 : Int32) (0 : Int32) h0 n0 R1 R2 R4) 0 (by decide) (by decide) hml rfl (lenOf pd__I_V rfl) [] rfl rfl d11_21 rfl fun _ T3 L3 X3 hQ3 => ?_
  obtain ⟨rfl, N3q, K3q⟩ := hQ3
  have N3 := Fr.app N1 N3q
  have K3 := (Keep.refl h0 [a1, vb]).trans K3q (own_all0 )
  have F4 := R0.keep K3q
  have F5 := R1.keep K3q (own_nin0 )
  have F6 := R2.keep K3q (own_nin0 )
  have F7 := R3.keep K3q (own_nin0 )
  have F8 := R4.keep K3q (own_nin0 )
  have F9 := R5.keep K3q
  have F10 := R6.keep K3q (own_nin0 )
  have F11 := R7.keep K3q (own_nin0 )
  have F12 := R8.keep K3q (own_nin0 )
  have F13 := own_staK R9 K3q (own_all0 )
  refine own_stk (S' := []) rfl ?_
  refine waloadN OGc 25 X3 B d11_24 rfl rfl rfl ?_
  refine waloadN OGc 26 X3 B d11_25 rfl rfl rfl ?_
  refine wgetF OGc 29 X3 B hZ hown (ow hw 88 rfl) rfl F7 d11_26 rfl fun T14 X14 e14 => ?_
  refine waloadN OGc 30 X14 B d11_29 rfl rfl rfl ?_
  refine wpriv OGc 33 X14 B hZ hown (ow hw 95 rfl) (ow hw 96 rfl) (own_selp2 hZ (ow hw 98 rfl) (ow hw 97 rfl) (ow hw 96 rfl) (by decide)) (ow hw 97 rfl) F4 (ow hw 99 rfl) (ow hw 59 rfl) e14 (rm15_3_2 l Z a0 hw [] a1 a2 vb b u0 u1 u2 x0 x1 w T3.heap n0 F4 F5 F6 F8 F9 F10 F11 F12 F13 g_vb ne_a2_vb ne_b_vb ne_a1_vb hw0) 0 (by decide) (by decide) hml rfl (lenOf pd__ILjava_lang_String__V rfl) [] rfl rfl d11_30 rfl fun _ T15 L15 X15 hQ15 => ?_
  obtain ⟨rfl, N15q, K15q, P15_0⟩ := hQ15
  have N15 := Fr.app N3 N15q
  have K15 := K3.trans K15q (own_all1 (Or.inl (List.mem_of_getElem? (i := 1) rfl)))
  have F16 := F4.keep K15q
  have F17 := F5.keep K15q (own_nin1 ne_a1_vb)
  have F18 := F6.keep K15q (own_nin1 ne_a1_vb)
  have F19 := F7.keep K15q (own_nin1 ne_a1_vb)
  have F20 := F9.keep K15q
  have F21 := F10.keep K15q (own_nin1 ne_a2_vb)
  have F22 := F11.keep K15q (own_nin1 ne_a2_vb)
  have F23 := F12.keep K15q (own_nin1 ne_b_vb)
  have F24 := own_staK F13 K15q (own_all1 (own_plA F8))
  refine own_stk (S' := []) rfl ?_
  refine waloadN OGc 34 X15 B d11_33 rfl rfl rfl ?_
  refine wdup OGc 35 X15 B d11_34 rfl rfl ?_
  refine wgetF OGc 38 X15 B hZ hown (ow hw 88 rfl) rfl F19 d11_35 rfl fun T25 X25 e25 => ?_
  refine wiloadN OGc 39 X25 B d11_38 rfl rfl ?_
  refine wiadd OGc 40 X25 B d11_39 rfl ?_
  show OG p e _ s below _ T25 (mkF m 40 #[.val (.ref a1), .val (.ref a2), .val (.int (2 : Int32))] [(.int (5 : Int32)), (.ref a1)])
  refine wputF OGc 43 X25 B hZ hown (ow hw 88 rfl) e25 F19 F16 (Or.inl (ow hw 89 rfl)) (ow hw 50 rfl) (ty := .int) (by decide) rfl rfl d11_40 rfl fun T26 h26 X26 e26 W26 => ?_
  have N26 := Fr.snoc X26 N15 g_a1
  have K27 := K15.wr W26 (Or.inl (List.mem_of_getElem? (i := 0) rfl))
  have F28 := F16.wr W26
  have F29 := F17.other W26 (Or.inr (slot_ne (Or.inl (ow hw 64 rfl)) (Or.inl (ow hw 89 rfl)) (by decide) (t := (.array .byte)) (t' := .int) (by decide) (by decide)))
  have F30 := F18.other W26 (Or.inr (slot_ne (Or.inl (ow hw 66 rfl)) (Or.inl (ow hw 89 rfl)) (by decide) (t := .byte) (t' := .int) (by decide) (by decide)))
  have F31 : Fld Z h26 a1 "java/lang/AbstractStringBuilder" "count" "I" (.int (5 : Int32)) := (F19.same W26)
  have F32 := F20.wr W26
  have F33 := F21.other W26 (Or.inl (Ne.symm ne_a1_a2))
  have F34 := F22.other W26 (Or.inl (Ne.symm ne_a1_a2))
  have F35 := F23.other W26 (Ne.symm ne_a1_b)
  have F36 := F24.wr W26
  have F37 := P15_0.other W26 (Ne.symm ne_a1_vb)
  refine waloadN OGc 44 X26 B d11_43 rfl rfl rfl ?_
  refine own_retV X26 hx hret rfl (Or.inr (Or.inr (Or.inr (Or.inr ⟨rfl, rfl, rfl⟩)))) hlk (hb hby d11_44) (by decide) (by decide) ?_
  rw [e26]
  exact ⟨rfl, N26, K27, F28, F29, F30, F31, F37⟩
theorem ef_17_3_3 (m : MethodId) (a1 : Addr) (a2 : Addr) : entryFrame m #[(.ref a1), (.ref a2), (.int (3 : Int32)), (.int (0 : Int32))] 4 = (mkF m 0 #[.val (.ref a1), .val (.ref a2), .val (.int (3 : Int32)), .val (.int (0 : Int32))] []) := by first | (simp [entryFrame, mkF, argsToLocals, Value.category]; done) | rfl
abbrev Q17_3_3 (Z : State) (a1 : Addr) (a2 : Addr) (b : Addr) (u0 : Int32) (u1 : Int32) (u2 : Int32) (x0 : Int32) (x1 : Int32) (x2 : Int32) (w : Int32) (h0 : Heap) (n0 : Nat) : Option Value → Heap → List Loc → Prop := (fun v h L => v = none ∧ Fr n0 L ∧ Keep h0 h [a2] ∧ OA Z h a2 .byte (obuf [u0, u1, u2, x0, x1, x2]))
theorem rm17_3_3 (l : Launch) (Z : State) (a0 : Array Value) (hw : ∀ d ∈ tables_1, d.before a0 Z = true) (ws : List Jvm.Cond) (a1 : Addr) (a2 : Addr) (b : Addr) (u0 : Int32) (u1 : Int32) (u2 : Int32) (x0 : Int32) (x1 : Int32) (x2 : Int32) (w : Int32) (h0 : Heap) (n0 : Nat) (R0 : Exa Z h0 a1 "java/lang/String") (R1 : Fld Z h0 a1 "java/lang/String" "value" "[B" (.ref b)) (R2 : Fld Z h0 a1 "java/lang/String" "coder" "B" (.int (0 : Int32))) (R3 : OA Z h0 b .byte (([x0, x1, x2] : List Int32).map obv)) (R4 : OA Z h0 a2 .byte (obuf [u0, u1, u2])) (R5 : Sta Z h0 "java/lang/String" "COMPACT_STRINGS" "Z" (.int w)) (g_a2 : n0 ≤ a2) (ne_a1_a2 : a1 ≠ a2) (ne_b_a2 : b ≠ a2) (hw0 : ¬ w = (0 : Int32)) :
    OMet l Z (⟨"java/lang/String", "getBytes", "([BIB)V"⟩ : MethodName) jdk_42_method_147_code 4 none ws ({ frames := 1, cells := 0, slots := 0, locals := 18 } : Room) #[(.ref a1), (.ref a2), (.int (3 : Int32)), (.int (0 : Int32))] h0 (Q17_3_3 Z a1 a2 b u0 u1 u2 x0 x1 x2 w h0 n0) := by
  refine own_enter pn_17 ?_
  intro p e s m below meth c s₁ hx hby hml0 hown hret hlk hnm hZ X0 e0
  have hml : c.maxLocals = 4 := hml0
  have B : BX p c jdk_42_method_147_code := ⟨hx, hby⟩
  have N0 := Fr.nil n0
  refine own_cast (ef_17_3_3 m a1 a2) ?_
  refine waloadN OGc 1 X0 B d17_0 rfl rfl rfl ?_
  refine wvirt OGc 4 X0 B hZ hown (ow hw 82 rfl) (ow hw 83 rfl) (ow hw 85 rfl) (ow hw 84 rfl) R0 (ow hw 86 rfl) (ow hw 6 rfl) e0 (rm13 l Z a0 hw [] a1 w h0 R2 R5 hw0) 0 (by decide) (by decide) hml rfl (lenOf pd___B rfl) [] rfl rfl d17_1 rfl fun _ T1 L1 X1 hQ1 => ?_
  obtain ⟨rfl, rfl, e1⟩ := hQ1
  have N1 := Fr.app N0 (Fr.nil n0)
  refine own_stk (S' := [(.int (0 : Int32))]) rfl ?_
  refine wiloadN OGc 5 X1 B d17_4 rfl rfl ?_
  refine wicmpNo OGc 8 X1 B d17_5 (by decide) rfl ?_
  refine waloadN OGc 9 X1 B d17_8 rfl rfl rfl ?_
  refine wgetF OGc 12 X1 B hZ hown (ow hw 24 rfl) e1 R1 d17_9 rfl fun T2 X2 e2 => ?_
  refine wiconst OGc 13 X2 B d17_12 0 rfl rfl ?_
  refine waloadN OGc 14 X2 B d17_13 rfl rfl rfl ?_
  refine wiloadN OGc 15 X2 B d17_14 rfl rfl ?_
  refine wiloadN OGc 16 X2 B d17_15 rfl rfl ?_
  refine own_st (fun t k => XS.ishl X2.here hx rfl (hb hby d17_16) rfl k) ?_
  show OG p e _ s below _ T2 (mkF m 17 #[.val (.ref a1), .val (.ref a2), .val (.int (3 : Int32)), .val (.int (0 : Int32))] [(.int (3 : Int32)), (.ref a2), (.int (0 : Int32)), (.ref b)])
  refine waloadN OGc 18 X2 B d17_17 rfl rfl rfl ?_
  refine wgetF OGc 21 X2 B hZ hown (ow hw 24 rfl) e2 R1 d17_18 rfl fun T3 X3 e3 => ?_
  refine warlenA OGc 22 X3 B hZ e3 R3 (3 : Int32) rfl d17_21 rfl ?_
  refine wcp OGc 25 X3 B hZ hown (ow hw 111 rfl) (ow hw 114 rfl) (ow hw 112 rfl) (ow hw 113 rfl) e3 R3 R4 (own_bytB [x0, x1, x2] 0) (own_bytB [u0, u1, u2] 13) 3 16 0 3 3 rfl rfl (z := (3 : Int32)) (z' := (16 : Int32)) (by decide) (([x0, x1, x2] : List Int32).map obv) rfl (obuf [u0, u1, u2, x0, x1, x2]) rfl rfl N1 g_a2 hml rfl d17_22 (W := 0) rfl (by decide) rfl fun T5 h5 L5 X5 e5 N5 K5q A5 => ?_
  have K5 : Keep h0 h5 [a2] := (Keep.refl h0 [a2]).trans K5q (own_all1 (Or.inl (List.mem_of_getElem? (i := 0) rfl)))
  have F6 := R0.keep K5q
  have F7 := R1.keep K5q (own_nin1 ne_a1_a2)
  have F8 := R2.keep K5q (own_nin1 ne_a1_a2)
  have F9 := R3.keep K5q (own_nin1 ne_b_a2)
  have F10 : OA Z h5 a2 .byte (obuf [u0, u1, u2, x0, x1, x2]) := A5
  have F11 := own_staK R5 K5q (own_all1 (own_plA R4))
  refine wgoto OGc 43 X5 B d17_25 rfl ?_
  refine own_ret0 X5 hx hret hlk (hb hby d17_43) (by decide) (by decide) ?_
  rw [e5]
  exact ⟨rfl, N5, K5, F10⟩
theorem ef_15_3_3 (m : MethodId) (a1 : Addr) (a3 : Addr) : entryFrame m #[(.ref a1), (.int (3 : Int32)), (.ref a3)] 3 = (mkF m 0 #[.val (.ref a1), .val (.int (3 : Int32)), .val (.ref a3)] []) := by first | (simp [entryFrame, mkF, argsToLocals, Value.category]; done) | rfl
abbrev Q15_3_3 (Z : State) (a1 : Addr) (a3 : Addr) (vb : Addr) (b : Addr) (u0 : Int32) (u1 : Int32) (u2 : Int32) (x0 : Int32) (x1 : Int32) (x2 : Int32) (w : Int32) (h0 : Heap) (n0 : Nat) : Option Value → Heap → List Loc → Prop := (fun v h L => v = none ∧ Fr n0 L ∧ Keep h0 h [vb] ∧ OA Z h vb .byte (obuf [u0, u1, u2, x0, x1, x2]))
theorem rm15_3_3 (l : Launch) (Z : State) (a0 : Array Value) (hw : ∀ d ∈ tables_1, d.before a0 Z = true) (ws : List Jvm.Cond) (a1 : Addr) (a3 : Addr) (vb : Addr) (b : Addr) (u0 : Int32) (u1 : Int32) (u2 : Int32) (x0 : Int32) (x1 : Int32) (x2 : Int32) (w : Int32) (h0 : Heap) (n0 : Nat) (R0 : Exa Z h0 a1 "java/lang/StringBuilder") (R1 : Fld Z h0 a1 "java/lang/AbstractStringBuilder" "value" "[B" (.ref vb)) (R2 : Fld Z h0 a1 "java/lang/AbstractStringBuilder" "coder" "B" (.int (0 : Int32))) (R3 : OA Z h0 vb .byte (obuf [u0, u1, u2])) (R4 : Exa Z h0 a3 "java/lang/String") (R5 : Fld Z h0 a3 "java/lang/String" "value" "[B" (.ref b)) (R6 : Fld Z h0 a3 "java/lang/String" "coder" "B" (.int (0 : Int32))) (R7 : OA Z h0 b .byte (([x0, x1, x2] : List Int32).map obv)) (R8 : Sta Z h0 "java/lang/String" "COMPACT_STRINGS" "Z" (.int w)) (g_vb : n0 ≤ vb) (ne_a3_vb : a3 ≠ vb) (ne_b_vb : b ≠ vb) (ne_a1_vb : a1 ≠ vb) (hw0 : ¬ w = (0 : Int32)) :
    OMet l Z (⟨"java/lang/AbstractStringBuilder", "putStringAt", "(ILjava/lang/String;)V"⟩ : MethodName) jdk_68_method_73_code 3 none ws ({ frames := 2, cells := 0, slots := 0, locals := 33 } : Room) #[(.ref a1), (.int (3 : Int32)), (.ref a3)] h0 (Q15_3_3 Z a1 a3 vb b u0 u1 u2 x0 x1 x2 w h0 n0) := by
  refine own_enter pn_15 ?_
  intro p e s m below meth c s₁ hx hby hml0 hown hret hlk hnm hZ X0 e0
  have hml : c.maxLocals = 3 := hml0
  have B : BX p c jdk_68_method_73_code := ⟨hx, hby⟩
  have N0 := Fr.nil n0
  refine own_cast (ef_15_3_3 m a1 a3) ?_
  refine waloadN OGc 1 X0 B d15_0 rfl rfl rfl ?_
  refine waloadN OGc 2 X0 B d15_1 rfl rfl rfl ?_
  refine wpriv OGc 5 X0 B hZ hown (ow hw 100 rfl) (ow hw 101 rfl) (own_selp2 hZ (ow hw 103 rfl) (ow hw 102 rfl) (ow hw 101 rfl) (by decide)) (ow hw 102 rfl) R0 (ow hw 104 rfl) (ow hw 59 rfl) e0 (rm16 l Z a0 hw [] a1 a3 w h0 n0 R2 R4 R6 R8 hw0) 0 (by decide) (by decide) hml rfl (lenOf pd__Ljava_lang_String__V rfl) [] rfl rfl d15_2 rfl fun _ T1 L1 X1 hQ1 => ?_
  obtain ⟨rfl, N1q, K1q⟩ := hQ1
  have N1 := Fr.app N0 N1q
  have K1 := (Keep.refl h0 [vb]).trans K1q (own_all0 )
  have F2 := R0.keep K1q
  have F3 := R1.keep K1q (own_nin0 )
  have F4 := R2.keep K1q (own_nin0 )
  have F5 := R3.keep K1q (own_nin0 )
  have F6 := R4.keep K1q
  have F7 := R5.keep K1q (own_nin0 )
  have F8 := R6.keep K1q (own_nin0 )
  have F9 := R7.keep K1q (own_nin0 )
  have F10 := own_staK R8 K1q (own_all0 )
  refine own_stk (S' := []) rfl ?_
  refine waloadN OGc 6 X1 B d15_5 rfl rfl rfl ?_
  refine waloadN OGc 7 X1 B d15_6 rfl rfl rfl ?_
  refine wgetF OGc 10 X1 B hZ hown (ow hw 63 rfl) rfl F3 d15_7 rfl fun T11 X11 e11 => ?_
  refine wiloadN OGc 11 X11 B d15_10 rfl rfl ?_
  refine waloadN OGc 12 X11 B d15_11 rfl rfl rfl ?_
  refine wgetF OGc 15 X11 B hZ hown (ow hw 65 rfl) e11 F4 d15_12 rfl fun T12 X12 e12 => ?_
  refine wvirt OGc 18 X12 B hZ hown (ow hw 106 rfl) (ow hw 107 rfl) (ow hw 109 rfl) (ow hw 108 rfl) F6 (ow hw 110 rfl) (ow hw 6 rfl) e12 (rm17_3_3 l Z a0 hw [] a3 vb b u0 u1 u2 x0 x1 x2 w T1.heap n0 F6 F7 F8 F9 F5 F10 g_vb ne_a3_vb ne_b_vb hw0) 0 (by decide) (by decide) hml rfl (lenOf pd___BIB_V rfl) [] rfl rfl d15_15 rfl fun _ T13 L13 X13 hQ13 => ?_
  obtain ⟨rfl, N13q, K13q, P13_0⟩ := hQ13
  have N13 := Fr.app N1 N13q
  have K13 := K1.trans K13q (own_all1 (Or.inl (List.mem_of_getElem? (i := 0) rfl)))
  have F14 := F2.keep K13q
  have F15 := F3.keep K13q (own_nin1 ne_a1_vb)
  have F16 := F4.keep K13q (own_nin1 ne_a1_vb)
  have F17 := F6.keep K13q
  have F18 := F7.keep K13q (own_nin1 ne_a3_vb)
  have F19 := F8.keep K13q (own_nin1 ne_a3_vb)
  have F20 := F9.keep K13q (own_nin1 ne_b_vb)
  have F21 := own_staK F10 K13q (own_all1 (own_plA F5))
  refine own_stk (S' := []) rfl ?_
  refine own_ret0 X13 hx hret hlk (hb hby d15_18) (by decide) (by decide) ?_
  exact ⟨rfl, N13, K13, P13_0⟩
abbrev Q11_3_3 (Z : State) (a1 : Addr) (a2 : Addr) (vb : Addr) (b : Addr) (u0 : Int32) (u1 : Int32) (u2 : Int32) (x0 : Int32) (x1 : Int32) (x2 : Int32) (w : Int32) (h0 : Heap) (n0 : Nat) : Option Value → Heap → List Loc → Prop := (fun v h L => v = some (.ref a1) ∧ Fr n0 L ∧ Keep h0 h [a1, vb] ∧ Exa Z h a1 "java/lang/StringBuilder" ∧ Fld Z h a1 "java/lang/AbstractStringBuilder" "value" "[B" (.ref vb) ∧ Fld Z h a1 "java/lang/AbstractStringBuilder" "coder" "B" (.int (0 : Int32)) ∧ Fld Z h a1 "java/lang/AbstractStringBuilder" "count" "I" (.int (6 : Int32)) ∧ OA Z h vb .byte (obuf [u0, u1, u2, x0, x1, x2]))
theorem rm11_3_3 (l : Launch) (Z : State) (a0 : Array Value) (hw : ∀ d ∈ tables_1, d.before a0 Z = true) (ws : List Jvm.Cond) (a1 : Addr) (a2 : Addr) (vb : Addr) (b : Addr) (u0 : Int32) (u1 : Int32) (u2 : Int32) (x0 : Int32) (x1 : Int32) (x2 : Int32) (w : Int32) (h0 : Heap) (n0 : Nat) (R0 : Exa Z h0 a1 "java/lang/StringBuilder") (R1 : Fld Z h0 a1 "java/lang/AbstractStringBuilder" "value" "[B" (.ref vb)) (R2 : Fld Z h0 a1 "java/lang/AbstractStringBuilder" "coder" "B" (.int (0 : Int32))) (R3 : Fld Z h0 a1 "java/lang/AbstractStringBuilder" "count" "I" (.int (3 : Int32))) (R4 : OA Z h0 vb .byte (obuf [u0, u1, u2])) (R5 : Exa Z h0 a2 "java/lang/String") (R6 : Fld Z h0 a2 "java/lang/String" "value" "[B" (.ref b)) (R7 : Fld Z h0 a2 "java/lang/String" "coder" "B" (.int (0 : Int32))) (R8 : OA Z h0 b .byte (([x0, x1, x2] : List Int32).map obv)) (R9 : Sta Z h0 "java/lang/String" "COMPACT_STRINGS" "Z" (.int w)) (g_a1 : n0 ≤ a1) (g_vb : n0 ≤ vb) (ne_a2_vb : a2 ≠ vb) (ne_b_vb : b ≠ vb) (ne_a1_vb : a1 ≠ vb) (ne_a1_a2 : a1 ≠ a2) (ne_a1_b : a1 ≠ b) (hw0 : ¬ w = (0 : Int32)) :
    OMet l Z (⟨"java/lang/AbstractStringBuilder", "append", "(Ljava/lang/String;)Ljava/lang/AbstractStringBuilder;"⟩ : MethodName) jdk_68_method_22_code 3 (some (.object "java/lang/AbstractStringBuilder")) ws ({ frames := 3, cells := 0, slots := 0, locals := 47 } : Room) #[(.ref a1), (.ref a2)] h0 (Q11_3_3 Z a1 a2 vb b u0 u1 u2 x0 x1 x2 w h0 n0) := by
  refine own_enter pn_11 ?_
  intro p e s m below meth c s₁ hx hby hml0 hown hret hlk hnm hZ X0 e0
  have hml : c.maxLocals = 3 := hml0
  have B : BX p c jdk_68_method_22_code := ⟨hx, hby⟩
  have N0 := Fr.nil n0
  refine own_cast (ef_11 m a1 a2) ?_
  refine waloadN OGc 1 X0 B d11_0 rfl rfl rfl ?_
  refine wifnonnullYes OGc 9 X0 B d11_1 rfl ?_
  refine waloadN OGc 10 X0 B d11_9 rfl rfl rfl ?_
  refine wvirt OGc 13 X0 B hZ hown (ow hw 77 rfl) (ow hw 78 rfl) (ow hw 80 rfl) (ow hw 79 rfl) R5 (ow hw 81 rfl) (ow hw 6 rfl) e0 (rm12 l Z a0 hw [] a2 b ([x0, x1, x2] : List Int32) w h0 R5 R6 R7 R8 R9 hw0) 0 (by decide) (by decide) hml rfl (lenOf pd___I rfl) [] rfl rfl d11_10 rfl fun _ T1 L1 X1 hQ1 => ?_
  obtain ⟨rfl, rfl, e1⟩ := hQ1
  have N1 := Fr.app N0 (Fr.nil n0)
  refine own_stk (S' := [(.int (3 : Int32))]) rfl ?_
  refine wistoreN OGc 14 X1 B d11_13 #[.val (.ref a1), .val (.ref a2), .val (.int (3 : Int32))] rfl rfl ?_
  refine waloadN OGc 15 X1 B d11_14 rfl rfl rfl ?_
  refine waloadN OGc 16 X1 B d11_15 rfl rfl rfl ?_
  refine wgetF OGc 19 X1 B hZ hown (ow hw 88 rfl) e1 R3 d11_16 rfl fun T2 X2 e2 => ?_
  refine wiloadN OGc 20 X2 B d11_19 rfl rfl ?_
  refine wiadd OGc 21 X2 B d11_20 rfl ?_
  show OG p e _ s below _ T2 (mkF m 21 #[.val (.ref a1), .val (.ref a2), .val (.int (3 : Int32))] [(.int (6 : Int32)), (.ref a1)])
  refine wpriv OGc 24 X2 B hZ hown (ow hw 90 rfl) (ow hw 91 rfl) (own_selp2 hZ (ow hw 93 rfl) (ow hw 92 rfl) (ow hw 91 rfl) (by decide)) (ow hw 92 rfl) R0 (ow hw 94 rfl) (ow hw 59 rfl) e2 (rm14_6 l Z a0 hw [] a1 vb (nar .byte u0) (nar .byte u1) (nar .byte u2) (0 : Int32) (0 : Int32) (0 : Int32) (0 : Int32) (0 : Int32) (0 : Int32) (0 : Int32) (0 : Int32) (0 : Int32) (0 : Int32) (0 : Int32) (0 : Int32) (0 : Int32) h0 n0 R1 R2 R4) 0 (by decide) (by decide) hml rfl (lenOf pd__I_V rfl) [] rfl rfl d11_21 rfl fun _ T3 L3 X3 hQ3 => ?_
  obtain ⟨rfl, N3q, K3q⟩ := hQ3
  have N3 := Fr.app N1 N3q
  have K3 := (Keep.refl h0 [a1, vb]).trans K3q (own_all0 )
  have F4 := R0.keep K3q
  have F5 := R1.keep K3q (own_nin0 )
  have F6 := R2.keep K3q (own_nin0 )
  have F7 := R3.keep K3q (own_nin0 )
  have F8 := R4.keep K3q (own_nin0 )
  have F9 := R5.keep K3q
  have F10 := R6.keep K3q (own_nin0 )
  have F11 := R7.keep K3q (own_nin0 )
  have F12 := R8.keep K3q (own_nin0 )
  have F13 := own_staK R9 K3q (own_all0 )
  refine own_stk (S' := []) rfl ?_
  refine waloadN OGc 25 X3 B d11_24 rfl rfl rfl ?_
  refine waloadN OGc 26 X3 B d11_25 rfl rfl rfl ?_
  refine wgetF OGc 29 X3 B hZ hown (ow hw 88 rfl) rfl F7 d11_26 rfl fun T14 X14 e14 => ?_
  refine waloadN OGc 30 X14 B d11_29 rfl rfl rfl ?_
  refine wpriv OGc 33 X14 B hZ hown (ow hw 95 rfl) (ow hw 96 rfl) (own_selp2 hZ (ow hw 98 rfl) (ow hw 97 rfl) (ow hw 96 rfl) (by decide)) (ow hw 97 rfl) F4 (ow hw 99 rfl) (ow hw 59 rfl) e14 (rm15_3_3 l Z a0 hw [] a1 a2 vb b u0 u1 u2 x0 x1 x2 w T3.heap n0 F4 F5 F6 F8 F9 F10 F11 F12 F13 g_vb ne_a2_vb ne_b_vb ne_a1_vb hw0) 0 (by decide) (by decide) hml rfl (lenOf pd__ILjava_lang_String__V rfl) [] rfl rfl d11_30 rfl fun _ T15 L15 X15 hQ15 => ?_
  obtain ⟨rfl, N15q, K15q, P15_0⟩ := hQ15
  have N15 := Fr.app N3 N15q
  have K15 := K3.trans K15q (own_all1 (Or.inl (List.mem_of_getElem? (i := 1) rfl)))
  have F16 := F4.keep K15q
  have F17 := F5.keep K15q (own_nin1 ne_a1_vb)
  have F18 := F6.keep K15q (own_nin1 ne_a1_vb)
  have F19 := F7.keep K15q (own_nin1 ne_a1_vb)
  have F20 := F9.keep K15q
  have F21 := F10.keep K15q (own_nin1 ne_a2_vb)
  have F22 := F11.keep K15q (own_nin1 ne_a2_vb)
  have F23 := F12.keep K15q (own_nin1 ne_b_vb)
  have F24 := own_staK F13 K15q (own_all1 (own_plA F8))
  refine own_stk (S' := []) rfl ?_
  refine waloadN OGc 34 X15 B d11_33 rfl rfl rfl ?_
  refine wdup OGc 35 X15 B d11_34 rfl rfl ?_
  refine wgetF OGc 38 X15 B hZ hown (ow hw 88 rfl) rfl F19 d11_35 rfl fun T25 X25 e25 => ?_
  refine wiloadN OGc 39 X25 B d11_38 rfl rfl ?_
  refine wiadd OGc 40 X25 B d11_39 rfl ?_
  show OG p e _ s below _ T25 (mkF m 40 #[.val (.ref a1), .val (.ref a2), .val (.int (3 : Int32))] [(.int (6 : Int32)), (.ref a1)])
  refine wputF OGc 43 X25 B hZ hown (ow hw 88 rfl) e25 F19 F16 (Or.inl (ow hw 89 rfl)) (ow hw 50 rfl) (ty := .int) (by decide) rfl rfl d11_40 rfl fun T26 h26 X26 e26 W26 => ?_
  have N26 := Fr.snoc X26 N15 g_a1
  have K27 := K15.wr W26 (Or.inl (List.mem_of_getElem? (i := 0) rfl))
  have F28 := F16.wr W26
  have F29 := F17.other W26 (Or.inr (slot_ne (Or.inl (ow hw 64 rfl)) (Or.inl (ow hw 89 rfl)) (by decide) (t := (.array .byte)) (t' := .int) (by decide) (by decide)))
  have F30 := F18.other W26 (Or.inr (slot_ne (Or.inl (ow hw 66 rfl)) (Or.inl (ow hw 89 rfl)) (by decide) (t := .byte) (t' := .int) (by decide) (by decide)))
  have F31 : Fld Z h26 a1 "java/lang/AbstractStringBuilder" "count" "I" (.int (6 : Int32)) := (F19.same W26)
  have F32 := F20.wr W26
  have F33 := F21.other W26 (Or.inl (Ne.symm ne_a1_a2))
  have F34 := F22.other W26 (Or.inl (Ne.symm ne_a1_a2))
  have F35 := F23.other W26 (Ne.symm ne_a1_b)
  have F36 := F24.wr W26
  have F37 := P15_0.other W26 (Ne.symm ne_a1_vb)
  refine waloadN OGc 44 X26 B d11_43 rfl rfl rfl ?_
  refine own_retV X26 hx hret rfl (Or.inr (Or.inr (Or.inr (Or.inr ⟨rfl, rfl, rfl⟩)))) hlk (hb hby d11_44) (by decide) (by decide) ?_
  rw [e26]
  exact ⟨rfl, N26, K27, F28, F29, F30, F31, F37⟩
abbrev Q11 (Z : State) (a1 : Addr) (a2 : Addr) (vb : Addr) (b : Addr) (u : List Int32) (xs : List Int32) (w : Int32) (h0 : Heap) (n0 : Nat) : Option Value → Heap → List Loc → Prop := (fun v h L => v = some (.ref a1) ∧ Fr n0 L ∧ Keep h0 h [a1, vb] ∧ Exa Z h a1 "java/lang/StringBuilder" ∧ Fld Z h a1 "java/lang/AbstractStringBuilder" "value" "[B" (.ref vb) ∧ Fld Z h a1 "java/lang/AbstractStringBuilder" "coder" "B" (.int (0 : Int32)) ∧ Fld Z h a1 "java/lang/AbstractStringBuilder" "count" "I" (.int (oln (u ++ xs))) ∧ OA Z h vb .byte (obuf (u ++ xs)))
theorem rm11 (l : Launch) (Z : State) (a0 : Array Value) (hw : ∀ d ∈ tables_1, d.before a0 Z = true) (ws : List Jvm.Cond) (a1 : Addr) (a2 : Addr) (vb : Addr) (b : Addr) (u : List Int32) (xs : List Int32) (w : Int32) (h0 : Heap) (n0 : Nat) (R0 : Exa Z h0 a1 "java/lang/StringBuilder") (R1 : Fld Z h0 a1 "java/lang/AbstractStringBuilder" "value" "[B" (.ref vb)) (R2 : Fld Z h0 a1 "java/lang/AbstractStringBuilder" "coder" "B" (.int (0 : Int32))) (R3 : Fld Z h0 a1 "java/lang/AbstractStringBuilder" "count" "I" (.int (oln u))) (R4 : OA Z h0 vb .byte (obuf u)) (R5 : Exa Z h0 a2 "java/lang/String") (R6 : Fld Z h0 a2 "java/lang/String" "value" "[B" (.ref b)) (R7 : Fld Z h0 a2 "java/lang/String" "coder" "B" (.int (0 : Int32))) (R8 : OA Z h0 b .byte (xs.map obv)) (R9 : Sta Z h0 "java/lang/String" "COMPACT_STRINGS" "Z" (.int w)) (g_a1 : n0 ≤ a1) (g_vb : n0 ≤ vb) (ne_a2_vb : a2 ≠ vb) (ne_b_vb : b ≠ vb) (ne_a1_vb : a1 ≠ vb) (ne_a1_a2 : a1 ≠ a2) (ne_a1_b : a1 ≠ b) (hw0 : ¬ w = (0 : Int32)) (hu : u.length ≤ 3) (hxs : xs.length ≤ 3) :
    OMet l Z (⟨"java/lang/AbstractStringBuilder", "append", "(Ljava/lang/String;)Ljava/lang/AbstractStringBuilder;"⟩ : MethodName) jdk_68_method_22_code 3 (some (.object "java/lang/AbstractStringBuilder")) ws ({ frames := 3, cells := 0, slots := 0, locals := 47 } : Room) #[(.ref a1), (.ref a2)] h0 (Q11 Z a1 a2 vb b u xs w h0 n0) := by
  rcases own_l3 u hu with rfl | ⟨u0, rfl⟩ | ⟨u0, u1, rfl⟩ | ⟨u0, u1, u2, rfl⟩
  · rcases own_l3 xs hxs with rfl | ⟨x0, rfl⟩ | ⟨x0, x1, rfl⟩ | ⟨x0, x1, x2, rfl⟩
    · exact rm11_0_0 l Z a0 hw ws a1 a2 vb b  w h0 n0 R0 R1 R2 R3 R4 R5 R6 R7 R8 R9 g_a1 g_vb ne_a2_vb ne_b_vb ne_a1_vb ne_a1_a2 ne_a1_b hw0
    · exact rm11_0_1 l Z a0 hw ws a1 a2 vb b x0 w h0 n0 R0 R1 R2 R3 R4 R5 R6 R7 R8 R9 g_a1 g_vb ne_a2_vb ne_b_vb ne_a1_vb ne_a1_a2 ne_a1_b hw0
    · exact rm11_0_2 l Z a0 hw ws a1 a2 vb b x0 x1 w h0 n0 R0 R1 R2 R3 R4 R5 R6 R7 R8 R9 g_a1 g_vb ne_a2_vb ne_b_vb ne_a1_vb ne_a1_a2 ne_a1_b hw0
    · exact rm11_0_3 l Z a0 hw ws a1 a2 vb b x0 x1 x2 w h0 n0 R0 R1 R2 R3 R4 R5 R6 R7 R8 R9 g_a1 g_vb ne_a2_vb ne_b_vb ne_a1_vb ne_a1_a2 ne_a1_b hw0
  · rcases own_l3 xs hxs with rfl | ⟨x0, rfl⟩ | ⟨x0, x1, rfl⟩ | ⟨x0, x1, x2, rfl⟩
    · exact rm11_1_0 l Z a0 hw ws a1 a2 vb b u0 w h0 n0 R0 R1 R2 R3 R4 R5 R6 R7 R8 R9 g_a1 g_vb ne_a2_vb ne_b_vb ne_a1_vb ne_a1_a2 ne_a1_b hw0
    · exact rm11_1_1 l Z a0 hw ws a1 a2 vb b u0 x0 w h0 n0 R0 R1 R2 R3 R4 R5 R6 R7 R8 R9 g_a1 g_vb ne_a2_vb ne_b_vb ne_a1_vb ne_a1_a2 ne_a1_b hw0
    · exact rm11_1_2 l Z a0 hw ws a1 a2 vb b u0 x0 x1 w h0 n0 R0 R1 R2 R3 R4 R5 R6 R7 R8 R9 g_a1 g_vb ne_a2_vb ne_b_vb ne_a1_vb ne_a1_a2 ne_a1_b hw0
    · exact rm11_1_3 l Z a0 hw ws a1 a2 vb b u0 x0 x1 x2 w h0 n0 R0 R1 R2 R3 R4 R5 R6 R7 R8 R9 g_a1 g_vb ne_a2_vb ne_b_vb ne_a1_vb ne_a1_a2 ne_a1_b hw0
  · rcases own_l3 xs hxs with rfl | ⟨x0, rfl⟩ | ⟨x0, x1, rfl⟩ | ⟨x0, x1, x2, rfl⟩
    · exact rm11_2_0 l Z a0 hw ws a1 a2 vb b u0 u1 w h0 n0 R0 R1 R2 R3 R4 R5 R6 R7 R8 R9 g_a1 g_vb ne_a2_vb ne_b_vb ne_a1_vb ne_a1_a2 ne_a1_b hw0
    · exact rm11_2_1 l Z a0 hw ws a1 a2 vb b u0 u1 x0 w h0 n0 R0 R1 R2 R3 R4 R5 R6 R7 R8 R9 g_a1 g_vb ne_a2_vb ne_b_vb ne_a1_vb ne_a1_a2 ne_a1_b hw0
    · exact rm11_2_2 l Z a0 hw ws a1 a2 vb b u0 u1 x0 x1 w h0 n0 R0 R1 R2 R3 R4 R5 R6 R7 R8 R9 g_a1 g_vb ne_a2_vb ne_b_vb ne_a1_vb ne_a1_a2 ne_a1_b hw0
    · exact rm11_2_3 l Z a0 hw ws a1 a2 vb b u0 u1 x0 x1 x2 w h0 n0 R0 R1 R2 R3 R4 R5 R6 R7 R8 R9 g_a1 g_vb ne_a2_vb ne_b_vb ne_a1_vb ne_a1_a2 ne_a1_b hw0
  · rcases own_l3 xs hxs with rfl | ⟨x0, rfl⟩ | ⟨x0, x1, rfl⟩ | ⟨x0, x1, x2, rfl⟩
    · exact rm11_3_0 l Z a0 hw ws a1 a2 vb b u0 u1 u2 w h0 n0 R0 R1 R2 R3 R4 R5 R6 R7 R8 R9 g_a1 g_vb ne_a2_vb ne_b_vb ne_a1_vb ne_a1_a2 ne_a1_b hw0
    · exact rm11_3_1 l Z a0 hw ws a1 a2 vb b u0 u1 u2 x0 w h0 n0 R0 R1 R2 R3 R4 R5 R6 R7 R8 R9 g_a1 g_vb ne_a2_vb ne_b_vb ne_a1_vb ne_a1_a2 ne_a1_b hw0
    · exact rm11_3_2 l Z a0 hw ws a1 a2 vb b u0 u1 u2 x0 x1 w h0 n0 R0 R1 R2 R3 R4 R5 R6 R7 R8 R9 g_a1 g_vb ne_a2_vb ne_b_vb ne_a1_vb ne_a1_a2 ne_a1_b hw0
    · exact rm11_3_3 l Z a0 hw ws a1 a2 vb b u0 u1 u2 x0 x1 x2 w h0 n0 R0 R1 R2 R3 R4 R5 R6 R7 R8 R9 g_a1 g_vb ne_a2_vb ne_b_vb ne_a1_vb ne_a1_a2 ne_a1_b hw0
theorem d10_0 : decode jdk_67_method_7_code 0 = .ok (.aload_n 0, 1) := by decide +kernel
theorem d10_1 : decode jdk_67_method_7_code 1 = .ok (.aload_n 1, 1) := by decide +kernel
theorem d10_2 : decode jdk_67_method_7_code 2 = .ok (.invokespecial 29, 3) := by decide +kernel
theorem d10_5 : decode jdk_67_method_7_code 5 = .ok (.pop, 1) := by decide +kernel
theorem d10_6 : decode jdk_67_method_7_code 6 = .ok (.aload_n 0, 1) := by decide +kernel
theorem d10_7 : decode jdk_67_method_7_code 7 = .ok (.areturn, 1) := by decide +kernel
theorem pd__Ljava_lang_String__Ljava_lang_AbstractStringBuilder_ : parseMethodDescriptor "(Ljava/lang/String;)Ljava/lang/AbstractStringBuilder;" = some ⟨[(.object "java/lang/String")], some (.object "java/lang/AbstractStringBuilder")⟩ := by decide +kernel
theorem pn_10 : plainFor (⟨"java/lang/StringBuilder", "append", "(Ljava/lang/String;)Ljava/lang/StringBuilder;"⟩ : MethodName) = true := by first | exact plainFor_of_name (by first | (simp [plainName, overriddenIn]; done) | decide +kernel) | decide +kernel
theorem ef_10 (m : MethodId) (a1 : Addr) (a2 : Addr) : entryFrame m #[(.ref a1), (.ref a2)] 2 = (mkF m 0 #[.val (.ref a1), .val (.ref a2)] []) := by first | (simp [entryFrame, mkF, argsToLocals, Value.category]; done) | rfl
abbrev Q10 (Z : State) (a1 : Addr) (a2 : Addr) (vb : Addr) (b : Addr) (u : List Int32) (xs : List Int32) (w : Int32) (h0 : Heap) (n0 : Nat) : Option Value → Heap → List Loc → Prop := (fun v h L => v = some (.ref a1) ∧ Fr n0 L ∧ Keep h0 h [a1, vb] ∧ Exa Z h a1 "java/lang/StringBuilder" ∧ Fld Z h a1 "java/lang/AbstractStringBuilder" "value" "[B" (.ref vb) ∧ Fld Z h a1 "java/lang/AbstractStringBuilder" "coder" "B" (.int (0 : Int32)) ∧ Fld Z h a1 "java/lang/AbstractStringBuilder" "count" "I" (.int (oln (u ++ xs))) ∧ OA Z h vb .byte (obuf (u ++ xs)))
theorem rm10 (l : Launch) (Z : State) (a0 : Array Value) (hw : ∀ d ∈ tables_1, d.before a0 Z = true) (ws : List Jvm.Cond) (a1 : Addr) (a2 : Addr) (vb : Addr) (b : Addr) (u : List Int32) (xs : List Int32) (w : Int32) (h0 : Heap) (n0 : Nat) (R0 : Exa Z h0 a1 "java/lang/StringBuilder") (R1 : Fld Z h0 a1 "java/lang/AbstractStringBuilder" "value" "[B" (.ref vb)) (R2 : Fld Z h0 a1 "java/lang/AbstractStringBuilder" "coder" "B" (.int (0 : Int32))) (R3 : Fld Z h0 a1 "java/lang/AbstractStringBuilder" "count" "I" (.int (oln u))) (R4 : OA Z h0 vb .byte (obuf u)) (R5 : Exa Z h0 a2 "java/lang/String") (R6 : Fld Z h0 a2 "java/lang/String" "value" "[B" (.ref b)) (R7 : Fld Z h0 a2 "java/lang/String" "coder" "B" (.int (0 : Int32))) (R8 : OA Z h0 b .byte (xs.map obv)) (R9 : Sta Z h0 "java/lang/String" "COMPACT_STRINGS" "Z" (.int w)) (g_a1 : n0 ≤ a1) (g_vb : n0 ≤ vb) (ne_a2_vb : a2 ≠ vb) (ne_b_vb : b ≠ vb) (ne_a1_vb : a1 ≠ vb) (ne_a1_a2 : a1 ≠ a2) (ne_a1_b : a1 ≠ b) (hw0 : ¬ w = (0 : Int32)) (hu : u.length ≤ 3) (hxs : xs.length ≤ 3) :
    OMet l Z (⟨"java/lang/StringBuilder", "append", "(Ljava/lang/String;)Ljava/lang/StringBuilder;"⟩ : MethodName) jdk_67_method_7_code 2 (some (.object "java/lang/StringBuilder")) ws ({ frames := 4, cells := 0, slots := 0, locals := 61 } : Room) #[(.ref a1), (.ref a2)] h0 (Q10 Z a1 a2 vb b u xs w h0 n0) := by
  refine own_enter pn_10 ?_
  intro p e s m below meth c s₁ hx hby hml0 hown hret hlk hnm hZ X0 e0
  have hml : c.maxLocals = 2 := hml0
  have B : BX p c jdk_67_method_7_code := ⟨hx, hby⟩
  have N0 := Fr.nil n0
  refine own_cast (ef_10 m a1 a2) ?_
  refine waloadN OGc 1 X0 B d10_0 rfl rfl rfl ?_
  refine waloadN OGc 2 X0 B d10_1 rfl rfl rfl ?_
  obtain ⟨_, _, ⟨T1, L1, k1, n1⟩, -, X1, ⟨Lc1, hQ1, l1, y1, z1⟩, st1⟩ := superBack X0 hx hZ (y := (⟨"java/lang/AbstractStringBuilder", "append", "(Ljava/lang/String;)Ljava/lang/AbstractStringBuilder;"⟩ : MethodName)) hown (ow hw 72 rfl) (own_same (ow hw 73 rfl) (ow hw 93 rfl) rfl (by decide)) (ow hw 73 rfl) (ow hw 74 rfl) (by decide) (backOf (W := 0) (rm := ({ frames := 3, cells := 0, slots := 0, locals := 47 } : Room)) (rm11 l Z a0 hw [] a1 a2 vb b u xs w h0 n0 R0 R1 R2 R3 R4 R5 R6 R7 R8 R9 g_a1 g_vb ne_a2_vb ne_b_vb ne_a1_vb ne_a1_a2 ne_a1_b hw0 hu hxs) hZ (ow hw 76 rfl) (ow hw 59 rfl) (by decide) (by decide)) e0 (Ins.self R0) (g := (mkF m 2 #[.val (.ref a1), .val (.ref a2)] [(.ref a2), (.ref a1)])) rfl (by rw [hml]; rfl) (ow hw 76 rfl) (argsL := [(.ref a2)]) (rest := []) (lenOf pd__Ljava_lang_String__Ljava_lang_AbstractStringBuilder_ rfl) rfl (by show 2 * 0 + _ ≤ _; exact Nat.le_of_eq rfl) (hb hby d10_2) (fun _ _ => ⟨rfl, e0, (by decide : 0 + 0 ≤ _), (by decide : 0 + 0 ≤ _)⟩)
  dsimp only [Pt.U, Pt.locs, Pt.cells, Pt.slots] at X1 l1 y1 z1 st1 hQ1
  subst l1 y1 z1
  obtain ⟨rfl, N1q, K1q, P1_0, P1_1, P1_2, P1_3, P1_4⟩ := hQ1
  refine own_st (fun t k => st1.trans k) ?_
  have N1 := Fr.app N0 N1q
  have K1 := (Keep.refl h0 [a1, vb]).trans K1q (own_all2 (Or.inl (List.mem_of_getElem? (i := 0) rfl)) (Or.inl (List.mem_of_getElem? (i := 1) rfl)))
  have F2 := R5.keep K1q
  have F3 := R6.keep K1q (own_nin2 (Ne.symm ne_a1_a2) ne_a2_vb)
  have F4 := R7.keep K1q (own_nin2 (Ne.symm ne_a1_a2) ne_a2_vb)
  have F5 := R8.keep K1q (own_nin2 (Ne.symm ne_a1_b) ne_b_vb)
  have F6 := own_staK R9 K1q (own_all2 (own_plE R0) (own_plA R4))
  show OG p e _ s below _ T1 (mkF m 5 #[.val (.ref a1), .val (.ref a2)] [(.ref a1)])
  refine wpop OGc 6 X1 B d10_5 rfl rfl ?_
  refine waloadN OGc 7 X1 B d10_6 rfl rfl rfl ?_
  refine own_retV X1 hx hret rfl (Or.inr (Or.inr (Or.inr (Or.inr ⟨rfl, rfl, rfl⟩)))) hlk (hb hby d10_7) (by decide) (by decide) ?_
  exact ⟨rfl, N1, K1, P1_0, P1_1, P1_2, P1_3, P1_4⟩
theorem d21_0 : decode jdk_68_method_64_code 0 = .ok (.aload_n 0, 1) := by decide +kernel
theorem d21_1 : decode jdk_68_method_64_code 1 = .ok (.getfield 15, 3) := by decide +kernel
theorem d21_4 : decode jdk_68_method_64_code 4 = .ok (.areturn, 1) := by decide +kernel
theorem pn_21 : plainFor (⟨"java/lang/AbstractStringBuilder", "getValue", "()[B"⟩ : MethodName) = true := by first | exact plainFor_of_name (by first | (simp [plainName, overriddenIn]; done) | decide +kernel) | decide +kernel
theorem ef_21 (m : MethodId) (a1 : Addr) : entryFrame m #[(.ref a1)] 1 = (mkF m 0 #[.val (.ref a1)] []) := by first | (simp [entryFrame, mkF, argsToLocals, Value.category]; done) | rfl
abbrev Q21 (Z : State) (a1 : Addr) (vb : Addr) (h0 : Heap) (n0 : Nat) : Option Value → Heap → List Loc → Prop := (fun v h L => v = some (.ref vb) ∧ Fr n0 L ∧ Keep h0 h [])
theorem rm21 (l : Launch) (Z : State) (a0 : Array Value) (hw : ∀ d ∈ tables_1, d.before a0 Z = true) (ws : List Jvm.Cond) (a1 : Addr) (vb : Addr) (h0 : Heap) (n0 : Nat) (R0 : Fld Z h0 a1 "java/lang/AbstractStringBuilder" "value" "[B" (.ref vb)) :
    OMet l Z (⟨"java/lang/AbstractStringBuilder", "getValue", "()[B"⟩ : MethodName) jdk_68_method_64_code 1 (some (.array .byte)) ws ({ frames := 0, cells := 0, slots := 0, locals := 0 } : Room) #[(.ref a1)] h0 (Q21 Z a1 vb h0 n0) := by
  refine own_enter pn_21 ?_
  intro p e s m below meth c s₁ hx hby hml0 hown hret hlk hnm hZ X0 e0
  have hml : c.maxLocals = 1 := hml0
  have B : BX p c jdk_68_method_64_code := ⟨hx, hby⟩
  have N0 := Fr.nil n0
  refine own_cast (ef_21 m a1) ?_
  refine waloadN OGc 1 X0 B d21_0 rfl rfl rfl ?_
  refine wgetF OGc 4 X0 B hZ hown (ow hw 63 rfl) e0 R0 d21_1 rfl fun T1 X1 e1 => ?_
  refine own_retV X1 hx hret rfl (Or.inr (Or.inr (Or.inr (Or.inr ⟨rfl, rfl, rfl⟩)))) hlk (hb hby d21_4) (by decide) (by decide) ?_
  rw [e1]
  exact ⟨rfl, N0, (Keep.refl h0 [])⟩
theorem d24_0 : decode jdk_68_method_68_code 0 = .ok (.getstatic 18, 3) := by decide +kernel
theorem d24_3 : decode jdk_68_method_68_code 3 = .ok (.ifCond .eq 14, 3) := by decide +kernel
theorem d24_6 : decode jdk_68_method_68_code 6 = .ok (.aload_n 0, 1) := by decide +kernel
theorem d24_7 : decode jdk_68_method_68_code 7 = .ok (.getfield 22, 3) := by decide +kernel
theorem d24_10 : decode jdk_68_method_68_code 10 = .ok (.ifCond .ne 7, 3) := by decide +kernel
theorem d24_13 : decode jdk_68_method_68_code 13 = .ok (.iconst 1, 1) := by decide +kernel
theorem d24_14 : decode jdk_68_method_68_code 14 = .ok (.goto 4, 3) := by decide +kernel
theorem d24_18 : decode jdk_68_method_68_code 18 = .ok (.ireturn, 1) := by decide +kernel
theorem pn_24 : plainFor (⟨"java/lang/AbstractStringBuilder", "isLatin1", "()Z"⟩ : MethodName) = true := by first | exact plainFor_of_name (by first | (simp [plainName, overriddenIn]; done) | decide +kernel) | decide +kernel
theorem ef_24 (m : MethodId) (a1 : Addr) : entryFrame m #[(.ref a1)] 1 = (mkF m 0 #[.val (.ref a1)] []) := by first | (simp [entryFrame, mkF, argsToLocals, Value.category]; done) | rfl
abbrev Q24 (Z : State) (a1 : Addr) (w : Int32) (h0 : Heap) (n0 : Nat) : Option Value → Heap → List Loc → Prop := (fun v h L => v = some (.int (1 : Int32)) ∧ Fr n0 L ∧ Keep h0 h [])
theorem rm24 (l : Launch) (Z : State) (a0 : Array Value) (hw : ∀ d ∈ tables_1, d.before a0 Z = true) (ws : List Jvm.Cond) (a1 : Addr) (w : Int32) (h0 : Heap) (n0 : Nat) (R0 : Fld Z h0 a1 "java/lang/AbstractStringBuilder" "coder" "B" (.int (0 : Int32))) (R1 : Sta Z h0 "java/lang/String" "COMPACT_STRINGS" "Z" (.int w)) (hw0 : ¬ w = (0 : Int32)) :
    OMet l Z (⟨"java/lang/AbstractStringBuilder", "isLatin1", "()Z"⟩ : MethodName) jdk_68_method_68_code 1 (some .boolean) ws ({ frames := 0, cells := 0, slots := 0, locals := 0 } : Room) #[(.ref a1)] h0 (Q24 Z a1 w h0 n0) := by
  refine own_enter pn_24 ?_
  intro p e s m below meth c s₁ hx hby hml0 hown hret hlk hnm hZ X0 e0
  have hml : c.maxLocals = 1 := hml0
  have B : BX p c jdk_68_method_68_code := ⟨hx, hby⟩
  have N0 := Fr.nil n0
  refine own_cast (ef_24 m a1) ?_
  refine wgetS OGc 3 X0 B hZ hown (ow hw 62 rfl) e0 R1 d24_0 rfl fun T1 X1 e1 => ?_
  refine wifNo OGc 6 X1 B d24_3 (own_if0 (feq hw0).1) rfl ?_
  refine waloadN OGc 7 X1 B d24_6 rfl rfl rfl ?_
  refine wgetF OGc 10 X1 B hZ hown (ow hw 65 rfl) e1 R0 d24_7 rfl fun T2 X2 e2 => ?_
  refine wifNo OGc 13 X2 B d24_10 (by decide) rfl ?_
  refine wiconst OGc 14 X2 B d24_13 1 rfl rfl ?_
  refine wgoto OGc 18 X2 B d24_14 rfl ?_
  refine own_retZ X2 hx (t := .boolean) hret (by simp) hlk (hb hby d24_18) (by decide) (by decide) (w := (1 : Int32)) rfl ?_
  rw [e2]
  exact ⟨rfl, N0, (Keep.refl h0 [])⟩
theorem d23_0 : decode jdk_68_method_6_code 0 = .ok (.aload_n 0, 1) := by decide +kernel
theorem d23_1 : decode jdk_68_method_6_code 1 = .ok (.getfield 79, 3) := by decide +kernel
theorem d23_4 : decode jdk_68_method_6_code 4 = .ok (.ireturn, 1) := by decide +kernel
theorem pn_23 : plainFor (⟨"java/lang/AbstractStringBuilder", "length", "()I"⟩ : MethodName) = true := by first | exact plainFor_of_name (by first | (simp [plainName, overriddenIn]; done) | decide +kernel) | decide +kernel
theorem ef_23 (m : MethodId) (a1 : Addr) : entryFrame m #[(.ref a1)] 1 = (mkF m 0 #[.val (.ref a1)] []) := by first | (simp [entryFrame, mkF, argsToLocals, Value.category]; done) | rfl
abbrev Q23_0 (Z : State) (a1 : Addr) (h0 : Heap) (n0 : Nat) : Option Value → Heap → List Loc → Prop := (fun v h L => v = some (.int (0 : Int32)) ∧ Fr n0 L ∧ Keep h0 h [])
theorem rm23_0 (l : Launch) (Z : State) (a0 : Array Value) (hw : ∀ d ∈ tables_1, d.before a0 Z = true) (ws : List Jvm.Cond) (a1 : Addr) (h0 : Heap) (n0 : Nat) (R0 : Fld Z h0 a1 "java/lang/AbstractStringBuilder" "count" "I" (.int (0 : Int32))) :
    OMet l Z (⟨"java/lang/AbstractStringBuilder", "length", "()I"⟩ : MethodName) jdk_68_method_6_code 1 (some .int) ws ({ frames := 0, cells := 0, slots := 0, locals := 0 } : Room) #[(.ref a1)] h0 (Q23_0 Z a1 h0 n0) := by
  refine own_enter pn_23 ?_
  intro p e s m below meth c s₁ hx hby hml0 hown hret hlk hnm hZ X0 e0
  have hml : c.maxLocals = 1 := hml0
  have B : BX p c jdk_68_method_6_code := ⟨hx, hby⟩
  have N0 := Fr.nil n0
  refine own_cast (ef_23 m a1) ?_
  refine waloadN OGc 1 X0 B d23_0 rfl rfl rfl ?_
  refine wgetF OGc 4 X0 B hZ hown (ow hw 88 rfl) e0 R0 d23_1 rfl fun T1 X1 e1 => ?_
  refine own_retI X1 hx hret hlk (hb hby d23_4) (by decide) (by decide) ?_
  rw [e1]
  exact ⟨rfl, N0, (Keep.refl h0 [])⟩
theorem d22_0 : decode jdk_67_method_93_code 0 = .ok (.aload_n 0, 1) := by decide +kernel
theorem d22_1 : decode jdk_67_method_93_code 1 = .ok (.invokespecial 343, 3) := by decide +kernel
theorem d22_4 : decode jdk_67_method_93_code 4 = .ok (.ireturn, 1) := by decide +kernel
theorem pn_22 : plainFor (⟨"java/lang/StringBuilder", "length", "()I"⟩ : MethodName) = true := by first | exact plainFor_of_name (by first | (simp [plainName, overriddenIn]; done) | decide +kernel) | decide +kernel
theorem ef_22 (m : MethodId) (a1 : Addr) : entryFrame m #[(.ref a1)] 1 = (mkF m 0 #[.val (.ref a1)] []) := by first | (simp [entryFrame, mkF, argsToLocals, Value.category]; done) | rfl
abbrev Q22_0 (Z : State) (a1 : Addr) (h0 : Heap) (n0 : Nat) : Option Value → Heap → List Loc → Prop := (fun v h L => v = some (.int (0 : Int32)) ∧ Fr n0 L ∧ Keep h0 h [])
theorem rm22_0 (l : Launch) (Z : State) (a0 : Array Value) (hw : ∀ d ∈ tables_1, d.before a0 Z = true) (ws : List Jvm.Cond) (a1 : Addr) (h0 : Heap) (n0 : Nat) (R0 : Exa Z h0 a1 "java/lang/StringBuilder") (R1 : Fld Z h0 a1 "java/lang/AbstractStringBuilder" "count" "I" (.int (0 : Int32))) :
    OMet l Z (⟨"java/lang/StringBuilder", "length", "()I"⟩ : MethodName) jdk_67_method_93_code 1 (some .int) ws ({ frames := 1, cells := 0, slots := 0, locals := 12 } : Room) #[(.ref a1)] h0 (Q22_0 Z a1 h0 n0) := by
  refine own_enter pn_22 ?_
  intro p e s m below meth c s₁ hx hby hml0 hown hret hlk hnm hZ X0 e0
  have hml : c.maxLocals = 1 := hml0
  have B : BX p c jdk_67_method_93_code := ⟨hx, hby⟩
  have N0 := Fr.nil n0
  refine own_cast (ef_22 m a1) ?_
  refine waloadN OGc 1 X0 B d22_0 rfl rfl rfl ?_
  obtain ⟨_, _, ⟨T1, L1, k1, n1⟩, -, X1, ⟨Lc1, hQ1, l1, y1, z1⟩, st1⟩ := superBack X0 hx hZ (y := (⟨"java/lang/AbstractStringBuilder", "length", "()I"⟩ : MethodName)) hown (ow hw 138 rfl) (own_same (ow hw 134 rfl) (ow hw 93 rfl) rfl (by decide)) (ow hw 134 rfl) (ow hw 74 rfl) (by decide) (backOf (W := 0) (rm := ({ frames := 0, cells := 0, slots := 0, locals := 0 } : Room)) (rm23_0 l Z a0 hw [] a1 h0 n0 R1) hZ (ow hw 139 rfl) (ow hw 59 rfl) (by decide) (by decide)) e0 (Ins.self R0) (g := (mkF m 1 #[.val (.ref a1)] [(.ref a1)])) rfl (by rw [hml]; rfl) (ow hw 139 rfl) (argsL := []) (rest := []) (lenOf pd___I rfl) rfl (by show 2 * 0 + _ ≤ _; exact Nat.le_of_eq rfl) (hb hby d22_1) (fun _ _ => ⟨rfl, e0, (by decide : 0 + 0 ≤ _), (by decide : 0 + 0 ≤ _)⟩)
  dsimp only [Pt.U, Pt.locs, Pt.cells, Pt.slots] at X1 l1 y1 z1 st1 hQ1
  subst l1 y1 z1
  obtain ⟨rfl, N1q, K1q⟩ := hQ1
  refine own_st (fun t k => st1.trans k) ?_
  have N1 := Fr.app N0 N1q
  have K1 := (Keep.refl h0 []).trans K1q (own_all0 )
  have F2 := R0.keep K1q
  have F3 := R1.keep K1q (own_nin0 )
  show OG p e _ s below _ T1 (mkF m 4 #[.val (.ref a1)] [(.int (0 : Int32))])
  refine own_retI X1 hx hret hlk (hb hby d22_4) (by decide) (by decide) ?_
  exact ⟨rfl, N1, K1⟩
theorem d27_0 : decode jdk_65_method_131_code 0 = .ok (.iload_n 1, 1) := by decide +kernel
theorem d27_1 : decode jdk_65_method_131_code 1 = .ok (.iload_n 0, 1) := by decide +kernel
theorem d27_2 : decode jdk_65_method_131_code 2 = .ok (.if_icmp .ge 35, 3) := by decide +kernel
theorem d27_37 : decode jdk_65_method_131_code 37 = .ok (.return_, 1) := by decide +kernel
theorem pn_27 : plainFor (⟨"java/util/Arrays", "checkLength", "(II)V"⟩ : MethodName) = true := by first | exact plainFor_of_name (by first | (simp [plainName, overriddenIn]; done) | decide +kernel) | decide +kernel
theorem ef_27_0 (m : MethodId)  : entryFrame m #[(.int (0 : Int32)), (.int (0 : Int32))] 2 = (mkF m 0 #[.val (.int (0 : Int32)), .val (.int (0 : Int32))] []) := by first | (simp [entryFrame, mkF, argsToLocals, Value.category]; done) | rfl
abbrev Q27_0 (Z : State)  (h0 : Heap) (n0 : Nat) : Option Value → Heap → List Loc → Prop := (fun v h L => v = none ∧ Fr n0 L ∧ Keep h0 h [])
theorem rm27_0 (l : Launch) (Z : State) (a0 : Array Value) (hw : ∀ d ∈ tables_1, d.before a0 Z = true) (ws : List Jvm.Cond)  (h0 : Heap) (n0 : Nat) :
    OMet l Z (⟨"java/util/Arrays", "checkLength", "(II)V"⟩ : MethodName) jdk_65_method_131_code 2 none ws ({ frames := 0, cells := 0, slots := 0, locals := 0 } : Room) #[(.int (0 : Int32)), (.int (0 : Int32))] h0 (Q27_0 Z  h0 n0) := by
  refine own_enter pn_27 ?_
  intro p e s m below meth c s₁ hx hby hml0 hown hret hlk hnm hZ X0 e0
  have hml : c.maxLocals = 2 := hml0
  have B : BX p c jdk_65_method_131_code := ⟨hx, hby⟩
  have N0 := Fr.nil n0
  refine own_cast (ef_27_0 m ) ?_
  refine wiloadN OGc 1 X0 B d27_0 rfl rfl ?_
  refine wiloadN OGc 2 X0 B d27_1 rfl rfl ?_
  refine wicmpYes OGc 37 X0 B d27_2 (by decide) rfl ?_
  refine own_ret0 X0 hx hret hlk (hb hby d27_37) (by decide) (by decide) ?_
  rw [e0]
  exact ⟨rfl, N0, (Keep.refl h0 [])⟩
theorem d28_0 : decode jdk_29_method_69_code 0 = .ok (.iload_n 0, 1) := by decide +kernel
theorem d28_1 : decode jdk_29_method_69_code 1 = .ok (.iload_n 1, 1) := by decide +kernel
theorem d28_2 : decode jdk_29_method_69_code 2 = .ok (.if_icmp .gt 7, 3) := by decide +kernel
theorem d28_9 : decode jdk_29_method_69_code 9 = .ok (.iload_n 1, 1) := by decide +kernel
theorem d28_10 : decode jdk_29_method_69_code 10 = .ok (.ireturn, 1) := by decide +kernel
theorem pn_28 : plainFor (⟨"java/lang/Math", "min", "(II)I"⟩ : MethodName) = true := by first | exact plainFor_of_name (by first | (simp [plainName, overriddenIn]; done) | decide +kernel) | decide +kernel
theorem ef_28_0 (m : MethodId)  : entryFrame m #[(.int (16 : Int32)), (.int (0 : Int32))] 2 = (mkF m 0 #[.val (.int (16 : Int32)), .val (.int (0 : Int32))] []) := by first | (simp [entryFrame, mkF, argsToLocals, Value.category]; done) | rfl
abbrev Q28_0 (Z : State)  (h0 : Heap) (n0 : Nat) : Option Value → Heap → List Loc → Prop := (fun v h L => v = some (.int (0 : Int32)) ∧ Fr n0 L ∧ Keep h0 h [])
theorem rm28_0 (l : Launch) (Z : State) (a0 : Array Value) (hw : ∀ d ∈ tables_1, d.before a0 Z = true) (ws : List Jvm.Cond)  (h0 : Heap) (n0 : Nat) :
    OMet l Z (⟨"java/lang/Math", "min", "(II)I"⟩ : MethodName) jdk_29_method_69_code 2 (some .int) ws ({ frames := 0, cells := 0, slots := 0, locals := 0 } : Room) #[(.int (16 : Int32)), (.int (0 : Int32))] h0 (Q28_0 Z  h0 n0) := by
  refine own_enter pn_28 ?_
  intro p e s m below meth c s₁ hx hby hml0 hown hret hlk hnm hZ X0 e0
  have hml : c.maxLocals = 2 := hml0
  have B : BX p c jdk_29_method_69_code := ⟨hx, hby⟩
  have N0 := Fr.nil n0
  refine own_cast (ef_28_0 m ) ?_
  refine wiloadN OGc 1 X0 B d28_0 rfl rfl ?_
  refine wiloadN OGc 2 X0 B d28_1 rfl rfl ?_
  refine wicmpYes OGc 9 X0 B d28_2 (by decide) rfl ?_
  refine wiloadN OGc 10 X0 B d28_9 rfl rfl ?_
  refine own_retI X0 hx hret hlk (hb hby d28_10) (by decide) (by decide) ?_
  rw [e0]
  exact ⟨rfl, N0, (Keep.refl h0 [])⟩
theorem d26_0 : decode jdk_65_method_133_code 0 = .ok (.iload_n 1, 1) := by decide +kernel
theorem d26_1 : decode jdk_65_method_133_code 1 = .ok (.iload_n 2, 1) := by decide +kernel
theorem d26_2 : decode jdk_65_method_133_code 2 = .ok (.invokestatic 343, 3) := by decide +kernel
theorem d26_5 : decode jdk_65_method_133_code 5 = .ok (.iload_n 2, 1) := by decide +kernel
theorem d26_6 : decode jdk_65_method_133_code 6 = .ok (.iload_n 1, 1) := by decide +kernel
theorem d26_7 : decode jdk_65_method_133_code 7 = .ok (.isub, 1) := by decide +kernel
theorem d26_8 : decode jdk_65_method_133_code 8 = .ok (.istore_n 3, 1) := by decide +kernel
theorem d26_9 : decode jdk_65_method_133_code 9 = .ok (.iload_n 3, 1) := by decide +kernel
theorem d26_10 : decode jdk_65_method_133_code 10 = .ok (.newarray .byte, 2) := by decide +kernel
theorem d26_12 : decode jdk_65_method_133_code 12 = .ok (.astore 4, 2) := by decide +kernel
theorem d26_14 : decode jdk_65_method_133_code 14 = .ok (.aload_n 0, 1) := by decide +kernel
theorem d26_15 : decode jdk_65_method_133_code 15 = .ok (.iload_n 1, 1) := by decide +kernel
theorem d26_16 : decode jdk_65_method_133_code 16 = .ok (.aload 4, 2) := by decide +kernel
theorem d26_18 : decode jdk_65_method_133_code 18 = .ok (.iconst 0, 1) := by decide +kernel
theorem d26_19 : decode jdk_65_method_133_code 19 = .ok (.aload_n 0, 1) := by decide +kernel
theorem d26_20 : decode jdk_65_method_133_code 20 = .ok (.arraylength, 1) := by decide +kernel
theorem d26_21 : decode jdk_65_method_133_code 21 = .ok (.iload_n 1, 1) := by decide +kernel
theorem d26_22 : decode jdk_65_method_133_code 22 = .ok (.isub, 1) := by decide +kernel
theorem d26_23 : decode jdk_65_method_133_code 23 = .ok (.iload_n 3, 1) := by decide +kernel
theorem d26_24 : decode jdk_65_method_133_code 24 = .ok (.invokestatic 304, 3) := by decide +kernel
theorem d26_27 : decode jdk_65_method_133_code 27 = .ok (.invokestatic 150, 3) := by decide +kernel
theorem d26_30 : decode jdk_65_method_133_code 30 = .ok (.aload 4, 2) := by decide +kernel
theorem d26_32 : decode jdk_65_method_133_code 32 = .ok (.areturn, 1) := by decide +kernel
theorem pd__II_I : parseMethodDescriptor "(II)I" = some ⟨[.int, .int], some .int⟩ := by decide +kernel
theorem pn_26 : plainFor (⟨"java/util/Arrays", "copyOfRangeByte", "([BII)[B"⟩ : MethodName) = true := by first | exact plainFor_of_name (by first | (simp [plainName, overriddenIn]; done) | decide +kernel) | decide +kernel
theorem ef_26_0 (m : MethodId) (a1 : Addr) : entryFrame m #[(.ref a1), (.int (0 : Int32)), (.int (0 : Int32))] 5 = (mkF m 0 #[.val (.ref a1), .val (.int (0 : Int32)), .val (.int (0 : Int32)), .unset, .unset] []) := by first | (simp [entryFrame, mkF, argsToLocals, Value.category]; done) | rfl
abbrev Q26_0 (Z : State) (a1 : Addr) (h0 : Heap) (n0 : Nat) : Option Value → Heap → List Loc → Prop := (fun v h L => Fr n0 L ∧ Keep h0 h [] ∧ ∃ b : Addr, h0.size ≤ b ∧ v = some (.ref b) ∧ OA Z h b .byte (([] : List Int32).map obv))
theorem rm26_0 (l : Launch) (Z : State) (a0 : Array Value) (hw : ∀ d ∈ tables_1, d.before a0 Z = true) (ws : List Jvm.Cond) (a1 : Addr) (h0 : Heap) (n0 : Nat) (Z0 : n0 ≤ h0.size) (R0 : OA Z h0 a1 .byte (obuf [])) :
    OMet l Z (⟨"java/util/Arrays", "copyOfRangeByte", "([BII)[B"⟩ : MethodName) jdk_65_method_133_code 5 (some (.array .byte)) ws ({ frames := 1, cells := 1, slots := 0, locals := 18 } : Room) #[(.ref a1), (.int (0 : Int32)), (.int (0 : Int32))] h0 (Q26_0 Z a1 h0 n0) := by
  refine own_enter pn_26 ?_
  intro p e s m below meth c s₁ hx hby hml0 hown hret hlk hnm hZ X0 e0
  have hml : c.maxLocals = 5 := hml0
  have B : BX p c jdk_65_method_133_code := ⟨hx, hby⟩
  have N0 := Fr.nil n0
  refine own_cast (ef_26_0 m a1) ?_
  refine wiloadN OGc 1 X0 B d26_0 rfl rfl ?_
  refine wiloadN OGc 2 X0 B d26_1 rfl rfl ?_
  refine wstat OGc 5 X0 B hZ hown (ow hw 152 rfl) (ow hw 153 rfl) (ow hw 154 rfl) (ow hw 147 rfl) e0 (rm27_0 l Z a0 hw [] h0 n0) 0 (by decide) (by decide) hml rfl (lenOf pd__II_V rfl) [] rfl rfl d26_2 rfl fun _ T1 L1 X1 hQ1 => ?_
  obtain ⟨rfl, N1q, K1q⟩ := hQ1
  have N1 := Fr.app N0 N1q
  have K1 := (Keep.refl h0 []).trans K1q (own_all0 )
  have F2 := R0.keep K1q (own_nin0 )
  refine own_stk (S' := []) rfl ?_
  refine wiloadN OGc 6 X1 B d26_5 rfl rfl ?_
  refine wiloadN OGc 7 X1 B d26_6 rfl rfl ?_
  refine wisub OGc 8 X1 B d26_7 rfl ?_
  show OG p e _ s below _ T1 (mkF m 8 #[.val (.ref a1), .val (.int (0 : Int32)), .val (.int (0 : Int32)), .unset, .unset] [(.int (0 : Int32))])
  refine wistoreN OGc 9 X1 B d26_8 #[.val (.ref a1), .val (.int (0 : Int32)), .val (.int (0 : Int32)), .val (.int (0 : Int32)), .unset] rfl rfl ?_
  refine wiloadN OGc 10 X1 B d26_9 rfl rfl ?_
  refine wnewP OGc 12 X1 B hZ (ow hw 19 rfl) rfl d26_10 0 (by decide) (by decide) rfl fun T3 h3 b3 k3 gb3 X3 e3 E3 A3 => ?_
  have ge_b3 : n0 ≤ b3 := by rw [gb3]; exact Nat.le_trans Z0 K1.1
  have sz_b3 : h0.size ≤ b3 := by rw [gb3]; exact K1.1
  have ne_a1_b3 : a1 ≠ b3 := Nat.ne_of_lt (Nat.lt_of_lt_of_eq F2.lt gb3.symm)
  have F4 := F2.ext E3
  have K5 := K1.ext E3
  have F6 : OA Z h3 b3 .byte (([] : List Int32).map obv) := OA.new A3
  refine wastore OGc 14 X3 B d26_12 #[.val (.ref a1), .val (.int (0 : Int32)), .val (.int (0 : Int32)), .val (.int (0 : Int32)), .val (.ref b3)] rfl rfl rfl ?_
  refine waloadN OGc 15 X3 B d26_14 rfl rfl rfl ?_
  refine wiloadN OGc 16 X3 B d26_15 rfl rfl ?_
  refine waload OGc 18 X3 B d26_16 rfl rfl rfl ?_
  refine wiconst OGc 19 X3 B d26_18 0 rfl rfl ?_
  refine waloadN OGc 20 X3 B d26_19 rfl rfl rfl ?_
  refine warlenA OGc 21 X3 B hZ e3 F4 (16 : Int32) rfl d26_20 rfl ?_
  refine wiloadN OGc 22 X3 B d26_21 rfl rfl ?_
  refine wisub OGc 23 X3 B d26_22 rfl ?_
  show OG p e _ s below _ T3 (mkF m 23 #[.val (.ref a1), .val (.int (0 : Int32)), .val (.int (0 : Int32)), .val (.int (0 : Int32)), .val (.ref b3)] [(.int (16 : Int32)), (.int (0 : Int32)), (.ref b3), (.int (0 : Int32)), (.ref a1)])
  refine wiloadN OGc 24 X3 B d26_23 rfl rfl ?_
  refine wstat OGc 27 X3 B hZ hown (ow hw 155 rfl) (ow hw 156 rfl) (ow hw 158 rfl) (ow hw 157 rfl) e3 (rm28_0 l Z a0 hw [] h3 n0) 4 (by decide) (by decide) hml rfl (lenOf pd__II_I rfl) [(.int (0 : Int32)), (.ref b3), (.int (0 : Int32)), (.ref a1)] rfl rfl d26_24 rfl fun _ T8 L8 X8 hQ8 => ?_
  obtain ⟨rfl, N8q, K8q⟩ := hQ8
  have N8 := Fr.app N1 N8q
  have K8 := K5.trans K8q (own_all0 )
  have F9 := F4.keep K8q (own_nin0 )
  have F10 := F6.keep K8q (own_nin0 )
  refine own_stk (S' := [(.int (0 : Int32)), (.int (0 : Int32)), (.ref b3), (.int (0 : Int32)), (.ref a1)]) rfl ?_
  refine wcp OGc 30 X8 B hZ hown (ow hw 159 rfl) (ow hw 114 rfl) (ow hw 112 rfl) (ow hw 113 rfl) rfl F9 F10 (own_bytB [] 16) (own_bytB [] 0) 16 0 0 0 0 rfl rfl (z := (16 : Int32)) (z' := (0 : Int32)) (by decide) (([] : List Int32).map obv) rfl (([] : List Int32).map obv) rfl rfl N8 ge_b3 hml rfl d26_27 (W := 0) rfl (by decide) rfl fun T11 h11 L11 X11 e11 N11 K11q A11 => ?_
  have K11 : Keep h0 h11 [] := K8.trans K11q (own_all1 (Or.inr sz_b3))
  have F12 := F9.keep K11q (own_nin1 ne_a1_b3)
  have F13 : OA Z h11 b3 .byte (([] : List Int32).map obv) := A11
  refine waload OGc 32 X11 B d26_30 rfl rfl rfl ?_
  refine own_retV X11 hx hret rfl (Or.inr (Or.inr (Or.inr (Or.inr ⟨rfl, rfl, rfl⟩)))) hlk (hb hby d26_32) (by decide) (by decide) ?_
  rw [e11]
  exact ⟨N11, K11, b3, sz_b3, rfl, F13⟩
theorem d25_0 : decode jdk_65_method_132_code 0 = .ok (.iload_n 1, 1) := by decide +kernel
theorem d25_1 : decode jdk_65_method_132_code 1 = .ok (.ifCond .ne 9, 3) := by decide +kernel
theorem d25_4 : decode jdk_65_method_132_code 4 = .ok (.iload_n 2, 1) := by decide +kernel
theorem d25_5 : decode jdk_65_method_132_code 5 = .ok (.aload_n 0, 1) := by decide +kernel
theorem d25_6 : decode jdk_65_method_132_code 6 = .ok (.arraylength, 1) := by decide +kernel
theorem d25_7 : decode jdk_65_method_132_code 7 = .ok (.if_icmp .eq 10, 3) := by decide +kernel
theorem d25_10 : decode jdk_65_method_132_code 10 = .ok (.aload_n 0, 1) := by decide +kernel
theorem d25_11 : decode jdk_65_method_132_code 11 = .ok (.iload_n 1, 1) := by decide +kernel
theorem d25_12 : decode jdk_65_method_132_code 12 = .ok (.iload_n 2, 1) := by decide +kernel
theorem d25_13 : decode jdk_65_method_132_code 13 = .ok (.invokestatic 339, 3) := by decide +kernel
theorem d25_16 : decode jdk_65_method_132_code 16 = .ok (.areturn, 1) := by decide +kernel
theorem pd___BII__B : parseMethodDescriptor "([BII)[B" = some ⟨[(.array .byte), .int, .int], some (.array .byte)⟩ := by decide +kernel
theorem pn_25 : plainFor (⟨"java/util/Arrays", "copyOfRange", "([BII)[B"⟩ : MethodName) = true := by first | exact plainFor_of_name (by first | (simp [plainName, overriddenIn]; done) | decide +kernel) | decide +kernel
theorem ef_25_0 (m : MethodId) (a1 : Addr) : entryFrame m #[(.ref a1), (.int (0 : Int32)), (.int (0 : Int32))] 3 = (mkF m 0 #[.val (.ref a1), .val (.int (0 : Int32)), .val (.int (0 : Int32))] []) := by first | (simp [entryFrame, mkF, argsToLocals, Value.category]; done) | rfl
abbrev Q25_0 (Z : State) (a1 : Addr) (h0 : Heap) (n0 : Nat) : Option Value → Heap → List Loc → Prop := (fun v h L => Fr n0 L ∧ Keep h0 h [] ∧ ∃ b : Addr, h0.size ≤ b ∧ v = some (.ref b) ∧ OA Z h b .byte (([] : List Int32).map obv))
theorem rm25_0 (l : Launch) (Z : State) (a0 : Array Value) (hw : ∀ d ∈ tables_1, d.before a0 Z = true) (ws : List Jvm.Cond) (a1 : Addr) (h0 : Heap) (n0 : Nat) (Z0 : n0 ≤ h0.size) (R0 : OA Z h0 a1 .byte (obuf [])) :
    OMet l Z (⟨"java/util/Arrays", "copyOfRange", "([BII)[B"⟩ : MethodName) jdk_65_method_132_code 3 (some (.array .byte)) ws ({ frames := 2, cells := 1, slots := 0, locals := 34 } : Room) #[(.ref a1), (.int (0 : Int32)), (.int (0 : Int32))] h0 (Q25_0 Z a1 h0 n0) := by
  refine own_enter pn_25 ?_
  intro p e s m below meth c s₁ hx hby hml0 hown hret hlk hnm hZ X0 e0
  have hml : c.maxLocals = 3 := hml0
  have B : BX p c jdk_65_method_132_code := ⟨hx, hby⟩
  have N0 := Fr.nil n0
  refine own_cast (ef_25_0 m a1) ?_
  refine wiloadN OGc 1 X0 B d25_0 rfl rfl ?_
  refine wifNo OGc 4 X0 B d25_1 (by decide) rfl ?_
  refine wiloadN OGc 5 X0 B d25_4 rfl rfl ?_
  refine waloadN OGc 6 X0 B d25_5 rfl rfl rfl ?_
  refine warlenA OGc 7 X0 B hZ e0 R0 (16 : Int32) rfl d25_6 rfl ?_
  refine wicmpNo OGc 10 X0 B d25_7 (by decide) rfl ?_
  refine waloadN OGc 11 X0 B d25_10 rfl rfl rfl ?_
  refine wiloadN OGc 12 X0 B d25_11 rfl rfl ?_
  refine wiloadN OGc 13 X0 B d25_12 rfl rfl ?_
  refine wstat OGc 16 X0 B hZ hown (ow hw 149 rfl) (ow hw 150 rfl) (ow hw 151 rfl) (ow hw 147 rfl) e0 (rm26_0 l Z a0 hw [] a1 h0 n0 (Nat.le_trans Z0 (Keep.refl h0 []).1) R0) 0 (by decide) (by decide) hml rfl (lenOf pd___BII__B rfl) [] rfl rfl d25_13 rfl fun _ T2 L2 X2 hQ2 => ?_
  obtain ⟨N2q, K2q, b_2, sz_b_2, rfl, P2_0⟩ := hQ2
  have N2 := Fr.app N0 N2q
  have ge_b_2 : n0 ≤ b_2 := Nat.le_trans (Nat.le_trans Z0 (Keep.refl h0 []).1) sz_b_2
  have sy_b_2 : h0.size ≤ b_2 := Nat.le_trans (Keep.refl h0 []).1 sz_b_2
  have ne_a1_b_2 : a1 ≠ b_2 := Nat.ne_of_lt (Nat.lt_of_lt_of_le R0.lt sz_b_2)
  have K2 := (Keep.refl h0 []).trans K2q (own_all0 )
  have F3 := R0.keep K2q (own_nin0 )
  refine own_stk (S' := [(.ref b_2)]) rfl ?_
  refine own_retV X2 hx hret rfl (Or.inr (Or.inr (Or.inr (Or.inr ⟨rfl, rfl, rfl⟩)))) hlk (hb hby d25_16) (by decide) (by decide) ?_
  exact ⟨N2, K2, b_2, sy_b_2, rfl, P2_0⟩
theorem d20_0 : decode jdk_42_method_150_code 0 = .ok (.aload_n 0, 1) := by decide +kernel
theorem d20_1 : decode jdk_42_method_150_code 1 = .ok (.invokespecial 1, 3) := by decide +kernel
theorem d20_4 : decode jdk_42_method_150_code 4 = .ok (.aload_n 1, 1) := by decide +kernel
theorem d20_5 : decode jdk_42_method_150_code 5 = .ok (.invokevirtual 552, 3) := by decide +kernel
theorem d20_8 : decode jdk_42_method_150_code 8 = .ok (.astore_n 3, 1) := by decide +kernel
theorem d20_9 : decode jdk_42_method_150_code 9 = .ok (.aload_n 1, 1) := by decide +kernel
theorem d20_10 : decode jdk_42_method_150_code 10 = .ok (.invokevirtual 549, 3) := by decide +kernel
theorem d20_13 : decode jdk_42_method_150_code 13 = .ok (.istore 4, 2) := by decide +kernel
theorem d20_15 : decode jdk_42_method_150_code 15 = .ok (.aload_n 1, 1) := by decide +kernel
theorem d20_16 : decode jdk_42_method_150_code 16 = .ok (.invokevirtual 1047, 3) := by decide +kernel
theorem d20_19 : decode jdk_42_method_150_code 19 = .ok (.ifCond .eq 22, 3) := by decide +kernel
theorem d20_22 : decode jdk_42_method_150_code 22 = .ok (.aload_n 0, 1) := by decide +kernel
theorem d20_23 : decode jdk_42_method_150_code 23 = .ok (.iconst 0, 1) := by decide +kernel
theorem d20_24 : decode jdk_42_method_150_code 24 = .ok (.putfield 15, 3) := by decide +kernel
theorem d20_27 : decode jdk_42_method_150_code 27 = .ok (.aload_n 0, 1) := by decide +kernel
theorem d20_28 : decode jdk_42_method_150_code 28 = .ok (.aload_n 3, 1) := by decide +kernel
theorem d20_29 : decode jdk_42_method_150_code 29 = .ok (.iconst 0, 1) := by decide +kernel
theorem d20_30 : decode jdk_42_method_150_code 30 = .ok (.iload 4, 2) := by decide +kernel
theorem d20_32 : decode jdk_42_method_150_code 32 = .ok (.invokestatic 54, 3) := by decide +kernel
theorem d20_35 : decode jdk_42_method_150_code 35 = .ok (.putfield 9, 3) := by decide +kernel
theorem d20_38 : decode jdk_42_method_150_code 38 = .ok (.goto 59, 3) := by decide +kernel
theorem d20_97 : decode jdk_42_method_150_code 97 = .ok (.return_, 1) := by decide +kernel
theorem pd____B : parseMethodDescriptor "()[B" = some ⟨[], some (.array .byte)⟩ := by decide +kernel
theorem pn_20 : plainFor (⟨"java/lang/String", "<init>", "(Ljava/lang/AbstractStringBuilder;Ljava/lang/Void;)V"⟩ : MethodName) = true := by first | exact plainFor_of_name (by first | (simp [plainName, overriddenIn]; done) | decide +kernel) | decide +kernel
theorem ef_20_0 (m : MethodId) (a1 : Addr) (a2 : Addr) : entryFrame m #[(.ref a1), (.ref a2), .null] 5 = (mkF m 0 #[.val (.ref a1), .val (.ref a2), .val .null, .unset, .unset] []) := by first | (simp [entryFrame, mkF, argsToLocals, Value.category]; done) | rfl
abbrev Q20_0 (Z : State) (a1 : Addr) (a2 : Addr) (vb : Addr) (w : Int32) (h0 : Heap) (n0 : Nat) : Option Value → Heap → List Loc → Prop := (fun v h L => v = none ∧ Fr n0 L ∧ Keep h0 h [a1] ∧ ∃ b : Addr, h0.size ≤ b ∧ Exa Z h a1 "java/lang/String" ∧ Fld Z h a1 "java/lang/String" "value" "[B" (.ref b) ∧ Fld Z h a1 "java/lang/String" "coder" "B" (.int (0 : Int32)) ∧ OA Z h b .byte (([] : List Int32).map obv))
theorem rm20_0 (l : Launch) (Z : State) (a0 : Array Value) (hw : ∀ d ∈ tables_1, d.before a0 Z = true) (ws : List Jvm.Cond) (a1 : Addr) (a2 : Addr) (vb : Addr) (w : Int32) (h0 : Heap) (n0 : Nat) (Z0 : n0 ≤ h0.size) (R0 : Exa Z h0 a1 "java/lang/String") (R1 : Fld Z h0 a1 "java/lang/String" "value" "[B" .null) (R2 : Fld Z h0 a1 "java/lang/String" "coder" "B" (.int (0 : Int32))) (R3 : Exa Z h0 a2 "java/lang/StringBuilder") (R4 : Fld Z h0 a2 "java/lang/AbstractStringBuilder" "value" "[B" (.ref vb)) (R5 : Fld Z h0 a2 "java/lang/AbstractStringBuilder" "coder" "B" (.int (0 : Int32))) (R6 : Fld Z h0 a2 "java/lang/AbstractStringBuilder" "count" "I" (.int (0 : Int32))) (R7 : OA Z h0 vb .byte (obuf [])) (R8 : Sta Z h0 "java/lang/String" "COMPACT_STRINGS" "Z" (.int w)) (g_a1 : n0 ≤ a1) (ne_a1_a2 : a1 ≠ a2) (ne_a1_vb : a1 ≠ vb) (hw0 : ¬ w = (0 : Int32)) :
    OMet l Z (⟨"java/lang/String", "<init>", "(Ljava/lang/AbstractStringBuilder;Ljava/lang/Void;)V"⟩ : MethodName) jdk_42_method_150_code 5 none ws ({ frames := 3, cells := 1, slots := 0, locals := 49 } : Room) #[(.ref a1), (.ref a2), .null] h0 (Q20_0 Z a1 a2 vb w h0 n0) := by
  refine own_enter pn_20 ?_
  intro p e s m below meth c s₁ hx hby hml0 hown hret hlk hnm hZ X0 e0
  have hml : c.maxLocals = 5 := hml0
  have B : BX p c jdk_42_method_150_code := ⟨hx, hby⟩
  have N0 := Fr.nil n0
  refine own_cast (ef_20_0 m a1 a2) ?_
  refine waloadN OGc 1 X0 B d20_0 rfl rfl rfl ?_
  obtain ⟨T1, X1, e1, st1⟩ := initO X0 hx hZ hown (ow hw 15 rfl) (ow hw 16 rfl) (ow hw 17 rfl) e0 (g := (mkF m 1 #[.val (.ref a1), .val (.ref a2), .val .null, .unset, .unset] [(.ref a1)])) rfl (by rw [hml]; rfl) rfl (hb hby d20_1) (by decide) (W := 0) (by show 2 * 0 + _ ≤ _; exact Nat.le_of_eq rfl) (by decide)
  refine own_st st1 ?_
  show OG p e _ s below _ T1 (mkF m 4 #[.val (.ref a1), .val (.ref a2), .val .null, .unset, .unset] [])
  refine waloadN OGc 5 X1 B d20_4 rfl rfl rfl ?_
  refine wvirt OGc 8 X1 B hZ hown (ow hw 127 rfl) (ow hw 128 rfl) (ow hw 130 rfl) (ow hw 129 rfl) R3 (ow hw 131 rfl) (ow hw 59 rfl) e1 (rm21 l Z a0 hw [] a2 vb h0 n0 R4) 0 (by decide) (by decide) hml rfl (lenOf pd____B rfl) [] rfl rfl d20_5 rfl fun _ T2 L2 X2 hQ2 => ?_
  obtain ⟨rfl, N2q, K2q⟩ := hQ2
  have N2 := Fr.app N0 N2q
  have K2 := (Keep.refl h0 [a1]).trans K2q (own_all0 )
  have F3 := R0.keep K2q
  have F4 := R1.keep K2q (own_nin0 )
  have F5 := R2.keep K2q (own_nin0 )
  have F6 := R3.keep K2q
  have F7 := R4.keep K2q (own_nin0 )
  have F8 := R5.keep K2q (own_nin0 )
  have F9 := R6.keep K2q (own_nin0 )
  have F10 := R7.keep K2q (own_nin0 )
  have F11 := own_staK R8 K2q (own_all0 )
  refine own_stk (S' := [(.ref vb)]) rfl ?_
  refine wastoreN OGc 9 X2 B d20_8 #[.val (.ref a1), .val (.ref a2), .val .null, .val (.ref vb), .unset] rfl rfl rfl ?_
  refine waloadN OGc 10 X2 B d20_9 rfl rfl rfl ?_
  obtain ⟨cq12, kq12, q12a, q12b, q12c⟩ := isOf hZ rfl F6
  obtain ⟨_, _, ⟨T12, L12, k12, n12⟩, -, X12, ⟨Lc12, hQ12, l12, y12, z12⟩, st12⟩ := X2.virtualBack hx (y := (⟨"java/lang/AbstractStringBuilder", "length", "()I"⟩ : MethodName)) (z := (⟨"java/lang/StringBuilder", "length", "()I"⟩ : MethodName)) hown (mvT hZ (ow hw 132 rfl)) (mvT hZ (ow hw 133 rfl)) (own_nf (args := #[]) (mvT hZ (ow hw 93 rfl)) rfl) (mvT hZ (ow hw 135 rfl)) (mvT hZ (ow hw 136 rfl)) (by decide) (backOf (W := 0) (rm := ({ frames := 1, cells := 0, slots := 0, locals := 12 } : Room)) (rm22_0 l Z a0 hw [] a2 T2.heap n0 F6 F9) hZ (ow hw 137 rfl) (ow hw 51 rfl) (by decide) (by decide)) q12a q12c (g := (mkF m 10 #[.val (.ref a1), .val (.ref a2), .val .null, .val (.ref vb), .unset] [(.ref a2)])) rfl (by rw [hml]; rfl) (Steps.refl _) (argsL := []) (rest := []) (lenOf pd___I rfl) rfl (by show 2 * 0 + _ ≤ _; exact Nat.le_of_eq rfl) (hb hby d20_10) (fun _ _ => ⟨rfl, rfl, (by decide : 0 + 0 ≤ _), (by decide : 0 + 0 ≤ _)⟩)
  dsimp only [Pt.U, Pt.locs, Pt.cells, Pt.slots] at X12 l12 y12 z12 st12 hQ12
  subst l12 y12 z12
  obtain ⟨rfl, N12q, K12q⟩ := hQ12
  refine own_st (fun t k => st12.trans k) ?_
  have N12 := Fr.app N2 N12q
  have K12 := K2.trans K12q (own_all0 )
  have F13 := F3.keep K12q
  have F14 := F4.keep K12q (own_nin0 )
  have F15 := F5.keep K12q (own_nin0 )
  have F16 := F6.keep K12q
  have F17 := F7.keep K12q (own_nin0 )
  have F18 := F8.keep K12q (own_nin0 )
  have F19 := F9.keep K12q (own_nin0 )
  have F20 := F10.keep K12q (own_nin0 )
  have F21 := own_staK F11 K12q (own_all0 )
  show OG p e _ s below _ T12 (mkF m 13 #[.val (.ref a1), .val (.ref a2), .val .null, .val (.ref vb), .unset] [(.int (0 : Int32))])
  refine wistore OGc 15 X12 B d20_13 #[.val (.ref a1), .val (.ref a2), .val .null, .val (.ref vb), .val (.int (0 : Int32))] rfl rfl ?_
  refine waloadN OGc 16 X12 B d20_15 rfl rfl rfl ?_
  refine wvirt OGc 19 X12 B hZ hown (ow hw 140 rfl) (ow hw 141 rfl) (ow hw 143 rfl) (ow hw 142 rfl) F16 (ow hw 144 rfl) (ow hw 59 rfl) rfl (rm24 l Z a0 hw [] a2 w T12.heap n0 F18 F21 hw0) 0 (by decide) (by decide) hml rfl (lenOf pd___Z rfl) [] rfl rfl d20_16 rfl fun _ T22 L22 X22 hQ22 => ?_
  obtain ⟨rfl, N22q, K22q⟩ := hQ22
  have N22 := Fr.app N12 N22q
  have K22 := K12.trans K22q (own_all0 )
  have F23 := F13.keep K22q
  have F24 := F14.keep K22q (own_nin0 )
  have F25 := F15.keep K22q (own_nin0 )
  have F26 := F16.keep K22q
  have F27 := F17.keep K22q (own_nin0 )
  have F28 := F18.keep K22q (own_nin0 )
  have F29 := F19.keep K22q (own_nin0 )
  have F30 := F20.keep K22q (own_nin0 )
  have F31 := own_staK F21 K22q (own_all0 )
  refine own_stk (S' := [(.int (1 : Int32))]) rfl ?_
  refine wifNo OGc 22 X22 B d20_19 (by decide) rfl ?_
  refine waloadN OGc 23 X22 B d20_22 rfl rfl rfl ?_
  refine wiconst OGc 24 X22 B d20_23 0 rfl rfl ?_
  refine wputF OGc 27 X22 B hZ hown (ow hw 25 rfl) rfl F25 F23 (Or.inr ⟨(ow hw 21 rfl), rfl, hnm⟩) (ow hw 5 rfl) (ty := .byte) (by decide) rfl rfl d20_24 rfl fun T32 h32 X32 e32 W32 => ?_
  have N32 := Fr.snoc X32 N22 g_a1
  have K33 := K22.wr W32 (Or.inl (List.mem_of_getElem? (i := 0) rfl))
  have F34 := F23.wr W32
  have F35 := F24.other W32 (Or.inr (slot_ne (Or.inr (ow hw 20 rfl)) (Or.inr (ow hw 21 rfl)) (by decide) (t := (.array .byte)) (t' := .byte) (by decide) (by decide)))
  have F36 : Fld Z h32 a1 "java/lang/String" "coder" "B" (.int (0 : Int32)) := (F25.same W32)
  have F37 := F26.wr W32
  have F38 := F27.other W32 (Or.inl (Ne.symm ne_a1_a2))
  have F39 := F28.other W32 (Or.inl (Ne.symm ne_a1_a2))
  have F40 := F29.other W32 (Or.inl (Ne.symm ne_a1_a2))
  have F41 := F30.other W32 (Ne.symm ne_a1_vb)
  have F42 := F31.wr W32
  refine waloadN OGc 28 X32 B d20_27 rfl rfl rfl ?_
  refine waloadN OGc 29 X32 B d20_28 rfl rfl rfl ?_
  refine wiconst OGc 30 X32 B d20_29 0 rfl rfl ?_
  refine wiload OGc 32 X32 B d20_30 rfl rfl ?_
  refine wstat OGc 35 X32 B hZ hown (ow hw 145 rfl) (ow hw 146 rfl) (ow hw 148 rfl) (ow hw 147 rfl) e32 (rm25_0 l Z a0 hw [] vb h32 n0 (Nat.le_trans Z0 K33.1) F41) 1 (by decide) (by decide) hml rfl (lenOf pd___BII__B rfl) [(.ref a1)] rfl rfl d20_32 rfl fun _ T43 L43 X43 hQ43 => ?_
  obtain ⟨N43q, K43q, b_43, sz_b_43, rfl, P43_0⟩ := hQ43
  have N43 := Fr.app N32 N43q
  have ge_b_43 : n0 ≤ b_43 := Nat.le_trans (Nat.le_trans Z0 K33.1) sz_b_43
  have sy_b_43 : h0.size ≤ b_43 := Nat.le_trans K33.1 sz_b_43
  have ne_a1_b_43 : a1 ≠ b_43 := Nat.ne_of_lt (Nat.lt_of_lt_of_le F34.lt sz_b_43)
  have ne_a2_b_43 : a2 ≠ b_43 := Nat.ne_of_lt (Nat.lt_of_lt_of_le F37.lt sz_b_43)
  have ne_vb_b_43 : vb ≠ b_43 := Nat.ne_of_lt (Nat.lt_of_lt_of_le F41.lt sz_b_43)
  have K43 := K33.trans K43q (own_all0 )
  have F44 := F34.keep K43q
  have F45 := F35.keep K43q (own_nin0 )
  have F46 := F36.keep K43q (own_nin0 )
  have F47 := F37.keep K43q
  have F48 := F38.keep K43q (own_nin0 )
  have F49 := F39.keep K43q (own_nin0 )
  have F50 := F40.keep K43q (own_nin0 )
  have F51 := F41.keep K43q (own_nin0 )
  have F52 := own_staK F42 K43q (own_all0 )
  refine own_stk (S' := [(.ref b_43), (.ref a1)]) rfl ?_
  refine wputF OGc 38 X43 B hZ hown (ow hw 24 rfl) rfl F45 F44 (Or.inr ⟨(ow hw 20 rfl), rfl, hnm⟩) (ow hw 5 rfl) (ty := (.array .byte)) (by decide) rfl rfl d20_35 rfl fun T53 h53 X53 e53 W53 => ?_
  have N53 := Fr.snoc X53 N43 g_a1
  have K54 := K43.wr W53 (Or.inl (List.mem_of_getElem? (i := 0) rfl))
  have F55 := F44.wr W53
  have F56 : Fld Z h53 a1 "java/lang/String" "value" "[B" (.ref b_43) := (F45.same W53)
  have F57 := F46.other W53 (Or.inr (slot_ne (Or.inr (ow hw 21 rfl)) (Or.inr (ow hw 20 rfl)) (by decide) (t := .byte) (t' := (.array .byte)) (by decide) (by decide)))
  have F58 := F47.wr W53
  have F59 := F48.other W53 (Or.inl (Ne.symm ne_a1_a2))
  have F60 := F49.other W53 (Or.inl (Ne.symm ne_a1_a2))
  have F61 := F50.other W53 (Or.inl (Ne.symm ne_a1_a2))
  have F62 := F51.other W53 (Ne.symm ne_a1_vb)
  have F63 := F52.wr W53
  have F64 := P43_0.other W53 (Ne.symm ne_a1_b_43)
  refine wgoto OGc 97 X53 B d20_38 rfl ?_
  refine own_ret0 X53 hx hret hlk (hb hby d20_97) (by decide) (by decide) ?_
  rw [e53]
  exact ⟨rfl, N53, K54, b_43, sy_b_43, F55, F56, F57, F64⟩
theorem d19_0 : decode jdk_42_method_53_code 0 = .ok (.aload_n 0, 1) := by decide +kernel
theorem d19_1 : decode jdk_42_method_53_code 1 = .ok (.aload_n 1, 1) := by decide +kernel
theorem d19_2 : decode jdk_42_method_53_code 2 = .ok (.aconst_null, 1) := by decide +kernel
theorem d19_3 : decode jdk_42_method_53_code 3 = .ok (.invokespecial 489, 3) := by decide +kernel
theorem d19_6 : decode jdk_42_method_53_code 6 = .ok (.return_, 1) := by decide +kernel
theorem pd__Ljava_lang_AbstractStringBuilder_Ljava_lang_Void__V : parseMethodDescriptor "(Ljava/lang/AbstractStringBuilder;Ljava/lang/Void;)V" = some ⟨[(.object "java/lang/AbstractStringBuilder"), (.object "java/lang/Void")], none⟩ := by decide +kernel
theorem pn_19 : plainFor (⟨"java/lang/String", "<init>", "(Ljava/lang/StringBuilder;)V"⟩ : MethodName) = true := by first | exact plainFor_of_name (by first | (simp [plainName, overriddenIn]; done) | decide +kernel) | decide +kernel
theorem ef_19 (m : MethodId) (a1 : Addr) (a2 : Addr) : entryFrame m #[(.ref a1), (.ref a2)] 2 = (mkF m 0 #[.val (.ref a1), .val (.ref a2)] []) := by first | (simp [entryFrame, mkF, argsToLocals, Value.category]; done) | rfl
abbrev Q19_0 (Z : State) (a1 : Addr) (a2 : Addr) (vb : Addr) (w : Int32) (h0 : Heap) (n0 : Nat) : Option Value → Heap → List Loc → Prop := (fun v h L => v = none ∧ Fr n0 L ∧ Keep h0 h [a1] ∧ ∃ b : Addr, h0.size ≤ b ∧ Exa Z h a1 "java/lang/String" ∧ Fld Z h a1 "java/lang/String" "value" "[B" (.ref b) ∧ Fld Z h a1 "java/lang/String" "coder" "B" (.int (0 : Int32)) ∧ OA Z h b .byte (([] : List Int32).map obv))
theorem rm19_0 (l : Launch) (Z : State) (a0 : Array Value) (hw : ∀ d ∈ tables_1, d.before a0 Z = true) (ws : List Jvm.Cond) (a1 : Addr) (a2 : Addr) (vb : Addr) (w : Int32) (h0 : Heap) (n0 : Nat) (Z0 : n0 ≤ h0.size) (R0 : Exa Z h0 a1 "java/lang/String") (R1 : Fld Z h0 a1 "java/lang/String" "value" "[B" .null) (R2 : Fld Z h0 a1 "java/lang/String" "coder" "B" (.int (0 : Int32))) (R3 : Exa Z h0 a2 "java/lang/StringBuilder") (R4 : Fld Z h0 a2 "java/lang/AbstractStringBuilder" "value" "[B" (.ref vb)) (R5 : Fld Z h0 a2 "java/lang/AbstractStringBuilder" "coder" "B" (.int (0 : Int32))) (R6 : Fld Z h0 a2 "java/lang/AbstractStringBuilder" "count" "I" (.int (0 : Int32))) (R7 : OA Z h0 vb .byte (obuf [])) (R8 : Sta Z h0 "java/lang/String" "COMPACT_STRINGS" "Z" (.int w)) (g_a1 : n0 ≤ a1) (ne_a1_a2 : a1 ≠ a2) (ne_a1_vb : a1 ≠ vb) (hw0 : ¬ w = (0 : Int32)) :
    OMet l Z (⟨"java/lang/String", "<init>", "(Ljava/lang/StringBuilder;)V"⟩ : MethodName) jdk_42_method_53_code 2 none ws ({ frames := 4, cells := 1, slots := 0, locals := 65 } : Room) #[(.ref a1), (.ref a2)] h0 (Q19_0 Z a1 a2 vb w h0 n0) := by
  refine own_enter pn_19 ?_
  intro p e s m below meth c s₁ hx hby hml0 hown hret hlk hnm hZ X0 e0
  have hml : c.maxLocals = 2 := hml0
  have B : BX p c jdk_42_method_53_code := ⟨hx, hby⟩
  have N0 := Fr.nil n0
  refine own_cast (ef_19 m a1 a2) ?_
  refine waloadN OGc 1 X0 B d19_0 rfl rfl rfl ?_
  refine waloadN OGc 2 X0 B d19_1 rfl rfl rfl ?_
  refine waconstNull OGc 3 X0 B d19_2 rfl ?_
  refine wspec OGc 6 X0 B hZ hown (ow hw 124 rfl) (ow hw 125 rfl) rfl (ow hw 126 rfl) (ow hw 6 rfl) e0 (rm20_0 l Z a0 hw [] a1 a2 vb w h0 n0 (Nat.le_trans Z0 (Keep.refl h0 [a1]).1) R0 R1 R2 R3 R4 R5 R6 R7 R8 g_a1 ne_a1_a2 ne_a1_vb hw0) 0 (by decide) (by decide) hml rfl (lenOf pd__Ljava_lang_AbstractStringBuilder_Ljava_lang_Void__V rfl) [] rfl rfl d19_3 rfl fun _ T1 L1 X1 hQ1 => ?_
  obtain ⟨rfl, N1q, K1q, b_1, sz_b_1, P1_0, P1_1, P1_2, P1_3⟩ := hQ1
  have N1 := Fr.app N0 N1q
  have ge_b_1 : n0 ≤ b_1 := Nat.le_trans (Nat.le_trans Z0 (Keep.refl h0 [a1]).1) sz_b_1
  have sy_b_1 : h0.size ≤ b_1 := Nat.le_trans (Keep.refl h0 [a1]).1 sz_b_1
  have ne_a1_b_1 : a1 ≠ b_1 := Nat.ne_of_lt (Nat.lt_of_lt_of_le R0.lt sz_b_1)
  have ne_a2_b_1 : a2 ≠ b_1 := Nat.ne_of_lt (Nat.lt_of_lt_of_le R3.lt sz_b_1)
  have ne_vb_b_1 : vb ≠ b_1 := Nat.ne_of_lt (Nat.lt_of_lt_of_le R7.lt sz_b_1)
  have K1 := (Keep.refl h0 [a1]).trans K1q (own_all1 (Or.inl (List.mem_of_getElem? (i := 0) rfl)))
  have F2 := R3.keep K1q
  have F3 := R4.keep K1q (own_nin1 (Ne.symm ne_a1_a2))
  have F4 := R5.keep K1q (own_nin1 (Ne.symm ne_a1_a2))
  have F5 := R6.keep K1q (own_nin1 (Ne.symm ne_a1_a2))
  have F6 := R7.keep K1q (own_nin1 (Ne.symm ne_a1_vb))
  have F7 := own_staK R8 K1q (own_all1 (own_plE R0))
  refine own_stk (S' := []) rfl ?_
  refine own_ret0 X1 hx hret hlk (hb hby d19_6) (by decide) (by decide) ?_
  exact ⟨rfl, N1, K1, b_1, sy_b_1, P1_0, P1_1, P1_2, P1_3⟩
theorem d18_0 : decode jdk_67_method_42_code 0 = .ok (.new 18, 3) := by decide +kernel
theorem d18_3 : decode jdk_67_method_42_code 3 = .ok (.dup, 1) := by decide +kernel
theorem d18_4 : decode jdk_67_method_42_code 4 = .ok (.aload_n 0, 1) := by decide +kernel
theorem d18_5 : decode jdk_67_method_42_code 5 = .ok (.invokespecial 137, 3) := by decide +kernel
theorem d18_8 : decode jdk_67_method_42_code 8 = .ok (.areturn, 1) := by decide +kernel
theorem pd__Ljava_lang_StringBuilder__V : parseMethodDescriptor "(Ljava/lang/StringBuilder;)V" = some ⟨[(.object "java/lang/StringBuilder")], none⟩ := by decide +kernel
theorem pn_18 : plainFor (⟨"java/lang/StringBuilder", "toString", "()Ljava/lang/String;"⟩ : MethodName) = true := by first | exact plainFor_of_name (by first | (simp [plainName, overriddenIn]; done) | decide +kernel) | decide +kernel
theorem ef_18 (m : MethodId) (a1 : Addr) : entryFrame m #[(.ref a1)] 1 = (mkF m 0 #[.val (.ref a1)] []) := by first | (simp [entryFrame, mkF, argsToLocals, Value.category]; done) | rfl
abbrev Q18_0 (Z : State) (a1 : Addr) (vb : Addr) (w : Int32) (h0 : Heap) (n0 : Nat) : Option Value → Heap → List Loc → Prop := (fun v h L => Fr n0 L ∧ Keep h0 h [] ∧ ∃ s : Addr, ∃ b : Addr, h0.size ≤ s ∧ h0.size ≤ b ∧ v = some (.ref s) ∧ Exa Z h s "java/lang/String" ∧ Fld Z h s "java/lang/String" "value" "[B" (.ref b) ∧ Fld Z h s "java/lang/String" "coder" "B" (.int (0 : Int32)) ∧ OA Z h b .byte (([] : List Int32).map obv))
theorem rm18_0 (l : Launch) (Z : State) (a0 : Array Value) (hw : ∀ d ∈ tables_1, d.before a0 Z = true) (ws : List Jvm.Cond) (a1 : Addr) (vb : Addr) (w : Int32) (h0 : Heap) (n0 : Nat) (Z0 : n0 ≤ h0.size) (R0 : Exa Z h0 a1 "java/lang/StringBuilder") (R1 : Fld Z h0 a1 "java/lang/AbstractStringBuilder" "value" "[B" (.ref vb)) (R2 : Fld Z h0 a1 "java/lang/AbstractStringBuilder" "coder" "B" (.int (0 : Int32))) (R3 : Fld Z h0 a1 "java/lang/AbstractStringBuilder" "count" "I" (.int (0 : Int32))) (R4 : OA Z h0 vb .byte (obuf [])) (R5 : Sta Z h0 "java/lang/String" "COMPACT_STRINGS" "Z" (.int w)) (hw0 : ¬ w = (0 : Int32)) :
    OMet l Z (⟨"java/lang/StringBuilder", "toString", "()Ljava/lang/String;"⟩ : MethodName) jdk_67_method_42_code 1 (some (.object "java/lang/String")) ws ({ frames := 5, cells := 2, slots := 10, locals := 79 } : Room) #[(.ref a1)] h0 (Q18_0 Z a1 vb w h0 n0) := by
  refine own_enter pn_18 ?_
  intro p e s m below meth c s₁ hx hby hml0 hown hret hlk hnm hZ X0 e0
  have hml : c.maxLocals = 1 := hml0
  have B : BX p c jdk_67_method_42_code := ⟨hx, hby⟩
  have N0 := Fr.nil n0
  refine own_cast (ef_18 m a1) ?_
  refine wnewO OGc 3 X0 B hZ hown (ow hw 120 rfl) (ow hw 5 rfl) (ow hw 6 rfl) e0 d18_0 (by decide) rfl fun T1 h1 o1 gb1 X1 e1 E1 A1 D1 => ?_
  have ge_o1 : n0 ≤ o1 := by rw [gb1]; exact Nat.le_trans Z0 (Keep.refl h0 []).1
  have sz_o1 : h0.size ≤ o1 := by rw [gb1]; exact (Keep.refl h0 []).1
  have ne_a1_o1 : a1 ≠ o1 := Nat.ne_of_lt (Nat.lt_of_lt_of_eq R0.lt gb1.symm)
  have ne_vb_o1 : vb ≠ o1 := Nat.ne_of_lt (Nat.lt_of_lt_of_eq R4.lt gb1.symm)
  have F2 := R0.ext E1
  have F3 := R1.ext E1
  have F4 := R2.ext E1
  have F5 := R3.ext E1
  have F6 := R4.ext E1
  have F7 := R5.ext E1
  have K8 := (Keep.refl h0 []).ext E1
  have F9 : Fld Z h1 o1 "java/lang/String" "value" "[B" .null := D1 (Or.inr (ow hw 20 rfl)) (ty := (.array .byte)) (by decide)
  have F10 : Fld Z h1 o1 "java/lang/String" "coder" "B" (.int (0 : Int32)) := D1 (Or.inr (ow hw 21 rfl)) (ty := .byte) (by decide)
  refine wdup OGc 4 X1 B d18_3 rfl rfl ?_
  refine waloadN OGc 5 X1 B d18_4 rfl rfl rfl ?_
  refine wspec OGc 8 X1 B hZ hown (ow hw 121 rfl) (ow hw 122 rfl) rfl (ow hw 123 rfl) (ow hw 6 rfl) e1 (rm19_0 l Z a0 hw [] o1 a1 vb w h1 n0 (Nat.le_trans Z0 K8.1) A1 F9 F10 F2 F3 F4 F5 F6 F7 ge_o1 (Ne.symm ne_a1_o1) (Ne.symm ne_vb_o1) hw0) 1 (by decide) (by decide) hml rfl (lenOf pd__Ljava_lang_StringBuilder__V rfl) [(.ref o1)] rfl rfl d18_5 rfl fun _ T11 L11 X11 hQ11 => ?_
  obtain ⟨rfl, N11q, K11q, b_11, sz_b_11, P11_0, P11_1, P11_2, P11_3⟩ := hQ11
  have N11 := Fr.app N0 N11q
  have ge_b_11 : n0 ≤ b_11 := Nat.le_trans (Nat.le_trans Z0 K8.1) sz_b_11
  have sy_b_11 : h0.size ≤ b_11 := Nat.le_trans K8.1 sz_b_11
  have ne_a1_b_11 : a1 ≠ b_11 := Nat.ne_of_lt (Nat.lt_of_lt_of_le F2.lt sz_b_11)
  have ne_o1_b_11 : o1 ≠ b_11 := Nat.ne_of_lt (Nat.lt_of_lt_of_le A1.lt sz_b_11)
  have ne_vb_b_11 : vb ≠ b_11 := Nat.ne_of_lt (Nat.lt_of_lt_of_le F6.lt sz_b_11)
  have K11 := K8.trans K11q (own_all1 (Or.inr sz_o1))
  have F12 := F2.keep K11q
  have F13 := F3.keep K11q (own_nin1 ne_a1_o1)
  have F14 := F4.keep K11q (own_nin1 ne_a1_o1)
  have F15 := F5.keep K11q (own_nin1 ne_a1_o1)
  have F16 := F6.keep K11q (own_nin1 ne_vb_o1)
  have F17 := own_staK F7 K11q (own_all1 (own_plE A1))
  refine own_stk (S' := [(.ref o1)]) rfl ?_
  refine own_retV X11 hx hret rfl (Or.inr (Or.inr (Or.inr (Or.inr ⟨rfl, rfl, rfl⟩)))) hlk (hb hby d18_8) (by decide) (by decide) ?_
  exact ⟨N11, K11, o1, b_11, sz_o1, sy_b_11, rfl, P11_0, P11_1, P11_2, P11_3⟩
abbrev Q23_1 (Z : State) (a1 : Addr) (h0 : Heap) (n0 : Nat) : Option Value → Heap → List Loc → Prop := (fun v h L => v = some (.int (1 : Int32)) ∧ Fr n0 L ∧ Keep h0 h [])
theorem rm23_1 (l : Launch) (Z : State) (a0 : Array Value) (hw : ∀ d ∈ tables_1, d.before a0 Z = true) (ws : List Jvm.Cond) (a1 : Addr) (h0 : Heap) (n0 : Nat) (R0 : Fld Z h0 a1 "java/lang/AbstractStringBuilder" "count" "I" (.int (1 : Int32))) :
    OMet l Z (⟨"java/lang/AbstractStringBuilder", "length", "()I"⟩ : MethodName) jdk_68_method_6_code 1 (some .int) ws ({ frames := 0, cells := 0, slots := 0, locals := 0 } : Room) #[(.ref a1)] h0 (Q23_1 Z a1 h0 n0) := by
  refine own_enter pn_23 ?_
  intro p e s m below meth c s₁ hx hby hml0 hown hret hlk hnm hZ X0 e0
  have hml : c.maxLocals = 1 := hml0
  have B : BX p c jdk_68_method_6_code := ⟨hx, hby⟩
  have N0 := Fr.nil n0
  refine own_cast (ef_23 m a1) ?_
  refine waloadN OGc 1 X0 B d23_0 rfl rfl rfl ?_
  refine wgetF OGc 4 X0 B hZ hown (ow hw 88 rfl) e0 R0 d23_1 rfl fun T1 X1 e1 => ?_
  refine own_retI X1 hx hret hlk (hb hby d23_4) (by decide) (by decide) ?_
  rw [e1]
  exact ⟨rfl, N0, (Keep.refl h0 [])⟩
abbrev Q22_1 (Z : State) (a1 : Addr) (h0 : Heap) (n0 : Nat) : Option Value → Heap → List Loc → Prop := (fun v h L => v = some (.int (1 : Int32)) ∧ Fr n0 L ∧ Keep h0 h [])
theorem rm22_1 (l : Launch) (Z : State) (a0 : Array Value) (hw : ∀ d ∈ tables_1, d.before a0 Z = true) (ws : List Jvm.Cond) (a1 : Addr) (h0 : Heap) (n0 : Nat) (R0 : Exa Z h0 a1 "java/lang/StringBuilder") (R1 : Fld Z h0 a1 "java/lang/AbstractStringBuilder" "count" "I" (.int (1 : Int32))) :
    OMet l Z (⟨"java/lang/StringBuilder", "length", "()I"⟩ : MethodName) jdk_67_method_93_code 1 (some .int) ws ({ frames := 1, cells := 0, slots := 0, locals := 12 } : Room) #[(.ref a1)] h0 (Q22_1 Z a1 h0 n0) := by
  refine own_enter pn_22 ?_
  intro p e s m below meth c s₁ hx hby hml0 hown hret hlk hnm hZ X0 e0
  have hml : c.maxLocals = 1 := hml0
  have B : BX p c jdk_67_method_93_code := ⟨hx, hby⟩
  have N0 := Fr.nil n0
  refine own_cast (ef_22 m a1) ?_
  refine waloadN OGc 1 X0 B d22_0 rfl rfl rfl ?_
  obtain ⟨_, _, ⟨T1, L1, k1, n1⟩, -, X1, ⟨Lc1, hQ1, l1, y1, z1⟩, st1⟩ := superBack X0 hx hZ (y := (⟨"java/lang/AbstractStringBuilder", "length", "()I"⟩ : MethodName)) hown (ow hw 138 rfl) (own_same (ow hw 134 rfl) (ow hw 93 rfl) rfl (by decide)) (ow hw 134 rfl) (ow hw 74 rfl) (by decide) (backOf (W := 0) (rm := ({ frames := 0, cells := 0, slots := 0, locals := 0 } : Room)) (rm23_1 l Z a0 hw [] a1 h0 n0 R1) hZ (ow hw 139 rfl) (ow hw 59 rfl) (by decide) (by decide)) e0 (Ins.self R0) (g := (mkF m 1 #[.val (.ref a1)] [(.ref a1)])) rfl (by rw [hml]; rfl) (ow hw 139 rfl) (argsL := []) (rest := []) (lenOf pd___I rfl) rfl (by show 2 * 0 + _ ≤ _; exact Nat.le_of_eq rfl) (hb hby d22_1) (fun _ _ => ⟨rfl, e0, (by decide : 0 + 0 ≤ _), (by decide : 0 + 0 ≤ _)⟩)
  dsimp only [Pt.U, Pt.locs, Pt.cells, Pt.slots] at X1 l1 y1 z1 st1 hQ1
  subst l1 y1 z1
  obtain ⟨rfl, N1q, K1q⟩ := hQ1
  refine own_st (fun t k => st1.trans k) ?_
  have N1 := Fr.app N0 N1q
  have K1 := (Keep.refl h0 []).trans K1q (own_all0 )
  have F2 := R0.keep K1q
  have F3 := R1.keep K1q (own_nin0 )
  show OG p e _ s below _ T1 (mkF m 4 #[.val (.ref a1)] [(.int (1 : Int32))])
  refine own_retI X1 hx hret hlk (hb hby d22_4) (by decide) (by decide) ?_
  exact ⟨rfl, N1, K1⟩
theorem ef_27_1 (m : MethodId)  : entryFrame m #[(.int (0 : Int32)), (.int (1 : Int32))] 2 = (mkF m 0 #[.val (.int (0 : Int32)), .val (.int (1 : Int32))] []) := by first | (simp [entryFrame, mkF, argsToLocals, Value.category]; done) | rfl
abbrev Q27_1 (Z : State)  (h0 : Heap) (n0 : Nat) : Option Value → Heap → List Loc → Prop := (fun v h L => v = none ∧ Fr n0 L ∧ Keep h0 h [])
theorem rm27_1 (l : Launch) (Z : State) (a0 : Array Value) (hw : ∀ d ∈ tables_1, d.before a0 Z = true) (ws : List Jvm.Cond)  (h0 : Heap) (n0 : Nat) :
    OMet l Z (⟨"java/util/Arrays", "checkLength", "(II)V"⟩ : MethodName) jdk_65_method_131_code 2 none ws ({ frames := 0, cells := 0, slots := 0, locals := 0 } : Room) #[(.int (0 : Int32)), (.int (1 : Int32))] h0 (Q27_1 Z  h0 n0) := by
  refine own_enter pn_27 ?_
  intro p e s m below meth c s₁ hx hby hml0 hown hret hlk hnm hZ X0 e0
  have hml : c.maxLocals = 2 := hml0
  have B : BX p c jdk_65_method_131_code := ⟨hx, hby⟩
  have N0 := Fr.nil n0
  refine own_cast (ef_27_1 m ) ?_
  refine wiloadN OGc 1 X0 B d27_0 rfl rfl ?_
  refine wiloadN OGc 2 X0 B d27_1 rfl rfl ?_
  refine wicmpYes OGc 37 X0 B d27_2 (by decide) rfl ?_
  refine own_ret0 X0 hx hret hlk (hb hby d27_37) (by decide) (by decide) ?_
  rw [e0]
  exact ⟨rfl, N0, (Keep.refl h0 [])⟩
theorem ef_28_1 (m : MethodId)  : entryFrame m #[(.int (16 : Int32)), (.int (1 : Int32))] 2 = (mkF m 0 #[.val (.int (16 : Int32)), .val (.int (1 : Int32))] []) := by first | (simp [entryFrame, mkF, argsToLocals, Value.category]; done) | rfl
abbrev Q28_1 (Z : State)  (h0 : Heap) (n0 : Nat) : Option Value → Heap → List Loc → Prop := (fun v h L => v = some (.int (1 : Int32)) ∧ Fr n0 L ∧ Keep h0 h [])
theorem rm28_1 (l : Launch) (Z : State) (a0 : Array Value) (hw : ∀ d ∈ tables_1, d.before a0 Z = true) (ws : List Jvm.Cond)  (h0 : Heap) (n0 : Nat) :
    OMet l Z (⟨"java/lang/Math", "min", "(II)I"⟩ : MethodName) jdk_29_method_69_code 2 (some .int) ws ({ frames := 0, cells := 0, slots := 0, locals := 0 } : Room) #[(.int (16 : Int32)), (.int (1 : Int32))] h0 (Q28_1 Z  h0 n0) := by
  refine own_enter pn_28 ?_
  intro p e s m below meth c s₁ hx hby hml0 hown hret hlk hnm hZ X0 e0
  have hml : c.maxLocals = 2 := hml0
  have B : BX p c jdk_29_method_69_code := ⟨hx, hby⟩
  have N0 := Fr.nil n0
  refine own_cast (ef_28_1 m ) ?_
  refine wiloadN OGc 1 X0 B d28_0 rfl rfl ?_
  refine wiloadN OGc 2 X0 B d28_1 rfl rfl ?_
  refine wicmpYes OGc 9 X0 B d28_2 (by decide) rfl ?_
  refine wiloadN OGc 10 X0 B d28_9 rfl rfl ?_
  refine own_retI X0 hx hret hlk (hb hby d28_10) (by decide) (by decide) ?_
  rw [e0]
  exact ⟨rfl, N0, (Keep.refl h0 [])⟩
theorem ef_26_1 (m : MethodId) (a1 : Addr) : entryFrame m #[(.ref a1), (.int (0 : Int32)), (.int (1 : Int32))] 5 = (mkF m 0 #[.val (.ref a1), .val (.int (0 : Int32)), .val (.int (1 : Int32)), .unset, .unset] []) := by first | (simp [entryFrame, mkF, argsToLocals, Value.category]; done) | rfl
abbrev Q26_1 (Z : State) (a1 : Addr) (x0 : Int32) (h0 : Heap) (n0 : Nat) : Option Value → Heap → List Loc → Prop := (fun v h L => Fr n0 L ∧ Keep h0 h [] ∧ ∃ b : Addr, h0.size ≤ b ∧ v = some (.ref b) ∧ OA Z h b .byte (([x0] : List Int32).map obv))
theorem rm26_1 (l : Launch) (Z : State) (a0 : Array Value) (hw : ∀ d ∈ tables_1, d.before a0 Z = true) (ws : List Jvm.Cond) (a1 : Addr) (x0 : Int32) (h0 : Heap) (n0 : Nat) (Z0 : n0 ≤ h0.size) (R0 : OA Z h0 a1 .byte (obuf [x0])) :
    OMet l Z (⟨"java/util/Arrays", "copyOfRangeByte", "([BII)[B"⟩ : MethodName) jdk_65_method_133_code 5 (some (.array .byte)) ws ({ frames := 1, cells := 1, slots := 1, locals := 18 } : Room) #[(.ref a1), (.int (0 : Int32)), (.int (1 : Int32))] h0 (Q26_1 Z a1 x0 h0 n0) := by
  refine own_enter pn_26 ?_
  intro p e s m below meth c s₁ hx hby hml0 hown hret hlk hnm hZ X0 e0
  have hml : c.maxLocals = 5 := hml0
  have B : BX p c jdk_65_method_133_code := ⟨hx, hby⟩
  have N0 := Fr.nil n0
  refine own_cast (ef_26_1 m a1) ?_
  refine wiloadN OGc 1 X0 B d26_0 rfl rfl ?_
  refine wiloadN OGc 2 X0 B d26_1 rfl rfl ?_
  refine wstat OGc 5 X0 B hZ hown (ow hw 152 rfl) (ow hw 153 rfl) (ow hw 154 rfl) (ow hw 147 rfl) e0 (rm27_1 l Z a0 hw [] h0 n0) 0 (by decide) (by decide) hml rfl (lenOf pd__II_V rfl) [] rfl rfl d26_2 rfl fun _ T1 L1 X1 hQ1 => ?_
  obtain ⟨rfl, N1q, K1q⟩ := hQ1
  have N1 := Fr.app N0 N1q
  have K1 := (Keep.refl h0 []).trans K1q (own_all0 )
  have F2 := R0.keep K1q (own_nin0 )
  refine own_stk (S' := []) rfl ?_
  refine wiloadN OGc 6 X1 B d26_5 rfl rfl ?_
  refine wiloadN OGc 7 X1 B d26_6 rfl rfl ?_
  refine wisub OGc 8 X1 B d26_7 rfl ?_
  show OG p e _ s below _ T1 (mkF m 8 #[.val (.ref a1), .val (.int (0 : Int32)), .val (.int (1 : Int32)), .unset, .unset] [(.int (1 : Int32))])
  refine wistoreN OGc 9 X1 B d26_8 #[.val (.ref a1), .val (.int (0 : Int32)), .val (.int (1 : Int32)), .val (.int (1 : Int32)), .unset] rfl rfl ?_
  refine wiloadN OGc 10 X1 B d26_9 rfl rfl ?_
  refine wnewP OGc 12 X1 B hZ (ow hw 19 rfl) rfl d26_10 1 (by decide) (by decide) rfl fun T3 h3 b3 k3 gb3 X3 e3 E3 A3 => ?_
  have ge_b3 : n0 ≤ b3 := by rw [gb3]; exact Nat.le_trans Z0 K1.1
  have sz_b3 : h0.size ≤ b3 := by rw [gb3]; exact K1.1
  have ne_a1_b3 : a1 ≠ b3 := Nat.ne_of_lt (Nat.lt_of_lt_of_eq F2.lt gb3.symm)
  have F4 := F2.ext E3
  have K5 := K1.ext E3
  have F6 : OA Z h3 b3 .byte [(.int (0 : Int32))] := OA.new A3
  refine wastore OGc 14 X3 B d26_12 #[.val (.ref a1), .val (.int (0 : Int32)), .val (.int (1 : Int32)), .val (.int (1 : Int32)), .val (.ref b3)] rfl rfl rfl ?_
  refine waloadN OGc 15 X3 B d26_14 rfl rfl rfl ?_
  refine wiloadN OGc 16 X3 B d26_15 rfl rfl ?_
  refine waload OGc 18 X3 B d26_16 rfl rfl rfl ?_
  refine wiconst OGc 19 X3 B d26_18 0 rfl rfl ?_
  refine waloadN OGc 20 X3 B d26_19 rfl rfl rfl ?_
  refine warlenA OGc 21 X3 B hZ e3 F4 (16 : Int32) rfl d26_20 rfl ?_
  refine wiloadN OGc 22 X3 B d26_21 rfl rfl ?_
  refine wisub OGc 23 X3 B d26_22 rfl ?_
  show OG p e _ s below _ T3 (mkF m 23 #[.val (.ref a1), .val (.int (0 : Int32)), .val (.int (1 : Int32)), .val (.int (1 : Int32)), .val (.ref b3)] [(.int (16 : Int32)), (.int (0 : Int32)), (.ref b3), (.int (0 : Int32)), (.ref a1)])
  refine wiloadN OGc 24 X3 B d26_23 rfl rfl ?_
  refine wstat OGc 27 X3 B hZ hown (ow hw 155 rfl) (ow hw 156 rfl) (ow hw 158 rfl) (ow hw 157 rfl) e3 (rm28_1 l Z a0 hw [] h3 n0) 4 (by decide) (by decide) hml rfl (lenOf pd__II_I rfl) [(.int (0 : Int32)), (.ref b3), (.int (0 : Int32)), (.ref a1)] rfl rfl d26_24 rfl fun _ T8 L8 X8 hQ8 => ?_
  obtain ⟨rfl, N8q, K8q⟩ := hQ8
  have N8 := Fr.app N1 N8q
  have K8 := K5.trans K8q (own_all0 )
  have F9 := F4.keep K8q (own_nin0 )
  have F10 := F6.keep K8q (own_nin0 )
  refine own_stk (S' := [(.int (1 : Int32)), (.int (0 : Int32)), (.ref b3), (.int (0 : Int32)), (.ref a1)]) rfl ?_
  refine wcp OGc 30 X8 B hZ hown (ow hw 159 rfl) (ow hw 114 rfl) (ow hw 112 rfl) (ow hw 113 rfl) rfl F9 F10 (own_bytB [x0] 15) (Byt.zero Byt.nil) 16 1 0 0 1 rfl rfl (z := (16 : Int32)) (z' := (1 : Int32)) (by decide) (([x0] : List Int32).map obv) rfl (([x0] : List Int32).map obv) rfl rfl N8 ge_b3 hml rfl d26_27 (W := 0) rfl (by decide) rfl fun T11 h11 L11 X11 e11 N11 K11q A11 => ?_
  have K11 : Keep h0 h11 [] := K8.trans K11q (own_all1 (Or.inr sz_b3))
  have F12 := F9.keep K11q (own_nin1 ne_a1_b3)
  have F13 : OA Z h11 b3 .byte (([x0] : List Int32).map obv) := A11
  refine waload OGc 32 X11 B d26_30 rfl rfl rfl ?_
  refine own_retV X11 hx hret rfl (Or.inr (Or.inr (Or.inr (Or.inr ⟨rfl, rfl, rfl⟩)))) hlk (hb hby d26_32) (by decide) (by decide) ?_
  rw [e11]
  exact ⟨N11, K11, b3, sz_b3, rfl, F13⟩
theorem ef_25_1 (m : MethodId) (a1 : Addr) : entryFrame m #[(.ref a1), (.int (0 : Int32)), (.int (1 : Int32))] 3 = (mkF m 0 #[.val (.ref a1), .val (.int (0 : Int32)), .val (.int (1 : Int32))] []) := by first | (simp [entryFrame, mkF, argsToLocals, Value.category]; done) | rfl
abbrev Q25_1 (Z : State) (a1 : Addr) (x0 : Int32) (h0 : Heap) (n0 : Nat) : Option Value → Heap → List Loc → Prop := (fun v h L => Fr n0 L ∧ Keep h0 h [] ∧ ∃ b : Addr, h0.size ≤ b ∧ v = some (.ref b) ∧ OA Z h b .byte (([x0] : List Int32).map obv))
theorem rm25_1 (l : Launch) (Z : State) (a0 : Array Value) (hw : ∀ d ∈ tables_1, d.before a0 Z = true) (ws : List Jvm.Cond) (a1 : Addr) (x0 : Int32) (h0 : Heap) (n0 : Nat) (Z0 : n0 ≤ h0.size) (R0 : OA Z h0 a1 .byte (obuf [x0])) :
    OMet l Z (⟨"java/util/Arrays", "copyOfRange", "([BII)[B"⟩ : MethodName) jdk_65_method_132_code 3 (some (.array .byte)) ws ({ frames := 2, cells := 1, slots := 1, locals := 34 } : Room) #[(.ref a1), (.int (0 : Int32)), (.int (1 : Int32))] h0 (Q25_1 Z a1 x0 h0 n0) := by
  refine own_enter pn_25 ?_
  intro p e s m below meth c s₁ hx hby hml0 hown hret hlk hnm hZ X0 e0
  have hml : c.maxLocals = 3 := hml0
  have B : BX p c jdk_65_method_132_code := ⟨hx, hby⟩
  have N0 := Fr.nil n0
  refine own_cast (ef_25_1 m a1) ?_
  refine wiloadN OGc 1 X0 B d25_0 rfl rfl ?_
  refine wifNo OGc 4 X0 B d25_1 (by decide) rfl ?_
  refine wiloadN OGc 5 X0 B d25_4 rfl rfl ?_
  refine waloadN OGc 6 X0 B d25_5 rfl rfl rfl ?_
  refine warlenA OGc 7 X0 B hZ e0 R0 (16 : Int32) rfl d25_6 rfl ?_
  refine wicmpNo OGc 10 X0 B d25_7 (by decide) rfl ?_
  refine waloadN OGc 11 X0 B d25_10 rfl rfl rfl ?_
  refine wiloadN OGc 12 X0 B d25_11 rfl rfl ?_
  refine wiloadN OGc 13 X0 B d25_12 rfl rfl ?_
  refine wstat OGc 16 X0 B hZ hown (ow hw 149 rfl) (ow hw 150 rfl) (ow hw 151 rfl) (ow hw 147 rfl) e0 (rm26_1 l Z a0 hw [] a1 x0 h0 n0 (Nat.le_trans Z0 (Keep.refl h0 []).1) R0) 0 (by decide) (by decide) hml rfl (lenOf pd___BII__B rfl) [] rfl rfl d25_13 rfl fun _ T2 L2 X2 hQ2 => ?_
  obtain ⟨N2q, K2q, b_2, sz_b_2, rfl, P2_0⟩ := hQ2
  have N2 := Fr.app N0 N2q
  have ge_b_2 : n0 ≤ b_2 := Nat.le_trans (Nat.le_trans Z0 (Keep.refl h0 []).1) sz_b_2
  have sy_b_2 : h0.size ≤ b_2 := Nat.le_trans (Keep.refl h0 []).1 sz_b_2
  have ne_a1_b_2 : a1 ≠ b_2 := Nat.ne_of_lt (Nat.lt_of_lt_of_le R0.lt sz_b_2)
  have K2 := (Keep.refl h0 []).trans K2q (own_all0 )
  have F3 := R0.keep K2q (own_nin0 )
  refine own_stk (S' := [(.ref b_2)]) rfl ?_
  refine own_retV X2 hx hret rfl (Or.inr (Or.inr (Or.inr (Or.inr ⟨rfl, rfl, rfl⟩)))) hlk (hb hby d25_16) (by decide) (by decide) ?_
  exact ⟨N2, K2, b_2, sy_b_2, rfl, P2_0⟩
theorem ef_20_1 (m : MethodId) (a1 : Addr) (a2 : Addr) : entryFrame m #[(.ref a1), (.ref a2), .null] 5 = (mkF m 0 #[.val (.ref a1), .val (.ref a2), .val .null, .unset, .unset] []) := by first | (simp [entryFrame, mkF, argsToLocals, Value.category]; done) | rfl
abbrev Q20_1 (Z : State) (a1 : Addr) (a2 : Addr) (vb : Addr) (x0 : Int32) (w : Int32) (h0 : Heap) (n0 : Nat) : Option Value → Heap → List Loc → Prop := (fun v h L => v = none ∧ Fr n0 L ∧ Keep h0 h [a1] ∧ ∃ b : Addr, h0.size ≤ b ∧ Exa Z h a1 "java/lang/String" ∧ Fld Z h a1 "java/lang/String" "value" "[B" (.ref b) ∧ Fld Z h a1 "java/lang/String" "coder" "B" (.int (0 : Int32)) ∧ OA Z h b .byte (([x0] : List Int32).map obv))
theorem rm20_1 (l : Launch) (Z : State) (a0 : Array Value) (hw : ∀ d ∈ tables_1, d.before a0 Z = true) (ws : List Jvm.Cond) (a1 : Addr) (a2 : Addr) (vb : Addr) (x0 : Int32) (w : Int32) (h0 : Heap) (n0 : Nat) (Z0 : n0 ≤ h0.size) (R0 : Exa Z h0 a1 "java/lang/String") (R1 : Fld Z h0 a1 "java/lang/String" "value" "[B" .null) (R2 : Fld Z h0 a1 "java/lang/String" "coder" "B" (.int (0 : Int32))) (R3 : Exa Z h0 a2 "java/lang/StringBuilder") (R4 : Fld Z h0 a2 "java/lang/AbstractStringBuilder" "value" "[B" (.ref vb)) (R5 : Fld Z h0 a2 "java/lang/AbstractStringBuilder" "coder" "B" (.int (0 : Int32))) (R6 : Fld Z h0 a2 "java/lang/AbstractStringBuilder" "count" "I" (.int (1 : Int32))) (R7 : OA Z h0 vb .byte (obuf [x0])) (R8 : Sta Z h0 "java/lang/String" "COMPACT_STRINGS" "Z" (.int w)) (g_a1 : n0 ≤ a1) (ne_a1_a2 : a1 ≠ a2) (ne_a1_vb : a1 ≠ vb) (hw0 : ¬ w = (0 : Int32)) :
    OMet l Z (⟨"java/lang/String", "<init>", "(Ljava/lang/AbstractStringBuilder;Ljava/lang/Void;)V"⟩ : MethodName) jdk_42_method_150_code 5 none ws ({ frames := 3, cells := 1, slots := 1, locals := 49 } : Room) #[(.ref a1), (.ref a2), .null] h0 (Q20_1 Z a1 a2 vb x0 w h0 n0) := by
  refine own_enter pn_20 ?_
  intro p e s m below meth c s₁ hx hby hml0 hown hret hlk hnm hZ X0 e0
  have hml : c.maxLocals = 5 := hml0
  have B : BX p c jdk_42_method_150_code := ⟨hx, hby⟩
  have N0 := Fr.nil n0
  refine own_cast (ef_20_1 m a1 a2) ?_
  refine waloadN OGc 1 X0 B d20_0 rfl rfl rfl ?_
  obtain ⟨T1, X1, e1, st1⟩ := initO X0 hx hZ hown (ow hw 15 rfl) (ow hw 16 rfl) (ow hw 17 rfl) e0 (g := (mkF m 1 #[.val (.ref a1), .val (.ref a2), .val .null, .unset, .unset] [(.ref a1)])) rfl (by rw [hml]; rfl) rfl (hb hby d20_1) (by decide) (W := 0) (by show 2 * 0 + _ ≤ _; exact Nat.le_of_eq rfl) (by decide)
  refine own_st st1 ?_
  show OG p e _ s below _ T1 (mkF m 4 #[.val (.ref a1), .val (.ref a2), .val .null, .unset, .unset] [])
  refine waloadN OGc 5 X1 B d20_4 rfl rfl rfl ?_
  refine wvirt OGc 8 X1 B hZ hown (ow hw 127 rfl) (ow hw 128 rfl) (ow hw 130 rfl) (ow hw 129 rfl) R3 (ow hw 131 rfl) (ow hw 59 rfl) e1 (rm21 l Z a0 hw [] a2 vb h0 n0 R4) 0 (by decide) (by decide) hml rfl (lenOf pd____B rfl) [] rfl rfl d20_5 rfl fun _ T2 L2 X2 hQ2 => ?_
  obtain ⟨rfl, N2q, K2q⟩ := hQ2
  have N2 := Fr.app N0 N2q
  have K2 := (Keep.refl h0 [a1]).trans K2q (own_all0 )
  have F3 := R0.keep K2q
  have F4 := R1.keep K2q (own_nin0 )
  have F5 := R2.keep K2q (own_nin0 )
  have F6 := R3.keep K2q
  have F7 := R4.keep K2q (own_nin0 )
  have F8 := R5.keep K2q (own_nin0 )
  have F9 := R6.keep K2q (own_nin0 )
  have F10 := R7.keep K2q (own_nin0 )
  have F11 := own_staK R8 K2q (own_all0 )
  refine own_stk (S' := [(.ref vb)]) rfl ?_
  refine wastoreN OGc 9 X2 B d20_8 #[.val (.ref a1), .val (.ref a2), .val .null, .val (.ref vb), .unset] rfl rfl rfl ?_
  refine waloadN OGc 10 X2 B d20_9 rfl rfl rfl ?_
  obtain ⟨cq12, kq12, q12a, q12b, q12c⟩ := isOf hZ rfl F6
  obtain ⟨_, _, ⟨T12, L12, k12, n12⟩, -, X12, ⟨Lc12, hQ12, l12, y12, z12⟩, st12⟩ := X2.virtualBack hx (y := (⟨"java/lang/AbstractStringBuilder", "length", "()I"⟩ : MethodName)) (z := (⟨"java/lang/StringBuilder", "length", "()I"⟩ : MethodName)) hown (mvT hZ (ow hw 132 rfl)) (mvT hZ (ow hw 133 rfl)) (own_nf (args := #[]) (mvT hZ (ow hw 93 rfl)) rfl) (mvT hZ (ow hw 135 rfl)) (mvT hZ (ow hw 136 rfl)) (by decide) (backOf (W := 0) (rm := ({ frames := 1, cells := 0, slots := 0, locals := 12 } : Room)) (rm22_1 l Z a0 hw [] a2 T2.heap n0 F6 F9) hZ (ow hw 137 rfl) (ow hw 51 rfl) (by decide) (by decide)) q12a q12c (g := (mkF m 10 #[.val (.ref a1), .val (.ref a2), .val .null, .val (.ref vb), .unset] [(.ref a2)])) rfl (by rw [hml]; rfl) (Steps.refl _) (argsL := []) (rest := []) (lenOf pd___I rfl) rfl (by show 2 * 0 + _ ≤ _; exact Nat.le_of_eq rfl) (hb hby d20_10) (fun _ _ => ⟨rfl, rfl, (by decide : 0 + 0 ≤ _), (by decide : 0 + 0 ≤ _)⟩)
  dsimp only [Pt.U, Pt.locs, Pt.cells, Pt.slots] at X12 l12 y12 z12 st12 hQ12
  subst l12 y12 z12
  obtain ⟨rfl, N12q, K12q⟩ := hQ12
  refine own_st (fun t k => st12.trans k) ?_
  have N12 := Fr.app N2 N12q
  have K12 := K2.trans K12q (own_all0 )
  have F13 := F3.keep K12q
  have F14 := F4.keep K12q (own_nin0 )
  have F15 := F5.keep K12q (own_nin0 )
  have F16 := F6.keep K12q
  have F17 := F7.keep K12q (own_nin0 )
  have F18 := F8.keep K12q (own_nin0 )
  have F19 := F9.keep K12q (own_nin0 )
  have F20 := F10.keep K12q (own_nin0 )
  have F21 := own_staK F11 K12q (own_all0 )
  show OG p e _ s below _ T12 (mkF m 13 #[.val (.ref a1), .val (.ref a2), .val .null, .val (.ref vb), .unset] [(.int (1 : Int32))])
  refine wistore OGc 15 X12 B d20_13 #[.val (.ref a1), .val (.ref a2), .val .null, .val (.ref vb), .val (.int (1 : Int32))] rfl rfl ?_
  refine waloadN OGc 16 X12 B d20_15 rfl rfl rfl ?_
  refine wvirt OGc 19 X12 B hZ hown (ow hw 140 rfl) (ow hw 141 rfl) (ow hw 143 rfl) (ow hw 142 rfl) F16 (ow hw 144 rfl) (ow hw 59 rfl) rfl (rm24 l Z a0 hw [] a2 w T12.heap n0 F18 F21 hw0) 0 (by decide) (by decide) hml rfl (lenOf pd___Z rfl) [] rfl rfl d20_16 rfl fun _ T22 L22 X22 hQ22 => ?_
  obtain ⟨rfl, N22q, K22q⟩ := hQ22
  have N22 := Fr.app N12 N22q
  have K22 := K12.trans K22q (own_all0 )
  have F23 := F13.keep K22q
  have F24 := F14.keep K22q (own_nin0 )
  have F25 := F15.keep K22q (own_nin0 )
  have F26 := F16.keep K22q
  have F27 := F17.keep K22q (own_nin0 )
  have F28 := F18.keep K22q (own_nin0 )
  have F29 := F19.keep K22q (own_nin0 )
  have F30 := F20.keep K22q (own_nin0 )
  have F31 := own_staK F21 K22q (own_all0 )
  refine own_stk (S' := [(.int (1 : Int32))]) rfl ?_
  refine wifNo OGc 22 X22 B d20_19 (by decide) rfl ?_
  refine waloadN OGc 23 X22 B d20_22 rfl rfl rfl ?_
  refine wiconst OGc 24 X22 B d20_23 0 rfl rfl ?_
  refine wputF OGc 27 X22 B hZ hown (ow hw 25 rfl) rfl F25 F23 (Or.inr ⟨(ow hw 21 rfl), rfl, hnm⟩) (ow hw 5 rfl) (ty := .byte) (by decide) rfl rfl d20_24 rfl fun T32 h32 X32 e32 W32 => ?_
  have N32 := Fr.snoc X32 N22 g_a1
  have K33 := K22.wr W32 (Or.inl (List.mem_of_getElem? (i := 0) rfl))
  have F34 := F23.wr W32
  have F35 := F24.other W32 (Or.inr (slot_ne (Or.inr (ow hw 20 rfl)) (Or.inr (ow hw 21 rfl)) (by decide) (t := (.array .byte)) (t' := .byte) (by decide) (by decide)))
  have F36 : Fld Z h32 a1 "java/lang/String" "coder" "B" (.int (0 : Int32)) := (F25.same W32)
  have F37 := F26.wr W32
  have F38 := F27.other W32 (Or.inl (Ne.symm ne_a1_a2))
  have F39 := F28.other W32 (Or.inl (Ne.symm ne_a1_a2))
  have F40 := F29.other W32 (Or.inl (Ne.symm ne_a1_a2))
  have F41 := F30.other W32 (Ne.symm ne_a1_vb)
  have F42 := F31.wr W32
  refine waloadN OGc 28 X32 B d20_27 rfl rfl rfl ?_
  refine waloadN OGc 29 X32 B d20_28 rfl rfl rfl ?_
  refine wiconst OGc 30 X32 B d20_29 0 rfl rfl ?_
  refine wiload OGc 32 X32 B d20_30 rfl rfl ?_
  refine wstat OGc 35 X32 B hZ hown (ow hw 145 rfl) (ow hw 146 rfl) (ow hw 148 rfl) (ow hw 147 rfl) e32 (rm25_1 l Z a0 hw [] vb x0 h32 n0 (Nat.le_trans Z0 K33.1) F41) 1 (by decide) (by decide) hml rfl (lenOf pd___BII__B rfl) [(.ref a1)] rfl rfl d20_32 rfl fun _ T43 L43 X43 hQ43 => ?_
  obtain ⟨N43q, K43q, b_43, sz_b_43, rfl, P43_0⟩ := hQ43
  have N43 := Fr.app N32 N43q
  have ge_b_43 : n0 ≤ b_43 := Nat.le_trans (Nat.le_trans Z0 K33.1) sz_b_43
  have sy_b_43 : h0.size ≤ b_43 := Nat.le_trans K33.1 sz_b_43
  have ne_a1_b_43 : a1 ≠ b_43 := Nat.ne_of_lt (Nat.lt_of_lt_of_le F34.lt sz_b_43)
  have ne_a2_b_43 : a2 ≠ b_43 := Nat.ne_of_lt (Nat.lt_of_lt_of_le F37.lt sz_b_43)
  have ne_vb_b_43 : vb ≠ b_43 := Nat.ne_of_lt (Nat.lt_of_lt_of_le F41.lt sz_b_43)
  have K43 := K33.trans K43q (own_all0 )
  have F44 := F34.keep K43q
  have F45 := F35.keep K43q (own_nin0 )
  have F46 := F36.keep K43q (own_nin0 )
  have F47 := F37.keep K43q
  have F48 := F38.keep K43q (own_nin0 )
  have F49 := F39.keep K43q (own_nin0 )
  have F50 := F40.keep K43q (own_nin0 )
  have F51 := F41.keep K43q (own_nin0 )
  have F52 := own_staK F42 K43q (own_all0 )
  refine own_stk (S' := [(.ref b_43), (.ref a1)]) rfl ?_
  refine wputF OGc 38 X43 B hZ hown (ow hw 24 rfl) rfl F45 F44 (Or.inr ⟨(ow hw 20 rfl), rfl, hnm⟩) (ow hw 5 rfl) (ty := (.array .byte)) (by decide) rfl rfl d20_35 rfl fun T53 h53 X53 e53 W53 => ?_
  have N53 := Fr.snoc X53 N43 g_a1
  have K54 := K43.wr W53 (Or.inl (List.mem_of_getElem? (i := 0) rfl))
  have F55 := F44.wr W53
  have F56 : Fld Z h53 a1 "java/lang/String" "value" "[B" (.ref b_43) := (F45.same W53)
  have F57 := F46.other W53 (Or.inr (slot_ne (Or.inr (ow hw 21 rfl)) (Or.inr (ow hw 20 rfl)) (by decide) (t := .byte) (t' := (.array .byte)) (by decide) (by decide)))
  have F58 := F47.wr W53
  have F59 := F48.other W53 (Or.inl (Ne.symm ne_a1_a2))
  have F60 := F49.other W53 (Or.inl (Ne.symm ne_a1_a2))
  have F61 := F50.other W53 (Or.inl (Ne.symm ne_a1_a2))
  have F62 := F51.other W53 (Ne.symm ne_a1_vb)
  have F63 := F52.wr W53
  have F64 := P43_0.other W53 (Ne.symm ne_a1_b_43)
  refine wgoto OGc 97 X53 B d20_38 rfl ?_
  refine own_ret0 X53 hx hret hlk (hb hby d20_97) (by decide) (by decide) ?_
  rw [e53]
  exact ⟨rfl, N53, K54, b_43, sy_b_43, F55, F56, F57, F64⟩
abbrev Q19_1 (Z : State) (a1 : Addr) (a2 : Addr) (vb : Addr) (x0 : Int32) (w : Int32) (h0 : Heap) (n0 : Nat) : Option Value → Heap → List Loc → Prop := (fun v h L => v = none ∧ Fr n0 L ∧ Keep h0 h [a1] ∧ ∃ b : Addr, h0.size ≤ b ∧ Exa Z h a1 "java/lang/String" ∧ Fld Z h a1 "java/lang/String" "value" "[B" (.ref b) ∧ Fld Z h a1 "java/lang/String" "coder" "B" (.int (0 : Int32)) ∧ OA Z h b .byte (([x0] : List Int32).map obv))
theorem rm19_1 (l : Launch) (Z : State) (a0 : Array Value) (hw : ∀ d ∈ tables_1, d.before a0 Z = true) (ws : List Jvm.Cond) (a1 : Addr) (a2 : Addr) (vb : Addr) (x0 : Int32) (w : Int32) (h0 : Heap) (n0 : Nat) (Z0 : n0 ≤ h0.size) (R0 : Exa Z h0 a1 "java/lang/String") (R1 : Fld Z h0 a1 "java/lang/String" "value" "[B" .null) (R2 : Fld Z h0 a1 "java/lang/String" "coder" "B" (.int (0 : Int32))) (R3 : Exa Z h0 a2 "java/lang/StringBuilder") (R4 : Fld Z h0 a2 "java/lang/AbstractStringBuilder" "value" "[B" (.ref vb)) (R5 : Fld Z h0 a2 "java/lang/AbstractStringBuilder" "coder" "B" (.int (0 : Int32))) (R6 : Fld Z h0 a2 "java/lang/AbstractStringBuilder" "count" "I" (.int (1 : Int32))) (R7 : OA Z h0 vb .byte (obuf [x0])) (R8 : Sta Z h0 "java/lang/String" "COMPACT_STRINGS" "Z" (.int w)) (g_a1 : n0 ≤ a1) (ne_a1_a2 : a1 ≠ a2) (ne_a1_vb : a1 ≠ vb) (hw0 : ¬ w = (0 : Int32)) :
    OMet l Z (⟨"java/lang/String", "<init>", "(Ljava/lang/StringBuilder;)V"⟩ : MethodName) jdk_42_method_53_code 2 none ws ({ frames := 4, cells := 1, slots := 1, locals := 65 } : Room) #[(.ref a1), (.ref a2)] h0 (Q19_1 Z a1 a2 vb x0 w h0 n0) := by
  refine own_enter pn_19 ?_
  intro p e s m below meth c s₁ hx hby hml0 hown hret hlk hnm hZ X0 e0
  have hml : c.maxLocals = 2 := hml0
  have B : BX p c jdk_42_method_53_code := ⟨hx, hby⟩
  have N0 := Fr.nil n0
  refine own_cast (ef_19 m a1 a2) ?_
  refine waloadN OGc 1 X0 B d19_0 rfl rfl rfl ?_
  refine waloadN OGc 2 X0 B d19_1 rfl rfl rfl ?_
  refine waconstNull OGc 3 X0 B d19_2 rfl ?_
  refine wspec OGc 6 X0 B hZ hown (ow hw 124 rfl) (ow hw 125 rfl) rfl (ow hw 126 rfl) (ow hw 6 rfl) e0 (rm20_1 l Z a0 hw [] a1 a2 vb x0 w h0 n0 (Nat.le_trans Z0 (Keep.refl h0 [a1]).1) R0 R1 R2 R3 R4 R5 R6 R7 R8 g_a1 ne_a1_a2 ne_a1_vb hw0) 0 (by decide) (by decide) hml rfl (lenOf pd__Ljava_lang_AbstractStringBuilder_Ljava_lang_Void__V rfl) [] rfl rfl d19_3 rfl fun _ T1 L1 X1 hQ1 => ?_
  obtain ⟨rfl, N1q, K1q, b_1, sz_b_1, P1_0, P1_1, P1_2, P1_3⟩ := hQ1
  have N1 := Fr.app N0 N1q
  have ge_b_1 : n0 ≤ b_1 := Nat.le_trans (Nat.le_trans Z0 (Keep.refl h0 [a1]).1) sz_b_1
  have sy_b_1 : h0.size ≤ b_1 := Nat.le_trans (Keep.refl h0 [a1]).1 sz_b_1
  have ne_a1_b_1 : a1 ≠ b_1 := Nat.ne_of_lt (Nat.lt_of_lt_of_le R0.lt sz_b_1)
  have ne_a2_b_1 : a2 ≠ b_1 := Nat.ne_of_lt (Nat.lt_of_lt_of_le R3.lt sz_b_1)
  have ne_vb_b_1 : vb ≠ b_1 := Nat.ne_of_lt (Nat.lt_of_lt_of_le R7.lt sz_b_1)
  have K1 := (Keep.refl h0 [a1]).trans K1q (own_all1 (Or.inl (List.mem_of_getElem? (i := 0) rfl)))
  have F2 := R3.keep K1q
  have F3 := R4.keep K1q (own_nin1 (Ne.symm ne_a1_a2))
  have F4 := R5.keep K1q (own_nin1 (Ne.symm ne_a1_a2))
  have F5 := R6.keep K1q (own_nin1 (Ne.symm ne_a1_a2))
  have F6 := R7.keep K1q (own_nin1 (Ne.symm ne_a1_vb))
  have F7 := own_staK R8 K1q (own_all1 (own_plE R0))
  refine own_stk (S' := []) rfl ?_
  refine own_ret0 X1 hx hret hlk (hb hby d19_6) (by decide) (by decide) ?_
  exact ⟨rfl, N1, K1, b_1, sy_b_1, P1_0, P1_1, P1_2, P1_3⟩
abbrev Q18_1 (Z : State) (a1 : Addr) (vb : Addr) (x0 : Int32) (w : Int32) (h0 : Heap) (n0 : Nat) : Option Value → Heap → List Loc → Prop := (fun v h L => Fr n0 L ∧ Keep h0 h [] ∧ ∃ s : Addr, ∃ b : Addr, h0.size ≤ s ∧ h0.size ≤ b ∧ v = some (.ref s) ∧ Exa Z h s "java/lang/String" ∧ Fld Z h s "java/lang/String" "value" "[B" (.ref b) ∧ Fld Z h s "java/lang/String" "coder" "B" (.int (0 : Int32)) ∧ OA Z h b .byte (([x0] : List Int32).map obv))
theorem rm18_1 (l : Launch) (Z : State) (a0 : Array Value) (hw : ∀ d ∈ tables_1, d.before a0 Z = true) (ws : List Jvm.Cond) (a1 : Addr) (vb : Addr) (x0 : Int32) (w : Int32) (h0 : Heap) (n0 : Nat) (Z0 : n0 ≤ h0.size) (R0 : Exa Z h0 a1 "java/lang/StringBuilder") (R1 : Fld Z h0 a1 "java/lang/AbstractStringBuilder" "value" "[B" (.ref vb)) (R2 : Fld Z h0 a1 "java/lang/AbstractStringBuilder" "coder" "B" (.int (0 : Int32))) (R3 : Fld Z h0 a1 "java/lang/AbstractStringBuilder" "count" "I" (.int (1 : Int32))) (R4 : OA Z h0 vb .byte (obuf [x0])) (R5 : Sta Z h0 "java/lang/String" "COMPACT_STRINGS" "Z" (.int w)) (hw0 : ¬ w = (0 : Int32)) :
    OMet l Z (⟨"java/lang/StringBuilder", "toString", "()Ljava/lang/String;"⟩ : MethodName) jdk_67_method_42_code 1 (some (.object "java/lang/String")) ws ({ frames := 5, cells := 2, slots := 10, locals := 79 } : Room) #[(.ref a1)] h0 (Q18_1 Z a1 vb x0 w h0 n0) := by
  refine own_enter pn_18 ?_
  intro p e s m below meth c s₁ hx hby hml0 hown hret hlk hnm hZ X0 e0
  have hml : c.maxLocals = 1 := hml0
  have B : BX p c jdk_67_method_42_code := ⟨hx, hby⟩
  have N0 := Fr.nil n0
  refine own_cast (ef_18 m a1) ?_
  refine wnewO OGc 3 X0 B hZ hown (ow hw 120 rfl) (ow hw 5 rfl) (ow hw 6 rfl) e0 d18_0 (by decide) rfl fun T1 h1 o1 gb1 X1 e1 E1 A1 D1 => ?_
  have ge_o1 : n0 ≤ o1 := by rw [gb1]; exact Nat.le_trans Z0 (Keep.refl h0 []).1
  have sz_o1 : h0.size ≤ o1 := by rw [gb1]; exact (Keep.refl h0 []).1
  have ne_a1_o1 : a1 ≠ o1 := Nat.ne_of_lt (Nat.lt_of_lt_of_eq R0.lt gb1.symm)
  have ne_vb_o1 : vb ≠ o1 := Nat.ne_of_lt (Nat.lt_of_lt_of_eq R4.lt gb1.symm)
  have F2 := R0.ext E1
  have F3 := R1.ext E1
  have F4 := R2.ext E1
  have F5 := R3.ext E1
  have F6 := R4.ext E1
  have F7 := R5.ext E1
  have K8 := (Keep.refl h0 []).ext E1
  have F9 : Fld Z h1 o1 "java/lang/String" "value" "[B" .null := D1 (Or.inr (ow hw 20 rfl)) (ty := (.array .byte)) (by decide)
  have F10 : Fld Z h1 o1 "java/lang/String" "coder" "B" (.int (0 : Int32)) := D1 (Or.inr (ow hw 21 rfl)) (ty := .byte) (by decide)
  refine wdup OGc 4 X1 B d18_3 rfl rfl ?_
  refine waloadN OGc 5 X1 B d18_4 rfl rfl rfl ?_
  refine wspec OGc 8 X1 B hZ hown (ow hw 121 rfl) (ow hw 122 rfl) rfl (ow hw 123 rfl) (ow hw 6 rfl) e1 (rm19_1 l Z a0 hw [] o1 a1 vb x0 w h1 n0 (Nat.le_trans Z0 K8.1) A1 F9 F10 F2 F3 F4 F5 F6 F7 ge_o1 (Ne.symm ne_a1_o1) (Ne.symm ne_vb_o1) hw0) 1 (by decide) (by decide) hml rfl (lenOf pd__Ljava_lang_StringBuilder__V rfl) [(.ref o1)] rfl rfl d18_5 rfl fun _ T11 L11 X11 hQ11 => ?_
  obtain ⟨rfl, N11q, K11q, b_11, sz_b_11, P11_0, P11_1, P11_2, P11_3⟩ := hQ11
  have N11 := Fr.app N0 N11q
  have ge_b_11 : n0 ≤ b_11 := Nat.le_trans (Nat.le_trans Z0 K8.1) sz_b_11
  have sy_b_11 : h0.size ≤ b_11 := Nat.le_trans K8.1 sz_b_11
  have ne_a1_b_11 : a1 ≠ b_11 := Nat.ne_of_lt (Nat.lt_of_lt_of_le F2.lt sz_b_11)
  have ne_o1_b_11 : o1 ≠ b_11 := Nat.ne_of_lt (Nat.lt_of_lt_of_le A1.lt sz_b_11)
  have ne_vb_b_11 : vb ≠ b_11 := Nat.ne_of_lt (Nat.lt_of_lt_of_le F6.lt sz_b_11)
  have K11 := K8.trans K11q (own_all1 (Or.inr sz_o1))
  have F12 := F2.keep K11q
  have F13 := F3.keep K11q (own_nin1 ne_a1_o1)
  have F14 := F4.keep K11q (own_nin1 ne_a1_o1)
  have F15 := F5.keep K11q (own_nin1 ne_a1_o1)
  have F16 := F6.keep K11q (own_nin1 ne_vb_o1)
  have F17 := own_staK F7 K11q (own_all1 (own_plE A1))
  refine own_stk (S' := [(.ref o1)]) rfl ?_
  refine own_retV X11 hx hret rfl (Or.inr (Or.inr (Or.inr (Or.inr ⟨rfl, rfl, rfl⟩)))) hlk (hb hby d18_8) (by decide) (by decide) ?_
  exact ⟨N11, K11, o1, b_11, sz_o1, sy_b_11, rfl, P11_0, P11_1, P11_2, P11_3⟩
abbrev Q23_2 (Z : State) (a1 : Addr) (h0 : Heap) (n0 : Nat) : Option Value → Heap → List Loc → Prop := (fun v h L => v = some (.int (2 : Int32)) ∧ Fr n0 L ∧ Keep h0 h [])
theorem rm23_2 (l : Launch) (Z : State) (a0 : Array Value) (hw : ∀ d ∈ tables_1, d.before a0 Z = true) (ws : List Jvm.Cond) (a1 : Addr) (h0 : Heap) (n0 : Nat) (R0 : Fld Z h0 a1 "java/lang/AbstractStringBuilder" "count" "I" (.int (2 : Int32))) :
    OMet l Z (⟨"java/lang/AbstractStringBuilder", "length", "()I"⟩ : MethodName) jdk_68_method_6_code 1 (some .int) ws ({ frames := 0, cells := 0, slots := 0, locals := 0 } : Room) #[(.ref a1)] h0 (Q23_2 Z a1 h0 n0) := by
  refine own_enter pn_23 ?_
  intro p e s m below meth c s₁ hx hby hml0 hown hret hlk hnm hZ X0 e0
  have hml : c.maxLocals = 1 := hml0
  have B : BX p c jdk_68_method_6_code := ⟨hx, hby⟩
  have N0 := Fr.nil n0
  refine own_cast (ef_23 m a1) ?_
  refine waloadN OGc 1 X0 B d23_0 rfl rfl rfl ?_
  refine wgetF OGc 4 X0 B hZ hown (ow hw 88 rfl) e0 R0 d23_1 rfl fun T1 X1 e1 => ?_
  refine own_retI X1 hx hret hlk (hb hby d23_4) (by decide) (by decide) ?_
  rw [e1]
  exact ⟨rfl, N0, (Keep.refl h0 [])⟩
abbrev Q22_2 (Z : State) (a1 : Addr) (h0 : Heap) (n0 : Nat) : Option Value → Heap → List Loc → Prop := (fun v h L => v = some (.int (2 : Int32)) ∧ Fr n0 L ∧ Keep h0 h [])
theorem rm22_2 (l : Launch) (Z : State) (a0 : Array Value) (hw : ∀ d ∈ tables_1, d.before a0 Z = true) (ws : List Jvm.Cond) (a1 : Addr) (h0 : Heap) (n0 : Nat) (R0 : Exa Z h0 a1 "java/lang/StringBuilder") (R1 : Fld Z h0 a1 "java/lang/AbstractStringBuilder" "count" "I" (.int (2 : Int32))) :
    OMet l Z (⟨"java/lang/StringBuilder", "length", "()I"⟩ : MethodName) jdk_67_method_93_code 1 (some .int) ws ({ frames := 1, cells := 0, slots := 0, locals := 12 } : Room) #[(.ref a1)] h0 (Q22_2 Z a1 h0 n0) := by
  refine own_enter pn_22 ?_
  intro p e s m below meth c s₁ hx hby hml0 hown hret hlk hnm hZ X0 e0
  have hml : c.maxLocals = 1 := hml0
  have B : BX p c jdk_67_method_93_code := ⟨hx, hby⟩
  have N0 := Fr.nil n0
  refine own_cast (ef_22 m a1) ?_
  refine waloadN OGc 1 X0 B d22_0 rfl rfl rfl ?_
  obtain ⟨_, _, ⟨T1, L1, k1, n1⟩, -, X1, ⟨Lc1, hQ1, l1, y1, z1⟩, st1⟩ := superBack X0 hx hZ (y := (⟨"java/lang/AbstractStringBuilder", "length", "()I"⟩ : MethodName)) hown (ow hw 138 rfl) (own_same (ow hw 134 rfl) (ow hw 93 rfl) rfl (by decide)) (ow hw 134 rfl) (ow hw 74 rfl) (by decide) (backOf (W := 0) (rm := ({ frames := 0, cells := 0, slots := 0, locals := 0 } : Room)) (rm23_2 l Z a0 hw [] a1 h0 n0 R1) hZ (ow hw 139 rfl) (ow hw 59 rfl) (by decide) (by decide)) e0 (Ins.self R0) (g := (mkF m 1 #[.val (.ref a1)] [(.ref a1)])) rfl (by rw [hml]; rfl) (ow hw 139 rfl) (argsL := []) (rest := []) (lenOf pd___I rfl) rfl (by show 2 * 0 + _ ≤ _; exact Nat.le_of_eq rfl) (hb hby d22_1) (fun _ _ => ⟨rfl, e0, (by decide : 0 + 0 ≤ _), (by decide : 0 + 0 ≤ _)⟩)
  dsimp only [Pt.U, Pt.locs, Pt.cells, Pt.slots] at X1 l1 y1 z1 st1 hQ1
  subst l1 y1 z1
  obtain ⟨rfl, N1q, K1q⟩ := hQ1
  refine own_st (fun t k => st1.trans k) ?_
  have N1 := Fr.app N0 N1q
  have K1 := (Keep.refl h0 []).trans K1q (own_all0 )
  have F2 := R0.keep K1q
  have F3 := R1.keep K1q (own_nin0 )
  show OG p e _ s below _ T1 (mkF m 4 #[.val (.ref a1)] [(.int (2 : Int32))])
  refine own_retI X1 hx hret hlk (hb hby d22_4) (by decide) (by decide) ?_
  exact ⟨rfl, N1, K1⟩
theorem ef_27_2 (m : MethodId)  : entryFrame m #[(.int (0 : Int32)), (.int (2 : Int32))] 2 = (mkF m 0 #[.val (.int (0 : Int32)), .val (.int (2 : Int32))] []) := by first | (simp [entryFrame, mkF, argsToLocals, Value.category]; done) | rfl
abbrev Q27_2 (Z : State)  (h0 : Heap) (n0 : Nat) : Option Value → Heap → List Loc → Prop := (fun v h L => v = none ∧ Fr n0 L ∧ Keep h0 h [])
theorem rm27_2 (l : Launch) (Z : State) (a0 : Array Value) (hw : ∀ d ∈ tables_1, d.before a0 Z = true) (ws : List Jvm.Cond)  (h0 : Heap) (n0 : Nat) :
    OMet l Z (⟨"java/util/Arrays", "checkLength", "(II)V"⟩ : MethodName) jdk_65_method_131_code 2 none ws ({ frames := 0, cells := 0, slots := 0, locals := 0 } : Room) #[(.int (0 : Int32)), (.int (2 : Int32))] h0 (Q27_2 Z  h0 n0) := by
  refine own_enter pn_27 ?_
  intro p e s m below meth c s₁ hx hby hml0 hown hret hlk hnm hZ X0 e0
  have hml : c.maxLocals = 2 := hml0
  have B : BX p c jdk_65_method_131_code := ⟨hx, hby⟩
  have N0 := Fr.nil n0
  refine own_cast (ef_27_2 m ) ?_
  refine wiloadN OGc 1 X0 B d27_0 rfl rfl ?_
  refine wiloadN OGc 2 X0 B d27_1 rfl rfl ?_
  refine wicmpYes OGc 37 X0 B d27_2 (by decide) rfl ?_
  refine own_ret0 X0 hx hret hlk (hb hby d27_37) (by decide) (by decide) ?_
  rw [e0]
  exact ⟨rfl, N0, (Keep.refl h0 [])⟩
theorem ef_28_2 (m : MethodId)  : entryFrame m #[(.int (16 : Int32)), (.int (2 : Int32))] 2 = (mkF m 0 #[.val (.int (16 : Int32)), .val (.int (2 : Int32))] []) := by first | (simp [entryFrame, mkF, argsToLocals, Value.category]; done) | rfl
abbrev Q28_2 (Z : State)  (h0 : Heap) (n0 : Nat) : Option Value → Heap → List Loc → Prop := (fun v h L => v = some (.int (2 : Int32)) ∧ Fr n0 L ∧ Keep h0 h [])
theorem rm28_2 (l : Launch) (Z : State) (a0 : Array Value) (hw : ∀ d ∈ tables_1, d.before a0 Z = true) (ws : List Jvm.Cond)  (h0 : Heap) (n0 : Nat) :
    OMet l Z (⟨"java/lang/Math", "min", "(II)I"⟩ : MethodName) jdk_29_method_69_code 2 (some .int) ws ({ frames := 0, cells := 0, slots := 0, locals := 0 } : Room) #[(.int (16 : Int32)), (.int (2 : Int32))] h0 (Q28_2 Z  h0 n0) := by
  refine own_enter pn_28 ?_
  intro p e s m below meth c s₁ hx hby hml0 hown hret hlk hnm hZ X0 e0
  have hml : c.maxLocals = 2 := hml0
  have B : BX p c jdk_29_method_69_code := ⟨hx, hby⟩
  have N0 := Fr.nil n0
  refine own_cast (ef_28_2 m ) ?_
  refine wiloadN OGc 1 X0 B d28_0 rfl rfl ?_
  refine wiloadN OGc 2 X0 B d28_1 rfl rfl ?_
  refine wicmpYes OGc 9 X0 B d28_2 (by decide) rfl ?_
  refine wiloadN OGc 10 X0 B d28_9 rfl rfl ?_
  refine own_retI X0 hx hret hlk (hb hby d28_10) (by decide) (by decide) ?_
  rw [e0]
  exact ⟨rfl, N0, (Keep.refl h0 [])⟩
theorem ef_26_2 (m : MethodId) (a1 : Addr) : entryFrame m #[(.ref a1), (.int (0 : Int32)), (.int (2 : Int32))] 5 = (mkF m 0 #[.val (.ref a1), .val (.int (0 : Int32)), .val (.int (2 : Int32)), .unset, .unset] []) := by first | (simp [entryFrame, mkF, argsToLocals, Value.category]; done) | rfl
abbrev Q26_2 (Z : State) (a1 : Addr) (x0 : Int32) (x1 : Int32) (h0 : Heap) (n0 : Nat) : Option Value → Heap → List Loc → Prop := (fun v h L => Fr n0 L ∧ Keep h0 h [] ∧ ∃ b : Addr, h0.size ≤ b ∧ v = some (.ref b) ∧ OA Z h b .byte (([x0, x1] : List Int32).map obv))
theorem rm26_2 (l : Launch) (Z : State) (a0 : Array Value) (hw : ∀ d ∈ tables_1, d.before a0 Z = true) (ws : List Jvm.Cond) (a1 : Addr) (x0 : Int32) (x1 : Int32) (h0 : Heap) (n0 : Nat) (Z0 : n0 ≤ h0.size) (R0 : OA Z h0 a1 .byte (obuf [x0, x1])) :
    OMet l Z (⟨"java/util/Arrays", "copyOfRangeByte", "([BII)[B"⟩ : MethodName) jdk_65_method_133_code 5 (some (.array .byte)) ws ({ frames := 1, cells := 1, slots := 2, locals := 18 } : Room) #[(.ref a1), (.int (0 : Int32)), (.int (2 : Int32))] h0 (Q26_2 Z a1 x0 x1 h0 n0) := by
  refine own_enter pn_26 ?_
  intro p e s m below meth c s₁ hx hby hml0 hown hret hlk hnm hZ X0 e0
  have hml : c.maxLocals = 5 := hml0
  have B : BX p c jdk_65_method_133_code := ⟨hx, hby⟩
  have N0 := Fr.nil n0
  refine own_cast (ef_26_2 m a1) ?_
  refine wiloadN OGc 1 X0 B d26_0 rfl rfl ?_
  refine wiloadN OGc 2 X0 B d26_1 rfl rfl ?_
  refine wstat OGc 5 X0 B hZ hown (ow hw 152 rfl) (ow hw 153 rfl) (ow hw 154 rfl) (ow hw 147 rfl) e0 (rm27_2 l Z a0 hw [] h0 n0) 0 (by decide) (by decide) hml rfl (lenOf pd__II_V rfl) [] rfl rfl d26_2 rfl fun _ T1 L1 X1 hQ1 => ?_
  obtain ⟨rfl, N1q, K1q⟩ := hQ1
  have N1 := Fr.app N0 N1q
  have K1 := (Keep.refl h0 []).trans K1q (own_all0 )
  have F2 := R0.keep K1q (own_nin0 )
  refine own_stk (S' := []) rfl ?_
  refine wiloadN OGc 6 X1 B d26_5 rfl rfl ?_
  refine wiloadN OGc 7 X1 B d26_6 rfl rfl ?_
  refine wisub OGc 8 X1 B d26_7 rfl ?_
  show OG p e _ s below _ T1 (mkF m 8 #[.val (.ref a1), .val (.int (0 : Int32)), .val (.int (2 : Int32)), .unset, .unset] [(.int (2 : Int32))])
  refine wistoreN OGc 9 X1 B d26_8 #[.val (.ref a1), .val (.int (0 : Int32)), .val (.int (2 : Int32)), .val (.int (2 : Int32)), .unset] rfl rfl ?_
  refine wiloadN OGc 10 X1 B d26_9 rfl rfl ?_
  refine wnewP OGc 12 X1 B hZ (ow hw 19 rfl) rfl d26_10 2 (by decide) (by decide) rfl fun T3 h3 b3 k3 gb3 X3 e3 E3 A3 => ?_
  have ge_b3 : n0 ≤ b3 := by rw [gb3]; exact Nat.le_trans Z0 K1.1
  have sz_b3 : h0.size ≤ b3 := by rw [gb3]; exact K1.1
  have ne_a1_b3 : a1 ≠ b3 := Nat.ne_of_lt (Nat.lt_of_lt_of_eq F2.lt gb3.symm)
  have F4 := F2.ext E3
  have K5 := K1.ext E3
  have F6 : OA Z h3 b3 .byte [(.int (0 : Int32)), (.int (0 : Int32))] := OA.new A3
  refine wastore OGc 14 X3 B d26_12 #[.val (.ref a1), .val (.int (0 : Int32)), .val (.int (2 : Int32)), .val (.int (2 : Int32)), .val (.ref b3)] rfl rfl rfl ?_
  refine waloadN OGc 15 X3 B d26_14 rfl rfl rfl ?_
  refine wiloadN OGc 16 X3 B d26_15 rfl rfl ?_
  refine waload OGc 18 X3 B d26_16 rfl rfl rfl ?_
  refine wiconst OGc 19 X3 B d26_18 0 rfl rfl ?_
  refine waloadN OGc 20 X3 B d26_19 rfl rfl rfl ?_
  refine warlenA OGc 21 X3 B hZ e3 F4 (16 : Int32) rfl d26_20 rfl ?_
  refine wiloadN OGc 22 X3 B d26_21 rfl rfl ?_
  refine wisub OGc 23 X3 B d26_22 rfl ?_
  show OG p e _ s below _ T3 (mkF m 23 #[.val (.ref a1), .val (.int (0 : Int32)), .val (.int (2 : Int32)), .val (.int (2 : Int32)), .val (.ref b3)] [(.int (16 : Int32)), (.int (0 : Int32)), (.ref b3), (.int (0 : Int32)), (.ref a1)])
  refine wiloadN OGc 24 X3 B d26_23 rfl rfl ?_
  refine wstat OGc 27 X3 B hZ hown (ow hw 155 rfl) (ow hw 156 rfl) (ow hw 158 rfl) (ow hw 157 rfl) e3 (rm28_2 l Z a0 hw [] h3 n0) 4 (by decide) (by decide) hml rfl (lenOf pd__II_I rfl) [(.int (0 : Int32)), (.ref b3), (.int (0 : Int32)), (.ref a1)] rfl rfl d26_24 rfl fun _ T8 L8 X8 hQ8 => ?_
  obtain ⟨rfl, N8q, K8q⟩ := hQ8
  have N8 := Fr.app N1 N8q
  have K8 := K5.trans K8q (own_all0 )
  have F9 := F4.keep K8q (own_nin0 )
  have F10 := F6.keep K8q (own_nin0 )
  refine own_stk (S' := [(.int (2 : Int32)), (.int (0 : Int32)), (.ref b3), (.int (0 : Int32)), (.ref a1)]) rfl ?_
  refine wcp OGc 30 X8 B hZ hown (ow hw 159 rfl) (ow hw 114 rfl) (ow hw 112 rfl) (ow hw 113 rfl) rfl F9 F10 (own_bytB [x0, x1] 14) (Byt.zero (Byt.zero Byt.nil)) 16 2 0 0 2 rfl rfl (z := (16 : Int32)) (z' := (2 : Int32)) (by decide) (([x0, x1] : List Int32).map obv) rfl (([x0, x1] : List Int32).map obv) rfl rfl N8 ge_b3 hml rfl d26_27 (W := 0) rfl (by decide) rfl fun T11 h11 L11 X11 e11 N11 K11q A11 => ?_
  have K11 : Keep h0 h11 [] := K8.trans K11q (own_all1 (Or.inr sz_b3))
  have F12 := F9.keep K11q (own_nin1 ne_a1_b3)
  have F13 : OA Z h11 b3 .byte (([x0, x1] : List Int32).map obv) := A11
  refine waload OGc 32 X11 B d26_30 rfl rfl rfl ?_
  refine own_retV X11 hx hret rfl (Or.inr (Or.inr (Or.inr (Or.inr ⟨rfl, rfl, rfl⟩)))) hlk (hb hby d26_32) (by decide) (by decide) ?_
  rw [e11]
  exact ⟨N11, K11, b3, sz_b3, rfl, F13⟩
theorem ef_25_2 (m : MethodId) (a1 : Addr) : entryFrame m #[(.ref a1), (.int (0 : Int32)), (.int (2 : Int32))] 3 = (mkF m 0 #[.val (.ref a1), .val (.int (0 : Int32)), .val (.int (2 : Int32))] []) := by first | (simp [entryFrame, mkF, argsToLocals, Value.category]; done) | rfl
abbrev Q25_2 (Z : State) (a1 : Addr) (x0 : Int32) (x1 : Int32) (h0 : Heap) (n0 : Nat) : Option Value → Heap → List Loc → Prop := (fun v h L => Fr n0 L ∧ Keep h0 h [] ∧ ∃ b : Addr, h0.size ≤ b ∧ v = some (.ref b) ∧ OA Z h b .byte (([x0, x1] : List Int32).map obv))
theorem rm25_2 (l : Launch) (Z : State) (a0 : Array Value) (hw : ∀ d ∈ tables_1, d.before a0 Z = true) (ws : List Jvm.Cond) (a1 : Addr) (x0 : Int32) (x1 : Int32) (h0 : Heap) (n0 : Nat) (Z0 : n0 ≤ h0.size) (R0 : OA Z h0 a1 .byte (obuf [x0, x1])) :
    OMet l Z (⟨"java/util/Arrays", "copyOfRange", "([BII)[B"⟩ : MethodName) jdk_65_method_132_code 3 (some (.array .byte)) ws ({ frames := 2, cells := 1, slots := 2, locals := 34 } : Room) #[(.ref a1), (.int (0 : Int32)), (.int (2 : Int32))] h0 (Q25_2 Z a1 x0 x1 h0 n0) := by
  refine own_enter pn_25 ?_
  intro p e s m below meth c s₁ hx hby hml0 hown hret hlk hnm hZ X0 e0
  have hml : c.maxLocals = 3 := hml0
  have B : BX p c jdk_65_method_132_code := ⟨hx, hby⟩
  have N0 := Fr.nil n0
  refine own_cast (ef_25_2 m a1) ?_
  refine wiloadN OGc 1 X0 B d25_0 rfl rfl ?_
  refine wifNo OGc 4 X0 B d25_1 (by decide) rfl ?_
  refine wiloadN OGc 5 X0 B d25_4 rfl rfl ?_
  refine waloadN OGc 6 X0 B d25_5 rfl rfl rfl ?_
  refine warlenA OGc 7 X0 B hZ e0 R0 (16 : Int32) rfl d25_6 rfl ?_
  refine wicmpNo OGc 10 X0 B d25_7 (by decide) rfl ?_
  refine waloadN OGc 11 X0 B d25_10 rfl rfl rfl ?_
  refine wiloadN OGc 12 X0 B d25_11 rfl rfl ?_
  refine wiloadN OGc 13 X0 B d25_12 rfl rfl ?_
  refine wstat OGc 16 X0 B hZ hown (ow hw 149 rfl) (ow hw 150 rfl) (ow hw 151 rfl) (ow hw 147 rfl) e0 (rm26_2 l Z a0 hw [] a1 x0 x1 h0 n0 (Nat.le_trans Z0 (Keep.refl h0 []).1) R0) 0 (by decide) (by decide) hml rfl (lenOf pd___BII__B rfl) [] rfl rfl d25_13 rfl fun _ T2 L2 X2 hQ2 => ?_
  obtain ⟨N2q, K2q, b_2, sz_b_2, rfl, P2_0⟩ := hQ2
  have N2 := Fr.app N0 N2q
  have ge_b_2 : n0 ≤ b_2 := Nat.le_trans (Nat.le_trans Z0 (Keep.refl h0 []).1) sz_b_2
  have sy_b_2 : h0.size ≤ b_2 := Nat.le_trans (Keep.refl h0 []).1 sz_b_2
  have ne_a1_b_2 : a1 ≠ b_2 := Nat.ne_of_lt (Nat.lt_of_lt_of_le R0.lt sz_b_2)
  have K2 := (Keep.refl h0 []).trans K2q (own_all0 )
  have F3 := R0.keep K2q (own_nin0 )
  refine own_stk (S' := [(.ref b_2)]) rfl ?_
  refine own_retV X2 hx hret rfl (Or.inr (Or.inr (Or.inr (Or.inr ⟨rfl, rfl, rfl⟩)))) hlk (hb hby d25_16) (by decide) (by decide) ?_
  exact ⟨N2, K2, b_2, sy_b_2, rfl, P2_0⟩
theorem ef_20_2 (m : MethodId) (a1 : Addr) (a2 : Addr) : entryFrame m #[(.ref a1), (.ref a2), .null] 5 = (mkF m 0 #[.val (.ref a1), .val (.ref a2), .val .null, .unset, .unset] []) := by first | (simp [entryFrame, mkF, argsToLocals, Value.category]; done) | rfl
abbrev Q20_2 (Z : State) (a1 : Addr) (a2 : Addr) (vb : Addr) (x0 : Int32) (x1 : Int32) (w : Int32) (h0 : Heap) (n0 : Nat) : Option Value → Heap → List Loc → Prop := (fun v h L => v = none ∧ Fr n0 L ∧ Keep h0 h [a1] ∧ ∃ b : Addr, h0.size ≤ b ∧ Exa Z h a1 "java/lang/String" ∧ Fld Z h a1 "java/lang/String" "value" "[B" (.ref b) ∧ Fld Z h a1 "java/lang/String" "coder" "B" (.int (0 : Int32)) ∧ OA Z h b .byte (([x0, x1] : List Int32).map obv))
theorem rm20_2 (l : Launch) (Z : State) (a0 : Array Value) (hw : ∀ d ∈ tables_1, d.before a0 Z = true) (ws : List Jvm.Cond) (a1 : Addr) (a2 : Addr) (vb : Addr) (x0 : Int32) (x1 : Int32) (w : Int32) (h0 : Heap) (n0 : Nat) (Z0 : n0 ≤ h0.size) (R0 : Exa Z h0 a1 "java/lang/String") (R1 : Fld Z h0 a1 "java/lang/String" "value" "[B" .null) (R2 : Fld Z h0 a1 "java/lang/String" "coder" "B" (.int (0 : Int32))) (R3 : Exa Z h0 a2 "java/lang/StringBuilder") (R4 : Fld Z h0 a2 "java/lang/AbstractStringBuilder" "value" "[B" (.ref vb)) (R5 : Fld Z h0 a2 "java/lang/AbstractStringBuilder" "coder" "B" (.int (0 : Int32))) (R6 : Fld Z h0 a2 "java/lang/AbstractStringBuilder" "count" "I" (.int (2 : Int32))) (R7 : OA Z h0 vb .byte (obuf [x0, x1])) (R8 : Sta Z h0 "java/lang/String" "COMPACT_STRINGS" "Z" (.int w)) (g_a1 : n0 ≤ a1) (ne_a1_a2 : a1 ≠ a2) (ne_a1_vb : a1 ≠ vb) (hw0 : ¬ w = (0 : Int32)) :
    OMet l Z (⟨"java/lang/String", "<init>", "(Ljava/lang/AbstractStringBuilder;Ljava/lang/Void;)V"⟩ : MethodName) jdk_42_method_150_code 5 none ws ({ frames := 3, cells := 1, slots := 2, locals := 49 } : Room) #[(.ref a1), (.ref a2), .null] h0 (Q20_2 Z a1 a2 vb x0 x1 w h0 n0) := by
  refine own_enter pn_20 ?_
  intro p e s m below meth c s₁ hx hby hml0 hown hret hlk hnm hZ X0 e0
  have hml : c.maxLocals = 5 := hml0
  have B : BX p c jdk_42_method_150_code := ⟨hx, hby⟩
  have N0 := Fr.nil n0
  refine own_cast (ef_20_2 m a1 a2) ?_
  refine waloadN OGc 1 X0 B d20_0 rfl rfl rfl ?_
  obtain ⟨T1, X1, e1, st1⟩ := initO X0 hx hZ hown (ow hw 15 rfl) (ow hw 16 rfl) (ow hw 17 rfl) e0 (g := (mkF m 1 #[.val (.ref a1), .val (.ref a2), .val .null, .unset, .unset] [(.ref a1)])) rfl (by rw [hml]; rfl) rfl (hb hby d20_1) (by decide) (W := 0) (by show 2 * 0 + _ ≤ _; exact Nat.le_of_eq rfl) (by decide)
  refine own_st st1 ?_
  show OG p e _ s below _ T1 (mkF m 4 #[.val (.ref a1), .val (.ref a2), .val .null, .unset, .unset] [])
  refine waloadN OGc 5 X1 B d20_4 rfl rfl rfl ?_
  refine wvirt OGc 8 X1 B hZ hown (ow hw 127 rfl) (ow hw 128 rfl) (ow hw 130 rfl) (ow hw 129 rfl) R3 (ow hw 131 rfl) (ow hw 59 rfl) e1 (rm21 l Z a0 hw [] a2 vb h0 n0 R4) 0 (by decide) (by decide) hml rfl (lenOf pd____B rfl) [] rfl rfl d20_5 rfl fun _ T2 L2 X2 hQ2 => ?_
  obtain ⟨rfl, N2q, K2q⟩ := hQ2
  have N2 := Fr.app N0 N2q
  have K2 := (Keep.refl h0 [a1]).trans K2q (own_all0 )
  have F3 := R0.keep K2q
  have F4 := R1.keep K2q (own_nin0 )
  have F5 := R2.keep K2q (own_nin0 )
  have F6 := R3.keep K2q
  have F7 := R4.keep K2q (own_nin0 )
  have F8 := R5.keep K2q (own_nin0 )
  have F9 := R6.keep K2q (own_nin0 )
  have F10 := R7.keep K2q (own_nin0 )
  have F11 := own_staK R8 K2q (own_all0 )
  refine own_stk (S' := [(.ref vb)]) rfl ?_
  refine wastoreN OGc 9 X2 B d20_8 #[.val (.ref a1), .val (.ref a2), .val .null, .val (.ref vb), .unset] rfl rfl rfl ?_
  refine waloadN OGc 10 X2 B d20_9 rfl rfl rfl ?_
  obtain ⟨cq12, kq12, q12a, q12b, q12c⟩ := isOf hZ rfl F6
  obtain ⟨_, _, ⟨T12, L12, k12, n12⟩, -, X12, ⟨Lc12, hQ12, l12, y12, z12⟩, st12⟩ := X2.virtualBack hx (y := (⟨"java/lang/AbstractStringBuilder", "length", "()I"⟩ : MethodName)) (z := (⟨"java/lang/StringBuilder", "length", "()I"⟩ : MethodName)) hown (mvT hZ (ow hw 132 rfl)) (mvT hZ (ow hw 133 rfl)) (own_nf (args := #[]) (mvT hZ (ow hw 93 rfl)) rfl) (mvT hZ (ow hw 135 rfl)) (mvT hZ (ow hw 136 rfl)) (by decide) (backOf (W := 0) (rm := ({ frames := 1, cells := 0, slots := 0, locals := 12 } : Room)) (rm22_2 l Z a0 hw [] a2 T2.heap n0 F6 F9) hZ (ow hw 137 rfl) (ow hw 51 rfl) (by decide) (by decide)) q12a q12c (g := (mkF m 10 #[.val (.ref a1), .val (.ref a2), .val .null, .val (.ref vb), .unset] [(.ref a2)])) rfl (by rw [hml]; rfl) (Steps.refl _) (argsL := []) (rest := []) (lenOf pd___I rfl) rfl (by show 2 * 0 + _ ≤ _; exact Nat.le_of_eq rfl) (hb hby d20_10) (fun _ _ => ⟨rfl, rfl, (by decide : 0 + 0 ≤ _), (by decide : 0 + 0 ≤ _)⟩)
  dsimp only [Pt.U, Pt.locs, Pt.cells, Pt.slots] at X12 l12 y12 z12 st12 hQ12
  subst l12 y12 z12
  obtain ⟨rfl, N12q, K12q⟩ := hQ12
  refine own_st (fun t k => st12.trans k) ?_
  have N12 := Fr.app N2 N12q
  have K12 := K2.trans K12q (own_all0 )
  have F13 := F3.keep K12q
  have F14 := F4.keep K12q (own_nin0 )
  have F15 := F5.keep K12q (own_nin0 )
  have F16 := F6.keep K12q
  have F17 := F7.keep K12q (own_nin0 )
  have F18 := F8.keep K12q (own_nin0 )
  have F19 := F9.keep K12q (own_nin0 )
  have F20 := F10.keep K12q (own_nin0 )
  have F21 := own_staK F11 K12q (own_all0 )
  show OG p e _ s below _ T12 (mkF m 13 #[.val (.ref a1), .val (.ref a2), .val .null, .val (.ref vb), .unset] [(.int (2 : Int32))])
  refine wistore OGc 15 X12 B d20_13 #[.val (.ref a1), .val (.ref a2), .val .null, .val (.ref vb), .val (.int (2 : Int32))] rfl rfl ?_
  refine waloadN OGc 16 X12 B d20_15 rfl rfl rfl ?_
  refine wvirt OGc 19 X12 B hZ hown (ow hw 140 rfl) (ow hw 141 rfl) (ow hw 143 rfl) (ow hw 142 rfl) F16 (ow hw 144 rfl) (ow hw 59 rfl) rfl (rm24 l Z a0 hw [] a2 w T12.heap n0 F18 F21 hw0) 0 (by decide) (by decide) hml rfl (lenOf pd___Z rfl) [] rfl rfl d20_16 rfl fun _ T22 L22 X22 hQ22 => ?_
  obtain ⟨rfl, N22q, K22q⟩ := hQ22
  have N22 := Fr.app N12 N22q
  have K22 := K12.trans K22q (own_all0 )
  have F23 := F13.keep K22q
  have F24 := F14.keep K22q (own_nin0 )
  have F25 := F15.keep K22q (own_nin0 )
  have F26 := F16.keep K22q
  have F27 := F17.keep K22q (own_nin0 )
  have F28 := F18.keep K22q (own_nin0 )
  have F29 := F19.keep K22q (own_nin0 )
  have F30 := F20.keep K22q (own_nin0 )
  have F31 := own_staK F21 K22q (own_all0 )
  refine own_stk (S' := [(.int (1 : Int32))]) rfl ?_
  refine wifNo OGc 22 X22 B d20_19 (by decide) rfl ?_
  refine waloadN OGc 23 X22 B d20_22 rfl rfl rfl ?_
  refine wiconst OGc 24 X22 B d20_23 0 rfl rfl ?_
  refine wputF OGc 27 X22 B hZ hown (ow hw 25 rfl) rfl F25 F23 (Or.inr ⟨(ow hw 21 rfl), rfl, hnm⟩) (ow hw 5 rfl) (ty := .byte) (by decide) rfl rfl d20_24 rfl fun T32 h32 X32 e32 W32 => ?_
  have N32 := Fr.snoc X32 N22 g_a1
  have K33 := K22.wr W32 (Or.inl (List.mem_of_getElem? (i := 0) rfl))
  have F34 := F23.wr W32
  have F35 := F24.other W32 (Or.inr (slot_ne (Or.inr (ow hw 20 rfl)) (Or.inr (ow hw 21 rfl)) (by decide) (t := (.array .byte)) (t' := .byte) (by decide) (by decide)))
  have F36 : Fld Z h32 a1 "java/lang/String" "coder" "B" (.int (0 : Int32)) := (F25.same W32)
  have F37 := F26.wr W32
  have F38 := F27.other W32 (Or.inl (Ne.symm ne_a1_a2))
  have F39 := F28.other W32 (Or.inl (Ne.symm ne_a1_a2))
  have F40 := F29.other W32 (Or.inl (Ne.symm ne_a1_a2))
  have F41 := F30.other W32 (Ne.symm ne_a1_vb)
  have F42 := F31.wr W32
  refine waloadN OGc 28 X32 B d20_27 rfl rfl rfl ?_
  refine waloadN OGc 29 X32 B d20_28 rfl rfl rfl ?_
  refine wiconst OGc 30 X32 B d20_29 0 rfl rfl ?_
  refine wiload OGc 32 X32 B d20_30 rfl rfl ?_
  refine wstat OGc 35 X32 B hZ hown (ow hw 145 rfl) (ow hw 146 rfl) (ow hw 148 rfl) (ow hw 147 rfl) e32 (rm25_2 l Z a0 hw [] vb x0 x1 h32 n0 (Nat.le_trans Z0 K33.1) F41) 1 (by decide) (by decide) hml rfl (lenOf pd___BII__B rfl) [(.ref a1)] rfl rfl d20_32 rfl fun _ T43 L43 X43 hQ43 => ?_
  obtain ⟨N43q, K43q, b_43, sz_b_43, rfl, P43_0⟩ := hQ43
  have N43 := Fr.app N32 N43q
  have ge_b_43 : n0 ≤ b_43 := Nat.le_trans (Nat.le_trans Z0 K33.1) sz_b_43
  have sy_b_43 : h0.size ≤ b_43 := Nat.le_trans K33.1 sz_b_43
  have ne_a1_b_43 : a1 ≠ b_43 := Nat.ne_of_lt (Nat.lt_of_lt_of_le F34.lt sz_b_43)
  have ne_a2_b_43 : a2 ≠ b_43 := Nat.ne_of_lt (Nat.lt_of_lt_of_le F37.lt sz_b_43)
  have ne_vb_b_43 : vb ≠ b_43 := Nat.ne_of_lt (Nat.lt_of_lt_of_le F41.lt sz_b_43)
  have K43 := K33.trans K43q (own_all0 )
  have F44 := F34.keep K43q
  have F45 := F35.keep K43q (own_nin0 )
  have F46 := F36.keep K43q (own_nin0 )
  have F47 := F37.keep K43q
  have F48 := F38.keep K43q (own_nin0 )
  have F49 := F39.keep K43q (own_nin0 )
  have F50 := F40.keep K43q (own_nin0 )
  have F51 := F41.keep K43q (own_nin0 )
  have F52 := own_staK F42 K43q (own_all0 )
  refine own_stk (S' := [(.ref b_43), (.ref a1)]) rfl ?_
  refine wputF OGc 38 X43 B hZ hown (ow hw 24 rfl) rfl F45 F44 (Or.inr ⟨(ow hw 20 rfl), rfl, hnm⟩) (ow hw 5 rfl) (ty := (.array .byte)) (by decide) rfl rfl d20_35 rfl fun T53 h53 X53 e53 W53 => ?_
  have N53 := Fr.snoc X53 N43 g_a1
  have K54 := K43.wr W53 (Or.inl (List.mem_of_getElem? (i := 0) rfl))
  have F55 := F44.wr W53
  have F56 : Fld Z h53 a1 "java/lang/String" "value" "[B" (.ref b_43) := (F45.same W53)
  have F57 := F46.other W53 (Or.inr (slot_ne (Or.inr (ow hw 21 rfl)) (Or.inr (ow hw 20 rfl)) (by decide) (t := .byte) (t' := (.array .byte)) (by decide) (by decide)))
  have F58 := F47.wr W53
  have F59 := F48.other W53 (Or.inl (Ne.symm ne_a1_a2))
  have F60 := F49.other W53 (Or.inl (Ne.symm ne_a1_a2))
  have F61 := F50.other W53 (Or.inl (Ne.symm ne_a1_a2))
  have F62 := F51.other W53 (Ne.symm ne_a1_vb)
  have F63 := F52.wr W53
  have F64 := P43_0.other W53 (Ne.symm ne_a1_b_43)
  refine wgoto OGc 97 X53 B d20_38 rfl ?_
  refine own_ret0 X53 hx hret hlk (hb hby d20_97) (by decide) (by decide) ?_
  rw [e53]
  exact ⟨rfl, N53, K54, b_43, sy_b_43, F55, F56, F57, F64⟩
abbrev Q19_2 (Z : State) (a1 : Addr) (a2 : Addr) (vb : Addr) (x0 : Int32) (x1 : Int32) (w : Int32) (h0 : Heap) (n0 : Nat) : Option Value → Heap → List Loc → Prop := (fun v h L => v = none ∧ Fr n0 L ∧ Keep h0 h [a1] ∧ ∃ b : Addr, h0.size ≤ b ∧ Exa Z h a1 "java/lang/String" ∧ Fld Z h a1 "java/lang/String" "value" "[B" (.ref b) ∧ Fld Z h a1 "java/lang/String" "coder" "B" (.int (0 : Int32)) ∧ OA Z h b .byte (([x0, x1] : List Int32).map obv))
theorem rm19_2 (l : Launch) (Z : State) (a0 : Array Value) (hw : ∀ d ∈ tables_1, d.before a0 Z = true) (ws : List Jvm.Cond) (a1 : Addr) (a2 : Addr) (vb : Addr) (x0 : Int32) (x1 : Int32) (w : Int32) (h0 : Heap) (n0 : Nat) (Z0 : n0 ≤ h0.size) (R0 : Exa Z h0 a1 "java/lang/String") (R1 : Fld Z h0 a1 "java/lang/String" "value" "[B" .null) (R2 : Fld Z h0 a1 "java/lang/String" "coder" "B" (.int (0 : Int32))) (R3 : Exa Z h0 a2 "java/lang/StringBuilder") (R4 : Fld Z h0 a2 "java/lang/AbstractStringBuilder" "value" "[B" (.ref vb)) (R5 : Fld Z h0 a2 "java/lang/AbstractStringBuilder" "coder" "B" (.int (0 : Int32))) (R6 : Fld Z h0 a2 "java/lang/AbstractStringBuilder" "count" "I" (.int (2 : Int32))) (R7 : OA Z h0 vb .byte (obuf [x0, x1])) (R8 : Sta Z h0 "java/lang/String" "COMPACT_STRINGS" "Z" (.int w)) (g_a1 : n0 ≤ a1) (ne_a1_a2 : a1 ≠ a2) (ne_a1_vb : a1 ≠ vb) (hw0 : ¬ w = (0 : Int32)) :
    OMet l Z (⟨"java/lang/String", "<init>", "(Ljava/lang/StringBuilder;)V"⟩ : MethodName) jdk_42_method_53_code 2 none ws ({ frames := 4, cells := 1, slots := 2, locals := 65 } : Room) #[(.ref a1), (.ref a2)] h0 (Q19_2 Z a1 a2 vb x0 x1 w h0 n0) := by
  refine own_enter pn_19 ?_
  intro p e s m below meth c s₁ hx hby hml0 hown hret hlk hnm hZ X0 e0
  have hml : c.maxLocals = 2 := hml0
  have B : BX p c jdk_42_method_53_code := ⟨hx, hby⟩
  have N0 := Fr.nil n0
  refine own_cast (ef_19 m a1 a2) ?_
  refine waloadN OGc 1 X0 B d19_0 rfl rfl rfl ?_
  refine waloadN OGc 2 X0 B d19_1 rfl rfl rfl ?_
  refine waconstNull OGc 3 X0 B d19_2 rfl ?_
  refine wspec OGc 6 X0 B hZ hown (ow hw 124 rfl) (ow hw 125 rfl) rfl (ow hw 126 rfl) (ow hw 6 rfl) e0 (rm20_2 l Z a0 hw [] a1 a2 vb x0 x1 w h0 n0 (Nat.le_trans Z0 (Keep.refl h0 [a1]).1) R0 R1 R2 R3 R4 R5 R6 R7 R8 g_a1 ne_a1_a2 ne_a1_vb hw0) 0 (by decide) (by decide) hml rfl (lenOf pd__Ljava_lang_AbstractStringBuilder_Ljava_lang_Void__V rfl) [] rfl rfl d19_3 rfl fun _ T1 L1 X1 hQ1 => ?_
  obtain ⟨rfl, N1q, K1q, b_1, sz_b_1, P1_0, P1_1, P1_2, P1_3⟩ := hQ1
  have N1 := Fr.app N0 N1q
  have ge_b_1 : n0 ≤ b_1 := Nat.le_trans (Nat.le_trans Z0 (Keep.refl h0 [a1]).1) sz_b_1
  have sy_b_1 : h0.size ≤ b_1 := Nat.le_trans (Keep.refl h0 [a1]).1 sz_b_1
  have ne_a1_b_1 : a1 ≠ b_1 := Nat.ne_of_lt (Nat.lt_of_lt_of_le R0.lt sz_b_1)
  have ne_a2_b_1 : a2 ≠ b_1 := Nat.ne_of_lt (Nat.lt_of_lt_of_le R3.lt sz_b_1)
  have ne_vb_b_1 : vb ≠ b_1 := Nat.ne_of_lt (Nat.lt_of_lt_of_le R7.lt sz_b_1)
  have K1 := (Keep.refl h0 [a1]).trans K1q (own_all1 (Or.inl (List.mem_of_getElem? (i := 0) rfl)))
  have F2 := R3.keep K1q
  have F3 := R4.keep K1q (own_nin1 (Ne.symm ne_a1_a2))
  have F4 := R5.keep K1q (own_nin1 (Ne.symm ne_a1_a2))
  have F5 := R6.keep K1q (own_nin1 (Ne.symm ne_a1_a2))
  have F6 := R7.keep K1q (own_nin1 (Ne.symm ne_a1_vb))
  have F7 := own_staK R8 K1q (own_all1 (own_plE R0))
  refine own_stk (S' := []) rfl ?_
  refine own_ret0 X1 hx hret hlk (hb hby d19_6) (by decide) (by decide) ?_
  exact ⟨rfl, N1, K1, b_1, sy_b_1, P1_0, P1_1, P1_2, P1_3⟩
abbrev Q18_2 (Z : State) (a1 : Addr) (vb : Addr) (x0 : Int32) (x1 : Int32) (w : Int32) (h0 : Heap) (n0 : Nat) : Option Value → Heap → List Loc → Prop := (fun v h L => Fr n0 L ∧ Keep h0 h [] ∧ ∃ s : Addr, ∃ b : Addr, h0.size ≤ s ∧ h0.size ≤ b ∧ v = some (.ref s) ∧ Exa Z h s "java/lang/String" ∧ Fld Z h s "java/lang/String" "value" "[B" (.ref b) ∧ Fld Z h s "java/lang/String" "coder" "B" (.int (0 : Int32)) ∧ OA Z h b .byte (([x0, x1] : List Int32).map obv))
theorem rm18_2 (l : Launch) (Z : State) (a0 : Array Value) (hw : ∀ d ∈ tables_1, d.before a0 Z = true) (ws : List Jvm.Cond) (a1 : Addr) (vb : Addr) (x0 : Int32) (x1 : Int32) (w : Int32) (h0 : Heap) (n0 : Nat) (Z0 : n0 ≤ h0.size) (R0 : Exa Z h0 a1 "java/lang/StringBuilder") (R1 : Fld Z h0 a1 "java/lang/AbstractStringBuilder" "value" "[B" (.ref vb)) (R2 : Fld Z h0 a1 "java/lang/AbstractStringBuilder" "coder" "B" (.int (0 : Int32))) (R3 : Fld Z h0 a1 "java/lang/AbstractStringBuilder" "count" "I" (.int (2 : Int32))) (R4 : OA Z h0 vb .byte (obuf [x0, x1])) (R5 : Sta Z h0 "java/lang/String" "COMPACT_STRINGS" "Z" (.int w)) (hw0 : ¬ w = (0 : Int32)) :
    OMet l Z (⟨"java/lang/StringBuilder", "toString", "()Ljava/lang/String;"⟩ : MethodName) jdk_67_method_42_code 1 (some (.object "java/lang/String")) ws ({ frames := 5, cells := 2, slots := 10, locals := 79 } : Room) #[(.ref a1)] h0 (Q18_2 Z a1 vb x0 x1 w h0 n0) := by
  refine own_enter pn_18 ?_
  intro p e s m below meth c s₁ hx hby hml0 hown hret hlk hnm hZ X0 e0
  have hml : c.maxLocals = 1 := hml0
  have B : BX p c jdk_67_method_42_code := ⟨hx, hby⟩
  have N0 := Fr.nil n0
  refine own_cast (ef_18 m a1) ?_
  refine wnewO OGc 3 X0 B hZ hown (ow hw 120 rfl) (ow hw 5 rfl) (ow hw 6 rfl) e0 d18_0 (by decide) rfl fun T1 h1 o1 gb1 X1 e1 E1 A1 D1 => ?_
  have ge_o1 : n0 ≤ o1 := by rw [gb1]; exact Nat.le_trans Z0 (Keep.refl h0 []).1
  have sz_o1 : h0.size ≤ o1 := by rw [gb1]; exact (Keep.refl h0 []).1
  have ne_a1_o1 : a1 ≠ o1 := Nat.ne_of_lt (Nat.lt_of_lt_of_eq R0.lt gb1.symm)
  have ne_vb_o1 : vb ≠ o1 := Nat.ne_of_lt (Nat.lt_of_lt_of_eq R4.lt gb1.symm)
  have F2 := R0.ext E1
  have F3 := R1.ext E1
  have F4 := R2.ext E1
  have F5 := R3.ext E1
  have F6 := R4.ext E1
  have F7 := R5.ext E1
  have K8 := (Keep.refl h0 []).ext E1
  have F9 : Fld Z h1 o1 "java/lang/String" "value" "[B" .null := D1 (Or.inr (ow hw 20 rfl)) (ty := (.array .byte)) (by decide)
  have F10 : Fld Z h1 o1 "java/lang/String" "coder" "B" (.int (0 : Int32)) := D1 (Or.inr (ow hw 21 rfl)) (ty := .byte) (by decide)
  refine wdup OGc 4 X1 B d18_3 rfl rfl ?_
  refine waloadN OGc 5 X1 B d18_4 rfl rfl rfl ?_
  refine wspec OGc 8 X1 B hZ hown (ow hw 121 rfl) (ow hw 122 rfl) rfl (ow hw 123 rfl) (ow hw 6 rfl) e1 (rm19_2 l Z a0 hw [] o1 a1 vb x0 x1 w h1 n0 (Nat.le_trans Z0 K8.1) A1 F9 F10 F2 F3 F4 F5 F6 F7 ge_o1 (Ne.symm ne_a1_o1) (Ne.symm ne_vb_o1) hw0) 1 (by decide) (by decide) hml rfl (lenOf pd__Ljava_lang_StringBuilder__V rfl) [(.ref o1)] rfl rfl d18_5 rfl fun _ T11 L11 X11 hQ11 => ?_
  obtain ⟨rfl, N11q, K11q, b_11, sz_b_11, P11_0, P11_1, P11_2, P11_3⟩ := hQ11
  have N11 := Fr.app N0 N11q
  have ge_b_11 : n0 ≤ b_11 := Nat.le_trans (Nat.le_trans Z0 K8.1) sz_b_11
  have sy_b_11 : h0.size ≤ b_11 := Nat.le_trans K8.1 sz_b_11
  have ne_a1_b_11 : a1 ≠ b_11 := Nat.ne_of_lt (Nat.lt_of_lt_of_le F2.lt sz_b_11)
  have ne_o1_b_11 : o1 ≠ b_11 := Nat.ne_of_lt (Nat.lt_of_lt_of_le A1.lt sz_b_11)
  have ne_vb_b_11 : vb ≠ b_11 := Nat.ne_of_lt (Nat.lt_of_lt_of_le F6.lt sz_b_11)
  have K11 := K8.trans K11q (own_all1 (Or.inr sz_o1))
  have F12 := F2.keep K11q
  have F13 := F3.keep K11q (own_nin1 ne_a1_o1)
  have F14 := F4.keep K11q (own_nin1 ne_a1_o1)
  have F15 := F5.keep K11q (own_nin1 ne_a1_o1)
  have F16 := F6.keep K11q (own_nin1 ne_vb_o1)
  have F17 := own_staK F7 K11q (own_all1 (own_plE A1))
  refine own_stk (S' := [(.ref o1)]) rfl ?_
  refine own_retV X11 hx hret rfl (Or.inr (Or.inr (Or.inr (Or.inr ⟨rfl, rfl, rfl⟩)))) hlk (hb hby d18_8) (by decide) (by decide) ?_
  exact ⟨N11, K11, o1, b_11, sz_o1, sy_b_11, rfl, P11_0, P11_1, P11_2, P11_3⟩
abbrev Q23_3 (Z : State) (a1 : Addr) (h0 : Heap) (n0 : Nat) : Option Value → Heap → List Loc → Prop := (fun v h L => v = some (.int (3 : Int32)) ∧ Fr n0 L ∧ Keep h0 h [])
theorem rm23_3 (l : Launch) (Z : State) (a0 : Array Value) (hw : ∀ d ∈ tables_1, d.before a0 Z = true) (ws : List Jvm.Cond) (a1 : Addr) (h0 : Heap) (n0 : Nat) (R0 : Fld Z h0 a1 "java/lang/AbstractStringBuilder" "count" "I" (.int (3 : Int32))) :
    OMet l Z (⟨"java/lang/AbstractStringBuilder", "length", "()I"⟩ : MethodName) jdk_68_method_6_code 1 (some .int) ws ({ frames := 0, cells := 0, slots := 0, locals := 0 } : Room) #[(.ref a1)] h0 (Q23_3 Z a1 h0 n0) := by
  refine own_enter pn_23 ?_
  intro p e s m below meth c s₁ hx hby hml0 hown hret hlk hnm hZ X0 e0
  have hml : c.maxLocals = 1 := hml0
  have B : BX p c jdk_68_method_6_code := ⟨hx, hby⟩
  have N0 := Fr.nil n0
  refine own_cast (ef_23 m a1) ?_
  refine waloadN OGc 1 X0 B d23_0 rfl rfl rfl ?_
  refine wgetF OGc 4 X0 B hZ hown (ow hw 88 rfl) e0 R0 d23_1 rfl fun T1 X1 e1 => ?_
  refine own_retI X1 hx hret hlk (hb hby d23_4) (by decide) (by decide) ?_
  rw [e1]
  exact ⟨rfl, N0, (Keep.refl h0 [])⟩
abbrev Q22_3 (Z : State) (a1 : Addr) (h0 : Heap) (n0 : Nat) : Option Value → Heap → List Loc → Prop := (fun v h L => v = some (.int (3 : Int32)) ∧ Fr n0 L ∧ Keep h0 h [])
theorem rm22_3 (l : Launch) (Z : State) (a0 : Array Value) (hw : ∀ d ∈ tables_1, d.before a0 Z = true) (ws : List Jvm.Cond) (a1 : Addr) (h0 : Heap) (n0 : Nat) (R0 : Exa Z h0 a1 "java/lang/StringBuilder") (R1 : Fld Z h0 a1 "java/lang/AbstractStringBuilder" "count" "I" (.int (3 : Int32))) :
    OMet l Z (⟨"java/lang/StringBuilder", "length", "()I"⟩ : MethodName) jdk_67_method_93_code 1 (some .int) ws ({ frames := 1, cells := 0, slots := 0, locals := 12 } : Room) #[(.ref a1)] h0 (Q22_3 Z a1 h0 n0) := by
  refine own_enter pn_22 ?_
  intro p e s m below meth c s₁ hx hby hml0 hown hret hlk hnm hZ X0 e0
  have hml : c.maxLocals = 1 := hml0
  have B : BX p c jdk_67_method_93_code := ⟨hx, hby⟩
  have N0 := Fr.nil n0
  refine own_cast (ef_22 m a1) ?_
  refine waloadN OGc 1 X0 B d22_0 rfl rfl rfl ?_
  obtain ⟨_, _, ⟨T1, L1, k1, n1⟩, -, X1, ⟨Lc1, hQ1, l1, y1, z1⟩, st1⟩ := superBack X0 hx hZ (y := (⟨"java/lang/AbstractStringBuilder", "length", "()I"⟩ : MethodName)) hown (ow hw 138 rfl) (own_same (ow hw 134 rfl) (ow hw 93 rfl) rfl (by decide)) (ow hw 134 rfl) (ow hw 74 rfl) (by decide) (backOf (W := 0) (rm := ({ frames := 0, cells := 0, slots := 0, locals := 0 } : Room)) (rm23_3 l Z a0 hw [] a1 h0 n0 R1) hZ (ow hw 139 rfl) (ow hw 59 rfl) (by decide) (by decide)) e0 (Ins.self R0) (g := (mkF m 1 #[.val (.ref a1)] [(.ref a1)])) rfl (by rw [hml]; rfl) (ow hw 139 rfl) (argsL := []) (rest := []) (lenOf pd___I rfl) rfl (by show 2 * 0 + _ ≤ _; exact Nat.le_of_eq rfl) (hb hby d22_1) (fun _ _ => ⟨rfl, e0, (by decide : 0 + 0 ≤ _), (by decide : 0 + 0 ≤ _)⟩)
  dsimp only [Pt.U, Pt.locs, Pt.cells, Pt.slots] at X1 l1 y1 z1 st1 hQ1
  subst l1 y1 z1
  obtain ⟨rfl, N1q, K1q⟩ := hQ1
  refine own_st (fun t k => st1.trans k) ?_
  have N1 := Fr.app N0 N1q
  have K1 := (Keep.refl h0 []).trans K1q (own_all0 )
  have F2 := R0.keep K1q
  have F3 := R1.keep K1q (own_nin0 )
  show OG p e _ s below _ T1 (mkF m 4 #[.val (.ref a1)] [(.int (3 : Int32))])
  refine own_retI X1 hx hret hlk (hb hby d22_4) (by decide) (by decide) ?_
  exact ⟨rfl, N1, K1⟩
theorem ef_27_3 (m : MethodId)  : entryFrame m #[(.int (0 : Int32)), (.int (3 : Int32))] 2 = (mkF m 0 #[.val (.int (0 : Int32)), .val (.int (3 : Int32))] []) := by first | (simp [entryFrame, mkF, argsToLocals, Value.category]; done) | rfl
abbrev Q27_3 (Z : State)  (h0 : Heap) (n0 : Nat) : Option Value → Heap → List Loc → Prop := (fun v h L => v = none ∧ Fr n0 L ∧ Keep h0 h [])
theorem rm27_3 (l : Launch) (Z : State) (a0 : Array Value) (hw : ∀ d ∈ tables_1, d.before a0 Z = true) (ws : List Jvm.Cond)  (h0 : Heap) (n0 : Nat) :
    OMet l Z (⟨"java/util/Arrays", "checkLength", "(II)V"⟩ : MethodName) jdk_65_method_131_code 2 none ws ({ frames := 0, cells := 0, slots := 0, locals := 0 } : Room) #[(.int (0 : Int32)), (.int (3 : Int32))] h0 (Q27_3 Z  h0 n0) := by
  refine own_enter pn_27 ?_
  intro p e s m below meth c s₁ hx hby hml0 hown hret hlk hnm hZ X0 e0
  have hml : c.maxLocals = 2 := hml0
  have B : BX p c jdk_65_method_131_code := ⟨hx, hby⟩
  have N0 := Fr.nil n0
  refine own_cast (ef_27_3 m ) ?_
  refine wiloadN OGc 1 X0 B d27_0 rfl rfl ?_
  refine wiloadN OGc 2 X0 B d27_1 rfl rfl ?_
  refine wicmpYes OGc 37 X0 B d27_2 (by decide) rfl ?_
  refine own_ret0 X0 hx hret hlk (hb hby d27_37) (by decide) (by decide) ?_
  rw [e0]
  exact ⟨rfl, N0, (Keep.refl h0 [])⟩
theorem ef_28_3 (m : MethodId)  : entryFrame m #[(.int (16 : Int32)), (.int (3 : Int32))] 2 = (mkF m 0 #[.val (.int (16 : Int32)), .val (.int (3 : Int32))] []) := by first | (simp [entryFrame, mkF, argsToLocals, Value.category]; done) | rfl
abbrev Q28_3 (Z : State)  (h0 : Heap) (n0 : Nat) : Option Value → Heap → List Loc → Prop := (fun v h L => v = some (.int (3 : Int32)) ∧ Fr n0 L ∧ Keep h0 h [])
theorem rm28_3 (l : Launch) (Z : State) (a0 : Array Value) (hw : ∀ d ∈ tables_1, d.before a0 Z = true) (ws : List Jvm.Cond)  (h0 : Heap) (n0 : Nat) :
    OMet l Z (⟨"java/lang/Math", "min", "(II)I"⟩ : MethodName) jdk_29_method_69_code 2 (some .int) ws ({ frames := 0, cells := 0, slots := 0, locals := 0 } : Room) #[(.int (16 : Int32)), (.int (3 : Int32))] h0 (Q28_3 Z  h0 n0) := by
  refine own_enter pn_28 ?_
  intro p e s m below meth c s₁ hx hby hml0 hown hret hlk hnm hZ X0 e0
  have hml : c.maxLocals = 2 := hml0
  have B : BX p c jdk_29_method_69_code := ⟨hx, hby⟩
  have N0 := Fr.nil n0
  refine own_cast (ef_28_3 m ) ?_
  refine wiloadN OGc 1 X0 B d28_0 rfl rfl ?_
  refine wiloadN OGc 2 X0 B d28_1 rfl rfl ?_
  refine wicmpYes OGc 9 X0 B d28_2 (by decide) rfl ?_
  refine wiloadN OGc 10 X0 B d28_9 rfl rfl ?_
  refine own_retI X0 hx hret hlk (hb hby d28_10) (by decide) (by decide) ?_
  rw [e0]
  exact ⟨rfl, N0, (Keep.refl h0 [])⟩
theorem ef_26_3 (m : MethodId) (a1 : Addr) : entryFrame m #[(.ref a1), (.int (0 : Int32)), (.int (3 : Int32))] 5 = (mkF m 0 #[.val (.ref a1), .val (.int (0 : Int32)), .val (.int (3 : Int32)), .unset, .unset] []) := by first | (simp [entryFrame, mkF, argsToLocals, Value.category]; done) | rfl
abbrev Q26_3 (Z : State) (a1 : Addr) (x0 : Int32) (x1 : Int32) (x2 : Int32) (h0 : Heap) (n0 : Nat) : Option Value → Heap → List Loc → Prop := (fun v h L => Fr n0 L ∧ Keep h0 h [] ∧ ∃ b : Addr, h0.size ≤ b ∧ v = some (.ref b) ∧ OA Z h b .byte (([x0, x1, x2] : List Int32).map obv))
theorem rm26_3 (l : Launch) (Z : State) (a0 : Array Value) (hw : ∀ d ∈ tables_1, d.before a0 Z = true) (ws : List Jvm.Cond) (a1 : Addr) (x0 : Int32) (x1 : Int32) (x2 : Int32) (h0 : Heap) (n0 : Nat) (Z0 : n0 ≤ h0.size) (R0 : OA Z h0 a1 .byte (obuf [x0, x1, x2])) :
    OMet l Z (⟨"java/util/Arrays", "copyOfRangeByte", "([BII)[B"⟩ : MethodName) jdk_65_method_133_code 5 (some (.array .byte)) ws ({ frames := 1, cells := 1, slots := 3, locals := 18 } : Room) #[(.ref a1), (.int (0 : Int32)), (.int (3 : Int32))] h0 (Q26_3 Z a1 x0 x1 x2 h0 n0) := by
  refine own_enter pn_26 ?_
  intro p e s m below meth c s₁ hx hby hml0 hown hret hlk hnm hZ X0 e0
  have hml : c.maxLocals = 5 := hml0
  have B : BX p c jdk_65_method_133_code := ⟨hx, hby⟩
  have N0 := Fr.nil n0
  refine own_cast (ef_26_3 m a1) ?_
  refine wiloadN OGc 1 X0 B d26_0 rfl rfl ?_
  refine wiloadN OGc 2 X0 B d26_1 rfl rfl ?_
  refine wstat OGc 5 X0 B hZ hown (ow hw 152 rfl) (ow hw 153 rfl) (ow hw 154 rfl) (ow hw 147 rfl) e0 (rm27_3 l Z a0 hw [] h0 n0) 0 (by decide) (by decide) hml rfl (lenOf pd__II_V rfl) [] rfl rfl d26_2 rfl fun _ T1 L1 X1 hQ1 => ?_
  obtain ⟨rfl, N1q, K1q⟩ := hQ1
  have N1 := Fr.app N0 N1q
  have K1 := (Keep.refl h0 []).trans K1q (own_all0 )
  have F2 := R0.keep K1q (own_nin0 )
  refine own_stk (S' := []) rfl ?_
  refine wiloadN OGc 6 X1 B d26_5 rfl rfl ?_
  refine wiloadN OGc 7 X1 B d26_6 rfl rfl ?_
  refine wisub OGc 8 X1 B d26_7 rfl ?_
  show OG p e _ s below _ T1 (mkF m 8 #[.val (.ref a1), .val (.int (0 : Int32)), .val (.int (3 : Int32)), .unset, .unset] [(.int (3 : Int32))])
  refine wistoreN OGc 9 X1 B d26_8 #[.val (.ref a1), .val (.int (0 : Int32)), .val (.int (3 : Int32)), .val (.int (3 : Int32)), .unset] rfl rfl ?_
  refine wiloadN OGc 10 X1 B d26_9 rfl rfl ?_
  refine wnewP OGc 12 X1 B hZ (ow hw 19 rfl) rfl d26_10 3 (by decide) (by decide) rfl fun T3 h3 b3 k3 gb3 X3 e3 E3 A3 => ?_
  have ge_b3 : n0 ≤ b3 := by rw [gb3]; exact Nat.le_trans Z0 K1.1
  have sz_b3 : h0.size ≤ b3 := by rw [gb3]; exact K1.1
  have ne_a1_b3 : a1 ≠ b3 := Nat.ne_of_lt (Nat.lt_of_lt_of_eq F2.lt gb3.symm)
  have F4 := F2.ext E3
  have K5 := K1.ext E3
  have F6 : OA Z h3 b3 .byte [(.int (0 : Int32)), (.int (0 : Int32)), (.int (0 : Int32))] := OA.new A3
  refine wastore OGc 14 X3 B d26_12 #[.val (.ref a1), .val (.int (0 : Int32)), .val (.int (3 : Int32)), .val (.int (3 : Int32)), .val (.ref b3)] rfl rfl rfl ?_
  refine waloadN OGc 15 X3 B d26_14 rfl rfl rfl ?_
  refine wiloadN OGc 16 X3 B d26_15 rfl rfl ?_
  refine waload OGc 18 X3 B d26_16 rfl rfl rfl ?_
  refine wiconst OGc 19 X3 B d26_18 0 rfl rfl ?_
  refine waloadN OGc 20 X3 B d26_19 rfl rfl rfl ?_
  refine warlenA OGc 21 X3 B hZ e3 F4 (16 : Int32) rfl d26_20 rfl ?_
  refine wiloadN OGc 22 X3 B d26_21 rfl rfl ?_
  refine wisub OGc 23 X3 B d26_22 rfl ?_
  show OG p e _ s below _ T3 (mkF m 23 #[.val (.ref a1), .val (.int (0 : Int32)), .val (.int (3 : Int32)), .val (.int (3 : Int32)), .val (.ref b3)] [(.int (16 : Int32)), (.int (0 : Int32)), (.ref b3), (.int (0 : Int32)), (.ref a1)])
  refine wiloadN OGc 24 X3 B d26_23 rfl rfl ?_
  refine wstat OGc 27 X3 B hZ hown (ow hw 155 rfl) (ow hw 156 rfl) (ow hw 158 rfl) (ow hw 157 rfl) e3 (rm28_3 l Z a0 hw [] h3 n0) 4 (by decide) (by decide) hml rfl (lenOf pd__II_I rfl) [(.int (0 : Int32)), (.ref b3), (.int (0 : Int32)), (.ref a1)] rfl rfl d26_24 rfl fun _ T8 L8 X8 hQ8 => ?_
  obtain ⟨rfl, N8q, K8q⟩ := hQ8
  have N8 := Fr.app N1 N8q
  have K8 := K5.trans K8q (own_all0 )
  have F9 := F4.keep K8q (own_nin0 )
  have F10 := F6.keep K8q (own_nin0 )
  refine own_stk (S' := [(.int (3 : Int32)), (.int (0 : Int32)), (.ref b3), (.int (0 : Int32)), (.ref a1)]) rfl ?_
  refine wcp OGc 30 X8 B hZ hown (ow hw 159 rfl) (ow hw 114 rfl) (ow hw 112 rfl) (ow hw 113 rfl) rfl F9 F10 (own_bytB [x0, x1, x2] 13) (Byt.zero (Byt.zero (Byt.zero Byt.nil))) 16 3 0 0 3 rfl rfl (z := (16 : Int32)) (z' := (3 : Int32)) (by decide) (([x0, x1, x2] : List Int32).map obv) rfl (([x0, x1, x2] : List Int32).map obv) rfl rfl N8 ge_b3 hml rfl d26_27 (W := 0) rfl (by decide) rfl fun T11 h11 L11 X11 e11 N11 K11q A11 => ?_
  have K11 : Keep h0 h11 [] := K8.trans K11q (own_all1 (Or.inr sz_b3))
  have F12 := F9.keep K11q (own_nin1 ne_a1_b3)
  have F13 : OA Z h11 b3 .byte (([x0, x1, x2] : List Int32).map obv) := A11
  refine waload OGc 32 X11 B d26_30 rfl rfl rfl ?_
  refine own_retV X11 hx hret rfl (Or.inr (Or.inr (Or.inr (Or.inr ⟨rfl, rfl, rfl⟩)))) hlk (hb hby d26_32) (by decide) (by decide) ?_
  rw [e11]
  exact ⟨N11, K11, b3, sz_b3, rfl, F13⟩
theorem ef_25_3 (m : MethodId) (a1 : Addr) : entryFrame m #[(.ref a1), (.int (0 : Int32)), (.int (3 : Int32))] 3 = (mkF m 0 #[.val (.ref a1), .val (.int (0 : Int32)), .val (.int (3 : Int32))] []) := by first | (simp [entryFrame, mkF, argsToLocals, Value.category]; done) | rfl
abbrev Q25_3 (Z : State) (a1 : Addr) (x0 : Int32) (x1 : Int32) (x2 : Int32) (h0 : Heap) (n0 : Nat) : Option Value → Heap → List Loc → Prop := (fun v h L => Fr n0 L ∧ Keep h0 h [] ∧ ∃ b : Addr, h0.size ≤ b ∧ v = some (.ref b) ∧ OA Z h b .byte (([x0, x1, x2] : List Int32).map obv))
theorem rm25_3 (l : Launch) (Z : State) (a0 : Array Value) (hw : ∀ d ∈ tables_1, d.before a0 Z = true) (ws : List Jvm.Cond) (a1 : Addr) (x0 : Int32) (x1 : Int32) (x2 : Int32) (h0 : Heap) (n0 : Nat) (Z0 : n0 ≤ h0.size) (R0 : OA Z h0 a1 .byte (obuf [x0, x1, x2])) :
    OMet l Z (⟨"java/util/Arrays", "copyOfRange", "([BII)[B"⟩ : MethodName) jdk_65_method_132_code 3 (some (.array .byte)) ws ({ frames := 2, cells := 1, slots := 3, locals := 34 } : Room) #[(.ref a1), (.int (0 : Int32)), (.int (3 : Int32))] h0 (Q25_3 Z a1 x0 x1 x2 h0 n0) := by
  refine own_enter pn_25 ?_
  intro p e s m below meth c s₁ hx hby hml0 hown hret hlk hnm hZ X0 e0
  have hml : c.maxLocals = 3 := hml0
  have B : BX p c jdk_65_method_132_code := ⟨hx, hby⟩
  have N0 := Fr.nil n0
  refine own_cast (ef_25_3 m a1) ?_
  refine wiloadN OGc 1 X0 B d25_0 rfl rfl ?_
  refine wifNo OGc 4 X0 B d25_1 (by decide) rfl ?_
  refine wiloadN OGc 5 X0 B d25_4 rfl rfl ?_
  refine waloadN OGc 6 X0 B d25_5 rfl rfl rfl ?_
  refine warlenA OGc 7 X0 B hZ e0 R0 (16 : Int32) rfl d25_6 rfl ?_
  refine wicmpNo OGc 10 X0 B d25_7 (by decide) rfl ?_
  refine waloadN OGc 11 X0 B d25_10 rfl rfl rfl ?_
  refine wiloadN OGc 12 X0 B d25_11 rfl rfl ?_
  refine wiloadN OGc 13 X0 B d25_12 rfl rfl ?_
  refine wstat OGc 16 X0 B hZ hown (ow hw 149 rfl) (ow hw 150 rfl) (ow hw 151 rfl) (ow hw 147 rfl) e0 (rm26_3 l Z a0 hw [] a1 x0 x1 x2 h0 n0 (Nat.le_trans Z0 (Keep.refl h0 []).1) R0) 0 (by decide) (by decide) hml rfl (lenOf pd___BII__B rfl) [] rfl rfl d25_13 rfl fun _ T2 L2 X2 hQ2 => ?_
  obtain ⟨N2q, K2q, b_2, sz_b_2, rfl, P2_0⟩ := hQ2
  have N2 := Fr.app N0 N2q
  have ge_b_2 : n0 ≤ b_2 := Nat.le_trans (Nat.le_trans Z0 (Keep.refl h0 []).1) sz_b_2
  have sy_b_2 : h0.size ≤ b_2 := Nat.le_trans (Keep.refl h0 []).1 sz_b_2
  have ne_a1_b_2 : a1 ≠ b_2 := Nat.ne_of_lt (Nat.lt_of_lt_of_le R0.lt sz_b_2)
  have K2 := (Keep.refl h0 []).trans K2q (own_all0 )
  have F3 := R0.keep K2q (own_nin0 )
  refine own_stk (S' := [(.ref b_2)]) rfl ?_
  refine own_retV X2 hx hret rfl (Or.inr (Or.inr (Or.inr (Or.inr ⟨rfl, rfl, rfl⟩)))) hlk (hb hby d25_16) (by decide) (by decide) ?_
  exact ⟨N2, K2, b_2, sy_b_2, rfl, P2_0⟩
theorem ef_20_3 (m : MethodId) (a1 : Addr) (a2 : Addr) : entryFrame m #[(.ref a1), (.ref a2), .null] 5 = (mkF m 0 #[.val (.ref a1), .val (.ref a2), .val .null, .unset, .unset] []) := by first | (simp [entryFrame, mkF, argsToLocals, Value.category]; done) | rfl
abbrev Q20_3 (Z : State) (a1 : Addr) (a2 : Addr) (vb : Addr) (x0 : Int32) (x1 : Int32) (x2 : Int32) (w : Int32) (h0 : Heap) (n0 : Nat) : Option Value → Heap → List Loc → Prop := (fun v h L => v = none ∧ Fr n0 L ∧ Keep h0 h [a1] ∧ ∃ b : Addr, h0.size ≤ b ∧ Exa Z h a1 "java/lang/String" ∧ Fld Z h a1 "java/lang/String" "value" "[B" (.ref b) ∧ Fld Z h a1 "java/lang/String" "coder" "B" (.int (0 : Int32)) ∧ OA Z h b .byte (([x0, x1, x2] : List Int32).map obv))
theorem rm20_3 (l : Launch) (Z : State) (a0 : Array Value) (hw : ∀ d ∈ tables_1, d.before a0 Z = true) (ws : List Jvm.Cond) (a1 : Addr) (a2 : Addr) (vb : Addr) (x0 : Int32) (x1 : Int32) (x2 : Int32) (w : Int32) (h0 : Heap) (n0 : Nat) (Z0 : n0 ≤ h0.size) (R0 : Exa Z h0 a1 "java/lang/String") (R1 : Fld Z h0 a1 "java/lang/String" "value" "[B" .null) (R2 : Fld Z h0 a1 "java/lang/String" "coder" "B" (.int (0 : Int32))) (R3 : Exa Z h0 a2 "java/lang/StringBuilder") (R4 : Fld Z h0 a2 "java/lang/AbstractStringBuilder" "value" "[B" (.ref vb)) (R5 : Fld Z h0 a2 "java/lang/AbstractStringBuilder" "coder" "B" (.int (0 : Int32))) (R6 : Fld Z h0 a2 "java/lang/AbstractStringBuilder" "count" "I" (.int (3 : Int32))) (R7 : OA Z h0 vb .byte (obuf [x0, x1, x2])) (R8 : Sta Z h0 "java/lang/String" "COMPACT_STRINGS" "Z" (.int w)) (g_a1 : n0 ≤ a1) (ne_a1_a2 : a1 ≠ a2) (ne_a1_vb : a1 ≠ vb) (hw0 : ¬ w = (0 : Int32)) :
    OMet l Z (⟨"java/lang/String", "<init>", "(Ljava/lang/AbstractStringBuilder;Ljava/lang/Void;)V"⟩ : MethodName) jdk_42_method_150_code 5 none ws ({ frames := 3, cells := 1, slots := 3, locals := 49 } : Room) #[(.ref a1), (.ref a2), .null] h0 (Q20_3 Z a1 a2 vb x0 x1 x2 w h0 n0) := by
  refine own_enter pn_20 ?_
  intro p e s m below meth c s₁ hx hby hml0 hown hret hlk hnm hZ X0 e0
  have hml : c.maxLocals = 5 := hml0
  have B : BX p c jdk_42_method_150_code := ⟨hx, hby⟩
  have N0 := Fr.nil n0
  refine own_cast (ef_20_3 m a1 a2) ?_
  refine waloadN OGc 1 X0 B d20_0 rfl rfl rfl ?_
  obtain ⟨T1, X1, e1, st1⟩ := initO X0 hx hZ hown (ow hw 15 rfl) (ow hw 16 rfl) (ow hw 17 rfl) e0 (g := (mkF m 1 #[.val (.ref a1), .val (.ref a2), .val .null, .unset, .unset] [(.ref a1)])) rfl (by rw [hml]; rfl) rfl (hb hby d20_1) (by decide) (W := 0) (by show 2 * 0 + _ ≤ _; exact Nat.le_of_eq rfl) (by decide)
  refine own_st st1 ?_
  show OG p e _ s below _ T1 (mkF m 4 #[.val (.ref a1), .val (.ref a2), .val .null, .unset, .unset] [])
  refine waloadN OGc 5 X1 B d20_4 rfl rfl rfl ?_
  refine wvirt OGc 8 X1 B hZ hown (ow hw 127 rfl) (ow hw 128 rfl) (ow hw 130 rfl) (ow hw 129 rfl) R3 (ow hw 131 rfl) (ow hw 59 rfl) e1 (rm21 l Z a0 hw [] a2 vb h0 n0 R4) 0 (by decide) (by decide) hml rfl (lenOf pd____B rfl) [] rfl rfl d20_5 rfl fun _ T2 L2 X2 hQ2 => ?_
  obtain ⟨rfl, N2q, K2q⟩ := hQ2
  have N2 := Fr.app N0 N2q
  have K2 := (Keep.refl h0 [a1]).trans K2q (own_all0 )
  have F3 := R0.keep K2q
  have F4 := R1.keep K2q (own_nin0 )
  have F5 := R2.keep K2q (own_nin0 )
  have F6 := R3.keep K2q
  have F7 := R4.keep K2q (own_nin0 )
  have F8 := R5.keep K2q (own_nin0 )
  have F9 := R6.keep K2q (own_nin0 )
  have F10 := R7.keep K2q (own_nin0 )
  have F11 := own_staK R8 K2q (own_all0 )
  refine own_stk (S' := [(.ref vb)]) rfl ?_
  refine wastoreN OGc 9 X2 B d20_8 #[.val (.ref a1), .val (.ref a2), .val .null, .val (.ref vb), .unset] rfl rfl rfl ?_
  refine waloadN OGc 10 X2 B d20_9 rfl rfl rfl ?_
  obtain ⟨cq12, kq12, q12a, q12b, q12c⟩ := isOf hZ rfl F6
  obtain ⟨_, _, ⟨T12, L12, k12, n12⟩, -, X12, ⟨Lc12, hQ12, l12, y12, z12⟩, st12⟩ := X2.virtualBack hx (y := (⟨"java/lang/AbstractStringBuilder", "length", "()I"⟩ : MethodName)) (z := (⟨"java/lang/StringBuilder", "length", "()I"⟩ : MethodName)) hown (mvT hZ (ow hw 132 rfl)) (mvT hZ (ow hw 133 rfl)) (own_nf (args := #[]) (mvT hZ (ow hw 93 rfl)) rfl) (mvT hZ (ow hw 135 rfl)) (mvT hZ (ow hw 136 rfl)) (by decide) (backOf (W := 0) (rm := ({ frames := 1, cells := 0, slots := 0, locals := 12 } : Room)) (rm22_3 l Z a0 hw [] a2 T2.heap n0 F6 F9) hZ (ow hw 137 rfl) (ow hw 51 rfl) (by decide) (by decide)) q12a q12c (g := (mkF m 10 #[.val (.ref a1), .val (.ref a2), .val .null, .val (.ref vb), .unset] [(.ref a2)])) rfl (by rw [hml]; rfl) (Steps.refl _) (argsL := []) (rest := []) (lenOf pd___I rfl) rfl (by show 2 * 0 + _ ≤ _; exact Nat.le_of_eq rfl) (hb hby d20_10) (fun _ _ => ⟨rfl, rfl, (by decide : 0 + 0 ≤ _), (by decide : 0 + 0 ≤ _)⟩)
  dsimp only [Pt.U, Pt.locs, Pt.cells, Pt.slots] at X12 l12 y12 z12 st12 hQ12
  subst l12 y12 z12
  obtain ⟨rfl, N12q, K12q⟩ := hQ12
  refine own_st (fun t k => st12.trans k) ?_
  have N12 := Fr.app N2 N12q
  have K12 := K2.trans K12q (own_all0 )
  have F13 := F3.keep K12q
  have F14 := F4.keep K12q (own_nin0 )
  have F15 := F5.keep K12q (own_nin0 )
  have F16 := F6.keep K12q
  have F17 := F7.keep K12q (own_nin0 )
  have F18 := F8.keep K12q (own_nin0 )
  have F19 := F9.keep K12q (own_nin0 )
  have F20 := F10.keep K12q (own_nin0 )
  have F21 := own_staK F11 K12q (own_all0 )
  show OG p e _ s below _ T12 (mkF m 13 #[.val (.ref a1), .val (.ref a2), .val .null, .val (.ref vb), .unset] [(.int (3 : Int32))])
  refine wistore OGc 15 X12 B d20_13 #[.val (.ref a1), .val (.ref a2), .val .null, .val (.ref vb), .val (.int (3 : Int32))] rfl rfl ?_
  refine waloadN OGc 16 X12 B d20_15 rfl rfl rfl ?_
  refine wvirt OGc 19 X12 B hZ hown (ow hw 140 rfl) (ow hw 141 rfl) (ow hw 143 rfl) (ow hw 142 rfl) F16 (ow hw 144 rfl) (ow hw 59 rfl) rfl (rm24 l Z a0 hw [] a2 w T12.heap n0 F18 F21 hw0) 0 (by decide) (by decide) hml rfl (lenOf pd___Z rfl) [] rfl rfl d20_16 rfl fun _ T22 L22 X22 hQ22 => ?_
  obtain ⟨rfl, N22q, K22q⟩ := hQ22
  have N22 := Fr.app N12 N22q
  have K22 := K12.trans K22q (own_all0 )
  have F23 := F13.keep K22q
  have F24 := F14.keep K22q (own_nin0 )
  have F25 := F15.keep K22q (own_nin0 )
  have F26 := F16.keep K22q
  have F27 := F17.keep K22q (own_nin0 )
  have F28 := F18.keep K22q (own_nin0 )
  have F29 := F19.keep K22q (own_nin0 )
  have F30 := F20.keep K22q (own_nin0 )
  have F31 := own_staK F21 K22q (own_all0 )
  refine own_stk (S' := [(.int (1 : Int32))]) rfl ?_
  refine wifNo OGc 22 X22 B d20_19 (by decide) rfl ?_
  refine waloadN OGc 23 X22 B d20_22 rfl rfl rfl ?_
  refine wiconst OGc 24 X22 B d20_23 0 rfl rfl ?_
  refine wputF OGc 27 X22 B hZ hown (ow hw 25 rfl) rfl F25 F23 (Or.inr ⟨(ow hw 21 rfl), rfl, hnm⟩) (ow hw 5 rfl) (ty := .byte) (by decide) rfl rfl d20_24 rfl fun T32 h32 X32 e32 W32 => ?_
  have N32 := Fr.snoc X32 N22 g_a1
  have K33 := K22.wr W32 (Or.inl (List.mem_of_getElem? (i := 0) rfl))
  have F34 := F23.wr W32
  have F35 := F24.other W32 (Or.inr (slot_ne (Or.inr (ow hw 20 rfl)) (Or.inr (ow hw 21 rfl)) (by decide) (t := (.array .byte)) (t' := .byte) (by decide) (by decide)))
  have F36 : Fld Z h32 a1 "java/lang/String" "coder" "B" (.int (0 : Int32)) := (F25.same W32)
  have F37 := F26.wr W32
  have F38 := F27.other W32 (Or.inl (Ne.symm ne_a1_a2))
  have F39 := F28.other W32 (Or.inl (Ne.symm ne_a1_a2))
  have F40 := F29.other W32 (Or.inl (Ne.symm ne_a1_a2))
  have F41 := F30.other W32 (Ne.symm ne_a1_vb)
  have F42 := F31.wr W32
  refine waloadN OGc 28 X32 B d20_27 rfl rfl rfl ?_
  refine waloadN OGc 29 X32 B d20_28 rfl rfl rfl ?_
  refine wiconst OGc 30 X32 B d20_29 0 rfl rfl ?_
  refine wiload OGc 32 X32 B d20_30 rfl rfl ?_
  refine wstat OGc 35 X32 B hZ hown (ow hw 145 rfl) (ow hw 146 rfl) (ow hw 148 rfl) (ow hw 147 rfl) e32 (rm25_3 l Z a0 hw [] vb x0 x1 x2 h32 n0 (Nat.le_trans Z0 K33.1) F41) 1 (by decide) (by decide) hml rfl (lenOf pd___BII__B rfl) [(.ref a1)] rfl rfl d20_32 rfl fun _ T43 L43 X43 hQ43 => ?_
  obtain ⟨N43q, K43q, b_43, sz_b_43, rfl, P43_0⟩ := hQ43
  have N43 := Fr.app N32 N43q
  have ge_b_43 : n0 ≤ b_43 := Nat.le_trans (Nat.le_trans Z0 K33.1) sz_b_43
  have sy_b_43 : h0.size ≤ b_43 := Nat.le_trans K33.1 sz_b_43
  have ne_a1_b_43 : a1 ≠ b_43 := Nat.ne_of_lt (Nat.lt_of_lt_of_le F34.lt sz_b_43)
  have ne_a2_b_43 : a2 ≠ b_43 := Nat.ne_of_lt (Nat.lt_of_lt_of_le F37.lt sz_b_43)
  have ne_vb_b_43 : vb ≠ b_43 := Nat.ne_of_lt (Nat.lt_of_lt_of_le F41.lt sz_b_43)
  have K43 := K33.trans K43q (own_all0 )
  have F44 := F34.keep K43q
  have F45 := F35.keep K43q (own_nin0 )
  have F46 := F36.keep K43q (own_nin0 )
  have F47 := F37.keep K43q
  have F48 := F38.keep K43q (own_nin0 )
  have F49 := F39.keep K43q (own_nin0 )
  have F50 := F40.keep K43q (own_nin0 )
  have F51 := F41.keep K43q (own_nin0 )
  have F52 := own_staK F42 K43q (own_all0 )
  refine own_stk (S' := [(.ref b_43), (.ref a1)]) rfl ?_
  refine wputF OGc 38 X43 B hZ hown (ow hw 24 rfl) rfl F45 F44 (Or.inr ⟨(ow hw 20 rfl), rfl, hnm⟩) (ow hw 5 rfl) (ty := (.array .byte)) (by decide) rfl rfl d20_35 rfl fun T53 h53 X53 e53 W53 => ?_
  have N53 := Fr.snoc X53 N43 g_a1
  have K54 := K43.wr W53 (Or.inl (List.mem_of_getElem? (i := 0) rfl))
  have F55 := F44.wr W53
  have F56 : Fld Z h53 a1 "java/lang/String" "value" "[B" (.ref b_43) := (F45.same W53)
  have F57 := F46.other W53 (Or.inr (slot_ne (Or.inr (ow hw 21 rfl)) (Or.inr (ow hw 20 rfl)) (by decide) (t := .byte) (t' := (.array .byte)) (by decide) (by decide)))
  have F58 := F47.wr W53
  have F59 := F48.other W53 (Or.inl (Ne.symm ne_a1_a2))
  have F60 := F49.other W53 (Or.inl (Ne.symm ne_a1_a2))
  have F61 := F50.other W53 (Or.inl (Ne.symm ne_a1_a2))
  have F62 := F51.other W53 (Ne.symm ne_a1_vb)
  have F63 := F52.wr W53
  have F64 := P43_0.other W53 (Ne.symm ne_a1_b_43)
  refine wgoto OGc 97 X53 B d20_38 rfl ?_
  refine own_ret0 X53 hx hret hlk (hb hby d20_97) (by decide) (by decide) ?_
  rw [e53]
  exact ⟨rfl, N53, K54, b_43, sy_b_43, F55, F56, F57, F64⟩
abbrev Q19_3 (Z : State) (a1 : Addr) (a2 : Addr) (vb : Addr) (x0 : Int32) (x1 : Int32) (x2 : Int32) (w : Int32) (h0 : Heap) (n0 : Nat) : Option Value → Heap → List Loc → Prop := (fun v h L => v = none ∧ Fr n0 L ∧ Keep h0 h [a1] ∧ ∃ b : Addr, h0.size ≤ b ∧ Exa Z h a1 "java/lang/String" ∧ Fld Z h a1 "java/lang/String" "value" "[B" (.ref b) ∧ Fld Z h a1 "java/lang/String" "coder" "B" (.int (0 : Int32)) ∧ OA Z h b .byte (([x0, x1, x2] : List Int32).map obv))
theorem rm19_3 (l : Launch) (Z : State) (a0 : Array Value) (hw : ∀ d ∈ tables_1, d.before a0 Z = true) (ws : List Jvm.Cond) (a1 : Addr) (a2 : Addr) (vb : Addr) (x0 : Int32) (x1 : Int32) (x2 : Int32) (w : Int32) (h0 : Heap) (n0 : Nat) (Z0 : n0 ≤ h0.size) (R0 : Exa Z h0 a1 "java/lang/String") (R1 : Fld Z h0 a1 "java/lang/String" "value" "[B" .null) (R2 : Fld Z h0 a1 "java/lang/String" "coder" "B" (.int (0 : Int32))) (R3 : Exa Z h0 a2 "java/lang/StringBuilder") (R4 : Fld Z h0 a2 "java/lang/AbstractStringBuilder" "value" "[B" (.ref vb)) (R5 : Fld Z h0 a2 "java/lang/AbstractStringBuilder" "coder" "B" (.int (0 : Int32))) (R6 : Fld Z h0 a2 "java/lang/AbstractStringBuilder" "count" "I" (.int (3 : Int32))) (R7 : OA Z h0 vb .byte (obuf [x0, x1, x2])) (R8 : Sta Z h0 "java/lang/String" "COMPACT_STRINGS" "Z" (.int w)) (g_a1 : n0 ≤ a1) (ne_a1_a2 : a1 ≠ a2) (ne_a1_vb : a1 ≠ vb) (hw0 : ¬ w = (0 : Int32)) :
    OMet l Z (⟨"java/lang/String", "<init>", "(Ljava/lang/StringBuilder;)V"⟩ : MethodName) jdk_42_method_53_code 2 none ws ({ frames := 4, cells := 1, slots := 3, locals := 65 } : Room) #[(.ref a1), (.ref a2)] h0 (Q19_3 Z a1 a2 vb x0 x1 x2 w h0 n0) := by
  refine own_enter pn_19 ?_
  intro p e s m below meth c s₁ hx hby hml0 hown hret hlk hnm hZ X0 e0
  have hml : c.maxLocals = 2 := hml0
  have B : BX p c jdk_42_method_53_code := ⟨hx, hby⟩
  have N0 := Fr.nil n0
  refine own_cast (ef_19 m a1 a2) ?_
  refine waloadN OGc 1 X0 B d19_0 rfl rfl rfl ?_
  refine waloadN OGc 2 X0 B d19_1 rfl rfl rfl ?_
  refine waconstNull OGc 3 X0 B d19_2 rfl ?_
  refine wspec OGc 6 X0 B hZ hown (ow hw 124 rfl) (ow hw 125 rfl) rfl (ow hw 126 rfl) (ow hw 6 rfl) e0 (rm20_3 l Z a0 hw [] a1 a2 vb x0 x1 x2 w h0 n0 (Nat.le_trans Z0 (Keep.refl h0 [a1]).1) R0 R1 R2 R3 R4 R5 R6 R7 R8 g_a1 ne_a1_a2 ne_a1_vb hw0) 0 (by decide) (by decide) hml rfl (lenOf pd__Ljava_lang_AbstractStringBuilder_Ljava_lang_Void__V rfl) [] rfl rfl d19_3 rfl fun _ T1 L1 X1 hQ1 => ?_
  obtain ⟨rfl, N1q, K1q, b_1, sz_b_1, P1_0, P1_1, P1_2, P1_3⟩ := hQ1
  have N1 := Fr.app N0 N1q
  have ge_b_1 : n0 ≤ b_1 := Nat.le_trans (Nat.le_trans Z0 (Keep.refl h0 [a1]).1) sz_b_1
  have sy_b_1 : h0.size ≤ b_1 := Nat.le_trans (Keep.refl h0 [a1]).1 sz_b_1
  have ne_a1_b_1 : a1 ≠ b_1 := Nat.ne_of_lt (Nat.lt_of_lt_of_le R0.lt sz_b_1)
  have ne_a2_b_1 : a2 ≠ b_1 := Nat.ne_of_lt (Nat.lt_of_lt_of_le R3.lt sz_b_1)
  have ne_vb_b_1 : vb ≠ b_1 := Nat.ne_of_lt (Nat.lt_of_lt_of_le R7.lt sz_b_1)
  have K1 := (Keep.refl h0 [a1]).trans K1q (own_all1 (Or.inl (List.mem_of_getElem? (i := 0) rfl)))
  have F2 := R3.keep K1q
  have F3 := R4.keep K1q (own_nin1 (Ne.symm ne_a1_a2))
  have F4 := R5.keep K1q (own_nin1 (Ne.symm ne_a1_a2))
  have F5 := R6.keep K1q (own_nin1 (Ne.symm ne_a1_a2))
  have F6 := R7.keep K1q (own_nin1 (Ne.symm ne_a1_vb))
  have F7 := own_staK R8 K1q (own_all1 (own_plE R0))
  refine own_stk (S' := []) rfl ?_
  refine own_ret0 X1 hx hret hlk (hb hby d19_6) (by decide) (by decide) ?_
  exact ⟨rfl, N1, K1, b_1, sy_b_1, P1_0, P1_1, P1_2, P1_3⟩
abbrev Q18_3 (Z : State) (a1 : Addr) (vb : Addr) (x0 : Int32) (x1 : Int32) (x2 : Int32) (w : Int32) (h0 : Heap) (n0 : Nat) : Option Value → Heap → List Loc → Prop := (fun v h L => Fr n0 L ∧ Keep h0 h [] ∧ ∃ s : Addr, ∃ b : Addr, h0.size ≤ s ∧ h0.size ≤ b ∧ v = some (.ref s) ∧ Exa Z h s "java/lang/String" ∧ Fld Z h s "java/lang/String" "value" "[B" (.ref b) ∧ Fld Z h s "java/lang/String" "coder" "B" (.int (0 : Int32)) ∧ OA Z h b .byte (([x0, x1, x2] : List Int32).map obv))
theorem rm18_3 (l : Launch) (Z : State) (a0 : Array Value) (hw : ∀ d ∈ tables_1, d.before a0 Z = true) (ws : List Jvm.Cond) (a1 : Addr) (vb : Addr) (x0 : Int32) (x1 : Int32) (x2 : Int32) (w : Int32) (h0 : Heap) (n0 : Nat) (Z0 : n0 ≤ h0.size) (R0 : Exa Z h0 a1 "java/lang/StringBuilder") (R1 : Fld Z h0 a1 "java/lang/AbstractStringBuilder" "value" "[B" (.ref vb)) (R2 : Fld Z h0 a1 "java/lang/AbstractStringBuilder" "coder" "B" (.int (0 : Int32))) (R3 : Fld Z h0 a1 "java/lang/AbstractStringBuilder" "count" "I" (.int (3 : Int32))) (R4 : OA Z h0 vb .byte (obuf [x0, x1, x2])) (R5 : Sta Z h0 "java/lang/String" "COMPACT_STRINGS" "Z" (.int w)) (hw0 : ¬ w = (0 : Int32)) :
    OMet l Z (⟨"java/lang/StringBuilder", "toString", "()Ljava/lang/String;"⟩ : MethodName) jdk_67_method_42_code 1 (some (.object "java/lang/String")) ws ({ frames := 5, cells := 2, slots := 10, locals := 79 } : Room) #[(.ref a1)] h0 (Q18_3 Z a1 vb x0 x1 x2 w h0 n0) := by
  refine own_enter pn_18 ?_
  intro p e s m below meth c s₁ hx hby hml0 hown hret hlk hnm hZ X0 e0
  have hml : c.maxLocals = 1 := hml0
  have B : BX p c jdk_67_method_42_code := ⟨hx, hby⟩
  have N0 := Fr.nil n0
  refine own_cast (ef_18 m a1) ?_
  refine wnewO OGc 3 X0 B hZ hown (ow hw 120 rfl) (ow hw 5 rfl) (ow hw 6 rfl) e0 d18_0 (by decide) rfl fun T1 h1 o1 gb1 X1 e1 E1 A1 D1 => ?_
  have ge_o1 : n0 ≤ o1 := by rw [gb1]; exact Nat.le_trans Z0 (Keep.refl h0 []).1
  have sz_o1 : h0.size ≤ o1 := by rw [gb1]; exact (Keep.refl h0 []).1
  have ne_a1_o1 : a1 ≠ o1 := Nat.ne_of_lt (Nat.lt_of_lt_of_eq R0.lt gb1.symm)
  have ne_vb_o1 : vb ≠ o1 := Nat.ne_of_lt (Nat.lt_of_lt_of_eq R4.lt gb1.symm)
  have F2 := R0.ext E1
  have F3 := R1.ext E1
  have F4 := R2.ext E1
  have F5 := R3.ext E1
  have F6 := R4.ext E1
  have F7 := R5.ext E1
  have K8 := (Keep.refl h0 []).ext E1
  have F9 : Fld Z h1 o1 "java/lang/String" "value" "[B" .null := D1 (Or.inr (ow hw 20 rfl)) (ty := (.array .byte)) (by decide)
  have F10 : Fld Z h1 o1 "java/lang/String" "coder" "B" (.int (0 : Int32)) := D1 (Or.inr (ow hw 21 rfl)) (ty := .byte) (by decide)
  refine wdup OGc 4 X1 B d18_3 rfl rfl ?_
  refine waloadN OGc 5 X1 B d18_4 rfl rfl rfl ?_
  refine wspec OGc 8 X1 B hZ hown (ow hw 121 rfl) (ow hw 122 rfl) rfl (ow hw 123 rfl) (ow hw 6 rfl) e1 (rm19_3 l Z a0 hw [] o1 a1 vb x0 x1 x2 w h1 n0 (Nat.le_trans Z0 K8.1) A1 F9 F10 F2 F3 F4 F5 F6 F7 ge_o1 (Ne.symm ne_a1_o1) (Ne.symm ne_vb_o1) hw0) 1 (by decide) (by decide) hml rfl (lenOf pd__Ljava_lang_StringBuilder__V rfl) [(.ref o1)] rfl rfl d18_5 rfl fun _ T11 L11 X11 hQ11 => ?_
  obtain ⟨rfl, N11q, K11q, b_11, sz_b_11, P11_0, P11_1, P11_2, P11_3⟩ := hQ11
  have N11 := Fr.app N0 N11q
  have ge_b_11 : n0 ≤ b_11 := Nat.le_trans (Nat.le_trans Z0 K8.1) sz_b_11
  have sy_b_11 : h0.size ≤ b_11 := Nat.le_trans K8.1 sz_b_11
  have ne_a1_b_11 : a1 ≠ b_11 := Nat.ne_of_lt (Nat.lt_of_lt_of_le F2.lt sz_b_11)
  have ne_o1_b_11 : o1 ≠ b_11 := Nat.ne_of_lt (Nat.lt_of_lt_of_le A1.lt sz_b_11)
  have ne_vb_b_11 : vb ≠ b_11 := Nat.ne_of_lt (Nat.lt_of_lt_of_le F6.lt sz_b_11)
  have K11 := K8.trans K11q (own_all1 (Or.inr sz_o1))
  have F12 := F2.keep K11q
  have F13 := F3.keep K11q (own_nin1 ne_a1_o1)
  have F14 := F4.keep K11q (own_nin1 ne_a1_o1)
  have F15 := F5.keep K11q (own_nin1 ne_a1_o1)
  have F16 := F6.keep K11q (own_nin1 ne_vb_o1)
  have F17 := own_staK F7 K11q (own_all1 (own_plE A1))
  refine own_stk (S' := [(.ref o1)]) rfl ?_
  refine own_retV X11 hx hret rfl (Or.inr (Or.inr (Or.inr (Or.inr ⟨rfl, rfl, rfl⟩)))) hlk (hb hby d18_8) (by decide) (by decide) ?_
  exact ⟨N11, K11, o1, b_11, sz_o1, sy_b_11, rfl, P11_0, P11_1, P11_2, P11_3⟩
abbrev Q23_4 (Z : State) (a1 : Addr) (h0 : Heap) (n0 : Nat) : Option Value → Heap → List Loc → Prop := (fun v h L => v = some (.int (4 : Int32)) ∧ Fr n0 L ∧ Keep h0 h [])
theorem rm23_4 (l : Launch) (Z : State) (a0 : Array Value) (hw : ∀ d ∈ tables_1, d.before a0 Z = true) (ws : List Jvm.Cond) (a1 : Addr) (h0 : Heap) (n0 : Nat) (R0 : Fld Z h0 a1 "java/lang/AbstractStringBuilder" "count" "I" (.int (4 : Int32))) :
    OMet l Z (⟨"java/lang/AbstractStringBuilder", "length", "()I"⟩ : MethodName) jdk_68_method_6_code 1 (some .int) ws ({ frames := 0, cells := 0, slots := 0, locals := 0 } : Room) #[(.ref a1)] h0 (Q23_4 Z a1 h0 n0) := by
  refine own_enter pn_23 ?_
  intro p e s m below meth c s₁ hx hby hml0 hown hret hlk hnm hZ X0 e0
  have hml : c.maxLocals = 1 := hml0
  have B : BX p c jdk_68_method_6_code := ⟨hx, hby⟩
  have N0 := Fr.nil n0
  refine own_cast (ef_23 m a1) ?_
  refine waloadN OGc 1 X0 B d23_0 rfl rfl rfl ?_
  refine wgetF OGc 4 X0 B hZ hown (ow hw 88 rfl) e0 R0 d23_1 rfl fun T1 X1 e1 => ?_
  refine own_retI X1 hx hret hlk (hb hby d23_4) (by decide) (by decide) ?_
  rw [e1]
  exact ⟨rfl, N0, (Keep.refl h0 [])⟩
abbrev Q22_4 (Z : State) (a1 : Addr) (h0 : Heap) (n0 : Nat) : Option Value → Heap → List Loc → Prop := (fun v h L => v = some (.int (4 : Int32)) ∧ Fr n0 L ∧ Keep h0 h [])
theorem rm22_4 (l : Launch) (Z : State) (a0 : Array Value) (hw : ∀ d ∈ tables_1, d.before a0 Z = true) (ws : List Jvm.Cond) (a1 : Addr) (h0 : Heap) (n0 : Nat) (R0 : Exa Z h0 a1 "java/lang/StringBuilder") (R1 : Fld Z h0 a1 "java/lang/AbstractStringBuilder" "count" "I" (.int (4 : Int32))) :
    OMet l Z (⟨"java/lang/StringBuilder", "length", "()I"⟩ : MethodName) jdk_67_method_93_code 1 (some .int) ws ({ frames := 1, cells := 0, slots := 0, locals := 12 } : Room) #[(.ref a1)] h0 (Q22_4 Z a1 h0 n0) := by
  refine own_enter pn_22 ?_
  intro p e s m below meth c s₁ hx hby hml0 hown hret hlk hnm hZ X0 e0
  have hml : c.maxLocals = 1 := hml0
  have B : BX p c jdk_67_method_93_code := ⟨hx, hby⟩
  have N0 := Fr.nil n0
  refine own_cast (ef_22 m a1) ?_
  refine waloadN OGc 1 X0 B d22_0 rfl rfl rfl ?_
  obtain ⟨_, _, ⟨T1, L1, k1, n1⟩, -, X1, ⟨Lc1, hQ1, l1, y1, z1⟩, st1⟩ := superBack X0 hx hZ (y := (⟨"java/lang/AbstractStringBuilder", "length", "()I"⟩ : MethodName)) hown (ow hw 138 rfl) (own_same (ow hw 134 rfl) (ow hw 93 rfl) rfl (by decide)) (ow hw 134 rfl) (ow hw 74 rfl) (by decide) (backOf (W := 0) (rm := ({ frames := 0, cells := 0, slots := 0, locals := 0 } : Room)) (rm23_4 l Z a0 hw [] a1 h0 n0 R1) hZ (ow hw 139 rfl) (ow hw 59 rfl) (by decide) (by decide)) e0 (Ins.self R0) (g := (mkF m 1 #[.val (.ref a1)] [(.ref a1)])) rfl (by rw [hml]; rfl) (ow hw 139 rfl) (argsL := []) (rest := []) (lenOf pd___I rfl) rfl (by show 2 * 0 + _ ≤ _; exact Nat.le_of_eq rfl) (hb hby d22_1) (fun _ _ => ⟨rfl, e0, (by decide : 0 + 0 ≤ _), (by decide : 0 + 0 ≤ _)⟩)
  dsimp only [Pt.U, Pt.locs, Pt.cells, Pt.slots] at X1 l1 y1 z1 st1 hQ1
  subst l1 y1 z1
  obtain ⟨rfl, N1q, K1q⟩ := hQ1
  refine own_st (fun t k => st1.trans k) ?_
  have N1 := Fr.app N0 N1q
  have K1 := (Keep.refl h0 []).trans K1q (own_all0 )
  have F2 := R0.keep K1q
  have F3 := R1.keep K1q (own_nin0 )
  show OG p e _ s below _ T1 (mkF m 4 #[.val (.ref a1)] [(.int (4 : Int32))])
  refine own_retI X1 hx hret hlk (hb hby d22_4) (by decide) (by decide) ?_
  exact ⟨rfl, N1, K1⟩
theorem ef_27_4 (m : MethodId)  : entryFrame m #[(.int (0 : Int32)), (.int (4 : Int32))] 2 = (mkF m 0 #[.val (.int (0 : Int32)), .val (.int (4 : Int32))] []) := by first | (simp [entryFrame, mkF, argsToLocals, Value.category]; done) | rfl
abbrev Q27_4 (Z : State)  (h0 : Heap) (n0 : Nat) : Option Value → Heap → List Loc → Prop := (fun v h L => v = none ∧ Fr n0 L ∧ Keep h0 h [])
theorem rm27_4 (l : Launch) (Z : State) (a0 : Array Value) (hw : ∀ d ∈ tables_1, d.before a0 Z = true) (ws : List Jvm.Cond)  (h0 : Heap) (n0 : Nat) :
    OMet l Z (⟨"java/util/Arrays", "checkLength", "(II)V"⟩ : MethodName) jdk_65_method_131_code 2 none ws ({ frames := 0, cells := 0, slots := 0, locals := 0 } : Room) #[(.int (0 : Int32)), (.int (4 : Int32))] h0 (Q27_4 Z  h0 n0) := by
  refine own_enter pn_27 ?_
  intro p e s m below meth c s₁ hx hby hml0 hown hret hlk hnm hZ X0 e0
  have hml : c.maxLocals = 2 := hml0
  have B : BX p c jdk_65_method_131_code := ⟨hx, hby⟩
  have N0 := Fr.nil n0
  refine own_cast (ef_27_4 m ) ?_
  refine wiloadN OGc 1 X0 B d27_0 rfl rfl ?_
  refine wiloadN OGc 2 X0 B d27_1 rfl rfl ?_
  refine wicmpYes OGc 37 X0 B d27_2 (by decide) rfl ?_
  refine own_ret0 X0 hx hret hlk (hb hby d27_37) (by decide) (by decide) ?_
  rw [e0]
  exact ⟨rfl, N0, (Keep.refl h0 [])⟩
theorem ef_28_4 (m : MethodId)  : entryFrame m #[(.int (16 : Int32)), (.int (4 : Int32))] 2 = (mkF m 0 #[.val (.int (16 : Int32)), .val (.int (4 : Int32))] []) := by first | (simp [entryFrame, mkF, argsToLocals, Value.category]; done) | rfl
abbrev Q28_4 (Z : State)  (h0 : Heap) (n0 : Nat) : Option Value → Heap → List Loc → Prop := (fun v h L => v = some (.int (4 : Int32)) ∧ Fr n0 L ∧ Keep h0 h [])
theorem rm28_4 (l : Launch) (Z : State) (a0 : Array Value) (hw : ∀ d ∈ tables_1, d.before a0 Z = true) (ws : List Jvm.Cond)  (h0 : Heap) (n0 : Nat) :
    OMet l Z (⟨"java/lang/Math", "min", "(II)I"⟩ : MethodName) jdk_29_method_69_code 2 (some .int) ws ({ frames := 0, cells := 0, slots := 0, locals := 0 } : Room) #[(.int (16 : Int32)), (.int (4 : Int32))] h0 (Q28_4 Z  h0 n0) := by
  refine own_enter pn_28 ?_
  intro p e s m below meth c s₁ hx hby hml0 hown hret hlk hnm hZ X0 e0
  have hml : c.maxLocals = 2 := hml0
  have B : BX p c jdk_29_method_69_code := ⟨hx, hby⟩
  have N0 := Fr.nil n0
  refine own_cast (ef_28_4 m ) ?_
  refine wiloadN OGc 1 X0 B d28_0 rfl rfl ?_
  refine wiloadN OGc 2 X0 B d28_1 rfl rfl ?_
  refine wicmpYes OGc 9 X0 B d28_2 (by decide) rfl ?_
  refine wiloadN OGc 10 X0 B d28_9 rfl rfl ?_
  refine own_retI X0 hx hret hlk (hb hby d28_10) (by decide) (by decide) ?_
  rw [e0]
  exact ⟨rfl, N0, (Keep.refl h0 [])⟩
theorem ef_26_4 (m : MethodId) (a1 : Addr) : entryFrame m #[(.ref a1), (.int (0 : Int32)), (.int (4 : Int32))] 5 = (mkF m 0 #[.val (.ref a1), .val (.int (0 : Int32)), .val (.int (4 : Int32)), .unset, .unset] []) := by first | (simp [entryFrame, mkF, argsToLocals, Value.category]; done) | rfl
abbrev Q26_4 (Z : State) (a1 : Addr) (x0 : Int32) (x1 : Int32) (x2 : Int32) (x3 : Int32) (h0 : Heap) (n0 : Nat) : Option Value → Heap → List Loc → Prop := (fun v h L => Fr n0 L ∧ Keep h0 h [] ∧ ∃ b : Addr, h0.size ≤ b ∧ v = some (.ref b) ∧ OA Z h b .byte (([x0, x1, x2, x3] : List Int32).map obv))
theorem rm26_4 (l : Launch) (Z : State) (a0 : Array Value) (hw : ∀ d ∈ tables_1, d.before a0 Z = true) (ws : List Jvm.Cond) (a1 : Addr) (x0 : Int32) (x1 : Int32) (x2 : Int32) (x3 : Int32) (h0 : Heap) (n0 : Nat) (Z0 : n0 ≤ h0.size) (R0 : OA Z h0 a1 .byte (obuf [x0, x1, x2, x3])) :
    OMet l Z (⟨"java/util/Arrays", "copyOfRangeByte", "([BII)[B"⟩ : MethodName) jdk_65_method_133_code 5 (some (.array .byte)) ws ({ frames := 1, cells := 1, slots := 4, locals := 18 } : Room) #[(.ref a1), (.int (0 : Int32)), (.int (4 : Int32))] h0 (Q26_4 Z a1 x0 x1 x2 x3 h0 n0) := by
  refine own_enter pn_26 ?_
  intro p e s m below meth c s₁ hx hby hml0 hown hret hlk hnm hZ X0 e0
  have hml : c.maxLocals = 5 := hml0
  have B : BX p c jdk_65_method_133_code := ⟨hx, hby⟩
  have N0 := Fr.nil n0
  refine own_cast (ef_26_4 m a1) ?_
  refine wiloadN OGc 1 X0 B d26_0 rfl rfl ?_
  refine wiloadN OGc 2 X0 B d26_1 rfl rfl ?_
  refine wstat OGc 5 X0 B hZ hown (ow hw 152 rfl) (ow hw 153 rfl) (ow hw 154 rfl) (ow hw 147 rfl) e0 (rm27_4 l Z a0 hw [] h0 n0) 0 (by decide) (by decide) hml rfl (lenOf pd__II_V rfl) [] rfl rfl d26_2 rfl fun _ T1 L1 X1 hQ1 => ?_
  obtain ⟨rfl, N1q, K1q⟩ := hQ1
  have N1 := Fr.app N0 N1q
  have K1 := (Keep.refl h0 []).trans K1q (own_all0 )
  have F2 := R0.keep K1q (own_nin0 )
  refine own_stk (S' := []) rfl ?_
  refine wiloadN OGc 6 X1 B d26_5 rfl rfl ?_
  refine wiloadN OGc 7 X1 B d26_6 rfl rfl ?_
  refine wisub OGc 8 X1 B d26_7 rfl ?_
  show OG p e _ s below _ T1 (mkF m 8 #[.val (.ref a1), .val (.int (0 : Int32)), .val (.int (4 : Int32)), .unset, .unset] [(.int (4 : Int32))])
  refine wistoreN OGc 9 X1 B d26_8 #[.val (.ref a1), .val (.int (0 : Int32)), .val (.int (4 : Int32)), .val (.int (4 : Int32)), .unset] rfl rfl ?_
  refine wiloadN OGc 10 X1 B d26_9 rfl rfl ?_
  refine wnewP OGc 12 X1 B hZ (ow hw 19 rfl) rfl d26_10 4 (by decide) (by decide) rfl fun T3 h3 b3 k3 gb3 X3 e3 E3 A3 => ?_
  have ge_b3 : n0 ≤ b3 := by rw [gb3]; exact Nat.le_trans Z0 K1.1
  have sz_b3 : h0.size ≤ b3 := by rw [gb3]; exact K1.1
  have ne_a1_b3 : a1 ≠ b3 := Nat.ne_of_lt (Nat.lt_of_lt_of_eq F2.lt gb3.symm)
  have F4 := F2.ext E3
  have K5 := K1.ext E3
  have F6 : OA Z h3 b3 .byte [(.int (0 : Int32)), (.int (0 : Int32)), (.int (0 : Int32)), (.int (0 : Int32))] := OA.new A3
  refine wastore OGc 14 X3 B d26_12 #[.val (.ref a1), .val (.int (0 : Int32)), .val (.int (4 : Int32)), .val (.int (4 : Int32)), .val (.ref b3)] rfl rfl rfl ?_
  refine waloadN OGc 15 X3 B d26_14 rfl rfl rfl ?_
  refine wiloadN OGc 16 X3 B d26_15 rfl rfl ?_
  refine waload OGc 18 X3 B d26_16 rfl rfl rfl ?_
  refine wiconst OGc 19 X3 B d26_18 0 rfl rfl ?_
  refine waloadN OGc 20 X3 B d26_19 rfl rfl rfl ?_
  refine warlenA OGc 21 X3 B hZ e3 F4 (16 : Int32) rfl d26_20 rfl ?_
  refine wiloadN OGc 22 X3 B d26_21 rfl rfl ?_
  refine wisub OGc 23 X3 B d26_22 rfl ?_
  show OG p e _ s below _ T3 (mkF m 23 #[.val (.ref a1), .val (.int (0 : Int32)), .val (.int (4 : Int32)), .val (.int (4 : Int32)), .val (.ref b3)] [(.int (16 : Int32)), (.int (0 : Int32)), (.ref b3), (.int (0 : Int32)), (.ref a1)])
  refine wiloadN OGc 24 X3 B d26_23 rfl rfl ?_
  refine wstat OGc 27 X3 B hZ hown (ow hw 155 rfl) (ow hw 156 rfl) (ow hw 158 rfl) (ow hw 157 rfl) e3 (rm28_4 l Z a0 hw [] h3 n0) 4 (by decide) (by decide) hml rfl (lenOf pd__II_I rfl) [(.int (0 : Int32)), (.ref b3), (.int (0 : Int32)), (.ref a1)] rfl rfl d26_24 rfl fun _ T8 L8 X8 hQ8 => ?_
  obtain ⟨rfl, N8q, K8q⟩ := hQ8
  have N8 := Fr.app N1 N8q
  have K8 := K5.trans K8q (own_all0 )
  have F9 := F4.keep K8q (own_nin0 )
  have F10 := F6.keep K8q (own_nin0 )
  refine own_stk (S' := [(.int (4 : Int32)), (.int (0 : Int32)), (.ref b3), (.int (0 : Int32)), (.ref a1)]) rfl ?_
  refine wcp OGc 30 X8 B hZ hown (ow hw 159 rfl) (ow hw 114 rfl) (ow hw 112 rfl) (ow hw 113 rfl) rfl F9 F10 (own_bytB [x0, x1, x2, x3] 12) (Byt.zero (Byt.zero (Byt.zero (Byt.zero Byt.nil)))) 16 4 0 0 4 rfl rfl (z := (16 : Int32)) (z' := (4 : Int32)) (by decide) (([x0, x1, x2, x3] : List Int32).map obv) rfl (([x0, x1, x2, x3] : List Int32).map obv) rfl rfl N8 ge_b3 hml rfl d26_27 (W := 0) rfl (by decide) rfl fun T11 h11 L11 X11 e11 N11 K11q A11 => ?_
  have K11 : Keep h0 h11 [] := K8.trans K11q (own_all1 (Or.inr sz_b3))
  have F12 := F9.keep K11q (own_nin1 ne_a1_b3)
  have F13 : OA Z h11 b3 .byte (([x0, x1, x2, x3] : List Int32).map obv) := A11
  refine waload OGc 32 X11 B d26_30 rfl rfl rfl ?_
  refine own_retV X11 hx hret rfl (Or.inr (Or.inr (Or.inr (Or.inr ⟨rfl, rfl, rfl⟩)))) hlk (hb hby d26_32) (by decide) (by decide) ?_
  rw [e11]
  exact ⟨N11, K11, b3, sz_b3, rfl, F13⟩
theorem ef_25_4 (m : MethodId) (a1 : Addr) : entryFrame m #[(.ref a1), (.int (0 : Int32)), (.int (4 : Int32))] 3 = (mkF m 0 #[.val (.ref a1), .val (.int (0 : Int32)), .val (.int (4 : Int32))] []) := by first | (simp [entryFrame, mkF, argsToLocals, Value.category]; done) | rfl
abbrev Q25_4 (Z : State) (a1 : Addr) (x0 : Int32) (x1 : Int32) (x2 : Int32) (x3 : Int32) (h0 : Heap) (n0 : Nat) : Option Value → Heap → List Loc → Prop := (fun v h L => Fr n0 L ∧ Keep h0 h [] ∧ ∃ b : Addr, h0.size ≤ b ∧ v = some (.ref b) ∧ OA Z h b .byte (([x0, x1, x2, x3] : List Int32).map obv))
theorem rm25_4 (l : Launch) (Z : State) (a0 : Array Value) (hw : ∀ d ∈ tables_1, d.before a0 Z = true) (ws : List Jvm.Cond) (a1 : Addr) (x0 : Int32) (x1 : Int32) (x2 : Int32) (x3 : Int32) (h0 : Heap) (n0 : Nat) (Z0 : n0 ≤ h0.size) (R0 : OA Z h0 a1 .byte (obuf [x0, x1, x2, x3])) :
    OMet l Z (⟨"java/util/Arrays", "copyOfRange", "([BII)[B"⟩ : MethodName) jdk_65_method_132_code 3 (some (.array .byte)) ws ({ frames := 2, cells := 1, slots := 4, locals := 34 } : Room) #[(.ref a1), (.int (0 : Int32)), (.int (4 : Int32))] h0 (Q25_4 Z a1 x0 x1 x2 x3 h0 n0) := by
  refine own_enter pn_25 ?_
  intro p e s m below meth c s₁ hx hby hml0 hown hret hlk hnm hZ X0 e0
  have hml : c.maxLocals = 3 := hml0
  have B : BX p c jdk_65_method_132_code := ⟨hx, hby⟩
  have N0 := Fr.nil n0
  refine own_cast (ef_25_4 m a1) ?_
  refine wiloadN OGc 1 X0 B d25_0 rfl rfl ?_
  refine wifNo OGc 4 X0 B d25_1 (by decide) rfl ?_
  refine wiloadN OGc 5 X0 B d25_4 rfl rfl ?_
  refine waloadN OGc 6 X0 B d25_5 rfl rfl rfl ?_
  refine warlenA OGc 7 X0 B hZ e0 R0 (16 : Int32) rfl d25_6 rfl ?_
  refine wicmpNo OGc 10 X0 B d25_7 (by decide) rfl ?_
  refine waloadN OGc 11 X0 B d25_10 rfl rfl rfl ?_
  refine wiloadN OGc 12 X0 B d25_11 rfl rfl ?_
  refine wiloadN OGc 13 X0 B d25_12 rfl rfl ?_
  refine wstat OGc 16 X0 B hZ hown (ow hw 149 rfl) (ow hw 150 rfl) (ow hw 151 rfl) (ow hw 147 rfl) e0 (rm26_4 l Z a0 hw [] a1 x0 x1 x2 x3 h0 n0 (Nat.le_trans Z0 (Keep.refl h0 []).1) R0) 0 (by decide) (by decide) hml rfl (lenOf pd___BII__B rfl) [] rfl rfl d25_13 rfl fun _ T2 L2 X2 hQ2 => ?_
  obtain ⟨N2q, K2q, b_2, sz_b_2, rfl, P2_0⟩ := hQ2
  have N2 := Fr.app N0 N2q
  have ge_b_2 : n0 ≤ b_2 := Nat.le_trans (Nat.le_trans Z0 (Keep.refl h0 []).1) sz_b_2
  have sy_b_2 : h0.size ≤ b_2 := Nat.le_trans (Keep.refl h0 []).1 sz_b_2
  have ne_a1_b_2 : a1 ≠ b_2 := Nat.ne_of_lt (Nat.lt_of_lt_of_le R0.lt sz_b_2)
  have K2 := (Keep.refl h0 []).trans K2q (own_all0 )
  have F3 := R0.keep K2q (own_nin0 )
  refine own_stk (S' := [(.ref b_2)]) rfl ?_
  refine own_retV X2 hx hret rfl (Or.inr (Or.inr (Or.inr (Or.inr ⟨rfl, rfl, rfl⟩)))) hlk (hb hby d25_16) (by decide) (by decide) ?_
  exact ⟨N2, K2, b_2, sy_b_2, rfl, P2_0⟩
theorem ef_20_4 (m : MethodId) (a1 : Addr) (a2 : Addr) : entryFrame m #[(.ref a1), (.ref a2), .null] 5 = (mkF m 0 #[.val (.ref a1), .val (.ref a2), .val .null, .unset, .unset] []) := by first | (simp [entryFrame, mkF, argsToLocals, Value.category]; done) | rfl
abbrev Q20_4 (Z : State) (a1 : Addr) (a2 : Addr) (vb : Addr) (x0 : Int32) (x1 : Int32) (x2 : Int32) (x3 : Int32) (w : Int32) (h0 : Heap) (n0 : Nat) : Option Value → Heap → List Loc → Prop := (fun v h L => v = none ∧ Fr n0 L ∧ Keep h0 h [a1] ∧ ∃ b : Addr, h0.size ≤ b ∧ Exa Z h a1 "java/lang/String" ∧ Fld Z h a1 "java/lang/String" "value" "[B" (.ref b) ∧ Fld Z h a1 "java/lang/String" "coder" "B" (.int (0 : Int32)) ∧ OA Z h b .byte (([x0, x1, x2, x3] : List Int32).map obv))
theorem rm20_4 (l : Launch) (Z : State) (a0 : Array Value) (hw : ∀ d ∈ tables_1, d.before a0 Z = true) (ws : List Jvm.Cond) (a1 : Addr) (a2 : Addr) (vb : Addr) (x0 : Int32) (x1 : Int32) (x2 : Int32) (x3 : Int32) (w : Int32) (h0 : Heap) (n0 : Nat) (Z0 : n0 ≤ h0.size) (R0 : Exa Z h0 a1 "java/lang/String") (R1 : Fld Z h0 a1 "java/lang/String" "value" "[B" .null) (R2 : Fld Z h0 a1 "java/lang/String" "coder" "B" (.int (0 : Int32))) (R3 : Exa Z h0 a2 "java/lang/StringBuilder") (R4 : Fld Z h0 a2 "java/lang/AbstractStringBuilder" "value" "[B" (.ref vb)) (R5 : Fld Z h0 a2 "java/lang/AbstractStringBuilder" "coder" "B" (.int (0 : Int32))) (R6 : Fld Z h0 a2 "java/lang/AbstractStringBuilder" "count" "I" (.int (4 : Int32))) (R7 : OA Z h0 vb .byte (obuf [x0, x1, x2, x3])) (R8 : Sta Z h0 "java/lang/String" "COMPACT_STRINGS" "Z" (.int w)) (g_a1 : n0 ≤ a1) (ne_a1_a2 : a1 ≠ a2) (ne_a1_vb : a1 ≠ vb) (hw0 : ¬ w = (0 : Int32)) :
    OMet l Z (⟨"java/lang/String", "<init>", "(Ljava/lang/AbstractStringBuilder;Ljava/lang/Void;)V"⟩ : MethodName) jdk_42_method_150_code 5 none ws ({ frames := 3, cells := 1, slots := 4, locals := 49 } : Room) #[(.ref a1), (.ref a2), .null] h0 (Q20_4 Z a1 a2 vb x0 x1 x2 x3 w h0 n0) := by
  refine own_enter pn_20 ?_
  intro p e s m below meth c s₁ hx hby hml0 hown hret hlk hnm hZ X0 e0
  have hml : c.maxLocals = 5 := hml0
  have B : BX p c jdk_42_method_150_code := ⟨hx, hby⟩
  have N0 := Fr.nil n0
  refine own_cast (ef_20_4 m a1 a2) ?_
  refine waloadN OGc 1 X0 B d20_0 rfl rfl rfl ?_
  obtain ⟨T1, X1, e1, st1⟩ := initO X0 hx hZ hown (ow hw 15 rfl) (ow hw 16 rfl) (ow hw 17 rfl) e0 (g := (mkF m 1 #[.val (.ref a1), .val (.ref a2), .val .null, .unset, .unset] [(.ref a1)])) rfl (by rw [hml]; rfl) rfl (hb hby d20_1) (by decide) (W := 0) (by show 2 * 0 + _ ≤ _; exact Nat.le_of_eq rfl) (by decide)
  refine own_st st1 ?_
  show OG p e _ s below _ T1 (mkF m 4 #[.val (.ref a1), .val (.ref a2), .val .null, .unset, .unset] [])
  refine waloadN OGc 5 X1 B d20_4 rfl rfl rfl ?_
  refine wvirt OGc 8 X1 B hZ hown (ow hw 127 rfl) (ow hw 128 rfl) (ow hw 130 rfl) (ow hw 129 rfl) R3 (ow hw 131 rfl) (ow hw 59 rfl) e1 (rm21 l Z a0 hw [] a2 vb h0 n0 R4) 0 (by decide) (by decide) hml rfl (lenOf pd____B rfl) [] rfl rfl d20_5 rfl fun _ T2 L2 X2 hQ2 => ?_
  obtain ⟨rfl, N2q, K2q⟩ := hQ2
  have N2 := Fr.app N0 N2q
  have K2 := (Keep.refl h0 [a1]).trans K2q (own_all0 )
  have F3 := R0.keep K2q
  have F4 := R1.keep K2q (own_nin0 )
  have F5 := R2.keep K2q (own_nin0 )
  have F6 := R3.keep K2q
  have F7 := R4.keep K2q (own_nin0 )
  have F8 := R5.keep K2q (own_nin0 )
  have F9 := R6.keep K2q (own_nin0 )
  have F10 := R7.keep K2q (own_nin0 )
  have F11 := own_staK R8 K2q (own_all0 )
  refine own_stk (S' := [(.ref vb)]) rfl ?_
  refine wastoreN OGc 9 X2 B d20_8 #[.val (.ref a1), .val (.ref a2), .val .null, .val (.ref vb), .unset] rfl rfl rfl ?_
  refine waloadN OGc 10 X2 B d20_9 rfl rfl rfl ?_
  obtain ⟨cq12, kq12, q12a, q12b, q12c⟩ := isOf hZ rfl F6
  obtain ⟨_, _, ⟨T12, L12, k12, n12⟩, -, X12, ⟨Lc12, hQ12, l12, y12, z12⟩, st12⟩ := X2.virtualBack hx (y := (⟨"java/lang/AbstractStringBuilder", "length", "()I"⟩ : MethodName)) (z := (⟨"java/lang/StringBuilder", "length", "()I"⟩ : MethodName)) hown (mvT hZ (ow hw 132 rfl)) (mvT hZ (ow hw 133 rfl)) (own_nf (args := #[]) (mvT hZ (ow hw 93 rfl)) rfl) (mvT hZ (ow hw 135 rfl)) (mvT hZ (ow hw 136 rfl)) (by decide) (backOf (W := 0) (rm := ({ frames := 1, cells := 0, slots := 0, locals := 12 } : Room)) (rm22_4 l Z a0 hw [] a2 T2.heap n0 F6 F9) hZ (ow hw 137 rfl) (ow hw 51 rfl) (by decide) (by decide)) q12a q12c (g := (mkF m 10 #[.val (.ref a1), .val (.ref a2), .val .null, .val (.ref vb), .unset] [(.ref a2)])) rfl (by rw [hml]; rfl) (Steps.refl _) (argsL := []) (rest := []) (lenOf pd___I rfl) rfl (by show 2 * 0 + _ ≤ _; exact Nat.le_of_eq rfl) (hb hby d20_10) (fun _ _ => ⟨rfl, rfl, (by decide : 0 + 0 ≤ _), (by decide : 0 + 0 ≤ _)⟩)
  dsimp only [Pt.U, Pt.locs, Pt.cells, Pt.slots] at X12 l12 y12 z12 st12 hQ12
  subst l12 y12 z12
  obtain ⟨rfl, N12q, K12q⟩ := hQ12
  refine own_st (fun t k => st12.trans k) ?_
  have N12 := Fr.app N2 N12q
  have K12 := K2.trans K12q (own_all0 )
  have F13 := F3.keep K12q
  have F14 := F4.keep K12q (own_nin0 )
  have F15 := F5.keep K12q (own_nin0 )
  have F16 := F6.keep K12q
  have F17 := F7.keep K12q (own_nin0 )
  have F18 := F8.keep K12q (own_nin0 )
  have F19 := F9.keep K12q (own_nin0 )
  have F20 := F10.keep K12q (own_nin0 )
  have F21 := own_staK F11 K12q (own_all0 )
  show OG p e _ s below _ T12 (mkF m 13 #[.val (.ref a1), .val (.ref a2), .val .null, .val (.ref vb), .unset] [(.int (4 : Int32))])
  refine wistore OGc 15 X12 B d20_13 #[.val (.ref a1), .val (.ref a2), .val .null, .val (.ref vb), .val (.int (4 : Int32))] rfl rfl ?_
  refine waloadN OGc 16 X12 B d20_15 rfl rfl rfl ?_
  refine wvirt OGc 19 X12 B hZ hown (ow hw 140 rfl) (ow hw 141 rfl) (ow hw 143 rfl) (ow hw 142 rfl) F16 (ow hw 144 rfl) (ow hw 59 rfl) rfl (rm24 l Z a0 hw [] a2 w T12.heap n0 F18 F21 hw0) 0 (by decide) (by decide) hml rfl (lenOf pd___Z rfl) [] rfl rfl d20_16 rfl fun _ T22 L22 X22 hQ22 => ?_
  obtain ⟨rfl, N22q, K22q⟩ := hQ22
  have N22 := Fr.app N12 N22q
  have K22 := K12.trans K22q (own_all0 )
  have F23 := F13.keep K22q
  have F24 := F14.keep K22q (own_nin0 )
  have F25 := F15.keep K22q (own_nin0 )
  have F26 := F16.keep K22q
  have F27 := F17.keep K22q (own_nin0 )
  have F28 := F18.keep K22q (own_nin0 )
  have F29 := F19.keep K22q (own_nin0 )
  have F30 := F20.keep K22q (own_nin0 )
  have F31 := own_staK F21 K22q (own_all0 )
  refine own_stk (S' := [(.int (1 : Int32))]) rfl ?_
  refine wifNo OGc 22 X22 B d20_19 (by decide) rfl ?_
  refine waloadN OGc 23 X22 B d20_22 rfl rfl rfl ?_
  refine wiconst OGc 24 X22 B d20_23 0 rfl rfl ?_
  refine wputF OGc 27 X22 B hZ hown (ow hw 25 rfl) rfl F25 F23 (Or.inr ⟨(ow hw 21 rfl), rfl, hnm⟩) (ow hw 5 rfl) (ty := .byte) (by decide) rfl rfl d20_24 rfl fun T32 h32 X32 e32 W32 => ?_
  have N32 := Fr.snoc X32 N22 g_a1
  have K33 := K22.wr W32 (Or.inl (List.mem_of_getElem? (i := 0) rfl))
  have F34 := F23.wr W32
  have F35 := F24.other W32 (Or.inr (slot_ne (Or.inr (ow hw 20 rfl)) (Or.inr (ow hw 21 rfl)) (by decide) (t := (.array .byte)) (t' := .byte) (by decide) (by decide)))
  have F36 : Fld Z h32 a1 "java/lang/String" "coder" "B" (.int (0 : Int32)) := (F25.same W32)
  have F37 := F26.wr W32
  have F38 := F27.other W32 (Or.inl (Ne.symm ne_a1_a2))
  have F39 := F28.other W32 (Or.inl (Ne.symm ne_a1_a2))
  have F40 := F29.other W32 (Or.inl (Ne.symm ne_a1_a2))
  have F41 := F30.other W32 (Ne.symm ne_a1_vb)
  have F42 := F31.wr W32
  refine waloadN OGc 28 X32 B d20_27 rfl rfl rfl ?_
  refine waloadN OGc 29 X32 B d20_28 rfl rfl rfl ?_
  refine wiconst OGc 30 X32 B d20_29 0 rfl rfl ?_
  refine wiload OGc 32 X32 B d20_30 rfl rfl ?_
  refine wstat OGc 35 X32 B hZ hown (ow hw 145 rfl) (ow hw 146 rfl) (ow hw 148 rfl) (ow hw 147 rfl) e32 (rm25_4 l Z a0 hw [] vb x0 x1 x2 x3 h32 n0 (Nat.le_trans Z0 K33.1) F41) 1 (by decide) (by decide) hml rfl (lenOf pd___BII__B rfl) [(.ref a1)] rfl rfl d20_32 rfl fun _ T43 L43 X43 hQ43 => ?_
  obtain ⟨N43q, K43q, b_43, sz_b_43, rfl, P43_0⟩ := hQ43
  have N43 := Fr.app N32 N43q
  have ge_b_43 : n0 ≤ b_43 := Nat.le_trans (Nat.le_trans Z0 K33.1) sz_b_43
  have sy_b_43 : h0.size ≤ b_43 := Nat.le_trans K33.1 sz_b_43
  have ne_a1_b_43 : a1 ≠ b_43 := Nat.ne_of_lt (Nat.lt_of_lt_of_le F34.lt sz_b_43)
  have ne_a2_b_43 : a2 ≠ b_43 := Nat.ne_of_lt (Nat.lt_of_lt_of_le F37.lt sz_b_43)
  have ne_vb_b_43 : vb ≠ b_43 := Nat.ne_of_lt (Nat.lt_of_lt_of_le F41.lt sz_b_43)
  have K43 := K33.trans K43q (own_all0 )
  have F44 := F34.keep K43q
  have F45 := F35.keep K43q (own_nin0 )
  have F46 := F36.keep K43q (own_nin0 )
  have F47 := F37.keep K43q
  have F48 := F38.keep K43q (own_nin0 )
  have F49 := F39.keep K43q (own_nin0 )
  have F50 := F40.keep K43q (own_nin0 )
  have F51 := F41.keep K43q (own_nin0 )
  have F52 := own_staK F42 K43q (own_all0 )
  refine own_stk (S' := [(.ref b_43), (.ref a1)]) rfl ?_
  refine wputF OGc 38 X43 B hZ hown (ow hw 24 rfl) rfl F45 F44 (Or.inr ⟨(ow hw 20 rfl), rfl, hnm⟩) (ow hw 5 rfl) (ty := (.array .byte)) (by decide) rfl rfl d20_35 rfl fun T53 h53 X53 e53 W53 => ?_
  have N53 := Fr.snoc X53 N43 g_a1
  have K54 := K43.wr W53 (Or.inl (List.mem_of_getElem? (i := 0) rfl))
  have F55 := F44.wr W53
  have F56 : Fld Z h53 a1 "java/lang/String" "value" "[B" (.ref b_43) := (F45.same W53)
  have F57 := F46.other W53 (Or.inr (slot_ne (Or.inr (ow hw 21 rfl)) (Or.inr (ow hw 20 rfl)) (by decide) (t := .byte) (t' := (.array .byte)) (by decide) (by decide)))
  have F58 := F47.wr W53
  have F59 := F48.other W53 (Or.inl (Ne.symm ne_a1_a2))
  have F60 := F49.other W53 (Or.inl (Ne.symm ne_a1_a2))
  have F61 := F50.other W53 (Or.inl (Ne.symm ne_a1_a2))
  have F62 := F51.other W53 (Ne.symm ne_a1_vb)
  have F63 := F52.wr W53
  have F64 := P43_0.other W53 (Ne.symm ne_a1_b_43)
  refine wgoto OGc 97 X53 B d20_38 rfl ?_
  refine own_ret0 X53 hx hret hlk (hb hby d20_97) (by decide) (by decide) ?_
  rw [e53]
  exact ⟨rfl, N53, K54, b_43, sy_b_43, F55, F56, F57, F64⟩
abbrev Q19_4 (Z : State) (a1 : Addr) (a2 : Addr) (vb : Addr) (x0 : Int32) (x1 : Int32) (x2 : Int32) (x3 : Int32) (w : Int32) (h0 : Heap) (n0 : Nat) : Option Value → Heap → List Loc → Prop := (fun v h L => v = none ∧ Fr n0 L ∧ Keep h0 h [a1] ∧ ∃ b : Addr, h0.size ≤ b ∧ Exa Z h a1 "java/lang/String" ∧ Fld Z h a1 "java/lang/String" "value" "[B" (.ref b) ∧ Fld Z h a1 "java/lang/String" "coder" "B" (.int (0 : Int32)) ∧ OA Z h b .byte (([x0, x1, x2, x3] : List Int32).map obv))
theorem rm19_4 (l : Launch) (Z : State) (a0 : Array Value) (hw : ∀ d ∈ tables_1, d.before a0 Z = true) (ws : List Jvm.Cond) (a1 : Addr) (a2 : Addr) (vb : Addr) (x0 : Int32) (x1 : Int32) (x2 : Int32) (x3 : Int32) (w : Int32) (h0 : Heap) (n0 : Nat) (Z0 : n0 ≤ h0.size) (R0 : Exa Z h0 a1 "java/lang/String") (R1 : Fld Z h0 a1 "java/lang/String" "value" "[B" .null) (R2 : Fld Z h0 a1 "java/lang/String" "coder" "B" (.int (0 : Int32))) (R3 : Exa Z h0 a2 "java/lang/StringBuilder") (R4 : Fld Z h0 a2 "java/lang/AbstractStringBuilder" "value" "[B" (.ref vb)) (R5 : Fld Z h0 a2 "java/lang/AbstractStringBuilder" "coder" "B" (.int (0 : Int32))) (R6 : Fld Z h0 a2 "java/lang/AbstractStringBuilder" "count" "I" (.int (4 : Int32))) (R7 : OA Z h0 vb .byte (obuf [x0, x1, x2, x3])) (R8 : Sta Z h0 "java/lang/String" "COMPACT_STRINGS" "Z" (.int w)) (g_a1 : n0 ≤ a1) (ne_a1_a2 : a1 ≠ a2) (ne_a1_vb : a1 ≠ vb) (hw0 : ¬ w = (0 : Int32)) :
    OMet l Z (⟨"java/lang/String", "<init>", "(Ljava/lang/StringBuilder;)V"⟩ : MethodName) jdk_42_method_53_code 2 none ws ({ frames := 4, cells := 1, slots := 4, locals := 65 } : Room) #[(.ref a1), (.ref a2)] h0 (Q19_4 Z a1 a2 vb x0 x1 x2 x3 w h0 n0) := by
  refine own_enter pn_19 ?_
  intro p e s m below meth c s₁ hx hby hml0 hown hret hlk hnm hZ X0 e0
  have hml : c.maxLocals = 2 := hml0
  have B : BX p c jdk_42_method_53_code := ⟨hx, hby⟩
  have N0 := Fr.nil n0
  refine own_cast (ef_19 m a1 a2) ?_
  refine waloadN OGc 1 X0 B d19_0 rfl rfl rfl ?_
  refine waloadN OGc 2 X0 B d19_1 rfl rfl rfl ?_
  refine waconstNull OGc 3 X0 B d19_2 rfl ?_
  refine wspec OGc 6 X0 B hZ hown (ow hw 124 rfl) (ow hw 125 rfl) rfl (ow hw 126 rfl) (ow hw 6 rfl) e0 (rm20_4 l Z a0 hw [] a1 a2 vb x0 x1 x2 x3 w h0 n0 (Nat.le_trans Z0 (Keep.refl h0 [a1]).1) R0 R1 R2 R3 R4 R5 R6 R7 R8 g_a1 ne_a1_a2 ne_a1_vb hw0) 0 (by decide) (by decide) hml rfl (lenOf pd__Ljava_lang_AbstractStringBuilder_Ljava_lang_Void__V rfl) [] rfl rfl d19_3 rfl fun _ T1 L1 X1 hQ1 => ?_
  obtain ⟨rfl, N1q, K1q, b_1, sz_b_1, P1_0, P1_1, P1_2, P1_3⟩ := hQ1
  have N1 := Fr.app N0 N1q
  have ge_b_1 : n0 ≤ b_1 := Nat.le_trans (Nat.le_trans Z0 (Keep.refl h0 [a1]).1) sz_b_1
  have sy_b_1 : h0.size ≤ b_1 := Nat.le_trans (Keep.refl h0 [a1]).1 sz_b_1
  have ne_a1_b_1 : a1 ≠ b_1 := Nat.ne_of_lt (Nat.lt_of_lt_of_le R0.lt sz_b_1)
  have ne_a2_b_1 : a2 ≠ b_1 := Nat.ne_of_lt (Nat.lt_of_lt_of_le R3.lt sz_b_1)
  have ne_vb_b_1 : vb ≠ b_1 := Nat.ne_of_lt (Nat.lt_of_lt_of_le R7.lt sz_b_1)
  have K1 := (Keep.refl h0 [a1]).trans K1q (own_all1 (Or.inl (List.mem_of_getElem? (i := 0) rfl)))
  have F2 := R3.keep K1q
  have F3 := R4.keep K1q (own_nin1 (Ne.symm ne_a1_a2))
  have F4 := R5.keep K1q (own_nin1 (Ne.symm ne_a1_a2))
  have F5 := R6.keep K1q (own_nin1 (Ne.symm ne_a1_a2))
  have F6 := R7.keep K1q (own_nin1 (Ne.symm ne_a1_vb))
  have F7 := own_staK R8 K1q (own_all1 (own_plE R0))
  refine own_stk (S' := []) rfl ?_
  refine own_ret0 X1 hx hret hlk (hb hby d19_6) (by decide) (by decide) ?_
  exact ⟨rfl, N1, K1, b_1, sy_b_1, P1_0, P1_1, P1_2, P1_3⟩
abbrev Q18_4 (Z : State) (a1 : Addr) (vb : Addr) (x0 : Int32) (x1 : Int32) (x2 : Int32) (x3 : Int32) (w : Int32) (h0 : Heap) (n0 : Nat) : Option Value → Heap → List Loc → Prop := (fun v h L => Fr n0 L ∧ Keep h0 h [] ∧ ∃ s : Addr, ∃ b : Addr, h0.size ≤ s ∧ h0.size ≤ b ∧ v = some (.ref s) ∧ Exa Z h s "java/lang/String" ∧ Fld Z h s "java/lang/String" "value" "[B" (.ref b) ∧ Fld Z h s "java/lang/String" "coder" "B" (.int (0 : Int32)) ∧ OA Z h b .byte (([x0, x1, x2, x3] : List Int32).map obv))
theorem rm18_4 (l : Launch) (Z : State) (a0 : Array Value) (hw : ∀ d ∈ tables_1, d.before a0 Z = true) (ws : List Jvm.Cond) (a1 : Addr) (vb : Addr) (x0 : Int32) (x1 : Int32) (x2 : Int32) (x3 : Int32) (w : Int32) (h0 : Heap) (n0 : Nat) (Z0 : n0 ≤ h0.size) (R0 : Exa Z h0 a1 "java/lang/StringBuilder") (R1 : Fld Z h0 a1 "java/lang/AbstractStringBuilder" "value" "[B" (.ref vb)) (R2 : Fld Z h0 a1 "java/lang/AbstractStringBuilder" "coder" "B" (.int (0 : Int32))) (R3 : Fld Z h0 a1 "java/lang/AbstractStringBuilder" "count" "I" (.int (4 : Int32))) (R4 : OA Z h0 vb .byte (obuf [x0, x1, x2, x3])) (R5 : Sta Z h0 "java/lang/String" "COMPACT_STRINGS" "Z" (.int w)) (hw0 : ¬ w = (0 : Int32)) :
    OMet l Z (⟨"java/lang/StringBuilder", "toString", "()Ljava/lang/String;"⟩ : MethodName) jdk_67_method_42_code 1 (some (.object "java/lang/String")) ws ({ frames := 5, cells := 2, slots := 10, locals := 79 } : Room) #[(.ref a1)] h0 (Q18_4 Z a1 vb x0 x1 x2 x3 w h0 n0) := by
  refine own_enter pn_18 ?_
  intro p e s m below meth c s₁ hx hby hml0 hown hret hlk hnm hZ X0 e0
  have hml : c.maxLocals = 1 := hml0
  have B : BX p c jdk_67_method_42_code := ⟨hx, hby⟩
  have N0 := Fr.nil n0
  refine own_cast (ef_18 m a1) ?_
  refine wnewO OGc 3 X0 B hZ hown (ow hw 120 rfl) (ow hw 5 rfl) (ow hw 6 rfl) e0 d18_0 (by decide) rfl fun T1 h1 o1 gb1 X1 e1 E1 A1 D1 => ?_
  have ge_o1 : n0 ≤ o1 := by rw [gb1]; exact Nat.le_trans Z0 (Keep.refl h0 []).1
  have sz_o1 : h0.size ≤ o1 := by rw [gb1]; exact (Keep.refl h0 []).1
  have ne_a1_o1 : a1 ≠ o1 := Nat.ne_of_lt (Nat.lt_of_lt_of_eq R0.lt gb1.symm)
  have ne_vb_o1 : vb ≠ o1 := Nat.ne_of_lt (Nat.lt_of_lt_of_eq R4.lt gb1.symm)
  have F2 := R0.ext E1
  have F3 := R1.ext E1
  have F4 := R2.ext E1
  have F5 := R3.ext E1
  have F6 := R4.ext E1
  have F7 := R5.ext E1
  have K8 := (Keep.refl h0 []).ext E1
  have F9 : Fld Z h1 o1 "java/lang/String" "value" "[B" .null := D1 (Or.inr (ow hw 20 rfl)) (ty := (.array .byte)) (by decide)
  have F10 : Fld Z h1 o1 "java/lang/String" "coder" "B" (.int (0 : Int32)) := D1 (Or.inr (ow hw 21 rfl)) (ty := .byte) (by decide)
  refine wdup OGc 4 X1 B d18_3 rfl rfl ?_
  refine waloadN OGc 5 X1 B d18_4 rfl rfl rfl ?_
  refine wspec OGc 8 X1 B hZ hown (ow hw 121 rfl) (ow hw 122 rfl) rfl (ow hw 123 rfl) (ow hw 6 rfl) e1 (rm19_4 l Z a0 hw [] o1 a1 vb x0 x1 x2 x3 w h1 n0 (Nat.le_trans Z0 K8.1) A1 F9 F10 F2 F3 F4 F5 F6 F7 ge_o1 (Ne.symm ne_a1_o1) (Ne.symm ne_vb_o1) hw0) 1 (by decide) (by decide) hml rfl (lenOf pd__Ljava_lang_StringBuilder__V rfl) [(.ref o1)] rfl rfl d18_5 rfl fun _ T11 L11 X11 hQ11 => ?_
  obtain ⟨rfl, N11q, K11q, b_11, sz_b_11, P11_0, P11_1, P11_2, P11_3⟩ := hQ11
  have N11 := Fr.app N0 N11q
  have ge_b_11 : n0 ≤ b_11 := Nat.le_trans (Nat.le_trans Z0 K8.1) sz_b_11
  have sy_b_11 : h0.size ≤ b_11 := Nat.le_trans K8.1 sz_b_11
  have ne_a1_b_11 : a1 ≠ b_11 := Nat.ne_of_lt (Nat.lt_of_lt_of_le F2.lt sz_b_11)
  have ne_o1_b_11 : o1 ≠ b_11 := Nat.ne_of_lt (Nat.lt_of_lt_of_le A1.lt sz_b_11)
  have ne_vb_b_11 : vb ≠ b_11 := Nat.ne_of_lt (Nat.lt_of_lt_of_le F6.lt sz_b_11)
  have K11 := K8.trans K11q (own_all1 (Or.inr sz_o1))
  have F12 := F2.keep K11q
  have F13 := F3.keep K11q (own_nin1 ne_a1_o1)
  have F14 := F4.keep K11q (own_nin1 ne_a1_o1)
  have F15 := F5.keep K11q (own_nin1 ne_a1_o1)
  have F16 := F6.keep K11q (own_nin1 ne_vb_o1)
  have F17 := own_staK F7 K11q (own_all1 (own_plE A1))
  refine own_stk (S' := [(.ref o1)]) rfl ?_
  refine own_retV X11 hx hret rfl (Or.inr (Or.inr (Or.inr (Or.inr ⟨rfl, rfl, rfl⟩)))) hlk (hb hby d18_8) (by decide) (by decide) ?_
  exact ⟨N11, K11, o1, b_11, sz_o1, sy_b_11, rfl, P11_0, P11_1, P11_2, P11_3⟩
abbrev Q23_5 (Z : State) (a1 : Addr) (h0 : Heap) (n0 : Nat) : Option Value → Heap → List Loc → Prop := (fun v h L => v = some (.int (5 : Int32)) ∧ Fr n0 L ∧ Keep h0 h [])
theorem rm23_5 (l : Launch) (Z : State) (a0 : Array Value) (hw : ∀ d ∈ tables_1, d.before a0 Z = true) (ws : List Jvm.Cond) (a1 : Addr) (h0 : Heap) (n0 : Nat) (R0 : Fld Z h0 a1 "java/lang/AbstractStringBuilder" "count" "I" (.int (5 : Int32))) :
    OMet l Z (⟨"java/lang/AbstractStringBuilder", "length", "()I"⟩ : MethodName) jdk_68_method_6_code 1 (some .int) ws ({ frames := 0, cells := 0, slots := 0, locals := 0 } : Room) #[(.ref a1)] h0 (Q23_5 Z a1 h0 n0) := by
  refine own_enter pn_23 ?_
  intro p e s m below meth c s₁ hx hby hml0 hown hret hlk hnm hZ X0 e0
  have hml : c.maxLocals = 1 := hml0
  have B : BX p c jdk_68_method_6_code := ⟨hx, hby⟩
  have N0 := Fr.nil n0
  refine own_cast (ef_23 m a1) ?_
  refine waloadN OGc 1 X0 B d23_0 rfl rfl rfl ?_
  refine wgetF OGc 4 X0 B hZ hown (ow hw 88 rfl) e0 R0 d23_1 rfl fun T1 X1 e1 => ?_
  refine own_retI X1 hx hret hlk (hb hby d23_4) (by decide) (by decide) ?_
  rw [e1]
  exact ⟨rfl, N0, (Keep.refl h0 [])⟩
abbrev Q22_5 (Z : State) (a1 : Addr) (h0 : Heap) (n0 : Nat) : Option Value → Heap → List Loc → Prop := (fun v h L => v = some (.int (5 : Int32)) ∧ Fr n0 L ∧ Keep h0 h [])
theorem rm22_5 (l : Launch) (Z : State) (a0 : Array Value) (hw : ∀ d ∈ tables_1, d.before a0 Z = true) (ws : List Jvm.Cond) (a1 : Addr) (h0 : Heap) (n0 : Nat) (R0 : Exa Z h0 a1 "java/lang/StringBuilder") (R1 : Fld Z h0 a1 "java/lang/AbstractStringBuilder" "count" "I" (.int (5 : Int32))) :
    OMet l Z (⟨"java/lang/StringBuilder", "length", "()I"⟩ : MethodName) jdk_67_method_93_code 1 (some .int) ws ({ frames := 1, cells := 0, slots := 0, locals := 12 } : Room) #[(.ref a1)] h0 (Q22_5 Z a1 h0 n0) := by
  refine own_enter pn_22 ?_
  intro p e s m below meth c s₁ hx hby hml0 hown hret hlk hnm hZ X0 e0
  have hml : c.maxLocals = 1 := hml0
  have B : BX p c jdk_67_method_93_code := ⟨hx, hby⟩
  have N0 := Fr.nil n0
  refine own_cast (ef_22 m a1) ?_
  refine waloadN OGc 1 X0 B d22_0 rfl rfl rfl ?_
  obtain ⟨_, _, ⟨T1, L1, k1, n1⟩, -, X1, ⟨Lc1, hQ1, l1, y1, z1⟩, st1⟩ := superBack X0 hx hZ (y := (⟨"java/lang/AbstractStringBuilder", "length", "()I"⟩ : MethodName)) hown (ow hw 138 rfl) (own_same (ow hw 134 rfl) (ow hw 93 rfl) rfl (by decide)) (ow hw 134 rfl) (ow hw 74 rfl) (by decide) (backOf (W := 0) (rm := ({ frames := 0, cells := 0, slots := 0, locals := 0 } : Room)) (rm23_5 l Z a0 hw [] a1 h0 n0 R1) hZ (ow hw 139 rfl) (ow hw 59 rfl) (by decide) (by decide)) e0 (Ins.self R0) (g := (mkF m 1 #[.val (.ref a1)] [(.ref a1)])) rfl (by rw [hml]; rfl) (ow hw 139 rfl) (argsL := []) (rest := []) (lenOf pd___I rfl) rfl (by show 2 * 0 + _ ≤ _; exact Nat.le_of_eq rfl) (hb hby d22_1) (fun _ _ => ⟨rfl, e0, (by decide : 0 + 0 ≤ _), (by decide : 0 + 0 ≤ _)⟩)
  dsimp only [Pt.U, Pt.locs, Pt.cells, Pt.slots] at X1 l1 y1 z1 st1 hQ1
  subst l1 y1 z1
  obtain ⟨rfl, N1q, K1q⟩ := hQ1
  refine own_st (fun t k => st1.trans k) ?_
  have N1 := Fr.app N0 N1q
  have K1 := (Keep.refl h0 []).trans K1q (own_all0 )
  have F2 := R0.keep K1q
  have F3 := R1.keep K1q (own_nin0 )
  show OG p e _ s below _ T1 (mkF m 4 #[.val (.ref a1)] [(.int (5 : Int32))])
  refine own_retI X1 hx hret hlk (hb hby d22_4) (by decide) (by decide) ?_
  exact ⟨rfl, N1, K1⟩
theorem ef_27_5 (m : MethodId)  : entryFrame m #[(.int (0 : Int32)), (.int (5 : Int32))] 2 = (mkF m 0 #[.val (.int (0 : Int32)), .val (.int (5 : Int32))] []) := by first | (simp [entryFrame, mkF, argsToLocals, Value.category]; done) | rfl
abbrev Q27_5 (Z : State)  (h0 : Heap) (n0 : Nat) : Option Value → Heap → List Loc → Prop := (fun v h L => v = none ∧ Fr n0 L ∧ Keep h0 h [])
theorem rm27_5 (l : Launch) (Z : State) (a0 : Array Value) (hw : ∀ d ∈ tables_1, d.before a0 Z = true) (ws : List Jvm.Cond)  (h0 : Heap) (n0 : Nat) :
    OMet l Z (⟨"java/util/Arrays", "checkLength", "(II)V"⟩ : MethodName) jdk_65_method_131_code 2 none ws ({ frames := 0, cells := 0, slots := 0, locals := 0 } : Room) #[(.int (0 : Int32)), (.int (5 : Int32))] h0 (Q27_5 Z  h0 n0) := by
  refine own_enter pn_27 ?_
  intro p e s m below meth c s₁ hx hby hml0 hown hret hlk hnm hZ X0 e0
  have hml : c.maxLocals = 2 := hml0
  have B : BX p c jdk_65_method_131_code := ⟨hx, hby⟩
  have N0 := Fr.nil n0
  refine own_cast (ef_27_5 m ) ?_
  refine wiloadN OGc 1 X0 B d27_0 rfl rfl ?_
  refine wiloadN OGc 2 X0 B d27_1 rfl rfl ?_
  refine wicmpYes OGc 37 X0 B d27_2 (by decide) rfl ?_
  refine own_ret0 X0 hx hret hlk (hb hby d27_37) (by decide) (by decide) ?_
  rw [e0]
  exact ⟨rfl, N0, (Keep.refl h0 [])⟩
theorem ef_28_5 (m : MethodId)  : entryFrame m #[(.int (16 : Int32)), (.int (5 : Int32))] 2 = (mkF m 0 #[.val (.int (16 : Int32)), .val (.int (5 : Int32))] []) := by first | (simp [entryFrame, mkF, argsToLocals, Value.category]; done) | rfl
abbrev Q28_5 (Z : State)  (h0 : Heap) (n0 : Nat) : Option Value → Heap → List Loc → Prop := (fun v h L => v = some (.int (5 : Int32)) ∧ Fr n0 L ∧ Keep h0 h [])
theorem rm28_5 (l : Launch) (Z : State) (a0 : Array Value) (hw : ∀ d ∈ tables_1, d.before a0 Z = true) (ws : List Jvm.Cond)  (h0 : Heap) (n0 : Nat) :
    OMet l Z (⟨"java/lang/Math", "min", "(II)I"⟩ : MethodName) jdk_29_method_69_code 2 (some .int) ws ({ frames := 0, cells := 0, slots := 0, locals := 0 } : Room) #[(.int (16 : Int32)), (.int (5 : Int32))] h0 (Q28_5 Z  h0 n0) := by
  refine own_enter pn_28 ?_
  intro p e s m below meth c s₁ hx hby hml0 hown hret hlk hnm hZ X0 e0
  have hml : c.maxLocals = 2 := hml0
  have B : BX p c jdk_29_method_69_code := ⟨hx, hby⟩
  have N0 := Fr.nil n0
  refine own_cast (ef_28_5 m ) ?_
  refine wiloadN OGc 1 X0 B d28_0 rfl rfl ?_
  refine wiloadN OGc 2 X0 B d28_1 rfl rfl ?_
  refine wicmpYes OGc 9 X0 B d28_2 (by decide) rfl ?_
  refine wiloadN OGc 10 X0 B d28_9 rfl rfl ?_
  refine own_retI X0 hx hret hlk (hb hby d28_10) (by decide) (by decide) ?_
  rw [e0]
  exact ⟨rfl, N0, (Keep.refl h0 [])⟩
theorem ef_26_5 (m : MethodId) (a1 : Addr) : entryFrame m #[(.ref a1), (.int (0 : Int32)), (.int (5 : Int32))] 5 = (mkF m 0 #[.val (.ref a1), .val (.int (0 : Int32)), .val (.int (5 : Int32)), .unset, .unset] []) := by first | (simp [entryFrame, mkF, argsToLocals, Value.category]; done) | rfl
abbrev Q26_5 (Z : State) (a1 : Addr) (x0 : Int32) (x1 : Int32) (x2 : Int32) (x3 : Int32) (x4 : Int32) (h0 : Heap) (n0 : Nat) : Option Value → Heap → List Loc → Prop := (fun v h L => Fr n0 L ∧ Keep h0 h [] ∧ ∃ b : Addr, h0.size ≤ b ∧ v = some (.ref b) ∧ OA Z h b .byte (([x0, x1, x2, x3, x4] : List Int32).map obv))
theorem rm26_5 (l : Launch) (Z : State) (a0 : Array Value) (hw : ∀ d ∈ tables_1, d.before a0 Z = true) (ws : List Jvm.Cond) (a1 : Addr) (x0 : Int32) (x1 : Int32) (x2 : Int32) (x3 : Int32) (x4 : Int32) (h0 : Heap) (n0 : Nat) (Z0 : n0 ≤ h0.size) (R0 : OA Z h0 a1 .byte (obuf [x0, x1, x2, x3, x4])) :
    OMet l Z (⟨"java/util/Arrays", "copyOfRangeByte", "([BII)[B"⟩ : MethodName) jdk_65_method_133_code 5 (some (.array .byte)) ws ({ frames := 1, cells := 1, slots := 5, locals := 18 } : Room) #[(.ref a1), (.int (0 : Int32)), (.int (5 : Int32))] h0 (Q26_5 Z a1 x0 x1 x2 x3 x4 h0 n0) := by
  refine own_enter pn_26 ?_
  intro p e s m below meth c s₁ hx hby hml0 hown hret hlk hnm hZ X0 e0
  have hml : c.maxLocals = 5 := hml0
  have B : BX p c jdk_65_method_133_code := ⟨hx, hby⟩
  have N0 := Fr.nil n0
  refine own_cast (ef_26_5 m a1) ?_
  refine wiloadN OGc 1 X0 B d26_0 rfl rfl ?_
  refine wiloadN OGc 2 X0 B d26_1 rfl rfl ?_
  refine wstat OGc 5 X0 B hZ hown (ow hw 152 rfl) (ow hw 153 rfl) (ow hw 154 rfl) (ow hw 147 rfl) e0 (rm27_5 l Z a0 hw [] h0 n0) 0 (by decide) (by decide) hml rfl (lenOf pd__II_V rfl) [] rfl rfl d26_2 rfl fun _ T1 L1 X1 hQ1 => ?_
  obtain ⟨rfl, N1q, K1q⟩ := hQ1
  have N1 := Fr.app N0 N1q
  have K1 := (Keep.refl h0 []).trans K1q (own_all0 )
  have F2 := R0.keep K1q (own_nin0 )
  refine own_stk (S' := []) rfl ?_
  refine wiloadN OGc 6 X1 B d26_5 rfl rfl ?_
  refine wiloadN OGc 7 X1 B d26_6 rfl rfl ?_
  refine wisub OGc 8 X1 B d26_7 rfl ?_
  show OG p e _ s below _ T1 (mkF m 8 #[.val (.ref a1), .val (.int (0 : Int32)), .val (.int (5 : Int32)), .unset, .unset] [(.int (5 : Int32))])
  refine wistoreN OGc 9 X1 B d26_8 #[.val (.ref a1), .val (.int (0 : Int32)), .val (.int (5 : Int32)), .val (.int (5 : Int32)), .unset] rfl rfl ?_
  refine wiloadN OGc 10 X1 B d26_9 rfl rfl ?_
  refine wnewP OGc 12 X1 B hZ (ow hw 19 rfl) rfl d26_10 5 (by decide) (by decide) rfl fun T3 h3 b3 k3 gb3 X3 e3 E3 A3 => ?_
  have ge_b3 : n0 ≤ b3 := by rw [gb3]; exact Nat.le_trans Z0 K1.1
  have sz_b3 : h0.size ≤ b3 := by rw [gb3]; exact K1.1
  have ne_a1_b3 : a1 ≠ b3 := Nat.ne_of_lt (Nat.lt_of_lt_of_eq F2.lt gb3.symm)
  have F4 := F2.ext E3
  have K5 := K1.ext E3
  have F6 : OA Z h3 b3 .byte [(.int (0 : Int32)), (.int (0 : Int32)), (.int (0 : Int32)), (.int (0 : Int32)), (.int (0 : Int32))] := OA.new A3
  refine wastore OGc 14 X3 B d26_12 #[.val (.ref a1), .val (.int (0 : Int32)), .val (.int (5 : Int32)), .val (.int (5 : Int32)), .val (.ref b3)] rfl rfl rfl ?_
  refine waloadN OGc 15 X3 B d26_14 rfl rfl rfl ?_
  refine wiloadN OGc 16 X3 B d26_15 rfl rfl ?_
  refine waload OGc 18 X3 B d26_16 rfl rfl rfl ?_
  refine wiconst OGc 19 X3 B d26_18 0 rfl rfl ?_
  refine waloadN OGc 20 X3 B d26_19 rfl rfl rfl ?_
  refine warlenA OGc 21 X3 B hZ e3 F4 (16 : Int32) rfl d26_20 rfl ?_
  refine wiloadN OGc 22 X3 B d26_21 rfl rfl ?_
  refine wisub OGc 23 X3 B d26_22 rfl ?_
  show OG p e _ s below _ T3 (mkF m 23 #[.val (.ref a1), .val (.int (0 : Int32)), .val (.int (5 : Int32)), .val (.int (5 : Int32)), .val (.ref b3)] [(.int (16 : Int32)), (.int (0 : Int32)), (.ref b3), (.int (0 : Int32)), (.ref a1)])
  refine wiloadN OGc 24 X3 B d26_23 rfl rfl ?_
  refine wstat OGc 27 X3 B hZ hown (ow hw 155 rfl) (ow hw 156 rfl) (ow hw 158 rfl) (ow hw 157 rfl) e3 (rm28_5 l Z a0 hw [] h3 n0) 4 (by decide) (by decide) hml rfl (lenOf pd__II_I rfl) [(.int (0 : Int32)), (.ref b3), (.int (0 : Int32)), (.ref a1)] rfl rfl d26_24 rfl fun _ T8 L8 X8 hQ8 => ?_
  obtain ⟨rfl, N8q, K8q⟩ := hQ8
  have N8 := Fr.app N1 N8q
  have K8 := K5.trans K8q (own_all0 )
  have F9 := F4.keep K8q (own_nin0 )
  have F10 := F6.keep K8q (own_nin0 )
  refine own_stk (S' := [(.int (5 : Int32)), (.int (0 : Int32)), (.ref b3), (.int (0 : Int32)), (.ref a1)]) rfl ?_
  refine wcp OGc 30 X8 B hZ hown (ow hw 159 rfl) (ow hw 114 rfl) (ow hw 112 rfl) (ow hw 113 rfl) rfl F9 F10 (own_bytB [x0, x1, x2, x3, x4] 11) (Byt.zero (Byt.zero (Byt.zero (Byt.zero (Byt.zero Byt.nil))))) 16 5 0 0 5 rfl rfl (z := (16 : Int32)) (z' := (5 : Int32)) (by decide) (([x0, x1, x2, x3, x4] : List Int32).map obv) rfl (([x0, x1, x2, x3, x4] : List Int32).map obv) rfl rfl N8 ge_b3 hml rfl d26_27 (W := 0) rfl (by decide) rfl fun T11 h11 L11 X11 e11 N11 K11q A11 => ?_
  have K11 : Keep h0 h11 [] := K8.trans K11q (own_all1 (Or.inr sz_b3))
  have F12 := F9.keep K11q (own_nin1 ne_a1_b3)
  have F13 : OA Z h11 b3 .byte (([x0, x1, x2, x3, x4] : List Int32).map obv) := A11
  refine waload OGc 32 X11 B d26_30 rfl rfl rfl ?_
  refine own_retV X11 hx hret rfl (Or.inr (Or.inr (Or.inr (Or.inr ⟨rfl, rfl, rfl⟩)))) hlk (hb hby d26_32) (by decide) (by decide) ?_
  rw [e11]
  exact ⟨N11, K11, b3, sz_b3, rfl, F13⟩
theorem ef_25_5 (m : MethodId) (a1 : Addr) : entryFrame m #[(.ref a1), (.int (0 : Int32)), (.int (5 : Int32))] 3 = (mkF m 0 #[.val (.ref a1), .val (.int (0 : Int32)), .val (.int (5 : Int32))] []) := by first | (simp [entryFrame, mkF, argsToLocals, Value.category]; done) | rfl
abbrev Q25_5 (Z : State) (a1 : Addr) (x0 : Int32) (x1 : Int32) (x2 : Int32) (x3 : Int32) (x4 : Int32) (h0 : Heap) (n0 : Nat) : Option Value → Heap → List Loc → Prop := (fun v h L => Fr n0 L ∧ Keep h0 h [] ∧ ∃ b : Addr, h0.size ≤ b ∧ v = some (.ref b) ∧ OA Z h b .byte (([x0, x1, x2, x3, x4] : List Int32).map obv))
theorem rm25_5 (l : Launch) (Z : State) (a0 : Array Value) (hw : ∀ d ∈ tables_1, d.before a0 Z = true) (ws : List Jvm.Cond) (a1 : Addr) (x0 : Int32) (x1 : Int32) (x2 : Int32) (x3 : Int32) (x4 : Int32) (h0 : Heap) (n0 : Nat) (Z0 : n0 ≤ h0.size) (R0 : OA Z h0 a1 .byte (obuf [x0, x1, x2, x3, x4])) :
    OMet l Z (⟨"java/util/Arrays", "copyOfRange", "([BII)[B"⟩ : MethodName) jdk_65_method_132_code 3 (some (.array .byte)) ws ({ frames := 2, cells := 1, slots := 5, locals := 34 } : Room) #[(.ref a1), (.int (0 : Int32)), (.int (5 : Int32))] h0 (Q25_5 Z a1 x0 x1 x2 x3 x4 h0 n0) := by
  refine own_enter pn_25 ?_
  intro p e s m below meth c s₁ hx hby hml0 hown hret hlk hnm hZ X0 e0
  have hml : c.maxLocals = 3 := hml0
  have B : BX p c jdk_65_method_132_code := ⟨hx, hby⟩
  have N0 := Fr.nil n0
  refine own_cast (ef_25_5 m a1) ?_
  refine wiloadN OGc 1 X0 B d25_0 rfl rfl ?_
  refine wifNo OGc 4 X0 B d25_1 (by decide) rfl ?_
  refine wiloadN OGc 5 X0 B d25_4 rfl rfl ?_
  refine waloadN OGc 6 X0 B d25_5 rfl rfl rfl ?_
  refine warlenA OGc 7 X0 B hZ e0 R0 (16 : Int32) rfl d25_6 rfl ?_
  refine wicmpNo OGc 10 X0 B d25_7 (by decide) rfl ?_
  refine waloadN OGc 11 X0 B d25_10 rfl rfl rfl ?_
  refine wiloadN OGc 12 X0 B d25_11 rfl rfl ?_
  refine wiloadN OGc 13 X0 B d25_12 rfl rfl ?_
  refine wstat OGc 16 X0 B hZ hown (ow hw 149 rfl) (ow hw 150 rfl) (ow hw 151 rfl) (ow hw 147 rfl) e0 (rm26_5 l Z a0 hw [] a1 x0 x1 x2 x3 x4 h0 n0 (Nat.le_trans Z0 (Keep.refl h0 []).1) R0) 0 (by decide) (by decide) hml rfl (lenOf pd___BII__B rfl) [] rfl rfl d25_13 rfl fun _ T2 L2 X2 hQ2 => ?_
  obtain ⟨N2q, K2q, b_2, sz_b_2, rfl, P2_0⟩ := hQ2
  have N2 := Fr.app N0 N2q
  have ge_b_2 : n0 ≤ b_2 := Nat.le_trans (Nat.le_trans Z0 (Keep.refl h0 []).1) sz_b_2
  have sy_b_2 : h0.size ≤ b_2 := Nat.le_trans (Keep.refl h0 []).1 sz_b_2
  have ne_a1_b_2 : a1 ≠ b_2 := Nat.ne_of_lt (Nat.lt_of_lt_of_le R0.lt sz_b_2)
  have K2 := (Keep.refl h0 []).trans K2q (own_all0 )
  have F3 := R0.keep K2q (own_nin0 )
  refine own_stk (S' := [(.ref b_2)]) rfl ?_
  refine own_retV X2 hx hret rfl (Or.inr (Or.inr (Or.inr (Or.inr ⟨rfl, rfl, rfl⟩)))) hlk (hb hby d25_16) (by decide) (by decide) ?_
  exact ⟨N2, K2, b_2, sy_b_2, rfl, P2_0⟩
theorem ef_20_5 (m : MethodId) (a1 : Addr) (a2 : Addr) : entryFrame m #[(.ref a1), (.ref a2), .null] 5 = (mkF m 0 #[.val (.ref a1), .val (.ref a2), .val .null, .unset, .unset] []) := by first | (simp [entryFrame, mkF, argsToLocals, Value.category]; done) | rfl
abbrev Q20_5 (Z : State) (a1 : Addr) (a2 : Addr) (vb : Addr) (x0 : Int32) (x1 : Int32) (x2 : Int32) (x3 : Int32) (x4 : Int32) (w : Int32) (h0 : Heap) (n0 : Nat) : Option Value → Heap → List Loc → Prop := (fun v h L => v = none ∧ Fr n0 L ∧ Keep h0 h [a1] ∧ ∃ b : Addr, h0.size ≤ b ∧ Exa Z h a1 "java/lang/String" ∧ Fld Z h a1 "java/lang/String" "value" "[B" (.ref b) ∧ Fld Z h a1 "java/lang/String" "coder" "B" (.int (0 : Int32)) ∧ OA Z h b .byte (([x0, x1, x2, x3, x4] : List Int32).map obv))
theorem rm20_5 (l : Launch) (Z : State) (a0 : Array Value) (hw : ∀ d ∈ tables_1, d.before a0 Z = true) (ws : List Jvm.Cond) (a1 : Addr) (a2 : Addr) (vb : Addr) (x0 : Int32) (x1 : Int32) (x2 : Int32) (x3 : Int32) (x4 : Int32) (w : Int32) (h0 : Heap) (n0 : Nat) (Z0 : n0 ≤ h0.size) (R0 : Exa Z h0 a1 "java/lang/String") (R1 : Fld Z h0 a1 "java/lang/String" "value" "[B" .null) (R2 : Fld Z h0 a1 "java/lang/String" "coder" "B" (.int (0 : Int32))) (R3 : Exa Z h0 a2 "java/lang/StringBuilder") (R4 : Fld Z h0 a2 "java/lang/AbstractStringBuilder" "value" "[B" (.ref vb)) (R5 : Fld Z h0 a2 "java/lang/AbstractStringBuilder" "coder" "B" (.int (0 : Int32))) (R6 : Fld Z h0 a2 "java/lang/AbstractStringBuilder" "count" "I" (.int (5 : Int32))) (R7 : OA Z h0 vb .byte (obuf [x0, x1, x2, x3, x4])) (R8 : Sta Z h0 "java/lang/String" "COMPACT_STRINGS" "Z" (.int w)) (g_a1 : n0 ≤ a1) (ne_a1_a2 : a1 ≠ a2) (ne_a1_vb : a1 ≠ vb) (hw0 : ¬ w = (0 : Int32)) :
    OMet l Z (⟨"java/lang/String", "<init>", "(Ljava/lang/AbstractStringBuilder;Ljava/lang/Void;)V"⟩ : MethodName) jdk_42_method_150_code 5 none ws ({ frames := 3, cells := 1, slots := 5, locals := 49 } : Room) #[(.ref a1), (.ref a2), .null] h0 (Q20_5 Z a1 a2 vb x0 x1 x2 x3 x4 w h0 n0) := by
  refine own_enter pn_20 ?_
  intro p e s m below meth c s₁ hx hby hml0 hown hret hlk hnm hZ X0 e0
  have hml : c.maxLocals = 5 := hml0
  have B : BX p c jdk_42_method_150_code := ⟨hx, hby⟩
  have N0 := Fr.nil n0
  refine own_cast (ef_20_5 m a1 a2) ?_
  refine waloadN OGc 1 X0 B d20_0 rfl rfl rfl ?_
  obtain ⟨T1, X1, e1, st1⟩ := initO X0 hx hZ hown (ow hw 15 rfl) (ow hw 16 rfl) (ow hw 17 rfl) e0 (g := (mkF m 1 #[.val (.ref a1), .val (.ref a2), .val .null, .unset, .unset] [(.ref a1)])) rfl (by rw [hml]; rfl) rfl (hb hby d20_1) (by decide) (W := 0) (by show 2 * 0 + _ ≤ _; exact Nat.le_of_eq rfl) (by decide)
  refine own_st st1 ?_
  show OG p e _ s below _ T1 (mkF m 4 #[.val (.ref a1), .val (.ref a2), .val .null, .unset, .unset] [])
  refine waloadN OGc 5 X1 B d20_4 rfl rfl rfl ?_
  refine wvirt OGc 8 X1 B hZ hown (ow hw 127 rfl) (ow hw 128 rfl) (ow hw 130 rfl) (ow hw 129 rfl) R3 (ow hw 131 rfl) (ow hw 59 rfl) e1 (rm21 l Z a0 hw [] a2 vb h0 n0 R4) 0 (by decide) (by decide) hml rfl (lenOf pd____B rfl) [] rfl rfl d20_5 rfl fun _ T2 L2 X2 hQ2 => ?_
  obtain ⟨rfl, N2q, K2q⟩ := hQ2
  have N2 := Fr.app N0 N2q
  have K2 := (Keep.refl h0 [a1]).trans K2q (own_all0 )
  have F3 := R0.keep K2q
  have F4 := R1.keep K2q (own_nin0 )
  have F5 := R2.keep K2q (own_nin0 )
  have F6 := R3.keep K2q
  have F7 := R4.keep K2q (own_nin0 )
  have F8 := R5.keep K2q (own_nin0 )
  have F9 := R6.keep K2q (own_nin0 )
  have F10 := R7.keep K2q (own_nin0 )
  have F11 := own_staK R8 K2q (own_all0 )
  refine own_stk (S' := [(.ref vb)]) rfl ?_
  refine wastoreN OGc 9 X2 B d20_8 #[.val (.ref a1), .val (.ref a2), .val .null, .val (.ref vb), .unset] rfl rfl rfl ?_
  refine waloadN OGc 10 X2 B d20_9 rfl rfl rfl ?_
  obtain ⟨cq12, kq12, q12a, q12b, q12c⟩ := isOf hZ rfl F6
  obtain ⟨_, _, ⟨T12, L12, k12, n12⟩, -, X12, ⟨Lc12, hQ12, l12, y12, z12⟩, st12⟩ := X2.virtualBack hx (y := (⟨"java/lang/AbstractStringBuilder", "length", "()I"⟩ : MethodName)) (z := (⟨"java/lang/StringBuilder", "length", "()I"⟩ : MethodName)) hown (mvT hZ (ow hw 132 rfl)) (mvT hZ (ow hw 133 rfl)) (own_nf (args := #[]) (mvT hZ (ow hw 93 rfl)) rfl) (mvT hZ (ow hw 135 rfl)) (mvT hZ (ow hw 136 rfl)) (by decide) (backOf (W := 0) (rm := ({ frames := 1, cells := 0, slots := 0, locals := 12 } : Room)) (rm22_5 l Z a0 hw [] a2 T2.heap n0 F6 F9) hZ (ow hw 137 rfl) (ow hw 51 rfl) (by decide) (by decide)) q12a q12c (g := (mkF m 10 #[.val (.ref a1), .val (.ref a2), .val .null, .val (.ref vb), .unset] [(.ref a2)])) rfl (by rw [hml]; rfl) (Steps.refl _) (argsL := []) (rest := []) (lenOf pd___I rfl) rfl (by show 2 * 0 + _ ≤ _; exact Nat.le_of_eq rfl) (hb hby d20_10) (fun _ _ => ⟨rfl, rfl, (by decide : 0 + 0 ≤ _), (by decide : 0 + 0 ≤ _)⟩)
  dsimp only [Pt.U, Pt.locs, Pt.cells, Pt.slots] at X12 l12 y12 z12 st12 hQ12
  subst l12 y12 z12
  obtain ⟨rfl, N12q, K12q⟩ := hQ12
  refine own_st (fun t k => st12.trans k) ?_
  have N12 := Fr.app N2 N12q
  have K12 := K2.trans K12q (own_all0 )
  have F13 := F3.keep K12q
  have F14 := F4.keep K12q (own_nin0 )
  have F15 := F5.keep K12q (own_nin0 )
  have F16 := F6.keep K12q
  have F17 := F7.keep K12q (own_nin0 )
  have F18 := F8.keep K12q (own_nin0 )
  have F19 := F9.keep K12q (own_nin0 )
  have F20 := F10.keep K12q (own_nin0 )
  have F21 := own_staK F11 K12q (own_all0 )
  show OG p e _ s below _ T12 (mkF m 13 #[.val (.ref a1), .val (.ref a2), .val .null, .val (.ref vb), .unset] [(.int (5 : Int32))])
  refine wistore OGc 15 X12 B d20_13 #[.val (.ref a1), .val (.ref a2), .val .null, .val (.ref vb), .val (.int (5 : Int32))] rfl rfl ?_
  refine waloadN OGc 16 X12 B d20_15 rfl rfl rfl ?_
  refine wvirt OGc 19 X12 B hZ hown (ow hw 140 rfl) (ow hw 141 rfl) (ow hw 143 rfl) (ow hw 142 rfl) F16 (ow hw 144 rfl) (ow hw 59 rfl) rfl (rm24 l Z a0 hw [] a2 w T12.heap n0 F18 F21 hw0) 0 (by decide) (by decide) hml rfl (lenOf pd___Z rfl) [] rfl rfl d20_16 rfl fun _ T22 L22 X22 hQ22 => ?_
  obtain ⟨rfl, N22q, K22q⟩ := hQ22
  have N22 := Fr.app N12 N22q
  have K22 := K12.trans K22q (own_all0 )
  have F23 := F13.keep K22q
  have F24 := F14.keep K22q (own_nin0 )
  have F25 := F15.keep K22q (own_nin0 )
  have F26 := F16.keep K22q
  have F27 := F17.keep K22q (own_nin0 )
  have F28 := F18.keep K22q (own_nin0 )
  have F29 := F19.keep K22q (own_nin0 )
  have F30 := F20.keep K22q (own_nin0 )
  have F31 := own_staK F21 K22q (own_all0 )
  refine own_stk (S' := [(.int (1 : Int32))]) rfl ?_
  refine wifNo OGc 22 X22 B d20_19 (by decide) rfl ?_
  refine waloadN OGc 23 X22 B d20_22 rfl rfl rfl ?_
  refine wiconst OGc 24 X22 B d20_23 0 rfl rfl ?_
  refine wputF OGc 27 X22 B hZ hown (ow hw 25 rfl) rfl F25 F23 (Or.inr ⟨(ow hw 21 rfl), rfl, hnm⟩) (ow hw 5 rfl) (ty := .byte) (by decide) rfl rfl d20_24 rfl fun T32 h32 X32 e32 W32 => ?_
  have N32 := Fr.snoc X32 N22 g_a1
  have K33 := K22.wr W32 (Or.inl (List.mem_of_getElem? (i := 0) rfl))
  have F34 := F23.wr W32
  have F35 := F24.other W32 (Or.inr (slot_ne (Or.inr (ow hw 20 rfl)) (Or.inr (ow hw 21 rfl)) (by decide) (t := (.array .byte)) (t' := .byte) (by decide) (by decide)))
  have F36 : Fld Z h32 a1 "java/lang/String" "coder" "B" (.int (0 : Int32)) := (F25.same W32)
  have F37 := F26.wr W32
  have F38 := F27.other W32 (Or.inl (Ne.symm ne_a1_a2))
  have F39 := F28.other W32 (Or.inl (Ne.symm ne_a1_a2))
  have F40 := F29.other W32 (Or.inl (Ne.symm ne_a1_a2))
  have F41 := F30.other W32 (Ne.symm ne_a1_vb)
  have F42 := F31.wr W32
  refine waloadN OGc 28 X32 B d20_27 rfl rfl rfl ?_
  refine waloadN OGc 29 X32 B d20_28 rfl rfl rfl ?_
  refine wiconst OGc 30 X32 B d20_29 0 rfl rfl ?_
  refine wiload OGc 32 X32 B d20_30 rfl rfl ?_
  refine wstat OGc 35 X32 B hZ hown (ow hw 145 rfl) (ow hw 146 rfl) (ow hw 148 rfl) (ow hw 147 rfl) e32 (rm25_5 l Z a0 hw [] vb x0 x1 x2 x3 x4 h32 n0 (Nat.le_trans Z0 K33.1) F41) 1 (by decide) (by decide) hml rfl (lenOf pd___BII__B rfl) [(.ref a1)] rfl rfl d20_32 rfl fun _ T43 L43 X43 hQ43 => ?_
  obtain ⟨N43q, K43q, b_43, sz_b_43, rfl, P43_0⟩ := hQ43
  have N43 := Fr.app N32 N43q
  have ge_b_43 : n0 ≤ b_43 := Nat.le_trans (Nat.le_trans Z0 K33.1) sz_b_43
  have sy_b_43 : h0.size ≤ b_43 := Nat.le_trans K33.1 sz_b_43
  have ne_a1_b_43 : a1 ≠ b_43 := Nat.ne_of_lt (Nat.lt_of_lt_of_le F34.lt sz_b_43)
  have ne_a2_b_43 : a2 ≠ b_43 := Nat.ne_of_lt (Nat.lt_of_lt_of_le F37.lt sz_b_43)
  have ne_vb_b_43 : vb ≠ b_43 := Nat.ne_of_lt (Nat.lt_of_lt_of_le F41.lt sz_b_43)
  have K43 := K33.trans K43q (own_all0 )
  have F44 := F34.keep K43q
  have F45 := F35.keep K43q (own_nin0 )
  have F46 := F36.keep K43q (own_nin0 )
  have F47 := F37.keep K43q
  have F48 := F38.keep K43q (own_nin0 )
  have F49 := F39.keep K43q (own_nin0 )
  have F50 := F40.keep K43q (own_nin0 )
  have F51 := F41.keep K43q (own_nin0 )
  have F52 := own_staK F42 K43q (own_all0 )
  refine own_stk (S' := [(.ref b_43), (.ref a1)]) rfl ?_
  refine wputF OGc 38 X43 B hZ hown (ow hw 24 rfl) rfl F45 F44 (Or.inr ⟨(ow hw 20 rfl), rfl, hnm⟩) (ow hw 5 rfl) (ty := (.array .byte)) (by decide) rfl rfl d20_35 rfl fun T53 h53 X53 e53 W53 => ?_
  have N53 := Fr.snoc X53 N43 g_a1
  have K54 := K43.wr W53 (Or.inl (List.mem_of_getElem? (i := 0) rfl))
  have F55 := F44.wr W53
  have F56 : Fld Z h53 a1 "java/lang/String" "value" "[B" (.ref b_43) := (F45.same W53)
  have F57 := F46.other W53 (Or.inr (slot_ne (Or.inr (ow hw 21 rfl)) (Or.inr (ow hw 20 rfl)) (by decide) (t := .byte) (t' := (.array .byte)) (by decide) (by decide)))
  have F58 := F47.wr W53
  have F59 := F48.other W53 (Or.inl (Ne.symm ne_a1_a2))
  have F60 := F49.other W53 (Or.inl (Ne.symm ne_a1_a2))
  have F61 := F50.other W53 (Or.inl (Ne.symm ne_a1_a2))
  have F62 := F51.other W53 (Ne.symm ne_a1_vb)
  have F63 := F52.wr W53
  have F64 := P43_0.other W53 (Ne.symm ne_a1_b_43)
  refine wgoto OGc 97 X53 B d20_38 rfl ?_
  refine own_ret0 X53 hx hret hlk (hb hby d20_97) (by decide) (by decide) ?_
  rw [e53]
  exact ⟨rfl, N53, K54, b_43, sy_b_43, F55, F56, F57, F64⟩
abbrev Q19_5 (Z : State) (a1 : Addr) (a2 : Addr) (vb : Addr) (x0 : Int32) (x1 : Int32) (x2 : Int32) (x3 : Int32) (x4 : Int32) (w : Int32) (h0 : Heap) (n0 : Nat) : Option Value → Heap → List Loc → Prop := (fun v h L => v = none ∧ Fr n0 L ∧ Keep h0 h [a1] ∧ ∃ b : Addr, h0.size ≤ b ∧ Exa Z h a1 "java/lang/String" ∧ Fld Z h a1 "java/lang/String" "value" "[B" (.ref b) ∧ Fld Z h a1 "java/lang/String" "coder" "B" (.int (0 : Int32)) ∧ OA Z h b .byte (([x0, x1, x2, x3, x4] : List Int32).map obv))
theorem rm19_5 (l : Launch) (Z : State) (a0 : Array Value) (hw : ∀ d ∈ tables_1, d.before a0 Z = true) (ws : List Jvm.Cond) (a1 : Addr) (a2 : Addr) (vb : Addr) (x0 : Int32) (x1 : Int32) (x2 : Int32) (x3 : Int32) (x4 : Int32) (w : Int32) (h0 : Heap) (n0 : Nat) (Z0 : n0 ≤ h0.size) (R0 : Exa Z h0 a1 "java/lang/String") (R1 : Fld Z h0 a1 "java/lang/String" "value" "[B" .null) (R2 : Fld Z h0 a1 "java/lang/String" "coder" "B" (.int (0 : Int32))) (R3 : Exa Z h0 a2 "java/lang/StringBuilder") (R4 : Fld Z h0 a2 "java/lang/AbstractStringBuilder" "value" "[B" (.ref vb)) (R5 : Fld Z h0 a2 "java/lang/AbstractStringBuilder" "coder" "B" (.int (0 : Int32))) (R6 : Fld Z h0 a2 "java/lang/AbstractStringBuilder" "count" "I" (.int (5 : Int32))) (R7 : OA Z h0 vb .byte (obuf [x0, x1, x2, x3, x4])) (R8 : Sta Z h0 "java/lang/String" "COMPACT_STRINGS" "Z" (.int w)) (g_a1 : n0 ≤ a1) (ne_a1_a2 : a1 ≠ a2) (ne_a1_vb : a1 ≠ vb) (hw0 : ¬ w = (0 : Int32)) :
    OMet l Z (⟨"java/lang/String", "<init>", "(Ljava/lang/StringBuilder;)V"⟩ : MethodName) jdk_42_method_53_code 2 none ws ({ frames := 4, cells := 1, slots := 5, locals := 65 } : Room) #[(.ref a1), (.ref a2)] h0 (Q19_5 Z a1 a2 vb x0 x1 x2 x3 x4 w h0 n0) := by
  refine own_enter pn_19 ?_
  intro p e s m below meth c s₁ hx hby hml0 hown hret hlk hnm hZ X0 e0
  have hml : c.maxLocals = 2 := hml0
  have B : BX p c jdk_42_method_53_code := ⟨hx, hby⟩
  have N0 := Fr.nil n0
  refine own_cast (ef_19 m a1 a2) ?_
  refine waloadN OGc 1 X0 B d19_0 rfl rfl rfl ?_
  refine waloadN OGc 2 X0 B d19_1 rfl rfl rfl ?_
  refine waconstNull OGc 3 X0 B d19_2 rfl ?_
  refine wspec OGc 6 X0 B hZ hown (ow hw 124 rfl) (ow hw 125 rfl) rfl (ow hw 126 rfl) (ow hw 6 rfl) e0 (rm20_5 l Z a0 hw [] a1 a2 vb x0 x1 x2 x3 x4 w h0 n0 (Nat.le_trans Z0 (Keep.refl h0 [a1]).1) R0 R1 R2 R3 R4 R5 R6 R7 R8 g_a1 ne_a1_a2 ne_a1_vb hw0) 0 (by decide) (by decide) hml rfl (lenOf pd__Ljava_lang_AbstractStringBuilder_Ljava_lang_Void__V rfl) [] rfl rfl d19_3 rfl fun _ T1 L1 X1 hQ1 => ?_
  obtain ⟨rfl, N1q, K1q, b_1, sz_b_1, P1_0, P1_1, P1_2, P1_3⟩ := hQ1
  have N1 := Fr.app N0 N1q
  have ge_b_1 : n0 ≤ b_1 := Nat.le_trans (Nat.le_trans Z0 (Keep.refl h0 [a1]).1) sz_b_1
  have sy_b_1 : h0.size ≤ b_1 := Nat.le_trans (Keep.refl h0 [a1]).1 sz_b_1
  have ne_a1_b_1 : a1 ≠ b_1 := Nat.ne_of_lt (Nat.lt_of_lt_of_le R0.lt sz_b_1)
  have ne_a2_b_1 : a2 ≠ b_1 := Nat.ne_of_lt (Nat.lt_of_lt_of_le R3.lt sz_b_1)
  have ne_vb_b_1 : vb ≠ b_1 := Nat.ne_of_lt (Nat.lt_of_lt_of_le R7.lt sz_b_1)
  have K1 := (Keep.refl h0 [a1]).trans K1q (own_all1 (Or.inl (List.mem_of_getElem? (i := 0) rfl)))
  have F2 := R3.keep K1q
  have F3 := R4.keep K1q (own_nin1 (Ne.symm ne_a1_a2))
  have F4 := R5.keep K1q (own_nin1 (Ne.symm ne_a1_a2))
  have F5 := R6.keep K1q (own_nin1 (Ne.symm ne_a1_a2))
  have F6 := R7.keep K1q (own_nin1 (Ne.symm ne_a1_vb))
  have F7 := own_staK R8 K1q (own_all1 (own_plE R0))
  refine own_stk (S' := []) rfl ?_
  refine own_ret0 X1 hx hret hlk (hb hby d19_6) (by decide) (by decide) ?_
  exact ⟨rfl, N1, K1, b_1, sy_b_1, P1_0, P1_1, P1_2, P1_3⟩
abbrev Q18_5 (Z : State) (a1 : Addr) (vb : Addr) (x0 : Int32) (x1 : Int32) (x2 : Int32) (x3 : Int32) (x4 : Int32) (w : Int32) (h0 : Heap) (n0 : Nat) : Option Value → Heap → List Loc → Prop := (fun v h L => Fr n0 L ∧ Keep h0 h [] ∧ ∃ s : Addr, ∃ b : Addr, h0.size ≤ s ∧ h0.size ≤ b ∧ v = some (.ref s) ∧ Exa Z h s "java/lang/String" ∧ Fld Z h s "java/lang/String" "value" "[B" (.ref b) ∧ Fld Z h s "java/lang/String" "coder" "B" (.int (0 : Int32)) ∧ OA Z h b .byte (([x0, x1, x2, x3, x4] : List Int32).map obv))
theorem rm18_5 (l : Launch) (Z : State) (a0 : Array Value) (hw : ∀ d ∈ tables_1, d.before a0 Z = true) (ws : List Jvm.Cond) (a1 : Addr) (vb : Addr) (x0 : Int32) (x1 : Int32) (x2 : Int32) (x3 : Int32) (x4 : Int32) (w : Int32) (h0 : Heap) (n0 : Nat) (Z0 : n0 ≤ h0.size) (R0 : Exa Z h0 a1 "java/lang/StringBuilder") (R1 : Fld Z h0 a1 "java/lang/AbstractStringBuilder" "value" "[B" (.ref vb)) (R2 : Fld Z h0 a1 "java/lang/AbstractStringBuilder" "coder" "B" (.int (0 : Int32))) (R3 : Fld Z h0 a1 "java/lang/AbstractStringBuilder" "count" "I" (.int (5 : Int32))) (R4 : OA Z h0 vb .byte (obuf [x0, x1, x2, x3, x4])) (R5 : Sta Z h0 "java/lang/String" "COMPACT_STRINGS" "Z" (.int w)) (hw0 : ¬ w = (0 : Int32)) :
    OMet l Z (⟨"java/lang/StringBuilder", "toString", "()Ljava/lang/String;"⟩ : MethodName) jdk_67_method_42_code 1 (some (.object "java/lang/String")) ws ({ frames := 5, cells := 2, slots := 10, locals := 79 } : Room) #[(.ref a1)] h0 (Q18_5 Z a1 vb x0 x1 x2 x3 x4 w h0 n0) := by
  refine own_enter pn_18 ?_
  intro p e s m below meth c s₁ hx hby hml0 hown hret hlk hnm hZ X0 e0
  have hml : c.maxLocals = 1 := hml0
  have B : BX p c jdk_67_method_42_code := ⟨hx, hby⟩
  have N0 := Fr.nil n0
  refine own_cast (ef_18 m a1) ?_
  refine wnewO OGc 3 X0 B hZ hown (ow hw 120 rfl) (ow hw 5 rfl) (ow hw 6 rfl) e0 d18_0 (by decide) rfl fun T1 h1 o1 gb1 X1 e1 E1 A1 D1 => ?_
  have ge_o1 : n0 ≤ o1 := by rw [gb1]; exact Nat.le_trans Z0 (Keep.refl h0 []).1
  have sz_o1 : h0.size ≤ o1 := by rw [gb1]; exact (Keep.refl h0 []).1
  have ne_a1_o1 : a1 ≠ o1 := Nat.ne_of_lt (Nat.lt_of_lt_of_eq R0.lt gb1.symm)
  have ne_vb_o1 : vb ≠ o1 := Nat.ne_of_lt (Nat.lt_of_lt_of_eq R4.lt gb1.symm)
  have F2 := R0.ext E1
  have F3 := R1.ext E1
  have F4 := R2.ext E1
  have F5 := R3.ext E1
  have F6 := R4.ext E1
  have F7 := R5.ext E1
  have K8 := (Keep.refl h0 []).ext E1
  have F9 : Fld Z h1 o1 "java/lang/String" "value" "[B" .null := D1 (Or.inr (ow hw 20 rfl)) (ty := (.array .byte)) (by decide)
  have F10 : Fld Z h1 o1 "java/lang/String" "coder" "B" (.int (0 : Int32)) := D1 (Or.inr (ow hw 21 rfl)) (ty := .byte) (by decide)
  refine wdup OGc 4 X1 B d18_3 rfl rfl ?_
  refine waloadN OGc 5 X1 B d18_4 rfl rfl rfl ?_
  refine wspec OGc 8 X1 B hZ hown (ow hw 121 rfl) (ow hw 122 rfl) rfl (ow hw 123 rfl) (ow hw 6 rfl) e1 (rm19_5 l Z a0 hw [] o1 a1 vb x0 x1 x2 x3 x4 w h1 n0 (Nat.le_trans Z0 K8.1) A1 F9 F10 F2 F3 F4 F5 F6 F7 ge_o1 (Ne.symm ne_a1_o1) (Ne.symm ne_vb_o1) hw0) 1 (by decide) (by decide) hml rfl (lenOf pd__Ljava_lang_StringBuilder__V rfl) [(.ref o1)] rfl rfl d18_5 rfl fun _ T11 L11 X11 hQ11 => ?_
  obtain ⟨rfl, N11q, K11q, b_11, sz_b_11, P11_0, P11_1, P11_2, P11_3⟩ := hQ11
  have N11 := Fr.app N0 N11q
  have ge_b_11 : n0 ≤ b_11 := Nat.le_trans (Nat.le_trans Z0 K8.1) sz_b_11
  have sy_b_11 : h0.size ≤ b_11 := Nat.le_trans K8.1 sz_b_11
  have ne_a1_b_11 : a1 ≠ b_11 := Nat.ne_of_lt (Nat.lt_of_lt_of_le F2.lt sz_b_11)
  have ne_o1_b_11 : o1 ≠ b_11 := Nat.ne_of_lt (Nat.lt_of_lt_of_le A1.lt sz_b_11)
  have ne_vb_b_11 : vb ≠ b_11 := Nat.ne_of_lt (Nat.lt_of_lt_of_le F6.lt sz_b_11)
  have K11 := K8.trans K11q (own_all1 (Or.inr sz_o1))
  have F12 := F2.keep K11q
  have F13 := F3.keep K11q (own_nin1 ne_a1_o1)
  have F14 := F4.keep K11q (own_nin1 ne_a1_o1)
  have F15 := F5.keep K11q (own_nin1 ne_a1_o1)
  have F16 := F6.keep K11q (own_nin1 ne_vb_o1)
  have F17 := own_staK F7 K11q (own_all1 (own_plE A1))
  refine own_stk (S' := [(.ref o1)]) rfl ?_
  refine own_retV X11 hx hret rfl (Or.inr (Or.inr (Or.inr (Or.inr ⟨rfl, rfl, rfl⟩)))) hlk (hb hby d18_8) (by decide) (by decide) ?_
  exact ⟨N11, K11, o1, b_11, sz_o1, sy_b_11, rfl, P11_0, P11_1, P11_2, P11_3⟩
abbrev Q23_6 (Z : State) (a1 : Addr) (h0 : Heap) (n0 : Nat) : Option Value → Heap → List Loc → Prop := (fun v h L => v = some (.int (6 : Int32)) ∧ Fr n0 L ∧ Keep h0 h [])
theorem rm23_6 (l : Launch) (Z : State) (a0 : Array Value) (hw : ∀ d ∈ tables_1, d.before a0 Z = true) (ws : List Jvm.Cond) (a1 : Addr) (h0 : Heap) (n0 : Nat) (R0 : Fld Z h0 a1 "java/lang/AbstractStringBuilder" "count" "I" (.int (6 : Int32))) :
    OMet l Z (⟨"java/lang/AbstractStringBuilder", "length", "()I"⟩ : MethodName) jdk_68_method_6_code 1 (some .int) ws ({ frames := 0, cells := 0, slots := 0, locals := 0 } : Room) #[(.ref a1)] h0 (Q23_6 Z a1 h0 n0) := by
  refine own_enter pn_23 ?_
  intro p e s m below meth c s₁ hx hby hml0 hown hret hlk hnm hZ X0 e0
  have hml : c.maxLocals = 1 := hml0
  have B : BX p c jdk_68_method_6_code := ⟨hx, hby⟩
  have N0 := Fr.nil n0
  refine own_cast (ef_23 m a1) ?_
  refine waloadN OGc 1 X0 B d23_0 rfl rfl rfl ?_
  refine wgetF OGc 4 X0 B hZ hown (ow hw 88 rfl) e0 R0 d23_1 rfl fun T1 X1 e1 => ?_
  refine own_retI X1 hx hret hlk (hb hby d23_4) (by decide) (by decide) ?_
  rw [e1]
  exact ⟨rfl, N0, (Keep.refl h0 [])⟩
abbrev Q22_6 (Z : State) (a1 : Addr) (h0 : Heap) (n0 : Nat) : Option Value → Heap → List Loc → Prop := (fun v h L => v = some (.int (6 : Int32)) ∧ Fr n0 L ∧ Keep h0 h [])
theorem rm22_6 (l : Launch) (Z : State) (a0 : Array Value) (hw : ∀ d ∈ tables_1, d.before a0 Z = true) (ws : List Jvm.Cond) (a1 : Addr) (h0 : Heap) (n0 : Nat) (R0 : Exa Z h0 a1 "java/lang/StringBuilder") (R1 : Fld Z h0 a1 "java/lang/AbstractStringBuilder" "count" "I" (.int (6 : Int32))) :
    OMet l Z (⟨"java/lang/StringBuilder", "length", "()I"⟩ : MethodName) jdk_67_method_93_code 1 (some .int) ws ({ frames := 1, cells := 0, slots := 0, locals := 12 } : Room) #[(.ref a1)] h0 (Q22_6 Z a1 h0 n0) := by
  refine own_enter pn_22 ?_
  intro p e s m below meth c s₁ hx hby hml0 hown hret hlk hnm hZ X0 e0
  have hml : c.maxLocals = 1 := hml0
  have B : BX p c jdk_67_method_93_code := ⟨hx, hby⟩
  have N0 := Fr.nil n0
  refine own_cast (ef_22 m a1) ?_
  refine waloadN OGc 1 X0 B d22_0 rfl rfl rfl ?_
  obtain ⟨_, _, ⟨T1, L1, k1, n1⟩, -, X1, ⟨Lc1, hQ1, l1, y1, z1⟩, st1⟩ := superBack X0 hx hZ (y := (⟨"java/lang/AbstractStringBuilder", "length", "()I"⟩ : MethodName)) hown (ow hw 138 rfl) (own_same (ow hw 134 rfl) (ow hw 93 rfl) rfl (by decide)) (ow hw 134 rfl) (ow hw 74 rfl) (by decide) (backOf (W := 0) (rm := ({ frames := 0, cells := 0, slots := 0, locals := 0 } : Room)) (rm23_6 l Z a0 hw [] a1 h0 n0 R1) hZ (ow hw 139 rfl) (ow hw 59 rfl) (by decide) (by decide)) e0 (Ins.self R0) (g := (mkF m 1 #[.val (.ref a1)] [(.ref a1)])) rfl (by rw [hml]; rfl) (ow hw 139 rfl) (argsL := []) (rest := []) (lenOf pd___I rfl) rfl (by show 2 * 0 + _ ≤ _; exact Nat.le_of_eq rfl) (hb hby d22_1) (fun _ _ => ⟨rfl, e0, (by decide : 0 + 0 ≤ _), (by decide : 0 + 0 ≤ _)⟩)
  dsimp only [Pt.U, Pt.locs, Pt.cells, Pt.slots] at X1 l1 y1 z1 st1 hQ1
  subst l1 y1 z1
  obtain ⟨rfl, N1q, K1q⟩ := hQ1
  refine own_st (fun t k => st1.trans k) ?_
  have N1 := Fr.app N0 N1q
  have K1 := (Keep.refl h0 []).trans K1q (own_all0 )
  have F2 := R0.keep K1q
  have F3 := R1.keep K1q (own_nin0 )
  show OG p e _ s below _ T1 (mkF m 4 #[.val (.ref a1)] [(.int (6 : Int32))])
  refine own_retI X1 hx hret hlk (hb hby d22_4) (by decide) (by decide) ?_
  exact ⟨rfl, N1, K1⟩
theorem ef_27_6 (m : MethodId)  : entryFrame m #[(.int (0 : Int32)), (.int (6 : Int32))] 2 = (mkF m 0 #[.val (.int (0 : Int32)), .val (.int (6 : Int32))] []) := by first | (simp [entryFrame, mkF, argsToLocals, Value.category]; done) | rfl
abbrev Q27_6 (Z : State)  (h0 : Heap) (n0 : Nat) : Option Value → Heap → List Loc → Prop := (fun v h L => v = none ∧ Fr n0 L ∧ Keep h0 h [])
theorem rm27_6 (l : Launch) (Z : State) (a0 : Array Value) (hw : ∀ d ∈ tables_1, d.before a0 Z = true) (ws : List Jvm.Cond)  (h0 : Heap) (n0 : Nat) :
    OMet l Z (⟨"java/util/Arrays", "checkLength", "(II)V"⟩ : MethodName) jdk_65_method_131_code 2 none ws ({ frames := 0, cells := 0, slots := 0, locals := 0 } : Room) #[(.int (0 : Int32)), (.int (6 : Int32))] h0 (Q27_6 Z  h0 n0) := by
  refine own_enter pn_27 ?_
  intro p e s m below meth c s₁ hx hby hml0 hown hret hlk hnm hZ X0 e0
  have hml : c.maxLocals = 2 := hml0
  have B : BX p c jdk_65_method_131_code := ⟨hx, hby⟩
  have N0 := Fr.nil n0
  refine own_cast (ef_27_6 m ) ?_
  refine wiloadN OGc 1 X0 B d27_0 rfl rfl ?_
  refine wiloadN OGc 2 X0 B d27_1 rfl rfl ?_
  refine wicmpYes OGc 37 X0 B d27_2 (by decide) rfl ?_
  refine own_ret0 X0 hx hret hlk (hb hby d27_37) (by decide) (by decide) ?_
  rw [e0]
  exact ⟨rfl, N0, (Keep.refl h0 [])⟩
theorem ef_28_6 (m : MethodId)  : entryFrame m #[(.int (16 : Int32)), (.int (6 : Int32))] 2 = (mkF m 0 #[.val (.int (16 : Int32)), .val (.int (6 : Int32))] []) := by first | (simp [entryFrame, mkF, argsToLocals, Value.category]; done) | rfl
abbrev Q28_6 (Z : State)  (h0 : Heap) (n0 : Nat) : Option Value → Heap → List Loc → Prop := (fun v h L => v = some (.int (6 : Int32)) ∧ Fr n0 L ∧ Keep h0 h [])
theorem rm28_6 (l : Launch) (Z : State) (a0 : Array Value) (hw : ∀ d ∈ tables_1, d.before a0 Z = true) (ws : List Jvm.Cond)  (h0 : Heap) (n0 : Nat) :
    OMet l Z (⟨"java/lang/Math", "min", "(II)I"⟩ : MethodName) jdk_29_method_69_code 2 (some .int) ws ({ frames := 0, cells := 0, slots := 0, locals := 0 } : Room) #[(.int (16 : Int32)), (.int (6 : Int32))] h0 (Q28_6 Z  h0 n0) := by
  refine own_enter pn_28 ?_
  intro p e s m below meth c s₁ hx hby hml0 hown hret hlk hnm hZ X0 e0
  have hml : c.maxLocals = 2 := hml0
  have B : BX p c jdk_29_method_69_code := ⟨hx, hby⟩
  have N0 := Fr.nil n0
  refine own_cast (ef_28_6 m ) ?_
  refine wiloadN OGc 1 X0 B d28_0 rfl rfl ?_
  refine wiloadN OGc 2 X0 B d28_1 rfl rfl ?_
  refine wicmpYes OGc 9 X0 B d28_2 (by decide) rfl ?_
  refine wiloadN OGc 10 X0 B d28_9 rfl rfl ?_
  refine own_retI X0 hx hret hlk (hb hby d28_10) (by decide) (by decide) ?_
  rw [e0]
  exact ⟨rfl, N0, (Keep.refl h0 [])⟩
theorem ef_26_6 (m : MethodId) (a1 : Addr) : entryFrame m #[(.ref a1), (.int (0 : Int32)), (.int (6 : Int32))] 5 = (mkF m 0 #[.val (.ref a1), .val (.int (0 : Int32)), .val (.int (6 : Int32)), .unset, .unset] []) := by first | (simp [entryFrame, mkF, argsToLocals, Value.category]; done) | rfl
abbrev Q26_6 (Z : State) (a1 : Addr) (x0 : Int32) (x1 : Int32) (x2 : Int32) (x3 : Int32) (x4 : Int32) (x5 : Int32) (h0 : Heap) (n0 : Nat) : Option Value → Heap → List Loc → Prop := (fun v h L => Fr n0 L ∧ Keep h0 h [] ∧ ∃ b : Addr, h0.size ≤ b ∧ v = some (.ref b) ∧ OA Z h b .byte (([x0, x1, x2, x3, x4, x5] : List Int32).map obv))
theorem rm26_6 (l : Launch) (Z : State) (a0 : Array Value) (hw : ∀ d ∈ tables_1, d.before a0 Z = true) (ws : List Jvm.Cond) (a1 : Addr) (x0 : Int32) (x1 : Int32) (x2 : Int32) (x3 : Int32) (x4 : Int32) (x5 : Int32) (h0 : Heap) (n0 : Nat) (Z0 : n0 ≤ h0.size) (R0 : OA Z h0 a1 .byte (obuf [x0, x1, x2, x3, x4, x5])) :
    OMet l Z (⟨"java/util/Arrays", "copyOfRangeByte", "([BII)[B"⟩ : MethodName) jdk_65_method_133_code 5 (some (.array .byte)) ws ({ frames := 1, cells := 1, slots := 6, locals := 18 } : Room) #[(.ref a1), (.int (0 : Int32)), (.int (6 : Int32))] h0 (Q26_6 Z a1 x0 x1 x2 x3 x4 x5 h0 n0) := by
  refine own_enter pn_26 ?_
  intro p e s m below meth c s₁ hx hby hml0 hown hret hlk hnm hZ X0 e0
  have hml : c.maxLocals = 5 := hml0
  have B : BX p c jdk_65_method_133_code := ⟨hx, hby⟩
  have N0 := Fr.nil n0
  refine own_cast (ef_26_6 m a1) ?_
  refine wiloadN OGc 1 X0 B d26_0 rfl rfl ?_
  refine wiloadN OGc 2 X0 B d26_1 rfl rfl ?_
  refine wstat OGc 5 X0 B hZ hown (ow hw 152 rfl) (ow hw 153 rfl) (ow hw 154 rfl) (ow hw 147 rfl) e0 (rm27_6 l Z a0 hw [] h0 n0) 0 (by decide) (by decide) hml rfl (lenOf pd__II_V rfl) [] rfl rfl d26_2 rfl fun _ T1 L1 X1 hQ1 => ?_
  obtain ⟨rfl, N1q, K1q⟩ := hQ1
  have N1 := Fr.app N0 N1q
  have K1 := (Keep.refl h0 []).trans K1q (own_all0 )
  have F2 := R0.keep K1q (own_nin0 )
  refine own_stk (S' := []) rfl ?_
  refine wiloadN OGc 6 X1 B d26_5 rfl rfl ?_
  refine wiloadN OGc 7 X1 B d26_6 rfl rfl ?_
  refine wisub OGc 8 X1 B d26_7 rfl ?_
  show OG p e _ s below _ T1 (mkF m 8 #[.val (.ref a1), .val (.int (0 : Int32)), .val (.int (6 : Int32)), .unset, .unset] [(.int (6 : Int32))])
  refine wistoreN OGc 9 X1 B d26_8 #[.val (.ref a1), .val (.int (0 : Int32)), .val (.int (6 : Int32)), .val (.int (6 : Int32)), .unset] rfl rfl ?_
  refine wiloadN OGc 10 X1 B d26_9 rfl rfl ?_
  refine wnewP OGc 12 X1 B hZ (ow hw 19 rfl) rfl d26_10 6 (by decide) (by decide) rfl fun T3 h3 b3 k3 gb3 X3 e3 E3 A3 => ?_
  have ge_b3 : n0 ≤ b3 := by rw [gb3]; exact Nat.le_trans Z0 K1.1
  have sz_b3 : h0.size ≤ b3 := by rw [gb3]; exact K1.1
  have ne_a1_b3 : a1 ≠ b3 := Nat.ne_of_lt (Nat.lt_of_lt_of_eq F2.lt gb3.symm)
  have F4 := F2.ext E3
  have K5 := K1.ext E3
  have F6 : OA Z h3 b3 .byte [(.int (0 : Int32)), (.int (0 : Int32)), (.int (0 : Int32)), (.int (0 : Int32)), (.int (0 : Int32)), (.int (0 : Int32))] := OA.new A3
  refine wastore OGc 14 X3 B d26_12 #[.val (.ref a1), .val (.int (0 : Int32)), .val (.int (6 : Int32)), .val (.int (6 : Int32)), .val (.ref b3)] rfl rfl rfl ?_
  refine waloadN OGc 15 X3 B d26_14 rfl rfl rfl ?_
  refine wiloadN OGc 16 X3 B d26_15 rfl rfl ?_
  refine waload OGc 18 X3 B d26_16 rfl rfl rfl ?_
  refine wiconst OGc 19 X3 B d26_18 0 rfl rfl ?_
  refine waloadN OGc 20 X3 B d26_19 rfl rfl rfl ?_
  refine warlenA OGc 21 X3 B hZ e3 F4 (16 : Int32) rfl d26_20 rfl ?_
  refine wiloadN OGc 22 X3 B d26_21 rfl rfl ?_
  refine wisub OGc 23 X3 B d26_22 rfl ?_
  show OG p e _ s below _ T3 (mkF m 23 #[.val (.ref a1), .val (.int (0 : Int32)), .val (.int (6 : Int32)), .val (.int (6 : Int32)), .val (.ref b3)] [(.int (16 : Int32)), (.int (0 : Int32)), (.ref b3), (.int (0 : Int32)), (.ref a1)])
  refine wiloadN OGc 24 X3 B d26_23 rfl rfl ?_
  refine wstat OGc 27 X3 B hZ hown (ow hw 155 rfl) (ow hw 156 rfl) (ow hw 158 rfl) (ow hw 157 rfl) e3 (rm28_6 l Z a0 hw [] h3 n0) 4 (by decide) (by decide) hml rfl (lenOf pd__II_I rfl) [(.int (0 : Int32)), (.ref b3), (.int (0 : Int32)), (.ref a1)] rfl rfl d26_24 rfl fun _ T8 L8 X8 hQ8 => ?_
  obtain ⟨rfl, N8q, K8q⟩ := hQ8
  have N8 := Fr.app N1 N8q
  have K8 := K5.trans K8q (own_all0 )
  have F9 := F4.keep K8q (own_nin0 )
  have F10 := F6.keep K8q (own_nin0 )
  refine own_stk (S' := [(.int (6 : Int32)), (.int (0 : Int32)), (.ref b3), (.int (0 : Int32)), (.ref a1)]) rfl ?_
  refine wcp OGc 30 X8 B hZ hown (ow hw 159 rfl) (ow hw 114 rfl) (ow hw 112 rfl) (ow hw 113 rfl) rfl F9 F10 (own_bytB [x0, x1, x2, x3, x4, x5] 10) (Byt.zero (Byt.zero (Byt.zero (Byt.zero (Byt.zero (Byt.zero Byt.nil)))))) 16 6 0 0 6 rfl rfl (z := (16 : Int32)) (z' := (6 : Int32)) (by decide) (([x0, x1, x2, x3, x4, x5] : List Int32).map obv) rfl (([x0, x1, x2, x3, x4, x5] : List Int32).map obv) rfl rfl N8 ge_b3 hml rfl d26_27 (W := 0) rfl (by decide) rfl fun T11 h11 L11 X11 e11 N11 K11q A11 => ?_
  have K11 : Keep h0 h11 [] := K8.trans K11q (own_all1 (Or.inr sz_b3))
  have F12 := F9.keep K11q (own_nin1 ne_a1_b3)
  have F13 : OA Z h11 b3 .byte (([x0, x1, x2, x3, x4, x5] : List Int32).map obv) := A11
  refine waload OGc 32 X11 B d26_30 rfl rfl rfl ?_
  refine own_retV X11 hx hret rfl (Or.inr (Or.inr (Or.inr (Or.inr ⟨rfl, rfl, rfl⟩)))) hlk (hb hby d26_32) (by decide) (by decide) ?_
  rw [e11]
  exact ⟨N11, K11, b3, sz_b3, rfl, F13⟩
theorem ef_25_6 (m : MethodId) (a1 : Addr) : entryFrame m #[(.ref a1), (.int (0 : Int32)), (.int (6 : Int32))] 3 = (mkF m 0 #[.val (.ref a1), .val (.int (0 : Int32)), .val (.int (6 : Int32))] []) := by first | (simp [entryFrame, mkF, argsToLocals, Value.category]; done) | rfl
abbrev Q25_6 (Z : State) (a1 : Addr) (x0 : Int32) (x1 : Int32) (x2 : Int32) (x3 : Int32) (x4 : Int32) (x5 : Int32) (h0 : Heap) (n0 : Nat) : Option Value → Heap → List Loc → Prop := (fun v h L => Fr n0 L ∧ Keep h0 h [] ∧ ∃ b : Addr, h0.size ≤ b ∧ v = some (.ref b) ∧ OA Z h b .byte (([x0, x1, x2, x3, x4, x5] : List Int32).map obv))
theorem rm25_6 (l : Launch) (Z : State) (a0 : Array Value) (hw : ∀ d ∈ tables_1, d.before a0 Z = true) (ws : List Jvm.Cond) (a1 : Addr) (x0 : Int32) (x1 : Int32) (x2 : Int32) (x3 : Int32) (x4 : Int32) (x5 : Int32) (h0 : Heap) (n0 : Nat) (Z0 : n0 ≤ h0.size) (R0 : OA Z h0 a1 .byte (obuf [x0, x1, x2, x3, x4, x5])) :
    OMet l Z (⟨"java/util/Arrays", "copyOfRange", "([BII)[B"⟩ : MethodName) jdk_65_method_132_code 3 (some (.array .byte)) ws ({ frames := 2, cells := 1, slots := 6, locals := 34 } : Room) #[(.ref a1), (.int (0 : Int32)), (.int (6 : Int32))] h0 (Q25_6 Z a1 x0 x1 x2 x3 x4 x5 h0 n0) := by
  refine own_enter pn_25 ?_
  intro p e s m below meth c s₁ hx hby hml0 hown hret hlk hnm hZ X0 e0
  have hml : c.maxLocals = 3 := hml0
  have B : BX p c jdk_65_method_132_code := ⟨hx, hby⟩
  have N0 := Fr.nil n0
  refine own_cast (ef_25_6 m a1) ?_
  refine wiloadN OGc 1 X0 B d25_0 rfl rfl ?_
  refine wifNo OGc 4 X0 B d25_1 (by decide) rfl ?_
  refine wiloadN OGc 5 X0 B d25_4 rfl rfl ?_
  refine waloadN OGc 6 X0 B d25_5 rfl rfl rfl ?_
  refine warlenA OGc 7 X0 B hZ e0 R0 (16 : Int32) rfl d25_6 rfl ?_
  refine wicmpNo OGc 10 X0 B d25_7 (by decide) rfl ?_
  refine waloadN OGc 11 X0 B d25_10 rfl rfl rfl ?_
  refine wiloadN OGc 12 X0 B d25_11 rfl rfl ?_
  refine wiloadN OGc 13 X0 B d25_12 rfl rfl ?_
  refine wstat OGc 16 X0 B hZ hown (ow hw 149 rfl) (ow hw 150 rfl) (ow hw 151 rfl) (ow hw 147 rfl) e0 (rm26_6 l Z a0 hw [] a1 x0 x1 x2 x3 x4 x5 h0 n0 (Nat.le_trans Z0 (Keep.refl h0 []).1) R0) 0 (by decide) (by decide) hml rfl (lenOf pd___BII__B rfl) [] rfl rfl d25_13 rfl fun _ T2 L2 X2 hQ2 => ?_
  obtain ⟨N2q, K2q, b_2, sz_b_2, rfl, P2_0⟩ := hQ2
  have N2 := Fr.app N0 N2q
  have ge_b_2 : n0 ≤ b_2 := Nat.le_trans (Nat.le_trans Z0 (Keep.refl h0 []).1) sz_b_2
  have sy_b_2 : h0.size ≤ b_2 := Nat.le_trans (Keep.refl h0 []).1 sz_b_2
  have ne_a1_b_2 : a1 ≠ b_2 := Nat.ne_of_lt (Nat.lt_of_lt_of_le R0.lt sz_b_2)
  have K2 := (Keep.refl h0 []).trans K2q (own_all0 )
  have F3 := R0.keep K2q (own_nin0 )
  refine own_stk (S' := [(.ref b_2)]) rfl ?_
  refine own_retV X2 hx hret rfl (Or.inr (Or.inr (Or.inr (Or.inr ⟨rfl, rfl, rfl⟩)))) hlk (hb hby d25_16) (by decide) (by decide) ?_
  exact ⟨N2, K2, b_2, sy_b_2, rfl, P2_0⟩
theorem ef_20_6 (m : MethodId) (a1 : Addr) (a2 : Addr) : entryFrame m #[(.ref a1), (.ref a2), .null] 5 = (mkF m 0 #[.val (.ref a1), .val (.ref a2), .val .null, .unset, .unset] []) := by first | (simp [entryFrame, mkF, argsToLocals, Value.category]; done) | rfl
abbrev Q20_6 (Z : State) (a1 : Addr) (a2 : Addr) (vb : Addr) (x0 : Int32) (x1 : Int32) (x2 : Int32) (x3 : Int32) (x4 : Int32) (x5 : Int32) (w : Int32) (h0 : Heap) (n0 : Nat) : Option Value → Heap → List Loc → Prop := (fun v h L => v = none ∧ Fr n0 L ∧ Keep h0 h [a1] ∧ ∃ b : Addr, h0.size ≤ b ∧ Exa Z h a1 "java/lang/String" ∧ Fld Z h a1 "java/lang/String" "value" "[B" (.ref b) ∧ Fld Z h a1 "java/lang/String" "coder" "B" (.int (0 : Int32)) ∧ OA Z h b .byte (([x0, x1, x2, x3, x4, x5] : List Int32).map obv))
theorem rm20_6 (l : Launch) (Z : State) (a0 : Array Value) (hw : ∀ d ∈ tables_1, d.before a0 Z = true) (ws : List Jvm.Cond) (a1 : Addr) (a2 : Addr) (vb : Addr) (x0 : Int32) (x1 : Int32) (x2 : Int32) (x3 : Int32) (x4 : Int32) (x5 : Int32) (w : Int32) (h0 : Heap) (n0 : Nat) (Z0 : n0 ≤ h0.size) (R0 : Exa Z h0 a1 "java/lang/String") (R1 : Fld Z h0 a1 "java/lang/String" "value" "[B" .null) (R2 : Fld Z h0 a1 "java/lang/String" "coder" "B" (.int (0 : Int32))) (R3 : Exa Z h0 a2 "java/lang/StringBuilder") (R4 : Fld Z h0 a2 "java/lang/AbstractStringBuilder" "value" "[B" (.ref vb)) (R5 : Fld Z h0 a2 "java/lang/AbstractStringBuilder" "coder" "B" (.int (0 : Int32))) (R6 : Fld Z h0 a2 "java/lang/AbstractStringBuilder" "count" "I" (.int (6 : Int32))) (R7 : OA Z h0 vb .byte (obuf [x0, x1, x2, x3, x4, x5])) (R8 : Sta Z h0 "java/lang/String" "COMPACT_STRINGS" "Z" (.int w)) (g_a1 : n0 ≤ a1) (ne_a1_a2 : a1 ≠ a2) (ne_a1_vb : a1 ≠ vb) (hw0 : ¬ w = (0 : Int32)) :
    OMet l Z (⟨"java/lang/String", "<init>", "(Ljava/lang/AbstractStringBuilder;Ljava/lang/Void;)V"⟩ : MethodName) jdk_42_method_150_code 5 none ws ({ frames := 3, cells := 1, slots := 6, locals := 49 } : Room) #[(.ref a1), (.ref a2), .null] h0 (Q20_6 Z a1 a2 vb x0 x1 x2 x3 x4 x5 w h0 n0) := by
  refine own_enter pn_20 ?_
  intro p e s m below meth c s₁ hx hby hml0 hown hret hlk hnm hZ X0 e0
  have hml : c.maxLocals = 5 := hml0
  have B : BX p c jdk_42_method_150_code := ⟨hx, hby⟩
  have N0 := Fr.nil n0
  refine own_cast (ef_20_6 m a1 a2) ?_
  refine waloadN OGc 1 X0 B d20_0 rfl rfl rfl ?_
  obtain ⟨T1, X1, e1, st1⟩ := initO X0 hx hZ hown (ow hw 15 rfl) (ow hw 16 rfl) (ow hw 17 rfl) e0 (g := (mkF m 1 #[.val (.ref a1), .val (.ref a2), .val .null, .unset, .unset] [(.ref a1)])) rfl (by rw [hml]; rfl) rfl (hb hby d20_1) (by decide) (W := 0) (by show 2 * 0 + _ ≤ _; exact Nat.le_of_eq rfl) (by decide)
  refine own_st st1 ?_
  show OG p e _ s below _ T1 (mkF m 4 #[.val (.ref a1), .val (.ref a2), .val .null, .unset, .unset] [])
  refine waloadN OGc 5 X1 B d20_4 rfl rfl rfl ?_
  refine wvirt OGc 8 X1 B hZ hown (ow hw 127 rfl) (ow hw 128 rfl) (ow hw 130 rfl) (ow hw 129 rfl) R3 (ow hw 131 rfl) (ow hw 59 rfl) e1 (rm21 l Z a0 hw [] a2 vb h0 n0 R4) 0 (by decide) (by decide) hml rfl (lenOf pd____B rfl) [] rfl rfl d20_5 rfl fun _ T2 L2 X2 hQ2 => ?_
  obtain ⟨rfl, N2q, K2q⟩ := hQ2
  have N2 := Fr.app N0 N2q
  have K2 := (Keep.refl h0 [a1]).trans K2q (own_all0 )
  have F3 := R0.keep K2q
  have F4 := R1.keep K2q (own_nin0 )
  have F5 := R2.keep K2q (own_nin0 )
  have F6 := R3.keep K2q
  have F7 := R4.keep K2q (own_nin0 )
  have F8 := R5.keep K2q (own_nin0 )
  have F9 := R6.keep K2q (own_nin0 )
  have F10 := R7.keep K2q (own_nin0 )
  have F11 := own_staK R8 K2q (own_all0 )
  refine own_stk (S' := [(.ref vb)]) rfl ?_
  refine wastoreN OGc 9 X2 B d20_8 #[.val (.ref a1), .val (.ref a2), .val .null, .val (.ref vb), .unset] rfl rfl rfl ?_
  refine waloadN OGc 10 X2 B d20_9 rfl rfl rfl ?_
  obtain ⟨cq12, kq12, q12a, q12b, q12c⟩ := isOf hZ rfl F6
  obtain ⟨_, _, ⟨T12, L12, k12, n12⟩, -, X12, ⟨Lc12, hQ12, l12, y12, z12⟩, st12⟩ := X2.virtualBack hx (y := (⟨"java/lang/AbstractStringBuilder", "length", "()I"⟩ : MethodName)) (z := (⟨"java/lang/StringBuilder", "length", "()I"⟩ : MethodName)) hown (mvT hZ (ow hw 132 rfl)) (mvT hZ (ow hw 133 rfl)) (own_nf (args := #[]) (mvT hZ (ow hw 93 rfl)) rfl) (mvT hZ (ow hw 135 rfl)) (mvT hZ (ow hw 136 rfl)) (by decide) (backOf (W := 0) (rm := ({ frames := 1, cells := 0, slots := 0, locals := 12 } : Room)) (rm22_6 l Z a0 hw [] a2 T2.heap n0 F6 F9) hZ (ow hw 137 rfl) (ow hw 51 rfl) (by decide) (by decide)) q12a q12c (g := (mkF m 10 #[.val (.ref a1), .val (.ref a2), .val .null, .val (.ref vb), .unset] [(.ref a2)])) rfl (by rw [hml]; rfl) (Steps.refl _) (argsL := []) (rest := []) (lenOf pd___I rfl) rfl (by show 2 * 0 + _ ≤ _; exact Nat.le_of_eq rfl) (hb hby d20_10) (fun _ _ => ⟨rfl, rfl, (by decide : 0 + 0 ≤ _), (by decide : 0 + 0 ≤ _)⟩)
  dsimp only [Pt.U, Pt.locs, Pt.cells, Pt.slots] at X12 l12 y12 z12 st12 hQ12
  subst l12 y12 z12
  obtain ⟨rfl, N12q, K12q⟩ := hQ12
  refine own_st (fun t k => st12.trans k) ?_
  have N12 := Fr.app N2 N12q
  have K12 := K2.trans K12q (own_all0 )
  have F13 := F3.keep K12q
  have F14 := F4.keep K12q (own_nin0 )
  have F15 := F5.keep K12q (own_nin0 )
  have F16 := F6.keep K12q
  have F17 := F7.keep K12q (own_nin0 )
  have F18 := F8.keep K12q (own_nin0 )
  have F19 := F9.keep K12q (own_nin0 )
  have F20 := F10.keep K12q (own_nin0 )
  have F21 := own_staK F11 K12q (own_all0 )
  show OG p e _ s below _ T12 (mkF m 13 #[.val (.ref a1), .val (.ref a2), .val .null, .val (.ref vb), .unset] [(.int (6 : Int32))])
  refine wistore OGc 15 X12 B d20_13 #[.val (.ref a1), .val (.ref a2), .val .null, .val (.ref vb), .val (.int (6 : Int32))] rfl rfl ?_
  refine waloadN OGc 16 X12 B d20_15 rfl rfl rfl ?_
  refine wvirt OGc 19 X12 B hZ hown (ow hw 140 rfl) (ow hw 141 rfl) (ow hw 143 rfl) (ow hw 142 rfl) F16 (ow hw 144 rfl) (ow hw 59 rfl) rfl (rm24 l Z a0 hw [] a2 w T12.heap n0 F18 F21 hw0) 0 (by decide) (by decide) hml rfl (lenOf pd___Z rfl) [] rfl rfl d20_16 rfl fun _ T22 L22 X22 hQ22 => ?_
  obtain ⟨rfl, N22q, K22q⟩ := hQ22
  have N22 := Fr.app N12 N22q
  have K22 := K12.trans K22q (own_all0 )
  have F23 := F13.keep K22q
  have F24 := F14.keep K22q (own_nin0 )
  have F25 := F15.keep K22q (own_nin0 )
  have F26 := F16.keep K22q
  have F27 := F17.keep K22q (own_nin0 )
  have F28 := F18.keep K22q (own_nin0 )
  have F29 := F19.keep K22q (own_nin0 )
  have F30 := F20.keep K22q (own_nin0 )
  have F31 := own_staK F21 K22q (own_all0 )
  refine own_stk (S' := [(.int (1 : Int32))]) rfl ?_
  refine wifNo OGc 22 X22 B d20_19 (by decide) rfl ?_
  refine waloadN OGc 23 X22 B d20_22 rfl rfl rfl ?_
  refine wiconst OGc 24 X22 B d20_23 0 rfl rfl ?_
  refine wputF OGc 27 X22 B hZ hown (ow hw 25 rfl) rfl F25 F23 (Or.inr ⟨(ow hw 21 rfl), rfl, hnm⟩) (ow hw 5 rfl) (ty := .byte) (by decide) rfl rfl d20_24 rfl fun T32 h32 X32 e32 W32 => ?_
  have N32 := Fr.snoc X32 N22 g_a1
  have K33 := K22.wr W32 (Or.inl (List.mem_of_getElem? (i := 0) rfl))
  have F34 := F23.wr W32
  have F35 := F24.other W32 (Or.inr (slot_ne (Or.inr (ow hw 20 rfl)) (Or.inr (ow hw 21 rfl)) (by decide) (t := (.array .byte)) (t' := .byte) (by decide) (by decide)))
  have F36 : Fld Z h32 a1 "java/lang/String" "coder" "B" (.int (0 : Int32)) := (F25.same W32)
  have F37 := F26.wr W32
  have F38 := F27.other W32 (Or.inl (Ne.symm ne_a1_a2))
  have F39 := F28.other W32 (Or.inl (Ne.symm ne_a1_a2))
  have F40 := F29.other W32 (Or.inl (Ne.symm ne_a1_a2))
  have F41 := F30.other W32 (Ne.symm ne_a1_vb)
  have F42 := F31.wr W32
  refine waloadN OGc 28 X32 B d20_27 rfl rfl rfl ?_
  refine waloadN OGc 29 X32 B d20_28 rfl rfl rfl ?_
  refine wiconst OGc 30 X32 B d20_29 0 rfl rfl ?_
  refine wiload OGc 32 X32 B d20_30 rfl rfl ?_
  refine wstat OGc 35 X32 B hZ hown (ow hw 145 rfl) (ow hw 146 rfl) (ow hw 148 rfl) (ow hw 147 rfl) e32 (rm25_6 l Z a0 hw [] vb x0 x1 x2 x3 x4 x5 h32 n0 (Nat.le_trans Z0 K33.1) F41) 1 (by decide) (by decide) hml rfl (lenOf pd___BII__B rfl) [(.ref a1)] rfl rfl d20_32 rfl fun _ T43 L43 X43 hQ43 => ?_
  obtain ⟨N43q, K43q, b_43, sz_b_43, rfl, P43_0⟩ := hQ43
  have N43 := Fr.app N32 N43q
  have ge_b_43 : n0 ≤ b_43 := Nat.le_trans (Nat.le_trans Z0 K33.1) sz_b_43
  have sy_b_43 : h0.size ≤ b_43 := Nat.le_trans K33.1 sz_b_43
  have ne_a1_b_43 : a1 ≠ b_43 := Nat.ne_of_lt (Nat.lt_of_lt_of_le F34.lt sz_b_43)
  have ne_a2_b_43 : a2 ≠ b_43 := Nat.ne_of_lt (Nat.lt_of_lt_of_le F37.lt sz_b_43)
  have ne_vb_b_43 : vb ≠ b_43 := Nat.ne_of_lt (Nat.lt_of_lt_of_le F41.lt sz_b_43)
  have K43 := K33.trans K43q (own_all0 )
  have F44 := F34.keep K43q
  have F45 := F35.keep K43q (own_nin0 )
  have F46 := F36.keep K43q (own_nin0 )
  have F47 := F37.keep K43q
  have F48 := F38.keep K43q (own_nin0 )
  have F49 := F39.keep K43q (own_nin0 )
  have F50 := F40.keep K43q (own_nin0 )
  have F51 := F41.keep K43q (own_nin0 )
  have F52 := own_staK F42 K43q (own_all0 )
  refine own_stk (S' := [(.ref b_43), (.ref a1)]) rfl ?_
  refine wputF OGc 38 X43 B hZ hown (ow hw 24 rfl) rfl F45 F44 (Or.inr ⟨(ow hw 20 rfl), rfl, hnm⟩) (ow hw 5 rfl) (ty := (.array .byte)) (by decide) rfl rfl d20_35 rfl fun T53 h53 X53 e53 W53 => ?_
  have N53 := Fr.snoc X53 N43 g_a1
  have K54 := K43.wr W53 (Or.inl (List.mem_of_getElem? (i := 0) rfl))
  have F55 := F44.wr W53
  have F56 : Fld Z h53 a1 "java/lang/String" "value" "[B" (.ref b_43) := (F45.same W53)
  have F57 := F46.other W53 (Or.inr (slot_ne (Or.inr (ow hw 21 rfl)) (Or.inr (ow hw 20 rfl)) (by decide) (t := .byte) (t' := (.array .byte)) (by decide) (by decide)))
  have F58 := F47.wr W53
  have F59 := F48.other W53 (Or.inl (Ne.symm ne_a1_a2))
  have F60 := F49.other W53 (Or.inl (Ne.symm ne_a1_a2))
  have F61 := F50.other W53 (Or.inl (Ne.symm ne_a1_a2))
  have F62 := F51.other W53 (Ne.symm ne_a1_vb)
  have F63 := F52.wr W53
  have F64 := P43_0.other W53 (Ne.symm ne_a1_b_43)
  refine wgoto OGc 97 X53 B d20_38 rfl ?_
  refine own_ret0 X53 hx hret hlk (hb hby d20_97) (by decide) (by decide) ?_
  rw [e53]
  exact ⟨rfl, N53, K54, b_43, sy_b_43, F55, F56, F57, F64⟩
abbrev Q19_6 (Z : State) (a1 : Addr) (a2 : Addr) (vb : Addr) (x0 : Int32) (x1 : Int32) (x2 : Int32) (x3 : Int32) (x4 : Int32) (x5 : Int32) (w : Int32) (h0 : Heap) (n0 : Nat) : Option Value → Heap → List Loc → Prop := (fun v h L => v = none ∧ Fr n0 L ∧ Keep h0 h [a1] ∧ ∃ b : Addr, h0.size ≤ b ∧ Exa Z h a1 "java/lang/String" ∧ Fld Z h a1 "java/lang/String" "value" "[B" (.ref b) ∧ Fld Z h a1 "java/lang/String" "coder" "B" (.int (0 : Int32)) ∧ OA Z h b .byte (([x0, x1, x2, x3, x4, x5] : List Int32).map obv))
theorem rm19_6 (l : Launch) (Z : State) (a0 : Array Value) (hw : ∀ d ∈ tables_1, d.before a0 Z = true) (ws : List Jvm.Cond) (a1 : Addr) (a2 : Addr) (vb : Addr) (x0 : Int32) (x1 : Int32) (x2 : Int32) (x3 : Int32) (x4 : Int32) (x5 : Int32) (w : Int32) (h0 : Heap) (n0 : Nat) (Z0 : n0 ≤ h0.size) (R0 : Exa Z h0 a1 "java/lang/String") (R1 : Fld Z h0 a1 "java/lang/String" "value" "[B" .null) (R2 : Fld Z h0 a1 "java/lang/String" "coder" "B" (.int (0 : Int32))) (R3 : Exa Z h0 a2 "java/lang/StringBuilder") (R4 : Fld Z h0 a2 "java/lang/AbstractStringBuilder" "value" "[B" (.ref vb)) (R5 : Fld Z h0 a2 "java/lang/AbstractStringBuilder" "coder" "B" (.int (0 : Int32))) (R6 : Fld Z h0 a2 "java/lang/AbstractStringBuilder" "count" "I" (.int (6 : Int32))) (R7 : OA Z h0 vb .byte (obuf [x0, x1, x2, x3, x4, x5])) (R8 : Sta Z h0 "java/lang/String" "COMPACT_STRINGS" "Z" (.int w)) (g_a1 : n0 ≤ a1) (ne_a1_a2 : a1 ≠ a2) (ne_a1_vb : a1 ≠ vb) (hw0 : ¬ w = (0 : Int32)) :
    OMet l Z (⟨"java/lang/String", "<init>", "(Ljava/lang/StringBuilder;)V"⟩ : MethodName) jdk_42_method_53_code 2 none ws ({ frames := 4, cells := 1, slots := 6, locals := 65 } : Room) #[(.ref a1), (.ref a2)] h0 (Q19_6 Z a1 a2 vb x0 x1 x2 x3 x4 x5 w h0 n0) := by
  refine own_enter pn_19 ?_
  intro p e s m below meth c s₁ hx hby hml0 hown hret hlk hnm hZ X0 e0
  have hml : c.maxLocals = 2 := hml0
  have B : BX p c jdk_42_method_53_code := ⟨hx, hby⟩
  have N0 := Fr.nil n0
  refine own_cast (ef_19 m a1 a2) ?_
  refine waloadN OGc 1 X0 B d19_0 rfl rfl rfl ?_
  refine waloadN OGc 2 X0 B d19_1 rfl rfl rfl ?_
  refine waconstNull OGc 3 X0 B d19_2 rfl ?_
  refine wspec OGc 6 X0 B hZ hown (ow hw 124 rfl) (ow hw 125 rfl) rfl (ow hw 126 rfl) (ow hw 6 rfl) e0 (rm20_6 l Z a0 hw [] a1 a2 vb x0 x1 x2 x3 x4 x5 w h0 n0 (Nat.le_trans Z0 (Keep.refl h0 [a1]).1) R0 R1 R2 R3 R4 R5 R6 R7 R8 g_a1 ne_a1_a2 ne_a1_vb hw0) 0 (by decide) (by decide) hml rfl (lenOf pd__Ljava_lang_AbstractStringBuilder_Ljava_lang_Void__V rfl) [] rfl rfl d19_3 rfl fun _ T1 L1 X1 hQ1 => ?_
  obtain ⟨rfl, N1q, K1q, b_1, sz_b_1, P1_0, P1_1, P1_2, P1_3⟩ := hQ1
  have N1 := Fr.app N0 N1q
  have ge_b_1 : n0 ≤ b_1 := Nat.le_trans (Nat.le_trans Z0 (Keep.refl h0 [a1]).1) sz_b_1
  have sy_b_1 : h0.size ≤ b_1 := Nat.le_trans (Keep.refl h0 [a1]).1 sz_b_1
  have ne_a1_b_1 : a1 ≠ b_1 := Nat.ne_of_lt (Nat.lt_of_lt_of_le R0.lt sz_b_1)
  have ne_a2_b_1 : a2 ≠ b_1 := Nat.ne_of_lt (Nat.lt_of_lt_of_le R3.lt sz_b_1)
  have ne_vb_b_1 : vb ≠ b_1 := Nat.ne_of_lt (Nat.lt_of_lt_of_le R7.lt sz_b_1)
  have K1 := (Keep.refl h0 [a1]).trans K1q (own_all1 (Or.inl (List.mem_of_getElem? (i := 0) rfl)))
  have F2 := R3.keep K1q
  have F3 := R4.keep K1q (own_nin1 (Ne.symm ne_a1_a2))
  have F4 := R5.keep K1q (own_nin1 (Ne.symm ne_a1_a2))
  have F5 := R6.keep K1q (own_nin1 (Ne.symm ne_a1_a2))
  have F6 := R7.keep K1q (own_nin1 (Ne.symm ne_a1_vb))
  have F7 := own_staK R8 K1q (own_all1 (own_plE R0))
  refine own_stk (S' := []) rfl ?_
  refine own_ret0 X1 hx hret hlk (hb hby d19_6) (by decide) (by decide) ?_
  exact ⟨rfl, N1, K1, b_1, sy_b_1, P1_0, P1_1, P1_2, P1_3⟩
abbrev Q18_6 (Z : State) (a1 : Addr) (vb : Addr) (x0 : Int32) (x1 : Int32) (x2 : Int32) (x3 : Int32) (x4 : Int32) (x5 : Int32) (w : Int32) (h0 : Heap) (n0 : Nat) : Option Value → Heap → List Loc → Prop := (fun v h L => Fr n0 L ∧ Keep h0 h [] ∧ ∃ s : Addr, ∃ b : Addr, h0.size ≤ s ∧ h0.size ≤ b ∧ v = some (.ref s) ∧ Exa Z h s "java/lang/String" ∧ Fld Z h s "java/lang/String" "value" "[B" (.ref b) ∧ Fld Z h s "java/lang/String" "coder" "B" (.int (0 : Int32)) ∧ OA Z h b .byte (([x0, x1, x2, x3, x4, x5] : List Int32).map obv))
theorem rm18_6 (l : Launch) (Z : State) (a0 : Array Value) (hw : ∀ d ∈ tables_1, d.before a0 Z = true) (ws : List Jvm.Cond) (a1 : Addr) (vb : Addr) (x0 : Int32) (x1 : Int32) (x2 : Int32) (x3 : Int32) (x4 : Int32) (x5 : Int32) (w : Int32) (h0 : Heap) (n0 : Nat) (Z0 : n0 ≤ h0.size) (R0 : Exa Z h0 a1 "java/lang/StringBuilder") (R1 : Fld Z h0 a1 "java/lang/AbstractStringBuilder" "value" "[B" (.ref vb)) (R2 : Fld Z h0 a1 "java/lang/AbstractStringBuilder" "coder" "B" (.int (0 : Int32))) (R3 : Fld Z h0 a1 "java/lang/AbstractStringBuilder" "count" "I" (.int (6 : Int32))) (R4 : OA Z h0 vb .byte (obuf [x0, x1, x2, x3, x4, x5])) (R5 : Sta Z h0 "java/lang/String" "COMPACT_STRINGS" "Z" (.int w)) (hw0 : ¬ w = (0 : Int32)) :
    OMet l Z (⟨"java/lang/StringBuilder", "toString", "()Ljava/lang/String;"⟩ : MethodName) jdk_67_method_42_code 1 (some (.object "java/lang/String")) ws ({ frames := 5, cells := 2, slots := 10, locals := 79 } : Room) #[(.ref a1)] h0 (Q18_6 Z a1 vb x0 x1 x2 x3 x4 x5 w h0 n0) := by
  refine own_enter pn_18 ?_
  intro p e s m below meth c s₁ hx hby hml0 hown hret hlk hnm hZ X0 e0
  have hml : c.maxLocals = 1 := hml0
  have B : BX p c jdk_67_method_42_code := ⟨hx, hby⟩
  have N0 := Fr.nil n0
  refine own_cast (ef_18 m a1) ?_
  refine wnewO OGc 3 X0 B hZ hown (ow hw 120 rfl) (ow hw 5 rfl) (ow hw 6 rfl) e0 d18_0 (by decide) rfl fun T1 h1 o1 gb1 X1 e1 E1 A1 D1 => ?_
  have ge_o1 : n0 ≤ o1 := by rw [gb1]; exact Nat.le_trans Z0 (Keep.refl h0 []).1
  have sz_o1 : h0.size ≤ o1 := by rw [gb1]; exact (Keep.refl h0 []).1
  have ne_a1_o1 : a1 ≠ o1 := Nat.ne_of_lt (Nat.lt_of_lt_of_eq R0.lt gb1.symm)
  have ne_vb_o1 : vb ≠ o1 := Nat.ne_of_lt (Nat.lt_of_lt_of_eq R4.lt gb1.symm)
  have F2 := R0.ext E1
  have F3 := R1.ext E1
  have F4 := R2.ext E1
  have F5 := R3.ext E1
  have F6 := R4.ext E1
  have F7 := R5.ext E1
  have K8 := (Keep.refl h0 []).ext E1
  have F9 : Fld Z h1 o1 "java/lang/String" "value" "[B" .null := D1 (Or.inr (ow hw 20 rfl)) (ty := (.array .byte)) (by decide)
  have F10 : Fld Z h1 o1 "java/lang/String" "coder" "B" (.int (0 : Int32)) := D1 (Or.inr (ow hw 21 rfl)) (ty := .byte) (by decide)
  refine wdup OGc 4 X1 B d18_3 rfl rfl ?_
  refine waloadN OGc 5 X1 B d18_4 rfl rfl rfl ?_
  refine wspec OGc 8 X1 B hZ hown (ow hw 121 rfl) (ow hw 122 rfl) rfl (ow hw 123 rfl) (ow hw 6 rfl) e1 (rm19_6 l Z a0 hw [] o1 a1 vb x0 x1 x2 x3 x4 x5 w h1 n0 (Nat.le_trans Z0 K8.1) A1 F9 F10 F2 F3 F4 F5 F6 F7 ge_o1 (Ne.symm ne_a1_o1) (Ne.symm ne_vb_o1) hw0) 1 (by decide) (by decide) hml rfl (lenOf pd__Ljava_lang_StringBuilder__V rfl) [(.ref o1)] rfl rfl d18_5 rfl fun _ T11 L11 X11 hQ11 => ?_
  obtain ⟨rfl, N11q, K11q, b_11, sz_b_11, P11_0, P11_1, P11_2, P11_3⟩ := hQ11
  have N11 := Fr.app N0 N11q
  have ge_b_11 : n0 ≤ b_11 := Nat.le_trans (Nat.le_trans Z0 K8.1) sz_b_11
  have sy_b_11 : h0.size ≤ b_11 := Nat.le_trans K8.1 sz_b_11
  have ne_a1_b_11 : a1 ≠ b_11 := Nat.ne_of_lt (Nat.lt_of_lt_of_le F2.lt sz_b_11)
  have ne_o1_b_11 : o1 ≠ b_11 := Nat.ne_of_lt (Nat.lt_of_lt_of_le A1.lt sz_b_11)
  have ne_vb_b_11 : vb ≠ b_11 := Nat.ne_of_lt (Nat.lt_of_lt_of_le F6.lt sz_b_11)
  have K11 := K8.trans K11q (own_all1 (Or.inr sz_o1))
  have F12 := F2.keep K11q
  have F13 := F3.keep K11q (own_nin1 ne_a1_o1)
  have F14 := F4.keep K11q (own_nin1 ne_a1_o1)
  have F15 := F5.keep K11q (own_nin1 ne_a1_o1)
  have F16 := F6.keep K11q (own_nin1 ne_vb_o1)
  have F17 := own_staK F7 K11q (own_all1 (own_plE A1))
  refine own_stk (S' := [(.ref o1)]) rfl ?_
  refine own_retV X11 hx hret rfl (Or.inr (Or.inr (Or.inr (Or.inr ⟨rfl, rfl, rfl⟩)))) hlk (hb hby d18_8) (by decide) (by decide) ?_
  exact ⟨N11, K11, o1, b_11, sz_o1, sy_b_11, rfl, P11_0, P11_1, P11_2, P11_3⟩
abbrev Q18 (Z : State) (a1 : Addr) (vb : Addr) (lb : List Int32) (w : Int32) (h0 : Heap) (n0 : Nat) : Option Value → Heap → List Loc → Prop := (fun v h L => Fr n0 L ∧ Keep h0 h [] ∧ ∃ s : Addr, ∃ b : Addr, h0.size ≤ s ∧ h0.size ≤ b ∧ v = some (.ref s) ∧ Exa Z h s "java/lang/String" ∧ Fld Z h s "java/lang/String" "value" "[B" (.ref b) ∧ Fld Z h s "java/lang/String" "coder" "B" (.int (0 : Int32)) ∧ OA Z h b .byte (lb.map obv))
theorem rm18 (l : Launch) (Z : State) (a0 : Array Value) (hw : ∀ d ∈ tables_1, d.before a0 Z = true) (ws : List Jvm.Cond) (a1 : Addr) (vb : Addr) (lb : List Int32) (w : Int32) (h0 : Heap) (n0 : Nat) (Z0 : n0 ≤ h0.size) (R0 : Exa Z h0 a1 "java/lang/StringBuilder") (R1 : Fld Z h0 a1 "java/lang/AbstractStringBuilder" "value" "[B" (.ref vb)) (R2 : Fld Z h0 a1 "java/lang/AbstractStringBuilder" "coder" "B" (.int (0 : Int32))) (R3 : Fld Z h0 a1 "java/lang/AbstractStringBuilder" "count" "I" (.int (oln lb))) (R4 : OA Z h0 vb .byte (obuf lb)) (R5 : Sta Z h0 "java/lang/String" "COMPACT_STRINGS" "Z" (.int w)) (hw0 : ¬ w = (0 : Int32)) (hl1 : lb.length ≤ 6) :
    OMet l Z (⟨"java/lang/StringBuilder", "toString", "()Ljava/lang/String;"⟩ : MethodName) jdk_67_method_42_code 1 (some (.object "java/lang/String")) ws ({ frames := 5, cells := 2, slots := 10, locals := 79 } : Room) #[(.ref a1)] h0 (Q18 Z a1 vb lb w h0 n0) := by
  rcases own_l6 lb hl1 with rfl | ⟨x0, rfl⟩ | ⟨x0, x1, rfl⟩ | ⟨x0, x1, x2, rfl⟩ | ⟨x0, x1, x2, x3, rfl⟩ | ⟨x0, x1, x2, x3, x4, rfl⟩ | ⟨x0, x1, x2, x3, x4, x5, rfl⟩
  · exact rm18_0 l Z a0 hw ws a1 vb  w h0 n0 Z0 R0 R1 R2 R3 R4 R5 hw0
  · exact rm18_1 l Z a0 hw ws a1 vb x0 w h0 n0 Z0 R0 R1 R2 R3 R4 R5 hw0
  · exact rm18_2 l Z a0 hw ws a1 vb x0 x1 w h0 n0 Z0 R0 R1 R2 R3 R4 R5 hw0
  · exact rm18_3 l Z a0 hw ws a1 vb x0 x1 x2 w h0 n0 Z0 R0 R1 R2 R3 R4 R5 hw0
  · exact rm18_4 l Z a0 hw ws a1 vb x0 x1 x2 x3 w h0 n0 Z0 R0 R1 R2 R3 R4 R5 hw0
  · exact rm18_5 l Z a0 hw ws a1 vb x0 x1 x2 x3 x4 w h0 n0 Z0 R0 R1 R2 R3 R4 R5 hw0
  · exact rm18_6 l Z a0 hw ws a1 vb x0 x1 x2 x3 x4 x5 w h0 n0 Z0 R0 R1 R2 R3 R4 R5 hw0
theorem d6_0 : decode jdk_31_method_11_code 0 = .ok (.aload_n 0, 1) := by decide +kernel
theorem d6_1 : decode jdk_31_method_11_code 1 = .ok (.ifnonnull 12, 3) := by decide +kernel
theorem d6_13 : decode jdk_31_method_11_code 13 = .ok (.aload_n 0, 1) := by decide +kernel
theorem d6_14 : decode jdk_31_method_11_code 14 = .ok (.areturn, 1) := by decide +kernel
theorem pn_6 : plainFor (⟨"java/util/Objects", "requireNonNull", "(Ljava/lang/Object;Ljava/lang/String;)Ljava/lang/Object;"⟩ : MethodName) = true := by first | exact plainFor_of_name (by first | (simp [plainName, overriddenIn]; done) | decide +kernel) | decide +kernel
theorem ef_6 (m : MethodId) (a1 : Addr) (a2 : Addr) : entryFrame m #[(.ref a1), (.ref a2)] 2 = (mkF m 0 #[.val (.ref a1), .val (.ref a2)] []) := by first | (simp [entryFrame, mkF, argsToLocals, Value.category]; done) | rfl
abbrev Q6 (Z : State) (a1 : Addr) (a2 : Addr) (h0 : Heap) (n0 : Nat) : Option Value → Heap → List Loc → Prop := (fun v h L => v = some (.ref a1) ∧ Fr n0 L ∧ Keep h0 h [])
theorem rm6 (l : Launch) (Z : State) (a0 : Array Value) (hw : ∀ d ∈ tables_1, d.before a0 Z = true) (ws : List Jvm.Cond) (a1 : Addr) (a2 : Addr) (h0 : Heap) (n0 : Nat) :
    OMet l Z (⟨"java/util/Objects", "requireNonNull", "(Ljava/lang/Object;Ljava/lang/String;)Ljava/lang/Object;"⟩ : MethodName) jdk_31_method_11_code 2 (some (.object "java/lang/Object")) ws ({ frames := 0, cells := 0, slots := 0, locals := 0 } : Room) #[(.ref a1), (.ref a2)] h0 (Q6 Z a1 a2 h0 n0) := by
  refine own_enter pn_6 ?_
  intro p e s m below meth c s₁ hx hby hml0 hown hret hlk hnm hZ X0 e0
  have hml : c.maxLocals = 2 := hml0
  have B : BX p c jdk_31_method_11_code := ⟨hx, hby⟩
  have N0 := Fr.nil n0
  refine own_cast (ef_6 m a1 a2) ?_
  refine waloadN OGc 1 X0 B d6_0 rfl rfl rfl ?_
  refine wifnonnullYes OGc 13 X0 B d6_1 rfl ?_
  refine waloadN OGc 14 X0 B d6_13 rfl rfl rfl ?_
  refine own_retV X0 hx hret rfl (Or.inr (Or.inr (Or.inr (Or.inr ⟨rfl, rfl, rfl⟩)))) hlk (hb hby d6_14) (by decide) (by decide) ?_
  rw [e0]
  exact ⟨rfl, N0, (Keep.refl h0 [])⟩
theorem d5_0 : decode prog_10_method_1_code 0 = .ok (.aload_n 0, 1) := by decide +kernel
theorem d5_1 : decode prog_10_method_1_code 1 = .ok (.invokespecial 1, 3) := by decide +kernel
theorem d5_4 : decode prog_10_method_1_code 4 = .ok (.aload_n 0, 1) := by decide +kernel
theorem d5_5 : decode prog_10_method_1_code 5 = .ok (.aload_n 1, 1) := by decide +kernel
theorem d5_6 : decode prog_10_method_1_code 6 = .ok (.ldc 7, 2) := by decide +kernel
theorem d5_8 : decode prog_10_method_1_code 8 = .ok (.invokestatic 9, 3) := by decide +kernel
theorem d5_11 : decode prog_10_method_1_code 11 = .ok (.checkcast 15, 3) := by decide +kernel
theorem d5_14 : decode prog_10_method_1_code 14 = .ok (.putfield 17, 3) := by decide +kernel
theorem d5_17 : decode prog_10_method_1_code 17 = .ok (.aload_n 0, 1) := by decide +kernel
theorem d5_18 : decode prog_10_method_1_code 18 = .ok (.aload_n 2, 1) := by decide +kernel
theorem d5_19 : decode prog_10_method_1_code 19 = .ok (.ldc 22, 2) := by decide +kernel
theorem d5_21 : decode prog_10_method_1_code 21 = .ok (.invokestatic 9, 3) := by decide +kernel
theorem d5_24 : decode prog_10_method_1_code 24 = .ok (.checkcast 15, 3) := by decide +kernel
theorem d5_27 : decode prog_10_method_1_code 27 = .ok (.putfield 24, 3) := by decide +kernel
theorem d5_30 : decode prog_10_method_1_code 30 = .ok (.return_, 1) := by decide +kernel
theorem pd__Ljava_lang_Object_Ljava_lang_String__Ljava_lang_Object_ : parseMethodDescriptor "(Ljava/lang/Object;Ljava/lang/String;)Ljava/lang/Object;" = some ⟨[(.object "java/lang/Object"), (.object "java/lang/String")], some (.object "java/lang/Object")⟩ := by decide +kernel
theorem pn_5 : plainFor (⟨"com/example/tidewire/tidewire/protocol/RestParams", "<init>", "(Ljava/lang/String;Ljava/lang/String;)V"⟩ : MethodName) = true := by first | exact plainFor_of_name (by first | (simp [plainName, overriddenIn]; done) | decide +kernel) | decide +kernel
theorem ef_5 (m : MethodId) (a1 : Addr) (a2 : Addr) (a3 : Addr) : entryFrame m #[(.ref a1), (.ref a2), (.ref a3)] 3 = (mkF m 0 #[.val (.ref a1), .val (.ref a2), .val (.ref a3)] []) := by first | (simp [entryFrame, mkF, argsToLocals, Value.category]; done) | rfl
abbrev Q5 (Z : State) (a1 : Addr) (a2 : Addr) (a3 : Addr) (h0 : Heap) (n0 : Nat) : Option Value → Heap → List Loc → Prop := (fun v h L => v = none ∧ Fr n0 L ∧ Keep h0 h [a1] ∧ Exa Z h a1 "com/example/tidewire/tidewire/protocol/RestParams" ∧ Fld Z h a1 "com/example/tidewire/tidewire/protocol/RestParams" "query" "Ljava/lang/String;" (.ref a2) ∧ Fld Z h a1 "com/example/tidewire/tidewire/protocol/RestParams" "body" "Ljava/lang/String;" (.ref a3))
theorem rm5 (l : Launch) (Z : State) (a0 : Array Value) (hw : ∀ d ∈ tables_1, d.before a0 Z = true) (ws : List Jvm.Cond) (a1 : Addr) (a2 : Addr) (a3 : Addr) (h0 : Heap) (n0 : Nat) (R0 : Exa Z h0 a1 "com/example/tidewire/tidewire/protocol/RestParams") (R1 : Fld Z h0 a1 "com/example/tidewire/tidewire/protocol/RestParams" "query" "Ljava/lang/String;" .null) (R2 : Fld Z h0 a1 "com/example/tidewire/tidewire/protocol/RestParams" "body" "Ljava/lang/String;" .null) (R3 : Exa Z h0 a2 "java/lang/String") (R4 : Exa Z h0 a3 "java/lang/String") (g_a1 : n0 ≤ a1) :
    OMetS l Z EL0 (⟨"com/example/tidewire/tidewire/protocol/RestParams", "<init>", "(Ljava/lang/String;Ljava/lang/String;)V"⟩ : MethodName) prog_10_method_1_code 3 none ws ({ frames := 1, cells := 4, slots := 44, locals := 14 } : Room) #[(.ref a1), (.ref a2), (.ref a3)] h0 (Q5 Z a1 a2 a3 h0 n0) := by
  refine own_enterS pn_5 ?_
  intro p e s m below meth c s₁ hx hby hml0 hown hret hlk hnm hZ X0 e0 hs0 CH0
  have hEL := own_EW hw
  have hS0 : s.Since s.vm 0 := (State.WarmedH.refl s).since 0
  have hk0 : 0 ≤ h0.size := Nat.zero_le _
  have CR0 : CHr Z EL0 s.vm h0 s.vm h0 := CHr.refl CH0
  have hml : c.maxLocals = 3 := hml0
  have B : BX p c prog_10_method_1_code := ⟨hx, hby⟩
  have N0 := Fr.nil n0
  refine own_castS (ef_5 m a1 a2 a3) ?_
  refine waloadN OSc 1 X0 B d5_0 rfl rfl rfl ?_
  obtain ⟨T1, X1, e1, st1⟩ := initO X0 hx hZ hown (ow hw 32 rfl) (ow hw 16 rfl) (ow hw 17 rfl) e0 (g := (mkF m 1 #[.val (.ref a1), .val (.ref a2), .val (.ref a3)] [(.ref a1)])) rfl (by rw [hml]; rfl) rfl (hb hby d5_1) (by decide) (W := 0) (by show 2 * 0 + _ ≤ _; exact Nat.le_of_eq rfl) (by decide)
  refine own_stS st1 ?_
  show OGS _ _ p e _ s below _ T1 (mkF m 4 #[.val (.ref a1), .val (.ref a2), .val (.ref a3)] [])
  refine waloadN OSc 5 X1 B d5_4 rfl rfl rfl ?_
  refine waloadN OSc 6 X1 B d5_5 rfl rfl rfl ?_
  obtain ⟨o2, T2, h2, k2, X2, e2, E2, hS2, hk2, hZ2, hown2, Cq2, -, st2⟩ := ldcOH (EL := EL0) (n := 20) X1 hx hZ hown (ow hw 33 rfl) (own_wS hw) e1 hS0 hk0 hEL CH0 (g := (mkF m 6 #[.val (.ref a1), .val (.ref a2), .val (.ref a3)] [(.ref a2), (.ref a1)])) rfl (hb hby d5_6) (by decide) (by decide) (by decide) (by decide)
  refine own_stS st2 ?_
  have CR2 := CHr.trans CR0 Cq2
  have F3 := R0.ext E2
  have F4 := R1.ext E2
  have F5 := R2.ext E2
  have F6 := R3.ext E2
  have F7 := R4.ext E2
  have K8 := (Keep.refl h0 [a1]).ext E2
  show OGS _ _ p e _ s below _ T2 (mkF m 8 #[.val (.ref a1), .val (.ref a2), .val (.ref a3)] [(.ref o2), (.ref a2), (.ref a1)])
  refine wstat OSc 11 X2 B hZ2 hown2 (ow hw 34 rfl) (ow hw 35 rfl) (ow hw 37 rfl) (ow hw 36 rfl) e2 (rm6 l Z a0 hw [] a2 o2 h2 n0) 1 (by decide) (by decide) hml rfl (lenOf pd__Ljava_lang_Object_Ljava_lang_String__Ljava_lang_Object_ rfl) [(.ref a1)] rfl rfl d5_8 rfl fun _ T9 L9 X9 hQ9 => ?_
  obtain ⟨rfl, N9q, K9q⟩ := hQ9
  have N9 := Fr.app N0 N9q
  have K9 := K8.trans K9q (own_all0 )
  have F10 := F3.keep K9q
  have F11 := F4.keep K9q (own_nin0 )
  have F12 := F5.keep K9q (own_nin0 )
  have F13 := F6.keep K9q
  have F14 := F7.keep K9q
  refine own_stk (S' := [(.ref a2), (.ref a1)]) rfl ?_
  have CR15 := CHr.trans CR2 (CHr.keep K9q (own_all0 ) Cq2.1)
  have CH15 := CHv.keep K9q (own_all0 ) Cq2.1
  have hk15 := Nat.le_trans hk2 K9q.1
  obtain ⟨T16, X16, e16, st16⟩ := castY X9 hx hZ2 hown2 (ow hw 38 rfl) rfl (Ins.self F13) (g := (mkF m 11 #[.val (.ref a1), .val (.ref a2), .val (.ref a3)] [(.ref a2), (.ref a1)])) rfl rfl (hb hby d5_11)
  refine own_stS st16 ?_
  show OGS _ _ p e _ s below _ T16 (mkF m 14 #[.val (.ref a1), .val (.ref a2), .val (.ref a3)] [(.ref a2), (.ref a1)])
  refine wputF OSc 17 X16 B hZ2 hown2 (ow hw 39 rfl) e16 F11 F10 (Or.inr ⟨(ow hw 40 rfl), rfl, hnm⟩) (ow hw 27 rfl) (ty := (.object "java/lang/String")) (by decide) rfl rfl d5_14 rfl fun T17 h17 X17 e17 W17 => ?_
  have N17 := Fr.snoc X17 N9 g_a1
  have K18 := K9.wr W17 (Or.inl (List.mem_of_getElem? (i := 0) rfl))
  have F19 := F10.wr W17
  have F20 : Fld Z h17 a1 "com/example/tidewire/tidewire/protocol/RestParams" "query" "Ljava/lang/String;" (.ref a2) := (F11.same W17)
  have F21 := F12.other W17 (Or.inr (slot_ne (Or.inr (ow hw 43 rfl)) (Or.inr (ow hw 40 rfl)) (by decide) (t := (.object "java/lang/String")) (t' := (.object "java/lang/String")) (by decide) (by decide)))
  have F22 := F13.wr W17
  have F23 := F14.wr W17
  have CR24 := CHr.trans CR15 (CHr.wr W17 (Safe.exa hZ2.alike F10 (by decide) (by decide)) CH15)
  have CH24 := CHv.wr W17 (Safe.exa hZ2.alike F10 (by decide) (by decide)) CH15
  have hk24 := Nat.le_trans hk15 (Keep.of_wr W17).1
  refine waloadN OSc 18 X17 B d5_17 rfl rfl rfl ?_
  refine waloadN OSc 19 X17 B d5_18 rfl rfl rfl ?_
  obtain ⟨o25, T25, h25, k25, X25, e25, E25, hS25, hk25, hZ25, hown25, Cq25, -, st25⟩ := ldcOH (EL := EL0) (n := 16) X17 hx hZ2 hown2 (ow hw 41 rfl) (own_wS hw) e17 hS2 hk24 hEL CH24 (g := (mkF m 19 #[.val (.ref a1), .val (.ref a2), .val (.ref a3)] [(.ref a3), (.ref a1)])) rfl (hb hby d5_19) (by decide) (by decide) (by decide) (by decide)
  refine own_stS st25 ?_
  have CR25 := CHr.trans CR24 Cq25
  have F26 := F19.ext E25
  have F27 := F20.ext E25
  have F28 := F21.ext E25
  have F29 := F22.ext E25
  have F30 := F23.ext E25
  have K31 := K18.ext E25
  show OGS _ _ p e _ s below _ T25 (mkF m 21 #[.val (.ref a1), .val (.ref a2), .val (.ref a3)] [(.ref o25), (.ref a3), (.ref a1)])
  refine wstat OSc 24 X25 B hZ25 hown25 (ow hw 34 rfl) (ow hw 35 rfl) (ow hw 37 rfl) (ow hw 36 rfl) e25 (rm6 l Z a0 hw [] a3 o25 h25 n0) 1 (by decide) (by decide) hml rfl (lenOf pd__Ljava_lang_Object_Ljava_lang_String__Ljava_lang_Object_ rfl) [(.ref a1)] rfl rfl d5_21 rfl fun _ T32 L32 X32 hQ32 => ?_
  obtain ⟨rfl, N32q, K32q⟩ := hQ32
  have N32 := Fr.app N17 N32q
  have K32 := K31.trans K32q (own_all0 )
  have F33 := F26.keep K32q
  have F34 := F27.keep K32q (own_nin0 )
  have F35 := F28.keep K32q (own_nin0 )
  have F36 := F29.keep K32q
  have F37 := F30.keep K32q
  refine own_stk (S' := [(.ref a3), (.ref a1)]) rfl ?_
  have CR38 := CHr.trans CR25 (CHr.keep K32q (own_all0 ) Cq25.1)
  have CH38 := CHv.keep K32q (own_all0 ) Cq25.1
  have hk38 := Nat.le_trans hk25 K32q.1
  obtain ⟨T39, X39, e39, st39⟩ := castY X32 hx hZ25 hown25 (ow hw 38 rfl) rfl (Ins.self F37) (g := (mkF m 24 #[.val (.ref a1), .val (.ref a2), .val (.ref a3)] [(.ref a3), (.ref a1)])) rfl rfl (hb hby d5_24)
  refine own_stS st39 ?_
  show OGS _ _ p e _ s below _ T39 (mkF m 27 #[.val (.ref a1), .val (.ref a2), .val (.ref a3)] [(.ref a3), (.ref a1)])
  refine wputF OSc 30 X39 B hZ25 hown25 (ow hw 42 rfl) e39 F35 F33 (Or.inr ⟨(ow hw 43 rfl), rfl, hnm⟩) (ow hw 27 rfl) (ty := (.object "java/lang/String")) (by decide) rfl rfl d5_27 rfl fun T40 h40 X40 e40 W40 => ?_
  have N40 := Fr.snoc X40 N32 g_a1
  have K41 := K32.wr W40 (Or.inl (List.mem_of_getElem? (i := 0) rfl))
  have F42 := F33.wr W40
  have F43 := F34.other W40 (Or.inr (slot_ne (Or.inr (ow hw 40 rfl)) (Or.inr (ow hw 43 rfl)) (by decide) (t := (.object "java/lang/String")) (t' := (.object "java/lang/String")) (by decide) (by decide)))
  have F44 : Fld Z h40 a1 "com/example/tidewire/tidewire/protocol/RestParams" "body" "Ljava/lang/String;" (.ref a3) := (F35.same W40)
  have F45 := F36.wr W40
  have F46 := F37.wr W40
  have CR47 := CHr.trans CR38 (CHr.wr W40 (Safe.exa hZ25.alike F33 (by decide) (by decide)) CH38)
  have CH47 := CHv.wr W40 (Safe.exa hZ25.alike F33 (by decide) (by decide)) CH38
  have hk47 := Nat.le_trans hk38 (Keep.of_wr W40).1
  refine own_endS X40 hlk hZ25 hEL e40 hs0 hS25 hk47 CH47 CR47 (v := none) (fun _ => rfl) (by decide) (by decide) ?_ (fun fs hr => X40.returnOut hx hret (hb hby d5_30) hr)
  exact ⟨rfl, N40, K41, F42, F43, F44⟩
theorem d7_0 : decode prog_10_method_4_code 0 = .ok (.new 26, 3) := by decide +kernel
theorem d7_3 : decode prog_10_method_4_code 3 = .ok (.dup, 1) := by decide +kernel
theorem d7_4 : decode prog_10_method_4_code 4 = .ok (.invokespecial 28, 3) := by decide +kernel
theorem d7_7 : decode prog_10_method_4_code 7 = .ok (.aload_n 0, 1) := by decide +kernel
theorem d7_8 : decode prog_10_method_4_code 8 = .ok (.getfield 17, 3) := by decide +kernel
theorem d7_11 : decode prog_10_method_4_code 11 = .ok (.invokevirtual 29, 3) := by decide +kernel
theorem d7_14 : decode prog_10_method_4_code 14 = .ok (.aload_n 0, 1) := by decide +kernel
theorem d7_15 : decode prog_10_method_4_code 15 = .ok (.getfield 24, 3) := by decide +kernel
theorem d7_18 : decode prog_10_method_4_code 18 = .ok (.invokevirtual 29, 3) := by decide +kernel
theorem d7_21 : decode prog_10_method_4_code 21 = .ok (.invokevirtual 33, 3) := by decide +kernel
theorem d7_24 : decode prog_10_method_4_code 24 = .ok (.areturn, 1) := by decide +kernel
theorem pd___Ljava_lang_String_ : parseMethodDescriptor "()Ljava/lang/String;" = some ⟨[], some (.object "java/lang/String")⟩ := by decide +kernel
theorem pd___V : parseMethodDescriptor "()V" = some ⟨[], none⟩ := by decide +kernel
theorem pd__Ljava_lang_String__Ljava_lang_StringBuilder_ : parseMethodDescriptor "(Ljava/lang/String;)Ljava/lang/StringBuilder;" = some ⟨[(.object "java/lang/String")], some (.object "java/lang/StringBuilder")⟩ := by decide +kernel
theorem pn_7 : plainFor (⟨"com/example/tidewire/tidewire/protocol/RestParams", "signedText", "()Ljava/lang/String;"⟩ : MethodName) = true := by first | exact plainFor_of_name (by first | (simp [plainName, overriddenIn]; done) | decide +kernel) | decide +kernel
theorem ef_7 (m : MethodId) (a1 : Addr) : entryFrame m #[(.ref a1)] 1 = (mkF m 0 #[.val (.ref a1)] []) := by first | (simp [entryFrame, mkF, argsToLocals, Value.category]; done) | rfl
abbrev Q7 (Z : State) (a1 : Addr) (s1 : Addr) (s2 : Addr) (b1 : Addr) (b2 : Addr) (lb : List Int32) (lc : List Int32) (w : Int32) (h0 : Heap) (n0 : Nat) : Option Value → Heap → List Loc → Prop := (fun v h L => Fr n0 L ∧ Keep h0 h [] ∧ ∃ s : Addr, ∃ b : Addr, h0.size ≤ s ∧ h0.size ≤ b ∧ v = some (.ref s) ∧ Exa Z h s "java/lang/String" ∧ Fld Z h s "java/lang/String" "value" "[B" (.ref b) ∧ Fld Z h s "java/lang/String" "coder" "B" (.int (0 : Int32)) ∧ OA Z h b .byte ((lb ++ lc).map obv))
theorem rm7 (l : Launch) (Z : State) (a0 : Array Value) (hw : ∀ d ∈ tables_1, d.before a0 Z = true) (ws : List Jvm.Cond) (a1 : Addr) (s1 : Addr) (s2 : Addr) (b1 : Addr) (b2 : Addr) (lb : List Int32) (lc : List Int32) (w : Int32) (h0 : Heap) (n0 : Nat) (Z0 : n0 ≤ h0.size) (R0 : Fld Z h0 a1 "com/example/tidewire/tidewire/protocol/RestParams" "query" "Ljava/lang/String;" (.ref s1)) (R1 : Fld Z h0 a1 "com/example/tidewire/tidewire/protocol/RestParams" "body" "Ljava/lang/String;" (.ref s2)) (R2 : Exa Z h0 s1 "java/lang/String") (R3 : Fld Z h0 s1 "java/lang/String" "value" "[B" (.ref b1)) (R4 : Fld Z h0 s1 "java/lang/String" "coder" "B" (.int (0 : Int32))) (R5 : OA Z h0 b1 .byte (lb.map obv)) (R6 : Exa Z h0 s2 "java/lang/String") (R7 : Fld Z h0 s2 "java/lang/String" "value" "[B" (.ref b2)) (R8 : Fld Z h0 s2 "java/lang/String" "coder" "B" (.int (0 : Int32))) (R9 : OA Z h0 b2 .byte (lc.map obv)) (R10 : Sta Z h0 "java/lang/String" "COMPACT_STRINGS" "Z" (.int w)) (hw0 : ¬ w = (0 : Int32)) (hl1 : lb.length ≤ 3) (hl2 : lc.length ≤ 3) :
    OMet l Z (⟨"com/example/tidewire/tidewire/protocol/RestParams", "signedText", "()Ljava/lang/String;"⟩ : MethodName) prog_10_method_4_code 1 (some (.object "java/lang/String")) ws ({ frames := 6, cells := 4, slots := 30, locals := 91 } : Room) #[(.ref a1)] h0 (Q7 Z a1 s1 s2 b1 b2 lb lc w h0 n0) := by
  refine own_enter pn_7 ?_
  intro p e s m below meth c s₁ hx hby hml0 hown hret hlk hnm hZ X0 e0
  have hml : c.maxLocals = 1 := hml0
  have B : BX p c prog_10_method_4_code := ⟨hx, hby⟩
  have N0 := Fr.nil n0
  refine own_cast (ef_7 m a1) ?_
  refine wnewO OGc 3 X0 B hZ hown (ow hw 49 rfl) (ow hw 50 rfl) (ow hw 51 rfl) e0 d7_0 (by decide) rfl fun T1 h1 o1 gb1 X1 e1 E1 A1 D1 => ?_
  have ge_o1 : n0 ≤ o1 := by rw [gb1]; exact Nat.le_trans Z0 (Keep.refl h0 []).1
  have sz_o1 : h0.size ≤ o1 := by rw [gb1]; exact (Keep.refl h0 []).1
  have ne_a1_o1 : a1 ≠ o1 := Nat.ne_of_lt (Nat.lt_of_lt_of_eq R0.lt gb1.symm)
  have ne_b1_o1 : b1 ≠ o1 := Nat.ne_of_lt (Nat.lt_of_lt_of_eq R5.lt gb1.symm)
  have ne_b2_o1 : b2 ≠ o1 := Nat.ne_of_lt (Nat.lt_of_lt_of_eq R9.lt gb1.symm)
  have ne_s1_o1 : s1 ≠ o1 := Nat.ne_of_lt (Nat.lt_of_lt_of_eq R2.lt gb1.symm)
  have ne_s2_o1 : s2 ≠ o1 := Nat.ne_of_lt (Nat.lt_of_lt_of_eq R6.lt gb1.symm)
  have F2 := R0.ext E1
  have F3 := R1.ext E1
  have F4 := R2.ext E1
  have F5 := R3.ext E1
  have F6 := R4.ext E1
  have F7 := R5.ext E1
  have F8 := R6.ext E1
  have F9 := R7.ext E1
  have F10 := R8.ext E1
  have F11 := R9.ext E1
  have F12 := R10.ext E1
  have K13 := (Keep.refl h0 []).ext E1
  have F14 : Fld Z h1 o1 "java/lang/AbstractStringBuilder" "value" "[B" .null := D1 (Or.inl (ow hw 64 rfl)) (ty := (.array .byte)) (by decide)
  have F15 : Fld Z h1 o1 "java/lang/AbstractStringBuilder" "coder" "B" (.int (0 : Int32)) := D1 (Or.inl (ow hw 66 rfl)) (ty := .byte) (by decide)
  have F16 : Fld Z h1 o1 "java/lang/AbstractStringBuilder" "count" "I" (.int (0 : Int32)) := D1 (Or.inl (ow hw 89 rfl)) (ty := .int) (by decide)
  refine wdup OGc 4 X1 B d7_3 rfl rfl ?_
  refine wspec OGc 7 X1 B hZ hown (ow hw 52 rfl) (ow hw 53 rfl) rfl (ow hw 54 rfl) (ow hw 51 rfl) e1 (rm8 l Z a0 hw [] o1 w h1 n0 (Nat.le_trans Z0 K13.1) A1 F14 F15 F16 F12 ge_o1 hw0) 1 (by decide) (by decide) hml rfl (lenOf pd___V rfl) [(.ref o1)] rfl rfl d7_4 rfl fun _ T17 L17 X17 hQ17 => ?_
  obtain ⟨rfl, N17q, K17q, vb_17, sz_vb_17, P17_0, P17_1, P17_2, P17_3, P17_4⟩ := hQ17
  have N17 := Fr.app N0 N17q
  have ge_vb_17 : n0 ≤ vb_17 := Nat.le_trans (Nat.le_trans Z0 K13.1) sz_vb_17
  have sy_vb_17 : h0.size ≤ vb_17 := Nat.le_trans K13.1 sz_vb_17
  have ne_a1_vb_17 : a1 ≠ vb_17 := Nat.ne_of_lt (Nat.lt_of_lt_of_le F2.lt sz_vb_17)
  have ne_b1_vb_17 : b1 ≠ vb_17 := Nat.ne_of_lt (Nat.lt_of_lt_of_le F7.lt sz_vb_17)
  have ne_b2_vb_17 : b2 ≠ vb_17 := Nat.ne_of_lt (Nat.lt_of_lt_of_le F11.lt sz_vb_17)
  have ne_o1_vb_17 : o1 ≠ vb_17 := Nat.ne_of_lt (Nat.lt_of_lt_of_le A1.lt sz_vb_17)
  have ne_s1_vb_17 : s1 ≠ vb_17 := Nat.ne_of_lt (Nat.lt_of_lt_of_le F4.lt sz_vb_17)
  have ne_s2_vb_17 : s2 ≠ vb_17 := Nat.ne_of_lt (Nat.lt_of_lt_of_le F8.lt sz_vb_17)
  have K17 := K13.trans K17q (own_all1 (Or.inr sz_o1))
  have F18 := F2.keep K17q (own_nin1 ne_a1_o1)
  have F19 := F3.keep K17q (own_nin1 ne_a1_o1)
  have F20 := F4.keep K17q
  have F21 := F5.keep K17q (own_nin1 ne_s1_o1)
  have F22 := F6.keep K17q (own_nin1 ne_s1_o1)
  have F23 := F7.keep K17q (own_nin1 ne_b1_o1)
  have F24 := F8.keep K17q
  have F25 := F9.keep K17q (own_nin1 ne_s2_o1)
  have F26 := F10.keep K17q (own_nin1 ne_s2_o1)
  have F27 := F11.keep K17q (own_nin1 ne_b2_o1)
  have F28 := own_staK F12 K17q (own_all1 (own_plE A1))
  refine own_stk (S' := [(.ref o1)]) rfl ?_
  refine waloadN OGc 8 X17 B d7_7 rfl rfl rfl ?_
  refine wgetF OGc 11 X17 B hZ hown (ow hw 39 rfl) rfl F18 d7_8 rfl fun T29 X29 e29 => ?_
  refine wvirt OGc 14 X29 B hZ hown (ow hw 67 rfl) (ow hw 68 rfl) (ow hw 70 rfl) (ow hw 69 rfl) P17_0 (ow hw 71 rfl) (ow hw 51 rfl) e29 (rm10 l Z a0 hw [] o1 s1 vb_17 b1 [] lb w T17.heap n0 P17_0 P17_1 P17_2 P17_3 P17_4 F20 F21 F22 F23 F28 ge_o1 ge_vb_17 ne_s1_vb_17 ne_b1_vb_17 ne_o1_vb_17 (Ne.symm ne_s1_o1) (Ne.symm ne_b1_o1) hw0 (by decide) hl1) 0 (by decide) (by decide) hml rfl (lenOf pd__Ljava_lang_String__Ljava_lang_StringBuilder_ rfl) [] rfl rfl d7_11 rfl fun _ T30 L30 X30 hQ30 => ?_
  obtain ⟨rfl, N30q, K30q, P30_0, P30_1, P30_2, P30_3, P30_4⟩ := hQ30
  have N30 := Fr.app N17 N30q
  have K30 := K17.trans K30q (own_all2 (Or.inr sz_o1) (Or.inr sy_vb_17))
  have F31 := F18.keep K30q (own_nin2 ne_a1_o1 ne_a1_vb_17)
  have F32 := F19.keep K30q (own_nin2 ne_a1_o1 ne_a1_vb_17)
  have F33 := F20.keep K30q
  have F34 := F21.keep K30q (own_nin2 ne_s1_o1 ne_s1_vb_17)
  have F35 := F22.keep K30q (own_nin2 ne_s1_o1 ne_s1_vb_17)
  have F36 := F23.keep K30q (own_nin2 ne_b1_o1 ne_b1_vb_17)
  have F37 := F24.keep K30q
  have F38 := F25.keep K30q (own_nin2 ne_s2_o1 ne_s2_vb_17)
  have F39 := F26.keep K30q (own_nin2 ne_s2_o1 ne_s2_vb_17)
  have F40 := F27.keep K30q (own_nin2 ne_b2_o1 ne_b2_vb_17)
  have F41 := own_staK F28 K30q (own_all2 (own_plE P17_0) (own_plA P17_4))
  refine own_stk (S' := [(.ref o1)]) rfl ?_
  refine waloadN OGc 15 X30 B d7_14 rfl rfl rfl ?_
  refine wgetF OGc 18 X30 B hZ hown (ow hw 42 rfl) rfl F32 d7_15 rfl fun T42 X42 e42 => ?_
  refine wvirt OGc 21 X42 B hZ hown (ow hw 67 rfl) (ow hw 68 rfl) (ow hw 70 rfl) (ow hw 69 rfl) P30_0 (ow hw 71 rfl) (ow hw 51 rfl) e42 (rm10 l Z a0 hw [] o1 s2 vb_17 b2 ([] ++ lb) lc w T30.heap n0 P30_0 P30_1 P30_2 P30_3 P30_4 F37 F38 F39 F40 F41 ge_o1 ge_vb_17 ne_s2_vb_17 ne_b2_vb_17 ne_o1_vb_17 (Ne.symm ne_s2_o1) (Ne.symm ne_b2_o1) hw0 hl1 hl2) 0 (by decide) (by decide) hml rfl (lenOf pd__Ljava_lang_String__Ljava_lang_StringBuilder_ rfl) [] rfl rfl d7_18 rfl fun _ T43 L43 X43 hQ43 => ?_
  obtain ⟨rfl, N43q, K43q, P43_0, P43_1, P43_2, P43_3, P43_4⟩ := hQ43
  have N43 := Fr.app N30 N43q
  have K43 := K30.trans K43q (own_all2 (Or.inr sz_o1) (Or.inr sy_vb_17))
  have F44 := F31.keep K43q (own_nin2 ne_a1_o1 ne_a1_vb_17)
  have F45 := F32.keep K43q (own_nin2 ne_a1_o1 ne_a1_vb_17)
  have F46 := F33.keep K43q
  have F47 := F34.keep K43q (own_nin2 ne_s1_o1 ne_s1_vb_17)
  have F48 := F35.keep K43q (own_nin2 ne_s1_o1 ne_s1_vb_17)
  have F49 := F36.keep K43q (own_nin2 ne_b1_o1 ne_b1_vb_17)
  have F50 := F37.keep K43q
  have F51 := F38.keep K43q (own_nin2 ne_s2_o1 ne_s2_vb_17)
  have F52 := F39.keep K43q (own_nin2 ne_s2_o1 ne_s2_vb_17)
  have F53 := F40.keep K43q (own_nin2 ne_b2_o1 ne_b2_vb_17)
  have F54 := own_staK F41 K43q (own_all2 (own_plE P30_0) (own_plA P30_4))
  refine own_stk (S' := [(.ref o1)]) rfl ?_
  refine wvirt OGc 24 X43 B hZ hown (ow hw 115 rfl) (ow hw 116 rfl) (ow hw 118 rfl) (ow hw 117 rfl) P43_0 (ow hw 119 rfl) (ow hw 51 rfl) rfl (rm18 l Z a0 hw [] o1 vb_17 (([] ++ lb) ++ lc) w T43.heap n0 (Nat.le_trans Z0 K43.1) P43_0 P43_1 P43_2 P43_3 P43_4 F54 hw0 (own_b6 hl1 hl2)) 0 (by decide) (by decide) hml rfl (lenOf pd___Ljava_lang_String_ rfl) [] rfl rfl d7_21 rfl fun _ T55 L55 X55 hQ55 => ?_
  obtain ⟨N55q, K55q, s_55, b_55, sz_s_55, sz_b_55, rfl, P55_0, P55_1, P55_2, P55_3⟩ := hQ55
  have N55 := Fr.app N43 N55q
  have ge_s_55 : n0 ≤ s_55 := Nat.le_trans (Nat.le_trans Z0 K43.1) sz_s_55
  have sy_s_55 : h0.size ≤ s_55 := Nat.le_trans K43.1 sz_s_55
  have ne_a1_s_55 : a1 ≠ s_55 := Nat.ne_of_lt (Nat.lt_of_lt_of_le F44.lt sz_s_55)
  have ne_b1_s_55 : b1 ≠ s_55 := Nat.ne_of_lt (Nat.lt_of_lt_of_le F49.lt sz_s_55)
  have ne_b2_s_55 : b2 ≠ s_55 := Nat.ne_of_lt (Nat.lt_of_lt_of_le F53.lt sz_s_55)
  have ne_o1_s_55 : o1 ≠ s_55 := Nat.ne_of_lt (Nat.lt_of_lt_of_le P43_0.lt sz_s_55)
  have ne_s1_s_55 : s1 ≠ s_55 := Nat.ne_of_lt (Nat.lt_of_lt_of_le F46.lt sz_s_55)
  have ne_s2_s_55 : s2 ≠ s_55 := Nat.ne_of_lt (Nat.lt_of_lt_of_le F50.lt sz_s_55)
  have ne_vb_17_s_55 : vb_17 ≠ s_55 := Nat.ne_of_lt (Nat.lt_of_lt_of_le P43_4.lt sz_s_55)
  have ge_b_55 : n0 ≤ b_55 := Nat.le_trans (Nat.le_trans Z0 K43.1) sz_b_55
  have sy_b_55 : h0.size ≤ b_55 := Nat.le_trans K43.1 sz_b_55
  have ne_a1_b_55 : a1 ≠ b_55 := Nat.ne_of_lt (Nat.lt_of_lt_of_le F44.lt sz_b_55)
  have ne_b1_b_55 : b1 ≠ b_55 := Nat.ne_of_lt (Nat.lt_of_lt_of_le F49.lt sz_b_55)
  have ne_b2_b_55 : b2 ≠ b_55 := Nat.ne_of_lt (Nat.lt_of_lt_of_le F53.lt sz_b_55)
  have ne_o1_b_55 : o1 ≠ b_55 := Nat.ne_of_lt (Nat.lt_of_lt_of_le P43_0.lt sz_b_55)
  have ne_s1_b_55 : s1 ≠ b_55 := Nat.ne_of_lt (Nat.lt_of_lt_of_le F46.lt sz_b_55)
  have ne_s2_b_55 : s2 ≠ b_55 := Nat.ne_of_lt (Nat.lt_of_lt_of_le F50.lt sz_b_55)
  have ne_vb_17_b_55 : vb_17 ≠ b_55 := Nat.ne_of_lt (Nat.lt_of_lt_of_le P43_4.lt sz_b_55)
  have K55 := K43.trans K55q (own_all0 )
  have F56 := F44.keep K55q (own_nin0 )
  have F57 := F45.keep K55q (own_nin0 )
  have F58 := F46.keep K55q
  have F59 := F47.keep K55q (own_nin0 )
  have F60 := F48.keep K55q (own_nin0 )
  have F61 := F49.keep K55q (own_nin0 )
  have F62 := F50.keep K55q
  have F63 := F51.keep K55q (own_nin0 )
  have F64 := F52.keep K55q (own_nin0 )
  have F65 := F53.keep K55q (own_nin0 )
  have F66 := own_staK F54 K55q (own_all0 )
  have F67 := P43_0.keep K55q
  have F68 := P43_1.keep K55q (own_nin0 )
  have F69 := P43_2.keep K55q (own_nin0 )
  have F70 := P43_3.keep K55q (own_nin0 )
  have F71 := P43_4.keep K55q (own_nin0 )
  refine own_stk (S' := [(.ref s_55)]) rfl ?_
  refine own_retV X55 hx hret rfl (Or.inr (Or.inr (Or.inr (Or.inr ⟨rfl, rfl, rfl⟩)))) hlk (hb hby d7_24) (by decide) (by decide) ?_
  exact ⟨N55, K55, s_55, b_55, sy_s_55, sy_b_55, rfl, P55_0, P55_1, P55_2, P55_3⟩
theorem own_len {l1 l2 : List Int32} (h1 : l1.length ≤ 3) (h2 : l2.length ≤ 3) : olen (l1 ++ l2) = olen l1 + olen l2 := by
  rw [own_olen, own_olen, own_olen]
  apply Int32.toInt_inj.mp
  have a := own_oln (own_b6 h1 h2)
  have b := own_oln (own_36 h1)
  have c := own_oln (own_36 h2)
  have s := c_iadd (oln l1) (oln l2)
  have r := rng32 (oln l1 + oln l2)
  rw [List.length_append] at a
  omega
theorem own_fe {i w : Int32} {l1 l2 : List Int32} (hi : 0 ≤ i.toInt ∧ i.toInt ≤ 5) (h1 : l1.length ≤ 3) (h2 : l2.length ≤ 3) : f30 i (l1 ++ l2) w = f31 i l1 l2 w := by
  have a := own_oln (own_b6 h1 h2)
  have b := own_oln (own_36 h1)
  have c := own_oln (own_36 h2)
  rw [List.length_append] at a
  have s := c_isub i (olen l1)
  have r := rng32 (i - olen l1)
  rw [f30, f31]
  by_cases q : i < olen l1
  · have q' : i < olen (l1 ++ l2) := by
      rw [own_olen, Int32.lt_iff_toInt_lt] at q ⊢
      omega
    have k : i.toNatClampNeg < l1.length := by
      rw [own_olen, Int32.lt_iff_toInt_lt] at q
      rw [own_cl]; omega
    have g : (l1 ++ l2).getD i.toNatClampNeg 0 = l1.getD i.toNatClampNeg 0 := by
      rw [List.getD_eq_getElem?_getD, List.getD_eq_getElem?_getD, List.getElem?_append_left k]
    rw [if_pos q, if_pos q', ogc, ogc, ogl, ogl, g]
  · have d : (i - olen l1).toInt = i.toInt - l1.length := by
      rw [own_olen] at s r ⊢
      omega
    have q0 : ¬ i.toInt < l1.length := by
      rw [own_olen, Int32.lt_iff_toInt_lt] at q
      omega
    by_cases q2 : (i - olen l1) < olen l2
    · have z2 : (i - olen l1).toInt < l2.length := by
        rw [Int32.lt_iff_toInt_lt, own_olen l2, c] at q2
        exact q2
      have q' : i < olen (l1 ++ l2) := by
        rw [own_olen, Int32.lt_iff_toInt_lt]
        omega
      have g : (l1 ++ l2).getD i.toNatClampNeg 0 = l2.getD (i - olen l1).toNatClampNeg 0 := by
        rw [List.getD_eq_getElem?_getD, List.getD_eq_getElem?_getD, List.getElem?_append_right (by rw [own_cl]; omega), show i.toNatClampNeg - l1.length = (i - olen l1).toNatClampNeg from by rw [own_cl, own_cl, d]; omega]
      rw [if_neg q, if_pos q2, if_pos q', ogc, ogc, ogl, ogl, g]
    · have z2 : ¬ (i - olen l1).toInt < l2.length := by
        rw [Int32.lt_iff_toInt_lt, own_olen l2, c] at q2
        exact q2
      have q' : ¬ i < olen (l1 ++ l2) := by
        rw [own_olen, Int32.lt_iff_toInt_lt]
        omega
      rw [if_neg q, if_neg q2, if_neg q']
theorem own_sm {i w : Int32} {l1 l2 : List Int32} (hi : 0 ≤ i.toInt ∧ i.toInt ≤ 5) (h1 : l1.length ≤ 3) (h2 : l2.length ≤ 3) : ¬ f29 i (l1 ++ l2) l1 l2 w = (0 : Int32) := by
  rw [f29, if_pos (own_fe hi h1 h2)]; decide

theorem pd__I_Ljava_lang_String_ : parseMethodDescriptor "(I)Ljava/lang/String;" = some ⟨[.int], some (.object "java/lang/String")⟩ := by decide +kernel
theorem pd__Ljava_lang_String_Ljava_lang_String__V : parseMethodDescriptor "(Ljava/lang/String;Ljava/lang/String;)V" = some ⟨[(.object "java/lang/String"), (.object "java/lang/String")], none⟩ := by decide +kernel
theorem pd__Ljava_lang_String_Ljava_lang_String_Ljava_lang_String_I_Z : parseMethodDescriptor "(Ljava/lang/String;Ljava/lang/String;Ljava/lang/String;I)Z" = some ⟨[(.object "java/lang/String"), (.object "java/lang/String"), (.object "java/lang/String"), .int], some .boolean⟩ := by decide +kernel
theorem pn_0 : plainFor (⟨"com/example/tidewire/tidewire/protocol/RestParamsSignedTextPinLaw", "law", "(II)Z"⟩ : MethodName) = true := by first | exact plainFor_of_name (by first | (simp [plainName, overriddenIn]; done) | decide +kernel) | decide +kernel
def f0 (p1 : Int32) (p2 : Int32) (w : Int32) : Int32 := (1 : Int32)
theorem ef_0 (m : MethodId) (p1 : Int32) (p2 : Int32) : entryFrame m #[(.int p1), (.int p2)] 6 = (mkF m 0 #[.val (.int p1), .val (.int p2), .unset, .unset, .unset, .unset] []) := by first | (simp [entryFrame, mkF, argsToLocals, Value.category]; done) | rfl
abbrev Q0 (Z : State) (p1 : Int32) (p2 : Int32) (w : Int32) (bv : Value) (h0 : Heap) (n0 : Nat) : Option Value → Heap → List Loc → Prop := (fun v h L => v = some (.int (f0 p1 p2 w)) ∧ Fr n0 L)
theorem rm0 (l : Launch) (Z : State) (a0 : Array Value) (hw : ∀ d ∈ tables_1, d.before a0 Z = true) (ws : List Jvm.Cond) (p1 : Int32) (p2 : Int32) (w : Int32) (bv : Value) (h0 : Heap) (n0 : Nat) (Z0 : n0 ≤ h0.size) (R0 : Sta Z h0 "java/lang/String" "COMPACT_STRINGS" "Z" (.int w)) (R1 : Sta Z h0 "jdk/internal/util/Preconditions" "SIOOBE_FORMATTER" "Ljava/util/function/BiFunction;" bv) (hw0 : ¬ w = (0 : Int32)) (hbv : bv.isRef = true) :
    OMetS l Z EL0 x code maxLocals ret ws room_1 #[(.int p1), (.int p2)] h0 (Q0 Z p1 p2 w bv h0 n0) := by
  refine own_enterS pn_0 ?_
  intro p e s m below meth c s₁ hx hby hml0 hown hret hlk hnm hZ X0 e0 hs0 CH0
  have hEL := own_EW hw
  have hS0 : s.Since s.vm 0 := (State.WarmedH.refl s).since 0
  have hk0 : 0 ≤ h0.size := Nat.zero_le _
  have CR0 : CHr Z EL0 s.vm h0 s.vm h0 := CHr.refl CH0
  have hml : c.maxLocals = 6 := hml0
  have B : BX p c code := ⟨hx, hby⟩
  have N0 := Fr.nil n0
  refine own_castS (ef_0 m p1 p2) ?_
  refine wiloadN OSc 1 X0 B at_0 rfl rfl ?_
  obtain ⟨_, _, ⟨T1, L1, k1, n1⟩, -, X1q, hS1q, hg1q, ⟨Lc1, hQ1, l1, y1, z1, Cq1⟩, st1⟩ := callSS X0 hx (y := (⟨"com/example/tidewire/tidewire/protocol/RestParamsSignedTextPinLaw", "draw", "(I)Ljava/lang/String;"⟩ : MethodName)) hown (mvT hZ (ow hw 0 rfl)) (mvT hZ (ow hw 1 rfl)) (mvT hZ (ow hw 2 rfl)) (mvT hZ (ow hw 3 rfl)) (by decide) (backOfSH (EL := EL0) (W := 0) (rm := ({ frames := 4, cells := 6, slots := 12, locals := 66 } : Room)) (rm1 l Z a0 hw [] p1 w h0 n0 (Nat.le_trans Z0 (Keep.refl h0 []).1) R0 hw0) hZ (ow hw 3 rfl) (ow hw 2 rfl) (by decide) (by decide) hEL CH0) (g := (mkF m 1 #[.val (.int p1), .val (.int p2), .unset, .unset, .unset, .unset] [(.int p1)])) rfl (by rw [hml]; rfl) (argsL := [(.int p1)]) (rest := []) (lenOf pd__I_Ljava_lang_String_ rfl) rfl (by show 2 * 0 + _ ≤ _; exact Nat.le_of_eq rfl) (hb hby at_1) (fun _ _ => ⟨rfl, e0, (by decide : 0 + 6 ≤ _), (by decide : 0 + 12 ≤ _)⟩)
  dsimp only [Pt.U, Pt.locs, Pt.cells, Pt.slots] at X1q hS1q hg1q l1 y1 z1 st1 hQ1 Cq1
  subst l1 y1 z1
  obtain ⟨X1, hS1, hZ1, hown1⟩ := rebS hS0 (by rw [e0]; exact hk0) X1q hS1q hg1q hZ hown
  have CR1 := CHr.trans CR0 Cq1
  have hk1 : T1.heap.size ≤ T1.heap.size := Nat.le_refl _
  obtain ⟨N1q, K1q, s_1, b_1, sz_s_1, rfl, P1_0, P1_1, P1_2, P1_3⟩ := hQ1
  refine own_stS (fun t k => st1.trans k) ?_
  have N1 := Fr.app N0 N1q
  have ge_s_1 : n0 ≤ s_1 := Nat.le_trans (Nat.le_trans Z0 (Keep.refl h0 []).1) sz_s_1
  have sy_s_1 : h0.size ≤ s_1 := Nat.le_trans (Keep.refl h0 []).1 sz_s_1
  have K1 := (Keep.refl h0 []).trans K1q (own_all0 )
  have F2 := own_staK R0 K1q (own_all0 )
  have F3 := own_staK R1 K1q (own_all0 )
  show OGS _ _ p e _ s below _ T1 (mkF m 4 #[.val (.int p1), .val (.int p2), .unset, .unset, .unset, .unset] [(.ref s_1)])
  refine wastoreN OSc 5 X1 B at_4 #[.val (.int p1), .val (.int p2), .val (.ref s_1), .unset, .unset, .unset] rfl rfl rfl ?_
  refine wiloadN OSc 6 X1 B at_5 rfl rfl ?_
  obtain ⟨_, _, ⟨T4, L4, k4, n4⟩, -, X4q, hS4q, hg4q, ⟨Lc4, hQ4, l4, y4, z4, Cq4⟩, st4⟩ := callSS X1 hx (y := (⟨"com/example/tidewire/tidewire/protocol/RestParamsSignedTextPinLaw", "draw", "(I)Ljava/lang/String;"⟩ : MethodName)) hown1 (mvT hZ1 (ow hw 0 rfl)) (mvT hZ1 (ow hw 1 rfl)) (mvT hZ1 (ow hw 2 rfl)) (mvT hZ1 (ow hw 3 rfl)) (by decide) (backOfSH (EL := EL0) (W := 0) (rm := ({ frames := 4, cells := 6, slots := 12, locals := 66 } : Room)) (rm1 l Z a0 hw [] p2 w T1.heap n0 (Nat.le_trans Z0 K1.1) F2 hw0) hZ1 (ow hw 3 rfl) (ow hw 2 rfl) (by decide) (by decide) hEL Cq1.1) (g := (mkF m 6 #[.val (.int p1), .val (.int p2), .val (.ref s_1), .unset, .unset, .unset] [(.int p2)])) rfl (by rw [hml]; rfl) (argsL := [(.int p2)]) (rest := []) (lenOf pd__I_Ljava_lang_String_ rfl) rfl (by show 2 * 0 + _ ≤ _; exact Nat.le_of_eq rfl) (hb hby at_6) (fun _ _ => ⟨rfl, rfl, (by decide : 6 + 6 ≤ _), (by decide : 12 + 12 ≤ _)⟩)
  dsimp only [Pt.U, Pt.locs, Pt.cells, Pt.slots] at X4q hS4q hg4q l4 y4 z4 st4 hQ4 Cq4
  subst l4 y4 z4
  obtain ⟨X4, hS4, hZ4, hown4⟩ := rebS hS1 hk1 X4q hS4q hg4q hZ1 hown1
  have CR4 := CHr.trans CR1 Cq4
  have hk4 : T4.heap.size ≤ T4.heap.size := Nat.le_refl _
  obtain ⟨N4q, K4q, s_4, b_4, sz_s_4, rfl, P4_0, P4_1, P4_2, P4_3⟩ := hQ4
  refine own_stS (fun t k => st4.trans k) ?_
  have N4 := Fr.app N1 N4q
  have ge_s_4 : n0 ≤ s_4 := Nat.le_trans (Nat.le_trans Z0 K1.1) sz_s_4
  have sy_s_4 : h0.size ≤ s_4 := Nat.le_trans K1.1 sz_s_4
  have ne_b_1_s_4 : b_1 ≠ s_4 := Nat.ne_of_lt (Nat.lt_of_lt_of_le P1_3.lt sz_s_4)
  have ne_s_1_s_4 : s_1 ≠ s_4 := Nat.ne_of_lt (Nat.lt_of_lt_of_le P1_0.lt sz_s_4)
  have K4 := K1.trans K4q (own_all0 )
  have F5 := own_staK F2 K4q (own_all0 )
  have F6 := own_staK F3 K4q (own_all0 )
  have F7 := P1_0.keep K4q
  have F8 := P1_1.keep K4q (own_nin0 )
  have F9 := P1_2.keep K4q (own_nin0 )
  have F10 := P1_3.keep K4q (own_nin0 )
  show OGS _ _ p e _ s below _ T4 (mkF m 9 #[.val (.int p1), .val (.int p2), .val (.ref s_1), .unset, .unset, .unset] [(.ref s_4)])
  refine wastoreN OSc 10 X4 B at_9 #[.val (.int p1), .val (.int p2), .val (.ref s_1), .val (.ref s_4), .unset, .unset] rfl rfl rfl ?_
  refine wnewO OSc 13 X4 B hZ4 hown4 (ow hw 26 rfl) (ow hw 27 rfl) (ow hw 28 rfl) rfl at_10 (by decide) rfl fun T11 h11 o11 gb11 X11 e11 E11 A11 D11 => ?_
  have ge_o11 : n0 ≤ o11 := by rw [gb11]; exact Nat.le_trans Z0 K4.1
  have sz_o11 : h0.size ≤ o11 := by rw [gb11]; exact K4.1
  have ne_b_1_o11 : b_1 ≠ o11 := Nat.ne_of_lt (Nat.lt_of_lt_of_eq F10.lt gb11.symm)
  have ne_b_4_o11 : b_4 ≠ o11 := Nat.ne_of_lt (Nat.lt_of_lt_of_eq P4_3.lt gb11.symm)
  have ne_s_1_o11 : s_1 ≠ o11 := Nat.ne_of_lt (Nat.lt_of_lt_of_eq F7.lt gb11.symm)
  have ne_s_4_o11 : s_4 ≠ o11 := Nat.ne_of_lt (Nat.lt_of_lt_of_eq P4_0.lt gb11.symm)
  have F12 := F5.ext E11
  have F13 := F6.ext E11
  have F14 := F7.ext E11
  have F15 := F8.ext E11
  have F16 := F9.ext E11
  have F17 := F10.ext E11
  have F18 := P4_0.ext E11
  have F19 := P4_1.ext E11
  have F20 := P4_2.ext E11
  have F21 := P4_3.ext E11
  have K22 := K4.ext E11
  have F23 : Fld Z h11 o11 "com/example/tidewire/tidewire/protocol/RestParams" "query" "Ljava/lang/String;" .null := D11 (Or.inr (ow hw 40 rfl)) (ty := (.object "java/lang/String")) (by decide)
  have F24 : Fld Z h11 o11 "com/example/tidewire/tidewire/protocol/RestParams" "body" "Ljava/lang/String;" .null := D11 (Or.inr (ow hw 43 rfl)) (ty := (.object "java/lang/String")) (by decide)
  have CR25 := CHr.trans CR4 (CHr.ext E11 Cq4.1)
  have CH25 := CHv.ext E11 Cq4.1
  have hk25 := Nat.le_trans hk4 E11.1
  refine wdup OSc 14 X11 B at_13 rfl rfl ?_
  refine waloadN OSc 15 X11 B at_14 rfl rfl rfl ?_
  refine waloadN OSc 16 X11 B at_15 rfl rfl rfl ?_
  obtain ⟨_, _, ⟨T26, L26, k26, n26⟩, -, X26q, hS26q, hg26q, ⟨Lc26, hQ26, l26, y26, z26, Cq26⟩, st26⟩ := X11.specialBackS hx (y := (⟨"com/example/tidewire/tidewire/protocol/RestParams", "<init>", "(Ljava/lang/String;Ljava/lang/String;)V"⟩ : MethodName)) rfl hown4 (mvT hZ4 (ow hw 29 rfl)) (mvT hZ4 (ow hw 30 rfl)) (mvT hZ4 (ow hw 31 rfl)) (by decide) (backOfSH (EL := EL0) (W := 1) (rm := ({ frames := 1, cells := 4, slots := 44, locals := 14 } : Room)) (rm5 l Z a0 hw [] o11 s_1 s_4 h11 n0 A11 F23 F24 F14 F18 ge_o11) hZ4 (ow hw 31 rfl) (ow hw 28 rfl) (by decide) (by decide) hEL CH25) (g := (mkF m 16 #[.val (.int p1), .val (.int p2), .val (.ref s_1), .val (.ref s_4), .unset, .unset] [(.ref s_4), (.ref s_1), (.ref o11), (.ref o11)])) rfl (by rw [hml]; rfl) (Steps.refl _) (a := o11) (argsL := [(.ref s_1), (.ref s_4)]) (rest := [(.ref o11)]) (lenOf pd__Ljava_lang_String_Ljava_lang_String__V rfl) rfl (by show 2 * 0 + _ ≤ _; exact Nat.le_of_eq rfl) (hb hby at_16) (fun _ _ => ⟨rfl, e11, (by decide : 13 + 4 ≤ _), (by decide : 26 + 44 ≤ _)⟩)
  dsimp only [Pt.U, Pt.locs, Pt.cells, Pt.slots] at X26q hS26q hg26q l26 y26 z26 st26 hQ26 Cq26
  subst l26 y26 z26
  obtain ⟨X26, hS26, hZ26, hown26⟩ := rebS hS4 (by rw [e11]; exact hk25) X26q hS26q hg26q hZ4 hown4
  have CR26 := CHr.trans CR25 Cq26
  have hk26 : T26.heap.size ≤ T26.heap.size := Nat.le_refl _
  obtain ⟨rfl, N26q, K26q, P26_0, P26_1, P26_2⟩ := hQ26
  refine own_stS (fun t k => st26.trans k) ?_
  have N26 := Fr.app N4 N26q
  have K26 := K22.trans K26q (own_all1 (Or.inr sz_o11))
  have F27 := own_staK F12 K26q (own_all1 (own_plE A11))
  have F28 := own_staK F13 K26q (own_all1 (own_plE A11))
  have F29 := F14.keep K26q
  have F30 := F15.keep K26q (own_nin1 ne_s_1_o11)
  have F31 := F16.keep K26q (own_nin1 ne_s_1_o11)
  have F32 := F17.keep K26q (own_nin1 ne_b_1_o11)
  have F33 := F18.keep K26q
  have F34 := F19.keep K26q (own_nin1 ne_s_4_o11)
  have F35 := F20.keep K26q (own_nin1 ne_s_4_o11)
  have F36 := F21.keep K26q (own_nin1 ne_b_4_o11)
  show OGS _ _ p e _ s below _ T26 (mkF m 19 #[.val (.int p1), .val (.int p2), .val (.ref s_1), .val (.ref s_4), .unset, .unset] [(.ref o11)])
  refine wastore OSc 21 X26 B at_19 #[.val (.int p1), .val (.int p2), .val (.ref s_1), .val (.ref s_4), .val (.ref o11), .unset] rfl rfl rfl ?_
  refine waload OSc 23 X26 B at_21 rfl rfl rfl ?_
  refine wvirt OSc 26 X26 B hZ26 hown26 (ow hw 44 rfl) (ow hw 45 rfl) (ow hw 47 rfl) (ow hw 46 rfl) P26_0 (ow hw 48 rfl) (ow hw 28 rfl) rfl (rm7 l Z a0 hw [] o11 s_1 s_4 b_1 b_4 (odl p1 w) (odl p2 w) w T26.heap n0 (Nat.le_trans Z0 K26.1) P26_1 P26_2 F29 F30 F31 F32 F33 F34 F35 F36 F27 hw0 (own_dl3 p1 w) (own_dl3 p2 w)) 0 (by decide) (by decide) hml rfl (lenOf pd___Ljava_lang_String_ rfl) [] rfl rfl at_23 rfl fun _ T37 L37 X37 hQ37 => ?_
  obtain ⟨N37q, K37q, s_37, b_37, sz_s_37, sz_b_37, rfl, P37_0, P37_1, P37_2, P37_3⟩ := hQ37
  have N37 := Fr.app N26 N37q
  have ge_s_37 : n0 ≤ s_37 := Nat.le_trans (Nat.le_trans Z0 K26.1) sz_s_37
  have sy_s_37 : h0.size ≤ s_37 := Nat.le_trans K26.1 sz_s_37
  have ne_b_1_s_37 : b_1 ≠ s_37 := Nat.ne_of_lt (Nat.lt_of_lt_of_le F32.lt sz_s_37)
  have ne_b_4_s_37 : b_4 ≠ s_37 := Nat.ne_of_lt (Nat.lt_of_lt_of_le F36.lt sz_s_37)
  have ne_o11_s_37 : o11 ≠ s_37 := Nat.ne_of_lt (Nat.lt_of_lt_of_le P26_0.lt sz_s_37)
  have ne_s_1_s_37 : s_1 ≠ s_37 := Nat.ne_of_lt (Nat.lt_of_lt_of_le F29.lt sz_s_37)
  have ne_s_4_s_37 : s_4 ≠ s_37 := Nat.ne_of_lt (Nat.lt_of_lt_of_le F33.lt sz_s_37)
  have ge_b_37 : n0 ≤ b_37 := Nat.le_trans (Nat.le_trans Z0 K26.1) sz_b_37
  have sy_b_37 : h0.size ≤ b_37 := Nat.le_trans K26.1 sz_b_37
  have ne_b_1_b_37 : b_1 ≠ b_37 := Nat.ne_of_lt (Nat.lt_of_lt_of_le F32.lt sz_b_37)
  have ne_b_4_b_37 : b_4 ≠ b_37 := Nat.ne_of_lt (Nat.lt_of_lt_of_le F36.lt sz_b_37)
  have ne_o11_b_37 : o11 ≠ b_37 := Nat.ne_of_lt (Nat.lt_of_lt_of_le P26_0.lt sz_b_37)
  have ne_s_1_b_37 : s_1 ≠ b_37 := Nat.ne_of_lt (Nat.lt_of_lt_of_le F29.lt sz_b_37)
  have ne_s_4_b_37 : s_4 ≠ b_37 := Nat.ne_of_lt (Nat.lt_of_lt_of_le F33.lt sz_b_37)
  have K37 := K26.trans K37q (own_all0 )
  have F38 := own_staK F27 K37q (own_all0 )
  have F39 := own_staK F28 K37q (own_all0 )
  have F40 := F29.keep K37q
  have F41 := F30.keep K37q (own_nin0 )
  have F42 := F31.keep K37q (own_nin0 )
  have F43 := F32.keep K37q (own_nin0 )
  have F44 := F33.keep K37q
  have F45 := F34.keep K37q (own_nin0 )
  have F46 := F35.keep K37q (own_nin0 )
  have F47 := F36.keep K37q (own_nin0 )
  have F48 := P26_0.keep K37q
  have F49 := P26_1.keep K37q (own_nin0 )
  have F50 := P26_2.keep K37q (own_nin0 )
  refine own_stk (S' := [(.ref s_37)]) rfl ?_
  have CR51 := CHr.trans CR26 (CHr.keep K37q (own_all0 ) Cq26.1)
  have CH51 := CHv.keep K37q (own_all0 ) Cq26.1
  have hk51 := Nat.le_trans hk26 K37q.1
  refine wastore OSc 28 X37 B at_26 #[.val (.int p1), .val (.int p2), .val (.ref s_1), .val (.ref s_4), .val (.ref o11), .val (.ref s_37)] rfl rfl rfl ?_
  refine waload OSc 30 X37 B at_28 rfl rfl rfl ?_
  refine wifnonnullYes OSc 35 X37 B at_30 rfl ?_
  refine waload OSc 37 X37 B at_35 rfl rfl rfl ?_
  refine wvirt OSc 40 X37 B hZ26 hown26 (ow hw 160 rfl) (ow hw 78 rfl) (ow hw 80 rfl) (ow hw 79 rfl) P37_0 (ow hw 81 rfl) (ow hw 6 rfl) rfl (rm12 l Z a0 hw [] s_37 b_37 ((odl p1 w) ++ (odl p2 w)) w T37.heap P37_0 P37_1 P37_2 P37_3 F38 hw0) 0 (by decide) (by decide) hml rfl (lenOf pd___I rfl) [] rfl rfl at_37 rfl fun _ T52 L52 X52 hQ52 => ?_
  obtain ⟨rfl, rfl, e52⟩ := hQ52
  have N52 := Fr.app N37 (Fr.nil n0)
  refine own_stk (S' := [(.int (olen ((odl p1 w) ++ (odl p2 w))))]) rfl ?_
  refine waloadN OSc 41 X52 B at_40 rfl rfl rfl ?_
  refine wvirt OSc 44 X52 B hZ26 hown26 (ow hw 160 rfl) (ow hw 78 rfl) (ow hw 80 rfl) (ow hw 79 rfl) F40 (ow hw 81 rfl) (ow hw 6 rfl) e52 (rm12 l Z a0 hw [] s_1 b_1 (odl p1 w) w T37.heap F40 F41 F42 F43 F38 hw0) 1 (by decide) (by decide) hml rfl (lenOf pd___I rfl) [(.int (olen ((odl p1 w) ++ (odl p2 w))))] rfl rfl at_41 rfl fun _ T53 L53 X53 hQ53 => ?_
  obtain ⟨rfl, rfl, e53⟩ := hQ53
  have N53 := Fr.app N52 (Fr.nil n0)
  refine own_stk (S' := [(.int (olen (odl p1 w))), (.int (olen ((odl p1 w) ++ (odl p2 w))))]) rfl ?_
  refine waloadN OSc 45 X53 B at_44 rfl rfl rfl ?_
  refine wvirt OSc 48 X53 B hZ26 hown26 (ow hw 160 rfl) (ow hw 78 rfl) (ow hw 80 rfl) (ow hw 79 rfl) F44 (ow hw 81 rfl) (ow hw 6 rfl) e53 (rm12 l Z a0 hw [] s_4 b_4 (odl p2 w) w T37.heap F44 F45 F46 F47 F38 hw0) 2 (by decide) (by decide) hml rfl (lenOf pd___I rfl) [(.int (olen (odl p1 w))), (.int (olen ((odl p1 w) ++ (odl p2 w))))] rfl rfl at_45 rfl fun _ T54 L54 X54 hQ54 => ?_
  obtain ⟨rfl, rfl, e54⟩ := hQ54
  have N54 := Fr.app N53 (Fr.nil n0)
  refine own_stk (S' := [(.int (olen (odl p2 w))), (.int (olen (odl p1 w))), (.int (olen ((odl p1 w) ++ (odl p2 w))))]) rfl ?_
  refine wiadd OSc 49 X54 B at_48 rfl ?_
  refine wicmpYes OSc 54 X54 B at_49 (teq (own_len (own_dl3 p1 w) (own_dl3 p2 w))).1 rfl ?_
  refine waload OSc 56 X54 B at_54 rfl rfl rfl ?_
  refine waloadN OSc 57 X54 B at_56 rfl rfl rfl ?_
  refine waloadN OSc 58 X54 B at_57 rfl rfl rfl ?_
  refine wiconst OSc 59 X54 B at_58 0 rfl rfl ?_
  refine wstat OSc 62 X54 B hZ26 hown26 (ow hw 161 rfl) (ow hw 162 rfl) (ow hw 163 rfl) (ow hw 2 rfl) e54 (rm29 l Z a0 hw [] s_37 s_1 s_4 (0 : Int32) b_37 b_1 b_4 ((odl p1 w) ++ (odl p2 w)) (odl p1 w) (odl p2 w) w bv T37.heap F40 F41 F42 F43 F44 F45 F46 F47 P37_0 P37_1 P37_2 P37_3 F38 F39 hw0 hbv (by decide) (own_b6 (own_dl3 p1 w) (own_dl3 p2 w)) (own_36 (own_dl3 p1 w)) (own_36 (own_dl3 p2 w))) 0 (by decide) (by decide) hml rfl (lenOf pd__Ljava_lang_String_Ljava_lang_String_Ljava_lang_String_I_Z rfl) [] rfl rfl at_59 rfl fun _ T55 L55 X55 hQ55 => ?_
  obtain ⟨rfl, rfl, e55⟩ := hQ55
  have N55 := Fr.app N54 (Fr.nil n0)
  refine own_stk (S' := [(.int (f29 (0 : Int32) ((odl p1 w) ++ (odl p2 w)) (odl p1 w) (odl p2 w) w))]) rfl ?_
  refine wifNo OSc 65 X55 B at_62 (own_if0 (feq (own_sm (by decide) (own_dl3 p1 w) (own_dl3 p2 w))).1) rfl ?_
  refine waload OSc 67 X55 B at_65 rfl rfl rfl ?_
  refine waloadN OSc 68 X55 B at_67 rfl rfl rfl ?_
  refine waloadN OSc 69 X55 B at_68 rfl rfl rfl ?_
  refine wiconst OSc 70 X55 B at_69 1 rfl rfl ?_
  refine wstat OSc 73 X55 B hZ26 hown26 (ow hw 161 rfl) (ow hw 162 rfl) (ow hw 163 rfl) (ow hw 2 rfl) e55 (rm29 l Z a0 hw [] s_37 s_1 s_4 (1 : Int32) b_37 b_1 b_4 ((odl p1 w) ++ (odl p2 w)) (odl p1 w) (odl p2 w) w bv T37.heap F40 F41 F42 F43 F44 F45 F46 F47 P37_0 P37_1 P37_2 P37_3 F38 F39 hw0 hbv (by decide) (own_b6 (own_dl3 p1 w) (own_dl3 p2 w)) (own_36 (own_dl3 p1 w)) (own_36 (own_dl3 p2 w))) 0 (by decide) (by decide) hml rfl (lenOf pd__Ljava_lang_String_Ljava_lang_String_Ljava_lang_String_I_Z rfl) [] rfl rfl at_70 rfl fun _ T56 L56 X56 hQ56 => ?_
  obtain ⟨rfl, rfl, e56⟩ := hQ56
  have N56 := Fr.app N55 (Fr.nil n0)
  refine own_stk (S' := [(.int (f29 (1 : Int32) ((odl p1 w) ++ (odl p2 w)) (odl p1 w) (odl p2 w) w))]) rfl ?_
  refine wifNo OSc 76 X56 B at_73 (own_if0 (feq (own_sm (by decide) (own_dl3 p1 w) (own_dl3 p2 w))).1) rfl ?_
  refine waload OSc 78 X56 B at_76 rfl rfl rfl ?_
  refine waloadN OSc 79 X56 B at_78 rfl rfl rfl ?_
  refine waloadN OSc 80 X56 B at_79 rfl rfl rfl ?_
  refine wiconst OSc 81 X56 B at_80 2 rfl rfl ?_
  refine wstat OSc 84 X56 B hZ26 hown26 (ow hw 161 rfl) (ow hw 162 rfl) (ow hw 163 rfl) (ow hw 2 rfl) e56 (rm29 l Z a0 hw [] s_37 s_1 s_4 (2 : Int32) b_37 b_1 b_4 ((odl p1 w) ++ (odl p2 w)) (odl p1 w) (odl p2 w) w bv T37.heap F40 F41 F42 F43 F44 F45 F46 F47 P37_0 P37_1 P37_2 P37_3 F38 F39 hw0 hbv (by decide) (own_b6 (own_dl3 p1 w) (own_dl3 p2 w)) (own_36 (own_dl3 p1 w)) (own_36 (own_dl3 p2 w))) 0 (by decide) (by decide) hml rfl (lenOf pd__Ljava_lang_String_Ljava_lang_String_Ljava_lang_String_I_Z rfl) [] rfl rfl at_81 rfl fun _ T57 L57 X57 hQ57 => ?_
  obtain ⟨rfl, rfl, e57⟩ := hQ57
  have N57 := Fr.app N56 (Fr.nil n0)
  refine own_stk (S' := [(.int (f29 (2 : Int32) ((odl p1 w) ++ (odl p2 w)) (odl p1 w) (odl p2 w) w))]) rfl ?_
  refine wifNo OSc 87 X57 B at_84 (own_if0 (feq (own_sm (by decide) (own_dl3 p1 w) (own_dl3 p2 w))).1) rfl ?_
  refine waload OSc 89 X57 B at_87 rfl rfl rfl ?_
  refine waloadN OSc 90 X57 B at_89 rfl rfl rfl ?_
  refine waloadN OSc 91 X57 B at_90 rfl rfl rfl ?_
  refine wiconst OSc 92 X57 B at_91 3 rfl rfl ?_
  refine wstat OSc 95 X57 B hZ26 hown26 (ow hw 161 rfl) (ow hw 162 rfl) (ow hw 163 rfl) (ow hw 2 rfl) e57 (rm29 l Z a0 hw [] s_37 s_1 s_4 (3 : Int32) b_37 b_1 b_4 ((odl p1 w) ++ (odl p2 w)) (odl p1 w) (odl p2 w) w bv T37.heap F40 F41 F42 F43 F44 F45 F46 F47 P37_0 P37_1 P37_2 P37_3 F38 F39 hw0 hbv (by decide) (own_b6 (own_dl3 p1 w) (own_dl3 p2 w)) (own_36 (own_dl3 p1 w)) (own_36 (own_dl3 p2 w))) 0 (by decide) (by decide) hml rfl (lenOf pd__Ljava_lang_String_Ljava_lang_String_Ljava_lang_String_I_Z rfl) [] rfl rfl at_92 rfl fun _ T58 L58 X58 hQ58 => ?_
  obtain ⟨rfl, rfl, e58⟩ := hQ58
  have N58 := Fr.app N57 (Fr.nil n0)
  refine own_stk (S' := [(.int (f29 (3 : Int32) ((odl p1 w) ++ (odl p2 w)) (odl p1 w) (odl p2 w) w))]) rfl ?_
  refine wifNo OSc 98 X58 B at_95 (own_if0 (feq (own_sm (by decide) (own_dl3 p1 w) (own_dl3 p2 w))).1) rfl ?_
  refine waload OSc 100 X58 B at_98 rfl rfl rfl ?_
  refine waloadN OSc 101 X58 B at_100 rfl rfl rfl ?_
  refine waloadN OSc 102 X58 B at_101 rfl rfl rfl ?_
  refine wiconst OSc 103 X58 B at_102 4 rfl rfl ?_
  refine wstat OSc 106 X58 B hZ26 hown26 (ow hw 161 rfl) (ow hw 162 rfl) (ow hw 163 rfl) (ow hw 2 rfl) e58 (rm29 l Z a0 hw [] s_37 s_1 s_4 (4 : Int32) b_37 b_1 b_4 ((odl p1 w) ++ (odl p2 w)) (odl p1 w) (odl p2 w) w bv T37.heap F40 F41 F42 F43 F44 F45 F46 F47 P37_0 P37_1 P37_2 P37_3 F38 F39 hw0 hbv (by decide) (own_b6 (own_dl3 p1 w) (own_dl3 p2 w)) (own_36 (own_dl3 p1 w)) (own_36 (own_dl3 p2 w))) 0 (by decide) (by decide) hml rfl (lenOf pd__Ljava_lang_String_Ljava_lang_String_Ljava_lang_String_I_Z rfl) [] rfl rfl at_103 rfl fun _ T59 L59 X59 hQ59 => ?_
  obtain ⟨rfl, rfl, e59⟩ := hQ59
  have N59 := Fr.app N58 (Fr.nil n0)
  refine own_stk (S' := [(.int (f29 (4 : Int32) ((odl p1 w) ++ (odl p2 w)) (odl p1 w) (odl p2 w) w))]) rfl ?_
  refine wifNo OSc 109 X59 B at_106 (own_if0 (feq (own_sm (by decide) (own_dl3 p1 w) (own_dl3 p2 w))).1) rfl ?_
  refine waload OSc 111 X59 B at_109 rfl rfl rfl ?_
  refine waloadN OSc 112 X59 B at_111 rfl rfl rfl ?_
  refine waloadN OSc 113 X59 B at_112 rfl rfl rfl ?_
  refine wiconst OSc 114 X59 B at_113 5 rfl rfl ?_
  refine wstat OSc 117 X59 B hZ26 hown26 (ow hw 161 rfl) (ow hw 162 rfl) (ow hw 163 rfl) (ow hw 2 rfl) e59 (rm29 l Z a0 hw [] s_37 s_1 s_4 (5 : Int32) b_37 b_1 b_4 ((odl p1 w) ++ (odl p2 w)) (odl p1 w) (odl p2 w) w bv T37.heap F40 F41 F42 F43 F44 F45 F46 F47 P37_0 P37_1 P37_2 P37_3 F38 F39 hw0 hbv (by decide) (own_b6 (own_dl3 p1 w) (own_dl3 p2 w)) (own_36 (own_dl3 p1 w)) (own_36 (own_dl3 p2 w))) 0 (by decide) (by decide) hml rfl (lenOf pd__Ljava_lang_String_Ljava_lang_String_Ljava_lang_String_I_Z rfl) [] rfl rfl at_114 rfl fun _ T60 L60 X60 hQ60 => ?_
  obtain ⟨rfl, rfl, e60⟩ := hQ60
  have N60 := Fr.app N59 (Fr.nil n0)
  refine own_stk (S' := [(.int (f29 (5 : Int32) ((odl p1 w) ++ (odl p2 w)) (odl p1 w) (odl p2 w) w))]) rfl ?_
  refine wifNo OSc 120 X60 B at_117 (own_if0 (feq (own_sm (by decide) (own_dl3 p1 w) (own_dl3 p2 w))).1) rfl ?_
  refine wiconst OSc 121 X60 B at_120 1 rfl rfl ?_
  refine wgoto OSc 125 X60 B at_121 rfl ?_
  refine own_endS X60 hlk hZ26 hEL e60 hs0 hS26 hk51 CH51 CR51 (v := some (.int (nar .boolean (1 : Int32)))) (fun h => by rw [hret] at h; cases h) (by decide) (by decide) ?_ (fun fs hr => retN X60 hx (t := .boolean) hret (by simp) (hb hby at_125) hr)
  exact ⟨congrArg (fun z => some (Value.int z)) (show f0 p1 p2 w = (1 : Int32) from (by rw [f0])).symm, N60⟩
theorem own_law (p1 p2 w : Int32) : f0 p1 p2 w = 1 := rfl

theorem own_met (l : Launch) (Z : State) (a0 : Array Value) (hw : ∀ d ∈ tables_1, d.before a0 Z = true) (ws : List Jvm.Cond) (p1 : Int32) (p2 : Int32) (w : Int32) (h0 : Heap) (R0 : Sta Z h0 "java/lang/String" "COMPACT_STRINGS" "Z" (.int w)) (hw0 : ¬ w = (0 : Int32)) (bv : Value) (R1 : Sta Z h0 "jdk/internal/util/Preconditions" "SIOOBE_FORMATTER" "Ljava/util/function/BiFunction;" bv) (hbv : bv.isRef = true) :
    OMetS l Z EL0 x code maxLocals ret ws room_1 #[(.int p1), (.int p2)] h0 (fun v h L => v = some (.int 1) ∧ Fr h0.size L) := by
  intro p e ha hc hk s m args below hf happ hP hK
  obtain ⟨n, o, h1, h2, h3, v, L, ho, ⟨hv, hL⟩, hCR, hq⟩ := rm0 l Z a0 hw ws p1 p2 w bv h0 h0.size (Nat.le_refl _) R0 R1 hw0 hbv  p e ha hc hk s m args below hf happ hP hK
  rw [own_law] at hv
  exact ⟨n, o, h1, h2, h3, v, L, ho, ⟨hv, hL⟩, hCR, hq⟩
set_option maxRecDepth 65536 in
set_option maxHeartbeats 40000000 in
theorem comes_1 {Post : Tables → Env → Array Value → State → Outcome → State → Prop} (hpost : ∀ tb e args s v u, (limb_1_1.after args s (.returned v) u = true ∧ limb_1_2.after args s (.returned v) u = true ∧ True) → ReturnedEndW s (.returned v) u (Jvm.fieldLocs frame_1_writes args s ++ Jvm.arrayLocs frame_1_arrays args s ++ Jvm.staticLocs frame_1_statics s) 40 3264 → Post tb e args s (.returned v) u) :
    ArmFor flags0 classFile x code maxLocals ret World_1 tables_1 room_1 Calls_1 rest_1 Pre_1 Post := by
  intro l hfl _ _ p e ha hc hk s m args below hf hA hF happ hP
  obtain ⟨hcalls, hrest, hpre⟩ := hP
  obtain ⟨-, -, -, hnamed, -, -, -, hat⟩ := (Spec.applies_iff hf).mp happ
  obtain ⟨hg, hn⟩ := and_e (Cond.before_iff.mp (show (Jvm.Cond.and given_1 narrow_1).before args s = true from hpre))
  obtain ⟨h1, g0⟩ := and_e hg
  obtain ⟨w0, w1, rfl⟩ : ∃ w0 w1 : Value, args = #[w0, w1] := by
    have hs : args.size = 2 := by simpa [Cond.value, given_1] using h1
    obtain ⟨L⟩ := args
    match L, hs with
    | [w0, w1], _ => exact ⟨w0, w1, rfl⟩
  have hw := fun d (hd : d ∈ tables_1) => atoms_spec (ws := Jvm.Cond.code x code maxLocals ret :: tables_1) hat d (List.mem_cons_of_mem _ hd)
  obtain ⟨b0, g1⟩ := and_e g0
  obtain ⟨i0, e0⟩ := is_v b0
  obtain rfl : w0 = (.int i0) := Option.some.inj e0
  obtain ⟨i1, e1⟩ := is_v g1
  obtain rfl : w1 = (.int i1) := Option.some.inj e1
  obtain ⟨hsets, hown0⟩ := atoms_of _ (rest_1_c_eq ▸ (show rest_1_c.before _ s = true from hrest))
  obtain ⟨iw, ew⟩ := is_v (Cond.before_iff.mp (hsets _ (List.mem_of_getElem? (i := 1) rfl)))
  have S_W : Sta s s.heap "java/lang/String" "COMPACT_STRINGS" "Z" (.int iw) := Sta.start ew (Or.inl (hsets _ (List.mem_of_getElem? (i := 0) rfl)))
  have cw0 : ¬ (iw = (0 : Int32)) := gotF (Cond.eq_ints ew (Term.int_eval (0))) (not_v (Cond.before_iff.mp (hsets _ (List.mem_of_getElem? (i := 2) rfl))))
  have hcw := hsets _ (List.mem_of_getElem? (i := 2) rfl)
  have CH : CHv s EL0 s.vm s.heap := CHv.start (own_EW hw) (fun p hp => hcalls.1 p hp) hcw (ow hw 19 rfl) (ow hw 5 rfl)
  obtain ⟨bv, ebv, hbv⟩ := isR_v (Cond.before_iff.mp (hsets _ (List.mem_of_getElem? (i := 8) rfl)))
  have S_B : Sta s s.heap "jdk/internal/util/Preconditions" "SIOOBE_FORMATTER" "Ljava/util/function/BiFunction;" bv := Sta.start ebv (Or.inl (hsets _ (List.mem_of_getElem? (i := 7) rfl)))
  obtain ⟨n, o, h1, h2, h3, _, L, rfl, ⟨rfl, N⟩, hCR, hq⟩ := own_met l s _ hw tables_1 i0 i1 iw s.heap S_W cw0 bv S_B hbv p e ha hc hk s m _ below hf ((Spec.applies_iff_loose hf).mp happ).1 ⟨rfl, State.Warmed39.refl s, rfl, CH⟩ trivial
  refine ⟨n, _, h1, h2, h3, hpost _ _ _ _ _ _ ⟨Cond.after_iff.mpr rfl, Cond.after_iff.mpr (eq_i res_at (Term.int_eval (1)) rfl), trivial⟩ ⟨hq.1, hq.2.1, hq.2.2.1, (hq.2.2.2.sift fun y hy => Or.inr (N y hy)).mono (by decide) (by decide)⟩⟩
theorem main_1_1 : Claimed_1_1 := comes_1 fun _ _ _ _ _ _ h hF => ⟨h.1, hF⟩
theorem main_1_2 : Claimed_1_2 := comes_1 fun _ _ _ _ _ _ h hF => ⟨h.2.1, hF⟩
end Jvm.Pilot.@@N@@
namespace Jvm.Pilot.@@N@@
open Jvm Jvm.ClassFile Sem Op Lib Jvm.Free Jvm.Stand Jvm.Pilot.@@N@@.Jvm.D
/-! MADE BY PROGRAM (witnessworld.py) out of the Statement's table words and the real class files: 27 classes; the members and pool entries that the words name. The judged class is class 1, her method 5. -/
namespace start1
open Jvm.ClassFile
def u (s : String) : CpInfo := .utf8 (stringToUtf16 s)
/-- a pool by its gaps: so many unusable entries, then the entry; so many at the end -/
def gap : Nat → List CpInfo → List CpInfo
  | 0, r => r
  | n + 1, r => .unusable :: gap n r
def poolList (es : List (Nat × CpInfo)) (last : Nat) : List CpInfo := es.foldr (fun e r => gap e.1 (e.2 :: r)) (gap last [])
def pool (es : List (Nat × CpInfo)) (last : Nat) : Array CpInfo := ⟨poolList es last⟩
def fileOf (pool : Array CpInfo) (this : Nat) (attrs : Array Attribute := #[]) (ms : Array MethodInfo := #[]) (fl : Nat := 33) (sup : Nat := 0) (ifs : Array Nat := #[]) (fds : Array FieldInfo := #[]) : ClassFile where
  minorVersion := 0
  majorVersion := 65
  constantPool := pool
  accessFlags := fl
  thisClass := this
  superClass := sup
  interfaces := ifs
  fields := fds
  methods := ms
  attributes := attrs
def plain (name : String) (sup : Option ClassId) : Class where
  name := name
  kind := .ordinary
  loader := none
  accessFlags := 33
  super := sup
  interfaces := #[]
  cf := none
  fields := #[]
  methods := #[]
  instanceTypes := #[]
  staticTypes := #[]
  resolved := #[]
  callSites := []
  init := .initialized
  statics := none
  mirror := none

def pool0 : Array CpInfo := pool [(5, u "<init>"), (0, u "()V"), (1, .class_ 10), (1, u "java/lang/Object")] 113

def k0c0 : Code := { maxStack := 0, maxLocals := 1, code := object_method_1_code, exceptionTable := #[], attributes := #[] }
def k0m0 : Method := { name := "<init>", desc := "()V", sig := { parameters := [], returnType := none }, accessFlags := 1, code := some k0c0 }
/-- java/lang/Object -/
def k0 : Class := { plain "java/lang/Object" none with
  accessFlags := 33
  interfaces := #[]
  cf := some (fileOf pool0 8 #[] #[{ accessFlags := 1, nameIndex := 5, descriptorIndex := 6, attributes := #[] }] 33 0 #[] #[])
  fields := #[]
  methods := #[k0m0]
  instanceTypes := #[]
  staticTypes := #[]
  resolved := Array.replicate 124 none
  statics := none }

def pool1 : Array CpInfo := pool [(2, .class_ 4), (1, u "java/lang/Object"), (0, u "<init>"), (0, u "()V"), (0, .class_ 8), (0, u "java/lang/String"), (0, .methodref 7 10), (0, .nameAndType 5 11), (0, u "([C)V"), (0, .methodref 7 13), (0, .nameAndType 14 15), (0, u "length"), (0, u "()I"), (0, .methodref 7 17), (0, .nameAndType 18 19), (0, u "charAt"), (0, u "(I)C"), (0, .methodref 21 22), (0, .class_ 23), (0, .nameAndType 24 25), (0, u "com/example/tidewire/tidewire/protocol/RestParamsSignedTextPinLaw"), (0, u "actualAt"), (0, u "(Ljava/lang/String;I)I"), (0, .methodref 21 27), (0, .nameAndType 28 29), (0, u "expectedAt"), (0, u "(Ljava/lang/String;Ljava/lang/String;I)I"), (0, .methodref 21 31), (0, .nameAndType 32 33), (0, u "draw"), (0, u "(I)Ljava/lang/String;"), (0, .class_ 35), (0, u "com/example/tidewire/tidewire/protocol/RestParams"), (0, .methodref 34 37), (0, .nameAndType 5 38), (0, u "(Ljava/lang/String;Ljava/lang/String;)V"), (0, .methodref 34 40), (0, .nameAndType 41 42), (0, u "signedText"), (0, u "()Ljava/lang/String;"), (0, .methodref 21 44), (0, .nameAndType 45 46), (0, u "same"), (0, u "(Ljava/lang/String;Ljava/lang/String;Ljava/lang/String;I)Z"), (3, u "law"), (0, u "(II)Z")] 2

def k1m0 : Method := { name := "<init>", desc := "()V", sig := { parameters := [], returnType := none }, accessFlags := 2, code := none }
def k1c1 : Code := { maxStack := 6, maxLocals := 5, code := method_2_code, exceptionTable := #[], attributes := #[] }
def k1m1 : Method := { name := "draw", desc := "(I)Ljava/lang/String;", sig := { parameters := [.int], returnType := some (.object "java/lang/String") }, accessFlags := 10, code := some k1c1 }
def k1c2 : Code := { maxStack := 2, maxLocals := 4, code := method_3_code, exceptionTable := #[], attributes := #[] }
def k1m2 : Method := { name := "expectedAt", desc := "(Ljava/lang/String;Ljava/lang/String;I)I", sig := { parameters := [(.object "java/lang/String"), (.object "java/lang/String"), .int], returnType := some .int }, accessFlags := 10, code := some k1c2 }
def k1c3 : Code := { maxStack := 2, maxLocals := 2, code := method_4_code, exceptionTable := #[], attributes := #[] }
def k1m3 : Method := { name := "actualAt", desc := "(Ljava/lang/String;I)I", sig := { parameters := [(.object "java/lang/String"), .int], returnType := some .int }, accessFlags := 10, code := some k1c3 }
def k1c4 : Code := { maxStack := 4, maxLocals := 4, code := method_5_code, exceptionTable := #[], attributes := #[] }
def k1m4 : Method := { name := "same", desc := "(Ljava/lang/String;Ljava/lang/String;Ljava/lang/String;I)Z", sig := { parameters := [(.object "java/lang/String"), (.object "java/lang/String"), (.object "java/lang/String"), .int], returnType := some .boolean }, accessFlags := 10, code := some k1c4 }
def k1c5 : Code := { maxStack := 4, maxLocals := 6, code := code, exceptionTable := #[], attributes := #[] }
def k1m5 : Method := { name := "law", desc := "(II)Z", sig := { parameters := [.int, .int], returnType := some .boolean }, accessFlags := 9, code := some k1c5 }
/-- com/example/tidewire/tidewire/protocol/RestParamsSignedTextPinLaw -/
def k1 : Class := { plain "com/example/tidewire/tidewire/protocol/RestParamsSignedTextPinLaw" (some 0) with
  accessFlags := 49
  interfaces := #[]
  cf := some (fileOf pool1 21 #[] #[{ accessFlags := 2, nameIndex := 5, descriptorIndex := 6, attributes := #[] }, { accessFlags := 10, nameIndex := 32, descriptorIndex := 33, attributes := #[] }, { accessFlags := 10, nameIndex := 28, descriptorIndex := 29, attributes := #[] }, { accessFlags := 10, nameIndex := 24, descriptorIndex := 25, attributes := #[] }, { accessFlags := 10, nameIndex := 45, descriptorIndex := 46, attributes := #[] }, { accessFlags := 9, nameIndex := 50, descriptorIndex := 51, attributes := #[] }] 49 2 #[] #[])
  fields := #[]
  methods := #[k1m0, k1m1, k1m2, k1m3, k1m4, k1m5]
  instanceTypes := #[]
  staticTypes := #[]
  resolved := Array.replicate 54 none
  statics := none }

def pool2 : Array CpInfo := pool [(1, .class_ 2), (0, u "java/io/Serializable"), (0, .class_ 4), (0, u "java/lang/Object")] 2

/-- java/io/Serializable -/
def k2 : Class := { plain "java/io/Serializable" (some 0) with
  accessFlags := 1537
  interfaces := #[]
  cf := some (fileOf pool2 1 #[] #[] 1537 3 #[] #[])
  fields := #[]
  methods := #[]
  instanceTypes := #[]
  staticTypes := #[]
  resolved := Array.replicate 7 none
  statics := none }

def pool3 : Array CpInfo := pool [(1, .class_ 2), (0, u "java/lang/Comparable"), (0, .class_ 4), (0, u "java/lang/Object")] 7

/-- java/lang/Comparable -/
def k3 : Class := { plain "java/lang/Comparable" (some 0) with
  accessFlags := 1537
  interfaces := #[]
  cf := some (fileOf pool3 1 #[] #[] 1537 3 #[] #[])
  fields := #[]
  methods := #[]
  instanceTypes := #[]
  staticTypes := #[]
  resolved := Array.replicate 12 none
  statics := none }

def pool4 : Array CpInfo := pool [(2, .class_ 4), (1, u "java/lang/CharSequence"), (42, .class_ 48), (0, u "java/lang/CharSequence$1CodePointIterator"), (10, .class_ 60), (0, u "java/lang/CharSequence$1CharIterator"), (5, .class_ 67), (0, u "java/lang/Object")] 63

/-- java/lang/CharSequence -/
def k4 : Class := { plain "java/lang/CharSequence" (some 0) with
  accessFlags := 1537
  interfaces := #[]
  cf := some (fileOf pool4 2 #[.nestMembers #[47, 59]] #[] 1537 66 #[] #[])
  fields := #[]
  methods := #[]
  instanceTypes := #[]
  staticTypes := #[]
  resolved := Array.replicate 131 none
  statics := none }

def pool5 : Array CpInfo := pool [(1, .class_ 2), (0, u "java/lang/constant/Constable"), (0, .class_ 4), (0, u "java/lang/Object")] 6

/-- java/lang/constant/Constable -/
def k5 : Class := { plain "java/lang/constant/Constable" (some 0) with
  accessFlags := 1537
  interfaces := #[]
  cf := some (fileOf pool5 1 #[] #[] 1537 3 #[] #[])
  fields := #[]
  methods := #[]
  instanceTypes := #[]
  staticTypes := #[]
  resolved := Array.replicate 11 none
  statics := none }

def pool6 : Array CpInfo := pool [(1, .class_ 2), (0, u "java/lang/constant/ConstantDesc"), (0, .class_ 4), (0, u "java/lang/Object")] 32

/-- java/lang/constant/ConstantDesc -/
def k6 : Class := { plain "java/lang/constant/ConstantDesc" (some 0) with
  accessFlags := 1537
  interfaces := #[]
  cf := some (fileOf pool6 1 #[] #[] 1537 3 #[] #[])
  fields := #[]
  methods := #[]
  instanceTypes := #[]
  staticTypes := #[]
  resolved := Array.replicate 37 none
  statics := none }

def pool7 : Array CpInfo := pool [(1, .methodref 2 3), (0, .class_ 4), (0, .nameAndType 5 6), (0, u "java/lang/Object"), (0, u "<init>"), (0, u "()V"), (0, .string 8), (0, u ""), (0, .fieldref 10 11), (0, .class_ 12), (0, .nameAndType 13 14), (0, u "java/lang/String"), (0, u "value"), (0, u "[B"), (0, .fieldref 10 16), (0, .nameAndType 17 18), (0, u "coder"), (0, u "B"), (2, u "hash"), (0, u "I"), (2, u "hashIsZero"), (0, u "Z"), (0, .methodref 10 28), (0, .nameAndType 5 29), (0, u "([CIILjava/lang/Void;)V"), (8, .fieldref 10 39), (0, .nameAndType 40 26), (0, u "COMPACT_STRINGS"), (1, .class_ 44), (1, u "java/lang/StringUTF16"), (0, u "compress"), (1, .methodref 42 48), (0, .nameAndType 49 50), (0, u "coderFromArrayLen"), (0, u "([BI)B"), (3, .methodref 55 56), (0, .class_ 57), (0, .nameAndType 58 59), (0, u "java/util/Arrays"), (0, u "copyOfRange"), (0, u "([BII)[B"), (47, .class_ 109), (1, u "java/lang/StringLatin1"), (32, u "()Z"), (34, .methodref 42 178), (0, .nameAndType 45 179), (0, u "([CII)[B"), (13, .class_ 195), (1, u "java/lang/System"), (16, .methodref 193 213), (0, .nameAndType 214 215), (0, u "arraycopy"), (0, u "(Ljava/lang/Object;ILjava/lang/Object;II)V"), (118, u "()I"), (0, .methodref 10 336), (0, .nameAndType 17 337), (0, u "()B"), (2, u "()[B"), (22, u "([BI)C"), (27, u "(II)V"), (35, u "(I)C"), (61, .methodref 10 490), (0, .nameAndType 5 491), (0, u "(Ljava/lang/AbstractStringBuilder;Ljava/lang/Void;)V"), (0, .methodref 10 493), (0, .nameAndType 494 142), (0, u "isLatin1"), (0, .methodref 107 496), (0, .nameAndType 497 363), (0, u "charAt"), (3, u "checkIndex"), (4, .nameAndType 507 334), (0, u "length"), (24, u "getBytes"), (16, .methodref 550 506), (0, .class_ 551), (0, u "java/lang/AbstractStringBuilder"), (0, .methodref 550 553), (0, .nameAndType 554 340), (0, u "getValue"), (20, .class_ 576), (0, u "java/lang/CharSequence"), (22, u "CASE_INSENSITIVE_ORDER"), (0, u "Ljava/util/Comparator;"), (220, u "([BIB)V"), (188, u "([C)V"), (36, .methodref 550 493), (5, .fieldref 1054 1055), (0, .class_ 1056), (0, .nameAndType 1057 1058), (0, u "jdk/internal/util/Preconditions"), (0, u "SIOOBE_FORMATTER"), (0, u "Ljava/util/function/BiFunction;"), (0, .methodref 1054 1060), (0, .nameAndType 501 1061), (0, u "(IILjava/util/function/BiFunction;)I"), (39, u "serialPersistentFields"), (0, u "[Ljava/io/ObjectStreamField;"), (0, .class_ 1104), (0, u "java/lang/String$CaseInsensitiveComparator"), (1, .class_ 1107), (0, u "java/io/Serializable"), (0, .class_ 1109), (0, u "java/lang/Comparable"), (0, .class_ 1111), (0, u "java/lang/constant/Constable"), (0, .class_ 1113), (0, u "java/lang/constant/ConstantDesc"), (2, u "serialVersionUID"), (0, u "J"), (3, u "REPL"), (0, u "C"), (2, u "LATIN1"), (1, u "UTF16"), (105, u "(Ljava/lang/StringBuilder;)V")] 217

def k7m0 : Method := { name := "<init>", desc := "()V", sig := { parameters := [], returnType := none }, accessFlags := 1, code := none }
def k7c1 : Code := { maxStack := 5, maxLocals := 2, code := jdk_42_method_3_code, exceptionTable := #[], attributes := #[] }
def k7m1 : Method := { name := "<init>", desc := "([C)V", sig := { parameters := [(.array .char)], returnType := none }, accessFlags := 1, code := some k7c1 }
def k7c2 : Code := { maxStack := 3, maxLocals := 2, code := jdk_42_method_53_code, exceptionTable := #[], attributes := #[] }
def k7m2 : Method := { name := "<init>", desc := "(Ljava/lang/StringBuilder;)V", sig := { parameters := [(.object "java/lang/StringBuilder")], returnType := none }, accessFlags := 1, code := some k7c2 }
def k7c3 : Code := { maxStack := 2, maxLocals := 1, code := jdk_42_method_54_code, exceptionTable := #[], attributes := #[] }
def k7m3 : Method := { name := "length", desc := "()I", sig := { parameters := [], returnType := some .int }, accessFlags := 1, code := some k7c3 }
def k7c4 : Code := { maxStack := 2, maxLocals := 2, code := jdk_42_method_56_code, exceptionTable := #[], attributes := #[] }
def k7m4 : Method := { name := "charAt", desc := "(I)C", sig := { parameters := [.int], returnType := some .char }, accessFlags := 1, code := some k7c4 }
def k7c5 : Code := { maxStack := 5, maxLocals := 4, code := jdk_42_method_147_code, exceptionTable := #[], attributes := #[] }
def k7m5 : Method := { name := "getBytes", desc := "([BIB)V", sig := { parameters := [(.array .byte), .int, .byte], returnType := none }, accessFlags := 0, code := some k7c5 }
def k7c6 : Code := { maxStack := 4, maxLocals := 6, code := jdk_42_method_149_code, exceptionTable := #[], attributes := #[] }
def k7m6 : Method := { name := "<init>", desc := "([CIILjava/lang/Void;)V", sig := { parameters := [(.array .char), .int, .int, (.object "java/lang/Void")], returnType := none }, accessFlags := 2, code := some k7c6 }
def k7c7 : Code := { maxStack := 5, maxLocals := 5, code := jdk_42_method_150_code, exceptionTable := #[], attributes := #[] }
def k7m7 : Method := { name := "<init>", desc := "(Ljava/lang/AbstractStringBuilder;Ljava/lang/Void;)V", sig := { parameters := [(.object "java/lang/AbstractStringBuilder"), (.object "java/lang/Void")], returnType := none }, accessFlags := 0, code := some k7c7 }
def k7c8 : Code := { maxStack := 1, maxLocals := 1, code := jdk_42_method_152_code, exceptionTable := #[], attributes := #[] }
def k7m8 : Method := { name := "coder", desc := "()B", sig := { parameters := [], returnType := some .byte }, accessFlags := 0, code := some k7c8 }
def k7c9 : Code := { maxStack := 1, maxLocals := 1, code := jdk_42_method_154_code, exceptionTable := #[], attributes := #[] }
def k7m9 : Method := { name := "isLatin1", desc := "()Z", sig := { parameters := [], returnType := some .boolean }, accessFlags := 0, code := some k7c9 }
def k7c10 : Code := { maxStack := 3, maxLocals := 2, code := jdk_42_method_155_code, exceptionTable := #[], attributes := #[] }
def k7m10 : Method := { name := "checkIndex", desc := "(II)V", sig := { parameters := [.int, .int], returnType := none }, accessFlags := 8, code := some k7c10 }
/-- java/lang/String -/
def k7 : Class := { plain "java/lang/String" (some 0) with
  accessFlags := 49
  interfaces := #[2, 3, 4, 5, 6]
  cf := some (fileOf pool7 10 #[.nestMembers #[1103]] #[{ accessFlags := 1, nameIndex := 5, descriptorIndex := 6, attributes := #[] }, { accessFlags := 1, nameIndex := 5, descriptorIndex := 1010, attributes := #[] }, { accessFlags := 1, nameIndex := 5, descriptorIndex := 1233, attributes := #[] }, { accessFlags := 1, nameIndex := 507, descriptorIndex := 334, attributes := #[] }, { accessFlags := 1, nameIndex := 497, descriptorIndex := 427, attributes := #[] }, { accessFlags := 0, nameIndex := 532, descriptorIndex := 821, attributes := #[] }, { accessFlags := 2, nameIndex := 5, descriptorIndex := 29, attributes := #[] }, { accessFlags := 0, nameIndex := 5, descriptorIndex := 491, attributes := #[] }, { accessFlags := 0, nameIndex := 17, descriptorIndex := 337, attributes := #[] }, { accessFlags := 0, nameIndex := 494, descriptorIndex := 142, attributes := #[] }, { accessFlags := 8, nameIndex := 501, descriptorIndex := 391, attributes := #[] }] 49 2 #[1106, 1108, 575, 1110, 1112] #[{ accessFlags := 18, nameIndex := 13, descriptorIndex := 14, attributes := #[] }, { accessFlags := 18, nameIndex := 17, descriptorIndex := 18, attributes := #[] }, { accessFlags := 2, nameIndex := 21, descriptorIndex := 22, attributes := #[] }, { accessFlags := 2, nameIndex := 25, descriptorIndex := 26, attributes := #[] }, { accessFlags := 26, nameIndex := 1116, descriptorIndex := 1117, attributes := #[] }, { accessFlags := 24, nameIndex := 40, descriptorIndex := 26, attributes := #[] }, { accessFlags := 26, nameIndex := 1101, descriptorIndex := 1102, attributes := #[] }, { accessFlags := 26, nameIndex := 1121, descriptorIndex := 1122, attributes := #[] }, { accessFlags := 25, nameIndex := 599, descriptorIndex := 600, attributes := #[] }, { accessFlags := 24, nameIndex := 1125, descriptorIndex := 18, attributes := #[] }, { accessFlags := 24, nameIndex := 1127, descriptorIndex := 18, attributes := #[] }])
  fields := #[{ name := "value", type := (.array .byte), accessFlags := 18, slot := 0, constantValue := 0 }, { name := "coder", type := .byte, accessFlags := 18, slot := 1, constantValue := 0 }, { name := "hash", type := .int, accessFlags := 2, slot := 2, constantValue := 0 }, { name := "hashIsZero", type := .boolean, accessFlags := 2, slot := 3, constantValue := 0 }, { name := "serialVersionUID", type := .long, accessFlags := 26, slot := 0, constantValue := 0 }, { name := "COMPACT_STRINGS", type := .boolean, accessFlags := 24, slot := 1, constantValue := 0 }, { name := "serialPersistentFields", type := (.array (.object "java/io/ObjectStreamField")), accessFlags := 26, slot := 2, constantValue := 0 }, { name := "REPL", type := .char, accessFlags := 26, slot := 3, constantValue := 0 }, { name := "CASE_INSENSITIVE_ORDER", type := (.object "java/util/Comparator"), accessFlags := 25, slot := 4, constantValue := 0 }, { name := "LATIN1", type := .byte, accessFlags := 24, slot := 5, constantValue := 0 }, { name := "UTF16", type := .byte, accessFlags := 24, slot := 6, constantValue := 0 }]
  methods := #[k7m0, k7m1, k7m2, k7m3, k7m4, k7m5, k7m6, k7m7, k7m8, k7m9, k7m10]
  instanceTypes := #[(.array .byte), .byte, .int, .boolean]
  staticTypes := #[.long, .boolean, (.array (.object "java/io/ObjectStreamField")), .char, (.object "java/util/Comparator"), .byte, .byte]
  resolved := Array.replicate 1451 none
  statics := some 0 }

def pool8 : Array CpInfo := pool [(1, .methodref 2 3), (0, .class_ 4), (0, .nameAndType 5 6), (0, u "java/lang/Object"), (0, u "<init>"), (0, u "()V"), (0, .string 8), (0, u "query"), (0, .methodref 10 11), (0, .class_ 12), (0, .nameAndType 13 14), (0, u "java/util/Objects"), (0, u "requireNonNull"), (0, u "(Ljava/lang/Object;Ljava/lang/String;)Ljava/lang/Object;"), (0, .class_ 16), (0, u "java/lang/String"), (0, .fieldref 18 19), (0, .class_ 20), (0, .nameAndType 8 21), (0, u "com/example/tidewire/tidewire/protocol/RestParams"), (0, u "Ljava/lang/String;"), (0, .string 23), (0, u "body"), (0, .fieldref 18 25), (0, .nameAndType 23 21), (0, .class_ 27), (0, u "java/lang/StringBuilder"), (0, .methodref 26 3), (0, .methodref 26 30), (0, .nameAndType 31 32), (0, u "append"), (0, u "(Ljava/lang/String;)Ljava/lang/StringBuilder;"), (0, .methodref 26 34), (0, .nameAndType 35 36), (0, u "toString"), (0, u "()Ljava/lang/String;"), (19, u "signedText"), (25, u "(Ljava/lang/String;Ljava/lang/String;)V")] 24

def k8c0 : Code := { maxStack := 3, maxLocals := 3, code := prog_10_method_1_code, exceptionTable := #[], attributes := #[] }
def k8m0 : Method := { name := "<init>", desc := "(Ljava/lang/String;Ljava/lang/String;)V", sig := { parameters := [(.object "java/lang/String"), (.object "java/lang/String")], returnType := none }, accessFlags := 1, code := some k8c0 }
def k8c1 : Code := { maxStack := 2, maxLocals := 1, code := prog_10_method_4_code, exceptionTable := #[], attributes := #[] }
def k8m1 : Method := { name := "signedText", desc := "()Ljava/lang/String;", sig := { parameters := [], returnType := some (.object "java/lang/String") }, accessFlags := 1, code := some k8c1 }
/-- com/example/tidewire/tidewire/protocol/RestParams -/
def k8 : Class := { plain "com/example/tidewire/tidewire/protocol/RestParams" (some 0) with
  accessFlags := 49
  interfaces := #[]
  cf := some (fileOf pool8 18 #[] #[{ accessFlags := 1, nameIndex := 5, descriptorIndex := 82, attributes := #[] }, { accessFlags := 1, nameIndex := 56, descriptorIndex := 36, attributes := #[] }] 49 2 #[] #[{ accessFlags := 18, nameIndex := 8, descriptorIndex := 21, attributes := #[] }, { accessFlags := 18, nameIndex := 23, descriptorIndex := 21, attributes := #[] }])
  fields := #[{ name := "query", type := (.object "java/lang/String"), accessFlags := 18, slot := 0, constantValue := 0 }, { name := "body", type := (.object "java/lang/String"), accessFlags := 18, slot := 1, constantValue := 0 }]
  methods := #[k8m0, k8m1]
  instanceTypes := #[(.object "java/lang/String"), (.object "java/lang/String")]
  staticTypes := #[]
  resolved := Array.replicate 107 none
  statics := none }

def pool9 : Array CpInfo := pool [(2, .class_ 4), (1, u "java/lang/Object"), (0, u "<init>"), (0, u "()V"), (35, .class_ 44), (1, u "java/util/Objects"), (0, u "requireNonNull"), (48, u "(Ljava/lang/Object;Ljava/lang/String;)Ljava/lang/Object;")] 89

def k9m0 : Method := { name := "<init>", desc := "()V", sig := { parameters := [], returnType := none }, accessFlags := 2, code := none }
def k9c1 : Code := { maxStack := 3, maxLocals := 2, code := jdk_31_method_11_code, exceptionTable := #[], attributes := #[] }
def k9m1 : Method := { name := "requireNonNull", desc := "(Ljava/lang/Object;Ljava/lang/String;)Ljava/lang/Object;", sig := { parameters := [(.object "java/lang/Object"), (.object "java/lang/String")], returnType := some (.object "java/lang/Object") }, accessFlags := 9, code := some k9c1 }
/-- java/util/Objects -/
def k9 : Class := { plain "java/util/Objects" (some 0) with
  accessFlags := 49
  interfaces := #[]
  cf := some (fileOf pool9 42 #[] #[{ accessFlags := 2, nameIndex := 5, descriptorIndex := 6, attributes := #[] }, { accessFlags := 9, nameIndex := 45, descriptorIndex := 94, attributes := #[] }] 49 2 #[] #[])
  fields := #[]
  methods := #[k9m0, k9m1]
  instanceTypes := #[]
  staticTypes := #[]
  resolved := Array.replicate 184 none
  statics := none }

def pool10 : Array CpInfo := pool [(1, .class_ 2), (0, u "java/lang/Appendable"), (0, .class_ 4), (0, u "java/lang/Object")] 9

/-- java/lang/Appendable -/
def k10 : Class := { plain "java/lang/Appendable" (some 0) with
  accessFlags := 1537
  interfaces := #[]
  cf := some (fileOf pool10 1 #[] #[] 1537 3 #[] #[])
  fields := #[]
  methods := #[]
  instanceTypes := #[]
  staticTypes := #[]
  resolved := Array.replicate 14 none
  statics := none }

def pool11 : Array CpInfo := pool [(1, .class_ 2), (0, u "java/lang/String"), (0, .methodref 4 5), (0, .class_ 6), (0, .nameAndType 7 8), (0, u "java/lang/Object"), (0, u "<init>"), (0, u "()V"), (1, .class_ 12), (1, u "java/lang/AbstractStringBuilder"), (0, u "EMPTYVALUE"), (0, u "[B"), (0, .fieldref 10 16), (0, .nameAndType 17 14), (0, u "value"), (0, .fieldref 1 19), (0, .nameAndType 20 21), (0, u "COMPACT_STRINGS"), (0, u "Z"), (0, .fieldref 10 23), (0, .nameAndType 24 25), (0, u "coder"), (0, u "B"), (6, .methodref 1 33), (0, .nameAndType 34 35), (0, u "length"), (0, u "()I"), (4, .methodref 1 41), (0, .nameAndType 24 42), (0, u "()B"), (2, u "append"), (0, u "(Ljava/lang/String;)Ljava/lang/AbstractStringBuilder;"), (1, .class_ 49), (0, u "java/lang/CharSequence"), (19, u "(Ljava/lang/String;)V"), (5, u "maybeLatin1"), (3, .fieldref 10 80), (0, .nameAndType 81 82), (0, u "count"), (0, u "I"), (2, u "isLatin1"), (0, u "()Z"), (13, .methodref 10 101), (0, .nameAndType 102 103), (0, u "ensureCapacityInternal"), (0, u "(I)V"), (104, .methodref 10 209), (0, .nameAndType 210 211), (0, u "putStringAt"), (0, u "(ILjava/lang/String;)V"), (5, u "inflateIfNeededFor"), (2, .nameAndType 221 222), (0, u "getBytes"), (0, u "([BIB)V"), (174, .methodref 10 398), (0, .nameAndType 217 69), (0, .methodref 1 220), (3, u "()[B"), (40, .class_ 445), (0, u "java/lang/Appendable"), (106, u "getValue")] 56

def k11m0 : Method := { name := "<init>", desc := "()V", sig := { parameters := [], returnType := none }, accessFlags := 0, code := none }
def k11c1 : Code := { maxStack := 2, maxLocals := 2, code := jdk_68_method_2_code, exceptionTable := #[], attributes := #[] }
def k11m1 : Method := { name := "<init>", desc := "(I)V", sig := { parameters := [.int], returnType := none }, accessFlags := 0, code := some k11c1 }
def k11c2 : Code := { maxStack := 1, maxLocals := 1, code := jdk_68_method_6_code, exceptionTable := #[], attributes := #[] }
def k11m2 : Method := { name := "length", desc := "()I", sig := { parameters := [], returnType := some .int }, accessFlags := 1, code := some k11c2 }
def k11c3 : Code := { maxStack := 4, maxLocals := 3, code := jdk_68_method_9_code, exceptionTable := #[], attributes := #[] }
def k11m3 : Method := { name := "ensureCapacityInternal", desc := "(I)V", sig := { parameters := [.int], returnType := none }, accessFlags := 2, code := some k11c3 }
def k11c4 : Code := { maxStack := 3, maxLocals := 3, code := jdk_68_method_22_code, exceptionTable := #[], attributes := #[] }
def k11m4 : Method := { name := "append", desc := "(Ljava/lang/String;)Ljava/lang/AbstractStringBuilder;", sig := { parameters := [(.object "java/lang/String")], returnType := some (.object "java/lang/AbstractStringBuilder") }, accessFlags := 1, code := some k11c4 }
def k11c5 : Code := { maxStack := 1, maxLocals := 1, code := jdk_68_method_64_code, exceptionTable := #[], attributes := #[] }
def k11m5 : Method := { name := "getValue", desc := "()[B", sig := { parameters := [], returnType := some (.array .byte) }, accessFlags := 16, code := some k11c5 }
def k11c6 : Code := { maxStack := 1, maxLocals := 1, code := jdk_68_method_68_code, exceptionTable := #[], attributes := #[] }
def k11m6 : Method := { name := "isLatin1", desc := "()Z", sig := { parameters := [], returnType := some .boolean }, accessFlags := 16, code := some k11c6 }
def k11c7 : Code := { maxStack := 2, maxLocals := 2, code := jdk_68_method_71_code, exceptionTable := #[], attributes := #[] }
def k11m7 : Method := { name := "inflateIfNeededFor", desc := "(Ljava/lang/String;)V", sig := { parameters := [(.object "java/lang/String")], returnType := none }, accessFlags := 2, code := some k11c7 }
def k11c8 : Code := { maxStack := 4, maxLocals := 3, code := jdk_68_method_73_code, exceptionTable := #[], attributes := #[] }
def k11m8 : Method := { name := "putStringAt", desc := "(ILjava/lang/String;)V", sig := { parameters := [.int, (.object "java/lang/String")], returnType := none }, accessFlags := 2, code := some k11c8 }
/-- java/lang/AbstractStringBuilder -/
def k11 : Class := { plain "java/lang/AbstractStringBuilder" (some 0) with
  accessFlags := 1056
  interfaces := #[10, 4]
  cf := some (fileOf pool11 10 #[] #[{ accessFlags := 0, nameIndex := 7, descriptorIndex := 8, attributes := #[] }, { accessFlags := 0, nameIndex := 7, descriptorIndex := 103, attributes := #[] }, { accessFlags := 1, nameIndex := 34, descriptorIndex := 35, attributes := #[] }, { accessFlags := 2, nameIndex := 102, descriptorIndex := 103, attributes := #[] }, { accessFlags := 1, nameIndex := 45, descriptorIndex := 46, attributes := #[] }, { accessFlags := 16, nameIndex := 552, descriptorIndex := 403, attributes := #[] }, { accessFlags := 16, nameIndex := 85, descriptorIndex := 86, attributes := #[] }, { accessFlags := 2, nameIndex := 217, descriptorIndex := 69, attributes := #[] }, { accessFlags := 2, nameIndex := 210, descriptorIndex := 211, attributes := #[] }] 1056 4 #[444, 48] #[{ accessFlags := 0, nameIndex := 17, descriptorIndex := 14, attributes := #[] }, { accessFlags := 0, nameIndex := 24, descriptorIndex := 25, attributes := #[] }, { accessFlags := 0, nameIndex := 75, descriptorIndex := 21, attributes := #[] }, { accessFlags := 0, nameIndex := 81, descriptorIndex := 82, attributes := #[] }, { accessFlags := 26, nameIndex := 13, descriptorIndex := 14, attributes := #[] }])
  fields := #[{ name := "value", type := (.array .byte), accessFlags := 0, slot := 0, constantValue := 0 }, { name := "coder", type := .byte, accessFlags := 0, slot := 1, constantValue := 0 }, { name := "maybeLatin1", type := .boolean, accessFlags := 0, slot := 2, constantValue := 0 }, { name := "count", type := .int, accessFlags := 0, slot := 3, constantValue := 0 }, { name := "EMPTYVALUE", type := (.array .byte), accessFlags := 26, slot := 0, constantValue := 0 }]
  methods := #[k11m0, k11m1, k11m2, k11m3, k11m4, k11m5, k11m6, k11m7, k11m8]
  instanceTypes := #[(.array .byte), .byte, .boolean, .int]
  staticTypes := #[(.array .byte)]
  resolved := Array.replicate 609 none
  statics := none }

def pool12 : Array CpInfo := pool [(1, .methodref 2 3), (0, .class_ 4), (0, .nameAndType 5 6), (0, u "java/lang/AbstractStringBuilder"), (0, u "<init>"), (0, u "(I)V"), (11, .class_ 20), (1, u "java/lang/String"), (3, .class_ 26), (1, u "java/lang/StringBuilder"), (0, u "append"), (0, u "(Ljava/lang/String;)Ljava/lang/StringBuilder;"), (0, .methodref 2 30), (0, .nameAndType 27 31), (0, u "(Ljava/lang/String;)Ljava/lang/AbstractStringBuilder;"), (105, .methodref 18 138), (0, .nameAndType 5 139), (0, u "(Ljava/lang/StringBuilder;)V"), (5, u "()V"), (10, u "()I"), (186, .methodref 2 344), (0, .nameAndType 345 156), (0, u "length"), (3, .class_ 350), (0, u "java/lang/Appendable"), (0, .class_ 352), (0, u "java/io/Serializable"), (0, .class_ 354), (0, u "java/lang/Comparable"), (0, .class_ 356), (0, u "java/lang/CharSequence"), (0, u "serialVersionUID"), (0, u "J"), (40, u "toString"), (0, u "()Ljava/lang/String;")] 21

def k12c0 : Code := { maxStack := 2, maxLocals := 1, code := jdk_67_method_1_code, exceptionTable := #[], attributes := #[] }
def k12m0 : Method := { name := "<init>", desc := "()V", sig := { parameters := [], returnType := none }, accessFlags := 1, code := some k12c0 }
def k12c1 : Code := { maxStack := 2, maxLocals := 2, code := jdk_67_method_7_code, exceptionTable := #[], attributes := #[] }
def k12m1 : Method := { name := "append", desc := "(Ljava/lang/String;)Ljava/lang/StringBuilder;", sig := { parameters := [(.object "java/lang/String")], returnType := some (.object "java/lang/StringBuilder") }, accessFlags := 1, code := some k12c1 }
def k12c2 : Code := { maxStack := 3, maxLocals := 1, code := jdk_67_method_42_code, exceptionTable := #[], attributes := #[] }
def k12m2 : Method := { name := "toString", desc := "()Ljava/lang/String;", sig := { parameters := [], returnType := some (.object "java/lang/String") }, accessFlags := 1, code := some k12c2 }
def k12c3 : Code := { maxStack := 1, maxLocals := 1, code := jdk_67_method_93_code, exceptionTable := #[], attributes := #[] }
def k12m3 : Method := { name := "length", desc := "()I", sig := { parameters := [], returnType := some .int }, accessFlags := 4161, code := some k12c3 }
/-- java/lang/StringBuilder -/
def k12 : Class := { plain "java/lang/StringBuilder" (some 11) with
  accessFlags := 49
  interfaces := #[10, 2, 3, 4]
  cf := some (fileOf pool12 24 #[] #[{ accessFlags := 1, nameIndex := 5, descriptorIndex := 145, attributes := #[] }, { accessFlags := 1, nameIndex := 27, descriptorIndex := 28, attributes := #[] }, { accessFlags := 1, nameIndex := 399, descriptorIndex := 400, attributes := #[] }, { accessFlags := 4161, nameIndex := 345, descriptorIndex := 156, attributes := #[] }] 49 2 #[349, 351, 353, 355] #[{ accessFlags := 24, nameIndex := 357, descriptorIndex := 358, attributes := #[] }])
  fields := #[{ name := "serialVersionUID", type := .long, accessFlags := 24, slot := 0, constantValue := 0 }]
  methods := #[k12m0, k12m1, k12m2, k12m3]
  instanceTypes := #[(.array .byte), .byte, .boolean, .int]
  staticTypes := #[.long]
  resolved := Array.replicate 422 none
  statics := none }

def pool13 : Array CpInfo := pool [(2, .class_ 4), (1, u "java/lang/Object"), (0, u "<init>"), (0, u "()V"), (1, .class_ 10), (1, u "java/lang/System"), (0, u "allowSecurityManager"), (0, u "I"), (16, u "cons"), (0, u "Ljava/io/Console;"), (77, .class_ 110), (1, u "java/lang/System$CallersHolder"), (43, u "initialErrStream"), (0, u "Ljava/io/PrintStream;"), (19, u "security"), (0, u "Ljava/lang/SecurityManager;"), (31, .class_ 209), (0, u "java/lang/System$1"), (7, u "props"), (0, u "Ljava/util/Properties;"), (2, u "lineSeparator"), (0, u "Ljava/lang/String;"), (96, .class_ 321), (1, u "java/lang/System$LoggerFinder"), (5, .class_ 328), (0, u "java/lang/System$Logger"), (67, u "err"), (2, u "out"), (91, u "notSupportedJnuEncoding"), (15, u "in"), (17, u "initialIn"), (0, u "Ljava/io/InputStream;"), (35, u "bootLayer"), (0, u "Ljava/lang/ModuleLayer;"), (99, .class_ 664), (0, u "java/lang/System$2"), (9, u "NEVER"), (2, u "MAYBE"), (49, u "arraycopy"), (0, u "(Ljava/lang/Object;ILjava/lang/Object;II)V"), (72, .class_ 802), (0, u "java/lang/System$Logger$Level")] 31

def k13m0 : Method := { name := "<init>", desc := "()V", sig := { parameters := [], returnType := none }, accessFlags := 2, code := none }
def k13m1 : Method := { name := "arraycopy", desc := "(Ljava/lang/Object;ILjava/lang/Object;II)V", sig := { parameters := [(.object "java/lang/Object"), .int, (.object "java/lang/Object"), .int, .int], returnType := none }, accessFlags := 265, code := none }
/-- java/lang/System -/
def k13 : Class := { plain "java/lang/System" (some 0) with
  accessFlags := 49
  interfaces := #[]
  cf := some (fileOf pool13 8 #[.nestMembers #[319, 327, 801, 108, 663, 208]] #[{ accessFlags := 2, nameIndex := 5, descriptorIndex := 6, attributes := #[] }, { accessFlags := 265, nameIndex := 727, descriptorIndex := 728, attributes := #[] }] 49 2 #[] #[{ accessFlags := 25, nameIndex := 507, descriptorIndex := 526, attributes := #[] }, { accessFlags := 25, nameIndex := 399, descriptorIndex := 155, attributes := #[] }, { accessFlags := 25, nameIndex := 396, descriptorIndex := 155, attributes := #[] }, { accessFlags := 10, nameIndex := 525, descriptorIndex := 526, attributes := #[] }, { accessFlags := 26, nameIndex := 674, descriptorIndex := 12, attributes := #[] }, { accessFlags := 26, nameIndex := 677, descriptorIndex := 12, attributes := #[] }, { accessFlags := 10, nameIndex := 11, descriptorIndex := 12, attributes := #[] }, { accessFlags := 74, nameIndex := 175, descriptorIndex := 176, attributes := #[] }, { accessFlags := 10, nameIndex := 491, descriptorIndex := 222, attributes := #[] }, { accessFlags := 74, nameIndex := 29, descriptorIndex := 30, attributes := #[] }, { accessFlags := 74, nameIndex := 154, descriptorIndex := 155, attributes := #[] }, { accessFlags := 10, nameIndex := 217, descriptorIndex := 218, attributes := #[] }, { accessFlags := 10, nameIndex := 221, descriptorIndex := 222, attributes := #[] }, { accessFlags := 8, nameIndex := 562, descriptorIndex := 563, attributes := #[] }])
  fields := #[{ name := "in", type := (.object "java/io/InputStream"), accessFlags := 25, slot := 0, constantValue := 0 }, { name := "out", type := (.object "java/io/PrintStream"), accessFlags := 25, slot := 1, constantValue := 0 }, { name := "err", type := (.object "java/io/PrintStream"), accessFlags := 25, slot := 2, constantValue := 0 }, { name := "initialIn", type := (.object "java/io/InputStream"), accessFlags := 10, slot := 3, constantValue := 0 }, { name := "NEVER", type := .int, accessFlags := 26, slot := 4, constantValue := 0 }, { name := "MAYBE", type := .int, accessFlags := 26, slot := 5, constantValue := 0 }, { name := "allowSecurityManager", type := .int, accessFlags := 10, slot := 6, constantValue := 0 }, { name := "security", type := (.object "java/lang/SecurityManager"), accessFlags := 74, slot := 7, constantValue := 0 }, { name := "notSupportedJnuEncoding", type := (.object "java/lang/String"), accessFlags := 10, slot := 8, constantValue := 0 }, { name := "cons", type := (.object "java/io/Console"), accessFlags := 74, slot := 9, constantValue := 0 }, { name := "initialErrStream", type := (.object "java/io/PrintStream"), accessFlags := 74, slot := 10, constantValue := 0 }, { name := "props", type := (.object "java/util/Properties"), accessFlags := 10, slot := 11, constantValue := 0 }, { name := "lineSeparator", type := (.object "java/lang/String"), accessFlags := 10, slot := 12, constantValue := 0 }, { name := "bootLayer", type := (.object "java/lang/ModuleLayer"), accessFlags := 8, slot := 13, constantValue := 0 }]
  methods := #[k13m0, k13m1]
  instanceTypes := #[]
  staticTypes := #[(.object "java/io/InputStream"), (.object "java/io/PrintStream"), (.object "java/io/PrintStream"), (.object "java/io/InputStream"), .int, .int, .int, (.object "java/lang/SecurityManager"), (.object "java/lang/String"), (.object "java/io/Console"), (.object "java/io/PrintStream"), (.object "java/util/Properties"), (.object "java/lang/String"), (.object "java/lang/ModuleLayer")]
  resolved := Array.replicate 834 none
  statics := none }

def pool14 : Array CpInfo := pool [(2, .class_ 4), (1, u "java/lang/Object"), (0, u "<init>"), (0, u "()V"), (7, .class_ 16), (1, u "java/util/Arrays"), (57, .class_ 76), (1, u "java/util/Arrays$NaturalOrder"), (36, .class_ 115), (1, u "java/util/Arrays$LegacyMergeSort"), (1, u "Z"), (21, u "copyOfRange"), (10, .methodref 151 152), (0, .class_ 153), (0, .nameAndType 154 155), (0, u "java/lang/System"), (0, u "arraycopy"), (0, u "(Ljava/lang/Object;ILjava/lang/Object;II)V"), (148, .methodref 305 306), (0, .class_ 307), (0, .nameAndType 308 309), (0, u "java/lang/Math"), (0, u "min"), (0, u "(II)I"), (29, .methodref 14 340), (0, .nameAndType 341 342), (0, u "copyOfRangeByte"), (0, u "([BII)[B"), (0, .methodref 14 344), (0, .nameAndType 345 346), (0, u "checkLength"), (0, u "(II)V"), (28, .class_ 376), (0, u "java/util/Arrays$ArrayList"), (68, u "$assertionsDisabled"), (269, u "MIN_ARRAY_SORT_GRAN"), (0, u "I"), (2, u "INSERTIONSORT_THRESHOLD"), (255, .class_ 976), (0, u "java/util/Arrays$ArrayItr")] 52

def k14m0 : Method := { name := "<init>", desc := "()V", sig := { parameters := [], returnType := none }, accessFlags := 2, code := none }
def k14c1 : Code := { maxStack := 4, maxLocals := 2, code := jdk_65_method_131_code, exceptionTable := #[], attributes := #[] }
def k14m1 : Method := { name := "checkLength", desc := "(II)V", sig := { parameters := [.int, .int], returnType := none }, accessFlags := 10, code := some k14c1 }
def k14c2 : Code := { maxStack := 3, maxLocals := 3, code := jdk_65_method_132_code, exceptionTable := #[], attributes := #[] }
def k14m2 : Method := { name := "copyOfRange", desc := "([BII)[B", sig := { parameters := [(.array .byte), .int, .int], returnType := some (.array .byte) }, accessFlags := 9, code := some k14c2 }
def k14c3 : Code := { maxStack := 6, maxLocals := 5, code := jdk_65_method_133_code, exceptionTable := #[], attributes := #[] }
def k14m3 : Method := { name := "copyOfRangeByte", desc := "([BII)[B", sig := { parameters := [(.array .byte), .int, .int], returnType := some (.array .byte) }, accessFlags := 10, code := some k14c3 }
/-- java/util/Arrays -/
def k14 : Class := { plain "java/util/Arrays" (some 0) with
  accessFlags := 49
  interfaces := #[]
  cf := some (fileOf pool14 14 #[.nestMembers #[975, 375, 113, 74]] #[{ accessFlags := 2, nameIndex := 5, descriptorIndex := 6, attributes := #[] }, { accessFlags := 10, nameIndex := 345, descriptorIndex := 346, attributes := #[] }, { accessFlags := 9, nameIndex := 139, descriptorIndex := 342, attributes := #[] }, { accessFlags := 10, nameIndex := 341, descriptorIndex := 342, attributes := #[] }] 49 2 #[] #[{ accessFlags := 26, nameIndex := 715, descriptorIndex := 716, attributes := #[] }, { accessFlags := 26, nameIndex := 719, descriptorIndex := 716, attributes := #[] }, { accessFlags := 4120, nameIndex := 445, descriptorIndex := 117, attributes := #[] }])
  fields := #[{ name := "MIN_ARRAY_SORT_GRAN", type := .int, accessFlags := 26, slot := 0, constantValue := 0 }, { name := "INSERTIONSORT_THRESHOLD", type := .int, accessFlags := 26, slot := 1, constantValue := 0 }, { name := "$assertionsDisabled", type := .boolean, accessFlags := 4120, slot := 2, constantValue := 0 }]
  methods := #[k14m0, k14m1, k14m2, k14m3]
  instanceTypes := #[]
  staticTypes := #[.int, .int, .boolean]
  resolved := Array.replicate 1029 none
  statics := none }

def pool15 : Array CpInfo := pool [(1, .class_ 2), (0, u "java/lang/Math"), (1, .class_ 6), (1, u "java/lang/Object"), (0, u "<init>"), (0, u "()V"), (89, .class_ 100), (1, u "java/lang/Math$RandomNumberGeneratorHolder"), (71, u "negativeZeroFloatBits"), (0, u "J"), (2, u "negativeZeroDoubleBits"), (24, u "min"), (43, u "$assertionsDisabled"), (0, u "Z"), (88, u "(II)I"), (2, u "twoToTheDoubleScaleDown"), (0, u "D"), (4, u "twoToTheDoubleScaleUp"), (9, u "E"), (3, u "PI"), (2, u "TAU"), (2, u "DEGREES_TO_RADIANS"), (0, u "RADIANS_TO_DEGREES")] 94

def k15m0 : Method := { name := "<init>", desc := "()V", sig := { parameters := [], returnType := none }, accessFlags := 2, code := none }
def k15c1 : Code := { maxStack := 2, maxLocals := 2, code := jdk_29_method_69_code, exceptionTable := #[], attributes := #[] }
def k15m1 : Method := { name := "min", desc := "(II)I", sig := { parameters := [.int, .int], returnType := some .int }, accessFlags := 9, code := some k15c1 }
/-- java/lang/Math -/
def k15 : Class := { plain "java/lang/Math" (some 0) with
  accessFlags := 49
  interfaces := #[]
  cf := some (fileOf pool15 1 #[.nestMembers #[98]] #[{ accessFlags := 2, nameIndex := 7, descriptorIndex := 8, attributes := #[] }, { accessFlags := 9, nameIndex := 201, descriptorIndex := 335, attributes := #[] }] 49 4 #[] #[{ accessFlags := 25, nameIndex := 354, descriptorIndex := 339, attributes := #[] }, { accessFlags := 25, nameIndex := 358, descriptorIndex := 339, attributes := #[] }, { accessFlags := 25, nameIndex := 361, descriptorIndex := 339, attributes := #[] }, { accessFlags := 26, nameIndex := 364, descriptorIndex := 339, attributes := #[] }, { accessFlags := 26, nameIndex := 365, descriptorIndex := 339, attributes := #[] }, { accessFlags := 26, nameIndex := 172, descriptorIndex := 173, attributes := #[] }, { accessFlags := 26, nameIndex := 176, descriptorIndex := 173, attributes := #[] }, { accessFlags := 8, nameIndex := 344, descriptorIndex := 339, attributes := #[] }, { accessFlags := 8, nameIndex := 338, descriptorIndex := 339, attributes := #[] }, { accessFlags := 4120, nameIndex := 245, descriptorIndex := 246, attributes := #[] }])
  fields := #[{ name := "E", type := .double, accessFlags := 25, slot := 0, constantValue := 0 }, { name := "PI", type := .double, accessFlags := 25, slot := 1, constantValue := 0 }, { name := "TAU", type := .double, accessFlags := 25, slot := 2, constantValue := 0 }, { name := "DEGREES_TO_RADIANS", type := .double, accessFlags := 26, slot := 3, constantValue := 0 }, { name := "RADIANS_TO_DEGREES", type := .double, accessFlags := 26, slot := 4, constantValue := 0 }, { name := "negativeZeroFloatBits", type := .long, accessFlags := 26, slot := 5, constantValue := 0 }, { name := "negativeZeroDoubleBits", type := .long, accessFlags := 26, slot := 6, constantValue := 0 }, { name := "twoToTheDoubleScaleUp", type := .double, accessFlags := 8, slot := 7, constantValue := 0 }, { name := "twoToTheDoubleScaleDown", type := .double, accessFlags := 8, slot := 8, constantValue := 0 }, { name := "$assertionsDisabled", type := .boolean, accessFlags := 4120, slot := 9, constantValue := 0 }]
  methods := #[k15m0, k15m1]
  instanceTypes := #[]
  staticTypes := #[.double, .double, .double, .double, .double, .long, .long, .double, .double, .boolean]
  resolved := Array.replicate 460 none
  statics := none }

def pool16 : Array CpInfo := pool [(6, .class_ 8), (1, u "java/lang/Object"), (0, u "<init>"), (0, u "()V"), (1, .class_ 14), (1, u "java/lang/StringUTF16"), (31, u "$assertionsDisabled"), (0, u "Z"), (13, u "HI_BYTE_SHIFT"), (0, u "I"), (2, u "LO_BYTE_SHIFT"), (49, .methodref 12 116), (0, .nameAndType 117 118), (0, u "compress"), (0, u "([CI[BII)I"), (3, u "([CII)[B"), (138, u "coderFromArrayLen"), (0, u "([BI)B"), (106, .class_ 371), (1, u "java/lang/StringUTF16$LinesSpliterator"), (58, u "MAX_LENGTH"), (196, .class_ 628), (0, u "java/lang/StringUTF16$CodePointsSpliterator"), (0, .class_ 630), (0, u "java/lang/StringUTF16$CharsSpliterator")] 4

def k16m0 : Method := { name := "<init>", desc := "()V", sig := { parameters := [], returnType := none }, accessFlags := 0, code := none }
def k16c1 : Code := { maxStack := 2, maxLocals := 2, code := jdk_52_method_15_code, exceptionTable := #[], attributes := #[] }
def k16m1 : Method := { name := "coderFromArrayLen", desc := "([BI)B", sig := { parameters := [(.array .byte), .int], returnType := some .byte }, accessFlags := 8, code := some k16c1 }
def k16c2 : Code := { maxStack := 5, maxLocals := 6, code := jdk_52_method_16_code, exceptionTable := #[], attributes := #[] }
def k16m2 : Method := { name := "compress", desc := "([CII)[B", sig := { parameters := [(.array .char), .int, .int], returnType := some (.array .byte) }, accessFlags := 9, code := some k16c2 }
def k16c3 : Code := { maxStack := 3, maxLocals := 7, code := jdk_52_method_21_code, exceptionTable := #[], attributes := #[] }
def k16m3 : Method := { name := "compress", desc := "([CI[BII)I", sig := { parameters := [(.array .char), .int, (.array .byte), .int, .int], returnType := some .int }, accessFlags := 9, code := some k16c3 }
/-- java/lang/StringUTF16 -/
def k16 : Class := { plain "java/lang/StringUTF16" (some 0) with
  accessFlags := 48
  interfaces := #[]
  cf := some (fileOf pool16 12 #[.nestMembers #[627, 629, 369]] #[{ accessFlags := 0, nameIndex := 9, descriptorIndex := 10, attributes := #[] }, { accessFlags := 8, nameIndex := 261, descriptorIndex := 262, attributes := #[] }, { accessFlags := 9, nameIndex := 117, descriptorIndex := 122, attributes := #[] }, { accessFlags := 9, nameIndex := 117, descriptorIndex := 118, attributes := #[] }] 48 6 #[] #[{ accessFlags := 26, nameIndex := 61, descriptorIndex := 62, attributes := #[] }, { accessFlags := 26, nameIndex := 65, descriptorIndex := 62, attributes := #[] }, { accessFlags := 24, nameIndex := 430, descriptorIndex := 62, attributes := #[] }, { accessFlags := 4120, nameIndex := 46, descriptorIndex := 47, attributes := #[] }])
  fields := #[{ name := "HI_BYTE_SHIFT", type := .int, accessFlags := 26, slot := 0, constantValue := 0 }, { name := "LO_BYTE_SHIFT", type := .int, accessFlags := 26, slot := 1, constantValue := 0 }, { name := "MAX_LENGTH", type := .int, accessFlags := 24, slot := 2, constantValue := 0 }, { name := "$assertionsDisabled", type := .boolean, accessFlags := 4120, slot := 3, constantValue := 0 }]
  methods := #[k16m0, k16m1, k16m2, k16m3]
  instanceTypes := #[]
  staticTypes := #[.int, .int, .int, .boolean]
  resolved := Array.replicate 635 none
  statics := none }

def pool17 : Array CpInfo := pool [(1, .class_ 2), (0, u "java/lang/String"), (1, .class_ 6), (1, u "java/lang/Object"), (0, u "<init>"), (0, u "()V"), (0, .methodref 1 10), (0, .nameAndType 11 12), (0, u "checkIndex"), (0, u "(II)V"), (1, .class_ 16), (1, u "java/lang/StringLatin1"), (36, u "([BI)C"), (67, u "$assertionsDisabled"), (0, u "Z"), (98, .class_ 223), (1, u "java/lang/StringLatin1$LinesSpliterator"), (28, u "charAt"), (137, .class_ 391), (0, u "java/lang/StringLatin1$CharsSpliterator")] 3

def k17m0 : Method := { name := "<init>", desc := "()V", sig := { parameters := [], returnType := none }, accessFlags := 0, code := none }
def k17c1 : Code := { maxStack := 2, maxLocals := 2, code := jdk_43_method_2_code, exceptionTable := #[], attributes := #[] }
def k17m1 : Method := { name := "charAt", desc := "([BI)C", sig := { parameters := [(.array .byte), .int], returnType := some .char }, accessFlags := 9, code := some k17c1 }
/-- java/lang/StringLatin1 -/
def k17 : Class := { plain "java/lang/StringLatin1" (some 0) with
  accessFlags := 48
  interfaces := #[]
  cf := some (fileOf pool17 14 #[.nestMembers #[390, 221]] #[{ accessFlags := 0, nameIndex := 7, descriptorIndex := 8, attributes := #[] }, { accessFlags := 9, nameIndex := 252, descriptorIndex := 53, attributes := #[] }] 48 4 #[] #[{ accessFlags := 4120, nameIndex := 121, descriptorIndex := 122, attributes := #[] }])
  fields := #[{ name := "$assertionsDisabled", type := .boolean, accessFlags := 4120, slot := 0, constantValue := 0 }]
  methods := #[k17m0, k17m1]
  instanceTypes := #[]
  staticTypes := #[.boolean]
  resolved := Array.replicate 395 none
  statics := none }

def pool18 : Array CpInfo := pool [(2, .class_ 4), (1, u "java/lang/Object"), (0, u "<init>"), (0, u "()V"), (17, .class_ 26), (1, u "jdk/internal/util/Preconditions"), (6, u "checkIndex"), (21, .class_ 56), (0, u "jdk/internal/util/Preconditions$4"), (57, .class_ 115), (0, u "jdk/internal/util/Preconditions$1"), (7, u "SIOOBE_FORMATTER"), (0, u "Ljava/util/function/BiFunction;"), (0, .class_ 126), (0, u "jdk/internal/util/Preconditions$2"), (3, u "AIOOBE_FORMATTER"), (0, .class_ 132), (0, u "jdk/internal/util/Preconditions$3"), (3, u "IOOBE_FORMATTER"), (41, u "(IILjava/util/function/BiFunction;)I")] 15

def k18m0 : Method := { name := "<init>", desc := "()V", sig := { parameters := [], returnType := none }, accessFlags := 1, code := none }
def k18c1 : Code := { maxStack := 3, maxLocals := 3, code := jdk_41_method_11_code, exceptionTable := #[], attributes := #[] }
def k18m1 : Method := { name := "checkIndex", desc := "(IILjava/util/function/BiFunction;)I", sig := { parameters := [.int, .int, (.object "java/util/function/BiFunction")], returnType := some .int }, accessFlags := 9, code := some k18c1 }
/-- jdk/internal/util/Preconditions -/
def k18 : Class := { plain "jdk/internal/util/Preconditions" (some 0) with
  accessFlags := 33
  interfaces := #[]
  cf := some (fileOf pool18 24 #[.nestMembers #[55, 131, 125, 114]] #[{ accessFlags := 1, nameIndex := 5, descriptorIndex := 6, attributes := #[] }, { accessFlags := 9, nameIndex := 33, descriptorIndex := 178, attributes := #[] }] 33 2 #[] #[{ accessFlags := 25, nameIndex := 123, descriptorIndex := 124, attributes := #[] }, { accessFlags := 25, nameIndex := 130, descriptorIndex := 124, attributes := #[] }, { accessFlags := 25, nameIndex := 136, descriptorIndex := 124, attributes := #[] }])
  fields := #[{ name := "SIOOBE_FORMATTER", type := (.object "java/util/function/BiFunction"), accessFlags := 25, slot := 0, constantValue := 0 }, { name := "AIOOBE_FORMATTER", type := (.object "java/util/function/BiFunction"), accessFlags := 25, slot := 1, constantValue := 0 }, { name := "IOOBE_FORMATTER", type := (.object "java/util/function/BiFunction"), accessFlags := 25, slot := 2, constantValue := 0 }]
  methods := #[k18m0, k18m1]
  instanceTypes := #[]
  staticTypes := #[(.object "java/util/function/BiFunction"), (.object "java/util/function/BiFunction"), (.object "java/util/function/BiFunction")]
  resolved := Array.replicate 194 none
  statics := some 1 }

def pool19 : Array CpInfo := pool [(9, u "<init>"), (6, .class_ 18), (1, u "java/lang/Object"), (0, u "()V"), (1, .class_ 23), (1, u "jdk/internal/util/ArraysSupport"), (0, u "LOG2_ARRAY_LONG_INDEX_SCALE"), (0, u "I"), (2, u "U"), (0, u "Ljdk/internal/misc/Unsafe;"), (8, u "BIG_ENDIAN"), (0, u "Z"), (8, u "LOG2_BYTE_BIT_SIZE"), (4, u "LOG2_ARRAY_INT_INDEX_SCALE"), (54, u "JLA"), (0, u "Ljdk/internal/access/JavaLangAccess;"), (11, u "LOG2_ARRAY_BOOLEAN_INDEX_SCALE"), (9, u "LOG2_ARRAY_BYTE_INDEX_SCALE"), (5, u "LOG2_ARRAY_CHAR_INDEX_SCALE"), (5, u "LOG2_ARRAY_SHORT_INDEX_SCALE"), (18, u "LOG2_ARRAY_FLOAT_INDEX_SCALE"), (24, u "LOG2_ARRAY_DOUBLE_INDEX_SCALE"), (89, u "T_BOOLEAN"), (2, u "T_CHAR"), (1, u "T_FLOAT"), (1, u "T_DOUBLE"), (1, u "T_BYTE"), (1, u "T_SHORT"), (1, u "T_INT"), (1, u "T_LONG"), (1, u "SOFT_MAX_ARRAY_LENGTH")] 83

def k19m0 : Method := { name := "<init>", desc := "()V", sig := { parameters := [], returnType := none }, accessFlags := 2, code := none }
/-- jdk/internal/util/ArraysSupport -/
def k19 : Class := { plain "jdk/internal/util/ArraysSupport" (some 0) with
  accessFlags := 33
  interfaces := #[]
  cf := some (fileOf pool19 21 #[] #[{ accessFlags := 2, nameIndex := 9, descriptorIndex := 19, attributes := #[] }] 33 16 #[] #[{ accessFlags := 24, nameIndex := 28, descriptorIndex := 29, attributes := #[] }, { accessFlags := 26, nameIndex := 38, descriptorIndex := 39, attributes := #[] }, { accessFlags := 25, nameIndex := 121, descriptorIndex := 25, attributes := #[] }, { accessFlags := 25, nameIndex := 131, descriptorIndex := 25, attributes := #[] }, { accessFlags := 25, nameIndex := 137, descriptorIndex := 25, attributes := #[] }, { accessFlags := 25, nameIndex := 143, descriptorIndex := 25, attributes := #[] }, { accessFlags := 25, nameIndex := 53, descriptorIndex := 25, attributes := #[] }, { accessFlags := 25, nameIndex := 24, descriptorIndex := 25, attributes := #[] }, { accessFlags := 25, nameIndex := 162, descriptorIndex := 25, attributes := #[] }, { accessFlags := 25, nameIndex := 187, descriptorIndex := 25, attributes := #[] }, { accessFlags := 26, nameIndex := 48, descriptorIndex := 25, attributes := #[] }, { accessFlags := 25, nameIndex := 277, descriptorIndex := 25, attributes := #[] }, { accessFlags := 25, nameIndex := 280, descriptorIndex := 25, attributes := #[] }, { accessFlags := 25, nameIndex := 282, descriptorIndex := 25, attributes := #[] }, { accessFlags := 25, nameIndex := 284, descriptorIndex := 25, attributes := #[] }, { accessFlags := 25, nameIndex := 286, descriptorIndex := 25, attributes := #[] }, { accessFlags := 25, nameIndex := 288, descriptorIndex := 25, attributes := #[] }, { accessFlags := 25, nameIndex := 290, descriptorIndex := 25, attributes := #[] }, { accessFlags := 25, nameIndex := 292, descriptorIndex := 25, attributes := #[] }, { accessFlags := 26, nameIndex := 108, descriptorIndex := 109, attributes := #[] }, { accessFlags := 25, nameIndex := 294, descriptorIndex := 25, attributes := #[] }])
  fields := #[{ name := "U", type := (.object "jdk/internal/misc/Unsafe"), accessFlags := 24, slot := 0, constantValue := 0 }, { name := "BIG_ENDIAN", type := .boolean, accessFlags := 26, slot := 1, constantValue := 0 }, { name := "LOG2_ARRAY_BOOLEAN_INDEX_SCALE", type := .int, accessFlags := 25, slot := 2, constantValue := 0 }, { name := "LOG2_ARRAY_BYTE_INDEX_SCALE", type := .int, accessFlags := 25, slot := 3, constantValue := 0 }, { name := "LOG2_ARRAY_CHAR_INDEX_SCALE", type := .int, accessFlags := 25, slot := 4, constantValue := 0 }, { name := "LOG2_ARRAY_SHORT_INDEX_SCALE", type := .int, accessFlags := 25, slot := 5, constantValue := 0 }, { name := "LOG2_ARRAY_INT_INDEX_SCALE", type := .int, accessFlags := 25, slot := 6, constantValue := 0 }, { name := "LOG2_ARRAY_LONG_INDEX_SCALE", type := .int, accessFlags := 25, slot := 7, constantValue := 0 }, { name := "LOG2_ARRAY_FLOAT_INDEX_SCALE", type := .int, accessFlags := 25, slot := 8, constantValue := 0 }, { name := "LOG2_ARRAY_DOUBLE_INDEX_SCALE", type := .int, accessFlags := 25, slot := 9, constantValue := 0 }, { name := "LOG2_BYTE_BIT_SIZE", type := .int, accessFlags := 26, slot := 10, constantValue := 0 }, { name := "T_BOOLEAN", type := .int, accessFlags := 25, slot := 11, constantValue := 0 }, { name := "T_CHAR", type := .int, accessFlags := 25, slot := 12, constantValue := 0 }, { name := "T_FLOAT", type := .int, accessFlags := 25, slot := 13, constantValue := 0 }, { name := "T_DOUBLE", type := .int, accessFlags := 25, slot := 14, constantValue := 0 }, { name := "T_BYTE", type := .int, accessFlags := 25, slot := 15, constantValue := 0 }, { name := "T_SHORT", type := .int, accessFlags := 25, slot := 16, constantValue := 0 }, { name := "T_INT", type := .int, accessFlags := 25, slot := 17, constantValue := 0 }, { name := "T_LONG", type := .int, accessFlags := 25, slot := 18, constantValue := 0 }, { name := "JLA", type := (.object "jdk/internal/access/JavaLangAccess"), accessFlags := 26, slot := 19, constantValue := 0 }, { name := "SOFT_MAX_ARRAY_LENGTH", type := .int, accessFlags := 25, slot := 20, constantValue := 0 }]
  methods := #[k19m0]
  instanceTypes := #[]
  staticTypes := #[(.object "jdk/internal/misc/Unsafe"), .boolean, .int, .int, .int, .int, .int, .int, .int, .int, .int, .int, .int, .int, .int, .int, .int, .int, .int, (.object "jdk/internal/access/JavaLangAccess"), .int]
  resolved := Array.replicate 378 none
  statics := none }

def pool20 : Array CpInfo := pool [(1, u "java/lang/Cloneable"), (0, .class_ 1), (0, u "java/lang/Object"), (0, .class_ 3)] 3

/-- java/lang/Cloneable -/
def k20 : Class := { plain "java/lang/Cloneable" (some 0) with
  accessFlags := 1537
  interfaces := #[]
  cf := some (fileOf pool20 2 #[] #[] 1537 4 #[] #[])
  fields := #[]
  methods := #[]
  instanceTypes := #[]
  staticTypes := #[]
  resolved := Array.replicate 8 none
  statics := none }

/-- the primitive byte -/
def k21 : Class := { plain "byte" none with kind := .primitive 'B', accessFlags := 0x411 }
/-- [B -/
def k22 : Class := { plain "[B" (some 0) with kind := .array 21 .byte, interfaces := #[20, 2], accessFlags := 1041 }

/-- the primitive char -/
def k23 : Class := { plain "char" none with kind := .primitive 'C', accessFlags := 0x411 }
/-- [C -/
def k24 : Class := { plain "[C" (some 0) with kind := .array 23 .char, interfaces := #[20, 2], accessFlags := 1041 }

/-- the primitive int -/
def k25 : Class := { plain "int" none with kind := .primitive 'I', accessFlags := 0x411 }
/-- [I -/
def k26 : Class := { plain "[I" (some 0) with kind := .array 25 .int, interfaces := #[20, 2], accessFlags := 1041 }

def heap : Heap := #[{ cls := 7, slots := #[.long 0, .int 1, .null, .int 0, .null, .int 0, .int 0], vm := .statics 7 },
  { cls := 18, slots := #[.null, .null, .null], vm := .statics 18 }]
def classes : Array Class := #[k0, k1, k2, k3, k4, k5, k6, k7, k8, k9, k10, k11, k12, k13, k14, k15, k16, k17, k18, k19, k20, k21, k22, k23, k24, k25, k26]
def interned : List (Array UInt16 × Addr) := []
def slotsUsed : Nat := 10
def theMethod : MethodId := ⟨1, 5⟩
def args0 : Array Value := #[.int 5, .int 7]
def aboutOver (below : List Frame) : State where
  vm := { classes := classes, interned := interned.toArray }
  heap := heap
  slotsUsed := slotsUsed
  threads := #[{ frames := .invoking theMethod args0 :: below }]
def below0 : List Frame := [.native { method := ⟨0, 0⟩, args := #[] }]
def about1 : State := aboutOver below0
def p0 : Program := .bare "" "" ""
def e0 : Env := launch0.env 0 0 0
theorem w_frames : about1.frames = Frame.invoking theMethod args0 :: below0 := rfl
set_option maxRecDepth 65536 in
theorem w_args : argsFit about1.vm theMethod args0 = true := by decide +kernel
set_option maxRecDepth 65536 in
theorem w_heap : heapFits about1 = true := by decide +kernel
set_option maxRecDepth 65536 in
theorem w_runnable : about1.curStatus? = some .runnable := by decide +kernel
set_option maxRecDepth 65536 in
theorem w_alone : about1.alone = true := by decide +kernel
set_option maxRecDepth 65536 in
theorem w_named : about1.methodNamed? x = some theMethod := by decide +kernel
set_option maxRecDepth 65536 in
theorem w_hears : about1.hears theMethod below0 = true := by decide +kernel
set_option maxRecDepth 65536 in
theorem w_ripe : about1.ripe theMethod args0 below0 = true := by decide +kernel
theorem w_running : about1.status = .running := rfl
set_option maxRecDepth 65536 in
theorem w_room : about1.hasRoom e0.platform room_1 = true :=
  launch0.hasRoom_least _ room_1 (by decide +kernel) (by decide +kernel) (by decide +kernel) (by decide +kernel) (by decide +kernel) (by decide +kernel)
theorem allAtoms_all (ts : List Jvm.Cond) (a : Array Jvm.Value) (st : Jvm.State) : (allAtoms ts).before a st = ts.all (fun c => c.before a st) := by
  induction ts with
  | nil => rfl
  | cons c t ih =>
    show (Jvm.Cond.and c (allAtoms t)).before a st = _
    rw [Jvm.Cond.before_and, ih, List.all_cons]
def words1 : List Jvm.Cond := Jvm.Cond.code x code maxLocals ret :: tables_1
/-- a 'code' word, met by the world's own term for the bytes: nothing is compared byte by byte -/
theorem code_word {y : MethodName} {bytes : ByteArray} {mx : Nat} {rt : Option FieldType} {a : Array Value} {s : State} {m : MethodId} {meth : Method} {c : Code} (h1 : s.methodNamed? y = some m) (h2 : s.vm.method? m = some meth) (h3 : meth.code = some c) (h4 : c.code = bytes)
    (h5 : (c.maxLocals == mx && c.exceptionTable.isEmpty && decide (c.maxStack ≤ mostOperands) && decide (meth.sig.returnType = rt) && !meth.locks && decide (parseMethodDescriptor y.desc = some meth.sig)) = true) : (Jvm.Cond.code y bytes mx rt).before a s = true := by
  simp only [Bool.and_eq_true, beq_iff_eq, Bool.not_eq_true', decide_eq_true_eq] at h5
  obtain ⟨⟨⟨⟨⟨g1, g2⟩, g3⟩, g4⟩, g5⟩, g6⟩ := h5
  simp [Cond.before, Cond.holds, Cond.value, h1, h2, h3, h4, g1, g2, g3, g4, g5, g6]
def isCode : Jvm.Cond → Bool
  | .code _ _ _ _ => true
  | _ => false
theorem all_split {L : List Jvm.Cond} {P : Jvm.Cond → Bool} (h1 : L.all (fun c => isCode c || P c) = true) (h2 : ∀ c ∈ L.filter isCode, P c = true) : L.all P = true := by
  refine List.all_eq_true.mpr fun c hc => ?_
  have h := List.all_eq_true.mp h1 c hc
  rcases Bool.eq_false_or_eq_true (isCode c) with hi | hi
  · exact h2 c (List.mem_filter.mpr ⟨hc, hi⟩)
  · simpa [hi] using h
set_option maxRecDepth 65536 in
theorem w_c0 : (Jvm.Cond.code x code maxLocals ret).before args0 about1 = true := code_word (m := ⟨1, 5⟩) (meth := k1m5) (c := k1c5) (by decide +kernel) rfl rfl rfl (by decide +kernel)
set_option maxRecDepth 65536 in
theorem w_c1 : (Jvm.Cond.code ({ cls := "com/example/tidewire/tidewire/protocol/RestParamsSignedTextPinLaw", name := "draw", desc := "(I)Ljava/lang/String;" } : Jvm.MethodName) method_2_code (5 : Nat) (Option.some (Jvm.ClassFile.FieldType.object "java/lang/String"))).before args0 about1 = true := code_word (m := ⟨1, 1⟩) (meth := k1m1) (c := k1c1) (by decide +kernel) rfl rfl rfl (by decide +kernel)
set_option maxRecDepth 65536 in
theorem w_c2 : (Jvm.Cond.code ({ cls := "java/lang/String", name := "<init>", desc := "([C)V" } : Jvm.MethodName) jdk_42_method_3_code (2 : Nat) (Option.none : Option Jvm.ClassFile.FieldType)).before args0 about1 = true := code_word (m := ⟨7, 1⟩) (meth := k7m1) (c := k7c1) (by decide +kernel) rfl rfl rfl (by decide +kernel)
set_option maxRecDepth 65536 in
theorem w_c3 : (Jvm.Cond.code ({ cls := "java/lang/String", name := "<init>", desc := "([CIILjava/lang/Void;)V" } : Jvm.MethodName) jdk_42_method_149_code (6 : Nat) (Option.none : Option Jvm.ClassFile.FieldType)).before args0 about1 = true := code_word (m := ⟨7, 6⟩) (meth := k7m6) (c := k7c6) (by decide +kernel) rfl rfl rfl (by decide +kernel)
set_option maxRecDepth 65536 in
theorem w_c4 : (Jvm.Cond.code ({ cls := "java/lang/Object", name := "<init>", desc := "()V" } : Jvm.MethodName) object_method_1_code (1 : Nat) (Option.none : Option Jvm.ClassFile.FieldType)).before args0 about1 = true := code_word (m := ⟨0, 0⟩) (meth := k0m0) (c := k0c0) (by decide +kernel) rfl rfl rfl (by decide +kernel)
set_option maxRecDepth 65536 in
theorem w_c5 : (Jvm.Cond.code ({ cls := "com/example/tidewire/tidewire/protocol/RestParams", name := "<init>", desc := "(Ljava/lang/String;Ljava/lang/String;)V" } : Jvm.MethodName) prog_10_method_1_code (3 : Nat) (Option.none : Option Jvm.ClassFile.FieldType)).before args0 about1 = true := code_word (m := ⟨8, 0⟩) (meth := k8m0) (c := k8c0) (by decide +kernel) rfl rfl rfl (by decide +kernel)
set_option maxRecDepth 65536 in
theorem w_c6 : (Jvm.Cond.code ({ cls := "java/util/Objects", name := "requireNonNull", desc := "(Ljava/lang/Object;Ljava/lang/String;)Ljava/lang/Object;" } : Jvm.MethodName) jdk_31_method_11_code (2 : Nat) (Option.some (Jvm.ClassFile.FieldType.object "java/lang/Object"))).before args0 about1 = true := code_word (m := ⟨9, 1⟩) (meth := k9m1) (c := k9c1) (by decide +kernel) rfl rfl rfl (by decide +kernel)
set_option maxRecDepth 65536 in
theorem w_c7 : (Jvm.Cond.code ({ cls := "com/example/tidewire/tidewire/protocol/RestParams", name := "signedText", desc := "()Ljava/lang/String;" } : Jvm.MethodName) prog_10_method_4_code (1 : Nat) (Option.some (Jvm.ClassFile.FieldType.object "java/lang/String"))).before args0 about1 = true := code_word (m := ⟨8, 1⟩) (meth := k8m1) (c := k8c1) (by decide +kernel) rfl rfl rfl (by decide +kernel)
set_option maxRecDepth 65536 in
theorem w_c8 : (Jvm.Cond.code ({ cls := "java/lang/StringBuilder", name := "<init>", desc := "()V" } : Jvm.MethodName) jdk_67_method_1_code (1 : Nat) (Option.none : Option Jvm.ClassFile.FieldType)).before args0 about1 = true := code_word (m := ⟨12, 0⟩) (meth := k12m0) (c := k12c0) (by decide +kernel) rfl rfl rfl (by decide +kernel)
set_option maxRecDepth 65536 in
theorem w_c9 : (Jvm.Cond.code ({ cls := "java/lang/AbstractStringBuilder", name := "<init>", desc := "(I)V" } : Jvm.MethodName) jdk_68_method_2_code (2 : Nat) (Option.none : Option Jvm.ClassFile.FieldType)).before args0 about1 = true := code_word (m := ⟨11, 1⟩) (meth := k11m1) (c := k11c1) (by decide +kernel) rfl rfl rfl (by decide +kernel)
set_option maxRecDepth 65536 in
theorem w_c10 : (Jvm.Cond.code ({ cls := "java/lang/StringBuilder", name := "append", desc := "(Ljava/lang/String;)Ljava/lang/StringBuilder;" } : Jvm.MethodName) jdk_67_method_7_code (2 : Nat) (Option.some (Jvm.ClassFile.FieldType.object "java/lang/StringBuilder"))).before args0 about1 = true := code_word (m := ⟨12, 1⟩) (meth := k12m1) (c := k12c1) (by decide +kernel) rfl rfl rfl (by decide +kernel)
set_option maxRecDepth 65536 in
theorem w_c11 : (Jvm.Cond.code ({ cls := "java/lang/AbstractStringBuilder", name := "append", desc := "(Ljava/lang/String;)Ljava/lang/AbstractStringBuilder;" } : Jvm.MethodName) jdk_68_method_22_code (3 : Nat) (Option.some (Jvm.ClassFile.FieldType.object "java/lang/AbstractStringBuilder"))).before args0 about1 = true := code_word (m := ⟨11, 4⟩) (meth := k11m4) (c := k11c4) (by decide +kernel) rfl rfl rfl (by decide +kernel)
set_option maxRecDepth 65536 in
theorem w_c12 : (Jvm.Cond.code ({ cls := "java/lang/String", name := "length", desc := "()I" } : Jvm.MethodName) jdk_42_method_54_code (1 : Nat) (Option.some Jvm.ClassFile.FieldType.int)).before args0 about1 = true := code_word (m := ⟨7, 3⟩) (meth := k7m3) (c := k7c3) (by decide +kernel) rfl rfl rfl (by decide +kernel)
set_option maxRecDepth 65536 in
theorem w_c13 : (Jvm.Cond.code ({ cls := "java/lang/String", name := "coder", desc := "()B" } : Jvm.MethodName) jdk_42_method_152_code (1 : Nat) (Option.some Jvm.ClassFile.FieldType.byte)).before args0 about1 = true := code_word (m := ⟨7, 8⟩) (meth := k7m8) (c := k7c8) (by decide +kernel) rfl rfl rfl (by decide +kernel)
set_option maxRecDepth 65536 in
theorem w_c14 : (Jvm.Cond.code ({ cls := "java/lang/AbstractStringBuilder", name := "ensureCapacityInternal", desc := "(I)V" } : Jvm.MethodName) jdk_68_method_9_code (3 : Nat) (Option.none : Option Jvm.ClassFile.FieldType)).before args0 about1 = true := code_word (m := ⟨11, 3⟩) (meth := k11m3) (c := k11c3) (by decide +kernel) rfl rfl rfl (by decide +kernel)
set_option maxRecDepth 65536 in
theorem w_c15 : (Jvm.Cond.code ({ cls := "java/lang/AbstractStringBuilder", name := "putStringAt", desc := "(ILjava/lang/String;)V" } : Jvm.MethodName) jdk_68_method_73_code (3 : Nat) (Option.none : Option Jvm.ClassFile.FieldType)).before args0 about1 = true := code_word (m := ⟨11, 8⟩) (meth := k11m8) (c := k11c8) (by decide +kernel) rfl rfl rfl (by decide +kernel)
set_option maxRecDepth 65536 in
theorem w_c16 : (Jvm.Cond.code ({ cls := "java/lang/AbstractStringBuilder", name := "inflateIfNeededFor", desc := "(Ljava/lang/String;)V" } : Jvm.MethodName) jdk_68_method_71_code (2 : Nat) (Option.none : Option Jvm.ClassFile.FieldType)).before args0 about1 = true := code_word (m := ⟨11, 7⟩) (meth := k11m7) (c := k11c7) (by decide +kernel) rfl rfl rfl (by decide +kernel)
set_option maxRecDepth 65536 in
theorem w_c17 : (Jvm.Cond.code ({ cls := "java/lang/String", name := "getBytes", desc := "([BIB)V" } : Jvm.MethodName) jdk_42_method_147_code (4 : Nat) (Option.none : Option Jvm.ClassFile.FieldType)).before args0 about1 = true := code_word (m := ⟨7, 5⟩) (meth := k7m5) (c := k7c5) (by decide +kernel) rfl rfl rfl (by decide +kernel)
set_option maxRecDepth 65536 in
theorem w_c18 : (Jvm.Cond.code ({ cls := "java/lang/StringBuilder", name := "toString", desc := "()Ljava/lang/String;" } : Jvm.MethodName) jdk_67_method_42_code (1 : Nat) (Option.some (Jvm.ClassFile.FieldType.object "java/lang/String"))).before args0 about1 = true := code_word (m := ⟨12, 2⟩) (meth := k12m2) (c := k12c2) (by decide +kernel) rfl rfl rfl (by decide +kernel)
set_option maxRecDepth 65536 in
theorem w_c19 : (Jvm.Cond.code ({ cls := "java/lang/String", name := "<init>", desc := "(Ljava/lang/StringBuilder;)V" } : Jvm.MethodName) jdk_42_method_53_code (2 : Nat) (Option.none : Option Jvm.ClassFile.FieldType)).before args0 about1 = true := code_word (m := ⟨7, 2⟩) (meth := k7m2) (c := k7c2) (by decide +kernel) rfl rfl rfl (by decide +kernel)
set_option maxRecDepth 65536 in
theorem w_c20 : (Jvm.Cond.code ({ cls := "java/lang/String", name := "<init>", desc := "(Ljava/lang/AbstractStringBuilder;Ljava/lang/Void;)V" } : Jvm.MethodName) jdk_42_method_150_code (5 : Nat) (Option.none : Option Jvm.ClassFile.FieldType)).before args0 about1 = true := code_word (m := ⟨7, 7⟩) (meth := k7m7) (c := k7c7) (by decide +kernel) rfl rfl rfl (by decide +kernel)
set_option maxRecDepth 65536 in
theorem w_c21 : (Jvm.Cond.code ({ cls := "java/lang/AbstractStringBuilder", name := "getValue", desc := "()[B" } : Jvm.MethodName) jdk_68_method_64_code (1 : Nat) (Option.some (Jvm.ClassFile.FieldType.array Jvm.ClassFile.FieldType.byte))).before args0 about1 = true := code_word (m := ⟨11, 5⟩) (meth := k11m5) (c := k11c5) (by decide +kernel) rfl rfl rfl (by decide +kernel)
set_option maxRecDepth 65536 in
theorem w_c22 : (Jvm.Cond.code ({ cls := "java/lang/StringBuilder", name := "length", desc := "()I" } : Jvm.MethodName) jdk_67_method_93_code (1 : Nat) (Option.some Jvm.ClassFile.FieldType.int)).before args0 about1 = true := code_word (m := ⟨12, 3⟩) (meth := k12m3) (c := k12c3) (by decide +kernel) rfl rfl rfl (by decide +kernel)
set_option maxRecDepth 65536 in
theorem w_c23 : (Jvm.Cond.code ({ cls := "java/lang/AbstractStringBuilder", name := "length", desc := "()I" } : Jvm.MethodName) jdk_68_method_6_code (1 : Nat) (Option.some Jvm.ClassFile.FieldType.int)).before args0 about1 = true := code_word (m := ⟨11, 2⟩) (meth := k11m2) (c := k11c2) (by decide +kernel) rfl rfl rfl (by decide +kernel)
set_option maxRecDepth 65536 in
theorem w_c24 : (Jvm.Cond.code ({ cls := "java/lang/AbstractStringBuilder", name := "isLatin1", desc := "()Z" } : Jvm.MethodName) jdk_68_method_68_code (1 : Nat) (Option.some Jvm.ClassFile.FieldType.boolean)).before args0 about1 = true := code_word (m := ⟨11, 6⟩) (meth := k11m6) (c := k11c6) (by decide +kernel) rfl rfl rfl (by decide +kernel)
set_option maxRecDepth 65536 in
theorem w_c25 : (Jvm.Cond.code ({ cls := "java/util/Arrays", name := "copyOfRange", desc := "([BII)[B" } : Jvm.MethodName) jdk_65_method_132_code (3 : Nat) (Option.some (Jvm.ClassFile.FieldType.array Jvm.ClassFile.FieldType.byte))).before args0 about1 = true := code_word (m := ⟨14, 2⟩) (meth := k14m2) (c := k14c2) (by decide +kernel) rfl rfl rfl (by decide +kernel)
set_option maxRecDepth 65536 in
theorem w_c26 : (Jvm.Cond.code ({ cls := "java/util/Arrays", name := "copyOfRangeByte", desc := "([BII)[B" } : Jvm.MethodName) jdk_65_method_133_code (5 : Nat) (Option.some (Jvm.ClassFile.FieldType.array Jvm.ClassFile.FieldType.byte))).before args0 about1 = true := code_word (m := ⟨14, 3⟩) (meth := k14m3) (c := k14c3) (by decide +kernel) rfl rfl rfl (by decide +kernel)
set_option maxRecDepth 65536 in
theorem w_c27 : (Jvm.Cond.code ({ cls := "java/util/Arrays", name := "checkLength", desc := "(II)V" } : Jvm.MethodName) jdk_65_method_131_code (2 : Nat) (Option.none : Option Jvm.ClassFile.FieldType)).before args0 about1 = true := code_word (m := ⟨14, 1⟩) (meth := k14m1) (c := k14c1) (by decide +kernel) rfl rfl rfl (by decide +kernel)
set_option maxRecDepth 65536 in
theorem w_c28 : (Jvm.Cond.code ({ cls := "java/lang/Math", name := "min", desc := "(II)I" } : Jvm.MethodName) jdk_29_method_69_code (2 : Nat) (Option.some Jvm.ClassFile.FieldType.int)).before args0 about1 = true := code_word (m := ⟨15, 1⟩) (meth := k15m1) (c := k15c1) (by decide +kernel) rfl rfl rfl (by decide +kernel)
set_option maxRecDepth 65536 in
theorem w_c29 : (Jvm.Cond.code ({ cls := "com/example/tidewire/tidewire/protocol/RestParamsSignedTextPinLaw", name := "same", desc := "(Ljava/lang/String;Ljava/lang/String;Ljava/lang/String;I)Z" } : Jvm.MethodName) method_5_code (4 : Nat) (Option.some Jvm.ClassFile.FieldType.boolean)).before args0 about1 = true := code_word (m := ⟨1, 4⟩) (meth := k1m4) (c := k1c4) (by decide +kernel) rfl rfl rfl (by decide +kernel)
set_option maxRecDepth 65536 in
theorem w_c30 : (Jvm.Cond.code ({ cls := "com/example/tidewire/tidewire/protocol/RestParamsSignedTextPinLaw", name := "actualAt", desc := "(Ljava/lang/String;I)I" } : Jvm.MethodName) method_4_code (2 : Nat) (Option.some Jvm.ClassFile.FieldType.int)).before args0 about1 = true := code_word (m := ⟨1, 3⟩) (meth := k1m3) (c := k1c3) (by decide +kernel) rfl rfl rfl (by decide +kernel)
set_option maxRecDepth 65536 in
theorem w_c31 : (Jvm.Cond.code ({ cls := "com/example/tidewire/tidewire/protocol/RestParamsSignedTextPinLaw", name := "expectedAt", desc := "(Ljava/lang/String;Ljava/lang/String;I)I" } : Jvm.MethodName) method_3_code (4 : Nat) (Option.some Jvm.ClassFile.FieldType.int)).before args0 about1 = true := code_word (m := ⟨1, 2⟩) (meth := k1m2) (c := k1c2) (by decide +kernel) rfl rfl rfl (by decide +kernel)
set_option maxRecDepth 65536 in
theorem w_c32 : (Jvm.Cond.code ({ cls := "java/lang/StringUTF16", name := "compress", desc := "([CII)[B" } : Jvm.MethodName) jdk_52_method_16_code (6 : Nat) (Option.some (Jvm.ClassFile.FieldType.array Jvm.ClassFile.FieldType.byte))).before args0 about1 = true := code_word (m := ⟨16, 2⟩) (meth := k16m2) (c := k16c2) (by decide +kernel) rfl rfl rfl (by decide +kernel)
set_option maxRecDepth 65536 in
theorem w_c33 : (Jvm.Cond.code ({ cls := "java/lang/StringUTF16", name := "compress", desc := "([CI[BII)I" } : Jvm.MethodName) jdk_52_method_21_code (7 : Nat) (Option.some Jvm.ClassFile.FieldType.int)).before args0 about1 = true := code_word (m := ⟨16, 3⟩) (meth := k16m3) (c := k16c3) (by decide +kernel) rfl rfl rfl (by decide +kernel)
set_option maxRecDepth 65536 in
theorem w_c34 : (Jvm.Cond.code ({ cls := "java/lang/StringUTF16", name := "coderFromArrayLen", desc := "([BI)B" } : Jvm.MethodName) jdk_52_method_15_code (2 : Nat) (Option.some Jvm.ClassFile.FieldType.byte)).before args0 about1 = true := code_word (m := ⟨16, 1⟩) (meth := k16m1) (c := k16c1) (by decide +kernel) rfl rfl rfl (by decide +kernel)
set_option maxRecDepth 65536 in
theorem w_c35 : (Jvm.Cond.code ({ cls := "java/lang/String", name := "charAt", desc := "(I)C" } : Jvm.MethodName) jdk_42_method_56_code (2 : Nat) (Option.some Jvm.ClassFile.FieldType.char)).before args0 about1 = true := code_word (m := ⟨7, 4⟩) (meth := k7m4) (c := k7c4) (by decide +kernel) rfl rfl rfl (by decide +kernel)
set_option maxRecDepth 65536 in
theorem w_c36 : (Jvm.Cond.code ({ cls := "java/lang/String", name := "isLatin1", desc := "()Z" } : Jvm.MethodName) jdk_42_method_154_code (1 : Nat) (Option.some Jvm.ClassFile.FieldType.boolean)).before args0 about1 = true := code_word (m := ⟨7, 9⟩) (meth := k7m9) (c := k7c9) (by decide +kernel) rfl rfl rfl (by decide +kernel)
set_option maxRecDepth 65536 in
theorem w_c37 : (Jvm.Cond.code ({ cls := "java/lang/StringLatin1", name := "charAt", desc := "([BI)C" } : Jvm.MethodName) jdk_43_method_2_code (2 : Nat) (Option.some Jvm.ClassFile.FieldType.char)).before args0 about1 = true := code_word (m := ⟨17, 1⟩) (meth := k17m1) (c := k17c1) (by decide +kernel) rfl rfl rfl (by decide +kernel)
set_option maxRecDepth 65536 in
theorem w_c38 : (Jvm.Cond.code ({ cls := "java/lang/String", name := "checkIndex", desc := "(II)V" } : Jvm.MethodName) jdk_42_method_155_code (2 : Nat) (Option.none : Option Jvm.ClassFile.FieldType)).before args0 about1 = true := code_word (m := ⟨7, 10⟩) (meth := k7m10) (c := k7c10) (by decide +kernel) rfl rfl rfl (by decide +kernel)
set_option maxRecDepth 65536 in
theorem w_c39 : (Jvm.Cond.code ({ cls := "jdk/internal/util/Preconditions", name := "checkIndex", desc := "(IILjava/util/function/BiFunction;)I" } : Jvm.MethodName) jdk_41_method_11_code (3 : Nat) (Option.some Jvm.ClassFile.FieldType.int)).before args0 about1 = true := code_word (m := ⟨18, 1⟩) (meth := k18m1) (c := k18c1) (by decide +kernel) rfl rfl rfl (by decide +kernel)
def codes1 : List Jvm.Cond := [Jvm.Cond.code x code maxLocals ret, Jvm.Cond.code ({ cls := "com/example/tidewire/tidewire/protocol/RestParamsSignedTextPinLaw", name := "draw", desc := "(I)Ljava/lang/String;" } : Jvm.MethodName) method_2_code (5 : Nat) (Option.some (Jvm.ClassFile.FieldType.object "java/lang/String")), Jvm.Cond.code ({ cls := "java/lang/String", name := "<init>", desc := "([C)V" } : Jvm.MethodName) jdk_42_method_3_code (2 : Nat) (Option.none : Option Jvm.ClassFile.FieldType), Jvm.Cond.code ({ cls := "java/lang/String", name := "<init>", desc := "([CIILjava/lang/Void;)V" } : Jvm.MethodName) jdk_42_method_149_code (6 : Nat) (Option.none : Option Jvm.ClassFile.FieldType), Jvm.Cond.code ({ cls := "java/lang/Object", name := "<init>", desc := "()V" } : Jvm.MethodName) object_method_1_code (1 : Nat) (Option.none : Option Jvm.ClassFile.FieldType), Jvm.Cond.code ({ cls := "com/example/tidewire/tidewire/protocol/RestParams", name := "<init>", desc := "(Ljava/lang/String;Ljava/lang/String;)V" } : Jvm.MethodName) prog_10_method_1_code (3 : Nat) (Option.none : Option Jvm.ClassFile.FieldType), Jvm.Cond.code ({ cls := "java/util/Objects", name := "requireNonNull", desc := "(Ljava/lang/Object;Ljava/lang/String;)Ljava/lang/Object;" } : Jvm.MethodName) jdk_31_method_11_code (2 : Nat) (Option.some (Jvm.ClassFile.FieldType.object "java/lang/Object")), Jvm.Cond.code ({ cls := "com/example/tidewire/tidewire/protocol/RestParams", name := "signedText", desc := "()Ljava/lang/String;" } : Jvm.MethodName) prog_10_method_4_code (1 : Nat) (Option.some (Jvm.ClassFile.FieldType.object "java/lang/String")), Jvm.Cond.code ({ cls := "java/lang/StringBuilder", name := "<init>", desc := "()V" } : Jvm.MethodName) jdk_67_method_1_code (1 : Nat) (Option.none : Option Jvm.ClassFile.FieldType), Jvm.Cond.code ({ cls := "java/lang/AbstractStringBuilder", name := "<init>", desc := "(I)V" } : Jvm.MethodName) jdk_68_method_2_code (2 : Nat) (Option.none : Option Jvm.ClassFile.FieldType), Jvm.Cond.code ({ cls := "java/lang/StringBuilder", name := "append", desc := "(Ljava/lang/String;)Ljava/lang/StringBuilder;" } : Jvm.MethodName) jdk_67_method_7_code (2 : Nat) (Option.some (Jvm.ClassFile.FieldType.object "java/lang/StringBuilder")), Jvm.Cond.code ({ cls := "java/lang/AbstractStringBuilder", name := "append", desc := "(Ljava/lang/String;)Ljava/lang/AbstractStringBuilder;" } : Jvm.MethodName) jdk_68_method_22_code (3 : Nat) (Option.some (Jvm.ClassFile.FieldType.object "java/lang/AbstractStringBuilder")), Jvm.Cond.code ({ cls := "java/lang/String", name := "length", desc := "()I" } : Jvm.MethodName) jdk_42_method_54_code (1 : Nat) (Option.some Jvm.ClassFile.FieldType.int), Jvm.Cond.code ({ cls := "java/lang/String", name := "coder", desc := "()B" } : Jvm.MethodName) jdk_42_method_152_code (1 : Nat) (Option.some Jvm.ClassFile.FieldType.byte), Jvm.Cond.code ({ cls := "java/lang/AbstractStringBuilder", name := "ensureCapacityInternal", desc := "(I)V" } : Jvm.MethodName) jdk_68_method_9_code (3 : Nat) (Option.none : Option Jvm.ClassFile.FieldType), Jvm.Cond.code ({ cls := "java/lang/AbstractStringBuilder", name := "putStringAt", desc := "(ILjava/lang/String;)V" } : Jvm.MethodName) jdk_68_method_73_code (3 : Nat) (Option.none : Option Jvm.ClassFile.FieldType), Jvm.Cond.code ({ cls := "java/lang/AbstractStringBuilder", name := "inflateIfNeededFor", desc := "(Ljava/lang/String;)V" } : Jvm.MethodName) jdk_68_method_71_code (2 : Nat) (Option.none : Option Jvm.ClassFile.FieldType), Jvm.Cond.code ({ cls := "java/lang/String", name := "getBytes", desc := "([BIB)V" } : Jvm.MethodName) jdk_42_method_147_code (4 : Nat) (Option.none : Option Jvm.ClassFile.FieldType), Jvm.Cond.code ({ cls := "java/lang/StringBuilder", name := "toString", desc := "()Ljava/lang/String;" } : Jvm.MethodName) jdk_67_method_42_code (1 : Nat) (Option.some (Jvm.ClassFile.FieldType.object "java/lang/String")), Jvm.Cond.code ({ cls := "java/lang/String", name := "<init>", desc := "(Ljava/lang/StringBuilder;)V" } : Jvm.MethodName) jdk_42_method_53_code (2 : Nat) (Option.none : Option Jvm.ClassFile.FieldType), Jvm.Cond.code ({ cls := "java/lang/String", name := "<init>", desc := "(Ljava/lang/AbstractStringBuilder;Ljava/lang/Void;)V" } : Jvm.MethodName) jdk_42_method_150_code (5 : Nat) (Option.none : Option Jvm.ClassFile.FieldType), Jvm.Cond.code ({ cls := "java/lang/AbstractStringBuilder", name := "getValue", desc := "()[B" } : Jvm.MethodName) jdk_68_method_64_code (1 : Nat) (Option.some (Jvm.ClassFile.FieldType.array Jvm.ClassFile.FieldType.byte)), Jvm.Cond.code ({ cls := "java/lang/StringBuilder", name := "length", desc := "()I" } : Jvm.MethodName) jdk_67_method_93_code (1 : Nat) (Option.some Jvm.ClassFile.FieldType.int), Jvm.Cond.code ({ cls := "java/lang/AbstractStringBuilder", name := "length", desc := "()I" } : Jvm.MethodName) jdk_68_method_6_code (1 : Nat) (Option.some Jvm.ClassFile.FieldType.int), Jvm.Cond.code ({ cls := "java/lang/AbstractStringBuilder", name := "isLatin1", desc := "()Z" } : Jvm.MethodName) jdk_68_method_68_code (1 : Nat) (Option.some Jvm.ClassFile.FieldType.boolean), Jvm.Cond.code ({ cls := "java/util/Arrays", name := "copyOfRange", desc := "([BII)[B" } : Jvm.MethodName) jdk_65_method_132_code (3 : Nat) (Option.some (Jvm.ClassFile.FieldType.array Jvm.ClassFile.FieldType.byte)), Jvm.Cond.code ({ cls := "java/util/Arrays", name := "copyOfRangeByte", desc := "([BII)[B" } : Jvm.MethodName) jdk_65_method_133_code (5 : Nat) (Option.some (Jvm.ClassFile.FieldType.array Jvm.ClassFile.FieldType.byte)), Jvm.Cond.code ({ cls := "java/util/Arrays", name := "checkLength", desc := "(II)V" } : Jvm.MethodName) jdk_65_method_131_code (2 : Nat) (Option.none : Option Jvm.ClassFile.FieldType), Jvm.Cond.code ({ cls := "java/lang/Math", name := "min", desc := "(II)I" } : Jvm.MethodName) jdk_29_method_69_code (2 : Nat) (Option.some Jvm.ClassFile.FieldType.int), Jvm.Cond.code ({ cls := "com/example/tidewire/tidewire/protocol/RestParamsSignedTextPinLaw", name := "same", desc := "(Ljava/lang/String;Ljava/lang/String;Ljava/lang/String;I)Z" } : Jvm.MethodName) method_5_code (4 : Nat) (Option.some Jvm.ClassFile.FieldType.boolean), Jvm.Cond.code ({ cls := "com/example/tidewire/tidewire/protocol/RestParamsSignedTextPinLaw", name := "actualAt", desc := "(Ljava/lang/String;I)I" } : Jvm.MethodName) method_4_code (2 : Nat) (Option.some Jvm.ClassFile.FieldType.int), Jvm.Cond.code ({ cls := "com/example/tidewire/tidewire/protocol/RestParamsSignedTextPinLaw", name := "expectedAt", desc := "(Ljava/lang/String;Ljava/lang/String;I)I" } : Jvm.MethodName) method_3_code (4 : Nat) (Option.some Jvm.ClassFile.FieldType.int), Jvm.Cond.code ({ cls := "java/lang/StringUTF16", name := "compress", desc := "([CII)[B" } : Jvm.MethodName) jdk_52_method_16_code (6 : Nat) (Option.some (Jvm.ClassFile.FieldType.array Jvm.ClassFile.FieldType.byte)), Jvm.Cond.code ({ cls := "java/lang/StringUTF16", name := "compress", desc := "([CI[BII)I" } : Jvm.MethodName) jdk_52_method_21_code (7 : Nat) (Option.some Jvm.ClassFile.FieldType.int), Jvm.Cond.code ({ cls := "java/lang/StringUTF16", name := "coderFromArrayLen", desc := "([BI)B" } : Jvm.MethodName) jdk_52_method_15_code (2 : Nat) (Option.some Jvm.ClassFile.FieldType.byte), Jvm.Cond.code ({ cls := "java/lang/String", name := "charAt", desc := "(I)C" } : Jvm.MethodName) jdk_42_method_56_code (2 : Nat) (Option.some Jvm.ClassFile.FieldType.char), Jvm.Cond.code ({ cls := "java/lang/String", name := "isLatin1", desc := "()Z" } : Jvm.MethodName) jdk_42_method_154_code (1 : Nat) (Option.some Jvm.ClassFile.FieldType.boolean), Jvm.Cond.code ({ cls := "java/lang/StringLatin1", name := "charAt", desc := "([BI)C" } : Jvm.MethodName) jdk_43_method_2_code (2 : Nat) (Option.some Jvm.ClassFile.FieldType.char), Jvm.Cond.code ({ cls := "java/lang/String", name := "checkIndex", desc := "(II)V" } : Jvm.MethodName) jdk_42_method_155_code (2 : Nat) (Option.none : Option Jvm.ClassFile.FieldType), Jvm.Cond.code ({ cls := "jdk/internal/util/Preconditions", name := "checkIndex", desc := "(IILjava/util/function/BiFunction;)I" } : Jvm.MethodName) jdk_41_method_11_code (3 : Nat) (Option.some Jvm.ClassFile.FieldType.int)]
set_option maxRecDepth 65536 in
theorem codes_eq : words1.filter isCode = codes1 := rfl
theorem w_codes : ∀ c ∈ words1.filter isCode, c.before args0 about1 = true := by
  rw [codes_eq]
  intro c hc
  simp only [codes1, List.mem_cons, List.not_mem_nil, or_false] at hc
  rcases hc with rfl | rfl | rfl | rfl | rfl | rfl | rfl | rfl | rfl | rfl | rfl | rfl | rfl | rfl | rfl | rfl | rfl | rfl | rfl | rfl | rfl | rfl | rfl | rfl | rfl | rfl | rfl | rfl | rfl | rfl | rfl | rfl | rfl | rfl | rfl | rfl | rfl | rfl | rfl | rfl
  · exact w_c0
  · exact w_c1
  · exact w_c2
  · exact w_c3
  · exact w_c4
  · exact w_c5
  · exact w_c6
  · exact w_c7
  · exact w_c8
  · exact w_c9
  · exact w_c10
  · exact w_c11
  · exact w_c12
  · exact w_c13
  · exact w_c14
  · exact w_c15
  · exact w_c16
  · exact w_c17
  · exact w_c18
  · exact w_c19
  · exact w_c20
  · exact w_c21
  · exact w_c22
  · exact w_c23
  · exact w_c24
  · exact w_c25
  · exact w_c26
  · exact w_c27
  · exact w_c28
  · exact w_c29
  · exact w_c30
  · exact w_c31
  · exact w_c32
  · exact w_c33
  · exact w_c34
  · exact w_c35
  · exact w_c36
  · exact w_c37
  · exact w_c38
  · exact w_c39
set_option maxRecDepth 65536 in
theorem w_t1 : (words1.take 24).all (fun c => isCode c || c.before args0 about1) = true := by decide +kernel
set_option maxRecDepth 65536 in
theorem w_t2 : ((words1.drop 24).take 24).all (fun c => isCode c || c.before args0 about1) = true := by decide +kernel
set_option maxRecDepth 65536 in
theorem w_t3 : (((words1.drop 24).drop 24).take 24).all (fun c => isCode c || c.before args0 about1) = true := by decide +kernel
set_option maxRecDepth 65536 in
theorem w_t4 : ((((words1.drop 24).drop 24).drop 24).take 24).all (fun c => isCode c || c.before args0 about1) = true := by decide +kernel
set_option maxRecDepth 65536 in
theorem w_t5 : (((((words1.drop 24).drop 24).drop 24).drop 24).take 24).all (fun c => isCode c || c.before args0 about1) = true := by decide +kernel
set_option maxRecDepth 65536 in
theorem w_t6 : ((((((words1.drop 24).drop 24).drop 24).drop 24).drop 24).take 24).all (fun c => isCode c || c.before args0 about1) = true := by decide +kernel
set_option maxRecDepth 65536 in
theorem w_t7 : (((((((words1.drop 24).drop 24).drop 24).drop 24).drop 24).drop 24).take 24).all (fun c => isCode c || c.before args0 about1) = true := by decide +kernel
set_option maxRecDepth 65536 in
theorem w_t8 : ((((((((words1.drop 24).drop 24).drop 24).drop 24).drop 24).drop 24).drop 24).take 24).all (fun c => isCode c || c.before args0 about1) = true := by decide +kernel
set_option maxRecDepth 65536 in
theorem w_t9 : ((((((((words1.drop 24).drop 24).drop 24).drop 24).drop 24).drop 24).drop 24).drop 24).all (fun c => isCode c || c.before args0 about1) = true := by decide +kernel
theorem w_tables : (allAtoms (Jvm.Cond.code x code maxLocals ret :: tables_1)).before args0 about1 = true := by
  rw [allAtoms_all]
  show words1.all (fun c => c.before args0 about1) = true
  refine all_split ?_ w_codes
  rw [← List.take_append_drop 24 words1, List.all_append, w_t1, ← List.take_append_drop 24 (words1.drop 24), List.all_append, w_t2, ← List.take_append_drop 24 ((words1.drop 24).drop 24), List.all_append, w_t3, ← List.take_append_drop 24 (((words1.drop 24).drop 24).drop 24), List.all_append, w_t4, ← List.take_append_drop 24 ((((words1.drop 24).drop 24).drop 24).drop 24), List.all_append, w_t5, ← List.take_append_drop 24 (((((words1.drop 24).drop 24).drop 24).drop 24).drop 24), List.all_append, w_t6, ← List.take_append_drop 24 ((((((words1.drop 24).drop 24).drop 24).drop 24).drop 24).drop 24), List.all_append, w_t7, ← List.take_append_drop 24 (((((((words1.drop 24).drop 24).drop 24).drop 24).drop 24).drop 24).drop 24), List.all_append, w_t8, w_t9]
  rfl
set_option maxRecDepth 65536 in
theorem w_rest : rest_1_c.before args0 about1 = true := by decide +kernel
set_option maxRecDepth 65536 in
theorem w_case : (Jvm.Cond.and given_1 narrow_1).before args0 about1 = true := by decide +kernel
set_option maxRecDepth 65536 in
theorem w_consts : constsHeld consts_1 about1 := Jvm.Lit.constsHeldB_iff.mp (by decide +kernel)
theorem w_applies : (headSpec (Jvm.Cond.code x code maxLocals ret :: tables_1) room_1).applies x e0.platform about1 = true :=
  (Spec.applies_iff w_frames).mpr ⟨w_running, w_runnable, w_alone, w_named, w_hears, w_ripe, w_room, w_tables⟩
theorem atStart : AtStart classFile x code maxLocals ret World_1 tables_1 room_1 Calls_1 rest_1 Pre_1 launch0 p0 e0 about1 theMethod args0 below0 :=
  ⟨lists_1, trivial, launch0.admits_env _ _ _, launch0.least_env, fairChoices_fair.cas, fairChoices_fair.clock, w_frames, w_args, w_heap, w_applies, ⟨w_consts, trivial⟩, w_rest, w_case⟩
end start1
theorem witness_1 : WitnessClaimed_1 := ⟨start1.p0, start1.e0, start1.about1, start1.theMethod, start1.args0, start1.below0, start1.atStart⟩
end Jvm.Pilot.@@N@@
