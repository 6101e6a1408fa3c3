import JvmDerived
import JvmDerived.Pilot.@@N@@Statement
import JvmDerived.Pilot.@@N@@Code
set_option linter.unusedVariables false
set_option linter.unusedSimpArgs false
namespace Jvm.Pilot.@@N@@
open Jvm Jvm.ClassFile Sem Op Lib Jvm.Free Jvm.Stand Jvm.LawKit Jvm.RoadKit Bundle Jvm.Pilot.@@N@@.Jvm.D
/-! what a body's walk owes, in the manner of a continuation -/
section Own
variable {p : Program} {l : Launch} {e : Env} {R : Room} {s : State} {m : MethodId} {args : Array Value} {below : List Frame} {meth : Method} {c : Code} {T T' : State} {locs : List Loc} {cells slots : Nat} {Q Q' : Option Value → Heap → List Loc → Prop}
abbrev OMet (l : Launch) (Z : State) (y : MethodName) (bytes : ByteArray) (maxL : Nat) (ret : Option FieldType) (ws : List Jvm.Cond) (rm : Room) (as : Array Value) (h0 : Heap) (Q : Option Value → Heap → List Loc → Prop) : Prop :=
  MetFree l y (head1 (Jvm.Cond.code y bytes maxL ret :: ws) rm) (fun a U => a = as ∧ Z.Warmed39 U.vm ∧ U.heap = h0) (fun _ _ _ _ _ => True) (fun _ U o U' => ∃ v L, o = .returned v ∧ Q v U'.heap L ∧ FrameEnd U o U' L rm.cells rm.slots)
def OG (p : Program) (e : Env) (R : Room) (s : State) (below : List Frame) (Q : Option Value → Heap → List Loc → Prop) (T : State) (g : JFrame) : Prop :=
  ∃ s₂ o, Steps p.tables e below (T.setTop g) s₂ ∧ s₂.status = .running ∧ Ended s₂ below o ∧ ∃ v L, o = .returned v ∧ Q v s₂.heap L ∧ FrameEnd s o s₂ L R.cells R.slots
theorem own_st {g g' : JFrame} (h : ∀ t, Steps p.tables e below (T'.setTop g') t → Steps p.tables e below (T.setTop g) t) (k : OG p e R s below Q T' g') : OG p e R s below Q T g := by
  obtain ⟨s₂, o, h1, h2⟩ := k
  exact ⟨s₂, o, h _ h1, h2⟩
theorem own_sp {g g' : JFrame} {t : State} (h : ∀ t, Steps p.tables e below (T'.setTop g') t → Steps p.tables e below (T.setTop g) t) (k : Steps p.tables e below (T'.setTop g') t) : Steps p.tables e below (T.setTop g) t := h _ k
theorem own_cast {g g' : JFrame} (q : g = g') (k : OG p e R s below Q T g') : OG p e R s below Q T g := q ▸ k
theorem own_irr {x : Int64} : ¬ x < x := Int64.lt_irrefl
theorem own_if0 {cd : ClassFile.Cond} {x : Int32} {b : Bool} (h : if_icmp.holds cd x 0 = b) : ifCond.holds cd x = b := by rw [if0]; exact h
theorem own_retZ (X : Stand p l e R s m args below meth c T locs cells slots) (hx : p.tables.exec = Jvm.exec) {t : FieldType} (hret : meth.sig.returnType = some t) (ht : t = .boolean ∨ t = .byte ∨ t = .char ∨ t = .short) (hlk : meth.locks = false) {pc : Nat} {Ls : Array Slot} {z : Int32} {rest : List Value}
    (hd : decode c.code pc = .ok (.ireturn, 1)) (hc : cells ≤ R.cells) (hs : slots ≤ R.slots) {w : Int32} (hn : nar t z = w) (hq : Q (some (.int w)) T.heap locs) : OG p e R s below Q T (mkF m pc Ls (.int z :: rest)) := by
  subst hn
  obtain ⟨fs, hr, hrun, hended, hW, hsame⟩ := X.leave (v := some (.int (nar t z))) (fun h => by rw [hret] at h; cases h) hlk
  exact ⟨_, _, retN X hx hret ht hd hr, hrun, hended, _, _, rfl, hq, ⟨_, rfl⟩, hW, hsame.mono hc hs⟩
theorem own_retV (X : Stand p l e R s m args below meth c T locs cells slots) (hx : p.tables.exec = Jvm.exec) {t : FieldType} {i : Instr} {w : Value} (hret : meth.sig.returnType = some t) (hn : narrow t w = w)
    (hi : (i = .ireturn ∧ (t = .int ∨ t = .boolean ∨ t = .byte ∨ t = .char ∨ t = .short) ∧ ∃ z, w = .int z) ∨ (i = .lreturn ∧ t = .long ∧ ∃ z, w = .long z) ∨ (i = .dreturn ∧ t = .double ∧ ∃ z, w = .double z) ∨ (i = .freturn ∧ t = .float ∧ ∃ z, w = .float z) ∨ (i = .areturn ∧ t.isReference = true ∧ w.isRef = true))
    (hlk : meth.locks = false) {pc : Nat} {Ls : Array Slot} {rest : List Value}
    (hd : decode c.code pc = .ok (i, 1)) (hc : cells ≤ R.cells) (hs : slots ≤ R.slots) (hq : Q (some w) T.heap locs) : OG p e R s below Q T (mkF m pc Ls (w :: rest)) := by
  obtain ⟨fs, hr, hrun, hended, hW, hsame⟩ := X.leave (v := some w) (fun h => by rw [hret] at h; cases h) hlk
  exact ⟨_, _, retOut X hx hret hn hi hd hr, hrun, hended, _, _, rfl, hq, ⟨_, rfl⟩, hW, hsame.mono hc hs⟩
theorem own_retI (X : Stand p l e R s m args below meth c T locs cells slots) (hx : p.tables.exec = Jvm.exec) (hret : meth.sig.returnType = some .int) (hlk : meth.locks = false) {pc : Nat} {Ls : Array Slot} {z : Int32} {rest : List Value}
    (hd : decode c.code pc = .ok (.ireturn, 1)) (hc : cells ≤ R.cells) (hs : slots ≤ R.slots) (hq : Q (some (.int z)) T.heap locs) : OG p e R s below Q T (mkF m pc Ls (.int z :: rest)) :=
  own_retV X hx hret rfl (Or.inl ⟨rfl, Or.inl rfl, _, rfl⟩) hlk hd hc hs hq
theorem own_retL (X : Stand p l e R s m args below meth c T locs cells slots) (hx : p.tables.exec = Jvm.exec) (hret : meth.sig.returnType = some .long) (hlk : meth.locks = false) {pc : Nat} {Ls : Array Slot} {z : Int64} {rest : List Value}
    (hd : decode c.code pc = .ok (.lreturn, 1)) (hc : cells ≤ R.cells) (hs : slots ≤ R.slots) (hq : Q (some (.long z)) T.heap locs) : OG p e R s below Q T (mkF m pc Ls (.long z :: rest)) :=
  own_retV X hx hret rfl (Or.inr (Or.inl ⟨rfl, rfl, _, rfl⟩)) hlk hd hc hs hq
theorem own_ret0 (X : Stand p l e R s m args below meth c T locs cells slots) (hx : p.tables.exec = Jvm.exec) (hret : meth.sig.returnType = none) (hlk : meth.locks = false) {pc : Nat} {Ls : Array Slot}
    (hd : decode c.code pc = .ok (.return_, 1)) (hc : cells ≤ R.cells) (hs : slots ≤ R.slots) (hq : Q none T.heap locs) : OG p e R s below Q T (mkF m pc Ls []) := by
  obtain ⟨fs, hr, hrun, hended, hW, hsame⟩ := X.leave (v := none) (fun _ => rfl) hlk
  exact ⟨_, _, X.returnOut hx hret hd hr, hrun, hended, _, _, rfl, hq, ⟨_, rfl⟩, hW, hsame.mono hc hs⟩
theorem own_enter {Z : State} {y : MethodName} {bytes : ByteArray} {maxL : Nat} {ret : Option FieldType} {ws : List Jvm.Cond} {rm : Room} {as : Array Value} {h0 : Heap} (hp : plainFor y = true)
    (body : ∀ (p : Program) (e : Env) (s : State) (m : MethodId) (below : List Frame) (meth : Method) (c : Code) (s₁ : State), p.tables.exec = Jvm.exec → c.code = bytes → c.maxLocals = maxL → s.vm.findClass y.cls = some m.cls → meth.sig.returnType = ret → meth.locks = false → meth.name = y.name → Z.Warmed39 s.vm →
      Stand p l e rm s m as below meth c s₁ [] 0 0 → s₁.heap = h0 → OG p e rm s below Q s₁ (entryFrame m as maxL)) : OMet l Z y bytes maxL ret ws rm as h0 Q := by
  refine MetFree.of_bodySF hp hisR ?_
  intro p e s m args below meth c s₁ Bd hml0 hP hK
  obtain ⟨rfl, hZ, hh⟩ := hP
  exact body p e s m below meth c s₁ Bd.exec Bd.bytes hml0 (findClass_of_methodNamed Bd.named) Bd.returns Bd.notSynchronized (name_of_methodNamed Bd.named Bd.method).1 hZ (Stand.of_body Bd) (by rw [← hh, Bd.state]; rfl)
end Own
section OwnH
variable {Z : State} {h h' h0 : Heap} {a b : Addr} {ty : FieldType} {vs : List Value} {n sl : Nat} {v : Value} {ws : List Addr}
/-- an array, by the whole list of what it holds -/
def OA (Z : State) (h : Heap) (a : Addr) (ty : FieldType) (vs : List Value) : Prop := ∃ c : Cell, Arr Z h a c ty ∧ c.slots.toList = vs
/-- an array, by its length alone -/
def OL (Z : State) (h : Heap) (a : Addr) (ty : FieldType) (n : Nat) : Prop := ∃ c : Cell, Arr Z h a c ty ∧ c.slots.size = n
theorem OA.lt (F : OA Z h a ty vs) : a < h.size := by obtain ⟨c, A, -⟩ := F; exact A.lt
theorem OL.lt (F : OL Z h a ty n) : a < h.size := by obtain ⟨c, A, -⟩ := F; exact A.lt
theorem OA.ext (F : OA Z h a ty vs) (E : Ext h h') : OA Z h' a ty vs := by obtain ⟨c, A, r⟩ := F; exact ⟨c, A.ext E, r⟩
theorem OL.ext (F : OL Z h a ty n) (E : Ext h h') : OL Z h' a ty n := by obtain ⟨c, A, r⟩ := F; exact ⟨c, A.ext E, r⟩
theorem OA.other (F : OA Z h b ty vs) (W : Wr h h' a sl v) (q : b ≠ a) : OA Z h' b ty vs := by obtain ⟨c, A, r⟩ := F; exact ⟨c, A.other W q, r⟩
theorem OL.other (F : OL Z h b ty n) (W : Wr h h' a sl v) (q : b ≠ a) : OL Z h' b ty n := by obtain ⟨c, A, r⟩ := F; exact ⟨c, A.other W q, r⟩
theorem OA.keep (F : OA Z h a ty vs) (K : Keep h h' ws) (q : a ∉ ws) : OA Z h' a ty vs := by obtain ⟨c, A, r⟩ := F; exact ⟨c, ⟨K.2.1 a c A.1 q, A.2⟩, r⟩
theorem OL.keep (F : OL Z h a ty n) (K : Keep h h' ws) (q : a ∉ ws) : OL Z h' a ty n := by obtain ⟨c, A, r⟩ := F; exact ⟨c, ⟨K.2.1 a c A.1 q, A.2⟩, r⟩
theorem OA.new {k : ClassId} {z : Int32} (A : Arr Z h a (newA k ty z) ty) : OA Z h a ty (List.replicate z.toNatClampNeg (defaultValue ty)) := ⟨_, A, by show (Array.replicate _ _).toList = _; exact Array.toList_replicate⟩
theorem OL.new {k : ClassId} {z : Int32} (A : Arr Z h a (newA k ty z) ty) : OL Z h a ty z.toNatClampNeg := ⟨_, A, sz_new _ _ _⟩
theorem OA.len (F : OA Z h a ty vs) : ∃ c : Cell, Arr Z h a c ty ∧ c.slots.size = vs.length := by obtain ⟨c, A, r⟩ := F; exact ⟨c, A, by rw [← r]; simp⟩
theorem OA.set {j : Int32} {i : Nat} (F : OA Z h a ty vs) (W : Wr h h' a j.toNatClampNeg v) (hj : j.toNatClampNeg = i) : OA Z h' a ty (vs.set i v) := by
  obtain ⟨c, A, r⟩ := F
  refine ⟨_, A.same W, ?_⟩
  subst hj r
  show (c.slots.setIfInBounds _ _).toList = _
  exact Array.toList_setIfInBounds
theorem OL.set {j : Int32} (F : OL Z h a ty n) (W : Wr h h' a j.toNatClampNeg v) : OL Z h' a ty n := by
  obtain ⟨c, A, r⟩ := F
  exact ⟨_, A.same W, by rw [sz_set]; exact r⟩
theorem own_rd (F : OA Z h a ty vs) {j : Int32} {i : Nat} (hj : j.toNatClampNeg = i) (hn : ¬ j < 0) (hv : vs[i]? = some v) : ∃ c : Cell, Arr Z h a c ty ∧ ¬ (j < 0 ∨ c.slots.size ≤ j.toNatClampNeg) ∧ c.slots[j.toNatClampNeg]? = some v := by
  obtain ⟨c, A, r⟩ := F
  subst hj r
  rw [Array.getElem?_toList] at hv
  refine ⟨c, A, fun q => ?_, hv⟩
  rcases q with q | q
  · exact hn q
  · have := (Array.getElem?_eq_some_iff.mp hv).1; omega
theorem own_wr (F : OA Z h a ty vs) {j : Int32} {i : Nat} (hj : j.toNatClampNeg = i) (hn : ¬ j < 0) (hi : i < vs.length) : ∃ c : Cell, Arr Z h a c ty ∧ ¬ (j < 0 ∨ c.slots.size ≤ j.toNatClampNeg) := by
  obtain ⟨c, A, r⟩ := F
  subst hj r
  rw [Array.length_toList] at hi
  refine ⟨c, A, fun q => ?_⟩
  rcases q with q | q
  · exact hn q
  · omega
theorem own_wrL (F : OL Z h a ty n) {j : Int32} (hj : ¬ j < 0 ∧ j.toNatClampNeg < n) : ∃ c : Cell, Arr Z h a c ty ∧ ¬ (j < 0 ∨ c.slots.size ≤ j.toNatClampNeg) := by
  obtain ⟨c, A, r⟩ := F
  subst r
  exact ⟨c, A, fun q => by rcases q with q | q; exact hj.1 q; omega⟩
theorem own_acN {x y : Addr} (h : x ≠ y) : if_acmp.holds .ne (some x) (some y) = true ∧ if_acmp.holds .eq (some x) (some y) = false := by simp [if_acmp.holds, h]
theorem own_plE {C : String} (E : Exa Z h a C) : ∀ cell : Cell, h[a]? = some cell → cell.vm.isStatics = false := fun cell q => by obtain ⟨c, k, h1, -, -, h4, -⟩ := E; cases h1.symm.trans q; exact h4
theorem own_plA (F : OA Z h a ty vs) : ∀ cell : Cell, h[a]? = some cell → cell.vm.isStatics = false := fun cell q => by obtain ⟨c, A, -⟩ := F; cases A.1.symm.trans q; exact A.plain
theorem own_plL (F : OL Z h a ty n) : ∀ cell : Cell, h[a]? = some cell → cell.vm.isStatics = false := fun cell q => by obtain ⟨c, A, -⟩ := F; cases A.1.symm.trans q; exact A.plain
theorem own_staK {C f d : String} {w : Value} (F : Sta Z h C f d w) (K : Keep h h' ws) (hp : ∀ x ∈ ws, ∀ cell : Cell, h[x]? = some cell → cell.vm.isStatics = false) : Sta Z h' C f d w := by
  obtain ⟨cf, i, k, g, st, cell, h1, h2, h3, h4, h5, h6, h7⟩ := F
  exact ⟨cf, i, k, g, st, cell, h1, h2, h3, h4, K.2.1 st cell h5 (fun q => by rw [hp st q cell h5] at h6; cases h6), h6, h7⟩
theorem own_selp {s : State} {y : MethodName} {a0 args : Array Value} {k : Nat} (hZ : Z.Warmed39 s.vm) (wi : (Jvm.Cond.instantiable y.cls k).before a0 Z = true) (wp : (Jvm.Cond.privateMethod y).before a0 Z = true) (wm : (Jvm.Cond.instanceMethod y).before a0 Z = true) (hy : y.cls ≠ "java/lang/invoke/MethodHandle" ∧ y.cls ≠ "java/lang/invoke/VarHandle") : (Jvm.Cond.selects y.cls y y).before args s = true := by
  have wi' : (Jvm.Cond.instantiable y.cls k).before args s = true := mv hZ wi
  obtain ⟨c, kc, i1, i2, -, i4, -⟩ := Cond.instantiable_spec wi'
  exact selects_self_of_private i1 i2 (Bool.or_eq_false_iff.mp i4).1 (Cond.privateMethod_at (mvP hZ wp (args := args))) (mvT hZ wm) hy
theorem own_all0 {P : Addr → Prop} : ∀ x ∈ ([] : List Addr), P x := fun x hx => by cases hx
theorem own_all1 {P : Addr → Prop} {a : Addr} (h : P a) : ∀ x ∈ [a], P x := fun x hx => by simp only [List.mem_cons, List.not_mem_nil, or_false] at hx; subst hx; exact h
theorem own_all2 {P : Addr → Prop} {a b : Addr} (h : P a) (h2 : P b) : ∀ x ∈ [a, b], P x := fun x hx => by
  simp only [List.mem_cons, List.not_mem_nil, or_false] at hx; rcases hx with rfl | rfl; exact h; exact h2
theorem own_all3 {P : Addr → Prop} {a b c : Addr} (h : P a) (h2 : P b) (h3 : P c) : ∀ x ∈ [a, b, c], P x := fun x hx => by
  simp only [List.mem_cons, List.not_mem_nil, or_false] at hx; rcases hx with rfl | rfl | rfl; exact h; exact h2; exact h3
theorem own_all4 {P : Addr → Prop} {a b c d : Addr} (h : P a) (h2 : P b) (h3 : P c) (h4 : P d) : ∀ x ∈ [a, b, c, d], P x := fun x hx => by
  simp only [List.mem_cons, List.not_mem_nil, or_false] at hx; rcases hx with rfl | rfl | rfl | rfl; exact h; exact h2; exact h3; exact h4
theorem own_nin0 {x : Addr} : x ∉ ([] : List Addr) := List.not_mem_nil
theorem own_nin1 {x a : Addr} (h : x ≠ a) : x ∉ [a] := by simp [h]
theorem own_nin2 {x a b : Addr} (h : x ≠ a) (h2 : x ≠ b) : x ∉ [a, b] := by simp [h, h2]
theorem own_nin3 {x a b c : Addr} (h : x ≠ a) (h2 : x ≠ b) (h3 : x ≠ c) : x ∉ [a, b, c] := by simp [h, h2, h3]
theorem own_nin4 {x a b c d : Addr} (h : x ≠ a) (h2 : x ≠ b) (h3 : x ≠ c) (h4 : x ≠ d) : x ∉ [a, b, c, d] := by simp [h, h2, h3, h4]
end OwnH
section Sq
variable {p : Program} {l : Launch} {e : Env} {R : Room} {s : State} {m : MethodId} {args : Array Value} {below : List Frame} {meth : Method} {c : Code} {T Z : State} {locs : List Loc} {cells slots : Nat} {P : State → JFrame → Prop} {bytes : ByteArray} {pc : Nat} {L : Array Slot} {S : List Value} {a0 : Array Value} {h : Heap}
abbrev BX (p : Program) (c : Code) (bytes : ByteArray) : Prop := p.tables.exec = Jvm.exec ∧ c.code = bytes
abbrev CL (p : Program) (e : Env) (below : List Frame) (P : State → JFrame → Prop) : Prop := ∀ (T T' : State) (g g' : JFrame), (∀ t, Steps p.tables e below (T'.setTop g') t → Steps p.tables e below (T.setTop g) t) → P T' g' → P T g
theorem OGc {Q : Option Value → Heap → List Loc → Prop} : CL p e below (OG p e R s below Q) := fun _ _ _ _ h k => own_st h k
theorem ow {Z : State} {a0 : Array Value} (hw : ∀ d ∈ tables_1, d.before a0 Z = true) (i : Nat) {d : Jvm.Cond} (h : tables_1[i]? = some d) : d.before a0 Z = true := hw _ (List.mem_of_getElem? h)
theorem own_stk {S' : List Value} (h : S = S') (k : P T (mkF m pc L S')) : P T (mkF m pc L S) := h ▸ k
theorem wiload (G : CL p e below P) (n : Nat) (X : Stand p l e R s m args below meth c T locs cells slots) (B : BX p c bytes) {k : Nat} {v : Int32} (hd : decode bytes pc = .ok (.iload k, 2)) (hl : L[k]? = some (.val (.int v))) (hn : pc + 2 = n) (K : P T (mkF m n L (.int v :: S))) : P T (mkF m pc L S) := by
  subst hn; exact G _ _ _ _ (fun t k => XS.iload X.here B.1 rfl (hb B.2 hd) hl k) K
theorem wiloadN (G : CL p e below P) (n : Nat) (X : Stand p l e R s m args below meth c T locs cells slots) (B : BX p c bytes) {k : Fin 4} {v : Int32} (hd : decode bytes pc = .ok (.iload_n k, 1)) (hl : L[k.val]? = some (.val (.int v))) (hn : pc + 1 = n) (K : P T (mkF m n L (.int v :: S))) : P T (mkF m pc L S) := by
  subst hn; exact G _ _ _ _ (fun t k => XS.iloadN X.here B.1 rfl (hb B.2 hd) hl k) K
theorem wlload (G : CL p e below P) (n : Nat) (X : Stand p l e R s m args below meth c T locs cells slots) (B : BX p c bytes) {k : Nat} {v : Int64} (hd : decode bytes pc = .ok (.lload k, 2)) (hl : L[k]? = some (.val (.long v))) (hn : pc + 2 = n) (K : P T (mkF m n L (.long v :: S))) : P T (mkF m pc L S) := by
  subst hn; exact G _ _ _ _ (fun t k => XS.lload X.here B.1 rfl (hb B.2 hd) hl k) K
theorem wlloadN (G : CL p e below P) (n : Nat) (X : Stand p l e R s m args below meth c T locs cells slots) (B : BX p c bytes) {k : Fin 4} {v : Int64} (hd : decode bytes pc = .ok (.lload_n k, 1)) (hl : L[k.val]? = some (.val (.long v))) (hn : pc + 1 = n) (K : P T (mkF m n L (.long v :: S))) : P T (mkF m pc L S) := by
  subst hn; exact G _ _ _ _ (fun t k => XS.lloadN X.here B.1 rfl (hb B.2 hd) hl k) K
theorem waload (G : CL p e below P) (n : Nat) (X : Stand p l e R s m args below meth c T locs cells slots) (B : BX p c bytes) {k : Nat} {v : Value} (hd : decode bytes pc = .ok (.aload k, 2)) (hl : L[k]? = some (.val v)) (hv : v.isRef = true) (hn : pc + 2 = n) (K : P T (mkF m n L (v :: S))) : P T (mkF m pc L S) := by
  subst hn; exact G _ _ _ _ (fun t k => XS.aload X.here B.1 rfl (hb B.2 hd) hl hv k) K
theorem waloadN (G : CL p e below P) (n : Nat) (X : Stand p l e R s m args below meth c T locs cells slots) (B : BX p c bytes) {k : Fin 4} {v : Value} (hd : decode bytes pc = .ok (.aload_n k, 1)) (hl : L[k.val]? = some (.val v)) (hv : v.isRef = true) (hn : pc + 1 = n) (K : P T (mkF m n L (v :: S))) : P T (mkF m pc L S) := by
  subst hn; exact G _ _ _ _ (fun t k => XS.aloadN X.here B.1 rfl (hb B.2 hd) hl hv k) K
theorem wistore (G : CL p e below P) (n : Nat) (X : Stand p l e R s m args below meth c T locs cells slots) (B : BX p c bytes) {k : Nat} {x : Int32} (hd : decode bytes pc = .ok (.istore k, 2)) (L' : Array Slot) (hl : storeLocals L k (.int x) = some L') (hn : pc + 2 = n) (K : P T (mkF m n L' S)) : P T (mkF m pc L (.int x :: S)) := by
  subst hn; exact G _ _ _ _ (fun t k => XS.istore X.here B.1 rfl (hb B.2 hd) rfl hl k) K
theorem wistoreN (G : CL p e below P) (n : Nat) (X : Stand p l e R s m args below meth c T locs cells slots) (B : BX p c bytes) {k : Fin 4} {x : Int32} (hd : decode bytes pc = .ok (.istore_n k, 1)) (L' : Array Slot) (hl : storeLocals L k.val (.int x) = some L') (hn : pc + 1 = n) (K : P T (mkF m n L' S)) : P T (mkF m pc L (.int x :: S)) := by
  subst hn; exact G _ _ _ _ (fun t k => XS.istoreN X.here B.1 rfl (hb B.2 hd) rfl hl k) K
theorem wlstore (G : CL p e below P) (n : Nat) (X : Stand p l e R s m args below meth c T locs cells slots) (B : BX p c bytes) {k : Nat} {x : Int64} (hd : decode bytes pc = .ok (.lstore k, 2)) (L' : Array Slot) (hl : storeLocals L k (.long x) = some L') (hn : pc + 2 = n) (K : P T (mkF m n L' S)) : P T (mkF m pc L (.long x :: S)) := by
  subst hn; exact G _ _ _ _ (fun t k => XS.lstore X.here B.1 rfl (hb B.2 hd) rfl hl k) K
theorem wlstoreN (G : CL p e below P) (n : Nat) (X : Stand p l e R s m args below meth c T locs cells slots) (B : BX p c bytes) {k : Fin 4} {x : Int64} (hd : decode bytes pc = .ok (.lstore_n k, 1)) (L' : Array Slot) (hl : storeLocals L k.val (.long x) = some L') (hn : pc + 1 = n) (K : P T (mkF m n L' S)) : P T (mkF m pc L (.long x :: S)) := by
  subst hn; exact G _ _ _ _ (fun t k => XS.lstoreN X.here B.1 rfl (hb B.2 hd) rfl hl k) K
theorem wastore (G : CL p e below P) (n : Nat) (X : Stand p l e R s m args below meth c T locs cells slots) (B : BX p c bytes) {k : Nat} {x : Value} (hd : decode bytes pc = .ok (.astore k, 2)) (L' : Array Slot) (hv : x.isRef = true) (hl : storeLocals L k x = some L') (hn : pc + 2 = n) (K : P T (mkF m n L' S)) : P T (mkF m pc L (x :: S)) := by
  subst hn; exact G _ _ _ _ (fun t k => XS.astore X.here B.1 rfl (hb B.2 hd) rfl hv hl k) K
theorem wastoreN (G : CL p e below P) (n : Nat) (X : Stand p l e R s m args below meth c T locs cells slots) (B : BX p c bytes) {k : Fin 4} {x : Value} (hd : decode bytes pc = .ok (.astore_n k, 1)) (L' : Array Slot) (hv : x.isRef = true) (hl : storeLocals L k.val x = some L') (hn : pc + 1 = n) (K : P T (mkF m n L' S)) : P T (mkF m pc L (x :: S)) := by
  subst hn; exact G _ _ _ _ (fun t k => XS.astoreN X.here B.1 rfl (hb B.2 hd) rfl hv hl k) K
theorem wiconst (G : CL p e below P) (n : Nat) (X : Stand p l e R s m args below meth c T locs cells slots) (B : BX p c bytes) {i : Int} (hd : decode bytes pc = .ok (.iconst i, 1)) (z : Int32) (hz : Int32.ofInt i = z) (hn : pc + 1 = n) (K : P T (mkF m n L (.int z :: S))) : P T (mkF m pc L S) := by
  subst hn hz; exact G _ _ _ _ (fun t k => XS.iconst X.here B.1 rfl (hb B.2 hd)  k) K
theorem wbipush (G : CL p e below P) (n : Nat) (X : Stand p l e R s m args below meth c T locs cells slots) (B : BX p c bytes) {i : Int} (hd : decode bytes pc = .ok (.bipush i, 2)) (z : Int32) (hz : (Int8.ofInt i).toInt32 = z) (hn : pc + 2 = n) (K : P T (mkF m n L (.int z :: S))) : P T (mkF m pc L S) := by
  subst hn hz; exact G _ _ _ _ (fun t k => XS.bipush X.here B.1 rfl (hb B.2 hd)  k) K
theorem wsipush (G : CL p e below P) (n : Nat) (X : Stand p l e R s m args below meth c T locs cells slots) (B : BX p c bytes) {i : Int} (hd : decode bytes pc = .ok (.sipush i, 3)) (z : Int32) (hz : (Int16.ofInt i).toInt32 = z) (hn : pc + 3 = n) (K : P T (mkF m n L (.int z :: S))) : P T (mkF m pc L S) := by
  subst hn hz; exact G _ _ _ _ (fun t k => XS.sipush X.here B.1 rfl (hb B.2 hd)  k) K
theorem wlconst (G : CL p e below P) (n : Nat) (X : Stand p l e R s m args below meth c T locs cells slots) (B : BX p c bytes) {i : Fin 2} (hd : decode bytes pc = .ok (.lconst i, 1)) (z : Int64) (hz : Int64.ofNat i = z) (hn : pc + 1 = n) (K : P T (mkF m n L (.long z :: S))) : P T (mkF m pc L S) := by
  subst hn hz; exact G _ _ _ _ (fun t k => XS.lconst X.here B.1 rfl (hb B.2 hd)  k) K
theorem waconstNull (G : CL p e below P) (n : Nat) (X : Stand p l e R s m args below meth c T locs cells slots) (B : BX p c bytes)  (hd : decode bytes pc = .ok (.aconst_null, 1))  (hn : pc + 1 = n) (K : P T (mkF m n L (.null :: S))) : P T (mkF m pc L S) := by
  subst hn; exact G _ _ _ _ (fun t k => XS.aconstNull X.here B.1 rfl (hb B.2 hd)  k) K
theorem wdup (G : CL p e below P) (n : Nat) (X : Stand p l e R s m args below meth c T locs cells slots) (B : BX p c bytes) {x : Value} (hd : decode bytes pc = .ok (.dup, 1)) (hc : x.category = 1) (hn : pc + 1 = n) (K : P T (mkF m n L (x :: x :: S))) : P T (mkF m pc L (x :: S)) := by
  subst hn; exact G _ _ _ _ (fun t k => XS.dup X.here B.1 rfl (hb B.2 hd) rfl hc k) K
theorem wpop (G : CL p e below P) (n : Nat) (X : Stand p l e R s m args below meth c T locs cells slots) (B : BX p c bytes) {x : Value} (hd : decode bytes pc = .ok (.pop, 1)) (hc : x.category = 1) (hn : pc + 1 = n) (K : P T (mkF m n L S)) : P T (mkF m pc L (x :: S)) := by
  subst hn; exact G _ _ _ _ (fun t k => XS.pop X.here B.1 rfl (hb B.2 hd) rfl hc k) K
theorem wiadd (G : CL p e below P) (n : Nat) (X : Stand p l e R s m args below meth c T locs cells slots) (B : BX p c bytes) {x y : Int32} (hd : decode bytes pc = .ok (.iadd, 1))  (hn : pc + 1 = n) (K : P T (mkF m n L (.int (x + y) :: S))) : P T (mkF m pc L (.int y :: .int x :: S)) := by
  subst hn; exact G _ _ _ _ (fun t k => XS.iadd X.here B.1 rfl (hb B.2 hd) rfl k) K
theorem wisub (G : CL p e below P) (n : Nat) (X : Stand p l e R s m args below meth c T locs cells slots) (B : BX p c bytes) {x y : Int32} (hd : decode bytes pc = .ok (.isub, 1))  (hn : pc + 1 = n) (K : P T (mkF m n L (.int (x - y) :: S))) : P T (mkF m pc L (.int y :: .int x :: S)) := by
  subst hn; exact G _ _ _ _ (fun t k => XS.isub X.here B.1 rfl (hb B.2 hd) rfl k) K
theorem wiand (G : CL p e below P) (n : Nat) (X : Stand p l e R s m args below meth c T locs cells slots) (B : BX p c bytes) {x y : Int32} (hd : decode bytes pc = .ok (.iand, 1))  (hn : pc + 1 = n) (K : P T (mkF m n L (.int (x &&& y) :: S))) : P T (mkF m pc L (.int y :: .int x :: S)) := by
  subst hn; exact G _ _ _ _ (fun t k => XS.iand X.here B.1 rfl (hb B.2 hd) rfl k) K
theorem wladd (G : CL p e below P) (n : Nat) (X : Stand p l e R s m args below meth c T locs cells slots) (B : BX p c bytes) {x y : Int64} (hd : decode bytes pc = .ok (.ladd, 1))  (hn : pc + 1 = n) (K : P T (mkF m n L (.long (x + y) :: S))) : P T (mkF m pc L (.long y :: .long x :: S)) := by
  subst hn; exact G _ _ _ _ (fun t k => XS.ladd X.here B.1 rfl (hb B.2 hd) rfl k) K
theorem wlsub (G : CL p e below P) (n : Nat) (X : Stand p l e R s m args below meth c T locs cells slots) (B : BX p c bytes) {x y : Int64} (hd : decode bytes pc = .ok (.lsub, 1))  (hn : pc + 1 = n) (K : P T (mkF m n L (.long (x - y) :: S))) : P T (mkF m pc L (.long y :: .long x :: S)) := by
  subst hn; exact G _ _ _ _ (fun t k => XS.lsub X.here B.1 rfl (hb B.2 hd) rfl k) K
theorem wlcmp (G : CL p e below P) (n : Nat) (X : Stand p l e R s m args below meth c T locs cells slots) (B : BX p c bytes) {x y : Int64} (hd : decode bytes pc = .ok (.lcmp, 1))  (hn : pc + 1 = n) (K : P T (mkF m n L (.int (lcmpW x y) :: S))) : P T (mkF m pc L (.long y :: .long x :: S)) := by
  subst hn; exact G _ _ _ _ (fun t k => XS.lcmp X.here B.1 rfl (hb B.2 hd) rfl k) K
theorem wiinc (G : CL p e below P) (n : Nat) (X : Stand p l e R s m args below meth c T locs cells slots) (B : BX p c bytes) {k : Nat} {cst : Int} {x : Int32} (hd : decode bytes pc = .ok (.iinc k cst, 3)) (L' : Array Slot) (hl : L[k]? = some (.val (.int x))) (hl' : storeLocals L k (.int (x + Int32.ofInt cst)) = some L') (hn : pc + 3 = n) (K : P T (mkF m n L' S)) : P T (mkF m pc L S) := by
  subst hn; exact G _ _ _ _ (fun t k => XS.iinc X.here B.1 rfl (hb B.2 hd) hl hl' k) K
theorem wgoto (G : CL p e below P) (n : Nat) (X : Stand p l e R s m args below meth c T locs cells slots) (B : BX p c bytes)  {o : Int} (hd : decode bytes pc = .ok (.goto o, 3))  (hj : (pc : Int) + o = (n : Int)) (K : P T (mkF m n L S)) : P T (mkF m pc L S) :=
  G _ _ _ _ (fun t k => XS.goto X.here B.1 rfl (pc0 := pc) (pc' := n) rfl (hb B.2 hd)  (by rw [hj]; exact Int.natCast_nonneg n) (by rw [hj]; exact Int.toNat_natCast n) k) K
theorem wifYes (G : CL p e below P) (n : Nat) (X : Stand p l e R s m args below meth c T locs cells slots) (B : BX p c bytes) {cd : ClassFile.Cond} {x : Int32} {o : Int} (hd : decode bytes pc = .ok (.ifCond cd o, 3)) (hc : ifCond.holds cd x = true) (hj : (pc : Int) + o = (n : Int)) (K : P T (mkF m n L S)) : P T (mkF m pc L (.int x :: S)) :=
  G _ _ _ _ (fun t k => XS.ifYes X.here B.1 rfl (pc0 := pc) (pc' := n) rfl (hb B.2 hd) rfl hc (by rw [hj]; exact Int.natCast_nonneg n) (by rw [hj]; exact Int.toNat_natCast n) k) K
theorem wicmpYes (G : CL p e below P) (n : Nat) (X : Stand p l e R s m args below meth c T locs cells slots) (B : BX p c bytes) {cd : ClassFile.Cond} {x y : Int32} {o : Int} (hd : decode bytes pc = .ok (.if_icmp cd o, 3)) (hc : if_icmp.holds cd x y = true) (hj : (pc : Int) + o = (n : Int)) (K : P T (mkF m n L S)) : P T (mkF m pc L (.int y :: .int x :: S)) :=
  G _ _ _ _ (fun t k => XS.icmpYes X.here B.1 rfl (pc0 := pc) (pc' := n) rfl (hb B.2 hd) rfl hc (by rw [hj]; exact Int.natCast_nonneg n) (by rw [hj]; exact Int.toNat_natCast n) k) K
theorem wifnullYes (G : CL p e below P) (n : Nat) (X : Stand p l e R s m args below meth c T locs cells slots) (B : BX p c bytes)  {o : Int} (hd : decode bytes pc = .ok (.ifnull o, 3))  (hj : (pc : Int) + o = (n : Int)) (K : P T (mkF m n L S)) : P T (mkF m pc L (.null :: S)) :=
  G _ _ _ _ (fun t k => XS.ifnullYes X.here B.1 rfl (pc0 := pc) (pc' := n) rfl (hb B.2 hd) rfl (by rw [hj]; exact Int.natCast_nonneg n) (by rw [hj]; exact Int.toNat_natCast n) k) K
theorem wifnonnullYes (G : CL p e below P) (n : Nat) (X : Stand p l e R s m args below meth c T locs cells slots) (B : BX p c bytes) {b : Addr} {o : Int} (hd : decode bytes pc = .ok (.ifnonnull o, 3))  (hj : (pc : Int) + o = (n : Int)) (K : P T (mkF m n L S)) : P T (mkF m pc L (.ref b :: S)) :=
  G _ _ _ _ (fun t k => XS.ifnonnullYes X.here B.1 rfl (pc0 := pc) (pc' := n) rfl (hb B.2 hd) rfl (by rw [hj]; exact Int.natCast_nonneg n) (by rw [hj]; exact Int.toNat_natCast n) k) K
theorem wifNo (G : CL p e below P) (n : Nat) (X : Stand p l e R s m args below meth c T locs cells slots) (B : BX p c bytes) {cd : ClassFile.Cond} {o : Int} {x : Int32} (hd : decode bytes pc = .ok (.ifCond cd o, 3)) (hc : ifCond.holds cd x = false) (hn : pc + 3 = n) (K : P T (mkF m n L S)) : P T (mkF m pc L (.int x :: S)) := by
  subst hn; exact G _ _ _ _ (fun t k => XS.ifNo X.here B.1 rfl (hb B.2 hd) rfl hc k) K
theorem wicmpNo (G : CL p e below P) (n : Nat) (X : Stand p l e R s m args below meth c T locs cells slots) (B : BX p c bytes) {cd : ClassFile.Cond} {o : Int} {x y : Int32} (hd : decode bytes pc = .ok (.if_icmp cd o, 3)) (hc : if_icmp.holds cd x y = false) (hn : pc + 3 = n) (K : P T (mkF m n L S)) : P T (mkF m pc L (.int y :: .int x :: S)) := by
  subst hn; exact G _ _ _ _ (fun t k => XS.icmpNo X.here B.1 rfl (hb B.2 hd) rfl hc k) K
theorem wifnullNo (G : CL p e below P) (n : Nat) (X : Stand p l e R s m args below meth c T locs cells slots) (B : BX p c bytes) {o : Int} {b : Addr} (hd : decode bytes pc = .ok (.ifnull o, 3))  (hn : pc + 3 = n) (K : P T (mkF m n L S)) : P T (mkF m pc L (.ref b :: S)) := by
  subst hn; exact G _ _ _ _ (fun t k => XS.ifnullNo X.here B.1 rfl (hb B.2 hd) rfl k) K
theorem wifnonnullNo (G : CL p e below P) (n : Nat) (X : Stand p l e R s m args below meth c T locs cells slots) (B : BX p c bytes) {o : Int} (hd : decode bytes pc = .ok (.ifnonnull o, 3))  (hn : pc + 3 = n) (K : P T (mkF m n L S)) : P T (mkF m pc L (.null :: S)) := by
  subst hn; exact G _ _ _ _ (fun t k => XS.ifnonnullNo X.here B.1 rfl (hb B.2 hd) rfl k) K
theorem wgetF (G : CL p e below P) (n : Nat) (X : Stand p l e R s m args below meth c T locs cells slots) (B : BX p c bytes) (hZ : Z.Warmed39 s.vm) {own R0 nm d : String} {index : Nat} (hown : s.vm.findClass own = some m.cls) (w : (Jvm.Cond.fieldLink own index R0 nm d).before a0 Z = true) (eT : T.heap = h) {a : Addr} {v : Value} (F : Fld Z h a R0 nm d v) (hd : decode bytes pc = .ok (.getfield index, 3)) (hn : pc + 3 = n) (K : ∀ T', Stand p l e R s m args below meth c T' locs cells slots → T'.heap = h → P T' (mkF m n L (v :: S))) : P T (mkF m pc L (.ref a :: S)) := by
  subst hn
  obtain ⟨T', X', e', st⟩ := getF X B.1 hZ hown (host := "") (Or.inl w) Via.refl eT F (g := mkF m pc L (.ref a :: S)) rfl rfl (hb B.2 hd)
  exact G _ _ _ _ st (K T' X' e')
theorem wgetS (G : CL p e below P) (n : Nat) (X : Stand p l e R s m args below meth c T locs cells slots) (B : BX p c bytes) (hZ : Z.Warmed39 s.vm) {own R0 nm d : String} {index : Nat} (hown : s.vm.findClass own = some m.cls) (w : (Jvm.Cond.fieldLink own index R0 nm d).before a0 Z = true) (eT : T.heap = h) {v : Value} (F : Sta Z h R0 nm d v) (hd : decode bytes pc = .ok (.getstatic index, 3)) (hn : pc + 3 = n) (K : ∀ T', Stand p l e R s m args below meth c T' locs cells slots → T'.heap = h → P T' (mkF m n L (v :: S))) : P T (mkF m pc L S) := by
  subst hn
  obtain ⟨T', X', e', st⟩ := getS X B.1 hZ (host := "") hown w Via.refl eT F (g := mkF m pc L S) rfl (hb B.2 hd)
  exact G _ _ _ _ st (K T' X' e')
theorem wputF (G : CL p e below P) (n : Nat) (X : Stand p l e R s m args below meth c T locs cells slots) (B : BX p c bytes) (hZ : Z.Warmed39 s.vm) {own R0 nm d C : String} {index kk : Nat} {ty : FieldType} (hown : s.vm.findClass own = some m.cls) (w : (Jvm.Cond.fieldLink own index R0 nm d).before a0 Z = true) (eT : T.heap = h) {a : Addr} {v old : Value} (F : Fld Z h a R0 nm d old) (E : Exa Z h a C) (Ly : (Jvm.Cond.lays C R0 nm d).before a0 Z = true ∨ ((Jvm.Cond.laysFinal C R0 nm d).before a0 Z = true ∧ own = R0 ∧ meth.name = "<init>")) (wi : (Jvm.Cond.instantiable C kk).before a0 Z = true)
    (hty : parseFieldDescriptor d = some ty) (hnn : narrow ty v = v) (hf : fits ty v = true) (hd : decode bytes pc = .ok (.putfield index, 3)) (hn : pc + 3 = n) (K : ∀ T' h', Stand p l e R s m args below meth c T' (locs ++ [⟨a, Jvm.RoadKit.slotOf Z R0 nm d⟩]) cells slots → T'.heap = h' → Wr h h' a (Jvm.RoadKit.slotOf Z R0 nm d) v → P T' (mkF m n L S)) : P T (mkF m pc L (v :: .ref a :: S)) := by
  subst hn
  obtain ⟨T', h', X', e', W', st⟩ := putF X B.1 hZ hown (host := "") (Or.inl w) Via.refl eT F E Ly wi hty hnn hf (g := mkF m pc L (v :: .ref a :: S)) rfl rfl (hb B.2 hd)
  exact G _ _ _ _ st (K T' h' X' e' W')
theorem wnewO (G : CL p e below P) (n : Nat) (X : Stand p l e R s m args below meth c T locs cells slots) (B : BX p c bytes) (hZ : Z.Warmed39 s.vm) {own C : String} {index k : Nat} (hown : s.vm.findClass own = some m.cls) (w : (Jvm.Cond.classLink own index C).before a0 Z = true) (wi : (Jvm.Cond.instantiable C k).before a0 Z = true) (wz : (Jvm.Cond.initialized C).before a0 Z = true) (eT : T.heap = h) (hd : decode bytes pc = .ok (.new index, 3)) (hc : cells + 1 ≤ R.cells ∧ slots + k ≤ R.slots) (hn : pc + 3 = n)
    (K : ∀ T' h' x, x = h.size → Stand p l e R s m args below meth c T' locs (cells + 1) (slots + k) → T'.heap = h' → Ext h h' → Exa Z h' x C → (∀ {O nm d : String} {ty : FieldType}, Laid Z a0 C O nm d → parseFieldDescriptor d = some ty → Fld Z h' x O nm d (defaultValue ty)) → P T' (mkF m n L (.ref x :: S))) : P T (mkF m pc L S) := by
  subst hn
  obtain ⟨T', h', X', e', E', A', D', -, st⟩ := newO X B.1 hZ hown w wi wz eT (g := mkF m pc L S) rfl (hb B.2 hd) hc.1 hc.2
  exact G _ _ _ _ st (K T' h' _ rfl X' e' E' A' D')
theorem wnewP (G : CL p e below P) (n : Nat) (X : Stand p l e R s m args below meth c T locs cells slots) (B : BX p c bytes) (hZ : Z.Warmed39 s.vm) {aty : ArrayType} (w : (Jvm.Cond.arrayClass (newarray.typeOf aty)).before a0 Z = true) (eT : T.heap = h) (hd : decode bytes pc = .ok (.newarray aty, 2)) {z : Int32} (cap : Nat) (hz : ¬ z < 0 ∧ z.toNatClampNeg ≤ cap ∧ cap * 8 ≤ 536870912) (hc : cells + 1 ≤ R.cells ∧ slots + cap ≤ R.slots) (hn : pc + 2 = n)
    (K : ∀ T' h' x cA, x = h.size → Stand p l e R s m args below meth c T' locs (cells + 1) (slots + cap) → T'.heap = h' → Ext h h' → Arr Z h' x (newA cA (newarray.typeOf aty) z) (newarray.typeOf aty) → P T' (mkF m n L (.ref x :: S))) : P T (mkF m pc L (.int z :: S)) := by
  subst hn
  obtain ⟨T', h', k', X', e', E', A', st⟩ := newP X B.1 hZ w eT (g := mkF m pc L (.int z :: S)) rfl (hb B.2 hd) rfl hz.1 hz.2.1 hz.2.2 hc.1 hc.2
  exact G _ _ _ _ st (K T' h' _ k' rfl X' e' E' A')
theorem wstI (G : CL p e below P) (n : Nat) (X : Stand p l e R s m args below meth c T locs cells slots) (B : BX p c bytes) (hZ : Z.Warmed39 s.vm) (eT : T.heap = h) {a : Addr} {vs : List Value} (F : OA Z h a .int vs) {j : Int32} {x : Int32} (i : Nat) (hj : j.toNatClampNeg = i) (h0 : ¬ j < 0) (hi : i < vs.length) (hd : decode bytes pc = .ok (.iastore, 1)) (hn : pc + 1 = n)
    (K : ∀ T' h', Stand p l e R s m args below meth c T' (locs ++ [⟨a, j.toNatClampNeg⟩]) cells slots → T'.heap = h' → Wr h h' a j.toNatClampNeg (.int x) → P T' (mkF m n L S)) : P T (mkF m pc L (.int x :: .int j :: .ref a :: S)) := by
  subst hn
  obtain ⟨cl, A, hi'⟩ := own_wr F hj h0 hi
  obtain ⟨T', h', X', e', W', st⟩ := stI X B.1 hZ eT A hi' (g := mkF m pc L (.int x :: .int j :: .ref a :: S)) rfl rfl (hb B.2 hd)
  exact G _ _ _ _ st (K T' h' X' e' W')
theorem wstJ (G : CL p e below P) (n : Nat) (X : Stand p l e R s m args below meth c T locs cells slots) (B : BX p c bytes) (hZ : Z.Warmed39 s.vm) (eT : T.heap = h) {a : Addr} {vs : List Value} (F : OA Z h a .long vs) {j : Int32} {x : Int64} (i : Nat) (hj : j.toNatClampNeg = i) (h0 : ¬ j < 0) (hi : i < vs.length) (hd : decode bytes pc = .ok (.lastore, 1)) (hn : pc + 1 = n)
    (K : ∀ T' h', Stand p l e R s m args below meth c T' (locs ++ [⟨a, j.toNatClampNeg⟩]) cells slots → T'.heap = h' → Wr h h' a j.toNatClampNeg (.long x) → P T' (mkF m n L S)) : P T (mkF m pc L (.long x :: .int j :: .ref a :: S)) := by
  subst hn
  obtain ⟨cl, A, hi'⟩ := own_wr F hj h0 hi
  obtain ⟨T', h', X', e', W', st⟩ := stJ X B.1 hZ eT A hi' (g := mkF m pc L (.long x :: .int j :: .ref a :: S)) rfl rfl (hb B.2 hd)
  exact G _ _ _ _ st (K T' h' X' e' W')
theorem wstB (G : CL p e below P) (n : Nat) (X : Stand p l e R s m args below meth c T locs cells slots) (B : BX p c bytes) (hZ : Z.Warmed39 s.vm) (eT : T.heap = h) {a : Addr} {vs : List Value} (F : OA Z h a .byte vs) {j : Int32} {x : Int32} (i : Nat) (hj : j.toNatClampNeg = i) (h0 : ¬ j < 0) (hi : i < vs.length) (hd : decode bytes pc = .ok (.bastore, 1)) (hn : pc + 1 = n)
    (K : ∀ T' h', Stand p l e R s m args below meth c T' (locs ++ [⟨a, j.toNatClampNeg⟩]) cells slots → T'.heap = h' → Wr h h' a j.toNatClampNeg (.int (nar .byte x)) → P T' (mkF m n L S)) : P T (mkF m pc L (.int x :: .int j :: .ref a :: S)) := by
  subst hn
  obtain ⟨cl, A, hi'⟩ := own_wr F hj h0 hi
  obtain ⟨T', h', X', e', W', st⟩ := stB X B.1 hZ eT A hi' (g := mkF m pc L (.int x :: .int j :: .ref a :: S)) rfl rfl (hb B.2 hd)
  exact G _ _ _ _ st (K T' h' X' e' W')
theorem wstC (G : CL p e below P) (n : Nat) (X : Stand p l e R s m args below meth c T locs cells slots) (B : BX p c bytes) (hZ : Z.Warmed39 s.vm) (eT : T.heap = h) {a : Addr} {vs : List Value} (F : OA Z h a .char vs) {j : Int32} {x : Int32} (i : Nat) (hj : j.toNatClampNeg = i) (h0 : ¬ j < 0) (hi : i < vs.length) (hd : decode bytes pc = .ok (.castore, 1)) (hn : pc + 1 = n)
    (K : ∀ T' h', Stand p l e R s m args below meth c T' (locs ++ [⟨a, j.toNatClampNeg⟩]) cells slots → T'.heap = h' → Wr h h' a j.toNatClampNeg (.int (nar .char x)) → P T' (mkF m n L S)) : P T (mkF m pc L (.int x :: .int j :: .ref a :: S)) := by
  subst hn
  obtain ⟨cl, A, hi'⟩ := own_wr F hj h0 hi
  obtain ⟨T', h', X', e', W', st⟩ := stC X B.1 hZ eT A hi' (g := mkF m pc L (.int x :: .int j :: .ref a :: S)) rfl rfl (hb B.2 hd)
  exact G _ _ _ _ st (K T' h' X' e' W')
theorem wiaload (G : CL p e below P) (n : Nat) (X : Stand p l e R s m args below meth c T locs cells slots) (B : BX p c bytes) (hZ : Z.Warmed39 s.vm) (eT : T.heap = h) {a : Addr} {vs : List Value} (F : OA Z h a .int vs) {j : Int32} {v : Value} (i : Nat) (hj : j.toNatClampNeg = i) (h0 : ¬ j < 0) (hv : vs[i]? = some v) (hd : decode bytes pc = .ok (.iaload, 1)) (hn : pc + 1 = n) (K : P T (mkF m n L (v :: S))) : P T (mkF m pc L (.int j :: .ref a :: S)) := by
  subst hn
  obtain ⟨cl, Ar, hi, ha⟩ := own_rd F hj h0 hv
  exact G _ _ _ _ (fun t k => X.iaload B.1 (j := j) (v := v) (by rw [eT]; exact Ar.1) (State.isArrayOf_alike hZ.alike Ar.2.1) Ar.2.2 hi ha (g := mkF m pc L (.int j :: .ref a :: S)) rfl rfl (hb B.2 hd) t k) K
theorem wlaload (G : CL p e below P) (n : Nat) (X : Stand p l e R s m args below meth c T locs cells slots) (B : BX p c bytes) (hZ : Z.Warmed39 s.vm) (eT : T.heap = h) {a : Addr} {vs : List Value} (F : OA Z h a .long vs) {j : Int32} {v : Value} (i : Nat) (hj : j.toNatClampNeg = i) (h0 : ¬ j < 0) (hv : vs[i]? = some v) (hd : decode bytes pc = .ok (.laload, 1)) (hn : pc + 1 = n) (K : P T (mkF m n L (v :: S))) : P T (mkF m pc L (.int j :: .ref a :: S)) := by
  subst hn
  obtain ⟨cl, Ar, hi, ha⟩ := own_rd F hj h0 hv
  exact G _ _ _ _ (fun t k => X.laload B.1 (j := j) (v := v) (by rw [eT]; exact Ar.1) (State.isArrayOf_alike hZ.alike Ar.2.1) Ar.2.2 hi ha (g := mkF m pc L (.int j :: .ref a :: S)) rfl rfl (hb B.2 hd) t k) K
theorem wcaload (G : CL p e below P) (n : Nat) (X : Stand p l e R s m args below meth c T locs cells slots) (B : BX p c bytes) (hZ : Z.Warmed39 s.vm) (eT : T.heap = h) {a : Addr} {vs : List Value} (F : OA Z h a .char vs) {j : Int32} {v : Value} (i : Nat) (hj : j.toNatClampNeg = i) (h0 : ¬ j < 0) (hv : vs[i]? = some v) (hd : decode bytes pc = .ok (.caload, 1)) (hn : pc + 1 = n) (K : P T (mkF m n L (v :: S))) : P T (mkF m pc L (.int j :: .ref a :: S)) := by
  subst hn
  obtain ⟨cl, Ar, hi, ha⟩ := own_rd F hj h0 hv
  exact G _ _ _ _ (fun t k => X.caload B.1 (j := j) (v := v) (by rw [eT]; exact Ar.1) (State.isArrayOf_alike hZ.alike Ar.2.1) Ar.2.2 hi ha (g := mkF m pc L (.int j :: .ref a :: S)) rfl rfl (hb B.2 hd) t k) K
theorem wbaload (G : CL p e below P) (n : Nat) (X : Stand p l e R s m args below meth c T locs cells slots) (B : BX p c bytes) (hZ : Z.Warmed39 s.vm) (eT : T.heap = h) {a : Addr} {vs : List Value} (F : OA Z h a .byte vs) {j : Int32} {v : Value} (i : Nat) (hj : j.toNatClampNeg = i) (h0 : ¬ j < 0) (hv : vs[i]? = some v) (hd : decode bytes pc = .ok (.baload, 1)) (hn : pc + 1 = n) (K : P T (mkF m n L (v :: S))) : P T (mkF m pc L (.int j :: .ref a :: S)) := by
  subst hn
  obtain ⟨cl, Ar, hi, ha⟩ := own_rd F hj h0 hv
  exact G _ _ _ _ (fun t k => X.baloadBytes B.1 (j := j) (v := v) (by rw [eT]; exact Ar.1) (State.isArrayOf_alike hZ.alike Ar.2.1) Ar.2.2 hi ha (g := mkF m pc L (.int j :: .ref a :: S)) rfl rfl (hb B.2 hd) t k) K
theorem warlenA (G : CL p e below P) (n : Nat) (X : Stand p l e R s m args below meth c T locs cells slots) (B : BX p c bytes) (hZ : Z.Warmed39 s.vm) (eT : T.heap = h) {a : Addr} {ty : FieldType} {vs : List Value} (F : OA Z h a ty vs) (z : Int32) (hz : vs.length.toInt32 = z) (hd : decode bytes pc = .ok (.arraylength, 1)) (hn : pc + 1 = n) (K : P T (mkF m n L (.int z :: S))) : P T (mkF m pc L (.ref a :: S)) := by
  subst hn
  obtain ⟨cl, Ar, hs⟩ := F.len
  rw [← hs] at hz
  subst hz
  exact G _ _ _ _ (fun t k => X.arraylength B.1 (by rw [eT]; exact Ar.1) (State.isArrayOf_alike hZ.alike Ar.2.1) (g := mkF m pc L (.ref a :: S)) rfl rfl (hb B.2 hd) t k) K
theorem warlenL (G : CL p e below P) (n : Nat) (X : Stand p l e R s m args below meth c T locs cells slots) (B : BX p c bytes) (hZ : Z.Warmed39 s.vm) (eT : T.heap = h) {a : Addr} {ty : FieldType} {q : Nat} (F : OL Z h a ty q) (z : Int32) (hz : q.toInt32 = z) (hd : decode bytes pc = .ok (.arraylength, 1)) (hn : pc + 1 = n) (K : P T (mkF m n L (.int z :: S))) : P T (mkF m pc L (.ref a :: S)) := by
  subst hn
  obtain ⟨cl, Ar, hs⟩ := F
  rw [← hs] at hz
  subst hz
  exact G _ _ _ _ (fun t k => X.arraylength B.1 (by rw [eT]; exact Ar.1) (State.isArrayOf_alike hZ.alike Ar.2.1) (g := mkF m pc L (.ref a :: S)) rfl rfl (hb B.2 hd) t k) K
theorem wstat (G : CL p e below P) (n : Nat) (X : Stand p l e R s m args below meth c T locs cells slots) (B : BX p c bytes) (hZ : Z.Warmed39 s.vm) {own : String} {index : Nat} {y : MethodName} {ret : Option FieldType} {bs : ByteArray} {maxL : Nat} (hown : s.vm.findClass own = some m.cls) (w1 : (Jvm.Cond.methodLink own index y).before a0 Z = true) (w2 : (Jvm.Cond.static y).before a0 Z = true) (wc : (Jvm.Cond.code y bs maxL ret).before a0 Z = true) (wz : (Jvm.Cond.initialized y.cls).before a0 Z = true) (eT : T.heap = h) {rm : Room} {argsL : List Value} {Q : Option Value → Heap → List Loc → Prop} (hM : OMet l Z y bs maxL ret [] rm argsL.toArray h Q) (W : Nat) (hy : y.cls ≠ "java/lang/invoke/MethodHandle" ∧ y.cls ≠ "java/lang/invoke/VarHandle") (hr : rm.frames + 1 ≤ R.frames ∧ W + (maxL + 11) + rm.locals ≤ R.locals ∧ cells + rm.cells ≤ R.cells ∧ slots + rm.slots ≤ R.slots) {k : Nat} (hml : c.maxLocals = k) (hsz : L.size = k)
    (hlen : ∀ sig, parseMethodDescriptor y.desc = some sig → argsL.length = sig.parameters.length) (rest : List Value) (hst : S = argsL.reverse ++ rest) (hW : (rest.map fun v => v.category).sum = W) (hd : decode bytes pc = .ok (.invokestatic index, 3)) (hn : pc + 3 = n)
    (K : ∀ (v : Option Value) (T' : State) (L' : List Loc), Stand p l e R s m args below meth c T' (locs ++ L') (cells + rm.cells) (slots + rm.slots) → Q v T'.heap L' → P T' (mkF m n L (v.toList ++ rest))) : P T (mkF m pc L S) := by
  subst hn
  obtain ⟨hf, hl, hc, hs⟩ := hr
  obtain ⟨v, _, ⟨T', L', k', n'⟩, -, X', ⟨Lc, hQ, l1, l2, l3⟩, st⟩ := Jvm.LawKit.callS X B.1 (y := y) hown (mvT hZ w1) (mvT hZ w2) (mvT hZ wz) (mvT hZ wc) hy (backOf (W := W) (rm := rm) hM hZ wc wz hf hl) (g := mkF m pc L S) rfl (by rw [hml]; exact hsz) (argsL := argsL) (rest := rest) hlen hst (by show 2 * 0 + _ ≤ _; omega) (hb B.2 hd) (fun _ _ => ⟨rfl, eT, hc, hs⟩)
  dsimp only [Pt.U, Pt.locs, Pt.cells, Pt.slots] at X' l1 l2 l3 st hQ
  subst l1 l2 l3
  exact G _ _ _ _ st (K v T' Lc X' hQ)
theorem wspec (G : CL p e below P) (n : Nat) (X : Stand p l e R s m args below meth c T locs cells slots) (B : BX p c bytes) (hZ : Z.Warmed39 s.vm) {own : String} {index : Nat} {y : MethodName} {a : Addr} {bs : ByteArray} {maxL : Nat} (hown : s.vm.findClass own = some m.cls) (w1 : (Jvm.Cond.methodLink own index y).before a0 Z = true) (w2 : (Jvm.Cond.instanceMethod y).before a0 Z = true) (hy1 : y.name = "<init>") (wc : (Jvm.Cond.code y bs maxL none).before a0 Z = true) (wz : (Jvm.Cond.initialized y.cls).before a0 Z = true) (eT : T.heap = h) {rm : Room} {argsL : List Value} {Q : Option Value → Heap → List Loc → Prop} (hM : OMet l Z y bs maxL none [] rm (.ref a :: argsL).toArray h Q) (W : Nat) (hy : y.cls ≠ "java/lang/invoke/MethodHandle" ∧ y.cls ≠ "java/lang/invoke/VarHandle") (hr : rm.frames + 1 ≤ R.frames ∧ W + (maxL + 11) + rm.locals ≤ R.locals ∧ cells + rm.cells ≤ R.cells ∧ slots + rm.slots ≤ R.slots) {k : Nat} (hml : c.maxLocals = k) (hsz : L.size = k)
    (hlen : ∀ sig, parseMethodDescriptor y.desc = some sig → argsL.length = sig.parameters.length) (rest : List Value) (hst : S = argsL.reverse ++ .ref a :: rest) (hW : (rest.map fun v => v.category).sum = W) (hd : decode bytes pc = .ok (.invokespecial index, 3)) (hn : pc + 3 = n)
    (K : ∀ (v : Option Value) (T' : State) (L' : List Loc), Stand p l e R s m args below meth c T' (locs ++ L') (cells + rm.cells) (slots + rm.slots) → Q v T'.heap L' → P T' (mkF m n L (v.toList ++ rest))) : P T (mkF m pc L S) := by
  subst hn
  obtain ⟨hf, hl, hc, hs⟩ := hr
  obtain ⟨v, _, ⟨T', L', k', n'⟩, -, X', ⟨Lc, hQ, l1, l2, l3⟩, st⟩ := X.specialBack B.1 (y := y) hy1 hown (mvT hZ w1) (mvT hZ w2) (mvT hZ wc) hy (backOf (W := W) (rm := rm) hM hZ wc wz hf hl) (g := mkF m pc L S) rfl (by rw [hml]; exact hsz) (Steps.refl _) (a := a) (argsL := argsL) (rest := rest) hlen hst (by show 2 * 0 + _ ≤ _; omega) (hb B.2 hd) (fun _ _ => ⟨rfl, eT, hc, hs⟩)
  dsimp only [Pt.U, Pt.locs, Pt.cells, Pt.slots] at X' l1 l2 l3 st hQ
  subst l1 l2 l3
  exact G _ _ _ _ (fun t k => st.trans k) (K v T' Lc X' hQ)
theorem wvirt (G : CL p e below P) (n : Nat) (X : Stand p l e R s m args below meth c T locs cells slots) (B : BX p c bytes) (hZ : Z.Warmed39 s.vm) {own : String} {index : Nat} {y : MethodName} {C : String} {a : Addr} {ret : Option FieldType} {bs : ByteArray} {maxL : Nat} (hown : s.vm.findClass own = some m.cls) (w1 : (Jvm.Cond.methodLink own index y).before a0 Z = true) (w2 : (Jvm.Cond.declares y).before a0 Z = true) (w3 : (Jvm.Cond.selects C y y).before a0 Z = true) (w4 : (Jvm.Cond.instanceMethod y).before a0 Z = true) (E : Exa Z h a C) (wc : (Jvm.Cond.code y bs maxL ret).before a0 Z = true) (wz : (Jvm.Cond.initialized y.cls).before a0 Z = true) (eT : T.heap = h) {rm : Room} {argsL : List Value} {Q : Option Value → Heap → List Loc → Prop} (hM : OMet l Z y bs maxL ret [] rm (.ref a :: argsL).toArray h Q) (W : Nat) (hy : y.cls ≠ "java/lang/invoke/MethodHandle" ∧ y.cls ≠ "java/lang/invoke/VarHandle") (hr : rm.frames + 1 ≤ R.frames ∧ W + (maxL + 11) + rm.locals ≤ R.locals ∧ cells + rm.cells ≤ R.cells ∧ slots + rm.slots ≤ R.slots) {k : Nat} (hml : c.maxLocals = k) (hsz : L.size = k)
    (hlen : ∀ sig, parseMethodDescriptor y.desc = some sig → argsL.length = sig.parameters.length) (rest : List Value) (hst : S = argsL.reverse ++ .ref a :: rest) (hW : (rest.map fun v => v.category).sum = W) (hd : decode bytes pc = .ok (.invokevirtual index, 3)) (hn : pc + 3 = n)
    (K : ∀ (v : Option Value) (T' : State) (L' : List Loc), Stand p l e R s m args below meth c T' (locs ++ L') (cells + rm.cells) (slots + rm.slots) → Q v T'.heap L' → P T' (mkF m n L (v.toList ++ rest))) : P T (mkF m pc L S) := by
  subst hn
  obtain ⟨hf, hl, hc, hs⟩ := hr
  obtain ⟨cq, kq, qa, qb, qc⟩ := isOf hZ eT E
  obtain ⟨v, _, ⟨T', L', k', n'⟩, -, X', ⟨Lc, hQ, l1, l2, l3⟩, st⟩ := X.virtualBack B.1 (y := y) (z := y) hown (mvT hZ w1) (mvT hZ w2) (notFace_of_selects (args := #[]) (mvT hZ w3)) (mvT hZ w3) (mvT hZ w4) hy (backOf (W := W) (rm := rm) hM hZ wc wz hf hl) qa qc (g := mkF m pc L S) rfl (by rw [hml]; exact hsz) (Steps.refl _) (argsL := argsL) (rest := rest) hlen hst (by show 2 * 0 + _ ≤ _; omega) (hb B.2 hd) (fun _ _ => ⟨rfl, eT, hc, hs⟩)
  dsimp only [Pt.U, Pt.locs, Pt.cells, Pt.slots] at X' l1 l2 l3 st hQ
  subst l1 l2 l3
  exact G _ _ _ _ (fun t k => st.trans k) (K v T' Lc X' hQ)
theorem wpriv (G : CL p e below P) (n : Nat) (X : Stand p l e R s m args below meth c T locs cells slots) (B : BX p c bytes) (hZ : Z.Warmed39 s.vm) {own : String} {index : Nat} {y : MethodName} {C : String} {a : Addr} {ret : Option FieldType} {bs : ByteArray} {maxL : Nat} (hown : s.vm.findClass own = some m.cls) (w1 : (Jvm.Cond.methodLink own index y).before a0 Z = true) (w2 : (Jvm.Cond.instanceMethod y).before a0 Z = true) (hsel : (Jvm.Cond.selects y.cls y y).before args s = true) (w4 : (Jvm.Cond.privateMethod y).before a0 Z = true) (E : Exa Z h a C) (wc : (Jvm.Cond.code y bs maxL ret).before a0 Z = true) (wz : (Jvm.Cond.initialized y.cls).before a0 Z = true) (eT : T.heap = h) {rm : Room} {argsL : List Value} {Q : Option Value → Heap → List Loc → Prop} (hM : OMet l Z y bs maxL ret [] rm (.ref a :: argsL).toArray h Q) (W : Nat) (hy : y.cls ≠ "java/lang/invoke/MethodHandle" ∧ y.cls ≠ "java/lang/invoke/VarHandle") (hr : rm.frames + 1 ≤ R.frames ∧ W + (maxL + 11) + rm.locals ≤ R.locals ∧ cells + rm.cells ≤ R.cells ∧ slots + rm.slots ≤ R.slots) {k : Nat} (hml : c.maxLocals = k) (hsz : L.size = k)
    (hlen : ∀ sig, parseMethodDescriptor y.desc = some sig → argsL.length = sig.parameters.length) (rest : List Value) (hst : S = argsL.reverse ++ .ref a :: rest) (hW : (rest.map fun v => v.category).sum = W) (hd : decode bytes pc = .ok (.invokevirtual index, 3)) (hn : pc + 3 = n)
    (K : ∀ (v : Option Value) (T' : State) (L' : List Loc), Stand p l e R s m args below meth c T' (locs ++ L') (cells + rm.cells) (slots + rm.slots) → Q v T'.heap L' → P T' (mkF m n L (v.toList ++ rest))) : P T (mkF m pc L S) := by
  subst hn
  obtain ⟨hf, hl, hc, hs⟩ := hr
  obtain ⟨cq, q1, q2⟩ := E.cell
  obtain ⟨v, _, ⟨T', L', k', n'⟩, -, X', ⟨Lc, hQ, l1, l2, l3⟩, st⟩ := X.privateBack B.1 (y := y) hown (mvT hZ w1) (mvT hZ w2) hsel (Cond.privateMethod_at (mvP hZ w4 (args := #[]))) (mvT hZ wc) hy (backOf (W := W) (rm := rm) hM hZ wc wz hf hl) (g := mkF m pc L S) rfl (by rw [hml]; exact hsz) (Steps.refl _) (a := a) (by rw [eT]; exact q1) q2 (argsL := argsL) (rest := rest) hlen hst (by show 2 * 0 + _ ≤ _; omega) (hb B.2 hd) (fun _ _ => ⟨rfl, eT, hc, hs⟩)
  dsimp only [Pt.U, Pt.locs, Pt.cells, Pt.slots] at X' l1 l2 l3 st hQ
  subst l1 l2 l3
  exact G _ _ _ _ (fun t k => st.trans k) (K v T' Lc X' hQ)
end Sq
theorem d1_0 : decode jdk_29_method_70_code 0 = .ok (.lload_n 0, 1) := by decide +kernel
theorem d1_1 : decode jdk_29_method_70_code 1 = .ok (.lload_n 2, 1) := by decide +kernel
theorem d1_2 : decode jdk_29_method_70_code 2 = .ok (.lcmp, 1) := by decide +kernel
theorem d1_3 : decode jdk_29_method_70_code 3 = .ok (.ifCond .gt 7, 3) := by decide +kernel
theorem d1_6 : decode jdk_29_method_70_code 6 = .ok (.lload_n 0, 1) := by decide +kernel
theorem d1_7 : decode jdk_29_method_70_code 7 = .ok (.goto 4, 3) := by decide +kernel
theorem d1_10 : decode jdk_29_method_70_code 10 = .ok (.lload_n 2, 1) := by decide +kernel
theorem d1_11 : decode jdk_29_method_70_code 11 = .ok (.lreturn, 1) := by decide +kernel
theorem pn_1 : plainFor (⟨"java/lang/Math", "min", "(JJ)J"⟩ : MethodName) = true := by first | exact plainFor_of_name (by first | (simp [plainName, overriddenIn]; done) | decide +kernel) | decide +kernel
def f1 (q1 : Int64) (q2 : Int64) : Int64 := (if q2 < q1 then q2 else q1)
theorem ef_1 (m : MethodId) (q1 : Int64) (q2 : Int64) : entryFrame m #[(.long q1), (.long q2)] 4 = (mkF m 0 #[.val (.long q1), .second, .val (.long q2), .second] []) := by first | (simp [entryFrame, mkF, argsToLocals, Value.category]; done) | rfl
abbrev Q1 (Z : State) (q1 : Int64) (q2 : Int64) (h0 : Heap)  : Option Value → Heap → List Loc → Prop := (fun v h L => v = some (.long (f1 q1 q2)) ∧ L = [] ∧ h = h0)
set_option maxRecDepth 65536 in
set_option maxHeartbeats 40000000 in
theorem rm1 (l : Launch) (Z : State) (a0 : Array Value) (hw : ∀ d ∈ tables_1, d.before a0 Z = true) (ws : List Jvm.Cond) (q1 : Int64) (q2 : Int64) (h0 : Heap)  :
    OMet l Z (⟨"java/lang/Math", "min", "(JJ)J"⟩ : MethodName) jdk_29_method_70_code 4 (some .long) ws ({ frames := 0, cells := 0, slots := 0, locals := 0 } : Room) #[(.long q1), (.long q2)] h0 (Q1 Z q1 q2 h0) := by
  refine own_enter pn_1 ?_
  intro p e s m below meth c s₁ hx hby hml0 hown hret hlk hnm hZ X0 e0
  have hml : c.maxLocals = 4 := hml0
  have B : BX p c jdk_29_method_70_code := ⟨hx, hby⟩
  refine own_cast (ef_1 m q1 q2) ?_
  show OG p e ({ frames := 0, cells := 0, slots := 0, locals := 0 } : Room) s below (fun v h L => v = some (.long (f1 q1 q2)) ∧ L = [] ∧ h = h0) s₁ (mkF m 0 #[.val (.long q1), .second, .val (.long q2), .second] [])
  refine wlloadN OGc 1 X0 B d1_0 rfl rfl ?_
  refine wlloadN OGc 2 X0 B d1_1 rfl rfl ?_
  refine wlcmp OGc 3 X0 B d1_2 rfl ?_
  by_cases c1 : q2 < q1
  · refine wifYes OGc 10 X0 B d1_3 (own_if0 (tlt ((lw_gt _ _).mpr c1)).2.2.1) rfl ?_
    refine wlloadN OGc 11 X0 B d1_10 rfl rfl ?_
    exact own_retL X0 hx hret hlk (hb hby d1_11) (by decide) (by decide) ⟨congrArg (fun z => some (Value.long z)) (show f1 q1 q2 = q2 from (by rw [f1, if_pos c1])).symm, rfl, e0⟩
  · refine wifNo OGc 6 X0 B d1_3 (own_if0 (flt (fun q => c1 ((lw_gt _ _).mp q))).2.2.1) rfl ?_
    refine wlloadN OGc 7 X0 B d1_6 rfl rfl ?_
    refine wgoto OGc 11 X0 B d1_7 rfl ?_
    exact own_retL X0 hx hret hlk (hb hby d1_11) (by decide) (by decide) ⟨congrArg (fun z => some (Value.long z)) (show f1 q1 q2 = q1 from (by rw [f1, if_neg c1])).symm, rfl, e0⟩
theorem d3_0 : decode method_2_code 0 = .ok (.iload_n 0, 1) := by decide +kernel
theorem d3_1 : decode method_2_code 1 = .ok (.ifCond .lt 13, 3) := by decide +kernel
theorem d3_4 : decode method_2_code 4 = .ok (.iload_n 0, 1) := by decide +kernel
theorem d3_5 : decode method_2_code 5 = .ok (.bipush 6, 2) := by decide +kernel
theorem d3_7 : decode method_2_code 7 = .ok (.if_icmp .ge 7, 3) := by decide +kernel
theorem d3_10 : decode method_2_code 10 = .ok (.iconst 1, 1) := by decide +kernel
theorem d3_11 : decode method_2_code 11 = .ok (.goto 4, 3) := by decide +kernel
theorem d3_14 : decode method_2_code 14 = .ok (.iconst 0, 1) := by decide +kernel
theorem d3_15 : decode method_2_code 15 = .ok (.ireturn, 1) := by decide +kernel
theorem pn_3 : plainFor (⟨"com/example/fragmark/fragmark/PhraseMatcherSiftDownPinLaw", "in", "(I)Z"⟩ : MethodName) = true := by first | exact plainFor_of_name (by first | (simp [plainName, overriddenIn]; done) | decide +kernel) | decide +kernel
def f3 (p1 : Int32) : Int32 := (if p1 < (0 : Int32) then (0 : Int32) else (if p1 < (6 : Int32) then (1 : Int32) else (0 : Int32)))
theorem ef_3 (m : MethodId) (p1 : Int32) : entryFrame m #[(.int p1)] 1 = (mkF m 0 #[.val (.int p1)] []) := by first | (simp [entryFrame, mkF, argsToLocals, Value.category]; done) | rfl
abbrev Q3 (Z : State) (p1 : Int32) (h0 : Heap)  : Option Value → Heap → List Loc → Prop := (fun v h L => v = some (.int (f3 p1)) ∧ L = [] ∧ h = h0)
set_option maxRecDepth 65536 in
set_option maxHeartbeats 40000000 in
theorem rm3 (l : Launch) (Z : State) (a0 : Array Value) (hw : ∀ d ∈ tables_1, d.before a0 Z = true) (ws : List Jvm.Cond) (p1 : Int32) (h0 : Heap)  :
    OMet l Z (⟨"com/example/fragmark/fragmark/PhraseMatcherSiftDownPinLaw", "in", "(I)Z"⟩ : MethodName) method_2_code 1 (some .boolean) ws ({ frames := 0, cells := 0, slots := 0, locals := 0 } : Room) #[(.int p1)] h0 (Q3 Z p1 h0) := by
  refine own_enter pn_3 ?_
  intro p e s m below meth c s₁ hx hby hml0 hown hret hlk hnm hZ X0 e0
  have hml : c.maxLocals = 1 := hml0
  have B : BX p c method_2_code := ⟨hx, hby⟩
  refine own_cast (ef_3 m p1) ?_
  show OG p e ({ frames := 0, cells := 0, slots := 0, locals := 0 } : Room) s below (fun v h L => v = some (.int (f3 p1)) ∧ L = [] ∧ h = h0) s₁ (mkF m 0 #[.val (.int p1)] [])
  refine wiloadN OGc 1 X0 B d3_0 rfl rfl ?_
  by_cases c1 : p1 < (0 : Int32)
  · refine wifYes OGc 14 X0 B d3_1 (own_if0 (tlt c1).1) rfl ?_
    refine wiconst OGc 15 X0 B d3_14 0 rfl rfl ?_
    exact own_retZ X0 hx (t := .boolean) hret (by simp) hlk (hb hby d3_15) (by decide) (by decide) (w := (0 : Int32)) rfl ⟨congrArg (fun z => some (Value.int z)) (show f3 p1 = (0 : Int32) from (by rw [f3, if_pos c1])).symm, rfl, e0⟩
  · refine wifNo OGc 4 X0 B d3_1 (own_if0 (flt c1).1) rfl ?_
    refine wiloadN OGc 5 X0 B d3_4 rfl rfl ?_
    refine wbipush OGc 7 X0 B d3_5 6 rfl rfl ?_
    by_cases c2 : p1 < (6 : Int32)
    · refine wicmpNo OGc 10 X0 B d3_7 (tlt c2).2.1 rfl ?_
      refine wiconst OGc 11 X0 B d3_10 1 rfl rfl ?_
      refine wgoto OGc 15 X0 B d3_11 rfl ?_
      exact own_retZ X0 hx (t := .boolean) hret (by simp) hlk (hb hby d3_15) (by decide) (by decide) (w := (1 : Int32)) rfl ⟨congrArg (fun z => some (Value.int z)) (show f3 p1 = (1 : Int32) from (by rw [f3, if_neg c1, if_pos c2])).symm, rfl, e0⟩
    · refine wicmpYes OGc 14 X0 B d3_7 (flt c2).2.1 rfl ?_
      refine wiconst OGc 15 X0 B d3_14 0 rfl rfl ?_
      exact own_retZ X0 hx (t := .boolean) hret (by simp) hlk (hb hby d3_15) (by decide) (by decide) (w := (0 : Int32)) rfl ⟨congrArg (fun z => some (Value.int z)) (show f3 p1 = (0 : Int32) from (by rw [f3, if_neg c1, if_neg c2])).symm, rfl, e0⟩
theorem d2_0 : decode prog_32_method_19_code 0 = .ok (.iload_n 2, 1) := by decide +kernel
theorem d2_1 : decode prog_32_method_19_code 1 = .ok (.istore_n 3, 1) := by decide +kernel
theorem d2_2 : decode prog_32_method_19_code 2 = .ok (.iload_n 3, 1) := by decide +kernel
theorem d2_3 : decode prog_32_method_19_code 3 = .ok (.istore 4, 2) := by decide +kernel
theorem d2_5 : decode prog_32_method_19_code 5 = .ok (.iconst 2, 1) := by decide +kernel
theorem d2_6 : decode prog_32_method_19_code 6 = .ok (.iload_n 3, 1) := by decide +kernel
theorem d2_7 : decode prog_32_method_19_code 7 = .ok (.imul, 1) := by decide +kernel
theorem d2_8 : decode prog_32_method_19_code 8 = .ok (.iconst 1, 1) := by decide +kernel
theorem d2_9 : decode prog_32_method_19_code 9 = .ok (.iadd, 1) := by decide +kernel
theorem d2_10 : decode prog_32_method_19_code 10 = .ok (.istore 5, 2) := by decide +kernel
theorem d2_12 : decode prog_32_method_19_code 12 = .ok (.iload 5, 2) := by decide +kernel
theorem d2_14 : decode prog_32_method_19_code 14 = .ok (.iconst 2, 1) := by decide +kernel
theorem d2_15 : decode prog_32_method_19_code 15 = .ok (.iload_n 3, 1) := by decide +kernel
theorem d2_16 : decode prog_32_method_19_code 16 = .ok (.imul, 1) := by decide +kernel
theorem d2_17 : decode prog_32_method_19_code 17 = .ok (.iconst 2, 1) := by decide +kernel
theorem d2_18 : decode prog_32_method_19_code 18 = .ok (.iadd, 1) := by decide +kernel
theorem d2_19 : decode prog_32_method_19_code 19 = .ok (.if_icmp .gt 36, 3) := by decide +kernel
theorem d2_22 : decode prog_32_method_19_code 22 = .ok (.iload 5, 2) := by decide +kernel
theorem d2_24 : decode prog_32_method_19_code 24 = .ok (.aload_n 0, 1) := by decide +kernel
theorem d2_25 : decode prog_32_method_19_code 25 = .ok (.arraylength, 1) := by decide +kernel
theorem d2_26 : decode prog_32_method_19_code 26 = .ok (.if_icmp .ge 29, 3) := by decide +kernel
theorem d2_29 : decode prog_32_method_19_code 29 = .ok (.aload_n 1, 1) := by decide +kernel
theorem d2_30 : decode prog_32_method_19_code 30 = .ok (.aload_n 0, 1) := by decide +kernel
theorem d2_31 : decode prog_32_method_19_code 31 = .ok (.iload 5, 2) := by decide +kernel
theorem d2_33 : decode prog_32_method_19_code 33 = .ok (.iaload, 1) := by decide +kernel
theorem d2_34 : decode prog_32_method_19_code 34 = .ok (.laload, 1) := by decide +kernel
theorem d2_35 : decode prog_32_method_19_code 35 = .ok (.aload_n 1, 1) := by decide +kernel
theorem d2_36 : decode prog_32_method_19_code 36 = .ok (.aload_n 0, 1) := by decide +kernel
theorem d2_37 : decode prog_32_method_19_code 37 = .ok (.iload 4, 2) := by decide +kernel
theorem d2_39 : decode prog_32_method_19_code 39 = .ok (.iaload, 1) := by decide +kernel
theorem d2_40 : decode prog_32_method_19_code 40 = .ok (.laload, 1) := by decide +kernel
theorem d2_41 : decode prog_32_method_19_code 41 = .ok (.lcmp, 1) := by decide +kernel
theorem d2_42 : decode prog_32_method_19_code 42 = .ok (.ifCond .ge 7, 3) := by decide +kernel
theorem d2_45 : decode prog_32_method_19_code 45 = .ok (.iload 5, 2) := by decide +kernel
theorem d2_47 : decode prog_32_method_19_code 47 = .ok (.istore 4, 2) := by decide +kernel
theorem d2_49 : decode prog_32_method_19_code 49 = .ok (.iinc 5 1, 3) := by decide +kernel
theorem d2_52 : decode prog_32_method_19_code 52 = .ok (.goto (-40), 3) := by decide +kernel
theorem d2_55 : decode prog_32_method_19_code 55 = .ok (.iload 4, 2) := by decide +kernel
theorem d2_57 : decode prog_32_method_19_code 57 = .ok (.iload_n 3, 1) := by decide +kernel
theorem d2_58 : decode prog_32_method_19_code 58 = .ok (.if_icmp .ne 4, 3) := by decide +kernel
theorem d2_61 : decode prog_32_method_19_code 61 = .ok (.return_, 1) := by decide +kernel
theorem d2_62 : decode prog_32_method_19_code 62 = .ok (.aload_n 0, 1) := by decide +kernel
theorem d2_63 : decode prog_32_method_19_code 63 = .ok (.iload_n 3, 1) := by decide +kernel
theorem d2_64 : decode prog_32_method_19_code 64 = .ok (.iaload, 1) := by decide +kernel
theorem d2_65 : decode prog_32_method_19_code 65 = .ok (.istore 5, 2) := by decide +kernel
theorem d2_67 : decode prog_32_method_19_code 67 = .ok (.aload_n 0, 1) := by decide +kernel
theorem d2_68 : decode prog_32_method_19_code 68 = .ok (.iload_n 3, 1) := by decide +kernel
theorem d2_69 : decode prog_32_method_19_code 69 = .ok (.aload_n 0, 1) := by decide +kernel
theorem d2_70 : decode prog_32_method_19_code 70 = .ok (.iload 4, 2) := by decide +kernel
theorem d2_72 : decode prog_32_method_19_code 72 = .ok (.iaload, 1) := by decide +kernel
theorem d2_73 : decode prog_32_method_19_code 73 = .ok (.iastore, 1) := by decide +kernel
theorem d2_74 : decode prog_32_method_19_code 74 = .ok (.aload_n 0, 1) := by decide +kernel
theorem d2_75 : decode prog_32_method_19_code 75 = .ok (.iload 4, 2) := by decide +kernel
theorem d2_77 : decode prog_32_method_19_code 77 = .ok (.iload 5, 2) := by decide +kernel
theorem d2_79 : decode prog_32_method_19_code 79 = .ok (.iastore, 1) := by decide +kernel
theorem d2_80 : decode prog_32_method_19_code 80 = .ok (.iload 4, 2) := by decide +kernel
theorem d2_82 : decode prog_32_method_19_code 82 = .ok (.istore_n 3, 1) := by decide +kernel
theorem d2_83 : decode prog_32_method_19_code 83 = .ok (.goto (-81), 3) := by decide +kernel
theorem pn_2 : plainFor (⟨"com/example/fragmark/fragmark/PhraseMatcher", "siftDown", "([I[JI)V"⟩ : MethodName) = true := by first | exact plainFor_of_name (by first | (simp [plainName, overriddenIn]; done) | decide +kernel) | decide +kernel
theorem ef_2_0 (m : MethodId) (a1 : Addr) (a2 : Addr) : entryFrame m #[(.ref a1), (.ref a2), (.int (0 : Int32))] 6 = (mkF m 0 #[.val (.ref a1), .val (.ref a2), .val (.int (0 : Int32)), .unset, .unset, .unset] []) := by first | (simp [entryFrame, mkF, argsToLocals, Value.category]; done) | rfl
abbrev Q2_0 (Z : State) (a1 : Addr) (a2 : Addr) (w0 : Int64) (w1 : Int64) (w2 : Int64) (w3 : Int64) (w4 : Int64) (w5 : Int64) (h0 : Heap) (n0 : Nat) : Option Value → Heap → List Loc → Prop := (fun v h L => v = none ∧ Fr n0 L ∧ Keep h0 h [a1] ∧ (((w0 < w2) ∧ (w5 < w0) ∧ (w4 < w2) ∧ OA Z h a1 .int [(.int (5 : Int32)), (.int (0 : Int32)), (.int (4 : Int32)), (.int (1 : Int32)), (.int (3 : Int32)), (.int (2 : Int32))]) ∨ ((w0 < w2) ∧ (w5 < w0) ∧ (¬ (w4 < w2)) ∧ OA Z h a1 .int [(.int (5 : Int32)), (.int (0 : Int32)), (.int (2 : Int32)), (.int (1 : Int32)), (.int (3 : Int32)), (.int (4 : Int32))]) ∨ ((w0 < w2) ∧ (¬ (w5 < w0)) ∧ (w1 < w2) ∧ (w3 < w1) ∧ OA Z h a1 .int [(.int (0 : Int32)), (.int (3 : Int32)), (.int (5 : Int32)), (.int (1 : Int32)), (.int (2 : Int32)), (.int (4 : Int32))]) ∨ ((w0 < w2) ∧ (¬ (w5 < w0)) ∧ (w1 < w2) ∧ (¬ (w3 < w1)) ∧ OA Z h a1 .int [(.int (0 : Int32)), (.int (1 : Int32)), (.int (5 : Int32)), (.int (2 : Int32)), (.int (3 : Int32)), (.int (4 : Int32))]) ∨ ((w0 < w2) ∧ (¬ (w5 < w0)) ∧ (¬ (w1 < w2)) ∧ (w3 < w2) ∧ OA Z h a1 .int [(.int (0 : Int32)), (.int (3 : Int32)), (.int (5 : Int32)), (.int (1 : Int32)), (.int (2 : Int32)), (.int (4 : Int32))]) ∨ ((w0 < w2) ∧ (¬ (w5 < w0)) ∧ (¬ (w1 < w2)) ∧ (¬ (w3 < w2)) ∧ OA Z h a1 .int [(.int (0 : Int32)), (.int (2 : Int32)), (.int (5 : Int32)), (.int (1 : Int32)), (.int (3 : Int32)), (.int (4 : Int32))]) ∨ ((¬ (w0 < w2)) ∧ (w5 < w2) ∧ (w4 < w2) ∧ OA Z h a1 .int [(.int (5 : Int32)), (.int (0 : Int32)), (.int (4 : Int32)), (.int (1 : Int32)), (.int (3 : Int32)), (.int (2 : Int32))]) ∨ ((¬ (w0 < w2)) ∧ (w5 < w2) ∧ (¬ (w4 < w2)) ∧ OA Z h a1 .int [(.int (5 : Int32)), (.int (0 : Int32)), (.int (2 : Int32)), (.int (1 : Int32)), (.int (3 : Int32)), (.int (4 : Int32))]) ∨ ((¬ (w0 < w2)) ∧ (¬ (w5 < w2)) ∧ OA Z h a1 .int [(.int (2 : Int32)), (.int (0 : Int32)), (.int (5 : Int32)), (.int (1 : Int32)), (.int (3 : Int32)), (.int (4 : Int32))])))
set_option maxRecDepth 65536 in
set_option maxHeartbeats 40000000 in
theorem rm2_0 (l : Launch) (Z : State) (a0 : Array Value) (hw : ∀ d ∈ tables_1, d.before a0 Z = true) (ws : List Jvm.Cond) (a1 : Addr) (a2 : Addr) (w0 : Int64) (w1 : Int64) (w2 : Int64) (w3 : Int64) (w4 : Int64) (w5 : Int64) (h0 : Heap) (n0 : Nat) (R0 : OA Z h0 a1 .int [(.int (2 : Int32)), (.int (0 : Int32)), (.int (5 : Int32)), (.int (1 : Int32)), (.int (3 : Int32)), (.int (4 : Int32))]) (R1 : OA Z h0 a2 .long [(.long w0), (.long w1), (.long w2), (.long w3), (.long w4), (.long w5)]) (g_a1 : n0 ≤ a1) (ne_a2_a1 : a2 ≠ a1) :
    OMet l Z (⟨"com/example/fragmark/fragmark/PhraseMatcher", "siftDown", "([I[JI)V"⟩ : MethodName) prog_32_method_19_code 6 none ws ({ frames := 0, cells := 0, slots := 0, locals := 0 } : Room) #[(.ref a1), (.ref a2), (.int (0 : Int32))] h0 (Q2_0 Z a1 a2 w0 w1 w2 w3 w4 w5 h0 n0) := by
  refine own_enter pn_2 ?_
  intro p e s m below meth c s₁ hx hby hml0 hown hret hlk hnm hZ X0 e0
  have hml : c.maxLocals = 6 := hml0
  have B : BX p c prog_32_method_19_code := ⟨hx, hby⟩
  have N0 := Fr.nil n0
  refine own_cast (ef_2_0 m a1 a2) ?_
  show OG p e ({ frames := 0, cells := 0, slots := 0, locals := 0 } : Room) s below (fun v h L => v = none ∧ Fr n0 L ∧ Keep h0 h [a1] ∧ (((w0 < w2) ∧ (w5 < w0) ∧ (w4 < w2) ∧ OA Z h a1 .int [(.int (5 : Int32)), (.int (0 : Int32)), (.int (4 : Int32)), (.int (1 : Int32)), (.int (3 : Int32)), (.int (2 : Int32))]) ∨ ((w0 < w2) ∧ (w5 < w0) ∧ (¬ (w4 < w2)) ∧ OA Z h a1 .int [(.int (5 : Int32)), (.int (0 : Int32)), (.int (2 : Int32)), (.int (1 : Int32)), (.int (3 : Int32)), (.int (4 : Int32))]) ∨ ((w0 < w2) ∧ (¬ (w5 < w0)) ∧ (w1 < w2) ∧ (w3 < w1) ∧ OA Z h a1 .int [(.int (0 : Int32)), (.int (3 : Int32)), (.int (5 : Int32)), (.int (1 : Int32)), (.int (2 : Int32)), (.int (4 : Int32))]) ∨ ((w0 < w2) ∧ (¬ (w5 < w0)) ∧ (w1 < w2) ∧ (¬ (w3 < w1)) ∧ OA Z h a1 .int [(.int (0 : Int32)), (.int (1 : Int32)), (.int (5 : Int32)), (.int (2 : Int32)), (.int (3 : Int32)), (.int (4 : Int32))]) ∨ ((w0 < w2) ∧ (¬ (w5 < w0)) ∧ (¬ (w1 < w2)) ∧ (w3 < w2) ∧ OA Z h a1 .int [(.int (0 : Int32)), (.int (3 : Int32)), (.int (5 : Int32)), (.int (1 : Int32)), (.int (2 : Int32)), (.int (4 : Int32))]) ∨ ((w0 < w2) ∧ (¬ (w5 < w0)) ∧ (¬ (w1 < w2)) ∧ (¬ (w3 < w2)) ∧ OA Z h a1 .int [(.int (0 : Int32)), (.int (2 : Int32)), (.int (5 : Int32)), (.int (1 : Int32)), (.int (3 : Int32)), (.int (4 : Int32))]) ∨ ((¬ (w0 < w2)) ∧ (w5 < w2) ∧ (w4 < w2) ∧ OA Z h a1 .int [(.int (5 : Int32)), (.int (0 : Int32)), (.int (4 : Int32)), (.int (1 : Int32)), (.int (3 : Int32)), (.int (2 : Int32))]) ∨ ((¬ (w0 < w2)) ∧ (w5 < w2) ∧ (¬ (w4 < w2)) ∧ OA Z h a1 .int [(.int (5 : Int32)), (.int (0 : Int32)), (.int (2 : Int32)), (.int (1 : Int32)), (.int (3 : Int32)), (.int (4 : Int32))]) ∨ ((¬ (w0 < w2)) ∧ (¬ (w5 < w2)) ∧ OA Z h a1 .int [(.int (2 : Int32)), (.int (0 : Int32)), (.int (5 : Int32)), (.int (1 : Int32)), (.int (3 : Int32)), (.int (4 : Int32))]))) s₁ (mkF m 0 #[.val (.ref a1), .val (.ref a2), .val (.int (0 : Int32)), .unset, .unset, .unset] [])
  refine wiloadN OGc 1 X0 B d2_0 rfl rfl ?_
  refine wistoreN OGc 2 X0 B d2_1 #[.val (.ref a1), .val (.ref a2), .val (.int (0 : Int32)), .val (.int (0 : Int32)), .unset, .unset] rfl rfl ?_
  refine wiloadN OGc 3 X0 B d2_2 rfl rfl ?_
  refine wistore OGc 5 X0 B d2_3 #[.val (.ref a1), .val (.ref a2), .val (.int (0 : Int32)), .val (.int (0 : Int32)), .val (.int (0 : Int32)), .unset] rfl rfl ?_
  refine wiconst OGc 6 X0 B d2_5 2 rfl rfl ?_
  refine wiloadN OGc 7 X0 B d2_6 rfl rfl ?_
  refine own_st (fun t k => XS.imul X0.here hx rfl (hb hby d2_7) rfl k) ?_
  show OG p e _ s below _ s₁ (mkF m 8 #[.val (.ref a1), .val (.ref a2), .val (.int (0 : Int32)), .val (.int (0 : Int32)), .val (.int (0 : Int32)), .unset] [(.int (0 : Int32))])
  refine wiconst OGc 9 X0 B d2_8 1 rfl rfl ?_
  refine wiadd OGc 10 X0 B d2_9 rfl ?_
  show OG p e _ s below _ s₁ (mkF m 10 #[.val (.ref a1), .val (.ref a2), .val (.int (0 : Int32)), .val (.int (0 : Int32)), .val (.int (0 : Int32)), .unset] [(.int (1 : Int32))])
  refine wistore OGc 12 X0 B d2_10 #[.val (.ref a1), .val (.ref a2), .val (.int (0 : Int32)), .val (.int (0 : Int32)), .val (.int (0 : Int32)), .val (.int (1 : Int32))] rfl rfl ?_
  refine wiload OGc 14 X0 B d2_12 rfl rfl ?_
  refine wiconst OGc 15 X0 B d2_14 2 rfl rfl ?_
  refine wiloadN OGc 16 X0 B d2_15 rfl rfl ?_
  refine own_st (fun t k => XS.imul X0.here hx rfl (hb hby d2_16) rfl k) ?_
  show OG p e _ s below _ s₁ (mkF m 17 #[.val (.ref a1), .val (.ref a2), .val (.int (0 : Int32)), .val (.int (0 : Int32)), .val (.int (0 : Int32)), .val (.int (1 : Int32))] [(.int (0 : Int32)), (.int (1 : Int32))])
  refine wiconst OGc 18 X0 B d2_17 2 rfl rfl ?_
  refine wiadd OGc 19 X0 B d2_18 rfl ?_
  show OG p e _ s below _ s₁ (mkF m 19 #[.val (.ref a1), .val (.ref a2), .val (.int (0 : Int32)), .val (.int (0 : Int32)), .val (.int (0 : Int32)), .val (.int (1 : Int32))] [(.int (2 : Int32)), (.int (1 : Int32))])
  refine wicmpNo OGc 22 X0 B d2_19 (by decide) rfl ?_
  refine wiload OGc 24 X0 B d2_22 rfl rfl ?_
  refine waloadN OGc 25 X0 B d2_24 rfl rfl rfl ?_
  refine warlenA OGc 26 X0 B hZ e0 R0 (6 : Int32) rfl d2_25 rfl ?_
  refine wicmpNo OGc 29 X0 B d2_26 (by decide) rfl ?_
  refine waloadN OGc 30 X0 B d2_29 rfl rfl rfl ?_
  refine waloadN OGc 31 X0 B d2_30 rfl rfl rfl ?_
  refine wiload OGc 33 X0 B d2_31 rfl rfl ?_
  refine wiaload OGc 34 X0 B hZ e0 R0 (v := (.int (0 : Int32))) 1 (by decide) (by decide) rfl d2_33 rfl ?_
  refine wlaload OGc 35 X0 B hZ e0 R1 (v := (.long w0)) 0 (by decide) (by decide) rfl d2_34 rfl ?_
  refine waloadN OGc 36 X0 B d2_35 rfl rfl rfl ?_
  refine waloadN OGc 37 X0 B d2_36 rfl rfl rfl ?_
  refine wiload OGc 39 X0 B d2_37 rfl rfl ?_
  refine wiaload OGc 40 X0 B hZ e0 R0 (v := (.int (2 : Int32))) 0 (by decide) (by decide) rfl d2_39 rfl ?_
  refine wlaload OGc 41 X0 B hZ e0 R1 (v := (.long w2)) 2 (by decide) (by decide) rfl d2_40 rfl ?_
  refine wlcmp OGc 42 X0 B d2_41 rfl ?_
  by_cases c6 : w0 < w2
  · refine wifNo OGc 45 X0 B d2_42 (own_if0 (tlt ((lw_lt _ _).mpr c6)).2.1) rfl ?_
    refine wiload OGc 47 X0 B d2_45 rfl rfl ?_
    refine wistore OGc 49 X0 B d2_47 #[.val (.ref a1), .val (.ref a2), .val (.int (0 : Int32)), .val (.int (0 : Int32)), .val (.int (1 : Int32)), .val (.int (1 : Int32))] rfl rfl ?_
    refine wiinc OGc 52 X0 B d2_49 #[.val (.ref a1), .val (.ref a2), .val (.int (0 : Int32)), .val (.int (0 : Int32)), .val (.int (1 : Int32)), .val (.int ((1 : Int32) + (1 : Int32)))] rfl rfl rfl ?_
    show OG p e _ s below _ s₁ (mkF m 52 #[.val (.ref a1), .val (.ref a2), .val (.int (0 : Int32)), .val (.int (0 : Int32)), .val (.int (1 : Int32)), .val (.int (2 : Int32))] [])
    refine wgoto OGc 12 X0 B d2_52 rfl ?_
    refine wiload OGc 14 X0 B d2_12 rfl rfl ?_
    refine wiconst OGc 15 X0 B d2_14 2 rfl rfl ?_
    refine wiloadN OGc 16 X0 B d2_15 rfl rfl ?_
    refine own_st (fun t k => XS.imul X0.here hx rfl (hb hby d2_16) rfl k) ?_
    show OG p e _ s below _ s₁ (mkF m 17 #[.val (.ref a1), .val (.ref a2), .val (.int (0 : Int32)), .val (.int (0 : Int32)), .val (.int (1 : Int32)), .val (.int (2 : Int32))] [(.int (0 : Int32)), (.int (2 : Int32))])
    refine wiconst OGc 18 X0 B d2_17 2 rfl rfl ?_
    refine wiadd OGc 19 X0 B d2_18 rfl ?_
    show OG p e _ s below _ s₁ (mkF m 19 #[.val (.ref a1), .val (.ref a2), .val (.int (0 : Int32)), .val (.int (0 : Int32)), .val (.int (1 : Int32)), .val (.int (2 : Int32))] [(.int (2 : Int32)), (.int (2 : Int32))])
    refine wicmpNo OGc 22 X0 B d2_19 (by decide) rfl ?_
    refine wiload OGc 24 X0 B d2_22 rfl rfl ?_
    refine waloadN OGc 25 X0 B d2_24 rfl rfl rfl ?_
    refine warlenA OGc 26 X0 B hZ e0 R0 (6 : Int32) rfl d2_25 rfl ?_
    refine wicmpNo OGc 29 X0 B d2_26 (by decide) rfl ?_
    refine waloadN OGc 30 X0 B d2_29 rfl rfl rfl ?_
    refine waloadN OGc 31 X0 B d2_30 rfl rfl rfl ?_
    refine wiload OGc 33 X0 B d2_31 rfl rfl ?_
    refine wiaload OGc 34 X0 B hZ e0 R0 (v := (.int (5 : Int32))) 2 (by decide) (by decide) rfl d2_33 rfl ?_
    refine wlaload OGc 35 X0 B hZ e0 R1 (v := (.long w5)) 5 (by decide) (by decide) rfl d2_34 rfl ?_
    refine waloadN OGc 36 X0 B d2_35 rfl rfl rfl ?_
    refine waloadN OGc 37 X0 B d2_36 rfl rfl rfl ?_
    refine wiload OGc 39 X0 B d2_37 rfl rfl ?_
    refine wiaload OGc 40 X0 B hZ e0 R0 (v := (.int (0 : Int32))) 1 (by decide) (by decide) rfl d2_39 rfl ?_
    refine wlaload OGc 41 X0 B hZ e0 R1 (v := (.long w0)) 0 (by decide) (by decide) rfl d2_40 rfl ?_
    refine wlcmp OGc 42 X0 B d2_41 rfl ?_
    by_cases c12 : w5 < w0
    · refine wifNo OGc 45 X0 B d2_42 (own_if0 (tlt ((lw_lt _ _).mpr c12)).2.1) rfl ?_
      refine wiload OGc 47 X0 B d2_45 rfl rfl ?_
      refine wistore OGc 49 X0 B d2_47 #[.val (.ref a1), .val (.ref a2), .val (.int (0 : Int32)), .val (.int (0 : Int32)), .val (.int (2 : Int32)), .val (.int (2 : Int32))] rfl rfl ?_
      refine wiinc OGc 52 X0 B d2_49 #[.val (.ref a1), .val (.ref a2), .val (.int (0 : Int32)), .val (.int (0 : Int32)), .val (.int (2 : Int32)), .val (.int ((2 : Int32) + (1 : Int32)))] rfl rfl rfl ?_
      show OG p e _ s below _ s₁ (mkF m 52 #[.val (.ref a1), .val (.ref a2), .val (.int (0 : Int32)), .val (.int (0 : Int32)), .val (.int (2 : Int32)), .val (.int (3 : Int32))] [])
      refine wgoto OGc 12 X0 B d2_52 rfl ?_
      refine wiload OGc 14 X0 B d2_12 rfl rfl ?_
      refine wiconst OGc 15 X0 B d2_14 2 rfl rfl ?_
      refine wiloadN OGc 16 X0 B d2_15 rfl rfl ?_
      refine own_st (fun t k => XS.imul X0.here hx rfl (hb hby d2_16) rfl k) ?_
      show OG p e _ s below _ s₁ (mkF m 17 #[.val (.ref a1), .val (.ref a2), .val (.int (0 : Int32)), .val (.int (0 : Int32)), .val (.int (2 : Int32)), .val (.int (3 : Int32))] [(.int (0 : Int32)), (.int (3 : Int32))])
      refine wiconst OGc 18 X0 B d2_17 2 rfl rfl ?_
      refine wiadd OGc 19 X0 B d2_18 rfl ?_
      show OG p e _ s below _ s₁ (mkF m 19 #[.val (.ref a1), .val (.ref a2), .val (.int (0 : Int32)), .val (.int (0 : Int32)), .val (.int (2 : Int32)), .val (.int (3 : Int32))] [(.int (2 : Int32)), (.int (3 : Int32))])
      refine wicmpYes OGc 55 X0 B d2_19 (by decide) rfl ?_
      refine wiload OGc 57 X0 B d2_55 rfl rfl ?_
      refine wiloadN OGc 58 X0 B d2_57 rfl rfl ?_
      refine wicmpYes OGc 62 X0 B d2_58 (by decide) rfl ?_
      refine waloadN OGc 63 X0 B d2_62 rfl rfl rfl ?_
      refine wiloadN OGc 64 X0 B d2_63 rfl rfl ?_
      refine wiaload OGc 65 X0 B hZ e0 R0 (v := (.int (2 : Int32))) 0 (by decide) (by decide) rfl d2_64 rfl ?_
      refine wistore OGc 67 X0 B d2_65 #[.val (.ref a1), .val (.ref a2), .val (.int (0 : Int32)), .val (.int (0 : Int32)), .val (.int (2 : Int32)), .val (.int (2 : Int32))] rfl rfl ?_
      refine waloadN OGc 68 X0 B d2_67 rfl rfl rfl ?_
      refine wiloadN OGc 69 X0 B d2_68 rfl rfl ?_
      refine waloadN OGc 70 X0 B d2_69 rfl rfl rfl ?_
      refine wiload OGc 72 X0 B d2_70 rfl rfl ?_
      refine wiaload OGc 73 X0 B hZ e0 R0 (v := (.int (5 : Int32))) 2 (by decide) (by decide) rfl d2_72 rfl ?_
      refine wstI OGc 74 X0 B hZ e0 R0 0 (by decide) (by decide) (by decide : 0 < 6) d2_73 rfl fun T15 h15 X15 e15 W15 => ?_
      have N15 := Fr.snoc X15 N0 g_a1
      have K16 := (Keep.refl h0 [a1]).wr W15 (Or.inl (List.mem_of_getElem? (i := 0) rfl))
      have F17 : OA Z h15 a1 .int [(.int (5 : Int32)), (.int (0 : Int32)), (.int (5 : Int32)), (.int (1 : Int32)), (.int (3 : Int32)), (.int (4 : Int32))] := (R0.set W15 (i := 0) (by decide))
      have F18 := R1.other W15 ne_a2_a1
      refine waloadN OGc 75 X15 B d2_74 rfl rfl rfl ?_
      refine wiload OGc 77 X15 B d2_75 rfl rfl ?_
      refine wiload OGc 79 X15 B d2_77 rfl rfl ?_
      refine wstI OGc 80 X15 B hZ e15 F17 2 (by decide) (by decide) (by decide : 2 < 6) d2_79 rfl fun T19 h19 X19 e19 W19 => ?_
      have N19 := Fr.snoc X19 N15 g_a1
      have K20 := K16.wr W19 (Or.inl (List.mem_of_getElem? (i := 0) rfl))
      have F21 : OA Z h19 a1 .int [(.int (5 : Int32)), (.int (0 : Int32)), (.int (2 : Int32)), (.int (1 : Int32)), (.int (3 : Int32)), (.int (4 : Int32))] := (F17.set W19 (i := 2) (by decide))
      have F22 := F18.other W19 ne_a2_a1
      refine wiload OGc 82 X19 B d2_80 rfl rfl ?_
      refine wistoreN OGc 83 X19 B d2_82 #[.val (.ref a1), .val (.ref a2), .val (.int (0 : Int32)), .val (.int (2 : Int32)), .val (.int (2 : Int32)), .val (.int (2 : Int32))] rfl rfl ?_
      refine wgoto OGc 2 X19 B d2_83 rfl ?_
      refine wiloadN OGc 3 X19 B d2_2 rfl rfl ?_
      refine wistore OGc 5 X19 B d2_3 #[.val (.ref a1), .val (.ref a2), .val (.int (0 : Int32)), .val (.int (2 : Int32)), .val (.int (2 : Int32)), .val (.int (2 : Int32))] rfl rfl ?_
      refine wiconst OGc 6 X19 B d2_5 2 rfl rfl ?_
      refine wiloadN OGc 7 X19 B d2_6 rfl rfl ?_
      refine own_st (fun t k => XS.imul X19.here hx rfl (hb hby d2_7) rfl k) ?_
      show OG p e _ s below _ T19 (mkF m 8 #[.val (.ref a1), .val (.ref a2), .val (.int (0 : Int32)), .val (.int (2 : Int32)), .val (.int (2 : Int32)), .val (.int (2 : Int32))] [(.int (4 : Int32))])
      refine wiconst OGc 9 X19 B d2_8 1 rfl rfl ?_
      refine wiadd OGc 10 X19 B d2_9 rfl ?_
      show OG p e _ s below _ T19 (mkF m 10 #[.val (.ref a1), .val (.ref a2), .val (.int (0 : Int32)), .val (.int (2 : Int32)), .val (.int (2 : Int32)), .val (.int (2 : Int32))] [(.int (5 : Int32))])
      refine wistore OGc 12 X19 B d2_10 #[.val (.ref a1), .val (.ref a2), .val (.int (0 : Int32)), .val (.int (2 : Int32)), .val (.int (2 : Int32)), .val (.int (5 : Int32))] rfl rfl ?_
      refine wiload OGc 14 X19 B d2_12 rfl rfl ?_
      refine wiconst OGc 15 X19 B d2_14 2 rfl rfl ?_
      refine wiloadN OGc 16 X19 B d2_15 rfl rfl ?_
      refine own_st (fun t k => XS.imul X19.here hx rfl (hb hby d2_16) rfl k) ?_
      show OG p e _ s below _ T19 (mkF m 17 #[.val (.ref a1), .val (.ref a2), .val (.int (0 : Int32)), .val (.int (2 : Int32)), .val (.int (2 : Int32)), .val (.int (5 : Int32))] [(.int (4 : Int32)), (.int (5 : Int32))])
      refine wiconst OGc 18 X19 B d2_17 2 rfl rfl ?_
      refine wiadd OGc 19 X19 B d2_18 rfl ?_
      show OG p e _ s below _ T19 (mkF m 19 #[.val (.ref a1), .val (.ref a2), .val (.int (0 : Int32)), .val (.int (2 : Int32)), .val (.int (2 : Int32)), .val (.int (5 : Int32))] [(.int (6 : Int32)), (.int (5 : Int32))])
      refine wicmpNo OGc 22 X19 B d2_19 (by decide) rfl ?_
      refine wiload OGc 24 X19 B d2_22 rfl rfl ?_
      refine waloadN OGc 25 X19 B d2_24 rfl rfl rfl ?_
      refine warlenA OGc 26 X19 B hZ e19 F21 (6 : Int32) rfl d2_25 rfl ?_
      refine wicmpNo OGc 29 X19 B d2_26 (by decide) rfl ?_
      refine waloadN OGc 30 X19 B d2_29 rfl rfl rfl ?_
      refine waloadN OGc 31 X19 B d2_30 rfl rfl rfl ?_
      refine wiload OGc 33 X19 B d2_31 rfl rfl ?_
      refine wiaload OGc 34 X19 B hZ e19 F21 (v := (.int (4 : Int32))) 5 (by decide) (by decide) rfl d2_33 rfl ?_
      refine wlaload OGc 35 X19 B hZ e19 F22 (v := (.long w4)) 4 (by decide) (by decide) rfl d2_34 rfl ?_
      refine waloadN OGc 36 X19 B d2_35 rfl rfl rfl ?_
      refine waloadN OGc 37 X19 B d2_36 rfl rfl rfl ?_
      refine wiload OGc 39 X19 B d2_37 rfl rfl ?_
      refine wiaload OGc 40 X19 B hZ e19 F21 (v := (.int (2 : Int32))) 2 (by decide) (by decide) rfl d2_39 rfl ?_
      refine wlaload OGc 41 X19 B hZ e19 F22 (v := (.long w2)) 2 (by decide) (by decide) rfl d2_40 rfl ?_
      refine wlcmp OGc 42 X19 B d2_41 rfl ?_
      by_cases c28 : w4 < w2
      · refine wifNo OGc 45 X19 B d2_42 (own_if0 (tlt ((lw_lt _ _).mpr c28)).2.1) rfl ?_
        refine wiload OGc 47 X19 B d2_45 rfl rfl ?_
        refine wistore OGc 49 X19 B d2_47 #[.val (.ref a1), .val (.ref a2), .val (.int (0 : Int32)), .val (.int (2 : Int32)), .val (.int (5 : Int32)), .val (.int (5 : Int32))] rfl rfl ?_
        refine wiinc OGc 52 X19 B d2_49 #[.val (.ref a1), .val (.ref a2), .val (.int (0 : Int32)), .val (.int (2 : Int32)), .val (.int (5 : Int32)), .val (.int ((5 : Int32) + (1 : Int32)))] rfl rfl rfl ?_
        show OG p e _ s below _ T19 (mkF m 52 #[.val (.ref a1), .val (.ref a2), .val (.int (0 : Int32)), .val (.int (2 : Int32)), .val (.int (5 : Int32)), .val (.int (6 : Int32))] [])
        refine wgoto OGc 12 X19 B d2_52 rfl ?_
        refine wiload OGc 14 X19 B d2_12 rfl rfl ?_
        refine wiconst OGc 15 X19 B d2_14 2 rfl rfl ?_
        refine wiloadN OGc 16 X19 B d2_15 rfl rfl ?_
        refine own_st (fun t k => XS.imul X19.here hx rfl (hb hby d2_16) rfl k) ?_
        show OG p e _ s below _ T19 (mkF m 17 #[.val (.ref a1), .val (.ref a2), .val (.int (0 : Int32)), .val (.int (2 : Int32)), .val (.int (5 : Int32)), .val (.int (6 : Int32))] [(.int (4 : Int32)), (.int (6 : Int32))])
        refine wiconst OGc 18 X19 B d2_17 2 rfl rfl ?_
        refine wiadd OGc 19 X19 B d2_18 rfl ?_
        show OG p e _ s below _ T19 (mkF m 19 #[.val (.ref a1), .val (.ref a2), .val (.int (0 : Int32)), .val (.int (2 : Int32)), .val (.int (5 : Int32)), .val (.int (6 : Int32))] [(.int (6 : Int32)), (.int (6 : Int32))])
        refine wicmpNo OGc 22 X19 B d2_19 (by decide) rfl ?_
        refine wiload OGc 24 X19 B d2_22 rfl rfl ?_
        refine waloadN OGc 25 X19 B d2_24 rfl rfl rfl ?_
        refine warlenA OGc 26 X19 B hZ e19 F21 (6 : Int32) rfl d2_25 rfl ?_
        refine wicmpYes OGc 55 X19 B d2_26 (by decide) rfl ?_
        refine wiload OGc 57 X19 B d2_55 rfl rfl ?_
        refine wiloadN OGc 58 X19 B d2_57 rfl rfl ?_
        refine wicmpYes OGc 62 X19 B d2_58 (by decide) rfl ?_
        refine waloadN OGc 63 X19 B d2_62 rfl rfl rfl ?_
        refine wiloadN OGc 64 X19 B d2_63 rfl rfl ?_
        refine wiaload OGc 65 X19 B hZ e19 F21 (v := (.int (2 : Int32))) 2 (by decide) (by decide) rfl d2_64 rfl ?_
        refine wistore OGc 67 X19 B d2_65 #[.val (.ref a1), .val (.ref a2), .val (.int (0 : Int32)), .val (.int (2 : Int32)), .val (.int (5 : Int32)), .val (.int (2 : Int32))] rfl rfl ?_
        refine waloadN OGc 68 X19 B d2_67 rfl rfl rfl ?_
        refine wiloadN OGc 69 X19 B d2_68 rfl rfl ?_
        refine waloadN OGc 70 X19 B d2_69 rfl rfl rfl ?_
        refine wiload OGc 72 X19 B d2_70 rfl rfl ?_
        refine wiaload OGc 73 X19 B hZ e19 F21 (v := (.int (4 : Int32))) 5 (by decide) (by decide) rfl d2_72 rfl ?_
        refine wstI OGc 74 X19 B hZ e19 F21 2 (by decide) (by decide) (by decide : 2 < 6) d2_73 rfl fun T32 h32 X32 e32 W32 => ?_
        have N32 := Fr.snoc X32 N19 g_a1
        have K33 := K20.wr W32 (Or.inl (List.mem_of_getElem? (i := 0) rfl))
        have F34 : OA Z h32 a1 .int [(.int (5 : Int32)), (.int (0 : Int32)), (.int (4 : Int32)), (.int (1 : Int32)), (.int (3 : Int32)), (.int (4 : Int32))] := (F21.set W32 (i := 2) (by decide))
        have F35 := F22.other W32 ne_a2_a1
        refine waloadN OGc 75 X32 B d2_74 rfl rfl rfl ?_
        refine wiload OGc 77 X32 B d2_75 rfl rfl ?_
        refine wiload OGc 79 X32 B d2_77 rfl rfl ?_
        refine wstI OGc 80 X32 B hZ e32 F34 5 (by decide) (by decide) (by decide : 5 < 6) d2_79 rfl fun T36 h36 X36 e36 W36 => ?_
        have N36 := Fr.snoc X36 N32 g_a1
        have K37 := K33.wr W36 (Or.inl (List.mem_of_getElem? (i := 0) rfl))
        have F38 : OA Z h36 a1 .int [(.int (5 : Int32)), (.int (0 : Int32)), (.int (4 : Int32)), (.int (1 : Int32)), (.int (3 : Int32)), (.int (2 : Int32))] := (F34.set W36 (i := 5) (by decide))
        have F39 := F35.other W36 ne_a2_a1
        refine wiload OGc 82 X36 B d2_80 rfl rfl ?_
        refine wistoreN OGc 83 X36 B d2_82 #[.val (.ref a1), .val (.ref a2), .val (.int (0 : Int32)), .val (.int (5 : Int32)), .val (.int (5 : Int32)), .val (.int (2 : Int32))] rfl rfl ?_
        refine wgoto OGc 2 X36 B d2_83 rfl ?_
        refine wiloadN OGc 3 X36 B d2_2 rfl rfl ?_
        refine wistore OGc 5 X36 B d2_3 #[.val (.ref a1), .val (.ref a2), .val (.int (0 : Int32)), .val (.int (5 : Int32)), .val (.int (5 : Int32)), .val (.int (2 : Int32))] rfl rfl ?_
        refine wiconst OGc 6 X36 B d2_5 2 rfl rfl ?_
        refine wiloadN OGc 7 X36 B d2_6 rfl rfl ?_
        refine own_st (fun t k => XS.imul X36.here hx rfl (hb hby d2_7) rfl k) ?_
        show OG p e _ s below _ T36 (mkF m 8 #[.val (.ref a1), .val (.ref a2), .val (.int (0 : Int32)), .val (.int (5 : Int32)), .val (.int (5 : Int32)), .val (.int (2 : Int32))] [(.int (10 : Int32))])
        refine wiconst OGc 9 X36 B d2_8 1 rfl rfl ?_
        refine wiadd OGc 10 X36 B d2_9 rfl ?_
        show OG p e _ s below _ T36 (mkF m 10 #[.val (.ref a1), .val (.ref a2), .val (.int (0 : Int32)), .val (.int (5 : Int32)), .val (.int (5 : Int32)), .val (.int (2 : Int32))] [(.int (11 : Int32))])
        refine wistore OGc 12 X36 B d2_10 #[.val (.ref a1), .val (.ref a2), .val (.int (0 : Int32)), .val (.int (5 : Int32)), .val (.int (5 : Int32)), .val (.int (11 : Int32))] rfl rfl ?_
        refine wiload OGc 14 X36 B d2_12 rfl rfl ?_
        refine wiconst OGc 15 X36 B d2_14 2 rfl rfl ?_
        refine wiloadN OGc 16 X36 B d2_15 rfl rfl ?_
        refine own_st (fun t k => XS.imul X36.here hx rfl (hb hby d2_16) rfl k) ?_
        show OG p e _ s below _ T36 (mkF m 17 #[.val (.ref a1), .val (.ref a2), .val (.int (0 : Int32)), .val (.int (5 : Int32)), .val (.int (5 : Int32)), .val (.int (11 : Int32))] [(.int (10 : Int32)), (.int (11 : Int32))])
        refine wiconst OGc 18 X36 B d2_17 2 rfl rfl ?_
        refine wiadd OGc 19 X36 B d2_18 rfl ?_
        show OG p e _ s below _ T36 (mkF m 19 #[.val (.ref a1), .val (.ref a2), .val (.int (0 : Int32)), .val (.int (5 : Int32)), .val (.int (5 : Int32)), .val (.int (11 : Int32))] [(.int (12 : Int32)), (.int (11 : Int32))])
        refine wicmpNo OGc 22 X36 B d2_19 (by decide) rfl ?_
        refine wiload OGc 24 X36 B d2_22 rfl rfl ?_
        refine waloadN OGc 25 X36 B d2_24 rfl rfl rfl ?_
        refine warlenA OGc 26 X36 B hZ e36 F38 (6 : Int32) rfl d2_25 rfl ?_
        refine wicmpYes OGc 55 X36 B d2_26 (by decide) rfl ?_
        refine wiload OGc 57 X36 B d2_55 rfl rfl ?_
        refine wiloadN OGc 58 X36 B d2_57 rfl rfl ?_
        refine wicmpNo OGc 61 X36 B d2_58 (by decide) rfl ?_
        refine own_ret0 X36 hx hret hlk (hb hby d2_61) (by decide) (by decide) ?_
        rw [e36]
        exact ⟨rfl, N36, K37, Or.inl ⟨c6, c12, c28, F38⟩⟩
      · refine wifYes OGc 49 X19 B d2_42 (own_if0 (flt (fun q => c28 ((lw_lt _ _).mp q))).2.1) rfl ?_
        refine wiinc OGc 52 X19 B d2_49 #[.val (.ref a1), .val (.ref a2), .val (.int (0 : Int32)), .val (.int (2 : Int32)), .val (.int (2 : Int32)), .val (.int ((5 : Int32) + (1 : Int32)))] rfl rfl rfl ?_
        show OG p e _ s below _ T19 (mkF m 52 #[.val (.ref a1), .val (.ref a2), .val (.int (0 : Int32)), .val (.int (2 : Int32)), .val (.int (2 : Int32)), .val (.int (6 : Int32))] [])
        refine wgoto OGc 12 X19 B d2_52 rfl ?_
        refine wiload OGc 14 X19 B d2_12 rfl rfl ?_
        refine wiconst OGc 15 X19 B d2_14 2 rfl rfl ?_
        refine wiloadN OGc 16 X19 B d2_15 rfl rfl ?_
        refine own_st (fun t k => XS.imul X19.here hx rfl (hb hby d2_16) rfl k) ?_
        show OG p e _ s below _ T19 (mkF m 17 #[.val (.ref a1), .val (.ref a2), .val (.int (0 : Int32)), .val (.int (2 : Int32)), .val (.int (2 : Int32)), .val (.int (6 : Int32))] [(.int (4 : Int32)), (.int (6 : Int32))])
        refine wiconst OGc 18 X19 B d2_17 2 rfl rfl ?_
        refine wiadd OGc 19 X19 B d2_18 rfl ?_
        show OG p e _ s below _ T19 (mkF m 19 #[.val (.ref a1), .val (.ref a2), .val (.int (0 : Int32)), .val (.int (2 : Int32)), .val (.int (2 : Int32)), .val (.int (6 : Int32))] [(.int (6 : Int32)), (.int (6 : Int32))])
        refine wicmpNo OGc 22 X19 B d2_19 (by decide) rfl ?_
        refine wiload OGc 24 X19 B d2_22 rfl rfl ?_
        refine waloadN OGc 25 X19 B d2_24 rfl rfl rfl ?_
        refine warlenA OGc 26 X19 B hZ e19 F21 (6 : Int32) rfl d2_25 rfl ?_
        refine wicmpYes OGc 55 X19 B d2_26 (by decide) rfl ?_
        refine wiload OGc 57 X19 B d2_55 rfl rfl ?_
        refine wiloadN OGc 58 X19 B d2_57 rfl rfl ?_
        refine wicmpNo OGc 61 X19 B d2_58 (by decide) rfl ?_
        refine own_ret0 X19 hx hret hlk (hb hby d2_61) (by decide) (by decide) ?_
        rw [e19]
        exact ⟨rfl, N19, K20, Or.inr (Or.inl ⟨c6, c12, c28, F21⟩)⟩
    · refine wifYes OGc 49 X0 B d2_42 (own_if0 (flt (fun q => c12 ((lw_lt _ _).mp q))).2.1) rfl ?_
      refine wiinc OGc 52 X0 B d2_49 #[.val (.ref a1), .val (.ref a2), .val (.int (0 : Int32)), .val (.int (0 : Int32)), .val (.int (1 : Int32)), .val (.int ((2 : Int32) + (1 : Int32)))] rfl rfl rfl ?_
      show OG p e _ s below _ s₁ (mkF m 52 #[.val (.ref a1), .val (.ref a2), .val (.int (0 : Int32)), .val (.int (0 : Int32)), .val (.int (1 : Int32)), .val (.int (3 : Int32))] [])
      refine wgoto OGc 12 X0 B d2_52 rfl ?_
      refine wiload OGc 14 X0 B d2_12 rfl rfl ?_
      refine wiconst OGc 15 X0 B d2_14 2 rfl rfl ?_
      refine wiloadN OGc 16 X0 B d2_15 rfl rfl ?_
      refine own_st (fun t k => XS.imul X0.here hx rfl (hb hby d2_16) rfl k) ?_
      show OG p e _ s below _ s₁ (mkF m 17 #[.val (.ref a1), .val (.ref a2), .val (.int (0 : Int32)), .val (.int (0 : Int32)), .val (.int (1 : Int32)), .val (.int (3 : Int32))] [(.int (0 : Int32)), (.int (3 : Int32))])
      refine wiconst OGc 18 X0 B d2_17 2 rfl rfl ?_
      refine wiadd OGc 19 X0 B d2_18 rfl ?_
      show OG p e _ s below _ s₁ (mkF m 19 #[.val (.ref a1), .val (.ref a2), .val (.int (0 : Int32)), .val (.int (0 : Int32)), .val (.int (1 : Int32)), .val (.int (3 : Int32))] [(.int (2 : Int32)), (.int (3 : Int32))])
      refine wicmpYes OGc 55 X0 B d2_19 (by decide) rfl ?_
      refine wiload OGc 57 X0 B d2_55 rfl rfl ?_
      refine wiloadN OGc 58 X0 B d2_57 rfl rfl ?_
      refine wicmpYes OGc 62 X0 B d2_58 (by decide) rfl ?_
      refine waloadN OGc 63 X0 B d2_62 rfl rfl rfl ?_
      refine wiloadN OGc 64 X0 B d2_63 rfl rfl ?_
      refine wiaload OGc 65 X0 B hZ e0 R0 (v := (.int (2 : Int32))) 0 (by decide) (by decide) rfl d2_64 rfl ?_
      refine wistore OGc 67 X0 B d2_65 #[.val (.ref a1), .val (.ref a2), .val (.int (0 : Int32)), .val (.int (0 : Int32)), .val (.int (1 : Int32)), .val (.int (2 : Int32))] rfl rfl ?_
      refine waloadN OGc 68 X0 B d2_67 rfl rfl rfl ?_
      refine wiloadN OGc 69 X0 B d2_68 rfl rfl ?_
      refine waloadN OGc 70 X0 B d2_69 rfl rfl rfl ?_
      refine wiload OGc 72 X0 B d2_70 rfl rfl ?_
      refine wiaload OGc 73 X0 B hZ e0 R0 (v := (.int (0 : Int32))) 1 (by decide) (by decide) rfl d2_72 rfl ?_
      refine wstI OGc 74 X0 B hZ e0 R0 0 (by decide) (by decide) (by decide : 0 < 6) d2_73 rfl fun T44 h44 X44 e44 W44 => ?_
      have N44 := Fr.snoc X44 N0 g_a1
      have K45 := (Keep.refl h0 [a1]).wr W44 (Or.inl (List.mem_of_getElem? (i := 0) rfl))
      have F46 : OA Z h44 a1 .int [(.int (0 : Int32)), (.int (0 : Int32)), (.int (5 : Int32)), (.int (1 : Int32)), (.int (3 : Int32)), (.int (4 : Int32))] := (R0.set W44 (i := 0) (by decide))
      have F47 := R1.other W44 ne_a2_a1
      refine waloadN OGc 75 X44 B d2_74 rfl rfl rfl ?_
      refine wiload OGc 77 X44 B d2_75 rfl rfl ?_
      refine wiload OGc 79 X44 B d2_77 rfl rfl ?_
      refine wstI OGc 80 X44 B hZ e44 F46 1 (by decide) (by decide) (by decide : 1 < 6) d2_79 rfl fun T48 h48 X48 e48 W48 => ?_
      have N48 := Fr.snoc X48 N44 g_a1
      have K49 := K45.wr W48 (Or.inl (List.mem_of_getElem? (i := 0) rfl))
      have F50 : OA Z h48 a1 .int [(.int (0 : Int32)), (.int (2 : Int32)), (.int (5 : Int32)), (.int (1 : Int32)), (.int (3 : Int32)), (.int (4 : Int32))] := (F46.set W48 (i := 1) (by decide))
      have F51 := F47.other W48 ne_a2_a1
      refine wiload OGc 82 X48 B d2_80 rfl rfl ?_
      refine wistoreN OGc 83 X48 B d2_82 #[.val (.ref a1), .val (.ref a2), .val (.int (0 : Int32)), .val (.int (1 : Int32)), .val (.int (1 : Int32)), .val (.int (2 : Int32))] rfl rfl ?_
      refine wgoto OGc 2 X48 B d2_83 rfl ?_
      refine wiloadN OGc 3 X48 B d2_2 rfl rfl ?_
      refine wistore OGc 5 X48 B d2_3 #[.val (.ref a1), .val (.ref a2), .val (.int (0 : Int32)), .val (.int (1 : Int32)), .val (.int (1 : Int32)), .val (.int (2 : Int32))] rfl rfl ?_
      refine wiconst OGc 6 X48 B d2_5 2 rfl rfl ?_
      refine wiloadN OGc 7 X48 B d2_6 rfl rfl ?_
      refine own_st (fun t k => XS.imul X48.here hx rfl (hb hby d2_7) rfl k) ?_
      show OG p e _ s below _ T48 (mkF m 8 #[.val (.ref a1), .val (.ref a2), .val (.int (0 : Int32)), .val (.int (1 : Int32)), .val (.int (1 : Int32)), .val (.int (2 : Int32))] [(.int (2 : Int32))])
      refine wiconst OGc 9 X48 B d2_8 1 rfl rfl ?_
      refine wiadd OGc 10 X48 B d2_9 rfl ?_
      show OG p e _ s below _ T48 (mkF m 10 #[.val (.ref a1), .val (.ref a2), .val (.int (0 : Int32)), .val (.int (1 : Int32)), .val (.int (1 : Int32)), .val (.int (2 : Int32))] [(.int (3 : Int32))])
      refine wistore OGc 12 X48 B d2_10 #[.val (.ref a1), .val (.ref a2), .val (.int (0 : Int32)), .val (.int (1 : Int32)), .val (.int (1 : Int32)), .val (.int (3 : Int32))] rfl rfl ?_
      refine wiload OGc 14 X48 B d2_12 rfl rfl ?_
      refine wiconst OGc 15 X48 B d2_14 2 rfl rfl ?_
      refine wiloadN OGc 16 X48 B d2_15 rfl rfl ?_
      refine own_st (fun t k => XS.imul X48.here hx rfl (hb hby d2_16) rfl k) ?_
      show OG p e _ s below _ T48 (mkF m 17 #[.val (.ref a1), .val (.ref a2), .val (.int (0 : Int32)), .val (.int (1 : Int32)), .val (.int (1 : Int32)), .val (.int (3 : Int32))] [(.int (2 : Int32)), (.int (3 : Int32))])
      refine wiconst OGc 18 X48 B d2_17 2 rfl rfl ?_
      refine wiadd OGc 19 X48 B d2_18 rfl ?_
      show OG p e _ s below _ T48 (mkF m 19 #[.val (.ref a1), .val (.ref a2), .val (.int (0 : Int32)), .val (.int (1 : Int32)), .val (.int (1 : Int32)), .val (.int (3 : Int32))] [(.int (4 : Int32)), (.int (3 : Int32))])
      refine wicmpNo OGc 22 X48 B d2_19 (by decide) rfl ?_
      refine wiload OGc 24 X48 B d2_22 rfl rfl ?_
      refine waloadN OGc 25 X48 B d2_24 rfl rfl rfl ?_
      refine warlenA OGc 26 X48 B hZ e48 F50 (6 : Int32) rfl d2_25 rfl ?_
      refine wicmpNo OGc 29 X48 B d2_26 (by decide) rfl ?_
      refine waloadN OGc 30 X48 B d2_29 rfl rfl rfl ?_
      refine waloadN OGc 31 X48 B d2_30 rfl rfl rfl ?_
      refine wiload OGc 33 X48 B d2_31 rfl rfl ?_
      refine wiaload OGc 34 X48 B hZ e48 F50 (v := (.int (1 : Int32))) 3 (by decide) (by decide) rfl d2_33 rfl ?_
      refine wlaload OGc 35 X48 B hZ e48 F51 (v := (.long w1)) 1 (by decide) (by decide) rfl d2_34 rfl ?_
      refine waloadN OGc 36 X48 B d2_35 rfl rfl rfl ?_
      refine waloadN OGc 37 X48 B d2_36 rfl rfl rfl ?_
      refine wiload OGc 39 X48 B d2_37 rfl rfl ?_
      refine wiaload OGc 40 X48 B hZ e48 F50 (v := (.int (2 : Int32))) 1 (by decide) (by decide) rfl d2_39 rfl ?_
      refine wlaload OGc 41 X48 B hZ e48 F51 (v := (.long w2)) 2 (by decide) (by decide) rfl d2_40 rfl ?_
      refine wlcmp OGc 42 X48 B d2_41 rfl ?_
      by_cases c57 : w1 < w2
      · refine wifNo OGc 45 X48 B d2_42 (own_if0 (tlt ((lw_lt _ _).mpr c57)).2.1) rfl ?_
        refine wiload OGc 47 X48 B d2_45 rfl rfl ?_
        refine wistore OGc 49 X48 B d2_47 #[.val (.ref a1), .val (.ref a2), .val (.int (0 : Int32)), .val (.int (1 : Int32)), .val (.int (3 : Int32)), .val (.int (3 : Int32))] rfl rfl ?_
        refine wiinc OGc 52 X48 B d2_49 #[.val (.ref a1), .val (.ref a2), .val (.int (0 : Int32)), .val (.int (1 : Int32)), .val (.int (3 : Int32)), .val (.int ((3 : Int32) + (1 : Int32)))] rfl rfl rfl ?_
        show OG p e _ s below _ T48 (mkF m 52 #[.val (.ref a1), .val (.ref a2), .val (.int (0 : Int32)), .val (.int (1 : Int32)), .val (.int (3 : Int32)), .val (.int (4 : Int32))] [])
        refine wgoto OGc 12 X48 B d2_52 rfl ?_
        refine wiload OGc 14 X48 B d2_12 rfl rfl ?_
        refine wiconst OGc 15 X48 B d2_14 2 rfl rfl ?_
        refine wiloadN OGc 16 X48 B d2_15 rfl rfl ?_
        refine own_st (fun t k => XS.imul X48.here hx rfl (hb hby d2_16) rfl k) ?_
        show OG p e _ s below _ T48 (mkF m 17 #[.val (.ref a1), .val (.ref a2), .val (.int (0 : Int32)), .val (.int (1 : Int32)), .val (.int (3 : Int32)), .val (.int (4 : Int32))] [(.int (2 : Int32)), (.int (4 : Int32))])
        refine wiconst OGc 18 X48 B d2_17 2 rfl rfl ?_
        refine wiadd OGc 19 X48 B d2_18 rfl ?_
        show OG p e _ s below _ T48 (mkF m 19 #[.val (.ref a1), .val (.ref a2), .val (.int (0 : Int32)), .val (.int (1 : Int32)), .val (.int (3 : Int32)), .val (.int (4 : Int32))] [(.int (4 : Int32)), (.int (4 : Int32))])
        refine wicmpNo OGc 22 X48 B d2_19 (by decide) rfl ?_
        refine wiload OGc 24 X48 B d2_22 rfl rfl ?_
        refine waloadN OGc 25 X48 B d2_24 rfl rfl rfl ?_
        refine warlenA OGc 26 X48 B hZ e48 F50 (6 : Int32) rfl d2_25 rfl ?_
        refine wicmpNo OGc 29 X48 B d2_26 (by decide) rfl ?_
        refine waloadN OGc 30 X48 B d2_29 rfl rfl rfl ?_
        refine waloadN OGc 31 X48 B d2_30 rfl rfl rfl ?_
        refine wiload OGc 33 X48 B d2_31 rfl rfl ?_
        refine wiaload OGc 34 X48 B hZ e48 F50 (v := (.int (3 : Int32))) 4 (by decide) (by decide) rfl d2_33 rfl ?_
        refine wlaload OGc 35 X48 B hZ e48 F51 (v := (.long w3)) 3 (by decide) (by decide) rfl d2_34 rfl ?_
        refine waloadN OGc 36 X48 B d2_35 rfl rfl rfl ?_
        refine waloadN OGc 37 X48 B d2_36 rfl rfl rfl ?_
        refine wiload OGc 39 X48 B d2_37 rfl rfl ?_
        refine wiaload OGc 40 X48 B hZ e48 F50 (v := (.int (1 : Int32))) 3 (by decide) (by decide) rfl d2_39 rfl ?_
        refine wlaload OGc 41 X48 B hZ e48 F51 (v := (.long w1)) 1 (by decide) (by decide) rfl d2_40 rfl ?_
        refine wlcmp OGc 42 X48 B d2_41 rfl ?_
        by_cases c63 : w3 < w1
        · refine wifNo OGc 45 X48 B d2_42 (own_if0 (tlt ((lw_lt _ _).mpr c63)).2.1) rfl ?_
          refine wiload OGc 47 X48 B d2_45 rfl rfl ?_
          refine wistore OGc 49 X48 B d2_47 #[.val (.ref a1), .val (.ref a2), .val (.int (0 : Int32)), .val (.int (1 : Int32)), .val (.int (4 : Int32)), .val (.int (4 : Int32))] rfl rfl ?_
          refine wiinc OGc 52 X48 B d2_49 #[.val (.ref a1), .val (.ref a2), .val (.int (0 : Int32)), .val (.int (1 : Int32)), .val (.int (4 : Int32)), .val (.int ((4 : Int32) + (1 : Int32)))] rfl rfl rfl ?_
          show OG p e _ s below _ T48 (mkF m 52 #[.val (.ref a1), .val (.ref a2), .val (.int (0 : Int32)), .val (.int (1 : Int32)), .val (.int (4 : Int32)), .val (.int (5 : Int32))] [])
          refine wgoto OGc 12 X48 B d2_52 rfl ?_
          refine wiload OGc 14 X48 B d2_12 rfl rfl ?_
          refine wiconst OGc 15 X48 B d2_14 2 rfl rfl ?_
          refine wiloadN OGc 16 X48 B d2_15 rfl rfl ?_
          refine own_st (fun t k => XS.imul X48.here hx rfl (hb hby d2_16) rfl k) ?_
          show OG p e _ s below _ T48 (mkF m 17 #[.val (.ref a1), .val (.ref a2), .val (.int (0 : Int32)), .val (.int (1 : Int32)), .val (.int (4 : Int32)), .val (.int (5 : Int32))] [(.int (2 : Int32)), (.int (5 : Int32))])
          refine wiconst OGc 18 X48 B d2_17 2 rfl rfl ?_
          refine wiadd OGc 19 X48 B d2_18 rfl ?_
          show OG p e _ s below _ T48 (mkF m 19 #[.val (.ref a1), .val (.ref a2), .val (.int (0 : Int32)), .val (.int (1 : Int32)), .val (.int (4 : Int32)), .val (.int (5 : Int32))] [(.int (4 : Int32)), (.int (5 : Int32))])
          refine wicmpYes OGc 55 X48 B d2_19 (by decide) rfl ?_
          refine wiload OGc 57 X48 B d2_55 rfl rfl ?_
          refine wiloadN OGc 58 X48 B d2_57 rfl rfl ?_
          refine wicmpYes OGc 62 X48 B d2_58 (by decide) rfl ?_
          refine waloadN OGc 63 X48 B d2_62 rfl rfl rfl ?_
          refine wiloadN OGc 64 X48 B d2_63 rfl rfl ?_
          refine wiaload OGc 65 X48 B hZ e48 F50 (v := (.int (2 : Int32))) 1 (by decide) (by decide) rfl d2_64 rfl ?_
          refine wistore OGc 67 X48 B d2_65 #[.val (.ref a1), .val (.ref a2), .val (.int (0 : Int32)), .val (.int (1 : Int32)), .val (.int (4 : Int32)), .val (.int (2 : Int32))] rfl rfl ?_
          refine waloadN OGc 68 X48 B d2_67 rfl rfl rfl ?_
          refine wiloadN OGc 69 X48 B d2_68 rfl rfl ?_
          refine waloadN OGc 70 X48 B d2_69 rfl rfl rfl ?_
          refine wiload OGc 72 X48 B d2_70 rfl rfl ?_
          refine wiaload OGc 73 X48 B hZ e48 F50 (v := (.int (3 : Int32))) 4 (by decide) (by decide) rfl d2_72 rfl ?_
          refine wstI OGc 74 X48 B hZ e48 F50 1 (by decide) (by decide) (by decide : 1 < 6) d2_73 rfl fun T66 h66 X66 e66 W66 => ?_
          have N66 := Fr.snoc X66 N48 g_a1
          have K67 := K49.wr W66 (Or.inl (List.mem_of_getElem? (i := 0) rfl))
          have F68 : OA Z h66 a1 .int [(.int (0 : Int32)), (.int (3 : Int32)), (.int (5 : Int32)), (.int (1 : Int32)), (.int (3 : Int32)), (.int (4 : Int32))] := (F50.set W66 (i := 1) (by decide))
          have F69 := F51.other W66 ne_a2_a1
          refine waloadN OGc 75 X66 B d2_74 rfl rfl rfl ?_
          refine wiload OGc 77 X66 B d2_75 rfl rfl ?_
          refine wiload OGc 79 X66 B d2_77 rfl rfl ?_
          refine wstI OGc 80 X66 B hZ e66 F68 4 (by decide) (by decide) (by decide : 4 < 6) d2_79 rfl fun T70 h70 X70 e70 W70 => ?_
          have N70 := Fr.snoc X70 N66 g_a1
          have K71 := K67.wr W70 (Or.inl (List.mem_of_getElem? (i := 0) rfl))
          have F72 : OA Z h70 a1 .int [(.int (0 : Int32)), (.int (3 : Int32)), (.int (5 : Int32)), (.int (1 : Int32)), (.int (2 : Int32)), (.int (4 : Int32))] := (F68.set W70 (i := 4) (by decide))
          have F73 := F69.other W70 ne_a2_a1
          refine wiload OGc 82 X70 B d2_80 rfl rfl ?_
          refine wistoreN OGc 83 X70 B d2_82 #[.val (.ref a1), .val (.ref a2), .val (.int (0 : Int32)), .val (.int (4 : Int32)), .val (.int (4 : Int32)), .val (.int (2 : Int32))] rfl rfl ?_
          refine wgoto OGc 2 X70 B d2_83 rfl ?_
          refine wiloadN OGc 3 X70 B d2_2 rfl rfl ?_
          refine wistore OGc 5 X70 B d2_3 #[.val (.ref a1), .val (.ref a2), .val (.int (0 : Int32)), .val (.int (4 : Int32)), .val (.int (4 : Int32)), .val (.int (2 : Int32))] rfl rfl ?_
          refine wiconst OGc 6 X70 B d2_5 2 rfl rfl ?_
          refine wiloadN OGc 7 X70 B d2_6 rfl rfl ?_
          refine own_st (fun t k => XS.imul X70.here hx rfl (hb hby d2_7) rfl k) ?_
          show OG p e _ s below _ T70 (mkF m 8 #[.val (.ref a1), .val (.ref a2), .val (.int (0 : Int32)), .val (.int (4 : Int32)), .val (.int (4 : Int32)), .val (.int (2 : Int32))] [(.int (8 : Int32))])
          refine wiconst OGc 9 X70 B d2_8 1 rfl rfl ?_
          refine wiadd OGc 10 X70 B d2_9 rfl ?_
          show OG p e _ s below _ T70 (mkF m 10 #[.val (.ref a1), .val (.ref a2), .val (.int (0 : Int32)), .val (.int (4 : Int32)), .val (.int (4 : Int32)), .val (.int (2 : Int32))] [(.int (9 : Int32))])
          refine wistore OGc 12 X70 B d2_10 #[.val (.ref a1), .val (.ref a2), .val (.int (0 : Int32)), .val (.int (4 : Int32)), .val (.int (4 : Int32)), .val (.int (9 : Int32))] rfl rfl ?_
          refine wiload OGc 14 X70 B d2_12 rfl rfl ?_
          refine wiconst OGc 15 X70 B d2_14 2 rfl rfl ?_
          refine wiloadN OGc 16 X70 B d2_15 rfl rfl ?_
          refine own_st (fun t k => XS.imul X70.here hx rfl (hb hby d2_16) rfl k) ?_
          show OG p e _ s below _ T70 (mkF m 17 #[.val (.ref a1), .val (.ref a2), .val (.int (0 : Int32)), .val (.int (4 : Int32)), .val (.int (4 : Int32)), .val (.int (9 : Int32))] [(.int (8 : Int32)), (.int (9 : Int32))])
          refine wiconst OGc 18 X70 B d2_17 2 rfl rfl ?_
          refine wiadd OGc 19 X70 B d2_18 rfl ?_
          show OG p e _ s below _ T70 (mkF m 19 #[.val (.ref a1), .val (.ref a2), .val (.int (0 : Int32)), .val (.int (4 : Int32)), .val (.int (4 : Int32)), .val (.int (9 : Int32))] [(.int (10 : Int32)), (.int (9 : Int32))])
          refine wicmpNo OGc 22 X70 B d2_19 (by decide) rfl ?_
          refine wiload OGc 24 X70 B d2_22 rfl rfl ?_
          refine waloadN OGc 25 X70 B d2_24 rfl rfl rfl ?_
          refine warlenA OGc 26 X70 B hZ e70 F72 (6 : Int32) rfl d2_25 rfl ?_
          refine wicmpYes OGc 55 X70 B d2_26 (by decide) rfl ?_
          refine wiload OGc 57 X70 B d2_55 rfl rfl ?_
          refine wiloadN OGc 58 X70 B d2_57 rfl rfl ?_
          refine wicmpNo OGc 61 X70 B d2_58 (by decide) rfl ?_
          refine own_ret0 X70 hx hret hlk (hb hby d2_61) (by decide) (by decide) ?_
          rw [e70]
          exact ⟨rfl, N70, K71, Or.inr (Or.inr (Or.inl ⟨c6, c12, c57, c63, F72⟩))⟩
        · refine wifYes OGc 49 X48 B d2_42 (own_if0 (flt (fun q => c63 ((lw_lt _ _).mp q))).2.1) rfl ?_
          refine wiinc OGc 52 X48 B d2_49 #[.val (.ref a1), .val (.ref a2), .val (.int (0 : Int32)), .val (.int (1 : Int32)), .val (.int (3 : Int32)), .val (.int ((4 : Int32) + (1 : Int32)))] rfl rfl rfl ?_
          show OG p e _ s below _ T48 (mkF m 52 #[.val (.ref a1), .val (.ref a2), .val (.int (0 : Int32)), .val (.int (1 : Int32)), .val (.int (3 : Int32)), .val (.int (5 : Int32))] [])
          refine wgoto OGc 12 X48 B d2_52 rfl ?_
          refine wiload OGc 14 X48 B d2_12 rfl rfl ?_
          refine wiconst OGc 15 X48 B d2_14 2 rfl rfl ?_
          refine wiloadN OGc 16 X48 B d2_15 rfl rfl ?_
          refine own_st (fun t k => XS.imul X48.here hx rfl (hb hby d2_16) rfl k) ?_
          show OG p e _ s below _ T48 (mkF m 17 #[.val (.ref a1), .val (.ref a2), .val (.int (0 : Int32)), .val (.int (1 : Int32)), .val (.int (3 : Int32)), .val (.int (5 : Int32))] [(.int (2 : Int32)), (.int (5 : Int32))])
          refine wiconst OGc 18 X48 B d2_17 2 rfl rfl ?_
          refine wiadd OGc 19 X48 B d2_18 rfl ?_
          show OG p e _ s below _ T48 (mkF m 19 #[.val (.ref a1), .val (.ref a2), .val (.int (0 : Int32)), .val (.int (1 : Int32)), .val (.int (3 : Int32)), .val (.int (5 : Int32))] [(.int (4 : Int32)), (.int (5 : Int32))])
          refine wicmpYes OGc 55 X48 B d2_19 (by decide) rfl ?_
          refine wiload OGc 57 X48 B d2_55 rfl rfl ?_
          refine wiloadN OGc 58 X48 B d2_57 rfl rfl ?_
          refine wicmpYes OGc 62 X48 B d2_58 (by decide) rfl ?_
          refine waloadN OGc 63 X48 B d2_62 rfl rfl rfl ?_
          refine wiloadN OGc 64 X48 B d2_63 rfl rfl ?_
          refine wiaload OGc 65 X48 B hZ e48 F50 (v := (.int (2 : Int32))) 1 (by decide) (by decide) rfl d2_64 rfl ?_
          refine wistore OGc 67 X48 B d2_65 #[.val (.ref a1), .val (.ref a2), .val (.int (0 : Int32)), .val (.int (1 : Int32)), .val (.int (3 : Int32)), .val (.int (2 : Int32))] rfl rfl ?_
          refine waloadN OGc 68 X48 B d2_67 rfl rfl rfl ?_
          refine wiloadN OGc 69 X48 B d2_68 rfl rfl ?_
          refine waloadN OGc 70 X48 B d2_69 rfl rfl rfl ?_
          refine wiload OGc 72 X48 B d2_70 rfl rfl ?_
          refine wiaload OGc 73 X48 B hZ e48 F50 (v := (.int (1 : Int32))) 3 (by decide) (by decide) rfl d2_72 rfl ?_
          refine wstI OGc 74 X48 B hZ e48 F50 1 (by decide) (by decide) (by decide : 1 < 6) d2_73 rfl fun T77 h77 X77 e77 W77 => ?_
          have N77 := Fr.snoc X77 N48 g_a1
          have K78 := K49.wr W77 (Or.inl (List.mem_of_getElem? (i := 0) rfl))
          have F79 : OA Z h77 a1 .int [(.int (0 : Int32)), (.int (1 : Int32)), (.int (5 : Int32)), (.int (1 : Int32)), (.int (3 : Int32)), (.int (4 : Int32))] := (F50.set W77 (i := 1) (by decide))
          have F80 := F51.other W77 ne_a2_a1
          refine waloadN OGc 75 X77 B d2_74 rfl rfl rfl ?_
          refine wiload OGc 77 X77 B d2_75 rfl rfl ?_
          refine wiload OGc 79 X77 B d2_77 rfl rfl ?_
          refine wstI OGc 80 X77 B hZ e77 F79 3 (by decide) (by decide) (by decide : 3 < 6) d2_79 rfl fun T81 h81 X81 e81 W81 => ?_
          have N81 := Fr.snoc X81 N77 g_a1
          have K82 := K78.wr W81 (Or.inl (List.mem_of_getElem? (i := 0) rfl))
          have F83 : OA Z h81 a1 .int [(.int (0 : Int32)), (.int (1 : Int32)), (.int (5 : Int32)), (.int (2 : Int32)), (.int (3 : Int32)), (.int (4 : Int32))] := (F79.set W81 (i := 3) (by decide))
          have F84 := F80.other W81 ne_a2_a1
          refine wiload OGc 82 X81 B d2_80 rfl rfl ?_
          refine wistoreN OGc 83 X81 B d2_82 #[.val (.ref a1), .val (.ref a2), .val (.int (0 : Int32)), .val (.int (3 : Int32)), .val (.int (3 : Int32)), .val (.int (2 : Int32))] rfl rfl ?_
          refine wgoto OGc 2 X81 B d2_83 rfl ?_
          refine wiloadN OGc 3 X81 B d2_2 rfl rfl ?_
          refine wistore OGc 5 X81 B d2_3 #[.val (.ref a1), .val (.ref a2), .val (.int (0 : Int32)), .val (.int (3 : Int32)), .val (.int (3 : Int32)), .val (.int (2 : Int32))] rfl rfl ?_
          refine wiconst OGc 6 X81 B d2_5 2 rfl rfl ?_
          refine wiloadN OGc 7 X81 B d2_6 rfl rfl ?_
          refine own_st (fun t k => XS.imul X81.here hx rfl (hb hby d2_7) rfl k) ?_
          show OG p e _ s below _ T81 (mkF m 8 #[.val (.ref a1), .val (.ref a2), .val (.int (0 : Int32)), .val (.int (3 : Int32)), .val (.int (3 : Int32)), .val (.int (2 : Int32))] [(.int (6 : Int32))])
          refine wiconst OGc 9 X81 B d2_8 1 rfl rfl ?_
          refine wiadd OGc 10 X81 B d2_9 rfl ?_
          show OG p e _ s below _ T81 (mkF m 10 #[.val (.ref a1), .val (.ref a2), .val (.int (0 : Int32)), .val (.int (3 : Int32)), .val (.int (3 : Int32)), .val (.int (2 : Int32))] [(.int (7 : Int32))])
          refine wistore OGc 12 X81 B d2_10 #[.val (.ref a1), .val (.ref a2), .val (.int (0 : Int32)), .val (.int (3 : Int32)), .val (.int (3 : Int32)), .val (.int (7 : Int32))] rfl rfl ?_
          refine wiload OGc 14 X81 B d2_12 rfl rfl ?_
          refine wiconst OGc 15 X81 B d2_14 2 rfl rfl ?_
          refine wiloadN OGc 16 X81 B d2_15 rfl rfl ?_
          refine own_st (fun t k => XS.imul X81.here hx rfl (hb hby d2_16) rfl k) ?_
          show OG p e _ s below _ T81 (mkF m 17 #[.val (.ref a1), .val (.ref a2), .val (.int (0 : Int32)), .val (.int (3 : Int32)), .val (.int (3 : Int32)), .val (.int (7 : Int32))] [(.int (6 : Int32)), (.int (7 : Int32))])
          refine wiconst OGc 18 X81 B d2_17 2 rfl rfl ?_
          refine wiadd OGc 19 X81 B d2_18 rfl ?_
          show OG p e _ s below _ T81 (mkF m 19 #[.val (.ref a1), .val (.ref a2), .val (.int (0 : Int32)), .val (.int (3 : Int32)), .val (.int (3 : Int32)), .val (.int (7 : Int32))] [(.int (8 : Int32)), (.int (7 : Int32))])
          refine wicmpNo OGc 22 X81 B d2_19 (by decide) rfl ?_
          refine wiload OGc 24 X81 B d2_22 rfl rfl ?_
          refine waloadN OGc 25 X81 B d2_24 rfl rfl rfl ?_
          refine warlenA OGc 26 X81 B hZ e81 F83 (6 : Int32) rfl d2_25 rfl ?_
          refine wicmpYes OGc 55 X81 B d2_26 (by decide) rfl ?_
          refine wiload OGc 57 X81 B d2_55 rfl rfl ?_
          refine wiloadN OGc 58 X81 B d2_57 rfl rfl ?_
          refine wicmpNo OGc 61 X81 B d2_58 (by decide) rfl ?_
          refine own_ret0 X81 hx hret hlk (hb hby d2_61) (by decide) (by decide) ?_
          rw [e81]
          exact ⟨rfl, N81, K82, Or.inr (Or.inr (Or.inr (Or.inl ⟨c6, c12, c57, c63, F83⟩)))⟩
      · refine wifYes OGc 49 X48 B d2_42 (own_if0 (flt (fun q => c57 ((lw_lt _ _).mp q))).2.1) rfl ?_
        refine wiinc OGc 52 X48 B d2_49 #[.val (.ref a1), .val (.ref a2), .val (.int (0 : Int32)), .val (.int (1 : Int32)), .val (.int (1 : Int32)), .val (.int ((3 : Int32) + (1 : Int32)))] rfl rfl rfl ?_
        show OG p e _ s below _ T48 (mkF m 52 #[.val (.ref a1), .val (.ref a2), .val (.int (0 : Int32)), .val (.int (1 : Int32)), .val (.int (1 : Int32)), .val (.int (4 : Int32))] [])
        refine wgoto OGc 12 X48 B d2_52 rfl ?_
        refine wiload OGc 14 X48 B d2_12 rfl rfl ?_
        refine wiconst OGc 15 X48 B d2_14 2 rfl rfl ?_
        refine wiloadN OGc 16 X48 B d2_15 rfl rfl ?_
        refine own_st (fun t k => XS.imul X48.here hx rfl (hb hby d2_16) rfl k) ?_
        show OG p e _ s below _ T48 (mkF m 17 #[.val (.ref a1), .val (.ref a2), .val (.int (0 : Int32)), .val (.int (1 : Int32)), .val (.int (1 : Int32)), .val (.int (4 : Int32))] [(.int (2 : Int32)), (.int (4 : Int32))])
        refine wiconst OGc 18 X48 B d2_17 2 rfl rfl ?_
        refine wiadd OGc 19 X48 B d2_18 rfl ?_
        show OG p e _ s below _ T48 (mkF m 19 #[.val (.ref a1), .val (.ref a2), .val (.int (0 : Int32)), .val (.int (1 : Int32)), .val (.int (1 : Int32)), .val (.int (4 : Int32))] [(.int (4 : Int32)), (.int (4 : Int32))])
        refine wicmpNo OGc 22 X48 B d2_19 (by decide) rfl ?_
        refine wiload OGc 24 X48 B d2_22 rfl rfl ?_
        refine waloadN OGc 25 X48 B d2_24 rfl rfl rfl ?_
        refine warlenA OGc 26 X48 B hZ e48 F50 (6 : Int32) rfl d2_25 rfl ?_
        refine wicmpNo OGc 29 X48 B d2_26 (by decide) rfl ?_
        refine waloadN OGc 30 X48 B d2_29 rfl rfl rfl ?_
        refine waloadN OGc 31 X48 B d2_30 rfl rfl rfl ?_
        refine wiload OGc 33 X48 B d2_31 rfl rfl ?_
        refine wiaload OGc 34 X48 B hZ e48 F50 (v := (.int (3 : Int32))) 4 (by decide) (by decide) rfl d2_33 rfl ?_
        refine wlaload OGc 35 X48 B hZ e48 F51 (v := (.long w3)) 3 (by decide) (by decide) rfl d2_34 rfl ?_
        refine waloadN OGc 36 X48 B d2_35 rfl rfl rfl ?_
        refine waloadN OGc 37 X48 B d2_36 rfl rfl rfl ?_
        refine wiload OGc 39 X48 B d2_37 rfl rfl ?_
        refine wiaload OGc 40 X48 B hZ e48 F50 (v := (.int (2 : Int32))) 1 (by decide) (by decide) rfl d2_39 rfl ?_
        refine wlaload OGc 41 X48 B hZ e48 F51 (v := (.long w2)) 2 (by decide) (by decide) rfl d2_40 rfl ?_
        refine wlcmp OGc 42 X48 B d2_41 rfl ?_
        by_cases c91 : w3 < w2
        · refine wifNo OGc 45 X48 B d2_42 (own_if0 (tlt ((lw_lt _ _).mpr c91)).2.1) rfl ?_
          refine wiload OGc 47 X48 B d2_45 rfl rfl ?_
          refine wistore OGc 49 X48 B d2_47 #[.val (.ref a1), .val (.ref a2), .val (.int (0 : Int32)), .val (.int (1 : Int32)), .val (.int (4 : Int32)), .val (.int (4 : Int32))] rfl rfl ?_
          refine wiinc OGc 52 X48 B d2_49 #[.val (.ref a1), .val (.ref a2), .val (.int (0 : Int32)), .val (.int (1 : Int32)), .val (.int (4 : Int32)), .val (.int ((4 : Int32) + (1 : Int32)))] rfl rfl rfl ?_
          show OG p e _ s below _ T48 (mkF m 52 #[.val (.ref a1), .val (.ref a2), .val (.int (0 : Int32)), .val (.int (1 : Int32)), .val (.int (4 : Int32)), .val (.int (5 : Int32))] [])
          refine wgoto OGc 12 X48 B d2_52 rfl ?_
          refine wiload OGc 14 X48 B d2_12 rfl rfl ?_
          refine wiconst OGc 15 X48 B d2_14 2 rfl rfl ?_
          refine wiloadN OGc 16 X48 B d2_15 rfl rfl ?_
          refine own_st (fun t k => XS.imul X48.here hx rfl (hb hby d2_16) rfl k) ?_
          show OG p e _ s below _ T48 (mkF m 17 #[.val (.ref a1), .val (.ref a2), .val (.int (0 : Int32)), .val (.int (1 : Int32)), .val (.int (4 : Int32)), .val (.int (5 : Int32))] [(.int (2 : Int32)), (.int (5 : Int32))])
          refine wiconst OGc 18 X48 B d2_17 2 rfl rfl ?_
          refine wiadd OGc 19 X48 B d2_18 rfl ?_
          show OG p e _ s below _ T48 (mkF m 19 #[.val (.ref a1), .val (.ref a2), .val (.int (0 : Int32)), .val (.int (1 : Int32)), .val (.int (4 : Int32)), .val (.int (5 : Int32))] [(.int (4 : Int32)), (.int (5 : Int32))])
          refine wicmpYes OGc 55 X48 B d2_19 (by decide) rfl ?_
          refine wiload OGc 57 X48 B d2_55 rfl rfl ?_
          refine wiloadN OGc 58 X48 B d2_57 rfl rfl ?_
          refine wicmpYes OGc 62 X48 B d2_58 (by decide) rfl ?_
          refine waloadN OGc 63 X48 B d2_62 rfl rfl rfl ?_
          refine wiloadN OGc 64 X48 B d2_63 rfl rfl ?_
          refine wiaload OGc 65 X48 B hZ e48 F50 (v := (.int (2 : Int32))) 1 (by decide) (by decide) rfl d2_64 rfl ?_
          refine wistore OGc 67 X48 B d2_65 #[.val (.ref a1), .val (.ref a2), .val (.int (0 : Int32)), .val (.int (1 : Int32)), .val (.int (4 : Int32)), .val (.int (2 : Int32))] rfl rfl ?_
          refine waloadN OGc 68 X48 B d2_67 rfl rfl rfl ?_
          refine wiloadN OGc 69 X48 B d2_68 rfl rfl ?_
          refine waloadN OGc 70 X48 B d2_69 rfl rfl rfl ?_
          refine wiload OGc 72 X48 B d2_70 rfl rfl ?_
          refine wiaload OGc 73 X48 B hZ e48 F50 (v := (.int (3 : Int32))) 4 (by decide) (by decide) rfl d2_72 rfl ?_
          refine wstI OGc 74 X48 B hZ e48 F50 1 (by decide) (by decide) (by decide : 1 < 6) d2_73 rfl fun T94 h94 X94 e94 W94 => ?_
          have N94 := Fr.snoc X94 N48 g_a1
          have K95 := K49.wr W94 (Or.inl (List.mem_of_getElem? (i := 0) rfl))
          have F96 : OA Z h94 a1 .int [(.int (0 : Int32)), (.int (3 : Int32)), (.int (5 : Int32)), (.int (1 : Int32)), (.int (3 : Int32)), (.int (4 : Int32))] := (F50.set W94 (i := 1) (by decide))
          have F97 := F51.other W94 ne_a2_a1
          refine waloadN OGc 75 X94 B d2_74 rfl rfl rfl ?_
          refine wiload OGc 77 X94 B d2_75 rfl rfl ?_
          refine wiload OGc 79 X94 B d2_77 rfl rfl ?_
          refine wstI OGc 80 X94 B hZ e94 F96 4 (by decide) (by decide) (by decide : 4 < 6) d2_79 rfl fun T98 h98 X98 e98 W98 => ?_
          have N98 := Fr.snoc X98 N94 g_a1
          have K99 := K95.wr W98 (Or.inl (List.mem_of_getElem? (i := 0) rfl))
          have F100 : OA Z h98 a1 .int [(.int (0 : Int32)), (.int (3 : Int32)), (.int (5 : Int32)), (.int (1 : Int32)), (.int (2 : Int32)), (.int (4 : Int32))] := (F96.set W98 (i := 4) (by decide))
          have F101 := F97.other W98 ne_a2_a1
          refine wiload OGc 82 X98 B d2_80 rfl rfl ?_
          refine wistoreN OGc 83 X98 B d2_82 #[.val (.ref a1), .val (.ref a2), .val (.int (0 : Int32)), .val (.int (4 : Int32)), .val (.int (4 : Int32)), .val (.int (2 : Int32))] rfl rfl ?_
          refine wgoto OGc 2 X98 B d2_83 rfl ?_
          refine wiloadN OGc 3 X98 B d2_2 rfl rfl ?_
          refine wistore OGc 5 X98 B d2_3 #[.val (.ref a1), .val (.ref a2), .val (.int (0 : Int32)), .val (.int (4 : Int32)), .val (.int (4 : Int32)), .val (.int (2 : Int32))] rfl rfl ?_
          refine wiconst OGc 6 X98 B d2_5 2 rfl rfl ?_
          refine wiloadN OGc 7 X98 B d2_6 rfl rfl ?_
          refine own_st (fun t k => XS.imul X98.here hx rfl (hb hby d2_7) rfl k) ?_
          show OG p e _ s below _ T98 (mkF m 8 #[.val (.ref a1), .val (.ref a2), .val (.int (0 : Int32)), .val (.int (4 : Int32)), .val (.int (4 : Int32)), .val (.int (2 : Int32))] [(.int (8 : Int32))])
          refine wiconst OGc 9 X98 B d2_8 1 rfl rfl ?_
          refine wiadd OGc 10 X98 B d2_9 rfl ?_
          show OG p e _ s below _ T98 (mkF m 10 #[.val (.ref a1), .val (.ref a2), .val (.int (0 : Int32)), .val (.int (4 : Int32)), .val (.int (4 : Int32)), .val (.int (2 : Int32))] [(.int (9 : Int32))])
          refine wistore OGc 12 X98 B d2_10 #[.val (.ref a1), .val (.ref a2), .val (.int (0 : Int32)), .val (.int (4 : Int32)), .val (.int (4 : Int32)), .val (.int (9 : Int32))] rfl rfl ?_
          refine wiload OGc 14 X98 B d2_12 rfl rfl ?_
          refine wiconst OGc 15 X98 B d2_14 2 rfl rfl ?_
          refine wiloadN OGc 16 X98 B d2_15 rfl rfl ?_
          refine own_st (fun t k => XS.imul X98.here hx rfl (hb hby d2_16) rfl k) ?_
          show OG p e _ s below _ T98 (mkF m 17 #[.val (.ref a1), .val (.ref a2), .val (.int (0 : Int32)), .val (.int (4 : Int32)), .val (.int (4 : Int32)), .val (.int (9 : Int32))] [(.int (8 : Int32)), (.int (9 : Int32))])
          refine wiconst OGc 18 X98 B d2_17 2 rfl rfl ?_
          refine wiadd OGc 19 X98 B d2_18 rfl ?_
          show OG p e _ s below _ T98 (mkF m 19 #[.val (.ref a1), .val (.ref a2), .val (.int (0 : Int32)), .val (.int (4 : Int32)), .val (.int (4 : Int32)), .val (.int (9 : Int32))] [(.int (10 : Int32)), (.int (9 : Int32))])
          refine wicmpNo OGc 22 X98 B d2_19 (by decide) rfl ?_
          refine wiload OGc 24 X98 B d2_22 rfl rfl ?_
          refine waloadN OGc 25 X98 B d2_24 rfl rfl rfl ?_
          refine warlenA OGc 26 X98 B hZ e98 F100 (6 : Int32) rfl d2_25 rfl ?_
          refine wicmpYes OGc 55 X98 B d2_26 (by decide) rfl ?_
          refine wiload OGc 57 X98 B d2_55 rfl rfl ?_
          refine wiloadN OGc 58 X98 B d2_57 rfl rfl ?_
          refine wicmpNo OGc 61 X98 B d2_58 (by decide) rfl ?_
          refine own_ret0 X98 hx hret hlk (hb hby d2_61) (by decide) (by decide) ?_
          rw [e98]
          exact ⟨rfl, N98, K99, Or.inr (Or.inr (Or.inr (Or.inr (Or.inl ⟨c6, c12, c57, c91, F100⟩))))⟩
        · refine wifYes OGc 49 X48 B d2_42 (own_if0 (flt (fun q => c91 ((lw_lt _ _).mp q))).2.1) rfl ?_
          refine wiinc OGc 52 X48 B d2_49 #[.val (.ref a1), .val (.ref a2), .val (.int (0 : Int32)), .val (.int (1 : Int32)), .val (.int (1 : Int32)), .val (.int ((4 : Int32) + (1 : Int32)))] rfl rfl rfl ?_
          show OG p e _ s below _ T48 (mkF m 52 #[.val (.ref a1), .val (.ref a2), .val (.int (0 : Int32)), .val (.int (1 : Int32)), .val (.int (1 : Int32)), .val (.int (5 : Int32))] [])
          refine wgoto OGc 12 X48 B d2_52 rfl ?_
          refine wiload OGc 14 X48 B d2_12 rfl rfl ?_
          refine wiconst OGc 15 X48 B d2_14 2 rfl rfl ?_
          refine wiloadN OGc 16 X48 B d2_15 rfl rfl ?_
          refine own_st (fun t k => XS.imul X48.here hx rfl (hb hby d2_16) rfl k) ?_
          show OG p e _ s below _ T48 (mkF m 17 #[.val (.ref a1), .val (.ref a2), .val (.int (0 : Int32)), .val (.int (1 : Int32)), .val (.int (1 : Int32)), .val (.int (5 : Int32))] [(.int (2 : Int32)), (.int (5 : Int32))])
          refine wiconst OGc 18 X48 B d2_17 2 rfl rfl ?_
          refine wiadd OGc 19 X48 B d2_18 rfl ?_
          show OG p e _ s below _ T48 (mkF m 19 #[.val (.ref a1), .val (.ref a2), .val (.int (0 : Int32)), .val (.int (1 : Int32)), .val (.int (1 : Int32)), .val (.int (5 : Int32))] [(.int (4 : Int32)), (.int (5 : Int32))])
          refine wicmpYes OGc 55 X48 B d2_19 (by decide) rfl ?_
          refine wiload OGc 57 X48 B d2_55 rfl rfl ?_
          refine wiloadN OGc 58 X48 B d2_57 rfl rfl ?_
          refine wicmpNo OGc 61 X48 B d2_58 (by decide) rfl ?_
          refine own_ret0 X48 hx hret hlk (hb hby d2_61) (by decide) (by decide) ?_
          rw [e48]
          exact ⟨rfl, N48, K49, Or.inr (Or.inr (Or.inr (Or.inr (Or.inr (Or.inl ⟨c6, c12, c57, c91, F50⟩)))))⟩
  · refine wifYes OGc 49 X0 B d2_42 (own_if0 (flt (fun q => c6 ((lw_lt _ _).mp q))).2.1) rfl ?_
    refine wiinc OGc 52 X0 B d2_49 #[.val (.ref a1), .val (.ref a2), .val (.int (0 : Int32)), .val (.int (0 : Int32)), .val (.int (0 : Int32)), .val (.int ((1 : Int32) + (1 : Int32)))] rfl rfl rfl ?_
    show OG p e _ s below _ s₁ (mkF m 52 #[.val (.ref a1), .val (.ref a2), .val (.int (0 : Int32)), .val (.int (0 : Int32)), .val (.int (0 : Int32)), .val (.int (2 : Int32))] [])
    refine wgoto OGc 12 X0 B d2_52 rfl ?_
    refine wiload OGc 14 X0 B d2_12 rfl rfl ?_
    refine wiconst OGc 15 X0 B d2_14 2 rfl rfl ?_
    refine wiloadN OGc 16 X0 B d2_15 rfl rfl ?_
    refine own_st (fun t k => XS.imul X0.here hx rfl (hb hby d2_16) rfl k) ?_
    show OG p e _ s below _ s₁ (mkF m 17 #[.val (.ref a1), .val (.ref a2), .val (.int (0 : Int32)), .val (.int (0 : Int32)), .val (.int (0 : Int32)), .val (.int (2 : Int32))] [(.int (0 : Int32)), (.int (2 : Int32))])
    refine wiconst OGc 18 X0 B d2_17 2 rfl rfl ?_
    refine wiadd OGc 19 X0 B d2_18 rfl ?_
    show OG p e _ s below _ s₁ (mkF m 19 #[.val (.ref a1), .val (.ref a2), .val (.int (0 : Int32)), .val (.int (0 : Int32)), .val (.int (0 : Int32)), .val (.int (2 : Int32))] [(.int (2 : Int32)), (.int (2 : Int32))])
    refine wicmpNo OGc 22 X0 B d2_19 (by decide) rfl ?_
    refine wiload OGc 24 X0 B d2_22 rfl rfl ?_
    refine waloadN OGc 25 X0 B d2_24 rfl rfl rfl ?_
    refine warlenA OGc 26 X0 B hZ e0 R0 (6 : Int32) rfl d2_25 rfl ?_
    refine wicmpNo OGc 29 X0 B d2_26 (by decide) rfl ?_
    refine waloadN OGc 30 X0 B d2_29 rfl rfl rfl ?_
    refine waloadN OGc 31 X0 B d2_30 rfl rfl rfl ?_
    refine wiload OGc 33 X0 B d2_31 rfl rfl ?_
    refine wiaload OGc 34 X0 B hZ e0 R0 (v := (.int (5 : Int32))) 2 (by decide) (by decide) rfl d2_33 rfl ?_
    refine wlaload OGc 35 X0 B hZ e0 R1 (v := (.long w5)) 5 (by decide) (by decide) rfl d2_34 rfl ?_
    refine waloadN OGc 36 X0 B d2_35 rfl rfl rfl ?_
    refine waloadN OGc 37 X0 B d2_36 rfl rfl rfl ?_
    refine wiload OGc 39 X0 B d2_37 rfl rfl ?_
    refine wiaload OGc 40 X0 B hZ e0 R0 (v := (.int (2 : Int32))) 0 (by decide) (by decide) rfl d2_39 rfl ?_
    refine wlaload OGc 41 X0 B hZ e0 R1 (v := (.long w2)) 2 (by decide) (by decide) rfl d2_40 rfl ?_
    refine wlcmp OGc 42 X0 B d2_41 rfl ?_
    by_cases c108 : w5 < w2
    · refine wifNo OGc 45 X0 B d2_42 (own_if0 (tlt ((lw_lt _ _).mpr c108)).2.1) rfl ?_
      refine wiload OGc 47 X0 B d2_45 rfl rfl ?_
      refine wistore OGc 49 X0 B d2_47 #[.val (.ref a1), .val (.ref a2), .val (.int (0 : Int32)), .val (.int (0 : Int32)), .val (.int (2 : Int32)), .val (.int (2 : Int32))] rfl rfl ?_
      refine wiinc OGc 52 X0 B d2_49 #[.val (.ref a1), .val (.ref a2), .val (.int (0 : Int32)), .val (.int (0 : Int32)), .val (.int (2 : Int32)), .val (.int ((2 : Int32) + (1 : Int32)))] rfl rfl rfl ?_
      show OG p e _ s below _ s₁ (mkF m 52 #[.val (.ref a1), .val (.ref a2), .val (.int (0 : Int32)), .val (.int (0 : Int32)), .val (.int (2 : Int32)), .val (.int (3 : Int32))] [])
      refine wgoto OGc 12 X0 B d2_52 rfl ?_
      refine wiload OGc 14 X0 B d2_12 rfl rfl ?_
      refine wiconst OGc 15 X0 B d2_14 2 rfl rfl ?_
      refine wiloadN OGc 16 X0 B d2_15 rfl rfl ?_
      refine own_st (fun t k => XS.imul X0.here hx rfl (hb hby d2_16) rfl k) ?_
      show OG p e _ s below _ s₁ (mkF m 17 #[.val (.ref a1), .val (.ref a2), .val (.int (0 : Int32)), .val (.int (0 : Int32)), .val (.int (2 : Int32)), .val (.int (3 : Int32))] [(.int (0 : Int32)), (.int (3 : Int32))])
      refine wiconst OGc 18 X0 B d2_17 2 rfl rfl ?_
      refine wiadd OGc 19 X0 B d2_18 rfl ?_
      show OG p e _ s below _ s₁ (mkF m 19 #[.val (.ref a1), .val (.ref a2), .val (.int (0 : Int32)), .val (.int (0 : Int32)), .val (.int (2 : Int32)), .val (.int (3 : Int32))] [(.int (2 : Int32)), (.int (3 : Int32))])
      refine wicmpYes OGc 55 X0 B d2_19 (by decide) rfl ?_
      refine wiload OGc 57 X0 B d2_55 rfl rfl ?_
      refine wiloadN OGc 58 X0 B d2_57 rfl rfl ?_
      refine wicmpYes OGc 62 X0 B d2_58 (by decide) rfl ?_
      refine waloadN OGc 63 X0 B d2_62 rfl rfl rfl ?_
      refine wiloadN OGc 64 X0 B d2_63 rfl rfl ?_
      refine wiaload OGc 65 X0 B hZ e0 R0 (v := (.int (2 : Int32))) 0 (by decide) (by decide) rfl d2_64 rfl ?_
      refine wistore OGc 67 X0 B d2_65 #[.val (.ref a1), .val (.ref a2), .val (.int (0 : Int32)), .val (.int (0 : Int32)), .val (.int (2 : Int32)), .val (.int (2 : Int32))] rfl rfl ?_
      refine waloadN OGc 68 X0 B d2_67 rfl rfl rfl ?_
      refine wiloadN OGc 69 X0 B d2_68 rfl rfl ?_
      refine waloadN OGc 70 X0 B d2_69 rfl rfl rfl ?_
      refine wiload OGc 72 X0 B d2_70 rfl rfl ?_
      refine wiaload OGc 73 X0 B hZ e0 R0 (v := (.int (5 : Int32))) 2 (by decide) (by decide) rfl d2_72 rfl ?_
      refine wstI OGc 74 X0 B hZ e0 R0 0 (by decide) (by decide) (by decide : 0 < 6) d2_73 rfl fun T111 h111 X111 e111 W111 => ?_
      have N111 := Fr.snoc X111 N0 g_a1
      have K112 := (Keep.refl h0 [a1]).wr W111 (Or.inl (List.mem_of_getElem? (i := 0) rfl))
      have F113 : OA Z h111 a1 .int [(.int (5 : Int32)), (.int (0 : Int32)), (.int (5 : Int32)), (.int (1 : Int32)), (.int (3 : Int32)), (.int (4 : Int32))] := (R0.set W111 (i := 0) (by decide))
      have F114 := R1.other W111 ne_a2_a1
      refine waloadN OGc 75 X111 B d2_74 rfl rfl rfl ?_
      refine wiload OGc 77 X111 B d2_75 rfl rfl ?_
      refine wiload OGc 79 X111 B d2_77 rfl rfl ?_
      refine wstI OGc 80 X111 B hZ e111 F113 2 (by decide) (by decide) (by decide : 2 < 6) d2_79 rfl fun T115 h115 X115 e115 W115 => ?_
      have N115 := Fr.snoc X115 N111 g_a1
      have K116 := K112.wr W115 (Or.inl (List.mem_of_getElem? (i := 0) rfl))
      have F117 : OA Z h115 a1 .int [(.int (5 : Int32)), (.int (0 : Int32)), (.int (2 : Int32)), (.int (1 : Int32)), (.int (3 : Int32)), (.int (4 : Int32))] := (F113.set W115 (i := 2) (by decide))
      have F118 := F114.other W115 ne_a2_a1
      refine wiload OGc 82 X115 B d2_80 rfl rfl ?_
      refine wistoreN OGc 83 X115 B d2_82 #[.val (.ref a1), .val (.ref a2), .val (.int (0 : Int32)), .val (.int (2 : Int32)), .val (.int (2 : Int32)), .val (.int (2 : Int32))] rfl rfl ?_
      refine wgoto OGc 2 X115 B d2_83 rfl ?_
      refine wiloadN OGc 3 X115 B d2_2 rfl rfl ?_
      refine wistore OGc 5 X115 B d2_3 #[.val (.ref a1), .val (.ref a2), .val (.int (0 : Int32)), .val (.int (2 : Int32)), .val (.int (2 : Int32)), .val (.int (2 : Int32))] rfl rfl ?_
      refine wiconst OGc 6 X115 B d2_5 2 rfl rfl ?_
      refine wiloadN OGc 7 X115 B d2_6 rfl rfl ?_
      refine own_st (fun t k => XS.imul X115.here hx rfl (hb hby d2_7) rfl k) ?_
      show OG p e _ s below _ T115 (mkF m 8 #[.val (.ref a1), .val (.ref a2), .val (.int (0 : Int32)), .val (.int (2 : Int32)), .val (.int (2 : Int32)), .val (.int (2 : Int32))] [(.int (4 : Int32))])
      refine wiconst OGc 9 X115 B d2_8 1 rfl rfl ?_
      refine wiadd OGc 10 X115 B d2_9 rfl ?_
      show OG p e _ s below _ T115 (mkF m 10 #[.val (.ref a1), .val (.ref a2), .val (.int (0 : Int32)), .val (.int (2 : Int32)), .val (.int (2 : Int32)), .val (.int (2 : Int32))] [(.int (5 : Int32))])
      refine wistore OGc 12 X115 B d2_10 #[.val (.ref a1), .val (.ref a2), .val (.int (0 : Int32)), .val (.int (2 : Int32)), .val (.int (2 : Int32)), .val (.int (5 : Int32))] rfl rfl ?_
      refine wiload OGc 14 X115 B d2_12 rfl rfl ?_
      refine wiconst OGc 15 X115 B d2_14 2 rfl rfl ?_
      refine wiloadN OGc 16 X115 B d2_15 rfl rfl ?_
      refine own_st (fun t k => XS.imul X115.here hx rfl (hb hby d2_16) rfl k) ?_
      show OG p e _ s below _ T115 (mkF m 17 #[.val (.ref a1), .val (.ref a2), .val (.int (0 : Int32)), .val (.int (2 : Int32)), .val (.int (2 : Int32)), .val (.int (5 : Int32))] [(.int (4 : Int32)), (.int (5 : Int32))])
      refine wiconst OGc 18 X115 B d2_17 2 rfl rfl ?_
      refine wiadd OGc 19 X115 B d2_18 rfl ?_
      show OG p e _ s below _ T115 (mkF m 19 #[.val (.ref a1), .val (.ref a2), .val (.int (0 : Int32)), .val (.int (2 : Int32)), .val (.int (2 : Int32)), .val (.int (5 : Int32))] [(.int (6 : Int32)), (.int (5 : Int32))])
      refine wicmpNo OGc 22 X115 B d2_19 (by decide) rfl ?_
      refine wiload OGc 24 X115 B d2_22 rfl rfl ?_
      refine waloadN OGc 25 X115 B d2_24 rfl rfl rfl ?_
      refine warlenA OGc 26 X115 B hZ e115 F117 (6 : Int32) rfl d2_25 rfl ?_
      refine wicmpNo OGc 29 X115 B d2_26 (by decide) rfl ?_
      refine waloadN OGc 30 X115 B d2_29 rfl rfl rfl ?_
      refine waloadN OGc 31 X115 B d2_30 rfl rfl rfl ?_
      refine wiload OGc 33 X115 B d2_31 rfl rfl ?_
      refine wiaload OGc 34 X115 B hZ e115 F117 (v := (.int (4 : Int32))) 5 (by decide) (by decide) rfl d2_33 rfl ?_
      refine wlaload OGc 35 X115 B hZ e115 F118 (v := (.long w4)) 4 (by decide) (by decide) rfl d2_34 rfl ?_
      refine waloadN OGc 36 X115 B d2_35 rfl rfl rfl ?_
      refine waloadN OGc 37 X115 B d2_36 rfl rfl rfl ?_
      refine wiload OGc 39 X115 B d2_37 rfl rfl ?_
      refine wiaload OGc 40 X115 B hZ e115 F117 (v := (.int (2 : Int32))) 2 (by decide) (by decide) rfl d2_39 rfl ?_
      refine wlaload OGc 41 X115 B hZ e115 F118 (v := (.long w2)) 2 (by decide) (by decide) rfl d2_40 rfl ?_
      refine wlcmp OGc 42 X115 B d2_41 rfl ?_
      by_cases c124 : w4 < w2
      · refine wifNo OGc 45 X115 B d2_42 (own_if0 (tlt ((lw_lt _ _).mpr c124)).2.1) rfl ?_
        refine wiload OGc 47 X115 B d2_45 rfl rfl ?_
        refine wistore OGc 49 X115 B d2_47 #[.val (.ref a1), .val (.ref a2), .val (.int (0 : Int32)), .val (.int (2 : Int32)), .val (.int (5 : Int32)), .val (.int (5 : Int32))] rfl rfl ?_
        refine wiinc OGc 52 X115 B d2_49 #[.val (.ref a1), .val (.ref a2), .val (.int (0 : Int32)), .val (.int (2 : Int32)), .val (.int (5 : Int32)), .val (.int ((5 : Int32) + (1 : Int32)))] rfl rfl rfl ?_
        show OG p e _ s below _ T115 (mkF m 52 #[.val (.ref a1), .val (.ref a2), .val (.int (0 : Int32)), .val (.int (2 : Int32)), .val (.int (5 : Int32)), .val (.int (6 : Int32))] [])
        refine wgoto OGc 12 X115 B d2_52 rfl ?_
        refine wiload OGc 14 X115 B d2_12 rfl rfl ?_
        refine wiconst OGc 15 X115 B d2_14 2 rfl rfl ?_
        refine wiloadN OGc 16 X115 B d2_15 rfl rfl ?_
        refine own_st (fun t k => XS.imul X115.here hx rfl (hb hby d2_16) rfl k) ?_
        show OG p e _ s below _ T115 (mkF m 17 #[.val (.ref a1), .val (.ref a2), .val (.int (0 : Int32)), .val (.int (2 : Int32)), .val (.int (5 : Int32)), .val (.int (6 : Int32))] [(.int (4 : Int32)), (.int (6 : Int32))])
        refine wiconst OGc 18 X115 B d2_17 2 rfl rfl ?_
        refine wiadd OGc 19 X115 B d2_18 rfl ?_
        show OG p e _ s below _ T115 (mkF m 19 #[.val (.ref a1), .val (.ref a2), .val (.int (0 : Int32)), .val (.int (2 : Int32)), .val (.int (5 : Int32)), .val (.int (6 : Int32))] [(.int (6 : Int32)), (.int (6 : Int32))])
        refine wicmpNo OGc 22 X115 B d2_19 (by decide) rfl ?_
        refine wiload OGc 24 X115 B d2_22 rfl rfl ?_
        refine waloadN OGc 25 X115 B d2_24 rfl rfl rfl ?_
        refine warlenA OGc 26 X115 B hZ e115 F117 (6 : Int32) rfl d2_25 rfl ?_
        refine wicmpYes OGc 55 X115 B d2_26 (by decide) rfl ?_
        refine wiload OGc 57 X115 B d2_55 rfl rfl ?_
        refine wiloadN OGc 58 X115 B d2_57 rfl rfl ?_
        refine wicmpYes OGc 62 X115 B d2_58 (by decide) rfl ?_
        refine waloadN OGc 63 X115 B d2_62 rfl rfl rfl ?_
        refine wiloadN OGc 64 X115 B d2_63 rfl rfl ?_
        refine wiaload OGc 65 X115 B hZ e115 F117 (v := (.int (2 : Int32))) 2 (by decide) (by decide) rfl d2_64 rfl ?_
        refine wistore OGc 67 X115 B d2_65 #[.val (.ref a1), .val (.ref a2), .val (.int (0 : Int32)), .val (.int (2 : Int32)), .val (.int (5 : Int32)), .val (.int (2 : Int32))] rfl rfl ?_
        refine waloadN OGc 68 X115 B d2_67 rfl rfl rfl ?_
        refine wiloadN OGc 69 X115 B d2_68 rfl rfl ?_
        refine waloadN OGc 70 X115 B d2_69 rfl rfl rfl ?_
        refine wiload OGc 72 X115 B d2_70 rfl rfl ?_
        refine wiaload OGc 73 X115 B hZ e115 F117 (v := (.int (4 : Int32))) 5 (by decide) (by decide) rfl d2_72 rfl ?_
        refine wstI OGc 74 X115 B hZ e115 F117 2 (by decide) (by decide) (by decide : 2 < 6) d2_73 rfl fun T128 h128 X128 e128 W128 => ?_
        have N128 := Fr.snoc X128 N115 g_a1
        have K129 := K116.wr W128 (Or.inl (List.mem_of_getElem? (i := 0) rfl))
        have F130 : OA Z h128 a1 .int [(.int (5 : Int32)), (.int (0 : Int32)), (.int (4 : Int32)), (.int (1 : Int32)), (.int (3 : Int32)), (.int (4 : Int32))] := (F117.set W128 (i := 2) (by decide))
        have F131 := F118.other W128 ne_a2_a1
        refine waloadN OGc 75 X128 B d2_74 rfl rfl rfl ?_
        refine wiload OGc 77 X128 B d2_75 rfl rfl ?_
        refine wiload OGc 79 X128 B d2_77 rfl rfl ?_
        refine wstI OGc 80 X128 B hZ e128 F130 5 (by decide) (by decide) (by decide : 5 < 6) d2_79 rfl fun T132 h132 X132 e132 W132 => ?_
        have N132 := Fr.snoc X132 N128 g_a1
        have K133 := K129.wr W132 (Or.inl (List.mem_of_getElem? (i := 0) rfl))
        have F134 : OA Z h132 a1 .int [(.int (5 : Int32)), (.int (0 : Int32)), (.int (4 : Int32)), (.int (1 : Int32)), (.int (3 : Int32)), (.int (2 : Int32))] := (F130.set W132 (i := 5) (by decide))
        have F135 := F131.other W132 ne_a2_a1
        refine wiload OGc 82 X132 B d2_80 rfl rfl ?_
        refine wistoreN OGc 83 X132 B d2_82 #[.val (.ref a1), .val (.ref a2), .val (.int (0 : Int32)), .val (.int (5 : Int32)), .val (.int (5 : Int32)), .val (.int (2 : Int32))] rfl rfl ?_
        refine wgoto OGc 2 X132 B d2_83 rfl ?_
        refine wiloadN OGc 3 X132 B d2_2 rfl rfl ?_
        refine wistore OGc 5 X132 B d2_3 #[.val (.ref a1), .val (.ref a2), .val (.int (0 : Int32)), .val (.int (5 : Int32)), .val (.int (5 : Int32)), .val (.int (2 : Int32))] rfl rfl ?_
        refine wiconst OGc 6 X132 B d2_5 2 rfl rfl ?_
        refine wiloadN OGc 7 X132 B d2_6 rfl rfl ?_
        refine own_st (fun t k => XS.imul X132.here hx rfl (hb hby d2_7) rfl k) ?_
        show OG p e _ s below _ T132 (mkF m 8 #[.val (.ref a1), .val (.ref a2), .val (.int (0 : Int32)), .val (.int (5 : Int32)), .val (.int (5 : Int32)), .val (.int (2 : Int32))] [(.int (10 : Int32))])
        refine wiconst OGc 9 X132 B d2_8 1 rfl rfl ?_
        refine wiadd OGc 10 X132 B d2_9 rfl ?_
        show OG p e _ s below _ T132 (mkF m 10 #[.val (.ref a1), .val (.ref a2), .val (.int (0 : Int32)), .val (.int (5 : Int32)), .val (.int (5 : Int32)), .val (.int (2 : Int32))] [(.int (11 : Int32))])
        refine wistore OGc 12 X132 B d2_10 #[.val (.ref a1), .val (.ref a2), .val (.int (0 : Int32)), .val (.int (5 : Int32)), .val (.int (5 : Int32)), .val (.int (11 : Int32))] rfl rfl ?_
        refine wiload OGc 14 X132 B d2_12 rfl rfl ?_
        refine wiconst OGc 15 X132 B d2_14 2 rfl rfl ?_
        refine wiloadN OGc 16 X132 B d2_15 rfl rfl ?_
        refine own_st (fun t k => XS.imul X132.here hx rfl (hb hby d2_16) rfl k) ?_
        show OG p e _ s below _ T132 (mkF m 17 #[.val (.ref a1), .val (.ref a2), .val (.int (0 : Int32)), .val (.int (5 : Int32)), .val (.int (5 : Int32)), .val (.int (11 : Int32))] [(.int (10 : Int32)), (.int (11 : Int32))])
        refine wiconst OGc 18 X132 B d2_17 2 rfl rfl ?_
        refine wiadd OGc 19 X132 B d2_18 rfl ?_
        show OG p e _ s below _ T132 (mkF m 19 #[.val (.ref a1), .val (.ref a2), .val (.int (0 : Int32)), .val (.int (5 : Int32)), .val (.int (5 : Int32)), .val (.int (11 : Int32))] [(.int (12 : Int32)), (.int (11 : Int32))])
        refine wicmpNo OGc 22 X132 B d2_19 (by decide) rfl ?_
        refine wiload OGc 24 X132 B d2_22 rfl rfl ?_
        refine waloadN OGc 25 X132 B d2_24 rfl rfl rfl ?_
        refine warlenA OGc 26 X132 B hZ e132 F134 (6 : Int32) rfl d2_25 rfl ?_
        refine wicmpYes OGc 55 X132 B d2_26 (by decide) rfl ?_
        refine wiload OGc 57 X132 B d2_55 rfl rfl ?_
        refine wiloadN OGc 58 X132 B d2_57 rfl rfl ?_
        refine wicmpNo OGc 61 X132 B d2_58 (by decide) rfl ?_
        refine own_ret0 X132 hx hret hlk (hb hby d2_61) (by decide) (by decide) ?_
        rw [e132]
        exact ⟨rfl, N132, K133, Or.inr (Or.inr (Or.inr (Or.inr (Or.inr (Or.inr (Or.inl ⟨c6, c108, c124, F134⟩))))))⟩
      · refine wifYes OGc 49 X115 B d2_42 (own_if0 (flt (fun q => c124 ((lw_lt _ _).mp q))).2.1) rfl ?_
        refine wiinc OGc 52 X115 B d2_49 #[.val (.ref a1), .val (.ref a2), .val (.int (0 : Int32)), .val (.int (2 : Int32)), .val (.int (2 : Int32)), .val (.int ((5 : Int32) + (1 : Int32)))] rfl rfl rfl ?_
        show OG p e _ s below _ T115 (mkF m 52 #[.val (.ref a1), .val (.ref a2), .val (.int (0 : Int32)), .val (.int (2 : Int32)), .val (.int (2 : Int32)), .val (.int (6 : Int32))] [])
        refine wgoto OGc 12 X115 B d2_52 rfl ?_
        refine wiload OGc 14 X115 B d2_12 rfl rfl ?_
        refine wiconst OGc 15 X115 B d2_14 2 rfl rfl ?_
        refine wiloadN OGc 16 X115 B d2_15 rfl rfl ?_
        refine own_st (fun t k => XS.imul X115.here hx rfl (hb hby d2_16) rfl k) ?_
        show OG p e _ s below _ T115 (mkF m 17 #[.val (.ref a1), .val (.ref a2), .val (.int (0 : Int32)), .val (.int (2 : Int32)), .val (.int (2 : Int32)), .val (.int (6 : Int32))] [(.int (4 : Int32)), (.int (6 : Int32))])
        refine wiconst OGc 18 X115 B d2_17 2 rfl rfl ?_
        refine wiadd OGc 19 X115 B d2_18 rfl ?_
        show OG p e _ s below _ T115 (mkF m 19 #[.val (.ref a1), .val (.ref a2), .val (.int (0 : Int32)), .val (.int (2 : Int32)), .val (.int (2 : Int32)), .val (.int (6 : Int32))] [(.int (6 : Int32)), (.int (6 : Int32))])
        refine wicmpNo OGc 22 X115 B d2_19 (by decide) rfl ?_
        refine wiload OGc 24 X115 B d2_22 rfl rfl ?_
        refine waloadN OGc 25 X115 B d2_24 rfl rfl rfl ?_
        refine warlenA OGc 26 X115 B hZ e115 F117 (6 : Int32) rfl d2_25 rfl ?_
        refine wicmpYes OGc 55 X115 B d2_26 (by decide) rfl ?_
        refine wiload OGc 57 X115 B d2_55 rfl rfl ?_
        refine wiloadN OGc 58 X115 B d2_57 rfl rfl ?_
        refine wicmpNo OGc 61 X115 B d2_58 (by decide) rfl ?_
        refine own_ret0 X115 hx hret hlk (hb hby d2_61) (by decide) (by decide) ?_
        rw [e115]
        exact ⟨rfl, N115, K116, Or.inr (Or.inr (Or.inr (Or.inr (Or.inr (Or.inr (Or.inr (Or.inl ⟨c6, c108, c124, F117⟩)))))))⟩
    · refine wifYes OGc 49 X0 B d2_42 (own_if0 (flt (fun q => c108 ((lw_lt _ _).mp q))).2.1) rfl ?_
      refine wiinc OGc 52 X0 B d2_49 #[.val (.ref a1), .val (.ref a2), .val (.int (0 : Int32)), .val (.int (0 : Int32)), .val (.int (0 : Int32)), .val (.int ((2 : Int32) + (1 : Int32)))] rfl rfl rfl ?_
      show OG p e _ s below _ s₁ (mkF m 52 #[.val (.ref a1), .val (.ref a2), .val (.int (0 : Int32)), .val (.int (0 : Int32)), .val (.int (0 : Int32)), .val (.int (3 : Int32))] [])
      refine wgoto OGc 12 X0 B d2_52 rfl ?_
      refine wiload OGc 14 X0 B d2_12 rfl rfl ?_
      refine wiconst OGc 15 X0 B d2_14 2 rfl rfl ?_
      refine wiloadN OGc 16 X0 B d2_15 rfl rfl ?_
      refine own_st (fun t k => XS.imul X0.here hx rfl (hb hby d2_16) rfl k) ?_
      show OG p e _ s below _ s₁ (mkF m 17 #[.val (.ref a1), .val (.ref a2), .val (.int (0 : Int32)), .val (.int (0 : Int32)), .val (.int (0 : Int32)), .val (.int (3 : Int32))] [(.int (0 : Int32)), (.int (3 : Int32))])
      refine wiconst OGc 18 X0 B d2_17 2 rfl rfl ?_
      refine wiadd OGc 19 X0 B d2_18 rfl ?_
      show OG p e _ s below _ s₁ (mkF m 19 #[.val (.ref a1), .val (.ref a2), .val (.int (0 : Int32)), .val (.int (0 : Int32)), .val (.int (0 : Int32)), .val (.int (3 : Int32))] [(.int (2 : Int32)), (.int (3 : Int32))])
      refine wicmpYes OGc 55 X0 B d2_19 (by decide) rfl ?_
      refine wiload OGc 57 X0 B d2_55 rfl rfl ?_
      refine wiloadN OGc 58 X0 B d2_57 rfl rfl ?_
      refine wicmpNo OGc 61 X0 B d2_58 (by decide) rfl ?_
      refine own_ret0 X0 hx hret hlk (hb hby d2_61) (by decide) (by decide) ?_
      rw [e0]
      exact ⟨rfl, N0, (Keep.refl h0 [a1]), Or.inr (Or.inr (Or.inr (Or.inr (Or.inr (Or.inr (Or.inr (Or.inr (⟨c6, c108, R0⟩))))))))⟩
theorem ef_2_1 (m : MethodId) (a1 : Addr) (a2 : Addr) : entryFrame m #[(.ref a1), (.ref a2), (.int (1 : Int32))] 6 = (mkF m 0 #[.val (.ref a1), .val (.ref a2), .val (.int (1 : Int32)), .unset, .unset, .unset] []) := by first | (simp [entryFrame, mkF, argsToLocals, Value.category]; done) | rfl
abbrev Q2_1 (Z : State) (a1 : Addr) (a2 : Addr) (w0 : Int64) (w1 : Int64) (w2 : Int64) (w3 : Int64) (w4 : Int64) (w5 : Int64) (h0 : Heap) (n0 : Nat) : Option Value → Heap → List Loc → Prop := (fun v h L => v = none ∧ Fr n0 L ∧ Keep h0 h [a1] ∧ (((w1 < w0) ∧ (w3 < w1) ∧ OA Z h a1 .int [(.int (2 : Int32)), (.int (3 : Int32)), (.int (5 : Int32)), (.int (1 : Int32)), (.int (0 : Int32)), (.int (4 : Int32))]) ∨ ((w1 < w0) ∧ (¬ (w3 < w1)) ∧ OA Z h a1 .int [(.int (2 : Int32)), (.int (1 : Int32)), (.int (5 : Int32)), (.int (0 : Int32)), (.int (3 : Int32)), (.int (4 : Int32))]) ∨ ((¬ (w1 < w0)) ∧ (w3 < w0) ∧ OA Z h a1 .int [(.int (2 : Int32)), (.int (3 : Int32)), (.int (5 : Int32)), (.int (1 : Int32)), (.int (0 : Int32)), (.int (4 : Int32))]) ∨ ((¬ (w1 < w0)) ∧ (¬ (w3 < w0)) ∧ OA Z h a1 .int [(.int (2 : Int32)), (.int (0 : Int32)), (.int (5 : Int32)), (.int (1 : Int32)), (.int (3 : Int32)), (.int (4 : Int32))])))
set_option maxRecDepth 65536 in
set_option maxHeartbeats 40000000 in
theorem rm2_1 (l : Launch) (Z : State) (a0 : Array Value) (hw : ∀ d ∈ tables_1, d.before a0 Z = true) (ws : List Jvm.Cond) (a1 : Addr) (a2 : Addr) (w0 : Int64) (w1 : Int64) (w2 : Int64) (w3 : Int64) (w4 : Int64) (w5 : Int64) (h0 : Heap) (n0 : Nat) (R0 : OA Z h0 a1 .int [(.int (2 : Int32)), (.int (0 : Int32)), (.int (5 : Int32)), (.int (1 : Int32)), (.int (3 : Int32)), (.int (4 : Int32))]) (R1 : OA Z h0 a2 .long [(.long w0), (.long w1), (.long w2), (.long w3), (.long w4), (.long w5)]) (g_a1 : n0 ≤ a1) (ne_a2_a1 : a2 ≠ a1) :
    OMet l Z (⟨"com/example/fragmark/fragmark/PhraseMatcher", "siftDown", "([I[JI)V"⟩ : MethodName) prog_32_method_19_code 6 none ws ({ frames := 0, cells := 0, slots := 0, locals := 0 } : Room) #[(.ref a1), (.ref a2), (.int (1 : Int32))] h0 (Q2_1 Z a1 a2 w0 w1 w2 w3 w4 w5 h0 n0) := by
  refine own_enter pn_2 ?_
  intro p e s m below meth c s₁ hx hby hml0 hown hret hlk hnm hZ X0 e0
  have hml : c.maxLocals = 6 := hml0
  have B : BX p c prog_32_method_19_code := ⟨hx, hby⟩
  have N0 := Fr.nil n0
  refine own_cast (ef_2_1 m a1 a2) ?_
  show OG p e ({ frames := 0, cells := 0, slots := 0, locals := 0 } : Room) s below (fun v h L => v = none ∧ Fr n0 L ∧ Keep h0 h [a1] ∧ (((w1 < w0) ∧ (w3 < w1) ∧ OA Z h a1 .int [(.int (2 : Int32)), (.int (3 : Int32)), (.int (5 : Int32)), (.int (1 : Int32)), (.int (0 : Int32)), (.int (4 : Int32))]) ∨ ((w1 < w0) ∧ (¬ (w3 < w1)) ∧ OA Z h a1 .int [(.int (2 : Int32)), (.int (1 : Int32)), (.int (5 : Int32)), (.int (0 : Int32)), (.int (3 : Int32)), (.int (4 : Int32))]) ∨ ((¬ (w1 < w0)) ∧ (w3 < w0) ∧ OA Z h a1 .int [(.int (2 : Int32)), (.int (3 : Int32)), (.int (5 : Int32)), (.int (1 : Int32)), (.int (0 : Int32)), (.int (4 : Int32))]) ∨ ((¬ (w1 < w0)) ∧ (¬ (w3 < w0)) ∧ OA Z h a1 .int [(.int (2 : Int32)), (.int (0 : Int32)), (.int (5 : Int32)), (.int (1 : Int32)), (.int (3 : Int32)), (.int (4 : Int32))]))) s₁ (mkF m 0 #[.val (.ref a1), .val (.ref a2), .val (.int (1 : Int32)), .unset, .unset, .unset] [])
  refine wiloadN OGc 1 X0 B d2_0 rfl rfl ?_
  refine wistoreN OGc 2 X0 B d2_1 #[.val (.ref a1), .val (.ref a2), .val (.int (1 : Int32)), .val (.int (1 : Int32)), .unset, .unset] rfl rfl ?_
  refine wiloadN OGc 3 X0 B d2_2 rfl rfl ?_
  refine wistore OGc 5 X0 B d2_3 #[.val (.ref a1), .val (.ref a2), .val (.int (1 : Int32)), .val (.int (1 : Int32)), .val (.int (1 : Int32)), .unset] rfl rfl ?_
  refine wiconst OGc 6 X0 B d2_5 2 rfl rfl ?_
  refine wiloadN OGc 7 X0 B d2_6 rfl rfl ?_
  refine own_st (fun t k => XS.imul X0.here hx rfl (hb hby d2_7) rfl k) ?_
  show OG p e _ s below _ s₁ (mkF m 8 #[.val (.ref a1), .val (.ref a2), .val (.int (1 : Int32)), .val (.int (1 : Int32)), .val (.int (1 : Int32)), .unset] [(.int (2 : Int32))])
  refine wiconst OGc 9 X0 B d2_8 1 rfl rfl ?_
  refine wiadd OGc 10 X0 B d2_9 rfl ?_
  show OG p e _ s below _ s₁ (mkF m 10 #[.val (.ref a1), .val (.ref a2), .val (.int (1 : Int32)), .val (.int (1 : Int32)), .val (.int (1 : Int32)), .unset] [(.int (3 : Int32))])
  refine wistore OGc 12 X0 B d2_10 #[.val (.ref a1), .val (.ref a2), .val (.int (1 : Int32)), .val (.int (1 : Int32)), .val (.int (1 : Int32)), .val (.int (3 : Int32))] rfl rfl ?_
  refine wiload OGc 14 X0 B d2_12 rfl rfl ?_
  refine wiconst OGc 15 X0 B d2_14 2 rfl rfl ?_
  refine wiloadN OGc 16 X0 B d2_15 rfl rfl ?_
  refine own_st (fun t k => XS.imul X0.here hx rfl (hb hby d2_16) rfl k) ?_
  show OG p e _ s below _ s₁ (mkF m 17 #[.val (.ref a1), .val (.ref a2), .val (.int (1 : Int32)), .val (.int (1 : Int32)), .val (.int (1 : Int32)), .val (.int (3 : Int32))] [(.int (2 : Int32)), (.int (3 : Int32))])
  refine wiconst OGc 18 X0 B d2_17 2 rfl rfl ?_
  refine wiadd OGc 19 X0 B d2_18 rfl ?_
  show OG p e _ s below _ s₁ (mkF m 19 #[.val (.ref a1), .val (.ref a2), .val (.int (1 : Int32)), .val (.int (1 : Int32)), .val (.int (1 : Int32)), .val (.int (3 : Int32))] [(.int (4 : Int32)), (.int (3 : Int32))])
  refine wicmpNo OGc 22 X0 B d2_19 (by decide) rfl ?_
  refine wiload OGc 24 X0 B d2_22 rfl rfl ?_
  refine waloadN OGc 25 X0 B d2_24 rfl rfl rfl ?_
  refine warlenA OGc 26 X0 B hZ e0 R0 (6 : Int32) rfl d2_25 rfl ?_
  refine wicmpNo OGc 29 X0 B d2_26 (by decide) rfl ?_
  refine waloadN OGc 30 X0 B d2_29 rfl rfl rfl ?_
  refine waloadN OGc 31 X0 B d2_30 rfl rfl rfl ?_
  refine wiload OGc 33 X0 B d2_31 rfl rfl ?_
  refine wiaload OGc 34 X0 B hZ e0 R0 (v := (.int (1 : Int32))) 3 (by decide) (by decide) rfl d2_33 rfl ?_
  refine wlaload OGc 35 X0 B hZ e0 R1 (v := (.long w1)) 1 (by decide) (by decide) rfl d2_34 rfl ?_
  refine waloadN OGc 36 X0 B d2_35 rfl rfl rfl ?_
  refine waloadN OGc 37 X0 B d2_36 rfl rfl rfl ?_
  refine wiload OGc 39 X0 B d2_37 rfl rfl ?_
  refine wiaload OGc 40 X0 B hZ e0 R0 (v := (.int (0 : Int32))) 1 (by decide) (by decide) rfl d2_39 rfl ?_
  refine wlaload OGc 41 X0 B hZ e0 R1 (v := (.long w0)) 0 (by decide) (by decide) rfl d2_40 rfl ?_
  refine wlcmp OGc 42 X0 B d2_41 rfl ?_
  by_cases c6 : w1 < w0
  · refine wifNo OGc 45 X0 B d2_42 (own_if0 (tlt ((lw_lt _ _).mpr c6)).2.1) rfl ?_
    refine wiload OGc 47 X0 B d2_45 rfl rfl ?_
    refine wistore OGc 49 X0 B d2_47 #[.val (.ref a1), .val (.ref a2), .val (.int (1 : Int32)), .val (.int (1 : Int32)), .val (.int (3 : Int32)), .val (.int (3 : Int32))] rfl rfl ?_
    refine wiinc OGc 52 X0 B d2_49 #[.val (.ref a1), .val (.ref a2), .val (.int (1 : Int32)), .val (.int (1 : Int32)), .val (.int (3 : Int32)), .val (.int ((3 : Int32) + (1 : Int32)))] rfl rfl rfl ?_
    show OG p e _ s below _ s₁ (mkF m 52 #[.val (.ref a1), .val (.ref a2), .val (.int (1 : Int32)), .val (.int (1 : Int32)), .val (.int (3 : Int32)), .val (.int (4 : Int32))] [])
    refine wgoto OGc 12 X0 B d2_52 rfl ?_
    refine wiload OGc 14 X0 B d2_12 rfl rfl ?_
    refine wiconst OGc 15 X0 B d2_14 2 rfl rfl ?_
    refine wiloadN OGc 16 X0 B d2_15 rfl rfl ?_
    refine own_st (fun t k => XS.imul X0.here hx rfl (hb hby d2_16) rfl k) ?_
    show OG p e _ s below _ s₁ (mkF m 17 #[.val (.ref a1), .val (.ref a2), .val (.int (1 : Int32)), .val (.int (1 : Int32)), .val (.int (3 : Int32)), .val (.int (4 : Int32))] [(.int (2 : Int32)), (.int (4 : Int32))])
    refine wiconst OGc 18 X0 B d2_17 2 rfl rfl ?_
    refine wiadd OGc 19 X0 B d2_18 rfl ?_
    show OG p e _ s below _ s₁ (mkF m 19 #[.val (.ref a1), .val (.ref a2), .val (.int (1 : Int32)), .val (.int (1 : Int32)), .val (.int (3 : Int32)), .val (.int (4 : Int32))] [(.int (4 : Int32)), (.int (4 : Int32))])
    refine wicmpNo OGc 22 X0 B d2_19 (by decide) rfl ?_
    refine wiload OGc 24 X0 B d2_22 rfl rfl ?_
    refine waloadN OGc 25 X0 B d2_24 rfl rfl rfl ?_
    refine warlenA OGc 26 X0 B hZ e0 R0 (6 : Int32) rfl d2_25 rfl ?_
    refine wicmpNo OGc 29 X0 B d2_26 (by decide) rfl ?_
    refine waloadN OGc 30 X0 B d2_29 rfl rfl rfl ?_
    refine waloadN OGc 31 X0 B d2_30 rfl rfl rfl ?_
    refine wiload OGc 33 X0 B d2_31 rfl rfl ?_
    refine wiaload OGc 34 X0 B hZ e0 R0 (v := (.int (3 : Int32))) 4 (by decide) (by decide) rfl d2_33 rfl ?_
    refine wlaload OGc 35 X0 B hZ e0 R1 (v := (.long w3)) 3 (by decide) (by decide) rfl d2_34 rfl ?_
    refine waloadN OGc 36 X0 B d2_35 rfl rfl rfl ?_
    refine waloadN OGc 37 X0 B d2_36 rfl rfl rfl ?_
    refine wiload OGc 39 X0 B d2_37 rfl rfl ?_
    refine wiaload OGc 40 X0 B hZ e0 R0 (v := (.int (1 : Int32))) 3 (by decide) (by decide) rfl d2_39 rfl ?_
    refine wlaload OGc 41 X0 B hZ e0 R1 (v := (.long w1)) 1 (by decide) (by decide) rfl d2_40 rfl ?_
    refine wlcmp OGc 42 X0 B d2_41 rfl ?_
    by_cases c12 : w3 < w1
    · refine wifNo OGc 45 X0 B d2_42 (own_if0 (tlt ((lw_lt _ _).mpr c12)).2.1) rfl ?_
      refine wiload OGc 47 X0 B d2_45 rfl rfl ?_
      refine wistore OGc 49 X0 B d2_47 #[.val (.ref a1), .val (.ref a2), .val (.int (1 : Int32)), .val (.int (1 : Int32)), .val (.int (4 : Int32)), .val (.int (4 : Int32))] rfl rfl ?_
      refine wiinc OGc 52 X0 B d2_49 #[.val (.ref a1), .val (.ref a2), .val (.int (1 : Int32)), .val (.int (1 : Int32)), .val (.int (4 : Int32)), .val (.int ((4 : Int32) + (1 : Int32)))] rfl rfl rfl ?_
      show OG p e _ s below _ s₁ (mkF m 52 #[.val (.ref a1), .val (.ref a2), .val (.int (1 : Int32)), .val (.int (1 : Int32)), .val (.int (4 : Int32)), .val (.int (5 : Int32))] [])
      refine wgoto OGc 12 X0 B d2_52 rfl ?_
      refine wiload OGc 14 X0 B d2_12 rfl rfl ?_
      refine wiconst OGc 15 X0 B d2_14 2 rfl rfl ?_
      refine wiloadN OGc 16 X0 B d2_15 rfl rfl ?_
      refine own_st (fun t k => XS.imul X0.here hx rfl (hb hby d2_16) rfl k) ?_
      show OG p e _ s below _ s₁ (mkF m 17 #[.val (.ref a1), .val (.ref a2), .val (.int (1 : Int32)), .val (.int (1 : Int32)), .val (.int (4 : Int32)), .val (.int (5 : Int32))] [(.int (2 : Int32)), (.int (5 : Int32))])
      refine wiconst OGc 18 X0 B d2_17 2 rfl rfl ?_
      refine wiadd OGc 19 X0 B d2_18 rfl ?_
      show OG p e _ s below _ s₁ (mkF m 19 #[.val (.ref a1), .val (.ref a2), .val (.int (1 : Int32)), .val (.int (1 : Int32)), .val (.int (4 : Int32)), .val (.int (5 : Int32))] [(.int (4 : Int32)), (.int (5 : Int32))])
      refine wicmpYes OGc 55 X0 B d2_19 (by decide) rfl ?_
      refine wiload OGc 57 X0 B d2_55 rfl rfl ?_
      refine wiloadN OGc 58 X0 B d2_57 rfl rfl ?_
      refine wicmpYes OGc 62 X0 B d2_58 (by decide) rfl ?_
      refine waloadN OGc 63 X0 B d2_62 rfl rfl rfl ?_
      refine wiloadN OGc 64 X0 B d2_63 rfl rfl ?_
      refine wiaload OGc 65 X0 B hZ e0 R0 (v := (.int (0 : Int32))) 1 (by decide) (by decide) rfl d2_64 rfl ?_
      refine wistore OGc 67 X0 B d2_65 #[.val (.ref a1), .val (.ref a2), .val (.int (1 : Int32)), .val (.int (1 : Int32)), .val (.int (4 : Int32)), .val (.int (0 : Int32))] rfl rfl ?_
      refine waloadN OGc 68 X0 B d2_67 rfl rfl rfl ?_
      refine wiloadN OGc 69 X0 B d2_68 rfl rfl ?_
      refine waloadN OGc 70 X0 B d2_69 rfl rfl rfl ?_
      refine wiload OGc 72 X0 B d2_70 rfl rfl ?_
      refine wiaload OGc 73 X0 B hZ e0 R0 (v := (.int (3 : Int32))) 4 (by decide) (by decide) rfl d2_72 rfl ?_
      refine wstI OGc 74 X0 B hZ e0 R0 1 (by decide) (by decide) (by decide : 1 < 6) d2_73 rfl fun T15 h15 X15 e15 W15 => ?_
      have N15 := Fr.snoc X15 N0 g_a1
      have K16 := (Keep.refl h0 [a1]).wr W15 (Or.inl (List.mem_of_getElem? (i := 0) rfl))
      have F17 : OA Z h15 a1 .int [(.int (2 : Int32)), (.int (3 : Int32)), (.int (5 : Int32)), (.int (1 : Int32)), (.int (3 : Int32)), (.int (4 : Int32))] := (R0.set W15 (i := 1) (by decide))
      have F18 := R1.other W15 ne_a2_a1
      refine waloadN OGc 75 X15 B d2_74 rfl rfl rfl ?_
      refine wiload OGc 77 X15 B d2_75 rfl rfl ?_
      refine wiload OGc 79 X15 B d2_77 rfl rfl ?_
      refine wstI OGc 80 X15 B hZ e15 F17 4 (by decide) (by decide) (by decide : 4 < 6) d2_79 rfl fun T19 h19 X19 e19 W19 => ?_
      have N19 := Fr.snoc X19 N15 g_a1
      have K20 := K16.wr W19 (Or.inl (List.mem_of_getElem? (i := 0) rfl))
      have F21 : OA Z h19 a1 .int [(.int (2 : Int32)), (.int (3 : Int32)), (.int (5 : Int32)), (.int (1 : Int32)), (.int (0 : Int32)), (.int (4 : Int32))] := (F17.set W19 (i := 4) (by decide))
      have F22 := F18.other W19 ne_a2_a1
      refine wiload OGc 82 X19 B d2_80 rfl rfl ?_
      refine wistoreN OGc 83 X19 B d2_82 #[.val (.ref a1), .val (.ref a2), .val (.int (1 : Int32)), .val (.int (4 : Int32)), .val (.int (4 : Int32)), .val (.int (0 : Int32))] rfl rfl ?_
      refine wgoto OGc 2 X19 B d2_83 rfl ?_
      refine wiloadN OGc 3 X19 B d2_2 rfl rfl ?_
      refine wistore OGc 5 X19 B d2_3 #[.val (.ref a1), .val (.ref a2), .val (.int (1 : Int32)), .val (.int (4 : Int32)), .val (.int (4 : Int32)), .val (.int (0 : Int32))] rfl rfl ?_
      refine wiconst OGc 6 X19 B d2_5 2 rfl rfl ?_
      refine wiloadN OGc 7 X19 B d2_6 rfl rfl ?_
      refine own_st (fun t k => XS.imul X19.here hx rfl (hb hby d2_7) rfl k) ?_
      show OG p e _ s below _ T19 (mkF m 8 #[.val (.ref a1), .val (.ref a2), .val (.int (1 : Int32)), .val (.int (4 : Int32)), .val (.int (4 : Int32)), .val (.int (0 : Int32))] [(.int (8 : Int32))])
      refine wiconst OGc 9 X19 B d2_8 1 rfl rfl ?_
      refine wiadd OGc 10 X19 B d2_9 rfl ?_
      show OG p e _ s below _ T19 (mkF m 10 #[.val (.ref a1), .val (.ref a2), .val (.int (1 : Int32)), .val (.int (4 : Int32)), .val (.int (4 : Int32)), .val (.int (0 : Int32))] [(.int (9 : Int32))])
      refine wistore OGc 12 X19 B d2_10 #[.val (.ref a1), .val (.ref a2), .val (.int (1 : Int32)), .val (.int (4 : Int32)), .val (.int (4 : Int32)), .val (.int (9 : Int32))] rfl rfl ?_
      refine wiload OGc 14 X19 B d2_12 rfl rfl ?_
      refine wiconst OGc 15 X19 B d2_14 2 rfl rfl ?_
      refine wiloadN OGc 16 X19 B d2_15 rfl rfl ?_
      refine own_st (fun t k => XS.imul X19.here hx rfl (hb hby d2_16) rfl k) ?_
      show OG p e _ s below _ T19 (mkF m 17 #[.val (.ref a1), .val (.ref a2), .val (.int (1 : Int32)), .val (.int (4 : Int32)), .val (.int (4 : Int32)), .val (.int (9 : Int32))] [(.int (8 : Int32)), (.int (9 : Int32))])
      refine wiconst OGc 18 X19 B d2_17 2 rfl rfl ?_
      refine wiadd OGc 19 X19 B d2_18 rfl ?_
      show OG p e _ s below _ T19 (mkF m 19 #[.val (.ref a1), .val (.ref a2), .val (.int (1 : Int32)), .val (.int (4 : Int32)), .val (.int (4 : Int32)), .val (.int (9 : Int32))] [(.int (10 : Int32)), (.int (9 : Int32))])
      refine wicmpNo OGc 22 X19 B d2_19 (by decide) rfl ?_
      refine wiload OGc 24 X19 B d2_22 rfl rfl ?_
      refine waloadN OGc 25 X19 B d2_24 rfl rfl rfl ?_
      refine warlenA OGc 26 X19 B hZ e19 F21 (6 : Int32) rfl d2_25 rfl ?_
      refine wicmpYes OGc 55 X19 B d2_26 (by decide) rfl ?_
      refine wiload OGc 57 X19 B d2_55 rfl rfl ?_
      refine wiloadN OGc 58 X19 B d2_57 rfl rfl ?_
      refine wicmpNo OGc 61 X19 B d2_58 (by decide) rfl ?_
      refine own_ret0 X19 hx hret hlk (hb hby d2_61) (by decide) (by decide) ?_
      rw [e19]
      exact ⟨rfl, N19, K20, Or.inl ⟨c6, c12, F21⟩⟩
    · refine wifYes OGc 49 X0 B d2_42 (own_if0 (flt (fun q => c12 ((lw_lt _ _).mp q))).2.1) rfl ?_
      refine wiinc OGc 52 X0 B d2_49 #[.val (.ref a1), .val (.ref a2), .val (.int (1 : Int32)), .val (.int (1 : Int32)), .val (.int (3 : Int32)), .val (.int ((4 : Int32) + (1 : Int32)))] rfl rfl rfl ?_
      show OG p e _ s below _ s₁ (mkF m 52 #[.val (.ref a1), .val (.ref a2), .val (.int (1 : Int32)), .val (.int (1 : Int32)), .val (.int (3 : Int32)), .val (.int (5 : Int32))] [])
      refine wgoto OGc 12 X0 B d2_52 rfl ?_
      refine wiload OGc 14 X0 B d2_12 rfl rfl ?_
      refine wiconst OGc 15 X0 B d2_14 2 rfl rfl ?_
      refine wiloadN OGc 16 X0 B d2_15 rfl rfl ?_
      refine own_st (fun t k => XS.imul X0.here hx rfl (hb hby d2_16) rfl k) ?_
      show OG p e _ s below _ s₁ (mkF m 17 #[.val (.ref a1), .val (.ref a2), .val (.int (1 : Int32)), .val (.int (1 : Int32)), .val (.int (3 : Int32)), .val (.int (5 : Int32))] [(.int (2 : Int32)), (.int (5 : Int32))])
      refine wiconst OGc 18 X0 B d2_17 2 rfl rfl ?_
      refine wiadd OGc 19 X0 B d2_18 rfl ?_
      show OG p e _ s below _ s₁ (mkF m 19 #[.val (.ref a1), .val (.ref a2), .val (.int (1 : Int32)), .val (.int (1 : Int32)), .val (.int (3 : Int32)), .val (.int (5 : Int32))] [(.int (4 : Int32)), (.int (5 : Int32))])
      refine wicmpYes OGc 55 X0 B d2_19 (by decide) rfl ?_
      refine wiload OGc 57 X0 B d2_55 rfl rfl ?_
      refine wiloadN OGc 58 X0 B d2_57 rfl rfl ?_
      refine wicmpYes OGc 62 X0 B d2_58 (by decide) rfl ?_
      refine waloadN OGc 63 X0 B d2_62 rfl rfl rfl ?_
      refine wiloadN OGc 64 X0 B d2_63 rfl rfl ?_
      refine wiaload OGc 65 X0 B hZ e0 R0 (v := (.int (0 : Int32))) 1 (by decide) (by decide) rfl d2_64 rfl ?_
      refine wistore OGc 67 X0 B d2_65 #[.val (.ref a1), .val (.ref a2), .val (.int (1 : Int32)), .val (.int (1 : Int32)), .val (.int (3 : Int32)), .val (.int (0 : Int32))] rfl rfl ?_
      refine waloadN OGc 68 X0 B d2_67 rfl rfl rfl ?_
      refine wiloadN OGc 69 X0 B d2_68 rfl rfl ?_
      refine waloadN OGc 70 X0 B d2_69 rfl rfl rfl ?_
      refine wiload OGc 72 X0 B d2_70 rfl rfl ?_
      refine wiaload OGc 73 X0 B hZ e0 R0 (v := (.int (1 : Int32))) 3 (by decide) (by decide) rfl d2_72 rfl ?_
      refine wstI OGc 74 X0 B hZ e0 R0 1 (by decide) (by decide) (by decide : 1 < 6) d2_73 rfl fun T26 h26 X26 e26 W26 => ?_
      have N26 := Fr.snoc X26 N0 g_a1
      have K27 := (Keep.refl h0 [a1]).wr W26 (Or.inl (List.mem_of_getElem? (i := 0) rfl))
      have F28 : OA Z h26 a1 .int [(.int (2 : Int32)), (.int (1 : Int32)), (.int (5 : Int32)), (.int (1 : Int32)), (.int (3 : Int32)), (.int (4 : Int32))] := (R0.set W26 (i := 1) (by decide))
      have F29 := R1.other W26 ne_a2_a1
      refine waloadN OGc 75 X26 B d2_74 rfl rfl rfl ?_
      refine wiload OGc 77 X26 B d2_75 rfl rfl ?_
      refine wiload OGc 79 X26 B d2_77 rfl rfl ?_
      refine wstI OGc 80 X26 B hZ e26 F28 3 (by decide) (by decide) (by decide : 3 < 6) d2_79 rfl fun T30 h30 X30 e30 W30 => ?_
      have N30 := Fr.snoc X30 N26 g_a1
      have K31 := K27.wr W30 (Or.inl (List.mem_of_getElem? (i := 0) rfl))
      have F32 : OA Z h30 a1 .int [(.int (2 : Int32)), (.int (1 : Int32)), (.int (5 : Int32)), (.int (0 : Int32)), (.int (3 : Int32)), (.int (4 : Int32))] := (F28.set W30 (i := 3) (by decide))
      have F33 := F29.other W30 ne_a2_a1
      refine wiload OGc 82 X30 B d2_80 rfl rfl ?_
      refine wistoreN OGc 83 X30 B d2_82 #[.val (.ref a1), .val (.ref a2), .val (.int (1 : Int32)), .val (.int (3 : Int32)), .val (.int (3 : Int32)), .val (.int (0 : Int32))] rfl rfl ?_
      refine wgoto OGc 2 X30 B d2_83 rfl ?_
      refine wiloadN OGc 3 X30 B d2_2 rfl rfl ?_
      refine wistore OGc 5 X30 B d2_3 #[.val (.ref a1), .val (.ref a2), .val (.int (1 : Int32)), .val (.int (3 : Int32)), .val (.int (3 : Int32)), .val (.int (0 : Int32))] rfl rfl ?_
      refine wiconst OGc 6 X30 B d2_5 2 rfl rfl ?_
      refine wiloadN OGc 7 X30 B d2_6 rfl rfl ?_
      refine own_st (fun t k => XS.imul X30.here hx rfl (hb hby d2_7) rfl k) ?_
      show OG p e _ s below _ T30 (mkF m 8 #[.val (.ref a1), .val (.ref a2), .val (.int (1 : Int32)), .val (.int (3 : Int32)), .val (.int (3 : Int32)), .val (.int (0 : Int32))] [(.int (6 : Int32))])
      refine wiconst OGc 9 X30 B d2_8 1 rfl rfl ?_
      refine wiadd OGc 10 X30 B d2_9 rfl ?_
      show OG p e _ s below _ T30 (mkF m 10 #[.val (.ref a1), .val (.ref a2), .val (.int (1 : Int32)), .val (.int (3 : Int32)), .val (.int (3 : Int32)), .val (.int (0 : Int32))] [(.int (7 : Int32))])
      refine wistore OGc 12 X30 B d2_10 #[.val (.ref a1), .val (.ref a2), .val (.int (1 : Int32)), .val (.int (3 : Int32)), .val (.int (3 : Int32)), .val (.int (7 : Int32))] rfl rfl ?_
      refine wiload OGc 14 X30 B d2_12 rfl rfl ?_
      refine wiconst OGc 15 X30 B d2_14 2 rfl rfl ?_
      refine wiloadN OGc 16 X30 B d2_15 rfl rfl ?_
      refine own_st (fun t k => XS.imul X30.here hx rfl (hb hby d2_16) rfl k) ?_
      show OG p e _ s below _ T30 (mkF m 17 #[.val (.ref a1), .val (.ref a2), .val (.int (1 : Int32)), .val (.int (3 : Int32)), .val (.int (3 : Int32)), .val (.int (7 : Int32))] [(.int (6 : Int32)), (.int (7 : Int32))])
      refine wiconst OGc 18 X30 B d2_17 2 rfl rfl ?_
      refine wiadd OGc 19 X30 B d2_18 rfl ?_
      show OG p e _ s below _ T30 (mkF m 19 #[.val (.ref a1), .val (.ref a2), .val (.int (1 : Int32)), .val (.int (3 : Int32)), .val (.int (3 : Int32)), .val (.int (7 : Int32))] [(.int (8 : Int32)), (.int (7 : Int32))])
      refine wicmpNo OGc 22 X30 B d2_19 (by decide) rfl ?_
      refine wiload OGc 24 X30 B d2_22 rfl rfl ?_
      refine waloadN OGc 25 X30 B d2_24 rfl rfl rfl ?_
      refine warlenA OGc 26 X30 B hZ e30 F32 (6 : Int32) rfl d2_25 rfl ?_
      refine wicmpYes OGc 55 X30 B d2_26 (by decide) rfl ?_
      refine wiload OGc 57 X30 B d2_55 rfl rfl ?_
      refine wiloadN OGc 58 X30 B d2_57 rfl rfl ?_
      refine wicmpNo OGc 61 X30 B d2_58 (by decide) rfl ?_
      refine own_ret0 X30 hx hret hlk (hb hby d2_61) (by decide) (by decide) ?_
      rw [e30]
      exact ⟨rfl, N30, K31, Or.inr (Or.inl ⟨c6, c12, F32⟩)⟩
  · refine wifYes OGc 49 X0 B d2_42 (own_if0 (flt (fun q => c6 ((lw_lt _ _).mp q))).2.1) rfl ?_
    refine wiinc OGc 52 X0 B d2_49 #[.val (.ref a1), .val (.ref a2), .val (.int (1 : Int32)), .val (.int (1 : Int32)), .val (.int (1 : Int32)), .val (.int ((3 : Int32) + (1 : Int32)))] rfl rfl rfl ?_
    show OG p e _ s below _ s₁ (mkF m 52 #[.val (.ref a1), .val (.ref a2), .val (.int (1 : Int32)), .val (.int (1 : Int32)), .val (.int (1 : Int32)), .val (.int (4 : Int32))] [])
    refine wgoto OGc 12 X0 B d2_52 rfl ?_
    refine wiload OGc 14 X0 B d2_12 rfl rfl ?_
    refine wiconst OGc 15 X0 B d2_14 2 rfl rfl ?_
    refine wiloadN OGc 16 X0 B d2_15 rfl rfl ?_
    refine own_st (fun t k => XS.imul X0.here hx rfl (hb hby d2_16) rfl k) ?_
    show OG p e _ s below _ s₁ (mkF m 17 #[.val (.ref a1), .val (.ref a2), .val (.int (1 : Int32)), .val (.int (1 : Int32)), .val (.int (1 : Int32)), .val (.int (4 : Int32))] [(.int (2 : Int32)), (.int (4 : Int32))])
    refine wiconst OGc 18 X0 B d2_17 2 rfl rfl ?_
    refine wiadd OGc 19 X0 B d2_18 rfl ?_
    show OG p e _ s below _ s₁ (mkF m 19 #[.val (.ref a1), .val (.ref a2), .val (.int (1 : Int32)), .val (.int (1 : Int32)), .val (.int (1 : Int32)), .val (.int (4 : Int32))] [(.int (4 : Int32)), (.int (4 : Int32))])
    refine wicmpNo OGc 22 X0 B d2_19 (by decide) rfl ?_
    refine wiload OGc 24 X0 B d2_22 rfl rfl ?_
    refine waloadN OGc 25 X0 B d2_24 rfl rfl rfl ?_
    refine warlenA OGc 26 X0 B hZ e0 R0 (6 : Int32) rfl d2_25 rfl ?_
    refine wicmpNo OGc 29 X0 B d2_26 (by decide) rfl ?_
    refine waloadN OGc 30 X0 B d2_29 rfl rfl rfl ?_
    refine waloadN OGc 31 X0 B d2_30 rfl rfl rfl ?_
    refine wiload OGc 33 X0 B d2_31 rfl rfl ?_
    refine wiaload OGc 34 X0 B hZ e0 R0 (v := (.int (3 : Int32))) 4 (by decide) (by decide) rfl d2_33 rfl ?_
    refine wlaload OGc 35 X0 B hZ e0 R1 (v := (.long w3)) 3 (by decide) (by decide) rfl d2_34 rfl ?_
    refine waloadN OGc 36 X0 B d2_35 rfl rfl rfl ?_
    refine waloadN OGc 37 X0 B d2_36 rfl rfl rfl ?_
    refine wiload OGc 39 X0 B d2_37 rfl rfl ?_
    refine wiaload OGc 40 X0 B hZ e0 R0 (v := (.int (0 : Int32))) 1 (by decide) (by decide) rfl d2_39 rfl ?_
    refine wlaload OGc 41 X0 B hZ e0 R1 (v := (.long w0)) 0 (by decide) (by decide) rfl d2_40 rfl ?_
    refine wlcmp OGc 42 X0 B d2_41 rfl ?_
    by_cases c40 : w3 < w0
    · refine wifNo OGc 45 X0 B d2_42 (own_if0 (tlt ((lw_lt _ _).mpr c40)).2.1) rfl ?_
      refine wiload OGc 47 X0 B d2_45 rfl rfl ?_
      refine wistore OGc 49 X0 B d2_47 #[.val (.ref a1), .val (.ref a2), .val (.int (1 : Int32)), .val (.int (1 : Int32)), .val (.int (4 : Int32)), .val (.int (4 : Int32))] rfl rfl ?_
      refine wiinc OGc 52 X0 B d2_49 #[.val (.ref a1), .val (.ref a2), .val (.int (1 : Int32)), .val (.int (1 : Int32)), .val (.int (4 : Int32)), .val (.int ((4 : Int32) + (1 : Int32)))] rfl rfl rfl ?_
      show OG p e _ s below _ s₁ (mkF m 52 #[.val (.ref a1), .val (.ref a2), .val (.int (1 : Int32)), .val (.int (1 : Int32)), .val (.int (4 : Int32)), .val (.int (5 : Int32))] [])
      refine wgoto OGc 12 X0 B d2_52 rfl ?_
      refine wiload OGc 14 X0 B d2_12 rfl rfl ?_
      refine wiconst OGc 15 X0 B d2_14 2 rfl rfl ?_
      refine wiloadN OGc 16 X0 B d2_15 rfl rfl ?_
      refine own_st (fun t k => XS.imul X0.here hx rfl (hb hby d2_16) rfl k) ?_
      show OG p e _ s below _ s₁ (mkF m 17 #[.val (.ref a1), .val (.ref a2), .val (.int (1 : Int32)), .val (.int (1 : Int32)), .val (.int (4 : Int32)), .val (.int (5 : Int32))] [(.int (2 : Int32)), (.int (5 : Int32))])
      refine wiconst OGc 18 X0 B d2_17 2 rfl rfl ?_
      refine wiadd OGc 19 X0 B d2_18 rfl ?_
      show OG p e _ s below _ s₁ (mkF m 19 #[.val (.ref a1), .val (.ref a2), .val (.int (1 : Int32)), .val (.int (1 : Int32)), .val (.int (4 : Int32)), .val (.int (5 : Int32))] [(.int (4 : Int32)), (.int (5 : Int32))])
      refine wicmpYes OGc 55 X0 B d2_19 (by decide) rfl ?_
      refine wiload OGc 57 X0 B d2_55 rfl rfl ?_
      refine wiloadN OGc 58 X0 B d2_57 rfl rfl ?_
      refine wicmpYes OGc 62 X0 B d2_58 (by decide) rfl ?_
      refine waloadN OGc 63 X0 B d2_62 rfl rfl rfl ?_
      refine wiloadN OGc 64 X0 B d2_63 rfl rfl ?_
      refine wiaload OGc 65 X0 B hZ e0 R0 (v := (.int (0 : Int32))) 1 (by decide) (by decide) rfl d2_64 rfl ?_
      refine wistore OGc 67 X0 B d2_65 #[.val (.ref a1), .val (.ref a2), .val (.int (1 : Int32)), .val (.int (1 : Int32)), .val (.int (4 : Int32)), .val (.int (0 : Int32))] rfl rfl ?_
      refine waloadN OGc 68 X0 B d2_67 rfl rfl rfl ?_
      refine wiloadN OGc 69 X0 B d2_68 rfl rfl ?_
      refine waloadN OGc 70 X0 B d2_69 rfl rfl rfl ?_
      refine wiload OGc 72 X0 B d2_70 rfl rfl ?_
      refine wiaload OGc 73 X0 B hZ e0 R0 (v := (.int (3 : Int32))) 4 (by decide) (by decide) rfl d2_72 rfl ?_
      refine wstI OGc 74 X0 B hZ e0 R0 1 (by decide) (by decide) (by decide : 1 < 6) d2_73 rfl fun T43 h43 X43 e43 W43 => ?_
      have N43 := Fr.snoc X43 N0 g_a1
      have K44 := (Keep.refl h0 [a1]).wr W43 (Or.inl (List.mem_of_getElem? (i := 0) rfl))
      have F45 : OA Z h43 a1 .int [(.int (2 : Int32)), (.int (3 : Int32)), (.int (5 : Int32)), (.int (1 : Int32)), (.int (3 : Int32)), (.int (4 : Int32))] := (R0.set W43 (i := 1) (by decide))
      have F46 := R1.other W43 ne_a2_a1
      refine waloadN OGc 75 X43 B d2_74 rfl rfl rfl ?_
      refine wiload OGc 77 X43 B d2_75 rfl rfl ?_
      refine wiload OGc 79 X43 B d2_77 rfl rfl ?_
      refine wstI OGc 80 X43 B hZ e43 F45 4 (by decide) (by decide) (by decide : 4 < 6) d2_79 rfl fun T47 h47 X47 e47 W47 => ?_
      have N47 := Fr.snoc X47 N43 g_a1
      have K48 := K44.wr W47 (Or.inl (List.mem_of_getElem? (i := 0) rfl))
      have F49 : OA Z h47 a1 .int [(.int (2 : Int32)), (.int (3 : Int32)), (.int (5 : Int32)), (.int (1 : Int32)), (.int (0 : Int32)), (.int (4 : Int32))] := (F45.set W47 (i := 4) (by decide))
      have F50 := F46.other W47 ne_a2_a1
      refine wiload OGc 82 X47 B d2_80 rfl rfl ?_
      refine wistoreN OGc 83 X47 B d2_82 #[.val (.ref a1), .val (.ref a2), .val (.int (1 : Int32)), .val (.int (4 : Int32)), .val (.int (4 : Int32)), .val (.int (0 : Int32))] rfl rfl ?_
      refine wgoto OGc 2 X47 B d2_83 rfl ?_
      refine wiloadN OGc 3 X47 B d2_2 rfl rfl ?_
      refine wistore OGc 5 X47 B d2_3 #[.val (.ref a1), .val (.ref a2), .val (.int (1 : Int32)), .val (.int (4 : Int32)), .val (.int (4 : Int32)), .val (.int (0 : Int32))] rfl rfl ?_
      refine wiconst OGc 6 X47 B d2_5 2 rfl rfl ?_
      refine wiloadN OGc 7 X47 B d2_6 rfl rfl ?_
      refine own_st (fun t k => XS.imul X47.here hx rfl (hb hby d2_7) rfl k) ?_
      show OG p e _ s below _ T47 (mkF m 8 #[.val (.ref a1), .val (.ref a2), .val (.int (1 : Int32)), .val (.int (4 : Int32)), .val (.int (4 : Int32)), .val (.int (0 : Int32))] [(.int (8 : Int32))])
      refine wiconst OGc 9 X47 B d2_8 1 rfl rfl ?_
      refine wiadd OGc 10 X47 B d2_9 rfl ?_
      show OG p e _ s below _ T47 (mkF m 10 #[.val (.ref a1), .val (.ref a2), .val (.int (1 : Int32)), .val (.int (4 : Int32)), .val (.int (4 : Int32)), .val (.int (0 : Int32))] [(.int (9 : Int32))])
      refine wistore OGc 12 X47 B d2_10 #[.val (.ref a1), .val (.ref a2), .val (.int (1 : Int32)), .val (.int (4 : Int32)), .val (.int (4 : Int32)), .val (.int (9 : Int32))] rfl rfl ?_
      refine wiload OGc 14 X47 B d2_12 rfl rfl ?_
      refine wiconst OGc 15 X47 B d2_14 2 rfl rfl ?_
      refine wiloadN OGc 16 X47 B d2_15 rfl rfl ?_
      refine own_st (fun t k => XS.imul X47.here hx rfl (hb hby d2_16) rfl k) ?_
      show OG p e _ s below _ T47 (mkF m 17 #[.val (.ref a1), .val (.ref a2), .val (.int (1 : Int32)), .val (.int (4 : Int32)), .val (.int (4 : Int32)), .val (.int (9 : Int32))] [(.int (8 : Int32)), (.int (9 : Int32))])
      refine wiconst OGc 18 X47 B d2_17 2 rfl rfl ?_
      refine wiadd OGc 19 X47 B d2_18 rfl ?_
      show OG p e _ s below _ T47 (mkF m 19 #[.val (.ref a1), .val (.ref a2), .val (.int (1 : Int32)), .val (.int (4 : Int32)), .val (.int (4 : Int32)), .val (.int (9 : Int32))] [(.int (10 : Int32)), (.int (9 : Int32))])
      refine wicmpNo OGc 22 X47 B d2_19 (by decide) rfl ?_
      refine wiload OGc 24 X47 B d2_22 rfl rfl ?_
      refine waloadN OGc 25 X47 B d2_24 rfl rfl rfl ?_
      refine warlenA OGc 26 X47 B hZ e47 F49 (6 : Int32) rfl d2_25 rfl ?_
      refine wicmpYes OGc 55 X47 B d2_26 (by decide) rfl ?_
      refine wiload OGc 57 X47 B d2_55 rfl rfl ?_
      refine wiloadN OGc 58 X47 B d2_57 rfl rfl ?_
      refine wicmpNo OGc 61 X47 B d2_58 (by decide) rfl ?_
      refine own_ret0 X47 hx hret hlk (hb hby d2_61) (by decide) (by decide) ?_
      rw [e47]
      exact ⟨rfl, N47, K48, Or.inr (Or.inr (Or.inl ⟨c6, c40, F49⟩))⟩
    · refine wifYes OGc 49 X0 B d2_42 (own_if0 (flt (fun q => c40 ((lw_lt _ _).mp q))).2.1) rfl ?_
      refine wiinc OGc 52 X0 B d2_49 #[.val (.ref a1), .val (.ref a2), .val (.int (1 : Int32)), .val (.int (1 : Int32)), .val (.int (1 : Int32)), .val (.int ((4 : Int32) + (1 : Int32)))] rfl rfl rfl ?_
      show OG p e _ s below _ s₁ (mkF m 52 #[.val (.ref a1), .val (.ref a2), .val (.int (1 : Int32)), .val (.int (1 : Int32)), .val (.int (1 : Int32)), .val (.int (5 : Int32))] [])
      refine wgoto OGc 12 X0 B d2_52 rfl ?_
      refine wiload OGc 14 X0 B d2_12 rfl rfl ?_
      refine wiconst OGc 15 X0 B d2_14 2 rfl rfl ?_
      refine wiloadN OGc 16 X0 B d2_15 rfl rfl ?_
      refine own_st (fun t k => XS.imul X0.here hx rfl (hb hby d2_16) rfl k) ?_
      show OG p e _ s below _ s₁ (mkF m 17 #[.val (.ref a1), .val (.ref a2), .val (.int (1 : Int32)), .val (.int (1 : Int32)), .val (.int (1 : Int32)), .val (.int (5 : Int32))] [(.int (2 : Int32)), (.int (5 : Int32))])
      refine wiconst OGc 18 X0 B d2_17 2 rfl rfl ?_
      refine wiadd OGc 19 X0 B d2_18 rfl ?_
      show OG p e _ s below _ s₁ (mkF m 19 #[.val (.ref a1), .val (.ref a2), .val (.int (1 : Int32)), .val (.int (1 : Int32)), .val (.int (1 : Int32)), .val (.int (5 : Int32))] [(.int (4 : Int32)), (.int (5 : Int32))])
      refine wicmpYes OGc 55 X0 B d2_19 (by decide) rfl ?_
      refine wiload OGc 57 X0 B d2_55 rfl rfl ?_
      refine wiloadN OGc 58 X0 B d2_57 rfl rfl ?_
      refine wicmpNo OGc 61 X0 B d2_58 (by decide) rfl ?_
      refine own_ret0 X0 hx hret hlk (hb hby d2_61) (by decide) (by decide) ?_
      rw [e0]
      exact ⟨rfl, N0, (Keep.refl h0 [a1]), Or.inr (Or.inr (Or.inr (⟨c6, c40, R0⟩)))⟩
theorem ef_2_2 (m : MethodId) (a1 : Addr) (a2 : Addr) : entryFrame m #[(.ref a1), (.ref a2), (.int (2 : Int32))] 6 = (mkF m 0 #[.val (.ref a1), .val (.ref a2), .val (.int (2 : Int32)), .unset, .unset, .unset] []) := by first | (simp [entryFrame, mkF, argsToLocals, Value.category]; done) | rfl
abbrev Q2_2 (Z : State) (a1 : Addr) (a2 : Addr) (w0 : Int64) (w1 : Int64) (w2 : Int64) (w3 : Int64) (w4 : Int64) (w5 : Int64) (h0 : Heap) (n0 : Nat) : Option Value → Heap → List Loc → Prop := (fun v h L => v = none ∧ Fr n0 L ∧ Keep h0 h [a1] ∧ (((w4 < w5) ∧ OA Z h a1 .int [(.int (2 : Int32)), (.int (0 : Int32)), (.int (4 : Int32)), (.int (1 : Int32)), (.int (3 : Int32)), (.int (5 : Int32))]) ∨ ((¬ (w4 < w5)) ∧ OA Z h a1 .int [(.int (2 : Int32)), (.int (0 : Int32)), (.int (5 : Int32)), (.int (1 : Int32)), (.int (3 : Int32)), (.int (4 : Int32))])))
set_option maxRecDepth 65536 in
set_option maxHeartbeats 40000000 in
theorem rm2_2 (l : Launch) (Z : State) (a0 : Array Value) (hw : ∀ d ∈ tables_1, d.before a0 Z = true) (ws : List Jvm.Cond) (a1 : Addr) (a2 : Addr) (w0 : Int64) (w1 : Int64) (w2 : Int64) (w3 : Int64) (w4 : Int64) (w5 : Int64) (h0 : Heap) (n0 : Nat) (R0 : OA Z h0 a1 .int [(.int (2 : Int32)), (.int (0 : Int32)), (.int (5 : Int32)), (.int (1 : Int32)), (.int (3 : Int32)), (.int (4 : Int32))]) (R1 : OA Z h0 a2 .long [(.long w0), (.long w1), (.long w2), (.long w3), (.long w4), (.long w5)]) (g_a1 : n0 ≤ a1) (ne_a2_a1 : a2 ≠ a1) :
    OMet l Z (⟨"com/example/fragmark/fragmark/PhraseMatcher", "siftDown", "([I[JI)V"⟩ : MethodName) prog_32_method_19_code 6 none ws ({ frames := 0, cells := 0, slots := 0, locals := 0 } : Room) #[(.ref a1), (.ref a2), (.int (2 : Int32))] h0 (Q2_2 Z a1 a2 w0 w1 w2 w3 w4 w5 h0 n0) := by
  refine own_enter pn_2 ?_
  intro p e s m below meth c s₁ hx hby hml0 hown hret hlk hnm hZ X0 e0
  have hml : c.maxLocals = 6 := hml0
  have B : BX p c prog_32_method_19_code := ⟨hx, hby⟩
  have N0 := Fr.nil n0
  refine own_cast (ef_2_2 m a1 a2) ?_
  show OG p e ({ frames := 0, cells := 0, slots := 0, locals := 0 } : Room) s below (fun v h L => v = none ∧ Fr n0 L ∧ Keep h0 h [a1] ∧ (((w4 < w5) ∧ OA Z h a1 .int [(.int (2 : Int32)), (.int (0 : Int32)), (.int (4 : Int32)), (.int (1 : Int32)), (.int (3 : Int32)), (.int (5 : Int32))]) ∨ ((¬ (w4 < w5)) ∧ OA Z h a1 .int [(.int (2 : Int32)), (.int (0 : Int32)), (.int (5 : Int32)), (.int (1 : Int32)), (.int (3 : Int32)), (.int (4 : Int32))]))) s₁ (mkF m 0 #[.val (.ref a1), .val (.ref a2), .val (.int (2 : Int32)), .unset, .unset, .unset] [])
  refine wiloadN OGc 1 X0 B d2_0 rfl rfl ?_
  refine wistoreN OGc 2 X0 B d2_1 #[.val (.ref a1), .val (.ref a2), .val (.int (2 : Int32)), .val (.int (2 : Int32)), .unset, .unset] rfl rfl ?_
  refine wiloadN OGc 3 X0 B d2_2 rfl rfl ?_
  refine wistore OGc 5 X0 B d2_3 #[.val (.ref a1), .val (.ref a2), .val (.int (2 : Int32)), .val (.int (2 : Int32)), .val (.int (2 : Int32)), .unset] rfl rfl ?_
  refine wiconst OGc 6 X0 B d2_5 2 rfl rfl ?_
  refine wiloadN OGc 7 X0 B d2_6 rfl rfl ?_
  refine own_st (fun t k => XS.imul X0.here hx rfl (hb hby d2_7) rfl k) ?_
  show OG p e _ s below _ s₁ (mkF m 8 #[.val (.ref a1), .val (.ref a2), .val (.int (2 : Int32)), .val (.int (2 : Int32)), .val (.int (2 : Int32)), .unset] [(.int (4 : Int32))])
  refine wiconst OGc 9 X0 B d2_8 1 rfl rfl ?_
  refine wiadd OGc 10 X0 B d2_9 rfl ?_
  show OG p e _ s below _ s₁ (mkF m 10 #[.val (.ref a1), .val (.ref a2), .val (.int (2 : Int32)), .val (.int (2 : Int32)), .val (.int (2 : Int32)), .unset] [(.int (5 : Int32))])
  refine wistore OGc 12 X0 B d2_10 #[.val (.ref a1), .val (.ref a2), .val (.int (2 : Int32)), .val (.int (2 : Int32)), .val (.int (2 : Int32)), .val (.int (5 : Int32))] rfl rfl ?_
  refine wiload OGc 14 X0 B d2_12 rfl rfl ?_
  refine wiconst OGc 15 X0 B d2_14 2 rfl rfl ?_
  refine wiloadN OGc 16 X0 B d2_15 rfl rfl ?_
  refine own_st (fun t k => XS.imul X0.here hx rfl (hb hby d2_16) rfl k) ?_
  show OG p e _ s below _ s₁ (mkF m 17 #[.val (.ref a1), .val (.ref a2), .val (.int (2 : Int32)), .val (.int (2 : Int32)), .val (.int (2 : Int32)), .val (.int (5 : Int32))] [(.int (4 : Int32)), (.int (5 : Int32))])
  refine wiconst OGc 18 X0 B d2_17 2 rfl rfl ?_
  refine wiadd OGc 19 X0 B d2_18 rfl ?_
  show OG p e _ s below _ s₁ (mkF m 19 #[.val (.ref a1), .val (.ref a2), .val (.int (2 : Int32)), .val (.int (2 : Int32)), .val (.int (2 : Int32)), .val (.int (5 : Int32))] [(.int (6 : Int32)), (.int (5 : Int32))])
  refine wicmpNo OGc 22 X0 B d2_19 (by decide) rfl ?_
  refine wiload OGc 24 X0 B d2_22 rfl rfl ?_
  refine waloadN OGc 25 X0 B d2_24 rfl rfl rfl ?_
  refine warlenA OGc 26 X0 B hZ e0 R0 (6 : Int32) rfl d2_25 rfl ?_
  refine wicmpNo OGc 29 X0 B d2_26 (by decide) rfl ?_
  refine waloadN OGc 30 X0 B d2_29 rfl rfl rfl ?_
  refine waloadN OGc 31 X0 B d2_30 rfl rfl rfl ?_
  refine wiload OGc 33 X0 B d2_31 rfl rfl ?_
  refine wiaload OGc 34 X0 B hZ e0 R0 (v := (.int (4 : Int32))) 5 (by decide) (by decide) rfl d2_33 rfl ?_
  refine wlaload OGc 35 X0 B hZ e0 R1 (v := (.long w4)) 4 (by decide) (by decide) rfl d2_34 rfl ?_
  refine waloadN OGc 36 X0 B d2_35 rfl rfl rfl ?_
  refine waloadN OGc 37 X0 B d2_36 rfl rfl rfl ?_
  refine wiload OGc 39 X0 B d2_37 rfl rfl ?_
  refine wiaload OGc 40 X0 B hZ e0 R0 (v := (.int (5 : Int32))) 2 (by decide) (by decide) rfl d2_39 rfl ?_
  refine wlaload OGc 41 X0 B hZ e0 R1 (v := (.long w5)) 5 (by decide) (by decide) rfl d2_40 rfl ?_
  refine wlcmp OGc 42 X0 B d2_41 rfl ?_
  by_cases c6 : w4 < w5
  · refine wifNo OGc 45 X0 B d2_42 (own_if0 (tlt ((lw_lt _ _).mpr c6)).2.1) rfl ?_
    refine wiload OGc 47 X0 B d2_45 rfl rfl ?_
    refine wistore OGc 49 X0 B d2_47 #[.val (.ref a1), .val (.ref a2), .val (.int (2 : Int32)), .val (.int (2 : Int32)), .val (.int (5 : Int32)), .val (.int (5 : Int32))] rfl rfl ?_
    refine wiinc OGc 52 X0 B d2_49 #[.val (.ref a1), .val (.ref a2), .val (.int (2 : Int32)), .val (.int (2 : Int32)), .val (.int (5 : Int32)), .val (.int ((5 : Int32) + (1 : Int32)))] rfl rfl rfl ?_
    show OG p e _ s below _ s₁ (mkF m 52 #[.val (.ref a1), .val (.ref a2), .val (.int (2 : Int32)), .val (.int (2 : Int32)), .val (.int (5 : Int32)), .val (.int (6 : Int32))] [])
    refine wgoto OGc 12 X0 B d2_52 rfl ?_
    refine wiload OGc 14 X0 B d2_12 rfl rfl ?_
    refine wiconst OGc 15 X0 B d2_14 2 rfl rfl ?_
    refine wiloadN OGc 16 X0 B d2_15 rfl rfl ?_
    refine own_st (fun t k => XS.imul X0.here hx rfl (hb hby d2_16) rfl k) ?_
    show OG p e _ s below _ s₁ (mkF m 17 #[.val (.ref a1), .val (.ref a2), .val (.int (2 : Int32)), .val (.int (2 : Int32)), .val (.int (5 : Int32)), .val (.int (6 : Int32))] [(.int (4 : Int32)), (.int (6 : Int32))])
    refine wiconst OGc 18 X0 B d2_17 2 rfl rfl ?_
    refine wiadd OGc 19 X0 B d2_18 rfl ?_
    show OG p e _ s below _ s₁ (mkF m 19 #[.val (.ref a1), .val (.ref a2), .val (.int (2 : Int32)), .val (.int (2 : Int32)), .val (.int (5 : Int32)), .val (.int (6 : Int32))] [(.int (6 : Int32)), (.int (6 : Int32))])
    refine wicmpNo OGc 22 X0 B d2_19 (by decide) rfl ?_
    refine wiload OGc 24 X0 B d2_22 rfl rfl ?_
    refine waloadN OGc 25 X0 B d2_24 rfl rfl rfl ?_
    refine warlenA OGc 26 X0 B hZ e0 R0 (6 : Int32) rfl d2_25 rfl ?_
    refine wicmpYes OGc 55 X0 B d2_26 (by decide) rfl ?_
    refine wiload OGc 57 X0 B d2_55 rfl rfl ?_
    refine wiloadN OGc 58 X0 B d2_57 rfl rfl ?_
    refine wicmpYes OGc 62 X0 B d2_58 (by decide) rfl ?_
    refine waloadN OGc 63 X0 B d2_62 rfl rfl rfl ?_
    refine wiloadN OGc 64 X0 B d2_63 rfl rfl ?_
    refine wiaload OGc 65 X0 B hZ e0 R0 (v := (.int (5 : Int32))) 2 (by decide) (by decide) rfl d2_64 rfl ?_
    refine wistore OGc 67 X0 B d2_65 #[.val (.ref a1), .val (.ref a2), .val (.int (2 : Int32)), .val (.int (2 : Int32)), .val (.int (5 : Int32)), .val (.int (5 : Int32))] rfl rfl ?_
    refine waloadN OGc 68 X0 B d2_67 rfl rfl rfl ?_
    refine wiloadN OGc 69 X0 B d2_68 rfl rfl ?_
    refine waloadN OGc 70 X0 B d2_69 rfl rfl rfl ?_
    refine wiload OGc 72 X0 B d2_70 rfl rfl ?_
    refine wiaload OGc 73 X0 B hZ e0 R0 (v := (.int (4 : Int32))) 5 (by decide) (by decide) rfl d2_72 rfl ?_
    refine wstI OGc 74 X0 B hZ e0 R0 2 (by decide) (by decide) (by decide : 2 < 6) d2_73 rfl fun T10 h10 X10 e10 W10 => ?_
    have N10 := Fr.snoc X10 N0 g_a1
    have K11 := (Keep.refl h0 [a1]).wr W10 (Or.inl (List.mem_of_getElem? (i := 0) rfl))
    have F12 : OA Z h10 a1 .int [(.int (2 : Int32)), (.int (0 : Int32)), (.int (4 : Int32)), (.int (1 : Int32)), (.int (3 : Int32)), (.int (4 : Int32))] := (R0.set W10 (i := 2) (by decide))
    have F13 := R1.other W10 ne_a2_a1
    refine waloadN OGc 75 X10 B d2_74 rfl rfl rfl ?_
    refine wiload OGc 77 X10 B d2_75 rfl rfl ?_
    refine wiload OGc 79 X10 B d2_77 rfl rfl ?_
    refine wstI OGc 80 X10 B hZ e10 F12 5 (by decide) (by decide) (by decide : 5 < 6) d2_79 rfl fun T14 h14 X14 e14 W14 => ?_
    have N14 := Fr.snoc X14 N10 g_a1
    have K15 := K11.wr W14 (Or.inl (List.mem_of_getElem? (i := 0) rfl))
    have F16 : OA Z h14 a1 .int [(.int (2 : Int32)), (.int (0 : Int32)), (.int (4 : Int32)), (.int (1 : Int32)), (.int (3 : Int32)), (.int (5 : Int32))] := (F12.set W14 (i := 5) (by decide))
    have F17 := F13.other W14 ne_a2_a1
    refine wiload OGc 82 X14 B d2_80 rfl rfl ?_
    refine wistoreN OGc 83 X14 B d2_82 #[.val (.ref a1), .val (.ref a2), .val (.int (2 : Int32)), .val (.int (5 : Int32)), .val (.int (5 : Int32)), .val (.int (5 : Int32))] rfl rfl ?_
    refine wgoto OGc 2 X14 B d2_83 rfl ?_
    refine wiloadN OGc 3 X14 B d2_2 rfl rfl ?_
    refine wistore OGc 5 X14 B d2_3 #[.val (.ref a1), .val (.ref a2), .val (.int (2 : Int32)), .val (.int (5 : Int32)), .val (.int (5 : Int32)), .val (.int (5 : Int32))] rfl rfl ?_
    refine wiconst OGc 6 X14 B d2_5 2 rfl rfl ?_
    refine wiloadN OGc 7 X14 B d2_6 rfl rfl ?_
    refine own_st (fun t k => XS.imul X14.here hx rfl (hb hby d2_7) rfl k) ?_
    show OG p e _ s below _ T14 (mkF m 8 #[.val (.ref a1), .val (.ref a2), .val (.int (2 : Int32)), .val (.int (5 : Int32)), .val (.int (5 : Int32)), .val (.int (5 : Int32))] [(.int (10 : Int32))])
    refine wiconst OGc 9 X14 B d2_8 1 rfl rfl ?_
    refine wiadd OGc 10 X14 B d2_9 rfl ?_
    show OG p e _ s below _ T14 (mkF m 10 #[.val (.ref a1), .val (.ref a2), .val (.int (2 : Int32)), .val (.int (5 : Int32)), .val (.int (5 : Int32)), .val (.int (5 : Int32))] [(.int (11 : Int32))])
    refine wistore OGc 12 X14 B d2_10 #[.val (.ref a1), .val (.ref a2), .val (.int (2 : Int32)), .val (.int (5 : Int32)), .val (.int (5 : Int32)), .val (.int (11 : Int32))] rfl rfl ?_
    refine wiload OGc 14 X14 B d2_12 rfl rfl ?_
    refine wiconst OGc 15 X14 B d2_14 2 rfl rfl ?_
    refine wiloadN OGc 16 X14 B d2_15 rfl rfl ?_
    refine own_st (fun t k => XS.imul X14.here hx rfl (hb hby d2_16) rfl k) ?_
    show OG p e _ s below _ T14 (mkF m 17 #[.val (.ref a1), .val (.ref a2), .val (.int (2 : Int32)), .val (.int (5 : Int32)), .val (.int (5 : Int32)), .val (.int (11 : Int32))] [(.int (10 : Int32)), (.int (11 : Int32))])
    refine wiconst OGc 18 X14 B d2_17 2 rfl rfl ?_
    refine wiadd OGc 19 X14 B d2_18 rfl ?_
    show OG p e _ s below _ T14 (mkF m 19 #[.val (.ref a1), .val (.ref a2), .val (.int (2 : Int32)), .val (.int (5 : Int32)), .val (.int (5 : Int32)), .val (.int (11 : Int32))] [(.int (12 : Int32)), (.int (11 : Int32))])
    refine wicmpNo OGc 22 X14 B d2_19 (by decide) rfl ?_
    refine wiload OGc 24 X14 B d2_22 rfl rfl ?_
    refine waloadN OGc 25 X14 B d2_24 rfl rfl rfl ?_
    refine warlenA OGc 26 X14 B hZ e14 F16 (6 : Int32) rfl d2_25 rfl ?_
    refine wicmpYes OGc 55 X14 B d2_26 (by decide) rfl ?_
    refine wiload OGc 57 X14 B d2_55 rfl rfl ?_
    refine wiloadN OGc 58 X14 B d2_57 rfl rfl ?_
    refine wicmpNo OGc 61 X14 B d2_58 (by decide) rfl ?_
    refine own_ret0 X14 hx hret hlk (hb hby d2_61) (by decide) (by decide) ?_
    rw [e14]
    exact ⟨rfl, N14, K15, Or.inl ⟨c6, F16⟩⟩
  · refine wifYes OGc 49 X0 B d2_42 (own_if0 (flt (fun q => c6 ((lw_lt _ _).mp q))).2.1) rfl ?_
    refine wiinc OGc 52 X0 B d2_49 #[.val (.ref a1), .val (.ref a2), .val (.int (2 : Int32)), .val (.int (2 : Int32)), .val (.int (2 : Int32)), .val (.int ((5 : Int32) + (1 : Int32)))] rfl rfl rfl ?_
    show OG p e _ s below _ s₁ (mkF m 52 #[.val (.ref a1), .val (.ref a2), .val (.int (2 : Int32)), .val (.int (2 : Int32)), .val (.int (2 : Int32)), .val (.int (6 : Int32))] [])
    refine wgoto OGc 12 X0 B d2_52 rfl ?_
    refine wiload OGc 14 X0 B d2_12 rfl rfl ?_
    refine wiconst OGc 15 X0 B d2_14 2 rfl rfl ?_
    refine wiloadN OGc 16 X0 B d2_15 rfl rfl ?_
    refine own_st (fun t k => XS.imul X0.here hx rfl (hb hby d2_16) rfl k) ?_
    show OG p e _ s below _ s₁ (mkF m 17 #[.val (.ref a1), .val (.ref a2), .val (.int (2 : Int32)), .val (.int (2 : Int32)), .val (.int (2 : Int32)), .val (.int (6 : Int32))] [(.int (4 : Int32)), (.int (6 : Int32))])
    refine wiconst OGc 18 X0 B d2_17 2 rfl rfl ?_
    refine wiadd OGc 19 X0 B d2_18 rfl ?_
    show OG p e _ s below _ s₁ (mkF m 19 #[.val (.ref a1), .val (.ref a2), .val (.int (2 : Int32)), .val (.int (2 : Int32)), .val (.int (2 : Int32)), .val (.int (6 : Int32))] [(.int (6 : Int32)), (.int (6 : Int32))])
    refine wicmpNo OGc 22 X0 B d2_19 (by decide) rfl ?_
    refine wiload OGc 24 X0 B d2_22 rfl rfl ?_
    refine waloadN OGc 25 X0 B d2_24 rfl rfl rfl ?_
    refine warlenA OGc 26 X0 B hZ e0 R0 (6 : Int32) rfl d2_25 rfl ?_
    refine wicmpYes OGc 55 X0 B d2_26 (by decide) rfl ?_
    refine wiload OGc 57 X0 B d2_55 rfl rfl ?_
    refine wiloadN OGc 58 X0 B d2_57 rfl rfl ?_
    refine wicmpNo OGc 61 X0 B d2_58 (by decide) rfl ?_
    refine own_ret0 X0 hx hret hlk (hb hby d2_61) (by decide) (by decide) ?_
    rw [e0]
    exact ⟨rfl, N0, (Keep.refl h0 [a1]), Or.inr (⟨c6, R0⟩)⟩
theorem ef_2_3 (m : MethodId) (a1 : Addr) (a2 : Addr) : entryFrame m #[(.ref a1), (.ref a2), (.int (3 : Int32))] 6 = (mkF m 0 #[.val (.ref a1), .val (.ref a2), .val (.int (3 : Int32)), .unset, .unset, .unset] []) := by first | (simp [entryFrame, mkF, argsToLocals, Value.category]; done) | rfl
abbrev Q2_3 (Z : State) (a1 : Addr) (a2 : Addr) (w0 : Int64) (w1 : Int64) (w2 : Int64) (w3 : Int64) (w4 : Int64) (w5 : Int64) (h0 : Heap) (n0 : Nat) : Option Value → Heap → List Loc → Prop := (fun v h L => v = none ∧ Fr n0 L ∧ Keep h0 h [a1] ∧ ((OA Z h a1 .int [(.int (2 : Int32)), (.int (0 : Int32)), (.int (5 : Int32)), (.int (1 : Int32)), (.int (3 : Int32)), (.int (4 : Int32))])))
set_option maxRecDepth 65536 in
set_option maxHeartbeats 40000000 in
theorem rm2_3 (l : Launch) (Z : State) (a0 : Array Value) (hw : ∀ d ∈ tables_1, d.before a0 Z = true) (ws : List Jvm.Cond) (a1 : Addr) (a2 : Addr) (w0 : Int64) (w1 : Int64) (w2 : Int64) (w3 : Int64) (w4 : Int64) (w5 : Int64) (h0 : Heap) (n0 : Nat) (R0 : OA Z h0 a1 .int [(.int (2 : Int32)), (.int (0 : Int32)), (.int (5 : Int32)), (.int (1 : Int32)), (.int (3 : Int32)), (.int (4 : Int32))]) (R1 : OA Z h0 a2 .long [(.long w0), (.long w1), (.long w2), (.long w3), (.long w4), (.long w5)]) (g_a1 : n0 ≤ a1) (ne_a2_a1 : a2 ≠ a1) :
    OMet l Z (⟨"com/example/fragmark/fragmark/PhraseMatcher", "siftDown", "([I[JI)V"⟩ : MethodName) prog_32_method_19_code 6 none ws ({ frames := 0, cells := 0, slots := 0, locals := 0 } : Room) #[(.ref a1), (.ref a2), (.int (3 : Int32))] h0 (Q2_3 Z a1 a2 w0 w1 w2 w3 w4 w5 h0 n0) := by
  refine own_enter pn_2 ?_
  intro p e s m below meth c s₁ hx hby hml0 hown hret hlk hnm hZ X0 e0
  have hml : c.maxLocals = 6 := hml0
  have B : BX p c prog_32_method_19_code := ⟨hx, hby⟩
  have N0 := Fr.nil n0
  refine own_cast (ef_2_3 m a1 a2) ?_
  show OG p e ({ frames := 0, cells := 0, slots := 0, locals := 0 } : Room) s below (fun v h L => v = none ∧ Fr n0 L ∧ Keep h0 h [a1] ∧ ((OA Z h a1 .int [(.int (2 : Int32)), (.int (0 : Int32)), (.int (5 : Int32)), (.int (1 : Int32)), (.int (3 : Int32)), (.int (4 : Int32))]))) s₁ (mkF m 0 #[.val (.ref a1), .val (.ref a2), .val (.int (3 : Int32)), .unset, .unset, .unset] [])
  refine wiloadN OGc 1 X0 B d2_0 rfl rfl ?_
  refine wistoreN OGc 2 X0 B d2_1 #[.val (.ref a1), .val (.ref a2), .val (.int (3 : Int32)), .val (.int (3 : Int32)), .unset, .unset] rfl rfl ?_
  refine wiloadN OGc 3 X0 B d2_2 rfl rfl ?_
  refine wistore OGc 5 X0 B d2_3 #[.val (.ref a1), .val (.ref a2), .val (.int (3 : Int32)), .val (.int (3 : Int32)), .val (.int (3 : Int32)), .unset] rfl rfl ?_
  refine wiconst OGc 6 X0 B d2_5 2 rfl rfl ?_
  refine wiloadN OGc 7 X0 B d2_6 rfl rfl ?_
  refine own_st (fun t k => XS.imul X0.here hx rfl (hb hby d2_7) rfl k) ?_
  show OG p e _ s below _ s₁ (mkF m 8 #[.val (.ref a1), .val (.ref a2), .val (.int (3 : Int32)), .val (.int (3 : Int32)), .val (.int (3 : Int32)), .unset] [(.int (6 : Int32))])
  refine wiconst OGc 9 X0 B d2_8 1 rfl rfl ?_
  refine wiadd OGc 10 X0 B d2_9 rfl ?_
  show OG p e _ s below _ s₁ (mkF m 10 #[.val (.ref a1), .val (.ref a2), .val (.int (3 : Int32)), .val (.int (3 : Int32)), .val (.int (3 : Int32)), .unset] [(.int (7 : Int32))])
  refine wistore OGc 12 X0 B d2_10 #[.val (.ref a1), .val (.ref a2), .val (.int (3 : Int32)), .val (.int (3 : Int32)), .val (.int (3 : Int32)), .val (.int (7 : Int32))] rfl rfl ?_
  refine wiload OGc 14 X0 B d2_12 rfl rfl ?_
  refine wiconst OGc 15 X0 B d2_14 2 rfl rfl ?_
  refine wiloadN OGc 16 X0 B d2_15 rfl rfl ?_
  refine own_st (fun t k => XS.imul X0.here hx rfl (hb hby d2_16) rfl k) ?_
  show OG p e _ s below _ s₁ (mkF m 17 #[.val (.ref a1), .val (.ref a2), .val (.int (3 : Int32)), .val (.int (3 : Int32)), .val (.int (3 : Int32)), .val (.int (7 : Int32))] [(.int (6 : Int32)), (.int (7 : Int32))])
  refine wiconst OGc 18 X0 B d2_17 2 rfl rfl ?_
  refine wiadd OGc 19 X0 B d2_18 rfl ?_
  show OG p e _ s below _ s₁ (mkF m 19 #[.val (.ref a1), .val (.ref a2), .val (.int (3 : Int32)), .val (.int (3 : Int32)), .val (.int (3 : Int32)), .val (.int (7 : Int32))] [(.int (8 : Int32)), (.int (7 : Int32))])
  refine wicmpNo OGc 22 X0 B d2_19 (by decide) rfl ?_
  refine wiload OGc 24 X0 B d2_22 rfl rfl ?_
  refine waloadN OGc 25 X0 B d2_24 rfl rfl rfl ?_
  refine warlenA OGc 26 X0 B hZ e0 R0 (6 : Int32) rfl d2_25 rfl ?_
  refine wicmpYes OGc 55 X0 B d2_26 (by decide) rfl ?_
  refine wiload OGc 57 X0 B d2_55 rfl rfl ?_
  refine wiloadN OGc 58 X0 B d2_57 rfl rfl ?_
  refine wicmpNo OGc 61 X0 B d2_58 (by decide) rfl ?_
  refine own_ret0 X0 hx hret hlk (hb hby d2_61) (by decide) (by decide) ?_
  rw [e0]
  exact ⟨rfl, N0, (Keep.refl h0 [a1]), R0⟩
theorem pd__I_Z : parseMethodDescriptor "(I)Z" = some ⟨[.int], some .boolean⟩ := by decide +kernel
theorem pd__JJ_J : parseMethodDescriptor "(JJ)J" = some ⟨[.long, .long], some .long⟩ := by decide +kernel
theorem pd___I_JI_V : parseMethodDescriptor "([I[JI)V" = some ⟨[(.array .int), (.array .long), .int], none⟩ := by decide +kernel
theorem pn_0 : plainFor (⟨"com/example/fragmark/fragmark/PhraseMatcherSiftDownPinLaw", "law", "(JJJJJI)Z"⟩ : MethodName) = true := by first | exact plainFor_of_name (by first | (simp [plainName, overriddenIn]; done) | decide +kernel) | decide +kernel
def g0_1 (q1 : Int64) (q2 : Int64) (q3 : Int64) (q4 : Int64) (q5 : Int64) (p6 : Int32) : Int32 := (p6 &&& (3 : Int32))
def LA0_0 (q1 : Int64) (q2 : Int64) (q3 : Int64) (q4 : Int64) (q5 : Int64) (p6 : Int32)  : Array Slot := #[.val (.long q1), .second, .val (.long q2), .second, .val (.long q3), .second, .val (.long q4), .second, .val (.long q5), .second, .val (.int p6), .val (.int (g0_1 q1 q2 q3 q4 q5 p6)), .unset, .unset, .unset, .unset, .unset, .unset, .unset, .unset, .unset, .unset, .unset, .unset, .unset, .unset, .unset, .unset, .unset, .unset, .unset, .unset, .unset, .unset, .unset, .unset, .unset, .unset, .unset, .unset, .unset, .unset, .unset, .unset, .unset, .unset]
def LA0_1 (q1 : Int64) (q2 : Int64) (q3 : Int64) (q4 : Int64) (q5 : Int64) (p6 : Int32)  : Array Slot := #[.val (.long q1), .second, .val (.long q2), .second, .val (.long q3), .second, .val (.long q4), .second, .val (.long q5), .second, .val (.int p6), .val (.int (0 : Int32)), .unset, .unset, .unset, .unset, .unset, .unset, .unset, .unset, .unset, .unset, .unset, .unset, .unset, .unset, .unset, .unset, .unset, .unset, .unset, .unset, .unset, .unset, .unset, .unset, .unset, .unset, .unset, .unset, .unset, .unset, .unset, .unset, .unset, .unset]
def LA0_2 (q1 : Int64) (q2 : Int64) (q3 : Int64) (q4 : Int64) (q5 : Int64) (p6 : Int32)  : Array Slot := #[.val (.long q1), .second, .val (.long q2), .second, .val (.long q3), .second, .val (.long q4), .second, .val (.long q5), .second, .val (.int p6), .val (.int (0 : Int32)), .val (.long q4), .second, .unset, .unset, .unset, .unset, .unset, .unset, .unset, .unset, .unset, .unset, .unset, .unset, .unset, .unset, .unset, .unset, .unset, .unset, .unset, .unset, .unset, .unset, .unset, .unset, .unset, .unset, .unset, .unset, .unset, .unset, .unset, .unset]
def LA0_3 (q1 : Int64) (q2 : Int64) (q3 : Int64) (q4 : Int64) (q5 : Int64) (p6 : Int32)  : Array Slot := #[.val (.long q1), .second, .val (.long q2), .second, .val (.long q3), .second, .val (.long q4), .second, .val (.long q5), .second, .val (.int p6), .val (.int (0 : Int32)), .val (.long q4), .second, .val (.long q5), .second, .unset, .unset, .unset, .unset, .unset, .unset, .unset, .unset, .unset, .unset, .unset, .unset, .unset, .unset, .unset, .unset, .unset, .unset, .unset, .unset, .unset, .unset, .unset, .unset, .unset, .unset, .unset, .unset, .unset, .unset]
def g0_2 (q1 : Int64) (q2 : Int64) (q3 : Int64) (q4 : Int64) (q5 : Int64) (p6 : Int32) : Int64 := ((p6 >>> ((2 : Int32) &&& 31)).toInt64)
def LA0_4 (q1 : Int64) (q2 : Int64) (q3 : Int64) (q4 : Int64) (q5 : Int64) (p6 : Int32)  : Array Slot := #[.val (.long q1), .second, .val (.long q2), .second, .val (.long q3), .second, .val (.long q4), .second, .val (.long q5), .second, .val (.int p6), .val (.int (0 : Int32)), .val (.long q4), .second, .val (.long q5), .second, .val (.long (g0_2 q1 q2 q3 q4 q5 p6)), .second, .unset, .unset, .unset, .unset, .unset, .unset, .unset, .unset, .unset, .unset, .unset, .unset, .unset, .unset, .unset, .unset, .unset, .unset, .unset, .unset, .unset, .unset, .unset, .unset, .unset, .unset, .unset, .unset]
def LA0_5 (q1 : Int64) (q2 : Int64) (q3 : Int64) (q4 : Int64) (q5 : Int64) (p6 : Int32)  : Array Slot := #[.val (.long q1), .second, .val (.long q2), .second, .val (.long q3), .second, .val (.long q4), .second, .val (.long q5), .second, .val (.int p6), .val (.int (0 : Int32)), .val (.long q4), .second, .val (.long q5), .second, .val (.long (g0_2 q1 q2 q3 q4 q5 p6)), .second, .val (.long (f1 q2 (f1 q4 q5))), .second, .unset, .unset, .unset, .unset, .unset, .unset, .unset, .unset, .unset, .unset, .unset, .unset, .unset, .unset, .unset, .unset, .unset, .unset, .unset, .unset, .unset, .unset, .unset, .unset, .unset, .unset]
def g0_3 (q1 : Int64) (q2 : Int64) (q3 : Int64) (q4 : Int64) (q5 : Int64) (p6 : Int32) : Int64 := (f1 q3 (g0_2 q1 q2 q3 q4 q5 p6))
def LA0_6 (q1 : Int64) (q2 : Int64) (q3 : Int64) (q4 : Int64) (q5 : Int64) (p6 : Int32)  : Array Slot := #[.val (.long q1), .second, .val (.long q2), .second, .val (.long q3), .second, .val (.long q4), .second, .val (.long q5), .second, .val (.int p6), .val (.int (0 : Int32)), .val (.long q4), .second, .val (.long q5), .second, .val (.long (g0_2 q1 q2 q3 q4 q5 p6)), .second, .val (.long (f1 q2 (f1 q4 q5))), .second, .val (.long (g0_3 q1 q2 q3 q4 q5 p6)), .second, .unset, .unset, .unset, .unset, .unset, .unset, .unset, .unset, .unset, .unset, .unset, .unset, .unset, .unset, .unset, .unset, .unset, .unset, .unset, .unset, .unset, .unset, .unset, .unset]
def LA0_7 (q1 : Int64) (q2 : Int64) (q3 : Int64) (q4 : Int64) (q5 : Int64) (p6 : Int32)  : Array Slot := #[.val (.long q1), .second, .val (.long q2), .second, .val (.long q3), .second, .val (.long q4), .second, .val (.long q5), .second, .val (.int p6), .val (.int (0 : Int32)), .val (.long q4), .second, .val (.long q5), .second, .val (.long (g0_2 q1 q2 q3 q4 q5 p6)), .second, .val (.long (f1 q2 (f1 q4 q5))), .second, .val (.long (g0_3 q1 q2 q3 q4 q5 p6)), .second, .val (.long q1), .second, .unset, .unset, .unset, .unset, .unset, .unset, .unset, .unset, .unset, .unset, .unset, .unset, .unset, .unset, .unset, .unset, .unset, .unset, .unset, .unset, .unset, .unset]
def LA0_8 (q1 : Int64) (q2 : Int64) (q3 : Int64) (q4 : Int64) (q5 : Int64) (p6 : Int32) (b5 : Addr) : Array Slot := #[.val (.long q1), .second, .val (.long q2), .second, .val (.long q3), .second, .val (.long q4), .second, .val (.long q5), .second, .val (.int p6), .val (.int (0 : Int32)), .val (.long q4), .second, .val (.long q5), .second, .val (.long (g0_2 q1 q2 q3 q4 q5 p6)), .second, .val (.long (f1 q2 (f1 q4 q5))), .second, .val (.long (g0_3 q1 q2 q3 q4 q5 p6)), .second, .val (.long q1), .second, .val (.ref b5), .unset, .unset, .unset, .unset, .unset, .unset, .unset, .unset, .unset, .unset, .unset, .unset, .unset, .unset, .unset, .unset, .unset, .unset, .unset, .unset, .unset]
def LA0_9 (q1 : Int64) (q2 : Int64) (q3 : Int64) (q4 : Int64) (q5 : Int64) (p6 : Int32) (b5 : Addr) (b26 : Addr) : Array Slot := #[.val (.long q1), .second, .val (.long q2), .second, .val (.long q3), .second, .val (.long q4), .second, .val (.long q5), .second, .val (.int p6), .val (.int (0 : Int32)), .val (.long q4), .second, .val (.long q5), .second, .val (.long (g0_2 q1 q2 q3 q4 q5 p6)), .second, .val (.long (f1 q2 (f1 q4 q5))), .second, .val (.long (g0_3 q1 q2 q3 q4 q5 p6)), .second, .val (.long q1), .second, .val (.ref b5), .val (.ref b26), .unset, .unset, .unset, .unset, .unset, .unset, .unset, .unset, .unset, .unset, .unset, .unset, .unset, .unset, .unset, .unset, .unset, .unset, .unset, .unset]
def LA0_10 (q1 : Int64) (q2 : Int64) (q3 : Int64) (q4 : Int64) (q5 : Int64) (p6 : Int32) (b5 : Addr) (b26 : Addr) : Array Slot := #[.val (.long q1), .second, .val (.long q2), .second, .val (.long q3), .second, .val (.long q4), .second, .val (.long q5), .second, .val (.int p6), .val (.int (0 : Int32)), .val (.long q4), .second, .val (.long q5), .second, .val (.long (g0_2 q1 q2 q3 q4 q5 p6)), .second, .val (.long (f1 q2 (f1 q4 q5))), .second, .val (.long (g0_3 q1 q2 q3 q4 q5 p6)), .second, .val (.long q1), .second, .val (.ref b5), .val (.ref b26), .val (.int (1 : Int32)), .unset, .unset, .unset, .unset, .unset, .unset, .unset, .unset, .unset, .unset, .unset, .unset, .unset, .unset, .unset, .unset, .unset, .unset, .unset]
def LA0_11 (q1 : Int64) (q2 : Int64) (q3 : Int64) (q4 : Int64) (q5 : Int64) (p6 : Int32) (b5 : Addr) (b26 : Addr) : Array Slot := #[.val (.long q1), .second, .val (.long q2), .second, .val (.long q3), .second, .val (.long q4), .second, .val (.long q5), .second, .val (.int p6), .val (.int (0 : Int32)), .val (.long q4), .second, .val (.long q5), .second, .val (.long (g0_2 q1 q2 q3 q4 q5 p6)), .second, .val (.long (f1 q2 (f1 q4 q5))), .second, .val (.long (g0_3 q1 q2 q3 q4 q5 p6)), .second, .val (.long q1), .second, .val (.ref b5), .val (.ref b26), .val (.int (1 : Int32)), .val (.int (5 : Int32)), .unset, .unset, .unset, .unset, .unset, .unset, .unset, .unset, .unset, .unset, .unset, .unset, .unset, .unset, .unset, .unset, .unset, .unset]
def LA0_12 (q1 : Int64) (q2 : Int64) (q3 : Int64) (q4 : Int64) (q5 : Int64) (p6 : Int32) (b5 : Addr) (b26 : Addr) : Array Slot := #[.val (.long q1), .second, .val (.long q2), .second, .val (.long q3), .second, .val (.long q4), .second, .val (.long q5), .second, .val (.int p6), .val (.int (0 : Int32)), .val (.long q4), .second, .val (.long q5), .second, .val (.long (g0_2 q1 q2 q3 q4 q5 p6)), .second, .val (.long (f1 q2 (f1 q4 q5))), .second, .val (.long (g0_3 q1 q2 q3 q4 q5 p6)), .second, .val (.long q1), .second, .val (.ref b5), .val (.ref b26), .val (.int (1 : Int32)), .val (.int (5 : Int32)), .val (.int (0 : Int32)), .unset, .unset, .unset, .unset, .unset, .unset, .unset, .unset, .unset, .unset, .unset, .unset, .unset, .unset, .unset, .unset, .unset]
def LA0_13 (q1 : Int64) (q2 : Int64) (q3 : Int64) (q4 : Int64) (q5 : Int64) (p6 : Int32) (b5 : Addr) (b26 : Addr) : Array Slot := #[.val (.long q1), .second, .val (.long q2), .second, .val (.long q3), .second, .val (.long q4), .second, .val (.long q5), .second, .val (.int p6), .val (.int (0 : Int32)), .val (.long q4), .second, .val (.long q5), .second, .val (.long (g0_2 q1 q2 q3 q4 q5 p6)), .second, .val (.long (f1 q2 (f1 q4 q5))), .second, .val (.long (g0_3 q1 q2 q3 q4 q5 p6)), .second, .val (.long q1), .second, .val (.ref b5), .val (.ref b26), .val (.int (1 : Int32)), .val (.int (5 : Int32)), .val (.int (0 : Int32)), .val (.int (4 : Int32)), .unset, .unset, .unset, .unset, .unset, .unset, .unset, .unset, .unset, .unset, .unset, .unset, .unset, .unset, .unset, .unset]
def LA0_14 (q1 : Int64) (q2 : Int64) (q3 : Int64) (q4 : Int64) (q5 : Int64) (p6 : Int32) (b5 : Addr) (b26 : Addr) : Array Slot := #[.val (.long q1), .second, .val (.long q2), .second, .val (.long q3), .second, .val (.long q4), .second, .val (.long q5), .second, .val (.int p6), .val (.int (0 : Int32)), .val (.long q4), .second, .val (.long q5), .second, .val (.long (g0_2 q1 q2 q3 q4 q5 p6)), .second, .val (.long (f1 q2 (f1 q4 q5))), .second, .val (.long (g0_3 q1 q2 q3 q4 q5 p6)), .second, .val (.long q1), .second, .val (.ref b5), .val (.ref b26), .val (.int (1 : Int32)), .val (.int (5 : Int32)), .val (.int (0 : Int32)), .val (.int (4 : Int32)), .val (.int (1 : Int32)), .unset, .unset, .unset, .unset, .unset, .unset, .unset, .unset, .unset, .unset, .unset, .unset, .unset, .unset, .unset]
def LA0_15 (q1 : Int64) (q2 : Int64) (q3 : Int64) (q4 : Int64) (q5 : Int64) (p6 : Int32) (b5 : Addr) (b26 : Addr) : Array Slot := #[.val (.long q1), .second, .val (.long q2), .second, .val (.long q3), .second, .val (.long q4), .second, .val (.long q5), .second, .val (.int p6), .val (.int (0 : Int32)), .val (.long q4), .second, .val (.long q5), .second, .val (.long (g0_2 q1 q2 q3 q4 q5 p6)), .second, .val (.long (f1 q2 (f1 q4 q5))), .second, .val (.long (g0_3 q1 q2 q3 q4 q5 p6)), .second, .val (.long q1), .second, .val (.ref b5), .val (.ref b26), .val (.int (1 : Int32)), .val (.int (5 : Int32)), .val (.int (0 : Int32)), .val (.int (4 : Int32)), .val (.int (1 : Int32)), .val (.int (3 : Int32)), .unset, .unset, .unset, .unset, .unset, .unset, .unset, .unset, .unset, .unset, .unset, .unset, .unset, .unset]
def LA0_16 (q1 : Int64) (q2 : Int64) (q3 : Int64) (q4 : Int64) (q5 : Int64) (p6 : Int32) (b5 : Addr) (b26 : Addr) : Array Slot := #[.val (.long q1), .second, .val (.long q2), .second, .val (.long q3), .second, .val (.long q4), .second, .val (.long q5), .second, .val (.int p6), .val (.int (0 : Int32)), .val (.long q4), .second, .val (.long q5), .second, .val (.long (g0_2 q1 q2 q3 q4 q5 p6)), .second, .val (.long (f1 q2 (f1 q4 q5))), .second, .val (.long (g0_3 q1 q2 q3 q4 q5 p6)), .second, .val (.long q1), .second, .val (.ref b5), .val (.ref b26), .val (.int (1 : Int32)), .val (.int (5 : Int32)), .val (.int (0 : Int32)), .val (.int (4 : Int32)), .val (.int (1 : Int32)), .val (.int (3 : Int32)), .val (.int (2 : Int32)), .unset, .unset, .unset, .unset, .unset, .unset, .unset, .unset, .unset, .unset, .unset, .unset, .unset]
def LA0_17 (q1 : Int64) (q2 : Int64) (q3 : Int64) (q4 : Int64) (q5 : Int64) (p6 : Int32) (b5 : Addr) (b26 : Addr) : Array Slot := #[.val (.long q1), .second, .val (.long q2), .second, .val (.long q3), .second, .val (.long q4), .second, .val (.long q5), .second, .val (.int p6), .val (.int (0 : Int32)), .val (.long q4), .second, .val (.long q5), .second, .val (.long (g0_2 q1 q2 q3 q4 q5 p6)), .second, .val (.long (f1 q2 (f1 q4 q5))), .second, .val (.long (g0_3 q1 q2 q3 q4 q5 p6)), .second, .val (.long q1), .second, .val (.ref b5), .val (.ref b26), .val (.int (1 : Int32)), .val (.int (5 : Int32)), .val (.int (0 : Int32)), .val (.int (4 : Int32)), .val (.int (1 : Int32)), .val (.int (3 : Int32)), .val (.int (2 : Int32)), .val (.int (63 : Int32)), .unset, .unset, .unset, .unset, .unset, .unset, .unset, .unset, .unset, .unset, .unset, .unset]
def LA0_18 (q1 : Int64) (q2 : Int64) (q3 : Int64) (q4 : Int64) (q5 : Int64) (p6 : Int32) (b5 : Addr) (b26 : Addr) : Array Slot := #[.val (.long q1), .second, .val (.long q2), .second, .val (.long q3), .second, .val (.long q4), .second, .val (.long q5), .second, .val (.int p6), .val (.int (0 : Int32)), .val (.long q4), .second, .val (.long q5), .second, .val (.long (g0_2 q1 q2 q3 q4 q5 p6)), .second, .val (.long (f1 q2 (f1 q4 q5))), .second, .val (.long (g0_3 q1 q2 q3 q4 q5 p6)), .second, .val (.long q1), .second, .val (.ref b5), .val (.ref b26), .val (.int (1 : Int32)), .val (.int (5 : Int32)), .val (.int (0 : Int32)), .val (.int (4 : Int32)), .val (.int (1 : Int32)), .val (.int (3 : Int32)), .val (.int (2 : Int32)), .val (.int (63 : Int32)), .val (.long (g0_3 q1 q2 q3 q4 q5 p6)), .second, .unset, .unset, .unset, .unset, .unset, .unset, .unset, .unset, .unset, .unset]
def LA0_19 (q1 : Int64) (q2 : Int64) (q3 : Int64) (q4 : Int64) (q5 : Int64) (p6 : Int32) (b5 : Addr) (b26 : Addr) : Array Slot := #[.val (.long q1), .second, .val (.long q2), .second, .val (.long q3), .second, .val (.long q4), .second, .val (.long q5), .second, .val (.int p6), .val (.int (0 : Int32)), .val (.long q4), .second, .val (.long q5), .second, .val (.long (g0_2 q1 q2 q3 q4 q5 p6)), .second, .val (.long (f1 q2 (f1 q4 q5))), .second, .val (.long (g0_3 q1 q2 q3 q4 q5 p6)), .second, .val (.long q1), .second, .val (.ref b5), .val (.ref b26), .val (.int (1 : Int32)), .val (.int (5 : Int32)), .val (.int (0 : Int32)), .val (.int (4 : Int32)), .val (.int (1 : Int32)), .val (.int (3 : Int32)), .val (.int (2 : Int32)), .val (.int (63 : Int32)), .val (.long (g0_3 q1 q2 q3 q4 q5 p6)), .second, .val (.long (f1 q2 (f1 q4 q5))), .second, .unset, .unset, .unset, .unset, .unset, .unset, .unset, .unset]
def LA0_20 (q1 : Int64) (q2 : Int64) (q3 : Int64) (q4 : Int64) (q5 : Int64) (p6 : Int32) (b5 : Addr) (b26 : Addr) : Array Slot := #[.val (.long q1), .second, .val (.long q2), .second, .val (.long q3), .second, .val (.long q4), .second, .val (.long q5), .second, .val (.int p6), .val (.int (0 : Int32)), .val (.long q4), .second, .val (.long q5), .second, .val (.long (g0_2 q1 q2 q3 q4 q5 p6)), .second, .val (.long (f1 q2 (f1 q4 q5))), .second, .val (.long (g0_3 q1 q2 q3 q4 q5 p6)), .second, .val (.long q1), .second, .val (.ref b5), .val (.ref b26), .val (.int (1 : Int32)), .val (.int (5 : Int32)), .val (.int (0 : Int32)), .val (.int (4 : Int32)), .val (.int (1 : Int32)), .val (.int (3 : Int32)), .val (.int (2 : Int32)), .val (.int (63 : Int32)), .val (.long (g0_3 q1 q2 q3 q4 q5 p6)), .second, .val (.long (f1 q2 (f1 q4 q5))), .second, .val (.long (g0_2 q1 q2 q3 q4 q5 p6)), .second, .unset, .unset, .unset, .unset, .unset, .unset]
def LA0_21 (q1 : Int64) (q2 : Int64) (q3 : Int64) (q4 : Int64) (q5 : Int64) (p6 : Int32) (b5 : Addr) (b26 : Addr) : Array Slot := #[.val (.long q1), .second, .val (.long q2), .second, .val (.long q3), .second, .val (.long q4), .second, .val (.long q5), .second, .val (.int p6), .val (.int (0 : Int32)), .val (.long q4), .second, .val (.long q5), .second, .val (.long (g0_2 q1 q2 q3 q4 q5 p6)), .second, .val (.long (f1 q2 (f1 q4 q5))), .second, .val (.long (g0_3 q1 q2 q3 q4 q5 p6)), .second, .val (.long q1), .second, .val (.ref b5), .val (.ref b26), .val (.int (1 : Int32)), .val (.int (5 : Int32)), .val (.int (0 : Int32)), .val (.int (4 : Int32)), .val (.int (1 : Int32)), .val (.int (3 : Int32)), .val (.int (2 : Int32)), .val (.int (63 : Int32)), .val (.long (g0_3 q1 q2 q3 q4 q5 p6)), .second, .val (.long (f1 q2 (f1 q4 q5))), .second, .val (.long (g0_2 q1 q2 q3 q4 q5 p6)), .second, .val (.long q4), .second, .unset, .unset, .unset, .unset]
def LA0_22 (q1 : Int64) (q2 : Int64) (q3 : Int64) (q4 : Int64) (q5 : Int64) (p6 : Int32) (b5 : Addr) (b26 : Addr) : Array Slot := #[.val (.long q1), .second, .val (.long q2), .second, .val (.long q3), .second, .val (.long q4), .second, .val (.long q5), .second, .val (.int p6), .val (.int (0 : Int32)), .val (.long q4), .second, .val (.long q5), .second, .val (.long (g0_2 q1 q2 q3 q4 q5 p6)), .second, .val (.long (f1 q2 (f1 q4 q5))), .second, .val (.long (g0_3 q1 q2 q3 q4 q5 p6)), .second, .val (.long q1), .second, .val (.ref b5), .val (.ref b26), .val (.int (1 : Int32)), .val (.int (5 : Int32)), .val (.int (0 : Int32)), .val (.int (4 : Int32)), .val (.int (1 : Int32)), .val (.int (3 : Int32)), .val (.int (2 : Int32)), .val (.int (63 : Int32)), .val (.long (g0_3 q1 q2 q3 q4 q5 p6)), .second, .val (.long (f1 q2 (f1 q4 q5))), .second, .val (.long (g0_2 q1 q2 q3 q4 q5 p6)), .second, .val (.long q4), .second, .val (.long q5), .second, .unset, .unset]
def LA0_23 (q1 : Int64) (q2 : Int64) (q3 : Int64) (q4 : Int64) (q5 : Int64) (p6 : Int32) (b5 : Addr) (b26 : Addr) : Array Slot := #[.val (.long q1), .second, .val (.long q2), .second, .val (.long q3), .second, .val (.long q4), .second, .val (.long q5), .second, .val (.int p6), .val (.int (0 : Int32)), .val (.long q4), .second, .val (.long q5), .second, .val (.long (g0_2 q1 q2 q3 q4 q5 p6)), .second, .val (.long (f1 q2 (f1 q4 q5))), .second, .val (.long (g0_3 q1 q2 q3 q4 q5 p6)), .second, .val (.long q1), .second, .val (.ref b5), .val (.ref b26), .val (.int (1 : Int32)), .val (.int (5 : Int32)), .val (.int (0 : Int32)), .val (.int (4 : Int32)), .val (.int (1 : Int32)), .val (.int (3 : Int32)), .val (.int (2 : Int32)), .val (.int (63 : Int32)), .val (.long (g0_3 q1 q2 q3 q4 q5 p6)), .second, .val (.long (f1 q2 (f1 q4 q5))), .second, .val (.long (g0_2 q1 q2 q3 q4 q5 p6)), .second, .val (.long q4), .second, .val (.long q5), .second, .val (.long q1), .second]
def LA0_24 (q1 : Int64) (q2 : Int64) (q3 : Int64) (q4 : Int64) (q5 : Int64) (p6 : Int32) (b5 : Addr) (b26 : Addr) : Array Slot := #[.val (.long q1), .second, .val (.long q2), .second, .val (.long q3), .second, .val (.long q4), .second, .val (.long q5), .second, .val (.int p6), .val (.int (0 : Int32)), .val (.long q4), .second, .val (.long q5), .second, .val (.long (g0_2 q1 q2 q3 q4 q5 p6)), .second, .val (.long (f1 q2 (f1 q4 q5))), .second, .val (.long (g0_3 q1 q2 q3 q4 q5 p6)), .second, .val (.long q1), .second, .val (.ref b5), .val (.ref b26), .val (.int (0 : Int32)), .val (.int (5 : Int32)), .val (.int (0 : Int32)), .val (.int (4 : Int32)), .val (.int (1 : Int32)), .val (.int (3 : Int32)), .val (.int (2 : Int32)), .val (.int (63 : Int32)), .val (.long (g0_3 q1 q2 q3 q4 q5 p6)), .second, .val (.long (f1 q2 (f1 q4 q5))), .second, .val (.long (g0_2 q1 q2 q3 q4 q5 p6)), .second, .val (.long q4), .second, .val (.long q5), .second, .val (.long q1), .second]
def LA0_25 (q1 : Int64) (q2 : Int64) (q3 : Int64) (q4 : Int64) (q5 : Int64) (p6 : Int32) (b5 : Addr) (b26 : Addr) : Array Slot := #[.val (.long q1), .second, .val (.long q2), .second, .val (.long q3), .second, .val (.long q4), .second, .val (.long q5), .second, .val (.int p6), .val (.int (0 : Int32)), .val (.long q4), .second, .val (.long q5), .second, .val (.long (g0_2 q1 q2 q3 q4 q5 p6)), .second, .val (.long (f1 q2 (f1 q4 q5))), .second, .val (.long (g0_3 q1 q2 q3 q4 q5 p6)), .second, .val (.long q1), .second, .val (.ref b5), .val (.ref b26), .val (.int (1 : Int32)), .val (.int (5 : Int32)), .val (.int (0 : Int32)), .val (.int (2 : Int32)), .unset, .unset, .unset, .unset, .unset, .unset, .unset, .unset, .unset, .unset, .unset, .unset, .unset, .unset, .unset, .unset]
def LA0_26 (q1 : Int64) (q2 : Int64) (q3 : Int64) (q4 : Int64) (q5 : Int64) (p6 : Int32) (b5 : Addr) (b26 : Addr) : Array Slot := #[.val (.long q1), .second, .val (.long q2), .second, .val (.long q3), .second, .val (.long q4), .second, .val (.long q5), .second, .val (.int p6), .val (.int (0 : Int32)), .val (.long q4), .second, .val (.long q5), .second, .val (.long (g0_2 q1 q2 q3 q4 q5 p6)), .second, .val (.long (f1 q2 (f1 q4 q5))), .second, .val (.long (g0_3 q1 q2 q3 q4 q5 p6)), .second, .val (.long q1), .second, .val (.ref b5), .val (.ref b26), .val (.int (1 : Int32)), .val (.int (5 : Int32)), .val (.int (0 : Int32)), .val (.int (2 : Int32)), .val (.int (1 : Int32)), .unset, .unset, .unset, .unset, .unset, .unset, .unset, .unset, .unset, .unset, .unset, .unset, .unset, .unset, .unset]
def LA0_27 (q1 : Int64) (q2 : Int64) (q3 : Int64) (q4 : Int64) (q5 : Int64) (p6 : Int32) (b5 : Addr) (b26 : Addr) : Array Slot := #[.val (.long q1), .second, .val (.long q2), .second, .val (.long q3), .second, .val (.long q4), .second, .val (.long q5), .second, .val (.int p6), .val (.int (0 : Int32)), .val (.long q4), .second, .val (.long q5), .second, .val (.long (g0_2 q1 q2 q3 q4 q5 p6)), .second, .val (.long (f1 q2 (f1 q4 q5))), .second, .val (.long (g0_3 q1 q2 q3 q4 q5 p6)), .second, .val (.long q1), .second, .val (.ref b5), .val (.ref b26), .val (.int (1 : Int32)), .val (.int (5 : Int32)), .val (.int (0 : Int32)), .val (.int (2 : Int32)), .val (.int (1 : Int32)), .val (.int (3 : Int32)), .unset, .unset, .unset, .unset, .unset, .unset, .unset, .unset, .unset, .unset, .unset, .unset, .unset, .unset]
def LA0_28 (q1 : Int64) (q2 : Int64) (q3 : Int64) (q4 : Int64) (q5 : Int64) (p6 : Int32) (b5 : Addr) (b26 : Addr) : Array Slot := #[.val (.long q1), .second, .val (.long q2), .second, .val (.long q3), .second, .val (.long q4), .second, .val (.long q5), .second, .val (.int p6), .val (.int (0 : Int32)), .val (.long q4), .second, .val (.long q5), .second, .val (.long (g0_2 q1 q2 q3 q4 q5 p6)), .second, .val (.long (f1 q2 (f1 q4 q5))), .second, .val (.long (g0_3 q1 q2 q3 q4 q5 p6)), .second, .val (.long q1), .second, .val (.ref b5), .val (.ref b26), .val (.int (1 : Int32)), .val (.int (5 : Int32)), .val (.int (0 : Int32)), .val (.int (2 : Int32)), .val (.int (1 : Int32)), .val (.int (3 : Int32)), .val (.int (4 : Int32)), .unset, .unset, .unset, .unset, .unset, .unset, .unset, .unset, .unset, .unset, .unset, .unset, .unset]
def LA0_29 (q1 : Int64) (q2 : Int64) (q3 : Int64) (q4 : Int64) (q5 : Int64) (p6 : Int32) (b5 : Addr) (b26 : Addr) : Array Slot := #[.val (.long q1), .second, .val (.long q2), .second, .val (.long q3), .second, .val (.long q4), .second, .val (.long q5), .second, .val (.int p6), .val (.int (0 : Int32)), .val (.long q4), .second, .val (.long q5), .second, .val (.long (g0_2 q1 q2 q3 q4 q5 p6)), .second, .val (.long (f1 q2 (f1 q4 q5))), .second, .val (.long (g0_3 q1 q2 q3 q4 q5 p6)), .second, .val (.long q1), .second, .val (.ref b5), .val (.ref b26), .val (.int (1 : Int32)), .val (.int (5 : Int32)), .val (.int (0 : Int32)), .val (.int (2 : Int32)), .val (.int (1 : Int32)), .val (.int (3 : Int32)), .val (.int (4 : Int32)), .val (.int (63 : Int32)), .unset, .unset, .unset, .unset, .unset, .unset, .unset, .unset, .unset, .unset, .unset, .unset]
def LA0_30 (q1 : Int64) (q2 : Int64) (q3 : Int64) (q4 : Int64) (q5 : Int64) (p6 : Int32) (b5 : Addr) (b26 : Addr) : Array Slot := #[.val (.long q1), .second, .val (.long q2), .second, .val (.long q3), .second, .val (.long q4), .second, .val (.long q5), .second, .val (.int p6), .val (.int (0 : Int32)), .val (.long q4), .second, .val (.long q5), .second, .val (.long (g0_2 q1 q2 q3 q4 q5 p6)), .second, .val (.long (f1 q2 (f1 q4 q5))), .second, .val (.long (g0_3 q1 q2 q3 q4 q5 p6)), .second, .val (.long q1), .second, .val (.ref b5), .val (.ref b26), .val (.int (1 : Int32)), .val (.int (5 : Int32)), .val (.int (0 : Int32)), .val (.int (2 : Int32)), .val (.int (1 : Int32)), .val (.int (3 : Int32)), .val (.int (4 : Int32)), .val (.int (63 : Int32)), .val (.long (g0_3 q1 q2 q3 q4 q5 p6)), .second, .unset, .unset, .unset, .unset, .unset, .unset, .unset, .unset, .unset, .unset]
def LA0_31 (q1 : Int64) (q2 : Int64) (q3 : Int64) (q4 : Int64) (q5 : Int64) (p6 : Int32) (b5 : Addr) (b26 : Addr) : Array Slot := #[.val (.long q1), .second, .val (.long q2), .second, .val (.long q3), .second, .val (.long q4), .second, .val (.long q5), .second, .val (.int p6), .val (.int (0 : Int32)), .val (.long q4), .second, .val (.long q5), .second, .val (.long (g0_2 q1 q2 q3 q4 q5 p6)), .second, .val (.long (f1 q2 (f1 q4 q5))), .second, .val (.long (g0_3 q1 q2 q3 q4 q5 p6)), .second, .val (.long q1), .second, .val (.ref b5), .val (.ref b26), .val (.int (1 : Int32)), .val (.int (5 : Int32)), .val (.int (0 : Int32)), .val (.int (2 : Int32)), .val (.int (1 : Int32)), .val (.int (3 : Int32)), .val (.int (4 : Int32)), .val (.int (63 : Int32)), .val (.long (g0_3 q1 q2 q3 q4 q5 p6)), .second, .val (.long (f1 q2 (f1 q4 q5))), .second, .unset, .unset, .unset, .unset, .unset, .unset, .unset, .unset]
def LA0_32 (q1 : Int64) (q2 : Int64) (q3 : Int64) (q4 : Int64) (q5 : Int64) (p6 : Int32) (b5 : Addr) (b26 : Addr) : Array Slot := #[.val (.long q1), .second, .val (.long q2), .second, .val (.long q3), .second, .val (.long q4), .second, .val (.long q5), .second, .val (.int p6), .val (.int (0 : Int32)), .val (.long q4), .second, .val (.long q5), .second, .val (.long (g0_2 q1 q2 q3 q4 q5 p6)), .second, .val (.long (f1 q2 (f1 q4 q5))), .second, .val (.long (g0_3 q1 q2 q3 q4 q5 p6)), .second, .val (.long q1), .second, .val (.ref b5), .val (.ref b26), .val (.int (1 : Int32)), .val (.int (5 : Int32)), .val (.int (0 : Int32)), .val (.int (2 : Int32)), .val (.int (1 : Int32)), .val (.int (3 : Int32)), .val (.int (4 : Int32)), .val (.int (63 : Int32)), .val (.long (g0_3 q1 q2 q3 q4 q5 p6)), .second, .val (.long (f1 q2 (f1 q4 q5))), .second, .val (.long q1), .second, .unset, .unset, .unset, .unset, .unset, .unset]
def LA0_33 (q1 : Int64) (q2 : Int64) (q3 : Int64) (q4 : Int64) (q5 : Int64) (p6 : Int32) (b5 : Addr) (b26 : Addr) : Array Slot := #[.val (.long q1), .second, .val (.long q2), .second, .val (.long q3), .second, .val (.long q4), .second, .val (.long q5), .second, .val (.int p6), .val (.int (0 : Int32)), .val (.long q4), .second, .val (.long q5), .second, .val (.long (g0_2 q1 q2 q3 q4 q5 p6)), .second, .val (.long (f1 q2 (f1 q4 q5))), .second, .val (.long (g0_3 q1 q2 q3 q4 q5 p6)), .second, .val (.long q1), .second, .val (.ref b5), .val (.ref b26), .val (.int (1 : Int32)), .val (.int (5 : Int32)), .val (.int (0 : Int32)), .val (.int (2 : Int32)), .val (.int (1 : Int32)), .val (.int (3 : Int32)), .val (.int (4 : Int32)), .val (.int (63 : Int32)), .val (.long (g0_3 q1 q2 q3 q4 q5 p6)), .second, .val (.long (f1 q2 (f1 q4 q5))), .second, .val (.long q1), .second, .val (.long q4), .second, .unset, .unset, .unset, .unset]
def LA0_34 (q1 : Int64) (q2 : Int64) (q3 : Int64) (q4 : Int64) (q5 : Int64) (p6 : Int32) (b5 : Addr) (b26 : Addr) : Array Slot := #[.val (.long q1), .second, .val (.long q2), .second, .val (.long q3), .second, .val (.long q4), .second, .val (.long q5), .second, .val (.int p6), .val (.int (0 : Int32)), .val (.long q4), .second, .val (.long q5), .second, .val (.long (g0_2 q1 q2 q3 q4 q5 p6)), .second, .val (.long (f1 q2 (f1 q4 q5))), .second, .val (.long (g0_3 q1 q2 q3 q4 q5 p6)), .second, .val (.long q1), .second, .val (.ref b5), .val (.ref b26), .val (.int (1 : Int32)), .val (.int (5 : Int32)), .val (.int (0 : Int32)), .val (.int (2 : Int32)), .val (.int (1 : Int32)), .val (.int (3 : Int32)), .val (.int (4 : Int32)), .val (.int (63 : Int32)), .val (.long (g0_3 q1 q2 q3 q4 q5 p6)), .second, .val (.long (f1 q2 (f1 q4 q5))), .second, .val (.long q1), .second, .val (.long q4), .second, .val (.long q5), .second, .unset, .unset]
def LA0_35 (q1 : Int64) (q2 : Int64) (q3 : Int64) (q4 : Int64) (q5 : Int64) (p6 : Int32) (b5 : Addr) (b26 : Addr) : Array Slot := #[.val (.long q1), .second, .val (.long q2), .second, .val (.long q3), .second, .val (.long q4), .second, .val (.long q5), .second, .val (.int p6), .val (.int (0 : Int32)), .val (.long q4), .second, .val (.long q5), .second, .val (.long (g0_2 q1 q2 q3 q4 q5 p6)), .second, .val (.long (f1 q2 (f1 q4 q5))), .second, .val (.long (g0_3 q1 q2 q3 q4 q5 p6)), .second, .val (.long q1), .second, .val (.ref b5), .val (.ref b26), .val (.int (1 : Int32)), .val (.int (5 : Int32)), .val (.int (0 : Int32)), .val (.int (2 : Int32)), .val (.int (1 : Int32)), .val (.int (3 : Int32)), .val (.int (4 : Int32)), .val (.int (63 : Int32)), .val (.long (g0_3 q1 q2 q3 q4 q5 p6)), .second, .val (.long (f1 q2 (f1 q4 q5))), .second, .val (.long q1), .second, .val (.long q4), .second, .val (.long q5), .second, .val (.long (g0_2 q1 q2 q3 q4 q5 p6)), .second]
def LA0_36 (q1 : Int64) (q2 : Int64) (q3 : Int64) (q4 : Int64) (q5 : Int64) (p6 : Int32) (b5 : Addr) (b26 : Addr) : Array Slot := #[.val (.long q1), .second, .val (.long q2), .second, .val (.long q3), .second, .val (.long q4), .second, .val (.long q5), .second, .val (.int p6), .val (.int (0 : Int32)), .val (.long q4), .second, .val (.long q5), .second, .val (.long (g0_2 q1 q2 q3 q4 q5 p6)), .second, .val (.long (f1 q2 (f1 q4 q5))), .second, .val (.long (g0_3 q1 q2 q3 q4 q5 p6)), .second, .val (.long q1), .second, .val (.ref b5), .val (.ref b26), .val (.int (0 : Int32)), .val (.int (5 : Int32)), .val (.int (0 : Int32)), .val (.int (2 : Int32)), .val (.int (1 : Int32)), .val (.int (3 : Int32)), .val (.int (4 : Int32)), .val (.int (63 : Int32)), .val (.long (g0_3 q1 q2 q3 q4 q5 p6)), .second, .val (.long (f1 q2 (f1 q4 q5))), .second, .val (.long q1), .second, .val (.long q4), .second, .val (.long q5), .second, .val (.long (g0_2 q1 q2 q3 q4 q5 p6)), .second]
def LA0_37 (q1 : Int64) (q2 : Int64) (q3 : Int64) (q4 : Int64) (q5 : Int64) (p6 : Int32) (b5 : Addr) (b26 : Addr) : Array Slot := #[.val (.long q1), .second, .val (.long q2), .second, .val (.long q3), .second, .val (.long q4), .second, .val (.long q5), .second, .val (.int p6), .val (.int (0 : Int32)), .val (.long q4), .second, .val (.long q5), .second, .val (.long (g0_2 q1 q2 q3 q4 q5 p6)), .second, .val (.long (f1 q2 (f1 q4 q5))), .second, .val (.long (g0_3 q1 q2 q3 q4 q5 p6)), .second, .val (.long q1), .second, .val (.ref b5), .val (.ref b26), .val (.int (1 : Int32)), .val (.int (0 : Int32)), .unset, .unset, .unset, .unset, .unset, .unset, .unset, .unset, .unset, .unset, .unset, .unset, .unset, .unset, .unset, .unset, .unset, .unset]
def LA0_38 (q1 : Int64) (q2 : Int64) (q3 : Int64) (q4 : Int64) (q5 : Int64) (p6 : Int32) (b5 : Addr) (b26 : Addr) : Array Slot := #[.val (.long q1), .second, .val (.long q2), .second, .val (.long q3), .second, .val (.long q4), .second, .val (.long q5), .second, .val (.int p6), .val (.int (0 : Int32)), .val (.long q4), .second, .val (.long q5), .second, .val (.long (g0_2 q1 q2 q3 q4 q5 p6)), .second, .val (.long (f1 q2 (f1 q4 q5))), .second, .val (.long (g0_3 q1 q2 q3 q4 q5 p6)), .second, .val (.long q1), .second, .val (.ref b5), .val (.ref b26), .val (.int (1 : Int32)), .val (.int (0 : Int32)), .val (.int (3 : Int32)), .unset, .unset, .unset, .unset, .unset, .unset, .unset, .unset, .unset, .unset, .unset, .unset, .unset, .unset, .unset, .unset, .unset]
def LA0_39 (q1 : Int64) (q2 : Int64) (q3 : Int64) (q4 : Int64) (q5 : Int64) (p6 : Int32) (b5 : Addr) (b26 : Addr) : Array Slot := #[.val (.long q1), .second, .val (.long q2), .second, .val (.long q3), .second, .val (.long q4), .second, .val (.long q5), .second, .val (.int p6), .val (.int (0 : Int32)), .val (.long q4), .second, .val (.long q5), .second, .val (.long (g0_2 q1 q2 q3 q4 q5 p6)), .second, .val (.long (f1 q2 (f1 q4 q5))), .second, .val (.long (g0_3 q1 q2 q3 q4 q5 p6)), .second, .val (.long q1), .second, .val (.ref b5), .val (.ref b26), .val (.int (1 : Int32)), .val (.int (0 : Int32)), .val (.int (3 : Int32)), .val (.int (5 : Int32)), .unset, .unset, .unset, .unset, .unset, .unset, .unset, .unset, .unset, .unset, .unset, .unset, .unset, .unset, .unset, .unset]
def LA0_40 (q1 : Int64) (q2 : Int64) (q3 : Int64) (q4 : Int64) (q5 : Int64) (p6 : Int32) (b5 : Addr) (b26 : Addr) : Array Slot := #[.val (.long q1), .second, .val (.long q2), .second, .val (.long q3), .second, .val (.long q4), .second, .val (.long q5), .second, .val (.int p6), .val (.int (0 : Int32)), .val (.long q4), .second, .val (.long q5), .second, .val (.long (g0_2 q1 q2 q3 q4 q5 p6)), .second, .val (.long (f1 q2 (f1 q4 q5))), .second, .val (.long (g0_3 q1 q2 q3 q4 q5 p6)), .second, .val (.long q1), .second, .val (.ref b5), .val (.ref b26), .val (.int (1 : Int32)), .val (.int (0 : Int32)), .val (.int (3 : Int32)), .val (.int (5 : Int32)), .val (.int (1 : Int32)), .unset, .unset, .unset, .unset, .unset, .unset, .unset, .unset, .unset, .unset, .unset, .unset, .unset, .unset, .unset]
def LA0_41 (q1 : Int64) (q2 : Int64) (q3 : Int64) (q4 : Int64) (q5 : Int64) (p6 : Int32) (b5 : Addr) (b26 : Addr) : Array Slot := #[.val (.long q1), .second, .val (.long q2), .second, .val (.long q3), .second, .val (.long q4), .second, .val (.long q5), .second, .val (.int p6), .val (.int (0 : Int32)), .val (.long q4), .second, .val (.long q5), .second, .val (.long (g0_2 q1 q2 q3 q4 q5 p6)), .second, .val (.long (f1 q2 (f1 q4 q5))), .second, .val (.long (g0_3 q1 q2 q3 q4 q5 p6)), .second, .val (.long q1), .second, .val (.ref b5), .val (.ref b26), .val (.int (1 : Int32)), .val (.int (0 : Int32)), .val (.int (3 : Int32)), .val (.int (5 : Int32)), .val (.int (1 : Int32)), .val (.int (2 : Int32)), .unset, .unset, .unset, .unset, .unset, .unset, .unset, .unset, .unset, .unset, .unset, .unset, .unset, .unset]
def LA0_42 (q1 : Int64) (q2 : Int64) (q3 : Int64) (q4 : Int64) (q5 : Int64) (p6 : Int32) (b5 : Addr) (b26 : Addr) : Array Slot := #[.val (.long q1), .second, .val (.long q2), .second, .val (.long q3), .second, .val (.long q4), .second, .val (.long q5), .second, .val (.int p6), .val (.int (0 : Int32)), .val (.long q4), .second, .val (.long q5), .second, .val (.long (g0_2 q1 q2 q3 q4 q5 p6)), .second, .val (.long (f1 q2 (f1 q4 q5))), .second, .val (.long (g0_3 q1 q2 q3 q4 q5 p6)), .second, .val (.long q1), .second, .val (.ref b5), .val (.ref b26), .val (.int (1 : Int32)), .val (.int (0 : Int32)), .val (.int (3 : Int32)), .val (.int (5 : Int32)), .val (.int (1 : Int32)), .val (.int (2 : Int32)), .val (.int (4 : Int32)), .unset, .unset, .unset, .unset, .unset, .unset, .unset, .unset, .unset, .unset, .unset, .unset, .unset]
def LA0_43 (q1 : Int64) (q2 : Int64) (q3 : Int64) (q4 : Int64) (q5 : Int64) (p6 : Int32) (b5 : Addr) (b26 : Addr) : Array Slot := #[.val (.long q1), .second, .val (.long q2), .second, .val (.long q3), .second, .val (.long q4), .second, .val (.long q5), .second, .val (.int p6), .val (.int (0 : Int32)), .val (.long q4), .second, .val (.long q5), .second, .val (.long (g0_2 q1 q2 q3 q4 q5 p6)), .second, .val (.long (f1 q2 (f1 q4 q5))), .second, .val (.long (g0_3 q1 q2 q3 q4 q5 p6)), .second, .val (.long q1), .second, .val (.ref b5), .val (.ref b26), .val (.int (1 : Int32)), .val (.int (0 : Int32)), .val (.int (3 : Int32)), .val (.int (5 : Int32)), .val (.int (1 : Int32)), .val (.int (2 : Int32)), .val (.int (4 : Int32)), .val (.int (63 : Int32)), .unset, .unset, .unset, .unset, .unset, .unset, .unset, .unset, .unset, .unset, .unset, .unset]
def LA0_44 (q1 : Int64) (q2 : Int64) (q3 : Int64) (q4 : Int64) (q5 : Int64) (p6 : Int32) (b5 : Addr) (b26 : Addr) : Array Slot := #[.val (.long q1), .second, .val (.long q2), .second, .val (.long q3), .second, .val (.long q4), .second, .val (.long q5), .second, .val (.int p6), .val (.int (0 : Int32)), .val (.long q4), .second, .val (.long q5), .second, .val (.long (g0_2 q1 q2 q3 q4 q5 p6)), .second, .val (.long (f1 q2 (f1 q4 q5))), .second, .val (.long (g0_3 q1 q2 q3 q4 q5 p6)), .second, .val (.long q1), .second, .val (.ref b5), .val (.ref b26), .val (.int (1 : Int32)), .val (.int (0 : Int32)), .val (.int (3 : Int32)), .val (.int (5 : Int32)), .val (.int (1 : Int32)), .val (.int (2 : Int32)), .val (.int (4 : Int32)), .val (.int (63 : Int32)), .val (.long (f1 q2 (f1 q4 q5))), .second, .unset, .unset, .unset, .unset, .unset, .unset, .unset, .unset, .unset, .unset]
def LA0_45 (q1 : Int64) (q2 : Int64) (q3 : Int64) (q4 : Int64) (q5 : Int64) (p6 : Int32) (b5 : Addr) (b26 : Addr) : Array Slot := #[.val (.long q1), .second, .val (.long q2), .second, .val (.long q3), .second, .val (.long q4), .second, .val (.long q5), .second, .val (.int p6), .val (.int (0 : Int32)), .val (.long q4), .second, .val (.long q5), .second, .val (.long (g0_2 q1 q2 q3 q4 q5 p6)), .second, .val (.long (f1 q2 (f1 q4 q5))), .second, .val (.long (g0_3 q1 q2 q3 q4 q5 p6)), .second, .val (.long q1), .second, .val (.ref b5), .val (.ref b26), .val (.int (1 : Int32)), .val (.int (0 : Int32)), .val (.int (3 : Int32)), .val (.int (5 : Int32)), .val (.int (1 : Int32)), .val (.int (2 : Int32)), .val (.int (4 : Int32)), .val (.int (63 : Int32)), .val (.long (f1 q2 (f1 q4 q5))), .second, .val (.long q5), .second, .unset, .unset, .unset, .unset, .unset, .unset, .unset, .unset]
def LA0_46 (q1 : Int64) (q2 : Int64) (q3 : Int64) (q4 : Int64) (q5 : Int64) (p6 : Int32) (b5 : Addr) (b26 : Addr) : Array Slot := #[.val (.long q1), .second, .val (.long q2), .second, .val (.long q3), .second, .val (.long q4), .second, .val (.long q5), .second, .val (.int p6), .val (.int (0 : Int32)), .val (.long q4), .second, .val (.long q5), .second, .val (.long (g0_2 q1 q2 q3 q4 q5 p6)), .second, .val (.long (f1 q2 (f1 q4 q5))), .second, .val (.long (g0_3 q1 q2 q3 q4 q5 p6)), .second, .val (.long q1), .second, .val (.ref b5), .val (.ref b26), .val (.int (1 : Int32)), .val (.int (0 : Int32)), .val (.int (3 : Int32)), .val (.int (5 : Int32)), .val (.int (1 : Int32)), .val (.int (2 : Int32)), .val (.int (4 : Int32)), .val (.int (63 : Int32)), .val (.long (f1 q2 (f1 q4 q5))), .second, .val (.long q5), .second, .val (.long (g0_3 q1 q2 q3 q4 q5 p6)), .second, .unset, .unset, .unset, .unset, .unset, .unset]
def LA0_47 (q1 : Int64) (q2 : Int64) (q3 : Int64) (q4 : Int64) (q5 : Int64) (p6 : Int32) (b5 : Addr) (b26 : Addr) : Array Slot := #[.val (.long q1), .second, .val (.long q2), .second, .val (.long q3), .second, .val (.long q4), .second, .val (.long q5), .second, .val (.int p6), .val (.int (0 : Int32)), .val (.long q4), .second, .val (.long q5), .second, .val (.long (g0_2 q1 q2 q3 q4 q5 p6)), .second, .val (.long (f1 q2 (f1 q4 q5))), .second, .val (.long (g0_3 q1 q2 q3 q4 q5 p6)), .second, .val (.long q1), .second, .val (.ref b5), .val (.ref b26), .val (.int (1 : Int32)), .val (.int (0 : Int32)), .val (.int (3 : Int32)), .val (.int (5 : Int32)), .val (.int (1 : Int32)), .val (.int (2 : Int32)), .val (.int (4 : Int32)), .val (.int (63 : Int32)), .val (.long (f1 q2 (f1 q4 q5))), .second, .val (.long q5), .second, .val (.long (g0_3 q1 q2 q3 q4 q5 p6)), .second, .val (.long q4), .second, .unset, .unset, .unset, .unset]
def LA0_48 (q1 : Int64) (q2 : Int64) (q3 : Int64) (q4 : Int64) (q5 : Int64) (p6 : Int32) (b5 : Addr) (b26 : Addr) : Array Slot := #[.val (.long q1), .second, .val (.long q2), .second, .val (.long q3), .second, .val (.long q4), .second, .val (.long q5), .second, .val (.int p6), .val (.int (0 : Int32)), .val (.long q4), .second, .val (.long q5), .second, .val (.long (g0_2 q1 q2 q3 q4 q5 p6)), .second, .val (.long (f1 q2 (f1 q4 q5))), .second, .val (.long (g0_3 q1 q2 q3 q4 q5 p6)), .second, .val (.long q1), .second, .val (.ref b5), .val (.ref b26), .val (.int (1 : Int32)), .val (.int (0 : Int32)), .val (.int (3 : Int32)), .val (.int (5 : Int32)), .val (.int (1 : Int32)), .val (.int (2 : Int32)), .val (.int (4 : Int32)), .val (.int (63 : Int32)), .val (.long (f1 q2 (f1 q4 q5))), .second, .val (.long q5), .second, .val (.long (g0_3 q1 q2 q3 q4 q5 p6)), .second, .val (.long q4), .second, .val (.long q1), .second, .unset, .unset]
def LA0_49 (q1 : Int64) (q2 : Int64) (q3 : Int64) (q4 : Int64) (q5 : Int64) (p6 : Int32) (b5 : Addr) (b26 : Addr) : Array Slot := #[.val (.long q1), .second, .val (.long q2), .second, .val (.long q3), .second, .val (.long q4), .second, .val (.long q5), .second, .val (.int p6), .val (.int (0 : Int32)), .val (.long q4), .second, .val (.long q5), .second, .val (.long (g0_2 q1 q2 q3 q4 q5 p6)), .second, .val (.long (f1 q2 (f1 q4 q5))), .second, .val (.long (g0_3 q1 q2 q3 q4 q5 p6)), .second, .val (.long q1), .second, .val (.ref b5), .val (.ref b26), .val (.int (1 : Int32)), .val (.int (0 : Int32)), .val (.int (3 : Int32)), .val (.int (5 : Int32)), .val (.int (1 : Int32)), .val (.int (2 : Int32)), .val (.int (4 : Int32)), .val (.int (63 : Int32)), .val (.long (f1 q2 (f1 q4 q5))), .second, .val (.long q5), .second, .val (.long (g0_3 q1 q2 q3 q4 q5 p6)), .second, .val (.long q4), .second, .val (.long q1), .second, .val (.long (g0_2 q1 q2 q3 q4 q5 p6)), .second]
def LA0_50 (q1 : Int64) (q2 : Int64) (q3 : Int64) (q4 : Int64) (q5 : Int64) (p6 : Int32) (b5 : Addr) (b26 : Addr) : Array Slot := #[.val (.long q1), .second, .val (.long q2), .second, .val (.long q3), .second, .val (.long q4), .second, .val (.long q5), .second, .val (.int p6), .val (.int (0 : Int32)), .val (.long q4), .second, .val (.long q5), .second, .val (.long (g0_2 q1 q2 q3 q4 q5 p6)), .second, .val (.long (f1 q2 (f1 q4 q5))), .second, .val (.long (g0_3 q1 q2 q3 q4 q5 p6)), .second, .val (.long q1), .second, .val (.ref b5), .val (.ref b26), .val (.int (0 : Int32)), .val (.int (0 : Int32)), .val (.int (3 : Int32)), .val (.int (5 : Int32)), .val (.int (1 : Int32)), .val (.int (2 : Int32)), .val (.int (4 : Int32)), .val (.int (63 : Int32)), .val (.long (f1 q2 (f1 q4 q5))), .second, .val (.long q5), .second, .val (.long (g0_3 q1 q2 q3 q4 q5 p6)), .second, .val (.long q4), .second, .val (.long q1), .second, .val (.long (g0_2 q1 q2 q3 q4 q5 p6)), .second]
def LA0_51 (q1 : Int64) (q2 : Int64) (q3 : Int64) (q4 : Int64) (q5 : Int64) (p6 : Int32) (b5 : Addr) (b26 : Addr) : Array Slot := #[.val (.long q1), .second, .val (.long q2), .second, .val (.long q3), .second, .val (.long q4), .second, .val (.long q5), .second, .val (.int p6), .val (.int (0 : Int32)), .val (.long q4), .second, .val (.long q5), .second, .val (.long (g0_2 q1 q2 q3 q4 q5 p6)), .second, .val (.long (f1 q2 (f1 q4 q5))), .second, .val (.long (g0_3 q1 q2 q3 q4 q5 p6)), .second, .val (.long q1), .second, .val (.ref b5), .val (.ref b26), .val (.int (1 : Int32)), .val (.int (0 : Int32)), .val (.int (1 : Int32)), .unset, .unset, .unset, .unset, .unset, .unset, .unset, .unset, .unset, .unset, .unset, .unset, .unset, .unset, .unset, .unset, .unset]
def LA0_52 (q1 : Int64) (q2 : Int64) (q3 : Int64) (q4 : Int64) (q5 : Int64) (p6 : Int32) (b5 : Addr) (b26 : Addr) : Array Slot := #[.val (.long q1), .second, .val (.long q2), .second, .val (.long q3), .second, .val (.long q4), .second, .val (.long q5), .second, .val (.int p6), .val (.int (0 : Int32)), .val (.long q4), .second, .val (.long q5), .second, .val (.long (g0_2 q1 q2 q3 q4 q5 p6)), .second, .val (.long (f1 q2 (f1 q4 q5))), .second, .val (.long (g0_3 q1 q2 q3 q4 q5 p6)), .second, .val (.long q1), .second, .val (.ref b5), .val (.ref b26), .val (.int (1 : Int32)), .val (.int (0 : Int32)), .val (.int (1 : Int32)), .val (.int (5 : Int32)), .unset, .unset, .unset, .unset, .unset, .unset, .unset, .unset, .unset, .unset, .unset, .unset, .unset, .unset, .unset, .unset]
def LA0_53 (q1 : Int64) (q2 : Int64) (q3 : Int64) (q4 : Int64) (q5 : Int64) (p6 : Int32) (b5 : Addr) (b26 : Addr) : Array Slot := #[.val (.long q1), .second, .val (.long q2), .second, .val (.long q3), .second, .val (.long q4), .second, .val (.long q5), .second, .val (.int p6), .val (.int (0 : Int32)), .val (.long q4), .second, .val (.long q5), .second, .val (.long (g0_2 q1 q2 q3 q4 q5 p6)), .second, .val (.long (f1 q2 (f1 q4 q5))), .second, .val (.long (g0_3 q1 q2 q3 q4 q5 p6)), .second, .val (.long q1), .second, .val (.ref b5), .val (.ref b26), .val (.int (1 : Int32)), .val (.int (0 : Int32)), .val (.int (1 : Int32)), .val (.int (5 : Int32)), .val (.int (2 : Int32)), .unset, .unset, .unset, .unset, .unset, .unset, .unset, .unset, .unset, .unset, .unset, .unset, .unset, .unset, .unset]
def LA0_54 (q1 : Int64) (q2 : Int64) (q3 : Int64) (q4 : Int64) (q5 : Int64) (p6 : Int32) (b5 : Addr) (b26 : Addr) : Array Slot := #[.val (.long q1), .second, .val (.long q2), .second, .val (.long q3), .second, .val (.long q4), .second, .val (.long q5), .second, .val (.int p6), .val (.int (0 : Int32)), .val (.long q4), .second, .val (.long q5), .second, .val (.long (g0_2 q1 q2 q3 q4 q5 p6)), .second, .val (.long (f1 q2 (f1 q4 q5))), .second, .val (.long (g0_3 q1 q2 q3 q4 q5 p6)), .second, .val (.long q1), .second, .val (.ref b5), .val (.ref b26), .val (.int (1 : Int32)), .val (.int (0 : Int32)), .val (.int (1 : Int32)), .val (.int (5 : Int32)), .val (.int (2 : Int32)), .val (.int (3 : Int32)), .unset, .unset, .unset, .unset, .unset, .unset, .unset, .unset, .unset, .unset, .unset, .unset, .unset, .unset]
def LA0_55 (q1 : Int64) (q2 : Int64) (q3 : Int64) (q4 : Int64) (q5 : Int64) (p6 : Int32) (b5 : Addr) (b26 : Addr) : Array Slot := #[.val (.long q1), .second, .val (.long q2), .second, .val (.long q3), .second, .val (.long q4), .second, .val (.long q5), .second, .val (.int p6), .val (.int (0 : Int32)), .val (.long q4), .second, .val (.long q5), .second, .val (.long (g0_2 q1 q2 q3 q4 q5 p6)), .second, .val (.long (f1 q2 (f1 q4 q5))), .second, .val (.long (g0_3 q1 q2 q3 q4 q5 p6)), .second, .val (.long q1), .second, .val (.ref b5), .val (.ref b26), .val (.int (1 : Int32)), .val (.int (0 : Int32)), .val (.int (1 : Int32)), .val (.int (5 : Int32)), .val (.int (2 : Int32)), .val (.int (3 : Int32)), .val (.int (4 : Int32)), .unset, .unset, .unset, .unset, .unset, .unset, .unset, .unset, .unset, .unset, .unset, .unset, .unset]
def LA0_56 (q1 : Int64) (q2 : Int64) (q3 : Int64) (q4 : Int64) (q5 : Int64) (p6 : Int32) (b5 : Addr) (b26 : Addr) : Array Slot := #[.val (.long q1), .second, .val (.long q2), .second, .val (.long q3), .second, .val (.long q4), .second, .val (.long q5), .second, .val (.int p6), .val (.int (0 : Int32)), .val (.long q4), .second, .val (.long q5), .second, .val (.long (g0_2 q1 q2 q3 q4 q5 p6)), .second, .val (.long (f1 q2 (f1 q4 q5))), .second, .val (.long (g0_3 q1 q2 q3 q4 q5 p6)), .second, .val (.long q1), .second, .val (.ref b5), .val (.ref b26), .val (.int (1 : Int32)), .val (.int (0 : Int32)), .val (.int (1 : Int32)), .val (.int (5 : Int32)), .val (.int (2 : Int32)), .val (.int (3 : Int32)), .val (.int (4 : Int32)), .val (.int (63 : Int32)), .unset, .unset, .unset, .unset, .unset, .unset, .unset, .unset, .unset, .unset, .unset, .unset]
def LA0_57 (q1 : Int64) (q2 : Int64) (q3 : Int64) (q4 : Int64) (q5 : Int64) (p6 : Int32) (b5 : Addr) (b26 : Addr) : Array Slot := #[.val (.long q1), .second, .val (.long q2), .second, .val (.long q3), .second, .val (.long q4), .second, .val (.long q5), .second, .val (.int p6), .val (.int (0 : Int32)), .val (.long q4), .second, .val (.long q5), .second, .val (.long (g0_2 q1 q2 q3 q4 q5 p6)), .second, .val (.long (f1 q2 (f1 q4 q5))), .second, .val (.long (g0_3 q1 q2 q3 q4 q5 p6)), .second, .val (.long q1), .second, .val (.ref b5), .val (.ref b26), .val (.int (1 : Int32)), .val (.int (0 : Int32)), .val (.int (1 : Int32)), .val (.int (5 : Int32)), .val (.int (2 : Int32)), .val (.int (3 : Int32)), .val (.int (4 : Int32)), .val (.int (63 : Int32)), .val (.long (f1 q2 (f1 q4 q5))), .second, .unset, .unset, .unset, .unset, .unset, .unset, .unset, .unset, .unset, .unset]
def LA0_58 (q1 : Int64) (q2 : Int64) (q3 : Int64) (q4 : Int64) (q5 : Int64) (p6 : Int32) (b5 : Addr) (b26 : Addr) : Array Slot := #[.val (.long q1), .second, .val (.long q2), .second, .val (.long q3), .second, .val (.long q4), .second, .val (.long q5), .second, .val (.int p6), .val (.int (0 : Int32)), .val (.long q4), .second, .val (.long q5), .second, .val (.long (g0_2 q1 q2 q3 q4 q5 p6)), .second, .val (.long (f1 q2 (f1 q4 q5))), .second, .val (.long (g0_3 q1 q2 q3 q4 q5 p6)), .second, .val (.long q1), .second, .val (.ref b5), .val (.ref b26), .val (.int (1 : Int32)), .val (.int (0 : Int32)), .val (.int (1 : Int32)), .val (.int (5 : Int32)), .val (.int (2 : Int32)), .val (.int (3 : Int32)), .val (.int (4 : Int32)), .val (.int (63 : Int32)), .val (.long (f1 q2 (f1 q4 q5))), .second, .val (.long q4), .second, .unset, .unset, .unset, .unset, .unset, .unset, .unset, .unset]
def LA0_59 (q1 : Int64) (q2 : Int64) (q3 : Int64) (q4 : Int64) (q5 : Int64) (p6 : Int32) (b5 : Addr) (b26 : Addr) : Array Slot := #[.val (.long q1), .second, .val (.long q2), .second, .val (.long q3), .second, .val (.long q4), .second, .val (.long q5), .second, .val (.int p6), .val (.int (0 : Int32)), .val (.long q4), .second, .val (.long q5), .second, .val (.long (g0_2 q1 q2 q3 q4 q5 p6)), .second, .val (.long (f1 q2 (f1 q4 q5))), .second, .val (.long (g0_3 q1 q2 q3 q4 q5 p6)), .second, .val (.long q1), .second, .val (.ref b5), .val (.ref b26), .val (.int (1 : Int32)), .val (.int (0 : Int32)), .val (.int (1 : Int32)), .val (.int (5 : Int32)), .val (.int (2 : Int32)), .val (.int (3 : Int32)), .val (.int (4 : Int32)), .val (.int (63 : Int32)), .val (.long (f1 q2 (f1 q4 q5))), .second, .val (.long q4), .second, .val (.long (g0_3 q1 q2 q3 q4 q5 p6)), .second, .unset, .unset, .unset, .unset, .unset, .unset]
def LA0_60 (q1 : Int64) (q2 : Int64) (q3 : Int64) (q4 : Int64) (q5 : Int64) (p6 : Int32) (b5 : Addr) (b26 : Addr) : Array Slot := #[.val (.long q1), .second, .val (.long q2), .second, .val (.long q3), .second, .val (.long q4), .second, .val (.long q5), .second, .val (.int p6), .val (.int (0 : Int32)), .val (.long q4), .second, .val (.long q5), .second, .val (.long (g0_2 q1 q2 q3 q4 q5 p6)), .second, .val (.long (f1 q2 (f1 q4 q5))), .second, .val (.long (g0_3 q1 q2 q3 q4 q5 p6)), .second, .val (.long q1), .second, .val (.ref b5), .val (.ref b26), .val (.int (1 : Int32)), .val (.int (0 : Int32)), .val (.int (1 : Int32)), .val (.int (5 : Int32)), .val (.int (2 : Int32)), .val (.int (3 : Int32)), .val (.int (4 : Int32)), .val (.int (63 : Int32)), .val (.long (f1 q2 (f1 q4 q5))), .second, .val (.long q4), .second, .val (.long (g0_3 q1 q2 q3 q4 q5 p6)), .second, .val (.long q1), .second, .unset, .unset, .unset, .unset]
def LA0_61 (q1 : Int64) (q2 : Int64) (q3 : Int64) (q4 : Int64) (q5 : Int64) (p6 : Int32) (b5 : Addr) (b26 : Addr) : Array Slot := #[.val (.long q1), .second, .val (.long q2), .second, .val (.long q3), .second, .val (.long q4), .second, .val (.long q5), .second, .val (.int p6), .val (.int (0 : Int32)), .val (.long q4), .second, .val (.long q5), .second, .val (.long (g0_2 q1 q2 q3 q4 q5 p6)), .second, .val (.long (f1 q2 (f1 q4 q5))), .second, .val (.long (g0_3 q1 q2 q3 q4 q5 p6)), .second, .val (.long q1), .second, .val (.ref b5), .val (.ref b26), .val (.int (1 : Int32)), .val (.int (0 : Int32)), .val (.int (1 : Int32)), .val (.int (5 : Int32)), .val (.int (2 : Int32)), .val (.int (3 : Int32)), .val (.int (4 : Int32)), .val (.int (63 : Int32)), .val (.long (f1 q2 (f1 q4 q5))), .second, .val (.long q4), .second, .val (.long (g0_3 q1 q2 q3 q4 q5 p6)), .second, .val (.long q1), .second, .val (.long q5), .second, .unset, .unset]
def LA0_62 (q1 : Int64) (q2 : Int64) (q3 : Int64) (q4 : Int64) (q5 : Int64) (p6 : Int32) (b5 : Addr) (b26 : Addr) : Array Slot := #[.val (.long q1), .second, .val (.long q2), .second, .val (.long q3), .second, .val (.long q4), .second, .val (.long q5), .second, .val (.int p6), .val (.int (0 : Int32)), .val (.long q4), .second, .val (.long q5), .second, .val (.long (g0_2 q1 q2 q3 q4 q5 p6)), .second, .val (.long (f1 q2 (f1 q4 q5))), .second, .val (.long (g0_3 q1 q2 q3 q4 q5 p6)), .second, .val (.long q1), .second, .val (.ref b5), .val (.ref b26), .val (.int (1 : Int32)), .val (.int (0 : Int32)), .val (.int (1 : Int32)), .val (.int (5 : Int32)), .val (.int (2 : Int32)), .val (.int (3 : Int32)), .val (.int (4 : Int32)), .val (.int (63 : Int32)), .val (.long (f1 q2 (f1 q4 q5))), .second, .val (.long q4), .second, .val (.long (g0_3 q1 q2 q3 q4 q5 p6)), .second, .val (.long q1), .second, .val (.long q5), .second, .val (.long (g0_2 q1 q2 q3 q4 q5 p6)), .second]
def LA0_63 (q1 : Int64) (q2 : Int64) (q3 : Int64) (q4 : Int64) (q5 : Int64) (p6 : Int32) (b5 : Addr) (b26 : Addr) : Array Slot := #[.val (.long q1), .second, .val (.long q2), .second, .val (.long q3), .second, .val (.long q4), .second, .val (.long q5), .second, .val (.int p6), .val (.int (0 : Int32)), .val (.long q4), .second, .val (.long q5), .second, .val (.long (g0_2 q1 q2 q3 q4 q5 p6)), .second, .val (.long (f1 q2 (f1 q4 q5))), .second, .val (.long (g0_3 q1 q2 q3 q4 q5 p6)), .second, .val (.long q1), .second, .val (.ref b5), .val (.ref b26), .val (.int (0 : Int32)), .val (.int (0 : Int32)), .val (.int (1 : Int32)), .val (.int (5 : Int32)), .val (.int (2 : Int32)), .val (.int (3 : Int32)), .val (.int (4 : Int32)), .val (.int (63 : Int32)), .val (.long (f1 q2 (f1 q4 q5))), .second, .val (.long q4), .second, .val (.long (g0_3 q1 q2 q3 q4 q5 p6)), .second, .val (.long q1), .second, .val (.long q5), .second, .val (.long (g0_2 q1 q2 q3 q4 q5 p6)), .second]
def LA0_64 (q1 : Int64) (q2 : Int64) (q3 : Int64) (q4 : Int64) (q5 : Int64) (p6 : Int32) (b5 : Addr) (b26 : Addr) : Array Slot := #[.val (.long q1), .second, .val (.long q2), .second, .val (.long q3), .second, .val (.long q4), .second, .val (.long q5), .second, .val (.int p6), .val (.int (0 : Int32)), .val (.long q4), .second, .val (.long q5), .second, .val (.long (g0_2 q1 q2 q3 q4 q5 p6)), .second, .val (.long (f1 q2 (f1 q4 q5))), .second, .val (.long (g0_3 q1 q2 q3 q4 q5 p6)), .second, .val (.long q1), .second, .val (.ref b5), .val (.ref b26), .val (.int (1 : Int32)), .val (.int (0 : Int32)), .val (.int (2 : Int32)), .unset, .unset, .unset, .unset, .unset, .unset, .unset, .unset, .unset, .unset, .unset, .unset, .unset, .unset, .unset, .unset, .unset]
def LA0_65 (q1 : Int64) (q2 : Int64) (q3 : Int64) (q4 : Int64) (q5 : Int64) (p6 : Int32) (b5 : Addr) (b26 : Addr) : Array Slot := #[.val (.long q1), .second, .val (.long q2), .second, .val (.long q3), .second, .val (.long q4), .second, .val (.long q5), .second, .val (.int p6), .val (.int (0 : Int32)), .val (.long q4), .second, .val (.long q5), .second, .val (.long (g0_2 q1 q2 q3 q4 q5 p6)), .second, .val (.long (f1 q2 (f1 q4 q5))), .second, .val (.long (g0_3 q1 q2 q3 q4 q5 p6)), .second, .val (.long q1), .second, .val (.ref b5), .val (.ref b26), .val (.int (1 : Int32)), .val (.int (0 : Int32)), .val (.int (2 : Int32)), .val (.int (5 : Int32)), .unset, .unset, .unset, .unset, .unset, .unset, .unset, .unset, .unset, .unset, .unset, .unset, .unset, .unset, .unset, .unset]
def LA0_66 (q1 : Int64) (q2 : Int64) (q3 : Int64) (q4 : Int64) (q5 : Int64) (p6 : Int32) (b5 : Addr) (b26 : Addr) : Array Slot := #[.val (.long q1), .second, .val (.long q2), .second, .val (.long q3), .second, .val (.long q4), .second, .val (.long q5), .second, .val (.int p6), .val (.int (0 : Int32)), .val (.long q4), .second, .val (.long q5), .second, .val (.long (g0_2 q1 q2 q3 q4 q5 p6)), .second, .val (.long (f1 q2 (f1 q4 q5))), .second, .val (.long (g0_3 q1 q2 q3 q4 q5 p6)), .second, .val (.long q1), .second, .val (.ref b5), .val (.ref b26), .val (.int (1 : Int32)), .val (.int (0 : Int32)), .val (.int (2 : Int32)), .val (.int (5 : Int32)), .val (.int (1 : Int32)), .unset, .unset, .unset, .unset, .unset, .unset, .unset, .unset, .unset, .unset, .unset, .unset, .unset, .unset, .unset]
def LA0_67 (q1 : Int64) (q2 : Int64) (q3 : Int64) (q4 : Int64) (q5 : Int64) (p6 : Int32) (b5 : Addr) (b26 : Addr) : Array Slot := #[.val (.long q1), .second, .val (.long q2), .second, .val (.long q3), .second, .val (.long q4), .second, .val (.long q5), .second, .val (.int p6), .val (.int (0 : Int32)), .val (.long q4), .second, .val (.long q5), .second, .val (.long (g0_2 q1 q2 q3 q4 q5 p6)), .second, .val (.long (f1 q2 (f1 q4 q5))), .second, .val (.long (g0_3 q1 q2 q3 q4 q5 p6)), .second, .val (.long q1), .second, .val (.ref b5), .val (.ref b26), .val (.int (1 : Int32)), .val (.int (0 : Int32)), .val (.int (2 : Int32)), .val (.int (5 : Int32)), .val (.int (1 : Int32)), .val (.int (3 : Int32)), .unset, .unset, .unset, .unset, .unset, .unset, .unset, .unset, .unset, .unset, .unset, .unset, .unset, .unset]
def LA0_68 (q1 : Int64) (q2 : Int64) (q3 : Int64) (q4 : Int64) (q5 : Int64) (p6 : Int32) (b5 : Addr) (b26 : Addr) : Array Slot := #[.val (.long q1), .second, .val (.long q2), .second, .val (.long q3), .second, .val (.long q4), .second, .val (.long q5), .second, .val (.int p6), .val (.int (0 : Int32)), .val (.long q4), .second, .val (.long q5), .second, .val (.long (g0_2 q1 q2 q3 q4 q5 p6)), .second, .val (.long (f1 q2 (f1 q4 q5))), .second, .val (.long (g0_3 q1 q2 q3 q4 q5 p6)), .second, .val (.long q1), .second, .val (.ref b5), .val (.ref b26), .val (.int (1 : Int32)), .val (.int (0 : Int32)), .val (.int (2 : Int32)), .val (.int (5 : Int32)), .val (.int (1 : Int32)), .val (.int (3 : Int32)), .val (.int (4 : Int32)), .unset, .unset, .unset, .unset, .unset, .unset, .unset, .unset, .unset, .unset, .unset, .unset, .unset]
def LA0_69 (q1 : Int64) (q2 : Int64) (q3 : Int64) (q4 : Int64) (q5 : Int64) (p6 : Int32) (b5 : Addr) (b26 : Addr) : Array Slot := #[.val (.long q1), .second, .val (.long q2), .second, .val (.long q3), .second, .val (.long q4), .second, .val (.long q5), .second, .val (.int p6), .val (.int (0 : Int32)), .val (.long q4), .second, .val (.long q5), .second, .val (.long (g0_2 q1 q2 q3 q4 q5 p6)), .second, .val (.long (f1 q2 (f1 q4 q5))), .second, .val (.long (g0_3 q1 q2 q3 q4 q5 p6)), .second, .val (.long q1), .second, .val (.ref b5), .val (.ref b26), .val (.int (1 : Int32)), .val (.int (0 : Int32)), .val (.int (2 : Int32)), .val (.int (5 : Int32)), .val (.int (1 : Int32)), .val (.int (3 : Int32)), .val (.int (4 : Int32)), .val (.int (63 : Int32)), .unset, .unset, .unset, .unset, .unset, .unset, .unset, .unset, .unset, .unset, .unset, .unset]
def LA0_70 (q1 : Int64) (q2 : Int64) (q3 : Int64) (q4 : Int64) (q5 : Int64) (p6 : Int32) (b5 : Addr) (b26 : Addr) : Array Slot := #[.val (.long q1), .second, .val (.long q2), .second, .val (.long q3), .second, .val (.long q4), .second, .val (.long q5), .second, .val (.int p6), .val (.int (0 : Int32)), .val (.long q4), .second, .val (.long q5), .second, .val (.long (g0_2 q1 q2 q3 q4 q5 p6)), .second, .val (.long (f1 q2 (f1 q4 q5))), .second, .val (.long (g0_3 q1 q2 q3 q4 q5 p6)), .second, .val (.long q1), .second, .val (.ref b5), .val (.ref b26), .val (.int (1 : Int32)), .val (.int (0 : Int32)), .val (.int (2 : Int32)), .val (.int (5 : Int32)), .val (.int (1 : Int32)), .val (.int (3 : Int32)), .val (.int (4 : Int32)), .val (.int (63 : Int32)), .val (.long (f1 q2 (f1 q4 q5))), .second, .unset, .unset, .unset, .unset, .unset, .unset, .unset, .unset, .unset, .unset]
def LA0_71 (q1 : Int64) (q2 : Int64) (q3 : Int64) (q4 : Int64) (q5 : Int64) (p6 : Int32) (b5 : Addr) (b26 : Addr) : Array Slot := #[.val (.long q1), .second, .val (.long q2), .second, .val (.long q3), .second, .val (.long q4), .second, .val (.long q5), .second, .val (.int p6), .val (.int (0 : Int32)), .val (.long q4), .second, .val (.long q5), .second, .val (.long (g0_2 q1 q2 q3 q4 q5 p6)), .second, .val (.long (f1 q2 (f1 q4 q5))), .second, .val (.long (g0_3 q1 q2 q3 q4 q5 p6)), .second, .val (.long q1), .second, .val (.ref b5), .val (.ref b26), .val (.int (1 : Int32)), .val (.int (0 : Int32)), .val (.int (2 : Int32)), .val (.int (5 : Int32)), .val (.int (1 : Int32)), .val (.int (3 : Int32)), .val (.int (4 : Int32)), .val (.int (63 : Int32)), .val (.long (f1 q2 (f1 q4 q5))), .second, .val (.long q1), .second, .unset, .unset, .unset, .unset, .unset, .unset, .unset, .unset]
def LA0_72 (q1 : Int64) (q2 : Int64) (q3 : Int64) (q4 : Int64) (q5 : Int64) (p6 : Int32) (b5 : Addr) (b26 : Addr) : Array Slot := #[.val (.long q1), .second, .val (.long q2), .second, .val (.long q3), .second, .val (.long q4), .second, .val (.long q5), .second, .val (.int p6), .val (.int (0 : Int32)), .val (.long q4), .second, .val (.long q5), .second, .val (.long (g0_2 q1 q2 q3 q4 q5 p6)), .second, .val (.long (f1 q2 (f1 q4 q5))), .second, .val (.long (g0_3 q1 q2 q3 q4 q5 p6)), .second, .val (.long q1), .second, .val (.ref b5), .val (.ref b26), .val (.int (1 : Int32)), .val (.int (0 : Int32)), .val (.int (2 : Int32)), .val (.int (5 : Int32)), .val (.int (1 : Int32)), .val (.int (3 : Int32)), .val (.int (4 : Int32)), .val (.int (63 : Int32)), .val (.long (f1 q2 (f1 q4 q5))), .second, .val (.long q1), .second, .val (.long (g0_3 q1 q2 q3 q4 q5 p6)), .second, .unset, .unset, .unset, .unset, .unset, .unset]
def LA0_73 (q1 : Int64) (q2 : Int64) (q3 : Int64) (q4 : Int64) (q5 : Int64) (p6 : Int32) (b5 : Addr) (b26 : Addr) : Array Slot := #[.val (.long q1), .second, .val (.long q2), .second, .val (.long q3), .second, .val (.long q4), .second, .val (.long q5), .second, .val (.int p6), .val (.int (0 : Int32)), .val (.long q4), .second, .val (.long q5), .second, .val (.long (g0_2 q1 q2 q3 q4 q5 p6)), .second, .val (.long (f1 q2 (f1 q4 q5))), .second, .val (.long (g0_3 q1 q2 q3 q4 q5 p6)), .second, .val (.long q1), .second, .val (.ref b5), .val (.ref b26), .val (.int (1 : Int32)), .val (.int (0 : Int32)), .val (.int (2 : Int32)), .val (.int (5 : Int32)), .val (.int (1 : Int32)), .val (.int (3 : Int32)), .val (.int (4 : Int32)), .val (.int (63 : Int32)), .val (.long (f1 q2 (f1 q4 q5))), .second, .val (.long q1), .second, .val (.long (g0_3 q1 q2 q3 q4 q5 p6)), .second, .val (.long q4), .second, .unset, .unset, .unset, .unset]
def LA0_74 (q1 : Int64) (q2 : Int64) (q3 : Int64) (q4 : Int64) (q5 : Int64) (p6 : Int32) (b5 : Addr) (b26 : Addr) : Array Slot := #[.val (.long q1), .second, .val (.long q2), .second, .val (.long q3), .second, .val (.long q4), .second, .val (.long q5), .second, .val (.int p6), .val (.int (0 : Int32)), .val (.long q4), .second, .val (.long q5), .second, .val (.long (g0_2 q1 q2 q3 q4 q5 p6)), .second, .val (.long (f1 q2 (f1 q4 q5))), .second, .val (.long (g0_3 q1 q2 q3 q4 q5 p6)), .second, .val (.long q1), .second, .val (.ref b5), .val (.ref b26), .val (.int (1 : Int32)), .val (.int (0 : Int32)), .val (.int (2 : Int32)), .val (.int (5 : Int32)), .val (.int (1 : Int32)), .val (.int (3 : Int32)), .val (.int (4 : Int32)), .val (.int (63 : Int32)), .val (.long (f1 q2 (f1 q4 q5))), .second, .val (.long q1), .second, .val (.long (g0_3 q1 q2 q3 q4 q5 p6)), .second, .val (.long q4), .second, .val (.long q5), .second, .unset, .unset]
def LA0_75 (q1 : Int64) (q2 : Int64) (q3 : Int64) (q4 : Int64) (q5 : Int64) (p6 : Int32) (b5 : Addr) (b26 : Addr) : Array Slot := #[.val (.long q1), .second, .val (.long q2), .second, .val (.long q3), .second, .val (.long q4), .second, .val (.long q5), .second, .val (.int p6), .val (.int (0 : Int32)), .val (.long q4), .second, .val (.long q5), .second, .val (.long (g0_2 q1 q2 q3 q4 q5 p6)), .second, .val (.long (f1 q2 (f1 q4 q5))), .second, .val (.long (g0_3 q1 q2 q3 q4 q5 p6)), .second, .val (.long q1), .second, .val (.ref b5), .val (.ref b26), .val (.int (1 : Int32)), .val (.int (0 : Int32)), .val (.int (2 : Int32)), .val (.int (5 : Int32)), .val (.int (1 : Int32)), .val (.int (3 : Int32)), .val (.int (4 : Int32)), .val (.int (63 : Int32)), .val (.long (f1 q2 (f1 q4 q5))), .second, .val (.long q1), .second, .val (.long (g0_3 q1 q2 q3 q4 q5 p6)), .second, .val (.long q4), .second, .val (.long q5), .second, .val (.long (g0_2 q1 q2 q3 q4 q5 p6)), .second]
def LA0_76 (q1 : Int64) (q2 : Int64) (q3 : Int64) (q4 : Int64) (q5 : Int64) (p6 : Int32) (b5 : Addr) (b26 : Addr) : Array Slot := #[.val (.long q1), .second, .val (.long q2), .second, .val (.long q3), .second, .val (.long q4), .second, .val (.long q5), .second, .val (.int p6), .val (.int (0 : Int32)), .val (.long q4), .second, .val (.long q5), .second, .val (.long (g0_2 q1 q2 q3 q4 q5 p6)), .second, .val (.long (f1 q2 (f1 q4 q5))), .second, .val (.long (g0_3 q1 q2 q3 q4 q5 p6)), .second, .val (.long q1), .second, .val (.ref b5), .val (.ref b26), .val (.int (0 : Int32)), .val (.int (0 : Int32)), .val (.int (2 : Int32)), .val (.int (5 : Int32)), .val (.int (1 : Int32)), .val (.int (3 : Int32)), .val (.int (4 : Int32)), .val (.int (63 : Int32)), .val (.long (f1 q2 (f1 q4 q5))), .second, .val (.long q1), .second, .val (.long (g0_3 q1 q2 q3 q4 q5 p6)), .second, .val (.long q4), .second, .val (.long q5), .second, .val (.long (g0_2 q1 q2 q3 q4 q5 p6)), .second]
def LA0_77 (q1 : Int64) (q2 : Int64) (q3 : Int64) (q4 : Int64) (q5 : Int64) (p6 : Int32) (b5 : Addr) (b26 : Addr) : Array Slot := #[.val (.long q1), .second, .val (.long q2), .second, .val (.long q3), .second, .val (.long q4), .second, .val (.long q5), .second, .val (.int p6), .val (.int (0 : Int32)), .val (.long q4), .second, .val (.long q5), .second, .val (.long (g0_2 q1 q2 q3 q4 q5 p6)), .second, .val (.long (f1 q2 (f1 q4 q5))), .second, .val (.long (g0_3 q1 q2 q3 q4 q5 p6)), .second, .val (.long q1), .second, .val (.ref b5), .val (.ref b26), .val (.int (1 : Int32)), .val (.int (2 : Int32)), .unset, .unset, .unset, .unset, .unset, .unset, .unset, .unset, .unset, .unset, .unset, .unset, .unset, .unset, .unset, .unset, .unset, .unset]
def LA0_78 (q1 : Int64) (q2 : Int64) (q3 : Int64) (q4 : Int64) (q5 : Int64) (p6 : Int32) (b5 : Addr) (b26 : Addr) : Array Slot := #[.val (.long q1), .second, .val (.long q2), .second, .val (.long q3), .second, .val (.long q4), .second, .val (.long q5), .second, .val (.int p6), .val (.int (0 : Int32)), .val (.long q4), .second, .val (.long q5), .second, .val (.long (g0_2 q1 q2 q3 q4 q5 p6)), .second, .val (.long (f1 q2 (f1 q4 q5))), .second, .val (.long (g0_3 q1 q2 q3 q4 q5 p6)), .second, .val (.long q1), .second, .val (.ref b5), .val (.ref b26), .val (.int (1 : Int32)), .val (.int (2 : Int32)), .val (.int (0 : Int32)), .unset, .unset, .unset, .unset, .unset, .unset, .unset, .unset, .unset, .unset, .unset, .unset, .unset, .unset, .unset, .unset, .unset]
def LA0_79 (q1 : Int64) (q2 : Int64) (q3 : Int64) (q4 : Int64) (q5 : Int64) (p6 : Int32) (b5 : Addr) (b26 : Addr) : Array Slot := #[.val (.long q1), .second, .val (.long q2), .second, .val (.long q3), .second, .val (.long q4), .second, .val (.long q5), .second, .val (.int p6), .val (.int (0 : Int32)), .val (.long q4), .second, .val (.long q5), .second, .val (.long (g0_2 q1 q2 q3 q4 q5 p6)), .second, .val (.long (f1 q2 (f1 q4 q5))), .second, .val (.long (g0_3 q1 q2 q3 q4 q5 p6)), .second, .val (.long q1), .second, .val (.ref b5), .val (.ref b26), .val (.int (1 : Int32)), .val (.int (2 : Int32)), .val (.int (0 : Int32)), .val (.int (5 : Int32)), .unset, .unset, .unset, .unset, .unset, .unset, .unset, .unset, .unset, .unset, .unset, .unset, .unset, .unset, .unset, .unset]
def LA0_80 (q1 : Int64) (q2 : Int64) (q3 : Int64) (q4 : Int64) (q5 : Int64) (p6 : Int32) (b5 : Addr) (b26 : Addr) : Array Slot := #[.val (.long q1), .second, .val (.long q2), .second, .val (.long q3), .second, .val (.long q4), .second, .val (.long q5), .second, .val (.int p6), .val (.int (0 : Int32)), .val (.long q4), .second, .val (.long q5), .second, .val (.long (g0_2 q1 q2 q3 q4 q5 p6)), .second, .val (.long (f1 q2 (f1 q4 q5))), .second, .val (.long (g0_3 q1 q2 q3 q4 q5 p6)), .second, .val (.long q1), .second, .val (.ref b5), .val (.ref b26), .val (.int (1 : Int32)), .val (.int (2 : Int32)), .val (.int (0 : Int32)), .val (.int (5 : Int32)), .val (.int (1 : Int32)), .unset, .unset, .unset, .unset, .unset, .unset, .unset, .unset, .unset, .unset, .unset, .unset, .unset, .unset, .unset]
def LA0_81 (q1 : Int64) (q2 : Int64) (q3 : Int64) (q4 : Int64) (q5 : Int64) (p6 : Int32) (b5 : Addr) (b26 : Addr) : Array Slot := #[.val (.long q1), .second, .val (.long q2), .second, .val (.long q3), .second, .val (.long q4), .second, .val (.long q5), .second, .val (.int p6), .val (.int (0 : Int32)), .val (.long q4), .second, .val (.long q5), .second, .val (.long (g0_2 q1 q2 q3 q4 q5 p6)), .second, .val (.long (f1 q2 (f1 q4 q5))), .second, .val (.long (g0_3 q1 q2 q3 q4 q5 p6)), .second, .val (.long q1), .second, .val (.ref b5), .val (.ref b26), .val (.int (1 : Int32)), .val (.int (2 : Int32)), .val (.int (0 : Int32)), .val (.int (5 : Int32)), .val (.int (1 : Int32)), .val (.int (3 : Int32)), .unset, .unset, .unset, .unset, .unset, .unset, .unset, .unset, .unset, .unset, .unset, .unset, .unset, .unset]
def LA0_82 (q1 : Int64) (q2 : Int64) (q3 : Int64) (q4 : Int64) (q5 : Int64) (p6 : Int32) (b5 : Addr) (b26 : Addr) : Array Slot := #[.val (.long q1), .second, .val (.long q2), .second, .val (.long q3), .second, .val (.long q4), .second, .val (.long q5), .second, .val (.int p6), .val (.int (0 : Int32)), .val (.long q4), .second, .val (.long q5), .second, .val (.long (g0_2 q1 q2 q3 q4 q5 p6)), .second, .val (.long (f1 q2 (f1 q4 q5))), .second, .val (.long (g0_3 q1 q2 q3 q4 q5 p6)), .second, .val (.long q1), .second, .val (.ref b5), .val (.ref b26), .val (.int (1 : Int32)), .val (.int (2 : Int32)), .val (.int (0 : Int32)), .val (.int (5 : Int32)), .val (.int (1 : Int32)), .val (.int (3 : Int32)), .val (.int (4 : Int32)), .unset, .unset, .unset, .unset, .unset, .unset, .unset, .unset, .unset, .unset, .unset, .unset, .unset]
def LA0_83 (q1 : Int64) (q2 : Int64) (q3 : Int64) (q4 : Int64) (q5 : Int64) (p6 : Int32) (b5 : Addr) (b26 : Addr) : Array Slot := #[.val (.long q1), .second, .val (.long q2), .second, .val (.long q3), .second, .val (.long q4), .second, .val (.long q5), .second, .val (.int p6), .val (.int (0 : Int32)), .val (.long q4), .second, .val (.long q5), .second, .val (.long (g0_2 q1 q2 q3 q4 q5 p6)), .second, .val (.long (f1 q2 (f1 q4 q5))), .second, .val (.long (g0_3 q1 q2 q3 q4 q5 p6)), .second, .val (.long q1), .second, .val (.ref b5), .val (.ref b26), .val (.int (1 : Int32)), .val (.int (2 : Int32)), .val (.int (0 : Int32)), .val (.int (5 : Int32)), .val (.int (1 : Int32)), .val (.int (3 : Int32)), .val (.int (4 : Int32)), .val (.int (63 : Int32)), .unset, .unset, .unset, .unset, .unset, .unset, .unset, .unset, .unset, .unset, .unset, .unset]
def LA0_84 (q1 : Int64) (q2 : Int64) (q3 : Int64) (q4 : Int64) (q5 : Int64) (p6 : Int32) (b5 : Addr) (b26 : Addr) : Array Slot := #[.val (.long q1), .second, .val (.long q2), .second, .val (.long q3), .second, .val (.long q4), .second, .val (.long q5), .second, .val (.int p6), .val (.int (0 : Int32)), .val (.long q4), .second, .val (.long q5), .second, .val (.long (g0_2 q1 q2 q3 q4 q5 p6)), .second, .val (.long (f1 q2 (f1 q4 q5))), .second, .val (.long (g0_3 q1 q2 q3 q4 q5 p6)), .second, .val (.long q1), .second, .val (.ref b5), .val (.ref b26), .val (.int (1 : Int32)), .val (.int (2 : Int32)), .val (.int (0 : Int32)), .val (.int (5 : Int32)), .val (.int (1 : Int32)), .val (.int (3 : Int32)), .val (.int (4 : Int32)), .val (.int (63 : Int32)), .val (.long q1), .second, .unset, .unset, .unset, .unset, .unset, .unset, .unset, .unset, .unset, .unset]
def LA0_85 (q1 : Int64) (q2 : Int64) (q3 : Int64) (q4 : Int64) (q5 : Int64) (p6 : Int32) (b5 : Addr) (b26 : Addr) : Array Slot := #[.val (.long q1), .second, .val (.long q2), .second, .val (.long q3), .second, .val (.long q4), .second, .val (.long q5), .second, .val (.int p6), .val (.int (0 : Int32)), .val (.long q4), .second, .val (.long q5), .second, .val (.long (g0_2 q1 q2 q3 q4 q5 p6)), .second, .val (.long (f1 q2 (f1 q4 q5))), .second, .val (.long (g0_3 q1 q2 q3 q4 q5 p6)), .second, .val (.long q1), .second, .val (.ref b5), .val (.ref b26), .val (.int (1 : Int32)), .val (.int (2 : Int32)), .val (.int (0 : Int32)), .val (.int (5 : Int32)), .val (.int (1 : Int32)), .val (.int (3 : Int32)), .val (.int (4 : Int32)), .val (.int (63 : Int32)), .val (.long q1), .second, .val (.long (f1 q2 (f1 q4 q5))), .second, .unset, .unset, .unset, .unset, .unset, .unset, .unset, .unset]
def LA0_86 (q1 : Int64) (q2 : Int64) (q3 : Int64) (q4 : Int64) (q5 : Int64) (p6 : Int32) (b5 : Addr) (b26 : Addr) : Array Slot := #[.val (.long q1), .second, .val (.long q2), .second, .val (.long q3), .second, .val (.long q4), .second, .val (.long q5), .second, .val (.int p6), .val (.int (0 : Int32)), .val (.long q4), .second, .val (.long q5), .second, .val (.long (g0_2 q1 q2 q3 q4 q5 p6)), .second, .val (.long (f1 q2 (f1 q4 q5))), .second, .val (.long (g0_3 q1 q2 q3 q4 q5 p6)), .second, .val (.long q1), .second, .val (.ref b5), .val (.ref b26), .val (.int (1 : Int32)), .val (.int (2 : Int32)), .val (.int (0 : Int32)), .val (.int (5 : Int32)), .val (.int (1 : Int32)), .val (.int (3 : Int32)), .val (.int (4 : Int32)), .val (.int (63 : Int32)), .val (.long q1), .second, .val (.long (f1 q2 (f1 q4 q5))), .second, .val (.long (g0_3 q1 q2 q3 q4 q5 p6)), .second, .unset, .unset, .unset, .unset, .unset, .unset]
def LA0_87 (q1 : Int64) (q2 : Int64) (q3 : Int64) (q4 : Int64) (q5 : Int64) (p6 : Int32) (b5 : Addr) (b26 : Addr) : Array Slot := #[.val (.long q1), .second, .val (.long q2), .second, .val (.long q3), .second, .val (.long q4), .second, .val (.long q5), .second, .val (.int p6), .val (.int (0 : Int32)), .val (.long q4), .second, .val (.long q5), .second, .val (.long (g0_2 q1 q2 q3 q4 q5 p6)), .second, .val (.long (f1 q2 (f1 q4 q5))), .second, .val (.long (g0_3 q1 q2 q3 q4 q5 p6)), .second, .val (.long q1), .second, .val (.ref b5), .val (.ref b26), .val (.int (1 : Int32)), .val (.int (2 : Int32)), .val (.int (0 : Int32)), .val (.int (5 : Int32)), .val (.int (1 : Int32)), .val (.int (3 : Int32)), .val (.int (4 : Int32)), .val (.int (63 : Int32)), .val (.long q1), .second, .val (.long (f1 q2 (f1 q4 q5))), .second, .val (.long (g0_3 q1 q2 q3 q4 q5 p6)), .second, .val (.long q4), .second, .unset, .unset, .unset, .unset]
def LA0_88 (q1 : Int64) (q2 : Int64) (q3 : Int64) (q4 : Int64) (q5 : Int64) (p6 : Int32) (b5 : Addr) (b26 : Addr) : Array Slot := #[.val (.long q1), .second, .val (.long q2), .second, .val (.long q3), .second, .val (.long q4), .second, .val (.long q5), .second, .val (.int p6), .val (.int (0 : Int32)), .val (.long q4), .second, .val (.long q5), .second, .val (.long (g0_2 q1 q2 q3 q4 q5 p6)), .second, .val (.long (f1 q2 (f1 q4 q5))), .second, .val (.long (g0_3 q1 q2 q3 q4 q5 p6)), .second, .val (.long q1), .second, .val (.ref b5), .val (.ref b26), .val (.int (1 : Int32)), .val (.int (2 : Int32)), .val (.int (0 : Int32)), .val (.int (5 : Int32)), .val (.int (1 : Int32)), .val (.int (3 : Int32)), .val (.int (4 : Int32)), .val (.int (63 : Int32)), .val (.long q1), .second, .val (.long (f1 q2 (f1 q4 q5))), .second, .val (.long (g0_3 q1 q2 q3 q4 q5 p6)), .second, .val (.long q4), .second, .val (.long q5), .second, .unset, .unset]
def LA0_89 (q1 : Int64) (q2 : Int64) (q3 : Int64) (q4 : Int64) (q5 : Int64) (p6 : Int32) (b5 : Addr) (b26 : Addr) : Array Slot := #[.val (.long q1), .second, .val (.long q2), .second, .val (.long q3), .second, .val (.long q4), .second, .val (.long q5), .second, .val (.int p6), .val (.int (0 : Int32)), .val (.long q4), .second, .val (.long q5), .second, .val (.long (g0_2 q1 q2 q3 q4 q5 p6)), .second, .val (.long (f1 q2 (f1 q4 q5))), .second, .val (.long (g0_3 q1 q2 q3 q4 q5 p6)), .second, .val (.long q1), .second, .val (.ref b5), .val (.ref b26), .val (.int (1 : Int32)), .val (.int (2 : Int32)), .val (.int (0 : Int32)), .val (.int (5 : Int32)), .val (.int (1 : Int32)), .val (.int (3 : Int32)), .val (.int (4 : Int32)), .val (.int (63 : Int32)), .val (.long q1), .second, .val (.long (f1 q2 (f1 q4 q5))), .second, .val (.long (g0_3 q1 q2 q3 q4 q5 p6)), .second, .val (.long q4), .second, .val (.long q5), .second, .val (.long (g0_2 q1 q2 q3 q4 q5 p6)), .second]
def LA0_90 (q1 : Int64) (q2 : Int64) (q3 : Int64) (q4 : Int64) (q5 : Int64) (p6 : Int32) (b5 : Addr) (b26 : Addr) : Array Slot := #[.val (.long q1), .second, .val (.long q2), .second, .val (.long q3), .second, .val (.long q4), .second, .val (.long q5), .second, .val (.int p6), .val (.int (0 : Int32)), .val (.long q4), .second, .val (.long q5), .second, .val (.long (g0_2 q1 q2 q3 q4 q5 p6)), .second, .val (.long (f1 q2 (f1 q4 q5))), .second, .val (.long (g0_3 q1 q2 q3 q4 q5 p6)), .second, .val (.long q1), .second, .val (.ref b5), .val (.ref b26), .val (.int (0 : Int32)), .val (.int (2 : Int32)), .val (.int (0 : Int32)), .val (.int (5 : Int32)), .val (.int (1 : Int32)), .val (.int (3 : Int32)), .val (.int (4 : Int32)), .val (.int (63 : Int32)), .val (.long q1), .second, .val (.long (f1 q2 (f1 q4 q5))), .second, .val (.long (g0_3 q1 q2 q3 q4 q5 p6)), .second, .val (.long q4), .second, .val (.long q5), .second, .val (.long (g0_2 q1 q2 q3 q4 q5 p6)), .second]
def LA0_91 (q1 : Int64) (q2 : Int64) (q3 : Int64) (q4 : Int64) (q5 : Int64) (p6 : Int32)  : Array Slot := #[.val (.long q1), .second, .val (.long q2), .second, .val (.long q3), .second, .val (.long q4), .second, .val (.long q5), .second, .val (.int p6), .val (.int (1 : Int32)), .unset, .unset, .unset, .unset, .unset, .unset, .unset, .unset, .unset, .unset, .unset, .unset, .unset, .unset, .unset, .unset, .unset, .unset, .unset, .unset, .unset, .unset, .unset, .unset, .unset, .unset, .unset, .unset, .unset, .unset, .unset, .unset, .unset, .unset]
def LA0_92 (q1 : Int64) (q2 : Int64) (q3 : Int64) (q4 : Int64) (q5 : Int64) (p6 : Int32)  : Array Slot := #[.val (.long q1), .second, .val (.long q2), .second, .val (.long q3), .second, .val (.long q4), .second, .val (.long q5), .second, .val (.int p6), .val (.int (1 : Int32)), .val (.long q4), .second, .unset, .unset, .unset, .unset, .unset, .unset, .unset, .unset, .unset, .unset, .unset, .unset, .unset, .unset, .unset, .unset, .unset, .unset, .unset, .unset, .unset, .unset, .unset, .unset, .unset, .unset, .unset, .unset, .unset, .unset, .unset, .unset]
def LA0_93 (q1 : Int64) (q2 : Int64) (q3 : Int64) (q4 : Int64) (q5 : Int64) (p6 : Int32)  : Array Slot := #[.val (.long q1), .second, .val (.long q2), .second, .val (.long q3), .second, .val (.long q4), .second, .val (.long q5), .second, .val (.int p6), .val (.int (1 : Int32)), .val (.long q4), .second, .val (.long q5), .second, .unset, .unset, .unset, .unset, .unset, .unset, .unset, .unset, .unset, .unset, .unset, .unset, .unset, .unset, .unset, .unset, .unset, .unset, .unset, .unset, .unset, .unset, .unset, .unset, .unset, .unset, .unset, .unset, .unset, .unset]
def LA0_94 (q1 : Int64) (q2 : Int64) (q3 : Int64) (q4 : Int64) (q5 : Int64) (p6 : Int32)  : Array Slot := #[.val (.long q1), .second, .val (.long q2), .second, .val (.long q3), .second, .val (.long q4), .second, .val (.long q5), .second, .val (.int p6), .val (.int (1 : Int32)), .val (.long q4), .second, .val (.long q5), .second, .val (.long (g0_2 q1 q2 q3 q4 q5 p6)), .second, .unset, .unset, .unset, .unset, .unset, .unset, .unset, .unset, .unset, .unset, .unset, .unset, .unset, .unset, .unset, .unset, .unset, .unset, .unset, .unset, .unset, .unset, .unset, .unset, .unset, .unset, .unset, .unset]
def LA0_95 (q1 : Int64) (q2 : Int64) (q3 : Int64) (q4 : Int64) (q5 : Int64) (p6 : Int32)  : Array Slot := #[.val (.long q1), .second, .val (.long q2), .second, .val (.long q3), .second, .val (.long q4), .second, .val (.long q5), .second, .val (.int p6), .val (.int (1 : Int32)), .val (.long q4), .second, .val (.long q5), .second, .val (.long (g0_2 q1 q2 q3 q4 q5 p6)), .second, .val (.long q2), .second, .unset, .unset, .unset, .unset, .unset, .unset, .unset, .unset, .unset, .unset, .unset, .unset, .unset, .unset, .unset, .unset, .unset, .unset, .unset, .unset, .unset, .unset, .unset, .unset, .unset, .unset]
def LA0_96 (q1 : Int64) (q2 : Int64) (q3 : Int64) (q4 : Int64) (q5 : Int64) (p6 : Int32)  : Array Slot := #[.val (.long q1), .second, .val (.long q2), .second, .val (.long q3), .second, .val (.long q4), .second, .val (.long q5), .second, .val (.int p6), .val (.int (1 : Int32)), .val (.long q4), .second, .val (.long q5), .second, .val (.long (g0_2 q1 q2 q3 q4 q5 p6)), .second, .val (.long q2), .second, .val (.long (g0_3 q1 q2 q3 q4 q5 p6)), .second, .unset, .unset, .unset, .unset, .unset, .unset, .unset, .unset, .unset, .unset, .unset, .unset, .unset, .unset, .unset, .unset, .unset, .unset, .unset, .unset, .unset, .unset, .unset, .unset]
def g0_4 (q1 : Int64) (q2 : Int64) (q3 : Int64) (q4 : Int64) (q5 : Int64) (p6 : Int32) : Int64 := (f1 (f1 q1 q2) (f1 (g0_3 q1 q2 q3 q4 q5 p6) (f1 q4 (f1 q5 (g0_2 q1 q2 q3 q4 q5 p6)))))
def LA0_97 (q1 : Int64) (q2 : Int64) (q3 : Int64) (q4 : Int64) (q5 : Int64) (p6 : Int32)  : Array Slot := #[.val (.long q1), .second, .val (.long q2), .second, .val (.long q3), .second, .val (.long q4), .second, .val (.long q5), .second, .val (.int p6), .val (.int (1 : Int32)), .val (.long q4), .second, .val (.long q5), .second, .val (.long (g0_2 q1 q2 q3 q4 q5 p6)), .second, .val (.long q2), .second, .val (.long (g0_3 q1 q2 q3 q4 q5 p6)), .second, .val (.long (g0_4 q1 q2 q3 q4 q5 p6)), .second, .unset, .unset, .unset, .unset, .unset, .unset, .unset, .unset, .unset, .unset, .unset, .unset, .unset, .unset, .unset, .unset, .unset, .unset, .unset, .unset, .unset, .unset]
def LA0_98 (q1 : Int64) (q2 : Int64) (q3 : Int64) (q4 : Int64) (q5 : Int64) (p6 : Int32) (b352 : Addr) : Array Slot := #[.val (.long q1), .second, .val (.long q2), .second, .val (.long q3), .second, .val (.long q4), .second, .val (.long q5), .second, .val (.int p6), .val (.int (1 : Int32)), .val (.long q4), .second, .val (.long q5), .second, .val (.long (g0_2 q1 q2 q3 q4 q5 p6)), .second, .val (.long q2), .second, .val (.long (g0_3 q1 q2 q3 q4 q5 p6)), .second, .val (.long (g0_4 q1 q2 q3 q4 q5 p6)), .second, .val (.ref b352), .unset, .unset, .unset, .unset, .unset, .unset, .unset, .unset, .unset, .unset, .unset, .unset, .unset, .unset, .unset, .unset, .unset, .unset, .unset, .unset, .unset]
def LA0_99 (q1 : Int64) (q2 : Int64) (q3 : Int64) (q4 : Int64) (q5 : Int64) (p6 : Int32) (b352 : Addr) (b373 : Addr) : Array Slot := #[.val (.long q1), .second, .val (.long q2), .second, .val (.long q3), .second, .val (.long q4), .second, .val (.long q5), .second, .val (.int p6), .val (.int (1 : Int32)), .val (.long q4), .second, .val (.long q5), .second, .val (.long (g0_2 q1 q2 q3 q4 q5 p6)), .second, .val (.long q2), .second, .val (.long (g0_3 q1 q2 q3 q4 q5 p6)), .second, .val (.long (g0_4 q1 q2 q3 q4 q5 p6)), .second, .val (.ref b352), .val (.ref b373), .unset, .unset, .unset, .unset, .unset, .unset, .unset, .unset, .unset, .unset, .unset, .unset, .unset, .unset, .unset, .unset, .unset, .unset, .unset, .unset]
def LA0_100 (q1 : Int64) (q2 : Int64) (q3 : Int64) (q4 : Int64) (q5 : Int64) (p6 : Int32) (b352 : Addr) (b373 : Addr) : Array Slot := #[.val (.long q1), .second, .val (.long q2), .second, .val (.long q3), .second, .val (.long q4), .second, .val (.long q5), .second, .val (.int p6), .val (.int (1 : Int32)), .val (.long q4), .second, .val (.long q5), .second, .val (.long (g0_2 q1 q2 q3 q4 q5 p6)), .second, .val (.long q2), .second, .val (.long (g0_3 q1 q2 q3 q4 q5 p6)), .second, .val (.long (g0_4 q1 q2 q3 q4 q5 p6)), .second, .val (.ref b352), .val (.ref b373), .val (.int (1 : Int32)), .unset, .unset, .unset, .unset, .unset, .unset, .unset, .unset, .unset, .unset, .unset, .unset, .unset, .unset, .unset, .unset, .unset, .unset, .unset]
def LA0_101 (q1 : Int64) (q2 : Int64) (q3 : Int64) (q4 : Int64) (q5 : Int64) (p6 : Int32) (b352 : Addr) (b373 : Addr) : Array Slot := #[.val (.long q1), .second, .val (.long q2), .second, .val (.long q3), .second, .val (.long q4), .second, .val (.long q5), .second, .val (.int p6), .val (.int (1 : Int32)), .val (.long q4), .second, .val (.long q5), .second, .val (.long (g0_2 q1 q2 q3 q4 q5 p6)), .second, .val (.long q2), .second, .val (.long (g0_3 q1 q2 q3 q4 q5 p6)), .second, .val (.long (g0_4 q1 q2 q3 q4 q5 p6)), .second, .val (.ref b352), .val (.ref b373), .val (.int (1 : Int32)), .val (.int (2 : Int32)), .unset, .unset, .unset, .unset, .unset, .unset, .unset, .unset, .unset, .unset, .unset, .unset, .unset, .unset, .unset, .unset, .unset, .unset]
def LA0_102 (q1 : Int64) (q2 : Int64) (q3 : Int64) (q4 : Int64) (q5 : Int64) (p6 : Int32) (b352 : Addr) (b373 : Addr) : Array Slot := #[.val (.long q1), .second, .val (.long q2), .second, .val (.long q3), .second, .val (.long q4), .second, .val (.long q5), .second, .val (.int p6), .val (.int (1 : Int32)), .val (.long q4), .second, .val (.long q5), .second, .val (.long (g0_2 q1 q2 q3 q4 q5 p6)), .second, .val (.long q2), .second, .val (.long (g0_3 q1 q2 q3 q4 q5 p6)), .second, .val (.long (g0_4 q1 q2 q3 q4 q5 p6)), .second, .val (.ref b352), .val (.ref b373), .val (.int (1 : Int32)), .val (.int (2 : Int32)), .val (.int (3 : Int32)), .unset, .unset, .unset, .unset, .unset, .unset, .unset, .unset, .unset, .unset, .unset, .unset, .unset, .unset, .unset, .unset, .unset]
def LA0_103 (q1 : Int64) (q2 : Int64) (q3 : Int64) (q4 : Int64) (q5 : Int64) (p6 : Int32) (b352 : Addr) (b373 : Addr) : Array Slot := #[.val (.long q1), .second, .val (.long q2), .second, .val (.long q3), .second, .val (.long q4), .second, .val (.long q5), .second, .val (.int p6), .val (.int (1 : Int32)), .val (.long q4), .second, .val (.long q5), .second, .val (.long (g0_2 q1 q2 q3 q4 q5 p6)), .second, .val (.long q2), .second, .val (.long (g0_3 q1 q2 q3 q4 q5 p6)), .second, .val (.long (g0_4 q1 q2 q3 q4 q5 p6)), .second, .val (.ref b352), .val (.ref b373), .val (.int (1 : Int32)), .val (.int (2 : Int32)), .val (.int (3 : Int32)), .val (.int (5 : Int32)), .unset, .unset, .unset, .unset, .unset, .unset, .unset, .unset, .unset, .unset, .unset, .unset, .unset, .unset, .unset, .unset]
def LA0_104 (q1 : Int64) (q2 : Int64) (q3 : Int64) (q4 : Int64) (q5 : Int64) (p6 : Int32) (b352 : Addr) (b373 : Addr) : Array Slot := #[.val (.long q1), .second, .val (.long q2), .second, .val (.long q3), .second, .val (.long q4), .second, .val (.long q5), .second, .val (.int p6), .val (.int (1 : Int32)), .val (.long q4), .second, .val (.long q5), .second, .val (.long (g0_2 q1 q2 q3 q4 q5 p6)), .second, .val (.long q2), .second, .val (.long (g0_3 q1 q2 q3 q4 q5 p6)), .second, .val (.long (g0_4 q1 q2 q3 q4 q5 p6)), .second, .val (.ref b352), .val (.ref b373), .val (.int (1 : Int32)), .val (.int (2 : Int32)), .val (.int (3 : Int32)), .val (.int (5 : Int32)), .val (.int (1 : Int32)), .unset, .unset, .unset, .unset, .unset, .unset, .unset, .unset, .unset, .unset, .unset, .unset, .unset, .unset, .unset]
def LA0_105 (q1 : Int64) (q2 : Int64) (q3 : Int64) (q4 : Int64) (q5 : Int64) (p6 : Int32) (b352 : Addr) (b373 : Addr) : Array Slot := #[.val (.long q1), .second, .val (.long q2), .second, .val (.long q3), .second, .val (.long q4), .second, .val (.long q5), .second, .val (.int p6), .val (.int (1 : Int32)), .val (.long q4), .second, .val (.long q5), .second, .val (.long (g0_2 q1 q2 q3 q4 q5 p6)), .second, .val (.long q2), .second, .val (.long (g0_3 q1 q2 q3 q4 q5 p6)), .second, .val (.long (g0_4 q1 q2 q3 q4 q5 p6)), .second, .val (.ref b352), .val (.ref b373), .val (.int (1 : Int32)), .val (.int (2 : Int32)), .val (.int (3 : Int32)), .val (.int (5 : Int32)), .val (.int (1 : Int32)), .val (.int (0 : Int32)), .unset, .unset, .unset, .unset, .unset, .unset, .unset, .unset, .unset, .unset, .unset, .unset, .unset, .unset]
def LA0_106 (q1 : Int64) (q2 : Int64) (q3 : Int64) (q4 : Int64) (q5 : Int64) (p6 : Int32) (b352 : Addr) (b373 : Addr) : Array Slot := #[.val (.long q1), .second, .val (.long q2), .second, .val (.long q3), .second, .val (.long q4), .second, .val (.long q5), .second, .val (.int p6), .val (.int (1 : Int32)), .val (.long q4), .second, .val (.long q5), .second, .val (.long (g0_2 q1 q2 q3 q4 q5 p6)), .second, .val (.long q2), .second, .val (.long (g0_3 q1 q2 q3 q4 q5 p6)), .second, .val (.long (g0_4 q1 q2 q3 q4 q5 p6)), .second, .val (.ref b352), .val (.ref b373), .val (.int (1 : Int32)), .val (.int (2 : Int32)), .val (.int (3 : Int32)), .val (.int (5 : Int32)), .val (.int (1 : Int32)), .val (.int (0 : Int32)), .val (.int (4 : Int32)), .unset, .unset, .unset, .unset, .unset, .unset, .unset, .unset, .unset, .unset, .unset, .unset, .unset]
def LA0_107 (q1 : Int64) (q2 : Int64) (q3 : Int64) (q4 : Int64) (q5 : Int64) (p6 : Int32) (b352 : Addr) (b373 : Addr) : Array Slot := #[.val (.long q1), .second, .val (.long q2), .second, .val (.long q3), .second, .val (.long q4), .second, .val (.long q5), .second, .val (.int p6), .val (.int (1 : Int32)), .val (.long q4), .second, .val (.long q5), .second, .val (.long (g0_2 q1 q2 q3 q4 q5 p6)), .second, .val (.long q2), .second, .val (.long (g0_3 q1 q2 q3 q4 q5 p6)), .second, .val (.long (g0_4 q1 q2 q3 q4 q5 p6)), .second, .val (.ref b352), .val (.ref b373), .val (.int (1 : Int32)), .val (.int (2 : Int32)), .val (.int (3 : Int32)), .val (.int (5 : Int32)), .val (.int (1 : Int32)), .val (.int (0 : Int32)), .val (.int (4 : Int32)), .val (.int (63 : Int32)), .unset, .unset, .unset, .unset, .unset, .unset, .unset, .unset, .unset, .unset, .unset, .unset]
def LA0_108 (q1 : Int64) (q2 : Int64) (q3 : Int64) (q4 : Int64) (q5 : Int64) (p6 : Int32) (b352 : Addr) (b373 : Addr) : Array Slot := #[.val (.long q1), .second, .val (.long q2), .second, .val (.long q3), .second, .val (.long q4), .second, .val (.long q5), .second, .val (.int p6), .val (.int (1 : Int32)), .val (.long q4), .second, .val (.long q5), .second, .val (.long (g0_2 q1 q2 q3 q4 q5 p6)), .second, .val (.long q2), .second, .val (.long (g0_3 q1 q2 q3 q4 q5 p6)), .second, .val (.long (g0_4 q1 q2 q3 q4 q5 p6)), .second, .val (.ref b352), .val (.ref b373), .val (.int (1 : Int32)), .val (.int (2 : Int32)), .val (.int (3 : Int32)), .val (.int (5 : Int32)), .val (.int (1 : Int32)), .val (.int (0 : Int32)), .val (.int (4 : Int32)), .val (.int (63 : Int32)), .val (.long (g0_4 q1 q2 q3 q4 q5 p6)), .second, .unset, .unset, .unset, .unset, .unset, .unset, .unset, .unset, .unset, .unset]
def LA0_109 (q1 : Int64) (q2 : Int64) (q3 : Int64) (q4 : Int64) (q5 : Int64) (p6 : Int32) (b352 : Addr) (b373 : Addr) : Array Slot := #[.val (.long q1), .second, .val (.long q2), .second, .val (.long q3), .second, .val (.long q4), .second, .val (.long q5), .second, .val (.int p6), .val (.int (1 : Int32)), .val (.long q4), .second, .val (.long q5), .second, .val (.long (g0_2 q1 q2 q3 q4 q5 p6)), .second, .val (.long q2), .second, .val (.long (g0_3 q1 q2 q3 q4 q5 p6)), .second, .val (.long (g0_4 q1 q2 q3 q4 q5 p6)), .second, .val (.ref b352), .val (.ref b373), .val (.int (1 : Int32)), .val (.int (2 : Int32)), .val (.int (3 : Int32)), .val (.int (5 : Int32)), .val (.int (1 : Int32)), .val (.int (0 : Int32)), .val (.int (4 : Int32)), .val (.int (63 : Int32)), .val (.long (g0_4 q1 q2 q3 q4 q5 p6)), .second, .val (.long q5), .second, .unset, .unset, .unset, .unset, .unset, .unset, .unset, .unset]
def LA0_110 (q1 : Int64) (q2 : Int64) (q3 : Int64) (q4 : Int64) (q5 : Int64) (p6 : Int32) (b352 : Addr) (b373 : Addr) : Array Slot := #[.val (.long q1), .second, .val (.long q2), .second, .val (.long q3), .second, .val (.long q4), .second, .val (.long q5), .second, .val (.int p6), .val (.int (1 : Int32)), .val (.long q4), .second, .val (.long q5), .second, .val (.long (g0_2 q1 q2 q3 q4 q5 p6)), .second, .val (.long q2), .second, .val (.long (g0_3 q1 q2 q3 q4 q5 p6)), .second, .val (.long (g0_4 q1 q2 q3 q4 q5 p6)), .second, .val (.ref b352), .val (.ref b373), .val (.int (1 : Int32)), .val (.int (2 : Int32)), .val (.int (3 : Int32)), .val (.int (5 : Int32)), .val (.int (1 : Int32)), .val (.int (0 : Int32)), .val (.int (4 : Int32)), .val (.int (63 : Int32)), .val (.long (g0_4 q1 q2 q3 q4 q5 p6)), .second, .val (.long q5), .second, .val (.long (g0_3 q1 q2 q3 q4 q5 p6)), .second, .unset, .unset, .unset, .unset, .unset, .unset]
def LA0_111 (q1 : Int64) (q2 : Int64) (q3 : Int64) (q4 : Int64) (q5 : Int64) (p6 : Int32) (b352 : Addr) (b373 : Addr) : Array Slot := #[.val (.long q1), .second, .val (.long q2), .second, .val (.long q3), .second, .val (.long q4), .second, .val (.long q5), .second, .val (.int p6), .val (.int (1 : Int32)), .val (.long q4), .second, .val (.long q5), .second, .val (.long (g0_2 q1 q2 q3 q4 q5 p6)), .second, .val (.long q2), .second, .val (.long (g0_3 q1 q2 q3 q4 q5 p6)), .second, .val (.long (g0_4 q1 q2 q3 q4 q5 p6)), .second, .val (.ref b352), .val (.ref b373), .val (.int (1 : Int32)), .val (.int (2 : Int32)), .val (.int (3 : Int32)), .val (.int (5 : Int32)), .val (.int (1 : Int32)), .val (.int (0 : Int32)), .val (.int (4 : Int32)), .val (.int (63 : Int32)), .val (.long (g0_4 q1 q2 q3 q4 q5 p6)), .second, .val (.long q5), .second, .val (.long (g0_3 q1 q2 q3 q4 q5 p6)), .second, .val (.long q4), .second, .unset, .unset, .unset, .unset]
def LA0_112 (q1 : Int64) (q2 : Int64) (q3 : Int64) (q4 : Int64) (q5 : Int64) (p6 : Int32) (b352 : Addr) (b373 : Addr) : Array Slot := #[.val (.long q1), .second, .val (.long q2), .second, .val (.long q3), .second, .val (.long q4), .second, .val (.long q5), .second, .val (.int p6), .val (.int (1 : Int32)), .val (.long q4), .second, .val (.long q5), .second, .val (.long (g0_2 q1 q2 q3 q4 q5 p6)), .second, .val (.long q2), .second, .val (.long (g0_3 q1 q2 q3 q4 q5 p6)), .second, .val (.long (g0_4 q1 q2 q3 q4 q5 p6)), .second, .val (.ref b352), .val (.ref b373), .val (.int (1 : Int32)), .val (.int (2 : Int32)), .val (.int (3 : Int32)), .val (.int (5 : Int32)), .val (.int (1 : Int32)), .val (.int (0 : Int32)), .val (.int (4 : Int32)), .val (.int (63 : Int32)), .val (.long (g0_4 q1 q2 q3 q4 q5 p6)), .second, .val (.long q5), .second, .val (.long (g0_3 q1 q2 q3 q4 q5 p6)), .second, .val (.long q4), .second, .val (.long q2), .second, .unset, .unset]
def LA0_113 (q1 : Int64) (q2 : Int64) (q3 : Int64) (q4 : Int64) (q5 : Int64) (p6 : Int32) (b352 : Addr) (b373 : Addr) : Array Slot := #[.val (.long q1), .second, .val (.long q2), .second, .val (.long q3), .second, .val (.long q4), .second, .val (.long q5), .second, .val (.int p6), .val (.int (1 : Int32)), .val (.long q4), .second, .val (.long q5), .second, .val (.long (g0_2 q1 q2 q3 q4 q5 p6)), .second, .val (.long q2), .second, .val (.long (g0_3 q1 q2 q3 q4 q5 p6)), .second, .val (.long (g0_4 q1 q2 q3 q4 q5 p6)), .second, .val (.ref b352), .val (.ref b373), .val (.int (1 : Int32)), .val (.int (2 : Int32)), .val (.int (3 : Int32)), .val (.int (5 : Int32)), .val (.int (1 : Int32)), .val (.int (0 : Int32)), .val (.int (4 : Int32)), .val (.int (63 : Int32)), .val (.long (g0_4 q1 q2 q3 q4 q5 p6)), .second, .val (.long q5), .second, .val (.long (g0_3 q1 q2 q3 q4 q5 p6)), .second, .val (.long q4), .second, .val (.long q2), .second, .val (.long (g0_2 q1 q2 q3 q4 q5 p6)), .second]
def LA0_114 (q1 : Int64) (q2 : Int64) (q3 : Int64) (q4 : Int64) (q5 : Int64) (p6 : Int32) (b352 : Addr) (b373 : Addr) : Array Slot := #[.val (.long q1), .second, .val (.long q2), .second, .val (.long q3), .second, .val (.long q4), .second, .val (.long q5), .second, .val (.int p6), .val (.int (1 : Int32)), .val (.long q4), .second, .val (.long q5), .second, .val (.long (g0_2 q1 q2 q3 q4 q5 p6)), .second, .val (.long q2), .second, .val (.long (g0_3 q1 q2 q3 q4 q5 p6)), .second, .val (.long (g0_4 q1 q2 q3 q4 q5 p6)), .second, .val (.ref b352), .val (.ref b373), .val (.int (0 : Int32)), .val (.int (2 : Int32)), .val (.int (3 : Int32)), .val (.int (5 : Int32)), .val (.int (1 : Int32)), .val (.int (0 : Int32)), .val (.int (4 : Int32)), .val (.int (63 : Int32)), .val (.long (g0_4 q1 q2 q3 q4 q5 p6)), .second, .val (.long q5), .second, .val (.long (g0_3 q1 q2 q3 q4 q5 p6)), .second, .val (.long q4), .second, .val (.long q2), .second, .val (.long (g0_2 q1 q2 q3 q4 q5 p6)), .second]
def LA0_115 (q1 : Int64) (q2 : Int64) (q3 : Int64) (q4 : Int64) (q5 : Int64) (p6 : Int32) (b352 : Addr) (b373 : Addr) : Array Slot := #[.val (.long q1), .second, .val (.long q2), .second, .val (.long q3), .second, .val (.long q4), .second, .val (.long q5), .second, .val (.int p6), .val (.int (1 : Int32)), .val (.long q4), .second, .val (.long q5), .second, .val (.long (g0_2 q1 q2 q3 q4 q5 p6)), .second, .val (.long q2), .second, .val (.long (g0_3 q1 q2 q3 q4 q5 p6)), .second, .val (.long (g0_4 q1 q2 q3 q4 q5 p6)), .second, .val (.ref b352), .val (.ref b373), .val (.int (1 : Int32)), .val (.int (2 : Int32)), .val (.int (1 : Int32)), .unset, .unset, .unset, .unset, .unset, .unset, .unset, .unset, .unset, .unset, .unset, .unset, .unset, .unset, .unset, .unset, .unset]
def LA0_116 (q1 : Int64) (q2 : Int64) (q3 : Int64) (q4 : Int64) (q5 : Int64) (p6 : Int32) (b352 : Addr) (b373 : Addr) : Array Slot := #[.val (.long q1), .second, .val (.long q2), .second, .val (.long q3), .second, .val (.long q4), .second, .val (.long q5), .second, .val (.int p6), .val (.int (1 : Int32)), .val (.long q4), .second, .val (.long q5), .second, .val (.long (g0_2 q1 q2 q3 q4 q5 p6)), .second, .val (.long q2), .second, .val (.long (g0_3 q1 q2 q3 q4 q5 p6)), .second, .val (.long (g0_4 q1 q2 q3 q4 q5 p6)), .second, .val (.ref b352), .val (.ref b373), .val (.int (1 : Int32)), .val (.int (2 : Int32)), .val (.int (1 : Int32)), .val (.int (5 : Int32)), .unset, .unset, .unset, .unset, .unset, .unset, .unset, .unset, .unset, .unset, .unset, .unset, .unset, .unset, .unset, .unset]
def LA0_117 (q1 : Int64) (q2 : Int64) (q3 : Int64) (q4 : Int64) (q5 : Int64) (p6 : Int32) (b352 : Addr) (b373 : Addr) : Array Slot := #[.val (.long q1), .second, .val (.long q2), .second, .val (.long q3), .second, .val (.long q4), .second, .val (.long q5), .second, .val (.int p6), .val (.int (1 : Int32)), .val (.long q4), .second, .val (.long q5), .second, .val (.long (g0_2 q1 q2 q3 q4 q5 p6)), .second, .val (.long q2), .second, .val (.long (g0_3 q1 q2 q3 q4 q5 p6)), .second, .val (.long (g0_4 q1 q2 q3 q4 q5 p6)), .second, .val (.ref b352), .val (.ref b373), .val (.int (1 : Int32)), .val (.int (2 : Int32)), .val (.int (1 : Int32)), .val (.int (5 : Int32)), .val (.int (0 : Int32)), .unset, .unset, .unset, .unset, .unset, .unset, .unset, .unset, .unset, .unset, .unset, .unset, .unset, .unset, .unset]
def LA0_118 (q1 : Int64) (q2 : Int64) (q3 : Int64) (q4 : Int64) (q5 : Int64) (p6 : Int32) (b352 : Addr) (b373 : Addr) : Array Slot := #[.val (.long q1), .second, .val (.long q2), .second, .val (.long q3), .second, .val (.long q4), .second, .val (.long q5), .second, .val (.int p6), .val (.int (1 : Int32)), .val (.long q4), .second, .val (.long q5), .second, .val (.long (g0_2 q1 q2 q3 q4 q5 p6)), .second, .val (.long q2), .second, .val (.long (g0_3 q1 q2 q3 q4 q5 p6)), .second, .val (.long (g0_4 q1 q2 q3 q4 q5 p6)), .second, .val (.ref b352), .val (.ref b373), .val (.int (1 : Int32)), .val (.int (2 : Int32)), .val (.int (1 : Int32)), .val (.int (5 : Int32)), .val (.int (0 : Int32)), .val (.int (3 : Int32)), .unset, .unset, .unset, .unset, .unset, .unset, .unset, .unset, .unset, .unset, .unset, .unset, .unset, .unset]
def LA0_119 (q1 : Int64) (q2 : Int64) (q3 : Int64) (q4 : Int64) (q5 : Int64) (p6 : Int32) (b352 : Addr) (b373 : Addr) : Array Slot := #[.val (.long q1), .second, .val (.long q2), .second, .val (.long q3), .second, .val (.long q4), .second, .val (.long q5), .second, .val (.int p6), .val (.int (1 : Int32)), .val (.long q4), .second, .val (.long q5), .second, .val (.long (g0_2 q1 q2 q3 q4 q5 p6)), .second, .val (.long q2), .second, .val (.long (g0_3 q1 q2 q3 q4 q5 p6)), .second, .val (.long (g0_4 q1 q2 q3 q4 q5 p6)), .second, .val (.ref b352), .val (.ref b373), .val (.int (1 : Int32)), .val (.int (2 : Int32)), .val (.int (1 : Int32)), .val (.int (5 : Int32)), .val (.int (0 : Int32)), .val (.int (3 : Int32)), .val (.int (4 : Int32)), .unset, .unset, .unset, .unset, .unset, .unset, .unset, .unset, .unset, .unset, .unset, .unset, .unset]
def LA0_120 (q1 : Int64) (q2 : Int64) (q3 : Int64) (q4 : Int64) (q5 : Int64) (p6 : Int32) (b352 : Addr) (b373 : Addr) : Array Slot := #[.val (.long q1), .second, .val (.long q2), .second, .val (.long q3), .second, .val (.long q4), .second, .val (.long q5), .second, .val (.int p6), .val (.int (1 : Int32)), .val (.long q4), .second, .val (.long q5), .second, .val (.long (g0_2 q1 q2 q3 q4 q5 p6)), .second, .val (.long q2), .second, .val (.long (g0_3 q1 q2 q3 q4 q5 p6)), .second, .val (.long (g0_4 q1 q2 q3 q4 q5 p6)), .second, .val (.ref b352), .val (.ref b373), .val (.int (1 : Int32)), .val (.int (2 : Int32)), .val (.int (1 : Int32)), .val (.int (5 : Int32)), .val (.int (0 : Int32)), .val (.int (3 : Int32)), .val (.int (4 : Int32)), .val (.int (63 : Int32)), .unset, .unset, .unset, .unset, .unset, .unset, .unset, .unset, .unset, .unset, .unset, .unset]
def LA0_121 (q1 : Int64) (q2 : Int64) (q3 : Int64) (q4 : Int64) (q5 : Int64) (p6 : Int32) (b352 : Addr) (b373 : Addr) : Array Slot := #[.val (.long q1), .second, .val (.long q2), .second, .val (.long q3), .second, .val (.long q4), .second, .val (.long q5), .second, .val (.int p6), .val (.int (1 : Int32)), .val (.long q4), .second, .val (.long q5), .second, .val (.long (g0_2 q1 q2 q3 q4 q5 p6)), .second, .val (.long q2), .second, .val (.long (g0_3 q1 q2 q3 q4 q5 p6)), .second, .val (.long (g0_4 q1 q2 q3 q4 q5 p6)), .second, .val (.ref b352), .val (.ref b373), .val (.int (1 : Int32)), .val (.int (2 : Int32)), .val (.int (1 : Int32)), .val (.int (5 : Int32)), .val (.int (0 : Int32)), .val (.int (3 : Int32)), .val (.int (4 : Int32)), .val (.int (63 : Int32)), .val (.long (g0_4 q1 q2 q3 q4 q5 p6)), .second, .unset, .unset, .unset, .unset, .unset, .unset, .unset, .unset, .unset, .unset]
def LA0_122 (q1 : Int64) (q2 : Int64) (q3 : Int64) (q4 : Int64) (q5 : Int64) (p6 : Int32) (b352 : Addr) (b373 : Addr) : Array Slot := #[.val (.long q1), .second, .val (.long q2), .second, .val (.long q3), .second, .val (.long q4), .second, .val (.long q5), .second, .val (.int p6), .val (.int (1 : Int32)), .val (.long q4), .second, .val (.long q5), .second, .val (.long (g0_2 q1 q2 q3 q4 q5 p6)), .second, .val (.long q2), .second, .val (.long (g0_3 q1 q2 q3 q4 q5 p6)), .second, .val (.long (g0_4 q1 q2 q3 q4 q5 p6)), .second, .val (.ref b352), .val (.ref b373), .val (.int (1 : Int32)), .val (.int (2 : Int32)), .val (.int (1 : Int32)), .val (.int (5 : Int32)), .val (.int (0 : Int32)), .val (.int (3 : Int32)), .val (.int (4 : Int32)), .val (.int (63 : Int32)), .val (.long (g0_4 q1 q2 q3 q4 q5 p6)), .second, .val (.long q4), .second, .unset, .unset, .unset, .unset, .unset, .unset, .unset, .unset]
def LA0_123 (q1 : Int64) (q2 : Int64) (q3 : Int64) (q4 : Int64) (q5 : Int64) (p6 : Int32) (b352 : Addr) (b373 : Addr) : Array Slot := #[.val (.long q1), .second, .val (.long q2), .second, .val (.long q3), .second, .val (.long q4), .second, .val (.long q5), .second, .val (.int p6), .val (.int (1 : Int32)), .val (.long q4), .second, .val (.long q5), .second, .val (.long (g0_2 q1 q2 q3 q4 q5 p6)), .second, .val (.long q2), .second, .val (.long (g0_3 q1 q2 q3 q4 q5 p6)), .second, .val (.long (g0_4 q1 q2 q3 q4 q5 p6)), .second, .val (.ref b352), .val (.ref b373), .val (.int (1 : Int32)), .val (.int (2 : Int32)), .val (.int (1 : Int32)), .val (.int (5 : Int32)), .val (.int (0 : Int32)), .val (.int (3 : Int32)), .val (.int (4 : Int32)), .val (.int (63 : Int32)), .val (.long (g0_4 q1 q2 q3 q4 q5 p6)), .second, .val (.long q4), .second, .val (.long (g0_3 q1 q2 q3 q4 q5 p6)), .second, .unset, .unset, .unset, .unset, .unset, .unset]
def LA0_124 (q1 : Int64) (q2 : Int64) (q3 : Int64) (q4 : Int64) (q5 : Int64) (p6 : Int32) (b352 : Addr) (b373 : Addr) : Array Slot := #[.val (.long q1), .second, .val (.long q2), .second, .val (.long q3), .second, .val (.long q4), .second, .val (.long q5), .second, .val (.int p6), .val (.int (1 : Int32)), .val (.long q4), .second, .val (.long q5), .second, .val (.long (g0_2 q1 q2 q3 q4 q5 p6)), .second, .val (.long q2), .second, .val (.long (g0_3 q1 q2 q3 q4 q5 p6)), .second, .val (.long (g0_4 q1 q2 q3 q4 q5 p6)), .second, .val (.ref b352), .val (.ref b373), .val (.int (1 : Int32)), .val (.int (2 : Int32)), .val (.int (1 : Int32)), .val (.int (5 : Int32)), .val (.int (0 : Int32)), .val (.int (3 : Int32)), .val (.int (4 : Int32)), .val (.int (63 : Int32)), .val (.long (g0_4 q1 q2 q3 q4 q5 p6)), .second, .val (.long q4), .second, .val (.long (g0_3 q1 q2 q3 q4 q5 p6)), .second, .val (.long q2), .second, .unset, .unset, .unset, .unset]
def LA0_125 (q1 : Int64) (q2 : Int64) (q3 : Int64) (q4 : Int64) (q5 : Int64) (p6 : Int32) (b352 : Addr) (b373 : Addr) : Array Slot := #[.val (.long q1), .second, .val (.long q2), .second, .val (.long q3), .second, .val (.long q4), .second, .val (.long q5), .second, .val (.int p6), .val (.int (1 : Int32)), .val (.long q4), .second, .val (.long q5), .second, .val (.long (g0_2 q1 q2 q3 q4 q5 p6)), .second, .val (.long q2), .second, .val (.long (g0_3 q1 q2 q3 q4 q5 p6)), .second, .val (.long (g0_4 q1 q2 q3 q4 q5 p6)), .second, .val (.ref b352), .val (.ref b373), .val (.int (1 : Int32)), .val (.int (2 : Int32)), .val (.int (1 : Int32)), .val (.int (5 : Int32)), .val (.int (0 : Int32)), .val (.int (3 : Int32)), .val (.int (4 : Int32)), .val (.int (63 : Int32)), .val (.long (g0_4 q1 q2 q3 q4 q5 p6)), .second, .val (.long q4), .second, .val (.long (g0_3 q1 q2 q3 q4 q5 p6)), .second, .val (.long q2), .second, .val (.long q5), .second, .unset, .unset]
def LA0_126 (q1 : Int64) (q2 : Int64) (q3 : Int64) (q4 : Int64) (q5 : Int64) (p6 : Int32) (b352 : Addr) (b373 : Addr) : Array Slot := #[.val (.long q1), .second, .val (.long q2), .second, .val (.long q3), .second, .val (.long q4), .second, .val (.long q5), .second, .val (.int p6), .val (.int (1 : Int32)), .val (.long q4), .second, .val (.long q5), .second, .val (.long (g0_2 q1 q2 q3 q4 q5 p6)), .second, .val (.long q2), .second, .val (.long (g0_3 q1 q2 q3 q4 q5 p6)), .second, .val (.long (g0_4 q1 q2 q3 q4 q5 p6)), .second, .val (.ref b352), .val (.ref b373), .val (.int (1 : Int32)), .val (.int (2 : Int32)), .val (.int (1 : Int32)), .val (.int (5 : Int32)), .val (.int (0 : Int32)), .val (.int (3 : Int32)), .val (.int (4 : Int32)), .val (.int (63 : Int32)), .val (.long (g0_4 q1 q2 q3 q4 q5 p6)), .second, .val (.long q4), .second, .val (.long (g0_3 q1 q2 q3 q4 q5 p6)), .second, .val (.long q2), .second, .val (.long q5), .second, .val (.long (g0_2 q1 q2 q3 q4 q5 p6)), .second]
def LA0_127 (q1 : Int64) (q2 : Int64) (q3 : Int64) (q4 : Int64) (q5 : Int64) (p6 : Int32) (b352 : Addr) (b373 : Addr) : Array Slot := #[.val (.long q1), .second, .val (.long q2), .second, .val (.long q3), .second, .val (.long q4), .second, .val (.long q5), .second, .val (.int p6), .val (.int (1 : Int32)), .val (.long q4), .second, .val (.long q5), .second, .val (.long (g0_2 q1 q2 q3 q4 q5 p6)), .second, .val (.long q2), .second, .val (.long (g0_3 q1 q2 q3 q4 q5 p6)), .second, .val (.long (g0_4 q1 q2 q3 q4 q5 p6)), .second, .val (.ref b352), .val (.ref b373), .val (.int (0 : Int32)), .val (.int (2 : Int32)), .val (.int (1 : Int32)), .val (.int (5 : Int32)), .val (.int (0 : Int32)), .val (.int (3 : Int32)), .val (.int (4 : Int32)), .val (.int (63 : Int32)), .val (.long (g0_4 q1 q2 q3 q4 q5 p6)), .second, .val (.long q4), .second, .val (.long (g0_3 q1 q2 q3 q4 q5 p6)), .second, .val (.long q2), .second, .val (.long q5), .second, .val (.long (g0_2 q1 q2 q3 q4 q5 p6)), .second]
def LA0_128 (q1 : Int64) (q2 : Int64) (q3 : Int64) (q4 : Int64) (q5 : Int64) (p6 : Int32) (b352 : Addr) (b373 : Addr) : Array Slot := #[.val (.long q1), .second, .val (.long q2), .second, .val (.long q3), .second, .val (.long q4), .second, .val (.long q5), .second, .val (.int p6), .val (.int (1 : Int32)), .val (.long q4), .second, .val (.long q5), .second, .val (.long (g0_2 q1 q2 q3 q4 q5 p6)), .second, .val (.long q2), .second, .val (.long (g0_3 q1 q2 q3 q4 q5 p6)), .second, .val (.long (g0_4 q1 q2 q3 q4 q5 p6)), .second, .val (.ref b352), .val (.ref b373), .val (.int (1 : Int32)), .val (.int (2 : Int32)), .val (.int (0 : Int32)), .unset, .unset, .unset, .unset, .unset, .unset, .unset, .unset, .unset, .unset, .unset, .unset, .unset, .unset, .unset, .unset, .unset]
def LA0_129 (q1 : Int64) (q2 : Int64) (q3 : Int64) (q4 : Int64) (q5 : Int64) (p6 : Int32) (b352 : Addr) (b373 : Addr) : Array Slot := #[.val (.long q1), .second, .val (.long q2), .second, .val (.long q3), .second, .val (.long q4), .second, .val (.long q5), .second, .val (.int p6), .val (.int (1 : Int32)), .val (.long q4), .second, .val (.long q5), .second, .val (.long (g0_2 q1 q2 q3 q4 q5 p6)), .second, .val (.long q2), .second, .val (.long (g0_3 q1 q2 q3 q4 q5 p6)), .second, .val (.long (g0_4 q1 q2 q3 q4 q5 p6)), .second, .val (.ref b352), .val (.ref b373), .val (.int (1 : Int32)), .val (.int (2 : Int32)), .val (.int (0 : Int32)), .val (.int (5 : Int32)), .unset, .unset, .unset, .unset, .unset, .unset, .unset, .unset, .unset, .unset, .unset, .unset, .unset, .unset, .unset, .unset]
def LA0_130 (q1 : Int64) (q2 : Int64) (q3 : Int64) (q4 : Int64) (q5 : Int64) (p6 : Int32) (b352 : Addr) (b373 : Addr) : Array Slot := #[.val (.long q1), .second, .val (.long q2), .second, .val (.long q3), .second, .val (.long q4), .second, .val (.long q5), .second, .val (.int p6), .val (.int (1 : Int32)), .val (.long q4), .second, .val (.long q5), .second, .val (.long (g0_2 q1 q2 q3 q4 q5 p6)), .second, .val (.long q2), .second, .val (.long (g0_3 q1 q2 q3 q4 q5 p6)), .second, .val (.long (g0_4 q1 q2 q3 q4 q5 p6)), .second, .val (.ref b352), .val (.ref b373), .val (.int (1 : Int32)), .val (.int (2 : Int32)), .val (.int (0 : Int32)), .val (.int (5 : Int32)), .val (.int (1 : Int32)), .unset, .unset, .unset, .unset, .unset, .unset, .unset, .unset, .unset, .unset, .unset, .unset, .unset, .unset, .unset]
def LA0_131 (q1 : Int64) (q2 : Int64) (q3 : Int64) (q4 : Int64) (q5 : Int64) (p6 : Int32) (b352 : Addr) (b373 : Addr) : Array Slot := #[.val (.long q1), .second, .val (.long q2), .second, .val (.long q3), .second, .val (.long q4), .second, .val (.long q5), .second, .val (.int p6), .val (.int (1 : Int32)), .val (.long q4), .second, .val (.long q5), .second, .val (.long (g0_2 q1 q2 q3 q4 q5 p6)), .second, .val (.long q2), .second, .val (.long (g0_3 q1 q2 q3 q4 q5 p6)), .second, .val (.long (g0_4 q1 q2 q3 q4 q5 p6)), .second, .val (.ref b352), .val (.ref b373), .val (.int (1 : Int32)), .val (.int (2 : Int32)), .val (.int (0 : Int32)), .val (.int (5 : Int32)), .val (.int (1 : Int32)), .val (.int (3 : Int32)), .unset, .unset, .unset, .unset, .unset, .unset, .unset, .unset, .unset, .unset, .unset, .unset, .unset, .unset]
def LA0_132 (q1 : Int64) (q2 : Int64) (q3 : Int64) (q4 : Int64) (q5 : Int64) (p6 : Int32) (b352 : Addr) (b373 : Addr) : Array Slot := #[.val (.long q1), .second, .val (.long q2), .second, .val (.long q3), .second, .val (.long q4), .second, .val (.long q5), .second, .val (.int p6), .val (.int (1 : Int32)), .val (.long q4), .second, .val (.long q5), .second, .val (.long (g0_2 q1 q2 q3 q4 q5 p6)), .second, .val (.long q2), .second, .val (.long (g0_3 q1 q2 q3 q4 q5 p6)), .second, .val (.long (g0_4 q1 q2 q3 q4 q5 p6)), .second, .val (.ref b352), .val (.ref b373), .val (.int (1 : Int32)), .val (.int (2 : Int32)), .val (.int (0 : Int32)), .val (.int (5 : Int32)), .val (.int (1 : Int32)), .val (.int (3 : Int32)), .val (.int (4 : Int32)), .unset, .unset, .unset, .unset, .unset, .unset, .unset, .unset, .unset, .unset, .unset, .unset, .unset]
def LA0_133 (q1 : Int64) (q2 : Int64) (q3 : Int64) (q4 : Int64) (q5 : Int64) (p6 : Int32) (b352 : Addr) (b373 : Addr) : Array Slot := #[.val (.long q1), .second, .val (.long q2), .second, .val (.long q3), .second, .val (.long q4), .second, .val (.long q5), .second, .val (.int p6), .val (.int (1 : Int32)), .val (.long q4), .second, .val (.long q5), .second, .val (.long (g0_2 q1 q2 q3 q4 q5 p6)), .second, .val (.long q2), .second, .val (.long (g0_3 q1 q2 q3 q4 q5 p6)), .second, .val (.long (g0_4 q1 q2 q3 q4 q5 p6)), .second, .val (.ref b352), .val (.ref b373), .val (.int (1 : Int32)), .val (.int (2 : Int32)), .val (.int (0 : Int32)), .val (.int (5 : Int32)), .val (.int (1 : Int32)), .val (.int (3 : Int32)), .val (.int (4 : Int32)), .val (.int (63 : Int32)), .unset, .unset, .unset, .unset, .unset, .unset, .unset, .unset, .unset, .unset, .unset, .unset]
def LA0_134 (q1 : Int64) (q2 : Int64) (q3 : Int64) (q4 : Int64) (q5 : Int64) (p6 : Int32) (b352 : Addr) (b373 : Addr) : Array Slot := #[.val (.long q1), .second, .val (.long q2), .second, .val (.long q3), .second, .val (.long q4), .second, .val (.long q5), .second, .val (.int p6), .val (.int (1 : Int32)), .val (.long q4), .second, .val (.long q5), .second, .val (.long (g0_2 q1 q2 q3 q4 q5 p6)), .second, .val (.long q2), .second, .val (.long (g0_3 q1 q2 q3 q4 q5 p6)), .second, .val (.long (g0_4 q1 q2 q3 q4 q5 p6)), .second, .val (.ref b352), .val (.ref b373), .val (.int (1 : Int32)), .val (.int (2 : Int32)), .val (.int (0 : Int32)), .val (.int (5 : Int32)), .val (.int (1 : Int32)), .val (.int (3 : Int32)), .val (.int (4 : Int32)), .val (.int (63 : Int32)), .val (.long (g0_4 q1 q2 q3 q4 q5 p6)), .second, .unset, .unset, .unset, .unset, .unset, .unset, .unset, .unset, .unset, .unset]
def LA0_135 (q1 : Int64) (q2 : Int64) (q3 : Int64) (q4 : Int64) (q5 : Int64) (p6 : Int32) (b352 : Addr) (b373 : Addr) : Array Slot := #[.val (.long q1), .second, .val (.long q2), .second, .val (.long q3), .second, .val (.long q4), .second, .val (.long q5), .second, .val (.int p6), .val (.int (1 : Int32)), .val (.long q4), .second, .val (.long q5), .second, .val (.long (g0_2 q1 q2 q3 q4 q5 p6)), .second, .val (.long q2), .second, .val (.long (g0_3 q1 q2 q3 q4 q5 p6)), .second, .val (.long (g0_4 q1 q2 q3 q4 q5 p6)), .second, .val (.ref b352), .val (.ref b373), .val (.int (1 : Int32)), .val (.int (2 : Int32)), .val (.int (0 : Int32)), .val (.int (5 : Int32)), .val (.int (1 : Int32)), .val (.int (3 : Int32)), .val (.int (4 : Int32)), .val (.int (63 : Int32)), .val (.long (g0_4 q1 q2 q3 q4 q5 p6)), .second, .val (.long q2), .second, .unset, .unset, .unset, .unset, .unset, .unset, .unset, .unset]
def LA0_136 (q1 : Int64) (q2 : Int64) (q3 : Int64) (q4 : Int64) (q5 : Int64) (p6 : Int32) (b352 : Addr) (b373 : Addr) : Array Slot := #[.val (.long q1), .second, .val (.long q2), .second, .val (.long q3), .second, .val (.long q4), .second, .val (.long q5), .second, .val (.int p6), .val (.int (1 : Int32)), .val (.long q4), .second, .val (.long q5), .second, .val (.long (g0_2 q1 q2 q3 q4 q5 p6)), .second, .val (.long q2), .second, .val (.long (g0_3 q1 q2 q3 q4 q5 p6)), .second, .val (.long (g0_4 q1 q2 q3 q4 q5 p6)), .second, .val (.ref b352), .val (.ref b373), .val (.int (1 : Int32)), .val (.int (2 : Int32)), .val (.int (0 : Int32)), .val (.int (5 : Int32)), .val (.int (1 : Int32)), .val (.int (3 : Int32)), .val (.int (4 : Int32)), .val (.int (63 : Int32)), .val (.long (g0_4 q1 q2 q3 q4 q5 p6)), .second, .val (.long q2), .second, .val (.long (g0_3 q1 q2 q3 q4 q5 p6)), .second, .unset, .unset, .unset, .unset, .unset, .unset]
def LA0_137 (q1 : Int64) (q2 : Int64) (q3 : Int64) (q4 : Int64) (q5 : Int64) (p6 : Int32) (b352 : Addr) (b373 : Addr) : Array Slot := #[.val (.long q1), .second, .val (.long q2), .second, .val (.long q3), .second, .val (.long q4), .second, .val (.long q5), .second, .val (.int p6), .val (.int (1 : Int32)), .val (.long q4), .second, .val (.long q5), .second, .val (.long (g0_2 q1 q2 q3 q4 q5 p6)), .second, .val (.long q2), .second, .val (.long (g0_3 q1 q2 q3 q4 q5 p6)), .second, .val (.long (g0_4 q1 q2 q3 q4 q5 p6)), .second, .val (.ref b352), .val (.ref b373), .val (.int (1 : Int32)), .val (.int (2 : Int32)), .val (.int (0 : Int32)), .val (.int (5 : Int32)), .val (.int (1 : Int32)), .val (.int (3 : Int32)), .val (.int (4 : Int32)), .val (.int (63 : Int32)), .val (.long (g0_4 q1 q2 q3 q4 q5 p6)), .second, .val (.long q2), .second, .val (.long (g0_3 q1 q2 q3 q4 q5 p6)), .second, .val (.long q4), .second, .unset, .unset, .unset, .unset]
def LA0_138 (q1 : Int64) (q2 : Int64) (q3 : Int64) (q4 : Int64) (q5 : Int64) (p6 : Int32) (b352 : Addr) (b373 : Addr) : Array Slot := #[.val (.long q1), .second, .val (.long q2), .second, .val (.long q3), .second, .val (.long q4), .second, .val (.long q5), .second, .val (.int p6), .val (.int (1 : Int32)), .val (.long q4), .second, .val (.long q5), .second, .val (.long (g0_2 q1 q2 q3 q4 q5 p6)), .second, .val (.long q2), .second, .val (.long (g0_3 q1 q2 q3 q4 q5 p6)), .second, .val (.long (g0_4 q1 q2 q3 q4 q5 p6)), .second, .val (.ref b352), .val (.ref b373), .val (.int (1 : Int32)), .val (.int (2 : Int32)), .val (.int (0 : Int32)), .val (.int (5 : Int32)), .val (.int (1 : Int32)), .val (.int (3 : Int32)), .val (.int (4 : Int32)), .val (.int (63 : Int32)), .val (.long (g0_4 q1 q2 q3 q4 q5 p6)), .second, .val (.long q2), .second, .val (.long (g0_3 q1 q2 q3 q4 q5 p6)), .second, .val (.long q4), .second, .val (.long q5), .second, .unset, .unset]
def LA0_139 (q1 : Int64) (q2 : Int64) (q3 : Int64) (q4 : Int64) (q5 : Int64) (p6 : Int32) (b352 : Addr) (b373 : Addr) : Array Slot := #[.val (.long q1), .second, .val (.long q2), .second, .val (.long q3), .second, .val (.long q4), .second, .val (.long q5), .second, .val (.int p6), .val (.int (1 : Int32)), .val (.long q4), .second, .val (.long q5), .second, .val (.long (g0_2 q1 q2 q3 q4 q5 p6)), .second, .val (.long q2), .second, .val (.long (g0_3 q1 q2 q3 q4 q5 p6)), .second, .val (.long (g0_4 q1 q2 q3 q4 q5 p6)), .second, .val (.ref b352), .val (.ref b373), .val (.int (1 : Int32)), .val (.int (2 : Int32)), .val (.int (0 : Int32)), .val (.int (5 : Int32)), .val (.int (1 : Int32)), .val (.int (3 : Int32)), .val (.int (4 : Int32)), .val (.int (63 : Int32)), .val (.long (g0_4 q1 q2 q3 q4 q5 p6)), .second, .val (.long q2), .second, .val (.long (g0_3 q1 q2 q3 q4 q5 p6)), .second, .val (.long q4), .second, .val (.long q5), .second, .val (.long (g0_2 q1 q2 q3 q4 q5 p6)), .second]
def LA0_140 (q1 : Int64) (q2 : Int64) (q3 : Int64) (q4 : Int64) (q5 : Int64) (p6 : Int32) (b352 : Addr) (b373 : Addr) : Array Slot := #[.val (.long q1), .second, .val (.long q2), .second, .val (.long q3), .second, .val (.long q4), .second, .val (.long q5), .second, .val (.int p6), .val (.int (1 : Int32)), .val (.long q4), .second, .val (.long q5), .second, .val (.long (g0_2 q1 q2 q3 q4 q5 p6)), .second, .val (.long q2), .second, .val (.long (g0_3 q1 q2 q3 q4 q5 p6)), .second, .val (.long (g0_4 q1 q2 q3 q4 q5 p6)), .second, .val (.ref b352), .val (.ref b373), .val (.int (0 : Int32)), .val (.int (2 : Int32)), .val (.int (0 : Int32)), .val (.int (5 : Int32)), .val (.int (1 : Int32)), .val (.int (3 : Int32)), .val (.int (4 : Int32)), .val (.int (63 : Int32)), .val (.long (g0_4 q1 q2 q3 q4 q5 p6)), .second, .val (.long q2), .second, .val (.long (g0_3 q1 q2 q3 q4 q5 p6)), .second, .val (.long q4), .second, .val (.long q5), .second, .val (.long (g0_2 q1 q2 q3 q4 q5 p6)), .second]
def LA0_141 (q1 : Int64) (q2 : Int64) (q3 : Int64) (q4 : Int64) (q5 : Int64) (p6 : Int32)  : Array Slot := #[.val (.long q1), .second, .val (.long q2), .second, .val (.long q3), .second, .val (.long q4), .second, .val (.long q5), .second, .val (.int p6), .val (.int (2 : Int32)), .unset, .unset, .unset, .unset, .unset, .unset, .unset, .unset, .unset, .unset, .unset, .unset, .unset, .unset, .unset, .unset, .unset, .unset, .unset, .unset, .unset, .unset, .unset, .unset, .unset, .unset, .unset, .unset, .unset, .unset, .unset, .unset, .unset, .unset]
def LA0_142 (q1 : Int64) (q2 : Int64) (q3 : Int64) (q4 : Int64) (q5 : Int64) (p6 : Int32)  : Array Slot := #[.val (.long q1), .second, .val (.long q2), .second, .val (.long q3), .second, .val (.long q4), .second, .val (.long q5), .second, .val (.int p6), .val (.int (2 : Int32)), .val (.long q4), .second, .unset, .unset, .unset, .unset, .unset, .unset, .unset, .unset, .unset, .unset, .unset, .unset, .unset, .unset, .unset, .unset, .unset, .unset, .unset, .unset, .unset, .unset, .unset, .unset, .unset, .unset, .unset, .unset, .unset, .unset, .unset, .unset]
def LA0_143 (q1 : Int64) (q2 : Int64) (q3 : Int64) (q4 : Int64) (q5 : Int64) (p6 : Int32)  : Array Slot := #[.val (.long q1), .second, .val (.long q2), .second, .val (.long q3), .second, .val (.long q4), .second, .val (.long q5), .second, .val (.int p6), .val (.int (2 : Int32)), .val (.long q4), .second, .val (.long q5), .second, .unset, .unset, .unset, .unset, .unset, .unset, .unset, .unset, .unset, .unset, .unset, .unset, .unset, .unset, .unset, .unset, .unset, .unset, .unset, .unset, .unset, .unset, .unset, .unset, .unset, .unset, .unset, .unset, .unset, .unset]
def LA0_144 (q1 : Int64) (q2 : Int64) (q3 : Int64) (q4 : Int64) (q5 : Int64) (p6 : Int32)  : Array Slot := #[.val (.long q1), .second, .val (.long q2), .second, .val (.long q3), .second, .val (.long q4), .second, .val (.long q5), .second, .val (.int p6), .val (.int (2 : Int32)), .val (.long q4), .second, .val (.long q5), .second, .val (.long (g0_2 q1 q2 q3 q4 q5 p6)), .second, .unset, .unset, .unset, .unset, .unset, .unset, .unset, .unset, .unset, .unset, .unset, .unset, .unset, .unset, .unset, .unset, .unset, .unset, .unset, .unset, .unset, .unset, .unset, .unset, .unset, .unset, .unset, .unset]
def LA0_145 (q1 : Int64) (q2 : Int64) (q3 : Int64) (q4 : Int64) (q5 : Int64) (p6 : Int32)  : Array Slot := #[.val (.long q1), .second, .val (.long q2), .second, .val (.long q3), .second, .val (.long q4), .second, .val (.long q5), .second, .val (.int p6), .val (.int (2 : Int32)), .val (.long q4), .second, .val (.long q5), .second, .val (.long (g0_2 q1 q2 q3 q4 q5 p6)), .second, .val (.long (f1 q2 (f1 q4 q5))), .second, .unset, .unset, .unset, .unset, .unset, .unset, .unset, .unset, .unset, .unset, .unset, .unset, .unset, .unset, .unset, .unset, .unset, .unset, .unset, .unset, .unset, .unset, .unset, .unset, .unset, .unset]
def LA0_146 (q1 : Int64) (q2 : Int64) (q3 : Int64) (q4 : Int64) (q5 : Int64) (p6 : Int32)  : Array Slot := #[.val (.long q1), .second, .val (.long q2), .second, .val (.long q3), .second, .val (.long q4), .second, .val (.long q5), .second, .val (.int p6), .val (.int (2 : Int32)), .val (.long q4), .second, .val (.long q5), .second, .val (.long (g0_2 q1 q2 q3 q4 q5 p6)), .second, .val (.long (f1 q2 (f1 q4 q5))), .second, .val (.long q3), .second, .unset, .unset, .unset, .unset, .unset, .unset, .unset, .unset, .unset, .unset, .unset, .unset, .unset, .unset, .unset, .unset, .unset, .unset, .unset, .unset, .unset, .unset, .unset, .unset]
def g0_5 (q1 : Int64) (q2 : Int64) (q3 : Int64) (q4 : Int64) (q5 : Int64) (p6 : Int32) : Int64 := (f1 (f1 q1 (f1 q2 (f1 q4 q5))) (f1 q3 (f1 q4 (f1 q5 (g0_2 q1 q2 q3 q4 q5 p6)))))
def LA0_147 (q1 : Int64) (q2 : Int64) (q3 : Int64) (q4 : Int64) (q5 : Int64) (p6 : Int32)  : Array Slot := #[.val (.long q1), .second, .val (.long q2), .second, .val (.long q3), .second, .val (.long q4), .second, .val (.long q5), .second, .val (.int p6), .val (.int (2 : Int32)), .val (.long q4), .second, .val (.long q5), .second, .val (.long (g0_2 q1 q2 q3 q4 q5 p6)), .second, .val (.long (f1 q2 (f1 q4 q5))), .second, .val (.long q3), .second, .val (.long (g0_5 q1 q2 q3 q4 q5 p6)), .second, .unset, .unset, .unset, .unset, .unset, .unset, .unset, .unset, .unset, .unset, .unset, .unset, .unset, .unset, .unset, .unset, .unset, .unset, .unset, .unset, .unset, .unset]
def LA0_148 (q1 : Int64) (q2 : Int64) (q3 : Int64) (q4 : Int64) (q5 : Int64) (p6 : Int32) (b536 : Addr) : Array Slot := #[.val (.long q1), .second, .val (.long q2), .second, .val (.long q3), .second, .val (.long q4), .second, .val (.long q5), .second, .val (.int p6), .val (.int (2 : Int32)), .val (.long q4), .second, .val (.long q5), .second, .val (.long (g0_2 q1 q2 q3 q4 q5 p6)), .second, .val (.long (f1 q2 (f1 q4 q5))), .second, .val (.long q3), .second, .val (.long (g0_5 q1 q2 q3 q4 q5 p6)), .second, .val (.ref b536), .unset, .unset, .unset, .unset, .unset, .unset, .unset, .unset, .unset, .unset, .unset, .unset, .unset, .unset, .unset, .unset, .unset, .unset, .unset, .unset, .unset]
def LA0_149 (q1 : Int64) (q2 : Int64) (q3 : Int64) (q4 : Int64) (q5 : Int64) (p6 : Int32) (b536 : Addr) (b557 : Addr) : Array Slot := #[.val (.long q1), .second, .val (.long q2), .second, .val (.long q3), .second, .val (.long q4), .second, .val (.long q5), .second, .val (.int p6), .val (.int (2 : Int32)), .val (.long q4), .second, .val (.long q5), .second, .val (.long (g0_2 q1 q2 q3 q4 q5 p6)), .second, .val (.long (f1 q2 (f1 q4 q5))), .second, .val (.long q3), .second, .val (.long (g0_5 q1 q2 q3 q4 q5 p6)), .second, .val (.ref b536), .val (.ref b557), .unset, .unset, .unset, .unset, .unset, .unset, .unset, .unset, .unset, .unset, .unset, .unset, .unset, .unset, .unset, .unset, .unset, .unset, .unset, .unset]
def LA0_150 (q1 : Int64) (q2 : Int64) (q3 : Int64) (q4 : Int64) (q5 : Int64) (p6 : Int32) (b536 : Addr) (b557 : Addr) : Array Slot := #[.val (.long q1), .second, .val (.long q2), .second, .val (.long q3), .second, .val (.long q4), .second, .val (.long q5), .second, .val (.int p6), .val (.int (2 : Int32)), .val (.long q4), .second, .val (.long q5), .second, .val (.long (g0_2 q1 q2 q3 q4 q5 p6)), .second, .val (.long (f1 q2 (f1 q4 q5))), .second, .val (.long q3), .second, .val (.long (g0_5 q1 q2 q3 q4 q5 p6)), .second, .val (.ref b536), .val (.ref b557), .val (.int (1 : Int32)), .unset, .unset, .unset, .unset, .unset, .unset, .unset, .unset, .unset, .unset, .unset, .unset, .unset, .unset, .unset, .unset, .unset, .unset, .unset]
def LA0_151 (q1 : Int64) (q2 : Int64) (q3 : Int64) (q4 : Int64) (q5 : Int64) (p6 : Int32) (b536 : Addr) (b557 : Addr) : Array Slot := #[.val (.long q1), .second, .val (.long q2), .second, .val (.long q3), .second, .val (.long q4), .second, .val (.long q5), .second, .val (.int p6), .val (.int (2 : Int32)), .val (.long q4), .second, .val (.long q5), .second, .val (.long (g0_2 q1 q2 q3 q4 q5 p6)), .second, .val (.long (f1 q2 (f1 q4 q5))), .second, .val (.long q3), .second, .val (.long (g0_5 q1 q2 q3 q4 q5 p6)), .second, .val (.ref b536), .val (.ref b557), .val (.int (1 : Int32)), .val (.int (2 : Int32)), .unset, .unset, .unset, .unset, .unset, .unset, .unset, .unset, .unset, .unset, .unset, .unset, .unset, .unset, .unset, .unset, .unset, .unset]
def LA0_152 (q1 : Int64) (q2 : Int64) (q3 : Int64) (q4 : Int64) (q5 : Int64) (p6 : Int32) (b536 : Addr) (b557 : Addr) : Array Slot := #[.val (.long q1), .second, .val (.long q2), .second, .val (.long q3), .second, .val (.long q4), .second, .val (.long q5), .second, .val (.int p6), .val (.int (2 : Int32)), .val (.long q4), .second, .val (.long q5), .second, .val (.long (g0_2 q1 q2 q3 q4 q5 p6)), .second, .val (.long (f1 q2 (f1 q4 q5))), .second, .val (.long q3), .second, .val (.long (g0_5 q1 q2 q3 q4 q5 p6)), .second, .val (.ref b536), .val (.ref b557), .val (.int (1 : Int32)), .val (.int (2 : Int32)), .val (.int (0 : Int32)), .unset, .unset, .unset, .unset, .unset, .unset, .unset, .unset, .unset, .unset, .unset, .unset, .unset, .unset, .unset, .unset, .unset]
def LA0_153 (q1 : Int64) (q2 : Int64) (q3 : Int64) (q4 : Int64) (q5 : Int64) (p6 : Int32) (b536 : Addr) (b557 : Addr) : Array Slot := #[.val (.long q1), .second, .val (.long q2), .second, .val (.long q3), .second, .val (.long q4), .second, .val (.long q5), .second, .val (.int p6), .val (.int (2 : Int32)), .val (.long q4), .second, .val (.long q5), .second, .val (.long (g0_2 q1 q2 q3 q4 q5 p6)), .second, .val (.long (f1 q2 (f1 q4 q5))), .second, .val (.long q3), .second, .val (.long (g0_5 q1 q2 q3 q4 q5 p6)), .second, .val (.ref b536), .val (.ref b557), .val (.int (1 : Int32)), .val (.int (2 : Int32)), .val (.int (0 : Int32)), .val (.int (4 : Int32)), .unset, .unset, .unset, .unset, .unset, .unset, .unset, .unset, .unset, .unset, .unset, .unset, .unset, .unset, .unset, .unset]
def LA0_154 (q1 : Int64) (q2 : Int64) (q3 : Int64) (q4 : Int64) (q5 : Int64) (p6 : Int32) (b536 : Addr) (b557 : Addr) : Array Slot := #[.val (.long q1), .second, .val (.long q2), .second, .val (.long q3), .second, .val (.long q4), .second, .val (.long q5), .second, .val (.int p6), .val (.int (2 : Int32)), .val (.long q4), .second, .val (.long q5), .second, .val (.long (g0_2 q1 q2 q3 q4 q5 p6)), .second, .val (.long (f1 q2 (f1 q4 q5))), .second, .val (.long q3), .second, .val (.long (g0_5 q1 q2 q3 q4 q5 p6)), .second, .val (.ref b536), .val (.ref b557), .val (.int (1 : Int32)), .val (.int (2 : Int32)), .val (.int (0 : Int32)), .val (.int (4 : Int32)), .val (.int (1 : Int32)), .unset, .unset, .unset, .unset, .unset, .unset, .unset, .unset, .unset, .unset, .unset, .unset, .unset, .unset, .unset]
def LA0_155 (q1 : Int64) (q2 : Int64) (q3 : Int64) (q4 : Int64) (q5 : Int64) (p6 : Int32) (b536 : Addr) (b557 : Addr) : Array Slot := #[.val (.long q1), .second, .val (.long q2), .second, .val (.long q3), .second, .val (.long q4), .second, .val (.long q5), .second, .val (.int p6), .val (.int (2 : Int32)), .val (.long q4), .second, .val (.long q5), .second, .val (.long (g0_2 q1 q2 q3 q4 q5 p6)), .second, .val (.long (f1 q2 (f1 q4 q5))), .second, .val (.long q3), .second, .val (.long (g0_5 q1 q2 q3 q4 q5 p6)), .second, .val (.ref b536), .val (.ref b557), .val (.int (1 : Int32)), .val (.int (2 : Int32)), .val (.int (0 : Int32)), .val (.int (4 : Int32)), .val (.int (1 : Int32)), .val (.int (3 : Int32)), .unset, .unset, .unset, .unset, .unset, .unset, .unset, .unset, .unset, .unset, .unset, .unset, .unset, .unset]
def LA0_156 (q1 : Int64) (q2 : Int64) (q3 : Int64) (q4 : Int64) (q5 : Int64) (p6 : Int32) (b536 : Addr) (b557 : Addr) : Array Slot := #[.val (.long q1), .second, .val (.long q2), .second, .val (.long q3), .second, .val (.long q4), .second, .val (.long q5), .second, .val (.int p6), .val (.int (2 : Int32)), .val (.long q4), .second, .val (.long q5), .second, .val (.long (g0_2 q1 q2 q3 q4 q5 p6)), .second, .val (.long (f1 q2 (f1 q4 q5))), .second, .val (.long q3), .second, .val (.long (g0_5 q1 q2 q3 q4 q5 p6)), .second, .val (.ref b536), .val (.ref b557), .val (.int (1 : Int32)), .val (.int (2 : Int32)), .val (.int (0 : Int32)), .val (.int (4 : Int32)), .val (.int (1 : Int32)), .val (.int (3 : Int32)), .val (.int (5 : Int32)), .unset, .unset, .unset, .unset, .unset, .unset, .unset, .unset, .unset, .unset, .unset, .unset, .unset]
def LA0_157 (q1 : Int64) (q2 : Int64) (q3 : Int64) (q4 : Int64) (q5 : Int64) (p6 : Int32) (b536 : Addr) (b557 : Addr) : Array Slot := #[.val (.long q1), .second, .val (.long q2), .second, .val (.long q3), .second, .val (.long q4), .second, .val (.long q5), .second, .val (.int p6), .val (.int (2 : Int32)), .val (.long q4), .second, .val (.long q5), .second, .val (.long (g0_2 q1 q2 q3 q4 q5 p6)), .second, .val (.long (f1 q2 (f1 q4 q5))), .second, .val (.long q3), .second, .val (.long (g0_5 q1 q2 q3 q4 q5 p6)), .second, .val (.ref b536), .val (.ref b557), .val (.int (1 : Int32)), .val (.int (2 : Int32)), .val (.int (0 : Int32)), .val (.int (4 : Int32)), .val (.int (1 : Int32)), .val (.int (3 : Int32)), .val (.int (5 : Int32)), .val (.int (63 : Int32)), .unset, .unset, .unset, .unset, .unset, .unset, .unset, .unset, .unset, .unset, .unset, .unset]
def LA0_158 (q1 : Int64) (q2 : Int64) (q3 : Int64) (q4 : Int64) (q5 : Int64) (p6 : Int32) (b536 : Addr) (b557 : Addr) : Array Slot := #[.val (.long q1), .second, .val (.long q2), .second, .val (.long q3), .second, .val (.long q4), .second, .val (.long q5), .second, .val (.int p6), .val (.int (2 : Int32)), .val (.long q4), .second, .val (.long q5), .second, .val (.long (g0_2 q1 q2 q3 q4 q5 p6)), .second, .val (.long (f1 q2 (f1 q4 q5))), .second, .val (.long q3), .second, .val (.long (g0_5 q1 q2 q3 q4 q5 p6)), .second, .val (.ref b536), .val (.ref b557), .val (.int (1 : Int32)), .val (.int (2 : Int32)), .val (.int (0 : Int32)), .val (.int (4 : Int32)), .val (.int (1 : Int32)), .val (.int (3 : Int32)), .val (.int (5 : Int32)), .val (.int (63 : Int32)), .val (.long (g0_5 q1 q2 q3 q4 q5 p6)), .second, .unset, .unset, .unset, .unset, .unset, .unset, .unset, .unset, .unset, .unset]
def LA0_159 (q1 : Int64) (q2 : Int64) (q3 : Int64) (q4 : Int64) (q5 : Int64) (p6 : Int32) (b536 : Addr) (b557 : Addr) : Array Slot := #[.val (.long q1), .second, .val (.long q2), .second, .val (.long q3), .second, .val (.long q4), .second, .val (.long q5), .second, .val (.int p6), .val (.int (2 : Int32)), .val (.long q4), .second, .val (.long q5), .second, .val (.long (g0_2 q1 q2 q3 q4 q5 p6)), .second, .val (.long (f1 q2 (f1 q4 q5))), .second, .val (.long q3), .second, .val (.long (g0_5 q1 q2 q3 q4 q5 p6)), .second, .val (.ref b536), .val (.ref b557), .val (.int (1 : Int32)), .val (.int (2 : Int32)), .val (.int (0 : Int32)), .val (.int (4 : Int32)), .val (.int (1 : Int32)), .val (.int (3 : Int32)), .val (.int (5 : Int32)), .val (.int (63 : Int32)), .val (.long (g0_5 q1 q2 q3 q4 q5 p6)), .second, .val (.long (f1 q2 (f1 q4 q5))), .second, .unset, .unset, .unset, .unset, .unset, .unset, .unset, .unset]
def LA0_160 (q1 : Int64) (q2 : Int64) (q3 : Int64) (q4 : Int64) (q5 : Int64) (p6 : Int32) (b536 : Addr) (b557 : Addr) : Array Slot := #[.val (.long q1), .second, .val (.long q2), .second, .val (.long q3), .second, .val (.long q4), .second, .val (.long q5), .second, .val (.int p6), .val (.int (2 : Int32)), .val (.long q4), .second, .val (.long q5), .second, .val (.long (g0_2 q1 q2 q3 q4 q5 p6)), .second, .val (.long (f1 q2 (f1 q4 q5))), .second, .val (.long q3), .second, .val (.long (g0_5 q1 q2 q3 q4 q5 p6)), .second, .val (.ref b536), .val (.ref b557), .val (.int (1 : Int32)), .val (.int (2 : Int32)), .val (.int (0 : Int32)), .val (.int (4 : Int32)), .val (.int (1 : Int32)), .val (.int (3 : Int32)), .val (.int (5 : Int32)), .val (.int (63 : Int32)), .val (.long (g0_5 q1 q2 q3 q4 q5 p6)), .second, .val (.long (f1 q2 (f1 q4 q5))), .second, .val (.long (g0_2 q1 q2 q3 q4 q5 p6)), .second, .unset, .unset, .unset, .unset, .unset, .unset]
def LA0_161 (q1 : Int64) (q2 : Int64) (q3 : Int64) (q4 : Int64) (q5 : Int64) (p6 : Int32) (b536 : Addr) (b557 : Addr) : Array Slot := #[.val (.long q1), .second, .val (.long q2), .second, .val (.long q3), .second, .val (.long q4), .second, .val (.long q5), .second, .val (.int p6), .val (.int (2 : Int32)), .val (.long q4), .second, .val (.long q5), .second, .val (.long (g0_2 q1 q2 q3 q4 q5 p6)), .second, .val (.long (f1 q2 (f1 q4 q5))), .second, .val (.long q3), .second, .val (.long (g0_5 q1 q2 q3 q4 q5 p6)), .second, .val (.ref b536), .val (.ref b557), .val (.int (1 : Int32)), .val (.int (2 : Int32)), .val (.int (0 : Int32)), .val (.int (4 : Int32)), .val (.int (1 : Int32)), .val (.int (3 : Int32)), .val (.int (5 : Int32)), .val (.int (63 : Int32)), .val (.long (g0_5 q1 q2 q3 q4 q5 p6)), .second, .val (.long (f1 q2 (f1 q4 q5))), .second, .val (.long (g0_2 q1 q2 q3 q4 q5 p6)), .second, .val (.long q4), .second, .unset, .unset, .unset, .unset]
def LA0_162 (q1 : Int64) (q2 : Int64) (q3 : Int64) (q4 : Int64) (q5 : Int64) (p6 : Int32) (b536 : Addr) (b557 : Addr) : Array Slot := #[.val (.long q1), .second, .val (.long q2), .second, .val (.long q3), .second, .val (.long q4), .second, .val (.long q5), .second, .val (.int p6), .val (.int (2 : Int32)), .val (.long q4), .second, .val (.long q5), .second, .val (.long (g0_2 q1 q2 q3 q4 q5 p6)), .second, .val (.long (f1 q2 (f1 q4 q5))), .second, .val (.long q3), .second, .val (.long (g0_5 q1 q2 q3 q4 q5 p6)), .second, .val (.ref b536), .val (.ref b557), .val (.int (1 : Int32)), .val (.int (2 : Int32)), .val (.int (0 : Int32)), .val (.int (4 : Int32)), .val (.int (1 : Int32)), .val (.int (3 : Int32)), .val (.int (5 : Int32)), .val (.int (63 : Int32)), .val (.long (g0_5 q1 q2 q3 q4 q5 p6)), .second, .val (.long (f1 q2 (f1 q4 q5))), .second, .val (.long (g0_2 q1 q2 q3 q4 q5 p6)), .second, .val (.long q4), .second, .val (.long q5), .second, .unset, .unset]
def LA0_163 (q1 : Int64) (q2 : Int64) (q3 : Int64) (q4 : Int64) (q5 : Int64) (p6 : Int32) (b536 : Addr) (b557 : Addr) : Array Slot := #[.val (.long q1), .second, .val (.long q2), .second, .val (.long q3), .second, .val (.long q4), .second, .val (.long q5), .second, .val (.int p6), .val (.int (2 : Int32)), .val (.long q4), .second, .val (.long q5), .second, .val (.long (g0_2 q1 q2 q3 q4 q5 p6)), .second, .val (.long (f1 q2 (f1 q4 q5))), .second, .val (.long q3), .second, .val (.long (g0_5 q1 q2 q3 q4 q5 p6)), .second, .val (.ref b536), .val (.ref b557), .val (.int (1 : Int32)), .val (.int (2 : Int32)), .val (.int (0 : Int32)), .val (.int (4 : Int32)), .val (.int (1 : Int32)), .val (.int (3 : Int32)), .val (.int (5 : Int32)), .val (.int (63 : Int32)), .val (.long (g0_5 q1 q2 q3 q4 q5 p6)), .second, .val (.long (f1 q2 (f1 q4 q5))), .second, .val (.long (g0_2 q1 q2 q3 q4 q5 p6)), .second, .val (.long q4), .second, .val (.long q5), .second, .val (.long q3), .second]
def LA0_164 (q1 : Int64) (q2 : Int64) (q3 : Int64) (q4 : Int64) (q5 : Int64) (p6 : Int32) (b536 : Addr) (b557 : Addr) : Array Slot := #[.val (.long q1), .second, .val (.long q2), .second, .val (.long q3), .second, .val (.long q4), .second, .val (.long q5), .second, .val (.int p6), .val (.int (2 : Int32)), .val (.long q4), .second, .val (.long q5), .second, .val (.long (g0_2 q1 q2 q3 q4 q5 p6)), .second, .val (.long (f1 q2 (f1 q4 q5))), .second, .val (.long q3), .second, .val (.long (g0_5 q1 q2 q3 q4 q5 p6)), .second, .val (.ref b536), .val (.ref b557), .val (.int (0 : Int32)), .val (.int (2 : Int32)), .val (.int (0 : Int32)), .val (.int (4 : Int32)), .val (.int (1 : Int32)), .val (.int (3 : Int32)), .val (.int (5 : Int32)), .val (.int (63 : Int32)), .val (.long (g0_5 q1 q2 q3 q4 q5 p6)), .second, .val (.long (f1 q2 (f1 q4 q5))), .second, .val (.long (g0_2 q1 q2 q3 q4 q5 p6)), .second, .val (.long q4), .second, .val (.long q5), .second, .val (.long q3), .second]
def LA0_165 (q1 : Int64) (q2 : Int64) (q3 : Int64) (q4 : Int64) (q5 : Int64) (p6 : Int32) (b536 : Addr) (b557 : Addr) : Array Slot := #[.val (.long q1), .second, .val (.long q2), .second, .val (.long q3), .second, .val (.long q4), .second, .val (.long q5), .second, .val (.int p6), .val (.int (2 : Int32)), .val (.long q4), .second, .val (.long q5), .second, .val (.long (g0_2 q1 q2 q3 q4 q5 p6)), .second, .val (.long (f1 q2 (f1 q4 q5))), .second, .val (.long q3), .second, .val (.long (g0_5 q1 q2 q3 q4 q5 p6)), .second, .val (.ref b536), .val (.ref b557), .val (.int (1 : Int32)), .val (.int (2 : Int32)), .val (.int (0 : Int32)), .val (.int (5 : Int32)), .unset, .unset, .unset, .unset, .unset, .unset, .unset, .unset, .unset, .unset, .unset, .unset, .unset, .unset, .unset, .unset]
def LA0_166 (q1 : Int64) (q2 : Int64) (q3 : Int64) (q4 : Int64) (q5 : Int64) (p6 : Int32) (b536 : Addr) (b557 : Addr) : Array Slot := #[.val (.long q1), .second, .val (.long q2), .second, .val (.long q3), .second, .val (.long q4), .second, .val (.long q5), .second, .val (.int p6), .val (.int (2 : Int32)), .val (.long q4), .second, .val (.long q5), .second, .val (.long (g0_2 q1 q2 q3 q4 q5 p6)), .second, .val (.long (f1 q2 (f1 q4 q5))), .second, .val (.long q3), .second, .val (.long (g0_5 q1 q2 q3 q4 q5 p6)), .second, .val (.ref b536), .val (.ref b557), .val (.int (1 : Int32)), .val (.int (2 : Int32)), .val (.int (0 : Int32)), .val (.int (5 : Int32)), .val (.int (1 : Int32)), .unset, .unset, .unset, .unset, .unset, .unset, .unset, .unset, .unset, .unset, .unset, .unset, .unset, .unset, .unset]
def LA0_167 (q1 : Int64) (q2 : Int64) (q3 : Int64) (q4 : Int64) (q5 : Int64) (p6 : Int32) (b536 : Addr) (b557 : Addr) : Array Slot := #[.val (.long q1), .second, .val (.long q2), .second, .val (.long q3), .second, .val (.long q4), .second, .val (.long q5), .second, .val (.int p6), .val (.int (2 : Int32)), .val (.long q4), .second, .val (.long q5), .second, .val (.long (g0_2 q1 q2 q3 q4 q5 p6)), .second, .val (.long (f1 q2 (f1 q4 q5))), .second, .val (.long q3), .second, .val (.long (g0_5 q1 q2 q3 q4 q5 p6)), .second, .val (.ref b536), .val (.ref b557), .val (.int (1 : Int32)), .val (.int (2 : Int32)), .val (.int (0 : Int32)), .val (.int (5 : Int32)), .val (.int (1 : Int32)), .val (.int (3 : Int32)), .unset, .unset, .unset, .unset, .unset, .unset, .unset, .unset, .unset, .unset, .unset, .unset, .unset, .unset]
def LA0_168 (q1 : Int64) (q2 : Int64) (q3 : Int64) (q4 : Int64) (q5 : Int64) (p6 : Int32) (b536 : Addr) (b557 : Addr) : Array Slot := #[.val (.long q1), .second, .val (.long q2), .second, .val (.long q3), .second, .val (.long q4), .second, .val (.long q5), .second, .val (.int p6), .val (.int (2 : Int32)), .val (.long q4), .second, .val (.long q5), .second, .val (.long (g0_2 q1 q2 q3 q4 q5 p6)), .second, .val (.long (f1 q2 (f1 q4 q5))), .second, .val (.long q3), .second, .val (.long (g0_5 q1 q2 q3 q4 q5 p6)), .second, .val (.ref b536), .val (.ref b557), .val (.int (1 : Int32)), .val (.int (2 : Int32)), .val (.int (0 : Int32)), .val (.int (5 : Int32)), .val (.int (1 : Int32)), .val (.int (3 : Int32)), .val (.int (4 : Int32)), .unset, .unset, .unset, .unset, .unset, .unset, .unset, .unset, .unset, .unset, .unset, .unset, .unset]
def LA0_169 (q1 : Int64) (q2 : Int64) (q3 : Int64) (q4 : Int64) (q5 : Int64) (p6 : Int32) (b536 : Addr) (b557 : Addr) : Array Slot := #[.val (.long q1), .second, .val (.long q2), .second, .val (.long q3), .second, .val (.long q4), .second, .val (.long q5), .second, .val (.int p6), .val (.int (2 : Int32)), .val (.long q4), .second, .val (.long q5), .second, .val (.long (g0_2 q1 q2 q3 q4 q5 p6)), .second, .val (.long (f1 q2 (f1 q4 q5))), .second, .val (.long q3), .second, .val (.long (g0_5 q1 q2 q3 q4 q5 p6)), .second, .val (.ref b536), .val (.ref b557), .val (.int (1 : Int32)), .val (.int (2 : Int32)), .val (.int (0 : Int32)), .val (.int (5 : Int32)), .val (.int (1 : Int32)), .val (.int (3 : Int32)), .val (.int (4 : Int32)), .val (.int (63 : Int32)), .unset, .unset, .unset, .unset, .unset, .unset, .unset, .unset, .unset, .unset, .unset, .unset]
def LA0_170 (q1 : Int64) (q2 : Int64) (q3 : Int64) (q4 : Int64) (q5 : Int64) (p6 : Int32) (b536 : Addr) (b557 : Addr) : Array Slot := #[.val (.long q1), .second, .val (.long q2), .second, .val (.long q3), .second, .val (.long q4), .second, .val (.long q5), .second, .val (.int p6), .val (.int (2 : Int32)), .val (.long q4), .second, .val (.long q5), .second, .val (.long (g0_2 q1 q2 q3 q4 q5 p6)), .second, .val (.long (f1 q2 (f1 q4 q5))), .second, .val (.long q3), .second, .val (.long (g0_5 q1 q2 q3 q4 q5 p6)), .second, .val (.ref b536), .val (.ref b557), .val (.int (1 : Int32)), .val (.int (2 : Int32)), .val (.int (0 : Int32)), .val (.int (5 : Int32)), .val (.int (1 : Int32)), .val (.int (3 : Int32)), .val (.int (4 : Int32)), .val (.int (63 : Int32)), .val (.long (g0_5 q1 q2 q3 q4 q5 p6)), .second, .unset, .unset, .unset, .unset, .unset, .unset, .unset, .unset, .unset, .unset]
def LA0_171 (q1 : Int64) (q2 : Int64) (q3 : Int64) (q4 : Int64) (q5 : Int64) (p6 : Int32) (b536 : Addr) (b557 : Addr) : Array Slot := #[.val (.long q1), .second, .val (.long q2), .second, .val (.long q3), .second, .val (.long q4), .second, .val (.long q5), .second, .val (.int p6), .val (.int (2 : Int32)), .val (.long q4), .second, .val (.long q5), .second, .val (.long (g0_2 q1 q2 q3 q4 q5 p6)), .second, .val (.long (f1 q2 (f1 q4 q5))), .second, .val (.long q3), .second, .val (.long (g0_5 q1 q2 q3 q4 q5 p6)), .second, .val (.ref b536), .val (.ref b557), .val (.int (1 : Int32)), .val (.int (2 : Int32)), .val (.int (0 : Int32)), .val (.int (5 : Int32)), .val (.int (1 : Int32)), .val (.int (3 : Int32)), .val (.int (4 : Int32)), .val (.int (63 : Int32)), .val (.long (g0_5 q1 q2 q3 q4 q5 p6)), .second, .val (.long (f1 q2 (f1 q4 q5))), .second, .unset, .unset, .unset, .unset, .unset, .unset, .unset, .unset]
def LA0_172 (q1 : Int64) (q2 : Int64) (q3 : Int64) (q4 : Int64) (q5 : Int64) (p6 : Int32) (b536 : Addr) (b557 : Addr) : Array Slot := #[.val (.long q1), .second, .val (.long q2), .second, .val (.long q3), .second, .val (.long q4), .second, .val (.long q5), .second, .val (.int p6), .val (.int (2 : Int32)), .val (.long q4), .second, .val (.long q5), .second, .val (.long (g0_2 q1 q2 q3 q4 q5 p6)), .second, .val (.long (f1 q2 (f1 q4 q5))), .second, .val (.long q3), .second, .val (.long (g0_5 q1 q2 q3 q4 q5 p6)), .second, .val (.ref b536), .val (.ref b557), .val (.int (1 : Int32)), .val (.int (2 : Int32)), .val (.int (0 : Int32)), .val (.int (5 : Int32)), .val (.int (1 : Int32)), .val (.int (3 : Int32)), .val (.int (4 : Int32)), .val (.int (63 : Int32)), .val (.long (g0_5 q1 q2 q3 q4 q5 p6)), .second, .val (.long (f1 q2 (f1 q4 q5))), .second, .val (.long q3), .second, .unset, .unset, .unset, .unset, .unset, .unset]
def LA0_173 (q1 : Int64) (q2 : Int64) (q3 : Int64) (q4 : Int64) (q5 : Int64) (p6 : Int32) (b536 : Addr) (b557 : Addr) : Array Slot := #[.val (.long q1), .second, .val (.long q2), .second, .val (.long q3), .second, .val (.long q4), .second, .val (.long q5), .second, .val (.int p6), .val (.int (2 : Int32)), .val (.long q4), .second, .val (.long q5), .second, .val (.long (g0_2 q1 q2 q3 q4 q5 p6)), .second, .val (.long (f1 q2 (f1 q4 q5))), .second, .val (.long q3), .second, .val (.long (g0_5 q1 q2 q3 q4 q5 p6)), .second, .val (.ref b536), .val (.ref b557), .val (.int (1 : Int32)), .val (.int (2 : Int32)), .val (.int (0 : Int32)), .val (.int (5 : Int32)), .val (.int (1 : Int32)), .val (.int (3 : Int32)), .val (.int (4 : Int32)), .val (.int (63 : Int32)), .val (.long (g0_5 q1 q2 q3 q4 q5 p6)), .second, .val (.long (f1 q2 (f1 q4 q5))), .second, .val (.long q3), .second, .val (.long q4), .second, .unset, .unset, .unset, .unset]
def LA0_174 (q1 : Int64) (q2 : Int64) (q3 : Int64) (q4 : Int64) (q5 : Int64) (p6 : Int32) (b536 : Addr) (b557 : Addr) : Array Slot := #[.val (.long q1), .second, .val (.long q2), .second, .val (.long q3), .second, .val (.long q4), .second, .val (.long q5), .second, .val (.int p6), .val (.int (2 : Int32)), .val (.long q4), .second, .val (.long q5), .second, .val (.long (g0_2 q1 q2 q3 q4 q5 p6)), .second, .val (.long (f1 q2 (f1 q4 q5))), .second, .val (.long q3), .second, .val (.long (g0_5 q1 q2 q3 q4 q5 p6)), .second, .val (.ref b536), .val (.ref b557), .val (.int (1 : Int32)), .val (.int (2 : Int32)), .val (.int (0 : Int32)), .val (.int (5 : Int32)), .val (.int (1 : Int32)), .val (.int (3 : Int32)), .val (.int (4 : Int32)), .val (.int (63 : Int32)), .val (.long (g0_5 q1 q2 q3 q4 q5 p6)), .second, .val (.long (f1 q2 (f1 q4 q5))), .second, .val (.long q3), .second, .val (.long q4), .second, .val (.long q5), .second, .unset, .unset]
def LA0_175 (q1 : Int64) (q2 : Int64) (q3 : Int64) (q4 : Int64) (q5 : Int64) (p6 : Int32) (b536 : Addr) (b557 : Addr) : Array Slot := #[.val (.long q1), .second, .val (.long q2), .second, .val (.long q3), .second, .val (.long q4), .second, .val (.long q5), .second, .val (.int p6), .val (.int (2 : Int32)), .val (.long q4), .second, .val (.long q5), .second, .val (.long (g0_2 q1 q2 q3 q4 q5 p6)), .second, .val (.long (f1 q2 (f1 q4 q5))), .second, .val (.long q3), .second, .val (.long (g0_5 q1 q2 q3 q4 q5 p6)), .second, .val (.ref b536), .val (.ref b557), .val (.int (1 : Int32)), .val (.int (2 : Int32)), .val (.int (0 : Int32)), .val (.int (5 : Int32)), .val (.int (1 : Int32)), .val (.int (3 : Int32)), .val (.int (4 : Int32)), .val (.int (63 : Int32)), .val (.long (g0_5 q1 q2 q3 q4 q5 p6)), .second, .val (.long (f1 q2 (f1 q4 q5))), .second, .val (.long q3), .second, .val (.long q4), .second, .val (.long q5), .second, .val (.long (g0_2 q1 q2 q3 q4 q5 p6)), .second]
def LA0_176 (q1 : Int64) (q2 : Int64) (q3 : Int64) (q4 : Int64) (q5 : Int64) (p6 : Int32) (b536 : Addr) (b557 : Addr) : Array Slot := #[.val (.long q1), .second, .val (.long q2), .second, .val (.long q3), .second, .val (.long q4), .second, .val (.long q5), .second, .val (.int p6), .val (.int (2 : Int32)), .val (.long q4), .second, .val (.long q5), .second, .val (.long (g0_2 q1 q2 q3 q4 q5 p6)), .second, .val (.long (f1 q2 (f1 q4 q5))), .second, .val (.long q3), .second, .val (.long (g0_5 q1 q2 q3 q4 q5 p6)), .second, .val (.ref b536), .val (.ref b557), .val (.int (0 : Int32)), .val (.int (2 : Int32)), .val (.int (0 : Int32)), .val (.int (5 : Int32)), .val (.int (1 : Int32)), .val (.int (3 : Int32)), .val (.int (4 : Int32)), .val (.int (63 : Int32)), .val (.long (g0_5 q1 q2 q3 q4 q5 p6)), .second, .val (.long (f1 q2 (f1 q4 q5))), .second, .val (.long q3), .second, .val (.long q4), .second, .val (.long q5), .second, .val (.long (g0_2 q1 q2 q3 q4 q5 p6)), .second]
def LA0_177 (q1 : Int64) (q2 : Int64) (q3 : Int64) (q4 : Int64) (q5 : Int64) (p6 : Int32)  : Array Slot := #[.val (.long q1), .second, .val (.long q2), .second, .val (.long q3), .second, .val (.long q4), .second, .val (.long q5), .second, .val (.int p6), .val (.int (3 : Int32)), .unset, .unset, .unset, .unset, .unset, .unset, .unset, .unset, .unset, .unset, .unset, .unset, .unset, .unset, .unset, .unset, .unset, .unset, .unset, .unset, .unset, .unset, .unset, .unset, .unset, .unset, .unset, .unset, .unset, .unset, .unset, .unset, .unset, .unset]
def LA0_178 (q1 : Int64) (q2 : Int64) (q3 : Int64) (q4 : Int64) (q5 : Int64) (p6 : Int32)  : Array Slot := #[.val (.long q1), .second, .val (.long q2), .second, .val (.long q3), .second, .val (.long q4), .second, .val (.long q5), .second, .val (.int p6), .val (.int (3 : Int32)), .val (.long q4), .second, .unset, .unset, .unset, .unset, .unset, .unset, .unset, .unset, .unset, .unset, .unset, .unset, .unset, .unset, .unset, .unset, .unset, .unset, .unset, .unset, .unset, .unset, .unset, .unset, .unset, .unset, .unset, .unset, .unset, .unset, .unset, .unset]
def LA0_179 (q1 : Int64) (q2 : Int64) (q3 : Int64) (q4 : Int64) (q5 : Int64) (p6 : Int32)  : Array Slot := #[.val (.long q1), .second, .val (.long q2), .second, .val (.long q3), .second, .val (.long q4), .second, .val (.long q5), .second, .val (.int p6), .val (.int (3 : Int32)), .val (.long q4), .second, .val (.long q5), .second, .unset, .unset, .unset, .unset, .unset, .unset, .unset, .unset, .unset, .unset, .unset, .unset, .unset, .unset, .unset, .unset, .unset, .unset, .unset, .unset, .unset, .unset, .unset, .unset, .unset, .unset, .unset, .unset, .unset, .unset]
def LA0_180 (q1 : Int64) (q2 : Int64) (q3 : Int64) (q4 : Int64) (q5 : Int64) (p6 : Int32)  : Array Slot := #[.val (.long q1), .second, .val (.long q2), .second, .val (.long q3), .second, .val (.long q4), .second, .val (.long q5), .second, .val (.int p6), .val (.int (3 : Int32)), .val (.long q4), .second, .val (.long q5), .second, .val (.long (g0_2 q1 q2 q3 q4 q5 p6)), .second, .unset, .unset, .unset, .unset, .unset, .unset, .unset, .unset, .unset, .unset, .unset, .unset, .unset, .unset, .unset, .unset, .unset, .unset, .unset, .unset, .unset, .unset, .unset, .unset, .unset, .unset, .unset, .unset]
def LA0_181 (q1 : Int64) (q2 : Int64) (q3 : Int64) (q4 : Int64) (q5 : Int64) (p6 : Int32)  : Array Slot := #[.val (.long q1), .second, .val (.long q2), .second, .val (.long q3), .second, .val (.long q4), .second, .val (.long q5), .second, .val (.int p6), .val (.int (3 : Int32)), .val (.long q4), .second, .val (.long q5), .second, .val (.long (g0_2 q1 q2 q3 q4 q5 p6)), .second, .val (.long (f1 q2 (f1 q4 q5))), .second, .unset, .unset, .unset, .unset, .unset, .unset, .unset, .unset, .unset, .unset, .unset, .unset, .unset, .unset, .unset, .unset, .unset, .unset, .unset, .unset, .unset, .unset, .unset, .unset, .unset, .unset]
def LA0_182 (q1 : Int64) (q2 : Int64) (q3 : Int64) (q4 : Int64) (q5 : Int64) (p6 : Int32)  : Array Slot := #[.val (.long q1), .second, .val (.long q2), .second, .val (.long q3), .second, .val (.long q4), .second, .val (.long q5), .second, .val (.int p6), .val (.int (3 : Int32)), .val (.long q4), .second, .val (.long q5), .second, .val (.long (g0_2 q1 q2 q3 q4 q5 p6)), .second, .val (.long (f1 q2 (f1 q4 q5))), .second, .val (.long (g0_3 q1 q2 q3 q4 q5 p6)), .second, .unset, .unset, .unset, .unset, .unset, .unset, .unset, .unset, .unset, .unset, .unset, .unset, .unset, .unset, .unset, .unset, .unset, .unset, .unset, .unset, .unset, .unset, .unset, .unset]
def g0_6 (q1 : Int64) (q2 : Int64) (q3 : Int64) (q4 : Int64) (q5 : Int64) (p6 : Int32) : Int64 := (f1 (f1 q1 (f1 q2 (f1 q4 q5))) (f1 (g0_3 q1 q2 q3 q4 q5 p6) (f1 q4 (f1 q5 (g0_2 q1 q2 q3 q4 q5 p6)))))
def LA0_183 (q1 : Int64) (q2 : Int64) (q3 : Int64) (q4 : Int64) (q5 : Int64) (p6 : Int32)  : Array Slot := #[.val (.long q1), .second, .val (.long q2), .second, .val (.long q3), .second, .val (.long q4), .second, .val (.long q5), .second, .val (.int p6), .val (.int (3 : Int32)), .val (.long q4), .second, .val (.long q5), .second, .val (.long (g0_2 q1 q2 q3 q4 q5 p6)), .second, .val (.long (f1 q2 (f1 q4 q5))), .second, .val (.long (g0_3 q1 q2 q3 q4 q5 p6)), .second, .val (.long (g0_6 q1 q2 q3 q4 q5 p6)), .second, .unset, .unset, .unset, .unset, .unset, .unset, .unset, .unset, .unset, .unset, .unset, .unset, .unset, .unset, .unset, .unset, .unset, .unset, .unset, .unset, .unset, .unset]
def LA0_184 (q1 : Int64) (q2 : Int64) (q3 : Int64) (q4 : Int64) (q5 : Int64) (p6 : Int32) (b657 : Addr) : Array Slot := #[.val (.long q1), .second, .val (.long q2), .second, .val (.long q3), .second, .val (.long q4), .second, .val (.long q5), .second, .val (.int p6), .val (.int (3 : Int32)), .val (.long q4), .second, .val (.long q5), .second, .val (.long (g0_2 q1 q2 q3 q4 q5 p6)), .second, .val (.long (f1 q2 (f1 q4 q5))), .second, .val (.long (g0_3 q1 q2 q3 q4 q5 p6)), .second, .val (.long (g0_6 q1 q2 q3 q4 q5 p6)), .second, .val (.ref b657), .unset, .unset, .unset, .unset, .unset, .unset, .unset, .unset, .unset, .unset, .unset, .unset, .unset, .unset, .unset, .unset, .unset, .unset, .unset, .unset, .unset]
def LA0_185 (q1 : Int64) (q2 : Int64) (q3 : Int64) (q4 : Int64) (q5 : Int64) (p6 : Int32) (b657 : Addr) (b678 : Addr) : Array Slot := #[.val (.long q1), .second, .val (.long q2), .second, .val (.long q3), .second, .val (.long q4), .second, .val (.long q5), .second, .val (.int p6), .val (.int (3 : Int32)), .val (.long q4), .second, .val (.long q5), .second, .val (.long (g0_2 q1 q2 q3 q4 q5 p6)), .second, .val (.long (f1 q2 (f1 q4 q5))), .second, .val (.long (g0_3 q1 q2 q3 q4 q5 p6)), .second, .val (.long (g0_6 q1 q2 q3 q4 q5 p6)), .second, .val (.ref b657), .val (.ref b678), .unset, .unset, .unset, .unset, .unset, .unset, .unset, .unset, .unset, .unset, .unset, .unset, .unset, .unset, .unset, .unset, .unset, .unset, .unset, .unset]
def LA0_186 (q1 : Int64) (q2 : Int64) (q3 : Int64) (q4 : Int64) (q5 : Int64) (p6 : Int32) (b657 : Addr) (b678 : Addr) : Array Slot := #[.val (.long q1), .second, .val (.long q2), .second, .val (.long q3), .second, .val (.long q4), .second, .val (.long q5), .second, .val (.int p6), .val (.int (3 : Int32)), .val (.long q4), .second, .val (.long q5), .second, .val (.long (g0_2 q1 q2 q3 q4 q5 p6)), .second, .val (.long (f1 q2 (f1 q4 q5))), .second, .val (.long (g0_3 q1 q2 q3 q4 q5 p6)), .second, .val (.long (g0_6 q1 q2 q3 q4 q5 p6)), .second, .val (.ref b657), .val (.ref b678), .val (.int (1 : Int32)), .unset, .unset, .unset, .unset, .unset, .unset, .unset, .unset, .unset, .unset, .unset, .unset, .unset, .unset, .unset, .unset, .unset, .unset, .unset]
def LA0_187 (q1 : Int64) (q2 : Int64) (q3 : Int64) (q4 : Int64) (q5 : Int64) (p6 : Int32) (b657 : Addr) (b678 : Addr) : Array Slot := #[.val (.long q1), .second, .val (.long q2), .second, .val (.long q3), .second, .val (.long q4), .second, .val (.long q5), .second, .val (.int p6), .val (.int (3 : Int32)), .val (.long q4), .second, .val (.long q5), .second, .val (.long (g0_2 q1 q2 q3 q4 q5 p6)), .second, .val (.long (f1 q2 (f1 q4 q5))), .second, .val (.long (g0_3 q1 q2 q3 q4 q5 p6)), .second, .val (.long (g0_6 q1 q2 q3 q4 q5 p6)), .second, .val (.ref b657), .val (.ref b678), .val (.int (1 : Int32)), .val (.int (2 : Int32)), .unset, .unset, .unset, .unset, .unset, .unset, .unset, .unset, .unset, .unset, .unset, .unset, .unset, .unset, .unset, .unset, .unset, .unset]
def LA0_188 (q1 : Int64) (q2 : Int64) (q3 : Int64) (q4 : Int64) (q5 : Int64) (p6 : Int32) (b657 : Addr) (b678 : Addr) : Array Slot := #[.val (.long q1), .second, .val (.long q2), .second, .val (.long q3), .second, .val (.long q4), .second, .val (.long q5), .second, .val (.int p6), .val (.int (3 : Int32)), .val (.long q4), .second, .val (.long q5), .second, .val (.long (g0_2 q1 q2 q3 q4 q5 p6)), .second, .val (.long (f1 q2 (f1 q4 q5))), .second, .val (.long (g0_3 q1 q2 q3 q4 q5 p6)), .second, .val (.long (g0_6 q1 q2 q3 q4 q5 p6)), .second, .val (.ref b657), .val (.ref b678), .val (.int (1 : Int32)), .val (.int (2 : Int32)), .val (.int (0 : Int32)), .unset, .unset, .unset, .unset, .unset, .unset, .unset, .unset, .unset, .unset, .unset, .unset, .unset, .unset, .unset, .unset, .unset]
def LA0_189 (q1 : Int64) (q2 : Int64) (q3 : Int64) (q4 : Int64) (q5 : Int64) (p6 : Int32) (b657 : Addr) (b678 : Addr) : Array Slot := #[.val (.long q1), .second, .val (.long q2), .second, .val (.long q3), .second, .val (.long q4), .second, .val (.long q5), .second, .val (.int p6), .val (.int (3 : Int32)), .val (.long q4), .second, .val (.long q5), .second, .val (.long (g0_2 q1 q2 q3 q4 q5 p6)), .second, .val (.long (f1 q2 (f1 q4 q5))), .second, .val (.long (g0_3 q1 q2 q3 q4 q5 p6)), .second, .val (.long (g0_6 q1 q2 q3 q4 q5 p6)), .second, .val (.ref b657), .val (.ref b678), .val (.int (1 : Int32)), .val (.int (2 : Int32)), .val (.int (0 : Int32)), .val (.int (5 : Int32)), .unset, .unset, .unset, .unset, .unset, .unset, .unset, .unset, .unset, .unset, .unset, .unset, .unset, .unset, .unset, .unset]
def LA0_190 (q1 : Int64) (q2 : Int64) (q3 : Int64) (q4 : Int64) (q5 : Int64) (p6 : Int32) (b657 : Addr) (b678 : Addr) : Array Slot := #[.val (.long q1), .second, .val (.long q2), .second, .val (.long q3), .second, .val (.long q4), .second, .val (.long q5), .second, .val (.int p6), .val (.int (3 : Int32)), .val (.long q4), .second, .val (.long q5), .second, .val (.long (g0_2 q1 q2 q3 q4 q5 p6)), .second, .val (.long (f1 q2 (f1 q4 q5))), .second, .val (.long (g0_3 q1 q2 q3 q4 q5 p6)), .second, .val (.long (g0_6 q1 q2 q3 q4 q5 p6)), .second, .val (.ref b657), .val (.ref b678), .val (.int (1 : Int32)), .val (.int (2 : Int32)), .val (.int (0 : Int32)), .val (.int (5 : Int32)), .val (.int (1 : Int32)), .unset, .unset, .unset, .unset, .unset, .unset, .unset, .unset, .unset, .unset, .unset, .unset, .unset, .unset, .unset]
def LA0_191 (q1 : Int64) (q2 : Int64) (q3 : Int64) (q4 : Int64) (q5 : Int64) (p6 : Int32) (b657 : Addr) (b678 : Addr) : Array Slot := #[.val (.long q1), .second, .val (.long q2), .second, .val (.long q3), .second, .val (.long q4), .second, .val (.long q5), .second, .val (.int p6), .val (.int (3 : Int32)), .val (.long q4), .second, .val (.long q5), .second, .val (.long (g0_2 q1 q2 q3 q4 q5 p6)), .second, .val (.long (f1 q2 (f1 q4 q5))), .second, .val (.long (g0_3 q1 q2 q3 q4 q5 p6)), .second, .val (.long (g0_6 q1 q2 q3 q4 q5 p6)), .second, .val (.ref b657), .val (.ref b678), .val (.int (1 : Int32)), .val (.int (2 : Int32)), .val (.int (0 : Int32)), .val (.int (5 : Int32)), .val (.int (1 : Int32)), .val (.int (3 : Int32)), .unset, .unset, .unset, .unset, .unset, .unset, .unset, .unset, .unset, .unset, .unset, .unset, .unset, .unset]
def LA0_192 (q1 : Int64) (q2 : Int64) (q3 : Int64) (q4 : Int64) (q5 : Int64) (p6 : Int32) (b657 : Addr) (b678 : Addr) : Array Slot := #[.val (.long q1), .second, .val (.long q2), .second, .val (.long q3), .second, .val (.long q4), .second, .val (.long q5), .second, .val (.int p6), .val (.int (3 : Int32)), .val (.long q4), .second, .val (.long q5), .second, .val (.long (g0_2 q1 q2 q3 q4 q5 p6)), .second, .val (.long (f1 q2 (f1 q4 q5))), .second, .val (.long (g0_3 q1 q2 q3 q4 q5 p6)), .second, .val (.long (g0_6 q1 q2 q3 q4 q5 p6)), .second, .val (.ref b657), .val (.ref b678), .val (.int (1 : Int32)), .val (.int (2 : Int32)), .val (.int (0 : Int32)), .val (.int (5 : Int32)), .val (.int (1 : Int32)), .val (.int (3 : Int32)), .val (.int (4 : Int32)), .unset, .unset, .unset, .unset, .unset, .unset, .unset, .unset, .unset, .unset, .unset, .unset, .unset]
def LA0_193 (q1 : Int64) (q2 : Int64) (q3 : Int64) (q4 : Int64) (q5 : Int64) (p6 : Int32) (b657 : Addr) (b678 : Addr) : Array Slot := #[.val (.long q1), .second, .val (.long q2), .second, .val (.long q3), .second, .val (.long q4), .second, .val (.long q5), .second, .val (.int p6), .val (.int (3 : Int32)), .val (.long q4), .second, .val (.long q5), .second, .val (.long (g0_2 q1 q2 q3 q4 q5 p6)), .second, .val (.long (f1 q2 (f1 q4 q5))), .second, .val (.long (g0_3 q1 q2 q3 q4 q5 p6)), .second, .val (.long (g0_6 q1 q2 q3 q4 q5 p6)), .second, .val (.ref b657), .val (.ref b678), .val (.int (1 : Int32)), .val (.int (2 : Int32)), .val (.int (0 : Int32)), .val (.int (5 : Int32)), .val (.int (1 : Int32)), .val (.int (3 : Int32)), .val (.int (4 : Int32)), .val (.int (63 : Int32)), .unset, .unset, .unset, .unset, .unset, .unset, .unset, .unset, .unset, .unset, .unset, .unset]
def LA0_194 (q1 : Int64) (q2 : Int64) (q3 : Int64) (q4 : Int64) (q5 : Int64) (p6 : Int32) (b657 : Addr) (b678 : Addr) : Array Slot := #[.val (.long q1), .second, .val (.long q2), .second, .val (.long q3), .second, .val (.long q4), .second, .val (.long q5), .second, .val (.int p6), .val (.int (3 : Int32)), .val (.long q4), .second, .val (.long q5), .second, .val (.long (g0_2 q1 q2 q3 q4 q5 p6)), .second, .val (.long (f1 q2 (f1 q4 q5))), .second, .val (.long (g0_3 q1 q2 q3 q4 q5 p6)), .second, .val (.long (g0_6 q1 q2 q3 q4 q5 p6)), .second, .val (.ref b657), .val (.ref b678), .val (.int (1 : Int32)), .val (.int (2 : Int32)), .val (.int (0 : Int32)), .val (.int (5 : Int32)), .val (.int (1 : Int32)), .val (.int (3 : Int32)), .val (.int (4 : Int32)), .val (.int (63 : Int32)), .val (.long (g0_6 q1 q2 q3 q4 q5 p6)), .second, .unset, .unset, .unset, .unset, .unset, .unset, .unset, .unset, .unset, .unset]
def LA0_195 (q1 : Int64) (q2 : Int64) (q3 : Int64) (q4 : Int64) (q5 : Int64) (p6 : Int32) (b657 : Addr) (b678 : Addr) : Array Slot := #[.val (.long q1), .second, .val (.long q2), .second, .val (.long q3), .second, .val (.long q4), .second, .val (.long q5), .second, .val (.int p6), .val (.int (3 : Int32)), .val (.long q4), .second, .val (.long q5), .second, .val (.long (g0_2 q1 q2 q3 q4 q5 p6)), .second, .val (.long (f1 q2 (f1 q4 q5))), .second, .val (.long (g0_3 q1 q2 q3 q4 q5 p6)), .second, .val (.long (g0_6 q1 q2 q3 q4 q5 p6)), .second, .val (.ref b657), .val (.ref b678), .val (.int (1 : Int32)), .val (.int (2 : Int32)), .val (.int (0 : Int32)), .val (.int (5 : Int32)), .val (.int (1 : Int32)), .val (.int (3 : Int32)), .val (.int (4 : Int32)), .val (.int (63 : Int32)), .val (.long (g0_6 q1 q2 q3 q4 q5 p6)), .second, .val (.long (f1 q2 (f1 q4 q5))), .second, .unset, .unset, .unset, .unset, .unset, .unset, .unset, .unset]
def LA0_196 (q1 : Int64) (q2 : Int64) (q3 : Int64) (q4 : Int64) (q5 : Int64) (p6 : Int32) (b657 : Addr) (b678 : Addr) : Array Slot := #[.val (.long q1), .second, .val (.long q2), .second, .val (.long q3), .second, .val (.long q4), .second, .val (.long q5), .second, .val (.int p6), .val (.int (3 : Int32)), .val (.long q4), .second, .val (.long q5), .second, .val (.long (g0_2 q1 q2 q3 q4 q5 p6)), .second, .val (.long (f1 q2 (f1 q4 q5))), .second, .val (.long (g0_3 q1 q2 q3 q4 q5 p6)), .second, .val (.long (g0_6 q1 q2 q3 q4 q5 p6)), .second, .val (.ref b657), .val (.ref b678), .val (.int (1 : Int32)), .val (.int (2 : Int32)), .val (.int (0 : Int32)), .val (.int (5 : Int32)), .val (.int (1 : Int32)), .val (.int (3 : Int32)), .val (.int (4 : Int32)), .val (.int (63 : Int32)), .val (.long (g0_6 q1 q2 q3 q4 q5 p6)), .second, .val (.long (f1 q2 (f1 q4 q5))), .second, .val (.long (g0_3 q1 q2 q3 q4 q5 p6)), .second, .unset, .unset, .unset, .unset, .unset, .unset]
def LA0_197 (q1 : Int64) (q2 : Int64) (q3 : Int64) (q4 : Int64) (q5 : Int64) (p6 : Int32) (b657 : Addr) (b678 : Addr) : Array Slot := #[.val (.long q1), .second, .val (.long q2), .second, .val (.long q3), .second, .val (.long q4), .second, .val (.long q5), .second, .val (.int p6), .val (.int (3 : Int32)), .val (.long q4), .second, .val (.long q5), .second, .val (.long (g0_2 q1 q2 q3 q4 q5 p6)), .second, .val (.long (f1 q2 (f1 q4 q5))), .second, .val (.long (g0_3 q1 q2 q3 q4 q5 p6)), .second, .val (.long (g0_6 q1 q2 q3 q4 q5 p6)), .second, .val (.ref b657), .val (.ref b678), .val (.int (1 : Int32)), .val (.int (2 : Int32)), .val (.int (0 : Int32)), .val (.int (5 : Int32)), .val (.int (1 : Int32)), .val (.int (3 : Int32)), .val (.int (4 : Int32)), .val (.int (63 : Int32)), .val (.long (g0_6 q1 q2 q3 q4 q5 p6)), .second, .val (.long (f1 q2 (f1 q4 q5))), .second, .val (.long (g0_3 q1 q2 q3 q4 q5 p6)), .second, .val (.long q4), .second, .unset, .unset, .unset, .unset]
def LA0_198 (q1 : Int64) (q2 : Int64) (q3 : Int64) (q4 : Int64) (q5 : Int64) (p6 : Int32) (b657 : Addr) (b678 : Addr) : Array Slot := #[.val (.long q1), .second, .val (.long q2), .second, .val (.long q3), .second, .val (.long q4), .second, .val (.long q5), .second, .val (.int p6), .val (.int (3 : Int32)), .val (.long q4), .second, .val (.long q5), .second, .val (.long (g0_2 q1 q2 q3 q4 q5 p6)), .second, .val (.long (f1 q2 (f1 q4 q5))), .second, .val (.long (g0_3 q1 q2 q3 q4 q5 p6)), .second, .val (.long (g0_6 q1 q2 q3 q4 q5 p6)), .second, .val (.ref b657), .val (.ref b678), .val (.int (1 : Int32)), .val (.int (2 : Int32)), .val (.int (0 : Int32)), .val (.int (5 : Int32)), .val (.int (1 : Int32)), .val (.int (3 : Int32)), .val (.int (4 : Int32)), .val (.int (63 : Int32)), .val (.long (g0_6 q1 q2 q3 q4 q5 p6)), .second, .val (.long (f1 q2 (f1 q4 q5))), .second, .val (.long (g0_3 q1 q2 q3 q4 q5 p6)), .second, .val (.long q4), .second, .val (.long q5), .second, .unset, .unset]
def LA0_199 (q1 : Int64) (q2 : Int64) (q3 : Int64) (q4 : Int64) (q5 : Int64) (p6 : Int32) (b657 : Addr) (b678 : Addr) : Array Slot := #[.val (.long q1), .second, .val (.long q2), .second, .val (.long q3), .second, .val (.long q4), .second, .val (.long q5), .second, .val (.int p6), .val (.int (3 : Int32)), .val (.long q4), .second, .val (.long q5), .second, .val (.long (g0_2 q1 q2 q3 q4 q5 p6)), .second, .val (.long (f1 q2 (f1 q4 q5))), .second, .val (.long (g0_3 q1 q2 q3 q4 q5 p6)), .second, .val (.long (g0_6 q1 q2 q3 q4 q5 p6)), .second, .val (.ref b657), .val (.ref b678), .val (.int (1 : Int32)), .val (.int (2 : Int32)), .val (.int (0 : Int32)), .val (.int (5 : Int32)), .val (.int (1 : Int32)), .val (.int (3 : Int32)), .val (.int (4 : Int32)), .val (.int (63 : Int32)), .val (.long (g0_6 q1 q2 q3 q4 q5 p6)), .second, .val (.long (f1 q2 (f1 q4 q5))), .second, .val (.long (g0_3 q1 q2 q3 q4 q5 p6)), .second, .val (.long q4), .second, .val (.long q5), .second, .val (.long (g0_2 q1 q2 q3 q4 q5 p6)), .second]
def LA0_200 (q1 : Int64) (q2 : Int64) (q3 : Int64) (q4 : Int64) (q5 : Int64) (p6 : Int32) (b657 : Addr) (b678 : Addr) : Array Slot := #[.val (.long q1), .second, .val (.long q2), .second, .val (.long q3), .second, .val (.long q4), .second, .val (.long q5), .second, .val (.int p6), .val (.int (3 : Int32)), .val (.long q4), .second, .val (.long q5), .second, .val (.long (g0_2 q1 q2 q3 q4 q5 p6)), .second, .val (.long (f1 q2 (f1 q4 q5))), .second, .val (.long (g0_3 q1 q2 q3 q4 q5 p6)), .second, .val (.long (g0_6 q1 q2 q3 q4 q5 p6)), .second, .val (.ref b657), .val (.ref b678), .val (.int (0 : Int32)), .val (.int (2 : Int32)), .val (.int (0 : Int32)), .val (.int (5 : Int32)), .val (.int (1 : Int32)), .val (.int (3 : Int32)), .val (.int (4 : Int32)), .val (.int (63 : Int32)), .val (.long (g0_6 q1 q2 q3 q4 q5 p6)), .second, .val (.long (f1 q2 (f1 q4 q5))), .second, .val (.long (g0_3 q1 q2 q3 q4 q5 p6)), .second, .val (.long q4), .second, .val (.long q5), .second, .val (.long (g0_2 q1 q2 q3 q4 q5 p6)), .second]
def LA0_201 (q1 : Int64) (q2 : Int64) (q3 : Int64) (q4 : Int64) (q5 : Int64) (p6 : Int32)  : Array Slot := #[.val (.long q1), .second, .val (.long q2), .second, .val (.long q3), .second, .val (.long q4), .second, .val (.long q5), .second, .val (.int p6), .unset, .unset, .unset, .unset, .unset, .unset, .unset, .unset, .unset, .unset, .unset, .unset, .unset, .unset, .unset, .unset, .unset, .unset, .unset, .unset, .unset, .unset, .unset, .unset, .unset, .unset, .unset, .unset, .unset, .unset, .unset, .unset, .unset, .unset, .unset]
def f0 (q1 : Int64) (q2 : Int64) (q3 : Int64) (q4 : Int64) (q5 : Int64) (p6 : Int32) : Int32 := (if (g0_1 q1 q2 q3 q4 q5 p6) = (0 : Int32) then (if (f1 q2 (f1 q4 q5)) < q1 then (if (g0_3 q1 q2 q3 q4 q5 p6) < (f1 q2 (f1 q4 q5)) then (if (g0_2 q1 q2 q3 q4 q5 p6) < q1 then (if (f1 q2 (f1 q4 q5)) < (g0_3 q1 q2 q3 q4 q5 p6) then (0 : Int32) else (if (g0_2 q1 q2 q3 q4 q5 p6) < (g0_3 q1 q2 q3 q4 q5 p6) then (0 : Int32) else (if q4 < (f1 q2 (f1 q4 q5)) then (0 : Int32) else (if q5 < (f1 q2 (f1 q4 q5)) then (0 : Int32) else (if q1 < (g0_2 q1 q2 q3 q4 q5 p6) then (0 : Int32) else (1 : Int32)))))) else (if (f1 q2 (f1 q4 q5)) < (g0_3 q1 q2 q3 q4 q5 p6) then (0 : Int32) else (if q1 < (g0_3 q1 q2 q3 q4 q5 p6) then (0 : Int32) else (if q4 < (f1 q2 (f1 q4 q5)) then (0 : Int32) else (if q5 < (f1 q2 (f1 q4 q5)) then (0 : Int32) else (1 : Int32)))))) else (if q4 < q1 then (if q5 < q4 then (if q5 < (f1 q2 (f1 q4 q5)) then (0 : Int32) else (if q4 < q5 then (0 : Int32) else (if q1 < q5 then (0 : Int32) else (if (g0_2 q1 q2 q3 q4 q5 p6) < (g0_3 q1 q2 q3 q4 q5 p6) then (0 : Int32) else (1 : Int32))))) else (if q4 < (f1 q2 (f1 q4 q5)) then (0 : Int32) else (if q1 < q4 then (0 : Int32) else (if (g0_2 q1 q2 q3 q4 q5 p6) < (g0_3 q1 q2 q3 q4 q5 p6) then (0 : Int32) else (1 : Int32))))) else (if q5 < q1 then (if q5 < (f1 q2 (f1 q4 q5)) then (0 : Int32) else (if q4 < q5 then (0 : Int32) else (if q1 < q5 then (0 : Int32) else (if (g0_2 q1 q2 q3 q4 q5 p6) < (g0_3 q1 q2 q3 q4 q5 p6) then (0 : Int32) else (1 : Int32))))) else (if q1 < (f1 q2 (f1 q4 q5)) then (0 : Int32) else (if (g0_2 q1 q2 q3 q4 q5 p6) < (g0_3 q1 q2 q3 q4 q5 p6) then (0 : Int32) else (1 : Int32)))))) else (if (g0_3 q1 q2 q3 q4 q5 p6) < q1 then (if (g0_2 q1 q2 q3 q4 q5 p6) < q1 then (if (f1 q2 (f1 q4 q5)) < (g0_3 q1 q2 q3 q4 q5 p6) then (0 : Int32) else (if (g0_2 q1 q2 q3 q4 q5 p6) < (g0_3 q1 q2 q3 q4 q5 p6) then (0 : Int32) else (if q4 < (f1 q2 (f1 q4 q5)) then (0 : Int32) else (if q5 < (f1 q2 (f1 q4 q5)) then (0 : Int32) else (if q1 < (g0_2 q1 q2 q3 q4 q5 p6) then (0 : Int32) else (1 : Int32)))))) else (if (f1 q2 (f1 q4 q5)) < (g0_3 q1 q2 q3 q4 q5 p6) then (0 : Int32) else (if q1 < (g0_3 q1 q2 q3 q4 q5 p6) then (0 : Int32) else (if q4 < (f1 q2 (f1 q4 q5)) then (0 : Int32) else (if q5 < (f1 q2 (f1 q4 q5)) then (0 : Int32) else (1 : Int32)))))) else (if q4 < (f1 q2 (f1 q4 q5)) then (0 : Int32) else (if q5 < (f1 q2 (f1 q4 q5)) then (0 : Int32) else (if (g0_2 q1 q2 q3 q4 q5 p6) < (g0_3 q1 q2 q3 q4 q5 p6) then (0 : Int32) else (1 : Int32)))))) else (if (g0_1 q1 q2 q3 q4 q5 p6) = (1 : Int32) then (if q4 < q2 then (if q5 < q4 then (if q5 < (g0_4 q1 q2 q3 q4 q5 p6) then (0 : Int32) else (if (g0_3 q1 q2 q3 q4 q5 p6) < (g0_4 q1 q2 q3 q4 q5 p6) then (0 : Int32) else (if q4 < q5 then (0 : Int32) else (if q2 < q5 then (0 : Int32) else (if (g0_2 q1 q2 q3 q4 q5 p6) < (g0_3 q1 q2 q3 q4 q5 p6) then (0 : Int32) else (1 : Int32)))))) else (if q4 < (g0_4 q1 q2 q3 q4 q5 p6) then (0 : Int32) else (if (g0_3 q1 q2 q3 q4 q5 p6) < (g0_4 q1 q2 q3 q4 q5 p6) then (0 : Int32) else (if q2 < q4 then (0 : Int32) else (if (g0_2 q1 q2 q3 q4 q5 p6) < (g0_3 q1 q2 q3 q4 q5 p6) then (0 : Int32) else (1 : Int32)))))) else (if q5 < q2 then (if q5 < (g0_4 q1 q2 q3 q4 q5 p6) then (0 : Int32) else (if (g0_3 q1 q2 q3 q4 q5 p6) < (g0_4 q1 q2 q3 q4 q5 p6) then (0 : Int32) else (if q4 < q5 then (0 : Int32) else (if q2 < q5 then (0 : Int32) else (if (g0_2 q1 q2 q3 q4 q5 p6) < (g0_3 q1 q2 q3 q4 q5 p6) then (0 : Int32) else (1 : Int32)))))) else (if q2 < (g0_4 q1 q2 q3 q4 q5 p6) then (0 : Int32) else (if (g0_3 q1 q2 q3 q4 q5 p6) < (g0_4 q1 q2 q3 q4 q5 p6) then (0 : Int32) else (if (g0_2 q1 q2 q3 q4 q5 p6) < (g0_3 q1 q2 q3 q4 q5 p6) then (0 : Int32) else (1 : Int32)))))) else (if (g0_1 q1 q2 q3 q4 q5 p6) = (2 : Int32) then (if (g0_2 q1 q2 q3 q4 q5 p6) < q3 then (if (f1 q2 (f1 q4 q5)) < (g0_5 q1 q2 q3 q4 q5 p6) then (0 : Int32) else (if (g0_2 q1 q2 q3 q4 q5 p6) < (g0_5 q1 q2 q3 q4 q5 p6) then (0 : Int32) else (if q4 < (f1 q2 (f1 q4 q5)) then (0 : Int32) else (if q5 < (f1 q2 (f1 q4 q5)) then (0 : Int32) else (if q3 < (g0_2 q1 q2 q3 q4 q5 p6) then (0 : Int32) else (1 : Int32)))))) else (if (f1 q2 (f1 q4 q5)) < (g0_5 q1 q2 q3 q4 q5 p6) then (0 : Int32) else (if q3 < (g0_5 q1 q2 q3 q4 q5 p6) then (0 : Int32) else (if q4 < (f1 q2 (f1 q4 q5)) then (0 : Int32) else (if q5 < (f1 q2 (f1 q4 q5)) then (0 : Int32) else (1 : Int32)))))) else (if (g0_1 q1 q2 q3 q4 q5 p6) = (3 : Int32) then (if (f1 q2 (f1 q4 q5)) < (g0_6 q1 q2 q3 q4 q5 p6) then (0 : Int32) else (if (g0_3 q1 q2 q3 q4 q5 p6) < (g0_6 q1 q2 q3 q4 q5 p6) then (0 : Int32) else (if q4 < (f1 q2 (f1 q4 q5)) then (0 : Int32) else (if q5 < (f1 q2 (f1 q4 q5)) then (0 : Int32) else (if (g0_2 q1 q2 q3 q4 q5 p6) < (g0_3 q1 q2 q3 q4 q5 p6) then (0 : Int32) else (1 : Int32)))))) else 0))))
theorem own_rf (q1 q2 q3 q4 q5 : Int64) (p6 : Int32) (c0 : ¬ (g0_1 q1 q2 q3 q4 q5 p6) = (0 : Int32)) (c1 : ¬ (g0_1 q1 q2 q3 q4 q5 p6) = (1 : Int32)) (c2 : ¬ (g0_1 q1 q2 q3 q4 q5 p6) = (2 : Int32)) (c3 : ¬ (g0_1 q1 q2 q3 q4 q5 p6) = (3 : Int32)) : False := by
  have m := c_mask p6 3 2 (by decide) (by decide)
  simp only [g0_1, ← Int32.toInt_inj] at c0 c1 c2 c3
  have k0 : (0 : Int32).toInt = 0 := by decide
  have k1 : (1 : Int32).toInt = 1 := by decide
  have k2 : (2 : Int32).toInt = 2 := by decide
  have k3 : (3 : Int32).toInt = 3 := by decide
  omega

theorem ef_0 (m : MethodId) (q1 : Int64) (q2 : Int64) (q3 : Int64) (q4 : Int64) (q5 : Int64) (p6 : Int32) : entryFrame m #[(.long q1), (.long q2), (.long q3), (.long q4), (.long q5), (.int p6)] 46 = (mkF m 0 #[.val (.long q1), .second, .val (.long q2), .second, .val (.long q3), .second, .val (.long q4), .second, .val (.long q5), .second, .val (.int p6), .unset, .unset, .unset, .unset, .unset, .unset, .unset, .unset, .unset, .unset, .unset, .unset, .unset, .unset, .unset, .unset, .unset, .unset, .unset, .unset, .unset, .unset, .unset, .unset, .unset, .unset, .unset, .unset, .unset, .unset, .unset, .unset, .unset, .unset, .unset] []) := by first | (simp [entryFrame, mkF, argsToLocals, Value.category]; done) | rfl
set_option maxRecDepth 65536 in
set_option maxHeartbeats 40000000 in
theorem tl0_2 (l : Launch) (Z : State) (a0 : Array Value) (hw : ∀ d ∈ tables_1, d.before a0 Z = true) (q1 : Int64) (q2 : Int64) (q3 : Int64) (q4 : Int64) (q5 : Int64) (p6 : Int32) (h0 : Heap) (n0 : Nat) (Z0 : n0 ≤ h0.size) (p : Program) (e : Env) (s : State) (m : MethodId) (below : List Frame) (meth : Method) (c : Code) (hx : p.tables.exec = Jvm.exec) (hby : c.code = code) (hml : c.maxLocals = 46) (hown : s.vm.findClass "com/example/fragmark/fragmark/PhraseMatcherSiftDownPinLaw" = some m.cls) (hret : meth.sig.returnType = ret) (hlk : meth.locks = false) (hZ : Z.Warmed39 s.vm) (b26 : Addr) (b5 : Addr) (T54 : State) (locs : List Loc) (xc : Stand p l e room_1 s m #[(.long q1), (.long q2), (.long q3), (.long q4), (.long q5), (.int p6)] below meth c T54 locs 2 12)   (nc : Fr n0 locs) (kc : Keep h0 T54.heap []) (gc_b26 : n0 ≤ b26) (gc_b5 : n0 ≤ b5) (sc_b26 : h0.size ≤ b26) (sc_b5 : h0.size ≤ b5) (xc_b5_b26 : b5 ≠ b26) (fc0 : OA Z T54.heap b26 .long [(.long (f1 q2 (f1 q4 q5))), (.long q4), (.long q1), (.long q5), (.long (g0_2 q1 q2 q3 q4 q5 p6)), (.long (g0_3 q1 q2 q3 q4 q5 p6))]) (fc1 : OA Z T54.heap b5 .int [(.int (5 : Int32)), (.int (0 : Int32)), (.int (4 : Int32)), (.int (1 : Int32)), (.int (3 : Int32)), (.int (2 : Int32))]) (c1 : (g0_1 q1 q2 q3 q4 q5 p6) = (0 : Int32)) (c56 : (f1 q2 (f1 q4 q5)) < q1) (c57 : (g0_3 q1 q2 q3 q4 q5 p6) < (f1 q2 (f1 q4 q5))) (c58 : (g0_2 q1 q2 q3 q4 q5 p6) < q1) :
    OG p e room_1 s below (fun v h L => v = some (.int (f0 q1 q2 q3 q4 q5 p6)) ∧ Fr n0 L) T54 (mkF m 182 (LA0_9 q1 q2 q3 q4 q5 p6 b5 b26) []) := by
  have B := And.intro hx hby
  refine waload OGc 184 xc B at_182 rfl rfl rfl ?_
  refine wiconst OGc 185 xc B at_184 2 rfl rfl ?_
  refine wlaload OGc 186 xc B hZ rfl fc0 (v := (.long q1)) 2 (by decide) (by decide) rfl at_185 rfl ?_
  refine wlload OGc 188 xc B at_186 rfl rfl ?_
  refine wlcmp OGc 189 xc B at_188 rfl ?_
  refine wifNo OGc 192 xc B at_189 (own_if0 (teq ((lw_eq _ _).mpr rfl)).2) rfl ?_
  refine waload OGc 194 xc B at_192 rfl rfl rfl ?_
  refine wiconst OGc 195 xc B at_194 0 rfl rfl ?_
  refine wlaload OGc 196 xc B hZ rfl fc0 (v := (.long (f1 q2 (f1 q4 q5)))) 0 (by decide) (by decide) rfl at_195 rfl ?_
  refine wlload OGc 198 xc B at_196 rfl rfl ?_
  refine wlcmp OGc 199 xc B at_198 rfl ?_
  refine wifNo OGc 202 xc B at_199 (own_if0 (teq ((lw_eq _ _).mpr rfl)).2) rfl ?_
  refine waload OGc 204 xc B at_202 rfl rfl rfl ?_
  refine wiconst OGc 205 xc B at_204 5 rfl rfl ?_
  refine wlaload OGc 206 xc B hZ rfl fc0 (v := (.long (g0_3 q1 q2 q3 q4 q5 p6))) 5 (by decide) (by decide) rfl at_205 rfl ?_
  refine wlload OGc 208 xc B at_206 rfl rfl ?_
  refine wlcmp OGc 209 xc B at_208 rfl ?_
  refine wifNo OGc 212 xc B at_209 (own_if0 (teq ((lw_eq _ _).mpr rfl)).2) rfl ?_
  refine waload OGc 214 xc B at_212 rfl rfl rfl ?_
  refine wiconst OGc 215 xc B at_214 1 rfl rfl ?_
  refine wlaload OGc 216 xc B hZ rfl fc0 (v := (.long q4)) 1 (by decide) (by decide) rfl at_215 rfl ?_
  refine wlload OGc 218 xc B at_216 rfl rfl ?_
  refine wlcmp OGc 219 xc B at_218 rfl ?_
  refine wifNo OGc 222 xc B at_219 (own_if0 (teq ((lw_eq _ _).mpr rfl)).2) rfl ?_
  refine waload OGc 224 xc B at_222 rfl rfl rfl ?_
  refine wiconst OGc 225 xc B at_224 3 rfl rfl ?_
  refine wlaload OGc 226 xc B hZ rfl fc0 (v := (.long q5)) 3 (by decide) (by decide) rfl at_225 rfl ?_
  refine wlload OGc 228 xc B at_226 rfl rfl ?_
  refine wlcmp OGc 229 xc B at_228 rfl ?_
  refine wifNo OGc 232 xc B at_229 (own_if0 (teq ((lw_eq _ _).mpr rfl)).2) rfl ?_
  refine waload OGc 234 xc B at_232 rfl rfl rfl ?_
  refine wiconst OGc 235 xc B at_234 4 rfl rfl ?_
  refine wlaload OGc 236 xc B hZ rfl fc0 (v := (.long (g0_2 q1 q2 q3 q4 q5 p6))) 4 (by decide) (by decide) rfl at_235 rfl ?_
  refine wlload OGc 238 xc B at_236 rfl rfl ?_
  refine wlcmp OGc 239 xc B at_238 rfl ?_
  refine wifNo OGc 242 xc B at_239 (own_if0 (teq ((lw_eq _ _).mpr rfl)).2) rfl ?_
  refine wiconst OGc 243 xc B at_242 1 rfl rfl ?_
  refine wgoto OGc 247 xc B at_243 rfl ?_
  refine wistore OGc 249 xc B at_247 (LA0_10 q1 q2 q3 q4 q5 p6 b5 b26) rfl rfl ?_
  refine waload OGc 251 xc B at_249 rfl rfl rfl ?_
  refine wiconst OGc 252 xc B at_251 0 rfl rfl ?_
  refine wiaload OGc 253 xc B hZ rfl fc1 (v := (.int (5 : Int32))) 0 (by decide) (by decide) rfl at_252 rfl ?_
  refine wistore OGc 255 xc B at_253 (LA0_11 q1 q2 q3 q4 q5 p6 b5 b26) rfl rfl ?_
  refine waload OGc 257 xc B at_255 rfl rfl rfl ?_
  refine wiconst OGc 258 xc B at_257 1 rfl rfl ?_
  refine wiaload OGc 259 xc B hZ rfl fc1 (v := (.int (0 : Int32))) 1 (by decide) (by decide) rfl at_258 rfl ?_
  refine wistore OGc 261 xc B at_259 (LA0_12 q1 q2 q3 q4 q5 p6 b5 b26) rfl rfl ?_
  refine waload OGc 263 xc B at_261 rfl rfl rfl ?_
  refine wiconst OGc 264 xc B at_263 2 rfl rfl ?_
  refine wiaload OGc 265 xc B hZ rfl fc1 (v := (.int (4 : Int32))) 2 (by decide) (by decide) rfl at_264 rfl ?_
  refine wistore OGc 267 xc B at_265 (LA0_13 q1 q2 q3 q4 q5 p6 b5 b26) rfl rfl ?_
  refine waload OGc 269 xc B at_267 rfl rfl rfl ?_
  refine wiconst OGc 270 xc B at_269 3 rfl rfl ?_
  refine wiaload OGc 271 xc B hZ rfl fc1 (v := (.int (1 : Int32))) 3 (by decide) (by decide) rfl at_270 rfl ?_
  refine wistore OGc 273 xc B at_271 (LA0_14 q1 q2 q3 q4 q5 p6 b5 b26) rfl rfl ?_
  refine waload OGc 275 xc B at_273 rfl rfl rfl ?_
  refine wiconst OGc 276 xc B at_275 4 rfl rfl ?_
  refine wiaload OGc 277 xc B hZ rfl fc1 (v := (.int (3 : Int32))) 4 (by decide) (by decide) rfl at_276 rfl ?_
  refine wistore OGc 279 xc B at_277 (LA0_15 q1 q2 q3 q4 q5 p6 b5 b26) rfl rfl ?_
  refine waload OGc 281 xc B at_279 rfl rfl rfl ?_
  refine wiconst OGc 282 xc B at_281 5 rfl rfl ?_
  refine wiaload OGc 283 xc B hZ rfl fc1 (v := (.int (2 : Int32))) 5 (by decide) (by decide) rfl at_282 rfl ?_
  refine wistore OGc 285 xc B at_283 (LA0_16 q1 q2 q3 q4 q5 p6 b5 b26) rfl rfl ?_
  refine wiload OGc 287 xc B at_285 rfl rfl ?_
  refine wstat OGc 290 xc B hZ hown (ow hw 10 rfl) (ow hw 11 rfl) (ow hw 13 rfl) (ow hw 12 rfl) rfl (rm3 l Z a0 hw [] (5 : Int32) T54.heap) 0 (by decide) (by decide) hml rfl (lenOf pd__I_Z rfl) [] rfl rfl at_287 rfl fun _ T107 L107 X107 hQ107 => ?_
  obtain ⟨rfl, rfl, e107⟩ := hQ107
  have N107 := Fr.app nc (Fr.nil n0)
  refine own_stk (S' := [(.int (f3 (5 : Int32)))]) rfl ?_
  refine wifNo OGc 293 X107 B at_290 (own_if0 (feq (by decide)).1) rfl ?_
  refine wiload OGc 295 X107 B at_293 rfl rfl ?_
  refine wstat OGc 298 X107 B hZ hown (ow hw 10 rfl) (ow hw 11 rfl) (ow hw 13 rfl) (ow hw 12 rfl) e107 (rm3 l Z a0 hw [] (0 : Int32) T54.heap) 0 (by decide) (by decide) hml rfl (lenOf pd__I_Z rfl) [] rfl rfl at_295 rfl fun _ T108 L108 X108 hQ108 => ?_
  obtain ⟨rfl, rfl, e108⟩ := hQ108
  have N108 := Fr.app N107 (Fr.nil n0)
  refine own_stk (S' := [(.int (f3 (0 : Int32)))]) rfl ?_
  refine wifNo OGc 301 X108 B at_298 (own_if0 (feq (by decide)).1) rfl ?_
  refine wiload OGc 303 X108 B at_301 rfl rfl ?_
  refine wstat OGc 306 X108 B hZ hown (ow hw 10 rfl) (ow hw 11 rfl) (ow hw 13 rfl) (ow hw 12 rfl) e108 (rm3 l Z a0 hw [] (4 : Int32) T54.heap) 0 (by decide) (by decide) hml rfl (lenOf pd__I_Z rfl) [] rfl rfl at_303 rfl fun _ T109 L109 X109 hQ109 => ?_
  obtain ⟨rfl, rfl, e109⟩ := hQ109
  have N109 := Fr.app N108 (Fr.nil n0)
  refine own_stk (S' := [(.int (f3 (4 : Int32)))]) rfl ?_
  refine wifNo OGc 309 X109 B at_306 (own_if0 (feq (by decide)).1) rfl ?_
  refine wiload OGc 311 X109 B at_309 rfl rfl ?_
  refine wstat OGc 314 X109 B hZ hown (ow hw 10 rfl) (ow hw 11 rfl) (ow hw 13 rfl) (ow hw 12 rfl) e109 (rm3 l Z a0 hw [] (1 : Int32) T54.heap) 0 (by decide) (by decide) hml rfl (lenOf pd__I_Z rfl) [] rfl rfl at_311 rfl fun _ T110 L110 X110 hQ110 => ?_
  obtain ⟨rfl, rfl, e110⟩ := hQ110
  have N110 := Fr.app N109 (Fr.nil n0)
  refine own_stk (S' := [(.int (f3 (1 : Int32)))]) rfl ?_
  refine wifNo OGc 317 X110 B at_314 (own_if0 (feq (by decide)).1) rfl ?_
  refine wiload OGc 319 X110 B at_317 rfl rfl ?_
  refine wstat OGc 322 X110 B hZ hown (ow hw 10 rfl) (ow hw 11 rfl) (ow hw 13 rfl) (ow hw 12 rfl) e110 (rm3 l Z a0 hw [] (3 : Int32) T54.heap) 0 (by decide) (by decide) hml rfl (lenOf pd__I_Z rfl) [] rfl rfl at_319 rfl fun _ T111 L111 X111 hQ111 => ?_
  obtain ⟨rfl, rfl, e111⟩ := hQ111
  have N111 := Fr.app N110 (Fr.nil n0)
  refine own_stk (S' := [(.int (f3 (3 : Int32)))]) rfl ?_
  refine wifNo OGc 325 X111 B at_322 (own_if0 (feq (by decide)).1) rfl ?_
  refine wiload OGc 327 X111 B at_325 rfl rfl ?_
  refine wstat OGc 330 X111 B hZ hown (ow hw 10 rfl) (ow hw 11 rfl) (ow hw 13 rfl) (ow hw 12 rfl) e111 (rm3 l Z a0 hw [] (2 : Int32) T54.heap) 0 (by decide) (by decide) hml rfl (lenOf pd__I_Z rfl) [] rfl rfl at_327 rfl fun _ T112 L112 X112 hQ112 => ?_
  obtain ⟨rfl, rfl, e112⟩ := hQ112
  have N112 := Fr.app N111 (Fr.nil n0)
  refine own_stk (S' := [(.int (f3 (2 : Int32)))]) rfl ?_
  refine wifYes OGc 335 X112 B at_330 (own_if0 (feq (by decide)).2) rfl ?_
  refine wiconst OGc 336 X112 B at_335 1 rfl rfl ?_
  refine wiload OGc 338 X112 B at_336 rfl rfl ?_
  refine own_st (fun t k => XS.ishl X112.here hx rfl (hb hby at_338) rfl k) ?_
  show OG p e _ s below _ T112 (mkF m 339 (LA0_16 q1 q2 q3 q4 q5 p6 b5 b26) [(.int (32 : Int32))])
  refine wiconst OGc 340 X112 B at_339 1 rfl rfl ?_
  refine wiload OGc 342 X112 B at_340 rfl rfl ?_
  refine own_st (fun t k => XS.ishl X112.here hx rfl (hb hby at_342) rfl k) ?_
  show OG p e _ s below _ T112 (mkF m 343 (LA0_16 q1 q2 q3 q4 q5 p6 b5 b26) [(.int (1 : Int32)), (.int (32 : Int32))])
  refine own_st (fun t k => XS.ior X112.here hx rfl (hb hby at_343) rfl k) ?_
  show OG p e _ s below _ T112 (mkF m 344 (LA0_16 q1 q2 q3 q4 q5 p6 b5 b26) [(.int (33 : Int32))])
  refine wiconst OGc 345 X112 B at_344 1 rfl rfl ?_
  refine wiload OGc 347 X112 B at_345 rfl rfl ?_
  refine own_st (fun t k => XS.ishl X112.here hx rfl (hb hby at_347) rfl k) ?_
  show OG p e _ s below _ T112 (mkF m 348 (LA0_16 q1 q2 q3 q4 q5 p6 b5 b26) [(.int (16 : Int32)), (.int (33 : Int32))])
  refine own_st (fun t k => XS.ior X112.here hx rfl (hb hby at_348) rfl k) ?_
  show OG p e _ s below _ T112 (mkF m 349 (LA0_16 q1 q2 q3 q4 q5 p6 b5 b26) [(.int (49 : Int32))])
  refine wiconst OGc 350 X112 B at_349 1 rfl rfl ?_
  refine wiload OGc 352 X112 B at_350 rfl rfl ?_
  refine own_st (fun t k => XS.ishl X112.here hx rfl (hb hby at_352) rfl k) ?_
  show OG p e _ s below _ T112 (mkF m 353 (LA0_16 q1 q2 q3 q4 q5 p6 b5 b26) [(.int (2 : Int32)), (.int (49 : Int32))])
  refine own_st (fun t k => XS.ior X112.here hx rfl (hb hby at_353) rfl k) ?_
  show OG p e _ s below _ T112 (mkF m 354 (LA0_16 q1 q2 q3 q4 q5 p6 b5 b26) [(.int (51 : Int32))])
  refine wiconst OGc 355 X112 B at_354 1 rfl rfl ?_
  refine wiload OGc 357 X112 B at_355 rfl rfl ?_
  refine own_st (fun t k => XS.ishl X112.here hx rfl (hb hby at_357) rfl k) ?_
  show OG p e _ s below _ T112 (mkF m 358 (LA0_16 q1 q2 q3 q4 q5 p6 b5 b26) [(.int (8 : Int32)), (.int (51 : Int32))])
  refine own_st (fun t k => XS.ior X112.here hx rfl (hb hby at_358) rfl k) ?_
  show OG p e _ s below _ T112 (mkF m 359 (LA0_16 q1 q2 q3 q4 q5 p6 b5 b26) [(.int (59 : Int32))])
  refine wiconst OGc 360 X112 B at_359 1 rfl rfl ?_
  refine wiload OGc 362 X112 B at_360 rfl rfl ?_
  refine own_st (fun t k => XS.ishl X112.here hx rfl (hb hby at_362) rfl k) ?_
  show OG p e _ s below _ T112 (mkF m 363 (LA0_16 q1 q2 q3 q4 q5 p6 b5 b26) [(.int (4 : Int32)), (.int (59 : Int32))])
  refine own_st (fun t k => XS.ior X112.here hx rfl (hb hby at_363) rfl k) ?_
  show OG p e _ s below _ T112 (mkF m 364 (LA0_16 q1 q2 q3 q4 q5 p6 b5 b26) [(.int (63 : Int32))])
  refine wistore OGc 366 X112 B at_364 (LA0_17 q1 q2 q3 q4 q5 p6 b5 b26) rfl rfl ?_
  refine wiload OGc 368 X112 B at_366 rfl rfl ?_
  refine wifNo OGc 371 X112 B at_368 (by decide) rfl ?_
  refine wiload OGc 373 X112 B at_371 rfl rfl ?_
  refine wbipush OGc 375 X112 B at_373 63 rfl rfl ?_
  refine wicmpNo OGc 378 X112 B at_375 (by decide) rfl ?_
  refine wiconst OGc 379 X112 B at_378 1 rfl rfl ?_
  refine wgoto OGc 383 X112 B at_379 rfl ?_
  refine wistore OGc 385 X112 B at_383 (LA0_17 q1 q2 q3 q4 q5 p6 b5 b26) rfl rfl ?_
  refine waload OGc 387 X112 B at_385 rfl rfl rfl ?_
  refine wiload OGc 389 X112 B at_387 rfl rfl ?_
  refine wlaload OGc 390 X112 B hZ e112 fc0 (v := (.long (g0_3 q1 q2 q3 q4 q5 p6))) 5 (by decide) (by decide) rfl at_389 rfl ?_
  refine wlstore OGc 392 X112 B at_390 (LA0_18 q1 q2 q3 q4 q5 p6 b5 b26) rfl rfl ?_
  refine waload OGc 394 X112 B at_392 rfl rfl rfl ?_
  refine wiload OGc 396 X112 B at_394 rfl rfl ?_
  refine wlaload OGc 397 X112 B hZ e112 fc0 (v := (.long (f1 q2 (f1 q4 q5)))) 0 (by decide) (by decide) rfl at_396 rfl ?_
  refine wlstore OGc 399 X112 B at_397 (LA0_19 q1 q2 q3 q4 q5 p6 b5 b26) rfl rfl ?_
  refine waload OGc 401 X112 B at_399 rfl rfl rfl ?_
  refine wiload OGc 403 X112 B at_401 rfl rfl ?_
  refine wlaload OGc 404 X112 B hZ e112 fc0 (v := (.long (g0_2 q1 q2 q3 q4 q5 p6))) 4 (by decide) (by decide) rfl at_403 rfl ?_
  refine wlstore OGc 406 X112 B at_404 (LA0_20 q1 q2 q3 q4 q5 p6 b5 b26) rfl rfl ?_
  refine waload OGc 408 X112 B at_406 rfl rfl rfl ?_
  refine wiload OGc 410 X112 B at_408 rfl rfl ?_
  refine wlaload OGc 411 X112 B hZ e112 fc0 (v := (.long q4)) 1 (by decide) (by decide) rfl at_410 rfl ?_
  refine wlstore OGc 413 X112 B at_411 (LA0_21 q1 q2 q3 q4 q5 p6 b5 b26) rfl rfl ?_
  refine waload OGc 415 X112 B at_413 rfl rfl rfl ?_
  refine wiload OGc 417 X112 B at_415 rfl rfl ?_
  refine wlaload OGc 418 X112 B hZ e112 fc0 (v := (.long q5)) 3 (by decide) (by decide) rfl at_417 rfl ?_
  refine wlstore OGc 420 X112 B at_418 (LA0_22 q1 q2 q3 q4 q5 p6 b5 b26) rfl rfl ?_
  refine waload OGc 422 X112 B at_420 rfl rfl rfl ?_
  refine wiload OGc 424 X112 B at_422 rfl rfl ?_
  refine wlaload OGc 425 X112 B hZ e112 fc0 (v := (.long q1)) 2 (by decide) (by decide) rfl at_424 rfl ?_
  refine wlstore OGc 427 X112 B at_425 (LA0_23 q1 q2 q3 q4 q5 p6 b5 b26) rfl rfl ?_
  refine wiload OGc 429 X112 B at_427 rfl rfl ?_
  refine wifNo OGc 432 X112 B at_429 (by decide) rfl ?_
  refine wlload OGc 434 X112 B at_432 rfl rfl ?_
  refine wlload OGc 436 X112 B at_434 rfl rfl ?_
  refine wlcmp OGc 437 X112 B at_436 rfl ?_
  by_cases c119 : (f1 q2 (f1 q4 q5)) < (g0_3 q1 q2 q3 q4 q5 p6)
  · refine wifYes OGc 476 X112 B at_437 (own_if0 (tlt ((lw_gt _ _).mpr c119)).2.2.1) rfl ?_
    refine wiconst OGc 477 X112 B at_476 0 rfl rfl ?_
    refine wistore OGc 479 X112 B at_477 (LA0_24 q1 q2 q3 q4 q5 p6 b5 b26) rfl rfl ?_
    refine wiload OGc 481 X112 B at_479 rfl rfl ?_
    refine wiconst OGc 482 X112 B at_481 1 rfl rfl ?_
    refine wicmpYes OGc 518 X112 B at_482 (by decide) rfl ?_
    refine wiload OGc 520 X112 B at_518 rfl rfl ?_
    refine wiconst OGc 521 X112 B at_520 2 rfl rfl ?_
    refine wicmpYes OGc 562 X112 B at_521 (by decide) rfl ?_
    refine wiload OGc 564 X112 B at_562 rfl rfl ?_
    refine wiconst OGc 565 X112 B at_564 3 rfl rfl ?_
    refine wicmpYes OGc 615 X112 B at_565 (by decide) rfl ?_
    refine wiload OGc 617 X112 B at_615 rfl rfl ?_
    refine own_retZ X112 hx (t := .boolean) hret (by simp) hlk (hb hby at_617) (by decide) (by decide) (w := (0 : Int32)) rfl ?_
    exact ⟨congrArg (fun z => some (Value.int z)) (show f0 q1 q2 q3 q4 q5 p6 = (0 : Int32) from (by rw [f0, if_pos c1, if_pos c56, if_pos c57, if_pos c58, if_pos c119])).symm, N112⟩
  · refine wifNo OGc 440 X112 B at_437 (own_if0 (flt (fun q => c119 ((lw_gt _ _).mp q))).2.2.1) rfl ?_
    refine wlload OGc 442 X112 B at_440 rfl rfl ?_
    refine wlload OGc 444 X112 B at_442 rfl rfl ?_
    refine wlcmp OGc 445 X112 B at_444 rfl ?_
    by_cases c120 : (g0_2 q1 q2 q3 q4 q5 p6) < (g0_3 q1 q2 q3 q4 q5 p6)
    · refine wifYes OGc 476 X112 B at_445 (own_if0 (tlt ((lw_gt _ _).mpr c120)).2.2.1) rfl ?_
      refine wiconst OGc 477 X112 B at_476 0 rfl rfl ?_
      refine wistore OGc 479 X112 B at_477 (LA0_24 q1 q2 q3 q4 q5 p6 b5 b26) rfl rfl ?_
      refine wiload OGc 481 X112 B at_479 rfl rfl ?_
      refine wiconst OGc 482 X112 B at_481 1 rfl rfl ?_
      refine wicmpYes OGc 518 X112 B at_482 (by decide) rfl ?_
      refine wiload OGc 520 X112 B at_518 rfl rfl ?_
      refine wiconst OGc 521 X112 B at_520 2 rfl rfl ?_
      refine wicmpYes OGc 562 X112 B at_521 (by decide) rfl ?_
      refine wiload OGc 564 X112 B at_562 rfl rfl ?_
      refine wiconst OGc 565 X112 B at_564 3 rfl rfl ?_
      refine wicmpYes OGc 615 X112 B at_565 (by decide) rfl ?_
      refine wiload OGc 617 X112 B at_615 rfl rfl ?_
      refine own_retZ X112 hx (t := .boolean) hret (by simp) hlk (hb hby at_617) (by decide) (by decide) (w := (0 : Int32)) rfl ?_
      exact ⟨congrArg (fun z => some (Value.int z)) (show f0 q1 q2 q3 q4 q5 p6 = (0 : Int32) from (by rw [f0, if_pos c1, if_pos c56, if_pos c57, if_pos c58, if_neg c119, if_pos c120])).symm, N112⟩
    · refine wifNo OGc 448 X112 B at_445 (own_if0 (flt (fun q => c120 ((lw_gt _ _).mp q))).2.2.1) rfl ?_
      refine wlload OGc 450 X112 B at_448 rfl rfl ?_
      refine wlload OGc 452 X112 B at_450 rfl rfl ?_
      refine wlcmp OGc 453 X112 B at_452 rfl ?_
      by_cases c121 : q4 < (f1 q2 (f1 q4 q5))
      · refine wifYes OGc 476 X112 B at_453 (own_if0 (tlt ((lw_gt _ _).mpr c121)).2.2.1) rfl ?_
        refine wiconst OGc 477 X112 B at_476 0 rfl rfl ?_
        refine wistore OGc 479 X112 B at_477 (LA0_24 q1 q2 q3 q4 q5 p6 b5 b26) rfl rfl ?_
        refine wiload OGc 481 X112 B at_479 rfl rfl ?_
        refine wiconst OGc 482 X112 B at_481 1 rfl rfl ?_
        refine wicmpYes OGc 518 X112 B at_482 (by decide) rfl ?_
        refine wiload OGc 520 X112 B at_518 rfl rfl ?_
        refine wiconst OGc 521 X112 B at_520 2 rfl rfl ?_
        refine wicmpYes OGc 562 X112 B at_521 (by decide) rfl ?_
        refine wiload OGc 564 X112 B at_562 rfl rfl ?_
        refine wiconst OGc 565 X112 B at_564 3 rfl rfl ?_
        refine wicmpYes OGc 615 X112 B at_565 (by decide) rfl ?_
        refine wiload OGc 617 X112 B at_615 rfl rfl ?_
        refine own_retZ X112 hx (t := .boolean) hret (by simp) hlk (hb hby at_617) (by decide) (by decide) (w := (0 : Int32)) rfl ?_
        exact ⟨congrArg (fun z => some (Value.int z)) (show f0 q1 q2 q3 q4 q5 p6 = (0 : Int32) from (by rw [f0, if_pos c1, if_pos c56, if_pos c57, if_pos c58, if_neg c119, if_neg c120, if_pos c121])).symm, N112⟩
      · refine wifNo OGc 456 X112 B at_453 (own_if0 (flt (fun q => c121 ((lw_gt _ _).mp q))).2.2.1) rfl ?_
        refine wlload OGc 458 X112 B at_456 rfl rfl ?_
        refine wlload OGc 460 X112 B at_458 rfl rfl ?_
        refine wlcmp OGc 461 X112 B at_460 rfl ?_
        by_cases c122 : q5 < (f1 q2 (f1 q4 q5))
        · refine wifYes OGc 476 X112 B at_461 (own_if0 (tlt ((lw_gt _ _).mpr c122)).2.2.1) rfl ?_
          refine wiconst OGc 477 X112 B at_476 0 rfl rfl ?_
          refine wistore OGc 479 X112 B at_477 (LA0_24 q1 q2 q3 q4 q5 p6 b5 b26) rfl rfl ?_
          refine wiload OGc 481 X112 B at_479 rfl rfl ?_
          refine wiconst OGc 482 X112 B at_481 1 rfl rfl ?_
          refine wicmpYes OGc 518 X112 B at_482 (by decide) rfl ?_
          refine wiload OGc 520 X112 B at_518 rfl rfl ?_
          refine wiconst OGc 521 X112 B at_520 2 rfl rfl ?_
          refine wicmpYes OGc 562 X112 B at_521 (by decide) rfl ?_
          refine wiload OGc 564 X112 B at_562 rfl rfl ?_
          refine wiconst OGc 565 X112 B at_564 3 rfl rfl ?_
          refine wicmpYes OGc 615 X112 B at_565 (by decide) rfl ?_
          refine wiload OGc 617 X112 B at_615 rfl rfl ?_
          refine own_retZ X112 hx (t := .boolean) hret (by simp) hlk (hb hby at_617) (by decide) (by decide) (w := (0 : Int32)) rfl ?_
          exact ⟨congrArg (fun z => some (Value.int z)) (show f0 q1 q2 q3 q4 q5 p6 = (0 : Int32) from (by rw [f0, if_pos c1, if_pos c56, if_pos c57, if_pos c58, if_neg c119, if_neg c120, if_neg c121, if_pos c122])).symm, N112⟩
        · refine wifNo OGc 464 X112 B at_461 (own_if0 (flt (fun q => c122 ((lw_gt _ _).mp q))).2.2.1) rfl ?_
          refine wlload OGc 466 X112 B at_464 rfl rfl ?_
          refine wlload OGc 468 X112 B at_466 rfl rfl ?_
          refine wlcmp OGc 469 X112 B at_468 rfl ?_
          by_cases c123 : q1 < (g0_2 q1 q2 q3 q4 q5 p6)
          · refine wifYes OGc 476 X112 B at_469 (own_if0 (tlt ((lw_gt _ _).mpr c123)).2.2.1) rfl ?_
            refine wiconst OGc 477 X112 B at_476 0 rfl rfl ?_
            refine wistore OGc 479 X112 B at_477 (LA0_24 q1 q2 q3 q4 q5 p6 b5 b26) rfl rfl ?_
            refine wiload OGc 481 X112 B at_479 rfl rfl ?_
            refine wiconst OGc 482 X112 B at_481 1 rfl rfl ?_
            refine wicmpYes OGc 518 X112 B at_482 (by decide) rfl ?_
            refine wiload OGc 520 X112 B at_518 rfl rfl ?_
            refine wiconst OGc 521 X112 B at_520 2 rfl rfl ?_
            refine wicmpYes OGc 562 X112 B at_521 (by decide) rfl ?_
            refine wiload OGc 564 X112 B at_562 rfl rfl ?_
            refine wiconst OGc 565 X112 B at_564 3 rfl rfl ?_
            refine wicmpYes OGc 615 X112 B at_565 (by decide) rfl ?_
            refine wiload OGc 617 X112 B at_615 rfl rfl ?_
            refine own_retZ X112 hx (t := .boolean) hret (by simp) hlk (hb hby at_617) (by decide) (by decide) (w := (0 : Int32)) rfl ?_
            exact ⟨congrArg (fun z => some (Value.int z)) (show f0 q1 q2 q3 q4 q5 p6 = (0 : Int32) from (by rw [f0, if_pos c1, if_pos c56, if_pos c57, if_pos c58, if_neg c119, if_neg c120, if_neg c121, if_neg c122, if_pos c123])).symm, N112⟩
          · refine wifNo OGc 472 X112 B at_469 (own_if0 (flt (fun q => c123 ((lw_gt _ _).mp q))).2.2.1) rfl ?_
            refine wiconst OGc 473 X112 B at_472 1 rfl rfl ?_
            refine wgoto OGc 477 X112 B at_473 rfl ?_
            refine wistore OGc 479 X112 B at_477 (LA0_23 q1 q2 q3 q4 q5 p6 b5 b26) rfl rfl ?_
            refine wiload OGc 481 X112 B at_479 rfl rfl ?_
            refine wiconst OGc 482 X112 B at_481 1 rfl rfl ?_
            refine wicmpYes OGc 518 X112 B at_482 (by decide) rfl ?_
            refine wiload OGc 520 X112 B at_518 rfl rfl ?_
            refine wiconst OGc 521 X112 B at_520 2 rfl rfl ?_
            refine wicmpYes OGc 562 X112 B at_521 (by decide) rfl ?_
            refine wiload OGc 564 X112 B at_562 rfl rfl ?_
            refine wiconst OGc 565 X112 B at_564 3 rfl rfl ?_
            refine wicmpYes OGc 615 X112 B at_565 (by decide) rfl ?_
            refine wiload OGc 617 X112 B at_615 rfl rfl ?_
            refine own_retZ X112 hx (t := .boolean) hret (by simp) hlk (hb hby at_617) (by decide) (by decide) (w := (1 : Int32)) rfl ?_
            exact ⟨congrArg (fun z => some (Value.int z)) (show f0 q1 q2 q3 q4 q5 p6 = (1 : Int32) from (by rw [f0, if_pos c1, if_pos c56, if_pos c57, if_pos c58, if_neg c119, if_neg c120, if_neg c121, if_neg c122, if_neg c123])).symm, N112⟩
set_option maxRecDepth 65536 in
set_option maxHeartbeats 40000000 in
theorem tl0_3 (l : Launch) (Z : State) (a0 : Array Value) (hw : ∀ d ∈ tables_1, d.before a0 Z = true) (q1 : Int64) (q2 : Int64) (q3 : Int64) (q4 : Int64) (q5 : Int64) (p6 : Int32) (h0 : Heap) (n0 : Nat) (Z0 : n0 ≤ h0.size) (p : Program) (e : Env) (s : State) (m : MethodId) (below : List Frame) (meth : Method) (c : Code) (hx : p.tables.exec = Jvm.exec) (hby : c.code = code) (hml : c.maxLocals = 46) (hown : s.vm.findClass "com/example/fragmark/fragmark/PhraseMatcherSiftDownPinLaw" = some m.cls) (hret : meth.sig.returnType = ret) (hlk : meth.locks = false) (hZ : Z.Warmed39 s.vm) (b26 : Addr) (b5 : Addr) (T54 : State) (locs : List Loc) (xc : Stand p l e room_1 s m #[(.long q1), (.long q2), (.long q3), (.long q4), (.long q5), (.int p6)] below meth c T54 locs 2 12)   (nc : Fr n0 locs) (kc : Keep h0 T54.heap []) (gc_b26 : n0 ≤ b26) (gc_b5 : n0 ≤ b5) (sc_b26 : h0.size ≤ b26) (sc_b5 : h0.size ≤ b5) (xc_b5_b26 : b5 ≠ b26) (fc0 : OA Z T54.heap b26 .long [(.long (f1 q2 (f1 q4 q5))), (.long q4), (.long q1), (.long q5), (.long (g0_2 q1 q2 q3 q4 q5 p6)), (.long (g0_3 q1 q2 q3 q4 q5 p6))]) (fc1 : OA Z T54.heap b5 .int [(.int (5 : Int32)), (.int (0 : Int32)), (.int (2 : Int32)), (.int (1 : Int32)), (.int (3 : Int32)), (.int (4 : Int32))]) (c1 : (g0_1 q1 q2 q3 q4 q5 p6) = (0 : Int32)) (c60 : (f1 q2 (f1 q4 q5)) < q1) (c61 : (g0_3 q1 q2 q3 q4 q5 p6) < (f1 q2 (f1 q4 q5))) (c62 : ¬ ((g0_2 q1 q2 q3 q4 q5 p6) < q1)) :
    OG p e room_1 s below (fun v h L => v = some (.int (f0 q1 q2 q3 q4 q5 p6)) ∧ Fr n0 L) T54 (mkF m 182 (LA0_9 q1 q2 q3 q4 q5 p6 b5 b26) []) := by
  have B := And.intro hx hby
  refine waload OGc 184 xc B at_182 rfl rfl rfl ?_
  refine wiconst OGc 185 xc B at_184 2 rfl rfl ?_
  refine wlaload OGc 186 xc B hZ rfl fc0 (v := (.long q1)) 2 (by decide) (by decide) rfl at_185 rfl ?_
  refine wlload OGc 188 xc B at_186 rfl rfl ?_
  refine wlcmp OGc 189 xc B at_188 rfl ?_
  refine wifNo OGc 192 xc B at_189 (own_if0 (teq ((lw_eq _ _).mpr rfl)).2) rfl ?_
  refine waload OGc 194 xc B at_192 rfl rfl rfl ?_
  refine wiconst OGc 195 xc B at_194 0 rfl rfl ?_
  refine wlaload OGc 196 xc B hZ rfl fc0 (v := (.long (f1 q2 (f1 q4 q5)))) 0 (by decide) (by decide) rfl at_195 rfl ?_
  refine wlload OGc 198 xc B at_196 rfl rfl ?_
  refine wlcmp OGc 199 xc B at_198 rfl ?_
  refine wifNo OGc 202 xc B at_199 (own_if0 (teq ((lw_eq _ _).mpr rfl)).2) rfl ?_
  refine waload OGc 204 xc B at_202 rfl rfl rfl ?_
  refine wiconst OGc 205 xc B at_204 5 rfl rfl ?_
  refine wlaload OGc 206 xc B hZ rfl fc0 (v := (.long (g0_3 q1 q2 q3 q4 q5 p6))) 5 (by decide) (by decide) rfl at_205 rfl ?_
  refine wlload OGc 208 xc B at_206 rfl rfl ?_
  refine wlcmp OGc 209 xc B at_208 rfl ?_
  refine wifNo OGc 212 xc B at_209 (own_if0 (teq ((lw_eq _ _).mpr rfl)).2) rfl ?_
  refine waload OGc 214 xc B at_212 rfl rfl rfl ?_
  refine wiconst OGc 215 xc B at_214 1 rfl rfl ?_
  refine wlaload OGc 216 xc B hZ rfl fc0 (v := (.long q4)) 1 (by decide) (by decide) rfl at_215 rfl ?_
  refine wlload OGc 218 xc B at_216 rfl rfl ?_
  refine wlcmp OGc 219 xc B at_218 rfl ?_
  refine wifNo OGc 222 xc B at_219 (own_if0 (teq ((lw_eq _ _).mpr rfl)).2) rfl ?_
  refine waload OGc 224 xc B at_222 rfl rfl rfl ?_
  refine wiconst OGc 225 xc B at_224 3 rfl rfl ?_
  refine wlaload OGc 226 xc B hZ rfl fc0 (v := (.long q5)) 3 (by decide) (by decide) rfl at_225 rfl ?_
  refine wlload OGc 228 xc B at_226 rfl rfl ?_
  refine wlcmp OGc 229 xc B at_228 rfl ?_
  refine wifNo OGc 232 xc B at_229 (own_if0 (teq ((lw_eq _ _).mpr rfl)).2) rfl ?_
  refine waload OGc 234 xc B at_232 rfl rfl rfl ?_
  refine wiconst OGc 235 xc B at_234 4 rfl rfl ?_
  refine wlaload OGc 236 xc B hZ rfl fc0 (v := (.long (g0_2 q1 q2 q3 q4 q5 p6))) 4 (by decide) (by decide) rfl at_235 rfl ?_
  refine wlload OGc 238 xc B at_236 rfl rfl ?_
  refine wlcmp OGc 239 xc B at_238 rfl ?_
  refine wifNo OGc 242 xc B at_239 (own_if0 (teq ((lw_eq _ _).mpr rfl)).2) rfl ?_
  refine wiconst OGc 243 xc B at_242 1 rfl rfl ?_
  refine wgoto OGc 247 xc B at_243 rfl ?_
  refine wistore OGc 249 xc B at_247 (LA0_10 q1 q2 q3 q4 q5 p6 b5 b26) rfl rfl ?_
  refine waload OGc 251 xc B at_249 rfl rfl rfl ?_
  refine wiconst OGc 252 xc B at_251 0 rfl rfl ?_
  refine wiaload OGc 253 xc B hZ rfl fc1 (v := (.int (5 : Int32))) 0 (by decide) (by decide) rfl at_252 rfl ?_
  refine wistore OGc 255 xc B at_253 (LA0_11 q1 q2 q3 q4 q5 p6 b5 b26) rfl rfl ?_
  refine waload OGc 257 xc B at_255 rfl rfl rfl ?_
  refine wiconst OGc 258 xc B at_257 1 rfl rfl ?_
  refine wiaload OGc 259 xc B hZ rfl fc1 (v := (.int (0 : Int32))) 1 (by decide) (by decide) rfl at_258 rfl ?_
  refine wistore OGc 261 xc B at_259 (LA0_12 q1 q2 q3 q4 q5 p6 b5 b26) rfl rfl ?_
  refine waload OGc 263 xc B at_261 rfl rfl rfl ?_
  refine wiconst OGc 264 xc B at_263 2 rfl rfl ?_
  refine wiaload OGc 265 xc B hZ rfl fc1 (v := (.int (2 : Int32))) 2 (by decide) (by decide) rfl at_264 rfl ?_
  refine wistore OGc 267 xc B at_265 (LA0_25 q1 q2 q3 q4 q5 p6 b5 b26) rfl rfl ?_
  refine waload OGc 269 xc B at_267 rfl rfl rfl ?_
  refine wiconst OGc 270 xc B at_269 3 rfl rfl ?_
  refine wiaload OGc 271 xc B hZ rfl fc1 (v := (.int (1 : Int32))) 3 (by decide) (by decide) rfl at_270 rfl ?_
  refine wistore OGc 273 xc B at_271 (LA0_26 q1 q2 q3 q4 q5 p6 b5 b26) rfl rfl ?_
  refine waload OGc 275 xc B at_273 rfl rfl rfl ?_
  refine wiconst OGc 276 xc B at_275 4 rfl rfl ?_
  refine wiaload OGc 277 xc B hZ rfl fc1 (v := (.int (3 : Int32))) 4 (by decide) (by decide) rfl at_276 rfl ?_
  refine wistore OGc 279 xc B at_277 (LA0_27 q1 q2 q3 q4 q5 p6 b5 b26) rfl rfl ?_
  refine waload OGc 281 xc B at_279 rfl rfl rfl ?_
  refine wiconst OGc 282 xc B at_281 5 rfl rfl ?_
  refine wiaload OGc 283 xc B hZ rfl fc1 (v := (.int (4 : Int32))) 5 (by decide) (by decide) rfl at_282 rfl ?_
  refine wistore OGc 285 xc B at_283 (LA0_28 q1 q2 q3 q4 q5 p6 b5 b26) rfl rfl ?_
  refine wiload OGc 287 xc B at_285 rfl rfl ?_
  refine wstat OGc 290 xc B hZ hown (ow hw 10 rfl) (ow hw 11 rfl) (ow hw 13 rfl) (ow hw 12 rfl) rfl (rm3 l Z a0 hw [] (5 : Int32) T54.heap) 0 (by decide) (by decide) hml rfl (lenOf pd__I_Z rfl) [] rfl rfl at_287 rfl fun _ T136 L136 X136 hQ136 => ?_
  obtain ⟨rfl, rfl, e136⟩ := hQ136
  have N136 := Fr.app nc (Fr.nil n0)
  refine own_stk (S' := [(.int (f3 (5 : Int32)))]) rfl ?_
  refine wifNo OGc 293 X136 B at_290 (own_if0 (feq (by decide)).1) rfl ?_
  refine wiload OGc 295 X136 B at_293 rfl rfl ?_
  refine wstat OGc 298 X136 B hZ hown (ow hw 10 rfl) (ow hw 11 rfl) (ow hw 13 rfl) (ow hw 12 rfl) e136 (rm3 l Z a0 hw [] (0 : Int32) T54.heap) 0 (by decide) (by decide) hml rfl (lenOf pd__I_Z rfl) [] rfl rfl at_295 rfl fun _ T137 L137 X137 hQ137 => ?_
  obtain ⟨rfl, rfl, e137⟩ := hQ137
  have N137 := Fr.app N136 (Fr.nil n0)
  refine own_stk (S' := [(.int (f3 (0 : Int32)))]) rfl ?_
  refine wifNo OGc 301 X137 B at_298 (own_if0 (feq (by decide)).1) rfl ?_
  refine wiload OGc 303 X137 B at_301 rfl rfl ?_
  refine wstat OGc 306 X137 B hZ hown (ow hw 10 rfl) (ow hw 11 rfl) (ow hw 13 rfl) (ow hw 12 rfl) e137 (rm3 l Z a0 hw [] (2 : Int32) T54.heap) 0 (by decide) (by decide) hml rfl (lenOf pd__I_Z rfl) [] rfl rfl at_303 rfl fun _ T138 L138 X138 hQ138 => ?_
  obtain ⟨rfl, rfl, e138⟩ := hQ138
  have N138 := Fr.app N137 (Fr.nil n0)
  refine own_stk (S' := [(.int (f3 (2 : Int32)))]) rfl ?_
  refine wifNo OGc 309 X138 B at_306 (own_if0 (feq (by decide)).1) rfl ?_
  refine wiload OGc 311 X138 B at_309 rfl rfl ?_
  refine wstat OGc 314 X138 B hZ hown (ow hw 10 rfl) (ow hw 11 rfl) (ow hw 13 rfl) (ow hw 12 rfl) e138 (rm3 l Z a0 hw [] (1 : Int32) T54.heap) 0 (by decide) (by decide) hml rfl (lenOf pd__I_Z rfl) [] rfl rfl at_311 rfl fun _ T139 L139 X139 hQ139 => ?_
  obtain ⟨rfl, rfl, e139⟩ := hQ139
  have N139 := Fr.app N138 (Fr.nil n0)
  refine own_stk (S' := [(.int (f3 (1 : Int32)))]) rfl ?_
  refine wifNo OGc 317 X139 B at_314 (own_if0 (feq (by decide)).1) rfl ?_
  refine wiload OGc 319 X139 B at_317 rfl rfl ?_
  refine wstat OGc 322 X139 B hZ hown (ow hw 10 rfl) (ow hw 11 rfl) (ow hw 13 rfl) (ow hw 12 rfl) e139 (rm3 l Z a0 hw [] (3 : Int32) T54.heap) 0 (by decide) (by decide) hml rfl (lenOf pd__I_Z rfl) [] rfl rfl at_319 rfl fun _ T140 L140 X140 hQ140 => ?_
  obtain ⟨rfl, rfl, e140⟩ := hQ140
  have N140 := Fr.app N139 (Fr.nil n0)
  refine own_stk (S' := [(.int (f3 (3 : Int32)))]) rfl ?_
  refine wifNo OGc 325 X140 B at_322 (own_if0 (feq (by decide)).1) rfl ?_
  refine wiload OGc 327 X140 B at_325 rfl rfl ?_
  refine wstat OGc 330 X140 B hZ hown (ow hw 10 rfl) (ow hw 11 rfl) (ow hw 13 rfl) (ow hw 12 rfl) e140 (rm3 l Z a0 hw [] (4 : Int32) T54.heap) 0 (by decide) (by decide) hml rfl (lenOf pd__I_Z rfl) [] rfl rfl at_327 rfl fun _ T141 L141 X141 hQ141 => ?_
  obtain ⟨rfl, rfl, e141⟩ := hQ141
  have N141 := Fr.app N140 (Fr.nil n0)
  refine own_stk (S' := [(.int (f3 (4 : Int32)))]) rfl ?_
  refine wifYes OGc 335 X141 B at_330 (own_if0 (feq (by decide)).2) rfl ?_
  refine wiconst OGc 336 X141 B at_335 1 rfl rfl ?_
  refine wiload OGc 338 X141 B at_336 rfl rfl ?_
  refine own_st (fun t k => XS.ishl X141.here hx rfl (hb hby at_338) rfl k) ?_
  show OG p e _ s below _ T141 (mkF m 339 (LA0_28 q1 q2 q3 q4 q5 p6 b5 b26) [(.int (32 : Int32))])
  refine wiconst OGc 340 X141 B at_339 1 rfl rfl ?_
  refine wiload OGc 342 X141 B at_340 rfl rfl ?_
  refine own_st (fun t k => XS.ishl X141.here hx rfl (hb hby at_342) rfl k) ?_
  show OG p e _ s below _ T141 (mkF m 343 (LA0_28 q1 q2 q3 q4 q5 p6 b5 b26) [(.int (1 : Int32)), (.int (32 : Int32))])
  refine own_st (fun t k => XS.ior X141.here hx rfl (hb hby at_343) rfl k) ?_
  show OG p e _ s below _ T141 (mkF m 344 (LA0_28 q1 q2 q3 q4 q5 p6 b5 b26) [(.int (33 : Int32))])
  refine wiconst OGc 345 X141 B at_344 1 rfl rfl ?_
  refine wiload OGc 347 X141 B at_345 rfl rfl ?_
  refine own_st (fun t k => XS.ishl X141.here hx rfl (hb hby at_347) rfl k) ?_
  show OG p e _ s below _ T141 (mkF m 348 (LA0_28 q1 q2 q3 q4 q5 p6 b5 b26) [(.int (4 : Int32)), (.int (33 : Int32))])
  refine own_st (fun t k => XS.ior X141.here hx rfl (hb hby at_348) rfl k) ?_
  show OG p e _ s below _ T141 (mkF m 349 (LA0_28 q1 q2 q3 q4 q5 p6 b5 b26) [(.int (37 : Int32))])
  refine wiconst OGc 350 X141 B at_349 1 rfl rfl ?_
  refine wiload OGc 352 X141 B at_350 rfl rfl ?_
  refine own_st (fun t k => XS.ishl X141.here hx rfl (hb hby at_352) rfl k) ?_
  show OG p e _ s below _ T141 (mkF m 353 (LA0_28 q1 q2 q3 q4 q5 p6 b5 b26) [(.int (2 : Int32)), (.int (37 : Int32))])
  refine own_st (fun t k => XS.ior X141.here hx rfl (hb hby at_353) rfl k) ?_
  show OG p e _ s below _ T141 (mkF m 354 (LA0_28 q1 q2 q3 q4 q5 p6 b5 b26) [(.int (39 : Int32))])
  refine wiconst OGc 355 X141 B at_354 1 rfl rfl ?_
  refine wiload OGc 357 X141 B at_355 rfl rfl ?_
  refine own_st (fun t k => XS.ishl X141.here hx rfl (hb hby at_357) rfl k) ?_
  show OG p e _ s below _ T141 (mkF m 358 (LA0_28 q1 q2 q3 q4 q5 p6 b5 b26) [(.int (8 : Int32)), (.int (39 : Int32))])
  refine own_st (fun t k => XS.ior X141.here hx rfl (hb hby at_358) rfl k) ?_
  show OG p e _ s below _ T141 (mkF m 359 (LA0_28 q1 q2 q3 q4 q5 p6 b5 b26) [(.int (47 : Int32))])
  refine wiconst OGc 360 X141 B at_359 1 rfl rfl ?_
  refine wiload OGc 362 X141 B at_360 rfl rfl ?_
  refine own_st (fun t k => XS.ishl X141.here hx rfl (hb hby at_362) rfl k) ?_
  show OG p e _ s below _ T141 (mkF m 363 (LA0_28 q1 q2 q3 q4 q5 p6 b5 b26) [(.int (16 : Int32)), (.int (47 : Int32))])
  refine own_st (fun t k => XS.ior X141.here hx rfl (hb hby at_363) rfl k) ?_
  show OG p e _ s below _ T141 (mkF m 364 (LA0_28 q1 q2 q3 q4 q5 p6 b5 b26) [(.int (63 : Int32))])
  refine wistore OGc 366 X141 B at_364 (LA0_29 q1 q2 q3 q4 q5 p6 b5 b26) rfl rfl ?_
  refine wiload OGc 368 X141 B at_366 rfl rfl ?_
  refine wifNo OGc 371 X141 B at_368 (by decide) rfl ?_
  refine wiload OGc 373 X141 B at_371 rfl rfl ?_
  refine wbipush OGc 375 X141 B at_373 63 rfl rfl ?_
  refine wicmpNo OGc 378 X141 B at_375 (by decide) rfl ?_
  refine wiconst OGc 379 X141 B at_378 1 rfl rfl ?_
  refine wgoto OGc 383 X141 B at_379 rfl ?_
  refine wistore OGc 385 X141 B at_383 (LA0_29 q1 q2 q3 q4 q5 p6 b5 b26) rfl rfl ?_
  refine waload OGc 387 X141 B at_385 rfl rfl rfl ?_
  refine wiload OGc 389 X141 B at_387 rfl rfl ?_
  refine wlaload OGc 390 X141 B hZ e141 fc0 (v := (.long (g0_3 q1 q2 q3 q4 q5 p6))) 5 (by decide) (by decide) rfl at_389 rfl ?_
  refine wlstore OGc 392 X141 B at_390 (LA0_30 q1 q2 q3 q4 q5 p6 b5 b26) rfl rfl ?_
  refine waload OGc 394 X141 B at_392 rfl rfl rfl ?_
  refine wiload OGc 396 X141 B at_394 rfl rfl ?_
  refine wlaload OGc 397 X141 B hZ e141 fc0 (v := (.long (f1 q2 (f1 q4 q5)))) 0 (by decide) (by decide) rfl at_396 rfl ?_
  refine wlstore OGc 399 X141 B at_397 (LA0_31 q1 q2 q3 q4 q5 p6 b5 b26) rfl rfl ?_
  refine waload OGc 401 X141 B at_399 rfl rfl rfl ?_
  refine wiload OGc 403 X141 B at_401 rfl rfl ?_
  refine wlaload OGc 404 X141 B hZ e141 fc0 (v := (.long q1)) 2 (by decide) (by decide) rfl at_403 rfl ?_
  refine wlstore OGc 406 X141 B at_404 (LA0_32 q1 q2 q3 q4 q5 p6 b5 b26) rfl rfl ?_
  refine waload OGc 408 X141 B at_406 rfl rfl rfl ?_
  refine wiload OGc 410 X141 B at_408 rfl rfl ?_
  refine wlaload OGc 411 X141 B hZ e141 fc0 (v := (.long q4)) 1 (by decide) (by decide) rfl at_410 rfl ?_
  refine wlstore OGc 413 X141 B at_411 (LA0_33 q1 q2 q3 q4 q5 p6 b5 b26) rfl rfl ?_
  refine waload OGc 415 X141 B at_413 rfl rfl rfl ?_
  refine wiload OGc 417 X141 B at_415 rfl rfl ?_
  refine wlaload OGc 418 X141 B hZ e141 fc0 (v := (.long q5)) 3 (by decide) (by decide) rfl at_417 rfl ?_
  refine wlstore OGc 420 X141 B at_418 (LA0_34 q1 q2 q3 q4 q5 p6 b5 b26) rfl rfl ?_
  refine waload OGc 422 X141 B at_420 rfl rfl rfl ?_
  refine wiload OGc 424 X141 B at_422 rfl rfl ?_
  refine wlaload OGc 425 X141 B hZ e141 fc0 (v := (.long (g0_2 q1 q2 q3 q4 q5 p6))) 4 (by decide) (by decide) rfl at_424 rfl ?_
  refine wlstore OGc 427 X141 B at_425 (LA0_35 q1 q2 q3 q4 q5 p6 b5 b26) rfl rfl ?_
  refine wiload OGc 429 X141 B at_427 rfl rfl ?_
  refine wifNo OGc 432 X141 B at_429 (by decide) rfl ?_
  refine wlload OGc 434 X141 B at_432 rfl rfl ?_
  refine wlload OGc 436 X141 B at_434 rfl rfl ?_
  refine wlcmp OGc 437 X141 B at_436 rfl ?_
  by_cases c148 : (f1 q2 (f1 q4 q5)) < (g0_3 q1 q2 q3 q4 q5 p6)
  · refine wifYes OGc 476 X141 B at_437 (own_if0 (tlt ((lw_gt _ _).mpr c148)).2.2.1) rfl ?_
    refine wiconst OGc 477 X141 B at_476 0 rfl rfl ?_
    refine wistore OGc 479 X141 B at_477 (LA0_36 q1 q2 q3 q4 q5 p6 b5 b26) rfl rfl ?_
    refine wiload OGc 481 X141 B at_479 rfl rfl ?_
    refine wiconst OGc 482 X141 B at_481 1 rfl rfl ?_
    refine wicmpYes OGc 518 X141 B at_482 (by decide) rfl ?_
    refine wiload OGc 520 X141 B at_518 rfl rfl ?_
    refine wiconst OGc 521 X141 B at_520 2 rfl rfl ?_
    refine wicmpYes OGc 562 X141 B at_521 (by decide) rfl ?_
    refine wiload OGc 564 X141 B at_562 rfl rfl ?_
    refine wiconst OGc 565 X141 B at_564 3 rfl rfl ?_
    refine wicmpYes OGc 615 X141 B at_565 (by decide) rfl ?_
    refine wiload OGc 617 X141 B at_615 rfl rfl ?_
    refine own_retZ X141 hx (t := .boolean) hret (by simp) hlk (hb hby at_617) (by decide) (by decide) (w := (0 : Int32)) rfl ?_
    exact ⟨congrArg (fun z => some (Value.int z)) (show f0 q1 q2 q3 q4 q5 p6 = (0 : Int32) from (by rw [f0, if_pos c1, if_pos c60, if_pos c61, if_neg c62, if_pos c148])).symm, N141⟩
  · refine wifNo OGc 440 X141 B at_437 (own_if0 (flt (fun q => c148 ((lw_gt _ _).mp q))).2.2.1) rfl ?_
    refine wlload OGc 442 X141 B at_440 rfl rfl ?_
    refine wlload OGc 444 X141 B at_442 rfl rfl ?_
    refine wlcmp OGc 445 X141 B at_444 rfl ?_
    by_cases c149 : q1 < (g0_3 q1 q2 q3 q4 q5 p6)
    · refine wifYes OGc 476 X141 B at_445 (own_if0 (tlt ((lw_gt _ _).mpr c149)).2.2.1) rfl ?_
      refine wiconst OGc 477 X141 B at_476 0 rfl rfl ?_
      refine wistore OGc 479 X141 B at_477 (LA0_36 q1 q2 q3 q4 q5 p6 b5 b26) rfl rfl ?_
      refine wiload OGc 481 X141 B at_479 rfl rfl ?_
      refine wiconst OGc 482 X141 B at_481 1 rfl rfl ?_
      refine wicmpYes OGc 518 X141 B at_482 (by decide) rfl ?_
      refine wiload OGc 520 X141 B at_518 rfl rfl ?_
      refine wiconst OGc 521 X141 B at_520 2 rfl rfl ?_
      refine wicmpYes OGc 562 X141 B at_521 (by decide) rfl ?_
      refine wiload OGc 564 X141 B at_562 rfl rfl ?_
      refine wiconst OGc 565 X141 B at_564 3 rfl rfl ?_
      refine wicmpYes OGc 615 X141 B at_565 (by decide) rfl ?_
      refine wiload OGc 617 X141 B at_615 rfl rfl ?_
      refine own_retZ X141 hx (t := .boolean) hret (by simp) hlk (hb hby at_617) (by decide) (by decide) (w := (0 : Int32)) rfl ?_
      exact ⟨congrArg (fun z => some (Value.int z)) (show f0 q1 q2 q3 q4 q5 p6 = (0 : Int32) from (by rw [f0, if_pos c1, if_pos c60, if_pos c61, if_neg c62, if_neg c148, if_pos c149])).symm, N141⟩
    · refine wifNo OGc 448 X141 B at_445 (own_if0 (flt (fun q => c149 ((lw_gt _ _).mp q))).2.2.1) rfl ?_
      refine wlload OGc 450 X141 B at_448 rfl rfl ?_
      refine wlload OGc 452 X141 B at_450 rfl rfl ?_
      refine wlcmp OGc 453 X141 B at_452 rfl ?_
      by_cases c150 : q4 < (f1 q2 (f1 q4 q5))
      · refine wifYes OGc 476 X141 B at_453 (own_if0 (tlt ((lw_gt _ _).mpr c150)).2.2.1) rfl ?_
        refine wiconst OGc 477 X141 B at_476 0 rfl rfl ?_
        refine wistore OGc 479 X141 B at_477 (LA0_36 q1 q2 q3 q4 q5 p6 b5 b26) rfl rfl ?_
        refine wiload OGc 481 X141 B at_479 rfl rfl ?_
        refine wiconst OGc 482 X141 B at_481 1 rfl rfl ?_
        refine wicmpYes OGc 518 X141 B at_482 (by decide) rfl ?_
        refine wiload OGc 520 X141 B at_518 rfl rfl ?_
        refine wiconst OGc 521 X141 B at_520 2 rfl rfl ?_
        refine wicmpYes OGc 562 X141 B at_521 (by decide) rfl ?_
        refine wiload OGc 564 X141 B at_562 rfl rfl ?_
        refine wiconst OGc 565 X141 B at_564 3 rfl rfl ?_
        refine wicmpYes OGc 615 X141 B at_565 (by decide) rfl ?_
        refine wiload OGc 617 X141 B at_615 rfl rfl ?_
        refine own_retZ X141 hx (t := .boolean) hret (by simp) hlk (hb hby at_617) (by decide) (by decide) (w := (0 : Int32)) rfl ?_
        exact ⟨congrArg (fun z => some (Value.int z)) (show f0 q1 q2 q3 q4 q5 p6 = (0 : Int32) from (by rw [f0, if_pos c1, if_pos c60, if_pos c61, if_neg c62, if_neg c148, if_neg c149, if_pos c150])).symm, N141⟩
      · refine wifNo OGc 456 X141 B at_453 (own_if0 (flt (fun q => c150 ((lw_gt _ _).mp q))).2.2.1) rfl ?_
        refine wlload OGc 458 X141 B at_456 rfl rfl ?_
        refine wlload OGc 460 X141 B at_458 rfl rfl ?_
        refine wlcmp OGc 461 X141 B at_460 rfl ?_
        by_cases c151 : q5 < (f1 q2 (f1 q4 q5))
        · refine wifYes OGc 476 X141 B at_461 (own_if0 (tlt ((lw_gt _ _).mpr c151)).2.2.1) rfl ?_
          refine wiconst OGc 477 X141 B at_476 0 rfl rfl ?_
          refine wistore OGc 479 X141 B at_477 (LA0_36 q1 q2 q3 q4 q5 p6 b5 b26) rfl rfl ?_
          refine wiload OGc 481 X141 B at_479 rfl rfl ?_
          refine wiconst OGc 482 X141 B at_481 1 rfl rfl ?_
          refine wicmpYes OGc 518 X141 B at_482 (by decide) rfl ?_
          refine wiload OGc 520 X141 B at_518 rfl rfl ?_
          refine wiconst OGc 521 X141 B at_520 2 rfl rfl ?_
          refine wicmpYes OGc 562 X141 B at_521 (by decide) rfl ?_
          refine wiload OGc 564 X141 B at_562 rfl rfl ?_
          refine wiconst OGc 565 X141 B at_564 3 rfl rfl ?_
          refine wicmpYes OGc 615 X141 B at_565 (by decide) rfl ?_
          refine wiload OGc 617 X141 B at_615 rfl rfl ?_
          refine own_retZ X141 hx (t := .boolean) hret (by simp) hlk (hb hby at_617) (by decide) (by decide) (w := (0 : Int32)) rfl ?_
          exact ⟨congrArg (fun z => some (Value.int z)) (show f0 q1 q2 q3 q4 q5 p6 = (0 : Int32) from (by rw [f0, if_pos c1, if_pos c60, if_pos c61, if_neg c62, if_neg c148, if_neg c149, if_neg c150, if_pos c151])).symm, N141⟩
        · refine wifNo OGc 464 X141 B at_461 (own_if0 (flt (fun q => c151 ((lw_gt _ _).mp q))).2.2.1) rfl ?_
          refine wlload OGc 466 X141 B at_464 rfl rfl ?_
          refine wlload OGc 468 X141 B at_466 rfl rfl ?_
          refine wlcmp OGc 469 X141 B at_468 rfl ?_
          refine wifNo OGc 472 X141 B at_469 (own_if0 (flt (fun q => c62 ((lw_gt _ _).mp q))).2.2.1) rfl ?_
          refine wiconst OGc 473 X141 B at_472 1 rfl rfl ?_
          refine wgoto OGc 477 X141 B at_473 rfl ?_
          refine wistore OGc 479 X141 B at_477 (LA0_35 q1 q2 q3 q4 q5 p6 b5 b26) rfl rfl ?_
          refine wiload OGc 481 X141 B at_479 rfl rfl ?_
          refine wiconst OGc 482 X141 B at_481 1 rfl rfl ?_
          refine wicmpYes OGc 518 X141 B at_482 (by decide) rfl ?_
          refine wiload OGc 520 X141 B at_518 rfl rfl ?_
          refine wiconst OGc 521 X141 B at_520 2 rfl rfl ?_
          refine wicmpYes OGc 562 X141 B at_521 (by decide) rfl ?_
          refine wiload OGc 564 X141 B at_562 rfl rfl ?_
          refine wiconst OGc 565 X141 B at_564 3 rfl rfl ?_
          refine wicmpYes OGc 615 X141 B at_565 (by decide) rfl ?_
          refine wiload OGc 617 X141 B at_615 rfl rfl ?_
          refine own_retZ X141 hx (t := .boolean) hret (by simp) hlk (hb hby at_617) (by decide) (by decide) (w := (1 : Int32)) rfl ?_
          exact ⟨congrArg (fun z => some (Value.int z)) (show f0 q1 q2 q3 q4 q5 p6 = (1 : Int32) from (by rw [f0, if_pos c1, if_pos c60, if_pos c61, if_neg c62, if_neg c148, if_neg c149, if_neg c150, if_neg c151])).symm, N141⟩
set_option maxRecDepth 65536 in
set_option maxHeartbeats 40000000 in
theorem tl0_4 (l : Launch) (Z : State) (a0 : Array Value) (hw : ∀ d ∈ tables_1, d.before a0 Z = true) (q1 : Int64) (q2 : Int64) (q3 : Int64) (q4 : Int64) (q5 : Int64) (p6 : Int32) (h0 : Heap) (n0 : Nat) (Z0 : n0 ≤ h0.size) (p : Program) (e : Env) (s : State) (m : MethodId) (below : List Frame) (meth : Method) (c : Code) (hx : p.tables.exec = Jvm.exec) (hby : c.code = code) (hml : c.maxLocals = 46) (hown : s.vm.findClass "com/example/fragmark/fragmark/PhraseMatcherSiftDownPinLaw" = some m.cls) (hret : meth.sig.returnType = ret) (hlk : meth.locks = false) (hZ : Z.Warmed39 s.vm) (b26 : Addr) (b5 : Addr) (T54 : State) (locs : List Loc) (xc : Stand p l e room_1 s m #[(.long q1), (.long q2), (.long q3), (.long q4), (.long q5), (.int p6)] below meth c T54 locs 2 12)   (nc : Fr n0 locs) (kc : Keep h0 T54.heap []) (gc_b26 : n0 ≤ b26) (gc_b5 : n0 ≤ b5) (sc_b26 : h0.size ≤ b26) (sc_b5 : h0.size ≤ b5) (xc_b5_b26 : b5 ≠ b26) (fc0 : OA Z T54.heap b26 .long [(.long (f1 q2 (f1 q4 q5))), (.long q4), (.long q1), (.long q5), (.long (g0_2 q1 q2 q3 q4 q5 p6)), (.long (g0_3 q1 q2 q3 q4 q5 p6))]) (fc1 : OA Z T54.heap b5 .int [(.int (0 : Int32)), (.int (3 : Int32)), (.int (5 : Int32)), (.int (1 : Int32)), (.int (2 : Int32)), (.int (4 : Int32))]) (c1 : (g0_1 q1 q2 q3 q4 q5 p6) = (0 : Int32)) (c64 : (f1 q2 (f1 q4 q5)) < q1) (c65 : ¬ ((g0_3 q1 q2 q3 q4 q5 p6) < (f1 q2 (f1 q4 q5)))) (c66 : q4 < q1) (c67 : q5 < q4) :
    OG p e room_1 s below (fun v h L => v = some (.int (f0 q1 q2 q3 q4 q5 p6)) ∧ Fr n0 L) T54 (mkF m 182 (LA0_9 q1 q2 q3 q4 q5 p6 b5 b26) []) := by
  have B := And.intro hx hby
  refine waload OGc 184 xc B at_182 rfl rfl rfl ?_
  refine wiconst OGc 185 xc B at_184 2 rfl rfl ?_
  refine wlaload OGc 186 xc B hZ rfl fc0 (v := (.long q1)) 2 (by decide) (by decide) rfl at_185 rfl ?_
  refine wlload OGc 188 xc B at_186 rfl rfl ?_
  refine wlcmp OGc 189 xc B at_188 rfl ?_
  refine wifNo OGc 192 xc B at_189 (own_if0 (teq ((lw_eq _ _).mpr rfl)).2) rfl ?_
  refine waload OGc 194 xc B at_192 rfl rfl rfl ?_
  refine wiconst OGc 195 xc B at_194 0 rfl rfl ?_
  refine wlaload OGc 196 xc B hZ rfl fc0 (v := (.long (f1 q2 (f1 q4 q5)))) 0 (by decide) (by decide) rfl at_195 rfl ?_
  refine wlload OGc 198 xc B at_196 rfl rfl ?_
  refine wlcmp OGc 199 xc B at_198 rfl ?_
  refine wifNo OGc 202 xc B at_199 (own_if0 (teq ((lw_eq _ _).mpr rfl)).2) rfl ?_
  refine waload OGc 204 xc B at_202 rfl rfl rfl ?_
  refine wiconst OGc 205 xc B at_204 5 rfl rfl ?_
  refine wlaload OGc 206 xc B hZ rfl fc0 (v := (.long (g0_3 q1 q2 q3 q4 q5 p6))) 5 (by decide) (by decide) rfl at_205 rfl ?_
  refine wlload OGc 208 xc B at_206 rfl rfl ?_
  refine wlcmp OGc 209 xc B at_208 rfl ?_
  refine wifNo OGc 212 xc B at_209 (own_if0 (teq ((lw_eq _ _).mpr rfl)).2) rfl ?_
  refine waload OGc 214 xc B at_212 rfl rfl rfl ?_
  refine wiconst OGc 215 xc B at_214 1 rfl rfl ?_
  refine wlaload OGc 216 xc B hZ rfl fc0 (v := (.long q4)) 1 (by decide) (by decide) rfl at_215 rfl ?_
  refine wlload OGc 218 xc B at_216 rfl rfl ?_
  refine wlcmp OGc 219 xc B at_218 rfl ?_
  refine wifNo OGc 222 xc B at_219 (own_if0 (teq ((lw_eq _ _).mpr rfl)).2) rfl ?_
  refine waload OGc 224 xc B at_222 rfl rfl rfl ?_
  refine wiconst OGc 225 xc B at_224 3 rfl rfl ?_
  refine wlaload OGc 226 xc B hZ rfl fc0 (v := (.long q5)) 3 (by decide) (by decide) rfl at_225 rfl ?_
  refine wlload OGc 228 xc B at_226 rfl rfl ?_
  refine wlcmp OGc 229 xc B at_228 rfl ?_
  refine wifNo OGc 232 xc B at_229 (own_if0 (teq ((lw_eq _ _).mpr rfl)).2) rfl ?_
  refine waload OGc 234 xc B at_232 rfl rfl rfl ?_
  refine wiconst OGc 235 xc B at_234 4 rfl rfl ?_
  refine wlaload OGc 236 xc B hZ rfl fc0 (v := (.long (g0_2 q1 q2 q3 q4 q5 p6))) 4 (by decide) (by decide) rfl at_235 rfl ?_
  refine wlload OGc 238 xc B at_236 rfl rfl ?_
  refine wlcmp OGc 239 xc B at_238 rfl ?_
  refine wifNo OGc 242 xc B at_239 (own_if0 (teq ((lw_eq _ _).mpr rfl)).2) rfl ?_
  refine wiconst OGc 243 xc B at_242 1 rfl rfl ?_
  refine wgoto OGc 247 xc B at_243 rfl ?_
  refine wistore OGc 249 xc B at_247 (LA0_10 q1 q2 q3 q4 q5 p6 b5 b26) rfl rfl ?_
  refine waload OGc 251 xc B at_249 rfl rfl rfl ?_
  refine wiconst OGc 252 xc B at_251 0 rfl rfl ?_
  refine wiaload OGc 253 xc B hZ rfl fc1 (v := (.int (0 : Int32))) 0 (by decide) (by decide) rfl at_252 rfl ?_
  refine wistore OGc 255 xc B at_253 (LA0_37 q1 q2 q3 q4 q5 p6 b5 b26) rfl rfl ?_
  refine waload OGc 257 xc B at_255 rfl rfl rfl ?_
  refine wiconst OGc 258 xc B at_257 1 rfl rfl ?_
  refine wiaload OGc 259 xc B hZ rfl fc1 (v := (.int (3 : Int32))) 1 (by decide) (by decide) rfl at_258 rfl ?_
  refine wistore OGc 261 xc B at_259 (LA0_38 q1 q2 q3 q4 q5 p6 b5 b26) rfl rfl ?_
  refine waload OGc 263 xc B at_261 rfl rfl rfl ?_
  refine wiconst OGc 264 xc B at_263 2 rfl rfl ?_
  refine wiaload OGc 265 xc B hZ rfl fc1 (v := (.int (5 : Int32))) 2 (by decide) (by decide) rfl at_264 rfl ?_
  refine wistore OGc 267 xc B at_265 (LA0_39 q1 q2 q3 q4 q5 p6 b5 b26) rfl rfl ?_
  refine waload OGc 269 xc B at_267 rfl rfl rfl ?_
  refine wiconst OGc 270 xc B at_269 3 rfl rfl ?_
  refine wiaload OGc 271 xc B hZ rfl fc1 (v := (.int (1 : Int32))) 3 (by decide) (by decide) rfl at_270 rfl ?_
  refine wistore OGc 273 xc B at_271 (LA0_40 q1 q2 q3 q4 q5 p6 b5 b26) rfl rfl ?_
  refine waload OGc 275 xc B at_273 rfl rfl rfl ?_
  refine wiconst OGc 276 xc B at_275 4 rfl rfl ?_
  refine wiaload OGc 277 xc B hZ rfl fc1 (v := (.int (2 : Int32))) 4 (by decide) (by decide) rfl at_276 rfl ?_
  refine wistore OGc 279 xc B at_277 (LA0_41 q1 q2 q3 q4 q5 p6 b5 b26) rfl rfl ?_
  refine waload OGc 281 xc B at_279 rfl rfl rfl ?_
  refine wiconst OGc 282 xc B at_281 5 rfl rfl ?_
  refine wiaload OGc 283 xc B hZ rfl fc1 (v := (.int (4 : Int32))) 5 (by decide) (by decide) rfl at_282 rfl ?_
  refine wistore OGc 285 xc B at_283 (LA0_42 q1 q2 q3 q4 q5 p6 b5 b26) rfl rfl ?_
  refine wiload OGc 287 xc B at_285 rfl rfl ?_
  refine wstat OGc 290 xc B hZ hown (ow hw 10 rfl) (ow hw 11 rfl) (ow hw 13 rfl) (ow hw 12 rfl) rfl (rm3 l Z a0 hw [] (0 : Int32) T54.heap) 0 (by decide) (by decide) hml rfl (lenOf pd__I_Z rfl) [] rfl rfl at_287 rfl fun _ T164 L164 X164 hQ164 => ?_
  obtain ⟨rfl, rfl, e164⟩ := hQ164
  have N164 := Fr.app nc (Fr.nil n0)
  refine own_stk (S' := [(.int (f3 (0 : Int32)))]) rfl ?_
  refine wifNo OGc 293 X164 B at_290 (own_if0 (feq (by decide)).1) rfl ?_
  refine wiload OGc 295 X164 B at_293 rfl rfl ?_
  refine wstat OGc 298 X164 B hZ hown (ow hw 10 rfl) (ow hw 11 rfl) (ow hw 13 rfl) (ow hw 12 rfl) e164 (rm3 l Z a0 hw [] (3 : Int32) T54.heap) 0 (by decide) (by decide) hml rfl (lenOf pd__I_Z rfl) [] rfl rfl at_295 rfl fun _ T165 L165 X165 hQ165 => ?_
  obtain ⟨rfl, rfl, e165⟩ := hQ165
  have N165 := Fr.app N164 (Fr.nil n0)
  refine own_stk (S' := [(.int (f3 (3 : Int32)))]) rfl ?_
  refine wifNo OGc 301 X165 B at_298 (own_if0 (feq (by decide)).1) rfl ?_
  refine wiload OGc 303 X165 B at_301 rfl rfl ?_
  refine wstat OGc 306 X165 B hZ hown (ow hw 10 rfl) (ow hw 11 rfl) (ow hw 13 rfl) (ow hw 12 rfl) e165 (rm3 l Z a0 hw [] (5 : Int32) T54.heap) 0 (by decide) (by decide) hml rfl (lenOf pd__I_Z rfl) [] rfl rfl at_303 rfl fun _ T166 L166 X166 hQ166 => ?_
  obtain ⟨rfl, rfl, e166⟩ := hQ166
  have N166 := Fr.app N165 (Fr.nil n0)
  refine own_stk (S' := [(.int (f3 (5 : Int32)))]) rfl ?_
  refine wifNo OGc 309 X166 B at_306 (own_if0 (feq (by decide)).1) rfl ?_
  refine wiload OGc 311 X166 B at_309 rfl rfl ?_
  refine wstat OGc 314 X166 B hZ hown (ow hw 10 rfl) (ow hw 11 rfl) (ow hw 13 rfl) (ow hw 12 rfl) e166 (rm3 l Z a0 hw [] (1 : Int32) T54.heap) 0 (by decide) (by decide) hml rfl (lenOf pd__I_Z rfl) [] rfl rfl at_311 rfl fun _ T167 L167 X167 hQ167 => ?_
  obtain ⟨rfl, rfl, e167⟩ := hQ167
  have N167 := Fr.app N166 (Fr.nil n0)
  refine own_stk (S' := [(.int (f3 (1 : Int32)))]) rfl ?_
  refine wifNo OGc 317 X167 B at_314 (own_if0 (feq (by decide)).1) rfl ?_
  refine wiload OGc 319 X167 B at_317 rfl rfl ?_
  refine wstat OGc 322 X167 B hZ hown (ow hw 10 rfl) (ow hw 11 rfl) (ow hw 13 rfl) (ow hw 12 rfl) e167 (rm3 l Z a0 hw [] (2 : Int32) T54.heap) 0 (by decide) (by decide) hml rfl (lenOf pd__I_Z rfl) [] rfl rfl at_319 rfl fun _ T168 L168 X168 hQ168 => ?_
  obtain ⟨rfl, rfl, e168⟩ := hQ168
  have N168 := Fr.app N167 (Fr.nil n0)
  refine own_stk (S' := [(.int (f3 (2 : Int32)))]) rfl ?_
  refine wifNo OGc 325 X168 B at_322 (own_if0 (feq (by decide)).1) rfl ?_
  refine wiload OGc 327 X168 B at_325 rfl rfl ?_
  refine wstat OGc 330 X168 B hZ hown (ow hw 10 rfl) (ow hw 11 rfl) (ow hw 13 rfl) (ow hw 12 rfl) e168 (rm3 l Z a0 hw [] (4 : Int32) T54.heap) 0 (by decide) (by decide) hml rfl (lenOf pd__I_Z rfl) [] rfl rfl at_327 rfl fun _ T169 L169 X169 hQ169 => ?_
  obtain ⟨rfl, rfl, e169⟩ := hQ169
  have N169 := Fr.app N168 (Fr.nil n0)
  refine own_stk (S' := [(.int (f3 (4 : Int32)))]) rfl ?_
  refine wifYes OGc 335 X169 B at_330 (own_if0 (feq (by decide)).2) rfl ?_
  refine wiconst OGc 336 X169 B at_335 1 rfl rfl ?_
  refine wiload OGc 338 X169 B at_336 rfl rfl ?_
  refine own_st (fun t k => XS.ishl X169.here hx rfl (hb hby at_338) rfl k) ?_
  show OG p e _ s below _ T169 (mkF m 339 (LA0_42 q1 q2 q3 q4 q5 p6 b5 b26) [(.int (1 : Int32))])
  refine wiconst OGc 340 X169 B at_339 1 rfl rfl ?_
  refine wiload OGc 342 X169 B at_340 rfl rfl ?_
  refine own_st (fun t k => XS.ishl X169.here hx rfl (hb hby at_342) rfl k) ?_
  show OG p e _ s below _ T169 (mkF m 343 (LA0_42 q1 q2 q3 q4 q5 p6 b5 b26) [(.int (8 : Int32)), (.int (1 : Int32))])
  refine own_st (fun t k => XS.ior X169.here hx rfl (hb hby at_343) rfl k) ?_
  show OG p e _ s below _ T169 (mkF m 344 (LA0_42 q1 q2 q3 q4 q5 p6 b5 b26) [(.int (9 : Int32))])
  refine wiconst OGc 345 X169 B at_344 1 rfl rfl ?_
  refine wiload OGc 347 X169 B at_345 rfl rfl ?_
  refine own_st (fun t k => XS.ishl X169.here hx rfl (hb hby at_347) rfl k) ?_
  show OG p e _ s below _ T169 (mkF m 348 (LA0_42 q1 q2 q3 q4 q5 p6 b5 b26) [(.int (32 : Int32)), (.int (9 : Int32))])
  refine own_st (fun t k => XS.ior X169.here hx rfl (hb hby at_348) rfl k) ?_
  show OG p e _ s below _ T169 (mkF m 349 (LA0_42 q1 q2 q3 q4 q5 p6 b5 b26) [(.int (41 : Int32))])
  refine wiconst OGc 350 X169 B at_349 1 rfl rfl ?_
  refine wiload OGc 352 X169 B at_350 rfl rfl ?_
  refine own_st (fun t k => XS.ishl X169.here hx rfl (hb hby at_352) rfl k) ?_
  show OG p e _ s below _ T169 (mkF m 353 (LA0_42 q1 q2 q3 q4 q5 p6 b5 b26) [(.int (2 : Int32)), (.int (41 : Int32))])
  refine own_st (fun t k => XS.ior X169.here hx rfl (hb hby at_353) rfl k) ?_
  show OG p e _ s below _ T169 (mkF m 354 (LA0_42 q1 q2 q3 q4 q5 p6 b5 b26) [(.int (43 : Int32))])
  refine wiconst OGc 355 X169 B at_354 1 rfl rfl ?_
  refine wiload OGc 357 X169 B at_355 rfl rfl ?_
  refine own_st (fun t k => XS.ishl X169.here hx rfl (hb hby at_357) rfl k) ?_
  show OG p e _ s below _ T169 (mkF m 358 (LA0_42 q1 q2 q3 q4 q5 p6 b5 b26) [(.int (4 : Int32)), (.int (43 : Int32))])
  refine own_st (fun t k => XS.ior X169.here hx rfl (hb hby at_358) rfl k) ?_
  show OG p e _ s below _ T169 (mkF m 359 (LA0_42 q1 q2 q3 q4 q5 p6 b5 b26) [(.int (47 : Int32))])
  refine wiconst OGc 360 X169 B at_359 1 rfl rfl ?_
  refine wiload OGc 362 X169 B at_360 rfl rfl ?_
  refine own_st (fun t k => XS.ishl X169.here hx rfl (hb hby at_362) rfl k) ?_
  show OG p e _ s below _ T169 (mkF m 363 (LA0_42 q1 q2 q3 q4 q5 p6 b5 b26) [(.int (16 : Int32)), (.int (47 : Int32))])
  refine own_st (fun t k => XS.ior X169.here hx rfl (hb hby at_363) rfl k) ?_
  show OG p e _ s below _ T169 (mkF m 364 (LA0_42 q1 q2 q3 q4 q5 p6 b5 b26) [(.int (63 : Int32))])
  refine wistore OGc 366 X169 B at_364 (LA0_43 q1 q2 q3 q4 q5 p6 b5 b26) rfl rfl ?_
  refine wiload OGc 368 X169 B at_366 rfl rfl ?_
  refine wifNo OGc 371 X169 B at_368 (by decide) rfl ?_
  refine wiload OGc 373 X169 B at_371 rfl rfl ?_
  refine wbipush OGc 375 X169 B at_373 63 rfl rfl ?_
  refine wicmpNo OGc 378 X169 B at_375 (by decide) rfl ?_
  refine wiconst OGc 379 X169 B at_378 1 rfl rfl ?_
  refine wgoto OGc 383 X169 B at_379 rfl ?_
  refine wistore OGc 385 X169 B at_383 (LA0_43 q1 q2 q3 q4 q5 p6 b5 b26) rfl rfl ?_
  refine waload OGc 387 X169 B at_385 rfl rfl rfl ?_
  refine wiload OGc 389 X169 B at_387 rfl rfl ?_
  refine wlaload OGc 390 X169 B hZ e169 fc0 (v := (.long (f1 q2 (f1 q4 q5)))) 0 (by decide) (by decide) rfl at_389 rfl ?_
  refine wlstore OGc 392 X169 B at_390 (LA0_44 q1 q2 q3 q4 q5 p6 b5 b26) rfl rfl ?_
  refine waload OGc 394 X169 B at_392 rfl rfl rfl ?_
  refine wiload OGc 396 X169 B at_394 rfl rfl ?_
  refine wlaload OGc 397 X169 B hZ e169 fc0 (v := (.long q5)) 3 (by decide) (by decide) rfl at_396 rfl ?_
  refine wlstore OGc 399 X169 B at_397 (LA0_45 q1 q2 q3 q4 q5 p6 b5 b26) rfl rfl ?_
  refine waload OGc 401 X169 B at_399 rfl rfl rfl ?_
  refine wiload OGc 403 X169 B at_401 rfl rfl ?_
  refine wlaload OGc 404 X169 B hZ e169 fc0 (v := (.long (g0_3 q1 q2 q3 q4 q5 p6))) 5 (by decide) (by decide) rfl at_403 rfl ?_
  refine wlstore OGc 406 X169 B at_404 (LA0_46 q1 q2 q3 q4 q5 p6 b5 b26) rfl rfl ?_
  refine waload OGc 408 X169 B at_406 rfl rfl rfl ?_
  refine wiload OGc 410 X169 B at_408 rfl rfl ?_
  refine wlaload OGc 411 X169 B hZ e169 fc0 (v := (.long q4)) 1 (by decide) (by decide) rfl at_410 rfl ?_
  refine wlstore OGc 413 X169 B at_411 (LA0_47 q1 q2 q3 q4 q5 p6 b5 b26) rfl rfl ?_
  refine waload OGc 415 X169 B at_413 rfl rfl rfl ?_
  refine wiload OGc 417 X169 B at_415 rfl rfl ?_
  refine wlaload OGc 418 X169 B hZ e169 fc0 (v := (.long q1)) 2 (by decide) (by decide) rfl at_417 rfl ?_
  refine wlstore OGc 420 X169 B at_418 (LA0_48 q1 q2 q3 q4 q5 p6 b5 b26) rfl rfl ?_
  refine waload OGc 422 X169 B at_420 rfl rfl rfl ?_
  refine wiload OGc 424 X169 B at_422 rfl rfl ?_
  refine wlaload OGc 425 X169 B hZ e169 fc0 (v := (.long (g0_2 q1 q2 q3 q4 q5 p6))) 4 (by decide) (by decide) rfl at_424 rfl ?_
  refine wlstore OGc 427 X169 B at_425 (LA0_49 q1 q2 q3 q4 q5 p6 b5 b26) rfl rfl ?_
  refine wiload OGc 429 X169 B at_427 rfl rfl ?_
  refine wifNo OGc 432 X169 B at_429 (by decide) rfl ?_
  refine wlload OGc 434 X169 B at_432 rfl rfl ?_
  refine wlload OGc 436 X169 B at_434 rfl rfl ?_
  refine wlcmp OGc 437 X169 B at_436 rfl ?_
  by_cases c176 : q5 < (f1 q2 (f1 q4 q5))
  · refine wifYes OGc 476 X169 B at_437 (own_if0 (tlt ((lw_gt _ _).mpr c176)).2.2.1) rfl ?_
    refine wiconst OGc 477 X169 B at_476 0 rfl rfl ?_
    refine wistore OGc 479 X169 B at_477 (LA0_50 q1 q2 q3 q4 q5 p6 b5 b26) rfl rfl ?_
    refine wiload OGc 481 X169 B at_479 rfl rfl ?_
    refine wiconst OGc 482 X169 B at_481 1 rfl rfl ?_
    refine wicmpYes OGc 518 X169 B at_482 (by decide) rfl ?_
    refine wiload OGc 520 X169 B at_518 rfl rfl ?_
    refine wiconst OGc 521 X169 B at_520 2 rfl rfl ?_
    refine wicmpYes OGc 562 X169 B at_521 (by decide) rfl ?_
    refine wiload OGc 564 X169 B at_562 rfl rfl ?_
    refine wiconst OGc 565 X169 B at_564 3 rfl rfl ?_
    refine wicmpYes OGc 615 X169 B at_565 (by decide) rfl ?_
    refine wiload OGc 617 X169 B at_615 rfl rfl ?_
    refine own_retZ X169 hx (t := .boolean) hret (by simp) hlk (hb hby at_617) (by decide) (by decide) (w := (0 : Int32)) rfl ?_
    exact ⟨congrArg (fun z => some (Value.int z)) (show f0 q1 q2 q3 q4 q5 p6 = (0 : Int32) from (by rw [f0, if_pos c1, if_pos c64, if_neg c65, if_pos c66, if_pos c67, if_pos c176])).symm, N169⟩
  · refine wifNo OGc 440 X169 B at_437 (own_if0 (flt (fun q => c176 ((lw_gt _ _).mp q))).2.2.1) rfl ?_
    refine wlload OGc 442 X169 B at_440 rfl rfl ?_
    refine wlload OGc 444 X169 B at_442 rfl rfl ?_
    refine wlcmp OGc 445 X169 B at_444 rfl ?_
    refine wifNo OGc 448 X169 B at_445 (own_if0 (flt (fun q => c65 ((lw_gt _ _).mp q))).2.2.1) rfl ?_
    refine wlload OGc 450 X169 B at_448 rfl rfl ?_
    refine wlload OGc 452 X169 B at_450 rfl rfl ?_
    refine wlcmp OGc 453 X169 B at_452 rfl ?_
    by_cases c177 : q4 < q5
    · refine wifYes OGc 476 X169 B at_453 (own_if0 (tlt ((lw_gt _ _).mpr c177)).2.2.1) rfl ?_
      refine wiconst OGc 477 X169 B at_476 0 rfl rfl ?_
      refine wistore OGc 479 X169 B at_477 (LA0_50 q1 q2 q3 q4 q5 p6 b5 b26) rfl rfl ?_
      refine wiload OGc 481 X169 B at_479 rfl rfl ?_
      refine wiconst OGc 482 X169 B at_481 1 rfl rfl ?_
      refine wicmpYes OGc 518 X169 B at_482 (by decide) rfl ?_
      refine wiload OGc 520 X169 B at_518 rfl rfl ?_
      refine wiconst OGc 521 X169 B at_520 2 rfl rfl ?_
      refine wicmpYes OGc 562 X169 B at_521 (by decide) rfl ?_
      refine wiload OGc 564 X169 B at_562 rfl rfl ?_
      refine wiconst OGc 565 X169 B at_564 3 rfl rfl ?_
      refine wicmpYes OGc 615 X169 B at_565 (by decide) rfl ?_
      refine wiload OGc 617 X169 B at_615 rfl rfl ?_
      refine own_retZ X169 hx (t := .boolean) hret (by simp) hlk (hb hby at_617) (by decide) (by decide) (w := (0 : Int32)) rfl ?_
      exact ⟨congrArg (fun z => some (Value.int z)) (show f0 q1 q2 q3 q4 q5 p6 = (0 : Int32) from (by rw [f0, if_pos c1, if_pos c64, if_neg c65, if_pos c66, if_pos c67, if_neg c176, if_pos c177])).symm, N169⟩
    · refine wifNo OGc 456 X169 B at_453 (own_if0 (flt (fun q => c177 ((lw_gt _ _).mp q))).2.2.1) rfl ?_
      refine wlload OGc 458 X169 B at_456 rfl rfl ?_
      refine wlload OGc 460 X169 B at_458 rfl rfl ?_
      refine wlcmp OGc 461 X169 B at_460 rfl ?_
      by_cases c178 : q1 < q5
      · refine wifYes OGc 476 X169 B at_461 (own_if0 (tlt ((lw_gt _ _).mpr c178)).2.2.1) rfl ?_
        refine wiconst OGc 477 X169 B at_476 0 rfl rfl ?_
        refine wistore OGc 479 X169 B at_477 (LA0_50 q1 q2 q3 q4 q5 p6 b5 b26) rfl rfl ?_
        refine wiload OGc 481 X169 B at_479 rfl rfl ?_
        refine wiconst OGc 482 X169 B at_481 1 rfl rfl ?_
        refine wicmpYes OGc 518 X169 B at_482 (by decide) rfl ?_
        refine wiload OGc 520 X169 B at_518 rfl rfl ?_
        refine wiconst OGc 521 X169 B at_520 2 rfl rfl ?_
        refine wicmpYes OGc 562 X169 B at_521 (by decide) rfl ?_
        refine wiload OGc 564 X169 B at_562 rfl rfl ?_
        refine wiconst OGc 565 X169 B at_564 3 rfl rfl ?_
        refine wicmpYes OGc 615 X169 B at_565 (by decide) rfl ?_
        refine wiload OGc 617 X169 B at_615 rfl rfl ?_
        refine own_retZ X169 hx (t := .boolean) hret (by simp) hlk (hb hby at_617) (by decide) (by decide) (w := (0 : Int32)) rfl ?_
        exact ⟨congrArg (fun z => some (Value.int z)) (show f0 q1 q2 q3 q4 q5 p6 = (0 : Int32) from (by rw [f0, if_pos c1, if_pos c64, if_neg c65, if_pos c66, if_pos c67, if_neg c176, if_neg c177, if_pos c178])).symm, N169⟩
      · refine wifNo OGc 464 X169 B at_461 (own_if0 (flt (fun q => c178 ((lw_gt _ _).mp q))).2.2.1) rfl ?_
        refine wlload OGc 466 X169 B at_464 rfl rfl ?_
        refine wlload OGc 468 X169 B at_466 rfl rfl ?_
        refine wlcmp OGc 469 X169 B at_468 rfl ?_
        by_cases c179 : (g0_2 q1 q2 q3 q4 q5 p6) < (g0_3 q1 q2 q3 q4 q5 p6)
        · refine wifYes OGc 476 X169 B at_469 (own_if0 (tlt ((lw_gt _ _).mpr c179)).2.2.1) rfl ?_
          refine wiconst OGc 477 X169 B at_476 0 rfl rfl ?_
          refine wistore OGc 479 X169 B at_477 (LA0_50 q1 q2 q3 q4 q5 p6 b5 b26) rfl rfl ?_
          refine wiload OGc 481 X169 B at_479 rfl rfl ?_
          refine wiconst OGc 482 X169 B at_481 1 rfl rfl ?_
          refine wicmpYes OGc 518 X169 B at_482 (by decide) rfl ?_
          refine wiload OGc 520 X169 B at_518 rfl rfl ?_
          refine wiconst OGc 521 X169 B at_520 2 rfl rfl ?_
          refine wicmpYes OGc 562 X169 B at_521 (by decide) rfl ?_
          refine wiload OGc 564 X169 B at_562 rfl rfl ?_
          refine wiconst OGc 565 X169 B at_564 3 rfl rfl ?_
          refine wicmpYes OGc 615 X169 B at_565 (by decide) rfl ?_
          refine wiload OGc 617 X169 B at_615 rfl rfl ?_
          refine own_retZ X169 hx (t := .boolean) hret (by simp) hlk (hb hby at_617) (by decide) (by decide) (w := (0 : Int32)) rfl ?_
          exact ⟨congrArg (fun z => some (Value.int z)) (show f0 q1 q2 q3 q4 q5 p6 = (0 : Int32) from (by rw [f0, if_pos c1, if_pos c64, if_neg c65, if_pos c66, if_pos c67, if_neg c176, if_neg c177, if_neg c178, if_pos c179])).symm, N169⟩
        · refine wifNo OGc 472 X169 B at_469 (own_if0 (flt (fun q => c179 ((lw_gt _ _).mp q))).2.2.1) rfl ?_
          refine wiconst OGc 473 X169 B at_472 1 rfl rfl ?_
          refine wgoto OGc 477 X169 B at_473 rfl ?_
          refine wistore OGc 479 X169 B at_477 (LA0_49 q1 q2 q3 q4 q5 p6 b5 b26) rfl rfl ?_
          refine wiload OGc 481 X169 B at_479 rfl rfl ?_
          refine wiconst OGc 482 X169 B at_481 1 rfl rfl ?_
          refine wicmpYes OGc 518 X169 B at_482 (by decide) rfl ?_
          refine wiload OGc 520 X169 B at_518 rfl rfl ?_
          refine wiconst OGc 521 X169 B at_520 2 rfl rfl ?_
          refine wicmpYes OGc 562 X169 B at_521 (by decide) rfl ?_
          refine wiload OGc 564 X169 B at_562 rfl rfl ?_
          refine wiconst OGc 565 X169 B at_564 3 rfl rfl ?_
          refine wicmpYes OGc 615 X169 B at_565 (by decide) rfl ?_
          refine wiload OGc 617 X169 B at_615 rfl rfl ?_
          refine own_retZ X169 hx (t := .boolean) hret (by simp) hlk (hb hby at_617) (by decide) (by decide) (w := (1 : Int32)) rfl ?_
          exact ⟨congrArg (fun z => some (Value.int z)) (show f0 q1 q2 q3 q4 q5 p6 = (1 : Int32) from (by rw [f0, if_pos c1, if_pos c64, if_neg c65, if_pos c66, if_pos c67, if_neg c176, if_neg c177, if_neg c178, if_neg c179])).symm, N169⟩
set_option maxRecDepth 65536 in
set_option maxHeartbeats 40000000 in
theorem tl0_5 (l : Launch) (Z : State) (a0 : Array Value) (hw : ∀ d ∈ tables_1, d.before a0 Z = true) (q1 : Int64) (q2 : Int64) (q3 : Int64) (q4 : Int64) (q5 : Int64) (p6 : Int32) (h0 : Heap) (n0 : Nat) (Z0 : n0 ≤ h0.size) (p : Program) (e : Env) (s : State) (m : MethodId) (below : List Frame) (meth : Method) (c : Code) (hx : p.tables.exec = Jvm.exec) (hby : c.code = code) (hml : c.maxLocals = 46) (hown : s.vm.findClass "com/example/fragmark/fragmark/PhraseMatcherSiftDownPinLaw" = some m.cls) (hret : meth.sig.returnType = ret) (hlk : meth.locks = false) (hZ : Z.Warmed39 s.vm) (b26 : Addr) (b5 : Addr) (T54 : State) (locs : List Loc) (xc : Stand p l e room_1 s m #[(.long q1), (.long q2), (.long q3), (.long q4), (.long q5), (.int p6)] below meth c T54 locs 2 12)   (nc : Fr n0 locs) (kc : Keep h0 T54.heap []) (gc_b26 : n0 ≤ b26) (gc_b5 : n0 ≤ b5) (sc_b26 : h0.size ≤ b26) (sc_b5 : h0.size ≤ b5) (xc_b5_b26 : b5 ≠ b26) (fc0 : OA Z T54.heap b26 .long [(.long (f1 q2 (f1 q4 q5))), (.long q4), (.long q1), (.long q5), (.long (g0_2 q1 q2 q3 q4 q5 p6)), (.long (g0_3 q1 q2 q3 q4 q5 p6))]) (fc1 : OA Z T54.heap b5 .int [(.int (0 : Int32)), (.int (1 : Int32)), (.int (5 : Int32)), (.int (2 : Int32)), (.int (3 : Int32)), (.int (4 : Int32))]) (c1 : (g0_1 q1 q2 q3 q4 q5 p6) = (0 : Int32)) (c69 : (f1 q2 (f1 q4 q5)) < q1) (c70 : ¬ ((g0_3 q1 q2 q3 q4 q5 p6) < (f1 q2 (f1 q4 q5)))) (c71 : q4 < q1) (c72 : ¬ (q5 < q4)) :
    OG p e room_1 s below (fun v h L => v = some (.int (f0 q1 q2 q3 q4 q5 p6)) ∧ Fr n0 L) T54 (mkF m 182 (LA0_9 q1 q2 q3 q4 q5 p6 b5 b26) []) := by
  have B := And.intro hx hby
  refine waload OGc 184 xc B at_182 rfl rfl rfl ?_
  refine wiconst OGc 185 xc B at_184 2 rfl rfl ?_
  refine wlaload OGc 186 xc B hZ rfl fc0 (v := (.long q1)) 2 (by decide) (by decide) rfl at_185 rfl ?_
  refine wlload OGc 188 xc B at_186 rfl rfl ?_
  refine wlcmp OGc 189 xc B at_188 rfl ?_
  refine wifNo OGc 192 xc B at_189 (own_if0 (teq ((lw_eq _ _).mpr rfl)).2) rfl ?_
  refine waload OGc 194 xc B at_192 rfl rfl rfl ?_
  refine wiconst OGc 195 xc B at_194 0 rfl rfl ?_
  refine wlaload OGc 196 xc B hZ rfl fc0 (v := (.long (f1 q2 (f1 q4 q5)))) 0 (by decide) (by decide) rfl at_195 rfl ?_
  refine wlload OGc 198 xc B at_196 rfl rfl ?_
  refine wlcmp OGc 199 xc B at_198 rfl ?_
  refine wifNo OGc 202 xc B at_199 (own_if0 (teq ((lw_eq _ _).mpr rfl)).2) rfl ?_
  refine waload OGc 204 xc B at_202 rfl rfl rfl ?_
  refine wiconst OGc 205 xc B at_204 5 rfl rfl ?_
  refine wlaload OGc 206 xc B hZ rfl fc0 (v := (.long (g0_3 q1 q2 q3 q4 q5 p6))) 5 (by decide) (by decide) rfl at_205 rfl ?_
  refine wlload OGc 208 xc B at_206 rfl rfl ?_
  refine wlcmp OGc 209 xc B at_208 rfl ?_
  refine wifNo OGc 212 xc B at_209 (own_if0 (teq ((lw_eq _ _).mpr rfl)).2) rfl ?_
  refine waload OGc 214 xc B at_212 rfl rfl rfl ?_
  refine wiconst OGc 215 xc B at_214 1 rfl rfl ?_
  refine wlaload OGc 216 xc B hZ rfl fc0 (v := (.long q4)) 1 (by decide) (by decide) rfl at_215 rfl ?_
  refine wlload OGc 218 xc B at_216 rfl rfl ?_
  refine wlcmp OGc 219 xc B at_218 rfl ?_
  refine wifNo OGc 222 xc B at_219 (own_if0 (teq ((lw_eq _ _).mpr rfl)).2) rfl ?_
  refine waload OGc 224 xc B at_222 rfl rfl rfl ?_
  refine wiconst OGc 225 xc B at_224 3 rfl rfl ?_
  refine wlaload OGc 226 xc B hZ rfl fc0 (v := (.long q5)) 3 (by decide) (by decide) rfl at_225 rfl ?_
  refine wlload OGc 228 xc B at_226 rfl rfl ?_
  refine wlcmp OGc 229 xc B at_228 rfl ?_
  refine wifNo OGc 232 xc B at_229 (own_if0 (teq ((lw_eq _ _).mpr rfl)).2) rfl ?_
  refine waload OGc 234 xc B at_232 rfl rfl rfl ?_
  refine wiconst OGc 235 xc B at_234 4 rfl rfl ?_
  refine wlaload OGc 236 xc B hZ rfl fc0 (v := (.long (g0_2 q1 q2 q3 q4 q5 p6))) 4 (by decide) (by decide) rfl at_235 rfl ?_
  refine wlload OGc 238 xc B at_236 rfl rfl ?_
  refine wlcmp OGc 239 xc B at_238 rfl ?_
  refine wifNo OGc 242 xc B at_239 (own_if0 (teq ((lw_eq _ _).mpr rfl)).2) rfl ?_
  refine wiconst OGc 243 xc B at_242 1 rfl rfl ?_
  refine wgoto OGc 247 xc B at_243 rfl ?_
  refine wistore OGc 249 xc B at_247 (LA0_10 q1 q2 q3 q4 q5 p6 b5 b26) rfl rfl ?_
  refine waload OGc 251 xc B at_249 rfl rfl rfl ?_
  refine wiconst OGc 252 xc B at_251 0 rfl rfl ?_
  refine wiaload OGc 253 xc B hZ rfl fc1 (v := (.int (0 : Int32))) 0 (by decide) (by decide) rfl at_252 rfl ?_
  refine wistore OGc 255 xc B at_253 (LA0_37 q1 q2 q3 q4 q5 p6 b5 b26) rfl rfl ?_
  refine waload OGc 257 xc B at_255 rfl rfl rfl ?_
  refine wiconst OGc 258 xc B at_257 1 rfl rfl ?_
  refine wiaload OGc 259 xc B hZ rfl fc1 (v := (.int (1 : Int32))) 1 (by decide) (by decide) rfl at_258 rfl ?_
  refine wistore OGc 261 xc B at_259 (LA0_51 q1 q2 q3 q4 q5 p6 b5 b26) rfl rfl ?_
  refine waload OGc 263 xc B at_261 rfl rfl rfl ?_
  refine wiconst OGc 264 xc B at_263 2 rfl rfl ?_
  refine wiaload OGc 265 xc B hZ rfl fc1 (v := (.int (5 : Int32))) 2 (by decide) (by decide) rfl at_264 rfl ?_
  refine wistore OGc 267 xc B at_265 (LA0_52 q1 q2 q3 q4 q5 p6 b5 b26) rfl rfl ?_
  refine waload OGc 269 xc B at_267 rfl rfl rfl ?_
  refine wiconst OGc 270 xc B at_269 3 rfl rfl ?_
  refine wiaload OGc 271 xc B hZ rfl fc1 (v := (.int (2 : Int32))) 3 (by decide) (by decide) rfl at_270 rfl ?_
  refine wistore OGc 273 xc B at_271 (LA0_53 q1 q2 q3 q4 q5 p6 b5 b26) rfl rfl ?_
  refine waload OGc 275 xc B at_273 rfl rfl rfl ?_
  refine wiconst OGc 276 xc B at_275 4 rfl rfl ?_
  refine wiaload OGc 277 xc B hZ rfl fc1 (v := (.int (3 : Int32))) 4 (by decide) (by decide) rfl at_276 rfl ?_
  refine wistore OGc 279 xc B at_277 (LA0_54 q1 q2 q3 q4 q5 p6 b5 b26) rfl rfl ?_
  refine waload OGc 281 xc B at_279 rfl rfl rfl ?_
  refine wiconst OGc 282 xc B at_281 5 rfl rfl ?_
  refine wiaload OGc 283 xc B hZ rfl fc1 (v := (.int (4 : Int32))) 5 (by decide) (by decide) rfl at_282 rfl ?_
  refine wistore OGc 285 xc B at_283 (LA0_55 q1 q2 q3 q4 q5 p6 b5 b26) rfl rfl ?_
  refine wiload OGc 287 xc B at_285 rfl rfl ?_
  refine wstat OGc 290 xc B hZ hown (ow hw 10 rfl) (ow hw 11 rfl) (ow hw 13 rfl) (ow hw 12 rfl) rfl (rm3 l Z a0 hw [] (0 : Int32) T54.heap) 0 (by decide) (by decide) hml rfl (lenOf pd__I_Z rfl) [] rfl rfl at_287 rfl fun _ T192 L192 X192 hQ192 => ?_
  obtain ⟨rfl, rfl, e192⟩ := hQ192
  have N192 := Fr.app nc (Fr.nil n0)
  refine own_stk (S' := [(.int (f3 (0 : Int32)))]) rfl ?_
  refine wifNo OGc 293 X192 B at_290 (own_if0 (feq (by decide)).1) rfl ?_
  refine wiload OGc 295 X192 B at_293 rfl rfl ?_
  refine wstat OGc 298 X192 B hZ hown (ow hw 10 rfl) (ow hw 11 rfl) (ow hw 13 rfl) (ow hw 12 rfl) e192 (rm3 l Z a0 hw [] (1 : Int32) T54.heap) 0 (by decide) (by decide) hml rfl (lenOf pd__I_Z rfl) [] rfl rfl at_295 rfl fun _ T193 L193 X193 hQ193 => ?_
  obtain ⟨rfl, rfl, e193⟩ := hQ193
  have N193 := Fr.app N192 (Fr.nil n0)
  refine own_stk (S' := [(.int (f3 (1 : Int32)))]) rfl ?_
  refine wifNo OGc 301 X193 B at_298 (own_if0 (feq (by decide)).1) rfl ?_
  refine wiload OGc 303 X193 B at_301 rfl rfl ?_
  refine wstat OGc 306 X193 B hZ hown (ow hw 10 rfl) (ow hw 11 rfl) (ow hw 13 rfl) (ow hw 12 rfl) e193 (rm3 l Z a0 hw [] (5 : Int32) T54.heap) 0 (by decide) (by decide) hml rfl (lenOf pd__I_Z rfl) [] rfl rfl at_303 rfl fun _ T194 L194 X194 hQ194 => ?_
  obtain ⟨rfl, rfl, e194⟩ := hQ194
  have N194 := Fr.app N193 (Fr.nil n0)
  refine own_stk (S' := [(.int (f3 (5 : Int32)))]) rfl ?_
  refine wifNo OGc 309 X194 B at_306 (own_if0 (feq (by decide)).1) rfl ?_
  refine wiload OGc 311 X194 B at_309 rfl rfl ?_
  refine wstat OGc 314 X194 B hZ hown (ow hw 10 rfl) (ow hw 11 rfl) (ow hw 13 rfl) (ow hw 12 rfl) e194 (rm3 l Z a0 hw [] (2 : Int32) T54.heap) 0 (by decide) (by decide) hml rfl (lenOf pd__I_Z rfl) [] rfl rfl at_311 rfl fun _ T195 L195 X195 hQ195 => ?_
  obtain ⟨rfl, rfl, e195⟩ := hQ195
  have N195 := Fr.app N194 (Fr.nil n0)
  refine own_stk (S' := [(.int (f3 (2 : Int32)))]) rfl ?_
  refine wifNo OGc 317 X195 B at_314 (own_if0 (feq (by decide)).1) rfl ?_
  refine wiload OGc 319 X195 B at_317 rfl rfl ?_
  refine wstat OGc 322 X195 B hZ hown (ow hw 10 rfl) (ow hw 11 rfl) (ow hw 13 rfl) (ow hw 12 rfl) e195 (rm3 l Z a0 hw [] (3 : Int32) T54.heap) 0 (by decide) (by decide) hml rfl (lenOf pd__I_Z rfl) [] rfl rfl at_319 rfl fun _ T196 L196 X196 hQ196 => ?_
  obtain ⟨rfl, rfl, e196⟩ := hQ196
  have N196 := Fr.app N195 (Fr.nil n0)
  refine own_stk (S' := [(.int (f3 (3 : Int32)))]) rfl ?_
  refine wifNo OGc 325 X196 B at_322 (own_if0 (feq (by decide)).1) rfl ?_
  refine wiload OGc 327 X196 B at_325 rfl rfl ?_
  refine wstat OGc 330 X196 B hZ hown (ow hw 10 rfl) (ow hw 11 rfl) (ow hw 13 rfl) (ow hw 12 rfl) e196 (rm3 l Z a0 hw [] (4 : Int32) T54.heap) 0 (by decide) (by decide) hml rfl (lenOf pd__I_Z rfl) [] rfl rfl at_327 rfl fun _ T197 L197 X197 hQ197 => ?_
  obtain ⟨rfl, rfl, e197⟩ := hQ197
  have N197 := Fr.app N196 (Fr.nil n0)
  refine own_stk (S' := [(.int (f3 (4 : Int32)))]) rfl ?_
  refine wifYes OGc 335 X197 B at_330 (own_if0 (feq (by decide)).2) rfl ?_
  refine wiconst OGc 336 X197 B at_335 1 rfl rfl ?_
  refine wiload OGc 338 X197 B at_336 rfl rfl ?_
  refine own_st (fun t k => XS.ishl X197.here hx rfl (hb hby at_338) rfl k) ?_
  show OG p e _ s below _ T197 (mkF m 339 (LA0_55 q1 q2 q3 q4 q5 p6 b5 b26) [(.int (1 : Int32))])
  refine wiconst OGc 340 X197 B at_339 1 rfl rfl ?_
  refine wiload OGc 342 X197 B at_340 rfl rfl ?_
  refine own_st (fun t k => XS.ishl X197.here hx rfl (hb hby at_342) rfl k) ?_
  show OG p e _ s below _ T197 (mkF m 343 (LA0_55 q1 q2 q3 q4 q5 p6 b5 b26) [(.int (2 : Int32)), (.int (1 : Int32))])
  refine own_st (fun t k => XS.ior X197.here hx rfl (hb hby at_343) rfl k) ?_
  show OG p e _ s below _ T197 (mkF m 344 (LA0_55 q1 q2 q3 q4 q5 p6 b5 b26) [(.int (3 : Int32))])
  refine wiconst OGc 345 X197 B at_344 1 rfl rfl ?_
  refine wiload OGc 347 X197 B at_345 rfl rfl ?_
  refine own_st (fun t k => XS.ishl X197.here hx rfl (hb hby at_347) rfl k) ?_
  show OG p e _ s below _ T197 (mkF m 348 (LA0_55 q1 q2 q3 q4 q5 p6 b5 b26) [(.int (32 : Int32)), (.int (3 : Int32))])
  refine own_st (fun t k => XS.ior X197.here hx rfl (hb hby at_348) rfl k) ?_
  show OG p e _ s below _ T197 (mkF m 349 (LA0_55 q1 q2 q3 q4 q5 p6 b5 b26) [(.int (35 : Int32))])
  refine wiconst OGc 350 X197 B at_349 1 rfl rfl ?_
  refine wiload OGc 352 X197 B at_350 rfl rfl ?_
  refine own_st (fun t k => XS.ishl X197.here hx rfl (hb hby at_352) rfl k) ?_
  show OG p e _ s below _ T197 (mkF m 353 (LA0_55 q1 q2 q3 q4 q5 p6 b5 b26) [(.int (4 : Int32)), (.int (35 : Int32))])
  refine own_st (fun t k => XS.ior X197.here hx rfl (hb hby at_353) rfl k) ?_
  show OG p e _ s below _ T197 (mkF m 354 (LA0_55 q1 q2 q3 q4 q5 p6 b5 b26) [(.int (39 : Int32))])
  refine wiconst OGc 355 X197 B at_354 1 rfl rfl ?_
  refine wiload OGc 357 X197 B at_355 rfl rfl ?_
  refine own_st (fun t k => XS.ishl X197.here hx rfl (hb hby at_357) rfl k) ?_
  show OG p e _ s below _ T197 (mkF m 358 (LA0_55 q1 q2 q3 q4 q5 p6 b5 b26) [(.int (8 : Int32)), (.int (39 : Int32))])
  refine own_st (fun t k => XS.ior X197.here hx rfl (hb hby at_358) rfl k) ?_
  show OG p e _ s below _ T197 (mkF m 359 (LA0_55 q1 q2 q3 q4 q5 p6 b5 b26) [(.int (47 : Int32))])
  refine wiconst OGc 360 X197 B at_359 1 rfl rfl ?_
  refine wiload OGc 362 X197 B at_360 rfl rfl ?_
  refine own_st (fun t k => XS.ishl X197.here hx rfl (hb hby at_362) rfl k) ?_
  show OG p e _ s below _ T197 (mkF m 363 (LA0_55 q1 q2 q3 q4 q5 p6 b5 b26) [(.int (16 : Int32)), (.int (47 : Int32))])
  refine own_st (fun t k => XS.ior X197.here hx rfl (hb hby at_363) rfl k) ?_
  show OG p e _ s below _ T197 (mkF m 364 (LA0_55 q1 q2 q3 q4 q5 p6 b5 b26) [(.int (63 : Int32))])
  refine wistore OGc 366 X197 B at_364 (LA0_56 q1 q2 q3 q4 q5 p6 b5 b26) rfl rfl ?_
  refine wiload OGc 368 X197 B at_366 rfl rfl ?_
  refine wifNo OGc 371 X197 B at_368 (by decide) rfl ?_
  refine wiload OGc 373 X197 B at_371 rfl rfl ?_
  refine wbipush OGc 375 X197 B at_373 63 rfl rfl ?_
  refine wicmpNo OGc 378 X197 B at_375 (by decide) rfl ?_
  refine wiconst OGc 379 X197 B at_378 1 rfl rfl ?_
  refine wgoto OGc 383 X197 B at_379 rfl ?_
  refine wistore OGc 385 X197 B at_383 (LA0_56 q1 q2 q3 q4 q5 p6 b5 b26) rfl rfl ?_
  refine waload OGc 387 X197 B at_385 rfl rfl rfl ?_
  refine wiload OGc 389 X197 B at_387 rfl rfl ?_
  refine wlaload OGc 390 X197 B hZ e197 fc0 (v := (.long (f1 q2 (f1 q4 q5)))) 0 (by decide) (by decide) rfl at_389 rfl ?_
  refine wlstore OGc 392 X197 B at_390 (LA0_57 q1 q2 q3 q4 q5 p6 b5 b26) rfl rfl ?_
  refine waload OGc 394 X197 B at_392 rfl rfl rfl ?_
  refine wiload OGc 396 X197 B at_394 rfl rfl ?_
  refine wlaload OGc 397 X197 B hZ e197 fc0 (v := (.long q4)) 1 (by decide) (by decide) rfl at_396 rfl ?_
  refine wlstore OGc 399 X197 B at_397 (LA0_58 q1 q2 q3 q4 q5 p6 b5 b26) rfl rfl ?_
  refine waload OGc 401 X197 B at_399 rfl rfl rfl ?_
  refine wiload OGc 403 X197 B at_401 rfl rfl ?_
  refine wlaload OGc 404 X197 B hZ e197 fc0 (v := (.long (g0_3 q1 q2 q3 q4 q5 p6))) 5 (by decide) (by decide) rfl at_403 rfl ?_
  refine wlstore OGc 406 X197 B at_404 (LA0_59 q1 q2 q3 q4 q5 p6 b5 b26) rfl rfl ?_
  refine waload OGc 408 X197 B at_406 rfl rfl rfl ?_
  refine wiload OGc 410 X197 B at_408 rfl rfl ?_
  refine wlaload OGc 411 X197 B hZ e197 fc0 (v := (.long q1)) 2 (by decide) (by decide) rfl at_410 rfl ?_
  refine wlstore OGc 413 X197 B at_411 (LA0_60 q1 q2 q3 q4 q5 p6 b5 b26) rfl rfl ?_
  refine waload OGc 415 X197 B at_413 rfl rfl rfl ?_
  refine wiload OGc 417 X197 B at_415 rfl rfl ?_
  refine wlaload OGc 418 X197 B hZ e197 fc0 (v := (.long q5)) 3 (by decide) (by decide) rfl at_417 rfl ?_
  refine wlstore OGc 420 X197 B at_418 (LA0_61 q1 q2 q3 q4 q5 p6 b5 b26) rfl rfl ?_
  refine waload OGc 422 X197 B at_420 rfl rfl rfl ?_
  refine wiload OGc 424 X197 B at_422 rfl rfl ?_
  refine wlaload OGc 425 X197 B hZ e197 fc0 (v := (.long (g0_2 q1 q2 q3 q4 q5 p6))) 4 (by decide) (by decide) rfl at_424 rfl ?_
  refine wlstore OGc 427 X197 B at_425 (LA0_62 q1 q2 q3 q4 q5 p6 b5 b26) rfl rfl ?_
  refine wiload OGc 429 X197 B at_427 rfl rfl ?_
  refine wifNo OGc 432 X197 B at_429 (by decide) rfl ?_
  refine wlload OGc 434 X197 B at_432 rfl rfl ?_
  refine wlload OGc 436 X197 B at_434 rfl rfl ?_
  refine wlcmp OGc 437 X197 B at_436 rfl ?_
  by_cases c204 : q4 < (f1 q2 (f1 q4 q5))
  · refine wifYes OGc 476 X197 B at_437 (own_if0 (tlt ((lw_gt _ _).mpr c204)).2.2.1) rfl ?_
    refine wiconst OGc 477 X197 B at_476 0 rfl rfl ?_
    refine wistore OGc 479 X197 B at_477 (LA0_63 q1 q2 q3 q4 q5 p6 b5 b26) rfl rfl ?_
    refine wiload OGc 481 X197 B at_479 rfl rfl ?_
    refine wiconst OGc 482 X197 B at_481 1 rfl rfl ?_
    refine wicmpYes OGc 518 X197 B at_482 (by decide) rfl ?_
    refine wiload OGc 520 X197 B at_518 rfl rfl ?_
    refine wiconst OGc 521 X197 B at_520 2 rfl rfl ?_
    refine wicmpYes OGc 562 X197 B at_521 (by decide) rfl ?_
    refine wiload OGc 564 X197 B at_562 rfl rfl ?_
    refine wiconst OGc 565 X197 B at_564 3 rfl rfl ?_
    refine wicmpYes OGc 615 X197 B at_565 (by decide) rfl ?_
    refine wiload OGc 617 X197 B at_615 rfl rfl ?_
    refine own_retZ X197 hx (t := .boolean) hret (by simp) hlk (hb hby at_617) (by decide) (by decide) (w := (0 : Int32)) rfl ?_
    exact ⟨congrArg (fun z => some (Value.int z)) (show f0 q1 q2 q3 q4 q5 p6 = (0 : Int32) from (by rw [f0, if_pos c1, if_pos c69, if_neg c70, if_pos c71, if_neg c72, if_pos c204])).symm, N197⟩
  · refine wifNo OGc 440 X197 B at_437 (own_if0 (flt (fun q => c204 ((lw_gt _ _).mp q))).2.2.1) rfl ?_
    refine wlload OGc 442 X197 B at_440 rfl rfl ?_
    refine wlload OGc 444 X197 B at_442 rfl rfl ?_
    refine wlcmp OGc 445 X197 B at_444 rfl ?_
    refine wifNo OGc 448 X197 B at_445 (own_if0 (flt (fun q => c70 ((lw_gt _ _).mp q))).2.2.1) rfl ?_
    refine wlload OGc 450 X197 B at_448 rfl rfl ?_
    refine wlload OGc 452 X197 B at_450 rfl rfl ?_
    refine wlcmp OGc 453 X197 B at_452 rfl ?_
    by_cases c205 : q1 < q4
    · refine wifYes OGc 476 X197 B at_453 (own_if0 (tlt ((lw_gt _ _).mpr c205)).2.2.1) rfl ?_
      refine wiconst OGc 477 X197 B at_476 0 rfl rfl ?_
      refine wistore OGc 479 X197 B at_477 (LA0_63 q1 q2 q3 q4 q5 p6 b5 b26) rfl rfl ?_
      refine wiload OGc 481 X197 B at_479 rfl rfl ?_
      refine wiconst OGc 482 X197 B at_481 1 rfl rfl ?_
      refine wicmpYes OGc 518 X197 B at_482 (by decide) rfl ?_
      refine wiload OGc 520 X197 B at_518 rfl rfl ?_
      refine wiconst OGc 521 X197 B at_520 2 rfl rfl ?_
      refine wicmpYes OGc 562 X197 B at_521 (by decide) rfl ?_
      refine wiload OGc 564 X197 B at_562 rfl rfl ?_
      refine wiconst OGc 565 X197 B at_564 3 rfl rfl ?_
      refine wicmpYes OGc 615 X197 B at_565 (by decide) rfl ?_
      refine wiload OGc 617 X197 B at_615 rfl rfl ?_
      refine own_retZ X197 hx (t := .boolean) hret (by simp) hlk (hb hby at_617) (by decide) (by decide) (w := (0 : Int32)) rfl ?_
      exact ⟨congrArg (fun z => some (Value.int z)) (show f0 q1 q2 q3 q4 q5 p6 = (0 : Int32) from (by rw [f0, if_pos c1, if_pos c69, if_neg c70, if_pos c71, if_neg c72, if_neg c204, if_pos c205])).symm, N197⟩
    · refine wifNo OGc 456 X197 B at_453 (own_if0 (flt (fun q => c205 ((lw_gt _ _).mp q))).2.2.1) rfl ?_
      refine wlload OGc 458 X197 B at_456 rfl rfl ?_
      refine wlload OGc 460 X197 B at_458 rfl rfl ?_
      refine wlcmp OGc 461 X197 B at_460 rfl ?_
      refine wifNo OGc 464 X197 B at_461 (own_if0 (flt (fun q => c72 ((lw_gt _ _).mp q))).2.2.1) rfl ?_
      refine wlload OGc 466 X197 B at_464 rfl rfl ?_
      refine wlload OGc 468 X197 B at_466 rfl rfl ?_
      refine wlcmp OGc 469 X197 B at_468 rfl ?_
      by_cases c206 : (g0_2 q1 q2 q3 q4 q5 p6) < (g0_3 q1 q2 q3 q4 q5 p6)
      · refine wifYes OGc 476 X197 B at_469 (own_if0 (tlt ((lw_gt _ _).mpr c206)).2.2.1) rfl ?_
        refine wiconst OGc 477 X197 B at_476 0 rfl rfl ?_
        refine wistore OGc 479 X197 B at_477 (LA0_63 q1 q2 q3 q4 q5 p6 b5 b26) rfl rfl ?_
        refine wiload OGc 481 X197 B at_479 rfl rfl ?_
        refine wiconst OGc 482 X197 B at_481 1 rfl rfl ?_
        refine wicmpYes OGc 518 X197 B at_482 (by decide) rfl ?_
        refine wiload OGc 520 X197 B at_518 rfl rfl ?_
        refine wiconst OGc 521 X197 B at_520 2 rfl rfl ?_
        refine wicmpYes OGc 562 X197 B at_521 (by decide) rfl ?_
        refine wiload OGc 564 X197 B at_562 rfl rfl ?_
        refine wiconst OGc 565 X197 B at_564 3 rfl rfl ?_
        refine wicmpYes OGc 615 X197 B at_565 (by decide) rfl ?_
        refine wiload OGc 617 X197 B at_615 rfl rfl ?_
        refine own_retZ X197 hx (t := .boolean) hret (by simp) hlk (hb hby at_617) (by decide) (by decide) (w := (0 : Int32)) rfl ?_
        exact ⟨congrArg (fun z => some (Value.int z)) (show f0 q1 q2 q3 q4 q5 p6 = (0 : Int32) from (by rw [f0, if_pos c1, if_pos c69, if_neg c70, if_pos c71, if_neg c72, if_neg c204, if_neg c205, if_pos c206])).symm, N197⟩
      · refine wifNo OGc 472 X197 B at_469 (own_if0 (flt (fun q => c206 ((lw_gt _ _).mp q))).2.2.1) rfl ?_
        refine wiconst OGc 473 X197 B at_472 1 rfl rfl ?_
        refine wgoto OGc 477 X197 B at_473 rfl ?_
        refine wistore OGc 479 X197 B at_477 (LA0_62 q1 q2 q3 q4 q5 p6 b5 b26) rfl rfl ?_
        refine wiload OGc 481 X197 B at_479 rfl rfl ?_
        refine wiconst OGc 482 X197 B at_481 1 rfl rfl ?_
        refine wicmpYes OGc 518 X197 B at_482 (by decide) rfl ?_
        refine wiload OGc 520 X197 B at_518 rfl rfl ?_
        refine wiconst OGc 521 X197 B at_520 2 rfl rfl ?_
        refine wicmpYes OGc 562 X197 B at_521 (by decide) rfl ?_
        refine wiload OGc 564 X197 B at_562 rfl rfl ?_
        refine wiconst OGc 565 X197 B at_564 3 rfl rfl ?_
        refine wicmpYes OGc 615 X197 B at_565 (by decide) rfl ?_
        refine wiload OGc 617 X197 B at_615 rfl rfl ?_
        refine own_retZ X197 hx (t := .boolean) hret (by simp) hlk (hb hby at_617) (by decide) (by decide) (w := (1 : Int32)) rfl ?_
        exact ⟨congrArg (fun z => some (Value.int z)) (show f0 q1 q2 q3 q4 q5 p6 = (1 : Int32) from (by rw [f0, if_pos c1, if_pos c69, if_neg c70, if_pos c71, if_neg c72, if_neg c204, if_neg c205, if_neg c206])).symm, N197⟩
set_option maxRecDepth 65536 in
set_option maxHeartbeats 40000000 in
theorem tl0_6 (l : Launch) (Z : State) (a0 : Array Value) (hw : ∀ d ∈ tables_1, d.before a0 Z = true) (q1 : Int64) (q2 : Int64) (q3 : Int64) (q4 : Int64) (q5 : Int64) (p6 : Int32) (h0 : Heap) (n0 : Nat) (Z0 : n0 ≤ h0.size) (p : Program) (e : Env) (s : State) (m : MethodId) (below : List Frame) (meth : Method) (c : Code) (hx : p.tables.exec = Jvm.exec) (hby : c.code = code) (hml : c.maxLocals = 46) (hown : s.vm.findClass "com/example/fragmark/fragmark/PhraseMatcherSiftDownPinLaw" = some m.cls) (hret : meth.sig.returnType = ret) (hlk : meth.locks = false) (hZ : Z.Warmed39 s.vm) (b26 : Addr) (b5 : Addr) (T54 : State) (locs : List Loc) (xc : Stand p l e room_1 s m #[(.long q1), (.long q2), (.long q3), (.long q4), (.long q5), (.int p6)] below meth c T54 locs 2 12)   (nc : Fr n0 locs) (kc : Keep h0 T54.heap []) (gc_b26 : n0 ≤ b26) (gc_b5 : n0 ≤ b5) (sc_b26 : h0.size ≤ b26) (sc_b5 : h0.size ≤ b5) (xc_b5_b26 : b5 ≠ b26) (fc0 : OA Z T54.heap b26 .long [(.long (f1 q2 (f1 q4 q5))), (.long q4), (.long q1), (.long q5), (.long (g0_2 q1 q2 q3 q4 q5 p6)), (.long (g0_3 q1 q2 q3 q4 q5 p6))]) (fc1 : OA Z T54.heap b5 .int [(.int (0 : Int32)), (.int (3 : Int32)), (.int (5 : Int32)), (.int (1 : Int32)), (.int (2 : Int32)), (.int (4 : Int32))]) (c1 : (g0_1 q1 q2 q3 q4 q5 p6) = (0 : Int32)) (c74 : (f1 q2 (f1 q4 q5)) < q1) (c75 : ¬ ((g0_3 q1 q2 q3 q4 q5 p6) < (f1 q2 (f1 q4 q5)))) (c76 : ¬ (q4 < q1)) (c77 : q5 < q1) :
    OG p e room_1 s below (fun v h L => v = some (.int (f0 q1 q2 q3 q4 q5 p6)) ∧ Fr n0 L) T54 (mkF m 182 (LA0_9 q1 q2 q3 q4 q5 p6 b5 b26) []) := by
  have B := And.intro hx hby
  refine waload OGc 184 xc B at_182 rfl rfl rfl ?_
  refine wiconst OGc 185 xc B at_184 2 rfl rfl ?_
  refine wlaload OGc 186 xc B hZ rfl fc0 (v := (.long q1)) 2 (by decide) (by decide) rfl at_185 rfl ?_
  refine wlload OGc 188 xc B at_186 rfl rfl ?_
  refine wlcmp OGc 189 xc B at_188 rfl ?_
  refine wifNo OGc 192 xc B at_189 (own_if0 (teq ((lw_eq _ _).mpr rfl)).2) rfl ?_
  refine waload OGc 194 xc B at_192 rfl rfl rfl ?_
  refine wiconst OGc 195 xc B at_194 0 rfl rfl ?_
  refine wlaload OGc 196 xc B hZ rfl fc0 (v := (.long (f1 q2 (f1 q4 q5)))) 0 (by decide) (by decide) rfl at_195 rfl ?_
  refine wlload OGc 198 xc B at_196 rfl rfl ?_
  refine wlcmp OGc 199 xc B at_198 rfl ?_
  refine wifNo OGc 202 xc B at_199 (own_if0 (teq ((lw_eq _ _).mpr rfl)).2) rfl ?_
  refine waload OGc 204 xc B at_202 rfl rfl rfl ?_
  refine wiconst OGc 205 xc B at_204 5 rfl rfl ?_
  refine wlaload OGc 206 xc B hZ rfl fc0 (v := (.long (g0_3 q1 q2 q3 q4 q5 p6))) 5 (by decide) (by decide) rfl at_205 rfl ?_
  refine wlload OGc 208 xc B at_206 rfl rfl ?_
  refine wlcmp OGc 209 xc B at_208 rfl ?_
  refine wifNo OGc 212 xc B at_209 (own_if0 (teq ((lw_eq _ _).mpr rfl)).2) rfl ?_
  refine waload OGc 214 xc B at_212 rfl rfl rfl ?_
  refine wiconst OGc 215 xc B at_214 1 rfl rfl ?_
  refine wlaload OGc 216 xc B hZ rfl fc0 (v := (.long q4)) 1 (by decide) (by decide) rfl at_215 rfl ?_
  refine wlload OGc 218 xc B at_216 rfl rfl ?_
  refine wlcmp OGc 219 xc B at_218 rfl ?_
  refine wifNo OGc 222 xc B at_219 (own_if0 (teq ((lw_eq _ _).mpr rfl)).2) rfl ?_
  refine waload OGc 224 xc B at_222 rfl rfl rfl ?_
  refine wiconst OGc 225 xc B at_224 3 rfl rfl ?_
  refine wlaload OGc 226 xc B hZ rfl fc0 (v := (.long q5)) 3 (by decide) (by decide) rfl at_225 rfl ?_
  refine wlload OGc 228 xc B at_226 rfl rfl ?_
  refine wlcmp OGc 229 xc B at_228 rfl ?_
  refine wifNo OGc 232 xc B at_229 (own_if0 (teq ((lw_eq _ _).mpr rfl)).2) rfl ?_
  refine waload OGc 234 xc B at_232 rfl rfl rfl ?_
  refine wiconst OGc 235 xc B at_234 4 rfl rfl ?_
  refine wlaload OGc 236 xc B hZ rfl fc0 (v := (.long (g0_2 q1 q2 q3 q4 q5 p6))) 4 (by decide) (by decide) rfl at_235 rfl ?_
  refine wlload OGc 238 xc B at_236 rfl rfl ?_
  refine wlcmp OGc 239 xc B at_238 rfl ?_
  refine wifNo OGc 242 xc B at_239 (own_if0 (teq ((lw_eq _ _).mpr rfl)).2) rfl ?_
  refine wiconst OGc 243 xc B at_242 1 rfl rfl ?_
  refine wgoto OGc 247 xc B at_243 rfl ?_
  refine wistore OGc 249 xc B at_247 (LA0_10 q1 q2 q3 q4 q5 p6 b5 b26) rfl rfl ?_
  refine waload OGc 251 xc B at_249 rfl rfl rfl ?_
  refine wiconst OGc 252 xc B at_251 0 rfl rfl ?_
  refine wiaload OGc 253 xc B hZ rfl fc1 (v := (.int (0 : Int32))) 0 (by decide) (by decide) rfl at_252 rfl ?_
  refine wistore OGc 255 xc B at_253 (LA0_37 q1 q2 q3 q4 q5 p6 b5 b26) rfl rfl ?_
  refine waload OGc 257 xc B at_255 rfl rfl rfl ?_
  refine wiconst OGc 258 xc B at_257 1 rfl rfl ?_
  refine wiaload OGc 259 xc B hZ rfl fc1 (v := (.int (3 : Int32))) 1 (by decide) (by decide) rfl at_258 rfl ?_
  refine wistore OGc 261 xc B at_259 (LA0_38 q1 q2 q3 q4 q5 p6 b5 b26) rfl rfl ?_
  refine waload OGc 263 xc B at_261 rfl rfl rfl ?_
  refine wiconst OGc 264 xc B at_263 2 rfl rfl ?_
  refine wiaload OGc 265 xc B hZ rfl fc1 (v := (.int (5 : Int32))) 2 (by decide) (by decide) rfl at_264 rfl ?_
  refine wistore OGc 267 xc B at_265 (LA0_39 q1 q2 q3 q4 q5 p6 b5 b26) rfl rfl ?_
  refine waload OGc 269 xc B at_267 rfl rfl rfl ?_
  refine wiconst OGc 270 xc B at_269 3 rfl rfl ?_
  refine wiaload OGc 271 xc B hZ rfl fc1 (v := (.int (1 : Int32))) 3 (by decide) (by decide) rfl at_270 rfl ?_
  refine wistore OGc 273 xc B at_271 (LA0_40 q1 q2 q3 q4 q5 p6 b5 b26) rfl rfl ?_
  refine waload OGc 275 xc B at_273 rfl rfl rfl ?_
  refine wiconst OGc 276 xc B at_275 4 rfl rfl ?_
  refine wiaload OGc 277 xc B hZ rfl fc1 (v := (.int (2 : Int32))) 4 (by decide) (by decide) rfl at_276 rfl ?_
  refine wistore OGc 279 xc B at_277 (LA0_41 q1 q2 q3 q4 q5 p6 b5 b26) rfl rfl ?_
  refine waload OGc 281 xc B at_279 rfl rfl rfl ?_
  refine wiconst OGc 282 xc B at_281 5 rfl rfl ?_
  refine wiaload OGc 283 xc B hZ rfl fc1 (v := (.int (4 : Int32))) 5 (by decide) (by decide) rfl at_282 rfl ?_
  refine wistore OGc 285 xc B at_283 (LA0_42 q1 q2 q3 q4 q5 p6 b5 b26) rfl rfl ?_
  refine wiload OGc 287 xc B at_285 rfl rfl ?_
  refine wstat OGc 290 xc B hZ hown (ow hw 10 rfl) (ow hw 11 rfl) (ow hw 13 rfl) (ow hw 12 rfl) rfl (rm3 l Z a0 hw [] (0 : Int32) T54.heap) 0 (by decide) (by decide) hml rfl (lenOf pd__I_Z rfl) [] rfl rfl at_287 rfl fun _ T219 L219 X219 hQ219 => ?_
  obtain ⟨rfl, rfl, e219⟩ := hQ219
  have N219 := Fr.app nc (Fr.nil n0)
  refine own_stk (S' := [(.int (f3 (0 : Int32)))]) rfl ?_
  refine wifNo OGc 293 X219 B at_290 (own_if0 (feq (by decide)).1) rfl ?_
  refine wiload OGc 295 X219 B at_293 rfl rfl ?_
  refine wstat OGc 298 X219 B hZ hown (ow hw 10 rfl) (ow hw 11 rfl) (ow hw 13 rfl) (ow hw 12 rfl) e219 (rm3 l Z a0 hw [] (3 : Int32) T54.heap) 0 (by decide) (by decide) hml rfl (lenOf pd__I_Z rfl) [] rfl rfl at_295 rfl fun _ T220 L220 X220 hQ220 => ?_
  obtain ⟨rfl, rfl, e220⟩ := hQ220
  have N220 := Fr.app N219 (Fr.nil n0)
  refine own_stk (S' := [(.int (f3 (3 : Int32)))]) rfl ?_
  refine wifNo OGc 301 X220 B at_298 (own_if0 (feq (by decide)).1) rfl ?_
  refine wiload OGc 303 X220 B at_301 rfl rfl ?_
  refine wstat OGc 306 X220 B hZ hown (ow hw 10 rfl) (ow hw 11 rfl) (ow hw 13 rfl) (ow hw 12 rfl) e220 (rm3 l Z a0 hw [] (5 : Int32) T54.heap) 0 (by decide) (by decide) hml rfl (lenOf pd__I_Z rfl) [] rfl rfl at_303 rfl fun _ T221 L221 X221 hQ221 => ?_
  obtain ⟨rfl, rfl, e221⟩ := hQ221
  have N221 := Fr.app N220 (Fr.nil n0)
  refine own_stk (S' := [(.int (f3 (5 : Int32)))]) rfl ?_
  refine wifNo OGc 309 X221 B at_306 (own_if0 (feq (by decide)).1) rfl ?_
  refine wiload OGc 311 X221 B at_309 rfl rfl ?_
  refine wstat OGc 314 X221 B hZ hown (ow hw 10 rfl) (ow hw 11 rfl) (ow hw 13 rfl) (ow hw 12 rfl) e221 (rm3 l Z a0 hw [] (1 : Int32) T54.heap) 0 (by decide) (by decide) hml rfl (lenOf pd__I_Z rfl) [] rfl rfl at_311 rfl fun _ T222 L222 X222 hQ222 => ?_
  obtain ⟨rfl, rfl, e222⟩ := hQ222
  have N222 := Fr.app N221 (Fr.nil n0)
  refine own_stk (S' := [(.int (f3 (1 : Int32)))]) rfl ?_
  refine wifNo OGc 317 X222 B at_314 (own_if0 (feq (by decide)).1) rfl ?_
  refine wiload OGc 319 X222 B at_317 rfl rfl ?_
  refine wstat OGc 322 X222 B hZ hown (ow hw 10 rfl) (ow hw 11 rfl) (ow hw 13 rfl) (ow hw 12 rfl) e222 (rm3 l Z a0 hw [] (2 : Int32) T54.heap) 0 (by decide) (by decide) hml rfl (lenOf pd__I_Z rfl) [] rfl rfl at_319 rfl fun _ T223 L223 X223 hQ223 => ?_
  obtain ⟨rfl, rfl, e223⟩ := hQ223
  have N223 := Fr.app N222 (Fr.nil n0)
  refine own_stk (S' := [(.int (f3 (2 : Int32)))]) rfl ?_
  refine wifNo OGc 325 X223 B at_322 (own_if0 (feq (by decide)).1) rfl ?_
  refine wiload OGc 327 X223 B at_325 rfl rfl ?_
  refine wstat OGc 330 X223 B hZ hown (ow hw 10 rfl) (ow hw 11 rfl) (ow hw 13 rfl) (ow hw 12 rfl) e223 (rm3 l Z a0 hw [] (4 : Int32) T54.heap) 0 (by decide) (by decide) hml rfl (lenOf pd__I_Z rfl) [] rfl rfl at_327 rfl fun _ T224 L224 X224 hQ224 => ?_
  obtain ⟨rfl, rfl, e224⟩ := hQ224
  have N224 := Fr.app N223 (Fr.nil n0)
  refine own_stk (S' := [(.int (f3 (4 : Int32)))]) rfl ?_
  refine wifYes OGc 335 X224 B at_330 (own_if0 (feq (by decide)).2) rfl ?_
  refine wiconst OGc 336 X224 B at_335 1 rfl rfl ?_
  refine wiload OGc 338 X224 B at_336 rfl rfl ?_
  refine own_st (fun t k => XS.ishl X224.here hx rfl (hb hby at_338) rfl k) ?_
  show OG p e _ s below _ T224 (mkF m 339 (LA0_42 q1 q2 q3 q4 q5 p6 b5 b26) [(.int (1 : Int32))])
  refine wiconst OGc 340 X224 B at_339 1 rfl rfl ?_
  refine wiload OGc 342 X224 B at_340 rfl rfl ?_
  refine own_st (fun t k => XS.ishl X224.here hx rfl (hb hby at_342) rfl k) ?_
  show OG p e _ s below _ T224 (mkF m 343 (LA0_42 q1 q2 q3 q4 q5 p6 b5 b26) [(.int (8 : Int32)), (.int (1 : Int32))])
  refine own_st (fun t k => XS.ior X224.here hx rfl (hb hby at_343) rfl k) ?_
  show OG p e _ s below _ T224 (mkF m 344 (LA0_42 q1 q2 q3 q4 q5 p6 b5 b26) [(.int (9 : Int32))])
  refine wiconst OGc 345 X224 B at_344 1 rfl rfl ?_
  refine wiload OGc 347 X224 B at_345 rfl rfl ?_
  refine own_st (fun t k => XS.ishl X224.here hx rfl (hb hby at_347) rfl k) ?_
  show OG p e _ s below _ T224 (mkF m 348 (LA0_42 q1 q2 q3 q4 q5 p6 b5 b26) [(.int (32 : Int32)), (.int (9 : Int32))])
  refine own_st (fun t k => XS.ior X224.here hx rfl (hb hby at_348) rfl k) ?_
  show OG p e _ s below _ T224 (mkF m 349 (LA0_42 q1 q2 q3 q4 q5 p6 b5 b26) [(.int (41 : Int32))])
  refine wiconst OGc 350 X224 B at_349 1 rfl rfl ?_
  refine wiload OGc 352 X224 B at_350 rfl rfl ?_
  refine own_st (fun t k => XS.ishl X224.here hx rfl (hb hby at_352) rfl k) ?_
  show OG p e _ s below _ T224 (mkF m 353 (LA0_42 q1 q2 q3 q4 q5 p6 b5 b26) [(.int (2 : Int32)), (.int (41 : Int32))])
  refine own_st (fun t k => XS.ior X224.here hx rfl (hb hby at_353) rfl k) ?_
  show OG p e _ s below _ T224 (mkF m 354 (LA0_42 q1 q2 q3 q4 q5 p6 b5 b26) [(.int (43 : Int32))])
  refine wiconst OGc 355 X224 B at_354 1 rfl rfl ?_
  refine wiload OGc 357 X224 B at_355 rfl rfl ?_
  refine own_st (fun t k => XS.ishl X224.here hx rfl (hb hby at_357) rfl k) ?_
  show OG p e _ s below _ T224 (mkF m 358 (LA0_42 q1 q2 q3 q4 q5 p6 b5 b26) [(.int (4 : Int32)), (.int (43 : Int32))])
  refine own_st (fun t k => XS.ior X224.here hx rfl (hb hby at_358) rfl k) ?_
  show OG p e _ s below _ T224 (mkF m 359 (LA0_42 q1 q2 q3 q4 q5 p6 b5 b26) [(.int (47 : Int32))])
  refine wiconst OGc 360 X224 B at_359 1 rfl rfl ?_
  refine wiload OGc 362 X224 B at_360 rfl rfl ?_
  refine own_st (fun t k => XS.ishl X224.here hx rfl (hb hby at_362) rfl k) ?_
  show OG p e _ s below _ T224 (mkF m 363 (LA0_42 q1 q2 q3 q4 q5 p6 b5 b26) [(.int (16 : Int32)), (.int (47 : Int32))])
  refine own_st (fun t k => XS.ior X224.here hx rfl (hb hby at_363) rfl k) ?_
  show OG p e _ s below _ T224 (mkF m 364 (LA0_42 q1 q2 q3 q4 q5 p6 b5 b26) [(.int (63 : Int32))])
  refine wistore OGc 366 X224 B at_364 (LA0_43 q1 q2 q3 q4 q5 p6 b5 b26) rfl rfl ?_
  refine wiload OGc 368 X224 B at_366 rfl rfl ?_
  refine wifNo OGc 371 X224 B at_368 (by decide) rfl ?_
  refine wiload OGc 373 X224 B at_371 rfl rfl ?_
  refine wbipush OGc 375 X224 B at_373 63 rfl rfl ?_
  refine wicmpNo OGc 378 X224 B at_375 (by decide) rfl ?_
  refine wiconst OGc 379 X224 B at_378 1 rfl rfl ?_
  refine wgoto OGc 383 X224 B at_379 rfl ?_
  refine wistore OGc 385 X224 B at_383 (LA0_43 q1 q2 q3 q4 q5 p6 b5 b26) rfl rfl ?_
  refine waload OGc 387 X224 B at_385 rfl rfl rfl ?_
  refine wiload OGc 389 X224 B at_387 rfl rfl ?_
  refine wlaload OGc 390 X224 B hZ e224 fc0 (v := (.long (f1 q2 (f1 q4 q5)))) 0 (by decide) (by decide) rfl at_389 rfl ?_
  refine wlstore OGc 392 X224 B at_390 (LA0_44 q1 q2 q3 q4 q5 p6 b5 b26) rfl rfl ?_
  refine waload OGc 394 X224 B at_392 rfl rfl rfl ?_
  refine wiload OGc 396 X224 B at_394 rfl rfl ?_
  refine wlaload OGc 397 X224 B hZ e224 fc0 (v := (.long q5)) 3 (by decide) (by decide) rfl at_396 rfl ?_
  refine wlstore OGc 399 X224 B at_397 (LA0_45 q1 q2 q3 q4 q5 p6 b5 b26) rfl rfl ?_
  refine waload OGc 401 X224 B at_399 rfl rfl rfl ?_
  refine wiload OGc 403 X224 B at_401 rfl rfl ?_
  refine wlaload OGc 404 X224 B hZ e224 fc0 (v := (.long (g0_3 q1 q2 q3 q4 q5 p6))) 5 (by decide) (by decide) rfl at_403 rfl ?_
  refine wlstore OGc 406 X224 B at_404 (LA0_46 q1 q2 q3 q4 q5 p6 b5 b26) rfl rfl ?_
  refine waload OGc 408 X224 B at_406 rfl rfl rfl ?_
  refine wiload OGc 410 X224 B at_408 rfl rfl ?_
  refine wlaload OGc 411 X224 B hZ e224 fc0 (v := (.long q4)) 1 (by decide) (by decide) rfl at_410 rfl ?_
  refine wlstore OGc 413 X224 B at_411 (LA0_47 q1 q2 q3 q4 q5 p6 b5 b26) rfl rfl ?_
  refine waload OGc 415 X224 B at_413 rfl rfl rfl ?_
  refine wiload OGc 417 X224 B at_415 rfl rfl ?_
  refine wlaload OGc 418 X224 B hZ e224 fc0 (v := (.long q1)) 2 (by decide) (by decide) rfl at_417 rfl ?_
  refine wlstore OGc 420 X224 B at_418 (LA0_48 q1 q2 q3 q4 q5 p6 b5 b26) rfl rfl ?_
  refine waload OGc 422 X224 B at_420 rfl rfl rfl ?_
  refine wiload OGc 424 X224 B at_422 rfl rfl ?_
  refine wlaload OGc 425 X224 B hZ e224 fc0 (v := (.long (g0_2 q1 q2 q3 q4 q5 p6))) 4 (by decide) (by decide) rfl at_424 rfl ?_
  refine wlstore OGc 427 X224 B at_425 (LA0_49 q1 q2 q3 q4 q5 p6 b5 b26) rfl rfl ?_
  refine wiload OGc 429 X224 B at_427 rfl rfl ?_
  refine wifNo OGc 432 X224 B at_429 (by decide) rfl ?_
  refine wlload OGc 434 X224 B at_432 rfl rfl ?_
  refine wlload OGc 436 X224 B at_434 rfl rfl ?_
  refine wlcmp OGc 437 X224 B at_436 rfl ?_
  by_cases c231 : q5 < (f1 q2 (f1 q4 q5))
  · refine wifYes OGc 476 X224 B at_437 (own_if0 (tlt ((lw_gt _ _).mpr c231)).2.2.1) rfl ?_
    refine wiconst OGc 477 X224 B at_476 0 rfl rfl ?_
    refine wistore OGc 479 X224 B at_477 (LA0_50 q1 q2 q3 q4 q5 p6 b5 b26) rfl rfl ?_
    refine wiload OGc 481 X224 B at_479 rfl rfl ?_
    refine wiconst OGc 482 X224 B at_481 1 rfl rfl ?_
    refine wicmpYes OGc 518 X224 B at_482 (by decide) rfl ?_
    refine wiload OGc 520 X224 B at_518 rfl rfl ?_
    refine wiconst OGc 521 X224 B at_520 2 rfl rfl ?_
    refine wicmpYes OGc 562 X224 B at_521 (by decide) rfl ?_
    refine wiload OGc 564 X224 B at_562 rfl rfl ?_
    refine wiconst OGc 565 X224 B at_564 3 rfl rfl ?_
    refine wicmpYes OGc 615 X224 B at_565 (by decide) rfl ?_
    refine wiload OGc 617 X224 B at_615 rfl rfl ?_
    refine own_retZ X224 hx (t := .boolean) hret (by simp) hlk (hb hby at_617) (by decide) (by decide) (w := (0 : Int32)) rfl ?_
    exact ⟨congrArg (fun z => some (Value.int z)) (show f0 q1 q2 q3 q4 q5 p6 = (0 : Int32) from (by rw [f0, if_pos c1, if_pos c74, if_neg c75, if_neg c76, if_pos c77, if_pos c231])).symm, N224⟩
  · refine wifNo OGc 440 X224 B at_437 (own_if0 (flt (fun q => c231 ((lw_gt _ _).mp q))).2.2.1) rfl ?_
    refine wlload OGc 442 X224 B at_440 rfl rfl ?_
    refine wlload OGc 444 X224 B at_442 rfl rfl ?_
    refine wlcmp OGc 445 X224 B at_444 rfl ?_
    refine wifNo OGc 448 X224 B at_445 (own_if0 (flt (fun q => c75 ((lw_gt _ _).mp q))).2.2.1) rfl ?_
    refine wlload OGc 450 X224 B at_448 rfl rfl ?_
    refine wlload OGc 452 X224 B at_450 rfl rfl ?_
    refine wlcmp OGc 453 X224 B at_452 rfl ?_
    by_cases c232 : q4 < q5
    · refine wifYes OGc 476 X224 B at_453 (own_if0 (tlt ((lw_gt _ _).mpr c232)).2.2.1) rfl ?_
      refine wiconst OGc 477 X224 B at_476 0 rfl rfl ?_
      refine wistore OGc 479 X224 B at_477 (LA0_50 q1 q2 q3 q4 q5 p6 b5 b26) rfl rfl ?_
      refine wiload OGc 481 X224 B at_479 rfl rfl ?_
      refine wiconst OGc 482 X224 B at_481 1 rfl rfl ?_
      refine wicmpYes OGc 518 X224 B at_482 (by decide) rfl ?_
      refine wiload OGc 520 X224 B at_518 rfl rfl ?_
      refine wiconst OGc 521 X224 B at_520 2 rfl rfl ?_
      refine wicmpYes OGc 562 X224 B at_521 (by decide) rfl ?_
      refine wiload OGc 564 X224 B at_562 rfl rfl ?_
      refine wiconst OGc 565 X224 B at_564 3 rfl rfl ?_
      refine wicmpYes OGc 615 X224 B at_565 (by decide) rfl ?_
      refine wiload OGc 617 X224 B at_615 rfl rfl ?_
      refine own_retZ X224 hx (t := .boolean) hret (by simp) hlk (hb hby at_617) (by decide) (by decide) (w := (0 : Int32)) rfl ?_
      exact ⟨congrArg (fun z => some (Value.int z)) (show f0 q1 q2 q3 q4 q5 p6 = (0 : Int32) from (by rw [f0, if_pos c1, if_pos c74, if_neg c75, if_neg c76, if_pos c77, if_neg c231, if_pos c232])).symm, N224⟩
    · refine wifNo OGc 456 X224 B at_453 (own_if0 (flt (fun q => c232 ((lw_gt _ _).mp q))).2.2.1) rfl ?_
      refine wlload OGc 458 X224 B at_456 rfl rfl ?_
      refine wlload OGc 460 X224 B at_458 rfl rfl ?_
      refine wlcmp OGc 461 X224 B at_460 rfl ?_
      by_cases c233 : q1 < q5
      · refine wifYes OGc 476 X224 B at_461 (own_if0 (tlt ((lw_gt _ _).mpr c233)).2.2.1) rfl ?_
        refine wiconst OGc 477 X224 B at_476 0 rfl rfl ?_
        refine wistore OGc 479 X224 B at_477 (LA0_50 q1 q2 q3 q4 q5 p6 b5 b26) rfl rfl ?_
        refine wiload OGc 481 X224 B at_479 rfl rfl ?_
        refine wiconst OGc 482 X224 B at_481 1 rfl rfl ?_
        refine wicmpYes OGc 518 X224 B at_482 (by decide) rfl ?_
        refine wiload OGc 520 X224 B at_518 rfl rfl ?_
        refine wiconst OGc 521 X224 B at_520 2 rfl rfl ?_
        refine wicmpYes OGc 562 X224 B at_521 (by decide) rfl ?_
        refine wiload OGc 564 X224 B at_562 rfl rfl ?_
        refine wiconst OGc 565 X224 B at_564 3 rfl rfl ?_
        refine wicmpYes OGc 615 X224 B at_565 (by decide) rfl ?_
        refine wiload OGc 617 X224 B at_615 rfl rfl ?_
        refine own_retZ X224 hx (t := .boolean) hret (by simp) hlk (hb hby at_617) (by decide) (by decide) (w := (0 : Int32)) rfl ?_
        exact ⟨congrArg (fun z => some (Value.int z)) (show f0 q1 q2 q3 q4 q5 p6 = (0 : Int32) from (by rw [f0, if_pos c1, if_pos c74, if_neg c75, if_neg c76, if_pos c77, if_neg c231, if_neg c232, if_pos c233])).symm, N224⟩
      · refine wifNo OGc 464 X224 B at_461 (own_if0 (flt (fun q => c233 ((lw_gt _ _).mp q))).2.2.1) rfl ?_
        refine wlload OGc 466 X224 B at_464 rfl rfl ?_
        refine wlload OGc 468 X224 B at_466 rfl rfl ?_
        refine wlcmp OGc 469 X224 B at_468 rfl ?_
        by_cases c234 : (g0_2 q1 q2 q3 q4 q5 p6) < (g0_3 q1 q2 q3 q4 q5 p6)
        · refine wifYes OGc 476 X224 B at_469 (own_if0 (tlt ((lw_gt _ _).mpr c234)).2.2.1) rfl ?_
          refine wiconst OGc 477 X224 B at_476 0 rfl rfl ?_
          refine wistore OGc 479 X224 B at_477 (LA0_50 q1 q2 q3 q4 q5 p6 b5 b26) rfl rfl ?_
          refine wiload OGc 481 X224 B at_479 rfl rfl ?_
          refine wiconst OGc 482 X224 B at_481 1 rfl rfl ?_
          refine wicmpYes OGc 518 X224 B at_482 (by decide) rfl ?_
          refine wiload OGc 520 X224 B at_518 rfl rfl ?_
          refine wiconst OGc 521 X224 B at_520 2 rfl rfl ?_
          refine wicmpYes OGc 562 X224 B at_521 (by decide) rfl ?_
          refine wiload OGc 564 X224 B at_562 rfl rfl ?_
          refine wiconst OGc 565 X224 B at_564 3 rfl rfl ?_
          refine wicmpYes OGc 615 X224 B at_565 (by decide) rfl ?_
          refine wiload OGc 617 X224 B at_615 rfl rfl ?_
          refine own_retZ X224 hx (t := .boolean) hret (by simp) hlk (hb hby at_617) (by decide) (by decide) (w := (0 : Int32)) rfl ?_
          exact ⟨congrArg (fun z => some (Value.int z)) (show f0 q1 q2 q3 q4 q5 p6 = (0 : Int32) from (by rw [f0, if_pos c1, if_pos c74, if_neg c75, if_neg c76, if_pos c77, if_neg c231, if_neg c232, if_neg c233, if_pos c234])).symm, N224⟩
        · refine wifNo OGc 472 X224 B at_469 (own_if0 (flt (fun q => c234 ((lw_gt _ _).mp q))).2.2.1) rfl ?_
          refine wiconst OGc 473 X224 B at_472 1 rfl rfl ?_
          refine wgoto OGc 477 X224 B at_473 rfl ?_
          refine wistore OGc 479 X224 B at_477 (LA0_49 q1 q2 q3 q4 q5 p6 b5 b26) rfl rfl ?_
          refine wiload OGc 481 X224 B at_479 rfl rfl ?_
          refine wiconst OGc 482 X224 B at_481 1 rfl rfl ?_
          refine wicmpYes OGc 518 X224 B at_482 (by decide) rfl ?_
          refine wiload OGc 520 X224 B at_518 rfl rfl ?_
          refine wiconst OGc 521 X224 B at_520 2 rfl rfl ?_
          refine wicmpYes OGc 562 X224 B at_521 (by decide) rfl ?_
          refine wiload OGc 564 X224 B at_562 rfl rfl ?_
          refine wiconst OGc 565 X224 B at_564 3 rfl rfl ?_
          refine wicmpYes OGc 615 X224 B at_565 (by decide) rfl ?_
          refine wiload OGc 617 X224 B at_615 rfl rfl ?_
          refine own_retZ X224 hx (t := .boolean) hret (by simp) hlk (hb hby at_617) (by decide) (by decide) (w := (1 : Int32)) rfl ?_
          exact ⟨congrArg (fun z => some (Value.int z)) (show f0 q1 q2 q3 q4 q5 p6 = (1 : Int32) from (by rw [f0, if_pos c1, if_pos c74, if_neg c75, if_neg c76, if_pos c77, if_neg c231, if_neg c232, if_neg c233, if_neg c234])).symm, N224⟩
set_option maxRecDepth 65536 in
set_option maxHeartbeats 40000000 in
theorem tl0_7 (l : Launch) (Z : State) (a0 : Array Value) (hw : ∀ d ∈ tables_1, d.before a0 Z = true) (q1 : Int64) (q2 : Int64) (q3 : Int64) (q4 : Int64) (q5 : Int64) (p6 : Int32) (h0 : Heap) (n0 : Nat) (Z0 : n0 ≤ h0.size) (p : Program) (e : Env) (s : State) (m : MethodId) (below : List Frame) (meth : Method) (c : Code) (hx : p.tables.exec = Jvm.exec) (hby : c.code = code) (hml : c.maxLocals = 46) (hown : s.vm.findClass "com/example/fragmark/fragmark/PhraseMatcherSiftDownPinLaw" = some m.cls) (hret : meth.sig.returnType = ret) (hlk : meth.locks = false) (hZ : Z.Warmed39 s.vm) (b26 : Addr) (b5 : Addr) (T54 : State) (locs : List Loc) (xc : Stand p l e room_1 s m #[(.long q1), (.long q2), (.long q3), (.long q4), (.long q5), (.int p6)] below meth c T54 locs 2 12)   (nc : Fr n0 locs) (kc : Keep h0 T54.heap []) (gc_b26 : n0 ≤ b26) (gc_b5 : n0 ≤ b5) (sc_b26 : h0.size ≤ b26) (sc_b5 : h0.size ≤ b5) (xc_b5_b26 : b5 ≠ b26) (fc0 : OA Z T54.heap b26 .long [(.long (f1 q2 (f1 q4 q5))), (.long q4), (.long q1), (.long q5), (.long (g0_2 q1 q2 q3 q4 q5 p6)), (.long (g0_3 q1 q2 q3 q4 q5 p6))]) (fc1 : OA Z T54.heap b5 .int [(.int (0 : Int32)), (.int (2 : Int32)), (.int (5 : Int32)), (.int (1 : Int32)), (.int (3 : Int32)), (.int (4 : Int32))]) (c1 : (g0_1 q1 q2 q3 q4 q5 p6) = (0 : Int32)) (c79 : (f1 q2 (f1 q4 q5)) < q1) (c80 : ¬ ((g0_3 q1 q2 q3 q4 q5 p6) < (f1 q2 (f1 q4 q5)))) (c81 : ¬ (q4 < q1)) (c82 : ¬ (q5 < q1)) :
    OG p e room_1 s below (fun v h L => v = some (.int (f0 q1 q2 q3 q4 q5 p6)) ∧ Fr n0 L) T54 (mkF m 182 (LA0_9 q1 q2 q3 q4 q5 p6 b5 b26) []) := by
  have B := And.intro hx hby
  refine waload OGc 184 xc B at_182 rfl rfl rfl ?_
  refine wiconst OGc 185 xc B at_184 2 rfl rfl ?_
  refine wlaload OGc 186 xc B hZ rfl fc0 (v := (.long q1)) 2 (by decide) (by decide) rfl at_185 rfl ?_
  refine wlload OGc 188 xc B at_186 rfl rfl ?_
  refine wlcmp OGc 189 xc B at_188 rfl ?_
  refine wifNo OGc 192 xc B at_189 (own_if0 (teq ((lw_eq _ _).mpr rfl)).2) rfl ?_
  refine waload OGc 194 xc B at_192 rfl rfl rfl ?_
  refine wiconst OGc 195 xc B at_194 0 rfl rfl ?_
  refine wlaload OGc 196 xc B hZ rfl fc0 (v := (.long (f1 q2 (f1 q4 q5)))) 0 (by decide) (by decide) rfl at_195 rfl ?_
  refine wlload OGc 198 xc B at_196 rfl rfl ?_
  refine wlcmp OGc 199 xc B at_198 rfl ?_
  refine wifNo OGc 202 xc B at_199 (own_if0 (teq ((lw_eq _ _).mpr rfl)).2) rfl ?_
  refine waload OGc 204 xc B at_202 rfl rfl rfl ?_
  refine wiconst OGc 205 xc B at_204 5 rfl rfl ?_
  refine wlaload OGc 206 xc B hZ rfl fc0 (v := (.long (g0_3 q1 q2 q3 q4 q5 p6))) 5 (by decide) (by decide) rfl at_205 rfl ?_
  refine wlload OGc 208 xc B at_206 rfl rfl ?_
  refine wlcmp OGc 209 xc B at_208 rfl ?_
  refine wifNo OGc 212 xc B at_209 (own_if0 (teq ((lw_eq _ _).mpr rfl)).2) rfl ?_
  refine waload OGc 214 xc B at_212 rfl rfl rfl ?_
  refine wiconst OGc 215 xc B at_214 1 rfl rfl ?_
  refine wlaload OGc 216 xc B hZ rfl fc0 (v := (.long q4)) 1 (by decide) (by decide) rfl at_215 rfl ?_
  refine wlload OGc 218 xc B at_216 rfl rfl ?_
  refine wlcmp OGc 219 xc B at_218 rfl ?_
  refine wifNo OGc 222 xc B at_219 (own_if0 (teq ((lw_eq _ _).mpr rfl)).2) rfl ?_
  refine waload OGc 224 xc B at_222 rfl rfl rfl ?_
  refine wiconst OGc 225 xc B at_224 3 rfl rfl ?_
  refine wlaload OGc 226 xc B hZ rfl fc0 (v := (.long q5)) 3 (by decide) (by decide) rfl at_225 rfl ?_
  refine wlload OGc 228 xc B at_226 rfl rfl ?_
  refine wlcmp OGc 229 xc B at_228 rfl ?_
  refine wifNo OGc 232 xc B at_229 (own_if0 (teq ((lw_eq _ _).mpr rfl)).2) rfl ?_
  refine waload OGc 234 xc B at_232 rfl rfl rfl ?_
  refine wiconst OGc 235 xc B at_234 4 rfl rfl ?_
  refine wlaload OGc 236 xc B hZ rfl fc0 (v := (.long (g0_2 q1 q2 q3 q4 q5 p6))) 4 (by decide) (by decide) rfl at_235 rfl ?_
  refine wlload OGc 238 xc B at_236 rfl rfl ?_
  refine wlcmp OGc 239 xc B at_238 rfl ?_
  refine wifNo OGc 242 xc B at_239 (own_if0 (teq ((lw_eq _ _).mpr rfl)).2) rfl ?_
  refine wiconst OGc 243 xc B at_242 1 rfl rfl ?_
  refine wgoto OGc 247 xc B at_243 rfl ?_
  refine wistore OGc 249 xc B at_247 (LA0_10 q1 q2 q3 q4 q5 p6 b5 b26) rfl rfl ?_
  refine waload OGc 251 xc B at_249 rfl rfl rfl ?_
  refine wiconst OGc 252 xc B at_251 0 rfl rfl ?_
  refine wiaload OGc 253 xc B hZ rfl fc1 (v := (.int (0 : Int32))) 0 (by decide) (by decide) rfl at_252 rfl ?_
  refine wistore OGc 255 xc B at_253 (LA0_37 q1 q2 q3 q4 q5 p6 b5 b26) rfl rfl ?_
  refine waload OGc 257 xc B at_255 rfl rfl rfl ?_
  refine wiconst OGc 258 xc B at_257 1 rfl rfl ?_
  refine wiaload OGc 259 xc B hZ rfl fc1 (v := (.int (2 : Int32))) 1 (by decide) (by decide) rfl at_258 rfl ?_
  refine wistore OGc 261 xc B at_259 (LA0_64 q1 q2 q3 q4 q5 p6 b5 b26) rfl rfl ?_
  refine waload OGc 263 xc B at_261 rfl rfl rfl ?_
  refine wiconst OGc 264 xc B at_263 2 rfl rfl ?_
  refine wiaload OGc 265 xc B hZ rfl fc1 (v := (.int (5 : Int32))) 2 (by decide) (by decide) rfl at_264 rfl ?_
  refine wistore OGc 267 xc B at_265 (LA0_65 q1 q2 q3 q4 q5 p6 b5 b26) rfl rfl ?_
  refine waload OGc 269 xc B at_267 rfl rfl rfl ?_
  refine wiconst OGc 270 xc B at_269 3 rfl rfl ?_
  refine wiaload OGc 271 xc B hZ rfl fc1 (v := (.int (1 : Int32))) 3 (by decide) (by decide) rfl at_270 rfl ?_
  refine wistore OGc 273 xc B at_271 (LA0_66 q1 q2 q3 q4 q5 p6 b5 b26) rfl rfl ?_
  refine waload OGc 275 xc B at_273 rfl rfl rfl ?_
  refine wiconst OGc 276 xc B at_275 4 rfl rfl ?_
  refine wiaload OGc 277 xc B hZ rfl fc1 (v := (.int (3 : Int32))) 4 (by decide) (by decide) rfl at_276 rfl ?_
  refine wistore OGc 279 xc B at_277 (LA0_67 q1 q2 q3 q4 q5 p6 b5 b26) rfl rfl ?_
  refine waload OGc 281 xc B at_279 rfl rfl rfl ?_
  refine wiconst OGc 282 xc B at_281 5 rfl rfl ?_
  refine wiaload OGc 283 xc B hZ rfl fc1 (v := (.int (4 : Int32))) 5 (by decide) (by decide) rfl at_282 rfl ?_
  refine wistore OGc 285 xc B at_283 (LA0_68 q1 q2 q3 q4 q5 p6 b5 b26) rfl rfl ?_
  refine wiload OGc 287 xc B at_285 rfl rfl ?_
  refine wstat OGc 290 xc B hZ hown (ow hw 10 rfl) (ow hw 11 rfl) (ow hw 13 rfl) (ow hw 12 rfl) rfl (rm3 l Z a0 hw [] (0 : Int32) T54.heap) 0 (by decide) (by decide) hml rfl (lenOf pd__I_Z rfl) [] rfl rfl at_287 rfl fun _ T247 L247 X247 hQ247 => ?_
  obtain ⟨rfl, rfl, e247⟩ := hQ247
  have N247 := Fr.app nc (Fr.nil n0)
  refine own_stk (S' := [(.int (f3 (0 : Int32)))]) rfl ?_
  refine wifNo OGc 293 X247 B at_290 (own_if0 (feq (by decide)).1) rfl ?_
  refine wiload OGc 295 X247 B at_293 rfl rfl ?_
  refine wstat OGc 298 X247 B hZ hown (ow hw 10 rfl) (ow hw 11 rfl) (ow hw 13 rfl) (ow hw 12 rfl) e247 (rm3 l Z a0 hw [] (2 : Int32) T54.heap) 0 (by decide) (by decide) hml rfl (lenOf pd__I_Z rfl) [] rfl rfl at_295 rfl fun _ T248 L248 X248 hQ248 => ?_
  obtain ⟨rfl, rfl, e248⟩ := hQ248
  have N248 := Fr.app N247 (Fr.nil n0)
  refine own_stk (S' := [(.int (f3 (2 : Int32)))]) rfl ?_
  refine wifNo OGc 301 X248 B at_298 (own_if0 (feq (by decide)).1) rfl ?_
  refine wiload OGc 303 X248 B at_301 rfl rfl ?_
  refine wstat OGc 306 X248 B hZ hown (ow hw 10 rfl) (ow hw 11 rfl) (ow hw 13 rfl) (ow hw 12 rfl) e248 (rm3 l Z a0 hw [] (5 : Int32) T54.heap) 0 (by decide) (by decide) hml rfl (lenOf pd__I_Z rfl) [] rfl rfl at_303 rfl fun _ T249 L249 X249 hQ249 => ?_
  obtain ⟨rfl, rfl, e249⟩ := hQ249
  have N249 := Fr.app N248 (Fr.nil n0)
  refine own_stk (S' := [(.int (f3 (5 : Int32)))]) rfl ?_
  refine wifNo OGc 309 X249 B at_306 (own_if0 (feq (by decide)).1) rfl ?_
  refine wiload OGc 311 X249 B at_309 rfl rfl ?_
  refine wstat OGc 314 X249 B hZ hown (ow hw 10 rfl) (ow hw 11 rfl) (ow hw 13 rfl) (ow hw 12 rfl) e249 (rm3 l Z a0 hw [] (1 : Int32) T54.heap) 0 (by decide) (by decide) hml rfl (lenOf pd__I_Z rfl) [] rfl rfl at_311 rfl fun _ T250 L250 X250 hQ250 => ?_
  obtain ⟨rfl, rfl, e250⟩ := hQ250
  have N250 := Fr.app N249 (Fr.nil n0)
  refine own_stk (S' := [(.int (f3 (1 : Int32)))]) rfl ?_
  refine wifNo OGc 317 X250 B at_314 (own_if0 (feq (by decide)).1) rfl ?_
  refine wiload OGc 319 X250 B at_317 rfl rfl ?_
  refine wstat OGc 322 X250 B hZ hown (ow hw 10 rfl) (ow hw 11 rfl) (ow hw 13 rfl) (ow hw 12 rfl) e250 (rm3 l Z a0 hw [] (3 : Int32) T54.heap) 0 (by decide) (by decide) hml rfl (lenOf pd__I_Z rfl) [] rfl rfl at_319 rfl fun _ T251 L251 X251 hQ251 => ?_
  obtain ⟨rfl, rfl, e251⟩ := hQ251
  have N251 := Fr.app N250 (Fr.nil n0)
  refine own_stk (S' := [(.int (f3 (3 : Int32)))]) rfl ?_
  refine wifNo OGc 325 X251 B at_322 (own_if0 (feq (by decide)).1) rfl ?_
  refine wiload OGc 327 X251 B at_325 rfl rfl ?_
  refine wstat OGc 330 X251 B hZ hown (ow hw 10 rfl) (ow hw 11 rfl) (ow hw 13 rfl) (ow hw 12 rfl) e251 (rm3 l Z a0 hw [] (4 : Int32) T54.heap) 0 (by decide) (by decide) hml rfl (lenOf pd__I_Z rfl) [] rfl rfl at_327 rfl fun _ T252 L252 X252 hQ252 => ?_
  obtain ⟨rfl, rfl, e252⟩ := hQ252
  have N252 := Fr.app N251 (Fr.nil n0)
  refine own_stk (S' := [(.int (f3 (4 : Int32)))]) rfl ?_
  refine wifYes OGc 335 X252 B at_330 (own_if0 (feq (by decide)).2) rfl ?_
  refine wiconst OGc 336 X252 B at_335 1 rfl rfl ?_
  refine wiload OGc 338 X252 B at_336 rfl rfl ?_
  refine own_st (fun t k => XS.ishl X252.here hx rfl (hb hby at_338) rfl k) ?_
  show OG p e _ s below _ T252 (mkF m 339 (LA0_68 q1 q2 q3 q4 q5 p6 b5 b26) [(.int (1 : Int32))])
  refine wiconst OGc 340 X252 B at_339 1 rfl rfl ?_
  refine wiload OGc 342 X252 B at_340 rfl rfl ?_
  refine own_st (fun t k => XS.ishl X252.here hx rfl (hb hby at_342) rfl k) ?_
  show OG p e _ s below _ T252 (mkF m 343 (LA0_68 q1 q2 q3 q4 q5 p6 b5 b26) [(.int (4 : Int32)), (.int (1 : Int32))])
  refine own_st (fun t k => XS.ior X252.here hx rfl (hb hby at_343) rfl k) ?_
  show OG p e _ s below _ T252 (mkF m 344 (LA0_68 q1 q2 q3 q4 q5 p6 b5 b26) [(.int (5 : Int32))])
  refine wiconst OGc 345 X252 B at_344 1 rfl rfl ?_
  refine wiload OGc 347 X252 B at_345 rfl rfl ?_
  refine own_st (fun t k => XS.ishl X252.here hx rfl (hb hby at_347) rfl k) ?_
  show OG p e _ s below _ T252 (mkF m 348 (LA0_68 q1 q2 q3 q4 q5 p6 b5 b26) [(.int (32 : Int32)), (.int (5 : Int32))])
  refine own_st (fun t k => XS.ior X252.here hx rfl (hb hby at_348) rfl k) ?_
  show OG p e _ s below _ T252 (mkF m 349 (LA0_68 q1 q2 q3 q4 q5 p6 b5 b26) [(.int (37 : Int32))])
  refine wiconst OGc 350 X252 B at_349 1 rfl rfl ?_
  refine wiload OGc 352 X252 B at_350 rfl rfl ?_
  refine own_st (fun t k => XS.ishl X252.here hx rfl (hb hby at_352) rfl k) ?_
  show OG p e _ s below _ T252 (mkF m 353 (LA0_68 q1 q2 q3 q4 q5 p6 b5 b26) [(.int (2 : Int32)), (.int (37 : Int32))])
  refine own_st (fun t k => XS.ior X252.here hx rfl (hb hby at_353) rfl k) ?_
  show OG p e _ s below _ T252 (mkF m 354 (LA0_68 q1 q2 q3 q4 q5 p6 b5 b26) [(.int (39 : Int32))])
  refine wiconst OGc 355 X252 B at_354 1 rfl rfl ?_
  refine wiload OGc 357 X252 B at_355 rfl rfl ?_
  refine own_st (fun t k => XS.ishl X252.here hx rfl (hb hby at_357) rfl k) ?_
  show OG p e _ s below _ T252 (mkF m 358 (LA0_68 q1 q2 q3 q4 q5 p6 b5 b26) [(.int (8 : Int32)), (.int (39 : Int32))])
  refine own_st (fun t k => XS.ior X252.here hx rfl (hb hby at_358) rfl k) ?_
  show OG p e _ s below _ T252 (mkF m 359 (LA0_68 q1 q2 q3 q4 q5 p6 b5 b26) [(.int (47 : Int32))])
  refine wiconst OGc 360 X252 B at_359 1 rfl rfl ?_
  refine wiload OGc 362 X252 B at_360 rfl rfl ?_
  refine own_st (fun t k => XS.ishl X252.here hx rfl (hb hby at_362) rfl k) ?_
  show OG p e _ s below _ T252 (mkF m 363 (LA0_68 q1 q2 q3 q4 q5 p6 b5 b26) [(.int (16 : Int32)), (.int (47 : Int32))])
  refine own_st (fun t k => XS.ior X252.here hx rfl (hb hby at_363) rfl k) ?_
  show OG p e _ s below _ T252 (mkF m 364 (LA0_68 q1 q2 q3 q4 q5 p6 b5 b26) [(.int (63 : Int32))])
  refine wistore OGc 366 X252 B at_364 (LA0_69 q1 q2 q3 q4 q5 p6 b5 b26) rfl rfl ?_
  refine wiload OGc 368 X252 B at_366 rfl rfl ?_
  refine wifNo OGc 371 X252 B at_368 (by decide) rfl ?_
  refine wiload OGc 373 X252 B at_371 rfl rfl ?_
  refine wbipush OGc 375 X252 B at_373 63 rfl rfl ?_
  refine wicmpNo OGc 378 X252 B at_375 (by decide) rfl ?_
  refine wiconst OGc 379 X252 B at_378 1 rfl rfl ?_
  refine wgoto OGc 383 X252 B at_379 rfl ?_
  refine wistore OGc 385 X252 B at_383 (LA0_69 q1 q2 q3 q4 q5 p6 b5 b26) rfl rfl ?_
  refine waload OGc 387 X252 B at_385 rfl rfl rfl ?_
  refine wiload OGc 389 X252 B at_387 rfl rfl ?_
  refine wlaload OGc 390 X252 B hZ e252 fc0 (v := (.long (f1 q2 (f1 q4 q5)))) 0 (by decide) (by decide) rfl at_389 rfl ?_
  refine wlstore OGc 392 X252 B at_390 (LA0_70 q1 q2 q3 q4 q5 p6 b5 b26) rfl rfl ?_
  refine waload OGc 394 X252 B at_392 rfl rfl rfl ?_
  refine wiload OGc 396 X252 B at_394 rfl rfl ?_
  refine wlaload OGc 397 X252 B hZ e252 fc0 (v := (.long q1)) 2 (by decide) (by decide) rfl at_396 rfl ?_
  refine wlstore OGc 399 X252 B at_397 (LA0_71 q1 q2 q3 q4 q5 p6 b5 b26) rfl rfl ?_
  refine waload OGc 401 X252 B at_399 rfl rfl rfl ?_
  refine wiload OGc 403 X252 B at_401 rfl rfl ?_
  refine wlaload OGc 404 X252 B hZ e252 fc0 (v := (.long (g0_3 q1 q2 q3 q4 q5 p6))) 5 (by decide) (by decide) rfl at_403 rfl ?_
  refine wlstore OGc 406 X252 B at_404 (LA0_72 q1 q2 q3 q4 q5 p6 b5 b26) rfl rfl ?_
  refine waload OGc 408 X252 B at_406 rfl rfl rfl ?_
  refine wiload OGc 410 X252 B at_408 rfl rfl ?_
  refine wlaload OGc 411 X252 B hZ e252 fc0 (v := (.long q4)) 1 (by decide) (by decide) rfl at_410 rfl ?_
  refine wlstore OGc 413 X252 B at_411 (LA0_73 q1 q2 q3 q4 q5 p6 b5 b26) rfl rfl ?_
  refine waload OGc 415 X252 B at_413 rfl rfl rfl ?_
  refine wiload OGc 417 X252 B at_415 rfl rfl ?_
  refine wlaload OGc 418 X252 B hZ e252 fc0 (v := (.long q5)) 3 (by decide) (by decide) rfl at_417 rfl ?_
  refine wlstore OGc 420 X252 B at_418 (LA0_74 q1 q2 q3 q4 q5 p6 b5 b26) rfl rfl ?_
  refine waload OGc 422 X252 B at_420 rfl rfl rfl ?_
  refine wiload OGc 424 X252 B at_422 rfl rfl ?_
  refine wlaload OGc 425 X252 B hZ e252 fc0 (v := (.long (g0_2 q1 q2 q3 q4 q5 p6))) 4 (by decide) (by decide) rfl at_424 rfl ?_
  refine wlstore OGc 427 X252 B at_425 (LA0_75 q1 q2 q3 q4 q5 p6 b5 b26) rfl rfl ?_
  refine wiload OGc 429 X252 B at_427 rfl rfl ?_
  refine wifNo OGc 432 X252 B at_429 (by decide) rfl ?_
  refine wlload OGc 434 X252 B at_432 rfl rfl ?_
  refine wlload OGc 436 X252 B at_434 rfl rfl ?_
  refine wlcmp OGc 437 X252 B at_436 rfl ?_
  by_cases c259 : q1 < (f1 q2 (f1 q4 q5))
  · refine wifYes OGc 476 X252 B at_437 (own_if0 (tlt ((lw_gt _ _).mpr c259)).2.2.1) rfl ?_
    refine wiconst OGc 477 X252 B at_476 0 rfl rfl ?_
    refine wistore OGc 479 X252 B at_477 (LA0_76 q1 q2 q3 q4 q5 p6 b5 b26) rfl rfl ?_
    refine wiload OGc 481 X252 B at_479 rfl rfl ?_
    refine wiconst OGc 482 X252 B at_481 1 rfl rfl ?_
    refine wicmpYes OGc 518 X252 B at_482 (by decide) rfl ?_
    refine wiload OGc 520 X252 B at_518 rfl rfl ?_
    refine wiconst OGc 521 X252 B at_520 2 rfl rfl ?_
    refine wicmpYes OGc 562 X252 B at_521 (by decide) rfl ?_
    refine wiload OGc 564 X252 B at_562 rfl rfl ?_
    refine wiconst OGc 565 X252 B at_564 3 rfl rfl ?_
    refine wicmpYes OGc 615 X252 B at_565 (by decide) rfl ?_
    refine wiload OGc 617 X252 B at_615 rfl rfl ?_
    refine own_retZ X252 hx (t := .boolean) hret (by simp) hlk (hb hby at_617) (by decide) (by decide) (w := (0 : Int32)) rfl ?_
    exact ⟨congrArg (fun z => some (Value.int z)) (show f0 q1 q2 q3 q4 q5 p6 = (0 : Int32) from (by rw [f0, if_pos c1, if_pos c79, if_neg c80, if_neg c81, if_neg c82, if_pos c259])).symm, N252⟩
  · refine wifNo OGc 440 X252 B at_437 (own_if0 (flt (fun q => c259 ((lw_gt _ _).mp q))).2.2.1) rfl ?_
    refine wlload OGc 442 X252 B at_440 rfl rfl ?_
    refine wlload OGc 444 X252 B at_442 rfl rfl ?_
    refine wlcmp OGc 445 X252 B at_444 rfl ?_
    refine wifNo OGc 448 X252 B at_445 (own_if0 (flt (fun q => c80 ((lw_gt _ _).mp q))).2.2.1) rfl ?_
    refine wlload OGc 450 X252 B at_448 rfl rfl ?_
    refine wlload OGc 452 X252 B at_450 rfl rfl ?_
    refine wlcmp OGc 453 X252 B at_452 rfl ?_
    refine wifNo OGc 456 X252 B at_453 (own_if0 (flt (fun q => c81 ((lw_gt _ _).mp q))).2.2.1) rfl ?_
    refine wlload OGc 458 X252 B at_456 rfl rfl ?_
    refine wlload OGc 460 X252 B at_458 rfl rfl ?_
    refine wlcmp OGc 461 X252 B at_460 rfl ?_
    refine wifNo OGc 464 X252 B at_461 (own_if0 (flt (fun q => c82 ((lw_gt _ _).mp q))).2.2.1) rfl ?_
    refine wlload OGc 466 X252 B at_464 rfl rfl ?_
    refine wlload OGc 468 X252 B at_466 rfl rfl ?_
    refine wlcmp OGc 469 X252 B at_468 rfl ?_
    by_cases c260 : (g0_2 q1 q2 q3 q4 q5 p6) < (g0_3 q1 q2 q3 q4 q5 p6)
    · refine wifYes OGc 476 X252 B at_469 (own_if0 (tlt ((lw_gt _ _).mpr c260)).2.2.1) rfl ?_
      refine wiconst OGc 477 X252 B at_476 0 rfl rfl ?_
      refine wistore OGc 479 X252 B at_477 (LA0_76 q1 q2 q3 q4 q5 p6 b5 b26) rfl rfl ?_
      refine wiload OGc 481 X252 B at_479 rfl rfl ?_
      refine wiconst OGc 482 X252 B at_481 1 rfl rfl ?_
      refine wicmpYes OGc 518 X252 B at_482 (by decide) rfl ?_
      refine wiload OGc 520 X252 B at_518 rfl rfl ?_
      refine wiconst OGc 521 X252 B at_520 2 rfl rfl ?_
      refine wicmpYes OGc 562 X252 B at_521 (by decide) rfl ?_
      refine wiload OGc 564 X252 B at_562 rfl rfl ?_
      refine wiconst OGc 565 X252 B at_564 3 rfl rfl ?_
      refine wicmpYes OGc 615 X252 B at_565 (by decide) rfl ?_
      refine wiload OGc 617 X252 B at_615 rfl rfl ?_
      refine own_retZ X252 hx (t := .boolean) hret (by simp) hlk (hb hby at_617) (by decide) (by decide) (w := (0 : Int32)) rfl ?_
      exact ⟨congrArg (fun z => some (Value.int z)) (show f0 q1 q2 q3 q4 q5 p6 = (0 : Int32) from (by rw [f0, if_pos c1, if_pos c79, if_neg c80, if_neg c81, if_neg c82, if_neg c259, if_pos c260])).symm, N252⟩
    · refine wifNo OGc 472 X252 B at_469 (own_if0 (flt (fun q => c260 ((lw_gt _ _).mp q))).2.2.1) rfl ?_
      refine wiconst OGc 473 X252 B at_472 1 rfl rfl ?_
      refine wgoto OGc 477 X252 B at_473 rfl ?_
      refine wistore OGc 479 X252 B at_477 (LA0_75 q1 q2 q3 q4 q5 p6 b5 b26) rfl rfl ?_
      refine wiload OGc 481 X252 B at_479 rfl rfl ?_
      refine wiconst OGc 482 X252 B at_481 1 rfl rfl ?_
      refine wicmpYes OGc 518 X252 B at_482 (by decide) rfl ?_
      refine wiload OGc 520 X252 B at_518 rfl rfl ?_
      refine wiconst OGc 521 X252 B at_520 2 rfl rfl ?_
      refine wicmpYes OGc 562 X252 B at_521 (by decide) rfl ?_
      refine wiload OGc 564 X252 B at_562 rfl rfl ?_
      refine wiconst OGc 565 X252 B at_564 3 rfl rfl ?_
      refine wicmpYes OGc 615 X252 B at_565 (by decide) rfl ?_
      refine wiload OGc 617 X252 B at_615 rfl rfl ?_
      refine own_retZ X252 hx (t := .boolean) hret (by simp) hlk (hb hby at_617) (by decide) (by decide) (w := (1 : Int32)) rfl ?_
      exact ⟨congrArg (fun z => some (Value.int z)) (show f0 q1 q2 q3 q4 q5 p6 = (1 : Int32) from (by rw [f0, if_pos c1, if_pos c79, if_neg c80, if_neg c81, if_neg c82, if_neg c259, if_neg c260])).symm, N252⟩
set_option maxRecDepth 65536 in
set_option maxHeartbeats 40000000 in
theorem tl0_8 (l : Launch) (Z : State) (a0 : Array Value) (hw : ∀ d ∈ tables_1, d.before a0 Z = true) (q1 : Int64) (q2 : Int64) (q3 : Int64) (q4 : Int64) (q5 : Int64) (p6 : Int32) (h0 : Heap) (n0 : Nat) (Z0 : n0 ≤ h0.size) (p : Program) (e : Env) (s : State) (m : MethodId) (below : List Frame) (meth : Method) (c : Code) (hx : p.tables.exec = Jvm.exec) (hby : c.code = code) (hml : c.maxLocals = 46) (hown : s.vm.findClass "com/example/fragmark/fragmark/PhraseMatcherSiftDownPinLaw" = some m.cls) (hret : meth.sig.returnType = ret) (hlk : meth.locks = false) (hZ : Z.Warmed39 s.vm) (b26 : Addr) (b5 : Addr) (T54 : State) (locs : List Loc) (xc : Stand p l e room_1 s m #[(.long q1), (.long q2), (.long q3), (.long q4), (.long q5), (.int p6)] below meth c T54 locs 2 12)   (nc : Fr n0 locs) (kc : Keep h0 T54.heap []) (gc_b26 : n0 ≤ b26) (gc_b5 : n0 ≤ b5) (sc_b26 : h0.size ≤ b26) (sc_b5 : h0.size ≤ b5) (xc_b5_b26 : b5 ≠ b26) (fc0 : OA Z T54.heap b26 .long [(.long (f1 q2 (f1 q4 q5))), (.long q4), (.long q1), (.long q5), (.long (g0_2 q1 q2 q3 q4 q5 p6)), (.long (g0_3 q1 q2 q3 q4 q5 p6))]) (fc1 : OA Z T54.heap b5 .int [(.int (5 : Int32)), (.int (0 : Int32)), (.int (4 : Int32)), (.int (1 : Int32)), (.int (3 : Int32)), (.int (2 : Int32))]) (c1 : (g0_1 q1 q2 q3 q4 q5 p6) = (0 : Int32)) (c84 : ¬ ((f1 q2 (f1 q4 q5)) < q1)) (c85 : (g0_3 q1 q2 q3 q4 q5 p6) < q1) (c86 : (g0_2 q1 q2 q3 q4 q5 p6) < q1) :
    OG p e room_1 s below (fun v h L => v = some (.int (f0 q1 q2 q3 q4 q5 p6)) ∧ Fr n0 L) T54 (mkF m 182 (LA0_9 q1 q2 q3 q4 q5 p6 b5 b26) []) := by
  have B := And.intro hx hby
  refine waload OGc 184 xc B at_182 rfl rfl rfl ?_
  refine wiconst OGc 185 xc B at_184 2 rfl rfl ?_
  refine wlaload OGc 186 xc B hZ rfl fc0 (v := (.long q1)) 2 (by decide) (by decide) rfl at_185 rfl ?_
  refine wlload OGc 188 xc B at_186 rfl rfl ?_
  refine wlcmp OGc 189 xc B at_188 rfl ?_
  refine wifNo OGc 192 xc B at_189 (own_if0 (teq ((lw_eq _ _).mpr rfl)).2) rfl ?_
  refine waload OGc 194 xc B at_192 rfl rfl rfl ?_
  refine wiconst OGc 195 xc B at_194 0 rfl rfl ?_
  refine wlaload OGc 196 xc B hZ rfl fc0 (v := (.long (f1 q2 (f1 q4 q5)))) 0 (by decide) (by decide) rfl at_195 rfl ?_
  refine wlload OGc 198 xc B at_196 rfl rfl ?_
  refine wlcmp OGc 199 xc B at_198 rfl ?_
  refine wifNo OGc 202 xc B at_199 (own_if0 (teq ((lw_eq _ _).mpr rfl)).2) rfl ?_
  refine waload OGc 204 xc B at_202 rfl rfl rfl ?_
  refine wiconst OGc 205 xc B at_204 5 rfl rfl ?_
  refine wlaload OGc 206 xc B hZ rfl fc0 (v := (.long (g0_3 q1 q2 q3 q4 q5 p6))) 5 (by decide) (by decide) rfl at_205 rfl ?_
  refine wlload OGc 208 xc B at_206 rfl rfl ?_
  refine wlcmp OGc 209 xc B at_208 rfl ?_
  refine wifNo OGc 212 xc B at_209 (own_if0 (teq ((lw_eq _ _).mpr rfl)).2) rfl ?_
  refine waload OGc 214 xc B at_212 rfl rfl rfl ?_
  refine wiconst OGc 215 xc B at_214 1 rfl rfl ?_
  refine wlaload OGc 216 xc B hZ rfl fc0 (v := (.long q4)) 1 (by decide) (by decide) rfl at_215 rfl ?_
  refine wlload OGc 218 xc B at_216 rfl rfl ?_
  refine wlcmp OGc 219 xc B at_218 rfl ?_
  refine wifNo OGc 222 xc B at_219 (own_if0 (teq ((lw_eq _ _).mpr rfl)).2) rfl ?_
  refine waload OGc 224 xc B at_222 rfl rfl rfl ?_
  refine wiconst OGc 225 xc B at_224 3 rfl rfl ?_
  refine wlaload OGc 226 xc B hZ rfl fc0 (v := (.long q5)) 3 (by decide) (by decide) rfl at_225 rfl ?_
  refine wlload OGc 228 xc B at_226 rfl rfl ?_
  refine wlcmp OGc 229 xc B at_228 rfl ?_
  refine wifNo OGc 232 xc B at_229 (own_if0 (teq ((lw_eq _ _).mpr rfl)).2) rfl ?_
  refine waload OGc 234 xc B at_232 rfl rfl rfl ?_
  refine wiconst OGc 235 xc B at_234 4 rfl rfl ?_
  refine wlaload OGc 236 xc B hZ rfl fc0 (v := (.long (g0_2 q1 q2 q3 q4 q5 p6))) 4 (by decide) (by decide) rfl at_235 rfl ?_
  refine wlload OGc 238 xc B at_236 rfl rfl ?_
  refine wlcmp OGc 239 xc B at_238 rfl ?_
  refine wifNo OGc 242 xc B at_239 (own_if0 (teq ((lw_eq _ _).mpr rfl)).2) rfl ?_
  refine wiconst OGc 243 xc B at_242 1 rfl rfl ?_
  refine wgoto OGc 247 xc B at_243 rfl ?_
  refine wistore OGc 249 xc B at_247 (LA0_10 q1 q2 q3 q4 q5 p6 b5 b26) rfl rfl ?_
  refine waload OGc 251 xc B at_249 rfl rfl rfl ?_
  refine wiconst OGc 252 xc B at_251 0 rfl rfl ?_
  refine wiaload OGc 253 xc B hZ rfl fc1 (v := (.int (5 : Int32))) 0 (by decide) (by decide) rfl at_252 rfl ?_
  refine wistore OGc 255 xc B at_253 (LA0_11 q1 q2 q3 q4 q5 p6 b5 b26) rfl rfl ?_
  refine waload OGc 257 xc B at_255 rfl rfl rfl ?_
  refine wiconst OGc 258 xc B at_257 1 rfl rfl ?_
  refine wiaload OGc 259 xc B hZ rfl fc1 (v := (.int (0 : Int32))) 1 (by decide) (by decide) rfl at_258 rfl ?_
  refine wistore OGc 261 xc B at_259 (LA0_12 q1 q2 q3 q4 q5 p6 b5 b26) rfl rfl ?_
  refine waload OGc 263 xc B at_261 rfl rfl rfl ?_
  refine wiconst OGc 264 xc B at_263 2 rfl rfl ?_
  refine wiaload OGc 265 xc B hZ rfl fc1 (v := (.int (4 : Int32))) 2 (by decide) (by decide) rfl at_264 rfl ?_
  refine wistore OGc 267 xc B at_265 (LA0_13 q1 q2 q3 q4 q5 p6 b5 b26) rfl rfl ?_
  refine waload OGc 269 xc B at_267 rfl rfl rfl ?_
  refine wiconst OGc 270 xc B at_269 3 rfl rfl ?_
  refine wiaload OGc 271 xc B hZ rfl fc1 (v := (.int (1 : Int32))) 3 (by decide) (by decide) rfl at_270 rfl ?_
  refine wistore OGc 273 xc B at_271 (LA0_14 q1 q2 q3 q4 q5 p6 b5 b26) rfl rfl ?_
  refine waload OGc 275 xc B at_273 rfl rfl rfl ?_
  refine wiconst OGc 276 xc B at_275 4 rfl rfl ?_
  refine wiaload OGc 277 xc B hZ rfl fc1 (v := (.int (3 : Int32))) 4 (by decide) (by decide) rfl at_276 rfl ?_
  refine wistore OGc 279 xc B at_277 (LA0_15 q1 q2 q3 q4 q5 p6 b5 b26) rfl rfl ?_
  refine waload OGc 281 xc B at_279 rfl rfl rfl ?_
  refine wiconst OGc 282 xc B at_281 5 rfl rfl ?_
  refine wiaload OGc 283 xc B hZ rfl fc1 (v := (.int (2 : Int32))) 5 (by decide) (by decide) rfl at_282 rfl ?_
  refine wistore OGc 285 xc B at_283 (LA0_16 q1 q2 q3 q4 q5 p6 b5 b26) rfl rfl ?_
  refine wiload OGc 287 xc B at_285 rfl rfl ?_
  refine wstat OGc 290 xc B hZ hown (ow hw 10 rfl) (ow hw 11 rfl) (ow hw 13 rfl) (ow hw 12 rfl) rfl (rm3 l Z a0 hw [] (5 : Int32) T54.heap) 0 (by decide) (by decide) hml rfl (lenOf pd__I_Z rfl) [] rfl rfl at_287 rfl fun _ T273 L273 X273 hQ273 => ?_
  obtain ⟨rfl, rfl, e273⟩ := hQ273
  have N273 := Fr.app nc (Fr.nil n0)
  refine own_stk (S' := [(.int (f3 (5 : Int32)))]) rfl ?_
  refine wifNo OGc 293 X273 B at_290 (own_if0 (feq (by decide)).1) rfl ?_
  refine wiload OGc 295 X273 B at_293 rfl rfl ?_
  refine wstat OGc 298 X273 B hZ hown (ow hw 10 rfl) (ow hw 11 rfl) (ow hw 13 rfl) (ow hw 12 rfl) e273 (rm3 l Z a0 hw [] (0 : Int32) T54.heap) 0 (by decide) (by decide) hml rfl (lenOf pd__I_Z rfl) [] rfl rfl at_295 rfl fun _ T274 L274 X274 hQ274 => ?_
  obtain ⟨rfl, rfl, e274⟩ := hQ274
  have N274 := Fr.app N273 (Fr.nil n0)
  refine own_stk (S' := [(.int (f3 (0 : Int32)))]) rfl ?_
  refine wifNo OGc 301 X274 B at_298 (own_if0 (feq (by decide)).1) rfl ?_
  refine wiload OGc 303 X274 B at_301 rfl rfl ?_
  refine wstat OGc 306 X274 B hZ hown (ow hw 10 rfl) (ow hw 11 rfl) (ow hw 13 rfl) (ow hw 12 rfl) e274 (rm3 l Z a0 hw [] (4 : Int32) T54.heap) 0 (by decide) (by decide) hml rfl (lenOf pd__I_Z rfl) [] rfl rfl at_303 rfl fun _ T275 L275 X275 hQ275 => ?_
  obtain ⟨rfl, rfl, e275⟩ := hQ275
  have N275 := Fr.app N274 (Fr.nil n0)
  refine own_stk (S' := [(.int (f3 (4 : Int32)))]) rfl ?_
  refine wifNo OGc 309 X275 B at_306 (own_if0 (feq (by decide)).1) rfl ?_
  refine wiload OGc 311 X275 B at_309 rfl rfl ?_
  refine wstat OGc 314 X275 B hZ hown (ow hw 10 rfl) (ow hw 11 rfl) (ow hw 13 rfl) (ow hw 12 rfl) e275 (rm3 l Z a0 hw [] (1 : Int32) T54.heap) 0 (by decide) (by decide) hml rfl (lenOf pd__I_Z rfl) [] rfl rfl at_311 rfl fun _ T276 L276 X276 hQ276 => ?_
  obtain ⟨rfl, rfl, e276⟩ := hQ276
  have N276 := Fr.app N275 (Fr.nil n0)
  refine own_stk (S' := [(.int (f3 (1 : Int32)))]) rfl ?_
  refine wifNo OGc 317 X276 B at_314 (own_if0 (feq (by decide)).1) rfl ?_
  refine wiload OGc 319 X276 B at_317 rfl rfl ?_
  refine wstat OGc 322 X276 B hZ hown (ow hw 10 rfl) (ow hw 11 rfl) (ow hw 13 rfl) (ow hw 12 rfl) e276 (rm3 l Z a0 hw [] (3 : Int32) T54.heap) 0 (by decide) (by decide) hml rfl (lenOf pd__I_Z rfl) [] rfl rfl at_319 rfl fun _ T277 L277 X277 hQ277 => ?_
  obtain ⟨rfl, rfl, e277⟩ := hQ277
  have N277 := Fr.app N276 (Fr.nil n0)
  refine own_stk (S' := [(.int (f3 (3 : Int32)))]) rfl ?_
  refine wifNo OGc 325 X277 B at_322 (own_if0 (feq (by decide)).1) rfl ?_
  refine wiload OGc 327 X277 B at_325 rfl rfl ?_
  refine wstat OGc 330 X277 B hZ hown (ow hw 10 rfl) (ow hw 11 rfl) (ow hw 13 rfl) (ow hw 12 rfl) e277 (rm3 l Z a0 hw [] (2 : Int32) T54.heap) 0 (by decide) (by decide) hml rfl (lenOf pd__I_Z rfl) [] rfl rfl at_327 rfl fun _ T278 L278 X278 hQ278 => ?_
  obtain ⟨rfl, rfl, e278⟩ := hQ278
  have N278 := Fr.app N277 (Fr.nil n0)
  refine own_stk (S' := [(.int (f3 (2 : Int32)))]) rfl ?_
  refine wifYes OGc 335 X278 B at_330 (own_if0 (feq (by decide)).2) rfl ?_
  refine wiconst OGc 336 X278 B at_335 1 rfl rfl ?_
  refine wiload OGc 338 X278 B at_336 rfl rfl ?_
  refine own_st (fun t k => XS.ishl X278.here hx rfl (hb hby at_338) rfl k) ?_
  show OG p e _ s below _ T278 (mkF m 339 (LA0_16 q1 q2 q3 q4 q5 p6 b5 b26) [(.int (32 : Int32))])
  refine wiconst OGc 340 X278 B at_339 1 rfl rfl ?_
  refine wiload OGc 342 X278 B at_340 rfl rfl ?_
  refine own_st (fun t k => XS.ishl X278.here hx rfl (hb hby at_342) rfl k) ?_
  show OG p e _ s below _ T278 (mkF m 343 (LA0_16 q1 q2 q3 q4 q5 p6 b5 b26) [(.int (1 : Int32)), (.int (32 : Int32))])
  refine own_st (fun t k => XS.ior X278.here hx rfl (hb hby at_343) rfl k) ?_
  show OG p e _ s below _ T278 (mkF m 344 (LA0_16 q1 q2 q3 q4 q5 p6 b5 b26) [(.int (33 : Int32))])
  refine wiconst OGc 345 X278 B at_344 1 rfl rfl ?_
  refine wiload OGc 347 X278 B at_345 rfl rfl ?_
  refine own_st (fun t k => XS.ishl X278.here hx rfl (hb hby at_347) rfl k) ?_
  show OG p e _ s below _ T278 (mkF m 348 (LA0_16 q1 q2 q3 q4 q5 p6 b5 b26) [(.int (16 : Int32)), (.int (33 : Int32))])
  refine own_st (fun t k => XS.ior X278.here hx rfl (hb hby at_348) rfl k) ?_
  show OG p e _ s below _ T278 (mkF m 349 (LA0_16 q1 q2 q3 q4 q5 p6 b5 b26) [(.int (49 : Int32))])
  refine wiconst OGc 350 X278 B at_349 1 rfl rfl ?_
  refine wiload OGc 352 X278 B at_350 rfl rfl ?_
  refine own_st (fun t k => XS.ishl X278.here hx rfl (hb hby at_352) rfl k) ?_
  show OG p e _ s below _ T278 (mkF m 353 (LA0_16 q1 q2 q3 q4 q5 p6 b5 b26) [(.int (2 : Int32)), (.int (49 : Int32))])
  refine own_st (fun t k => XS.ior X278.here hx rfl (hb hby at_353) rfl k) ?_
  show OG p e _ s below _ T278 (mkF m 354 (LA0_16 q1 q2 q3 q4 q5 p6 b5 b26) [(.int (51 : Int32))])
  refine wiconst OGc 355 X278 B at_354 1 rfl rfl ?_
  refine wiload OGc 357 X278 B at_355 rfl rfl ?_
  refine own_st (fun t k => XS.ishl X278.here hx rfl (hb hby at_357) rfl k) ?_
  show OG p e _ s below _ T278 (mkF m 358 (LA0_16 q1 q2 q3 q4 q5 p6 b5 b26) [(.int (8 : Int32)), (.int (51 : Int32))])
  refine own_st (fun t k => XS.ior X278.here hx rfl (hb hby at_358) rfl k) ?_
  show OG p e _ s below _ T278 (mkF m 359 (LA0_16 q1 q2 q3 q4 q5 p6 b5 b26) [(.int (59 : Int32))])
  refine wiconst OGc 360 X278 B at_359 1 rfl rfl ?_
  refine wiload OGc 362 X278 B at_360 rfl rfl ?_
  refine own_st (fun t k => XS.ishl X278.here hx rfl (hb hby at_362) rfl k) ?_
  show OG p e _ s below _ T278 (mkF m 363 (LA0_16 q1 q2 q3 q4 q5 p6 b5 b26) [(.int (4 : Int32)), (.int (59 : Int32))])
  refine own_st (fun t k => XS.ior X278.here hx rfl (hb hby at_363) rfl k) ?_
  show OG p e _ s below _ T278 (mkF m 364 (LA0_16 q1 q2 q3 q4 q5 p6 b5 b26) [(.int (63 : Int32))])
  refine wistore OGc 366 X278 B at_364 (LA0_17 q1 q2 q3 q4 q5 p6 b5 b26) rfl rfl ?_
  refine wiload OGc 368 X278 B at_366 rfl rfl ?_
  refine wifNo OGc 371 X278 B at_368 (by decide) rfl ?_
  refine wiload OGc 373 X278 B at_371 rfl rfl ?_
  refine wbipush OGc 375 X278 B at_373 63 rfl rfl ?_
  refine wicmpNo OGc 378 X278 B at_375 (by decide) rfl ?_
  refine wiconst OGc 379 X278 B at_378 1 rfl rfl ?_
  refine wgoto OGc 383 X278 B at_379 rfl ?_
  refine wistore OGc 385 X278 B at_383 (LA0_17 q1 q2 q3 q4 q5 p6 b5 b26) rfl rfl ?_
  refine waload OGc 387 X278 B at_385 rfl rfl rfl ?_
  refine wiload OGc 389 X278 B at_387 rfl rfl ?_
  refine wlaload OGc 390 X278 B hZ e278 fc0 (v := (.long (g0_3 q1 q2 q3 q4 q5 p6))) 5 (by decide) (by decide) rfl at_389 rfl ?_
  refine wlstore OGc 392 X278 B at_390 (LA0_18 q1 q2 q3 q4 q5 p6 b5 b26) rfl rfl ?_
  refine waload OGc 394 X278 B at_392 rfl rfl rfl ?_
  refine wiload OGc 396 X278 B at_394 rfl rfl ?_
  refine wlaload OGc 397 X278 B hZ e278 fc0 (v := (.long (f1 q2 (f1 q4 q5)))) 0 (by decide) (by decide) rfl at_396 rfl ?_
  refine wlstore OGc 399 X278 B at_397 (LA0_19 q1 q2 q3 q4 q5 p6 b5 b26) rfl rfl ?_
  refine waload OGc 401 X278 B at_399 rfl rfl rfl ?_
  refine wiload OGc 403 X278 B at_401 rfl rfl ?_
  refine wlaload OGc 404 X278 B hZ e278 fc0 (v := (.long (g0_2 q1 q2 q3 q4 q5 p6))) 4 (by decide) (by decide) rfl at_403 rfl ?_
  refine wlstore OGc 406 X278 B at_404 (LA0_20 q1 q2 q3 q4 q5 p6 b5 b26) rfl rfl ?_
  refine waload OGc 408 X278 B at_406 rfl rfl rfl ?_
  refine wiload OGc 410 X278 B at_408 rfl rfl ?_
  refine wlaload OGc 411 X278 B hZ e278 fc0 (v := (.long q4)) 1 (by decide) (by decide) rfl at_410 rfl ?_
  refine wlstore OGc 413 X278 B at_411 (LA0_21 q1 q2 q3 q4 q5 p6 b5 b26) rfl rfl ?_
  refine waload OGc 415 X278 B at_413 rfl rfl rfl ?_
  refine wiload OGc 417 X278 B at_415 rfl rfl ?_
  refine wlaload OGc 418 X278 B hZ e278 fc0 (v := (.long q5)) 3 (by decide) (by decide) rfl at_417 rfl ?_
  refine wlstore OGc 420 X278 B at_418 (LA0_22 q1 q2 q3 q4 q5 p6 b5 b26) rfl rfl ?_
  refine waload OGc 422 X278 B at_420 rfl rfl rfl ?_
  refine wiload OGc 424 X278 B at_422 rfl rfl ?_
  refine wlaload OGc 425 X278 B hZ e278 fc0 (v := (.long q1)) 2 (by decide) (by decide) rfl at_424 rfl ?_
  refine wlstore OGc 427 X278 B at_425 (LA0_23 q1 q2 q3 q4 q5 p6 b5 b26) rfl rfl ?_
  refine wiload OGc 429 X278 B at_427 rfl rfl ?_
  refine wifNo OGc 432 X278 B at_429 (by decide) rfl ?_
  refine wlload OGc 434 X278 B at_432 rfl rfl ?_
  refine wlload OGc 436 X278 B at_434 rfl rfl ?_
  refine wlcmp OGc 437 X278 B at_436 rfl ?_
  by_cases c285 : (f1 q2 (f1 q4 q5)) < (g0_3 q1 q2 q3 q4 q5 p6)
  · refine wifYes OGc 476 X278 B at_437 (own_if0 (tlt ((lw_gt _ _).mpr c285)).2.2.1) rfl ?_
    refine wiconst OGc 477 X278 B at_476 0 rfl rfl ?_
    refine wistore OGc 479 X278 B at_477 (LA0_24 q1 q2 q3 q4 q5 p6 b5 b26) rfl rfl ?_
    refine wiload OGc 481 X278 B at_479 rfl rfl ?_
    refine wiconst OGc 482 X278 B at_481 1 rfl rfl ?_
    refine wicmpYes OGc 518 X278 B at_482 (by decide) rfl ?_
    refine wiload OGc 520 X278 B at_518 rfl rfl ?_
    refine wiconst OGc 521 X278 B at_520 2 rfl rfl ?_
    refine wicmpYes OGc 562 X278 B at_521 (by decide) rfl ?_
    refine wiload OGc 564 X278 B at_562 rfl rfl ?_
    refine wiconst OGc 565 X278 B at_564 3 rfl rfl ?_
    refine wicmpYes OGc 615 X278 B at_565 (by decide) rfl ?_
    refine wiload OGc 617 X278 B at_615 rfl rfl ?_
    refine own_retZ X278 hx (t := .boolean) hret (by simp) hlk (hb hby at_617) (by decide) (by decide) (w := (0 : Int32)) rfl ?_
    exact ⟨congrArg (fun z => some (Value.int z)) (show f0 q1 q2 q3 q4 q5 p6 = (0 : Int32) from (by rw [f0, if_pos c1, if_neg c84, if_pos c85, if_pos c86, if_pos c285])).symm, N278⟩
  · refine wifNo OGc 440 X278 B at_437 (own_if0 (flt (fun q => c285 ((lw_gt _ _).mp q))).2.2.1) rfl ?_
    refine wlload OGc 442 X278 B at_440 rfl rfl ?_
    refine wlload OGc 444 X278 B at_442 rfl rfl ?_
    refine wlcmp OGc 445 X278 B at_444 rfl ?_
    by_cases c286 : (g0_2 q1 q2 q3 q4 q5 p6) < (g0_3 q1 q2 q3 q4 q5 p6)
    · refine wifYes OGc 476 X278 B at_445 (own_if0 (tlt ((lw_gt _ _).mpr c286)).2.2.1) rfl ?_
      refine wiconst OGc 477 X278 B at_476 0 rfl rfl ?_
      refine wistore OGc 479 X278 B at_477 (LA0_24 q1 q2 q3 q4 q5 p6 b5 b26) rfl rfl ?_
      refine wiload OGc 481 X278 B at_479 rfl rfl ?_
      refine wiconst OGc 482 X278 B at_481 1 rfl rfl ?_
      refine wicmpYes OGc 518 X278 B at_482 (by decide) rfl ?_
      refine wiload OGc 520 X278 B at_518 rfl rfl ?_
      refine wiconst OGc 521 X278 B at_520 2 rfl rfl ?_
      refine wicmpYes OGc 562 X278 B at_521 (by decide) rfl ?_
      refine wiload OGc 564 X278 B at_562 rfl rfl ?_
      refine wiconst OGc 565 X278 B at_564 3 rfl rfl ?_
      refine wicmpYes OGc 615 X278 B at_565 (by decide) rfl ?_
      refine wiload OGc 617 X278 B at_615 rfl rfl ?_
      refine own_retZ X278 hx (t := .boolean) hret (by simp) hlk (hb hby at_617) (by decide) (by decide) (w := (0 : Int32)) rfl ?_
      exact ⟨congrArg (fun z => some (Value.int z)) (show f0 q1 q2 q3 q4 q5 p6 = (0 : Int32) from (by rw [f0, if_pos c1, if_neg c84, if_pos c85, if_pos c86, if_neg c285, if_pos c286])).symm, N278⟩
    · refine wifNo OGc 448 X278 B at_445 (own_if0 (flt (fun q => c286 ((lw_gt _ _).mp q))).2.2.1) rfl ?_
      refine wlload OGc 450 X278 B at_448 rfl rfl ?_
      refine wlload OGc 452 X278 B at_450 rfl rfl ?_
      refine wlcmp OGc 453 X278 B at_452 rfl ?_
      by_cases c287 : q4 < (f1 q2 (f1 q4 q5))
      · refine wifYes OGc 476 X278 B at_453 (own_if0 (tlt ((lw_gt _ _).mpr c287)).2.2.1) rfl ?_
        refine wiconst OGc 477 X278 B at_476 0 rfl rfl ?_
        refine wistore OGc 479 X278 B at_477 (LA0_24 q1 q2 q3 q4 q5 p6 b5 b26) rfl rfl ?_
        refine wiload OGc 481 X278 B at_479 rfl rfl ?_
        refine wiconst OGc 482 X278 B at_481 1 rfl rfl ?_
        refine wicmpYes OGc 518 X278 B at_482 (by decide) rfl ?_
        refine wiload OGc 520 X278 B at_518 rfl rfl ?_
        refine wiconst OGc 521 X278 B at_520 2 rfl rfl ?_
        refine wicmpYes OGc 562 X278 B at_521 (by decide) rfl ?_
        refine wiload OGc 564 X278 B at_562 rfl rfl ?_
        refine wiconst OGc 565 X278 B at_564 3 rfl rfl ?_
        refine wicmpYes OGc 615 X278 B at_565 (by decide) rfl ?_
        refine wiload OGc 617 X278 B at_615 rfl rfl ?_
        refine own_retZ X278 hx (t := .boolean) hret (by simp) hlk (hb hby at_617) (by decide) (by decide) (w := (0 : Int32)) rfl ?_
        exact ⟨congrArg (fun z => some (Value.int z)) (show f0 q1 q2 q3 q4 q5 p6 = (0 : Int32) from (by rw [f0, if_pos c1, if_neg c84, if_pos c85, if_pos c86, if_neg c285, if_neg c286, if_pos c287])).symm, N278⟩
      · refine wifNo OGc 456 X278 B at_453 (own_if0 (flt (fun q => c287 ((lw_gt _ _).mp q))).2.2.1) rfl ?_
        refine wlload OGc 458 X278 B at_456 rfl rfl ?_
        refine wlload OGc 460 X278 B at_458 rfl rfl ?_
        refine wlcmp OGc 461 X278 B at_460 rfl ?_
        by_cases c288 : q5 < (f1 q2 (f1 q4 q5))
        · refine wifYes OGc 476 X278 B at_461 (own_if0 (tlt ((lw_gt _ _).mpr c288)).2.2.1) rfl ?_
          refine wiconst OGc 477 X278 B at_476 0 rfl rfl ?_
          refine wistore OGc 479 X278 B at_477 (LA0_24 q1 q2 q3 q4 q5 p6 b5 b26) rfl rfl ?_
          refine wiload OGc 481 X278 B at_479 rfl rfl ?_
          refine wiconst OGc 482 X278 B at_481 1 rfl rfl ?_
          refine wicmpYes OGc 518 X278 B at_482 (by decide) rfl ?_
          refine wiload OGc 520 X278 B at_518 rfl rfl ?_
          refine wiconst OGc 521 X278 B at_520 2 rfl rfl ?_
          refine wicmpYes OGc 562 X278 B at_521 (by decide) rfl ?_
          refine wiload OGc 564 X278 B at_562 rfl rfl ?_
          refine wiconst OGc 565 X278 B at_564 3 rfl rfl ?_
          refine wicmpYes OGc 615 X278 B at_565 (by decide) rfl ?_
          refine wiload OGc 617 X278 B at_615 rfl rfl ?_
          refine own_retZ X278 hx (t := .boolean) hret (by simp) hlk (hb hby at_617) (by decide) (by decide) (w := (0 : Int32)) rfl ?_
          exact ⟨congrArg (fun z => some (Value.int z)) (show f0 q1 q2 q3 q4 q5 p6 = (0 : Int32) from (by rw [f0, if_pos c1, if_neg c84, if_pos c85, if_pos c86, if_neg c285, if_neg c286, if_neg c287, if_pos c288])).symm, N278⟩
        · refine wifNo OGc 464 X278 B at_461 (own_if0 (flt (fun q => c288 ((lw_gt _ _).mp q))).2.2.1) rfl ?_
          refine wlload OGc 466 X278 B at_464 rfl rfl ?_
          refine wlload OGc 468 X278 B at_466 rfl rfl ?_
          refine wlcmp OGc 469 X278 B at_468 rfl ?_
          by_cases c289 : q1 < (g0_2 q1 q2 q3 q4 q5 p6)
          · refine wifYes OGc 476 X278 B at_469 (own_if0 (tlt ((lw_gt _ _).mpr c289)).2.2.1) rfl ?_
            refine wiconst OGc 477 X278 B at_476 0 rfl rfl ?_
            refine wistore OGc 479 X278 B at_477 (LA0_24 q1 q2 q3 q4 q5 p6 b5 b26) rfl rfl ?_
            refine wiload OGc 481 X278 B at_479 rfl rfl ?_
            refine wiconst OGc 482 X278 B at_481 1 rfl rfl ?_
            refine wicmpYes OGc 518 X278 B at_482 (by decide) rfl ?_
            refine wiload OGc 520 X278 B at_518 rfl rfl ?_
            refine wiconst OGc 521 X278 B at_520 2 rfl rfl ?_
            refine wicmpYes OGc 562 X278 B at_521 (by decide) rfl ?_
            refine wiload OGc 564 X278 B at_562 rfl rfl ?_
            refine wiconst OGc 565 X278 B at_564 3 rfl rfl ?_
            refine wicmpYes OGc 615 X278 B at_565 (by decide) rfl ?_
            refine wiload OGc 617 X278 B at_615 rfl rfl ?_
            refine own_retZ X278 hx (t := .boolean) hret (by simp) hlk (hb hby at_617) (by decide) (by decide) (w := (0 : Int32)) rfl ?_
            exact ⟨congrArg (fun z => some (Value.int z)) (show f0 q1 q2 q3 q4 q5 p6 = (0 : Int32) from (by rw [f0, if_pos c1, if_neg c84, if_pos c85, if_pos c86, if_neg c285, if_neg c286, if_neg c287, if_neg c288, if_pos c289])).symm, N278⟩
          · refine wifNo OGc 472 X278 B at_469 (own_if0 (flt (fun q => c289 ((lw_gt _ _).mp q))).2.2.1) rfl ?_
            refine wiconst OGc 473 X278 B at_472 1 rfl rfl ?_
            refine wgoto OGc 477 X278 B at_473 rfl ?_
            refine wistore OGc 479 X278 B at_477 (LA0_23 q1 q2 q3 q4 q5 p6 b5 b26) rfl rfl ?_
            refine wiload OGc 481 X278 B at_479 rfl rfl ?_
            refine wiconst OGc 482 X278 B at_481 1 rfl rfl ?_
            refine wicmpYes OGc 518 X278 B at_482 (by decide) rfl ?_
            refine wiload OGc 520 X278 B at_518 rfl rfl ?_
            refine wiconst OGc 521 X278 B at_520 2 rfl rfl ?_
            refine wicmpYes OGc 562 X278 B at_521 (by decide) rfl ?_
            refine wiload OGc 564 X278 B at_562 rfl rfl ?_
            refine wiconst OGc 565 X278 B at_564 3 rfl rfl ?_
            refine wicmpYes OGc 615 X278 B at_565 (by decide) rfl ?_
            refine wiload OGc 617 X278 B at_615 rfl rfl ?_
            refine own_retZ X278 hx (t := .boolean) hret (by simp) hlk (hb hby at_617) (by decide) (by decide) (w := (1 : Int32)) rfl ?_
            exact ⟨congrArg (fun z => some (Value.int z)) (show f0 q1 q2 q3 q4 q5 p6 = (1 : Int32) from (by rw [f0, if_pos c1, if_neg c84, if_pos c85, if_pos c86, if_neg c285, if_neg c286, if_neg c287, if_neg c288, if_neg c289])).symm, N278⟩
set_option maxRecDepth 65536 in
set_option maxHeartbeats 40000000 in
theorem tl0_9 (l : Launch) (Z : State) (a0 : Array Value) (hw : ∀ d ∈ tables_1, d.before a0 Z = true) (q1 : Int64) (q2 : Int64) (q3 : Int64) (q4 : Int64) (q5 : Int64) (p6 : Int32) (h0 : Heap) (n0 : Nat) (Z0 : n0 ≤ h0.size) (p : Program) (e : Env) (s : State) (m : MethodId) (below : List Frame) (meth : Method) (c : Code) (hx : p.tables.exec = Jvm.exec) (hby : c.code = code) (hml : c.maxLocals = 46) (hown : s.vm.findClass "com/example/fragmark/fragmark/PhraseMatcherSiftDownPinLaw" = some m.cls) (hret : meth.sig.returnType = ret) (hlk : meth.locks = false) (hZ : Z.Warmed39 s.vm) (b26 : Addr) (b5 : Addr) (T54 : State) (locs : List Loc) (xc : Stand p l e room_1 s m #[(.long q1), (.long q2), (.long q3), (.long q4), (.long q5), (.int p6)] below meth c T54 locs 2 12)   (nc : Fr n0 locs) (kc : Keep h0 T54.heap []) (gc_b26 : n0 ≤ b26) (gc_b5 : n0 ≤ b5) (sc_b26 : h0.size ≤ b26) (sc_b5 : h0.size ≤ b5) (xc_b5_b26 : b5 ≠ b26) (fc0 : OA Z T54.heap b26 .long [(.long (f1 q2 (f1 q4 q5))), (.long q4), (.long q1), (.long q5), (.long (g0_2 q1 q2 q3 q4 q5 p6)), (.long (g0_3 q1 q2 q3 q4 q5 p6))]) (fc1 : OA Z T54.heap b5 .int [(.int (5 : Int32)), (.int (0 : Int32)), (.int (2 : Int32)), (.int (1 : Int32)), (.int (3 : Int32)), (.int (4 : Int32))]) (c1 : (g0_1 q1 q2 q3 q4 q5 p6) = (0 : Int32)) (c88 : ¬ ((f1 q2 (f1 q4 q5)) < q1)) (c89 : (g0_3 q1 q2 q3 q4 q5 p6) < q1) (c90 : ¬ ((g0_2 q1 q2 q3 q4 q5 p6) < q1)) :
    OG p e room_1 s below (fun v h L => v = some (.int (f0 q1 q2 q3 q4 q5 p6)) ∧ Fr n0 L) T54 (mkF m 182 (LA0_9 q1 q2 q3 q4 q5 p6 b5 b26) []) := by
  have B := And.intro hx hby
  refine waload OGc 184 xc B at_182 rfl rfl rfl ?_
  refine wiconst OGc 185 xc B at_184 2 rfl rfl ?_
  refine wlaload OGc 186 xc B hZ rfl fc0 (v := (.long q1)) 2 (by decide) (by decide) rfl at_185 rfl ?_
  refine wlload OGc 188 xc B at_186 rfl rfl ?_
  refine wlcmp OGc 189 xc B at_188 rfl ?_
  refine wifNo OGc 192 xc B at_189 (own_if0 (teq ((lw_eq _ _).mpr rfl)).2) rfl ?_
  refine waload OGc 194 xc B at_192 rfl rfl rfl ?_
  refine wiconst OGc 195 xc B at_194 0 rfl rfl ?_
  refine wlaload OGc 196 xc B hZ rfl fc0 (v := (.long (f1 q2 (f1 q4 q5)))) 0 (by decide) (by decide) rfl at_195 rfl ?_
  refine wlload OGc 198 xc B at_196 rfl rfl ?_
  refine wlcmp OGc 199 xc B at_198 rfl ?_
  refine wifNo OGc 202 xc B at_199 (own_if0 (teq ((lw_eq _ _).mpr rfl)).2) rfl ?_
  refine waload OGc 204 xc B at_202 rfl rfl rfl ?_
  refine wiconst OGc 205 xc B at_204 5 rfl rfl ?_
  refine wlaload OGc 206 xc B hZ rfl fc0 (v := (.long (g0_3 q1 q2 q3 q4 q5 p6))) 5 (by decide) (by decide) rfl at_205 rfl ?_
  refine wlload OGc 208 xc B at_206 rfl rfl ?_
  refine wlcmp OGc 209 xc B at_208 rfl ?_
  refine wifNo OGc 212 xc B at_209 (own_if0 (teq ((lw_eq _ _).mpr rfl)).2) rfl ?_
  refine waload OGc 214 xc B at_212 rfl rfl rfl ?_
  refine wiconst OGc 215 xc B at_214 1 rfl rfl ?_
  refine wlaload OGc 216 xc B hZ rfl fc0 (v := (.long q4)) 1 (by decide) (by decide) rfl at_215 rfl ?_
  refine wlload OGc 218 xc B at_216 rfl rfl ?_
  refine wlcmp OGc 219 xc B at_218 rfl ?_
  refine wifNo OGc 222 xc B at_219 (own_if0 (teq ((lw_eq _ _).mpr rfl)).2) rfl ?_
  refine waload OGc 224 xc B at_222 rfl rfl rfl ?_
  refine wiconst OGc 225 xc B at_224 3 rfl rfl ?_
  refine wlaload OGc 226 xc B hZ rfl fc0 (v := (.long q5)) 3 (by decide) (by decide) rfl at_225 rfl ?_
  refine wlload OGc 228 xc B at_226 rfl rfl ?_
  refine wlcmp OGc 229 xc B at_228 rfl ?_
  refine wifNo OGc 232 xc B at_229 (own_if0 (teq ((lw_eq _ _).mpr rfl)).2) rfl ?_
  refine waload OGc 234 xc B at_232 rfl rfl rfl ?_
  refine wiconst OGc 235 xc B at_234 4 rfl rfl ?_
  refine wlaload OGc 236 xc B hZ rfl fc0 (v := (.long (g0_2 q1 q2 q3 q4 q5 p6))) 4 (by decide) (by decide) rfl at_235 rfl ?_
  refine wlload OGc 238 xc B at_236 rfl rfl ?_
  refine wlcmp OGc 239 xc B at_238 rfl ?_
  refine wifNo OGc 242 xc B at_239 (own_if0 (teq ((lw_eq _ _).mpr rfl)).2) rfl ?_
  refine wiconst OGc 243 xc B at_242 1 rfl rfl ?_
  refine wgoto OGc 247 xc B at_243 rfl ?_
  refine wistore OGc 249 xc B at_247 (LA0_10 q1 q2 q3 q4 q5 p6 b5 b26) rfl rfl ?_
  refine waload OGc 251 xc B at_249 rfl rfl rfl ?_
  refine wiconst OGc 252 xc B at_251 0 rfl rfl ?_
  refine wiaload OGc 253 xc B hZ rfl fc1 (v := (.int (5 : Int32))) 0 (by decide) (by decide) rfl at_252 rfl ?_
  refine wistore OGc 255 xc B at_253 (LA0_11 q1 q2 q3 q4 q5 p6 b5 b26) rfl rfl ?_
  refine waload OGc 257 xc B at_255 rfl rfl rfl ?_
  refine wiconst OGc 258 xc B at_257 1 rfl rfl ?_
  refine wiaload OGc 259 xc B hZ rfl fc1 (v := (.int (0 : Int32))) 1 (by decide) (by decide) rfl at_258 rfl ?_
  refine wistore OGc 261 xc B at_259 (LA0_12 q1 q2 q3 q4 q5 p6 b5 b26) rfl rfl ?_
  refine waload OGc 263 xc B at_261 rfl rfl rfl ?_
  refine wiconst OGc 264 xc B at_263 2 rfl rfl ?_
  refine wiaload OGc 265 xc B hZ rfl fc1 (v := (.int (2 : Int32))) 2 (by decide) (by decide) rfl at_264 rfl ?_
  refine wistore OGc 267 xc B at_265 (LA0_25 q1 q2 q3 q4 q5 p6 b5 b26) rfl rfl ?_
  refine waload OGc 269 xc B at_267 rfl rfl rfl ?_
  refine wiconst OGc 270 xc B at_269 3 rfl rfl ?_
  refine wiaload OGc 271 xc B hZ rfl fc1 (v := (.int (1 : Int32))) 3 (by decide) (by decide) rfl at_270 rfl ?_
  refine wistore OGc 273 xc B at_271 (LA0_26 q1 q2 q3 q4 q5 p6 b5 b26) rfl rfl ?_
  refine waload OGc 275 xc B at_273 rfl rfl rfl ?_
  refine wiconst OGc 276 xc B at_275 4 rfl rfl ?_
  refine wiaload OGc 277 xc B hZ rfl fc1 (v := (.int (3 : Int32))) 4 (by decide) (by decide) rfl at_276 rfl ?_
  refine wistore OGc 279 xc B at_277 (LA0_27 q1 q2 q3 q4 q5 p6 b5 b26) rfl rfl ?_
  refine waload OGc 281 xc B at_279 rfl rfl rfl ?_
  refine wiconst OGc 282 xc B at_281 5 rfl rfl ?_
  refine wiaload OGc 283 xc B hZ rfl fc1 (v := (.int (4 : Int32))) 5 (by decide) (by decide) rfl at_282 rfl ?_
  refine wistore OGc 285 xc B at_283 (LA0_28 q1 q2 q3 q4 q5 p6 b5 b26) rfl rfl ?_
  refine wiload OGc 287 xc B at_285 rfl rfl ?_
  refine wstat OGc 290 xc B hZ hown (ow hw 10 rfl) (ow hw 11 rfl) (ow hw 13 rfl) (ow hw 12 rfl) rfl (rm3 l Z a0 hw [] (5 : Int32) T54.heap) 0 (by decide) (by decide) hml rfl (lenOf pd__I_Z rfl) [] rfl rfl at_287 rfl fun _ T302 L302 X302 hQ302 => ?_
  obtain ⟨rfl, rfl, e302⟩ := hQ302
  have N302 := Fr.app nc (Fr.nil n0)
  refine own_stk (S' := [(.int (f3 (5 : Int32)))]) rfl ?_
  refine wifNo OGc 293 X302 B at_290 (own_if0 (feq (by decide)).1) rfl ?_
  refine wiload OGc 295 X302 B at_293 rfl rfl ?_
  refine wstat OGc 298 X302 B hZ hown (ow hw 10 rfl) (ow hw 11 rfl) (ow hw 13 rfl) (ow hw 12 rfl) e302 (rm3 l Z a0 hw [] (0 : Int32) T54.heap) 0 (by decide) (by decide) hml rfl (lenOf pd__I_Z rfl) [] rfl rfl at_295 rfl fun _ T303 L303 X303 hQ303 => ?_
  obtain ⟨rfl, rfl, e303⟩ := hQ303
  have N303 := Fr.app N302 (Fr.nil n0)
  refine own_stk (S' := [(.int (f3 (0 : Int32)))]) rfl ?_
  refine wifNo OGc 301 X303 B at_298 (own_if0 (feq (by decide)).1) rfl ?_
  refine wiload OGc 303 X303 B at_301 rfl rfl ?_
  refine wstat OGc 306 X303 B hZ hown (ow hw 10 rfl) (ow hw 11 rfl) (ow hw 13 rfl) (ow hw 12 rfl) e303 (rm3 l Z a0 hw [] (2 : Int32) T54.heap) 0 (by decide) (by decide) hml rfl (lenOf pd__I_Z rfl) [] rfl rfl at_303 rfl fun _ T304 L304 X304 hQ304 => ?_
  obtain ⟨rfl, rfl, e304⟩ := hQ304
  have N304 := Fr.app N303 (Fr.nil n0)
  refine own_stk (S' := [(.int (f3 (2 : Int32)))]) rfl ?_
  refine wifNo OGc 309 X304 B at_306 (own_if0 (feq (by decide)).1) rfl ?_
  refine wiload OGc 311 X304 B at_309 rfl rfl ?_
  refine wstat OGc 314 X304 B hZ hown (ow hw 10 rfl) (ow hw 11 rfl) (ow hw 13 rfl) (ow hw 12 rfl) e304 (rm3 l Z a0 hw [] (1 : Int32) T54.heap) 0 (by decide) (by decide) hml rfl (lenOf pd__I_Z rfl) [] rfl rfl at_311 rfl fun _ T305 L305 X305 hQ305 => ?_
  obtain ⟨rfl, rfl, e305⟩ := hQ305
  have N305 := Fr.app N304 (Fr.nil n0)
  refine own_stk (S' := [(.int (f3 (1 : Int32)))]) rfl ?_
  refine wifNo OGc 317 X305 B at_314 (own_if0 (feq (by decide)).1) rfl ?_
  refine wiload OGc 319 X305 B at_317 rfl rfl ?_
  refine wstat OGc 322 X305 B hZ hown (ow hw 10 rfl) (ow hw 11 rfl) (ow hw 13 rfl) (ow hw 12 rfl) e305 (rm3 l Z a0 hw [] (3 : Int32) T54.heap) 0 (by decide) (by decide) hml rfl (lenOf pd__I_Z rfl) [] rfl rfl at_319 rfl fun _ T306 L306 X306 hQ306 => ?_
  obtain ⟨rfl, rfl, e306⟩ := hQ306
  have N306 := Fr.app N305 (Fr.nil n0)
  refine own_stk (S' := [(.int (f3 (3 : Int32)))]) rfl ?_
  refine wifNo OGc 325 X306 B at_322 (own_if0 (feq (by decide)).1) rfl ?_
  refine wiload OGc 327 X306 B at_325 rfl rfl ?_
  refine wstat OGc 330 X306 B hZ hown (ow hw 10 rfl) (ow hw 11 rfl) (ow hw 13 rfl) (ow hw 12 rfl) e306 (rm3 l Z a0 hw [] (4 : Int32) T54.heap) 0 (by decide) (by decide) hml rfl (lenOf pd__I_Z rfl) [] rfl rfl at_327 rfl fun _ T307 L307 X307 hQ307 => ?_
  obtain ⟨rfl, rfl, e307⟩ := hQ307
  have N307 := Fr.app N306 (Fr.nil n0)
  refine own_stk (S' := [(.int (f3 (4 : Int32)))]) rfl ?_
  refine wifYes OGc 335 X307 B at_330 (own_if0 (feq (by decide)).2) rfl ?_
  refine wiconst OGc 336 X307 B at_335 1 rfl rfl ?_
  refine wiload OGc 338 X307 B at_336 rfl rfl ?_
  refine own_st (fun t k => XS.ishl X307.here hx rfl (hb hby at_338) rfl k) ?_
  show OG p e _ s below _ T307 (mkF m 339 (LA0_28 q1 q2 q3 q4 q5 p6 b5 b26) [(.int (32 : Int32))])
  refine wiconst OGc 340 X307 B at_339 1 rfl rfl ?_
  refine wiload OGc 342 X307 B at_340 rfl rfl ?_
  refine own_st (fun t k => XS.ishl X307.here hx rfl (hb hby at_342) rfl k) ?_
  show OG p e _ s below _ T307 (mkF m 343 (LA0_28 q1 q2 q3 q4 q5 p6 b5 b26) [(.int (1 : Int32)), (.int (32 : Int32))])
  refine own_st (fun t k => XS.ior X307.here hx rfl (hb hby at_343) rfl k) ?_
  show OG p e _ s below _ T307 (mkF m 344 (LA0_28 q1 q2 q3 q4 q5 p6 b5 b26) [(.int (33 : Int32))])
  refine wiconst OGc 345 X307 B at_344 1 rfl rfl ?_
  refine wiload OGc 347 X307 B at_345 rfl rfl ?_
  refine own_st (fun t k => XS.ishl X307.here hx rfl (hb hby at_347) rfl k) ?_
  show OG p e _ s below _ T307 (mkF m 348 (LA0_28 q1 q2 q3 q4 q5 p6 b5 b26) [(.int (4 : Int32)), (.int (33 : Int32))])
  refine own_st (fun t k => XS.ior X307.here hx rfl (hb hby at_348) rfl k) ?_
  show OG p e _ s below _ T307 (mkF m 349 (LA0_28 q1 q2 q3 q4 q5 p6 b5 b26) [(.int (37 : Int32))])
  refine wiconst OGc 350 X307 B at_349 1 rfl rfl ?_
  refine wiload OGc 352 X307 B at_350 rfl rfl ?_
  refine own_st (fun t k => XS.ishl X307.here hx rfl (hb hby at_352) rfl k) ?_
  show OG p e _ s below _ T307 (mkF m 353 (LA0_28 q1 q2 q3 q4 q5 p6 b5 b26) [(.int (2 : Int32)), (.int (37 : Int32))])
  refine own_st (fun t k => XS.ior X307.here hx rfl (hb hby at_353) rfl k) ?_
  show OG p e _ s below _ T307 (mkF m 354 (LA0_28 q1 q2 q3 q4 q5 p6 b5 b26) [(.int (39 : Int32))])
  refine wiconst OGc 355 X307 B at_354 1 rfl rfl ?_
  refine wiload OGc 357 X307 B at_355 rfl rfl ?_
  refine own_st (fun t k => XS.ishl X307.here hx rfl (hb hby at_357) rfl k) ?_
  show OG p e _ s below _ T307 (mkF m 358 (LA0_28 q1 q2 q3 q4 q5 p6 b5 b26) [(.int (8 : Int32)), (.int (39 : Int32))])
  refine own_st (fun t k => XS.ior X307.here hx rfl (hb hby at_358) rfl k) ?_
  show OG p e _ s below _ T307 (mkF m 359 (LA0_28 q1 q2 q3 q4 q5 p6 b5 b26) [(.int (47 : Int32))])
  refine wiconst OGc 360 X307 B at_359 1 rfl rfl ?_
  refine wiload OGc 362 X307 B at_360 rfl rfl ?_
  refine own_st (fun t k => XS.ishl X307.here hx rfl (hb hby at_362) rfl k) ?_
  show OG p e _ s below _ T307 (mkF m 363 (LA0_28 q1 q2 q3 q4 q5 p6 b5 b26) [(.int (16 : Int32)), (.int (47 : Int32))])
  refine own_st (fun t k => XS.ior X307.here hx rfl (hb hby at_363) rfl k) ?_
  show OG p e _ s below _ T307 (mkF m 364 (LA0_28 q1 q2 q3 q4 q5 p6 b5 b26) [(.int (63 : Int32))])
  refine wistore OGc 366 X307 B at_364 (LA0_29 q1 q2 q3 q4 q5 p6 b5 b26) rfl rfl ?_
  refine wiload OGc 368 X307 B at_366 rfl rfl ?_
  refine wifNo OGc 371 X307 B at_368 (by decide) rfl ?_
  refine wiload OGc 373 X307 B at_371 rfl rfl ?_
  refine wbipush OGc 375 X307 B at_373 63 rfl rfl ?_
  refine wicmpNo OGc 378 X307 B at_375 (by decide) rfl ?_
  refine wiconst OGc 379 X307 B at_378 1 rfl rfl ?_
  refine wgoto OGc 383 X307 B at_379 rfl ?_
  refine wistore OGc 385 X307 B at_383 (LA0_29 q1 q2 q3 q4 q5 p6 b5 b26) rfl rfl ?_
  refine waload OGc 387 X307 B at_385 rfl rfl rfl ?_
  refine wiload OGc 389 X307 B at_387 rfl rfl ?_
  refine wlaload OGc 390 X307 B hZ e307 fc0 (v := (.long (g0_3 q1 q2 q3 q4 q5 p6))) 5 (by decide) (by decide) rfl at_389 rfl ?_
  refine wlstore OGc 392 X307 B at_390 (LA0_30 q1 q2 q3 q4 q5 p6 b5 b26) rfl rfl ?_
  refine waload OGc 394 X307 B at_392 rfl rfl rfl ?_
  refine wiload OGc 396 X307 B at_394 rfl rfl ?_
  refine wlaload OGc 397 X307 B hZ e307 fc0 (v := (.long (f1 q2 (f1 q4 q5)))) 0 (by decide) (by decide) rfl at_396 rfl ?_
  refine wlstore OGc 399 X307 B at_397 (LA0_31 q1 q2 q3 q4 q5 p6 b5 b26) rfl rfl ?_
  refine waload OGc 401 X307 B at_399 rfl rfl rfl ?_
  refine wiload OGc 403 X307 B at_401 rfl rfl ?_
  refine wlaload OGc 404 X307 B hZ e307 fc0 (v := (.long q1)) 2 (by decide) (by decide) rfl at_403 rfl ?_
  refine wlstore OGc 406 X307 B at_404 (LA0_32 q1 q2 q3 q4 q5 p6 b5 b26) rfl rfl ?_
  refine waload OGc 408 X307 B at_406 rfl rfl rfl ?_
  refine wiload OGc 410 X307 B at_408 rfl rfl ?_
  refine wlaload OGc 411 X307 B hZ e307 fc0 (v := (.long q4)) 1 (by decide) (by decide) rfl at_410 rfl ?_
  refine wlstore OGc 413 X307 B at_411 (LA0_33 q1 q2 q3 q4 q5 p6 b5 b26) rfl rfl ?_
  refine waload OGc 415 X307 B at_413 rfl rfl rfl ?_
  refine wiload OGc 417 X307 B at_415 rfl rfl ?_
  refine wlaload OGc 418 X307 B hZ e307 fc0 (v := (.long q5)) 3 (by decide) (by decide) rfl at_417 rfl ?_
  refine wlstore OGc 420 X307 B at_418 (LA0_34 q1 q2 q3 q4 q5 p6 b5 b26) rfl rfl ?_
  refine waload OGc 422 X307 B at_420 rfl rfl rfl ?_
  refine wiload OGc 424 X307 B at_422 rfl rfl ?_
  refine wlaload OGc 425 X307 B hZ e307 fc0 (v := (.long (g0_2 q1 q2 q3 q4 q5 p6))) 4 (by decide) (by decide) rfl at_424 rfl ?_
  refine wlstore OGc 427 X307 B at_425 (LA0_35 q1 q2 q3 q4 q5 p6 b5 b26) rfl rfl ?_
  refine wiload OGc 429 X307 B at_427 rfl rfl ?_
  refine wifNo OGc 432 X307 B at_429 (by decide) rfl ?_
  refine wlload OGc 434 X307 B at_432 rfl rfl ?_
  refine wlload OGc 436 X307 B at_434 rfl rfl ?_
  refine wlcmp OGc 437 X307 B at_436 rfl ?_
  by_cases c314 : (f1 q2 (f1 q4 q5)) < (g0_3 q1 q2 q3 q4 q5 p6)
  · refine wifYes OGc 476 X307 B at_437 (own_if0 (tlt ((lw_gt _ _).mpr c314)).2.2.1) rfl ?_
    refine wiconst OGc 477 X307 B at_476 0 rfl rfl ?_
    refine wistore OGc 479 X307 B at_477 (LA0_36 q1 q2 q3 q4 q5 p6 b5 b26) rfl rfl ?_
    refine wiload OGc 481 X307 B at_479 rfl rfl ?_
    refine wiconst OGc 482 X307 B at_481 1 rfl rfl ?_
    refine wicmpYes OGc 518 X307 B at_482 (by decide) rfl ?_
    refine wiload OGc 520 X307 B at_518 rfl rfl ?_
    refine wiconst OGc 521 X307 B at_520 2 rfl rfl ?_
    refine wicmpYes OGc 562 X307 B at_521 (by decide) rfl ?_
    refine wiload OGc 564 X307 B at_562 rfl rfl ?_
    refine wiconst OGc 565 X307 B at_564 3 rfl rfl ?_
    refine wicmpYes OGc 615 X307 B at_565 (by decide) rfl ?_
    refine wiload OGc 617 X307 B at_615 rfl rfl ?_
    refine own_retZ X307 hx (t := .boolean) hret (by simp) hlk (hb hby at_617) (by decide) (by decide) (w := (0 : Int32)) rfl ?_
    exact ⟨congrArg (fun z => some (Value.int z)) (show f0 q1 q2 q3 q4 q5 p6 = (0 : Int32) from (by rw [f0, if_pos c1, if_neg c88, if_pos c89, if_neg c90, if_pos c314])).symm, N307⟩
  · refine wifNo OGc 440 X307 B at_437 (own_if0 (flt (fun q => c314 ((lw_gt _ _).mp q))).2.2.1) rfl ?_
    refine wlload OGc 442 X307 B at_440 rfl rfl ?_
    refine wlload OGc 444 X307 B at_442 rfl rfl ?_
    refine wlcmp OGc 445 X307 B at_444 rfl ?_
    by_cases c315 : q1 < (g0_3 q1 q2 q3 q4 q5 p6)
    · refine wifYes OGc 476 X307 B at_445 (own_if0 (tlt ((lw_gt _ _).mpr c315)).2.2.1) rfl ?_
      refine wiconst OGc 477 X307 B at_476 0 rfl rfl ?_
      refine wistore OGc 479 X307 B at_477 (LA0_36 q1 q2 q3 q4 q5 p6 b5 b26) rfl rfl ?_
      refine wiload OGc 481 X307 B at_479 rfl rfl ?_
      refine wiconst OGc 482 X307 B at_481 1 rfl rfl ?_
      refine wicmpYes OGc 518 X307 B at_482 (by decide) rfl ?_
      refine wiload OGc 520 X307 B at_518 rfl rfl ?_
      refine wiconst OGc 521 X307 B at_520 2 rfl rfl ?_
      refine wicmpYes OGc 562 X307 B at_521 (by decide) rfl ?_
      refine wiload OGc 564 X307 B at_562 rfl rfl ?_
      refine wiconst OGc 565 X307 B at_564 3 rfl rfl ?_
      refine wicmpYes OGc 615 X307 B at_565 (by decide) rfl ?_
      refine wiload OGc 617 X307 B at_615 rfl rfl ?_
      refine own_retZ X307 hx (t := .boolean) hret (by simp) hlk (hb hby at_617) (by decide) (by decide) (w := (0 : Int32)) rfl ?_
      exact ⟨congrArg (fun z => some (Value.int z)) (show f0 q1 q2 q3 q4 q5 p6 = (0 : Int32) from (by rw [f0, if_pos c1, if_neg c88, if_pos c89, if_neg c90, if_neg c314, if_pos c315])).symm, N307⟩
    · refine wifNo OGc 448 X307 B at_445 (own_if0 (flt (fun q => c315 ((lw_gt _ _).mp q))).2.2.1) rfl ?_
      refine wlload OGc 450 X307 B at_448 rfl rfl ?_
      refine wlload OGc 452 X307 B at_450 rfl rfl ?_
      refine wlcmp OGc 453 X307 B at_452 rfl ?_
      by_cases c316 : q4 < (f1 q2 (f1 q4 q5))
      · refine wifYes OGc 476 X307 B at_453 (own_if0 (tlt ((lw_gt _ _).mpr c316)).2.2.1) rfl ?_
        refine wiconst OGc 477 X307 B at_476 0 rfl rfl ?_
        refine wistore OGc 479 X307 B at_477 (LA0_36 q1 q2 q3 q4 q5 p6 b5 b26) rfl rfl ?_
        refine wiload OGc 481 X307 B at_479 rfl rfl ?_
        refine wiconst OGc 482 X307 B at_481 1 rfl rfl ?_
        refine wicmpYes OGc 518 X307 B at_482 (by decide) rfl ?_
        refine wiload OGc 520 X307 B at_518 rfl rfl ?_
        refine wiconst OGc 521 X307 B at_520 2 rfl rfl ?_
        refine wicmpYes OGc 562 X307 B at_521 (by decide) rfl ?_
        refine wiload OGc 564 X307 B at_562 rfl rfl ?_
        refine wiconst OGc 565 X307 B at_564 3 rfl rfl ?_
        refine wicmpYes OGc 615 X307 B at_565 (by decide) rfl ?_
        refine wiload OGc 617 X307 B at_615 rfl rfl ?_
        refine own_retZ X307 hx (t := .boolean) hret (by simp) hlk (hb hby at_617) (by decide) (by decide) (w := (0 : Int32)) rfl ?_
        exact ⟨congrArg (fun z => some (Value.int z)) (show f0 q1 q2 q3 q4 q5 p6 = (0 : Int32) from (by rw [f0, if_pos c1, if_neg c88, if_pos c89, if_neg c90, if_neg c314, if_neg c315, if_pos c316])).symm, N307⟩
      · refine wifNo OGc 456 X307 B at_453 (own_if0 (flt (fun q => c316 ((lw_gt _ _).mp q))).2.2.1) rfl ?_
        refine wlload OGc 458 X307 B at_456 rfl rfl ?_
        refine wlload OGc 460 X307 B at_458 rfl rfl ?_
        refine wlcmp OGc 461 X307 B at_460 rfl ?_
        by_cases c317 : q5 < (f1 q2 (f1 q4 q5))
        · refine wifYes OGc 476 X307 B at_461 (own_if0 (tlt ((lw_gt _ _).mpr c317)).2.2.1) rfl ?_
          refine wiconst OGc 477 X307 B at_476 0 rfl rfl ?_
          refine wistore OGc 479 X307 B at_477 (LA0_36 q1 q2 q3 q4 q5 p6 b5 b26) rfl rfl ?_
          refine wiload OGc 481 X307 B at_479 rfl rfl ?_
          refine wiconst OGc 482 X307 B at_481 1 rfl rfl ?_
          refine wicmpYes OGc 518 X307 B at_482 (by decide) rfl ?_
          refine wiload OGc 520 X307 B at_518 rfl rfl ?_
          refine wiconst OGc 521 X307 B at_520 2 rfl rfl ?_
          refine wicmpYes OGc 562 X307 B at_521 (by decide) rfl ?_
          refine wiload OGc 564 X307 B at_562 rfl rfl ?_
          refine wiconst OGc 565 X307 B at_564 3 rfl rfl ?_
          refine wicmpYes OGc 615 X307 B at_565 (by decide) rfl ?_
          refine wiload OGc 617 X307 B at_615 rfl rfl ?_
          refine own_retZ X307 hx (t := .boolean) hret (by simp) hlk (hb hby at_617) (by decide) (by decide) (w := (0 : Int32)) rfl ?_
          exact ⟨congrArg (fun z => some (Value.int z)) (show f0 q1 q2 q3 q4 q5 p6 = (0 : Int32) from (by rw [f0, if_pos c1, if_neg c88, if_pos c89, if_neg c90, if_neg c314, if_neg c315, if_neg c316, if_pos c317])).symm, N307⟩
        · refine wifNo OGc 464 X307 B at_461 (own_if0 (flt (fun q => c317 ((lw_gt _ _).mp q))).2.2.1) rfl ?_
          refine wlload OGc 466 X307 B at_464 rfl rfl ?_
          refine wlload OGc 468 X307 B at_466 rfl rfl ?_
          refine wlcmp OGc 469 X307 B at_468 rfl ?_
          refine wifNo OGc 472 X307 B at_469 (own_if0 (flt (fun q => c90 ((lw_gt _ _).mp q))).2.2.1) rfl ?_
          refine wiconst OGc 473 X307 B at_472 1 rfl rfl ?_
          refine wgoto OGc 477 X307 B at_473 rfl ?_
          refine wistore OGc 479 X307 B at_477 (LA0_35 q1 q2 q3 q4 q5 p6 b5 b26) rfl rfl ?_
          refine wiload OGc 481 X307 B at_479 rfl rfl ?_
          refine wiconst OGc 482 X307 B at_481 1 rfl rfl ?_
          refine wicmpYes OGc 518 X307 B at_482 (by decide) rfl ?_
          refine wiload OGc 520 X307 B at_518 rfl rfl ?_
          refine wiconst OGc 521 X307 B at_520 2 rfl rfl ?_
          refine wicmpYes OGc 562 X307 B at_521 (by decide) rfl ?_
          refine wiload OGc 564 X307 B at_562 rfl rfl ?_
          refine wiconst OGc 565 X307 B at_564 3 rfl rfl ?_
          refine wicmpYes OGc 615 X307 B at_565 (by decide) rfl ?_
          refine wiload OGc 617 X307 B at_615 rfl rfl ?_
          refine own_retZ X307 hx (t := .boolean) hret (by simp) hlk (hb hby at_617) (by decide) (by decide) (w := (1 : Int32)) rfl ?_
          exact ⟨congrArg (fun z => some (Value.int z)) (show f0 q1 q2 q3 q4 q5 p6 = (1 : Int32) from (by rw [f0, if_pos c1, if_neg c88, if_pos c89, if_neg c90, if_neg c314, if_neg c315, if_neg c316, if_neg c317])).symm, N307⟩
set_option maxRecDepth 65536 in
set_option maxHeartbeats 40000000 in
theorem tl0_10 (l : Launch) (Z : State) (a0 : Array Value) (hw : ∀ d ∈ tables_1, d.before a0 Z = true) (q1 : Int64) (q2 : Int64) (q3 : Int64) (q4 : Int64) (q5 : Int64) (p6 : Int32) (h0 : Heap) (n0 : Nat) (Z0 : n0 ≤ h0.size) (p : Program) (e : Env) (s : State) (m : MethodId) (below : List Frame) (meth : Method) (c : Code) (hx : p.tables.exec = Jvm.exec) (hby : c.code = code) (hml : c.maxLocals = 46) (hown : s.vm.findClass "com/example/fragmark/fragmark/PhraseMatcherSiftDownPinLaw" = some m.cls) (hret : meth.sig.returnType = ret) (hlk : meth.locks = false) (hZ : Z.Warmed39 s.vm) (b26 : Addr) (b5 : Addr) (T54 : State) (locs : List Loc) (xc : Stand p l e room_1 s m #[(.long q1), (.long q2), (.long q3), (.long q4), (.long q5), (.int p6)] below meth c T54 locs 2 12)   (nc : Fr n0 locs) (kc : Keep h0 T54.heap []) (gc_b26 : n0 ≤ b26) (gc_b5 : n0 ≤ b5) (sc_b26 : h0.size ≤ b26) (sc_b5 : h0.size ≤ b5) (xc_b5_b26 : b5 ≠ b26) (fc0 : OA Z T54.heap b26 .long [(.long (f1 q2 (f1 q4 q5))), (.long q4), (.long q1), (.long q5), (.long (g0_2 q1 q2 q3 q4 q5 p6)), (.long (g0_3 q1 q2 q3 q4 q5 p6))]) (fc1 : OA Z T54.heap b5 .int [(.int (2 : Int32)), (.int (0 : Int32)), (.int (5 : Int32)), (.int (1 : Int32)), (.int (3 : Int32)), (.int (4 : Int32))]) (c1 : (g0_1 q1 q2 q3 q4 q5 p6) = (0 : Int32)) (c92 : ¬ ((f1 q2 (f1 q4 q5)) < q1)) (c93 : ¬ ((g0_3 q1 q2 q3 q4 q5 p6) < q1)) :
    OG p e room_1 s below (fun v h L => v = some (.int (f0 q1 q2 q3 q4 q5 p6)) ∧ Fr n0 L) T54 (mkF m 182 (LA0_9 q1 q2 q3 q4 q5 p6 b5 b26) []) := by
  have B := And.intro hx hby
  refine waload OGc 184 xc B at_182 rfl rfl rfl ?_
  refine wiconst OGc 185 xc B at_184 2 rfl rfl ?_
  refine wlaload OGc 186 xc B hZ rfl fc0 (v := (.long q1)) 2 (by decide) (by decide) rfl at_185 rfl ?_
  refine wlload OGc 188 xc B at_186 rfl rfl ?_
  refine wlcmp OGc 189 xc B at_188 rfl ?_
  refine wifNo OGc 192 xc B at_189 (own_if0 (teq ((lw_eq _ _).mpr rfl)).2) rfl ?_
  refine waload OGc 194 xc B at_192 rfl rfl rfl ?_
  refine wiconst OGc 195 xc B at_194 0 rfl rfl ?_
  refine wlaload OGc 196 xc B hZ rfl fc0 (v := (.long (f1 q2 (f1 q4 q5)))) 0 (by decide) (by decide) rfl at_195 rfl ?_
  refine wlload OGc 198 xc B at_196 rfl rfl ?_
  refine wlcmp OGc 199 xc B at_198 rfl ?_
  refine wifNo OGc 202 xc B at_199 (own_if0 (teq ((lw_eq _ _).mpr rfl)).2) rfl ?_
  refine waload OGc 204 xc B at_202 rfl rfl rfl ?_
  refine wiconst OGc 205 xc B at_204 5 rfl rfl ?_
  refine wlaload OGc 206 xc B hZ rfl fc0 (v := (.long (g0_3 q1 q2 q3 q4 q5 p6))) 5 (by decide) (by decide) rfl at_205 rfl ?_
  refine wlload OGc 208 xc B at_206 rfl rfl ?_
  refine wlcmp OGc 209 xc B at_208 rfl ?_
  refine wifNo OGc 212 xc B at_209 (own_if0 (teq ((lw_eq _ _).mpr rfl)).2) rfl ?_
  refine waload OGc 214 xc B at_212 rfl rfl rfl ?_
  refine wiconst OGc 215 xc B at_214 1 rfl rfl ?_
  refine wlaload OGc 216 xc B hZ rfl fc0 (v := (.long q4)) 1 (by decide) (by decide) rfl at_215 rfl ?_
  refine wlload OGc 218 xc B at_216 rfl rfl ?_
  refine wlcmp OGc 219 xc B at_218 rfl ?_
  refine wifNo OGc 222 xc B at_219 (own_if0 (teq ((lw_eq _ _).mpr rfl)).2) rfl ?_
  refine waload OGc 224 xc B at_222 rfl rfl rfl ?_
  refine wiconst OGc 225 xc B at_224 3 rfl rfl ?_
  refine wlaload OGc 226 xc B hZ rfl fc0 (v := (.long q5)) 3 (by decide) (by decide) rfl at_225 rfl ?_
  refine wlload OGc 228 xc B at_226 rfl rfl ?_
  refine wlcmp OGc 229 xc B at_228 rfl ?_
  refine wifNo OGc 232 xc B at_229 (own_if0 (teq ((lw_eq _ _).mpr rfl)).2) rfl ?_
  refine waload OGc 234 xc B at_232 rfl rfl rfl ?_
  refine wiconst OGc 235 xc B at_234 4 rfl rfl ?_
  refine wlaload OGc 236 xc B hZ rfl fc0 (v := (.long (g0_2 q1 q2 q3 q4 q5 p6))) 4 (by decide) (by decide) rfl at_235 rfl ?_
  refine wlload OGc 238 xc B at_236 rfl rfl ?_
  refine wlcmp OGc 239 xc B at_238 rfl ?_
  refine wifNo OGc 242 xc B at_239 (own_if0 (teq ((lw_eq _ _).mpr rfl)).2) rfl ?_
  refine wiconst OGc 243 xc B at_242 1 rfl rfl ?_
  refine wgoto OGc 247 xc B at_243 rfl ?_
  refine wistore OGc 249 xc B at_247 (LA0_10 q1 q2 q3 q4 q5 p6 b5 b26) rfl rfl ?_
  refine waload OGc 251 xc B at_249 rfl rfl rfl ?_
  refine wiconst OGc 252 xc B at_251 0 rfl rfl ?_
  refine wiaload OGc 253 xc B hZ rfl fc1 (v := (.int (2 : Int32))) 0 (by decide) (by decide) rfl at_252 rfl ?_
  refine wistore OGc 255 xc B at_253 (LA0_77 q1 q2 q3 q4 q5 p6 b5 b26) rfl rfl ?_
  refine waload OGc 257 xc B at_255 rfl rfl rfl ?_
  refine wiconst OGc 258 xc B at_257 1 rfl rfl ?_
  refine wiaload OGc 259 xc B hZ rfl fc1 (v := (.int (0 : Int32))) 1 (by decide) (by decide) rfl at_258 rfl ?_
  refine wistore OGc 261 xc B at_259 (LA0_78 q1 q2 q3 q4 q5 p6 b5 b26) rfl rfl ?_
  refine waload OGc 263 xc B at_261 rfl rfl rfl ?_
  refine wiconst OGc 264 xc B at_263 2 rfl rfl ?_
  refine wiaload OGc 265 xc B hZ rfl fc1 (v := (.int (5 : Int32))) 2 (by decide) (by decide) rfl at_264 rfl ?_
  refine wistore OGc 267 xc B at_265 (LA0_79 q1 q2 q3 q4 q5 p6 b5 b26) rfl rfl ?_
  refine waload OGc 269 xc B at_267 rfl rfl rfl ?_
  refine wiconst OGc 270 xc B at_269 3 rfl rfl ?_
  refine wiaload OGc 271 xc B hZ rfl fc1 (v := (.int (1 : Int32))) 3 (by decide) (by decide) rfl at_270 rfl ?_
  refine wistore OGc 273 xc B at_271 (LA0_80 q1 q2 q3 q4 q5 p6 b5 b26) rfl rfl ?_
  refine waload OGc 275 xc B at_273 rfl rfl rfl ?_
  refine wiconst OGc 276 xc B at_275 4 rfl rfl ?_
  refine wiaload OGc 277 xc B hZ rfl fc1 (v := (.int (3 : Int32))) 4 (by decide) (by decide) rfl at_276 rfl ?_
  refine wistore OGc 279 xc B at_277 (LA0_81 q1 q2 q3 q4 q5 p6 b5 b26) rfl rfl ?_
  refine waload OGc 281 xc B at_279 rfl rfl rfl ?_
  refine wiconst OGc 282 xc B at_281 5 rfl rfl ?_
  refine wiaload OGc 283 xc B hZ rfl fc1 (v := (.int (4 : Int32))) 5 (by decide) (by decide) rfl at_282 rfl ?_
  refine wistore OGc 285 xc B at_283 (LA0_82 q1 q2 q3 q4 q5 p6 b5 b26) rfl rfl ?_
  refine wiload OGc 287 xc B at_285 rfl rfl ?_
  refine wstat OGc 290 xc B hZ hown (ow hw 10 rfl) (ow hw 11 rfl) (ow hw 13 rfl) (ow hw 12 rfl) rfl (rm3 l Z a0 hw [] (2 : Int32) T54.heap) 0 (by decide) (by decide) hml rfl (lenOf pd__I_Z rfl) [] rfl rfl at_287 rfl fun _ T330 L330 X330 hQ330 => ?_
  obtain ⟨rfl, rfl, e330⟩ := hQ330
  have N330 := Fr.app nc (Fr.nil n0)
  refine own_stk (S' := [(.int (f3 (2 : Int32)))]) rfl ?_
  refine wifNo OGc 293 X330 B at_290 (own_if0 (feq (by decide)).1) rfl ?_
  refine wiload OGc 295 X330 B at_293 rfl rfl ?_
  refine wstat OGc 298 X330 B hZ hown (ow hw 10 rfl) (ow hw 11 rfl) (ow hw 13 rfl) (ow hw 12 rfl) e330 (rm3 l Z a0 hw [] (0 : Int32) T54.heap) 0 (by decide) (by decide) hml rfl (lenOf pd__I_Z rfl) [] rfl rfl at_295 rfl fun _ T331 L331 X331 hQ331 => ?_
  obtain ⟨rfl, rfl, e331⟩ := hQ331
  have N331 := Fr.app N330 (Fr.nil n0)
  refine own_stk (S' := [(.int (f3 (0 : Int32)))]) rfl ?_
  refine wifNo OGc 301 X331 B at_298 (own_if0 (feq (by decide)).1) rfl ?_
  refine wiload OGc 303 X331 B at_301 rfl rfl ?_
  refine wstat OGc 306 X331 B hZ hown (ow hw 10 rfl) (ow hw 11 rfl) (ow hw 13 rfl) (ow hw 12 rfl) e331 (rm3 l Z a0 hw [] (5 : Int32) T54.heap) 0 (by decide) (by decide) hml rfl (lenOf pd__I_Z rfl) [] rfl rfl at_303 rfl fun _ T332 L332 X332 hQ332 => ?_
  obtain ⟨rfl, rfl, e332⟩ := hQ332
  have N332 := Fr.app N331 (Fr.nil n0)
  refine own_stk (S' := [(.int (f3 (5 : Int32)))]) rfl ?_
  refine wifNo OGc 309 X332 B at_306 (own_if0 (feq (by decide)).1) rfl ?_
  refine wiload OGc 311 X332 B at_309 rfl rfl ?_
  refine wstat OGc 314 X332 B hZ hown (ow hw 10 rfl) (ow hw 11 rfl) (ow hw 13 rfl) (ow hw 12 rfl) e332 (rm3 l Z a0 hw [] (1 : Int32) T54.heap) 0 (by decide) (by decide) hml rfl (lenOf pd__I_Z rfl) [] rfl rfl at_311 rfl fun _ T333 L333 X333 hQ333 => ?_
  obtain ⟨rfl, rfl, e333⟩ := hQ333
  have N333 := Fr.app N332 (Fr.nil n0)
  refine own_stk (S' := [(.int (f3 (1 : Int32)))]) rfl ?_
  refine wifNo OGc 317 X333 B at_314 (own_if0 (feq (by decide)).1) rfl ?_
  refine wiload OGc 319 X333 B at_317 rfl rfl ?_
  refine wstat OGc 322 X333 B hZ hown (ow hw 10 rfl) (ow hw 11 rfl) (ow hw 13 rfl) (ow hw 12 rfl) e333 (rm3 l Z a0 hw [] (3 : Int32) T54.heap) 0 (by decide) (by decide) hml rfl (lenOf pd__I_Z rfl) [] rfl rfl at_319 rfl fun _ T334 L334 X334 hQ334 => ?_
  obtain ⟨rfl, rfl, e334⟩ := hQ334
  have N334 := Fr.app N333 (Fr.nil n0)
  refine own_stk (S' := [(.int (f3 (3 : Int32)))]) rfl ?_
  refine wifNo OGc 325 X334 B at_322 (own_if0 (feq (by decide)).1) rfl ?_
  refine wiload OGc 327 X334 B at_325 rfl rfl ?_
  refine wstat OGc 330 X334 B hZ hown (ow hw 10 rfl) (ow hw 11 rfl) (ow hw 13 rfl) (ow hw 12 rfl) e334 (rm3 l Z a0 hw [] (4 : Int32) T54.heap) 0 (by decide) (by decide) hml rfl (lenOf pd__I_Z rfl) [] rfl rfl at_327 rfl fun _ T335 L335 X335 hQ335 => ?_
  obtain ⟨rfl, rfl, e335⟩ := hQ335
  have N335 := Fr.app N334 (Fr.nil n0)
  refine own_stk (S' := [(.int (f3 (4 : Int32)))]) rfl ?_
  refine wifYes OGc 335 X335 B at_330 (own_if0 (feq (by decide)).2) rfl ?_
  refine wiconst OGc 336 X335 B at_335 1 rfl rfl ?_
  refine wiload OGc 338 X335 B at_336 rfl rfl ?_
  refine own_st (fun t k => XS.ishl X335.here hx rfl (hb hby at_338) rfl k) ?_
  show OG p e _ s below _ T335 (mkF m 339 (LA0_82 q1 q2 q3 q4 q5 p6 b5 b26) [(.int (4 : Int32))])
  refine wiconst OGc 340 X335 B at_339 1 rfl rfl ?_
  refine wiload OGc 342 X335 B at_340 rfl rfl ?_
  refine own_st (fun t k => XS.ishl X335.here hx rfl (hb hby at_342) rfl k) ?_
  show OG p e _ s below _ T335 (mkF m 343 (LA0_82 q1 q2 q3 q4 q5 p6 b5 b26) [(.int (1 : Int32)), (.int (4 : Int32))])
  refine own_st (fun t k => XS.ior X335.here hx rfl (hb hby at_343) rfl k) ?_
  show OG p e _ s below _ T335 (mkF m 344 (LA0_82 q1 q2 q3 q4 q5 p6 b5 b26) [(.int (5 : Int32))])
  refine wiconst OGc 345 X335 B at_344 1 rfl rfl ?_
  refine wiload OGc 347 X335 B at_345 rfl rfl ?_
  refine own_st (fun t k => XS.ishl X335.here hx rfl (hb hby at_347) rfl k) ?_
  show OG p e _ s below _ T335 (mkF m 348 (LA0_82 q1 q2 q3 q4 q5 p6 b5 b26) [(.int (32 : Int32)), (.int (5 : Int32))])
  refine own_st (fun t k => XS.ior X335.here hx rfl (hb hby at_348) rfl k) ?_
  show OG p e _ s below _ T335 (mkF m 349 (LA0_82 q1 q2 q3 q4 q5 p6 b5 b26) [(.int (37 : Int32))])
  refine wiconst OGc 350 X335 B at_349 1 rfl rfl ?_
  refine wiload OGc 352 X335 B at_350 rfl rfl ?_
  refine own_st (fun t k => XS.ishl X335.here hx rfl (hb hby at_352) rfl k) ?_
  show OG p e _ s below _ T335 (mkF m 353 (LA0_82 q1 q2 q3 q4 q5 p6 b5 b26) [(.int (2 : Int32)), (.int (37 : Int32))])
  refine own_st (fun t k => XS.ior X335.here hx rfl (hb hby at_353) rfl k) ?_
  show OG p e _ s below _ T335 (mkF m 354 (LA0_82 q1 q2 q3 q4 q5 p6 b5 b26) [(.int (39 : Int32))])
  refine wiconst OGc 355 X335 B at_354 1 rfl rfl ?_
  refine wiload OGc 357 X335 B at_355 rfl rfl ?_
  refine own_st (fun t k => XS.ishl X335.here hx rfl (hb hby at_357) rfl k) ?_
  show OG p e _ s below _ T335 (mkF m 358 (LA0_82 q1 q2 q3 q4 q5 p6 b5 b26) [(.int (8 : Int32)), (.int (39 : Int32))])
  refine own_st (fun t k => XS.ior X335.here hx rfl (hb hby at_358) rfl k) ?_
  show OG p e _ s below _ T335 (mkF m 359 (LA0_82 q1 q2 q3 q4 q5 p6 b5 b26) [(.int (47 : Int32))])
  refine wiconst OGc 360 X335 B at_359 1 rfl rfl ?_
  refine wiload OGc 362 X335 B at_360 rfl rfl ?_
  refine own_st (fun t k => XS.ishl X335.here hx rfl (hb hby at_362) rfl k) ?_
  show OG p e _ s below _ T335 (mkF m 363 (LA0_82 q1 q2 q3 q4 q5 p6 b5 b26) [(.int (16 : Int32)), (.int (47 : Int32))])
  refine own_st (fun t k => XS.ior X335.here hx rfl (hb hby at_363) rfl k) ?_
  show OG p e _ s below _ T335 (mkF m 364 (LA0_82 q1 q2 q3 q4 q5 p6 b5 b26) [(.int (63 : Int32))])
  refine wistore OGc 366 X335 B at_364 (LA0_83 q1 q2 q3 q4 q5 p6 b5 b26) rfl rfl ?_
  refine wiload OGc 368 X335 B at_366 rfl rfl ?_
  refine wifNo OGc 371 X335 B at_368 (by decide) rfl ?_
  refine wiload OGc 373 X335 B at_371 rfl rfl ?_
  refine wbipush OGc 375 X335 B at_373 63 rfl rfl ?_
  refine wicmpNo OGc 378 X335 B at_375 (by decide) rfl ?_
  refine wiconst OGc 379 X335 B at_378 1 rfl rfl ?_
  refine wgoto OGc 383 X335 B at_379 rfl ?_
  refine wistore OGc 385 X335 B at_383 (LA0_83 q1 q2 q3 q4 q5 p6 b5 b26) rfl rfl ?_
  refine waload OGc 387 X335 B at_385 rfl rfl rfl ?_
  refine wiload OGc 389 X335 B at_387 rfl rfl ?_
  refine wlaload OGc 390 X335 B hZ e335 fc0 (v := (.long q1)) 2 (by decide) (by decide) rfl at_389 rfl ?_
  refine wlstore OGc 392 X335 B at_390 (LA0_84 q1 q2 q3 q4 q5 p6 b5 b26) rfl rfl ?_
  refine waload OGc 394 X335 B at_392 rfl rfl rfl ?_
  refine wiload OGc 396 X335 B at_394 rfl rfl ?_
  refine wlaload OGc 397 X335 B hZ e335 fc0 (v := (.long (f1 q2 (f1 q4 q5)))) 0 (by decide) (by decide) rfl at_396 rfl ?_
  refine wlstore OGc 399 X335 B at_397 (LA0_85 q1 q2 q3 q4 q5 p6 b5 b26) rfl rfl ?_
  refine waload OGc 401 X335 B at_399 rfl rfl rfl ?_
  refine wiload OGc 403 X335 B at_401 rfl rfl ?_
  refine wlaload OGc 404 X335 B hZ e335 fc0 (v := (.long (g0_3 q1 q2 q3 q4 q5 p6))) 5 (by decide) (by decide) rfl at_403 rfl ?_
  refine wlstore OGc 406 X335 B at_404 (LA0_86 q1 q2 q3 q4 q5 p6 b5 b26) rfl rfl ?_
  refine waload OGc 408 X335 B at_406 rfl rfl rfl ?_
  refine wiload OGc 410 X335 B at_408 rfl rfl ?_
  refine wlaload OGc 411 X335 B hZ e335 fc0 (v := (.long q4)) 1 (by decide) (by decide) rfl at_410 rfl ?_
  refine wlstore OGc 413 X335 B at_411 (LA0_87 q1 q2 q3 q4 q5 p6 b5 b26) rfl rfl ?_
  refine waload OGc 415 X335 B at_413 rfl rfl rfl ?_
  refine wiload OGc 417 X335 B at_415 rfl rfl ?_
  refine wlaload OGc 418 X335 B hZ e335 fc0 (v := (.long q5)) 3 (by decide) (by decide) rfl at_417 rfl ?_
  refine wlstore OGc 420 X335 B at_418 (LA0_88 q1 q2 q3 q4 q5 p6 b5 b26) rfl rfl ?_
  refine waload OGc 422 X335 B at_420 rfl rfl rfl ?_
  refine wiload OGc 424 X335 B at_422 rfl rfl ?_
  refine wlaload OGc 425 X335 B hZ e335 fc0 (v := (.long (g0_2 q1 q2 q3 q4 q5 p6))) 4 (by decide) (by decide) rfl at_424 rfl ?_
  refine wlstore OGc 427 X335 B at_425 (LA0_89 q1 q2 q3 q4 q5 p6 b5 b26) rfl rfl ?_
  refine wiload OGc 429 X335 B at_427 rfl rfl ?_
  refine wifNo OGc 432 X335 B at_429 (by decide) rfl ?_
  refine wlload OGc 434 X335 B at_432 rfl rfl ?_
  refine wlload OGc 436 X335 B at_434 rfl rfl ?_
  refine wlcmp OGc 437 X335 B at_436 rfl ?_
  refine wifNo OGc 440 X335 B at_437 (own_if0 (flt (fun q => c92 ((lw_gt _ _).mp q))).2.2.1) rfl ?_
  refine wlload OGc 442 X335 B at_440 rfl rfl ?_
  refine wlload OGc 444 X335 B at_442 rfl rfl ?_
  refine wlcmp OGc 445 X335 B at_444 rfl ?_
  refine wifNo OGc 448 X335 B at_445 (own_if0 (flt (fun q => c93 ((lw_gt _ _).mp q))).2.2.1) rfl ?_
  refine wlload OGc 450 X335 B at_448 rfl rfl ?_
  refine wlload OGc 452 X335 B at_450 rfl rfl ?_
  refine wlcmp OGc 453 X335 B at_452 rfl ?_
  by_cases c342 : q4 < (f1 q2 (f1 q4 q5))
  · refine wifYes OGc 476 X335 B at_453 (own_if0 (tlt ((lw_gt _ _).mpr c342)).2.2.1) rfl ?_
    refine wiconst OGc 477 X335 B at_476 0 rfl rfl ?_
    refine wistore OGc 479 X335 B at_477 (LA0_90 q1 q2 q3 q4 q5 p6 b5 b26) rfl rfl ?_
    refine wiload OGc 481 X335 B at_479 rfl rfl ?_
    refine wiconst OGc 482 X335 B at_481 1 rfl rfl ?_
    refine wicmpYes OGc 518 X335 B at_482 (by decide) rfl ?_
    refine wiload OGc 520 X335 B at_518 rfl rfl ?_
    refine wiconst OGc 521 X335 B at_520 2 rfl rfl ?_
    refine wicmpYes OGc 562 X335 B at_521 (by decide) rfl ?_
    refine wiload OGc 564 X335 B at_562 rfl rfl ?_
    refine wiconst OGc 565 X335 B at_564 3 rfl rfl ?_
    refine wicmpYes OGc 615 X335 B at_565 (by decide) rfl ?_
    refine wiload OGc 617 X335 B at_615 rfl rfl ?_
    refine own_retZ X335 hx (t := .boolean) hret (by simp) hlk (hb hby at_617) (by decide) (by decide) (w := (0 : Int32)) rfl ?_
    exact ⟨congrArg (fun z => some (Value.int z)) (show f0 q1 q2 q3 q4 q5 p6 = (0 : Int32) from (by rw [f0, if_pos c1, if_neg c92, if_neg c93, if_pos c342])).symm, N335⟩
  · refine wifNo OGc 456 X335 B at_453 (own_if0 (flt (fun q => c342 ((lw_gt _ _).mp q))).2.2.1) rfl ?_
    refine wlload OGc 458 X335 B at_456 rfl rfl ?_
    refine wlload OGc 460 X335 B at_458 rfl rfl ?_
    refine wlcmp OGc 461 X335 B at_460 rfl ?_
    by_cases c343 : q5 < (f1 q2 (f1 q4 q5))
    · refine wifYes OGc 476 X335 B at_461 (own_if0 (tlt ((lw_gt _ _).mpr c343)).2.2.1) rfl ?_
      refine wiconst OGc 477 X335 B at_476 0 rfl rfl ?_
      refine wistore OGc 479 X335 B at_477 (LA0_90 q1 q2 q3 q4 q5 p6 b5 b26) rfl rfl ?_
      refine wiload OGc 481 X335 B at_479 rfl rfl ?_
      refine wiconst OGc 482 X335 B at_481 1 rfl rfl ?_
      refine wicmpYes OGc 518 X335 B at_482 (by decide) rfl ?_
      refine wiload OGc 520 X335 B at_518 rfl rfl ?_
      refine wiconst OGc 521 X335 B at_520 2 rfl rfl ?_
      refine wicmpYes OGc 562 X335 B at_521 (by decide) rfl ?_
      refine wiload OGc 564 X335 B at_562 rfl rfl ?_
      refine wiconst OGc 565 X335 B at_564 3 rfl rfl ?_
      refine wicmpYes OGc 615 X335 B at_565 (by decide) rfl ?_
      refine wiload OGc 617 X335 B at_615 rfl rfl ?_
      refine own_retZ X335 hx (t := .boolean) hret (by simp) hlk (hb hby at_617) (by decide) (by decide) (w := (0 : Int32)) rfl ?_
      exact ⟨congrArg (fun z => some (Value.int z)) (show f0 q1 q2 q3 q4 q5 p6 = (0 : Int32) from (by rw [f0, if_pos c1, if_neg c92, if_neg c93, if_neg c342, if_pos c343])).symm, N335⟩
    · refine wifNo OGc 464 X335 B at_461 (own_if0 (flt (fun q => c343 ((lw_gt _ _).mp q))).2.2.1) rfl ?_
      refine wlload OGc 466 X335 B at_464 rfl rfl ?_
      refine wlload OGc 468 X335 B at_466 rfl rfl ?_
      refine wlcmp OGc 469 X335 B at_468 rfl ?_
      by_cases c344 : (g0_2 q1 q2 q3 q4 q5 p6) < (g0_3 q1 q2 q3 q4 q5 p6)
      · refine wifYes OGc 476 X335 B at_469 (own_if0 (tlt ((lw_gt _ _).mpr c344)).2.2.1) rfl ?_
        refine wiconst OGc 477 X335 B at_476 0 rfl rfl ?_
        refine wistore OGc 479 X335 B at_477 (LA0_90 q1 q2 q3 q4 q5 p6 b5 b26) rfl rfl ?_
        refine wiload OGc 481 X335 B at_479 rfl rfl ?_
        refine wiconst OGc 482 X335 B at_481 1 rfl rfl ?_
        refine wicmpYes OGc 518 X335 B at_482 (by decide) rfl ?_
        refine wiload OGc 520 X335 B at_518 rfl rfl ?_
        refine wiconst OGc 521 X335 B at_520 2 rfl rfl ?_
        refine wicmpYes OGc 562 X335 B at_521 (by decide) rfl ?_
        refine wiload OGc 564 X335 B at_562 rfl rfl ?_
        refine wiconst OGc 565 X335 B at_564 3 rfl rfl ?_
        refine wicmpYes OGc 615 X335 B at_565 (by decide) rfl ?_
        refine wiload OGc 617 X335 B at_615 rfl rfl ?_
        refine own_retZ X335 hx (t := .boolean) hret (by simp) hlk (hb hby at_617) (by decide) (by decide) (w := (0 : Int32)) rfl ?_
        exact ⟨congrArg (fun z => some (Value.int z)) (show f0 q1 q2 q3 q4 q5 p6 = (0 : Int32) from (by rw [f0, if_pos c1, if_neg c92, if_neg c93, if_neg c342, if_neg c343, if_pos c344])).symm, N335⟩
      · refine wifNo OGc 472 X335 B at_469 (own_if0 (flt (fun q => c344 ((lw_gt _ _).mp q))).2.2.1) rfl ?_
        refine wiconst OGc 473 X335 B at_472 1 rfl rfl ?_
        refine wgoto OGc 477 X335 B at_473 rfl ?_
        refine wistore OGc 479 X335 B at_477 (LA0_89 q1 q2 q3 q4 q5 p6 b5 b26) rfl rfl ?_
        refine wiload OGc 481 X335 B at_479 rfl rfl ?_
        refine wiconst OGc 482 X335 B at_481 1 rfl rfl ?_
        refine wicmpYes OGc 518 X335 B at_482 (by decide) rfl ?_
        refine wiload OGc 520 X335 B at_518 rfl rfl ?_
        refine wiconst OGc 521 X335 B at_520 2 rfl rfl ?_
        refine wicmpYes OGc 562 X335 B at_521 (by decide) rfl ?_
        refine wiload OGc 564 X335 B at_562 rfl rfl ?_
        refine wiconst OGc 565 X335 B at_564 3 rfl rfl ?_
        refine wicmpYes OGc 615 X335 B at_565 (by decide) rfl ?_
        refine wiload OGc 617 X335 B at_615 rfl rfl ?_
        refine own_retZ X335 hx (t := .boolean) hret (by simp) hlk (hb hby at_617) (by decide) (by decide) (w := (1 : Int32)) rfl ?_
        exact ⟨congrArg (fun z => some (Value.int z)) (show f0 q1 q2 q3 q4 q5 p6 = (1 : Int32) from (by rw [f0, if_pos c1, if_neg c92, if_neg c93, if_neg c342, if_neg c343, if_neg c344])).symm, N335⟩
set_option maxRecDepth 65536 in
set_option maxHeartbeats 40000000 in
theorem tl0_1 (l : Launch) (Z : State) (a0 : Array Value) (hw : ∀ d ∈ tables_1, d.before a0 Z = true) (q1 : Int64) (q2 : Int64) (q3 : Int64) (q4 : Int64) (q5 : Int64) (p6 : Int32) (h0 : Heap) (n0 : Nat) (Z0 : n0 ≤ h0.size) (p : Program) (e : Env) (s : State) (m : MethodId) (below : List Frame) (meth : Method) (c : Code) (hx : p.tables.exec = Jvm.exec) (hby : c.code = code) (hml : c.maxLocals = 46) (hown : s.vm.findClass "com/example/fragmark/fragmark/PhraseMatcherSiftDownPinLaw" = some m.cls) (hret : meth.sig.returnType = ret) (hlk : meth.locks = false) (hZ : Z.Warmed39 s.vm)  (s₁ : State) (locs : List Loc) (xc : Stand p l e room_1 s m #[(.long q1), (.long q2), (.long q3), (.long q4), (.long q5), (.int p6)] below meth c s₁ locs 0 0)  (ec : s₁.heap = h0) (nc : Fr n0 locs) (kc : Keep h0 h0 [])     (c1 : (g0_1 q1 q2 q3 q4 q5 p6) = (0 : Int32)) :
    OG p e room_1 s below (fun v h L => v = some (.int (f0 q1 q2 q3 q4 q5 p6)) ∧ Fr n0 L) s₁ (mkF m 8 (LA0_1 q1 q2 q3 q4 q5 p6) [(.long q4)]) := by
  have B := And.intro hx hby
  refine wlstore OGc 10 xc B at_8 (LA0_2 q1 q2 q3 q4 q5 p6) rfl rfl ?_
  refine wlload OGc 12 xc B at_10 rfl rfl ?_
  refine wlstore OGc 14 xc B at_12 (LA0_3 q1 q2 q3 q4 q5 p6) rfl rfl ?_
  refine wiload OGc 16 xc B at_14 rfl rfl ?_
  refine wiconst OGc 17 xc B at_16 2 rfl rfl ?_
  refine own_st (fun t k => XS.ishr xc.here hx rfl (hb hby at_17) rfl k) ?_
  show OG p e _ s below _ s₁ (mkF m 18 (LA0_3 q1 q2 q3 q4 q5 p6) [(.int (p6 >>> ((2 : Int32) &&& 31)))])
  refine own_st (fun t k => XS.i2l xc.here hx rfl (hb hby at_18) rfl k) ?_
  show OG p e _ s below _ s₁ (mkF m 19 (LA0_3 q1 q2 q3 q4 q5 p6) [(.long ((p6 >>> ((2 : Int32) &&& 31)).toInt64))])
  refine wlstore OGc 21 xc B at_19 (LA0_4 q1 q2 q3 q4 q5 p6) rfl rfl ?_
  refine wiload OGc 23 xc B at_21 rfl rfl ?_
  refine wiconst OGc 24 xc B at_23 1 rfl rfl ?_
  refine wicmpYes OGc 31 xc B at_24 (by decide) rfl ?_
  refine wlloadN OGc 32 xc B at_31 rfl rfl ?_
  refine wlload OGc 34 xc B at_32 rfl rfl ?_
  refine wlload OGc 36 xc B at_34 rfl rfl ?_
  refine wstat OGc 39 xc B hZ hown (ow hw 0 rfl) (ow hw 1 rfl) (ow hw 3 rfl) (ow hw 2 rfl) ec (rm1 l Z a0 hw [] q4 q5 h0) 2 (by decide) (by decide) hml rfl (lenOf pd__JJ_J rfl) [(.long q2)] rfl rfl at_36 rfl fun _ T2 L2 X2 hQ2 => ?_
  obtain ⟨rfl, rfl, e2⟩ := hQ2
  have N2 := Fr.app nc (Fr.nil n0)
  refine own_stk (S' := [(.long (f1 q4 q5)), (.long q2)]) rfl ?_
  refine wstat OGc 42 X2 B hZ hown (ow hw 0 rfl) (ow hw 1 rfl) (ow hw 3 rfl) (ow hw 2 rfl) e2 (rm1 l Z a0 hw [] q2 (f1 q4 q5) h0) 0 (by decide) (by decide) hml rfl (lenOf pd__JJ_J rfl) [] rfl rfl at_39 rfl fun _ T3 L3 X3 hQ3 => ?_
  obtain ⟨rfl, rfl, e3⟩ := hQ3
  have N3 := Fr.app N2 (Fr.nil n0)
  refine own_stk (S' := [(.long (f1 q2 (f1 q4 q5)))]) rfl ?_
  refine wlstore OGc 44 X3 B at_42 (LA0_5 q1 q2 q3 q4 q5 p6) rfl rfl ?_
  refine wiload OGc 46 X3 B at_44 rfl rfl ?_
  refine wiconst OGc 47 X3 B at_46 2 rfl rfl ?_
  refine wicmpYes OGc 55 X3 B at_47 (by decide) rfl ?_
  refine wlload OGc 57 X3 B at_55 rfl rfl ?_
  refine wlload OGc 59 X3 B at_57 rfl rfl ?_
  refine wstat OGc 62 X3 B hZ hown (ow hw 0 rfl) (ow hw 1 rfl) (ow hw 3 rfl) (ow hw 2 rfl) e3 (rm1 l Z a0 hw [] q3 (g0_2 q1 q2 q3 q4 q5 p6) h0) 0 (by decide) (by decide) hml rfl (lenOf pd__JJ_J rfl) [] rfl rfl at_59 rfl fun _ T4 L4 X4 hQ4 => ?_
  obtain ⟨rfl, rfl, e4⟩ := hQ4
  have N4 := Fr.app N3 (Fr.nil n0)
  refine own_stk (S' := [(.long (f1 q3 (g0_2 q1 q2 q3 q4 q5 p6)))]) rfl ?_
  refine wlstore OGc 64 X4 B at_62 (LA0_6 q1 q2 q3 q4 q5 p6) rfl rfl ?_
  refine wiload OGc 66 X4 B at_64 rfl rfl ?_
  refine wifNo OGc 69 X4 B at_66 (by decide) rfl ?_
  refine wlloadN OGc 70 X4 B at_69 rfl rfl ?_
  refine wgoto OGc 99 X4 B at_70 rfl ?_
  refine wlstore OGc 101 X4 B at_99 (LA0_7 q1 q2 q3 q4 q5 p6) rfl rfl ?_
  refine wbipush OGc 103 X4 B at_101 6 rfl rfl ?_
  refine wnewP OGc 105 X4 B hZ (ow hw 4 rfl) e4 at_103 6 (by decide) (by decide) rfl fun T5 h5 b5 k5 gb5 X5 e5 E5 A5 => ?_
  have ge_b5 : n0 ≤ b5 := by rw [gb5]; exact Nat.le_trans Z0 kc.1
  have sz_b5 : h0.size ≤ b5 := by rw [gb5]; exact kc.1
  have K6 := kc.ext E5
  have F7 : OA Z h5 b5 .int [(.int (0 : Int32)), (.int (0 : Int32)), (.int (0 : Int32)), (.int (0 : Int32)), (.int (0 : Int32)), (.int (0 : Int32))] := OA.new A5
  refine wdup OGc 106 X5 B at_105 rfl rfl ?_
  refine wiconst OGc 107 X5 B at_106 0 rfl rfl ?_
  refine wiconst OGc 108 X5 B at_107 2 rfl rfl ?_
  refine wstI OGc 109 X5 B hZ e5 F7 0 (by decide) (by decide) (by decide : 0 < 6) at_108 rfl fun T8 h8 X8 e8 W8 => ?_
  have N8 := Fr.snoc X8 N4 ge_b5
  have K9 := K6.wr W8 (Or.inr sz_b5)
  have F10 : OA Z h8 b5 .int [(.int (2 : Int32)), (.int (0 : Int32)), (.int (0 : Int32)), (.int (0 : Int32)), (.int (0 : Int32)), (.int (0 : Int32))] := (F7.set W8 (i := 0) (by decide))
  refine wdup OGc 110 X8 B at_109 rfl rfl ?_
  refine wiconst OGc 111 X8 B at_110 1 rfl rfl ?_
  refine wiconst OGc 112 X8 B at_111 0 rfl rfl ?_
  refine wstI OGc 113 X8 B hZ e8 F10 1 (by decide) (by decide) (by decide : 1 < 6) at_112 rfl fun T11 h11 X11 e11 W11 => ?_
  have N11 := Fr.snoc X11 N8 ge_b5
  have K12 := K9.wr W11 (Or.inr sz_b5)
  have F13 : OA Z h11 b5 .int [(.int (2 : Int32)), (.int (0 : Int32)), (.int (0 : Int32)), (.int (0 : Int32)), (.int (0 : Int32)), (.int (0 : Int32))] := (F10.set W11 (i := 1) (by decide))
  refine wdup OGc 114 X11 B at_113 rfl rfl ?_
  refine wiconst OGc 115 X11 B at_114 2 rfl rfl ?_
  refine wiconst OGc 116 X11 B at_115 5 rfl rfl ?_
  refine wstI OGc 117 X11 B hZ e11 F13 2 (by decide) (by decide) (by decide : 2 < 6) at_116 rfl fun T14 h14 X14 e14 W14 => ?_
  have N14 := Fr.snoc X14 N11 ge_b5
  have K15 := K12.wr W14 (Or.inr sz_b5)
  have F16 : OA Z h14 b5 .int [(.int (2 : Int32)), (.int (0 : Int32)), (.int (5 : Int32)), (.int (0 : Int32)), (.int (0 : Int32)), (.int (0 : Int32))] := (F13.set W14 (i := 2) (by decide))
  refine wdup OGc 118 X14 B at_117 rfl rfl ?_
  refine wiconst OGc 119 X14 B at_118 3 rfl rfl ?_
  refine wiconst OGc 120 X14 B at_119 1 rfl rfl ?_
  refine wstI OGc 121 X14 B hZ e14 F16 3 (by decide) (by decide) (by decide : 3 < 6) at_120 rfl fun T17 h17 X17 e17 W17 => ?_
  have N17 := Fr.snoc X17 N14 ge_b5
  have K18 := K15.wr W17 (Or.inr sz_b5)
  have F19 : OA Z h17 b5 .int [(.int (2 : Int32)), (.int (0 : Int32)), (.int (5 : Int32)), (.int (1 : Int32)), (.int (0 : Int32)), (.int (0 : Int32))] := (F16.set W17 (i := 3) (by decide))
  refine wdup OGc 122 X17 B at_121 rfl rfl ?_
  refine wiconst OGc 123 X17 B at_122 4 rfl rfl ?_
  refine wiconst OGc 124 X17 B at_123 3 rfl rfl ?_
  refine wstI OGc 125 X17 B hZ e17 F19 4 (by decide) (by decide) (by decide : 4 < 6) at_124 rfl fun T20 h20 X20 e20 W20 => ?_
  have N20 := Fr.snoc X20 N17 ge_b5
  have K21 := K18.wr W20 (Or.inr sz_b5)
  have F22 : OA Z h20 b5 .int [(.int (2 : Int32)), (.int (0 : Int32)), (.int (5 : Int32)), (.int (1 : Int32)), (.int (3 : Int32)), (.int (0 : Int32))] := (F19.set W20 (i := 4) (by decide))
  refine wdup OGc 126 X20 B at_125 rfl rfl ?_
  refine wiconst OGc 127 X20 B at_126 5 rfl rfl ?_
  refine wiconst OGc 128 X20 B at_127 4 rfl rfl ?_
  refine wstI OGc 129 X20 B hZ e20 F22 5 (by decide) (by decide) (by decide : 5 < 6) at_128 rfl fun T23 h23 X23 e23 W23 => ?_
  have N23 := Fr.snoc X23 N20 ge_b5
  have K24 := K21.wr W23 (Or.inr sz_b5)
  have F25 : OA Z h23 b5 .int [(.int (2 : Int32)), (.int (0 : Int32)), (.int (5 : Int32)), (.int (1 : Int32)), (.int (3 : Int32)), (.int (4 : Int32))] := (F22.set W23 (i := 5) (by decide))
  refine wastore OGc 131 X23 B at_129 (LA0_8 q1 q2 q3 q4 q5 p6 b5) rfl rfl rfl ?_
  refine wbipush OGc 133 X23 B at_131 6 rfl rfl ?_
  refine wnewP OGc 135 X23 B hZ (ow hw 5 rfl) e23 at_133 6 (by decide) (by decide) rfl fun T26 h26 b26 k26 gb26 X26 e26 E26 A26 => ?_
  have ge_b26 : n0 ≤ b26 := by rw [gb26]; exact Nat.le_trans Z0 K24.1
  have sz_b26 : h0.size ≤ b26 := by rw [gb26]; exact K24.1
  have ne_b5_b26 : b5 ≠ b26 := Nat.ne_of_lt (Nat.lt_of_lt_of_eq F25.lt gb26.symm)
  have F27 := F25.ext E26
  have K28 := K24.ext E26
  have F29 : OA Z h26 b26 .long [(.long (0 : Int64)), (.long (0 : Int64)), (.long (0 : Int64)), (.long (0 : Int64)), (.long (0 : Int64)), (.long (0 : Int64))] := OA.new A26
  refine wastore OGc 137 X26 B at_135 (LA0_9 q1 q2 q3 q4 q5 p6 b5 b26) rfl rfl rfl ?_
  refine waload OGc 139 X26 B at_137 rfl rfl rfl ?_
  refine wiconst OGc 140 X26 B at_139 2 rfl rfl ?_
  refine wlload OGc 142 X26 B at_140 rfl rfl ?_
  refine wstJ OGc 143 X26 B hZ e26 F29 2 (by decide) (by decide) (by decide : 2 < 6) at_142 rfl fun T30 h30 X30 e30 W30 => ?_
  have N30 := Fr.snoc X30 N23 ge_b26
  have K31 := K28.wr W30 (Or.inr sz_b26)
  have F32 := F27.other W30 ne_b5_b26
  have F33 : OA Z h30 b26 .long [(.long (0 : Int64)), (.long (0 : Int64)), (.long q1), (.long (0 : Int64)), (.long (0 : Int64)), (.long (0 : Int64))] := (F29.set W30 (i := 2) (by decide))
  refine waload OGc 145 X30 B at_143 rfl rfl rfl ?_
  refine wiconst OGc 146 X30 B at_145 0 rfl rfl ?_
  refine wlload OGc 148 X30 B at_146 rfl rfl ?_
  refine wstJ OGc 149 X30 B hZ e30 F33 0 (by decide) (by decide) (by decide : 0 < 6) at_148 rfl fun T34 h34 X34 e34 W34 => ?_
  have N34 := Fr.snoc X34 N30 ge_b26
  have K35 := K31.wr W34 (Or.inr sz_b26)
  have F36 := F32.other W34 ne_b5_b26
  have F37 : OA Z h34 b26 .long [(.long (f1 q2 (f1 q4 q5))), (.long (0 : Int64)), (.long q1), (.long (0 : Int64)), (.long (0 : Int64)), (.long (0 : Int64))] := (F33.set W34 (i := 0) (by decide))
  refine waload OGc 151 X34 B at_149 rfl rfl rfl ?_
  refine wiconst OGc 152 X34 B at_151 5 rfl rfl ?_
  refine wlload OGc 154 X34 B at_152 rfl rfl ?_
  refine wstJ OGc 155 X34 B hZ e34 F37 5 (by decide) (by decide) (by decide : 5 < 6) at_154 rfl fun T38 h38 X38 e38 W38 => ?_
  have N38 := Fr.snoc X38 N34 ge_b26
  have K39 := K35.wr W38 (Or.inr sz_b26)
  have F40 := F36.other W38 ne_b5_b26
  have F41 : OA Z h38 b26 .long [(.long (f1 q2 (f1 q4 q5))), (.long (0 : Int64)), (.long q1), (.long (0 : Int64)), (.long (0 : Int64)), (.long (g0_3 q1 q2 q3 q4 q5 p6))] := (F37.set W38 (i := 5) (by decide))
  refine waload OGc 157 X38 B at_155 rfl rfl rfl ?_
  refine wiconst OGc 158 X38 B at_157 1 rfl rfl ?_
  refine wlload OGc 160 X38 B at_158 rfl rfl ?_
  refine wstJ OGc 161 X38 B hZ e38 F41 1 (by decide) (by decide) (by decide : 1 < 6) at_160 rfl fun T42 h42 X42 e42 W42 => ?_
  have N42 := Fr.snoc X42 N38 ge_b26
  have K43 := K39.wr W42 (Or.inr sz_b26)
  have F44 := F40.other W42 ne_b5_b26
  have F45 : OA Z h42 b26 .long [(.long (f1 q2 (f1 q4 q5))), (.long q4), (.long q1), (.long (0 : Int64)), (.long (0 : Int64)), (.long (g0_3 q1 q2 q3 q4 q5 p6))] := (F41.set W42 (i := 1) (by decide))
  refine waload OGc 163 X42 B at_161 rfl rfl rfl ?_
  refine wiconst OGc 164 X42 B at_163 3 rfl rfl ?_
  refine wlload OGc 166 X42 B at_164 rfl rfl ?_
  refine wstJ OGc 167 X42 B hZ e42 F45 3 (by decide) (by decide) (by decide : 3 < 6) at_166 rfl fun T46 h46 X46 e46 W46 => ?_
  have N46 := Fr.snoc X46 N42 ge_b26
  have K47 := K43.wr W46 (Or.inr sz_b26)
  have F48 := F44.other W46 ne_b5_b26
  have F49 : OA Z h46 b26 .long [(.long (f1 q2 (f1 q4 q5))), (.long q4), (.long q1), (.long q5), (.long (0 : Int64)), (.long (g0_3 q1 q2 q3 q4 q5 p6))] := (F45.set W46 (i := 3) (by decide))
  refine waload OGc 169 X46 B at_167 rfl rfl rfl ?_
  refine wiconst OGc 170 X46 B at_169 4 rfl rfl ?_
  refine wlload OGc 172 X46 B at_170 rfl rfl ?_
  refine wstJ OGc 173 X46 B hZ e46 F49 4 (by decide) (by decide) (by decide : 4 < 6) at_172 rfl fun T50 h50 X50 e50 W50 => ?_
  have N50 := Fr.snoc X50 N46 ge_b26
  have K51 := K47.wr W50 (Or.inr sz_b26)
  have F52 := F48.other W50 ne_b5_b26
  have F53 : OA Z h50 b26 .long [(.long (f1 q2 (f1 q4 q5))), (.long q4), (.long q1), (.long q5), (.long (g0_2 q1 q2 q3 q4 q5 p6)), (.long (g0_3 q1 q2 q3 q4 q5 p6))] := (F49.set W50 (i := 4) (by decide))
  refine waload OGc 175 X50 B at_173 rfl rfl rfl ?_
  refine waload OGc 177 X50 B at_175 rfl rfl rfl ?_
  refine wiload OGc 179 X50 B at_177 rfl rfl ?_
  refine wstat OGc 182 X50 B hZ hown (ow hw 6 rfl) (ow hw 7 rfl) (ow hw 9 rfl) (ow hw 8 rfl) e50 (rm2_0 l Z a0 hw [] b5 b26 (f1 q2 (f1 q4 q5)) q4 q1 q5 (g0_2 q1 q2 q3 q4 q5 p6) (g0_3 q1 q2 q3 q4 q5 p6) h50 n0 F52 F53 ge_b5 (Ne.symm ne_b5_b26)) 0 (by decide) (by decide) hml rfl (lenOf pd___I_JI_V rfl) [] rfl rfl at_179 rfl fun _ T54 L54 X54 hQ54 => ?_
  obtain ⟨rfl, N54q, K54q, hD54⟩ := hQ54
  have N54 := Fr.app N50 N54q
  have K54 := K51.trans K54q (own_all1 (Or.inr sz_b5))
  have F55 := F53.keep K54q (own_nin1 (Ne.symm ne_b5_b26))
  rcases hD54 with ⟨c56, c57, c58, F59⟩ | ⟨c60, c61, c62, F63⟩ | ⟨c64, c65, c66, c67, F68⟩ | ⟨c69, c70, c71, c72, F73⟩ | ⟨c74, c75, c76, c77, F78⟩ | ⟨c79, c80, c81, c82, F83⟩ | ⟨c84, c85, c86, F87⟩ | ⟨c88, c89, c90, F91⟩ | ⟨c92, c93, F94⟩
  · skip
    refine own_stk (S' := []) rfl ?_
    exact tl0_2 l Z a0 hw q1 q2 q3 q4 q5 p6 h0 n0 Z0 p e s m below meth c hx hby hml hown hret hlk hZ b26 b5 T54 _ X54 N54 K54 ge_b26 ge_b5 sz_b26 sz_b5 ne_b5_b26 F55 F59 c1 c56 c57 c58
  · skip
    refine own_stk (S' := []) rfl ?_
    exact tl0_3 l Z a0 hw q1 q2 q3 q4 q5 p6 h0 n0 Z0 p e s m below meth c hx hby hml hown hret hlk hZ b26 b5 T54 _ X54 N54 K54 ge_b26 ge_b5 sz_b26 sz_b5 ne_b5_b26 F55 F63 c1 c60 c61 c62
  · skip
    refine own_stk (S' := []) rfl ?_
    exact tl0_4 l Z a0 hw q1 q2 q3 q4 q5 p6 h0 n0 Z0 p e s m below meth c hx hby hml hown hret hlk hZ b26 b5 T54 _ X54 N54 K54 ge_b26 ge_b5 sz_b26 sz_b5 ne_b5_b26 F55 F68 c1 c64 c65 c66 c67
  · skip
    refine own_stk (S' := []) rfl ?_
    exact tl0_5 l Z a0 hw q1 q2 q3 q4 q5 p6 h0 n0 Z0 p e s m below meth c hx hby hml hown hret hlk hZ b26 b5 T54 _ X54 N54 K54 ge_b26 ge_b5 sz_b26 sz_b5 ne_b5_b26 F55 F73 c1 c69 c70 c71 c72
  · skip
    refine own_stk (S' := []) rfl ?_
    exact tl0_6 l Z a0 hw q1 q2 q3 q4 q5 p6 h0 n0 Z0 p e s m below meth c hx hby hml hown hret hlk hZ b26 b5 T54 _ X54 N54 K54 ge_b26 ge_b5 sz_b26 sz_b5 ne_b5_b26 F55 F78 c1 c74 c75 c76 c77
  · skip
    refine own_stk (S' := []) rfl ?_
    exact tl0_7 l Z a0 hw q1 q2 q3 q4 q5 p6 h0 n0 Z0 p e s m below meth c hx hby hml hown hret hlk hZ b26 b5 T54 _ X54 N54 K54 ge_b26 ge_b5 sz_b26 sz_b5 ne_b5_b26 F55 F83 c1 c79 c80 c81 c82
  · skip
    refine own_stk (S' := []) rfl ?_
    exact tl0_8 l Z a0 hw q1 q2 q3 q4 q5 p6 h0 n0 Z0 p e s m below meth c hx hby hml hown hret hlk hZ b26 b5 T54 _ X54 N54 K54 ge_b26 ge_b5 sz_b26 sz_b5 ne_b5_b26 F55 F87 c1 c84 c85 c86
  · skip
    refine own_stk (S' := []) rfl ?_
    exact tl0_9 l Z a0 hw q1 q2 q3 q4 q5 p6 h0 n0 Z0 p e s m below meth c hx hby hml hown hret hlk hZ b26 b5 T54 _ X54 N54 K54 ge_b26 ge_b5 sz_b26 sz_b5 ne_b5_b26 F55 F91 c1 c88 c89 c90
  · skip
    refine own_stk (S' := []) rfl ?_
    exact tl0_10 l Z a0 hw q1 q2 q3 q4 q5 p6 h0 n0 Z0 p e s m below meth c hx hby hml hown hret hlk hZ b26 b5 T54 _ X54 N54 K54 ge_b26 ge_b5 sz_b26 sz_b5 ne_b5_b26 F55 F94 c1 c92 c93
set_option maxRecDepth 65536 in
set_option maxHeartbeats 40000000 in
theorem tl0_12 (l : Launch) (Z : State) (a0 : Array Value) (hw : ∀ d ∈ tables_1, d.before a0 Z = true) (q1 : Int64) (q2 : Int64) (q3 : Int64) (q4 : Int64) (q5 : Int64) (p6 : Int32) (h0 : Heap) (n0 : Nat) (Z0 : n0 ≤ h0.size) (p : Program) (e : Env) (s : State) (m : MethodId) (below : List Frame) (meth : Method) (c : Code) (hx : p.tables.exec = Jvm.exec) (hby : c.code = code) (hml : c.maxLocals = 46) (hown : s.vm.findClass "com/example/fragmark/fragmark/PhraseMatcherSiftDownPinLaw" = some m.cls) (hret : meth.sig.returnType = ret) (hlk : meth.locks = false) (hZ : Z.Warmed39 s.vm) (b352 : Addr) (b373 : Addr) (T401 : State) (locs : List Loc) (xc : Stand p l e room_1 s m #[(.long q1), (.long q2), (.long q3), (.long q4), (.long q5), (.int p6)] below meth c T401 locs 2 12)   (nc : Fr n0 locs) (kc : Keep h0 T401.heap []) (gc_b352 : n0 ≤ b352) (gc_b373 : n0 ≤ b373) (sc_b352 : h0.size ≤ b352) (sc_b373 : h0.size ≤ b373) (xc_b352_b373 : b352 ≠ b373) (fc0 : OA Z T401.heap b373 .long [(.long q2), (.long q4), (.long (g0_4 q1 q2 q3 q4 q5 p6)), (.long q5), (.long (g0_2 q1 q2 q3 q4 q5 p6)), (.long (g0_3 q1 q2 q3 q4 q5 p6))]) (fc1 : OA Z T401.heap b352 .int [(.int (2 : Int32)), (.int (3 : Int32)), (.int (5 : Int32)), (.int (1 : Int32)), (.int (0 : Int32)), (.int (4 : Int32))]) (c1 : ¬ ((g0_1 q1 q2 q3 q4 q5 p6) = (0 : Int32))) (c345 : (g0_1 q1 q2 q3 q4 q5 p6) = (1 : Int32)) (c403 : q4 < q2) (c404 : q5 < q4) :
    OG p e room_1 s below (fun v h L => v = some (.int (f0 q1 q2 q3 q4 q5 p6)) ∧ Fr n0 L) T401 (mkF m 182 (LA0_99 q1 q2 q3 q4 q5 p6 b352 b373) []) := by
  have B := And.intro hx hby
  refine waload OGc 184 xc B at_182 rfl rfl rfl ?_
  refine wiconst OGc 185 xc B at_184 2 rfl rfl ?_
  refine wlaload OGc 186 xc B hZ rfl fc0 (v := (.long (g0_4 q1 q2 q3 q4 q5 p6))) 2 (by decide) (by decide) rfl at_185 rfl ?_
  refine wlload OGc 188 xc B at_186 rfl rfl ?_
  refine wlcmp OGc 189 xc B at_188 rfl ?_
  refine wifNo OGc 192 xc B at_189 (own_if0 (teq ((lw_eq _ _).mpr rfl)).2) rfl ?_
  refine waload OGc 194 xc B at_192 rfl rfl rfl ?_
  refine wiconst OGc 195 xc B at_194 0 rfl rfl ?_
  refine wlaload OGc 196 xc B hZ rfl fc0 (v := (.long q2)) 0 (by decide) (by decide) rfl at_195 rfl ?_
  refine wlload OGc 198 xc B at_196 rfl rfl ?_
  refine wlcmp OGc 199 xc B at_198 rfl ?_
  refine wifNo OGc 202 xc B at_199 (own_if0 (teq ((lw_eq _ _).mpr rfl)).2) rfl ?_
  refine waload OGc 204 xc B at_202 rfl rfl rfl ?_
  refine wiconst OGc 205 xc B at_204 5 rfl rfl ?_
  refine wlaload OGc 206 xc B hZ rfl fc0 (v := (.long (g0_3 q1 q2 q3 q4 q5 p6))) 5 (by decide) (by decide) rfl at_205 rfl ?_
  refine wlload OGc 208 xc B at_206 rfl rfl ?_
  refine wlcmp OGc 209 xc B at_208 rfl ?_
  refine wifNo OGc 212 xc B at_209 (own_if0 (teq ((lw_eq _ _).mpr rfl)).2) rfl ?_
  refine waload OGc 214 xc B at_212 rfl rfl rfl ?_
  refine wiconst OGc 215 xc B at_214 1 rfl rfl ?_
  refine wlaload OGc 216 xc B hZ rfl fc0 (v := (.long q4)) 1 (by decide) (by decide) rfl at_215 rfl ?_
  refine wlload OGc 218 xc B at_216 rfl rfl ?_
  refine wlcmp OGc 219 xc B at_218 rfl ?_
  refine wifNo OGc 222 xc B at_219 (own_if0 (teq ((lw_eq _ _).mpr rfl)).2) rfl ?_
  refine waload OGc 224 xc B at_222 rfl rfl rfl ?_
  refine wiconst OGc 225 xc B at_224 3 rfl rfl ?_
  refine wlaload OGc 226 xc B hZ rfl fc0 (v := (.long q5)) 3 (by decide) (by decide) rfl at_225 rfl ?_
  refine wlload OGc 228 xc B at_226 rfl rfl ?_
  refine wlcmp OGc 229 xc B at_228 rfl ?_
  refine wifNo OGc 232 xc B at_229 (own_if0 (teq ((lw_eq _ _).mpr rfl)).2) rfl ?_
  refine waload OGc 234 xc B at_232 rfl rfl rfl ?_
  refine wiconst OGc 235 xc B at_234 4 rfl rfl ?_
  refine wlaload OGc 236 xc B hZ rfl fc0 (v := (.long (g0_2 q1 q2 q3 q4 q5 p6))) 4 (by decide) (by decide) rfl at_235 rfl ?_
  refine wlload OGc 238 xc B at_236 rfl rfl ?_
  refine wlcmp OGc 239 xc B at_238 rfl ?_
  refine wifNo OGc 242 xc B at_239 (own_if0 (teq ((lw_eq _ _).mpr rfl)).2) rfl ?_
  refine wiconst OGc 243 xc B at_242 1 rfl rfl ?_
  refine wgoto OGc 247 xc B at_243 rfl ?_
  refine wistore OGc 249 xc B at_247 (LA0_100 q1 q2 q3 q4 q5 p6 b352 b373) rfl rfl ?_
  refine waload OGc 251 xc B at_249 rfl rfl rfl ?_
  refine wiconst OGc 252 xc B at_251 0 rfl rfl ?_
  refine wiaload OGc 253 xc B hZ rfl fc1 (v := (.int (2 : Int32))) 0 (by decide) (by decide) rfl at_252 rfl ?_
  refine wistore OGc 255 xc B at_253 (LA0_101 q1 q2 q3 q4 q5 p6 b352 b373) rfl rfl ?_
  refine waload OGc 257 xc B at_255 rfl rfl rfl ?_
  refine wiconst OGc 258 xc B at_257 1 rfl rfl ?_
  refine wiaload OGc 259 xc B hZ rfl fc1 (v := (.int (3 : Int32))) 1 (by decide) (by decide) rfl at_258 rfl ?_
  refine wistore OGc 261 xc B at_259 (LA0_102 q1 q2 q3 q4 q5 p6 b352 b373) rfl rfl ?_
  refine waload OGc 263 xc B at_261 rfl rfl rfl ?_
  refine wiconst OGc 264 xc B at_263 2 rfl rfl ?_
  refine wiaload OGc 265 xc B hZ rfl fc1 (v := (.int (5 : Int32))) 2 (by decide) (by decide) rfl at_264 rfl ?_
  refine wistore OGc 267 xc B at_265 (LA0_103 q1 q2 q3 q4 q5 p6 b352 b373) rfl rfl ?_
  refine waload OGc 269 xc B at_267 rfl rfl rfl ?_
  refine wiconst OGc 270 xc B at_269 3 rfl rfl ?_
  refine wiaload OGc 271 xc B hZ rfl fc1 (v := (.int (1 : Int32))) 3 (by decide) (by decide) rfl at_270 rfl ?_
  refine wistore OGc 273 xc B at_271 (LA0_104 q1 q2 q3 q4 q5 p6 b352 b373) rfl rfl ?_
  refine waload OGc 275 xc B at_273 rfl rfl rfl ?_
  refine wiconst OGc 276 xc B at_275 4 rfl rfl ?_
  refine wiaload OGc 277 xc B hZ rfl fc1 (v := (.int (0 : Int32))) 4 (by decide) (by decide) rfl at_276 rfl ?_
  refine wistore OGc 279 xc B at_277 (LA0_105 q1 q2 q3 q4 q5 p6 b352 b373) rfl rfl ?_
  refine waload OGc 281 xc B at_279 rfl rfl rfl ?_
  refine wiconst OGc 282 xc B at_281 5 rfl rfl ?_
  refine wiaload OGc 283 xc B hZ rfl fc1 (v := (.int (4 : Int32))) 5 (by decide) (by decide) rfl at_282 rfl ?_
  refine wistore OGc 285 xc B at_283 (LA0_106 q1 q2 q3 q4 q5 p6 b352 b373) rfl rfl ?_
  refine wiload OGc 287 xc B at_285 rfl rfl ?_
  refine wstat OGc 290 xc B hZ hown (ow hw 10 rfl) (ow hw 11 rfl) (ow hw 13 rfl) (ow hw 12 rfl) rfl (rm3 l Z a0 hw [] (2 : Int32) T401.heap) 0 (by decide) (by decide) hml rfl (lenOf pd__I_Z rfl) [] rfl rfl at_287 rfl fun _ T427 L427 X427 hQ427 => ?_
  obtain ⟨rfl, rfl, e427⟩ := hQ427
  have N427 := Fr.app nc (Fr.nil n0)
  refine own_stk (S' := [(.int (f3 (2 : Int32)))]) rfl ?_
  refine wifNo OGc 293 X427 B at_290 (own_if0 (feq (by decide)).1) rfl ?_
  refine wiload OGc 295 X427 B at_293 rfl rfl ?_
  refine wstat OGc 298 X427 B hZ hown (ow hw 10 rfl) (ow hw 11 rfl) (ow hw 13 rfl) (ow hw 12 rfl) e427 (rm3 l Z a0 hw [] (3 : Int32) T401.heap) 0 (by decide) (by decide) hml rfl (lenOf pd__I_Z rfl) [] rfl rfl at_295 rfl fun _ T428 L428 X428 hQ428 => ?_
  obtain ⟨rfl, rfl, e428⟩ := hQ428
  have N428 := Fr.app N427 (Fr.nil n0)
  refine own_stk (S' := [(.int (f3 (3 : Int32)))]) rfl ?_
  refine wifNo OGc 301 X428 B at_298 (own_if0 (feq (by decide)).1) rfl ?_
  refine wiload OGc 303 X428 B at_301 rfl rfl ?_
  refine wstat OGc 306 X428 B hZ hown (ow hw 10 rfl) (ow hw 11 rfl) (ow hw 13 rfl) (ow hw 12 rfl) e428 (rm3 l Z a0 hw [] (5 : Int32) T401.heap) 0 (by decide) (by decide) hml rfl (lenOf pd__I_Z rfl) [] rfl rfl at_303 rfl fun _ T429 L429 X429 hQ429 => ?_
  obtain ⟨rfl, rfl, e429⟩ := hQ429
  have N429 := Fr.app N428 (Fr.nil n0)
  refine own_stk (S' := [(.int (f3 (5 : Int32)))]) rfl ?_
  refine wifNo OGc 309 X429 B at_306 (own_if0 (feq (by decide)).1) rfl ?_
  refine wiload OGc 311 X429 B at_309 rfl rfl ?_
  refine wstat OGc 314 X429 B hZ hown (ow hw 10 rfl) (ow hw 11 rfl) (ow hw 13 rfl) (ow hw 12 rfl) e429 (rm3 l Z a0 hw [] (1 : Int32) T401.heap) 0 (by decide) (by decide) hml rfl (lenOf pd__I_Z rfl) [] rfl rfl at_311 rfl fun _ T430 L430 X430 hQ430 => ?_
  obtain ⟨rfl, rfl, e430⟩ := hQ430
  have N430 := Fr.app N429 (Fr.nil n0)
  refine own_stk (S' := [(.int (f3 (1 : Int32)))]) rfl ?_
  refine wifNo OGc 317 X430 B at_314 (own_if0 (feq (by decide)).1) rfl ?_
  refine wiload OGc 319 X430 B at_317 rfl rfl ?_
  refine wstat OGc 322 X430 B hZ hown (ow hw 10 rfl) (ow hw 11 rfl) (ow hw 13 rfl) (ow hw 12 rfl) e430 (rm3 l Z a0 hw [] (0 : Int32) T401.heap) 0 (by decide) (by decide) hml rfl (lenOf pd__I_Z rfl) [] rfl rfl at_319 rfl fun _ T431 L431 X431 hQ431 => ?_
  obtain ⟨rfl, rfl, e431⟩ := hQ431
  have N431 := Fr.app N430 (Fr.nil n0)
  refine own_stk (S' := [(.int (f3 (0 : Int32)))]) rfl ?_
  refine wifNo OGc 325 X431 B at_322 (own_if0 (feq (by decide)).1) rfl ?_
  refine wiload OGc 327 X431 B at_325 rfl rfl ?_
  refine wstat OGc 330 X431 B hZ hown (ow hw 10 rfl) (ow hw 11 rfl) (ow hw 13 rfl) (ow hw 12 rfl) e431 (rm3 l Z a0 hw [] (4 : Int32) T401.heap) 0 (by decide) (by decide) hml rfl (lenOf pd__I_Z rfl) [] rfl rfl at_327 rfl fun _ T432 L432 X432 hQ432 => ?_
  obtain ⟨rfl, rfl, e432⟩ := hQ432
  have N432 := Fr.app N431 (Fr.nil n0)
  refine own_stk (S' := [(.int (f3 (4 : Int32)))]) rfl ?_
  refine wifYes OGc 335 X432 B at_330 (own_if0 (feq (by decide)).2) rfl ?_
  refine wiconst OGc 336 X432 B at_335 1 rfl rfl ?_
  refine wiload OGc 338 X432 B at_336 rfl rfl ?_
  refine own_st (fun t k => XS.ishl X432.here hx rfl (hb hby at_338) rfl k) ?_
  show OG p e _ s below _ T432 (mkF m 339 (LA0_106 q1 q2 q3 q4 q5 p6 b352 b373) [(.int (4 : Int32))])
  refine wiconst OGc 340 X432 B at_339 1 rfl rfl ?_
  refine wiload OGc 342 X432 B at_340 rfl rfl ?_
  refine own_st (fun t k => XS.ishl X432.here hx rfl (hb hby at_342) rfl k) ?_
  show OG p e _ s below _ T432 (mkF m 343 (LA0_106 q1 q2 q3 q4 q5 p6 b352 b373) [(.int (8 : Int32)), (.int (4 : Int32))])
  refine own_st (fun t k => XS.ior X432.here hx rfl (hb hby at_343) rfl k) ?_
  show OG p e _ s below _ T432 (mkF m 344 (LA0_106 q1 q2 q3 q4 q5 p6 b352 b373) [(.int (12 : Int32))])
  refine wiconst OGc 345 X432 B at_344 1 rfl rfl ?_
  refine wiload OGc 347 X432 B at_345 rfl rfl ?_
  refine own_st (fun t k => XS.ishl X432.here hx rfl (hb hby at_347) rfl k) ?_
  show OG p e _ s below _ T432 (mkF m 348 (LA0_106 q1 q2 q3 q4 q5 p6 b352 b373) [(.int (32 : Int32)), (.int (12 : Int32))])
  refine own_st (fun t k => XS.ior X432.here hx rfl (hb hby at_348) rfl k) ?_
  show OG p e _ s below _ T432 (mkF m 349 (LA0_106 q1 q2 q3 q4 q5 p6 b352 b373) [(.int (44 : Int32))])
  refine wiconst OGc 350 X432 B at_349 1 rfl rfl ?_
  refine wiload OGc 352 X432 B at_350 rfl rfl ?_
  refine own_st (fun t k => XS.ishl X432.here hx rfl (hb hby at_352) rfl k) ?_
  show OG p e _ s below _ T432 (mkF m 353 (LA0_106 q1 q2 q3 q4 q5 p6 b352 b373) [(.int (2 : Int32)), (.int (44 : Int32))])
  refine own_st (fun t k => XS.ior X432.here hx rfl (hb hby at_353) rfl k) ?_
  show OG p e _ s below _ T432 (mkF m 354 (LA0_106 q1 q2 q3 q4 q5 p6 b352 b373) [(.int (46 : Int32))])
  refine wiconst OGc 355 X432 B at_354 1 rfl rfl ?_
  refine wiload OGc 357 X432 B at_355 rfl rfl ?_
  refine own_st (fun t k => XS.ishl X432.here hx rfl (hb hby at_357) rfl k) ?_
  show OG p e _ s below _ T432 (mkF m 358 (LA0_106 q1 q2 q3 q4 q5 p6 b352 b373) [(.int (1 : Int32)), (.int (46 : Int32))])
  refine own_st (fun t k => XS.ior X432.here hx rfl (hb hby at_358) rfl k) ?_
  show OG p e _ s below _ T432 (mkF m 359 (LA0_106 q1 q2 q3 q4 q5 p6 b352 b373) [(.int (47 : Int32))])
  refine wiconst OGc 360 X432 B at_359 1 rfl rfl ?_
  refine wiload OGc 362 X432 B at_360 rfl rfl ?_
  refine own_st (fun t k => XS.ishl X432.here hx rfl (hb hby at_362) rfl k) ?_
  show OG p e _ s below _ T432 (mkF m 363 (LA0_106 q1 q2 q3 q4 q5 p6 b352 b373) [(.int (16 : Int32)), (.int (47 : Int32))])
  refine own_st (fun t k => XS.ior X432.here hx rfl (hb hby at_363) rfl k) ?_
  show OG p e _ s below _ T432 (mkF m 364 (LA0_106 q1 q2 q3 q4 q5 p6 b352 b373) [(.int (63 : Int32))])
  refine wistore OGc 366 X432 B at_364 (LA0_107 q1 q2 q3 q4 q5 p6 b352 b373) rfl rfl ?_
  refine wiload OGc 368 X432 B at_366 rfl rfl ?_
  refine wifNo OGc 371 X432 B at_368 (by decide) rfl ?_
  refine wiload OGc 373 X432 B at_371 rfl rfl ?_
  refine wbipush OGc 375 X432 B at_373 63 rfl rfl ?_
  refine wicmpNo OGc 378 X432 B at_375 (by decide) rfl ?_
  refine wiconst OGc 379 X432 B at_378 1 rfl rfl ?_
  refine wgoto OGc 383 X432 B at_379 rfl ?_
  refine wistore OGc 385 X432 B at_383 (LA0_107 q1 q2 q3 q4 q5 p6 b352 b373) rfl rfl ?_
  refine waload OGc 387 X432 B at_385 rfl rfl rfl ?_
  refine wiload OGc 389 X432 B at_387 rfl rfl ?_
  refine wlaload OGc 390 X432 B hZ e432 fc0 (v := (.long (g0_4 q1 q2 q3 q4 q5 p6))) 2 (by decide) (by decide) rfl at_389 rfl ?_
  refine wlstore OGc 392 X432 B at_390 (LA0_108 q1 q2 q3 q4 q5 p6 b352 b373) rfl rfl ?_
  refine waload OGc 394 X432 B at_392 rfl rfl rfl ?_
  refine wiload OGc 396 X432 B at_394 rfl rfl ?_
  refine wlaload OGc 397 X432 B hZ e432 fc0 (v := (.long q5)) 3 (by decide) (by decide) rfl at_396 rfl ?_
  refine wlstore OGc 399 X432 B at_397 (LA0_109 q1 q2 q3 q4 q5 p6 b352 b373) rfl rfl ?_
  refine waload OGc 401 X432 B at_399 rfl rfl rfl ?_
  refine wiload OGc 403 X432 B at_401 rfl rfl ?_
  refine wlaload OGc 404 X432 B hZ e432 fc0 (v := (.long (g0_3 q1 q2 q3 q4 q5 p6))) 5 (by decide) (by decide) rfl at_403 rfl ?_
  refine wlstore OGc 406 X432 B at_404 (LA0_110 q1 q2 q3 q4 q5 p6 b352 b373) rfl rfl ?_
  refine waload OGc 408 X432 B at_406 rfl rfl rfl ?_
  refine wiload OGc 410 X432 B at_408 rfl rfl ?_
  refine wlaload OGc 411 X432 B hZ e432 fc0 (v := (.long q4)) 1 (by decide) (by decide) rfl at_410 rfl ?_
  refine wlstore OGc 413 X432 B at_411 (LA0_111 q1 q2 q3 q4 q5 p6 b352 b373) rfl rfl ?_
  refine waload OGc 415 X432 B at_413 rfl rfl rfl ?_
  refine wiload OGc 417 X432 B at_415 rfl rfl ?_
  refine wlaload OGc 418 X432 B hZ e432 fc0 (v := (.long q2)) 0 (by decide) (by decide) rfl at_417 rfl ?_
  refine wlstore OGc 420 X432 B at_418 (LA0_112 q1 q2 q3 q4 q5 p6 b352 b373) rfl rfl ?_
  refine waload OGc 422 X432 B at_420 rfl rfl rfl ?_
  refine wiload OGc 424 X432 B at_422 rfl rfl ?_
  refine wlaload OGc 425 X432 B hZ e432 fc0 (v := (.long (g0_2 q1 q2 q3 q4 q5 p6))) 4 (by decide) (by decide) rfl at_424 rfl ?_
  refine wlstore OGc 427 X432 B at_425 (LA0_113 q1 q2 q3 q4 q5 p6 b352 b373) rfl rfl ?_
  refine wiload OGc 429 X432 B at_427 rfl rfl ?_
  refine wifNo OGc 432 X432 B at_429 (by decide) rfl ?_
  refine wlload OGc 434 X432 B at_432 rfl rfl ?_
  refine wlload OGc 436 X432 B at_434 rfl rfl ?_
  refine wlcmp OGc 437 X432 B at_436 rfl ?_
  by_cases c439 : q5 < (g0_4 q1 q2 q3 q4 q5 p6)
  · refine wifYes OGc 476 X432 B at_437 (own_if0 (tlt ((lw_gt _ _).mpr c439)).2.2.1) rfl ?_
    refine wiconst OGc 477 X432 B at_476 0 rfl rfl ?_
    refine wistore OGc 479 X432 B at_477 (LA0_114 q1 q2 q3 q4 q5 p6 b352 b373) rfl rfl ?_
    refine wiload OGc 481 X432 B at_479 rfl rfl ?_
    refine wiconst OGc 482 X432 B at_481 1 rfl rfl ?_
    refine wicmpNo OGc 485 X432 B at_482 (by decide) rfl ?_
    refine wiload OGc 487 X432 B at_485 rfl rfl ?_
    refine wifYes OGc 512 X432 B at_487 (by decide) rfl ?_
    refine wiconst OGc 513 X432 B at_512 0 rfl rfl ?_
    refine wistore OGc 515 X432 B at_513 (LA0_114 q1 q2 q3 q4 q5 p6 b352 b373) rfl rfl ?_
    refine wgoto OGc 615 X432 B at_515 rfl ?_
    refine wiload OGc 617 X432 B at_615 rfl rfl ?_
    refine own_retZ X432 hx (t := .boolean) hret (by simp) hlk (hb hby at_617) (by decide) (by decide) (w := (0 : Int32)) rfl ?_
    exact ⟨congrArg (fun z => some (Value.int z)) (show f0 q1 q2 q3 q4 q5 p6 = (0 : Int32) from (by rw [f0, if_neg c1, if_pos c345, if_pos c403, if_pos c404, if_pos c439])).symm, N432⟩
  · refine wifNo OGc 440 X432 B at_437 (own_if0 (flt (fun q => c439 ((lw_gt _ _).mp q))).2.2.1) rfl ?_
    refine wlload OGc 442 X432 B at_440 rfl rfl ?_
    refine wlload OGc 444 X432 B at_442 rfl rfl ?_
    refine wlcmp OGc 445 X432 B at_444 rfl ?_
    by_cases c440 : (g0_3 q1 q2 q3 q4 q5 p6) < (g0_4 q1 q2 q3 q4 q5 p6)
    · refine wifYes OGc 476 X432 B at_445 (own_if0 (tlt ((lw_gt _ _).mpr c440)).2.2.1) rfl ?_
      refine wiconst OGc 477 X432 B at_476 0 rfl rfl ?_
      refine wistore OGc 479 X432 B at_477 (LA0_114 q1 q2 q3 q4 q5 p6 b352 b373) rfl rfl ?_
      refine wiload OGc 481 X432 B at_479 rfl rfl ?_
      refine wiconst OGc 482 X432 B at_481 1 rfl rfl ?_
      refine wicmpNo OGc 485 X432 B at_482 (by decide) rfl ?_
      refine wiload OGc 487 X432 B at_485 rfl rfl ?_
      refine wifYes OGc 512 X432 B at_487 (by decide) rfl ?_
      refine wiconst OGc 513 X432 B at_512 0 rfl rfl ?_
      refine wistore OGc 515 X432 B at_513 (LA0_114 q1 q2 q3 q4 q5 p6 b352 b373) rfl rfl ?_
      refine wgoto OGc 615 X432 B at_515 rfl ?_
      refine wiload OGc 617 X432 B at_615 rfl rfl ?_
      refine own_retZ X432 hx (t := .boolean) hret (by simp) hlk (hb hby at_617) (by decide) (by decide) (w := (0 : Int32)) rfl ?_
      exact ⟨congrArg (fun z => some (Value.int z)) (show f0 q1 q2 q3 q4 q5 p6 = (0 : Int32) from (by rw [f0, if_neg c1, if_pos c345, if_pos c403, if_pos c404, if_neg c439, if_pos c440])).symm, N432⟩
    · refine wifNo OGc 448 X432 B at_445 (own_if0 (flt (fun q => c440 ((lw_gt _ _).mp q))).2.2.1) rfl ?_
      refine wlload OGc 450 X432 B at_448 rfl rfl ?_
      refine wlload OGc 452 X432 B at_450 rfl rfl ?_
      refine wlcmp OGc 453 X432 B at_452 rfl ?_
      by_cases c441 : q4 < q5
      · refine wifYes OGc 476 X432 B at_453 (own_if0 (tlt ((lw_gt _ _).mpr c441)).2.2.1) rfl ?_
        refine wiconst OGc 477 X432 B at_476 0 rfl rfl ?_
        refine wistore OGc 479 X432 B at_477 (LA0_114 q1 q2 q3 q4 q5 p6 b352 b373) rfl rfl ?_
        refine wiload OGc 481 X432 B at_479 rfl rfl ?_
        refine wiconst OGc 482 X432 B at_481 1 rfl rfl ?_
        refine wicmpNo OGc 485 X432 B at_482 (by decide) rfl ?_
        refine wiload OGc 487 X432 B at_485 rfl rfl ?_
        refine wifYes OGc 512 X432 B at_487 (by decide) rfl ?_
        refine wiconst OGc 513 X432 B at_512 0 rfl rfl ?_
        refine wistore OGc 515 X432 B at_513 (LA0_114 q1 q2 q3 q4 q5 p6 b352 b373) rfl rfl ?_
        refine wgoto OGc 615 X432 B at_515 rfl ?_
        refine wiload OGc 617 X432 B at_615 rfl rfl ?_
        refine own_retZ X432 hx (t := .boolean) hret (by simp) hlk (hb hby at_617) (by decide) (by decide) (w := (0 : Int32)) rfl ?_
        exact ⟨congrArg (fun z => some (Value.int z)) (show f0 q1 q2 q3 q4 q5 p6 = (0 : Int32) from (by rw [f0, if_neg c1, if_pos c345, if_pos c403, if_pos c404, if_neg c439, if_neg c440, if_pos c441])).symm, N432⟩
      · refine wifNo OGc 456 X432 B at_453 (own_if0 (flt (fun q => c441 ((lw_gt _ _).mp q))).2.2.1) rfl ?_
        refine wlload OGc 458 X432 B at_456 rfl rfl ?_
        refine wlload OGc 460 X432 B at_458 rfl rfl ?_
        refine wlcmp OGc 461 X432 B at_460 rfl ?_
        by_cases c442 : q2 < q5
        · refine wifYes OGc 476 X432 B at_461 (own_if0 (tlt ((lw_gt _ _).mpr c442)).2.2.1) rfl ?_
          refine wiconst OGc 477 X432 B at_476 0 rfl rfl ?_
          refine wistore OGc 479 X432 B at_477 (LA0_114 q1 q2 q3 q4 q5 p6 b352 b373) rfl rfl ?_
          refine wiload OGc 481 X432 B at_479 rfl rfl ?_
          refine wiconst OGc 482 X432 B at_481 1 rfl rfl ?_
          refine wicmpNo OGc 485 X432 B at_482 (by decide) rfl ?_
          refine wiload OGc 487 X432 B at_485 rfl rfl ?_
          refine wifYes OGc 512 X432 B at_487 (by decide) rfl ?_
          refine wiconst OGc 513 X432 B at_512 0 rfl rfl ?_
          refine wistore OGc 515 X432 B at_513 (LA0_114 q1 q2 q3 q4 q5 p6 b352 b373) rfl rfl ?_
          refine wgoto OGc 615 X432 B at_515 rfl ?_
          refine wiload OGc 617 X432 B at_615 rfl rfl ?_
          refine own_retZ X432 hx (t := .boolean) hret (by simp) hlk (hb hby at_617) (by decide) (by decide) (w := (0 : Int32)) rfl ?_
          exact ⟨congrArg (fun z => some (Value.int z)) (show f0 q1 q2 q3 q4 q5 p6 = (0 : Int32) from (by rw [f0, if_neg c1, if_pos c345, if_pos c403, if_pos c404, if_neg c439, if_neg c440, if_neg c441, if_pos c442])).symm, N432⟩
        · refine wifNo OGc 464 X432 B at_461 (own_if0 (flt (fun q => c442 ((lw_gt _ _).mp q))).2.2.1) rfl ?_
          refine wlload OGc 466 X432 B at_464 rfl rfl ?_
          refine wlload OGc 468 X432 B at_466 rfl rfl ?_
          refine wlcmp OGc 469 X432 B at_468 rfl ?_
          by_cases c443 : (g0_2 q1 q2 q3 q4 q5 p6) < (g0_3 q1 q2 q3 q4 q5 p6)
          · refine wifYes OGc 476 X432 B at_469 (own_if0 (tlt ((lw_gt _ _).mpr c443)).2.2.1) rfl ?_
            refine wiconst OGc 477 X432 B at_476 0 rfl rfl ?_
            refine wistore OGc 479 X432 B at_477 (LA0_114 q1 q2 q3 q4 q5 p6 b352 b373) rfl rfl ?_
            refine wiload OGc 481 X432 B at_479 rfl rfl ?_
            refine wiconst OGc 482 X432 B at_481 1 rfl rfl ?_
            refine wicmpNo OGc 485 X432 B at_482 (by decide) rfl ?_
            refine wiload OGc 487 X432 B at_485 rfl rfl ?_
            refine wifYes OGc 512 X432 B at_487 (by decide) rfl ?_
            refine wiconst OGc 513 X432 B at_512 0 rfl rfl ?_
            refine wistore OGc 515 X432 B at_513 (LA0_114 q1 q2 q3 q4 q5 p6 b352 b373) rfl rfl ?_
            refine wgoto OGc 615 X432 B at_515 rfl ?_
            refine wiload OGc 617 X432 B at_615 rfl rfl ?_
            refine own_retZ X432 hx (t := .boolean) hret (by simp) hlk (hb hby at_617) (by decide) (by decide) (w := (0 : Int32)) rfl ?_
            exact ⟨congrArg (fun z => some (Value.int z)) (show f0 q1 q2 q3 q4 q5 p6 = (0 : Int32) from (by rw [f0, if_neg c1, if_pos c345, if_pos c403, if_pos c404, if_neg c439, if_neg c440, if_neg c441, if_neg c442, if_pos c443])).symm, N432⟩
          · refine wifNo OGc 472 X432 B at_469 (own_if0 (flt (fun q => c443 ((lw_gt _ _).mp q))).2.2.1) rfl ?_
            refine wiconst OGc 473 X432 B at_472 1 rfl rfl ?_
            refine wgoto OGc 477 X432 B at_473 rfl ?_
            refine wistore OGc 479 X432 B at_477 (LA0_113 q1 q2 q3 q4 q5 p6 b352 b373) rfl rfl ?_
            refine wiload OGc 481 X432 B at_479 rfl rfl ?_
            refine wiconst OGc 482 X432 B at_481 1 rfl rfl ?_
            refine wicmpNo OGc 485 X432 B at_482 (by decide) rfl ?_
            refine wiload OGc 487 X432 B at_485 rfl rfl ?_
            refine wifNo OGc 490 X432 B at_487 (by decide) rfl ?_
            refine wiload OGc 492 X432 B at_490 rfl rfl ?_
            refine wiconst OGc 493 X432 B at_492 2 rfl rfl ?_
            refine wicmpNo OGc 496 X432 B at_493 (by decide) rfl ?_
            refine wiload OGc 498 X432 B at_496 rfl rfl ?_
            refine wiconst OGc 499 X432 B at_498 5 rfl rfl ?_
            refine wicmpNo OGc 502 X432 B at_499 (by decide) rfl ?_
            refine wiload OGc 504 X432 B at_502 rfl rfl ?_
            refine wiconst OGc 505 X432 B at_504 4 rfl rfl ?_
            refine wicmpNo OGc 508 X432 B at_505 (by decide) rfl ?_
            refine wiconst OGc 509 X432 B at_508 1 rfl rfl ?_
            refine wgoto OGc 513 X432 B at_509 rfl ?_
            refine wistore OGc 515 X432 B at_513 (LA0_113 q1 q2 q3 q4 q5 p6 b352 b373) rfl rfl ?_
            refine wgoto OGc 615 X432 B at_515 rfl ?_
            refine wiload OGc 617 X432 B at_615 rfl rfl ?_
            refine own_retZ X432 hx (t := .boolean) hret (by simp) hlk (hb hby at_617) (by decide) (by decide) (w := (1 : Int32)) rfl ?_
            exact ⟨congrArg (fun z => some (Value.int z)) (show f0 q1 q2 q3 q4 q5 p6 = (1 : Int32) from (by rw [f0, if_neg c1, if_pos c345, if_pos c403, if_pos c404, if_neg c439, if_neg c440, if_neg c441, if_neg c442, if_neg c443])).symm, N432⟩
set_option maxRecDepth 65536 in
set_option maxHeartbeats 40000000 in
theorem tl0_13 (l : Launch) (Z : State) (a0 : Array Value) (hw : ∀ d ∈ tables_1, d.before a0 Z = true) (q1 : Int64) (q2 : Int64) (q3 : Int64) (q4 : Int64) (q5 : Int64) (p6 : Int32) (h0 : Heap) (n0 : Nat) (Z0 : n0 ≤ h0.size) (p : Program) (e : Env) (s : State) (m : MethodId) (below : List Frame) (meth : Method) (c : Code) (hx : p.tables.exec = Jvm.exec) (hby : c.code = code) (hml : c.maxLocals = 46) (hown : s.vm.findClass "com/example/fragmark/fragmark/PhraseMatcherSiftDownPinLaw" = some m.cls) (hret : meth.sig.returnType = ret) (hlk : meth.locks = false) (hZ : Z.Warmed39 s.vm) (b352 : Addr) (b373 : Addr) (T401 : State) (locs : List Loc) (xc : Stand p l e room_1 s m #[(.long q1), (.long q2), (.long q3), (.long q4), (.long q5), (.int p6)] below meth c T401 locs 2 12)   (nc : Fr n0 locs) (kc : Keep h0 T401.heap []) (gc_b352 : n0 ≤ b352) (gc_b373 : n0 ≤ b373) (sc_b352 : h0.size ≤ b352) (sc_b373 : h0.size ≤ b373) (xc_b352_b373 : b352 ≠ b373) (fc0 : OA Z T401.heap b373 .long [(.long q2), (.long q4), (.long (g0_4 q1 q2 q3 q4 q5 p6)), (.long q5), (.long (g0_2 q1 q2 q3 q4 q5 p6)), (.long (g0_3 q1 q2 q3 q4 q5 p6))]) (fc1 : OA Z T401.heap b352 .int [(.int (2 : Int32)), (.int (1 : Int32)), (.int (5 : Int32)), (.int (0 : Int32)), (.int (3 : Int32)), (.int (4 : Int32))]) (c1 : ¬ ((g0_1 q1 q2 q3 q4 q5 p6) = (0 : Int32))) (c345 : (g0_1 q1 q2 q3 q4 q5 p6) = (1 : Int32)) (c406 : q4 < q2) (c407 : ¬ (q5 < q4)) :
    OG p e room_1 s below (fun v h L => v = some (.int (f0 q1 q2 q3 q4 q5 p6)) ∧ Fr n0 L) T401 (mkF m 182 (LA0_99 q1 q2 q3 q4 q5 p6 b352 b373) []) := by
  have B := And.intro hx hby
  refine waload OGc 184 xc B at_182 rfl rfl rfl ?_
  refine wiconst OGc 185 xc B at_184 2 rfl rfl ?_
  refine wlaload OGc 186 xc B hZ rfl fc0 (v := (.long (g0_4 q1 q2 q3 q4 q5 p6))) 2 (by decide) (by decide) rfl at_185 rfl ?_
  refine wlload OGc 188 xc B at_186 rfl rfl ?_
  refine wlcmp OGc 189 xc B at_188 rfl ?_
  refine wifNo OGc 192 xc B at_189 (own_if0 (teq ((lw_eq _ _).mpr rfl)).2) rfl ?_
  refine waload OGc 194 xc B at_192 rfl rfl rfl ?_
  refine wiconst OGc 195 xc B at_194 0 rfl rfl ?_
  refine wlaload OGc 196 xc B hZ rfl fc0 (v := (.long q2)) 0 (by decide) (by decide) rfl at_195 rfl ?_
  refine wlload OGc 198 xc B at_196 rfl rfl ?_
  refine wlcmp OGc 199 xc B at_198 rfl ?_
  refine wifNo OGc 202 xc B at_199 (own_if0 (teq ((lw_eq _ _).mpr rfl)).2) rfl ?_
  refine waload OGc 204 xc B at_202 rfl rfl rfl ?_
  refine wiconst OGc 205 xc B at_204 5 rfl rfl ?_
  refine wlaload OGc 206 xc B hZ rfl fc0 (v := (.long (g0_3 q1 q2 q3 q4 q5 p6))) 5 (by decide) (by decide) rfl at_205 rfl ?_
  refine wlload OGc 208 xc B at_206 rfl rfl ?_
  refine wlcmp OGc 209 xc B at_208 rfl ?_
  refine wifNo OGc 212 xc B at_209 (own_if0 (teq ((lw_eq _ _).mpr rfl)).2) rfl ?_
  refine waload OGc 214 xc B at_212 rfl rfl rfl ?_
  refine wiconst OGc 215 xc B at_214 1 rfl rfl ?_
  refine wlaload OGc 216 xc B hZ rfl fc0 (v := (.long q4)) 1 (by decide) (by decide) rfl at_215 rfl ?_
  refine wlload OGc 218 xc B at_216 rfl rfl ?_
  refine wlcmp OGc 219 xc B at_218 rfl ?_
  refine wifNo OGc 222 xc B at_219 (own_if0 (teq ((lw_eq _ _).mpr rfl)).2) rfl ?_
  refine waload OGc 224 xc B at_222 rfl rfl rfl ?_
  refine wiconst OGc 225 xc B at_224 3 rfl rfl ?_
  refine wlaload OGc 226 xc B hZ rfl fc0 (v := (.long q5)) 3 (by decide) (by decide) rfl at_225 rfl ?_
  refine wlload OGc 228 xc B at_226 rfl rfl ?_
  refine wlcmp OGc 229 xc B at_228 rfl ?_
  refine wifNo OGc 232 xc B at_229 (own_if0 (teq ((lw_eq _ _).mpr rfl)).2) rfl ?_
  refine waload OGc 234 xc B at_232 rfl rfl rfl ?_
  refine wiconst OGc 235 xc B at_234 4 rfl rfl ?_
  refine wlaload OGc 236 xc B hZ rfl fc0 (v := (.long (g0_2 q1 q2 q3 q4 q5 p6))) 4 (by decide) (by decide) rfl at_235 rfl ?_
  refine wlload OGc 238 xc B at_236 rfl rfl ?_
  refine wlcmp OGc 239 xc B at_238 rfl ?_
  refine wifNo OGc 242 xc B at_239 (own_if0 (teq ((lw_eq _ _).mpr rfl)).2) rfl ?_
  refine wiconst OGc 243 xc B at_242 1 rfl rfl ?_
  refine wgoto OGc 247 xc B at_243 rfl ?_
  refine wistore OGc 249 xc B at_247 (LA0_100 q1 q2 q3 q4 q5 p6 b352 b373) rfl rfl ?_
  refine waload OGc 251 xc B at_249 rfl rfl rfl ?_
  refine wiconst OGc 252 xc B at_251 0 rfl rfl ?_
  refine wiaload OGc 253 xc B hZ rfl fc1 (v := (.int (2 : Int32))) 0 (by decide) (by decide) rfl at_252 rfl ?_
  refine wistore OGc 255 xc B at_253 (LA0_101 q1 q2 q3 q4 q5 p6 b352 b373) rfl rfl ?_
  refine waload OGc 257 xc B at_255 rfl rfl rfl ?_
  refine wiconst OGc 258 xc B at_257 1 rfl rfl ?_
  refine wiaload OGc 259 xc B hZ rfl fc1 (v := (.int (1 : Int32))) 1 (by decide) (by decide) rfl at_258 rfl ?_
  refine wistore OGc 261 xc B at_259 (LA0_115 q1 q2 q3 q4 q5 p6 b352 b373) rfl rfl ?_
  refine waload OGc 263 xc B at_261 rfl rfl rfl ?_
  refine wiconst OGc 264 xc B at_263 2 rfl rfl ?_
  refine wiaload OGc 265 xc B hZ rfl fc1 (v := (.int (5 : Int32))) 2 (by decide) (by decide) rfl at_264 rfl ?_
  refine wistore OGc 267 xc B at_265 (LA0_116 q1 q2 q3 q4 q5 p6 b352 b373) rfl rfl ?_
  refine waload OGc 269 xc B at_267 rfl rfl rfl ?_
  refine wiconst OGc 270 xc B at_269 3 rfl rfl ?_
  refine wiaload OGc 271 xc B hZ rfl fc1 (v := (.int (0 : Int32))) 3 (by decide) (by decide) rfl at_270 rfl ?_
  refine wistore OGc 273 xc B at_271 (LA0_117 q1 q2 q3 q4 q5 p6 b352 b373) rfl rfl ?_
  refine waload OGc 275 xc B at_273 rfl rfl rfl ?_
  refine wiconst OGc 276 xc B at_275 4 rfl rfl ?_
  refine wiaload OGc 277 xc B hZ rfl fc1 (v := (.int (3 : Int32))) 4 (by decide) (by decide) rfl at_276 rfl ?_
  refine wistore OGc 279 xc B at_277 (LA0_118 q1 q2 q3 q4 q5 p6 b352 b373) rfl rfl ?_
  refine waload OGc 281 xc B at_279 rfl rfl rfl ?_
  refine wiconst OGc 282 xc B at_281 5 rfl rfl ?_
  refine wiaload OGc 283 xc B hZ rfl fc1 (v := (.int (4 : Int32))) 5 (by decide) (by decide) rfl at_282 rfl ?_
  refine wistore OGc 285 xc B at_283 (LA0_119 q1 q2 q3 q4 q5 p6 b352 b373) rfl rfl ?_
  refine wiload OGc 287 xc B at_285 rfl rfl ?_
  refine wstat OGc 290 xc B hZ hown (ow hw 10 rfl) (ow hw 11 rfl) (ow hw 13 rfl) (ow hw 12 rfl) rfl (rm3 l Z a0 hw [] (2 : Int32) T401.heap) 0 (by decide) (by decide) hml rfl (lenOf pd__I_Z rfl) [] rfl rfl at_287 rfl fun _ T456 L456 X456 hQ456 => ?_
  obtain ⟨rfl, rfl, e456⟩ := hQ456
  have N456 := Fr.app nc (Fr.nil n0)
  refine own_stk (S' := [(.int (f3 (2 : Int32)))]) rfl ?_
  refine wifNo OGc 293 X456 B at_290 (own_if0 (feq (by decide)).1) rfl ?_
  refine wiload OGc 295 X456 B at_293 rfl rfl ?_
  refine wstat OGc 298 X456 B hZ hown (ow hw 10 rfl) (ow hw 11 rfl) (ow hw 13 rfl) (ow hw 12 rfl) e456 (rm3 l Z a0 hw [] (1 : Int32) T401.heap) 0 (by decide) (by decide) hml rfl (lenOf pd__I_Z rfl) [] rfl rfl at_295 rfl fun _ T457 L457 X457 hQ457 => ?_
  obtain ⟨rfl, rfl, e457⟩ := hQ457
  have N457 := Fr.app N456 (Fr.nil n0)
  refine own_stk (S' := [(.int (f3 (1 : Int32)))]) rfl ?_
  refine wifNo OGc 301 X457 B at_298 (own_if0 (feq (by decide)).1) rfl ?_
  refine wiload OGc 303 X457 B at_301 rfl rfl ?_
  refine wstat OGc 306 X457 B hZ hown (ow hw 10 rfl) (ow hw 11 rfl) (ow hw 13 rfl) (ow hw 12 rfl) e457 (rm3 l Z a0 hw [] (5 : Int32) T401.heap) 0 (by decide) (by decide) hml rfl (lenOf pd__I_Z rfl) [] rfl rfl at_303 rfl fun _ T458 L458 X458 hQ458 => ?_
  obtain ⟨rfl, rfl, e458⟩ := hQ458
  have N458 := Fr.app N457 (Fr.nil n0)
  refine own_stk (S' := [(.int (f3 (5 : Int32)))]) rfl ?_
  refine wifNo OGc 309 X458 B at_306 (own_if0 (feq (by decide)).1) rfl ?_
  refine wiload OGc 311 X458 B at_309 rfl rfl ?_
  refine wstat OGc 314 X458 B hZ hown (ow hw 10 rfl) (ow hw 11 rfl) (ow hw 13 rfl) (ow hw 12 rfl) e458 (rm3 l Z a0 hw [] (0 : Int32) T401.heap) 0 (by decide) (by decide) hml rfl (lenOf pd__I_Z rfl) [] rfl rfl at_311 rfl fun _ T459 L459 X459 hQ459 => ?_
  obtain ⟨rfl, rfl, e459⟩ := hQ459
  have N459 := Fr.app N458 (Fr.nil n0)
  refine own_stk (S' := [(.int (f3 (0 : Int32)))]) rfl ?_
  refine wifNo OGc 317 X459 B at_314 (own_if0 (feq (by decide)).1) rfl ?_
  refine wiload OGc 319 X459 B at_317 rfl rfl ?_
  refine wstat OGc 322 X459 B hZ hown (ow hw 10 rfl) (ow hw 11 rfl) (ow hw 13 rfl) (ow hw 12 rfl) e459 (rm3 l Z a0 hw [] (3 : Int32) T401.heap) 0 (by decide) (by decide) hml rfl (lenOf pd__I_Z rfl) [] rfl rfl at_319 rfl fun _ T460 L460 X460 hQ460 => ?_
  obtain ⟨rfl, rfl, e460⟩ := hQ460
  have N460 := Fr.app N459 (Fr.nil n0)
  refine own_stk (S' := [(.int (f3 (3 : Int32)))]) rfl ?_
  refine wifNo OGc 325 X460 B at_322 (own_if0 (feq (by decide)).1) rfl ?_
  refine wiload OGc 327 X460 B at_325 rfl rfl ?_
  refine wstat OGc 330 X460 B hZ hown (ow hw 10 rfl) (ow hw 11 rfl) (ow hw 13 rfl) (ow hw 12 rfl) e460 (rm3 l Z a0 hw [] (4 : Int32) T401.heap) 0 (by decide) (by decide) hml rfl (lenOf pd__I_Z rfl) [] rfl rfl at_327 rfl fun _ T461 L461 X461 hQ461 => ?_
  obtain ⟨rfl, rfl, e461⟩ := hQ461
  have N461 := Fr.app N460 (Fr.nil n0)
  refine own_stk (S' := [(.int (f3 (4 : Int32)))]) rfl ?_
  refine wifYes OGc 335 X461 B at_330 (own_if0 (feq (by decide)).2) rfl ?_
  refine wiconst OGc 336 X461 B at_335 1 rfl rfl ?_
  refine wiload OGc 338 X461 B at_336 rfl rfl ?_
  refine own_st (fun t k => XS.ishl X461.here hx rfl (hb hby at_338) rfl k) ?_
  show OG p e _ s below _ T461 (mkF m 339 (LA0_119 q1 q2 q3 q4 q5 p6 b352 b373) [(.int (4 : Int32))])
  refine wiconst OGc 340 X461 B at_339 1 rfl rfl ?_
  refine wiload OGc 342 X461 B at_340 rfl rfl ?_
  refine own_st (fun t k => XS.ishl X461.here hx rfl (hb hby at_342) rfl k) ?_
  show OG p e _ s below _ T461 (mkF m 343 (LA0_119 q1 q2 q3 q4 q5 p6 b352 b373) [(.int (2 : Int32)), (.int (4 : Int32))])
  refine own_st (fun t k => XS.ior X461.here hx rfl (hb hby at_343) rfl k) ?_
  show OG p e _ s below _ T461 (mkF m 344 (LA0_119 q1 q2 q3 q4 q5 p6 b352 b373) [(.int (6 : Int32))])
  refine wiconst OGc 345 X461 B at_344 1 rfl rfl ?_
  refine wiload OGc 347 X461 B at_345 rfl rfl ?_
  refine own_st (fun t k => XS.ishl X461.here hx rfl (hb hby at_347) rfl k) ?_
  show OG p e _ s below _ T461 (mkF m 348 (LA0_119 q1 q2 q3 q4 q5 p6 b352 b373) [(.int (32 : Int32)), (.int (6 : Int32))])
  refine own_st (fun t k => XS.ior X461.here hx rfl (hb hby at_348) rfl k) ?_
  show OG p e _ s below _ T461 (mkF m 349 (LA0_119 q1 q2 q3 q4 q5 p6 b352 b373) [(.int (38 : Int32))])
  refine wiconst OGc 350 X461 B at_349 1 rfl rfl ?_
  refine wiload OGc 352 X461 B at_350 rfl rfl ?_
  refine own_st (fun t k => XS.ishl X461.here hx rfl (hb hby at_352) rfl k) ?_
  show OG p e _ s below _ T461 (mkF m 353 (LA0_119 q1 q2 q3 q4 q5 p6 b352 b373) [(.int (1 : Int32)), (.int (38 : Int32))])
  refine own_st (fun t k => XS.ior X461.here hx rfl (hb hby at_353) rfl k) ?_
  show OG p e _ s below _ T461 (mkF m 354 (LA0_119 q1 q2 q3 q4 q5 p6 b352 b373) [(.int (39 : Int32))])
  refine wiconst OGc 355 X461 B at_354 1 rfl rfl ?_
  refine wiload OGc 357 X461 B at_355 rfl rfl ?_
  refine own_st (fun t k => XS.ishl X461.here hx rfl (hb hby at_357) rfl k) ?_
  show OG p e _ s below _ T461 (mkF m 358 (LA0_119 q1 q2 q3 q4 q5 p6 b352 b373) [(.int (8 : Int32)), (.int (39 : Int32))])
  refine own_st (fun t k => XS.ior X461.here hx rfl (hb hby at_358) rfl k) ?_
  show OG p e _ s below _ T461 (mkF m 359 (LA0_119 q1 q2 q3 q4 q5 p6 b352 b373) [(.int (47 : Int32))])
  refine wiconst OGc 360 X461 B at_359 1 rfl rfl ?_
  refine wiload OGc 362 X461 B at_360 rfl rfl ?_
  refine own_st (fun t k => XS.ishl X461.here hx rfl (hb hby at_362) rfl k) ?_
  show OG p e _ s below _ T461 (mkF m 363 (LA0_119 q1 q2 q3 q4 q5 p6 b352 b373) [(.int (16 : Int32)), (.int (47 : Int32))])
  refine own_st (fun t k => XS.ior X461.here hx rfl (hb hby at_363) rfl k) ?_
  show OG p e _ s below _ T461 (mkF m 364 (LA0_119 q1 q2 q3 q4 q5 p6 b352 b373) [(.int (63 : Int32))])
  refine wistore OGc 366 X461 B at_364 (LA0_120 q1 q2 q3 q4 q5 p6 b352 b373) rfl rfl ?_
  refine wiload OGc 368 X461 B at_366 rfl rfl ?_
  refine wifNo OGc 371 X461 B at_368 (by decide) rfl ?_
  refine wiload OGc 373 X461 B at_371 rfl rfl ?_
  refine wbipush OGc 375 X461 B at_373 63 rfl rfl ?_
  refine wicmpNo OGc 378 X461 B at_375 (by decide) rfl ?_
  refine wiconst OGc 379 X461 B at_378 1 rfl rfl ?_
  refine wgoto OGc 383 X461 B at_379 rfl ?_
  refine wistore OGc 385 X461 B at_383 (LA0_120 q1 q2 q3 q4 q5 p6 b352 b373) rfl rfl ?_
  refine waload OGc 387 X461 B at_385 rfl rfl rfl ?_
  refine wiload OGc 389 X461 B at_387 rfl rfl ?_
  refine wlaload OGc 390 X461 B hZ e461 fc0 (v := (.long (g0_4 q1 q2 q3 q4 q5 p6))) 2 (by decide) (by decide) rfl at_389 rfl ?_
  refine wlstore OGc 392 X461 B at_390 (LA0_121 q1 q2 q3 q4 q5 p6 b352 b373) rfl rfl ?_
  refine waload OGc 394 X461 B at_392 rfl rfl rfl ?_
  refine wiload OGc 396 X461 B at_394 rfl rfl ?_
  refine wlaload OGc 397 X461 B hZ e461 fc0 (v := (.long q4)) 1 (by decide) (by decide) rfl at_396 rfl ?_
  refine wlstore OGc 399 X461 B at_397 (LA0_122 q1 q2 q3 q4 q5 p6 b352 b373) rfl rfl ?_
  refine waload OGc 401 X461 B at_399 rfl rfl rfl ?_
  refine wiload OGc 403 X461 B at_401 rfl rfl ?_
  refine wlaload OGc 404 X461 B hZ e461 fc0 (v := (.long (g0_3 q1 q2 q3 q4 q5 p6))) 5 (by decide) (by decide) rfl at_403 rfl ?_
  refine wlstore OGc 406 X461 B at_404 (LA0_123 q1 q2 q3 q4 q5 p6 b352 b373) rfl rfl ?_
  refine waload OGc 408 X461 B at_406 rfl rfl rfl ?_
  refine wiload OGc 410 X461 B at_408 rfl rfl ?_
  refine wlaload OGc 411 X461 B hZ e461 fc0 (v := (.long q2)) 0 (by decide) (by decide) rfl at_410 rfl ?_
  refine wlstore OGc 413 X461 B at_411 (LA0_124 q1 q2 q3 q4 q5 p6 b352 b373) rfl rfl ?_
  refine waload OGc 415 X461 B at_413 rfl rfl rfl ?_
  refine wiload OGc 417 X461 B at_415 rfl rfl ?_
  refine wlaload OGc 418 X461 B hZ e461 fc0 (v := (.long q5)) 3 (by decide) (by decide) rfl at_417 rfl ?_
  refine wlstore OGc 420 X461 B at_418 (LA0_125 q1 q2 q3 q4 q5 p6 b352 b373) rfl rfl ?_
  refine waload OGc 422 X461 B at_420 rfl rfl rfl ?_
  refine wiload OGc 424 X461 B at_422 rfl rfl ?_
  refine wlaload OGc 425 X461 B hZ e461 fc0 (v := (.long (g0_2 q1 q2 q3 q4 q5 p6))) 4 (by decide) (by decide) rfl at_424 rfl ?_
  refine wlstore OGc 427 X461 B at_425 (LA0_126 q1 q2 q3 q4 q5 p6 b352 b373) rfl rfl ?_
  refine wiload OGc 429 X461 B at_427 rfl rfl ?_
  refine wifNo OGc 432 X461 B at_429 (by decide) rfl ?_
  refine wlload OGc 434 X461 B at_432 rfl rfl ?_
  refine wlload OGc 436 X461 B at_434 rfl rfl ?_
  refine wlcmp OGc 437 X461 B at_436 rfl ?_
  by_cases c468 : q4 < (g0_4 q1 q2 q3 q4 q5 p6)
  · refine wifYes OGc 476 X461 B at_437 (own_if0 (tlt ((lw_gt _ _).mpr c468)).2.2.1) rfl ?_
    refine wiconst OGc 477 X461 B at_476 0 rfl rfl ?_
    refine wistore OGc 479 X461 B at_477 (LA0_127 q1 q2 q3 q4 q5 p6 b352 b373) rfl rfl ?_
    refine wiload OGc 481 X461 B at_479 rfl rfl ?_
    refine wiconst OGc 482 X461 B at_481 1 rfl rfl ?_
    refine wicmpNo OGc 485 X461 B at_482 (by decide) rfl ?_
    refine wiload OGc 487 X461 B at_485 rfl rfl ?_
    refine wifYes OGc 512 X461 B at_487 (by decide) rfl ?_
    refine wiconst OGc 513 X461 B at_512 0 rfl rfl ?_
    refine wistore OGc 515 X461 B at_513 (LA0_127 q1 q2 q3 q4 q5 p6 b352 b373) rfl rfl ?_
    refine wgoto OGc 615 X461 B at_515 rfl ?_
    refine wiload OGc 617 X461 B at_615 rfl rfl ?_
    refine own_retZ X461 hx (t := .boolean) hret (by simp) hlk (hb hby at_617) (by decide) (by decide) (w := (0 : Int32)) rfl ?_
    exact ⟨congrArg (fun z => some (Value.int z)) (show f0 q1 q2 q3 q4 q5 p6 = (0 : Int32) from (by rw [f0, if_neg c1, if_pos c345, if_pos c406, if_neg c407, if_pos c468])).symm, N461⟩
  · refine wifNo OGc 440 X461 B at_437 (own_if0 (flt (fun q => c468 ((lw_gt _ _).mp q))).2.2.1) rfl ?_
    refine wlload OGc 442 X461 B at_440 rfl rfl ?_
    refine wlload OGc 444 X461 B at_442 rfl rfl ?_
    refine wlcmp OGc 445 X461 B at_444 rfl ?_
    by_cases c469 : (g0_3 q1 q2 q3 q4 q5 p6) < (g0_4 q1 q2 q3 q4 q5 p6)
    · refine wifYes OGc 476 X461 B at_445 (own_if0 (tlt ((lw_gt _ _).mpr c469)).2.2.1) rfl ?_
      refine wiconst OGc 477 X461 B at_476 0 rfl rfl ?_
      refine wistore OGc 479 X461 B at_477 (LA0_127 q1 q2 q3 q4 q5 p6 b352 b373) rfl rfl ?_
      refine wiload OGc 481 X461 B at_479 rfl rfl ?_
      refine wiconst OGc 482 X461 B at_481 1 rfl rfl ?_
      refine wicmpNo OGc 485 X461 B at_482 (by decide) rfl ?_
      refine wiload OGc 487 X461 B at_485 rfl rfl ?_
      refine wifYes OGc 512 X461 B at_487 (by decide) rfl ?_
      refine wiconst OGc 513 X461 B at_512 0 rfl rfl ?_
      refine wistore OGc 515 X461 B at_513 (LA0_127 q1 q2 q3 q4 q5 p6 b352 b373) rfl rfl ?_
      refine wgoto OGc 615 X461 B at_515 rfl ?_
      refine wiload OGc 617 X461 B at_615 rfl rfl ?_
      refine own_retZ X461 hx (t := .boolean) hret (by simp) hlk (hb hby at_617) (by decide) (by decide) (w := (0 : Int32)) rfl ?_
      exact ⟨congrArg (fun z => some (Value.int z)) (show f0 q1 q2 q3 q4 q5 p6 = (0 : Int32) from (by rw [f0, if_neg c1, if_pos c345, if_pos c406, if_neg c407, if_neg c468, if_pos c469])).symm, N461⟩
    · refine wifNo OGc 448 X461 B at_445 (own_if0 (flt (fun q => c469 ((lw_gt _ _).mp q))).2.2.1) rfl ?_
      refine wlload OGc 450 X461 B at_448 rfl rfl ?_
      refine wlload OGc 452 X461 B at_450 rfl rfl ?_
      refine wlcmp OGc 453 X461 B at_452 rfl ?_
      by_cases c470 : q2 < q4
      · refine wifYes OGc 476 X461 B at_453 (own_if0 (tlt ((lw_gt _ _).mpr c470)).2.2.1) rfl ?_
        refine wiconst OGc 477 X461 B at_476 0 rfl rfl ?_
        refine wistore OGc 479 X461 B at_477 (LA0_127 q1 q2 q3 q4 q5 p6 b352 b373) rfl rfl ?_
        refine wiload OGc 481 X461 B at_479 rfl rfl ?_
        refine wiconst OGc 482 X461 B at_481 1 rfl rfl ?_
        refine wicmpNo OGc 485 X461 B at_482 (by decide) rfl ?_
        refine wiload OGc 487 X461 B at_485 rfl rfl ?_
        refine wifYes OGc 512 X461 B at_487 (by decide) rfl ?_
        refine wiconst OGc 513 X461 B at_512 0 rfl rfl ?_
        refine wistore OGc 515 X461 B at_513 (LA0_127 q1 q2 q3 q4 q5 p6 b352 b373) rfl rfl ?_
        refine wgoto OGc 615 X461 B at_515 rfl ?_
        refine wiload OGc 617 X461 B at_615 rfl rfl ?_
        refine own_retZ X461 hx (t := .boolean) hret (by simp) hlk (hb hby at_617) (by decide) (by decide) (w := (0 : Int32)) rfl ?_
        exact ⟨congrArg (fun z => some (Value.int z)) (show f0 q1 q2 q3 q4 q5 p6 = (0 : Int32) from (by rw [f0, if_neg c1, if_pos c345, if_pos c406, if_neg c407, if_neg c468, if_neg c469, if_pos c470])).symm, N461⟩
      · refine wifNo OGc 456 X461 B at_453 (own_if0 (flt (fun q => c470 ((lw_gt _ _).mp q))).2.2.1) rfl ?_
        refine wlload OGc 458 X461 B at_456 rfl rfl ?_
        refine wlload OGc 460 X461 B at_458 rfl rfl ?_
        refine wlcmp OGc 461 X461 B at_460 rfl ?_
        refine wifNo OGc 464 X461 B at_461 (own_if0 (flt (fun q => c407 ((lw_gt _ _).mp q))).2.2.1) rfl ?_
        refine wlload OGc 466 X461 B at_464 rfl rfl ?_
        refine wlload OGc 468 X461 B at_466 rfl rfl ?_
        refine wlcmp OGc 469 X461 B at_468 rfl ?_
        by_cases c471 : (g0_2 q1 q2 q3 q4 q5 p6) < (g0_3 q1 q2 q3 q4 q5 p6)
        · refine wifYes OGc 476 X461 B at_469 (own_if0 (tlt ((lw_gt _ _).mpr c471)).2.2.1) rfl ?_
          refine wiconst OGc 477 X461 B at_476 0 rfl rfl ?_
          refine wistore OGc 479 X461 B at_477 (LA0_127 q1 q2 q3 q4 q5 p6 b352 b373) rfl rfl ?_
          refine wiload OGc 481 X461 B at_479 rfl rfl ?_
          refine wiconst OGc 482 X461 B at_481 1 rfl rfl ?_
          refine wicmpNo OGc 485 X461 B at_482 (by decide) rfl ?_
          refine wiload OGc 487 X461 B at_485 rfl rfl ?_
          refine wifYes OGc 512 X461 B at_487 (by decide) rfl ?_
          refine wiconst OGc 513 X461 B at_512 0 rfl rfl ?_
          refine wistore OGc 515 X461 B at_513 (LA0_127 q1 q2 q3 q4 q5 p6 b352 b373) rfl rfl ?_
          refine wgoto OGc 615 X461 B at_515 rfl ?_
          refine wiload OGc 617 X461 B at_615 rfl rfl ?_
          refine own_retZ X461 hx (t := .boolean) hret (by simp) hlk (hb hby at_617) (by decide) (by decide) (w := (0 : Int32)) rfl ?_
          exact ⟨congrArg (fun z => some (Value.int z)) (show f0 q1 q2 q3 q4 q5 p6 = (0 : Int32) from (by rw [f0, if_neg c1, if_pos c345, if_pos c406, if_neg c407, if_neg c468, if_neg c469, if_neg c470, if_pos c471])).symm, N461⟩
        · refine wifNo OGc 472 X461 B at_469 (own_if0 (flt (fun q => c471 ((lw_gt _ _).mp q))).2.2.1) rfl ?_
          refine wiconst OGc 473 X461 B at_472 1 rfl rfl ?_
          refine wgoto OGc 477 X461 B at_473 rfl ?_
          refine wistore OGc 479 X461 B at_477 (LA0_126 q1 q2 q3 q4 q5 p6 b352 b373) rfl rfl ?_
          refine wiload OGc 481 X461 B at_479 rfl rfl ?_
          refine wiconst OGc 482 X461 B at_481 1 rfl rfl ?_
          refine wicmpNo OGc 485 X461 B at_482 (by decide) rfl ?_
          refine wiload OGc 487 X461 B at_485 rfl rfl ?_
          refine wifNo OGc 490 X461 B at_487 (by decide) rfl ?_
          refine wiload OGc 492 X461 B at_490 rfl rfl ?_
          refine wiconst OGc 493 X461 B at_492 2 rfl rfl ?_
          refine wicmpNo OGc 496 X461 B at_493 (by decide) rfl ?_
          refine wiload OGc 498 X461 B at_496 rfl rfl ?_
          refine wiconst OGc 499 X461 B at_498 5 rfl rfl ?_
          refine wicmpNo OGc 502 X461 B at_499 (by decide) rfl ?_
          refine wiload OGc 504 X461 B at_502 rfl rfl ?_
          refine wiconst OGc 505 X461 B at_504 4 rfl rfl ?_
          refine wicmpNo OGc 508 X461 B at_505 (by decide) rfl ?_
          refine wiconst OGc 509 X461 B at_508 1 rfl rfl ?_
          refine wgoto OGc 513 X461 B at_509 rfl ?_
          refine wistore OGc 515 X461 B at_513 (LA0_126 q1 q2 q3 q4 q5 p6 b352 b373) rfl rfl ?_
          refine wgoto OGc 615 X461 B at_515 rfl ?_
          refine wiload OGc 617 X461 B at_615 rfl rfl ?_
          refine own_retZ X461 hx (t := .boolean) hret (by simp) hlk (hb hby at_617) (by decide) (by decide) (w := (1 : Int32)) rfl ?_
          exact ⟨congrArg (fun z => some (Value.int z)) (show f0 q1 q2 q3 q4 q5 p6 = (1 : Int32) from (by rw [f0, if_neg c1, if_pos c345, if_pos c406, if_neg c407, if_neg c468, if_neg c469, if_neg c470, if_neg c471])).symm, N461⟩
set_option maxRecDepth 65536 in
set_option maxHeartbeats 40000000 in
theorem tl0_14 (l : Launch) (Z : State) (a0 : Array Value) (hw : ∀ d ∈ tables_1, d.before a0 Z = true) (q1 : Int64) (q2 : Int64) (q3 : Int64) (q4 : Int64) (q5 : Int64) (p6 : Int32) (h0 : Heap) (n0 : Nat) (Z0 : n0 ≤ h0.size) (p : Program) (e : Env) (s : State) (m : MethodId) (below : List Frame) (meth : Method) (c : Code) (hx : p.tables.exec = Jvm.exec) (hby : c.code = code) (hml : c.maxLocals = 46) (hown : s.vm.findClass "com/example/fragmark/fragmark/PhraseMatcherSiftDownPinLaw" = some m.cls) (hret : meth.sig.returnType = ret) (hlk : meth.locks = false) (hZ : Z.Warmed39 s.vm) (b352 : Addr) (b373 : Addr) (T401 : State) (locs : List Loc) (xc : Stand p l e room_1 s m #[(.long q1), (.long q2), (.long q3), (.long q4), (.long q5), (.int p6)] below meth c T401 locs 2 12)   (nc : Fr n0 locs) (kc : Keep h0 T401.heap []) (gc_b352 : n0 ≤ b352) (gc_b373 : n0 ≤ b373) (sc_b352 : h0.size ≤ b352) (sc_b373 : h0.size ≤ b373) (xc_b352_b373 : b352 ≠ b373) (fc0 : OA Z T401.heap b373 .long [(.long q2), (.long q4), (.long (g0_4 q1 q2 q3 q4 q5 p6)), (.long q5), (.long (g0_2 q1 q2 q3 q4 q5 p6)), (.long (g0_3 q1 q2 q3 q4 q5 p6))]) (fc1 : OA Z T401.heap b352 .int [(.int (2 : Int32)), (.int (3 : Int32)), (.int (5 : Int32)), (.int (1 : Int32)), (.int (0 : Int32)), (.int (4 : Int32))]) (c1 : ¬ ((g0_1 q1 q2 q3 q4 q5 p6) = (0 : Int32))) (c345 : (g0_1 q1 q2 q3 q4 q5 p6) = (1 : Int32)) (c409 : ¬ (q4 < q2)) (c410 : q5 < q2) :
    OG p e room_1 s below (fun v h L => v = some (.int (f0 q1 q2 q3 q4 q5 p6)) ∧ Fr n0 L) T401 (mkF m 182 (LA0_99 q1 q2 q3 q4 q5 p6 b352 b373) []) := by
  have B := And.intro hx hby
  refine waload OGc 184 xc B at_182 rfl rfl rfl ?_
  refine wiconst OGc 185 xc B at_184 2 rfl rfl ?_
  refine wlaload OGc 186 xc B hZ rfl fc0 (v := (.long (g0_4 q1 q2 q3 q4 q5 p6))) 2 (by decide) (by decide) rfl at_185 rfl ?_
  refine wlload OGc 188 xc B at_186 rfl rfl ?_
  refine wlcmp OGc 189 xc B at_188 rfl ?_
  refine wifNo OGc 192 xc B at_189 (own_if0 (teq ((lw_eq _ _).mpr rfl)).2) rfl ?_
  refine waload OGc 194 xc B at_192 rfl rfl rfl ?_
  refine wiconst OGc 195 xc B at_194 0 rfl rfl ?_
  refine wlaload OGc 196 xc B hZ rfl fc0 (v := (.long q2)) 0 (by decide) (by decide) rfl at_195 rfl ?_
  refine wlload OGc 198 xc B at_196 rfl rfl ?_
  refine wlcmp OGc 199 xc B at_198 rfl ?_
  refine wifNo OGc 202 xc B at_199 (own_if0 (teq ((lw_eq _ _).mpr rfl)).2) rfl ?_
  refine waload OGc 204 xc B at_202 rfl rfl rfl ?_
  refine wiconst OGc 205 xc B at_204 5 rfl rfl ?_
  refine wlaload OGc 206 xc B hZ rfl fc0 (v := (.long (g0_3 q1 q2 q3 q4 q5 p6))) 5 (by decide) (by decide) rfl at_205 rfl ?_
  refine wlload OGc 208 xc B at_206 rfl rfl ?_
  refine wlcmp OGc 209 xc B at_208 rfl ?_
  refine wifNo OGc 212 xc B at_209 (own_if0 (teq ((lw_eq _ _).mpr rfl)).2) rfl ?_
  refine waload OGc 214 xc B at_212 rfl rfl rfl ?_
  refine wiconst OGc 215 xc B at_214 1 rfl rfl ?_
  refine wlaload OGc 216 xc B hZ rfl fc0 (v := (.long q4)) 1 (by decide) (by decide) rfl at_215 rfl ?_
  refine wlload OGc 218 xc B at_216 rfl rfl ?_
  refine wlcmp OGc 219 xc B at_218 rfl ?_
  refine wifNo OGc 222 xc B at_219 (own_if0 (teq ((lw_eq _ _).mpr rfl)).2) rfl ?_
  refine waload OGc 224 xc B at_222 rfl rfl rfl ?_
  refine wiconst OGc 225 xc B at_224 3 rfl rfl ?_
  refine wlaload OGc 226 xc B hZ rfl fc0 (v := (.long q5)) 3 (by decide) (by decide) rfl at_225 rfl ?_
  refine wlload OGc 228 xc B at_226 rfl rfl ?_
  refine wlcmp OGc 229 xc B at_228 rfl ?_
  refine wifNo OGc 232 xc B at_229 (own_if0 (teq ((lw_eq _ _).mpr rfl)).2) rfl ?_
  refine waload OGc 234 xc B at_232 rfl rfl rfl ?_
  refine wiconst OGc 235 xc B at_234 4 rfl rfl ?_
  refine wlaload OGc 236 xc B hZ rfl fc0 (v := (.long (g0_2 q1 q2 q3 q4 q5 p6))) 4 (by decide) (by decide) rfl at_235 rfl ?_
  refine wlload OGc 238 xc B at_236 rfl rfl ?_
  refine wlcmp OGc 239 xc B at_238 rfl ?_
  refine wifNo OGc 242 xc B at_239 (own_if0 (teq ((lw_eq _ _).mpr rfl)).2) rfl ?_
  refine wiconst OGc 243 xc B at_242 1 rfl rfl ?_
  refine wgoto OGc 247 xc B at_243 rfl ?_
  refine wistore OGc 249 xc B at_247 (LA0_100 q1 q2 q3 q4 q5 p6 b352 b373) rfl rfl ?_
  refine waload OGc 251 xc B at_249 rfl rfl rfl ?_
  refine wiconst OGc 252 xc B at_251 0 rfl rfl ?_
  refine wiaload OGc 253 xc B hZ rfl fc1 (v := (.int (2 : Int32))) 0 (by decide) (by decide) rfl at_252 rfl ?_
  refine wistore OGc 255 xc B at_253 (LA0_101 q1 q2 q3 q4 q5 p6 b352 b373) rfl rfl ?_
  refine waload OGc 257 xc B at_255 rfl rfl rfl ?_
  refine wiconst OGc 258 xc B at_257 1 rfl rfl ?_
  refine wiaload OGc 259 xc B hZ rfl fc1 (v := (.int (3 : Int32))) 1 (by decide) (by decide) rfl at_258 rfl ?_
  refine wistore OGc 261 xc B at_259 (LA0_102 q1 q2 q3 q4 q5 p6 b352 b373) rfl rfl ?_
  refine waload OGc 263 xc B at_261 rfl rfl rfl ?_
  refine wiconst OGc 264 xc B at_263 2 rfl rfl ?_
  refine wiaload OGc 265 xc B hZ rfl fc1 (v := (.int (5 : Int32))) 2 (by decide) (by decide) rfl at_264 rfl ?_
  refine wistore OGc 267 xc B at_265 (LA0_103 q1 q2 q3 q4 q5 p6 b352 b373) rfl rfl ?_
  refine waload OGc 269 xc B at_267 rfl rfl rfl ?_
  refine wiconst OGc 270 xc B at_269 3 rfl rfl ?_
  refine wiaload OGc 271 xc B hZ rfl fc1 (v := (.int (1 : Int32))) 3 (by decide) (by decide) rfl at_270 rfl ?_
  refine wistore OGc 273 xc B at_271 (LA0_104 q1 q2 q3 q4 q5 p6 b352 b373) rfl rfl ?_
  refine waload OGc 275 xc B at_273 rfl rfl rfl ?_
  refine wiconst OGc 276 xc B at_275 4 rfl rfl ?_
  refine wiaload OGc 277 xc B hZ rfl fc1 (v := (.int (0 : Int32))) 4 (by decide) (by decide) rfl at_276 rfl ?_
  refine wistore OGc 279 xc B at_277 (LA0_105 q1 q2 q3 q4 q5 p6 b352 b373) rfl rfl ?_
  refine waload OGc 281 xc B at_279 rfl rfl rfl ?_
  refine wiconst OGc 282 xc B at_281 5 rfl rfl ?_
  refine wiaload OGc 283 xc B hZ rfl fc1 (v := (.int (4 : Int32))) 5 (by decide) (by decide) rfl at_282 rfl ?_
  refine wistore OGc 285 xc B at_283 (LA0_106 q1 q2 q3 q4 q5 p6 b352 b373) rfl rfl ?_
  refine wiload OGc 287 xc B at_285 rfl rfl ?_
  refine wstat OGc 290 xc B hZ hown (ow hw 10 rfl) (ow hw 11 rfl) (ow hw 13 rfl) (ow hw 12 rfl) rfl (rm3 l Z a0 hw [] (2 : Int32) T401.heap) 0 (by decide) (by decide) hml rfl (lenOf pd__I_Z rfl) [] rfl rfl at_287 rfl fun _ T484 L484 X484 hQ484 => ?_
  obtain ⟨rfl, rfl, e484⟩ := hQ484
  have N484 := Fr.app nc (Fr.nil n0)
  refine own_stk (S' := [(.int (f3 (2 : Int32)))]) rfl ?_
  refine wifNo OGc 293 X484 B at_290 (own_if0 (feq (by decide)).1) rfl ?_
  refine wiload OGc 295 X484 B at_293 rfl rfl ?_
  refine wstat OGc 298 X484 B hZ hown (ow hw 10 rfl) (ow hw 11 rfl) (ow hw 13 rfl) (ow hw 12 rfl) e484 (rm3 l Z a0 hw [] (3 : Int32) T401.heap) 0 (by decide) (by decide) hml rfl (lenOf pd__I_Z rfl) [] rfl rfl at_295 rfl fun _ T485 L485 X485 hQ485 => ?_
  obtain ⟨rfl, rfl, e485⟩ := hQ485
  have N485 := Fr.app N484 (Fr.nil n0)
  refine own_stk (S' := [(.int (f3 (3 : Int32)))]) rfl ?_
  refine wifNo OGc 301 X485 B at_298 (own_if0 (feq (by decide)).1) rfl ?_
  refine wiload OGc 303 X485 B at_301 rfl rfl ?_
  refine wstat OGc 306 X485 B hZ hown (ow hw 10 rfl) (ow hw 11 rfl) (ow hw 13 rfl) (ow hw 12 rfl) e485 (rm3 l Z a0 hw [] (5 : Int32) T401.heap) 0 (by decide) (by decide) hml rfl (lenOf pd__I_Z rfl) [] rfl rfl at_303 rfl fun _ T486 L486 X486 hQ486 => ?_
  obtain ⟨rfl, rfl, e486⟩ := hQ486
  have N486 := Fr.app N485 (Fr.nil n0)
  refine own_stk (S' := [(.int (f3 (5 : Int32)))]) rfl ?_
  refine wifNo OGc 309 X486 B at_306 (own_if0 (feq (by decide)).1) rfl ?_
  refine wiload OGc 311 X486 B at_309 rfl rfl ?_
  refine wstat OGc 314 X486 B hZ hown (ow hw 10 rfl) (ow hw 11 rfl) (ow hw 13 rfl) (ow hw 12 rfl) e486 (rm3 l Z a0 hw [] (1 : Int32) T401.heap) 0 (by decide) (by decide) hml rfl (lenOf pd__I_Z rfl) [] rfl rfl at_311 rfl fun _ T487 L487 X487 hQ487 => ?_
  obtain ⟨rfl, rfl, e487⟩ := hQ487
  have N487 := Fr.app N486 (Fr.nil n0)
  refine own_stk (S' := [(.int (f3 (1 : Int32)))]) rfl ?_
  refine wifNo OGc 317 X487 B at_314 (own_if0 (feq (by decide)).1) rfl ?_
  refine wiload OGc 319 X487 B at_317 rfl rfl ?_
  refine wstat OGc 322 X487 B hZ hown (ow hw 10 rfl) (ow hw 11 rfl) (ow hw 13 rfl) (ow hw 12 rfl) e487 (rm3 l Z a0 hw [] (0 : Int32) T401.heap) 0 (by decide) (by decide) hml rfl (lenOf pd__I_Z rfl) [] rfl rfl at_319 rfl fun _ T488 L488 X488 hQ488 => ?_
  obtain ⟨rfl, rfl, e488⟩ := hQ488
  have N488 := Fr.app N487 (Fr.nil n0)
  refine own_stk (S' := [(.int (f3 (0 : Int32)))]) rfl ?_
  refine wifNo OGc 325 X488 B at_322 (own_if0 (feq (by decide)).1) rfl ?_
  refine wiload OGc 327 X488 B at_325 rfl rfl ?_
  refine wstat OGc 330 X488 B hZ hown (ow hw 10 rfl) (ow hw 11 rfl) (ow hw 13 rfl) (ow hw 12 rfl) e488 (rm3 l Z a0 hw [] (4 : Int32) T401.heap) 0 (by decide) (by decide) hml rfl (lenOf pd__I_Z rfl) [] rfl rfl at_327 rfl fun _ T489 L489 X489 hQ489 => ?_
  obtain ⟨rfl, rfl, e489⟩ := hQ489
  have N489 := Fr.app N488 (Fr.nil n0)
  refine own_stk (S' := [(.int (f3 (4 : Int32)))]) rfl ?_
  refine wifYes OGc 335 X489 B at_330 (own_if0 (feq (by decide)).2) rfl ?_
  refine wiconst OGc 336 X489 B at_335 1 rfl rfl ?_
  refine wiload OGc 338 X489 B at_336 rfl rfl ?_
  refine own_st (fun t k => XS.ishl X489.here hx rfl (hb hby at_338) rfl k) ?_
  show OG p e _ s below _ T489 (mkF m 339 (LA0_106 q1 q2 q3 q4 q5 p6 b352 b373) [(.int (4 : Int32))])
  refine wiconst OGc 340 X489 B at_339 1 rfl rfl ?_
  refine wiload OGc 342 X489 B at_340 rfl rfl ?_
  refine own_st (fun t k => XS.ishl X489.here hx rfl (hb hby at_342) rfl k) ?_
  show OG p e _ s below _ T489 (mkF m 343 (LA0_106 q1 q2 q3 q4 q5 p6 b352 b373) [(.int (8 : Int32)), (.int (4 : Int32))])
  refine own_st (fun t k => XS.ior X489.here hx rfl (hb hby at_343) rfl k) ?_
  show OG p e _ s below _ T489 (mkF m 344 (LA0_106 q1 q2 q3 q4 q5 p6 b352 b373) [(.int (12 : Int32))])
  refine wiconst OGc 345 X489 B at_344 1 rfl rfl ?_
  refine wiload OGc 347 X489 B at_345 rfl rfl ?_
  refine own_st (fun t k => XS.ishl X489.here hx rfl (hb hby at_347) rfl k) ?_
  show OG p e _ s below _ T489 (mkF m 348 (LA0_106 q1 q2 q3 q4 q5 p6 b352 b373) [(.int (32 : Int32)), (.int (12 : Int32))])
  refine own_st (fun t k => XS.ior X489.here hx rfl (hb hby at_348) rfl k) ?_
  show OG p e _ s below _ T489 (mkF m 349 (LA0_106 q1 q2 q3 q4 q5 p6 b352 b373) [(.int (44 : Int32))])
  refine wiconst OGc 350 X489 B at_349 1 rfl rfl ?_
  refine wiload OGc 352 X489 B at_350 rfl rfl ?_
  refine own_st (fun t k => XS.ishl X489.here hx rfl (hb hby at_352) rfl k) ?_
  show OG p e _ s below _ T489 (mkF m 353 (LA0_106 q1 q2 q3 q4 q5 p6 b352 b373) [(.int (2 : Int32)), (.int (44 : Int32))])
  refine own_st (fun t k => XS.ior X489.here hx rfl (hb hby at_353) rfl k) ?_
  show OG p e _ s below _ T489 (mkF m 354 (LA0_106 q1 q2 q3 q4 q5 p6 b352 b373) [(.int (46 : Int32))])
  refine wiconst OGc 355 X489 B at_354 1 rfl rfl ?_
  refine wiload OGc 357 X489 B at_355 rfl rfl ?_
  refine own_st (fun t k => XS.ishl X489.here hx rfl (hb hby at_357) rfl k) ?_
  show OG p e _ s below _ T489 (mkF m 358 (LA0_106 q1 q2 q3 q4 q5 p6 b352 b373) [(.int (1 : Int32)), (.int (46 : Int32))])
  refine own_st (fun t k => XS.ior X489.here hx rfl (hb hby at_358) rfl k) ?_
  show OG p e _ s below _ T489 (mkF m 359 (LA0_106 q1 q2 q3 q4 q5 p6 b352 b373) [(.int (47 : Int32))])
  refine wiconst OGc 360 X489 B at_359 1 rfl rfl ?_
  refine wiload OGc 362 X489 B at_360 rfl rfl ?_
  refine own_st (fun t k => XS.ishl X489.here hx rfl (hb hby at_362) rfl k) ?_
  show OG p e _ s below _ T489 (mkF m 363 (LA0_106 q1 q2 q3 q4 q5 p6 b352 b373) [(.int (16 : Int32)), (.int (47 : Int32))])
  refine own_st (fun t k => XS.ior X489.here hx rfl (hb hby at_363) rfl k) ?_
  show OG p e _ s below _ T489 (mkF m 364 (LA0_106 q1 q2 q3 q4 q5 p6 b352 b373) [(.int (63 : Int32))])
  refine wistore OGc 366 X489 B at_364 (LA0_107 q1 q2 q3 q4 q5 p6 b352 b373) rfl rfl ?_
  refine wiload OGc 368 X489 B at_366 rfl rfl ?_
  refine wifNo OGc 371 X489 B at_368 (by decide) rfl ?_
  refine wiload OGc 373 X489 B at_371 rfl rfl ?_
  refine wbipush OGc 375 X489 B at_373 63 rfl rfl ?_
  refine wicmpNo OGc 378 X489 B at_375 (by decide) rfl ?_
  refine wiconst OGc 379 X489 B at_378 1 rfl rfl ?_
  refine wgoto OGc 383 X489 B at_379 rfl ?_
  refine wistore OGc 385 X489 B at_383 (LA0_107 q1 q2 q3 q4 q5 p6 b352 b373) rfl rfl ?_
  refine waload OGc 387 X489 B at_385 rfl rfl rfl ?_
  refine wiload OGc 389 X489 B at_387 rfl rfl ?_
  refine wlaload OGc 390 X489 B hZ e489 fc0 (v := (.long (g0_4 q1 q2 q3 q4 q5 p6))) 2 (by decide) (by decide) rfl at_389 rfl ?_
  refine wlstore OGc 392 X489 B at_390 (LA0_108 q1 q2 q3 q4 q5 p6 b352 b373) rfl rfl ?_
  refine waload OGc 394 X489 B at_392 rfl rfl rfl ?_
  refine wiload OGc 396 X489 B at_394 rfl rfl ?_
  refine wlaload OGc 397 X489 B hZ e489 fc0 (v := (.long q5)) 3 (by decide) (by decide) rfl at_396 rfl ?_
  refine wlstore OGc 399 X489 B at_397 (LA0_109 q1 q2 q3 q4 q5 p6 b352 b373) rfl rfl ?_
  refine waload OGc 401 X489 B at_399 rfl rfl rfl ?_
  refine wiload OGc 403 X489 B at_401 rfl rfl ?_
  refine wlaload OGc 404 X489 B hZ e489 fc0 (v := (.long (g0_3 q1 q2 q3 q4 q5 p6))) 5 (by decide) (by decide) rfl at_403 rfl ?_
  refine wlstore OGc 406 X489 B at_404 (LA0_110 q1 q2 q3 q4 q5 p6 b352 b373) rfl rfl ?_
  refine waload OGc 408 X489 B at_406 rfl rfl rfl ?_
  refine wiload OGc 410 X489 B at_408 rfl rfl ?_
  refine wlaload OGc 411 X489 B hZ e489 fc0 (v := (.long q4)) 1 (by decide) (by decide) rfl at_410 rfl ?_
  refine wlstore OGc 413 X489 B at_411 (LA0_111 q1 q2 q3 q4 q5 p6 b352 b373) rfl rfl ?_
  refine waload OGc 415 X489 B at_413 rfl rfl rfl ?_
  refine wiload OGc 417 X489 B at_415 rfl rfl ?_
  refine wlaload OGc 418 X489 B hZ e489 fc0 (v := (.long q2)) 0 (by decide) (by decide) rfl at_417 rfl ?_
  refine wlstore OGc 420 X489 B at_418 (LA0_112 q1 q2 q3 q4 q5 p6 b352 b373) rfl rfl ?_
  refine waload OGc 422 X489 B at_420 rfl rfl rfl ?_
  refine wiload OGc 424 X489 B at_422 rfl rfl ?_
  refine wlaload OGc 425 X489 B hZ e489 fc0 (v := (.long (g0_2 q1 q2 q3 q4 q5 p6))) 4 (by decide) (by decide) rfl at_424 rfl ?_
  refine wlstore OGc 427 X489 B at_425 (LA0_113 q1 q2 q3 q4 q5 p6 b352 b373) rfl rfl ?_
  refine wiload OGc 429 X489 B at_427 rfl rfl ?_
  refine wifNo OGc 432 X489 B at_429 (by decide) rfl ?_
  refine wlload OGc 434 X489 B at_432 rfl rfl ?_
  refine wlload OGc 436 X489 B at_434 rfl rfl ?_
  refine wlcmp OGc 437 X489 B at_436 rfl ?_
  by_cases c496 : q5 < (g0_4 q1 q2 q3 q4 q5 p6)
  · refine wifYes OGc 476 X489 B at_437 (own_if0 (tlt ((lw_gt _ _).mpr c496)).2.2.1) rfl ?_
    refine wiconst OGc 477 X489 B at_476 0 rfl rfl ?_
    refine wistore OGc 479 X489 B at_477 (LA0_114 q1 q2 q3 q4 q5 p6 b352 b373) rfl rfl ?_
    refine wiload OGc 481 X489 B at_479 rfl rfl ?_
    refine wiconst OGc 482 X489 B at_481 1 rfl rfl ?_
    refine wicmpNo OGc 485 X489 B at_482 (by decide) rfl ?_
    refine wiload OGc 487 X489 B at_485 rfl rfl ?_
    refine wifYes OGc 512 X489 B at_487 (by decide) rfl ?_
    refine wiconst OGc 513 X489 B at_512 0 rfl rfl ?_
    refine wistore OGc 515 X489 B at_513 (LA0_114 q1 q2 q3 q4 q5 p6 b352 b373) rfl rfl ?_
    refine wgoto OGc 615 X489 B at_515 rfl ?_
    refine wiload OGc 617 X489 B at_615 rfl rfl ?_
    refine own_retZ X489 hx (t := .boolean) hret (by simp) hlk (hb hby at_617) (by decide) (by decide) (w := (0 : Int32)) rfl ?_
    exact ⟨congrArg (fun z => some (Value.int z)) (show f0 q1 q2 q3 q4 q5 p6 = (0 : Int32) from (by rw [f0, if_neg c1, if_pos c345, if_neg c409, if_pos c410, if_pos c496])).symm, N489⟩
  · refine wifNo OGc 440 X489 B at_437 (own_if0 (flt (fun q => c496 ((lw_gt _ _).mp q))).2.2.1) rfl ?_
    refine wlload OGc 442 X489 B at_440 rfl rfl ?_
    refine wlload OGc 444 X489 B at_442 rfl rfl ?_
    refine wlcmp OGc 445 X489 B at_444 rfl ?_
    by_cases c497 : (g0_3 q1 q2 q3 q4 q5 p6) < (g0_4 q1 q2 q3 q4 q5 p6)
    · refine wifYes OGc 476 X489 B at_445 (own_if0 (tlt ((lw_gt _ _).mpr c497)).2.2.1) rfl ?_
      refine wiconst OGc 477 X489 B at_476 0 rfl rfl ?_
      refine wistore OGc 479 X489 B at_477 (LA0_114 q1 q2 q3 q4 q5 p6 b352 b373) rfl rfl ?_
      refine wiload OGc 481 X489 B at_479 rfl rfl ?_
      refine wiconst OGc 482 X489 B at_481 1 rfl rfl ?_
      refine wicmpNo OGc 485 X489 B at_482 (by decide) rfl ?_
      refine wiload OGc 487 X489 B at_485 rfl rfl ?_
      refine wifYes OGc 512 X489 B at_487 (by decide) rfl ?_
      refine wiconst OGc 513 X489 B at_512 0 rfl rfl ?_
      refine wistore OGc 515 X489 B at_513 (LA0_114 q1 q2 q3 q4 q5 p6 b352 b373) rfl rfl ?_
      refine wgoto OGc 615 X489 B at_515 rfl ?_
      refine wiload OGc 617 X489 B at_615 rfl rfl ?_
      refine own_retZ X489 hx (t := .boolean) hret (by simp) hlk (hb hby at_617) (by decide) (by decide) (w := (0 : Int32)) rfl ?_
      exact ⟨congrArg (fun z => some (Value.int z)) (show f0 q1 q2 q3 q4 q5 p6 = (0 : Int32) from (by rw [f0, if_neg c1, if_pos c345, if_neg c409, if_pos c410, if_neg c496, if_pos c497])).symm, N489⟩
    · refine wifNo OGc 448 X489 B at_445 (own_if0 (flt (fun q => c497 ((lw_gt _ _).mp q))).2.2.1) rfl ?_
      refine wlload OGc 450 X489 B at_448 rfl rfl ?_
      refine wlload OGc 452 X489 B at_450 rfl rfl ?_
      refine wlcmp OGc 453 X489 B at_452 rfl ?_
      by_cases c498 : q4 < q5
      · refine wifYes OGc 476 X489 B at_453 (own_if0 (tlt ((lw_gt _ _).mpr c498)).2.2.1) rfl ?_
        refine wiconst OGc 477 X489 B at_476 0 rfl rfl ?_
        refine wistore OGc 479 X489 B at_477 (LA0_114 q1 q2 q3 q4 q5 p6 b352 b373) rfl rfl ?_
        refine wiload OGc 481 X489 B at_479 rfl rfl ?_
        refine wiconst OGc 482 X489 B at_481 1 rfl rfl ?_
        refine wicmpNo OGc 485 X489 B at_482 (by decide) rfl ?_
        refine wiload OGc 487 X489 B at_485 rfl rfl ?_
        refine wifYes OGc 512 X489 B at_487 (by decide) rfl ?_
        refine wiconst OGc 513 X489 B at_512 0 rfl rfl ?_
        refine wistore OGc 515 X489 B at_513 (LA0_114 q1 q2 q3 q4 q5 p6 b352 b373) rfl rfl ?_
        refine wgoto OGc 615 X489 B at_515 rfl ?_
        refine wiload OGc 617 X489 B at_615 rfl rfl ?_
        refine own_retZ X489 hx (t := .boolean) hret (by simp) hlk (hb hby at_617) (by decide) (by decide) (w := (0 : Int32)) rfl ?_
        exact ⟨congrArg (fun z => some (Value.int z)) (show f0 q1 q2 q3 q4 q5 p6 = (0 : Int32) from (by rw [f0, if_neg c1, if_pos c345, if_neg c409, if_pos c410, if_neg c496, if_neg c497, if_pos c498])).symm, N489⟩
      · refine wifNo OGc 456 X489 B at_453 (own_if0 (flt (fun q => c498 ((lw_gt _ _).mp q))).2.2.1) rfl ?_
        refine wlload OGc 458 X489 B at_456 rfl rfl ?_
        refine wlload OGc 460 X489 B at_458 rfl rfl ?_
        refine wlcmp OGc 461 X489 B at_460 rfl ?_
        by_cases c499 : q2 < q5
        · refine wifYes OGc 476 X489 B at_461 (own_if0 (tlt ((lw_gt _ _).mpr c499)).2.2.1) rfl ?_
          refine wiconst OGc 477 X489 B at_476 0 rfl rfl ?_
          refine wistore OGc 479 X489 B at_477 (LA0_114 q1 q2 q3 q4 q5 p6 b352 b373) rfl rfl ?_
          refine wiload OGc 481 X489 B at_479 rfl rfl ?_
          refine wiconst OGc 482 X489 B at_481 1 rfl rfl ?_
          refine wicmpNo OGc 485 X489 B at_482 (by decide) rfl ?_
          refine wiload OGc 487 X489 B at_485 rfl rfl ?_
          refine wifYes OGc 512 X489 B at_487 (by decide) rfl ?_
          refine wiconst OGc 513 X489 B at_512 0 rfl rfl ?_
          refine wistore OGc 515 X489 B at_513 (LA0_114 q1 q2 q3 q4 q5 p6 b352 b373) rfl rfl ?_
          refine wgoto OGc 615 X489 B at_515 rfl ?_
          refine wiload OGc 617 X489 B at_615 rfl rfl ?_
          refine own_retZ X489 hx (t := .boolean) hret (by simp) hlk (hb hby at_617) (by decide) (by decide) (w := (0 : Int32)) rfl ?_
          exact ⟨congrArg (fun z => some (Value.int z)) (show f0 q1 q2 q3 q4 q5 p6 = (0 : Int32) from (by rw [f0, if_neg c1, if_pos c345, if_neg c409, if_pos c410, if_neg c496, if_neg c497, if_neg c498, if_pos c499])).symm, N489⟩
        · refine wifNo OGc 464 X489 B at_461 (own_if0 (flt (fun q => c499 ((lw_gt _ _).mp q))).2.2.1) rfl ?_
          refine wlload OGc 466 X489 B at_464 rfl rfl ?_
          refine wlload OGc 468 X489 B at_466 rfl rfl ?_
          refine wlcmp OGc 469 X489 B at_468 rfl ?_
          by_cases c500 : (g0_2 q1 q2 q3 q4 q5 p6) < (g0_3 q1 q2 q3 q4 q5 p6)
          · refine wifYes OGc 476 X489 B at_469 (own_if0 (tlt ((lw_gt _ _).mpr c500)).2.2.1) rfl ?_
            refine wiconst OGc 477 X489 B at_476 0 rfl rfl ?_
            refine wistore OGc 479 X489 B at_477 (LA0_114 q1 q2 q3 q4 q5 p6 b352 b373) rfl rfl ?_
            refine wiload OGc 481 X489 B at_479 rfl rfl ?_
            refine wiconst OGc 482 X489 B at_481 1 rfl rfl ?_
            refine wicmpNo OGc 485 X489 B at_482 (by decide) rfl ?_
            refine wiload OGc 487 X489 B at_485 rfl rfl ?_
            refine wifYes OGc 512 X489 B at_487 (by decide) rfl ?_
            refine wiconst OGc 513 X489 B at_512 0 rfl rfl ?_
            refine wistore OGc 515 X489 B at_513 (LA0_114 q1 q2 q3 q4 q5 p6 b352 b373) rfl rfl ?_
            refine wgoto OGc 615 X489 B at_515 rfl ?_
            refine wiload OGc 617 X489 B at_615 rfl rfl ?_
            refine own_retZ X489 hx (t := .boolean) hret (by simp) hlk (hb hby at_617) (by decide) (by decide) (w := (0 : Int32)) rfl ?_
            exact ⟨congrArg (fun z => some (Value.int z)) (show f0 q1 q2 q3 q4 q5 p6 = (0 : Int32) from (by rw [f0, if_neg c1, if_pos c345, if_neg c409, if_pos c410, if_neg c496, if_neg c497, if_neg c498, if_neg c499, if_pos c500])).symm, N489⟩
          · refine wifNo OGc 472 X489 B at_469 (own_if0 (flt (fun q => c500 ((lw_gt _ _).mp q))).2.2.1) rfl ?_
            refine wiconst OGc 473 X489 B at_472 1 rfl rfl ?_
            refine wgoto OGc 477 X489 B at_473 rfl ?_
            refine wistore OGc 479 X489 B at_477 (LA0_113 q1 q2 q3 q4 q5 p6 b352 b373) rfl rfl ?_
            refine wiload OGc 481 X489 B at_479 rfl rfl ?_
            refine wiconst OGc 482 X489 B at_481 1 rfl rfl ?_
            refine wicmpNo OGc 485 X489 B at_482 (by decide) rfl ?_
            refine wiload OGc 487 X489 B at_485 rfl rfl ?_
            refine wifNo OGc 490 X489 B at_487 (by decide) rfl ?_
            refine wiload OGc 492 X489 B at_490 rfl rfl ?_
            refine wiconst OGc 493 X489 B at_492 2 rfl rfl ?_
            refine wicmpNo OGc 496 X489 B at_493 (by decide) rfl ?_
            refine wiload OGc 498 X489 B at_496 rfl rfl ?_
            refine wiconst OGc 499 X489 B at_498 5 rfl rfl ?_
            refine wicmpNo OGc 502 X489 B at_499 (by decide) rfl ?_
            refine wiload OGc 504 X489 B at_502 rfl rfl ?_
            refine wiconst OGc 505 X489 B at_504 4 rfl rfl ?_
            refine wicmpNo OGc 508 X489 B at_505 (by decide) rfl ?_
            refine wiconst OGc 509 X489 B at_508 1 rfl rfl ?_
            refine wgoto OGc 513 X489 B at_509 rfl ?_
            refine wistore OGc 515 X489 B at_513 (LA0_113 q1 q2 q3 q4 q5 p6 b352 b373) rfl rfl ?_
            refine wgoto OGc 615 X489 B at_515 rfl ?_
            refine wiload OGc 617 X489 B at_615 rfl rfl ?_
            refine own_retZ X489 hx (t := .boolean) hret (by simp) hlk (hb hby at_617) (by decide) (by decide) (w := (1 : Int32)) rfl ?_
            exact ⟨congrArg (fun z => some (Value.int z)) (show f0 q1 q2 q3 q4 q5 p6 = (1 : Int32) from (by rw [f0, if_neg c1, if_pos c345, if_neg c409, if_pos c410, if_neg c496, if_neg c497, if_neg c498, if_neg c499, if_neg c500])).symm, N489⟩
set_option maxRecDepth 65536 in
set_option maxHeartbeats 40000000 in
theorem tl0_15 (l : Launch) (Z : State) (a0 : Array Value) (hw : ∀ d ∈ tables_1, d.before a0 Z = true) (q1 : Int64) (q2 : Int64) (q3 : Int64) (q4 : Int64) (q5 : Int64) (p6 : Int32) (h0 : Heap) (n0 : Nat) (Z0 : n0 ≤ h0.size) (p : Program) (e : Env) (s : State) (m : MethodId) (below : List Frame) (meth : Method) (c : Code) (hx : p.tables.exec = Jvm.exec) (hby : c.code = code) (hml : c.maxLocals = 46) (hown : s.vm.findClass "com/example/fragmark/fragmark/PhraseMatcherSiftDownPinLaw" = some m.cls) (hret : meth.sig.returnType = ret) (hlk : meth.locks = false) (hZ : Z.Warmed39 s.vm) (b352 : Addr) (b373 : Addr) (T401 : State) (locs : List Loc) (xc : Stand p l e room_1 s m #[(.long q1), (.long q2), (.long q3), (.long q4), (.long q5), (.int p6)] below meth c T401 locs 2 12)   (nc : Fr n0 locs) (kc : Keep h0 T401.heap []) (gc_b352 : n0 ≤ b352) (gc_b373 : n0 ≤ b373) (sc_b352 : h0.size ≤ b352) (sc_b373 : h0.size ≤ b373) (xc_b352_b373 : b352 ≠ b373) (fc0 : OA Z T401.heap b373 .long [(.long q2), (.long q4), (.long (g0_4 q1 q2 q3 q4 q5 p6)), (.long q5), (.long (g0_2 q1 q2 q3 q4 q5 p6)), (.long (g0_3 q1 q2 q3 q4 q5 p6))]) (fc1 : OA Z T401.heap b352 .int [(.int (2 : Int32)), (.int (0 : Int32)), (.int (5 : Int32)), (.int (1 : Int32)), (.int (3 : Int32)), (.int (4 : Int32))]) (c1 : ¬ ((g0_1 q1 q2 q3 q4 q5 p6) = (0 : Int32))) (c345 : (g0_1 q1 q2 q3 q4 q5 p6) = (1 : Int32)) (c412 : ¬ (q4 < q2)) (c413 : ¬ (q5 < q2)) :
    OG p e room_1 s below (fun v h L => v = some (.int (f0 q1 q2 q3 q4 q5 p6)) ∧ Fr n0 L) T401 (mkF m 182 (LA0_99 q1 q2 q3 q4 q5 p6 b352 b373) []) := by
  have B := And.intro hx hby
  refine waload OGc 184 xc B at_182 rfl rfl rfl ?_
  refine wiconst OGc 185 xc B at_184 2 rfl rfl ?_
  refine wlaload OGc 186 xc B hZ rfl fc0 (v := (.long (g0_4 q1 q2 q3 q4 q5 p6))) 2 (by decide) (by decide) rfl at_185 rfl ?_
  refine wlload OGc 188 xc B at_186 rfl rfl ?_
  refine wlcmp OGc 189 xc B at_188 rfl ?_
  refine wifNo OGc 192 xc B at_189 (own_if0 (teq ((lw_eq _ _).mpr rfl)).2) rfl ?_
  refine waload OGc 194 xc B at_192 rfl rfl rfl ?_
  refine wiconst OGc 195 xc B at_194 0 rfl rfl ?_
  refine wlaload OGc 196 xc B hZ rfl fc0 (v := (.long q2)) 0 (by decide) (by decide) rfl at_195 rfl ?_
  refine wlload OGc 198 xc B at_196 rfl rfl ?_
  refine wlcmp OGc 199 xc B at_198 rfl ?_
  refine wifNo OGc 202 xc B at_199 (own_if0 (teq ((lw_eq _ _).mpr rfl)).2) rfl ?_
  refine waload OGc 204 xc B at_202 rfl rfl rfl ?_
  refine wiconst OGc 205 xc B at_204 5 rfl rfl ?_
  refine wlaload OGc 206 xc B hZ rfl fc0 (v := (.long (g0_3 q1 q2 q3 q4 q5 p6))) 5 (by decide) (by decide) rfl at_205 rfl ?_
  refine wlload OGc 208 xc B at_206 rfl rfl ?_
  refine wlcmp OGc 209 xc B at_208 rfl ?_
  refine wifNo OGc 212 xc B at_209 (own_if0 (teq ((lw_eq _ _).mpr rfl)).2) rfl ?_
  refine waload OGc 214 xc B at_212 rfl rfl rfl ?_
  refine wiconst OGc 215 xc B at_214 1 rfl rfl ?_
  refine wlaload OGc 216 xc B hZ rfl fc0 (v := (.long q4)) 1 (by decide) (by decide) rfl at_215 rfl ?_
  refine wlload OGc 218 xc B at_216 rfl rfl ?_
  refine wlcmp OGc 219 xc B at_218 rfl ?_
  refine wifNo OGc 222 xc B at_219 (own_if0 (teq ((lw_eq _ _).mpr rfl)).2) rfl ?_
  refine waload OGc 224 xc B at_222 rfl rfl rfl ?_
  refine wiconst OGc 225 xc B at_224 3 rfl rfl ?_
  refine wlaload OGc 226 xc B hZ rfl fc0 (v := (.long q5)) 3 (by decide) (by decide) rfl at_225 rfl ?_
  refine wlload OGc 228 xc B at_226 rfl rfl ?_
  refine wlcmp OGc 229 xc B at_228 rfl ?_
  refine wifNo OGc 232 xc B at_229 (own_if0 (teq ((lw_eq _ _).mpr rfl)).2) rfl ?_
  refine waload OGc 234 xc B at_232 rfl rfl rfl ?_
  refine wiconst OGc 235 xc B at_234 4 rfl rfl ?_
  refine wlaload OGc 236 xc B hZ rfl fc0 (v := (.long (g0_2 q1 q2 q3 q4 q5 p6))) 4 (by decide) (by decide) rfl at_235 rfl ?_
  refine wlload OGc 238 xc B at_236 rfl rfl ?_
  refine wlcmp OGc 239 xc B at_238 rfl ?_
  refine wifNo OGc 242 xc B at_239 (own_if0 (teq ((lw_eq _ _).mpr rfl)).2) rfl ?_
  refine wiconst OGc 243 xc B at_242 1 rfl rfl ?_
  refine wgoto OGc 247 xc B at_243 rfl ?_
  refine wistore OGc 249 xc B at_247 (LA0_100 q1 q2 q3 q4 q5 p6 b352 b373) rfl rfl ?_
  refine waload OGc 251 xc B at_249 rfl rfl rfl ?_
  refine wiconst OGc 252 xc B at_251 0 rfl rfl ?_
  refine wiaload OGc 253 xc B hZ rfl fc1 (v := (.int (2 : Int32))) 0 (by decide) (by decide) rfl at_252 rfl ?_
  refine wistore OGc 255 xc B at_253 (LA0_101 q1 q2 q3 q4 q5 p6 b352 b373) rfl rfl ?_
  refine waload OGc 257 xc B at_255 rfl rfl rfl ?_
  refine wiconst OGc 258 xc B at_257 1 rfl rfl ?_
  refine wiaload OGc 259 xc B hZ rfl fc1 (v := (.int (0 : Int32))) 1 (by decide) (by decide) rfl at_258 rfl ?_
  refine wistore OGc 261 xc B at_259 (LA0_128 q1 q2 q3 q4 q5 p6 b352 b373) rfl rfl ?_
  refine waload OGc 263 xc B at_261 rfl rfl rfl ?_
  refine wiconst OGc 264 xc B at_263 2 rfl rfl ?_
  refine wiaload OGc 265 xc B hZ rfl fc1 (v := (.int (5 : Int32))) 2 (by decide) (by decide) rfl at_264 rfl ?_
  refine wistore OGc 267 xc B at_265 (LA0_129 q1 q2 q3 q4 q5 p6 b352 b373) rfl rfl ?_
  refine waload OGc 269 xc B at_267 rfl rfl rfl ?_
  refine wiconst OGc 270 xc B at_269 3 rfl rfl ?_
  refine wiaload OGc 271 xc B hZ rfl fc1 (v := (.int (1 : Int32))) 3 (by decide) (by decide) rfl at_270 rfl ?_
  refine wistore OGc 273 xc B at_271 (LA0_130 q1 q2 q3 q4 q5 p6 b352 b373) rfl rfl ?_
  refine waload OGc 275 xc B at_273 rfl rfl rfl ?_
  refine wiconst OGc 276 xc B at_275 4 rfl rfl ?_
  refine wiaload OGc 277 xc B hZ rfl fc1 (v := (.int (3 : Int32))) 4 (by decide) (by decide) rfl at_276 rfl ?_
  refine wistore OGc 279 xc B at_277 (LA0_131 q1 q2 q3 q4 q5 p6 b352 b373) rfl rfl ?_
  refine waload OGc 281 xc B at_279 rfl rfl rfl ?_
  refine wiconst OGc 282 xc B at_281 5 rfl rfl ?_
  refine wiaload OGc 283 xc B hZ rfl fc1 (v := (.int (4 : Int32))) 5 (by decide) (by decide) rfl at_282 rfl ?_
  refine wistore OGc 285 xc B at_283 (LA0_132 q1 q2 q3 q4 q5 p6 b352 b373) rfl rfl ?_
  refine wiload OGc 287 xc B at_285 rfl rfl ?_
  refine wstat OGc 290 xc B hZ hown (ow hw 10 rfl) (ow hw 11 rfl) (ow hw 13 rfl) (ow hw 12 rfl) rfl (rm3 l Z a0 hw [] (2 : Int32) T401.heap) 0 (by decide) (by decide) hml rfl (lenOf pd__I_Z rfl) [] rfl rfl at_287 rfl fun _ T513 L513 X513 hQ513 => ?_
  obtain ⟨rfl, rfl, e513⟩ := hQ513
  have N513 := Fr.app nc (Fr.nil n0)
  refine own_stk (S' := [(.int (f3 (2 : Int32)))]) rfl ?_
  refine wifNo OGc 293 X513 B at_290 (own_if0 (feq (by decide)).1) rfl ?_
  refine wiload OGc 295 X513 B at_293 rfl rfl ?_
  refine wstat OGc 298 X513 B hZ hown (ow hw 10 rfl) (ow hw 11 rfl) (ow hw 13 rfl) (ow hw 12 rfl) e513 (rm3 l Z a0 hw [] (0 : Int32) T401.heap) 0 (by decide) (by decide) hml rfl (lenOf pd__I_Z rfl) [] rfl rfl at_295 rfl fun _ T514 L514 X514 hQ514 => ?_
  obtain ⟨rfl, rfl, e514⟩ := hQ514
  have N514 := Fr.app N513 (Fr.nil n0)
  refine own_stk (S' := [(.int (f3 (0 : Int32)))]) rfl ?_
  refine wifNo OGc 301 X514 B at_298 (own_if0 (feq (by decide)).1) rfl ?_
  refine wiload OGc 303 X514 B at_301 rfl rfl ?_
  refine wstat OGc 306 X514 B hZ hown (ow hw 10 rfl) (ow hw 11 rfl) (ow hw 13 rfl) (ow hw 12 rfl) e514 (rm3 l Z a0 hw [] (5 : Int32) T401.heap) 0 (by decide) (by decide) hml rfl (lenOf pd__I_Z rfl) [] rfl rfl at_303 rfl fun _ T515 L515 X515 hQ515 => ?_
  obtain ⟨rfl, rfl, e515⟩ := hQ515
  have N515 := Fr.app N514 (Fr.nil n0)
  refine own_stk (S' := [(.int (f3 (5 : Int32)))]) rfl ?_
  refine wifNo OGc 309 X515 B at_306 (own_if0 (feq (by decide)).1) rfl ?_
  refine wiload OGc 311 X515 B at_309 rfl rfl ?_
  refine wstat OGc 314 X515 B hZ hown (ow hw 10 rfl) (ow hw 11 rfl) (ow hw 13 rfl) (ow hw 12 rfl) e515 (rm3 l Z a0 hw [] (1 : Int32) T401.heap) 0 (by decide) (by decide) hml rfl (lenOf pd__I_Z rfl) [] rfl rfl at_311 rfl fun _ T516 L516 X516 hQ516 => ?_
  obtain ⟨rfl, rfl, e516⟩ := hQ516
  have N516 := Fr.app N515 (Fr.nil n0)
  refine own_stk (S' := [(.int (f3 (1 : Int32)))]) rfl ?_
  refine wifNo OGc 317 X516 B at_314 (own_if0 (feq (by decide)).1) rfl ?_
  refine wiload OGc 319 X516 B at_317 rfl rfl ?_
  refine wstat OGc 322 X516 B hZ hown (ow hw 10 rfl) (ow hw 11 rfl) (ow hw 13 rfl) (ow hw 12 rfl) e516 (rm3 l Z a0 hw [] (3 : Int32) T401.heap) 0 (by decide) (by decide) hml rfl (lenOf pd__I_Z rfl) [] rfl rfl at_319 rfl fun _ T517 L517 X517 hQ517 => ?_
  obtain ⟨rfl, rfl, e517⟩ := hQ517
  have N517 := Fr.app N516 (Fr.nil n0)
  refine own_stk (S' := [(.int (f3 (3 : Int32)))]) rfl ?_
  refine wifNo OGc 325 X517 B at_322 (own_if0 (feq (by decide)).1) rfl ?_
  refine wiload OGc 327 X517 B at_325 rfl rfl ?_
  refine wstat OGc 330 X517 B hZ hown (ow hw 10 rfl) (ow hw 11 rfl) (ow hw 13 rfl) (ow hw 12 rfl) e517 (rm3 l Z a0 hw [] (4 : Int32) T401.heap) 0 (by decide) (by decide) hml rfl (lenOf pd__I_Z rfl) [] rfl rfl at_327 rfl fun _ T518 L518 X518 hQ518 => ?_
  obtain ⟨rfl, rfl, e518⟩ := hQ518
  have N518 := Fr.app N517 (Fr.nil n0)
  refine own_stk (S' := [(.int (f3 (4 : Int32)))]) rfl ?_
  refine wifYes OGc 335 X518 B at_330 (own_if0 (feq (by decide)).2) rfl ?_
  refine wiconst OGc 336 X518 B at_335 1 rfl rfl ?_
  refine wiload OGc 338 X518 B at_336 rfl rfl ?_
  refine own_st (fun t k => XS.ishl X518.here hx rfl (hb hby at_338) rfl k) ?_
  show OG p e _ s below _ T518 (mkF m 339 (LA0_132 q1 q2 q3 q4 q5 p6 b352 b373) [(.int (4 : Int32))])
  refine wiconst OGc 340 X518 B at_339 1 rfl rfl ?_
  refine wiload OGc 342 X518 B at_340 rfl rfl ?_
  refine own_st (fun t k => XS.ishl X518.here hx rfl (hb hby at_342) rfl k) ?_
  show OG p e _ s below _ T518 (mkF m 343 (LA0_132 q1 q2 q3 q4 q5 p6 b352 b373) [(.int (1 : Int32)), (.int (4 : Int32))])
  refine own_st (fun t k => XS.ior X518.here hx rfl (hb hby at_343) rfl k) ?_
  show OG p e _ s below _ T518 (mkF m 344 (LA0_132 q1 q2 q3 q4 q5 p6 b352 b373) [(.int (5 : Int32))])
  refine wiconst OGc 345 X518 B at_344 1 rfl rfl ?_
  refine wiload OGc 347 X518 B at_345 rfl rfl ?_
  refine own_st (fun t k => XS.ishl X518.here hx rfl (hb hby at_347) rfl k) ?_
  show OG p e _ s below _ T518 (mkF m 348 (LA0_132 q1 q2 q3 q4 q5 p6 b352 b373) [(.int (32 : Int32)), (.int (5 : Int32))])
  refine own_st (fun t k => XS.ior X518.here hx rfl (hb hby at_348) rfl k) ?_
  show OG p e _ s below _ T518 (mkF m 349 (LA0_132 q1 q2 q3 q4 q5 p6 b352 b373) [(.int (37 : Int32))])
  refine wiconst OGc 350 X518 B at_349 1 rfl rfl ?_
  refine wiload OGc 352 X518 B at_350 rfl rfl ?_
  refine own_st (fun t k => XS.ishl X518.here hx rfl (hb hby at_352) rfl k) ?_
  show OG p e _ s below _ T518 (mkF m 353 (LA0_132 q1 q2 q3 q4 q5 p6 b352 b373) [(.int (2 : Int32)), (.int (37 : Int32))])
  refine own_st (fun t k => XS.ior X518.here hx rfl (hb hby at_353) rfl k) ?_
  show OG p e _ s below _ T518 (mkF m 354 (LA0_132 q1 q2 q3 q4 q5 p6 b352 b373) [(.int (39 : Int32))])
  refine wiconst OGc 355 X518 B at_354 1 rfl rfl ?_
  refine wiload OGc 357 X518 B at_355 rfl rfl ?_
  refine own_st (fun t k => XS.ishl X518.here hx rfl (hb hby at_357) rfl k) ?_
  show OG p e _ s below _ T518 (mkF m 358 (LA0_132 q1 q2 q3 q4 q5 p6 b352 b373) [(.int (8 : Int32)), (.int (39 : Int32))])
  refine own_st (fun t k => XS.ior X518.here hx rfl (hb hby at_358) rfl k) ?_
  show OG p e _ s below _ T518 (mkF m 359 (LA0_132 q1 q2 q3 q4 q5 p6 b352 b373) [(.int (47 : Int32))])
  refine wiconst OGc 360 X518 B at_359 1 rfl rfl ?_
  refine wiload OGc 362 X518 B at_360 rfl rfl ?_
  refine own_st (fun t k => XS.ishl X518.here hx rfl (hb hby at_362) rfl k) ?_
  show OG p e _ s below _ T518 (mkF m 363 (LA0_132 q1 q2 q3 q4 q5 p6 b352 b373) [(.int (16 : Int32)), (.int (47 : Int32))])
  refine own_st (fun t k => XS.ior X518.here hx rfl (hb hby at_363) rfl k) ?_
  show OG p e _ s below _ T518 (mkF m 364 (LA0_132 q1 q2 q3 q4 q5 p6 b352 b373) [(.int (63 : Int32))])
  refine wistore OGc 366 X518 B at_364 (LA0_133 q1 q2 q3 q4 q5 p6 b352 b373) rfl rfl ?_
  refine wiload OGc 368 X518 B at_366 rfl rfl ?_
  refine wifNo OGc 371 X518 B at_368 (by decide) rfl ?_
  refine wiload OGc 373 X518 B at_371 rfl rfl ?_
  refine wbipush OGc 375 X518 B at_373 63 rfl rfl ?_
  refine wicmpNo OGc 378 X518 B at_375 (by decide) rfl ?_
  refine wiconst OGc 379 X518 B at_378 1 rfl rfl ?_
  refine wgoto OGc 383 X518 B at_379 rfl ?_
  refine wistore OGc 385 X518 B at_383 (LA0_133 q1 q2 q3 q4 q5 p6 b352 b373) rfl rfl ?_
  refine waload OGc 387 X518 B at_385 rfl rfl rfl ?_
  refine wiload OGc 389 X518 B at_387 rfl rfl ?_
  refine wlaload OGc 390 X518 B hZ e518 fc0 (v := (.long (g0_4 q1 q2 q3 q4 q5 p6))) 2 (by decide) (by decide) rfl at_389 rfl ?_
  refine wlstore OGc 392 X518 B at_390 (LA0_134 q1 q2 q3 q4 q5 p6 b352 b373) rfl rfl ?_
  refine waload OGc 394 X518 B at_392 rfl rfl rfl ?_
  refine wiload OGc 396 X518 B at_394 rfl rfl ?_
  refine wlaload OGc 397 X518 B hZ e518 fc0 (v := (.long q2)) 0 (by decide) (by decide) rfl at_396 rfl ?_
  refine wlstore OGc 399 X518 B at_397 (LA0_135 q1 q2 q3 q4 q5 p6 b352 b373) rfl rfl ?_
  refine waload OGc 401 X518 B at_399 rfl rfl rfl ?_
  refine wiload OGc 403 X518 B at_401 rfl rfl ?_
  refine wlaload OGc 404 X518 B hZ e518 fc0 (v := (.long (g0_3 q1 q2 q3 q4 q5 p6))) 5 (by decide) (by decide) rfl at_403 rfl ?_
  refine wlstore OGc 406 X518 B at_404 (LA0_136 q1 q2 q3 q4 q5 p6 b352 b373) rfl rfl ?_
  refine waload OGc 408 X518 B at_406 rfl rfl rfl ?_
  refine wiload OGc 410 X518 B at_408 rfl rfl ?_
  refine wlaload OGc 411 X518 B hZ e518 fc0 (v := (.long q4)) 1 (by decide) (by decide) rfl at_410 rfl ?_
  refine wlstore OGc 413 X518 B at_411 (LA0_137 q1 q2 q3 q4 q5 p6 b352 b373) rfl rfl ?_
  refine waload OGc 415 X518 B at_413 rfl rfl rfl ?_
  refine wiload OGc 417 X518 B at_415 rfl rfl ?_
  refine wlaload OGc 418 X518 B hZ e518 fc0 (v := (.long q5)) 3 (by decide) (by decide) rfl at_417 rfl ?_
  refine wlstore OGc 420 X518 B at_418 (LA0_138 q1 q2 q3 q4 q5 p6 b352 b373) rfl rfl ?_
  refine waload OGc 422 X518 B at_420 rfl rfl rfl ?_
  refine wiload OGc 424 X518 B at_422 rfl rfl ?_
  refine wlaload OGc 425 X518 B hZ e518 fc0 (v := (.long (g0_2 q1 q2 q3 q4 q5 p6))) 4 (by decide) (by decide) rfl at_424 rfl ?_
  refine wlstore OGc 427 X518 B at_425 (LA0_139 q1 q2 q3 q4 q5 p6 b352 b373) rfl rfl ?_
  refine wiload OGc 429 X518 B at_427 rfl rfl ?_
  refine wifNo OGc 432 X518 B at_429 (by decide) rfl ?_
  refine wlload OGc 434 X518 B at_432 rfl rfl ?_
  refine wlload OGc 436 X518 B at_434 rfl rfl ?_
  refine wlcmp OGc 437 X518 B at_436 rfl ?_
  by_cases c525 : q2 < (g0_4 q1 q2 q3 q4 q5 p6)
  · refine wifYes OGc 476 X518 B at_437 (own_if0 (tlt ((lw_gt _ _).mpr c525)).2.2.1) rfl ?_
    refine wiconst OGc 477 X518 B at_476 0 rfl rfl ?_
    refine wistore OGc 479 X518 B at_477 (LA0_140 q1 q2 q3 q4 q5 p6 b352 b373) rfl rfl ?_
    refine wiload OGc 481 X518 B at_479 rfl rfl ?_
    refine wiconst OGc 482 X518 B at_481 1 rfl rfl ?_
    refine wicmpNo OGc 485 X518 B at_482 (by decide) rfl ?_
    refine wiload OGc 487 X518 B at_485 rfl rfl ?_
    refine wifYes OGc 512 X518 B at_487 (by decide) rfl ?_
    refine wiconst OGc 513 X518 B at_512 0 rfl rfl ?_
    refine wistore OGc 515 X518 B at_513 (LA0_140 q1 q2 q3 q4 q5 p6 b352 b373) rfl rfl ?_
    refine wgoto OGc 615 X518 B at_515 rfl ?_
    refine wiload OGc 617 X518 B at_615 rfl rfl ?_
    refine own_retZ X518 hx (t := .boolean) hret (by simp) hlk (hb hby at_617) (by decide) (by decide) (w := (0 : Int32)) rfl ?_
    exact ⟨congrArg (fun z => some (Value.int z)) (show f0 q1 q2 q3 q4 q5 p6 = (0 : Int32) from (by rw [f0, if_neg c1, if_pos c345, if_neg c412, if_neg c413, if_pos c525])).symm, N518⟩
  · refine wifNo OGc 440 X518 B at_437 (own_if0 (flt (fun q => c525 ((lw_gt _ _).mp q))).2.2.1) rfl ?_
    refine wlload OGc 442 X518 B at_440 rfl rfl ?_
    refine wlload OGc 444 X518 B at_442 rfl rfl ?_
    refine wlcmp OGc 445 X518 B at_444 rfl ?_
    by_cases c526 : (g0_3 q1 q2 q3 q4 q5 p6) < (g0_4 q1 q2 q3 q4 q5 p6)
    · refine wifYes OGc 476 X518 B at_445 (own_if0 (tlt ((lw_gt _ _).mpr c526)).2.2.1) rfl ?_
      refine wiconst OGc 477 X518 B at_476 0 rfl rfl ?_
      refine wistore OGc 479 X518 B at_477 (LA0_140 q1 q2 q3 q4 q5 p6 b352 b373) rfl rfl ?_
      refine wiload OGc 481 X518 B at_479 rfl rfl ?_
      refine wiconst OGc 482 X518 B at_481 1 rfl rfl ?_
      refine wicmpNo OGc 485 X518 B at_482 (by decide) rfl ?_
      refine wiload OGc 487 X518 B at_485 rfl rfl ?_
      refine wifYes OGc 512 X518 B at_487 (by decide) rfl ?_
      refine wiconst OGc 513 X518 B at_512 0 rfl rfl ?_
      refine wistore OGc 515 X518 B at_513 (LA0_140 q1 q2 q3 q4 q5 p6 b352 b373) rfl rfl ?_
      refine wgoto OGc 615 X518 B at_515 rfl ?_
      refine wiload OGc 617 X518 B at_615 rfl rfl ?_
      refine own_retZ X518 hx (t := .boolean) hret (by simp) hlk (hb hby at_617) (by decide) (by decide) (w := (0 : Int32)) rfl ?_
      exact ⟨congrArg (fun z => some (Value.int z)) (show f0 q1 q2 q3 q4 q5 p6 = (0 : Int32) from (by rw [f0, if_neg c1, if_pos c345, if_neg c412, if_neg c413, if_neg c525, if_pos c526])).symm, N518⟩
    · refine wifNo OGc 448 X518 B at_445 (own_if0 (flt (fun q => c526 ((lw_gt _ _).mp q))).2.2.1) rfl ?_
      refine wlload OGc 450 X518 B at_448 rfl rfl ?_
      refine wlload OGc 452 X518 B at_450 rfl rfl ?_
      refine wlcmp OGc 453 X518 B at_452 rfl ?_
      refine wifNo OGc 456 X518 B at_453 (own_if0 (flt (fun q => c412 ((lw_gt _ _).mp q))).2.2.1) rfl ?_
      refine wlload OGc 458 X518 B at_456 rfl rfl ?_
      refine wlload OGc 460 X518 B at_458 rfl rfl ?_
      refine wlcmp OGc 461 X518 B at_460 rfl ?_
      refine wifNo OGc 464 X518 B at_461 (own_if0 (flt (fun q => c413 ((lw_gt _ _).mp q))).2.2.1) rfl ?_
      refine wlload OGc 466 X518 B at_464 rfl rfl ?_
      refine wlload OGc 468 X518 B at_466 rfl rfl ?_
      refine wlcmp OGc 469 X518 B at_468 rfl ?_
      by_cases c527 : (g0_2 q1 q2 q3 q4 q5 p6) < (g0_3 q1 q2 q3 q4 q5 p6)
      · refine wifYes OGc 476 X518 B at_469 (own_if0 (tlt ((lw_gt _ _).mpr c527)).2.2.1) rfl ?_
        refine wiconst OGc 477 X518 B at_476 0 rfl rfl ?_
        refine wistore OGc 479 X518 B at_477 (LA0_140 q1 q2 q3 q4 q5 p6 b352 b373) rfl rfl ?_
        refine wiload OGc 481 X518 B at_479 rfl rfl ?_
        refine wiconst OGc 482 X518 B at_481 1 rfl rfl ?_
        refine wicmpNo OGc 485 X518 B at_482 (by decide) rfl ?_
        refine wiload OGc 487 X518 B at_485 rfl rfl ?_
        refine wifYes OGc 512 X518 B at_487 (by decide) rfl ?_
        refine wiconst OGc 513 X518 B at_512 0 rfl rfl ?_
        refine wistore OGc 515 X518 B at_513 (LA0_140 q1 q2 q3 q4 q5 p6 b352 b373) rfl rfl ?_
        refine wgoto OGc 615 X518 B at_515 rfl ?_
        refine wiload OGc 617 X518 B at_615 rfl rfl ?_
        refine own_retZ X518 hx (t := .boolean) hret (by simp) hlk (hb hby at_617) (by decide) (by decide) (w := (0 : Int32)) rfl ?_
        exact ⟨congrArg (fun z => some (Value.int z)) (show f0 q1 q2 q3 q4 q5 p6 = (0 : Int32) from (by rw [f0, if_neg c1, if_pos c345, if_neg c412, if_neg c413, if_neg c525, if_neg c526, if_pos c527])).symm, N518⟩
      · refine wifNo OGc 472 X518 B at_469 (own_if0 (flt (fun q => c527 ((lw_gt _ _).mp q))).2.2.1) rfl ?_
        refine wiconst OGc 473 X518 B at_472 1 rfl rfl ?_
        refine wgoto OGc 477 X518 B at_473 rfl ?_
        refine wistore OGc 479 X518 B at_477 (LA0_139 q1 q2 q3 q4 q5 p6 b352 b373) rfl rfl ?_
        refine wiload OGc 481 X518 B at_479 rfl rfl ?_
        refine wiconst OGc 482 X518 B at_481 1 rfl rfl ?_
        refine wicmpNo OGc 485 X518 B at_482 (by decide) rfl ?_
        refine wiload OGc 487 X518 B at_485 rfl rfl ?_
        refine wifNo OGc 490 X518 B at_487 (by decide) rfl ?_
        refine wiload OGc 492 X518 B at_490 rfl rfl ?_
        refine wiconst OGc 493 X518 B at_492 2 rfl rfl ?_
        refine wicmpNo OGc 496 X518 B at_493 (by decide) rfl ?_
        refine wiload OGc 498 X518 B at_496 rfl rfl ?_
        refine wiconst OGc 499 X518 B at_498 5 rfl rfl ?_
        refine wicmpNo OGc 502 X518 B at_499 (by decide) rfl ?_
        refine wiload OGc 504 X518 B at_502 rfl rfl ?_
        refine wiconst OGc 505 X518 B at_504 4 rfl rfl ?_
        refine wicmpNo OGc 508 X518 B at_505 (by decide) rfl ?_
        refine wiconst OGc 509 X518 B at_508 1 rfl rfl ?_
        refine wgoto OGc 513 X518 B at_509 rfl ?_
        refine wistore OGc 515 X518 B at_513 (LA0_139 q1 q2 q3 q4 q5 p6 b352 b373) rfl rfl ?_
        refine wgoto OGc 615 X518 B at_515 rfl ?_
        refine wiload OGc 617 X518 B at_615 rfl rfl ?_
        refine own_retZ X518 hx (t := .boolean) hret (by simp) hlk (hb hby at_617) (by decide) (by decide) (w := (1 : Int32)) rfl ?_
        exact ⟨congrArg (fun z => some (Value.int z)) (show f0 q1 q2 q3 q4 q5 p6 = (1 : Int32) from (by rw [f0, if_neg c1, if_pos c345, if_neg c412, if_neg c413, if_neg c525, if_neg c526, if_neg c527])).symm, N518⟩
set_option maxRecDepth 65536 in
set_option maxHeartbeats 40000000 in
theorem tl0_11 (l : Launch) (Z : State) (a0 : Array Value) (hw : ∀ d ∈ tables_1, d.before a0 Z = true) (q1 : Int64) (q2 : Int64) (q3 : Int64) (q4 : Int64) (q5 : Int64) (p6 : Int32) (h0 : Heap) (n0 : Nat) (Z0 : n0 ≤ h0.size) (p : Program) (e : Env) (s : State) (m : MethodId) (below : List Frame) (meth : Method) (c : Code) (hx : p.tables.exec = Jvm.exec) (hby : c.code = code) (hml : c.maxLocals = 46) (hown : s.vm.findClass "com/example/fragmark/fragmark/PhraseMatcherSiftDownPinLaw" = some m.cls) (hret : meth.sig.returnType = ret) (hlk : meth.locks = false) (hZ : Z.Warmed39 s.vm)  (s₁ : State) (locs : List Loc) (xc : Stand p l e room_1 s m #[(.long q1), (.long q2), (.long q3), (.long q4), (.long q5), (.int p6)] below meth c s₁ locs 0 0)  (ec : s₁.heap = h0) (nc : Fr n0 locs) (kc : Keep h0 h0 [])     (c1 : ¬ ((g0_1 q1 q2 q3 q4 q5 p6) = (0 : Int32))) (c345 : (g0_1 q1 q2 q3 q4 q5 p6) = (1 : Int32)) :
    OG p e room_1 s below (fun v h L => v = some (.int (f0 q1 q2 q3 q4 q5 p6)) ∧ Fr n0 L) s₁ (mkF m 8 (LA0_91 q1 q2 q3 q4 q5 p6) [(.long q4)]) := by
  have B := And.intro hx hby
  refine wlstore OGc 10 xc B at_8 (LA0_92 q1 q2 q3 q4 q5 p6) rfl rfl ?_
  refine wlload OGc 12 xc B at_10 rfl rfl ?_
  refine wlstore OGc 14 xc B at_12 (LA0_93 q1 q2 q3 q4 q5 p6) rfl rfl ?_
  refine wiload OGc 16 xc B at_14 rfl rfl ?_
  refine wiconst OGc 17 xc B at_16 2 rfl rfl ?_
  refine own_st (fun t k => XS.ishr xc.here hx rfl (hb hby at_17) rfl k) ?_
  show OG p e _ s below _ s₁ (mkF m 18 (LA0_93 q1 q2 q3 q4 q5 p6) [(.int (p6 >>> ((2 : Int32) &&& 31)))])
  refine own_st (fun t k => XS.i2l xc.here hx rfl (hb hby at_18) rfl k) ?_
  show OG p e _ s below _ s₁ (mkF m 19 (LA0_93 q1 q2 q3 q4 q5 p6) [(.long ((p6 >>> ((2 : Int32) &&& 31)).toInt64))])
  refine wlstore OGc 21 xc B at_19 (LA0_94 q1 q2 q3 q4 q5 p6) rfl rfl ?_
  refine wiload OGc 23 xc B at_21 rfl rfl ?_
  refine wiconst OGc 24 xc B at_23 1 rfl rfl ?_
  refine wicmpNo OGc 27 xc B at_24 (by decide) rfl ?_
  refine wlloadN OGc 28 xc B at_27 rfl rfl ?_
  refine wgoto OGc 42 xc B at_28 rfl ?_
  refine wlstore OGc 44 xc B at_42 (LA0_95 q1 q2 q3 q4 q5 p6) rfl rfl ?_
  refine wiload OGc 46 xc B at_44 rfl rfl ?_
  refine wiconst OGc 47 xc B at_46 2 rfl rfl ?_
  refine wicmpYes OGc 55 xc B at_47 (by decide) rfl ?_
  refine wlload OGc 57 xc B at_55 rfl rfl ?_
  refine wlload OGc 59 xc B at_57 rfl rfl ?_
  refine wstat OGc 62 xc B hZ hown (ow hw 0 rfl) (ow hw 1 rfl) (ow hw 3 rfl) (ow hw 2 rfl) ec (rm1 l Z a0 hw [] q3 (g0_2 q1 q2 q3 q4 q5 p6) h0) 0 (by decide) (by decide) hml rfl (lenOf pd__JJ_J rfl) [] rfl rfl at_59 rfl fun _ T346 L346 X346 hQ346 => ?_
  obtain ⟨rfl, rfl, e346⟩ := hQ346
  have N346 := Fr.app nc (Fr.nil n0)
  refine own_stk (S' := [(.long (f1 q3 (g0_2 q1 q2 q3 q4 q5 p6)))]) rfl ?_
  refine wlstore OGc 64 X346 B at_62 (LA0_96 q1 q2 q3 q4 q5 p6) rfl rfl ?_
  refine wiload OGc 66 X346 B at_64 rfl rfl ?_
  refine wifYes OGc 73 X346 B at_66 (by decide) rfl ?_
  refine wlloadN OGc 74 X346 B at_73 rfl rfl ?_
  refine wlload OGc 76 X346 B at_74 rfl rfl ?_
  refine wstat OGc 79 X346 B hZ hown (ow hw 0 rfl) (ow hw 1 rfl) (ow hw 3 rfl) (ow hw 2 rfl) e346 (rm1 l Z a0 hw [] q1 q2 h0) 0 (by decide) (by decide) hml rfl (lenOf pd__JJ_J rfl) [] rfl rfl at_76 rfl fun _ T347 L347 X347 hQ347 => ?_
  obtain ⟨rfl, rfl, e347⟩ := hQ347
  have N347 := Fr.app N346 (Fr.nil n0)
  refine own_stk (S' := [(.long (f1 q1 q2))]) rfl ?_
  refine wlload OGc 81 X347 B at_79 rfl rfl ?_
  refine wlload OGc 83 X347 B at_81 rfl rfl ?_
  refine wlload OGc 85 X347 B at_83 rfl rfl ?_
  refine wlload OGc 87 X347 B at_85 rfl rfl ?_
  refine wstat OGc 90 X347 B hZ hown (ow hw 0 rfl) (ow hw 1 rfl) (ow hw 3 rfl) (ow hw 2 rfl) e347 (rm1 l Z a0 hw [] q5 (g0_2 q1 q2 q3 q4 q5 p6) h0) 6 (by decide) (by decide) hml rfl (lenOf pd__JJ_J rfl) [(.long q4), (.long (g0_3 q1 q2 q3 q4 q5 p6)), (.long (f1 q1 q2))] rfl rfl at_87 rfl fun _ T348 L348 X348 hQ348 => ?_
  obtain ⟨rfl, rfl, e348⟩ := hQ348
  have N348 := Fr.app N347 (Fr.nil n0)
  refine own_stk (S' := [(.long (f1 q5 (g0_2 q1 q2 q3 q4 q5 p6))), (.long q4), (.long (g0_3 q1 q2 q3 q4 q5 p6)), (.long (f1 q1 q2))]) rfl ?_
  refine wstat OGc 93 X348 B hZ hown (ow hw 0 rfl) (ow hw 1 rfl) (ow hw 3 rfl) (ow hw 2 rfl) e348 (rm1 l Z a0 hw [] q4 (f1 q5 (g0_2 q1 q2 q3 q4 q5 p6)) h0) 4 (by decide) (by decide) hml rfl (lenOf pd__JJ_J rfl) [(.long (g0_3 q1 q2 q3 q4 q5 p6)), (.long (f1 q1 q2))] rfl rfl at_90 rfl fun _ T349 L349 X349 hQ349 => ?_
  obtain ⟨rfl, rfl, e349⟩ := hQ349
  have N349 := Fr.app N348 (Fr.nil n0)
  refine own_stk (S' := [(.long (f1 q4 (f1 q5 (g0_2 q1 q2 q3 q4 q5 p6)))), (.long (g0_3 q1 q2 q3 q4 q5 p6)), (.long (f1 q1 q2))]) rfl ?_
  refine wstat OGc 96 X349 B hZ hown (ow hw 0 rfl) (ow hw 1 rfl) (ow hw 3 rfl) (ow hw 2 rfl) e349 (rm1 l Z a0 hw [] (g0_3 q1 q2 q3 q4 q5 p6) (f1 q4 (f1 q5 (g0_2 q1 q2 q3 q4 q5 p6))) h0) 2 (by decide) (by decide) hml rfl (lenOf pd__JJ_J rfl) [(.long (f1 q1 q2))] rfl rfl at_93 rfl fun _ T350 L350 X350 hQ350 => ?_
  obtain ⟨rfl, rfl, e350⟩ := hQ350
  have N350 := Fr.app N349 (Fr.nil n0)
  refine own_stk (S' := [(.long (f1 (g0_3 q1 q2 q3 q4 q5 p6) (f1 q4 (f1 q5 (g0_2 q1 q2 q3 q4 q5 p6))))), (.long (f1 q1 q2))]) rfl ?_
  refine wstat OGc 99 X350 B hZ hown (ow hw 0 rfl) (ow hw 1 rfl) (ow hw 3 rfl) (ow hw 2 rfl) e350 (rm1 l Z a0 hw [] (f1 q1 q2) (f1 (g0_3 q1 q2 q3 q4 q5 p6) (f1 q4 (f1 q5 (g0_2 q1 q2 q3 q4 q5 p6)))) h0) 0 (by decide) (by decide) hml rfl (lenOf pd__JJ_J rfl) [] rfl rfl at_96 rfl fun _ T351 L351 X351 hQ351 => ?_
  obtain ⟨rfl, rfl, e351⟩ := hQ351
  have N351 := Fr.app N350 (Fr.nil n0)
  refine own_stk (S' := [(.long (f1 (f1 q1 q2) (f1 (g0_3 q1 q2 q3 q4 q5 p6) (f1 q4 (f1 q5 (g0_2 q1 q2 q3 q4 q5 p6))))))]) rfl ?_
  refine wlstore OGc 101 X351 B at_99 (LA0_97 q1 q2 q3 q4 q5 p6) rfl rfl ?_
  refine wbipush OGc 103 X351 B at_101 6 rfl rfl ?_
  refine wnewP OGc 105 X351 B hZ (ow hw 4 rfl) e351 at_103 6 (by decide) (by decide) rfl fun T352 h352 b352 k352 gb352 X352 e352 E352 A352 => ?_
  have ge_b352 : n0 ≤ b352 := by rw [gb352]; exact Nat.le_trans Z0 kc.1
  have sz_b352 : h0.size ≤ b352 := by rw [gb352]; exact kc.1
  have K353 := kc.ext E352
  have F354 : OA Z h352 b352 .int [(.int (0 : Int32)), (.int (0 : Int32)), (.int (0 : Int32)), (.int (0 : Int32)), (.int (0 : Int32)), (.int (0 : Int32))] := OA.new A352
  refine wdup OGc 106 X352 B at_105 rfl rfl ?_
  refine wiconst OGc 107 X352 B at_106 0 rfl rfl ?_
  refine wiconst OGc 108 X352 B at_107 2 rfl rfl ?_
  refine wstI OGc 109 X352 B hZ e352 F354 0 (by decide) (by decide) (by decide : 0 < 6) at_108 rfl fun T355 h355 X355 e355 W355 => ?_
  have N355 := Fr.snoc X355 N351 ge_b352
  have K356 := K353.wr W355 (Or.inr sz_b352)
  have F357 : OA Z h355 b352 .int [(.int (2 : Int32)), (.int (0 : Int32)), (.int (0 : Int32)), (.int (0 : Int32)), (.int (0 : Int32)), (.int (0 : Int32))] := (F354.set W355 (i := 0) (by decide))
  refine wdup OGc 110 X355 B at_109 rfl rfl ?_
  refine wiconst OGc 111 X355 B at_110 1 rfl rfl ?_
  refine wiconst OGc 112 X355 B at_111 0 rfl rfl ?_
  refine wstI OGc 113 X355 B hZ e355 F357 1 (by decide) (by decide) (by decide : 1 < 6) at_112 rfl fun T358 h358 X358 e358 W358 => ?_
  have N358 := Fr.snoc X358 N355 ge_b352
  have K359 := K356.wr W358 (Or.inr sz_b352)
  have F360 : OA Z h358 b352 .int [(.int (2 : Int32)), (.int (0 : Int32)), (.int (0 : Int32)), (.int (0 : Int32)), (.int (0 : Int32)), (.int (0 : Int32))] := (F357.set W358 (i := 1) (by decide))
  refine wdup OGc 114 X358 B at_113 rfl rfl ?_
  refine wiconst OGc 115 X358 B at_114 2 rfl rfl ?_
  refine wiconst OGc 116 X358 B at_115 5 rfl rfl ?_
  refine wstI OGc 117 X358 B hZ e358 F360 2 (by decide) (by decide) (by decide : 2 < 6) at_116 rfl fun T361 h361 X361 e361 W361 => ?_
  have N361 := Fr.snoc X361 N358 ge_b352
  have K362 := K359.wr W361 (Or.inr sz_b352)
  have F363 : OA Z h361 b352 .int [(.int (2 : Int32)), (.int (0 : Int32)), (.int (5 : Int32)), (.int (0 : Int32)), (.int (0 : Int32)), (.int (0 : Int32))] := (F360.set W361 (i := 2) (by decide))
  refine wdup OGc 118 X361 B at_117 rfl rfl ?_
  refine wiconst OGc 119 X361 B at_118 3 rfl rfl ?_
  refine wiconst OGc 120 X361 B at_119 1 rfl rfl ?_
  refine wstI OGc 121 X361 B hZ e361 F363 3 (by decide) (by decide) (by decide : 3 < 6) at_120 rfl fun T364 h364 X364 e364 W364 => ?_
  have N364 := Fr.snoc X364 N361 ge_b352
  have K365 := K362.wr W364 (Or.inr sz_b352)
  have F366 : OA Z h364 b352 .int [(.int (2 : Int32)), (.int (0 : Int32)), (.int (5 : Int32)), (.int (1 : Int32)), (.int (0 : Int32)), (.int (0 : Int32))] := (F363.set W364 (i := 3) (by decide))
  refine wdup OGc 122 X364 B at_121 rfl rfl ?_
  refine wiconst OGc 123 X364 B at_122 4 rfl rfl ?_
  refine wiconst OGc 124 X364 B at_123 3 rfl rfl ?_
  refine wstI OGc 125 X364 B hZ e364 F366 4 (by decide) (by decide) (by decide : 4 < 6) at_124 rfl fun T367 h367 X367 e367 W367 => ?_
  have N367 := Fr.snoc X367 N364 ge_b352
  have K368 := K365.wr W367 (Or.inr sz_b352)
  have F369 : OA Z h367 b352 .int [(.int (2 : Int32)), (.int (0 : Int32)), (.int (5 : Int32)), (.int (1 : Int32)), (.int (3 : Int32)), (.int (0 : Int32))] := (F366.set W367 (i := 4) (by decide))
  refine wdup OGc 126 X367 B at_125 rfl rfl ?_
  refine wiconst OGc 127 X367 B at_126 5 rfl rfl ?_
  refine wiconst OGc 128 X367 B at_127 4 rfl rfl ?_
  refine wstI OGc 129 X367 B hZ e367 F369 5 (by decide) (by decide) (by decide : 5 < 6) at_128 rfl fun T370 h370 X370 e370 W370 => ?_
  have N370 := Fr.snoc X370 N367 ge_b352
  have K371 := K368.wr W370 (Or.inr sz_b352)
  have F372 : OA Z h370 b352 .int [(.int (2 : Int32)), (.int (0 : Int32)), (.int (5 : Int32)), (.int (1 : Int32)), (.int (3 : Int32)), (.int (4 : Int32))] := (F369.set W370 (i := 5) (by decide))
  refine wastore OGc 131 X370 B at_129 (LA0_98 q1 q2 q3 q4 q5 p6 b352) rfl rfl rfl ?_
  refine wbipush OGc 133 X370 B at_131 6 rfl rfl ?_
  refine wnewP OGc 135 X370 B hZ (ow hw 5 rfl) e370 at_133 6 (by decide) (by decide) rfl fun T373 h373 b373 k373 gb373 X373 e373 E373 A373 => ?_
  have ge_b373 : n0 ≤ b373 := by rw [gb373]; exact Nat.le_trans Z0 K371.1
  have sz_b373 : h0.size ≤ b373 := by rw [gb373]; exact K371.1
  have ne_b352_b373 : b352 ≠ b373 := Nat.ne_of_lt (Nat.lt_of_lt_of_eq F372.lt gb373.symm)
  have F374 := F372.ext E373
  have K375 := K371.ext E373
  have F376 : OA Z h373 b373 .long [(.long (0 : Int64)), (.long (0 : Int64)), (.long (0 : Int64)), (.long (0 : Int64)), (.long (0 : Int64)), (.long (0 : Int64))] := OA.new A373
  refine wastore OGc 137 X373 B at_135 (LA0_99 q1 q2 q3 q4 q5 p6 b352 b373) rfl rfl rfl ?_
  refine waload OGc 139 X373 B at_137 rfl rfl rfl ?_
  refine wiconst OGc 140 X373 B at_139 2 rfl rfl ?_
  refine wlload OGc 142 X373 B at_140 rfl rfl ?_
  refine wstJ OGc 143 X373 B hZ e373 F376 2 (by decide) (by decide) (by decide : 2 < 6) at_142 rfl fun T377 h377 X377 e377 W377 => ?_
  have N377 := Fr.snoc X377 N370 ge_b373
  have K378 := K375.wr W377 (Or.inr sz_b373)
  have F379 := F374.other W377 ne_b352_b373
  have F380 : OA Z h377 b373 .long [(.long (0 : Int64)), (.long (0 : Int64)), (.long (g0_4 q1 q2 q3 q4 q5 p6)), (.long (0 : Int64)), (.long (0 : Int64)), (.long (0 : Int64))] := (F376.set W377 (i := 2) (by decide))
  refine waload OGc 145 X377 B at_143 rfl rfl rfl ?_
  refine wiconst OGc 146 X377 B at_145 0 rfl rfl ?_
  refine wlload OGc 148 X377 B at_146 rfl rfl ?_
  refine wstJ OGc 149 X377 B hZ e377 F380 0 (by decide) (by decide) (by decide : 0 < 6) at_148 rfl fun T381 h381 X381 e381 W381 => ?_
  have N381 := Fr.snoc X381 N377 ge_b373
  have K382 := K378.wr W381 (Or.inr sz_b373)
  have F383 := F379.other W381 ne_b352_b373
  have F384 : OA Z h381 b373 .long [(.long q2), (.long (0 : Int64)), (.long (g0_4 q1 q2 q3 q4 q5 p6)), (.long (0 : Int64)), (.long (0 : Int64)), (.long (0 : Int64))] := (F380.set W381 (i := 0) (by decide))
  refine waload OGc 151 X381 B at_149 rfl rfl rfl ?_
  refine wiconst OGc 152 X381 B at_151 5 rfl rfl ?_
  refine wlload OGc 154 X381 B at_152 rfl rfl ?_
  refine wstJ OGc 155 X381 B hZ e381 F384 5 (by decide) (by decide) (by decide : 5 < 6) at_154 rfl fun T385 h385 X385 e385 W385 => ?_
  have N385 := Fr.snoc X385 N381 ge_b373
  have K386 := K382.wr W385 (Or.inr sz_b373)
  have F387 := F383.other W385 ne_b352_b373
  have F388 : OA Z h385 b373 .long [(.long q2), (.long (0 : Int64)), (.long (g0_4 q1 q2 q3 q4 q5 p6)), (.long (0 : Int64)), (.long (0 : Int64)), (.long (g0_3 q1 q2 q3 q4 q5 p6))] := (F384.set W385 (i := 5) (by decide))
  refine waload OGc 157 X385 B at_155 rfl rfl rfl ?_
  refine wiconst OGc 158 X385 B at_157 1 rfl rfl ?_
  refine wlload OGc 160 X385 B at_158 rfl rfl ?_
  refine wstJ OGc 161 X385 B hZ e385 F388 1 (by decide) (by decide) (by decide : 1 < 6) at_160 rfl fun T389 h389 X389 e389 W389 => ?_
  have N389 := Fr.snoc X389 N385 ge_b373
  have K390 := K386.wr W389 (Or.inr sz_b373)
  have F391 := F387.other W389 ne_b352_b373
  have F392 : OA Z h389 b373 .long [(.long q2), (.long q4), (.long (g0_4 q1 q2 q3 q4 q5 p6)), (.long (0 : Int64)), (.long (0 : Int64)), (.long (g0_3 q1 q2 q3 q4 q5 p6))] := (F388.set W389 (i := 1) (by decide))
  refine waload OGc 163 X389 B at_161 rfl rfl rfl ?_
  refine wiconst OGc 164 X389 B at_163 3 rfl rfl ?_
  refine wlload OGc 166 X389 B at_164 rfl rfl ?_
  refine wstJ OGc 167 X389 B hZ e389 F392 3 (by decide) (by decide) (by decide : 3 < 6) at_166 rfl fun T393 h393 X393 e393 W393 => ?_
  have N393 := Fr.snoc X393 N389 ge_b373
  have K394 := K390.wr W393 (Or.inr sz_b373)
  have F395 := F391.other W393 ne_b352_b373
  have F396 : OA Z h393 b373 .long [(.long q2), (.long q4), (.long (g0_4 q1 q2 q3 q4 q5 p6)), (.long q5), (.long (0 : Int64)), (.long (g0_3 q1 q2 q3 q4 q5 p6))] := (F392.set W393 (i := 3) (by decide))
  refine waload OGc 169 X393 B at_167 rfl rfl rfl ?_
  refine wiconst OGc 170 X393 B at_169 4 rfl rfl ?_
  refine wlload OGc 172 X393 B at_170 rfl rfl ?_
  refine wstJ OGc 173 X393 B hZ e393 F396 4 (by decide) (by decide) (by decide : 4 < 6) at_172 rfl fun T397 h397 X397 e397 W397 => ?_
  have N397 := Fr.snoc X397 N393 ge_b373
  have K398 := K394.wr W397 (Or.inr sz_b373)
  have F399 := F395.other W397 ne_b352_b373
  have F400 : OA Z h397 b373 .long [(.long q2), (.long q4), (.long (g0_4 q1 q2 q3 q4 q5 p6)), (.long q5), (.long (g0_2 q1 q2 q3 q4 q5 p6)), (.long (g0_3 q1 q2 q3 q4 q5 p6))] := (F396.set W397 (i := 4) (by decide))
  refine waload OGc 175 X397 B at_173 rfl rfl rfl ?_
  refine waload OGc 177 X397 B at_175 rfl rfl rfl ?_
  refine wiload OGc 179 X397 B at_177 rfl rfl ?_
  refine wstat OGc 182 X397 B hZ hown (ow hw 6 rfl) (ow hw 7 rfl) (ow hw 9 rfl) (ow hw 8 rfl) e397 (rm2_1 l Z a0 hw [] b352 b373 q2 q4 (g0_4 q1 q2 q3 q4 q5 p6) q5 (g0_2 q1 q2 q3 q4 q5 p6) (g0_3 q1 q2 q3 q4 q5 p6) h397 n0 F399 F400 ge_b352 (Ne.symm ne_b352_b373)) 0 (by decide) (by decide) hml rfl (lenOf pd___I_JI_V rfl) [] rfl rfl at_179 rfl fun _ T401 L401 X401 hQ401 => ?_
  obtain ⟨rfl, N401q, K401q, hD401⟩ := hQ401
  have N401 := Fr.app N397 N401q
  have K401 := K398.trans K401q (own_all1 (Or.inr sz_b352))
  have F402 := F400.keep K401q (own_nin1 (Ne.symm ne_b352_b373))
  rcases hD401 with ⟨c403, c404, F405⟩ | ⟨c406, c407, F408⟩ | ⟨c409, c410, F411⟩ | ⟨c412, c413, F414⟩
  · skip
    refine own_stk (S' := []) rfl ?_
    exact tl0_12 l Z a0 hw q1 q2 q3 q4 q5 p6 h0 n0 Z0 p e s m below meth c hx hby hml hown hret hlk hZ b352 b373 T401 _ X401 N401 K401 ge_b352 ge_b373 sz_b352 sz_b373 ne_b352_b373 F402 F405 c1 c345 c403 c404
  · skip
    refine own_stk (S' := []) rfl ?_
    exact tl0_13 l Z a0 hw q1 q2 q3 q4 q5 p6 h0 n0 Z0 p e s m below meth c hx hby hml hown hret hlk hZ b352 b373 T401 _ X401 N401 K401 ge_b352 ge_b373 sz_b352 sz_b373 ne_b352_b373 F402 F408 c1 c345 c406 c407
  · skip
    refine own_stk (S' := []) rfl ?_
    exact tl0_14 l Z a0 hw q1 q2 q3 q4 q5 p6 h0 n0 Z0 p e s m below meth c hx hby hml hown hret hlk hZ b352 b373 T401 _ X401 N401 K401 ge_b352 ge_b373 sz_b352 sz_b373 ne_b352_b373 F402 F411 c1 c345 c409 c410
  · skip
    refine own_stk (S' := []) rfl ?_
    exact tl0_15 l Z a0 hw q1 q2 q3 q4 q5 p6 h0 n0 Z0 p e s m below meth c hx hby hml hown hret hlk hZ b352 b373 T401 _ X401 N401 K401 ge_b352 ge_b373 sz_b352 sz_b373 ne_b352_b373 F402 F414 c1 c345 c412 c413
set_option maxRecDepth 65536 in
set_option maxHeartbeats 40000000 in
theorem tl0_17 (l : Launch) (Z : State) (a0 : Array Value) (hw : ∀ d ∈ tables_1, d.before a0 Z = true) (q1 : Int64) (q2 : Int64) (q3 : Int64) (q4 : Int64) (q5 : Int64) (p6 : Int32) (h0 : Heap) (n0 : Nat) (Z0 : n0 ≤ h0.size) (p : Program) (e : Env) (s : State) (m : MethodId) (below : List Frame) (meth : Method) (c : Code) (hx : p.tables.exec = Jvm.exec) (hby : c.code = code) (hml : c.maxLocals = 46) (hown : s.vm.findClass "com/example/fragmark/fragmark/PhraseMatcherSiftDownPinLaw" = some m.cls) (hret : meth.sig.returnType = ret) (hlk : meth.locks = false) (hZ : Z.Warmed39 s.vm) (b536 : Addr) (b557 : Addr) (T585 : State) (locs : List Loc) (xc : Stand p l e room_1 s m #[(.long q1), (.long q2), (.long q3), (.long q4), (.long q5), (.int p6)] below meth c T585 locs 2 12)   (nc : Fr n0 locs) (kc : Keep h0 T585.heap []) (gc_b536 : n0 ≤ b536) (gc_b557 : n0 ≤ b557) (sc_b536 : h0.size ≤ b536) (sc_b557 : h0.size ≤ b557) (xc_b536_b557 : b536 ≠ b557) (fc0 : OA Z T585.heap b557 .long [(.long (f1 q2 (f1 q4 q5))), (.long q4), (.long (g0_5 q1 q2 q3 q4 q5 p6)), (.long q5), (.long (g0_2 q1 q2 q3 q4 q5 p6)), (.long q3)]) (fc1 : OA Z T585.heap b536 .int [(.int (2 : Int32)), (.int (0 : Int32)), (.int (4 : Int32)), (.int (1 : Int32)), (.int (3 : Int32)), (.int (5 : Int32))]) (c1 : ¬ ((g0_1 q1 q2 q3 q4 q5 p6) = (0 : Int32))) (c345 : ¬ ((g0_1 q1 q2 q3 q4 q5 p6) = (1 : Int32))) (c528 : (g0_1 q1 q2 q3 q4 q5 p6) = (2 : Int32)) (c587 : (g0_2 q1 q2 q3 q4 q5 p6) < q3) :
    OG p e room_1 s below (fun v h L => v = some (.int (f0 q1 q2 q3 q4 q5 p6)) ∧ Fr n0 L) T585 (mkF m 182 (LA0_149 q1 q2 q3 q4 q5 p6 b536 b557) []) := by
  have B := And.intro hx hby
  refine waload OGc 184 xc B at_182 rfl rfl rfl ?_
  refine wiconst OGc 185 xc B at_184 2 rfl rfl ?_
  refine wlaload OGc 186 xc B hZ rfl fc0 (v := (.long (g0_5 q1 q2 q3 q4 q5 p6))) 2 (by decide) (by decide) rfl at_185 rfl ?_
  refine wlload OGc 188 xc B at_186 rfl rfl ?_
  refine wlcmp OGc 189 xc B at_188 rfl ?_
  refine wifNo OGc 192 xc B at_189 (own_if0 (teq ((lw_eq _ _).mpr rfl)).2) rfl ?_
  refine waload OGc 194 xc B at_192 rfl rfl rfl ?_
  refine wiconst OGc 195 xc B at_194 0 rfl rfl ?_
  refine wlaload OGc 196 xc B hZ rfl fc0 (v := (.long (f1 q2 (f1 q4 q5)))) 0 (by decide) (by decide) rfl at_195 rfl ?_
  refine wlload OGc 198 xc B at_196 rfl rfl ?_
  refine wlcmp OGc 199 xc B at_198 rfl ?_
  refine wifNo OGc 202 xc B at_199 (own_if0 (teq ((lw_eq _ _).mpr rfl)).2) rfl ?_
  refine waload OGc 204 xc B at_202 rfl rfl rfl ?_
  refine wiconst OGc 205 xc B at_204 5 rfl rfl ?_
  refine wlaload OGc 206 xc B hZ rfl fc0 (v := (.long q3)) 5 (by decide) (by decide) rfl at_205 rfl ?_
  refine wlload OGc 208 xc B at_206 rfl rfl ?_
  refine wlcmp OGc 209 xc B at_208 rfl ?_
  refine wifNo OGc 212 xc B at_209 (own_if0 (teq ((lw_eq _ _).mpr rfl)).2) rfl ?_
  refine waload OGc 214 xc B at_212 rfl rfl rfl ?_
  refine wiconst OGc 215 xc B at_214 1 rfl rfl ?_
  refine wlaload OGc 216 xc B hZ rfl fc0 (v := (.long q4)) 1 (by decide) (by decide) rfl at_215 rfl ?_
  refine wlload OGc 218 xc B at_216 rfl rfl ?_
  refine wlcmp OGc 219 xc B at_218 rfl ?_
  refine wifNo OGc 222 xc B at_219 (own_if0 (teq ((lw_eq _ _).mpr rfl)).2) rfl ?_
  refine waload OGc 224 xc B at_222 rfl rfl rfl ?_
  refine wiconst OGc 225 xc B at_224 3 rfl rfl ?_
  refine wlaload OGc 226 xc B hZ rfl fc0 (v := (.long q5)) 3 (by decide) (by decide) rfl at_225 rfl ?_
  refine wlload OGc 228 xc B at_226 rfl rfl ?_
  refine wlcmp OGc 229 xc B at_228 rfl ?_
  refine wifNo OGc 232 xc B at_229 (own_if0 (teq ((lw_eq _ _).mpr rfl)).2) rfl ?_
  refine waload OGc 234 xc B at_232 rfl rfl rfl ?_
  refine wiconst OGc 235 xc B at_234 4 rfl rfl ?_
  refine wlaload OGc 236 xc B hZ rfl fc0 (v := (.long (g0_2 q1 q2 q3 q4 q5 p6))) 4 (by decide) (by decide) rfl at_235 rfl ?_
  refine wlload OGc 238 xc B at_236 rfl rfl ?_
  refine wlcmp OGc 239 xc B at_238 rfl ?_
  refine wifNo OGc 242 xc B at_239 (own_if0 (teq ((lw_eq _ _).mpr rfl)).2) rfl ?_
  refine wiconst OGc 243 xc B at_242 1 rfl rfl ?_
  refine wgoto OGc 247 xc B at_243 rfl ?_
  refine wistore OGc 249 xc B at_247 (LA0_150 q1 q2 q3 q4 q5 p6 b536 b557) rfl rfl ?_
  refine waload OGc 251 xc B at_249 rfl rfl rfl ?_
  refine wiconst OGc 252 xc B at_251 0 rfl rfl ?_
  refine wiaload OGc 253 xc B hZ rfl fc1 (v := (.int (2 : Int32))) 0 (by decide) (by decide) rfl at_252 rfl ?_
  refine wistore OGc 255 xc B at_253 (LA0_151 q1 q2 q3 q4 q5 p6 b536 b557) rfl rfl ?_
  refine waload OGc 257 xc B at_255 rfl rfl rfl ?_
  refine wiconst OGc 258 xc B at_257 1 rfl rfl ?_
  refine wiaload OGc 259 xc B hZ rfl fc1 (v := (.int (0 : Int32))) 1 (by decide) (by decide) rfl at_258 rfl ?_
  refine wistore OGc 261 xc B at_259 (LA0_152 q1 q2 q3 q4 q5 p6 b536 b557) rfl rfl ?_
  refine waload OGc 263 xc B at_261 rfl rfl rfl ?_
  refine wiconst OGc 264 xc B at_263 2 rfl rfl ?_
  refine wiaload OGc 265 xc B hZ rfl fc1 (v := (.int (4 : Int32))) 2 (by decide) (by decide) rfl at_264 rfl ?_
  refine wistore OGc 267 xc B at_265 (LA0_153 q1 q2 q3 q4 q5 p6 b536 b557) rfl rfl ?_
  refine waload OGc 269 xc B at_267 rfl rfl rfl ?_
  refine wiconst OGc 270 xc B at_269 3 rfl rfl ?_
  refine wiaload OGc 271 xc B hZ rfl fc1 (v := (.int (1 : Int32))) 3 (by decide) (by decide) rfl at_270 rfl ?_
  refine wistore OGc 273 xc B at_271 (LA0_154 q1 q2 q3 q4 q5 p6 b536 b557) rfl rfl ?_
  refine waload OGc 275 xc B at_273 rfl rfl rfl ?_
  refine wiconst OGc 276 xc B at_275 4 rfl rfl ?_
  refine wiaload OGc 277 xc B hZ rfl fc1 (v := (.int (3 : Int32))) 4 (by decide) (by decide) rfl at_276 rfl ?_
  refine wistore OGc 279 xc B at_277 (LA0_155 q1 q2 q3 q4 q5 p6 b536 b557) rfl rfl ?_
  refine waload OGc 281 xc B at_279 rfl rfl rfl ?_
  refine wiconst OGc 282 xc B at_281 5 rfl rfl ?_
  refine wiaload OGc 283 xc B hZ rfl fc1 (v := (.int (5 : Int32))) 5 (by decide) (by decide) rfl at_282 rfl ?_
  refine wistore OGc 285 xc B at_283 (LA0_156 q1 q2 q3 q4 q5 p6 b536 b557) rfl rfl ?_
  refine wiload OGc 287 xc B at_285 rfl rfl ?_
  refine wstat OGc 290 xc B hZ hown (ow hw 10 rfl) (ow hw 11 rfl) (ow hw 13 rfl) (ow hw 12 rfl) rfl (rm3 l Z a0 hw [] (2 : Int32) T585.heap) 0 (by decide) (by decide) hml rfl (lenOf pd__I_Z rfl) [] rfl rfl at_287 rfl fun _ T603 L603 X603 hQ603 => ?_
  obtain ⟨rfl, rfl, e603⟩ := hQ603
  have N603 := Fr.app nc (Fr.nil n0)
  refine own_stk (S' := [(.int (f3 (2 : Int32)))]) rfl ?_
  refine wifNo OGc 293 X603 B at_290 (own_if0 (feq (by decide)).1) rfl ?_
  refine wiload OGc 295 X603 B at_293 rfl rfl ?_
  refine wstat OGc 298 X603 B hZ hown (ow hw 10 rfl) (ow hw 11 rfl) (ow hw 13 rfl) (ow hw 12 rfl) e603 (rm3 l Z a0 hw [] (0 : Int32) T585.heap) 0 (by decide) (by decide) hml rfl (lenOf pd__I_Z rfl) [] rfl rfl at_295 rfl fun _ T604 L604 X604 hQ604 => ?_
  obtain ⟨rfl, rfl, e604⟩ := hQ604
  have N604 := Fr.app N603 (Fr.nil n0)
  refine own_stk (S' := [(.int (f3 (0 : Int32)))]) rfl ?_
  refine wifNo OGc 301 X604 B at_298 (own_if0 (feq (by decide)).1) rfl ?_
  refine wiload OGc 303 X604 B at_301 rfl rfl ?_
  refine wstat OGc 306 X604 B hZ hown (ow hw 10 rfl) (ow hw 11 rfl) (ow hw 13 rfl) (ow hw 12 rfl) e604 (rm3 l Z a0 hw [] (4 : Int32) T585.heap) 0 (by decide) (by decide) hml rfl (lenOf pd__I_Z rfl) [] rfl rfl at_303 rfl fun _ T605 L605 X605 hQ605 => ?_
  obtain ⟨rfl, rfl, e605⟩ := hQ605
  have N605 := Fr.app N604 (Fr.nil n0)
  refine own_stk (S' := [(.int (f3 (4 : Int32)))]) rfl ?_
  refine wifNo OGc 309 X605 B at_306 (own_if0 (feq (by decide)).1) rfl ?_
  refine wiload OGc 311 X605 B at_309 rfl rfl ?_
  refine wstat OGc 314 X605 B hZ hown (ow hw 10 rfl) (ow hw 11 rfl) (ow hw 13 rfl) (ow hw 12 rfl) e605 (rm3 l Z a0 hw [] (1 : Int32) T585.heap) 0 (by decide) (by decide) hml rfl (lenOf pd__I_Z rfl) [] rfl rfl at_311 rfl fun _ T606 L606 X606 hQ606 => ?_
  obtain ⟨rfl, rfl, e606⟩ := hQ606
  have N606 := Fr.app N605 (Fr.nil n0)
  refine own_stk (S' := [(.int (f3 (1 : Int32)))]) rfl ?_
  refine wifNo OGc 317 X606 B at_314 (own_if0 (feq (by decide)).1) rfl ?_
  refine wiload OGc 319 X606 B at_317 rfl rfl ?_
  refine wstat OGc 322 X606 B hZ hown (ow hw 10 rfl) (ow hw 11 rfl) (ow hw 13 rfl) (ow hw 12 rfl) e606 (rm3 l Z a0 hw [] (3 : Int32) T585.heap) 0 (by decide) (by decide) hml rfl (lenOf pd__I_Z rfl) [] rfl rfl at_319 rfl fun _ T607 L607 X607 hQ607 => ?_
  obtain ⟨rfl, rfl, e607⟩ := hQ607
  have N607 := Fr.app N606 (Fr.nil n0)
  refine own_stk (S' := [(.int (f3 (3 : Int32)))]) rfl ?_
  refine wifNo OGc 325 X607 B at_322 (own_if0 (feq (by decide)).1) rfl ?_
  refine wiload OGc 327 X607 B at_325 rfl rfl ?_
  refine wstat OGc 330 X607 B hZ hown (ow hw 10 rfl) (ow hw 11 rfl) (ow hw 13 rfl) (ow hw 12 rfl) e607 (rm3 l Z a0 hw [] (5 : Int32) T585.heap) 0 (by decide) (by decide) hml rfl (lenOf pd__I_Z rfl) [] rfl rfl at_327 rfl fun _ T608 L608 X608 hQ608 => ?_
  obtain ⟨rfl, rfl, e608⟩ := hQ608
  have N608 := Fr.app N607 (Fr.nil n0)
  refine own_stk (S' := [(.int (f3 (5 : Int32)))]) rfl ?_
  refine wifYes OGc 335 X608 B at_330 (own_if0 (feq (by decide)).2) rfl ?_
  refine wiconst OGc 336 X608 B at_335 1 rfl rfl ?_
  refine wiload OGc 338 X608 B at_336 rfl rfl ?_
  refine own_st (fun t k => XS.ishl X608.here hx rfl (hb hby at_338) rfl k) ?_
  show OG p e _ s below _ T608 (mkF m 339 (LA0_156 q1 q2 q3 q4 q5 p6 b536 b557) [(.int (4 : Int32))])
  refine wiconst OGc 340 X608 B at_339 1 rfl rfl ?_
  refine wiload OGc 342 X608 B at_340 rfl rfl ?_
  refine own_st (fun t k => XS.ishl X608.here hx rfl (hb hby at_342) rfl k) ?_
  show OG p e _ s below _ T608 (mkF m 343 (LA0_156 q1 q2 q3 q4 q5 p6 b536 b557) [(.int (1 : Int32)), (.int (4 : Int32))])
  refine own_st (fun t k => XS.ior X608.here hx rfl (hb hby at_343) rfl k) ?_
  show OG p e _ s below _ T608 (mkF m 344 (LA0_156 q1 q2 q3 q4 q5 p6 b536 b557) [(.int (5 : Int32))])
  refine wiconst OGc 345 X608 B at_344 1 rfl rfl ?_
  refine wiload OGc 347 X608 B at_345 rfl rfl ?_
  refine own_st (fun t k => XS.ishl X608.here hx rfl (hb hby at_347) rfl k) ?_
  show OG p e _ s below _ T608 (mkF m 348 (LA0_156 q1 q2 q3 q4 q5 p6 b536 b557) [(.int (16 : Int32)), (.int (5 : Int32))])
  refine own_st (fun t k => XS.ior X608.here hx rfl (hb hby at_348) rfl k) ?_
  show OG p e _ s below _ T608 (mkF m 349 (LA0_156 q1 q2 q3 q4 q5 p6 b536 b557) [(.int (21 : Int32))])
  refine wiconst OGc 350 X608 B at_349 1 rfl rfl ?_
  refine wiload OGc 352 X608 B at_350 rfl rfl ?_
  refine own_st (fun t k => XS.ishl X608.here hx rfl (hb hby at_352) rfl k) ?_
  show OG p e _ s below _ T608 (mkF m 353 (LA0_156 q1 q2 q3 q4 q5 p6 b536 b557) [(.int (2 : Int32)), (.int (21 : Int32))])
  refine own_st (fun t k => XS.ior X608.here hx rfl (hb hby at_353) rfl k) ?_
  show OG p e _ s below _ T608 (mkF m 354 (LA0_156 q1 q2 q3 q4 q5 p6 b536 b557) [(.int (23 : Int32))])
  refine wiconst OGc 355 X608 B at_354 1 rfl rfl ?_
  refine wiload OGc 357 X608 B at_355 rfl rfl ?_
  refine own_st (fun t k => XS.ishl X608.here hx rfl (hb hby at_357) rfl k) ?_
  show OG p e _ s below _ T608 (mkF m 358 (LA0_156 q1 q2 q3 q4 q5 p6 b536 b557) [(.int (8 : Int32)), (.int (23 : Int32))])
  refine own_st (fun t k => XS.ior X608.here hx rfl (hb hby at_358) rfl k) ?_
  show OG p e _ s below _ T608 (mkF m 359 (LA0_156 q1 q2 q3 q4 q5 p6 b536 b557) [(.int (31 : Int32))])
  refine wiconst OGc 360 X608 B at_359 1 rfl rfl ?_
  refine wiload OGc 362 X608 B at_360 rfl rfl ?_
  refine own_st (fun t k => XS.ishl X608.here hx rfl (hb hby at_362) rfl k) ?_
  show OG p e _ s below _ T608 (mkF m 363 (LA0_156 q1 q2 q3 q4 q5 p6 b536 b557) [(.int (32 : Int32)), (.int (31 : Int32))])
  refine own_st (fun t k => XS.ior X608.here hx rfl (hb hby at_363) rfl k) ?_
  show OG p e _ s below _ T608 (mkF m 364 (LA0_156 q1 q2 q3 q4 q5 p6 b536 b557) [(.int (63 : Int32))])
  refine wistore OGc 366 X608 B at_364 (LA0_157 q1 q2 q3 q4 q5 p6 b536 b557) rfl rfl ?_
  refine wiload OGc 368 X608 B at_366 rfl rfl ?_
  refine wifNo OGc 371 X608 B at_368 (by decide) rfl ?_
  refine wiload OGc 373 X608 B at_371 rfl rfl ?_
  refine wbipush OGc 375 X608 B at_373 63 rfl rfl ?_
  refine wicmpNo OGc 378 X608 B at_375 (by decide) rfl ?_
  refine wiconst OGc 379 X608 B at_378 1 rfl rfl ?_
  refine wgoto OGc 383 X608 B at_379 rfl ?_
  refine wistore OGc 385 X608 B at_383 (LA0_157 q1 q2 q3 q4 q5 p6 b536 b557) rfl rfl ?_
  refine waload OGc 387 X608 B at_385 rfl rfl rfl ?_
  refine wiload OGc 389 X608 B at_387 rfl rfl ?_
  refine wlaload OGc 390 X608 B hZ e608 fc0 (v := (.long (g0_5 q1 q2 q3 q4 q5 p6))) 2 (by decide) (by decide) rfl at_389 rfl ?_
  refine wlstore OGc 392 X608 B at_390 (LA0_158 q1 q2 q3 q4 q5 p6 b536 b557) rfl rfl ?_
  refine waload OGc 394 X608 B at_392 rfl rfl rfl ?_
  refine wiload OGc 396 X608 B at_394 rfl rfl ?_
  refine wlaload OGc 397 X608 B hZ e608 fc0 (v := (.long (f1 q2 (f1 q4 q5)))) 0 (by decide) (by decide) rfl at_396 rfl ?_
  refine wlstore OGc 399 X608 B at_397 (LA0_159 q1 q2 q3 q4 q5 p6 b536 b557) rfl rfl ?_
  refine waload OGc 401 X608 B at_399 rfl rfl rfl ?_
  refine wiload OGc 403 X608 B at_401 rfl rfl ?_
  refine wlaload OGc 404 X608 B hZ e608 fc0 (v := (.long (g0_2 q1 q2 q3 q4 q5 p6))) 4 (by decide) (by decide) rfl at_403 rfl ?_
  refine wlstore OGc 406 X608 B at_404 (LA0_160 q1 q2 q3 q4 q5 p6 b536 b557) rfl rfl ?_
  refine waload OGc 408 X608 B at_406 rfl rfl rfl ?_
  refine wiload OGc 410 X608 B at_408 rfl rfl ?_
  refine wlaload OGc 411 X608 B hZ e608 fc0 (v := (.long q4)) 1 (by decide) (by decide) rfl at_410 rfl ?_
  refine wlstore OGc 413 X608 B at_411 (LA0_161 q1 q2 q3 q4 q5 p6 b536 b557) rfl rfl ?_
  refine waload OGc 415 X608 B at_413 rfl rfl rfl ?_
  refine wiload OGc 417 X608 B at_415 rfl rfl ?_
  refine wlaload OGc 418 X608 B hZ e608 fc0 (v := (.long q5)) 3 (by decide) (by decide) rfl at_417 rfl ?_
  refine wlstore OGc 420 X608 B at_418 (LA0_162 q1 q2 q3 q4 q5 p6 b536 b557) rfl rfl ?_
  refine waload OGc 422 X608 B at_420 rfl rfl rfl ?_
  refine wiload OGc 424 X608 B at_422 rfl rfl ?_
  refine wlaload OGc 425 X608 B hZ e608 fc0 (v := (.long q3)) 5 (by decide) (by decide) rfl at_424 rfl ?_
  refine wlstore OGc 427 X608 B at_425 (LA0_163 q1 q2 q3 q4 q5 p6 b536 b557) rfl rfl ?_
  refine wiload OGc 429 X608 B at_427 rfl rfl ?_
  refine wifNo OGc 432 X608 B at_429 (by decide) rfl ?_
  refine wlload OGc 434 X608 B at_432 rfl rfl ?_
  refine wlload OGc 436 X608 B at_434 rfl rfl ?_
  refine wlcmp OGc 437 X608 B at_436 rfl ?_
  by_cases c615 : (f1 q2 (f1 q4 q5)) < (g0_5 q1 q2 q3 q4 q5 p6)
  · refine wifYes OGc 476 X608 B at_437 (own_if0 (tlt ((lw_gt _ _).mpr c615)).2.2.1) rfl ?_
    refine wiconst OGc 477 X608 B at_476 0 rfl rfl ?_
    refine wistore OGc 479 X608 B at_477 (LA0_164 q1 q2 q3 q4 q5 p6 b536 b557) rfl rfl ?_
    refine wiload OGc 481 X608 B at_479 rfl rfl ?_
    refine wiconst OGc 482 X608 B at_481 1 rfl rfl ?_
    refine wicmpYes OGc 518 X608 B at_482 (by decide) rfl ?_
    refine wiload OGc 520 X608 B at_518 rfl rfl ?_
    refine wiconst OGc 521 X608 B at_520 2 rfl rfl ?_
    refine wicmpNo OGc 524 X608 B at_521 (by decide) rfl ?_
    refine wiload OGc 526 X608 B at_524 rfl rfl ?_
    refine wifYes OGc 556 X608 B at_526 (by decide) rfl ?_
    refine wiconst OGc 557 X608 B at_556 0 rfl rfl ?_
    refine wistore OGc 559 X608 B at_557 (LA0_164 q1 q2 q3 q4 q5 p6 b536 b557) rfl rfl ?_
    refine wgoto OGc 615 X608 B at_559 rfl ?_
    refine wiload OGc 617 X608 B at_615 rfl rfl ?_
    refine own_retZ X608 hx (t := .boolean) hret (by simp) hlk (hb hby at_617) (by decide) (by decide) (w := (0 : Int32)) rfl ?_
    exact ⟨congrArg (fun z => some (Value.int z)) (show f0 q1 q2 q3 q4 q5 p6 = (0 : Int32) from (by rw [f0, if_neg c1, if_neg c345, if_pos c528, if_pos c587, if_pos c615])).symm, N608⟩
  · refine wifNo OGc 440 X608 B at_437 (own_if0 (flt (fun q => c615 ((lw_gt _ _).mp q))).2.2.1) rfl ?_
    refine wlload OGc 442 X608 B at_440 rfl rfl ?_
    refine wlload OGc 444 X608 B at_442 rfl rfl ?_
    refine wlcmp OGc 445 X608 B at_444 rfl ?_
    by_cases c616 : (g0_2 q1 q2 q3 q4 q5 p6) < (g0_5 q1 q2 q3 q4 q5 p6)
    · refine wifYes OGc 476 X608 B at_445 (own_if0 (tlt ((lw_gt _ _).mpr c616)).2.2.1) rfl ?_
      refine wiconst OGc 477 X608 B at_476 0 rfl rfl ?_
      refine wistore OGc 479 X608 B at_477 (LA0_164 q1 q2 q3 q4 q5 p6 b536 b557) rfl rfl ?_
      refine wiload OGc 481 X608 B at_479 rfl rfl ?_
      refine wiconst OGc 482 X608 B at_481 1 rfl rfl ?_
      refine wicmpYes OGc 518 X608 B at_482 (by decide) rfl ?_
      refine wiload OGc 520 X608 B at_518 rfl rfl ?_
      refine wiconst OGc 521 X608 B at_520 2 rfl rfl ?_
      refine wicmpNo OGc 524 X608 B at_521 (by decide) rfl ?_
      refine wiload OGc 526 X608 B at_524 rfl rfl ?_
      refine wifYes OGc 556 X608 B at_526 (by decide) rfl ?_
      refine wiconst OGc 557 X608 B at_556 0 rfl rfl ?_
      refine wistore OGc 559 X608 B at_557 (LA0_164 q1 q2 q3 q4 q5 p6 b536 b557) rfl rfl ?_
      refine wgoto OGc 615 X608 B at_559 rfl ?_
      refine wiload OGc 617 X608 B at_615 rfl rfl ?_
      refine own_retZ X608 hx (t := .boolean) hret (by simp) hlk (hb hby at_617) (by decide) (by decide) (w := (0 : Int32)) rfl ?_
      exact ⟨congrArg (fun z => some (Value.int z)) (show f0 q1 q2 q3 q4 q5 p6 = (0 : Int32) from (by rw [f0, if_neg c1, if_neg c345, if_pos c528, if_pos c587, if_neg c615, if_pos c616])).symm, N608⟩
    · refine wifNo OGc 448 X608 B at_445 (own_if0 (flt (fun q => c616 ((lw_gt _ _).mp q))).2.2.1) rfl ?_
      refine wlload OGc 450 X608 B at_448 rfl rfl ?_
      refine wlload OGc 452 X608 B at_450 rfl rfl ?_
      refine wlcmp OGc 453 X608 B at_452 rfl ?_
      by_cases c617 : q4 < (f1 q2 (f1 q4 q5))
      · refine wifYes OGc 476 X608 B at_453 (own_if0 (tlt ((lw_gt _ _).mpr c617)).2.2.1) rfl ?_
        refine wiconst OGc 477 X608 B at_476 0 rfl rfl ?_
        refine wistore OGc 479 X608 B at_477 (LA0_164 q1 q2 q3 q4 q5 p6 b536 b557) rfl rfl ?_
        refine wiload OGc 481 X608 B at_479 rfl rfl ?_
        refine wiconst OGc 482 X608 B at_481 1 rfl rfl ?_
        refine wicmpYes OGc 518 X608 B at_482 (by decide) rfl ?_
        refine wiload OGc 520 X608 B at_518 rfl rfl ?_
        refine wiconst OGc 521 X608 B at_520 2 rfl rfl ?_
        refine wicmpNo OGc 524 X608 B at_521 (by decide) rfl ?_
        refine wiload OGc 526 X608 B at_524 rfl rfl ?_
        refine wifYes OGc 556 X608 B at_526 (by decide) rfl ?_
        refine wiconst OGc 557 X608 B at_556 0 rfl rfl ?_
        refine wistore OGc 559 X608 B at_557 (LA0_164 q1 q2 q3 q4 q5 p6 b536 b557) rfl rfl ?_
        refine wgoto OGc 615 X608 B at_559 rfl ?_
        refine wiload OGc 617 X608 B at_615 rfl rfl ?_
        refine own_retZ X608 hx (t := .boolean) hret (by simp) hlk (hb hby at_617) (by decide) (by decide) (w := (0 : Int32)) rfl ?_
        exact ⟨congrArg (fun z => some (Value.int z)) (show f0 q1 q2 q3 q4 q5 p6 = (0 : Int32) from (by rw [f0, if_neg c1, if_neg c345, if_pos c528, if_pos c587, if_neg c615, if_neg c616, if_pos c617])).symm, N608⟩
      · refine wifNo OGc 456 X608 B at_453 (own_if0 (flt (fun q => c617 ((lw_gt _ _).mp q))).2.2.1) rfl ?_
        refine wlload OGc 458 X608 B at_456 rfl rfl ?_
        refine wlload OGc 460 X608 B at_458 rfl rfl ?_
        refine wlcmp OGc 461 X608 B at_460 rfl ?_
        by_cases c618 : q5 < (f1 q2 (f1 q4 q5))
        · refine wifYes OGc 476 X608 B at_461 (own_if0 (tlt ((lw_gt _ _).mpr c618)).2.2.1) rfl ?_
          refine wiconst OGc 477 X608 B at_476 0 rfl rfl ?_
          refine wistore OGc 479 X608 B at_477 (LA0_164 q1 q2 q3 q4 q5 p6 b536 b557) rfl rfl ?_
          refine wiload OGc 481 X608 B at_479 rfl rfl ?_
          refine wiconst OGc 482 X608 B at_481 1 rfl rfl ?_
          refine wicmpYes OGc 518 X608 B at_482 (by decide) rfl ?_
          refine wiload OGc 520 X608 B at_518 rfl rfl ?_
          refine wiconst OGc 521 X608 B at_520 2 rfl rfl ?_
          refine wicmpNo OGc 524 X608 B at_521 (by decide) rfl ?_
          refine wiload OGc 526 X608 B at_524 rfl rfl ?_
          refine wifYes OGc 556 X608 B at_526 (by decide) rfl ?_
          refine wiconst OGc 557 X608 B at_556 0 rfl rfl ?_
          refine wistore OGc 559 X608 B at_557 (LA0_164 q1 q2 q3 q4 q5 p6 b536 b557) rfl rfl ?_
          refine wgoto OGc 615 X608 B at_559 rfl ?_
          refine wiload OGc 617 X608 B at_615 rfl rfl ?_
          refine own_retZ X608 hx (t := .boolean) hret (by simp) hlk (hb hby at_617) (by decide) (by decide) (w := (0 : Int32)) rfl ?_
          exact ⟨congrArg (fun z => some (Value.int z)) (show f0 q1 q2 q3 q4 q5 p6 = (0 : Int32) from (by rw [f0, if_neg c1, if_neg c345, if_pos c528, if_pos c587, if_neg c615, if_neg c616, if_neg c617, if_pos c618])).symm, N608⟩
        · refine wifNo OGc 464 X608 B at_461 (own_if0 (flt (fun q => c618 ((lw_gt _ _).mp q))).2.2.1) rfl ?_
          refine wlload OGc 466 X608 B at_464 rfl rfl ?_
          refine wlload OGc 468 X608 B at_466 rfl rfl ?_
          refine wlcmp OGc 469 X608 B at_468 rfl ?_
          by_cases c619 : q3 < (g0_2 q1 q2 q3 q4 q5 p6)
          · refine wifYes OGc 476 X608 B at_469 (own_if0 (tlt ((lw_gt _ _).mpr c619)).2.2.1) rfl ?_
            refine wiconst OGc 477 X608 B at_476 0 rfl rfl ?_
            refine wistore OGc 479 X608 B at_477 (LA0_164 q1 q2 q3 q4 q5 p6 b536 b557) rfl rfl ?_
            refine wiload OGc 481 X608 B at_479 rfl rfl ?_
            refine wiconst OGc 482 X608 B at_481 1 rfl rfl ?_
            refine wicmpYes OGc 518 X608 B at_482 (by decide) rfl ?_
            refine wiload OGc 520 X608 B at_518 rfl rfl ?_
            refine wiconst OGc 521 X608 B at_520 2 rfl rfl ?_
            refine wicmpNo OGc 524 X608 B at_521 (by decide) rfl ?_
            refine wiload OGc 526 X608 B at_524 rfl rfl ?_
            refine wifYes OGc 556 X608 B at_526 (by decide) rfl ?_
            refine wiconst OGc 557 X608 B at_556 0 rfl rfl ?_
            refine wistore OGc 559 X608 B at_557 (LA0_164 q1 q2 q3 q4 q5 p6 b536 b557) rfl rfl ?_
            refine wgoto OGc 615 X608 B at_559 rfl ?_
            refine wiload OGc 617 X608 B at_615 rfl rfl ?_
            refine own_retZ X608 hx (t := .boolean) hret (by simp) hlk (hb hby at_617) (by decide) (by decide) (w := (0 : Int32)) rfl ?_
            exact ⟨congrArg (fun z => some (Value.int z)) (show f0 q1 q2 q3 q4 q5 p6 = (0 : Int32) from (by rw [f0, if_neg c1, if_neg c345, if_pos c528, if_pos c587, if_neg c615, if_neg c616, if_neg c617, if_neg c618, if_pos c619])).symm, N608⟩
          · refine wifNo OGc 472 X608 B at_469 (own_if0 (flt (fun q => c619 ((lw_gt _ _).mp q))).2.2.1) rfl ?_
            refine wiconst OGc 473 X608 B at_472 1 rfl rfl ?_
            refine wgoto OGc 477 X608 B at_473 rfl ?_
            refine wistore OGc 479 X608 B at_477 (LA0_163 q1 q2 q3 q4 q5 p6 b536 b557) rfl rfl ?_
            refine wiload OGc 481 X608 B at_479 rfl rfl ?_
            refine wiconst OGc 482 X608 B at_481 1 rfl rfl ?_
            refine wicmpYes OGc 518 X608 B at_482 (by decide) rfl ?_
            refine wiload OGc 520 X608 B at_518 rfl rfl ?_
            refine wiconst OGc 521 X608 B at_520 2 rfl rfl ?_
            refine wicmpNo OGc 524 X608 B at_521 (by decide) rfl ?_
            refine wiload OGc 526 X608 B at_524 rfl rfl ?_
            refine wifNo OGc 529 X608 B at_526 (by decide) rfl ?_
            refine wiload OGc 531 X608 B at_529 rfl rfl ?_
            refine wiconst OGc 532 X608 B at_531 2 rfl rfl ?_
            refine wicmpNo OGc 535 X608 B at_532 (by decide) rfl ?_
            refine wiload OGc 537 X608 B at_535 rfl rfl ?_
            refine wifNo OGc 540 X608 B at_537 (by decide) rfl ?_
            refine wiload OGc 542 X608 B at_540 rfl rfl ?_
            refine wiconst OGc 543 X608 B at_542 1 rfl rfl ?_
            refine wicmpNo OGc 546 X608 B at_543 (by decide) rfl ?_
            refine wiload OGc 548 X608 B at_546 rfl rfl ?_
            refine wiconst OGc 549 X608 B at_548 3 rfl rfl ?_
            refine wicmpNo OGc 552 X608 B at_549 (by decide) rfl ?_
            refine wiconst OGc 553 X608 B at_552 1 rfl rfl ?_
            refine wgoto OGc 557 X608 B at_553 rfl ?_
            refine wistore OGc 559 X608 B at_557 (LA0_163 q1 q2 q3 q4 q5 p6 b536 b557) rfl rfl ?_
            refine wgoto OGc 615 X608 B at_559 rfl ?_
            refine wiload OGc 617 X608 B at_615 rfl rfl ?_
            refine own_retZ X608 hx (t := .boolean) hret (by simp) hlk (hb hby at_617) (by decide) (by decide) (w := (1 : Int32)) rfl ?_
            exact ⟨congrArg (fun z => some (Value.int z)) (show f0 q1 q2 q3 q4 q5 p6 = (1 : Int32) from (by rw [f0, if_neg c1, if_neg c345, if_pos c528, if_pos c587, if_neg c615, if_neg c616, if_neg c617, if_neg c618, if_neg c619])).symm, N608⟩
set_option maxRecDepth 65536 in
set_option maxHeartbeats 40000000 in
theorem tl0_18 (l : Launch) (Z : State) (a0 : Array Value) (hw : ∀ d ∈ tables_1, d.before a0 Z = true) (q1 : Int64) (q2 : Int64) (q3 : Int64) (q4 : Int64) (q5 : Int64) (p6 : Int32) (h0 : Heap) (n0 : Nat) (Z0 : n0 ≤ h0.size) (p : Program) (e : Env) (s : State) (m : MethodId) (below : List Frame) (meth : Method) (c : Code) (hx : p.tables.exec = Jvm.exec) (hby : c.code = code) (hml : c.maxLocals = 46) (hown : s.vm.findClass "com/example/fragmark/fragmark/PhraseMatcherSiftDownPinLaw" = some m.cls) (hret : meth.sig.returnType = ret) (hlk : meth.locks = false) (hZ : Z.Warmed39 s.vm) (b536 : Addr) (b557 : Addr) (T585 : State) (locs : List Loc) (xc : Stand p l e room_1 s m #[(.long q1), (.long q2), (.long q3), (.long q4), (.long q5), (.int p6)] below meth c T585 locs 2 12)   (nc : Fr n0 locs) (kc : Keep h0 T585.heap []) (gc_b536 : n0 ≤ b536) (gc_b557 : n0 ≤ b557) (sc_b536 : h0.size ≤ b536) (sc_b557 : h0.size ≤ b557) (xc_b536_b557 : b536 ≠ b557) (fc0 : OA Z T585.heap b557 .long [(.long (f1 q2 (f1 q4 q5))), (.long q4), (.long (g0_5 q1 q2 q3 q4 q5 p6)), (.long q5), (.long (g0_2 q1 q2 q3 q4 q5 p6)), (.long q3)]) (fc1 : OA Z T585.heap b536 .int [(.int (2 : Int32)), (.int (0 : Int32)), (.int (5 : Int32)), (.int (1 : Int32)), (.int (3 : Int32)), (.int (4 : Int32))]) (c1 : ¬ ((g0_1 q1 q2 q3 q4 q5 p6) = (0 : Int32))) (c345 : ¬ ((g0_1 q1 q2 q3 q4 q5 p6) = (1 : Int32))) (c528 : (g0_1 q1 q2 q3 q4 q5 p6) = (2 : Int32)) (c589 : ¬ ((g0_2 q1 q2 q3 q4 q5 p6) < q3)) :
    OG p e room_1 s below (fun v h L => v = some (.int (f0 q1 q2 q3 q4 q5 p6)) ∧ Fr n0 L) T585 (mkF m 182 (LA0_149 q1 q2 q3 q4 q5 p6 b536 b557) []) := by
  have B := And.intro hx hby
  refine waload OGc 184 xc B at_182 rfl rfl rfl ?_
  refine wiconst OGc 185 xc B at_184 2 rfl rfl ?_
  refine wlaload OGc 186 xc B hZ rfl fc0 (v := (.long (g0_5 q1 q2 q3 q4 q5 p6))) 2 (by decide) (by decide) rfl at_185 rfl ?_
  refine wlload OGc 188 xc B at_186 rfl rfl ?_
  refine wlcmp OGc 189 xc B at_188 rfl ?_
  refine wifNo OGc 192 xc B at_189 (own_if0 (teq ((lw_eq _ _).mpr rfl)).2) rfl ?_
  refine waload OGc 194 xc B at_192 rfl rfl rfl ?_
  refine wiconst OGc 195 xc B at_194 0 rfl rfl ?_
  refine wlaload OGc 196 xc B hZ rfl fc0 (v := (.long (f1 q2 (f1 q4 q5)))) 0 (by decide) (by decide) rfl at_195 rfl ?_
  refine wlload OGc 198 xc B at_196 rfl rfl ?_
  refine wlcmp OGc 199 xc B at_198 rfl ?_
  refine wifNo OGc 202 xc B at_199 (own_if0 (teq ((lw_eq _ _).mpr rfl)).2) rfl ?_
  refine waload OGc 204 xc B at_202 rfl rfl rfl ?_
  refine wiconst OGc 205 xc B at_204 5 rfl rfl ?_
  refine wlaload OGc 206 xc B hZ rfl fc0 (v := (.long q3)) 5 (by decide) (by decide) rfl at_205 rfl ?_
  refine wlload OGc 208 xc B at_206 rfl rfl ?_
  refine wlcmp OGc 209 xc B at_208 rfl ?_
  refine wifNo OGc 212 xc B at_209 (own_if0 (teq ((lw_eq _ _).mpr rfl)).2) rfl ?_
  refine waload OGc 214 xc B at_212 rfl rfl rfl ?_
  refine wiconst OGc 215 xc B at_214 1 rfl rfl ?_
  refine wlaload OGc 216 xc B hZ rfl fc0 (v := (.long q4)) 1 (by decide) (by decide) rfl at_215 rfl ?_
  refine wlload OGc 218 xc B at_216 rfl rfl ?_
  refine wlcmp OGc 219 xc B at_218 rfl ?_
  refine wifNo OGc 222 xc B at_219 (own_if0 (teq ((lw_eq _ _).mpr rfl)).2) rfl ?_
  refine waload OGc 224 xc B at_222 rfl rfl rfl ?_
  refine wiconst OGc 225 xc B at_224 3 rfl rfl ?_
  refine wlaload OGc 226 xc B hZ rfl fc0 (v := (.long q5)) 3 (by decide) (by decide) rfl at_225 rfl ?_
  refine wlload OGc 228 xc B at_226 rfl rfl ?_
  refine wlcmp OGc 229 xc B at_228 rfl ?_
  refine wifNo OGc 232 xc B at_229 (own_if0 (teq ((lw_eq _ _).mpr rfl)).2) rfl ?_
  refine waload OGc 234 xc B at_232 rfl rfl rfl ?_
  refine wiconst OGc 235 xc B at_234 4 rfl rfl ?_
  refine wlaload OGc 236 xc B hZ rfl fc0 (v := (.long (g0_2 q1 q2 q3 q4 q5 p6))) 4 (by decide) (by decide) rfl at_235 rfl ?_
  refine wlload OGc 238 xc B at_236 rfl rfl ?_
  refine wlcmp OGc 239 xc B at_238 rfl ?_
  refine wifNo OGc 242 xc B at_239 (own_if0 (teq ((lw_eq _ _).mpr rfl)).2) rfl ?_
  refine wiconst OGc 243 xc B at_242 1 rfl rfl ?_
  refine wgoto OGc 247 xc B at_243 rfl ?_
  refine wistore OGc 249 xc B at_247 (LA0_150 q1 q2 q3 q4 q5 p6 b536 b557) rfl rfl ?_
  refine waload OGc 251 xc B at_249 rfl rfl rfl ?_
  refine wiconst OGc 252 xc B at_251 0 rfl rfl ?_
  refine wiaload OGc 253 xc B hZ rfl fc1 (v := (.int (2 : Int32))) 0 (by decide) (by decide) rfl at_252 rfl ?_
  refine wistore OGc 255 xc B at_253 (LA0_151 q1 q2 q3 q4 q5 p6 b536 b557) rfl rfl ?_
  refine waload OGc 257 xc B at_255 rfl rfl rfl ?_
  refine wiconst OGc 258 xc B at_257 1 rfl rfl ?_
  refine wiaload OGc 259 xc B hZ rfl fc1 (v := (.int (0 : Int32))) 1 (by decide) (by decide) rfl at_258 rfl ?_
  refine wistore OGc 261 xc B at_259 (LA0_152 q1 q2 q3 q4 q5 p6 b536 b557) rfl rfl ?_
  refine waload OGc 263 xc B at_261 rfl rfl rfl ?_
  refine wiconst OGc 264 xc B at_263 2 rfl rfl ?_
  refine wiaload OGc 265 xc B hZ rfl fc1 (v := (.int (5 : Int32))) 2 (by decide) (by decide) rfl at_264 rfl ?_
  refine wistore OGc 267 xc B at_265 (LA0_165 q1 q2 q3 q4 q5 p6 b536 b557) rfl rfl ?_
  refine waload OGc 269 xc B at_267 rfl rfl rfl ?_
  refine wiconst OGc 270 xc B at_269 3 rfl rfl ?_
  refine wiaload OGc 271 xc B hZ rfl fc1 (v := (.int (1 : Int32))) 3 (by decide) (by decide) rfl at_270 rfl ?_
  refine wistore OGc 273 xc B at_271 (LA0_166 q1 q2 q3 q4 q5 p6 b536 b557) rfl rfl ?_
  refine waload OGc 275 xc B at_273 rfl rfl rfl ?_
  refine wiconst OGc 276 xc B at_275 4 rfl rfl ?_
  refine wiaload OGc 277 xc B hZ rfl fc1 (v := (.int (3 : Int32))) 4 (by decide) (by decide) rfl at_276 rfl ?_
  refine wistore OGc 279 xc B at_277 (LA0_167 q1 q2 q3 q4 q5 p6 b536 b557) rfl rfl ?_
  refine waload OGc 281 xc B at_279 rfl rfl rfl ?_
  refine wiconst OGc 282 xc B at_281 5 rfl rfl ?_
  refine wiaload OGc 283 xc B hZ rfl fc1 (v := (.int (4 : Int32))) 5 (by decide) (by decide) rfl at_282 rfl ?_
  refine wistore OGc 285 xc B at_283 (LA0_168 q1 q2 q3 q4 q5 p6 b536 b557) rfl rfl ?_
  refine wiload OGc 287 xc B at_285 rfl rfl ?_
  refine wstat OGc 290 xc B hZ hown (ow hw 10 rfl) (ow hw 11 rfl) (ow hw 13 rfl) (ow hw 12 rfl) rfl (rm3 l Z a0 hw [] (2 : Int32) T585.heap) 0 (by decide) (by decide) hml rfl (lenOf pd__I_Z rfl) [] rfl rfl at_287 rfl fun _ T632 L632 X632 hQ632 => ?_
  obtain ⟨rfl, rfl, e632⟩ := hQ632
  have N632 := Fr.app nc (Fr.nil n0)
  refine own_stk (S' := [(.int (f3 (2 : Int32)))]) rfl ?_
  refine wifNo OGc 293 X632 B at_290 (own_if0 (feq (by decide)).1) rfl ?_
  refine wiload OGc 295 X632 B at_293 rfl rfl ?_
  refine wstat OGc 298 X632 B hZ hown (ow hw 10 rfl) (ow hw 11 rfl) (ow hw 13 rfl) (ow hw 12 rfl) e632 (rm3 l Z a0 hw [] (0 : Int32) T585.heap) 0 (by decide) (by decide) hml rfl (lenOf pd__I_Z rfl) [] rfl rfl at_295 rfl fun _ T633 L633 X633 hQ633 => ?_
  obtain ⟨rfl, rfl, e633⟩ := hQ633
  have N633 := Fr.app N632 (Fr.nil n0)
  refine own_stk (S' := [(.int (f3 (0 : Int32)))]) rfl ?_
  refine wifNo OGc 301 X633 B at_298 (own_if0 (feq (by decide)).1) rfl ?_
  refine wiload OGc 303 X633 B at_301 rfl rfl ?_
  refine wstat OGc 306 X633 B hZ hown (ow hw 10 rfl) (ow hw 11 rfl) (ow hw 13 rfl) (ow hw 12 rfl) e633 (rm3 l Z a0 hw [] (5 : Int32) T585.heap) 0 (by decide) (by decide) hml rfl (lenOf pd__I_Z rfl) [] rfl rfl at_303 rfl fun _ T634 L634 X634 hQ634 => ?_
  obtain ⟨rfl, rfl, e634⟩ := hQ634
  have N634 := Fr.app N633 (Fr.nil n0)
  refine own_stk (S' := [(.int (f3 (5 : Int32)))]) rfl ?_
  refine wifNo OGc 309 X634 B at_306 (own_if0 (feq (by decide)).1) rfl ?_
  refine wiload OGc 311 X634 B at_309 rfl rfl ?_
  refine wstat OGc 314 X634 B hZ hown (ow hw 10 rfl) (ow hw 11 rfl) (ow hw 13 rfl) (ow hw 12 rfl) e634 (rm3 l Z a0 hw [] (1 : Int32) T585.heap) 0 (by decide) (by decide) hml rfl (lenOf pd__I_Z rfl) [] rfl rfl at_311 rfl fun _ T635 L635 X635 hQ635 => ?_
  obtain ⟨rfl, rfl, e635⟩ := hQ635
  have N635 := Fr.app N634 (Fr.nil n0)
  refine own_stk (S' := [(.int (f3 (1 : Int32)))]) rfl ?_
  refine wifNo OGc 317 X635 B at_314 (own_if0 (feq (by decide)).1) rfl ?_
  refine wiload OGc 319 X635 B at_317 rfl rfl ?_
  refine wstat OGc 322 X635 B hZ hown (ow hw 10 rfl) (ow hw 11 rfl) (ow hw 13 rfl) (ow hw 12 rfl) e635 (rm3 l Z a0 hw [] (3 : Int32) T585.heap) 0 (by decide) (by decide) hml rfl (lenOf pd__I_Z rfl) [] rfl rfl at_319 rfl fun _ T636 L636 X636 hQ636 => ?_
  obtain ⟨rfl, rfl, e636⟩ := hQ636
  have N636 := Fr.app N635 (Fr.nil n0)
  refine own_stk (S' := [(.int (f3 (3 : Int32)))]) rfl ?_
  refine wifNo OGc 325 X636 B at_322 (own_if0 (feq (by decide)).1) rfl ?_
  refine wiload OGc 327 X636 B at_325 rfl rfl ?_
  refine wstat OGc 330 X636 B hZ hown (ow hw 10 rfl) (ow hw 11 rfl) (ow hw 13 rfl) (ow hw 12 rfl) e636 (rm3 l Z a0 hw [] (4 : Int32) T585.heap) 0 (by decide) (by decide) hml rfl (lenOf pd__I_Z rfl) [] rfl rfl at_327 rfl fun _ T637 L637 X637 hQ637 => ?_
  obtain ⟨rfl, rfl, e637⟩ := hQ637
  have N637 := Fr.app N636 (Fr.nil n0)
  refine own_stk (S' := [(.int (f3 (4 : Int32)))]) rfl ?_
  refine wifYes OGc 335 X637 B at_330 (own_if0 (feq (by decide)).2) rfl ?_
  refine wiconst OGc 336 X637 B at_335 1 rfl rfl ?_
  refine wiload OGc 338 X637 B at_336 rfl rfl ?_
  refine own_st (fun t k => XS.ishl X637.here hx rfl (hb hby at_338) rfl k) ?_
  show OG p e _ s below _ T637 (mkF m 339 (LA0_168 q1 q2 q3 q4 q5 p6 b536 b557) [(.int (4 : Int32))])
  refine wiconst OGc 340 X637 B at_339 1 rfl rfl ?_
  refine wiload OGc 342 X637 B at_340 rfl rfl ?_
  refine own_st (fun t k => XS.ishl X637.here hx rfl (hb hby at_342) rfl k) ?_
  show OG p e _ s below _ T637 (mkF m 343 (LA0_168 q1 q2 q3 q4 q5 p6 b536 b557) [(.int (1 : Int32)), (.int (4 : Int32))])
  refine own_st (fun t k => XS.ior X637.here hx rfl (hb hby at_343) rfl k) ?_
  show OG p e _ s below _ T637 (mkF m 344 (LA0_168 q1 q2 q3 q4 q5 p6 b536 b557) [(.int (5 : Int32))])
  refine wiconst OGc 345 X637 B at_344 1 rfl rfl ?_
  refine wiload OGc 347 X637 B at_345 rfl rfl ?_
  refine own_st (fun t k => XS.ishl X637.here hx rfl (hb hby at_347) rfl k) ?_
  show OG p e _ s below _ T637 (mkF m 348 (LA0_168 q1 q2 q3 q4 q5 p6 b536 b557) [(.int (32 : Int32)), (.int (5 : Int32))])
  refine own_st (fun t k => XS.ior X637.here hx rfl (hb hby at_348) rfl k) ?_
  show OG p e _ s below _ T637 (mkF m 349 (LA0_168 q1 q2 q3 q4 q5 p6 b536 b557) [(.int (37 : Int32))])
  refine wiconst OGc 350 X637 B at_349 1 rfl rfl ?_
  refine wiload OGc 352 X637 B at_350 rfl rfl ?_
  refine own_st (fun t k => XS.ishl X637.here hx rfl (hb hby at_352) rfl k) ?_
  show OG p e _ s below _ T637 (mkF m 353 (LA0_168 q1 q2 q3 q4 q5 p6 b536 b557) [(.int (2 : Int32)), (.int (37 : Int32))])
  refine own_st (fun t k => XS.ior X637.here hx rfl (hb hby at_353) rfl k) ?_
  show OG p e _ s below _ T637 (mkF m 354 (LA0_168 q1 q2 q3 q4 q5 p6 b536 b557) [(.int (39 : Int32))])
  refine wiconst OGc 355 X637 B at_354 1 rfl rfl ?_
  refine wiload OGc 357 X637 B at_355 rfl rfl ?_
  refine own_st (fun t k => XS.ishl X637.here hx rfl (hb hby at_357) rfl k) ?_
  show OG p e _ s below _ T637 (mkF m 358 (LA0_168 q1 q2 q3 q4 q5 p6 b536 b557) [(.int (8 : Int32)), (.int (39 : Int32))])
  refine own_st (fun t k => XS.ior X637.here hx rfl (hb hby at_358) rfl k) ?_
  show OG p e _ s below _ T637 (mkF m 359 (LA0_168 q1 q2 q3 q4 q5 p6 b536 b557) [(.int (47 : Int32))])
  refine wiconst OGc 360 X637 B at_359 1 rfl rfl ?_
  refine wiload OGc 362 X637 B at_360 rfl rfl ?_
  refine own_st (fun t k => XS.ishl X637.here hx rfl (hb hby at_362) rfl k) ?_
  show OG p e _ s below _ T637 (mkF m 363 (LA0_168 q1 q2 q3 q4 q5 p6 b536 b557) [(.int (16 : Int32)), (.int (47 : Int32))])
  refine own_st (fun t k => XS.ior X637.here hx rfl (hb hby at_363) rfl k) ?_
  show OG p e _ s below _ T637 (mkF m 364 (LA0_168 q1 q2 q3 q4 q5 p6 b536 b557) [(.int (63 : Int32))])
  refine wistore OGc 366 X637 B at_364 (LA0_169 q1 q2 q3 q4 q5 p6 b536 b557) rfl rfl ?_
  refine wiload OGc 368 X637 B at_366 rfl rfl ?_
  refine wifNo OGc 371 X637 B at_368 (by decide) rfl ?_
  refine wiload OGc 373 X637 B at_371 rfl rfl ?_
  refine wbipush OGc 375 X637 B at_373 63 rfl rfl ?_
  refine wicmpNo OGc 378 X637 B at_375 (by decide) rfl ?_
  refine wiconst OGc 379 X637 B at_378 1 rfl rfl ?_
  refine wgoto OGc 383 X637 B at_379 rfl ?_
  refine wistore OGc 385 X637 B at_383 (LA0_169 q1 q2 q3 q4 q5 p6 b536 b557) rfl rfl ?_
  refine waload OGc 387 X637 B at_385 rfl rfl rfl ?_
  refine wiload OGc 389 X637 B at_387 rfl rfl ?_
  refine wlaload OGc 390 X637 B hZ e637 fc0 (v := (.long (g0_5 q1 q2 q3 q4 q5 p6))) 2 (by decide) (by decide) rfl at_389 rfl ?_
  refine wlstore OGc 392 X637 B at_390 (LA0_170 q1 q2 q3 q4 q5 p6 b536 b557) rfl rfl ?_
  refine waload OGc 394 X637 B at_392 rfl rfl rfl ?_
  refine wiload OGc 396 X637 B at_394 rfl rfl ?_
  refine wlaload OGc 397 X637 B hZ e637 fc0 (v := (.long (f1 q2 (f1 q4 q5)))) 0 (by decide) (by decide) rfl at_396 rfl ?_
  refine wlstore OGc 399 X637 B at_397 (LA0_171 q1 q2 q3 q4 q5 p6 b536 b557) rfl rfl ?_
  refine waload OGc 401 X637 B at_399 rfl rfl rfl ?_
  refine wiload OGc 403 X637 B at_401 rfl rfl ?_
  refine wlaload OGc 404 X637 B hZ e637 fc0 (v := (.long q3)) 5 (by decide) (by decide) rfl at_403 rfl ?_
  refine wlstore OGc 406 X637 B at_404 (LA0_172 q1 q2 q3 q4 q5 p6 b536 b557) rfl rfl ?_
  refine waload OGc 408 X637 B at_406 rfl rfl rfl ?_
  refine wiload OGc 410 X637 B at_408 rfl rfl ?_
  refine wlaload OGc 411 X637 B hZ e637 fc0 (v := (.long q4)) 1 (by decide) (by decide) rfl at_410 rfl ?_
  refine wlstore OGc 413 X637 B at_411 (LA0_173 q1 q2 q3 q4 q5 p6 b536 b557) rfl rfl ?_
  refine waload OGc 415 X637 B at_413 rfl rfl rfl ?_
  refine wiload OGc 417 X637 B at_415 rfl rfl ?_
  refine wlaload OGc 418 X637 B hZ e637 fc0 (v := (.long q5)) 3 (by decide) (by decide) rfl at_417 rfl ?_
  refine wlstore OGc 420 X637 B at_418 (LA0_174 q1 q2 q3 q4 q5 p6 b536 b557) rfl rfl ?_
  refine waload OGc 422 X637 B at_420 rfl rfl rfl ?_
  refine wiload OGc 424 X637 B at_422 rfl rfl ?_
  refine wlaload OGc 425 X637 B hZ e637 fc0 (v := (.long (g0_2 q1 q2 q3 q4 q5 p6))) 4 (by decide) (by decide) rfl at_424 rfl ?_
  refine wlstore OGc 427 X637 B at_425 (LA0_175 q1 q2 q3 q4 q5 p6 b536 b557) rfl rfl ?_
  refine wiload OGc 429 X637 B at_427 rfl rfl ?_
  refine wifNo OGc 432 X637 B at_429 (by decide) rfl ?_
  refine wlload OGc 434 X637 B at_432 rfl rfl ?_
  refine wlload OGc 436 X637 B at_434 rfl rfl ?_
  refine wlcmp OGc 437 X637 B at_436 rfl ?_
  by_cases c644 : (f1 q2 (f1 q4 q5)) < (g0_5 q1 q2 q3 q4 q5 p6)
  · refine wifYes OGc 476 X637 B at_437 (own_if0 (tlt ((lw_gt _ _).mpr c644)).2.2.1) rfl ?_
    refine wiconst OGc 477 X637 B at_476 0 rfl rfl ?_
    refine wistore OGc 479 X637 B at_477 (LA0_176 q1 q2 q3 q4 q5 p6 b536 b557) rfl rfl ?_
    refine wiload OGc 481 X637 B at_479 rfl rfl ?_
    refine wiconst OGc 482 X637 B at_481 1 rfl rfl ?_
    refine wicmpYes OGc 518 X637 B at_482 (by decide) rfl ?_
    refine wiload OGc 520 X637 B at_518 rfl rfl ?_
    refine wiconst OGc 521 X637 B at_520 2 rfl rfl ?_
    refine wicmpNo OGc 524 X637 B at_521 (by decide) rfl ?_
    refine wiload OGc 526 X637 B at_524 rfl rfl ?_
    refine wifYes OGc 556 X637 B at_526 (by decide) rfl ?_
    refine wiconst OGc 557 X637 B at_556 0 rfl rfl ?_
    refine wistore OGc 559 X637 B at_557 (LA0_176 q1 q2 q3 q4 q5 p6 b536 b557) rfl rfl ?_
    refine wgoto OGc 615 X637 B at_559 rfl ?_
    refine wiload OGc 617 X637 B at_615 rfl rfl ?_
    refine own_retZ X637 hx (t := .boolean) hret (by simp) hlk (hb hby at_617) (by decide) (by decide) (w := (0 : Int32)) rfl ?_
    exact ⟨congrArg (fun z => some (Value.int z)) (show f0 q1 q2 q3 q4 q5 p6 = (0 : Int32) from (by rw [f0, if_neg c1, if_neg c345, if_pos c528, if_neg c589, if_pos c644])).symm, N637⟩
  · refine wifNo OGc 440 X637 B at_437 (own_if0 (flt (fun q => c644 ((lw_gt _ _).mp q))).2.2.1) rfl ?_
    refine wlload OGc 442 X637 B at_440 rfl rfl ?_
    refine wlload OGc 444 X637 B at_442 rfl rfl ?_
    refine wlcmp OGc 445 X637 B at_444 rfl ?_
    by_cases c645 : q3 < (g0_5 q1 q2 q3 q4 q5 p6)
    · refine wifYes OGc 476 X637 B at_445 (own_if0 (tlt ((lw_gt _ _).mpr c645)).2.2.1) rfl ?_
      refine wiconst OGc 477 X637 B at_476 0 rfl rfl ?_
      refine wistore OGc 479 X637 B at_477 (LA0_176 q1 q2 q3 q4 q5 p6 b536 b557) rfl rfl ?_
      refine wiload OGc 481 X637 B at_479 rfl rfl ?_
      refine wiconst OGc 482 X637 B at_481 1 rfl rfl ?_
      refine wicmpYes OGc 518 X637 B at_482 (by decide) rfl ?_
      refine wiload OGc 520 X637 B at_518 rfl rfl ?_
      refine wiconst OGc 521 X637 B at_520 2 rfl rfl ?_
      refine wicmpNo OGc 524 X637 B at_521 (by decide) rfl ?_
      refine wiload OGc 526 X637 B at_524 rfl rfl ?_
      refine wifYes OGc 556 X637 B at_526 (by decide) rfl ?_
      refine wiconst OGc 557 X637 B at_556 0 rfl rfl ?_
      refine wistore OGc 559 X637 B at_557 (LA0_176 q1 q2 q3 q4 q5 p6 b536 b557) rfl rfl ?_
      refine wgoto OGc 615 X637 B at_559 rfl ?_
      refine wiload OGc 617 X637 B at_615 rfl rfl ?_
      refine own_retZ X637 hx (t := .boolean) hret (by simp) hlk (hb hby at_617) (by decide) (by decide) (w := (0 : Int32)) rfl ?_
      exact ⟨congrArg (fun z => some (Value.int z)) (show f0 q1 q2 q3 q4 q5 p6 = (0 : Int32) from (by rw [f0, if_neg c1, if_neg c345, if_pos c528, if_neg c589, if_neg c644, if_pos c645])).symm, N637⟩
    · refine wifNo OGc 448 X637 B at_445 (own_if0 (flt (fun q => c645 ((lw_gt _ _).mp q))).2.2.1) rfl ?_
      refine wlload OGc 450 X637 B at_448 rfl rfl ?_
      refine wlload OGc 452 X637 B at_450 rfl rfl ?_
      refine wlcmp OGc 453 X637 B at_452 rfl ?_
      by_cases c646 : q4 < (f1 q2 (f1 q4 q5))
      · refine wifYes OGc 476 X637 B at_453 (own_if0 (tlt ((lw_gt _ _).mpr c646)).2.2.1) rfl ?_
        refine wiconst OGc 477 X637 B at_476 0 rfl rfl ?_
        refine wistore OGc 479 X637 B at_477 (LA0_176 q1 q2 q3 q4 q5 p6 b536 b557) rfl rfl ?_
        refine wiload OGc 481 X637 B at_479 rfl rfl ?_
        refine wiconst OGc 482 X637 B at_481 1 rfl rfl ?_
        refine wicmpYes OGc 518 X637 B at_482 (by decide) rfl ?_
        refine wiload OGc 520 X637 B at_518 rfl rfl ?_
        refine wiconst OGc 521 X637 B at_520 2 rfl rfl ?_
        refine wicmpNo OGc 524 X637 B at_521 (by decide) rfl ?_
        refine wiload OGc 526 X637 B at_524 rfl rfl ?_
        refine wifYes OGc 556 X637 B at_526 (by decide) rfl ?_
        refine wiconst OGc 557 X637 B at_556 0 rfl rfl ?_
        refine wistore OGc 559 X637 B at_557 (LA0_176 q1 q2 q3 q4 q5 p6 b536 b557) rfl rfl ?_
        refine wgoto OGc 615 X637 B at_559 rfl ?_
        refine wiload OGc 617 X637 B at_615 rfl rfl ?_
        refine own_retZ X637 hx (t := .boolean) hret (by simp) hlk (hb hby at_617) (by decide) (by decide) (w := (0 : Int32)) rfl ?_
        exact ⟨congrArg (fun z => some (Value.int z)) (show f0 q1 q2 q3 q4 q5 p6 = (0 : Int32) from (by rw [f0, if_neg c1, if_neg c345, if_pos c528, if_neg c589, if_neg c644, if_neg c645, if_pos c646])).symm, N637⟩
      · refine wifNo OGc 456 X637 B at_453 (own_if0 (flt (fun q => c646 ((lw_gt _ _).mp q))).2.2.1) rfl ?_
        refine wlload OGc 458 X637 B at_456 rfl rfl ?_
        refine wlload OGc 460 X637 B at_458 rfl rfl ?_
        refine wlcmp OGc 461 X637 B at_460 rfl ?_
        by_cases c647 : q5 < (f1 q2 (f1 q4 q5))
        · refine wifYes OGc 476 X637 B at_461 (own_if0 (tlt ((lw_gt _ _).mpr c647)).2.2.1) rfl ?_
          refine wiconst OGc 477 X637 B at_476 0 rfl rfl ?_
          refine wistore OGc 479 X637 B at_477 (LA0_176 q1 q2 q3 q4 q5 p6 b536 b557) rfl rfl ?_
          refine wiload OGc 481 X637 B at_479 rfl rfl ?_
          refine wiconst OGc 482 X637 B at_481 1 rfl rfl ?_
          refine wicmpYes OGc 518 X637 B at_482 (by decide) rfl ?_
          refine wiload OGc 520 X637 B at_518 rfl rfl ?_
          refine wiconst OGc 521 X637 B at_520 2 rfl rfl ?_
          refine wicmpNo OGc 524 X637 B at_521 (by decide) rfl ?_
          refine wiload OGc 526 X637 B at_524 rfl rfl ?_
          refine wifYes OGc 556 X637 B at_526 (by decide) rfl ?_
          refine wiconst OGc 557 X637 B at_556 0 rfl rfl ?_
          refine wistore OGc 559 X637 B at_557 (LA0_176 q1 q2 q3 q4 q5 p6 b536 b557) rfl rfl ?_
          refine wgoto OGc 615 X637 B at_559 rfl ?_
          refine wiload OGc 617 X637 B at_615 rfl rfl ?_
          refine own_retZ X637 hx (t := .boolean) hret (by simp) hlk (hb hby at_617) (by decide) (by decide) (w := (0 : Int32)) rfl ?_
          exact ⟨congrArg (fun z => some (Value.int z)) (show f0 q1 q2 q3 q4 q5 p6 = (0 : Int32) from (by rw [f0, if_neg c1, if_neg c345, if_pos c528, if_neg c589, if_neg c644, if_neg c645, if_neg c646, if_pos c647])).symm, N637⟩
        · refine wifNo OGc 464 X637 B at_461 (own_if0 (flt (fun q => c647 ((lw_gt _ _).mp q))).2.2.1) rfl ?_
          refine wlload OGc 466 X637 B at_464 rfl rfl ?_
          refine wlload OGc 468 X637 B at_466 rfl rfl ?_
          refine wlcmp OGc 469 X637 B at_468 rfl ?_
          refine wifNo OGc 472 X637 B at_469 (own_if0 (flt (fun q => c589 ((lw_gt _ _).mp q))).2.2.1) rfl ?_
          refine wiconst OGc 473 X637 B at_472 1 rfl rfl ?_
          refine wgoto OGc 477 X637 B at_473 rfl ?_
          refine wistore OGc 479 X637 B at_477 (LA0_175 q1 q2 q3 q4 q5 p6 b536 b557) rfl rfl ?_
          refine wiload OGc 481 X637 B at_479 rfl rfl ?_
          refine wiconst OGc 482 X637 B at_481 1 rfl rfl ?_
          refine wicmpYes OGc 518 X637 B at_482 (by decide) rfl ?_
          refine wiload OGc 520 X637 B at_518 rfl rfl ?_
          refine wiconst OGc 521 X637 B at_520 2 rfl rfl ?_
          refine wicmpNo OGc 524 X637 B at_521 (by decide) rfl ?_
          refine wiload OGc 526 X637 B at_524 rfl rfl ?_
          refine wifNo OGc 529 X637 B at_526 (by decide) rfl ?_
          refine wiload OGc 531 X637 B at_529 rfl rfl ?_
          refine wiconst OGc 532 X637 B at_531 2 rfl rfl ?_
          refine wicmpNo OGc 535 X637 B at_532 (by decide) rfl ?_
          refine wiload OGc 537 X637 B at_535 rfl rfl ?_
          refine wifNo OGc 540 X637 B at_537 (by decide) rfl ?_
          refine wiload OGc 542 X637 B at_540 rfl rfl ?_
          refine wiconst OGc 543 X637 B at_542 1 rfl rfl ?_
          refine wicmpNo OGc 546 X637 B at_543 (by decide) rfl ?_
          refine wiload OGc 548 X637 B at_546 rfl rfl ?_
          refine wiconst OGc 549 X637 B at_548 3 rfl rfl ?_
          refine wicmpNo OGc 552 X637 B at_549 (by decide) rfl ?_
          refine wiconst OGc 553 X637 B at_552 1 rfl rfl ?_
          refine wgoto OGc 557 X637 B at_553 rfl ?_
          refine wistore OGc 559 X637 B at_557 (LA0_175 q1 q2 q3 q4 q5 p6 b536 b557) rfl rfl ?_
          refine wgoto OGc 615 X637 B at_559 rfl ?_
          refine wiload OGc 617 X637 B at_615 rfl rfl ?_
          refine own_retZ X637 hx (t := .boolean) hret (by simp) hlk (hb hby at_617) (by decide) (by decide) (w := (1 : Int32)) rfl ?_
          exact ⟨congrArg (fun z => some (Value.int z)) (show f0 q1 q2 q3 q4 q5 p6 = (1 : Int32) from (by rw [f0, if_neg c1, if_neg c345, if_pos c528, if_neg c589, if_neg c644, if_neg c645, if_neg c646, if_neg c647])).symm, N637⟩
set_option maxRecDepth 65536 in
set_option maxHeartbeats 40000000 in
theorem tl0_16 (l : Launch) (Z : State) (a0 : Array Value) (hw : ∀ d ∈ tables_1, d.before a0 Z = true) (q1 : Int64) (q2 : Int64) (q3 : Int64) (q4 : Int64) (q5 : Int64) (p6 : Int32) (h0 : Heap) (n0 : Nat) (Z0 : n0 ≤ h0.size) (p : Program) (e : Env) (s : State) (m : MethodId) (below : List Frame) (meth : Method) (c : Code) (hx : p.tables.exec = Jvm.exec) (hby : c.code = code) (hml : c.maxLocals = 46) (hown : s.vm.findClass "com/example/fragmark/fragmark/PhraseMatcherSiftDownPinLaw" = some m.cls) (hret : meth.sig.returnType = ret) (hlk : meth.locks = false) (hZ : Z.Warmed39 s.vm)  (s₁ : State) (locs : List Loc) (xc : Stand p l e room_1 s m #[(.long q1), (.long q2), (.long q3), (.long q4), (.long q5), (.int p6)] below meth c s₁ locs 0 0)  (ec : s₁.heap = h0) (nc : Fr n0 locs) (kc : Keep h0 h0 [])     (c1 : ¬ ((g0_1 q1 q2 q3 q4 q5 p6) = (0 : Int32))) (c345 : ¬ ((g0_1 q1 q2 q3 q4 q5 p6) = (1 : Int32))) (c528 : (g0_1 q1 q2 q3 q4 q5 p6) = (2 : Int32)) :
    OG p e room_1 s below (fun v h L => v = some (.int (f0 q1 q2 q3 q4 q5 p6)) ∧ Fr n0 L) s₁ (mkF m 8 (LA0_141 q1 q2 q3 q4 q5 p6) [(.long q4)]) := by
  have B := And.intro hx hby
  refine wlstore OGc 10 xc B at_8 (LA0_142 q1 q2 q3 q4 q5 p6) rfl rfl ?_
  refine wlload OGc 12 xc B at_10 rfl rfl ?_
  refine wlstore OGc 14 xc B at_12 (LA0_143 q1 q2 q3 q4 q5 p6) rfl rfl ?_
  refine wiload OGc 16 xc B at_14 rfl rfl ?_
  refine wiconst OGc 17 xc B at_16 2 rfl rfl ?_
  refine own_st (fun t k => XS.ishr xc.here hx rfl (hb hby at_17) rfl k) ?_
  show OG p e _ s below _ s₁ (mkF m 18 (LA0_143 q1 q2 q3 q4 q5 p6) [(.int (p6 >>> ((2 : Int32) &&& 31)))])
  refine own_st (fun t k => XS.i2l xc.here hx rfl (hb hby at_18) rfl k) ?_
  show OG p e _ s below _ s₁ (mkF m 19 (LA0_143 q1 q2 q3 q4 q5 p6) [(.long ((p6 >>> ((2 : Int32) &&& 31)).toInt64))])
  refine wlstore OGc 21 xc B at_19 (LA0_144 q1 q2 q3 q4 q5 p6) rfl rfl ?_
  refine wiload OGc 23 xc B at_21 rfl rfl ?_
  refine wiconst OGc 24 xc B at_23 1 rfl rfl ?_
  refine wicmpYes OGc 31 xc B at_24 (by decide) rfl ?_
  refine wlloadN OGc 32 xc B at_31 rfl rfl ?_
  refine wlload OGc 34 xc B at_32 rfl rfl ?_
  refine wlload OGc 36 xc B at_34 rfl rfl ?_
  refine wstat OGc 39 xc B hZ hown (ow hw 0 rfl) (ow hw 1 rfl) (ow hw 3 rfl) (ow hw 2 rfl) ec (rm1 l Z a0 hw [] q4 q5 h0) 2 (by decide) (by decide) hml rfl (lenOf pd__JJ_J rfl) [(.long q2)] rfl rfl at_36 rfl fun _ T529 L529 X529 hQ529 => ?_
  obtain ⟨rfl, rfl, e529⟩ := hQ529
  have N529 := Fr.app nc (Fr.nil n0)
  refine own_stk (S' := [(.long (f1 q4 q5)), (.long q2)]) rfl ?_
  refine wstat OGc 42 X529 B hZ hown (ow hw 0 rfl) (ow hw 1 rfl) (ow hw 3 rfl) (ow hw 2 rfl) e529 (rm1 l Z a0 hw [] q2 (f1 q4 q5) h0) 0 (by decide) (by decide) hml rfl (lenOf pd__JJ_J rfl) [] rfl rfl at_39 rfl fun _ T530 L530 X530 hQ530 => ?_
  obtain ⟨rfl, rfl, e530⟩ := hQ530
  have N530 := Fr.app N529 (Fr.nil n0)
  refine own_stk (S' := [(.long (f1 q2 (f1 q4 q5)))]) rfl ?_
  refine wlstore OGc 44 X530 B at_42 (LA0_145 q1 q2 q3 q4 q5 p6) rfl rfl ?_
  refine wiload OGc 46 X530 B at_44 rfl rfl ?_
  refine wiconst OGc 47 X530 B at_46 2 rfl rfl ?_
  refine wicmpNo OGc 50 X530 B at_47 (by decide) rfl ?_
  refine wlload OGc 52 X530 B at_50 rfl rfl ?_
  refine wgoto OGc 62 X530 B at_52 rfl ?_
  refine wlstore OGc 64 X530 B at_62 (LA0_146 q1 q2 q3 q4 q5 p6) rfl rfl ?_
  refine wiload OGc 66 X530 B at_64 rfl rfl ?_
  refine wifYes OGc 73 X530 B at_66 (by decide) rfl ?_
  refine wlloadN OGc 74 X530 B at_73 rfl rfl ?_
  refine wlload OGc 76 X530 B at_74 rfl rfl ?_
  refine wstat OGc 79 X530 B hZ hown (ow hw 0 rfl) (ow hw 1 rfl) (ow hw 3 rfl) (ow hw 2 rfl) e530 (rm1 l Z a0 hw [] q1 (f1 q2 (f1 q4 q5)) h0) 0 (by decide) (by decide) hml rfl (lenOf pd__JJ_J rfl) [] rfl rfl at_76 rfl fun _ T531 L531 X531 hQ531 => ?_
  obtain ⟨rfl, rfl, e531⟩ := hQ531
  have N531 := Fr.app N530 (Fr.nil n0)
  refine own_stk (S' := [(.long (f1 q1 (f1 q2 (f1 q4 q5))))]) rfl ?_
  refine wlload OGc 81 X531 B at_79 rfl rfl ?_
  refine wlload OGc 83 X531 B at_81 rfl rfl ?_
  refine wlload OGc 85 X531 B at_83 rfl rfl ?_
  refine wlload OGc 87 X531 B at_85 rfl rfl ?_
  refine wstat OGc 90 X531 B hZ hown (ow hw 0 rfl) (ow hw 1 rfl) (ow hw 3 rfl) (ow hw 2 rfl) e531 (rm1 l Z a0 hw [] q5 (g0_2 q1 q2 q3 q4 q5 p6) h0) 6 (by decide) (by decide) hml rfl (lenOf pd__JJ_J rfl) [(.long q4), (.long q3), (.long (f1 q1 (f1 q2 (f1 q4 q5))))] rfl rfl at_87 rfl fun _ T532 L532 X532 hQ532 => ?_
  obtain ⟨rfl, rfl, e532⟩ := hQ532
  have N532 := Fr.app N531 (Fr.nil n0)
  refine own_stk (S' := [(.long (f1 q5 (g0_2 q1 q2 q3 q4 q5 p6))), (.long q4), (.long q3), (.long (f1 q1 (f1 q2 (f1 q4 q5))))]) rfl ?_
  refine wstat OGc 93 X532 B hZ hown (ow hw 0 rfl) (ow hw 1 rfl) (ow hw 3 rfl) (ow hw 2 rfl) e532 (rm1 l Z a0 hw [] q4 (f1 q5 (g0_2 q1 q2 q3 q4 q5 p6)) h0) 4 (by decide) (by decide) hml rfl (lenOf pd__JJ_J rfl) [(.long q3), (.long (f1 q1 (f1 q2 (f1 q4 q5))))] rfl rfl at_90 rfl fun _ T533 L533 X533 hQ533 => ?_
  obtain ⟨rfl, rfl, e533⟩ := hQ533
  have N533 := Fr.app N532 (Fr.nil n0)
  refine own_stk (S' := [(.long (f1 q4 (f1 q5 (g0_2 q1 q2 q3 q4 q5 p6)))), (.long q3), (.long (f1 q1 (f1 q2 (f1 q4 q5))))]) rfl ?_
  refine wstat OGc 96 X533 B hZ hown (ow hw 0 rfl) (ow hw 1 rfl) (ow hw 3 rfl) (ow hw 2 rfl) e533 (rm1 l Z a0 hw [] q3 (f1 q4 (f1 q5 (g0_2 q1 q2 q3 q4 q5 p6))) h0) 2 (by decide) (by decide) hml rfl (lenOf pd__JJ_J rfl) [(.long (f1 q1 (f1 q2 (f1 q4 q5))))] rfl rfl at_93 rfl fun _ T534 L534 X534 hQ534 => ?_
  obtain ⟨rfl, rfl, e534⟩ := hQ534
  have N534 := Fr.app N533 (Fr.nil n0)
  refine own_stk (S' := [(.long (f1 q3 (f1 q4 (f1 q5 (g0_2 q1 q2 q3 q4 q5 p6))))), (.long (f1 q1 (f1 q2 (f1 q4 q5))))]) rfl ?_
  refine wstat OGc 99 X534 B hZ hown (ow hw 0 rfl) (ow hw 1 rfl) (ow hw 3 rfl) (ow hw 2 rfl) e534 (rm1 l Z a0 hw [] (f1 q1 (f1 q2 (f1 q4 q5))) (f1 q3 (f1 q4 (f1 q5 (g0_2 q1 q2 q3 q4 q5 p6)))) h0) 0 (by decide) (by decide) hml rfl (lenOf pd__JJ_J rfl) [] rfl rfl at_96 rfl fun _ T535 L535 X535 hQ535 => ?_
  obtain ⟨rfl, rfl, e535⟩ := hQ535
  have N535 := Fr.app N534 (Fr.nil n0)
  refine own_stk (S' := [(.long (f1 (f1 q1 (f1 q2 (f1 q4 q5))) (f1 q3 (f1 q4 (f1 q5 (g0_2 q1 q2 q3 q4 q5 p6))))))]) rfl ?_
  refine wlstore OGc 101 X535 B at_99 (LA0_147 q1 q2 q3 q4 q5 p6) rfl rfl ?_
  refine wbipush OGc 103 X535 B at_101 6 rfl rfl ?_
  refine wnewP OGc 105 X535 B hZ (ow hw 4 rfl) e535 at_103 6 (by decide) (by decide) rfl fun T536 h536 b536 k536 gb536 X536 e536 E536 A536 => ?_
  have ge_b536 : n0 ≤ b536 := by rw [gb536]; exact Nat.le_trans Z0 kc.1
  have sz_b536 : h0.size ≤ b536 := by rw [gb536]; exact kc.1
  have K537 := kc.ext E536
  have F538 : OA Z h536 b536 .int [(.int (0 : Int32)), (.int (0 : Int32)), (.int (0 : Int32)), (.int (0 : Int32)), (.int (0 : Int32)), (.int (0 : Int32))] := OA.new A536
  refine wdup OGc 106 X536 B at_105 rfl rfl ?_
  refine wiconst OGc 107 X536 B at_106 0 rfl rfl ?_
  refine wiconst OGc 108 X536 B at_107 2 rfl rfl ?_
  refine wstI OGc 109 X536 B hZ e536 F538 0 (by decide) (by decide) (by decide : 0 < 6) at_108 rfl fun T539 h539 X539 e539 W539 => ?_
  have N539 := Fr.snoc X539 N535 ge_b536
  have K540 := K537.wr W539 (Or.inr sz_b536)
  have F541 : OA Z h539 b536 .int [(.int (2 : Int32)), (.int (0 : Int32)), (.int (0 : Int32)), (.int (0 : Int32)), (.int (0 : Int32)), (.int (0 : Int32))] := (F538.set W539 (i := 0) (by decide))
  refine wdup OGc 110 X539 B at_109 rfl rfl ?_
  refine wiconst OGc 111 X539 B at_110 1 rfl rfl ?_
  refine wiconst OGc 112 X539 B at_111 0 rfl rfl ?_
  refine wstI OGc 113 X539 B hZ e539 F541 1 (by decide) (by decide) (by decide : 1 < 6) at_112 rfl fun T542 h542 X542 e542 W542 => ?_
  have N542 := Fr.snoc X542 N539 ge_b536
  have K543 := K540.wr W542 (Or.inr sz_b536)
  have F544 : OA Z h542 b536 .int [(.int (2 : Int32)), (.int (0 : Int32)), (.int (0 : Int32)), (.int (0 : Int32)), (.int (0 : Int32)), (.int (0 : Int32))] := (F541.set W542 (i := 1) (by decide))
  refine wdup OGc 114 X542 B at_113 rfl rfl ?_
  refine wiconst OGc 115 X542 B at_114 2 rfl rfl ?_
  refine wiconst OGc 116 X542 B at_115 5 rfl rfl ?_
  refine wstI OGc 117 X542 B hZ e542 F544 2 (by decide) (by decide) (by decide : 2 < 6) at_116 rfl fun T545 h545 X545 e545 W545 => ?_
  have N545 := Fr.snoc X545 N542 ge_b536
  have K546 := K543.wr W545 (Or.inr sz_b536)
  have F547 : OA Z h545 b536 .int [(.int (2 : Int32)), (.int (0 : Int32)), (.int (5 : Int32)), (.int (0 : Int32)), (.int (0 : Int32)), (.int (0 : Int32))] := (F544.set W545 (i := 2) (by decide))
  refine wdup OGc 118 X545 B at_117 rfl rfl ?_
  refine wiconst OGc 119 X545 B at_118 3 rfl rfl ?_
  refine wiconst OGc 120 X545 B at_119 1 rfl rfl ?_
  refine wstI OGc 121 X545 B hZ e545 F547 3 (by decide) (by decide) (by decide : 3 < 6) at_120 rfl fun T548 h548 X548 e548 W548 => ?_
  have N548 := Fr.snoc X548 N545 ge_b536
  have K549 := K546.wr W548 (Or.inr sz_b536)
  have F550 : OA Z h548 b536 .int [(.int (2 : Int32)), (.int (0 : Int32)), (.int (5 : Int32)), (.int (1 : Int32)), (.int (0 : Int32)), (.int (0 : Int32))] := (F547.set W548 (i := 3) (by decide))
  refine wdup OGc 122 X548 B at_121 rfl rfl ?_
  refine wiconst OGc 123 X548 B at_122 4 rfl rfl ?_
  refine wiconst OGc 124 X548 B at_123 3 rfl rfl ?_
  refine wstI OGc 125 X548 B hZ e548 F550 4 (by decide) (by decide) (by decide : 4 < 6) at_124 rfl fun T551 h551 X551 e551 W551 => ?_
  have N551 := Fr.snoc X551 N548 ge_b536
  have K552 := K549.wr W551 (Or.inr sz_b536)
  have F553 : OA Z h551 b536 .int [(.int (2 : Int32)), (.int (0 : Int32)), (.int (5 : Int32)), (.int (1 : Int32)), (.int (3 : Int32)), (.int (0 : Int32))] := (F550.set W551 (i := 4) (by decide))
  refine wdup OGc 126 X551 B at_125 rfl rfl ?_
  refine wiconst OGc 127 X551 B at_126 5 rfl rfl ?_
  refine wiconst OGc 128 X551 B at_127 4 rfl rfl ?_
  refine wstI OGc 129 X551 B hZ e551 F553 5 (by decide) (by decide) (by decide : 5 < 6) at_128 rfl fun T554 h554 X554 e554 W554 => ?_
  have N554 := Fr.snoc X554 N551 ge_b536
  have K555 := K552.wr W554 (Or.inr sz_b536)
  have F556 : OA Z h554 b536 .int [(.int (2 : Int32)), (.int (0 : Int32)), (.int (5 : Int32)), (.int (1 : Int32)), (.int (3 : Int32)), (.int (4 : Int32))] := (F553.set W554 (i := 5) (by decide))
  refine wastore OGc 131 X554 B at_129 (LA0_148 q1 q2 q3 q4 q5 p6 b536) rfl rfl rfl ?_
  refine wbipush OGc 133 X554 B at_131 6 rfl rfl ?_
  refine wnewP OGc 135 X554 B hZ (ow hw 5 rfl) e554 at_133 6 (by decide) (by decide) rfl fun T557 h557 b557 k557 gb557 X557 e557 E557 A557 => ?_
  have ge_b557 : n0 ≤ b557 := by rw [gb557]; exact Nat.le_trans Z0 K555.1
  have sz_b557 : h0.size ≤ b557 := by rw [gb557]; exact K555.1
  have ne_b536_b557 : b536 ≠ b557 := Nat.ne_of_lt (Nat.lt_of_lt_of_eq F556.lt gb557.symm)
  have F558 := F556.ext E557
  have K559 := K555.ext E557
  have F560 : OA Z h557 b557 .long [(.long (0 : Int64)), (.long (0 : Int64)), (.long (0 : Int64)), (.long (0 : Int64)), (.long (0 : Int64)), (.long (0 : Int64))] := OA.new A557
  refine wastore OGc 137 X557 B at_135 (LA0_149 q1 q2 q3 q4 q5 p6 b536 b557) rfl rfl rfl ?_
  refine waload OGc 139 X557 B at_137 rfl rfl rfl ?_
  refine wiconst OGc 140 X557 B at_139 2 rfl rfl ?_
  refine wlload OGc 142 X557 B at_140 rfl rfl ?_
  refine wstJ OGc 143 X557 B hZ e557 F560 2 (by decide) (by decide) (by decide : 2 < 6) at_142 rfl fun T561 h561 X561 e561 W561 => ?_
  have N561 := Fr.snoc X561 N554 ge_b557
  have K562 := K559.wr W561 (Or.inr sz_b557)
  have F563 := F558.other W561 ne_b536_b557
  have F564 : OA Z h561 b557 .long [(.long (0 : Int64)), (.long (0 : Int64)), (.long (g0_5 q1 q2 q3 q4 q5 p6)), (.long (0 : Int64)), (.long (0 : Int64)), (.long (0 : Int64))] := (F560.set W561 (i := 2) (by decide))
  refine waload OGc 145 X561 B at_143 rfl rfl rfl ?_
  refine wiconst OGc 146 X561 B at_145 0 rfl rfl ?_
  refine wlload OGc 148 X561 B at_146 rfl rfl ?_
  refine wstJ OGc 149 X561 B hZ e561 F564 0 (by decide) (by decide) (by decide : 0 < 6) at_148 rfl fun T565 h565 X565 e565 W565 => ?_
  have N565 := Fr.snoc X565 N561 ge_b557
  have K566 := K562.wr W565 (Or.inr sz_b557)
  have F567 := F563.other W565 ne_b536_b557
  have F568 : OA Z h565 b557 .long [(.long (f1 q2 (f1 q4 q5))), (.long (0 : Int64)), (.long (g0_5 q1 q2 q3 q4 q5 p6)), (.long (0 : Int64)), (.long (0 : Int64)), (.long (0 : Int64))] := (F564.set W565 (i := 0) (by decide))
  refine waload OGc 151 X565 B at_149 rfl rfl rfl ?_
  refine wiconst OGc 152 X565 B at_151 5 rfl rfl ?_
  refine wlload OGc 154 X565 B at_152 rfl rfl ?_
  refine wstJ OGc 155 X565 B hZ e565 F568 5 (by decide) (by decide) (by decide : 5 < 6) at_154 rfl fun T569 h569 X569 e569 W569 => ?_
  have N569 := Fr.snoc X569 N565 ge_b557
  have K570 := K566.wr W569 (Or.inr sz_b557)
  have F571 := F567.other W569 ne_b536_b557
  have F572 : OA Z h569 b557 .long [(.long (f1 q2 (f1 q4 q5))), (.long (0 : Int64)), (.long (g0_5 q1 q2 q3 q4 q5 p6)), (.long (0 : Int64)), (.long (0 : Int64)), (.long q3)] := (F568.set W569 (i := 5) (by decide))
  refine waload OGc 157 X569 B at_155 rfl rfl rfl ?_
  refine wiconst OGc 158 X569 B at_157 1 rfl rfl ?_
  refine wlload OGc 160 X569 B at_158 rfl rfl ?_
  refine wstJ OGc 161 X569 B hZ e569 F572 1 (by decide) (by decide) (by decide : 1 < 6) at_160 rfl fun T573 h573 X573 e573 W573 => ?_
  have N573 := Fr.snoc X573 N569 ge_b557
  have K574 := K570.wr W573 (Or.inr sz_b557)
  have F575 := F571.other W573 ne_b536_b557
  have F576 : OA Z h573 b557 .long [(.long (f1 q2 (f1 q4 q5))), (.long q4), (.long (g0_5 q1 q2 q3 q4 q5 p6)), (.long (0 : Int64)), (.long (0 : Int64)), (.long q3)] := (F572.set W573 (i := 1) (by decide))
  refine waload OGc 163 X573 B at_161 rfl rfl rfl ?_
  refine wiconst OGc 164 X573 B at_163 3 rfl rfl ?_
  refine wlload OGc 166 X573 B at_164 rfl rfl ?_
  refine wstJ OGc 167 X573 B hZ e573 F576 3 (by decide) (by decide) (by decide : 3 < 6) at_166 rfl fun T577 h577 X577 e577 W577 => ?_
  have N577 := Fr.snoc X577 N573 ge_b557
  have K578 := K574.wr W577 (Or.inr sz_b557)
  have F579 := F575.other W577 ne_b536_b557
  have F580 : OA Z h577 b557 .long [(.long (f1 q2 (f1 q4 q5))), (.long q4), (.long (g0_5 q1 q2 q3 q4 q5 p6)), (.long q5), (.long (0 : Int64)), (.long q3)] := (F576.set W577 (i := 3) (by decide))
  refine waload OGc 169 X577 B at_167 rfl rfl rfl ?_
  refine wiconst OGc 170 X577 B at_169 4 rfl rfl ?_
  refine wlload OGc 172 X577 B at_170 rfl rfl ?_
  refine wstJ OGc 173 X577 B hZ e577 F580 4 (by decide) (by decide) (by decide : 4 < 6) at_172 rfl fun T581 h581 X581 e581 W581 => ?_
  have N581 := Fr.snoc X581 N577 ge_b557
  have K582 := K578.wr W581 (Or.inr sz_b557)
  have F583 := F579.other W581 ne_b536_b557
  have F584 : OA Z h581 b557 .long [(.long (f1 q2 (f1 q4 q5))), (.long q4), (.long (g0_5 q1 q2 q3 q4 q5 p6)), (.long q5), (.long (g0_2 q1 q2 q3 q4 q5 p6)), (.long q3)] := (F580.set W581 (i := 4) (by decide))
  refine waload OGc 175 X581 B at_173 rfl rfl rfl ?_
  refine waload OGc 177 X581 B at_175 rfl rfl rfl ?_
  refine wiload OGc 179 X581 B at_177 rfl rfl ?_
  refine wstat OGc 182 X581 B hZ hown (ow hw 6 rfl) (ow hw 7 rfl) (ow hw 9 rfl) (ow hw 8 rfl) e581 (rm2_2 l Z a0 hw [] b536 b557 (f1 q2 (f1 q4 q5)) q4 (g0_5 q1 q2 q3 q4 q5 p6) q5 (g0_2 q1 q2 q3 q4 q5 p6) q3 h581 n0 F583 F584 ge_b536 (Ne.symm ne_b536_b557)) 0 (by decide) (by decide) hml rfl (lenOf pd___I_JI_V rfl) [] rfl rfl at_179 rfl fun _ T585 L585 X585 hQ585 => ?_
  obtain ⟨rfl, N585q, K585q, hD585⟩ := hQ585
  have N585 := Fr.app N581 N585q
  have K585 := K582.trans K585q (own_all1 (Or.inr sz_b536))
  have F586 := F584.keep K585q (own_nin1 (Ne.symm ne_b536_b557))
  rcases hD585 with ⟨c587, F588⟩ | ⟨c589, F590⟩
  · skip
    refine own_stk (S' := []) rfl ?_
    exact tl0_17 l Z a0 hw q1 q2 q3 q4 q5 p6 h0 n0 Z0 p e s m below meth c hx hby hml hown hret hlk hZ b536 b557 T585 _ X585 N585 K585 ge_b536 ge_b557 sz_b536 sz_b557 ne_b536_b557 F586 F588 c1 c345 c528 c587
  · skip
    refine own_stk (S' := []) rfl ?_
    exact tl0_18 l Z a0 hw q1 q2 q3 q4 q5 p6 h0 n0 Z0 p e s m below meth c hx hby hml hown hret hlk hZ b536 b557 T585 _ X585 N585 K585 ge_b536 ge_b557 sz_b536 sz_b557 ne_b536_b557 F586 F590 c1 c345 c528 c589
set_option maxRecDepth 65536 in
set_option maxHeartbeats 40000000 in
theorem tl0_20 (l : Launch) (Z : State) (a0 : Array Value) (hw : ∀ d ∈ tables_1, d.before a0 Z = true) (q1 : Int64) (q2 : Int64) (q3 : Int64) (q4 : Int64) (q5 : Int64) (p6 : Int32) (h0 : Heap) (n0 : Nat) (Z0 : n0 ≤ h0.size) (p : Program) (e : Env) (s : State) (m : MethodId) (below : List Frame) (meth : Method) (c : Code) (hx : p.tables.exec = Jvm.exec) (hby : c.code = code) (hml : c.maxLocals = 46) (hown : s.vm.findClass "com/example/fragmark/fragmark/PhraseMatcherSiftDownPinLaw" = some m.cls) (hret : meth.sig.returnType = ret) (hlk : meth.locks = false) (hZ : Z.Warmed39 s.vm) (b657 : Addr) (b678 : Addr) (T706 : State) (locs : List Loc) (xc : Stand p l e room_1 s m #[(.long q1), (.long q2), (.long q3), (.long q4), (.long q5), (.int p6)] below meth c T706 locs 2 12)   (nc : Fr n0 locs) (kc : Keep h0 T706.heap []) (gc_b657 : n0 ≤ b657) (gc_b678 : n0 ≤ b678) (sc_b657 : h0.size ≤ b657) (sc_b678 : h0.size ≤ b678) (xc_b657_b678 : b657 ≠ b678) (fc0 : OA Z T706.heap b678 .long [(.long (f1 q2 (f1 q4 q5))), (.long q4), (.long (g0_6 q1 q2 q3 q4 q5 p6)), (.long q5), (.long (g0_2 q1 q2 q3 q4 q5 p6)), (.long (g0_3 q1 q2 q3 q4 q5 p6))]) (fc1 : OA Z T706.heap b657 .int [(.int (2 : Int32)), (.int (0 : Int32)), (.int (5 : Int32)), (.int (1 : Int32)), (.int (3 : Int32)), (.int (4 : Int32))]) (c1 : ¬ ((g0_1 q1 q2 q3 q4 q5 p6) = (0 : Int32))) (c345 : ¬ ((g0_1 q1 q2 q3 q4 q5 p6) = (1 : Int32))) (c528 : ¬ ((g0_1 q1 q2 q3 q4 q5 p6) = (2 : Int32))) (c648 : (g0_1 q1 q2 q3 q4 q5 p6) = (3 : Int32)) :
    OG p e room_1 s below (fun v h L => v = some (.int (f0 q1 q2 q3 q4 q5 p6)) ∧ Fr n0 L) T706 (mkF m 182 (LA0_185 q1 q2 q3 q4 q5 p6 b657 b678) []) := by
  have B := And.intro hx hby
  refine waload OGc 184 xc B at_182 rfl rfl rfl ?_
  refine wiconst OGc 185 xc B at_184 2 rfl rfl ?_
  refine wlaload OGc 186 xc B hZ rfl fc0 (v := (.long (g0_6 q1 q2 q3 q4 q5 p6))) 2 (by decide) (by decide) rfl at_185 rfl ?_
  refine wlload OGc 188 xc B at_186 rfl rfl ?_
  refine wlcmp OGc 189 xc B at_188 rfl ?_
  refine wifNo OGc 192 xc B at_189 (own_if0 (teq ((lw_eq _ _).mpr rfl)).2) rfl ?_
  refine waload OGc 194 xc B at_192 rfl rfl rfl ?_
  refine wiconst OGc 195 xc B at_194 0 rfl rfl ?_
  refine wlaload OGc 196 xc B hZ rfl fc0 (v := (.long (f1 q2 (f1 q4 q5)))) 0 (by decide) (by decide) rfl at_195 rfl ?_
  refine wlload OGc 198 xc B at_196 rfl rfl ?_
  refine wlcmp OGc 199 xc B at_198 rfl ?_
  refine wifNo OGc 202 xc B at_199 (own_if0 (teq ((lw_eq _ _).mpr rfl)).2) rfl ?_
  refine waload OGc 204 xc B at_202 rfl rfl rfl ?_
  refine wiconst OGc 205 xc B at_204 5 rfl rfl ?_
  refine wlaload OGc 206 xc B hZ rfl fc0 (v := (.long (g0_3 q1 q2 q3 q4 q5 p6))) 5 (by decide) (by decide) rfl at_205 rfl ?_
  refine wlload OGc 208 xc B at_206 rfl rfl ?_
  refine wlcmp OGc 209 xc B at_208 rfl ?_
  refine wifNo OGc 212 xc B at_209 (own_if0 (teq ((lw_eq _ _).mpr rfl)).2) rfl ?_
  refine waload OGc 214 xc B at_212 rfl rfl rfl ?_
  refine wiconst OGc 215 xc B at_214 1 rfl rfl ?_
  refine wlaload OGc 216 xc B hZ rfl fc0 (v := (.long q4)) 1 (by decide) (by decide) rfl at_215 rfl ?_
  refine wlload OGc 218 xc B at_216 rfl rfl ?_
  refine wlcmp OGc 219 xc B at_218 rfl ?_
  refine wifNo OGc 222 xc B at_219 (own_if0 (teq ((lw_eq _ _).mpr rfl)).2) rfl ?_
  refine waload OGc 224 xc B at_222 rfl rfl rfl ?_
  refine wiconst OGc 225 xc B at_224 3 rfl rfl ?_
  refine wlaload OGc 226 xc B hZ rfl fc0 (v := (.long q5)) 3 (by decide) (by decide) rfl at_225 rfl ?_
  refine wlload OGc 228 xc B at_226 rfl rfl ?_
  refine wlcmp OGc 229 xc B at_228 rfl ?_
  refine wifNo OGc 232 xc B at_229 (own_if0 (teq ((lw_eq _ _).mpr rfl)).2) rfl ?_
  refine waload OGc 234 xc B at_232 rfl rfl rfl ?_
  refine wiconst OGc 235 xc B at_234 4 rfl rfl ?_
  refine wlaload OGc 236 xc B hZ rfl fc0 (v := (.long (g0_2 q1 q2 q3 q4 q5 p6))) 4 (by decide) (by decide) rfl at_235 rfl ?_
  refine wlload OGc 238 xc B at_236 rfl rfl ?_
  refine wlcmp OGc 239 xc B at_238 rfl ?_
  refine wifNo OGc 242 xc B at_239 (own_if0 (teq ((lw_eq _ _).mpr rfl)).2) rfl ?_
  refine wiconst OGc 243 xc B at_242 1 rfl rfl ?_
  refine wgoto OGc 247 xc B at_243 rfl ?_
  refine wistore OGc 249 xc B at_247 (LA0_186 q1 q2 q3 q4 q5 p6 b657 b678) rfl rfl ?_
  refine waload OGc 251 xc B at_249 rfl rfl rfl ?_
  refine wiconst OGc 252 xc B at_251 0 rfl rfl ?_
  refine wiaload OGc 253 xc B hZ rfl fc1 (v := (.int (2 : Int32))) 0 (by decide) (by decide) rfl at_252 rfl ?_
  refine wistore OGc 255 xc B at_253 (LA0_187 q1 q2 q3 q4 q5 p6 b657 b678) rfl rfl ?_
  refine waload OGc 257 xc B at_255 rfl rfl rfl ?_
  refine wiconst OGc 258 xc B at_257 1 rfl rfl ?_
  refine wiaload OGc 259 xc B hZ rfl fc1 (v := (.int (0 : Int32))) 1 (by decide) (by decide) rfl at_258 rfl ?_
  refine wistore OGc 261 xc B at_259 (LA0_188 q1 q2 q3 q4 q5 p6 b657 b678) rfl rfl ?_
  refine waload OGc 263 xc B at_261 rfl rfl rfl ?_
  refine wiconst OGc 264 xc B at_263 2 rfl rfl ?_
  refine wiaload OGc 265 xc B hZ rfl fc1 (v := (.int (5 : Int32))) 2 (by decide) (by decide) rfl at_264 rfl ?_
  refine wistore OGc 267 xc B at_265 (LA0_189 q1 q2 q3 q4 q5 p6 b657 b678) rfl rfl ?_
  refine waload OGc 269 xc B at_267 rfl rfl rfl ?_
  refine wiconst OGc 270 xc B at_269 3 rfl rfl ?_
  refine wiaload OGc 271 xc B hZ rfl fc1 (v := (.int (1 : Int32))) 3 (by decide) (by decide) rfl at_270 rfl ?_
  refine wistore OGc 273 xc B at_271 (LA0_190 q1 q2 q3 q4 q5 p6 b657 b678) rfl rfl ?_
  refine waload OGc 275 xc B at_273 rfl rfl rfl ?_
  refine wiconst OGc 276 xc B at_275 4 rfl rfl ?_
  refine wiaload OGc 277 xc B hZ rfl fc1 (v := (.int (3 : Int32))) 4 (by decide) (by decide) rfl at_276 rfl ?_
  refine wistore OGc 279 xc B at_277 (LA0_191 q1 q2 q3 q4 q5 p6 b657 b678) rfl rfl ?_
  refine waload OGc 281 xc B at_279 rfl rfl rfl ?_
  refine wiconst OGc 282 xc B at_281 5 rfl rfl ?_
  refine wiaload OGc 283 xc B hZ rfl fc1 (v := (.int (4 : Int32))) 5 (by decide) (by decide) rfl at_282 rfl ?_
  refine wistore OGc 285 xc B at_283 (LA0_192 q1 q2 q3 q4 q5 p6 b657 b678) rfl rfl ?_
  refine wiload OGc 287 xc B at_285 rfl rfl ?_
  refine wstat OGc 290 xc B hZ hown (ow hw 10 rfl) (ow hw 11 rfl) (ow hw 13 rfl) (ow hw 12 rfl) rfl (rm3 l Z a0 hw [] (2 : Int32) T706.heap) 0 (by decide) (by decide) hml rfl (lenOf pd__I_Z rfl) [] rfl rfl at_287 rfl fun _ T721 L721 X721 hQ721 => ?_
  obtain ⟨rfl, rfl, e721⟩ := hQ721
  have N721 := Fr.app nc (Fr.nil n0)
  refine own_stk (S' := [(.int (f3 (2 : Int32)))]) rfl ?_
  refine wifNo OGc 293 X721 B at_290 (own_if0 (feq (by decide)).1) rfl ?_
  refine wiload OGc 295 X721 B at_293 rfl rfl ?_
  refine wstat OGc 298 X721 B hZ hown (ow hw 10 rfl) (ow hw 11 rfl) (ow hw 13 rfl) (ow hw 12 rfl) e721 (rm3 l Z a0 hw [] (0 : Int32) T706.heap) 0 (by decide) (by decide) hml rfl (lenOf pd__I_Z rfl) [] rfl rfl at_295 rfl fun _ T722 L722 X722 hQ722 => ?_
  obtain ⟨rfl, rfl, e722⟩ := hQ722
  have N722 := Fr.app N721 (Fr.nil n0)
  refine own_stk (S' := [(.int (f3 (0 : Int32)))]) rfl ?_
  refine wifNo OGc 301 X722 B at_298 (own_if0 (feq (by decide)).1) rfl ?_
  refine wiload OGc 303 X722 B at_301 rfl rfl ?_
  refine wstat OGc 306 X722 B hZ hown (ow hw 10 rfl) (ow hw 11 rfl) (ow hw 13 rfl) (ow hw 12 rfl) e722 (rm3 l Z a0 hw [] (5 : Int32) T706.heap) 0 (by decide) (by decide) hml rfl (lenOf pd__I_Z rfl) [] rfl rfl at_303 rfl fun _ T723 L723 X723 hQ723 => ?_
  obtain ⟨rfl, rfl, e723⟩ := hQ723
  have N723 := Fr.app N722 (Fr.nil n0)
  refine own_stk (S' := [(.int (f3 (5 : Int32)))]) rfl ?_
  refine wifNo OGc 309 X723 B at_306 (own_if0 (feq (by decide)).1) rfl ?_
  refine wiload OGc 311 X723 B at_309 rfl rfl ?_
  refine wstat OGc 314 X723 B hZ hown (ow hw 10 rfl) (ow hw 11 rfl) (ow hw 13 rfl) (ow hw 12 rfl) e723 (rm3 l Z a0 hw [] (1 : Int32) T706.heap) 0 (by decide) (by decide) hml rfl (lenOf pd__I_Z rfl) [] rfl rfl at_311 rfl fun _ T724 L724 X724 hQ724 => ?_
  obtain ⟨rfl, rfl, e724⟩ := hQ724
  have N724 := Fr.app N723 (Fr.nil n0)
  refine own_stk (S' := [(.int (f3 (1 : Int32)))]) rfl ?_
  refine wifNo OGc 317 X724 B at_314 (own_if0 (feq (by decide)).1) rfl ?_
  refine wiload OGc 319 X724 B at_317 rfl rfl ?_
  refine wstat OGc 322 X724 B hZ hown (ow hw 10 rfl) (ow hw 11 rfl) (ow hw 13 rfl) (ow hw 12 rfl) e724 (rm3 l Z a0 hw [] (3 : Int32) T706.heap) 0 (by decide) (by decide) hml rfl (lenOf pd__I_Z rfl) [] rfl rfl at_319 rfl fun _ T725 L725 X725 hQ725 => ?_
  obtain ⟨rfl, rfl, e725⟩ := hQ725
  have N725 := Fr.app N724 (Fr.nil n0)
  refine own_stk (S' := [(.int (f3 (3 : Int32)))]) rfl ?_
  refine wifNo OGc 325 X725 B at_322 (own_if0 (feq (by decide)).1) rfl ?_
  refine wiload OGc 327 X725 B at_325 rfl rfl ?_
  refine wstat OGc 330 X725 B hZ hown (ow hw 10 rfl) (ow hw 11 rfl) (ow hw 13 rfl) (ow hw 12 rfl) e725 (rm3 l Z a0 hw [] (4 : Int32) T706.heap) 0 (by decide) (by decide) hml rfl (lenOf pd__I_Z rfl) [] rfl rfl at_327 rfl fun _ T726 L726 X726 hQ726 => ?_
  obtain ⟨rfl, rfl, e726⟩ := hQ726
  have N726 := Fr.app N725 (Fr.nil n0)
  refine own_stk (S' := [(.int (f3 (4 : Int32)))]) rfl ?_
  refine wifYes OGc 335 X726 B at_330 (own_if0 (feq (by decide)).2) rfl ?_
  refine wiconst OGc 336 X726 B at_335 1 rfl rfl ?_
  refine wiload OGc 338 X726 B at_336 rfl rfl ?_
  refine own_st (fun t k => XS.ishl X726.here hx rfl (hb hby at_338) rfl k) ?_
  show OG p e _ s below _ T726 (mkF m 339 (LA0_192 q1 q2 q3 q4 q5 p6 b657 b678) [(.int (4 : Int32))])
  refine wiconst OGc 340 X726 B at_339 1 rfl rfl ?_
  refine wiload OGc 342 X726 B at_340 rfl rfl ?_
  refine own_st (fun t k => XS.ishl X726.here hx rfl (hb hby at_342) rfl k) ?_
  show OG p e _ s below _ T726 (mkF m 343 (LA0_192 q1 q2 q3 q4 q5 p6 b657 b678) [(.int (1 : Int32)), (.int (4 : Int32))])
  refine own_st (fun t k => XS.ior X726.here hx rfl (hb hby at_343) rfl k) ?_
  show OG p e _ s below _ T726 (mkF m 344 (LA0_192 q1 q2 q3 q4 q5 p6 b657 b678) [(.int (5 : Int32))])
  refine wiconst OGc 345 X726 B at_344 1 rfl rfl ?_
  refine wiload OGc 347 X726 B at_345 rfl rfl ?_
  refine own_st (fun t k => XS.ishl X726.here hx rfl (hb hby at_347) rfl k) ?_
  show OG p e _ s below _ T726 (mkF m 348 (LA0_192 q1 q2 q3 q4 q5 p6 b657 b678) [(.int (32 : Int32)), (.int (5 : Int32))])
  refine own_st (fun t k => XS.ior X726.here hx rfl (hb hby at_348) rfl k) ?_
  show OG p e _ s below _ T726 (mkF m 349 (LA0_192 q1 q2 q3 q4 q5 p6 b657 b678) [(.int (37 : Int32))])
  refine wiconst OGc 350 X726 B at_349 1 rfl rfl ?_
  refine wiload OGc 352 X726 B at_350 rfl rfl ?_
  refine own_st (fun t k => XS.ishl X726.here hx rfl (hb hby at_352) rfl k) ?_
  show OG p e _ s below _ T726 (mkF m 353 (LA0_192 q1 q2 q3 q4 q5 p6 b657 b678) [(.int (2 : Int32)), (.int (37 : Int32))])
  refine own_st (fun t k => XS.ior X726.here hx rfl (hb hby at_353) rfl k) ?_
  show OG p e _ s below _ T726 (mkF m 354 (LA0_192 q1 q2 q3 q4 q5 p6 b657 b678) [(.int (39 : Int32))])
  refine wiconst OGc 355 X726 B at_354 1 rfl rfl ?_
  refine wiload OGc 357 X726 B at_355 rfl rfl ?_
  refine own_st (fun t k => XS.ishl X726.here hx rfl (hb hby at_357) rfl k) ?_
  show OG p e _ s below _ T726 (mkF m 358 (LA0_192 q1 q2 q3 q4 q5 p6 b657 b678) [(.int (8 : Int32)), (.int (39 : Int32))])
  refine own_st (fun t k => XS.ior X726.here hx rfl (hb hby at_358) rfl k) ?_
  show OG p e _ s below _ T726 (mkF m 359 (LA0_192 q1 q2 q3 q4 q5 p6 b657 b678) [(.int (47 : Int32))])
  refine wiconst OGc 360 X726 B at_359 1 rfl rfl ?_
  refine wiload OGc 362 X726 B at_360 rfl rfl ?_
  refine own_st (fun t k => XS.ishl X726.here hx rfl (hb hby at_362) rfl k) ?_
  show OG p e _ s below _ T726 (mkF m 363 (LA0_192 q1 q2 q3 q4 q5 p6 b657 b678) [(.int (16 : Int32)), (.int (47 : Int32))])
  refine own_st (fun t k => XS.ior X726.here hx rfl (hb hby at_363) rfl k) ?_
  show OG p e _ s below _ T726 (mkF m 364 (LA0_192 q1 q2 q3 q4 q5 p6 b657 b678) [(.int (63 : Int32))])
  refine wistore OGc 366 X726 B at_364 (LA0_193 q1 q2 q3 q4 q5 p6 b657 b678) rfl rfl ?_
  refine wiload OGc 368 X726 B at_366 rfl rfl ?_
  refine wifNo OGc 371 X726 B at_368 (by decide) rfl ?_
  refine wiload OGc 373 X726 B at_371 rfl rfl ?_
  refine wbipush OGc 375 X726 B at_373 63 rfl rfl ?_
  refine wicmpNo OGc 378 X726 B at_375 (by decide) rfl ?_
  refine wiconst OGc 379 X726 B at_378 1 rfl rfl ?_
  refine wgoto OGc 383 X726 B at_379 rfl ?_
  refine wistore OGc 385 X726 B at_383 (LA0_193 q1 q2 q3 q4 q5 p6 b657 b678) rfl rfl ?_
  refine waload OGc 387 X726 B at_385 rfl rfl rfl ?_
  refine wiload OGc 389 X726 B at_387 rfl rfl ?_
  refine wlaload OGc 390 X726 B hZ e726 fc0 (v := (.long (g0_6 q1 q2 q3 q4 q5 p6))) 2 (by decide) (by decide) rfl at_389 rfl ?_
  refine wlstore OGc 392 X726 B at_390 (LA0_194 q1 q2 q3 q4 q5 p6 b657 b678) rfl rfl ?_
  refine waload OGc 394 X726 B at_392 rfl rfl rfl ?_
  refine wiload OGc 396 X726 B at_394 rfl rfl ?_
  refine wlaload OGc 397 X726 B hZ e726 fc0 (v := (.long (f1 q2 (f1 q4 q5)))) 0 (by decide) (by decide) rfl at_396 rfl ?_
  refine wlstore OGc 399 X726 B at_397 (LA0_195 q1 q2 q3 q4 q5 p6 b657 b678) rfl rfl ?_
  refine waload OGc 401 X726 B at_399 rfl rfl rfl ?_
  refine wiload OGc 403 X726 B at_401 rfl rfl ?_
  refine wlaload OGc 404 X726 B hZ e726 fc0 (v := (.long (g0_3 q1 q2 q3 q4 q5 p6))) 5 (by decide) (by decide) rfl at_403 rfl ?_
  refine wlstore OGc 406 X726 B at_404 (LA0_196 q1 q2 q3 q4 q5 p6 b657 b678) rfl rfl ?_
  refine waload OGc 408 X726 B at_406 rfl rfl rfl ?_
  refine wiload OGc 410 X726 B at_408 rfl rfl ?_
  refine wlaload OGc 411 X726 B hZ e726 fc0 (v := (.long q4)) 1 (by decide) (by decide) rfl at_410 rfl ?_
  refine wlstore OGc 413 X726 B at_411 (LA0_197 q1 q2 q3 q4 q5 p6 b657 b678) rfl rfl ?_
  refine waload OGc 415 X726 B at_413 rfl rfl rfl ?_
  refine wiload OGc 417 X726 B at_415 rfl rfl ?_
  refine wlaload OGc 418 X726 B hZ e726 fc0 (v := (.long q5)) 3 (by decide) (by decide) rfl at_417 rfl ?_
  refine wlstore OGc 420 X726 B at_418 (LA0_198 q1 q2 q3 q4 q5 p6 b657 b678) rfl rfl ?_
  refine waload OGc 422 X726 B at_420 rfl rfl rfl ?_
  refine wiload OGc 424 X726 B at_422 rfl rfl ?_
  refine wlaload OGc 425 X726 B hZ e726 fc0 (v := (.long (g0_2 q1 q2 q3 q4 q5 p6))) 4 (by decide) (by decide) rfl at_424 rfl ?_
  refine wlstore OGc 427 X726 B at_425 (LA0_199 q1 q2 q3 q4 q5 p6 b657 b678) rfl rfl ?_
  refine wiload OGc 429 X726 B at_427 rfl rfl ?_
  refine wifNo OGc 432 X726 B at_429 (by decide) rfl ?_
  refine wlload OGc 434 X726 B at_432 rfl rfl ?_
  refine wlload OGc 436 X726 B at_434 rfl rfl ?_
  refine wlcmp OGc 437 X726 B at_436 rfl ?_
  by_cases c733 : (f1 q2 (f1 q4 q5)) < (g0_6 q1 q2 q3 q4 q5 p6)
  · refine wifYes OGc 476 X726 B at_437 (own_if0 (tlt ((lw_gt _ _).mpr c733)).2.2.1) rfl ?_
    refine wiconst OGc 477 X726 B at_476 0 rfl rfl ?_
    refine wistore OGc 479 X726 B at_477 (LA0_200 q1 q2 q3 q4 q5 p6 b657 b678) rfl rfl ?_
    refine wiload OGc 481 X726 B at_479 rfl rfl ?_
    refine wiconst OGc 482 X726 B at_481 1 rfl rfl ?_
    refine wicmpYes OGc 518 X726 B at_482 (by decide) rfl ?_
    refine wiload OGc 520 X726 B at_518 rfl rfl ?_
    refine wiconst OGc 521 X726 B at_520 2 rfl rfl ?_
    refine wicmpYes OGc 562 X726 B at_521 (by decide) rfl ?_
    refine wiload OGc 564 X726 B at_562 rfl rfl ?_
    refine wiconst OGc 565 X726 B at_564 3 rfl rfl ?_
    refine wicmpNo OGc 568 X726 B at_565 (by decide) rfl ?_
    refine wiload OGc 570 X726 B at_568 rfl rfl ?_
    refine wifYes OGc 612 X726 B at_570 (by decide) rfl ?_
    refine wiconst OGc 613 X726 B at_612 0 rfl rfl ?_
    refine wistore OGc 615 X726 B at_613 (LA0_200 q1 q2 q3 q4 q5 p6 b657 b678) rfl rfl ?_
    refine wiload OGc 617 X726 B at_615 rfl rfl ?_
    refine own_retZ X726 hx (t := .boolean) hret (by simp) hlk (hb hby at_617) (by decide) (by decide) (w := (0 : Int32)) rfl ?_
    exact ⟨congrArg (fun z => some (Value.int z)) (show f0 q1 q2 q3 q4 q5 p6 = (0 : Int32) from (by rw [f0, if_neg c1, if_neg c345, if_neg c528, if_pos c648, if_pos c733])).symm, N726⟩
  · refine wifNo OGc 440 X726 B at_437 (own_if0 (flt (fun q => c733 ((lw_gt _ _).mp q))).2.2.1) rfl ?_
    refine wlload OGc 442 X726 B at_440 rfl rfl ?_
    refine wlload OGc 444 X726 B at_442 rfl rfl ?_
    refine wlcmp OGc 445 X726 B at_444 rfl ?_
    by_cases c734 : (g0_3 q1 q2 q3 q4 q5 p6) < (g0_6 q1 q2 q3 q4 q5 p6)
    · refine wifYes OGc 476 X726 B at_445 (own_if0 (tlt ((lw_gt _ _).mpr c734)).2.2.1) rfl ?_
      refine wiconst OGc 477 X726 B at_476 0 rfl rfl ?_
      refine wistore OGc 479 X726 B at_477 (LA0_200 q1 q2 q3 q4 q5 p6 b657 b678) rfl rfl ?_
      refine wiload OGc 481 X726 B at_479 rfl rfl ?_
      refine wiconst OGc 482 X726 B at_481 1 rfl rfl ?_
      refine wicmpYes OGc 518 X726 B at_482 (by decide) rfl ?_
      refine wiload OGc 520 X726 B at_518 rfl rfl ?_
      refine wiconst OGc 521 X726 B at_520 2 rfl rfl ?_
      refine wicmpYes OGc 562 X726 B at_521 (by decide) rfl ?_
      refine wiload OGc 564 X726 B at_562 rfl rfl ?_
      refine wiconst OGc 565 X726 B at_564 3 rfl rfl ?_
      refine wicmpNo OGc 568 X726 B at_565 (by decide) rfl ?_
      refine wiload OGc 570 X726 B at_568 rfl rfl ?_
      refine wifYes OGc 612 X726 B at_570 (by decide) rfl ?_
      refine wiconst OGc 613 X726 B at_612 0 rfl rfl ?_
      refine wistore OGc 615 X726 B at_613 (LA0_200 q1 q2 q3 q4 q5 p6 b657 b678) rfl rfl ?_
      refine wiload OGc 617 X726 B at_615 rfl rfl ?_
      refine own_retZ X726 hx (t := .boolean) hret (by simp) hlk (hb hby at_617) (by decide) (by decide) (w := (0 : Int32)) rfl ?_
      exact ⟨congrArg (fun z => some (Value.int z)) (show f0 q1 q2 q3 q4 q5 p6 = (0 : Int32) from (by rw [f0, if_neg c1, if_neg c345, if_neg c528, if_pos c648, if_neg c733, if_pos c734])).symm, N726⟩
    · refine wifNo OGc 448 X726 B at_445 (own_if0 (flt (fun q => c734 ((lw_gt _ _).mp q))).2.2.1) rfl ?_
      refine wlload OGc 450 X726 B at_448 rfl rfl ?_
      refine wlload OGc 452 X726 B at_450 rfl rfl ?_
      refine wlcmp OGc 453 X726 B at_452 rfl ?_
      by_cases c735 : q4 < (f1 q2 (f1 q4 q5))
      · refine wifYes OGc 476 X726 B at_453 (own_if0 (tlt ((lw_gt _ _).mpr c735)).2.2.1) rfl ?_
        refine wiconst OGc 477 X726 B at_476 0 rfl rfl ?_
        refine wistore OGc 479 X726 B at_477 (LA0_200 q1 q2 q3 q4 q5 p6 b657 b678) rfl rfl ?_
        refine wiload OGc 481 X726 B at_479 rfl rfl ?_
        refine wiconst OGc 482 X726 B at_481 1 rfl rfl ?_
        refine wicmpYes OGc 518 X726 B at_482 (by decide) rfl ?_
        refine wiload OGc 520 X726 B at_518 rfl rfl ?_
        refine wiconst OGc 521 X726 B at_520 2 rfl rfl ?_
        refine wicmpYes OGc 562 X726 B at_521 (by decide) rfl ?_
        refine wiload OGc 564 X726 B at_562 rfl rfl ?_
        refine wiconst OGc 565 X726 B at_564 3 rfl rfl ?_
        refine wicmpNo OGc 568 X726 B at_565 (by decide) rfl ?_
        refine wiload OGc 570 X726 B at_568 rfl rfl ?_
        refine wifYes OGc 612 X726 B at_570 (by decide) rfl ?_
        refine wiconst OGc 613 X726 B at_612 0 rfl rfl ?_
        refine wistore OGc 615 X726 B at_613 (LA0_200 q1 q2 q3 q4 q5 p6 b657 b678) rfl rfl ?_
        refine wiload OGc 617 X726 B at_615 rfl rfl ?_
        refine own_retZ X726 hx (t := .boolean) hret (by simp) hlk (hb hby at_617) (by decide) (by decide) (w := (0 : Int32)) rfl ?_
        exact ⟨congrArg (fun z => some (Value.int z)) (show f0 q1 q2 q3 q4 q5 p6 = (0 : Int32) from (by rw [f0, if_neg c1, if_neg c345, if_neg c528, if_pos c648, if_neg c733, if_neg c734, if_pos c735])).symm, N726⟩
      · refine wifNo OGc 456 X726 B at_453 (own_if0 (flt (fun q => c735 ((lw_gt _ _).mp q))).2.2.1) rfl ?_
        refine wlload OGc 458 X726 B at_456 rfl rfl ?_
        refine wlload OGc 460 X726 B at_458 rfl rfl ?_
        refine wlcmp OGc 461 X726 B at_460 rfl ?_
        by_cases c736 : q5 < (f1 q2 (f1 q4 q5))
        · refine wifYes OGc 476 X726 B at_461 (own_if0 (tlt ((lw_gt _ _).mpr c736)).2.2.1) rfl ?_
          refine wiconst OGc 477 X726 B at_476 0 rfl rfl ?_
          refine wistore OGc 479 X726 B at_477 (LA0_200 q1 q2 q3 q4 q5 p6 b657 b678) rfl rfl ?_
          refine wiload OGc 481 X726 B at_479 rfl rfl ?_
          refine wiconst OGc 482 X726 B at_481 1 rfl rfl ?_
          refine wicmpYes OGc 518 X726 B at_482 (by decide) rfl ?_
          refine wiload OGc 520 X726 B at_518 rfl rfl ?_
          refine wiconst OGc 521 X726 B at_520 2 rfl rfl ?_
          refine wicmpYes OGc 562 X726 B at_521 (by decide) rfl ?_
          refine wiload OGc 564 X726 B at_562 rfl rfl ?_
          refine wiconst OGc 565 X726 B at_564 3 rfl rfl ?_
          refine wicmpNo OGc 568 X726 B at_565 (by decide) rfl ?_
          refine wiload OGc 570 X726 B at_568 rfl rfl ?_
          refine wifYes OGc 612 X726 B at_570 (by decide) rfl ?_
          refine wiconst OGc 613 X726 B at_612 0 rfl rfl ?_
          refine wistore OGc 615 X726 B at_613 (LA0_200 q1 q2 q3 q4 q5 p6 b657 b678) rfl rfl ?_
          refine wiload OGc 617 X726 B at_615 rfl rfl ?_
          refine own_retZ X726 hx (t := .boolean) hret (by simp) hlk (hb hby at_617) (by decide) (by decide) (w := (0 : Int32)) rfl ?_
          exact ⟨congrArg (fun z => some (Value.int z)) (show f0 q1 q2 q3 q4 q5 p6 = (0 : Int32) from (by rw [f0, if_neg c1, if_neg c345, if_neg c528, if_pos c648, if_neg c733, if_neg c734, if_neg c735, if_pos c736])).symm, N726⟩
        · refine wifNo OGc 464 X726 B at_461 (own_if0 (flt (fun q => c736 ((lw_gt _ _).mp q))).2.2.1) rfl ?_
          refine wlload OGc 466 X726 B at_464 rfl rfl ?_
          refine wlload OGc 468 X726 B at_466 rfl rfl ?_
          refine wlcmp OGc 469 X726 B at_468 rfl ?_
          by_cases c737 : (g0_2 q1 q2 q3 q4 q5 p6) < (g0_3 q1 q2 q3 q4 q5 p6)
          · refine wifYes OGc 476 X726 B at_469 (own_if0 (tlt ((lw_gt _ _).mpr c737)).2.2.1) rfl ?_
            refine wiconst OGc 477 X726 B at_476 0 rfl rfl ?_
            refine wistore OGc 479 X726 B at_477 (LA0_200 q1 q2 q3 q4 q5 p6 b657 b678) rfl rfl ?_
            refine wiload OGc 481 X726 B at_479 rfl rfl ?_
            refine wiconst OGc 482 X726 B at_481 1 rfl rfl ?_
            refine wicmpYes OGc 518 X726 B at_482 (by decide) rfl ?_
            refine wiload OGc 520 X726 B at_518 rfl rfl ?_
            refine wiconst OGc 521 X726 B at_520 2 rfl rfl ?_
            refine wicmpYes OGc 562 X726 B at_521 (by decide) rfl ?_
            refine wiload OGc 564 X726 B at_562 rfl rfl ?_
            refine wiconst OGc 565 X726 B at_564 3 rfl rfl ?_
            refine wicmpNo OGc 568 X726 B at_565 (by decide) rfl ?_
            refine wiload OGc 570 X726 B at_568 rfl rfl ?_
            refine wifYes OGc 612 X726 B at_570 (by decide) rfl ?_
            refine wiconst OGc 613 X726 B at_612 0 rfl rfl ?_
            refine wistore OGc 615 X726 B at_613 (LA0_200 q1 q2 q3 q4 q5 p6 b657 b678) rfl rfl ?_
            refine wiload OGc 617 X726 B at_615 rfl rfl ?_
            refine own_retZ X726 hx (t := .boolean) hret (by simp) hlk (hb hby at_617) (by decide) (by decide) (w := (0 : Int32)) rfl ?_
            exact ⟨congrArg (fun z => some (Value.int z)) (show f0 q1 q2 q3 q4 q5 p6 = (0 : Int32) from (by rw [f0, if_neg c1, if_neg c345, if_neg c528, if_pos c648, if_neg c733, if_neg c734, if_neg c735, if_neg c736, if_pos c737])).symm, N726⟩
          · refine wifNo OGc 472 X726 B at_469 (own_if0 (flt (fun q => c737 ((lw_gt _ _).mp q))).2.2.1) rfl ?_
            refine wiconst OGc 473 X726 B at_472 1 rfl rfl ?_
            refine wgoto OGc 477 X726 B at_473 rfl ?_
            refine wistore OGc 479 X726 B at_477 (LA0_199 q1 q2 q3 q4 q5 p6 b657 b678) rfl rfl ?_
            refine wiload OGc 481 X726 B at_479 rfl rfl ?_
            refine wiconst OGc 482 X726 B at_481 1 rfl rfl ?_
            refine wicmpYes OGc 518 X726 B at_482 (by decide) rfl ?_
            refine wiload OGc 520 X726 B at_518 rfl rfl ?_
            refine wiconst OGc 521 X726 B at_520 2 rfl rfl ?_
            refine wicmpYes OGc 562 X726 B at_521 (by decide) rfl ?_
            refine wiload OGc 564 X726 B at_562 rfl rfl ?_
            refine wiconst OGc 565 X726 B at_564 3 rfl rfl ?_
            refine wicmpNo OGc 568 X726 B at_565 (by decide) rfl ?_
            refine wiload OGc 570 X726 B at_568 rfl rfl ?_
            refine wifNo OGc 573 X726 B at_570 (by decide) rfl ?_
            refine wiload OGc 575 X726 B at_573 rfl rfl ?_
            refine wiconst OGc 576 X726 B at_575 2 rfl rfl ?_
            refine wicmpNo OGc 579 X726 B at_576 (by decide) rfl ?_
            refine wiload OGc 581 X726 B at_579 rfl rfl ?_
            refine wifNo OGc 584 X726 B at_581 (by decide) rfl ?_
            refine wiload OGc 586 X726 B at_584 rfl rfl ?_
            refine wiconst OGc 587 X726 B at_586 5 rfl rfl ?_
            refine wicmpNo OGc 590 X726 B at_587 (by decide) rfl ?_
            refine wiload OGc 592 X726 B at_590 rfl rfl ?_
            refine wiconst OGc 593 X726 B at_592 1 rfl rfl ?_
            refine wicmpNo OGc 596 X726 B at_593 (by decide) rfl ?_
            refine wiload OGc 598 X726 B at_596 rfl rfl ?_
            refine wiconst OGc 599 X726 B at_598 3 rfl rfl ?_
            refine wicmpNo OGc 602 X726 B at_599 (by decide) rfl ?_
            refine wiload OGc 604 X726 B at_602 rfl rfl ?_
            refine wiconst OGc 605 X726 B at_604 4 rfl rfl ?_
            refine wicmpNo OGc 608 X726 B at_605 (by decide) rfl ?_
            refine wiconst OGc 609 X726 B at_608 1 rfl rfl ?_
            refine wgoto OGc 613 X726 B at_609 rfl ?_
            refine wistore OGc 615 X726 B at_613 (LA0_199 q1 q2 q3 q4 q5 p6 b657 b678) rfl rfl ?_
            refine wiload OGc 617 X726 B at_615 rfl rfl ?_
            refine own_retZ X726 hx (t := .boolean) hret (by simp) hlk (hb hby at_617) (by decide) (by decide) (w := (1 : Int32)) rfl ?_
            exact ⟨congrArg (fun z => some (Value.int z)) (show f0 q1 q2 q3 q4 q5 p6 = (1 : Int32) from (by rw [f0, if_neg c1, if_neg c345, if_neg c528, if_pos c648, if_neg c733, if_neg c734, if_neg c735, if_neg c736, if_neg c737])).symm, N726⟩
set_option maxRecDepth 65536 in
set_option maxHeartbeats 40000000 in
theorem tl0_19 (l : Launch) (Z : State) (a0 : Array Value) (hw : ∀ d ∈ tables_1, d.before a0 Z = true) (q1 : Int64) (q2 : Int64) (q3 : Int64) (q4 : Int64) (q5 : Int64) (p6 : Int32) (h0 : Heap) (n0 : Nat) (Z0 : n0 ≤ h0.size) (p : Program) (e : Env) (s : State) (m : MethodId) (below : List Frame) (meth : Method) (c : Code) (hx : p.tables.exec = Jvm.exec) (hby : c.code = code) (hml : c.maxLocals = 46) (hown : s.vm.findClass "com/example/fragmark/fragmark/PhraseMatcherSiftDownPinLaw" = some m.cls) (hret : meth.sig.returnType = ret) (hlk : meth.locks = false) (hZ : Z.Warmed39 s.vm)  (s₁ : State) (locs : List Loc) (xc : Stand p l e room_1 s m #[(.long q1), (.long q2), (.long q3), (.long q4), (.long q5), (.int p6)] below meth c s₁ locs 0 0)  (ec : s₁.heap = h0) (nc : Fr n0 locs) (kc : Keep h0 h0 [])     (c1 : ¬ ((g0_1 q1 q2 q3 q4 q5 p6) = (0 : Int32))) (c345 : ¬ ((g0_1 q1 q2 q3 q4 q5 p6) = (1 : Int32))) (c528 : ¬ ((g0_1 q1 q2 q3 q4 q5 p6) = (2 : Int32))) (c648 : (g0_1 q1 q2 q3 q4 q5 p6) = (3 : Int32)) :
    OG p e room_1 s below (fun v h L => v = some (.int (f0 q1 q2 q3 q4 q5 p6)) ∧ Fr n0 L) s₁ (mkF m 8 (LA0_177 q1 q2 q3 q4 q5 p6) [(.long q4)]) := by
  have B := And.intro hx hby
  refine wlstore OGc 10 xc B at_8 (LA0_178 q1 q2 q3 q4 q5 p6) rfl rfl ?_
  refine wlload OGc 12 xc B at_10 rfl rfl ?_
  refine wlstore OGc 14 xc B at_12 (LA0_179 q1 q2 q3 q4 q5 p6) rfl rfl ?_
  refine wiload OGc 16 xc B at_14 rfl rfl ?_
  refine wiconst OGc 17 xc B at_16 2 rfl rfl ?_
  refine own_st (fun t k => XS.ishr xc.here hx rfl (hb hby at_17) rfl k) ?_
  show OG p e _ s below _ s₁ (mkF m 18 (LA0_179 q1 q2 q3 q4 q5 p6) [(.int (p6 >>> ((2 : Int32) &&& 31)))])
  refine own_st (fun t k => XS.i2l xc.here hx rfl (hb hby at_18) rfl k) ?_
  show OG p e _ s below _ s₁ (mkF m 19 (LA0_179 q1 q2 q3 q4 q5 p6) [(.long ((p6 >>> ((2 : Int32) &&& 31)).toInt64))])
  refine wlstore OGc 21 xc B at_19 (LA0_180 q1 q2 q3 q4 q5 p6) rfl rfl ?_
  refine wiload OGc 23 xc B at_21 rfl rfl ?_
  refine wiconst OGc 24 xc B at_23 1 rfl rfl ?_
  refine wicmpYes OGc 31 xc B at_24 (by decide) rfl ?_
  refine wlloadN OGc 32 xc B at_31 rfl rfl ?_
  refine wlload OGc 34 xc B at_32 rfl rfl ?_
  refine wlload OGc 36 xc B at_34 rfl rfl ?_
  refine wstat OGc 39 xc B hZ hown (ow hw 0 rfl) (ow hw 1 rfl) (ow hw 3 rfl) (ow hw 2 rfl) ec (rm1 l Z a0 hw [] q4 q5 h0) 2 (by decide) (by decide) hml rfl (lenOf pd__JJ_J rfl) [(.long q2)] rfl rfl at_36 rfl fun _ T649 L649 X649 hQ649 => ?_
  obtain ⟨rfl, rfl, e649⟩ := hQ649
  have N649 := Fr.app nc (Fr.nil n0)
  refine own_stk (S' := [(.long (f1 q4 q5)), (.long q2)]) rfl ?_
  refine wstat OGc 42 X649 B hZ hown (ow hw 0 rfl) (ow hw 1 rfl) (ow hw 3 rfl) (ow hw 2 rfl) e649 (rm1 l Z a0 hw [] q2 (f1 q4 q5) h0) 0 (by decide) (by decide) hml rfl (lenOf pd__JJ_J rfl) [] rfl rfl at_39 rfl fun _ T650 L650 X650 hQ650 => ?_
  obtain ⟨rfl, rfl, e650⟩ := hQ650
  have N650 := Fr.app N649 (Fr.nil n0)
  refine own_stk (S' := [(.long (f1 q2 (f1 q4 q5)))]) rfl ?_
  refine wlstore OGc 44 X650 B at_42 (LA0_181 q1 q2 q3 q4 q5 p6) rfl rfl ?_
  refine wiload OGc 46 X650 B at_44 rfl rfl ?_
  refine wiconst OGc 47 X650 B at_46 2 rfl rfl ?_
  refine wicmpYes OGc 55 X650 B at_47 (by decide) rfl ?_
  refine wlload OGc 57 X650 B at_55 rfl rfl ?_
  refine wlload OGc 59 X650 B at_57 rfl rfl ?_
  refine wstat OGc 62 X650 B hZ hown (ow hw 0 rfl) (ow hw 1 rfl) (ow hw 3 rfl) (ow hw 2 rfl) e650 (rm1 l Z a0 hw [] q3 (g0_2 q1 q2 q3 q4 q5 p6) h0) 0 (by decide) (by decide) hml rfl (lenOf pd__JJ_J rfl) [] rfl rfl at_59 rfl fun _ T651 L651 X651 hQ651 => ?_
  obtain ⟨rfl, rfl, e651⟩ := hQ651
  have N651 := Fr.app N650 (Fr.nil n0)
  refine own_stk (S' := [(.long (f1 q3 (g0_2 q1 q2 q3 q4 q5 p6)))]) rfl ?_
  refine wlstore OGc 64 X651 B at_62 (LA0_182 q1 q2 q3 q4 q5 p6) rfl rfl ?_
  refine wiload OGc 66 X651 B at_64 rfl rfl ?_
  refine wifYes OGc 73 X651 B at_66 (by decide) rfl ?_
  refine wlloadN OGc 74 X651 B at_73 rfl rfl ?_
  refine wlload OGc 76 X651 B at_74 rfl rfl ?_
  refine wstat OGc 79 X651 B hZ hown (ow hw 0 rfl) (ow hw 1 rfl) (ow hw 3 rfl) (ow hw 2 rfl) e651 (rm1 l Z a0 hw [] q1 (f1 q2 (f1 q4 q5)) h0) 0 (by decide) (by decide) hml rfl (lenOf pd__JJ_J rfl) [] rfl rfl at_76 rfl fun _ T652 L652 X652 hQ652 => ?_
  obtain ⟨rfl, rfl, e652⟩ := hQ652
  have N652 := Fr.app N651 (Fr.nil n0)
  refine own_stk (S' := [(.long (f1 q1 (f1 q2 (f1 q4 q5))))]) rfl ?_
  refine wlload OGc 81 X652 B at_79 rfl rfl ?_
  refine wlload OGc 83 X652 B at_81 rfl rfl ?_
  refine wlload OGc 85 X652 B at_83 rfl rfl ?_
  refine wlload OGc 87 X652 B at_85 rfl rfl ?_
  refine wstat OGc 90 X652 B hZ hown (ow hw 0 rfl) (ow hw 1 rfl) (ow hw 3 rfl) (ow hw 2 rfl) e652 (rm1 l Z a0 hw [] q5 (g0_2 q1 q2 q3 q4 q5 p6) h0) 6 (by decide) (by decide) hml rfl (lenOf pd__JJ_J rfl) [(.long q4), (.long (g0_3 q1 q2 q3 q4 q5 p6)), (.long (f1 q1 (f1 q2 (f1 q4 q5))))] rfl rfl at_87 rfl fun _ T653 L653 X653 hQ653 => ?_
  obtain ⟨rfl, rfl, e653⟩ := hQ653
  have N653 := Fr.app N652 (Fr.nil n0)
  refine own_stk (S' := [(.long (f1 q5 (g0_2 q1 q2 q3 q4 q5 p6))), (.long q4), (.long (g0_3 q1 q2 q3 q4 q5 p6)), (.long (f1 q1 (f1 q2 (f1 q4 q5))))]) rfl ?_
  refine wstat OGc 93 X653 B hZ hown (ow hw 0 rfl) (ow hw 1 rfl) (ow hw 3 rfl) (ow hw 2 rfl) e653 (rm1 l Z a0 hw [] q4 (f1 q5 (g0_2 q1 q2 q3 q4 q5 p6)) h0) 4 (by decide) (by decide) hml rfl (lenOf pd__JJ_J rfl) [(.long (g0_3 q1 q2 q3 q4 q5 p6)), (.long (f1 q1 (f1 q2 (f1 q4 q5))))] rfl rfl at_90 rfl fun _ T654 L654 X654 hQ654 => ?_
  obtain ⟨rfl, rfl, e654⟩ := hQ654
  have N654 := Fr.app N653 (Fr.nil n0)
  refine own_stk (S' := [(.long (f1 q4 (f1 q5 (g0_2 q1 q2 q3 q4 q5 p6)))), (.long (g0_3 q1 q2 q3 q4 q5 p6)), (.long (f1 q1 (f1 q2 (f1 q4 q5))))]) rfl ?_
  refine wstat OGc 96 X654 B hZ hown (ow hw 0 rfl) (ow hw 1 rfl) (ow hw 3 rfl) (ow hw 2 rfl) e654 (rm1 l Z a0 hw [] (g0_3 q1 q2 q3 q4 q5 p6) (f1 q4 (f1 q5 (g0_2 q1 q2 q3 q4 q5 p6))) h0) 2 (by decide) (by decide) hml rfl (lenOf pd__JJ_J rfl) [(.long (f1 q1 (f1 q2 (f1 q4 q5))))] rfl rfl at_93 rfl fun _ T655 L655 X655 hQ655 => ?_
  obtain ⟨rfl, rfl, e655⟩ := hQ655
  have N655 := Fr.app N654 (Fr.nil n0)
  refine own_stk (S' := [(.long (f1 (g0_3 q1 q2 q3 q4 q5 p6) (f1 q4 (f1 q5 (g0_2 q1 q2 q3 q4 q5 p6))))), (.long (f1 q1 (f1 q2 (f1 q4 q5))))]) rfl ?_
  refine wstat OGc 99 X655 B hZ hown (ow hw 0 rfl) (ow hw 1 rfl) (ow hw 3 rfl) (ow hw 2 rfl) e655 (rm1 l Z a0 hw [] (f1 q1 (f1 q2 (f1 q4 q5))) (f1 (g0_3 q1 q2 q3 q4 q5 p6) (f1 q4 (f1 q5 (g0_2 q1 q2 q3 q4 q5 p6)))) h0) 0 (by decide) (by decide) hml rfl (lenOf pd__JJ_J rfl) [] rfl rfl at_96 rfl fun _ T656 L656 X656 hQ656 => ?_
  obtain ⟨rfl, rfl, e656⟩ := hQ656
  have N656 := Fr.app N655 (Fr.nil n0)
  refine own_stk (S' := [(.long (f1 (f1 q1 (f1 q2 (f1 q4 q5))) (f1 (g0_3 q1 q2 q3 q4 q5 p6) (f1 q4 (f1 q5 (g0_2 q1 q2 q3 q4 q5 p6))))))]) rfl ?_
  refine wlstore OGc 101 X656 B at_99 (LA0_183 q1 q2 q3 q4 q5 p6) rfl rfl ?_
  refine wbipush OGc 103 X656 B at_101 6 rfl rfl ?_
  refine wnewP OGc 105 X656 B hZ (ow hw 4 rfl) e656 at_103 6 (by decide) (by decide) rfl fun T657 h657 b657 k657 gb657 X657 e657 E657 A657 => ?_
  have ge_b657 : n0 ≤ b657 := by rw [gb657]; exact Nat.le_trans Z0 kc.1
  have sz_b657 : h0.size ≤ b657 := by rw [gb657]; exact kc.1
  have K658 := kc.ext E657
  have F659 : OA Z h657 b657 .int [(.int (0 : Int32)), (.int (0 : Int32)), (.int (0 : Int32)), (.int (0 : Int32)), (.int (0 : Int32)), (.int (0 : Int32))] := OA.new A657
  refine wdup OGc 106 X657 B at_105 rfl rfl ?_
  refine wiconst OGc 107 X657 B at_106 0 rfl rfl ?_
  refine wiconst OGc 108 X657 B at_107 2 rfl rfl ?_
  refine wstI OGc 109 X657 B hZ e657 F659 0 (by decide) (by decide) (by decide : 0 < 6) at_108 rfl fun T660 h660 X660 e660 W660 => ?_
  have N660 := Fr.snoc X660 N656 ge_b657
  have K661 := K658.wr W660 (Or.inr sz_b657)
  have F662 : OA Z h660 b657 .int [(.int (2 : Int32)), (.int (0 : Int32)), (.int (0 : Int32)), (.int (0 : Int32)), (.int (0 : Int32)), (.int (0 : Int32))] := (F659.set W660 (i := 0) (by decide))
  refine wdup OGc 110 X660 B at_109 rfl rfl ?_
  refine wiconst OGc 111 X660 B at_110 1 rfl rfl ?_
  refine wiconst OGc 112 X660 B at_111 0 rfl rfl ?_
  refine wstI OGc 113 X660 B hZ e660 F662 1 (by decide) (by decide) (by decide : 1 < 6) at_112 rfl fun T663 h663 X663 e663 W663 => ?_
  have N663 := Fr.snoc X663 N660 ge_b657
  have K664 := K661.wr W663 (Or.inr sz_b657)
  have F665 : OA Z h663 b657 .int [(.int (2 : Int32)), (.int (0 : Int32)), (.int (0 : Int32)), (.int (0 : Int32)), (.int (0 : Int32)), (.int (0 : Int32))] := (F662.set W663 (i := 1) (by decide))
  refine wdup OGc 114 X663 B at_113 rfl rfl ?_
  refine wiconst OGc 115 X663 B at_114 2 rfl rfl ?_
  refine wiconst OGc 116 X663 B at_115 5 rfl rfl ?_
  refine wstI OGc 117 X663 B hZ e663 F665 2 (by decide) (by decide) (by decide : 2 < 6) at_116 rfl fun T666 h666 X666 e666 W666 => ?_
  have N666 := Fr.snoc X666 N663 ge_b657
  have K667 := K664.wr W666 (Or.inr sz_b657)
  have F668 : OA Z h666 b657 .int [(.int (2 : Int32)), (.int (0 : Int32)), (.int (5 : Int32)), (.int (0 : Int32)), (.int (0 : Int32)), (.int (0 : Int32))] := (F665.set W666 (i := 2) (by decide))
  refine wdup OGc 118 X666 B at_117 rfl rfl ?_
  refine wiconst OGc 119 X666 B at_118 3 rfl rfl ?_
  refine wiconst OGc 120 X666 B at_119 1 rfl rfl ?_
  refine wstI OGc 121 X666 B hZ e666 F668 3 (by decide) (by decide) (by decide : 3 < 6) at_120 rfl fun T669 h669 X669 e669 W669 => ?_
  have N669 := Fr.snoc X669 N666 ge_b657
  have K670 := K667.wr W669 (Or.inr sz_b657)
  have F671 : OA Z h669 b657 .int [(.int (2 : Int32)), (.int (0 : Int32)), (.int (5 : Int32)), (.int (1 : Int32)), (.int (0 : Int32)), (.int (0 : Int32))] := (F668.set W669 (i := 3) (by decide))
  refine wdup OGc 122 X669 B at_121 rfl rfl ?_
  refine wiconst OGc 123 X669 B at_122 4 rfl rfl ?_
  refine wiconst OGc 124 X669 B at_123 3 rfl rfl ?_
  refine wstI OGc 125 X669 B hZ e669 F671 4 (by decide) (by decide) (by decide : 4 < 6) at_124 rfl fun T672 h672 X672 e672 W672 => ?_
  have N672 := Fr.snoc X672 N669 ge_b657
  have K673 := K670.wr W672 (Or.inr sz_b657)
  have F674 : OA Z h672 b657 .int [(.int (2 : Int32)), (.int (0 : Int32)), (.int (5 : Int32)), (.int (1 : Int32)), (.int (3 : Int32)), (.int (0 : Int32))] := (F671.set W672 (i := 4) (by decide))
  refine wdup OGc 126 X672 B at_125 rfl rfl ?_
  refine wiconst OGc 127 X672 B at_126 5 rfl rfl ?_
  refine wiconst OGc 128 X672 B at_127 4 rfl rfl ?_
  refine wstI OGc 129 X672 B hZ e672 F674 5 (by decide) (by decide) (by decide : 5 < 6) at_128 rfl fun T675 h675 X675 e675 W675 => ?_
  have N675 := Fr.snoc X675 N672 ge_b657
  have K676 := K673.wr W675 (Or.inr sz_b657)
  have F677 : OA Z h675 b657 .int [(.int (2 : Int32)), (.int (0 : Int32)), (.int (5 : Int32)), (.int (1 : Int32)), (.int (3 : Int32)), (.int (4 : Int32))] := (F674.set W675 (i := 5) (by decide))
  refine wastore OGc 131 X675 B at_129 (LA0_184 q1 q2 q3 q4 q5 p6 b657) rfl rfl rfl ?_
  refine wbipush OGc 133 X675 B at_131 6 rfl rfl ?_
  refine wnewP OGc 135 X675 B hZ (ow hw 5 rfl) e675 at_133 6 (by decide) (by decide) rfl fun T678 h678 b678 k678 gb678 X678 e678 E678 A678 => ?_
  have ge_b678 : n0 ≤ b678 := by rw [gb678]; exact Nat.le_trans Z0 K676.1
  have sz_b678 : h0.size ≤ b678 := by rw [gb678]; exact K676.1
  have ne_b657_b678 : b657 ≠ b678 := Nat.ne_of_lt (Nat.lt_of_lt_of_eq F677.lt gb678.symm)
  have F679 := F677.ext E678
  have K680 := K676.ext E678
  have F681 : OA Z h678 b678 .long [(.long (0 : Int64)), (.long (0 : Int64)), (.long (0 : Int64)), (.long (0 : Int64)), (.long (0 : Int64)), (.long (0 : Int64))] := OA.new A678
  refine wastore OGc 137 X678 B at_135 (LA0_185 q1 q2 q3 q4 q5 p6 b657 b678) rfl rfl rfl ?_
  refine waload OGc 139 X678 B at_137 rfl rfl rfl ?_
  refine wiconst OGc 140 X678 B at_139 2 rfl rfl ?_
  refine wlload OGc 142 X678 B at_140 rfl rfl ?_
  refine wstJ OGc 143 X678 B hZ e678 F681 2 (by decide) (by decide) (by decide : 2 < 6) at_142 rfl fun T682 h682 X682 e682 W682 => ?_
  have N682 := Fr.snoc X682 N675 ge_b678
  have K683 := K680.wr W682 (Or.inr sz_b678)
  have F684 := F679.other W682 ne_b657_b678
  have F685 : OA Z h682 b678 .long [(.long (0 : Int64)), (.long (0 : Int64)), (.long (g0_6 q1 q2 q3 q4 q5 p6)), (.long (0 : Int64)), (.long (0 : Int64)), (.long (0 : Int64))] := (F681.set W682 (i := 2) (by decide))
  refine waload OGc 145 X682 B at_143 rfl rfl rfl ?_
  refine wiconst OGc 146 X682 B at_145 0 rfl rfl ?_
  refine wlload OGc 148 X682 B at_146 rfl rfl ?_
  refine wstJ OGc 149 X682 B hZ e682 F685 0 (by decide) (by decide) (by decide : 0 < 6) at_148 rfl fun T686 h686 X686 e686 W686 => ?_
  have N686 := Fr.snoc X686 N682 ge_b678
  have K687 := K683.wr W686 (Or.inr sz_b678)
  have F688 := F684.other W686 ne_b657_b678
  have F689 : OA Z h686 b678 .long [(.long (f1 q2 (f1 q4 q5))), (.long (0 : Int64)), (.long (g0_6 q1 q2 q3 q4 q5 p6)), (.long (0 : Int64)), (.long (0 : Int64)), (.long (0 : Int64))] := (F685.set W686 (i := 0) (by decide))
  refine waload OGc 151 X686 B at_149 rfl rfl rfl ?_
  refine wiconst OGc 152 X686 B at_151 5 rfl rfl ?_
  refine wlload OGc 154 X686 B at_152 rfl rfl ?_
  refine wstJ OGc 155 X686 B hZ e686 F689 5 (by decide) (by decide) (by decide : 5 < 6) at_154 rfl fun T690 h690 X690 e690 W690 => ?_
  have N690 := Fr.snoc X690 N686 ge_b678
  have K691 := K687.wr W690 (Or.inr sz_b678)
  have F692 := F688.other W690 ne_b657_b678
  have F693 : OA Z h690 b678 .long [(.long (f1 q2 (f1 q4 q5))), (.long (0 : Int64)), (.long (g0_6 q1 q2 q3 q4 q5 p6)), (.long (0 : Int64)), (.long (0 : Int64)), (.long (g0_3 q1 q2 q3 q4 q5 p6))] := (F689.set W690 (i := 5) (by decide))
  refine waload OGc 157 X690 B at_155 rfl rfl rfl ?_
  refine wiconst OGc 158 X690 B at_157 1 rfl rfl ?_
  refine wlload OGc 160 X690 B at_158 rfl rfl ?_
  refine wstJ OGc 161 X690 B hZ e690 F693 1 (by decide) (by decide) (by decide : 1 < 6) at_160 rfl fun T694 h694 X694 e694 W694 => ?_
  have N694 := Fr.snoc X694 N690 ge_b678
  have K695 := K691.wr W694 (Or.inr sz_b678)
  have F696 := F692.other W694 ne_b657_b678
  have F697 : OA Z h694 b678 .long [(.long (f1 q2 (f1 q4 q5))), (.long q4), (.long (g0_6 q1 q2 q3 q4 q5 p6)), (.long (0 : Int64)), (.long (0 : Int64)), (.long (g0_3 q1 q2 q3 q4 q5 p6))] := (F693.set W694 (i := 1) (by decide))
  refine waload OGc 163 X694 B at_161 rfl rfl rfl ?_
  refine wiconst OGc 164 X694 B at_163 3 rfl rfl ?_
  refine wlload OGc 166 X694 B at_164 rfl rfl ?_
  refine wstJ OGc 167 X694 B hZ e694 F697 3 (by decide) (by decide) (by decide : 3 < 6) at_166 rfl fun T698 h698 X698 e698 W698 => ?_
  have N698 := Fr.snoc X698 N694 ge_b678
  have K699 := K695.wr W698 (Or.inr sz_b678)
  have F700 := F696.other W698 ne_b657_b678
  have F701 : OA Z h698 b678 .long [(.long (f1 q2 (f1 q4 q5))), (.long q4), (.long (g0_6 q1 q2 q3 q4 q5 p6)), (.long q5), (.long (0 : Int64)), (.long (g0_3 q1 q2 q3 q4 q5 p6))] := (F697.set W698 (i := 3) (by decide))
  refine waload OGc 169 X698 B at_167 rfl rfl rfl ?_
  refine wiconst OGc 170 X698 B at_169 4 rfl rfl ?_
  refine wlload OGc 172 X698 B at_170 rfl rfl ?_
  refine wstJ OGc 173 X698 B hZ e698 F701 4 (by decide) (by decide) (by decide : 4 < 6) at_172 rfl fun T702 h702 X702 e702 W702 => ?_
  have N702 := Fr.snoc X702 N698 ge_b678
  have K703 := K699.wr W702 (Or.inr sz_b678)
  have F704 := F700.other W702 ne_b657_b678
  have F705 : OA Z h702 b678 .long [(.long (f1 q2 (f1 q4 q5))), (.long q4), (.long (g0_6 q1 q2 q3 q4 q5 p6)), (.long q5), (.long (g0_2 q1 q2 q3 q4 q5 p6)), (.long (g0_3 q1 q2 q3 q4 q5 p6))] := (F701.set W702 (i := 4) (by decide))
  refine waload OGc 175 X702 B at_173 rfl rfl rfl ?_
  refine waload OGc 177 X702 B at_175 rfl rfl rfl ?_
  refine wiload OGc 179 X702 B at_177 rfl rfl ?_
  refine wstat OGc 182 X702 B hZ hown (ow hw 6 rfl) (ow hw 7 rfl) (ow hw 9 rfl) (ow hw 8 rfl) e702 (rm2_3 l Z a0 hw [] b657 b678 (f1 q2 (f1 q4 q5)) q4 (g0_6 q1 q2 q3 q4 q5 p6) q5 (g0_2 q1 q2 q3 q4 q5 p6) (g0_3 q1 q2 q3 q4 q5 p6) h702 n0 F704 F705 ge_b657 (Ne.symm ne_b657_b678)) 0 (by decide) (by decide) hml rfl (lenOf pd___I_JI_V rfl) [] rfl rfl at_179 rfl fun _ T706 L706 X706 hQ706 => ?_
  obtain ⟨rfl, N706q, K706q, hD706⟩ := hQ706
  have N706 := Fr.app N702 N706q
  have K706 := K703.trans K706q (own_all1 (Or.inr sz_b657))
  have F707 := F705.keep K706q (own_nin1 (Ne.symm ne_b657_b678))
  have F708 := hD706
  refine own_stk (S' := []) rfl ?_
  exact tl0_20 l Z a0 hw q1 q2 q3 q4 q5 p6 h0 n0 Z0 p e s m below meth c hx hby hml hown hret hlk hZ b657 b678 T706 _ X706 N706 K706 ge_b657 ge_b678 sz_b657 sz_b678 ne_b657_b678 F707 F708 c1 c345 c528 c648
abbrev Q0 (Z : State) (q1 : Int64) (q2 : Int64) (q3 : Int64) (q4 : Int64) (q5 : Int64) (p6 : Int32) (h0 : Heap) (n0 : Nat) : Option Value → Heap → List Loc → Prop := (fun v h L => v = some (.int (f0 q1 q2 q3 q4 q5 p6)) ∧ Fr n0 L)
set_option maxRecDepth 65536 in
set_option maxHeartbeats 40000000 in
theorem rm0 (l : Launch) (Z : State) (a0 : Array Value) (hw : ∀ d ∈ tables_1, d.before a0 Z = true) (ws : List Jvm.Cond) (q1 : Int64) (q2 : Int64) (q3 : Int64) (q4 : Int64) (q5 : Int64) (p6 : Int32) (h0 : Heap) (n0 : Nat) (Z0 : n0 ≤ h0.size) :
    OMet l Z x code maxLocals ret ws room_1 #[(.long q1), (.long q2), (.long q3), (.long q4), (.long q5), (.int p6)] h0 (Q0 Z q1 q2 q3 q4 q5 p6 h0 n0) := by
  refine own_enter pn_0 ?_
  intro p e s m below meth c s₁ hx hby hml0 hown hret hlk hnm hZ X0 e0
  have hml : c.maxLocals = 46 := hml0
  have B : BX p c code := ⟨hx, hby⟩
  have N0 := Fr.nil n0
  refine own_cast (ef_0 m q1 q2 q3 q4 q5 p6) ?_
  show OG p e room_1 s below (fun v h L => v = some (.int (f0 q1 q2 q3 q4 q5 p6)) ∧ Fr n0 L) s₁ (mkF m 0 (LA0_201 q1 q2 q3 q4 q5 p6) [])
  refine wiload OGc 2 X0 B at_0 rfl rfl ?_
  refine wiconst OGc 3 X0 B at_2 3 rfl rfl ?_
  refine wiand OGc 4 X0 B at_3 rfl ?_
  refine wistore OGc 6 X0 B at_4 (LA0_0 q1 q2 q3 q4 q5 p6) rfl rfl ?_
  by_cases c1 : (g0_1 q1 q2 q3 q4 q5 p6) = (0 : Int32)
  · show OG p e _ s below _ s₁ (mkF m 6 #[.val (.long q1), .second, .val (.long q2), .second, .val (.long q3), .second, .val (.long q4), .second, .val (.long q5), .second, .val (.int p6), .val (.int (g0_1 q1 q2 q3 q4 q5 p6)), .unset, .unset, .unset, .unset, .unset, .unset, .unset, .unset, .unset, .unset, .unset, .unset, .unset, .unset, .unset, .unset, .unset, .unset, .unset, .unset, .unset, .unset, .unset, .unset, .unset, .unset, .unset, .unset, .unset, .unset, .unset, .unset, .unset, .unset] [])
    rw [c1]
    show OG p e _ s below _ s₁ (mkF m 6 (LA0_1 q1 q2 q3 q4 q5 p6) [])
    refine wlload OGc 8 X0 B at_6 rfl rfl ?_
    exact tl0_1 l Z a0 hw q1 q2 q3 q4 q5 p6 h0 n0 Z0 p e s m below meth c hx hby hml hown hret hlk hZ  s₁ _ X0 e0 N0 (Keep.refl h0 []) c1
  · skip
    by_cases c345 : (g0_1 q1 q2 q3 q4 q5 p6) = (1 : Int32)
    · show OG p e _ s below _ s₁ (mkF m 6 #[.val (.long q1), .second, .val (.long q2), .second, .val (.long q3), .second, .val (.long q4), .second, .val (.long q5), .second, .val (.int p6), .val (.int (g0_1 q1 q2 q3 q4 q5 p6)), .unset, .unset, .unset, .unset, .unset, .unset, .unset, .unset, .unset, .unset, .unset, .unset, .unset, .unset, .unset, .unset, .unset, .unset, .unset, .unset, .unset, .unset, .unset, .unset, .unset, .unset, .unset, .unset, .unset, .unset, .unset, .unset, .unset, .unset] [])
      rw [c345]
      show OG p e _ s below _ s₁ (mkF m 6 (LA0_91 q1 q2 q3 q4 q5 p6) [])
      refine wlload OGc 8 X0 B at_6 rfl rfl ?_
      exact tl0_11 l Z a0 hw q1 q2 q3 q4 q5 p6 h0 n0 Z0 p e s m below meth c hx hby hml hown hret hlk hZ  s₁ _ X0 e0 N0 (Keep.refl h0 []) c1 c345
    · skip
      by_cases c528 : (g0_1 q1 q2 q3 q4 q5 p6) = (2 : Int32)
      · show OG p e _ s below _ s₁ (mkF m 6 #[.val (.long q1), .second, .val (.long q2), .second, .val (.long q3), .second, .val (.long q4), .second, .val (.long q5), .second, .val (.int p6), .val (.int (g0_1 q1 q2 q3 q4 q5 p6)), .unset, .unset, .unset, .unset, .unset, .unset, .unset, .unset, .unset, .unset, .unset, .unset, .unset, .unset, .unset, .unset, .unset, .unset, .unset, .unset, .unset, .unset, .unset, .unset, .unset, .unset, .unset, .unset, .unset, .unset, .unset, .unset, .unset, .unset] [])
        rw [c528]
        show OG p e _ s below _ s₁ (mkF m 6 (LA0_141 q1 q2 q3 q4 q5 p6) [])
        refine wlload OGc 8 X0 B at_6 rfl rfl ?_
        exact tl0_16 l Z a0 hw q1 q2 q3 q4 q5 p6 h0 n0 Z0 p e s m below meth c hx hby hml hown hret hlk hZ  s₁ _ X0 e0 N0 (Keep.refl h0 []) c1 c345 c528
      · skip
        by_cases c648 : (g0_1 q1 q2 q3 q4 q5 p6) = (3 : Int32)
        · show OG p e _ s below _ s₁ (mkF m 6 #[.val (.long q1), .second, .val (.long q2), .second, .val (.long q3), .second, .val (.long q4), .second, .val (.long q5), .second, .val (.int p6), .val (.int (g0_1 q1 q2 q3 q4 q5 p6)), .unset, .unset, .unset, .unset, .unset, .unset, .unset, .unset, .unset, .unset, .unset, .unset, .unset, .unset, .unset, .unset, .unset, .unset, .unset, .unset, .unset, .unset, .unset, .unset, .unset, .unset, .unset, .unset, .unset, .unset, .unset, .unset, .unset, .unset] [])
          rw [c648]
          show OG p e _ s below _ s₁ (mkF m 6 (LA0_177 q1 q2 q3 q4 q5 p6) [])
          refine wlload OGc 8 X0 B at_6 rfl rfl ?_
          exact tl0_19 l Z a0 hw q1 q2 q3 q4 q5 p6 h0 n0 Z0 p e s m below meth c hx hby hml hown hret hlk hZ  s₁ _ X0 e0 N0 (Keep.refl h0 []) c1 c345 c528 c648
        · skip
          exact (own_rf q1 q2 q3 q4 q5 p6 c1 c345 c528 c648).elim
/-! the plain law -/
theorem own_le (x y : Int64) : (f1 x y).toInt ≤ x.toInt ∧ (f1 x y).toInt ≤ y.toInt := by
  simp only [f1, Int64.lt_iff_toInt_lt]; split <;> omega
set_option maxHeartbeats 20000000 in
theorem own_core (q1 q2 q3 q4 q5 g2 g3 g4 g5 g6 m2 : Int64) (g1 : Int32) (rf : ¬ g1 = 0 → ¬ g1 = 1 → ¬ g1 = 2 → ¬ g1 = 3 → False)
    (a1 : m2.toInt ≤ q2.toInt) (a2 : m2.toInt ≤ q4.toInt) (a3 : m2.toInt ≤ q5.toInt) (a4 : g3.toInt ≤ q3.toInt) (a5 : g3.toInt ≤ g2.toInt)
    (d1 : g4.toInt ≤ q2.toInt ∧ g4.toInt ≤ g3.toInt ∧ g4.toInt ≤ q4.toInt ∧ g4.toInt ≤ q5.toInt ∧ g4.toInt ≤ g2.toInt)
    (d2 : g5.toInt ≤ m2.toInt ∧ g5.toInt ≤ q3.toInt ∧ g5.toInt ≤ q4.toInt ∧ g5.toInt ≤ q5.toInt ∧ g5.toInt ≤ g2.toInt)
    (d3 : g6.toInt ≤ m2.toInt ∧ g6.toInt ≤ g3.toInt ∧ g6.toInt ≤ q4.toInt ∧ g6.toInt ≤ q5.toInt ∧ g6.toInt ≤ g2.toInt) :
    (if g1 = (0 : Int32) then (if m2 < q1 then (if g3 < m2 then (if g2 < q1 then (if m2 < g3 then (0 : Int32) else (if g2 < g3 then (0 : Int32) else (if q4 < m2 then (0 : Int32) else (if q5 < m2 then (0 : Int32) else (if q1 < g2 then (0 : Int32) else (1 : Int32)))))) else (if m2 < g3 then (0 : Int32) else (if q1 < g3 then (0 : Int32) else (if q4 < m2 then (0 : Int32) else (if q5 < m2 then (0 : Int32) else (1 : Int32)))))) else (if q4 < q1 then (if q5 < q4 then (if q5 < m2 then (0 : Int32) else (if q4 < q5 then (0 : Int32) else (if q1 < q5 then (0 : Int32) else (if g2 < g3 then (0 : Int32) else (1 : Int32))))) else (if q4 < m2 then (0 : Int32) else (if q1 < q4 then (0 : Int32) else (if g2 < g3 then (0 : Int32) else (1 : Int32))))) else (if q5 < q1 then (if q5 < m2 then (0 : Int32) else (if q4 < q5 then (0 : Int32) else (if q1 < q5 then (0 : Int32) else (if g2 < g3 then (0 : Int32) else (1 : Int32))))) else (if q1 < m2 then (0 : Int32) else (if g2 < g3 then (0 : Int32) else (1 : Int32)))))) else (if g3 < q1 then (if g2 < q1 then (if m2 < g3 then (0 : Int32) else (if g2 < g3 then (0 : Int32) else (if q4 < m2 then (0 : Int32) else (if q5 < m2 then (0 : Int32) else (if q1 < g2 then (0 : Int32) else (1 : Int32)))))) else (if m2 < g3 then (0 : Int32) else (if q1 < g3 then (0 : Int32) else (if q4 < m2 then (0 : Int32) else (if q5 < m2 then (0 : Int32) else (1 : Int32)))))) else (if q4 < m2 then (0 : Int32) else (if q5 < m2 then (0 : Int32) else (if g2 < g3 then (0 : Int32) else (1 : Int32)))))) else (if g1 = (1 : Int32) then (if q4 < q2 then (if q5 < q4 then (if q5 < g4 then (0 : Int32) else (if g3 < g4 then (0 : Int32) else (if q4 < q5 then (0 : Int32) else (if q2 < q5 then (0 : Int32) else (if g2 < g3 then (0 : Int32) else (1 : Int32)))))) else (if q4 < g4 then (0 : Int32) else (if g3 < g4 then (0 : Int32) else (if q2 < q4 then (0 : Int32) else (if g2 < g3 then (0 : Int32) else (1 : Int32)))))) else (if q5 < q2 then (if q5 < g4 then (0 : Int32) else (if g3 < g4 then (0 : Int32) else (if q4 < q5 then (0 : Int32) else (if q2 < q5 then (0 : Int32) else (if g2 < g3 then (0 : Int32) else (1 : Int32)))))) else (if q2 < g4 then (0 : Int32) else (if g3 < g4 then (0 : Int32) else (if g2 < g3 then (0 : Int32) else (1 : Int32)))))) else (if g1 = (2 : Int32) then (if g2 < q3 then (if m2 < g5 then (0 : Int32) else (if g2 < g5 then (0 : Int32) else (if q4 < m2 then (0 : Int32) else (if q5 < m2 then (0 : Int32) else (if q3 < g2 then (0 : Int32) else (1 : Int32)))))) else (if m2 < g5 then (0 : Int32) else (if q3 < g5 then (0 : Int32) else (if q4 < m2 then (0 : Int32) else (if q5 < m2 then (0 : Int32) else (1 : Int32)))))) else (if g1 = (3 : Int32) then (if m2 < g6 then (0 : Int32) else (if g3 < g6 then (0 : Int32) else (if q4 < m2 then (0 : Int32) else (if q5 < m2 then (0 : Int32) else (if g2 < g3 then (0 : Int32) else (1 : Int32)))))) else 0)))) = 1 := by
  simp only [Int64.lt_iff_toInt_lt]
  generalize q1.toInt = i1 at *
  generalize q2.toInt = i2 at *
  generalize q3.toInt = i3 at *
  generalize q4.toInt = i4 at *
  generalize q5.toInt = i5 at *
  generalize g2.toInt = j2 at *
  generalize g3.toInt = j3 at *
  generalize g4.toInt = j4 at *
  generalize g5.toInt = j5 at *
  generalize g6.toInt = j6 at *
  generalize m2.toInt = k2 at *
  repeat' split
  all_goals first | rfl | (exfalso; omega) | (exfalso; apply rf <;> assumption)
theorem own_tr {a b c : Int} (h : a ≤ b) (h2 : b ≤ c) : a ≤ c := Int.le_trans h h2
theorem own_law (q1 q2 q3 q4 q5 : Int64) (p6 : Int32) : f0 q1 q2 q3 q4 q5 p6 = 1 := by
  have a1 := own_le q4 q5
  have a2 := own_le q2 (f1 q4 q5)
  have a3 := own_le q3 (g0_2 q1 q2 q3 q4 q5 p6)
  have b1 := own_le q5 (g0_2 q1 q2 q3 q4 q5 p6)
  have b2 := own_le q4 (f1 q5 (g0_2 q1 q2 q3 q4 q5 p6))
  have b3 := own_le (g0_3 q1 q2 q3 q4 q5 p6) (f1 q4 (f1 q5 (g0_2 q1 q2 q3 q4 q5 p6)))
  have b4 := own_le q3 (f1 q4 (f1 q5 (g0_2 q1 q2 q3 q4 q5 p6)))
  have b5 := own_le q1 q2
  have b6 := own_le q1 (f1 q2 (f1 q4 q5))
  have d4 := own_le (f1 q1 q2) (f1 (g0_3 q1 q2 q3 q4 q5 p6) (f1 q4 (f1 q5 (g0_2 q1 q2 q3 q4 q5 p6))))
  have d5 := own_le (f1 q1 (f1 q2 (f1 q4 q5))) (f1 q3 (f1 q4 (f1 q5 (g0_2 q1 q2 q3 q4 q5 p6))))
  have d6 := own_le (f1 q1 (f1 q2 (f1 q4 q5))) (f1 (g0_3 q1 q2 q3 q4 q5 p6) (f1 q4 (f1 q5 (g0_2 q1 q2 q3 q4 q5 p6))))
  exact own_core q1 q2 q3 q4 q5 (g0_2 q1 q2 q3 q4 q5 p6) (g0_3 q1 q2 q3 q4 q5 p6) (g0_4 q1 q2 q3 q4 q5 p6) (g0_5 q1 q2 q3 q4 q5 p6) (g0_6 q1 q2 q3 q4 q5 p6) (f1 q2 (f1 q4 q5)) (g0_1 q1 q2 q3 q4 q5 p6) (own_rf q1 q2 q3 q4 q5 p6)
    a2.1 (own_tr a2.2 a1.1) (own_tr a2.2 a1.2) a3.1 a3.2
    ⟨own_tr d4.1 b5.2, own_tr d4.2 b3.1, own_tr d4.2 (own_tr b3.2 b2.1), own_tr d4.2 (own_tr b3.2 (own_tr b2.2 b1.1)), own_tr d4.2 (own_tr b3.2 (own_tr b2.2 b1.2))⟩
    ⟨own_tr d5.1 b6.2, own_tr d5.2 b4.1, own_tr d5.2 (own_tr b4.2 b2.1), own_tr d5.2 (own_tr b4.2 (own_tr b2.2 b1.1)), own_tr d5.2 (own_tr b4.2 (own_tr b2.2 b1.2))⟩
    ⟨own_tr d6.1 b6.2, own_tr d6.2 b3.1, own_tr d6.2 (own_tr b3.2 b2.1), own_tr d6.2 (own_tr b3.2 (own_tr b2.2 b1.1)), own_tr d6.2 (own_tr b3.2 (own_tr b2.2 b1.2))⟩
theorem own_met (l : Launch) (Z : State) (a0 : Array Value) (hw : ∀ d ∈ tables_1, d.before a0 Z = true) (ws : List Jvm.Cond) (q1 : Int64) (q2 : Int64) (q3 : Int64) (q4 : Int64) (q5 : Int64) (p6 : Int32) (h0 : Heap) :
    OMet l Z x code maxLocals ret ws room_1 #[(.long q1), (.long q2), (.long q3), (.long q4), (.long q5), (.int p6)] h0 (fun v h L => v = some (.int 1) ∧ Fr h0.size L) := by
  intro p e ha hc hk s m args below hf happ hP hK
  obtain ⟨n, o, h1, h2, h3, v, L, ho, ⟨hv, hL⟩, hq⟩ := rm0 l Z a0 hw ws q1 q2 q3 q4 q5 p6 h0 h0.size (Nat.le_refl _) p e ha hc hk s m args below hf happ hP hK
  rw [own_law] at hv
  exact ⟨n, o, h1, h2, h3, v, L, ho, ⟨hv, hL⟩, hq⟩
set_option maxRecDepth 65536 in
set_option maxHeartbeats 40000000 in
theorem comes_1 {Post : Tables → Env → Array Value → State → Outcome → State → Prop} (hpost : ∀ tb e args s v u, (limb_1_1.after args s (.returned v) u = true ∧ limb_1_2.after args s (.returned v) u = true ∧ True) → FrameEnd s (.returned v) u (Jvm.fieldLocs frame_1_writes args s ++ Jvm.arrayLocs frame_1_arrays args s ++ Jvm.staticLocs frame_1_statics s) 16 128 → Post tb e args s (.returned v) u) :
    ArmFor flags0 classFile x code maxLocals ret World_1 tables_1 room_1 Calls_1 rest_1 Pre_1 Post := by
  intro l hfl _ _ p e ha hc hk s m args below hf hA hF happ hP
  obtain ⟨hcalls, hrest, hpre⟩ := hP
  obtain ⟨-, -, -, hnamed, -, -, -, hat⟩ := (Spec.applies_iff hf).mp happ
  obtain ⟨hg, hn⟩ := and_e (Cond.before_iff.mp (show (Jvm.Cond.and given_1 narrow_1).before args s = true from hpre))
  obtain ⟨h1, g0⟩ := and_e hg
  obtain ⟨w0, w1, w2, w3, w4, w5, rfl⟩ : ∃ w0 w1 w2 w3 w4 w5 : Value, args = #[w0, w1, w2, w3, w4, w5] := by
    have hs : args.size = 6 := by simpa [Cond.value, given_1] using h1
    obtain ⟨L⟩ := args
    match L, hs with
    | [w0, w1, w2, w3, w4, w5], _ => exact ⟨w0, w1, w2, w3, w4, w5, rfl⟩
  have hw := fun d (hd : d ∈ tables_1) => atoms_spec (ws := Jvm.Cond.code x code maxLocals ret :: tables_1) hat d (List.mem_cons_of_mem _ hd)
  obtain ⟨b0, g1⟩ := and_e g0
  obtain ⟨i0, e0⟩ := isL_v b0
  obtain rfl : w0 = (.long i0) := Option.some.inj e0
  obtain ⟨b1, g2⟩ := and_e g1
  obtain ⟨i1, e1⟩ := isL_v b1
  obtain rfl : w1 = (.long i1) := Option.some.inj e1
  obtain ⟨b2, g3⟩ := and_e g2
  obtain ⟨i2, e2⟩ := isL_v b2
  obtain rfl : w2 = (.long i2) := Option.some.inj e2
  obtain ⟨b3, g4⟩ := and_e g3
  obtain ⟨i3, e3⟩ := isL_v b3
  obtain rfl : w3 = (.long i3) := Option.some.inj e3
  obtain ⟨b4, g5⟩ := and_e g4
  obtain ⟨i4, e4⟩ := isL_v b4
  obtain rfl : w4 = (.long i4) := Option.some.inj e4
  obtain ⟨i5, e5⟩ := is_v g5
  obtain rfl : w5 = (.int i5) := Option.some.inj e5
  obtain ⟨n, o, h1, h2, h3, _, L, rfl, ⟨rfl, N⟩, hq⟩ := own_met l s _ hw tables_1 i0 i1 i2 i3 i4 i5 s.heap p e ha hc hk s m _ below hf ((Spec.applies_iff_loose hf).mp happ).1 ⟨rfl, State.Warmed39.refl s, rfl⟩ trivial
  refine ⟨n, _, h1, h2, h3, hpost _ _ _ _ _ _ ⟨Cond.after_iff.mpr rfl, Cond.after_iff.mpr (eq_i res_at (Term.int_eval (1)) rfl), trivial⟩ ⟨hq.1, hq.2.1, (hq.2.2.sift fun y hy => Or.inr (N y hy)).mono (by decide) (by decide)⟩⟩
theorem main_1_1 : Claimed_1_1 := comes_1 fun _ _ _ _ _ _ h hF => ⟨h.1, hF⟩
theorem main_1_2 : Claimed_1_2 := comes_1 fun _ _ _ _ _ _ h hF => ⟨h.2.1, hF⟩
end Jvm.Pilot.@@N@@
namespace Jvm.Pilot.@@N@@
open Jvm Jvm.ClassFile Sem Op Lib Jvm.Free Jvm.Stand Jvm.Pilot.@@N@@.Jvm.D
/-! MADE BY PROGRAM (witnessworld.py) out of the Statement's table words and the real class files: 12 classes; the members and pool entries that the words name. The judged class is class 1, her method 2. -/
namespace start1
open Jvm.ClassFile
def u (s : String) : CpInfo := .utf8 (stringToUtf16 s)
/-- a pool by its gaps: so many unusable entries, then the entry; so many at the end -/
def gap : Nat → List CpInfo → List CpInfo
  | 0, r => r
  | n + 1, r => .unusable :: gap n r
def poolList (es : List (Nat × CpInfo)) (last : Nat) : List CpInfo := es.foldr (fun e r => gap e.1 (e.2 :: r)) (gap last [])
def pool (es : List (Nat × CpInfo)) (last : Nat) : Array CpInfo := ⟨poolList es last⟩
def fileOf (pool : Array CpInfo) (this : Nat) (attrs : Array Attribute := #[]) (ms : Array MethodInfo := #[]) (fl : Nat := 33) (sup : Nat := 0) (ifs : Array Nat := #[]) (fds : Array FieldInfo := #[]) : ClassFile where
  minorVersion := 0
  majorVersion := 65
  constantPool := pool
  accessFlags := fl
  thisClass := this
  superClass := sup
  interfaces := ifs
  fields := fds
  methods := ms
  attributes := attrs
def plain (name : String) (sup : Option ClassId) : Class where
  name := name
  kind := .ordinary
  loader := none
  accessFlags := 33
  super := sup
  interfaces := #[]
  cf := none
  fields := #[]
  methods := #[]
  instanceTypes := #[]
  staticTypes := #[]
  resolved := #[]
  callSites := []
  init := .initialized
  statics := none
  mirror := none

def pool0 : Array CpInfo := pool [(5, u "<init>"), (0, u "()V"), (1, .class_ 10), (1, u "java/lang/Object")] 113

def k0m0 : Method := { name := "<init>", desc := "()V", sig := { parameters := [], returnType := none }, accessFlags := 1, code := none }
/-- java/lang/Object -/
def k0 : Class := { plain "java/lang/Object" none with
  accessFlags := 33
  interfaces := #[]
  cf := some (fileOf pool0 8 #[] #[{ accessFlags := 1, nameIndex := 5, descriptorIndex := 6, attributes := #[] }] 33 0 #[] #[])
  fields := #[]
  methods := #[k0m0]
  instanceTypes := #[]
  staticTypes := #[]
  resolved := Array.replicate 124 none
  statics := none }

def pool1 : Array CpInfo := pool [(2, .class_ 4), (1, u "java/lang/Object"), (0, u "<init>"), (0, u "()V"), (0, .methodref 8 9), (0, .class_ 10), (0, .nameAndType 11 12), (0, u "java/lang/Math"), (0, u "min"), (0, u "(JJ)J"), (0, .methodref 14 15), (0, .class_ 16), (0, .nameAndType 17 18), (0, u "com/example/fragmark/fragmark/PhraseMatcher"), (0, u "siftDown"), (0, u "([I[JI)V"), (0, .methodref 20 21), (0, .class_ 22), (0, .nameAndType 23 24), (0, u "com/example/fragmark/fragmark/PhraseMatcherSiftDownPinLaw"), (0, u "in"), (0, u "(I)Z"), (3, u "law"), (0, u "(JJJJJI)Z")] 6

def k1m0 : Method := { name := "<init>", desc := "()V", sig := { parameters := [], returnType := none }, accessFlags := 2, code := none }
def k1c1 : Code := { maxStack := 2, maxLocals := 1, code := method_2_code, exceptionTable := #[], attributes := #[] }
def k1m1 : Method := { name := "in", desc := "(I)Z", sig := { parameters := [.int], returnType := some .boolean }, accessFlags := 10, code := some k1c1 }
def k1c2 : Code := { maxStack := 10, maxLocals := 46, code := code, exceptionTable := #[], attributes := #[] }
def k1m2 : Method := { name := "law", desc := "(JJJJJI)Z", sig := { parameters := [.long, .long, .long, .long, .long, .int], returnType := some .boolean }, accessFlags := 9, code := some k1c2 }
/-- com/example/fragmark/fragmark/PhraseMatcherSiftDownPinLaw -/
def k1 : Class := { plain "com/example/fragmark/fragmark/PhraseMatcherSiftDownPinLaw" (some 0) with
  accessFlags := 49
  interfaces := #[]
  cf := some (fileOf pool1 20 #[] #[{ accessFlags := 2, nameIndex := 5, descriptorIndex := 6, attributes := #[] }, { accessFlags := 10, nameIndex := 23, descriptorIndex := 24, attributes := #[] }, { accessFlags := 9, nameIndex := 28, descriptorIndex := 29, attributes := #[] }] 49 2 #[] #[])
  fields := #[]
  methods := #[k1m0, k1m1, k1m2]
  instanceTypes := #[]
  staticTypes := #[]
  resolved := Array.replicate 36 none
  statics := none }

def pool2 : Array CpInfo := pool [(1, .class_ 2), (0, u "java/lang/Math"), (1, .class_ 6), (1, u "java/lang/Object"), (0, u "<init>"), (0, u "()V"), (89, .class_ 100), (1, u "java/lang/Math$RandomNumberGeneratorHolder"), (20, u "(JJ)J"), (50, u "negativeZeroFloatBits"), (0, u "J"), (2, u "negativeZeroDoubleBits"), (24, u "min"), (43, u "$assertionsDisabled"), (0, u "Z"), (91, u "twoToTheDoubleScaleDown"), (0, u "D"), (4, u "twoToTheDoubleScaleUp"), (9, u "E"), (3, u "PI"), (2, u "TAU"), (2, u "DEGREES_TO_RADIANS"), (0, u "RADIANS_TO_DEGREES")] 94

def k2m0 : Method := { name := "<init>", desc := "()V", sig := { parameters := [], returnType := none }, accessFlags := 2, code := none }
def k2c1 : Code := { maxStack := 4, maxLocals := 4, code := jdk_29_method_70_code, exceptionTable := #[], attributes := #[] }
def k2m1 : Method := { name := "min", desc := "(JJ)J", sig := { parameters := [.long, .long], returnType := some .long }, accessFlags := 9, code := some k2c1 }
/-- java/lang/Math -/
def k2 : Class := { plain "java/lang/Math" (some 0) with
  accessFlags := 49
  interfaces := #[]
  cf := some (fileOf pool2 1 #[.nestMembers #[98]] #[{ accessFlags := 2, nameIndex := 7, descriptorIndex := 8, attributes := #[] }, { accessFlags := 9, nameIndex := 201, descriptorIndex := 121, attributes := #[] }] 49 4 #[] #[{ accessFlags := 25, nameIndex := 354, descriptorIndex := 339, attributes := #[] }, { accessFlags := 25, nameIndex := 358, descriptorIndex := 339, attributes := #[] }, { accessFlags := 25, nameIndex := 361, descriptorIndex := 339, attributes := #[] }, { accessFlags := 26, nameIndex := 364, descriptorIndex := 339, attributes := #[] }, { accessFlags := 26, nameIndex := 365, descriptorIndex := 339, attributes := #[] }, { accessFlags := 26, nameIndex := 172, descriptorIndex := 173, attributes := #[] }, { accessFlags := 26, nameIndex := 176, descriptorIndex := 173, attributes := #[] }, { accessFlags := 8, nameIndex := 344, descriptorIndex := 339, attributes := #[] }, { accessFlags := 8, nameIndex := 338, descriptorIndex := 339, attributes := #[] }, { accessFlags := 4120, nameIndex := 245, descriptorIndex := 246, attributes := #[] }])
  fields := #[{ name := "E", type := .double, accessFlags := 25, slot := 0, constantValue := 0 }, { name := "PI", type := .double, accessFlags := 25, slot := 1, constantValue := 0 }, { name := "TAU", type := .double, accessFlags := 25, slot := 2, constantValue := 0 }, { name := "DEGREES_TO_RADIANS", type := .double, accessFlags := 26, slot := 3, constantValue := 0 }, { name := "RADIANS_TO_DEGREES", type := .double, accessFlags := 26, slot := 4, constantValue := 0 }, { name := "negativeZeroFloatBits", type := .long, accessFlags := 26, slot := 5, constantValue := 0 }, { name := "negativeZeroDoubleBits", type := .long, accessFlags := 26, slot := 6, constantValue := 0 }, { name := "twoToTheDoubleScaleUp", type := .double, accessFlags := 8, slot := 7, constantValue := 0 }, { name := "twoToTheDoubleScaleDown", type := .double, accessFlags := 8, slot := 8, constantValue := 0 }, { name := "$assertionsDisabled", type := .boolean, accessFlags := 4120, slot := 9, constantValue := 0 }]
  methods := #[k2m0, k2m1]
  instanceTypes := #[]
  staticTypes := #[.double, .double, .double, .double, .double, .long, .long, .double, .double, .boolean]
  resolved := Array.replicate 460 none
  statics := none }

def pool3 : Array CpInfo := pool [(2, .class_ 4), (1, u "java/lang/Object"), (6, .class_ 13), (1, u "com/example/fragmark/fragmark/PhraseMatcher"), (0, u "sharedParts"), (0, u "Ljava/util/List;"), (2, u "clause"), (0, u "Lcom/example/fragmark/fragmark/query/Clause;"), (4, u "slop"), (3, u "J"), (2, u "callers"), (0, u "Z"), (5, u "terms"), (36, u "[Lcom/example/fragmark/fragmark/PhraseTerm;"), (95, u "[Lcom/example/fragmark/fragmark/PhrasePart;"), (6, .class_ 179), (0, u "com/example/fragmark/fragmark/PhraseMatcher$TermWords"), (16, u "parts"), (42, u "picksAt"), (50, u "ranges"), (24, u "siftDown"), (0, u "([I[JI)V")] 64

def k3c0 : Code := { maxStack := 5, maxLocals := 6, code := prog_32_method_19_code, exceptionTable := #[], attributes := #[] }
def k3m0 : Method := { name := "siftDown", desc := "([I[JI)V", sig := { parameters := [(.array .int), (.array .long), .int], returnType := none }, accessFlags := 8, code := some k3c0 }
/-- com/example/fragmark/fragmark/PhraseMatcher -/
def k3 : Class := { plain "com/example/fragmark/fragmark/PhraseMatcher" (some 0) with
  accessFlags := 48
  interfaces := #[]
  cf := some (fileOf pool3 11 #[.nestMembers #[178]] #[{ accessFlags := 8, nameIndex := 315, descriptorIndex := 316, attributes := #[] }] 48 2 #[] #[{ accessFlags := 18, nameIndex := 18, descriptorIndex := 19, attributes := #[] }, { accessFlags := 18, nameIndex := 24, descriptorIndex := 28, attributes := #[] }, { accessFlags := 18, nameIndex := 38, descriptorIndex := 75, attributes := #[] }, { accessFlags := 18, nameIndex := 31, descriptorIndex := 32, attributes := #[] }, { accessFlags := 2, nameIndex := 196, descriptorIndex := 171, attributes := #[] }, { accessFlags := 18, nameIndex := 14, descriptorIndex := 15, attributes := #[] }, { accessFlags := 2, nameIndex := 290, descriptorIndex := 15, attributes := #[] }, { accessFlags := 2, nameIndex := 239, descriptorIndex := 28, attributes := #[] }])
  fields := #[{ name := "clause", type := (.object "com/example/fragmark/fragmark/query/Clause"), accessFlags := 18, slot := 0, constantValue := 0 }, { name := "slop", type := .long, accessFlags := 18, slot := 1, constantValue := 0 }, { name := "terms", type := (.array (.object "com/example/fragmark/fragmark/PhraseTerm")), accessFlags := 18, slot := 2, constantValue := 0 }, { name := "callers", type := .boolean, accessFlags := 18, slot := 3, constantValue := 0 }, { name := "parts", type := (.array (.object "com/example/fragmark/fragmark/PhrasePart")), accessFlags := 2, slot := 4, constantValue := 0 }, { name := "sharedParts", type := (.object "java/util/List"), accessFlags := 18, slot := 5, constantValue := 0 }, { name := "ranges", type := (.object "java/util/List"), accessFlags := 2, slot := 6, constantValue := 0 }, { name := "picksAt", type := .long, accessFlags := 2, slot := 7, constantValue := 0 }]
  methods := #[k3m0]
  instanceTypes := #[(.object "com/example/fragmark/fragmark/query/Clause"), .long, (.array (.object "com/example/fragmark/fragmark/PhraseTerm")), .boolean, (.array (.object "com/example/fragmark/fragmark/PhrasePart")), (.object "java/util/List"), (.object "java/util/List"), .long]
  staticTypes := #[]
  resolved := Array.replicate 381 none
  statics := none }

def pool4 : Array CpInfo := pool [(1, u "java/lang/Cloneable"), (0, .class_ 1), (0, u "java/lang/Object"), (0, .class_ 3)] 3

/-- java/lang/Cloneable -/
def k4 : Class := { plain "java/lang/Cloneable" (some 0) with
  accessFlags := 1537
  interfaces := #[]
  cf := some (fileOf pool4 2 #[] #[] 1537 4 #[] #[])
  fields := #[]
  methods := #[]
  instanceTypes := #[]
  staticTypes := #[]
  resolved := Array.replicate 8 none
  statics := none }

def pool5 : Array CpInfo := pool [(1, u "java/io/Serializable"), (0, .class_ 1), (0, u "java/lang/Object"), (0, .class_ 3)] 3

/-- java/io/Serializable -/
def k5 : Class := { plain "java/io/Serializable" (some 0) with
  accessFlags := 1537
  interfaces := #[]
  cf := some (fileOf pool5 2 #[] #[] 1537 4 #[] #[])
  fields := #[]
  methods := #[]
  instanceTypes := #[]
  staticTypes := #[]
  resolved := Array.replicate 8 none
  statics := none }

/-- the primitive byte -/
def k6 : Class := { plain "byte" none with kind := .primitive 'B', accessFlags := 0x411 }
/-- [B -/
def k7 : Class := { plain "[B" (some 0) with kind := .array 6 .byte, interfaces := #[4, 5], accessFlags := 1041 }

/-- the primitive int -/
def k8 : Class := { plain "int" none with kind := .primitive 'I', accessFlags := 0x411 }
/-- [I -/
def k9 : Class := { plain "[I" (some 0) with kind := .array 8 .int, interfaces := #[4, 5], accessFlags := 1041 }

/-- the primitive long -/
def k10 : Class := { plain "long" none with kind := .primitive 'J', accessFlags := 0x411 }
/-- [J -/
def k11 : Class := { plain "[J" (some 0) with kind := .array 10 .long, interfaces := #[4, 5], accessFlags := 1041 }

def heap : Heap := #[]
def classes : Array Class := #[k0, k1, k2, k3, k4, k5, k6, k7, k8, k9, k10, k11]
def interned : List (Array UInt16 × Addr) := []
def slotsUsed : Nat := 0
def theMethod : MethodId := ⟨1, 2⟩
def args0 : Array Value := #[.long 5, .long 7, .long 1, .long 2, .long 3, .int 9]
def aboutOver (below : List Frame) : State where
  vm := { classes := classes, interned := interned.toArray }
  heap := heap
  slotsUsed := slotsUsed
  threads := #[{ frames := .invoking theMethod args0 :: below }]
def below0 : List Frame := [.native { method := ⟨0, 0⟩, args := #[] }]
def about1 : State := aboutOver below0
def p0 : Program := .bare "" "" ""
def e0 : Env := launch0.env 0 0 0
theorem w_frames : about1.frames = Frame.invoking theMethod args0 :: below0 := rfl
set_option maxRecDepth 65536 in
theorem w_args : argsFit about1.vm theMethod args0 = true := by decide +kernel
set_option maxRecDepth 65536 in
theorem w_heap : heapFits about1 = true := by decide +kernel
set_option maxRecDepth 65536 in
theorem w_runnable : about1.curStatus? = some .runnable := by decide +kernel
set_option maxRecDepth 65536 in
theorem w_alone : about1.alone = true := by decide +kernel
set_option maxRecDepth 65536 in
theorem w_named : about1.methodNamed? x = some theMethod := by decide +kernel
set_option maxRecDepth 65536 in
theorem w_hears : about1.hears theMethod below0 = true := by decide +kernel
set_option maxRecDepth 65536 in
theorem w_ripe : about1.ripe theMethod args0 below0 = true := by decide +kernel
theorem w_running : about1.status = .running := rfl
set_option maxRecDepth 65536 in
theorem w_room : about1.hasRoom e0.platform room_1 = true :=
  launch0.hasRoom_least _ room_1 (by decide +kernel) (by decide +kernel) (by decide +kernel) (by decide +kernel) (by decide +kernel) (by decide +kernel)
theorem allAtoms_all (ts : List Jvm.Cond) (a : Array Jvm.Value) (st : Jvm.State) : (allAtoms ts).before a st = ts.all (fun c => c.before a st) := by
  induction ts with
  | nil => rfl
  | cons c t ih =>
    show (Jvm.Cond.and c (allAtoms t)).before a st = _
    rw [Jvm.Cond.before_and, ih, List.all_cons]
def words1 : List Jvm.Cond := Jvm.Cond.code x code maxLocals ret :: tables_1
/-- a 'code' word, met by the world's own term for the bytes: nothing is compared byte by byte -/
theorem code_word {y : MethodName} {bytes : ByteArray} {mx : Nat} {rt : Option FieldType} {a : Array Value} {s : State} {m : MethodId} {meth : Method} {c : Code} (h1 : s.methodNamed? y = some m) (h2 : s.vm.method? m = some meth) (h3 : meth.code = some c) (h4 : c.code = bytes)
    (h5 : (c.maxLocals == mx && c.exceptionTable.isEmpty && decide (c.maxStack ≤ mostOperands) && decide (meth.sig.returnType = rt) && !meth.locks && decide (parseMethodDescriptor y.desc = some meth.sig)) = true) : (Jvm.Cond.code y bytes mx rt).before a s = true := by
  simp only [Bool.and_eq_true, beq_iff_eq, Bool.not_eq_true', decide_eq_true_eq] at h5
  obtain ⟨⟨⟨⟨⟨g1, g2⟩, g3⟩, g4⟩, g5⟩, g6⟩ := h5
  simp [Cond.before, Cond.holds, Cond.value, h1, h2, h3, h4, g1, g2, g3, g4, g5, g6]
def isCode : Jvm.Cond → Bool
  | .code _ _ _ _ => true
  | _ => false
theorem all_split {L : List Jvm.Cond} {P : Jvm.Cond → Bool} (h1 : L.all (fun c => isCode c || P c) = true) (h2 : ∀ c ∈ L.filter isCode, P c = true) : L.all P = true := by
  refine List.all_eq_true.mpr fun c hc => ?_
  have h := List.all_eq_true.mp h1 c hc
  rcases Bool.eq_false_or_eq_true (isCode c) with hi | hi
  · exact h2 c (List.mem_filter.mpr ⟨hc, hi⟩)
  · simpa [hi] using h
set_option maxRecDepth 65536 in
theorem w_c0 : (Jvm.Cond.code x code maxLocals ret).before args0 about1 = true := code_word (m := ⟨1, 2⟩) (meth := k1m2) (c := k1c2) (by decide +kernel) rfl rfl rfl (by decide +kernel)
set_option maxRecDepth 65536 in
theorem w_c1 : (Jvm.Cond.code ({ cls := "java/lang/Math", name := "min", desc := "(JJ)J" } : Jvm.MethodName) jdk_29_method_70_code (4 : Nat) (Option.some Jvm.ClassFile.FieldType.long)).before args0 about1 = true := code_word (m := ⟨2, 1⟩) (meth := k2m1) (c := k2c1) (by decide +kernel) rfl rfl rfl (by decide +kernel)
set_option maxRecDepth 65536 in
theorem w_c2 : (Jvm.Cond.code ({ cls := "com/example/fragmark/fragmark/PhraseMatcher", name := "siftDown", desc := "([I[JI)V" } : Jvm.MethodName) prog_32_method_19_code (6 : Nat) (Option.none : Option Jvm.ClassFile.FieldType)).before args0 about1 = true := code_word (m := ⟨3, 0⟩) (meth := k3m0) (c := k3c0) (by decide +kernel) rfl rfl rfl (by decide +kernel)
set_option maxRecDepth 65536 in
theorem w_c3 : (Jvm.Cond.code ({ cls := "com/example/fragmark/fragmark/PhraseMatcherSiftDownPinLaw", name := "in", desc := "(I)Z" } : Jvm.MethodName) method_2_code (1 : Nat) (Option.some Jvm.ClassFile.FieldType.boolean)).before args0 about1 = true := code_word (m := ⟨1, 1⟩) (meth := k1m1) (c := k1c1) (by decide +kernel) rfl rfl rfl (by decide +kernel)
def codes1 : List Jvm.Cond := [Jvm.Cond.code x code maxLocals ret, Jvm.Cond.code ({ cls := "java/lang/Math", name := "min", desc := "(JJ)J" } : Jvm.MethodName) jdk_29_method_70_code (4 : Nat) (Option.some Jvm.ClassFile.FieldType.long), Jvm.Cond.code ({ cls := "com/example/fragmark/fragmark/PhraseMatcher", name := "siftDown", desc := "([I[JI)V" } : Jvm.MethodName) prog_32_method_19_code (6 : Nat) (Option.none : Option Jvm.ClassFile.FieldType), Jvm.Cond.code ({ cls := "com/example/fragmark/fragmark/PhraseMatcherSiftDownPinLaw", name := "in", desc := "(I)Z" } : Jvm.MethodName) method_2_code (1 : Nat) (Option.some Jvm.ClassFile.FieldType.boolean)]
set_option maxRecDepth 65536 in
theorem codes_eq : words1.filter isCode = codes1 := rfl
theorem w_codes : ∀ c ∈ words1.filter isCode, c.before args0 about1 = true := by
  rw [codes_eq]
  intro c hc
  simp only [codes1, List.mem_cons, List.not_mem_nil, or_false] at hc
  rcases hc with rfl | rfl | rfl | rfl
  · exact w_c0
  · exact w_c1
  · exact w_c2
  · exact w_c3
set_option maxRecDepth 65536 in
theorem w_t1 : words1.all (fun c => isCode c || c.before args0 about1) = true := by decide +kernel
theorem w_tables : (allAtoms (Jvm.Cond.code x code maxLocals ret :: tables_1)).before args0 about1 = true := by
  rw [allAtoms_all]
  show words1.all (fun c => c.before args0 about1) = true
  refine all_split ?_ w_codes
  rw [w_t1]
set_option maxRecDepth 65536 in
theorem w_case : (Jvm.Cond.and given_1 narrow_1).before args0 about1 = true := by decide +kernel
theorem w_applies : (headSpec (Jvm.Cond.code x code maxLocals ret :: tables_1) room_1).applies x e0.platform about1 = true :=
  (Spec.applies_iff w_frames).mpr ⟨w_running, w_runnable, w_alone, w_named, w_hears, w_ripe, w_room, w_tables⟩
theorem atStart : AtStart classFile x code maxLocals ret World_1 tables_1 room_1 Calls_1 rest_1 Pre_1 launch0 p0 e0 about1 theMethod args0 below0 :=
  ⟨lists_1, trivial, launch0.admits_env _ _ _, launch0.least_env, fairChoices_fair.cas, fairChoices_fair.clock, w_frames, w_args, w_heap, w_applies, trivial, trivial, w_case⟩
end start1
theorem witness_1 : WitnessClaimed_1 := ⟨start1.p0, start1.e0, start1.about1, start1.theMethod, start1.args0, start1.below0, start1.atStart⟩
end Jvm.Pilot.@@N@@
