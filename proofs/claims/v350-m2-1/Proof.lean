import JvmDerived
import JvmDerived.Pilot.@@N@@Statement
import JvmDerived.Pilot.@@N@@Code
set_option linter.unusedVariables false
set_option linter.unusedSimpArgs false
namespace Jvm.Pilot.@@N@@
open Jvm Jvm.ClassFile Sem Op Lib Jvm.Free Jvm.Stand Jvm.LawKit Jvm.RoadKit Bundle Jvm.Pilot.@@N@@.Jvm.D
/-! what a body's walk owes, in the manner of a continuation -/
section Own
variable {p : Program} {l : Launch} {e : Env} {R : Room} {s : State} {m : MethodId} {args : Array Value} {below : List Frame} {meth : Method} {c : Code} {T T' : State} {locs : List Loc} {cells slots : Nat} {Q Q' : Option Value → Heap → List Loc → Prop}
abbrev OMet (l : Launch) (Z : State) (y : MethodName) (bytes : ByteArray) (maxL : Nat) (ret : Option FieldType) (ws : List Jvm.Cond) (rm : Room) (as : Array Value) (h0 : Heap) (Q : Option Value → Heap → List Loc → Prop) : Prop :=
  MetFree l y (head1 (Jvm.Cond.code y bytes maxL ret :: ws) rm) (fun a U => a = as ∧ Z.Warmed39 U.vm ∧ U.heap = h0) (fun _ _ _ _ _ => True) (fun _ U o U' => ∃ v L, o = .returned v ∧ Q v U'.heap L ∧ FrameEnd U o U' L rm.cells rm.slots)
def OG (p : Program) (e : Env) (R : Room) (s : State) (below : List Frame) (Q : Option Value → Heap → List Loc → Prop) (T : State) (g : JFrame) : Prop :=
  ∃ s₂ o, Steps p.tables e below (T.setTop g) s₂ ∧ s₂.status = .running ∧ Ended s₂ below o ∧ ∃ v L, o = .returned v ∧ Q v s₂.heap L ∧ FrameEnd s o s₂ L R.cells R.slots
theorem own_st {g g' : JFrame} (h : ∀ t, Steps p.tables e below (T'.setTop g') t → Steps p.tables e below (T.setTop g) t) (k : OG p e R s below Q T' g') : OG p e R s below Q T g := by
  obtain ⟨s₂, o, h1, h2⟩ := k
  exact ⟨s₂, o, h _ h1, h2⟩
theorem own_sp {g g' : JFrame} {t : State} (h : ∀ t, Steps p.tables e below (T'.setTop g') t → Steps p.tables e below (T.setTop g) t) (k : Steps p.tables e below (T'.setTop g') t) : Steps p.tables e below (T.setTop g) t := h _ k
theorem own_cast {g g' : JFrame} (q : g = g') (k : OG p e R s below Q T g') : OG p e R s below Q T g := q ▸ k
theorem own_irr {x : Int64} : ¬ x < x := Int64.lt_irrefl
theorem own_if0 {cd : ClassFile.Cond} {x : Int32} {b : Bool} (h : if_icmp.holds cd x 0 = b) : ifCond.holds cd x = b := by rw [if0]; exact h
theorem own_retZ (X : Stand p l e R s m args below meth c T locs cells slots) (hx : p.tables.exec = Jvm.exec) {t : FieldType} (hret : meth.sig.returnType = some t) (ht : t = .boolean ∨ t = .byte ∨ t = .char ∨ t = .short) (hlk : meth.locks = false) {pc : Nat} {Ls : Array Slot} {z : Int32} {rest : List Value}
    (hd : decode c.code pc = .ok (.ireturn, 1)) (hc : cells ≤ R.cells) (hs : slots ≤ R.slots) {w : Int32} (hn : nar t z = w) (hq : Q (some (.int w)) T.heap locs) : OG p e R s below Q T (mkF m pc Ls (.int z :: rest)) := by
  subst hn
  obtain ⟨fs, hr, hrun, hended, hW, hsame⟩ := X.leave (v := some (.int (nar t z))) (fun h => by rw [hret] at h; cases h) hlk
  exact ⟨_, _, retN X hx hret ht hd hr, hrun, hended, _, _, rfl, hq, ⟨_, rfl⟩, hW, hsame.mono hc hs⟩
theorem own_retV (X : Stand p l e R s m args below meth c T locs cells slots) (hx : p.tables.exec = Jvm.exec) {t : FieldType} {i : Instr} {w : Value} (hret : meth.sig.returnType = some t) (hn : narrow t w = w)
    (hi : (i = .ireturn ∧ (t = .int ∨ t = .boolean ∨ t = .byte ∨ t = .char ∨ t = .short) ∧ ∃ z, w = .int z) ∨ (i = .lreturn ∧ t = .long ∧ ∃ z, w = .long z) ∨ (i = .dreturn ∧ t = .double ∧ ∃ z, w = .double z) ∨ (i = .freturn ∧ t = .float ∧ ∃ z, w = .float z) ∨ (i = .areturn ∧ t.isReference = true ∧ w.isRef = true))
    (hlk : meth.locks = false) {pc : Nat} {Ls : Array Slot} {rest : List Value}
    (hd : decode c.code pc = .ok (i, 1)) (hc : cells ≤ R.cells) (hs : slots ≤ R.slots) (hq : Q (some w) T.heap locs) : OG p e R s below Q T (mkF m pc Ls (w :: rest)) := by
  obtain ⟨fs, hr, hrun, hended, hW, hsame⟩ := X.leave (v := some w) (fun h => by rw [hret] at h; cases h) hlk
  exact ⟨_, _, retOut X hx hret hn hi hd hr, hrun, hended, _, _, rfl, hq, ⟨_, rfl⟩, hW, hsame.mono hc hs⟩
theorem own_retI (X : Stand p l e R s m args below meth c T locs cells slots) (hx : p.tables.exec = Jvm.exec) (hret : meth.sig.returnType = some .int) (hlk : meth.locks = false) {pc : Nat} {Ls : Array Slot} {z : Int32} {rest : List Value}
    (hd : decode c.code pc = .ok (.ireturn, 1)) (hc : cells ≤ R.cells) (hs : slots ≤ R.slots) (hq : Q (some (.int z)) T.heap locs) : OG p e R s below Q T (mkF m pc Ls (.int z :: rest)) :=
  own_retV X hx hret rfl (Or.inl ⟨rfl, Or.inl rfl, _, rfl⟩) hlk hd hc hs hq
theorem own_retL (X : Stand p l e R s m args below meth c T locs cells slots) (hx : p.tables.exec = Jvm.exec) (hret : meth.sig.returnType = some .long) (hlk : meth.locks = false) {pc : Nat} {Ls : Array Slot} {z : Int64} {rest : List Value}
    (hd : decode c.code pc = .ok (.lreturn, 1)) (hc : cells ≤ R.cells) (hs : slots ≤ R.slots) (hq : Q (some (.long z)) T.heap locs) : OG p e R s below Q T (mkF m pc Ls (.long z :: rest)) :=
  own_retV X hx hret rfl (Or.inr (Or.inl ⟨rfl, rfl, _, rfl⟩)) hlk hd hc hs hq
theorem own_ret0 (X : Stand p l e R s m args below meth c T locs cells slots) (hx : p.tables.exec = Jvm.exec) (hret : meth.sig.returnType = none) (hlk : meth.locks = false) {pc : Nat} {Ls : Array Slot}
    (hd : decode c.code pc = .ok (.return_, 1)) (hc : cells ≤ R.cells) (hs : slots ≤ R.slots) (hq : Q none T.heap locs) : OG p e R s below Q T (mkF m pc Ls []) := by
  obtain ⟨fs, hr, hrun, hended, hW, hsame⟩ := X.leave (v := none) (fun _ => rfl) hlk
  exact ⟨_, _, X.returnOut hx hret hd hr, hrun, hended, _, _, rfl, hq, ⟨_, rfl⟩, hW, hsame.mono hc hs⟩
theorem own_enter {Z : State} {y : MethodName} {bytes : ByteArray} {maxL : Nat} {ret : Option FieldType} {ws : List Jvm.Cond} {rm : Room} {as : Array Value} {h0 : Heap} (hp : plainFor y = true)
    (body : ∀ (p : Program) (e : Env) (s : State) (m : MethodId) (below : List Frame) (meth : Method) (c : Code) (s₁ : State), p.tables.exec = Jvm.exec → c.code = bytes → c.maxLocals = maxL → s.vm.findClass y.cls = some m.cls → meth.sig.returnType = ret → meth.locks = false → meth.name = y.name → Z.Warmed39 s.vm →
      Stand p l e rm s m as below meth c s₁ [] 0 0 → s₁.heap = h0 → OG p e rm s below Q s₁ (entryFrame m as maxL)) : OMet l Z y bytes maxL ret ws rm as h0 Q := by
  refine MetFree.of_bodySF hp hisR ?_
  intro p e s m args below meth c s₁ Bd hml0 hP hK
  obtain ⟨rfl, hZ, hh⟩ := hP
  exact body p e s m below meth c s₁ Bd.exec Bd.bytes hml0 (findClass_of_methodNamed Bd.named) Bd.returns Bd.notSynchronized (name_of_methodNamed Bd.named Bd.method).1 hZ (Stand.of_body Bd) (by rw [← hh, Bd.state]; rfl)
end Own
section OwnH
variable {Z : State} {h h' h0 : Heap} {a b : Addr} {ty : FieldType} {vs : List Value} {n sl : Nat} {v : Value} {ws : List Addr}
/-- an array, by the whole list of what it holds -/
def OA (Z : State) (h : Heap) (a : Addr) (ty : FieldType) (vs : List Value) : Prop := ∃ c : Cell, Arr Z h a c ty ∧ c.slots.toList = vs
/-- an array, by its length alone -/
def OL (Z : State) (h : Heap) (a : Addr) (ty : FieldType) (n : Nat) : Prop := ∃ c : Cell, Arr Z h a c ty ∧ c.slots.size = n
theorem OA.lt (F : OA Z h a ty vs) : a < h.size := by obtain ⟨c, A, -⟩ := F; exact A.lt
theorem OL.lt (F : OL Z h a ty n) : a < h.size := by obtain ⟨c, A, -⟩ := F; exact A.lt
theorem OA.ext (F : OA Z h a ty vs) (E : Ext h h') : OA Z h' a ty vs := by obtain ⟨c, A, r⟩ := F; exact ⟨c, A.ext E, r⟩
theorem OL.ext (F : OL Z h a ty n) (E : Ext h h') : OL Z h' a ty n := by obtain ⟨c, A, r⟩ := F; exact ⟨c, A.ext E, r⟩
theorem OA.other (F : OA Z h b ty vs) (W : Wr h h' a sl v) (q : b ≠ a) : OA Z h' b ty vs := by obtain ⟨c, A, r⟩ := F; exact ⟨c, A.other W q, r⟩
theorem OL.other (F : OL Z h b ty n) (W : Wr h h' a sl v) (q : b ≠ a) : OL Z h' b ty n := by obtain ⟨c, A, r⟩ := F; exact ⟨c, A.other W q, r⟩
theorem OA.keep (F : OA Z h a ty vs) (K : Keep h h' ws) (q : a ∉ ws) : OA Z h' a ty vs := by obtain ⟨c, A, r⟩ := F; exact ⟨c, ⟨K.2.1 a c A.1 q, A.2⟩, r⟩
theorem OL.keep (F : OL Z h a ty n) (K : Keep h h' ws) (q : a ∉ ws) : OL Z h' a ty n := by obtain ⟨c, A, r⟩ := F; exact ⟨c, ⟨K.2.1 a c A.1 q, A.2⟩, r⟩
theorem OA.new {k : ClassId} {z : Int32} (A : Arr Z h a (newA k ty z) ty) : OA Z h a ty (List.replicate z.toNatClampNeg (defaultValue ty)) := ⟨_, A, by show (Array.replicate _ _).toList = _; exact Array.toList_replicate⟩
theorem OL.new {k : ClassId} {z : Int32} (A : Arr Z h a (newA k ty z) ty) : OL Z h a ty z.toNatClampNeg := ⟨_, A, sz_new _ _ _⟩
theorem OA.len (F : OA Z h a ty vs) : ∃ c : Cell, Arr Z h a c ty ∧ c.slots.size = vs.length := by obtain ⟨c, A, r⟩ := F; exact ⟨c, A, by rw [← r]; simp⟩
theorem OA.set {j : Int32} {i : Nat} (F : OA Z h a ty vs) (W : Wr h h' a j.toNatClampNeg v) (hj : j.toNatClampNeg = i) : OA Z h' a ty (vs.set i v) := by
  obtain ⟨c, A, r⟩ := F
  refine ⟨_, A.same W, ?_⟩
  subst hj r
  show (c.slots.setIfInBounds _ _).toList = _
  exact Array.toList_setIfInBounds
theorem OL.set {j : Int32} (F : OL Z h a ty n) (W : Wr h h' a j.toNatClampNeg v) : OL Z h' a ty n := by
  obtain ⟨c, A, r⟩ := F
  exact ⟨_, A.same W, by rw [sz_set]; exact r⟩
theorem own_rd (F : OA Z h a ty vs) {j : Int32} {i : Nat} (hj : j.toNatClampNeg = i) (hn : ¬ j < 0) (hv : vs[i]? = some v) : ∃ c : Cell, Arr Z h a c ty ∧ ¬ (j < 0 ∨ c.slots.size ≤ j.toNatClampNeg) ∧ c.slots[j.toNatClampNeg]? = some v := by
  obtain ⟨c, A, r⟩ := F
  subst hj r
  rw [Array.getElem?_toList] at hv
  refine ⟨c, A, fun q => ?_, hv⟩
  rcases q with q | q
  · exact hn q
  · have := (Array.getElem?_eq_some_iff.mp hv).1; omega
theorem own_wr (F : OA Z h a ty vs) {j : Int32} {i : Nat} (hj : j.toNatClampNeg = i) (hn : ¬ j < 0) (hi : i < vs.length) : ∃ c : Cell, Arr Z h a c ty ∧ ¬ (j < 0 ∨ c.slots.size ≤ j.toNatClampNeg) := by
  obtain ⟨c, A, r⟩ := F
  subst hj r
  rw [Array.length_toList] at hi
  refine ⟨c, A, fun q => ?_⟩
  rcases q with q | q
  · exact hn q
  · omega
theorem own_wrL (F : OL Z h a ty n) {j : Int32} (hj : ¬ j < 0 ∧ j.toNatClampNeg < n) : ∃ c : Cell, Arr Z h a c ty ∧ ¬ (j < 0 ∨ c.slots.size ≤ j.toNatClampNeg) := by
  obtain ⟨c, A, r⟩ := F
  subst r
  exact ⟨c, A, fun q => by rcases q with q | q; exact hj.1 q; omega⟩
theorem own_acN {x y : Addr} (h : x ≠ y) : if_acmp.holds .ne (some x) (some y) = true ∧ if_acmp.holds .eq (some x) (some y) = false := by simp [if_acmp.holds, h]
theorem own_plE {C : String} (E : Exa Z h a C) : ∀ cell : Cell, h[a]? = some cell → cell.vm.isStatics = false := fun cell q => by obtain ⟨c, k, h1, -, -, h4, -⟩ := E; cases h1.symm.trans q; exact h4
theorem own_plA (F : OA Z h a ty vs) : ∀ cell : Cell, h[a]? = some cell → cell.vm.isStatics = false := fun cell q => by obtain ⟨c, A, -⟩ := F; cases A.1.symm.trans q; exact A.plain
theorem own_plL (F : OL Z h a ty n) : ∀ cell : Cell, h[a]? = some cell → cell.vm.isStatics = false := fun cell q => by obtain ⟨c, A, -⟩ := F; cases A.1.symm.trans q; exact A.plain
theorem own_staK {C f d : String} {w : Value} (F : Sta Z h C f d w) (K : Keep h h' ws) (hp : ∀ x ∈ ws, ∀ cell : Cell, h[x]? = some cell → cell.vm.isStatics = false) : Sta Z h' C f d w := by
  obtain ⟨cf, i, k, g, st, cell, h1, h2, h3, h4, h5, h6, h7⟩ := F
  exact ⟨cf, i, k, g, st, cell, h1, h2, h3, h4, K.2.1 st cell h5 (fun q => by rw [hp st q cell h5] at h6; cases h6), h6, h7⟩
theorem own_selp {s : State} {y : MethodName} {a0 args : Array Value} {k : Nat} (hZ : Z.Warmed39 s.vm) (wi : (Jvm.Cond.instantiable y.cls k).before a0 Z = true) (wp : (Jvm.Cond.privateMethod y).before a0 Z = true) (wm : (Jvm.Cond.instanceMethod y).before a0 Z = true) (hy : y.cls ≠ "java/lang/invoke/MethodHandle" ∧ y.cls ≠ "java/lang/invoke/VarHandle") : (Jvm.Cond.selects y.cls y y).before args s = true := by
  have wi' : (Jvm.Cond.instantiable y.cls k).before args s = true := mv hZ wi
  obtain ⟨c, kc, i1, i2, -, i4, -⟩ := Cond.instantiable_spec wi'
  exact selects_self_of_private i1 i2 (Bool.or_eq_false_iff.mp i4).1 (Cond.privateMethod_at (mvP hZ wp (args := args))) (mvT hZ wm) hy
theorem own_all0 {P : Addr → Prop} : ∀ x ∈ ([] : List Addr), P x := fun x hx => by cases hx
theorem own_all1 {P : Addr → Prop} {a : Addr} (h : P a) : ∀ x ∈ [a], P x := fun x hx => by simp only [List.mem_cons, List.not_mem_nil, or_false] at hx; subst hx; exact h
theorem own_all2 {P : Addr → Prop} {a b : Addr} (h : P a) (h2 : P b) : ∀ x ∈ [a, b], P x := fun x hx => by
  simp only [List.mem_cons, List.not_mem_nil, or_false] at hx; rcases hx with rfl | rfl; exact h; exact h2
theorem own_all3 {P : Addr → Prop} {a b c : Addr} (h : P a) (h2 : P b) (h3 : P c) : ∀ x ∈ [a, b, c], P x := fun x hx => by
  simp only [List.mem_cons, List.not_mem_nil, or_false] at hx; rcases hx with rfl | rfl | rfl; exact h; exact h2; exact h3
theorem own_all4 {P : Addr → Prop} {a b c d : Addr} (h : P a) (h2 : P b) (h3 : P c) (h4 : P d) : ∀ x ∈ [a, b, c, d], P x := fun x hx => by
  simp only [List.mem_cons, List.not_mem_nil, or_false] at hx; rcases hx with rfl | rfl | rfl | rfl; exact h; exact h2; exact h3; exact h4
theorem own_nin0 {x : Addr} : x ∉ ([] : List Addr) := List.not_mem_nil
theorem own_nin1 {x a : Addr} (h : x ≠ a) : x ∉ [a] := by simp [h]
theorem own_nin2 {x a b : Addr} (h : x ≠ a) (h2 : x ≠ b) : x ∉ [a, b] := by simp [h, h2]
theorem own_nin3 {x a b c : Addr} (h : x ≠ a) (h2 : x ≠ b) (h3 : x ≠ c) : x ∉ [a, b, c] := by simp [h, h2, h3]
theorem own_nin4 {x a b c d : Addr} (h : x ≠ a) (h2 : x ≠ b) (h3 : x ≠ c) (h4 : x ≠ d) : x ∉ [a, b, c, d] := by simp [h, h2, h3, h4]
end OwnH
section Sq
variable {p : Program} {l : Launch} {e : Env} {R : Room} {s : State} {m : MethodId} {args : Array Value} {below : List Frame} {meth : Method} {c : Code} {T Z : State} {locs : List Loc} {cells slots : Nat} {P : State → JFrame → Prop} {bytes : ByteArray} {pc : Nat} {L : Array Slot} {S : List Value} {a0 : Array Value} {h : Heap}
abbrev BX (p : Program) (c : Code) (bytes : ByteArray) : Prop := p.tables.exec = Jvm.exec ∧ c.code = bytes
abbrev CL (p : Program) (e : Env) (below : List Frame) (P : State → JFrame → Prop) : Prop := ∀ (T T' : State) (g g' : JFrame), (∀ t, Steps p.tables e below (T'.setTop g') t → Steps p.tables e below (T.setTop g) t) → P T' g' → P T g
theorem OGc {Q : Option Value → Heap → List Loc → Prop} : CL p e below (OG p e R s below Q) := fun _ _ _ _ h k => own_st h k
theorem ow {Z : State} {a0 : Array Value} (hw : ∀ d ∈ tables_1, d.before a0 Z = true) (i : Nat) {d : Jvm.Cond} (h : tables_1[i]? = some d) : d.before a0 Z = true := hw _ (List.mem_of_getElem? h)
theorem own_stk {S' : List Value} (h : S = S') (k : P T (mkF m pc L S')) : P T (mkF m pc L S) := h ▸ k
theorem wiload (G : CL p e below P) (n : Nat) (X : Stand p l e R s m args below meth c T locs cells slots) (B : BX p c bytes) {k : Nat} {v : Int32} (hd : decode bytes pc = .ok (.iload k, 2)) (hl : L[k]? = some (.val (.int v))) (hn : pc + 2 = n) (K : P T (mkF m n L (.int v :: S))) : P T (mkF m pc L S) := by
  subst hn; exact G _ _ _ _ (fun t k => XS.iload X.here B.1 rfl (hb B.2 hd) hl k) K
theorem wiloadN (G : CL p e below P) (n : Nat) (X : Stand p l e R s m args below meth c T locs cells slots) (B : BX p c bytes) {k : Fin 4} {v : Int32} (hd : decode bytes pc = .ok (.iload_n k, 1)) (hl : L[k.val]? = some (.val (.int v))) (hn : pc + 1 = n) (K : P T (mkF m n L (.int v :: S))) : P T (mkF m pc L S) := by
  subst hn; exact G _ _ _ _ (fun t k => XS.iloadN X.here B.1 rfl (hb B.2 hd) hl k) K
theorem wlload (G : CL p e below P) (n : Nat) (X : Stand p l e R s m args below meth c T locs cells slots) (B : BX p c bytes) {k : Nat} {v : Int64} (hd : decode bytes pc = .ok (.lload k, 2)) (hl : L[k]? = some (.val (.long v))) (hn : pc + 2 = n) (K : P T (mkF m n L (.long v :: S))) : P T (mkF m pc L S) := by
  subst hn; exact G _ _ _ _ (fun t k => XS.lload X.here B.1 rfl (hb B.2 hd) hl k) K
theorem wlloadN (G : CL p e below P) (n : Nat) (X : Stand p l e R s m args below meth c T locs cells slots) (B : BX p c bytes) {k : Fin 4} {v : Int64} (hd : decode bytes pc = .ok (.lload_n k, 1)) (hl : L[k.val]? = some (.val (.long v))) (hn : pc + 1 = n) (K : P T (mkF m n L (.long v :: S))) : P T (mkF m pc L S) := by
  subst hn; exact G _ _ _ _ (fun t k => XS.lloadN X.here B.1 rfl (hb B.2 hd) hl k) K
theorem waload (G : CL p e below P) (n : Nat) (X : Stand p l e R s m args below meth c T locs cells slots) (B : BX p c bytes) {k : Nat} {v : Value} (hd : decode bytes pc = .ok (.aload k, 2)) (hl : L[k]? = some (.val v)) (hv : v.isRef = true) (hn : pc + 2 = n) (K : P T (mkF m n L (v :: S))) : P T (mkF m pc L S) := by
  subst hn; exact G _ _ _ _ (fun t k => XS.aload X.here B.1 rfl (hb B.2 hd) hl hv k) K
theorem waloadN (G : CL p e below P) (n : Nat) (X : Stand p l e R s m args below meth c T locs cells slots) (B : BX p c bytes) {k : Fin 4} {v : Value} (hd : decode bytes pc = .ok (.aload_n k, 1)) (hl : L[k.val]? = some (.val v)) (hv : v.isRef = true) (hn : pc + 1 = n) (K : P T (mkF m n L (v :: S))) : P T (mkF m pc L S) := by
  subst hn; exact G _ _ _ _ (fun t k => XS.aloadN X.here B.1 rfl (hb B.2 hd) hl hv k) K
theorem wistore (G : CL p e below P) (n : Nat) (X : Stand p l e R s m args below meth c T locs cells slots) (B : BX p c bytes) {k : Nat} {x : Int32} (hd : decode bytes pc = .ok (.istore k, 2)) (L' : Array Slot) (hl : storeLocals L k (.int x) = some L') (hn : pc + 2 = n) (K : P T (mkF m n L' S)) : P T (mkF m pc L (.int x :: S)) := by
  subst hn; exact G _ _ _ _ (fun t k => XS.istore X.here B.1 rfl (hb B.2 hd) rfl hl k) K
theorem wistoreN (G : CL p e below P) (n : Nat) (X : Stand p l e R s m args below meth c T locs cells slots) (B : BX p c bytes) {k : Fin 4} {x : Int32} (hd : decode bytes pc = .ok (.istore_n k, 1)) (L' : Array Slot) (hl : storeLocals L k.val (.int x) = some L') (hn : pc + 1 = n) (K : P T (mkF m n L' S)) : P T (mkF m pc L (.int x :: S)) := by
  subst hn; exact G _ _ _ _ (fun t k => XS.istoreN X.here B.1 rfl (hb B.2 hd) rfl hl k) K
theorem wlstore (G : CL p e below P) (n : Nat) (X : Stand p l e R s m args below meth c T locs cells slots) (B : BX p c bytes) {k : Nat} {x : Int64} (hd : decode bytes pc = .ok (.lstore k, 2)) (L' : Array Slot) (hl : storeLocals L k (.long x) = some L') (hn : pc + 2 = n) (K : P T (mkF m n L' S)) : P T (mkF m pc L (.long x :: S)) := by
  subst hn; exact G _ _ _ _ (fun t k => XS.lstore X.here B.1 rfl (hb B.2 hd) rfl hl k) K
theorem wlstoreN (G : CL p e below P) (n : Nat) (X : Stand p l e R s m args below meth c T locs cells slots) (B : BX p c bytes) {k : Fin 4} {x : Int64} (hd : decode bytes pc = .ok (.lstore_n k, 1)) (L' : Array Slot) (hl : storeLocals L k.val (.long x) = some L') (hn : pc + 1 = n) (K : P T (mkF m n L' S)) : P T (mkF m pc L (.long x :: S)) := by
  subst hn; exact G _ _ _ _ (fun t k => XS.lstoreN X.here B.1 rfl (hb B.2 hd) rfl hl k) K
theorem wastore (G : CL p e below P) (n : Nat) (X : Stand p l e R s m args below meth c T locs cells slots) (B : BX p c bytes) {k : Nat} {x : Value} (hd : decode bytes pc = .ok (.astore k, 2)) (L' : Array Slot) (hv : x.isRef = true) (hl : storeLocals L k x = some L') (hn : pc + 2 = n) (K : P T (mkF m n L' S)) : P T (mkF m pc L (x :: S)) := by
  subst hn; exact G _ _ _ _ (fun t k => XS.astore X.here B.1 rfl (hb B.2 hd) rfl hv hl k) K
theorem wastoreN (G : CL p e below P) (n : Nat) (X : Stand p l e R s m args below meth c T locs cells slots) (B : BX p c bytes) {k : Fin 4} {x : Value} (hd : decode bytes pc = .ok (.astore_n k, 1)) (L' : Array Slot) (hv : x.isRef = true) (hl : storeLocals L k.val x = some L') (hn : pc + 1 = n) (K : P T (mkF m n L' S)) : P T (mkF m pc L (x :: S)) := by
  subst hn; exact G _ _ _ _ (fun t k => XS.astoreN X.here B.1 rfl (hb B.2 hd) rfl hv hl k) K
theorem wiconst (G : CL p e below P) (n : Nat) (X : Stand p l e R s m args below meth c T locs cells slots) (B : BX p c bytes) {i : Int} (hd : decode bytes pc = .ok (.iconst i, 1)) (z : Int32) (hz : Int32.ofInt i = z) (hn : pc + 1 = n) (K : P T (mkF m n L (.int z :: S))) : P T (mkF m pc L S) := by
  subst hn hz; exact G _ _ _ _ (fun t k => XS.iconst X.here B.1 rfl (hb B.2 hd)  k) K
theorem wbipush (G : CL p e below P) (n : Nat) (X : Stand p l e R s m args below meth c T locs cells slots) (B : BX p c bytes) {i : Int} (hd : decode bytes pc = .ok (.bipush i, 2)) (z : Int32) (hz : (Int8.ofInt i).toInt32 = z) (hn : pc + 2 = n) (K : P T (mkF m n L (.int z :: S))) : P T (mkF m pc L S) := by
  subst hn hz; exact G _ _ _ _ (fun t k => XS.bipush X.here B.1 rfl (hb B.2 hd)  k) K
theorem wsipush (G : CL p e below P) (n : Nat) (X : Stand p l e R s m args below meth c T locs cells slots) (B : BX p c bytes) {i : Int} (hd : decode bytes pc = .ok (.sipush i, 3)) (z : Int32) (hz : (Int16.ofInt i).toInt32 = z) (hn : pc + 3 = n) (K : P T (mkF m n L (.int z :: S))) : P T (mkF m pc L S) := by
  subst hn hz; exact G _ _ _ _ (fun t k => XS.sipush X.here B.1 rfl (hb B.2 hd)  k) K
theorem wlconst (G : CL p e below P) (n : Nat) (X : Stand p l e R s m args below meth c T locs cells slots) (B : BX p c bytes) {i : Fin 2} (hd : decode bytes pc = .ok (.lconst i, 1)) (z : Int64) (hz : Int64.ofNat i = z) (hn : pc + 1 = n) (K : P T (mkF m n L (.long z :: S))) : P T (mkF m pc L S) := by
  subst hn hz; exact G _ _ _ _ (fun t k => XS.lconst X.here B.1 rfl (hb B.2 hd)  k) K
theorem waconstNull (G : CL p e below P) (n : Nat) (X : Stand p l e R s m args below meth c T locs cells slots) (B : BX p c bytes)  (hd : decode bytes pc = .ok (.aconst_null, 1))  (hn : pc + 1 = n) (K : P T (mkF m n L (.null :: S))) : P T (mkF m pc L S) := by
  subst hn; exact G _ _ _ _ (fun t k => XS.aconstNull X.here B.1 rfl (hb B.2 hd)  k) K
theorem wdup (G : CL p e below P) (n : Nat) (X : Stand p l e R s m args below meth c T locs cells slots) (B : BX p c bytes) {x : Value} (hd : decode bytes pc = .ok (.dup, 1)) (hc : x.category = 1) (hn : pc + 1 = n) (K : P T (mkF m n L (x :: x :: S))) : P T (mkF m pc L (x :: S)) := by
  subst hn; exact G _ _ _ _ (fun t k => XS.dup X.here B.1 rfl (hb B.2 hd) rfl hc k) K
theorem wpop (G : CL p e below P) (n : Nat) (X : Stand p l e R s m args below meth c T locs cells slots) (B : BX p c bytes) {x : Value} (hd : decode bytes pc = .ok (.pop, 1)) (hc : x.category = 1) (hn : pc + 1 = n) (K : P T (mkF m n L S)) : P T (mkF m pc L (x :: S)) := by
  subst hn; exact G _ _ _ _ (fun t k => XS.pop X.here B.1 rfl (hb B.2 hd) rfl hc k) K
theorem wiadd (G : CL p e below P) (n : Nat) (X : Stand p l e R s m args below meth c T locs cells slots) (B : BX p c bytes) {x y : Int32} (hd : decode bytes pc = .ok (.iadd, 1))  (hn : pc + 1 = n) (K : P T (mkF m n L (.int (x + y) :: S))) : P T (mkF m pc L (.int y :: .int x :: S)) := by
  subst hn; exact G _ _ _ _ (fun t k => XS.iadd X.here B.1 rfl (hb B.2 hd) rfl k) K
theorem wisub (G : CL p e below P) (n : Nat) (X : Stand p l e R s m args below meth c T locs cells slots) (B : BX p c bytes) {x y : Int32} (hd : decode bytes pc = .ok (.isub, 1))  (hn : pc + 1 = n) (K : P T (mkF m n L (.int (x - y) :: S))) : P T (mkF m pc L (.int y :: .int x :: S)) := by
  subst hn; exact G _ _ _ _ (fun t k => XS.isub X.here B.1 rfl (hb B.2 hd) rfl k) K
theorem wiand (G : CL p e below P) (n : Nat) (X : Stand p l e R s m args below meth c T locs cells slots) (B : BX p c bytes) {x y : Int32} (hd : decode bytes pc = .ok (.iand, 1))  (hn : pc + 1 = n) (K : P T (mkF m n L (.int (x &&& y) :: S))) : P T (mkF m pc L (.int y :: .int x :: S)) := by
  subst hn; exact G _ _ _ _ (fun t k => XS.iand X.here B.1 rfl (hb B.2 hd) rfl k) K
theorem wladd (G : CL p e below P) (n : Nat) (X : Stand p l e R s m args below meth c T locs cells slots) (B : BX p c bytes) {x y : Int64} (hd : decode bytes pc = .ok (.ladd, 1))  (hn : pc + 1 = n) (K : P T (mkF m n L (.long (x + y) :: S))) : P T (mkF m pc L (.long y :: .long x :: S)) := by
  subst hn; exact G _ _ _ _ (fun t k => XS.ladd X.here B.1 rfl (hb B.2 hd) rfl k) K
theorem wlsub (G : CL p e below P) (n : Nat) (X : Stand p l e R s m args below meth c T locs cells slots) (B : BX p c bytes) {x y : Int64} (hd : decode bytes pc = .ok (.lsub, 1))  (hn : pc + 1 = n) (K : P T (mkF m n L (.long (x - y) :: S))) : P T (mkF m pc L (.long y :: .long x :: S)) := by
  subst hn; exact G _ _ _ _ (fun t k => XS.lsub X.here B.1 rfl (hb B.2 hd) rfl k) K
theorem wlcmp (G : CL p e below P) (n : Nat) (X : Stand p l e R s m args below meth c T locs cells slots) (B : BX p c bytes) {x y : Int64} (hd : decode bytes pc = .ok (.lcmp, 1))  (hn : pc + 1 = n) (K : P T (mkF m n L (.int (lcmpW x y) :: S))) : P T (mkF m pc L (.long y :: .long x :: S)) := by
  subst hn; exact G _ _ _ _ (fun t k => XS.lcmp X.here B.1 rfl (hb B.2 hd) rfl k) K
theorem wiinc (G : CL p e below P) (n : Nat) (X : Stand p l e R s m args below meth c T locs cells slots) (B : BX p c bytes) {k : Nat} {cst : Int} {x : Int32} (hd : decode bytes pc = .ok (.iinc k cst, 3)) (L' : Array Slot) (hl : L[k]? = some (.val (.int x))) (hl' : storeLocals L k (.int (x + Int32.ofInt cst)) = some L') (hn : pc + 3 = n) (K : P T (mkF m n L' S)) : P T (mkF m pc L S) := by
  subst hn; exact G _ _ _ _ (fun t k => XS.iinc X.here B.1 rfl (hb B.2 hd) hl hl' k) K
theorem wgoto (G : CL p e below P) (n : Nat) (X : Stand p l e R s m args below meth c T locs cells slots) (B : BX p c bytes)  {o : Int} (hd : decode bytes pc = .ok (.goto o, 3))  (hj : (pc : Int) + o = (n : Int)) (K : P T (mkF m n L S)) : P T (mkF m pc L S) :=
  G _ _ _ _ (fun t k => XS.goto X.here B.1 rfl (pc0 := pc) (pc' := n) rfl (hb B.2 hd)  (by rw [hj]; exact Int.natCast_nonneg n) (by rw [hj]; exact Int.toNat_natCast n) k) K
theorem wifYes (G : CL p e below P) (n : Nat) (X : Stand p l e R s m args below meth c T locs cells slots) (B : BX p c bytes) {cd : ClassFile.Cond} {x : Int32} {o : Int} (hd : decode bytes pc = .ok (.ifCond cd o, 3)) (hc : ifCond.holds cd x = true) (hj : (pc : Int) + o = (n : Int)) (K : P T (mkF m n L S)) : P T (mkF m pc L (.int x :: S)) :=
  G _ _ _ _ (fun t k => XS.ifYes X.here B.1 rfl (pc0 := pc) (pc' := n) rfl (hb B.2 hd) rfl hc (by rw [hj]; exact Int.natCast_nonneg n) (by rw [hj]; exact Int.toNat_natCast n) k) K
theorem wicmpYes (G : CL p e below P) (n : Nat) (X : Stand p l e R s m args below meth c T locs cells slots) (B : BX p c bytes) {cd : ClassFile.Cond} {x y : Int32} {o : Int} (hd : decode bytes pc = .ok (.if_icmp cd o, 3)) (hc : if_icmp.holds cd x y = true) (hj : (pc : Int) + o = (n : Int)) (K : P T (mkF m n L S)) : P T (mkF m pc L (.int y :: .int x :: S)) :=
  G _ _ _ _ (fun t k => XS.icmpYes X.here B.1 rfl (pc0 := pc) (pc' := n) rfl (hb B.2 hd) rfl hc (by rw [hj]; exact Int.natCast_nonneg n) (by rw [hj]; exact Int.toNat_natCast n) k) K
theorem wifnullYes (G : CL p e below P) (n : Nat) (X : Stand p l e R s m args below meth c T locs cells slots) (B : BX p c bytes)  {o : Int} (hd : decode bytes pc = .ok (.ifnull o, 3))  (hj : (pc : Int) + o = (n : Int)) (K : P T (mkF m n L S)) : P T (mkF m pc L (.null :: S)) :=
  G _ _ _ _ (fun t k => XS.ifnullYes X.here B.1 rfl (pc0 := pc) (pc' := n) rfl (hb B.2 hd) rfl (by rw [hj]; exact Int.natCast_nonneg n) (by rw [hj]; exact Int.toNat_natCast n) k) K
theorem wifnonnullYes (G : CL p e below P) (n : Nat) (X : Stand p l e R s m args below meth c T locs cells slots) (B : BX p c bytes) {b : Addr} {o : Int} (hd : decode bytes pc = .ok (.ifnonnull o, 3))  (hj : (pc : Int) + o = (n : Int)) (K : P T (mkF m n L S)) : P T (mkF m pc L (.ref b :: S)) :=
  G _ _ _ _ (fun t k => XS.ifnonnullYes X.here B.1 rfl (pc0 := pc) (pc' := n) rfl (hb B.2 hd) rfl (by rw [hj]; exact Int.natCast_nonneg n) (by rw [hj]; exact Int.toNat_natCast n) k) K
theorem wifNo (G : CL p e below P) (n : Nat) (X : Stand p l e R s m args below meth c T locs cells slots) (B : BX p c bytes) {cd : ClassFile.Cond} {o : Int} {x : Int32} (hd : decode bytes pc = .ok (.ifCond cd o, 3)) (hc : ifCond.holds cd x = false) (hn : pc + 3 = n) (K : P T (mkF m n L S)) : P T (mkF m pc L (.int x :: S)) := by
  subst hn; exact G _ _ _ _ (fun t k => XS.ifNo X.here B.1 rfl (hb B.2 hd) rfl hc k) K
theorem wicmpNo (G : CL p e below P) (n : Nat) (X : Stand p l e R s m args below meth c T locs cells slots) (B : BX p c bytes) {cd : ClassFile.Cond} {o : Int} {x y : Int32} (hd : decode bytes pc = .ok (.if_icmp cd o, 3)) (hc : if_icmp.holds cd x y = false) (hn : pc + 3 = n) (K : P T (mkF m n L S)) : P T (mkF m pc L (.int y :: .int x :: S)) := by
  subst hn; exact G _ _ _ _ (fun t k => XS.icmpNo X.here B.1 rfl (hb B.2 hd) rfl hc k) K
theorem wifnullNo (G : CL p e below P) (n : Nat) (X : Stand p l e R s m args below meth c T locs cells slots) (B : BX p c bytes) {o : Int} {b : Addr} (hd : decode bytes pc = .ok (.ifnull o, 3))  (hn : pc + 3 = n) (K : P T (mkF m n L S)) : P T (mkF m pc L (.ref b :: S)) := by
  subst hn; exact G _ _ _ _ (fun t k => XS.ifnullNo X.here B.1 rfl (hb B.2 hd) rfl k) K
theorem wifnonnullNo (G : CL p e below P) (n : Nat) (X : Stand p l e R s m args below meth c T locs cells slots) (B : BX p c bytes) {o : Int} (hd : decode bytes pc = .ok (.ifnonnull o, 3))  (hn : pc + 3 = n) (K : P T (mkF m n L S)) : P T (mkF m pc L (.null :: S)) := by
  subst hn; exact G _ _ _ _ (fun t k => XS.ifnonnullNo X.here B.1 rfl (hb B.2 hd) rfl k) K
theorem wgetF (G : CL p e below P) (n : Nat) (X : Stand p l e R s m args below meth c T locs cells slots) (B : BX p c bytes) (hZ : Z.Warmed39 s.vm) {own R0 nm d : String} {index : Nat} (hown : s.vm.findClass own = some m.cls) (w : (Jvm.Cond.fieldLink own index R0 nm d).before a0 Z = true) (eT : T.heap = h) {a : Addr} {v : Value} (F : Fld Z h a R0 nm d v) (hd : decode bytes pc = .ok (.getfield index, 3)) (hn : pc + 3 = n) (K : ∀ T', Stand p l e R s m args below meth c T' locs cells slots → T'.heap = h → P T' (mkF m n L (v :: S))) : P T (mkF m pc L (.ref a :: S)) := by
  subst hn
  obtain ⟨T', X', e', st⟩ := getF X B.1 hZ hown (host := "") (Or.inl w) Via.refl eT F (g := mkF m pc L (.ref a :: S)) rfl rfl (hb B.2 hd)
  exact G _ _ _ _ st (K T' X' e')
theorem wgetS (G : CL p e below P) (n : Nat) (X : Stand p l e R s m args below meth c T locs cells slots) (B : BX p c bytes) (hZ : Z.Warmed39 s.vm) {own R0 nm d : String} {index : Nat} (hown : s.vm.findClass own = some m.cls) (w : (Jvm.Cond.fieldLink own index R0 nm d).before a0 Z = true) (eT : T.heap = h) {v : Value} (F : Sta Z h R0 nm d v) (hd : decode bytes pc = .ok (.getstatic index, 3)) (hn : pc + 3 = n) (K : ∀ T', Stand p l e R s m args below meth c T' locs cells slots → T'.heap = h → P T' (mkF m n L (v :: S))) : P T (mkF m pc L S) := by
  subst hn
  obtain ⟨T', X', e', st⟩ := getS X B.1 hZ (host := "") hown w Via.refl eT F (g := mkF m pc L S) rfl (hb B.2 hd)
  exact G _ _ _ _ st (K T' X' e')
theorem wputF (G : CL p e below P) (n : Nat) (X : Stand p l e R s m args below meth c T locs cells slots) (B : BX p c bytes) (hZ : Z.Warmed39 s.vm) {own R0 nm d C : String} {index kk : Nat} {ty : FieldType} (hown : s.vm.findClass own = some m.cls) (w : (Jvm.Cond.fieldLink own index R0 nm d).before a0 Z = true) (eT : T.heap = h) {a : Addr} {v old : Value} (F : Fld Z h a R0 nm d old) (E : Exa Z h a C) (Ly : (Jvm.Cond.lays C R0 nm d).before a0 Z = true ∨ ((Jvm.Cond.laysFinal C R0 nm d).before a0 Z = true ∧ own = R0 ∧ meth.name = "<init>")) (wi : (Jvm.Cond.instantiable C kk).before a0 Z = true)
    (hty : parseFieldDescriptor d = some ty) (hnn : narrow ty v = v) (hf : fits ty v = true) (hd : decode bytes pc = .ok (.putfield index, 3)) (hn : pc + 3 = n) (K : ∀ T' h', Stand p l e R s m args below meth c T' (locs ++ [⟨a, Jvm.RoadKit.slotOf Z R0 nm d⟩]) cells slots → T'.heap = h' → Wr h h' a (Jvm.RoadKit.slotOf Z R0 nm d) v → P T' (mkF m n L S)) : P T (mkF m pc L (v :: .ref a :: S)) := by
  subst hn
  obtain ⟨T', h', X', e', W', st⟩ := putF X B.1 hZ hown (host := "") (Or.inl w) Via.refl eT F E Ly wi hty hnn hf (g := mkF m pc L (v :: .ref a :: S)) rfl rfl (hb B.2 hd)
  exact G _ _ _ _ st (K T' h' X' e' W')
theorem wnewO (G : CL p e below P) (n : Nat) (X : Stand p l e R s m args below meth c T locs cells slots) (B : BX p c bytes) (hZ : Z.Warmed39 s.vm) {own C : String} {index k : Nat} (hown : s.vm.findClass own = some m.cls) (w : (Jvm.Cond.classLink own index C).before a0 Z = true) (wi : (Jvm.Cond.instantiable C k).before a0 Z = true) (wz : (Jvm.Cond.initialized C).before a0 Z = true) (eT : T.heap = h) (hd : decode bytes pc = .ok (.new index, 3)) (hc : cells + 1 ≤ R.cells ∧ slots + k ≤ R.slots) (hn : pc + 3 = n)
    (K : ∀ T' h' x, x = h.size → Stand p l e R s m args below meth c T' locs (cells + 1) (slots + k) → T'.heap = h' → Ext h h' → Exa Z h' x C → (∀ {O nm d : String} {ty : FieldType}, Laid Z a0 C O nm d → parseFieldDescriptor d = some ty → Fld Z h' x O nm d (defaultValue ty)) → P T' (mkF m n L (.ref x :: S))) : P T (mkF m pc L S) := by
  subst hn
  obtain ⟨T', h', X', e', E', A', D', -, st⟩ := newO X B.1 hZ hown w wi wz eT (g := mkF m pc L S) rfl (hb B.2 hd) hc.1 hc.2
  exact G _ _ _ _ st (K T' h' _ rfl X' e' E' A' D')
theorem wnewP (G : CL p e below P) (n : Nat) (X : Stand p l e R s m args below meth c T locs cells slots) (B : BX p c bytes) (hZ : Z.Warmed39 s.vm) {aty : ArrayType} (w : (Jvm.Cond.arrayClass (newarray.typeOf aty)).before a0 Z = true) (eT : T.heap = h) (hd : decode bytes pc = .ok (.newarray aty, 2)) {z : Int32} (cap : Nat) (hz : ¬ z < 0 ∧ z.toNatClampNeg ≤ cap ∧ cap * 8 ≤ 536870912) (hc : cells + 1 ≤ R.cells ∧ slots + cap ≤ R.slots) (hn : pc + 2 = n)
    (K : ∀ T' h' x cA, x = h.size → Stand p l e R s m args below meth c T' locs (cells + 1) (slots + cap) → T'.heap = h' → Ext h h' → Arr Z h' x (newA cA (newarray.typeOf aty) z) (newarray.typeOf aty) → P T' (mkF m n L (.ref x :: S))) : P T (mkF m pc L (.int z :: S)) := by
  subst hn
  obtain ⟨T', h', k', X', e', E', A', st⟩ := newP X B.1 hZ w eT (g := mkF m pc L (.int z :: S)) rfl (hb B.2 hd) rfl hz.1 hz.2.1 hz.2.2 hc.1 hc.2
  exact G _ _ _ _ st (K T' h' _ k' rfl X' e' E' A')
theorem wstI (G : CL p e below P) (n : Nat) (X : Stand p l e R s m args below meth c T locs cells slots) (B : BX p c bytes) (hZ : Z.Warmed39 s.vm) (eT : T.heap = h) {a : Addr} {vs : List Value} (F : OA Z h a .int vs) {j : Int32} {x : Int32} (i : Nat) (hj : j.toNatClampNeg = i) (h0 : ¬ j < 0) (hi : i < vs.length) (hd : decode bytes pc = .ok (.iastore, 1)) (hn : pc + 1 = n)
    (K : ∀ T' h', Stand p l e R s m args below meth c T' (locs ++ [⟨a, j.toNatClampNeg⟩]) cells slots → T'.heap = h' → Wr h h' a j.toNatClampNeg (.int x) → P T' (mkF m n L S)) : P T (mkF m pc L (.int x :: .int j :: .ref a :: S)) := by
  subst hn
  obtain ⟨cl, A, hi'⟩ := own_wr F hj h0 hi
  obtain ⟨T', h', X', e', W', st⟩ := stI X B.1 hZ eT A hi' (g := mkF m pc L (.int x :: .int j :: .ref a :: S)) rfl rfl (hb B.2 hd)
  exact G _ _ _ _ st (K T' h' X' e' W')
theorem wstJ (G : CL p e below P) (n : Nat) (X : Stand p l e R s m args below meth c T locs cells slots) (B : BX p c bytes) (hZ : Z.Warmed39 s.vm) (eT : T.heap = h) {a : Addr} {vs : List Value} (F : OA Z h a .long vs) {j : Int32} {x : Int64} (i : Nat) (hj : j.toNatClampNeg = i) (h0 : ¬ j < 0) (hi : i < vs.length) (hd : decode bytes pc = .ok (.lastore, 1)) (hn : pc + 1 = n)
    (K : ∀ T' h', Stand p l e R s m args below meth c T' (locs ++ [⟨a, j.toNatClampNeg⟩]) cells slots → T'.heap = h' → Wr h h' a j.toNatClampNeg (.long x) → P T' (mkF m n L S)) : P T (mkF m pc L (.long x :: .int j :: .ref a :: S)) := by
  subst hn
  obtain ⟨cl, A, hi'⟩ := own_wr F hj h0 hi
  obtain ⟨T', h', X', e', W', st⟩ := stJ X B.1 hZ eT A hi' (g := mkF m pc L (.long x :: .int j :: .ref a :: S)) rfl rfl (hb B.2 hd)
  exact G _ _ _ _ st (K T' h' X' e' W')
theorem wstB (G : CL p e below P) (n : Nat) (X : Stand p l e R s m args below meth c T locs cells slots) (B : BX p c bytes) (hZ : Z.Warmed39 s.vm) (eT : T.heap = h) {a : Addr} {vs : List Value} (F : OA Z h a .byte vs) {j : Int32} {x : Int32} (i : Nat) (hj : j.toNatClampNeg = i) (h0 : ¬ j < 0) (hi : i < vs.length) (hd : decode bytes pc = .ok (.bastore, 1)) (hn : pc + 1 = n)
    (K : ∀ T' h', Stand p l e R s m args below meth c T' (locs ++ [⟨a, j.toNatClampNeg⟩]) cells slots → T'.heap = h' → Wr h h' a j.toNatClampNeg (.int (nar .byte x)) → P T' (mkF m n L S)) : P T (mkF m pc L (.int x :: .int j :: .ref a :: S)) := by
  subst hn
  obtain ⟨cl, A, hi'⟩ := own_wr F hj h0 hi
  obtain ⟨T', h', X', e', W', st⟩ := stB X B.1 hZ eT A hi' (g := mkF m pc L (.int x :: .int j :: .ref a :: S)) rfl rfl (hb B.2 hd)
  exact G _ _ _ _ st (K T' h' X' e' W')
theorem wstC (G : CL p e below P) (n : Nat) (X : Stand p l e R s m args below meth c T locs cells slots) (B : BX p c bytes) (hZ : Z.Warmed39 s.vm) (eT : T.heap = h) {a : Addr} {vs : List Value} (F : OA Z h a .char vs) {j : Int32} {x : Int32} (i : Nat) (hj : j.toNatClampNeg = i) (h0 : ¬ j < 0) (hi : i < vs.length) (hd : decode bytes pc = .ok (.castore, 1)) (hn : pc + 1 = n)
    (K : ∀ T' h', Stand p l e R s m args below meth c T' (locs ++ [⟨a, j.toNatClampNeg⟩]) cells slots → T'.heap = h' → Wr h h' a j.toNatClampNeg (.int (nar .char x)) → P T' (mkF m n L S)) : P T (mkF m pc L (.int x :: .int j :: .ref a :: S)) := by
  subst hn
  obtain ⟨cl, A, hi'⟩ := own_wr F hj h0 hi
  obtain ⟨T', h', X', e', W', st⟩ := stC X B.1 hZ eT A hi' (g := mkF m pc L (.int x :: .int j :: .ref a :: S)) rfl rfl (hb B.2 hd)
  exact G _ _ _ _ st (K T' h' X' e' W')
theorem wiaload (G : CL p e below P) (n : Nat) (X : Stand p l e R s m args below meth c T locs cells slots) (B : BX p c bytes) (hZ : Z.Warmed39 s.vm) (eT : T.heap = h) {a : Addr} {vs : List Value} (F : OA Z h a .int vs) {j : Int32} {v : Value} (i : Nat) (hj : j.toNatClampNeg = i) (h0 : ¬ j < 0) (hv : vs[i]? = some v) (hd : decode bytes pc = .ok (.iaload, 1)) (hn : pc + 1 = n) (K : P T (mkF m n L (v :: S))) : P T (mkF m pc L (.int j :: .ref a :: S)) := by
  subst hn
  obtain ⟨cl, Ar, hi, ha⟩ := own_rd F hj h0 hv
  exact G _ _ _ _ (fun t k => X.iaload B.1 (j := j) (v := v) (by rw [eT]; exact Ar.1) (State.isArrayOf_alike hZ.alike Ar.2.1) Ar.2.2 hi ha (g := mkF m pc L (.int j :: .ref a :: S)) rfl rfl (hb B.2 hd) t k) K
theorem wlaload (G : CL p e below P) (n : Nat) (X : Stand p l e R s m args below meth c T locs cells slots) (B : BX p c bytes) (hZ : Z.Warmed39 s.vm) (eT : T.heap = h) {a : Addr} {vs : List Value} (F : OA Z h a .long vs) {j : Int32} {v : Value} (i : Nat) (hj : j.toNatClampNeg = i) (h0 : ¬ j < 0) (hv : vs[i]? = some v) (hd : decode bytes pc = .ok (.laload, 1)) (hn : pc + 1 = n) (K : P T (mkF m n L (v :: S))) : P T (mkF m pc L (.int j :: .ref a :: S)) := by
  subst hn
  obtain ⟨cl, Ar, hi, ha⟩ := own_rd F hj h0 hv
  exact G _ _ _ _ (fun t k => X.laload B.1 (j := j) (v := v) (by rw [eT]; exact Ar.1) (State.isArrayOf_alike hZ.alike Ar.2.1) Ar.2.2 hi ha (g := mkF m pc L (.int j :: .ref a :: S)) rfl rfl (hb B.2 hd) t k) K
theorem wcaload (G : CL p e below P) (n : Nat) (X : Stand p l e R s m args below meth c T locs cells slots) (B : BX p c bytes) (hZ : Z.Warmed39 s.vm) (eT : T.heap = h) {a : Addr} {vs : List Value} (F : OA Z h a .char vs) {j : Int32} {v : Value} (i : Nat) (hj : j.toNatClampNeg = i) (h0 : ¬ j < 0) (hv : vs[i]? = some v) (hd : decode bytes pc = .ok (.caload, 1)) (hn : pc + 1 = n) (K : P T (mkF m n L (v :: S))) : P T (mkF m pc L (.int j :: .ref a :: S)) := by
  subst hn
  obtain ⟨cl, Ar, hi, ha⟩ := own_rd F hj h0 hv
  exact G _ _ _ _ (fun t k => X.caload B.1 (j := j) (v := v) (by rw [eT]; exact Ar.1) (State.isArrayOf_alike hZ.alike Ar.2.1) Ar.2.2 hi ha (g := mkF m pc L (.int j :: .ref a :: S)) rfl rfl (hb B.2 hd) t k) K
theorem wbaload (G : CL p e below P) (n : Nat) (X : Stand p l e R s m args below meth c T locs cells slots) (B : BX p c bytes) (hZ : Z.Warmed39 s.vm) (eT : T.heap = h) {a : Addr} {vs : List Value} (F : OA Z h a .byte vs) {j : Int32} {v : Value} (i : Nat) (hj : j.toNatClampNeg = i) (h0 : ¬ j < 0) (hv : vs[i]? = some v) (hd : decode bytes pc = .ok (.baload, 1)) (hn : pc + 1 = n) (K : P T (mkF m n L (v :: S))) : P T (mkF m pc L (.int j :: .ref a :: S)) := by
  subst hn
  obtain ⟨cl, Ar, hi, ha⟩ := own_rd F hj h0 hv
  exact G _ _ _ _ (fun t k => X.baloadBytes B.1 (j := j) (v := v) (by rw [eT]; exact Ar.1) (State.isArrayOf_alike hZ.alike Ar.2.1) Ar.2.2 hi ha (g := mkF m pc L (.int j :: .ref a :: S)) rfl rfl (hb B.2 hd) t k) K
theorem warlenA (G : CL p e below P) (n : Nat) (X : Stand p l e R s m args below meth c T locs cells slots) (B : BX p c bytes) (hZ : Z.Warmed39 s.vm) (eT : T.heap = h) {a : Addr} {ty : FieldType} {vs : List Value} (F : OA Z h a ty vs) (z : Int32) (hz : vs.length.toInt32 = z) (hd : decode bytes pc = .ok (.arraylength, 1)) (hn : pc + 1 = n) (K : P T (mkF m n L (.int z :: S))) : P T (mkF m pc L (.ref a :: S)) := by
  subst hn
  obtain ⟨cl, Ar, hs⟩ := F.len
  rw [← hs] at hz
  subst hz
  exact G _ _ _ _ (fun t k => X.arraylength B.1 (by rw [eT]; exact Ar.1) (State.isArrayOf_alike hZ.alike Ar.2.1) (g := mkF m pc L (.ref a :: S)) rfl rfl (hb B.2 hd) t k) K
theorem warlenL (G : CL p e below P) (n : Nat) (X : Stand p l e R s m args below meth c T locs cells slots) (B : BX p c bytes) (hZ : Z.Warmed39 s.vm) (eT : T.heap = h) {a : Addr} {ty : FieldType} {q : Nat} (F : OL Z h a ty q) (z : Int32) (hz : q.toInt32 = z) (hd : decode bytes pc = .ok (.arraylength, 1)) (hn : pc + 1 = n) (K : P T (mkF m n L (.int z :: S))) : P T (mkF m pc L (.ref a :: S)) := by
  subst hn
  obtain ⟨cl, Ar, hs⟩ := F
  rw [← hs] at hz
  subst hz
  exact G _ _ _ _ (fun t k => X.arraylength B.1 (by rw [eT]; exact Ar.1) (State.isArrayOf_alike hZ.alike Ar.2.1) (g := mkF m pc L (.ref a :: S)) rfl rfl (hb B.2 hd) t k) K
theorem wstat (G : CL p e below P) (n : Nat) (X : Stand p l e R s m args below meth c T locs cells slots) (B : BX p c bytes) (hZ : Z.Warmed39 s.vm) {own : String} {index : Nat} {y : MethodName} {ret : Option FieldType} {bs : ByteArray} {maxL : Nat} (hown : s.vm.findClass own = some m.cls) (w1 : (Jvm.Cond.methodLink own index y).before a0 Z = true) (w2 : (Jvm.Cond.static y).before a0 Z = true) (wc : (Jvm.Cond.code y bs maxL ret).before a0 Z = true) (wz : (Jvm.Cond.initialized y.cls).before a0 Z = true) (eT : T.heap = h) {rm : Room} {argsL : List Value} {Q : Option Value → Heap → List Loc → Prop} (hM : OMet l Z y bs maxL ret [] rm argsL.toArray h Q) (W : Nat) (hy : y.cls ≠ "java/lang/invoke/MethodHandle" ∧ y.cls ≠ "java/lang/invoke/VarHandle") (hr : rm.frames + 1 ≤ R.frames ∧ W + (maxL + 11) + rm.locals ≤ R.locals ∧ cells + rm.cells ≤ R.cells ∧ slots + rm.slots ≤ R.slots) {k : Nat} (hml : c.maxLocals = k) (hsz : L.size = k)
    (hlen : ∀ sig, parseMethodDescriptor y.desc = some sig → argsL.length = sig.parameters.length) (rest : List Value) (hst : S = argsL.reverse ++ rest) (hW : (rest.map fun v => v.category).sum = W) (hd : decode bytes pc = .ok (.invokestatic index, 3)) (hn : pc + 3 = n)
    (K : ∀ (v : Option Value) (T' : State) (L' : List Loc), Stand p l e R s m args below meth c T' (locs ++ L') (cells + rm.cells) (slots + rm.slots) → Q v T'.heap L' → P T' (mkF m n L (v.toList ++ rest))) : P T (mkF m pc L S) := by
  subst hn
  obtain ⟨hf, hl, hc, hs⟩ := hr
  obtain ⟨v, _, ⟨T', L', k', n'⟩, -, X', ⟨Lc, hQ, l1, l2, l3⟩, st⟩ := Jvm.LawKit.callS X B.1 (y := y) hown (mvT hZ w1) (mvT hZ w2) (mvT hZ wz) (mvT hZ wc) hy (backOf (W := W) (rm := rm) hM hZ wc wz hf hl) (g := mkF m pc L S) rfl (by rw [hml]; exact hsz) (argsL := argsL) (rest := rest) hlen hst (by show 2 * 0 + _ ≤ _; omega) (hb B.2 hd) (fun _ _ => ⟨rfl, eT, hc, hs⟩)
  dsimp only [Pt.U, Pt.locs, Pt.cells, Pt.slots] at X' l1 l2 l3 st hQ
  subst l1 l2 l3
  exact G _ _ _ _ st (K v T' Lc X' hQ)
theorem wspec (G : CL p e below P) (n : Nat) (X : Stand p l e R s m args below meth c T locs cells slots) (B : BX p c bytes) (hZ : Z.Warmed39 s.vm) {own : String} {index : Nat} {y : MethodName} {a : Addr} {bs : ByteArray} {maxL : Nat} (hown : s.vm.findClass own = some m.cls) (w1 : (Jvm.Cond.methodLink own index y).before a0 Z = true) (w2 : (Jvm.Cond.instanceMethod y).before a0 Z = true) (hy1 : y.name = "<init>") (wc : (Jvm.Cond.code y bs maxL none).before a0 Z = true) (wz : (Jvm.Cond.initialized y.cls).before a0 Z = true) (eT : T.heap = h) {rm : Room} {argsL : List Value} {Q : Option Value → Heap → List Loc → Prop} (hM : OMet l Z y bs maxL none [] rm (.ref a :: argsL).toArray h Q) (W : Nat) (hy : y.cls ≠ "java/lang/invoke/MethodHandle" ∧ y.cls ≠ "java/lang/invoke/VarHandle") (hr : rm.frames + 1 ≤ R.frames ∧ W + (maxL + 11) + rm.locals ≤ R.locals ∧ cells + rm.cells ≤ R.cells ∧ slots + rm.slots ≤ R.slots) {k : Nat} (hml : c.maxLocals = k) (hsz : L.size = k)
    (hlen : ∀ sig, parseMethodDescriptor y.desc = some sig → argsL.length = sig.parameters.length) (rest : List Value) (hst : S = argsL.reverse ++ .ref a :: rest) (hW : (rest.map fun v => v.category).sum = W) (hd : decode bytes pc = .ok (.invokespecial index, 3)) (hn : pc + 3 = n)
    (K : ∀ (v : Option Value) (T' : State) (L' : List Loc), Stand p l e R s m args below meth c T' (locs ++ L') (cells + rm.cells) (slots + rm.slots) → Q v T'.heap L' → P T' (mkF m n L (v.toList ++ rest))) : P T (mkF m pc L S) := by
  subst hn
  obtain ⟨hf, hl, hc, hs⟩ := hr
  obtain ⟨v, _, ⟨T', L', k', n'⟩, -, X', ⟨Lc, hQ, l1, l2, l3⟩, st⟩ := X.specialBack B.1 (y := y) hy1 hown (mvT hZ w1) (mvT hZ w2) (mvT hZ wc) hy (backOf (W := W) (rm := rm) hM hZ wc wz hf hl) (g := mkF m pc L S) rfl (by rw [hml]; exact hsz) (Steps.refl _) (a := a) (argsL := argsL) (rest := rest) hlen hst (by show 2 * 0 + _ ≤ _; omega) (hb B.2 hd) (fun _ _ => ⟨rfl, eT, hc, hs⟩)
  dsimp only [Pt.U, Pt.locs, Pt.cells, Pt.slots] at X' l1 l2 l3 st hQ
  subst l1 l2 l3
  exact G _ _ _ _ (fun t k => st.trans k) (K v T' Lc X' hQ)
theorem wvirt (G : CL p e below P) (n : Nat) (X : Stand p l e R s m args below meth c T locs cells slots) (B : BX p c bytes) (hZ : Z.Warmed39 s.vm) {own : String} {index : Nat} {y : MethodName} {C : String} {a : Addr} {ret : Option FieldType} {bs : ByteArray} {maxL : Nat} (hown : s.vm.findClass own = some m.cls) (w1 : (Jvm.Cond.methodLink own index y).before a0 Z = true) (w2 : (Jvm.Cond.declares y).before a0 Z = true) (w3 : (Jvm.Cond.selects C y y).before a0 Z = true) (w4 : (Jvm.Cond.instanceMethod y).before a0 Z = true) (E : Exa Z h a C) (wc : (Jvm.Cond.code y bs maxL ret).before a0 Z = true) (wz : (Jvm.Cond.initialized y.cls).before a0 Z = true) (eT : T.heap = h) {rm : Room} {argsL : List Value} {Q : Option Value → Heap → List Loc → Prop} (hM : OMet l Z y bs maxL ret [] rm (.ref a :: argsL).toArray h Q) (W : Nat) (hy : y.cls ≠ "java/lang/invoke/MethodHandle" ∧ y.cls ≠ "java/lang/invoke/VarHandle") (hr : rm.frames + 1 ≤ R.frames ∧ W + (maxL + 11) + rm.locals ≤ R.locals ∧ cells + rm.cells ≤ R.cells ∧ slots + rm.slots ≤ R.slots) {k : Nat} (hml : c.maxLocals = k) (hsz : L.size = k)
    (hlen : ∀ sig, parseMethodDescriptor y.desc = some sig → argsL.length = sig.parameters.length) (rest : List Value) (hst : S = argsL.reverse ++ .ref a :: rest) (hW : (rest.map fun v => v.category).sum = W) (hd : decode bytes pc = .ok (.invokevirtual index, 3)) (hn : pc + 3 = n)
    (K : ∀ (v : Option Value) (T' : State) (L' : List Loc), Stand p l e R s m args below meth c T' (locs ++ L') (cells + rm.cells) (slots + rm.slots) → Q v T'.heap L' → P T' (mkF m n L (v.toList ++ rest))) : P T (mkF m pc L S) := by
  subst hn
  obtain ⟨hf, hl, hc, hs⟩ := hr
  obtain ⟨cq, kq, qa, qb, qc⟩ := isOf hZ eT E
  obtain ⟨v, _, ⟨T', L', k', n'⟩, -, X', ⟨Lc, hQ, l1, l2, l3⟩, st⟩ := X.virtualBack B.1 (y := y) (z := y) hown (mvT hZ w1) (mvT hZ w2) (notFace_of_selects (args := #[]) (mvT hZ w3)) (mvT hZ w3) (mvT hZ w4) hy (backOf (W := W) (rm := rm) hM hZ wc wz hf hl) qa qc (g := mkF m pc L S) rfl (by rw [hml]; exact hsz) (Steps.refl _) (argsL := argsL) (rest := rest) hlen hst (by show 2 * 0 + _ ≤ _; omega) (hb B.2 hd) (fun _ _ => ⟨rfl, eT, hc, hs⟩)
  dsimp only [Pt.U, Pt.locs, Pt.cells, Pt.slots] at X' l1 l2 l3 st hQ
  subst l1 l2 l3
  exact G _ _ _ _ (fun t k => st.trans k) (K v T' Lc X' hQ)
theorem wpriv (G : CL p e below P) (n : Nat) (X : Stand p l e R s m args below meth c T locs cells slots) (B : BX p c bytes) (hZ : Z.Warmed39 s.vm) {own : String} {index : Nat} {y : MethodName} {C : String} {a : Addr} {ret : Option FieldType} {bs : ByteArray} {maxL : Nat} (hown : s.vm.findClass own = some m.cls) (w1 : (Jvm.Cond.methodLink own index y).before a0 Z = true) (w2 : (Jvm.Cond.instanceMethod y).before a0 Z = true) (hsel : (Jvm.Cond.selects y.cls y y).before args s = true) (w4 : (Jvm.Cond.privateMethod y).before a0 Z = true) (E : Exa Z h a C) (wc : (Jvm.Cond.code y bs maxL ret).before a0 Z = true) (wz : (Jvm.Cond.initialized y.cls).before a0 Z = true) (eT : T.heap = h) {rm : Room} {argsL : List Value} {Q : Option Value → Heap → List Loc → Prop} (hM : OMet l Z y bs maxL ret [] rm (.ref a :: argsL).toArray h Q) (W : Nat) (hy : y.cls ≠ "java/lang/invoke/MethodHandle" ∧ y.cls ≠ "java/lang/invoke/VarHandle") (hr : rm.frames + 1 ≤ R.frames ∧ W + (maxL + 11) + rm.locals ≤ R.locals ∧ cells + rm.cells ≤ R.cells ∧ slots + rm.slots ≤ R.slots) {k : Nat} (hml : c.maxLocals = k) (hsz : L.size = k)
    (hlen : ∀ sig, parseMethodDescriptor y.desc = some sig → argsL.length = sig.parameters.length) (rest : List Value) (hst : S = argsL.reverse ++ .ref a :: rest) (hW : (rest.map fun v => v.category).sum = W) (hd : decode bytes pc = .ok (.invokevirtual index, 3)) (hn : pc + 3 = n)
    (K : ∀ (v : Option Value) (T' : State) (L' : List Loc), Stand p l e R s m args below meth c T' (locs ++ L') (cells + rm.cells) (slots + rm.slots) → Q v T'.heap L' → P T' (mkF m n L (v.toList ++ rest))) : P T (mkF m pc L S) := by
  subst hn
  obtain ⟨hf, hl, hc, hs⟩ := hr
  obtain ⟨cq, q1, q2⟩ := E.cell
  obtain ⟨v, _, ⟨T', L', k', n'⟩, -, X', ⟨Lc, hQ, l1, l2, l3⟩, st⟩ := X.privateBack B.1 (y := y) hown (mvT hZ w1) (mvT hZ w2) hsel (Cond.privateMethod_at (mvP hZ w4 (args := #[]))) (mvT hZ wc) hy (backOf (W := W) (rm := rm) hM hZ wc wz hf hl) (g := mkF m pc L S) rfl (by rw [hml]; exact hsz) (Steps.refl _) (a := a) (by rw [eT]; exact q1) q2 (argsL := argsL) (rest := rest) hlen hst (by show 2 * 0 + _ ≤ _; omega) (hb B.2 hd) (fun _ _ => ⟨rfl, eT, hc, hs⟩)
  dsimp only [Pt.U, Pt.locs, Pt.cells, Pt.slots] at X' l1 l2 l3 st hQ
  subst l1 l2 l3
  exact G _ _ _ _ (fun t k => st.trans k) (K v T' Lc X' hQ)
end Sq
theorem d1_0 : decode jdk_29_method_69_code 0 = .ok (.iload_n 0, 1) := by decide +kernel
theorem d1_1 : decode jdk_29_method_69_code 1 = .ok (.iload_n 1, 1) := by decide +kernel
theorem d1_2 : decode jdk_29_method_69_code 2 = .ok (.if_icmp .gt 7, 3) := by decide +kernel
theorem d1_5 : decode jdk_29_method_69_code 5 = .ok (.iload_n 0, 1) := by decide +kernel
theorem d1_6 : decode jdk_29_method_69_code 6 = .ok (.goto 4, 3) := by decide +kernel
theorem d1_9 : decode jdk_29_method_69_code 9 = .ok (.iload_n 1, 1) := by decide +kernel
theorem d1_10 : decode jdk_29_method_69_code 10 = .ok (.ireturn, 1) := by decide +kernel
theorem pn_1 : plainFor (⟨"java/lang/Math", "min", "(II)I"⟩ : MethodName) = true := by first | exact plainFor_of_name (by first | (simp [plainName, overriddenIn]; done) | decide +kernel) | decide +kernel
def f1 (p1 : Int32) (p2 : Int32) : Int32 := (if p2 < p1 then p2 else p1)
theorem ef_1 (m : MethodId) (p1 : Int32) (p2 : Int32) : entryFrame m #[(.int p1), (.int p2)] 2 = (mkF m 0 #[.val (.int p1), .val (.int p2)] []) := by first | (simp [entryFrame, mkF, argsToLocals, Value.category]; done) | rfl
abbrev Q1 (Z : State) (p1 : Int32) (p2 : Int32) (h0 : Heap)  : Option Value → Heap → List Loc → Prop := (fun v h L => v = some (.int (f1 p1 p2)) ∧ L = [] ∧ h = h0)
set_option maxRecDepth 65536 in
set_option maxHeartbeats 40000000 in
theorem rm1 (l : Launch) (Z : State) (a0 : Array Value) (hw : ∀ d ∈ tables_1, d.before a0 Z = true) (ws : List Jvm.Cond) (p1 : Int32) (p2 : Int32) (h0 : Heap)  :
    OMet l Z (⟨"java/lang/Math", "min", "(II)I"⟩ : MethodName) jdk_29_method_69_code 2 (some .int) ws ({ frames := 0, cells := 0, slots := 0, locals := 0 } : Room) #[(.int p1), (.int p2)] h0 (Q1 Z p1 p2 h0) := by
  refine own_enter pn_1 ?_
  intro p e s m below meth c s₁ hx hby hml0 hown hret hlk hnm hZ X0 e0
  have hml : c.maxLocals = 2 := hml0
  have B : BX p c jdk_29_method_69_code := ⟨hx, hby⟩
  refine own_cast (ef_1 m p1 p2) ?_
  show OG p e ({ frames := 0, cells := 0, slots := 0, locals := 0 } : Room) s below (fun v h L => v = some (.int (f1 p1 p2)) ∧ L = [] ∧ h = h0) s₁ (mkF m 0 #[.val (.int p1), .val (.int p2)] [])
  refine wiloadN OGc 1 X0 B d1_0 rfl rfl ?_
  refine wiloadN OGc 2 X0 B d1_1 rfl rfl ?_
  by_cases c1 : p2 < p1
  · refine wicmpYes OGc 9 X0 B d1_2 (tlt c1).2.2.1 rfl ?_
    refine wiloadN OGc 10 X0 B d1_9 rfl rfl ?_
    exact own_retI X0 hx hret hlk (hb hby d1_10) (by decide) (by decide) ⟨congrArg (fun z => some (Value.int z)) (show f1 p1 p2 = p2 from (by rw [f1, if_pos c1])).symm, rfl, e0⟩
  · refine wicmpNo OGc 5 X0 B d1_2 (flt c1).2.2.1 rfl ?_
    refine wiloadN OGc 6 X0 B d1_5 rfl rfl ?_
    refine wgoto OGc 10 X0 B d1_6 rfl ?_
    exact own_retI X0 hx hret hlk (hb hby d1_10) (by decide) (by decide) ⟨congrArg (fun z => some (Value.int z)) (show f1 p1 p2 = p1 from (by rw [f1, if_neg c1])).symm, rfl, e0⟩
theorem d2_0 : decode jdk_29_method_65_code 0 = .ok (.iload_n 0, 1) := by decide +kernel
theorem d2_1 : decode jdk_29_method_65_code 1 = .ok (.iload_n 1, 1) := by decide +kernel
theorem d2_2 : decode jdk_29_method_65_code 2 = .ok (.if_icmp .lt 7, 3) := by decide +kernel
theorem d2_5 : decode jdk_29_method_65_code 5 = .ok (.iload_n 0, 1) := by decide +kernel
theorem d2_6 : decode jdk_29_method_65_code 6 = .ok (.goto 4, 3) := by decide +kernel
theorem d2_9 : decode jdk_29_method_65_code 9 = .ok (.iload_n 1, 1) := by decide +kernel
theorem d2_10 : decode jdk_29_method_65_code 10 = .ok (.ireturn, 1) := by decide +kernel
theorem pn_2 : plainFor (⟨"java/lang/Math", "max", "(II)I"⟩ : MethodName) = true := by first | exact plainFor_of_name (by first | (simp [plainName, overriddenIn]; done) | decide +kernel) | decide +kernel
def f2 (p1 : Int32) (p2 : Int32) : Int32 := (if p1 < p2 then p2 else p1)
theorem ef_2 (m : MethodId) (p1 : Int32) (p2 : Int32) : entryFrame m #[(.int p1), (.int p2)] 2 = (mkF m 0 #[.val (.int p1), .val (.int p2)] []) := by first | (simp [entryFrame, mkF, argsToLocals, Value.category]; done) | rfl
abbrev Q2 (Z : State) (p1 : Int32) (p2 : Int32) (h0 : Heap)  : Option Value → Heap → List Loc → Prop := (fun v h L => v = some (.int (f2 p1 p2)) ∧ L = [] ∧ h = h0)
set_option maxRecDepth 65536 in
set_option maxHeartbeats 40000000 in
theorem rm2 (l : Launch) (Z : State) (a0 : Array Value) (hw : ∀ d ∈ tables_1, d.before a0 Z = true) (ws : List Jvm.Cond) (p1 : Int32) (p2 : Int32) (h0 : Heap)  :
    OMet l Z (⟨"java/lang/Math", "max", "(II)I"⟩ : MethodName) jdk_29_method_65_code 2 (some .int) ws ({ frames := 0, cells := 0, slots := 0, locals := 0 } : Room) #[(.int p1), (.int p2)] h0 (Q2 Z p1 p2 h0) := by
  refine own_enter pn_2 ?_
  intro p e s m below meth c s₁ hx hby hml0 hown hret hlk hnm hZ X0 e0
  have hml : c.maxLocals = 2 := hml0
  have B : BX p c jdk_29_method_65_code := ⟨hx, hby⟩
  refine own_cast (ef_2 m p1 p2) ?_
  show OG p e ({ frames := 0, cells := 0, slots := 0, locals := 0 } : Room) s below (fun v h L => v = some (.int (f2 p1 p2)) ∧ L = [] ∧ h = h0) s₁ (mkF m 0 #[.val (.int p1), .val (.int p2)] [])
  refine wiloadN OGc 1 X0 B d2_0 rfl rfl ?_
  refine wiloadN OGc 2 X0 B d2_1 rfl rfl ?_
  by_cases c1 : p1 < p2
  · refine wicmpYes OGc 9 X0 B d2_2 (tlt c1).1 rfl ?_
    refine wiloadN OGc 10 X0 B d2_9 rfl rfl ?_
    exact own_retI X0 hx hret hlk (hb hby d2_10) (by decide) (by decide) ⟨congrArg (fun z => some (Value.int z)) (show f2 p1 p2 = p2 from (by rw [f2, if_pos c1])).symm, rfl, e0⟩
  · refine wicmpNo OGc 5 X0 B d2_2 (flt c1).1 rfl ?_
    refine wiloadN OGc 6 X0 B d2_5 rfl rfl ?_
    refine wgoto OGc 10 X0 B d2_6 rfl ?_
    exact own_retI X0 hx hret hlk (hb hby d2_10) (by decide) (by decide) ⟨congrArg (fun z => some (Value.int z)) (show f2 p1 p2 = p1 from (by rw [f2, if_neg c1])).symm, rfl, e0⟩
theorem d3_0 : decode method_3_code 0 = .ok (.iload_n 2, 1) := by decide +kernel
theorem d3_1 : decode method_3_code 1 = .ok (.iload_n 1, 1) := by decide +kernel
theorem d3_2 : decode method_3_code 2 = .ok (.if_icmp .gt 20, 3) := by decide +kernel
theorem d3_5 : decode method_3_code 5 = .ok (.iload_n 1, 1) := by decide +kernel
theorem d3_6 : decode method_3_code 6 = .ok (.iload_n 3, 1) := by decide +kernel
theorem d3_7 : decode method_3_code 7 = .ok (.if_icmp .ge 15, 3) := by decide +kernel
theorem d3_10 : decode method_3_code 10 = .ok (.aload_n 0, 1) := by decide +kernel
theorem d3_11 : decode method_3_code 11 = .ok (.iload_n 1, 1) := by decide +kernel
theorem d3_12 : decode method_3_code 12 = .ok (.iaload, 1) := by decide +kernel
theorem d3_13 : decode method_3_code 13 = .ok (.i2l, 1) := by decide +kernel
theorem d3_14 : decode method_3_code 14 = .ok (.lload 4, 2) := by decide +kernel
theorem d3_16 : decode method_3_code 16 = .ok (.lcmp, 1) := by decide +kernel
theorem d3_17 : decode method_3_code 17 = .ok (.ifCond .ge 5, 3) := by decide +kernel
theorem d3_20 : decode method_3_code 20 = .ok (.iconst 1, 1) := by decide +kernel
theorem d3_21 : decode method_3_code 21 = .ok (.ireturn, 1) := by decide +kernel
theorem d3_22 : decode method_3_code 22 = .ok (.iconst 0, 1) := by decide +kernel
theorem d3_23 : decode method_3_code 23 = .ok (.ireturn, 1) := by decide +kernel
theorem pn_3 : plainFor (⟨"com/example/fragmark/fragmark/TermTokensIndexFromPinLaw", "below", "([IIIIJ)I"⟩ : MethodName) = true := by first | exact plainFor_of_name (by first | (simp [plainName, overriddenIn]; done) | decide +kernel) | decide +kernel
def f3_0 (p3 : Int32) (p4 : Int32) (q5 : Int64) (v0 : Int32) (v1 : Int32) (v2 : Int32) (v3 : Int32) : Int32 := (if (0 : Int32) < p3 then (0 : Int32) else (if (0 : Int32) < p4 then (if (v0.toInt64) < q5 then (1 : Int32) else (0 : Int32)) else (0 : Int32)))
theorem ef_3_0 (m : MethodId) (a1 : Addr) (p3 : Int32) (p4 : Int32) (q5 : Int64) : entryFrame m #[(.ref a1), (.int (0 : Int32)), (.int p3), (.int p4), (.long q5)] 6 = (mkF m 0 #[.val (.ref a1), .val (.int (0 : Int32)), .val (.int p3), .val (.int p4), .val (.long q5), .second] []) := by first | (simp [entryFrame, mkF, argsToLocals, Value.category]; done) | rfl
abbrev Q3_0 (Z : State) (a1 : Addr) (p3 : Int32) (p4 : Int32) (q5 : Int64) (v0 : Int32) (v1 : Int32) (v2 : Int32) (v3 : Int32) (h0 : Heap)  : Option Value → Heap → List Loc → Prop := (fun v h L => v = some (.int (f3_0 p3 p4 q5 v0 v1 v2 v3)) ∧ L = [] ∧ h = h0)
set_option maxRecDepth 65536 in
set_option maxHeartbeats 40000000 in
theorem rm3_0 (l : Launch) (Z : State) (a0 : Array Value) (hw : ∀ d ∈ tables_1, d.before a0 Z = true) (ws : List Jvm.Cond) (a1 : Addr) (p3 : Int32) (p4 : Int32) (q5 : Int64) (v0 : Int32) (v1 : Int32) (v2 : Int32) (v3 : Int32) (h0 : Heap) (R0 : OA Z h0 a1 .int [(.int v0), (.int v1), (.int v2), (.int v3)]) :
    OMet l Z (⟨"com/example/fragmark/fragmark/TermTokensIndexFromPinLaw", "below", "([IIIIJ)I"⟩ : MethodName) method_3_code 6 (some .int) ws ({ frames := 0, cells := 0, slots := 0, locals := 0 } : Room) #[(.ref a1), (.int (0 : Int32)), (.int p3), (.int p4), (.long q5)] h0 (Q3_0 Z a1 p3 p4 q5 v0 v1 v2 v3 h0) := by
  refine own_enter pn_3 ?_
  intro p e s m below meth c s₁ hx hby hml0 hown hret hlk hnm hZ X0 e0
  have hml : c.maxLocals = 6 := hml0
  have B : BX p c method_3_code := ⟨hx, hby⟩
  refine own_cast (ef_3_0 m a1 p3 p4 q5) ?_
  show OG p e ({ frames := 0, cells := 0, slots := 0, locals := 0 } : Room) s below (fun v h L => v = some (.int (f3_0 p3 p4 q5 v0 v1 v2 v3)) ∧ L = [] ∧ h = h0) s₁ (mkF m 0 #[.val (.ref a1), .val (.int (0 : Int32)), .val (.int p3), .val (.int p4), .val (.long q5), .second] [])
  refine wiloadN OGc 1 X0 B d3_0 rfl rfl ?_
  refine wiloadN OGc 2 X0 B d3_1 rfl rfl ?_
  by_cases c1 : (0 : Int32) < p3
  · refine wicmpYes OGc 22 X0 B d3_2 (tlt c1).2.2.1 rfl ?_
    refine wiconst OGc 23 X0 B d3_22 0 rfl rfl ?_
    exact own_retI X0 hx hret hlk (hb hby d3_23) (by decide) (by decide) ⟨congrArg (fun z => some (Value.int z)) (show f3_0 p3 p4 q5 v0 v1 v2 v3 = (0 : Int32) from (by rw [f3_0, if_pos c1])).symm, rfl, e0⟩
  · refine wicmpNo OGc 5 X0 B d3_2 (flt c1).2.2.1 rfl ?_
    refine wiloadN OGc 6 X0 B d3_5 rfl rfl ?_
    refine wiloadN OGc 7 X0 B d3_6 rfl rfl ?_
    by_cases c2 : (0 : Int32) < p4
    · refine wicmpNo OGc 10 X0 B d3_7 (tlt c2).2.1 rfl ?_
      refine waloadN OGc 11 X0 B d3_10 rfl rfl rfl ?_
      refine wiloadN OGc 12 X0 B d3_11 rfl rfl ?_
      refine wiaload OGc 13 X0 B hZ e0 R0 (v := (.int v0)) 0 (by decide) (by decide) rfl d3_12 rfl ?_
      refine own_st (fun t k => XS.i2l X0.here hx rfl (hb hby d3_13) rfl k) ?_
      show OG p e _ s below _ s₁ (mkF m 14 #[.val (.ref a1), .val (.int (0 : Int32)), .val (.int p3), .val (.int p4), .val (.long q5), .second] [(.long (v0.toInt64))])
      refine wlload OGc 16 X0 B d3_14 rfl rfl ?_
      refine wlcmp OGc 17 X0 B d3_16 rfl ?_
      by_cases c4 : (v0.toInt64) < q5
      · refine wifNo OGc 20 X0 B d3_17 (own_if0 (tlt ((lw_lt _ _).mpr c4)).2.1) rfl ?_
        refine wiconst OGc 21 X0 B d3_20 1 rfl rfl ?_
        exact own_retI X0 hx hret hlk (hb hby d3_21) (by decide) (by decide) ⟨congrArg (fun z => some (Value.int z)) (show f3_0 p3 p4 q5 v0 v1 v2 v3 = (1 : Int32) from (by rw [f3_0, if_neg c1, if_pos c2, if_pos c4])).symm, rfl, e0⟩
      · refine wifYes OGc 22 X0 B d3_17 (own_if0 (flt (fun q => c4 ((lw_lt _ _).mp q))).2.1) rfl ?_
        refine wiconst OGc 23 X0 B d3_22 0 rfl rfl ?_
        exact own_retI X0 hx hret hlk (hb hby d3_23) (by decide) (by decide) ⟨congrArg (fun z => some (Value.int z)) (show f3_0 p3 p4 q5 v0 v1 v2 v3 = (0 : Int32) from (by rw [f3_0, if_neg c1, if_pos c2, if_neg c4])).symm, rfl, e0⟩
    · refine wicmpYes OGc 22 X0 B d3_7 (flt c2).2.1 rfl ?_
      refine wiconst OGc 23 X0 B d3_22 0 rfl rfl ?_
      exact own_retI X0 hx hret hlk (hb hby d3_23) (by decide) (by decide) ⟨congrArg (fun z => some (Value.int z)) (show f3_0 p3 p4 q5 v0 v1 v2 v3 = (0 : Int32) from (by rw [f3_0, if_neg c1, if_neg c2])).symm, rfl, e0⟩
def f3_1 (p3 : Int32) (p4 : Int32) (q5 : Int64) (v0 : Int32) (v1 : Int32) (v2 : Int32) (v3 : Int32) : Int32 := (if (1 : Int32) < p3 then (0 : Int32) else (if (1 : Int32) < p4 then (if (v1.toInt64) < q5 then (1 : Int32) else (0 : Int32)) else (0 : Int32)))
theorem ef_3_1 (m : MethodId) (a1 : Addr) (p3 : Int32) (p4 : Int32) (q5 : Int64) : entryFrame m #[(.ref a1), (.int (1 : Int32)), (.int p3), (.int p4), (.long q5)] 6 = (mkF m 0 #[.val (.ref a1), .val (.int (1 : Int32)), .val (.int p3), .val (.int p4), .val (.long q5), .second] []) := by first | (simp [entryFrame, mkF, argsToLocals, Value.category]; done) | rfl
abbrev Q3_1 (Z : State) (a1 : Addr) (p3 : Int32) (p4 : Int32) (q5 : Int64) (v0 : Int32) (v1 : Int32) (v2 : Int32) (v3 : Int32) (h0 : Heap)  : Option Value → Heap → List Loc → Prop := (fun v h L => v = some (.int (f3_1 p3 p4 q5 v0 v1 v2 v3)) ∧ L = [] ∧ h = h0)
set_option maxRecDepth 65536 in
set_option maxHeartbeats 40000000 in
theorem rm3_1 (l : Launch) (Z : State) (a0 : Array Value) (hw : ∀ d ∈ tables_1, d.before a0 Z = true) (ws : List Jvm.Cond) (a1 : Addr) (p3 : Int32) (p4 : Int32) (q5 : Int64) (v0 : Int32) (v1 : Int32) (v2 : Int32) (v3 : Int32) (h0 : Heap) (R0 : OA Z h0 a1 .int [(.int v0), (.int v1), (.int v2), (.int v3)]) :
    OMet l Z (⟨"com/example/fragmark/fragmark/TermTokensIndexFromPinLaw", "below", "([IIIIJ)I"⟩ : MethodName) method_3_code 6 (some .int) ws ({ frames := 0, cells := 0, slots := 0, locals := 0 } : Room) #[(.ref a1), (.int (1 : Int32)), (.int p3), (.int p4), (.long q5)] h0 (Q3_1 Z a1 p3 p4 q5 v0 v1 v2 v3 h0) := by
  refine own_enter pn_3 ?_
  intro p e s m below meth c s₁ hx hby hml0 hown hret hlk hnm hZ X0 e0
  have hml : c.maxLocals = 6 := hml0
  have B : BX p c method_3_code := ⟨hx, hby⟩
  refine own_cast (ef_3_1 m a1 p3 p4 q5) ?_
  show OG p e ({ frames := 0, cells := 0, slots := 0, locals := 0 } : Room) s below (fun v h L => v = some (.int (f3_1 p3 p4 q5 v0 v1 v2 v3)) ∧ L = [] ∧ h = h0) s₁ (mkF m 0 #[.val (.ref a1), .val (.int (1 : Int32)), .val (.int p3), .val (.int p4), .val (.long q5), .second] [])
  refine wiloadN OGc 1 X0 B d3_0 rfl rfl ?_
  refine wiloadN OGc 2 X0 B d3_1 rfl rfl ?_
  by_cases c1 : (1 : Int32) < p3
  · refine wicmpYes OGc 22 X0 B d3_2 (tlt c1).2.2.1 rfl ?_
    refine wiconst OGc 23 X0 B d3_22 0 rfl rfl ?_
    exact own_retI X0 hx hret hlk (hb hby d3_23) (by decide) (by decide) ⟨congrArg (fun z => some (Value.int z)) (show f3_1 p3 p4 q5 v0 v1 v2 v3 = (0 : Int32) from (by rw [f3_1, if_pos c1])).symm, rfl, e0⟩
  · refine wicmpNo OGc 5 X0 B d3_2 (flt c1).2.2.1 rfl ?_
    refine wiloadN OGc 6 X0 B d3_5 rfl rfl ?_
    refine wiloadN OGc 7 X0 B d3_6 rfl rfl ?_
    by_cases c2 : (1 : Int32) < p4
    · refine wicmpNo OGc 10 X0 B d3_7 (tlt c2).2.1 rfl ?_
      refine waloadN OGc 11 X0 B d3_10 rfl rfl rfl ?_
      refine wiloadN OGc 12 X0 B d3_11 rfl rfl ?_
      refine wiaload OGc 13 X0 B hZ e0 R0 (v := (.int v1)) 1 (by decide) (by decide) rfl d3_12 rfl ?_
      refine own_st (fun t k => XS.i2l X0.here hx rfl (hb hby d3_13) rfl k) ?_
      show OG p e _ s below _ s₁ (mkF m 14 #[.val (.ref a1), .val (.int (1 : Int32)), .val (.int p3), .val (.int p4), .val (.long q5), .second] [(.long (v1.toInt64))])
      refine wlload OGc 16 X0 B d3_14 rfl rfl ?_
      refine wlcmp OGc 17 X0 B d3_16 rfl ?_
      by_cases c4 : (v1.toInt64) < q5
      · refine wifNo OGc 20 X0 B d3_17 (own_if0 (tlt ((lw_lt _ _).mpr c4)).2.1) rfl ?_
        refine wiconst OGc 21 X0 B d3_20 1 rfl rfl ?_
        exact own_retI X0 hx hret hlk (hb hby d3_21) (by decide) (by decide) ⟨congrArg (fun z => some (Value.int z)) (show f3_1 p3 p4 q5 v0 v1 v2 v3 = (1 : Int32) from (by rw [f3_1, if_neg c1, if_pos c2, if_pos c4])).symm, rfl, e0⟩
      · refine wifYes OGc 22 X0 B d3_17 (own_if0 (flt (fun q => c4 ((lw_lt _ _).mp q))).2.1) rfl ?_
        refine wiconst OGc 23 X0 B d3_22 0 rfl rfl ?_
        exact own_retI X0 hx hret hlk (hb hby d3_23) (by decide) (by decide) ⟨congrArg (fun z => some (Value.int z)) (show f3_1 p3 p4 q5 v0 v1 v2 v3 = (0 : Int32) from (by rw [f3_1, if_neg c1, if_pos c2, if_neg c4])).symm, rfl, e0⟩
    · refine wicmpYes OGc 22 X0 B d3_7 (flt c2).2.1 rfl ?_
      refine wiconst OGc 23 X0 B d3_22 0 rfl rfl ?_
      exact own_retI X0 hx hret hlk (hb hby d3_23) (by decide) (by decide) ⟨congrArg (fun z => some (Value.int z)) (show f3_1 p3 p4 q5 v0 v1 v2 v3 = (0 : Int32) from (by rw [f3_1, if_neg c1, if_neg c2])).symm, rfl, e0⟩
def f3_2 (p3 : Int32) (p4 : Int32) (q5 : Int64) (v0 : Int32) (v1 : Int32) (v2 : Int32) (v3 : Int32) : Int32 := (if (2 : Int32) < p3 then (0 : Int32) else (if (2 : Int32) < p4 then (if (v2.toInt64) < q5 then (1 : Int32) else (0 : Int32)) else (0 : Int32)))
theorem ef_3_2 (m : MethodId) (a1 : Addr) (p3 : Int32) (p4 : Int32) (q5 : Int64) : entryFrame m #[(.ref a1), (.int (2 : Int32)), (.int p3), (.int p4), (.long q5)] 6 = (mkF m 0 #[.val (.ref a1), .val (.int (2 : Int32)), .val (.int p3), .val (.int p4), .val (.long q5), .second] []) := by first | (simp [entryFrame, mkF, argsToLocals, Value.category]; done) | rfl
abbrev Q3_2 (Z : State) (a1 : Addr) (p3 : Int32) (p4 : Int32) (q5 : Int64) (v0 : Int32) (v1 : Int32) (v2 : Int32) (v3 : Int32) (h0 : Heap)  : Option Value → Heap → List Loc → Prop := (fun v h L => v = some (.int (f3_2 p3 p4 q5 v0 v1 v2 v3)) ∧ L = [] ∧ h = h0)
set_option maxRecDepth 65536 in
set_option maxHeartbeats 40000000 in
theorem rm3_2 (l : Launch) (Z : State) (a0 : Array Value) (hw : ∀ d ∈ tables_1, d.before a0 Z = true) (ws : List Jvm.Cond) (a1 : Addr) (p3 : Int32) (p4 : Int32) (q5 : Int64) (v0 : Int32) (v1 : Int32) (v2 : Int32) (v3 : Int32) (h0 : Heap) (R0 : OA Z h0 a1 .int [(.int v0), (.int v1), (.int v2), (.int v3)]) :
    OMet l Z (⟨"com/example/fragmark/fragmark/TermTokensIndexFromPinLaw", "below", "([IIIIJ)I"⟩ : MethodName) method_3_code 6 (some .int) ws ({ frames := 0, cells := 0, slots := 0, locals := 0 } : Room) #[(.ref a1), (.int (2 : Int32)), (.int p3), (.int p4), (.long q5)] h0 (Q3_2 Z a1 p3 p4 q5 v0 v1 v2 v3 h0) := by
  refine own_enter pn_3 ?_
  intro p e s m below meth c s₁ hx hby hml0 hown hret hlk hnm hZ X0 e0
  have hml : c.maxLocals = 6 := hml0
  have B : BX p c method_3_code := ⟨hx, hby⟩
  refine own_cast (ef_3_2 m a1 p3 p4 q5) ?_
  show OG p e ({ frames := 0, cells := 0, slots := 0, locals := 0 } : Room) s below (fun v h L => v = some (.int (f3_2 p3 p4 q5 v0 v1 v2 v3)) ∧ L = [] ∧ h = h0) s₁ (mkF m 0 #[.val (.ref a1), .val (.int (2 : Int32)), .val (.int p3), .val (.int p4), .val (.long q5), .second] [])
  refine wiloadN OGc 1 X0 B d3_0 rfl rfl ?_
  refine wiloadN OGc 2 X0 B d3_1 rfl rfl ?_
  by_cases c1 : (2 : Int32) < p3
  · refine wicmpYes OGc 22 X0 B d3_2 (tlt c1).2.2.1 rfl ?_
    refine wiconst OGc 23 X0 B d3_22 0 rfl rfl ?_
    exact own_retI X0 hx hret hlk (hb hby d3_23) (by decide) (by decide) ⟨congrArg (fun z => some (Value.int z)) (show f3_2 p3 p4 q5 v0 v1 v2 v3 = (0 : Int32) from (by rw [f3_2, if_pos c1])).symm, rfl, e0⟩
  · refine wicmpNo OGc 5 X0 B d3_2 (flt c1).2.2.1 rfl ?_
    refine wiloadN OGc 6 X0 B d3_5 rfl rfl ?_
    refine wiloadN OGc 7 X0 B d3_6 rfl rfl ?_
    by_cases c2 : (2 : Int32) < p4
    · refine wicmpNo OGc 10 X0 B d3_7 (tlt c2).2.1 rfl ?_
      refine waloadN OGc 11 X0 B d3_10 rfl rfl rfl ?_
      refine wiloadN OGc 12 X0 B d3_11 rfl rfl ?_
      refine wiaload OGc 13 X0 B hZ e0 R0 (v := (.int v2)) 2 (by decide) (by decide) rfl d3_12 rfl ?_
      refine own_st (fun t k => XS.i2l X0.here hx rfl (hb hby d3_13) rfl k) ?_
      show OG p e _ s below _ s₁ (mkF m 14 #[.val (.ref a1), .val (.int (2 : Int32)), .val (.int p3), .val (.int p4), .val (.long q5), .second] [(.long (v2.toInt64))])
      refine wlload OGc 16 X0 B d3_14 rfl rfl ?_
      refine wlcmp OGc 17 X0 B d3_16 rfl ?_
      by_cases c4 : (v2.toInt64) < q5
      · refine wifNo OGc 20 X0 B d3_17 (own_if0 (tlt ((lw_lt _ _).mpr c4)).2.1) rfl ?_
        refine wiconst OGc 21 X0 B d3_20 1 rfl rfl ?_
        exact own_retI X0 hx hret hlk (hb hby d3_21) (by decide) (by decide) ⟨congrArg (fun z => some (Value.int z)) (show f3_2 p3 p4 q5 v0 v1 v2 v3 = (1 : Int32) from (by rw [f3_2, if_neg c1, if_pos c2, if_pos c4])).symm, rfl, e0⟩
      · refine wifYes OGc 22 X0 B d3_17 (own_if0 (flt (fun q => c4 ((lw_lt _ _).mp q))).2.1) rfl ?_
        refine wiconst OGc 23 X0 B d3_22 0 rfl rfl ?_
        exact own_retI X0 hx hret hlk (hb hby d3_23) (by decide) (by decide) ⟨congrArg (fun z => some (Value.int z)) (show f3_2 p3 p4 q5 v0 v1 v2 v3 = (0 : Int32) from (by rw [f3_2, if_neg c1, if_pos c2, if_neg c4])).symm, rfl, e0⟩
    · refine wicmpYes OGc 22 X0 B d3_7 (flt c2).2.1 rfl ?_
      refine wiconst OGc 23 X0 B d3_22 0 rfl rfl ?_
      exact own_retI X0 hx hret hlk (hb hby d3_23) (by decide) (by decide) ⟨congrArg (fun z => some (Value.int z)) (show f3_2 p3 p4 q5 v0 v1 v2 v3 = (0 : Int32) from (by rw [f3_2, if_neg c1, if_neg c2])).symm, rfl, e0⟩
def f3_3 (p3 : Int32) (p4 : Int32) (q5 : Int64) (v0 : Int32) (v1 : Int32) (v2 : Int32) (v3 : Int32) : Int32 := (if (3 : Int32) < p3 then (0 : Int32) else (if (3 : Int32) < p4 then (if (v3.toInt64) < q5 then (1 : Int32) else (0 : Int32)) else (0 : Int32)))
theorem ef_3_3 (m : MethodId) (a1 : Addr) (p3 : Int32) (p4 : Int32) (q5 : Int64) : entryFrame m #[(.ref a1), (.int (3 : Int32)), (.int p3), (.int p4), (.long q5)] 6 = (mkF m 0 #[.val (.ref a1), .val (.int (3 : Int32)), .val (.int p3), .val (.int p4), .val (.long q5), .second] []) := by first | (simp [entryFrame, mkF, argsToLocals, Value.category]; done) | rfl
abbrev Q3_3 (Z : State) (a1 : Addr) (p3 : Int32) (p4 : Int32) (q5 : Int64) (v0 : Int32) (v1 : Int32) (v2 : Int32) (v3 : Int32) (h0 : Heap)  : Option Value → Heap → List Loc → Prop := (fun v h L => v = some (.int (f3_3 p3 p4 q5 v0 v1 v2 v3)) ∧ L = [] ∧ h = h0)
set_option maxRecDepth 65536 in
set_option maxHeartbeats 40000000 in
theorem rm3_3 (l : Launch) (Z : State) (a0 : Array Value) (hw : ∀ d ∈ tables_1, d.before a0 Z = true) (ws : List Jvm.Cond) (a1 : Addr) (p3 : Int32) (p4 : Int32) (q5 : Int64) (v0 : Int32) (v1 : Int32) (v2 : Int32) (v3 : Int32) (h0 : Heap) (R0 : OA Z h0 a1 .int [(.int v0), (.int v1), (.int v2), (.int v3)]) :
    OMet l Z (⟨"com/example/fragmark/fragmark/TermTokensIndexFromPinLaw", "below", "([IIIIJ)I"⟩ : MethodName) method_3_code 6 (some .int) ws ({ frames := 0, cells := 0, slots := 0, locals := 0 } : Room) #[(.ref a1), (.int (3 : Int32)), (.int p3), (.int p4), (.long q5)] h0 (Q3_3 Z a1 p3 p4 q5 v0 v1 v2 v3 h0) := by
  refine own_enter pn_3 ?_
  intro p e s m below meth c s₁ hx hby hml0 hown hret hlk hnm hZ X0 e0
  have hml : c.maxLocals = 6 := hml0
  have B : BX p c method_3_code := ⟨hx, hby⟩
  refine own_cast (ef_3_3 m a1 p3 p4 q5) ?_
  show OG p e ({ frames := 0, cells := 0, slots := 0, locals := 0 } : Room) s below (fun v h L => v = some (.int (f3_3 p3 p4 q5 v0 v1 v2 v3)) ∧ L = [] ∧ h = h0) s₁ (mkF m 0 #[.val (.ref a1), .val (.int (3 : Int32)), .val (.int p3), .val (.int p4), .val (.long q5), .second] [])
  refine wiloadN OGc 1 X0 B d3_0 rfl rfl ?_
  refine wiloadN OGc 2 X0 B d3_1 rfl rfl ?_
  by_cases c1 : (3 : Int32) < p3
  · refine wicmpYes OGc 22 X0 B d3_2 (tlt c1).2.2.1 rfl ?_
    refine wiconst OGc 23 X0 B d3_22 0 rfl rfl ?_
    exact own_retI X0 hx hret hlk (hb hby d3_23) (by decide) (by decide) ⟨congrArg (fun z => some (Value.int z)) (show f3_3 p3 p4 q5 v0 v1 v2 v3 = (0 : Int32) from (by rw [f3_3, if_pos c1])).symm, rfl, e0⟩
  · refine wicmpNo OGc 5 X0 B d3_2 (flt c1).2.2.1 rfl ?_
    refine wiloadN OGc 6 X0 B d3_5 rfl rfl ?_
    refine wiloadN OGc 7 X0 B d3_6 rfl rfl ?_
    by_cases c2 : (3 : Int32) < p4
    · refine wicmpNo OGc 10 X0 B d3_7 (tlt c2).2.1 rfl ?_
      refine waloadN OGc 11 X0 B d3_10 rfl rfl rfl ?_
      refine wiloadN OGc 12 X0 B d3_11 rfl rfl ?_
      refine wiaload OGc 13 X0 B hZ e0 R0 (v := (.int v3)) 3 (by decide) (by decide) rfl d3_12 rfl ?_
      refine own_st (fun t k => XS.i2l X0.here hx rfl (hb hby d3_13) rfl k) ?_
      show OG p e _ s below _ s₁ (mkF m 14 #[.val (.ref a1), .val (.int (3 : Int32)), .val (.int p3), .val (.int p4), .val (.long q5), .second] [(.long (v3.toInt64))])
      refine wlload OGc 16 X0 B d3_14 rfl rfl ?_
      refine wlcmp OGc 17 X0 B d3_16 rfl ?_
      by_cases c4 : (v3.toInt64) < q5
      · refine wifNo OGc 20 X0 B d3_17 (own_if0 (tlt ((lw_lt _ _).mpr c4)).2.1) rfl ?_
        refine wiconst OGc 21 X0 B d3_20 1 rfl rfl ?_
        exact own_retI X0 hx hret hlk (hb hby d3_21) (by decide) (by decide) ⟨congrArg (fun z => some (Value.int z)) (show f3_3 p3 p4 q5 v0 v1 v2 v3 = (1 : Int32) from (by rw [f3_3, if_neg c1, if_pos c2, if_pos c4])).symm, rfl, e0⟩
      · refine wifYes OGc 22 X0 B d3_17 (own_if0 (flt (fun q => c4 ((lw_lt _ _).mp q))).2.1) rfl ?_
        refine wiconst OGc 23 X0 B d3_22 0 rfl rfl ?_
        exact own_retI X0 hx hret hlk (hb hby d3_23) (by decide) (by decide) ⟨congrArg (fun z => some (Value.int z)) (show f3_3 p3 p4 q5 v0 v1 v2 v3 = (0 : Int32) from (by rw [f3_3, if_neg c1, if_pos c2, if_neg c4])).symm, rfl, e0⟩
    · refine wicmpYes OGc 22 X0 B d3_7 (flt c2).2.1 rfl ?_
      refine wiconst OGc 23 X0 B d3_22 0 rfl rfl ?_
      exact own_retI X0 hx hret hlk (hb hby d3_23) (by decide) (by decide) ⟨congrArg (fun z => some (Value.int z)) (show f3_3 p3 p4 q5 v0 v1 v2 v3 = (0 : Int32) from (by rw [f3_3, if_neg c1, if_neg c2])).symm, rfl, e0⟩
theorem d4_0 : decode prog_44_method_10_code 0 = .ok (.iload_n 1, 1) := by decide +kernel
theorem d4_1 : decode prog_44_method_10_code 1 = .ok (.istore 5, 2) := by decide +kernel
theorem d4_3 : decode prog_44_method_10_code 3 = .ok (.iload_n 2, 1) := by decide +kernel
theorem d4_4 : decode prog_44_method_10_code 4 = .ok (.istore 6, 2) := by decide +kernel
theorem d4_6 : decode prog_44_method_10_code 6 = .ok (.iload 5, 2) := by decide +kernel
theorem d4_8 : decode prog_44_method_10_code 8 = .ok (.iload 6, 2) := by decide +kernel
theorem d4_10 : decode prog_44_method_10_code 10 = .ok (.if_icmp .ge 38, 3) := by decide +kernel
theorem d4_48 : decode prog_44_method_10_code 48 = .ok (.iload 5, 2) := by decide +kernel
theorem d4_50 : decode prog_44_method_10_code 50 = .ok (.ireturn, 1) := by decide +kernel
theorem pn_4 : plainFor (⟨"com/example/fragmark/fragmark/TermTokens", "indexFrom", "([IIIJ)I"⟩ : MethodName) = true := by first | exact plainFor_of_name (by first | (simp [plainName, overriddenIn]; done) | decide +kernel) | decide +kernel
def f4_0_0 (q4 : Int64) (v0 : Int32) (v1 : Int32) (v2 : Int32) (v3 : Int32) : Int32 := (0 : Int32)
theorem ef_4_0_0 (m : MethodId) (a1 : Addr) (q4 : Int64) : entryFrame m #[(.ref a1), (.int (0 : Int32)), (.int (0 : Int32)), (.long q4)] 8 = (mkF m 0 #[.val (.ref a1), .val (.int (0 : Int32)), .val (.int (0 : Int32)), .val (.long q4), .second, .unset, .unset, .unset] []) := by first | (simp [entryFrame, mkF, argsToLocals, Value.category]; done) | rfl
abbrev Q4_0_0 (Z : State) (a1 : Addr) (q4 : Int64) (v0 : Int32) (v1 : Int32) (v2 : Int32) (v3 : Int32) (h0 : Heap)  : Option Value → Heap → List Loc → Prop := (fun v h L => v = some (.int (f4_0_0 q4 v0 v1 v2 v3)) ∧ L = [] ∧ h = h0)
set_option maxRecDepth 65536 in
set_option maxHeartbeats 40000000 in
theorem rm4_0_0 (l : Launch) (Z : State) (a0 : Array Value) (hw : ∀ d ∈ tables_1, d.before a0 Z = true) (ws : List Jvm.Cond) (a1 : Addr) (q4 : Int64) (v0 : Int32) (v1 : Int32) (v2 : Int32) (v3 : Int32) (h0 : Heap) (R0 : OA Z h0 a1 .int [(.int v0), (.int v1), (.int v2), (.int v3)]) :
    OMet l Z (⟨"com/example/fragmark/fragmark/TermTokens", "indexFrom", "([IIIJ)I"⟩ : MethodName) prog_44_method_10_code 8 (some .int) ws ({ frames := 0, cells := 0, slots := 0, locals := 0 } : Room) #[(.ref a1), (.int (0 : Int32)), (.int (0 : Int32)), (.long q4)] h0 (Q4_0_0 Z a1 q4 v0 v1 v2 v3 h0) := by
  refine own_enter pn_4 ?_
  intro p e s m below meth c s₁ hx hby hml0 hown hret hlk hnm hZ X0 e0
  have hml : c.maxLocals = 8 := hml0
  have B : BX p c prog_44_method_10_code := ⟨hx, hby⟩
  refine own_cast (ef_4_0_0 m a1 q4) ?_
  show OG p e ({ frames := 0, cells := 0, slots := 0, locals := 0 } : Room) s below (fun v h L => v = some (.int (f4_0_0 q4 v0 v1 v2 v3)) ∧ L = [] ∧ h = h0) s₁ (mkF m 0 #[.val (.ref a1), .val (.int (0 : Int32)), .val (.int (0 : Int32)), .val (.long q4), .second, .unset, .unset, .unset] [])
  refine wiloadN OGc 1 X0 B d4_0 rfl rfl ?_
  refine wistore OGc 3 X0 B d4_1 #[.val (.ref a1), .val (.int (0 : Int32)), .val (.int (0 : Int32)), .val (.long q4), .second, .val (.int (0 : Int32)), .unset, .unset] rfl rfl ?_
  refine wiloadN OGc 4 X0 B d4_3 rfl rfl ?_
  refine wistore OGc 6 X0 B d4_4 #[.val (.ref a1), .val (.int (0 : Int32)), .val (.int (0 : Int32)), .val (.long q4), .second, .val (.int (0 : Int32)), .val (.int (0 : Int32)), .unset] rfl rfl ?_
  refine wiload OGc 8 X0 B d4_6 rfl rfl ?_
  refine wiload OGc 10 X0 B d4_8 rfl rfl ?_
  refine wicmpYes OGc 48 X0 B d4_10 (by decide) rfl ?_
  refine wiload OGc 50 X0 B d4_48 rfl rfl ?_
  exact own_retI X0 hx hret hlk (hb hby d4_50) (by decide) (by decide) ⟨congrArg (fun z => some (Value.int z)) (show f4_0_0 q4 v0 v1 v2 v3 = (0 : Int32) from (by rw [f4_0_0])).symm, rfl, e0⟩
theorem d4_13 : decode prog_44_method_10_code 13 = .ok (.iload 5, 2) := by decide +kernel
theorem d4_15 : decode prog_44_method_10_code 15 = .ok (.iload 6, 2) := by decide +kernel
theorem d4_17 : decode prog_44_method_10_code 17 = .ok (.iadd, 1) := by decide +kernel
theorem d4_18 : decode prog_44_method_10_code 18 = .ok (.iconst 1, 1) := by decide +kernel
theorem d4_19 : decode prog_44_method_10_code 19 = .ok (.iushr, 1) := by decide +kernel
theorem d4_20 : decode prog_44_method_10_code 20 = .ok (.istore 7, 2) := by decide +kernel
theorem d4_22 : decode prog_44_method_10_code 22 = .ok (.aload_n 0, 1) := by decide +kernel
theorem d4_23 : decode prog_44_method_10_code 23 = .ok (.iload 7, 2) := by decide +kernel
theorem d4_25 : decode prog_44_method_10_code 25 = .ok (.iaload, 1) := by decide +kernel
theorem d4_26 : decode prog_44_method_10_code 26 = .ok (.i2l, 1) := by decide +kernel
theorem d4_27 : decode prog_44_method_10_code 27 = .ok (.lload_n 3, 1) := by decide +kernel
theorem d4_28 : decode prog_44_method_10_code 28 = .ok (.lcmp, 1) := by decide +kernel
theorem d4_29 : decode prog_44_method_10_code 29 = .ok (.ifCond .ge 12, 3) := by decide +kernel
theorem d4_32 : decode prog_44_method_10_code 32 = .ok (.iload 7, 2) := by decide +kernel
theorem d4_34 : decode prog_44_method_10_code 34 = .ok (.iconst 1, 1) := by decide +kernel
theorem d4_35 : decode prog_44_method_10_code 35 = .ok (.iadd, 1) := by decide +kernel
theorem d4_36 : decode prog_44_method_10_code 36 = .ok (.istore 5, 2) := by decide +kernel
theorem d4_38 : decode prog_44_method_10_code 38 = .ok (.goto 7, 3) := by decide +kernel
theorem d4_41 : decode prog_44_method_10_code 41 = .ok (.iload 7, 2) := by decide +kernel
theorem d4_43 : decode prog_44_method_10_code 43 = .ok (.istore 6, 2) := by decide +kernel
theorem d4_45 : decode prog_44_method_10_code 45 = .ok (.goto (-39), 3) := by decide +kernel
def f4_0_1 (q4 : Int64) (v0 : Int32) (v1 : Int32) (v2 : Int32) (v3 : Int32) : Int32 := (if (v0.toInt64) < q4 then (1 : Int32) else (0 : Int32))
theorem ef_4_0_1 (m : MethodId) (a1 : Addr) (q4 : Int64) : entryFrame m #[(.ref a1), (.int (0 : Int32)), (.int (1 : Int32)), (.long q4)] 8 = (mkF m 0 #[.val (.ref a1), .val (.int (0 : Int32)), .val (.int (1 : Int32)), .val (.long q4), .second, .unset, .unset, .unset] []) := by first | (simp [entryFrame, mkF, argsToLocals, Value.category]; done) | rfl
abbrev Q4_0_1 (Z : State) (a1 : Addr) (q4 : Int64) (v0 : Int32) (v1 : Int32) (v2 : Int32) (v3 : Int32) (h0 : Heap)  : Option Value → Heap → List Loc → Prop := (fun v h L => v = some (.int (f4_0_1 q4 v0 v1 v2 v3)) ∧ L = [] ∧ h = h0)
set_option maxRecDepth 65536 in
set_option maxHeartbeats 40000000 in
theorem rm4_0_1 (l : Launch) (Z : State) (a0 : Array Value) (hw : ∀ d ∈ tables_1, d.before a0 Z = true) (ws : List Jvm.Cond) (a1 : Addr) (q4 : Int64) (v0 : Int32) (v1 : Int32) (v2 : Int32) (v3 : Int32) (h0 : Heap) (R0 : OA Z h0 a1 .int [(.int v0), (.int v1), (.int v2), (.int v3)]) :
    OMet l Z (⟨"com/example/fragmark/fragmark/TermTokens", "indexFrom", "([IIIJ)I"⟩ : MethodName) prog_44_method_10_code 8 (some .int) ws ({ frames := 0, cells := 0, slots := 0, locals := 0 } : Room) #[(.ref a1), (.int (0 : Int32)), (.int (1 : Int32)), (.long q4)] h0 (Q4_0_1 Z a1 q4 v0 v1 v2 v3 h0) := by
  refine own_enter pn_4 ?_
  intro p e s m below meth c s₁ hx hby hml0 hown hret hlk hnm hZ X0 e0
  have hml : c.maxLocals = 8 := hml0
  have B : BX p c prog_44_method_10_code := ⟨hx, hby⟩
  refine own_cast (ef_4_0_1 m a1 q4) ?_
  show OG p e ({ frames := 0, cells := 0, slots := 0, locals := 0 } : Room) s below (fun v h L => v = some (.int (f4_0_1 q4 v0 v1 v2 v3)) ∧ L = [] ∧ h = h0) s₁ (mkF m 0 #[.val (.ref a1), .val (.int (0 : Int32)), .val (.int (1 : Int32)), .val (.long q4), .second, .unset, .unset, .unset] [])
  refine wiloadN OGc 1 X0 B d4_0 rfl rfl ?_
  refine wistore OGc 3 X0 B d4_1 #[.val (.ref a1), .val (.int (0 : Int32)), .val (.int (1 : Int32)), .val (.long q4), .second, .val (.int (0 : Int32)), .unset, .unset] rfl rfl ?_
  refine wiloadN OGc 4 X0 B d4_3 rfl rfl ?_
  refine wistore OGc 6 X0 B d4_4 #[.val (.ref a1), .val (.int (0 : Int32)), .val (.int (1 : Int32)), .val (.long q4), .second, .val (.int (0 : Int32)), .val (.int (1 : Int32)), .unset] rfl rfl ?_
  refine wiload OGc 8 X0 B d4_6 rfl rfl ?_
  refine wiload OGc 10 X0 B d4_8 rfl rfl ?_
  refine wicmpNo OGc 13 X0 B d4_10 (by decide) rfl ?_
  refine wiload OGc 15 X0 B d4_13 rfl rfl ?_
  refine wiload OGc 17 X0 B d4_15 rfl rfl ?_
  refine wiadd OGc 18 X0 B d4_17 rfl ?_
  show OG p e _ s below _ s₁ (mkF m 18 #[.val (.ref a1), .val (.int (0 : Int32)), .val (.int (1 : Int32)), .val (.long q4), .second, .val (.int (0 : Int32)), .val (.int (1 : Int32)), .unset] [(.int (1 : Int32))])
  refine wiconst OGc 19 X0 B d4_18 1 rfl rfl ?_
  refine own_st (fun t k => XS.iushr X0.here hx rfl (hb hby d4_19) rfl k) ?_
  show OG p e _ s below _ s₁ (mkF m 20 #[.val (.ref a1), .val (.int (0 : Int32)), .val (.int (1 : Int32)), .val (.long q4), .second, .val (.int (0 : Int32)), .val (.int (1 : Int32)), .unset] [(.int (0 : Int32))])
  refine wistore OGc 22 X0 B d4_20 #[.val (.ref a1), .val (.int (0 : Int32)), .val (.int (1 : Int32)), .val (.long q4), .second, .val (.int (0 : Int32)), .val (.int (1 : Int32)), .val (.int (0 : Int32))] rfl rfl ?_
  refine waloadN OGc 23 X0 B d4_22 rfl rfl rfl ?_
  refine wiload OGc 25 X0 B d4_23 rfl rfl ?_
  refine wiaload OGc 26 X0 B hZ e0 R0 (v := (.int v0)) 0 (by decide) (by decide) rfl d4_25 rfl ?_
  refine own_st (fun t k => XS.i2l X0.here hx rfl (hb hby d4_26) rfl k) ?_
  show OG p e _ s below _ s₁ (mkF m 27 #[.val (.ref a1), .val (.int (0 : Int32)), .val (.int (1 : Int32)), .val (.long q4), .second, .val (.int (0 : Int32)), .val (.int (1 : Int32)), .val (.int (0 : Int32))] [(.long (v0.toInt64))])
  refine wlloadN OGc 28 X0 B d4_27 rfl rfl ?_
  refine wlcmp OGc 29 X0 B d4_28 rfl ?_
  by_cases c2 : (v0.toInt64) < q4
  · refine wifNo OGc 32 X0 B d4_29 (own_if0 (tlt ((lw_lt _ _).mpr c2)).2.1) rfl ?_
    refine wiload OGc 34 X0 B d4_32 rfl rfl ?_
    refine wiconst OGc 35 X0 B d4_34 1 rfl rfl ?_
    refine wiadd OGc 36 X0 B d4_35 rfl ?_
    show OG p e _ s below _ s₁ (mkF m 36 #[.val (.ref a1), .val (.int (0 : Int32)), .val (.int (1 : Int32)), .val (.long q4), .second, .val (.int (0 : Int32)), .val (.int (1 : Int32)), .val (.int (0 : Int32))] [(.int (1 : Int32))])
    refine wistore OGc 38 X0 B d4_36 #[.val (.ref a1), .val (.int (0 : Int32)), .val (.int (1 : Int32)), .val (.long q4), .second, .val (.int (1 : Int32)), .val (.int (1 : Int32)), .val (.int (0 : Int32))] rfl rfl ?_
    refine wgoto OGc 45 X0 B d4_38 rfl ?_
    refine wgoto OGc 6 X0 B d4_45 rfl ?_
    refine wiload OGc 8 X0 B d4_6 rfl rfl ?_
    refine wiload OGc 10 X0 B d4_8 rfl rfl ?_
    refine wicmpYes OGc 48 X0 B d4_10 (by decide) rfl ?_
    refine wiload OGc 50 X0 B d4_48 rfl rfl ?_
    exact own_retI X0 hx hret hlk (hb hby d4_50) (by decide) (by decide) ⟨congrArg (fun z => some (Value.int z)) (show f4_0_1 q4 v0 v1 v2 v3 = (1 : Int32) from (by rw [f4_0_1, if_pos c2])).symm, rfl, e0⟩
  · refine wifYes OGc 41 X0 B d4_29 (own_if0 (flt (fun q => c2 ((lw_lt _ _).mp q))).2.1) rfl ?_
    refine wiload OGc 43 X0 B d4_41 rfl rfl ?_
    refine wistore OGc 45 X0 B d4_43 #[.val (.ref a1), .val (.int (0 : Int32)), .val (.int (1 : Int32)), .val (.long q4), .second, .val (.int (0 : Int32)), .val (.int (0 : Int32)), .val (.int (0 : Int32))] rfl rfl ?_
    refine wgoto OGc 6 X0 B d4_45 rfl ?_
    refine wiload OGc 8 X0 B d4_6 rfl rfl ?_
    refine wiload OGc 10 X0 B d4_8 rfl rfl ?_
    refine wicmpYes OGc 48 X0 B d4_10 (by decide) rfl ?_
    refine wiload OGc 50 X0 B d4_48 rfl rfl ?_
    exact own_retI X0 hx hret hlk (hb hby d4_50) (by decide) (by decide) ⟨congrArg (fun z => some (Value.int z)) (show f4_0_1 q4 v0 v1 v2 v3 = (0 : Int32) from (by rw [f4_0_1, if_neg c2])).symm, rfl, e0⟩
def f4_0_2 (q4 : Int64) (v0 : Int32) (v1 : Int32) (v2 : Int32) (v3 : Int32) : Int32 := (if (v1.toInt64) < q4 then (2 : Int32) else (if (v0.toInt64) < q4 then (1 : Int32) else (0 : Int32)))
theorem ef_4_0_2 (m : MethodId) (a1 : Addr) (q4 : Int64) : entryFrame m #[(.ref a1), (.int (0 : Int32)), (.int (2 : Int32)), (.long q4)] 8 = (mkF m 0 #[.val (.ref a1), .val (.int (0 : Int32)), .val (.int (2 : Int32)), .val (.long q4), .second, .unset, .unset, .unset] []) := by first | (simp [entryFrame, mkF, argsToLocals, Value.category]; done) | rfl
abbrev Q4_0_2 (Z : State) (a1 : Addr) (q4 : Int64) (v0 : Int32) (v1 : Int32) (v2 : Int32) (v3 : Int32) (h0 : Heap)  : Option Value → Heap → List Loc → Prop := (fun v h L => v = some (.int (f4_0_2 q4 v0 v1 v2 v3)) ∧ L = [] ∧ h = h0)
set_option maxRecDepth 65536 in
set_option maxHeartbeats 40000000 in
theorem rm4_0_2 (l : Launch) (Z : State) (a0 : Array Value) (hw : ∀ d ∈ tables_1, d.before a0 Z = true) (ws : List Jvm.Cond) (a1 : Addr) (q4 : Int64) (v0 : Int32) (v1 : Int32) (v2 : Int32) (v3 : Int32) (h0 : Heap) (R0 : OA Z h0 a1 .int [(.int v0), (.int v1), (.int v2), (.int v3)]) :
    OMet l Z (⟨"com/example/fragmark/fragmark/TermTokens", "indexFrom", "([IIIJ)I"⟩ : MethodName) prog_44_method_10_code 8 (some .int) ws ({ frames := 0, cells := 0, slots := 0, locals := 0 } : Room) #[(.ref a1), (.int (0 : Int32)), (.int (2 : Int32)), (.long q4)] h0 (Q4_0_2 Z a1 q4 v0 v1 v2 v3 h0) := by
  refine own_enter pn_4 ?_
  intro p e s m below meth c s₁ hx hby hml0 hown hret hlk hnm hZ X0 e0
  have hml : c.maxLocals = 8 := hml0
  have B : BX p c prog_44_method_10_code := ⟨hx, hby⟩
  refine own_cast (ef_4_0_2 m a1 q4) ?_
  show OG p e ({ frames := 0, cells := 0, slots := 0, locals := 0 } : Room) s below (fun v h L => v = some (.int (f4_0_2 q4 v0 v1 v2 v3)) ∧ L = [] ∧ h = h0) s₁ (mkF m 0 #[.val (.ref a1), .val (.int (0 : Int32)), .val (.int (2 : Int32)), .val (.long q4), .second, .unset, .unset, .unset] [])
  refine wiloadN OGc 1 X0 B d4_0 rfl rfl ?_
  refine wistore OGc 3 X0 B d4_1 #[.val (.ref a1), .val (.int (0 : Int32)), .val (.int (2 : Int32)), .val (.long q4), .second, .val (.int (0 : Int32)), .unset, .unset] rfl rfl ?_
  refine wiloadN OGc 4 X0 B d4_3 rfl rfl ?_
  refine wistore OGc 6 X0 B d4_4 #[.val (.ref a1), .val (.int (0 : Int32)), .val (.int (2 : Int32)), .val (.long q4), .second, .val (.int (0 : Int32)), .val (.int (2 : Int32)), .unset] rfl rfl ?_
  refine wiload OGc 8 X0 B d4_6 rfl rfl ?_
  refine wiload OGc 10 X0 B d4_8 rfl rfl ?_
  refine wicmpNo OGc 13 X0 B d4_10 (by decide) rfl ?_
  refine wiload OGc 15 X0 B d4_13 rfl rfl ?_
  refine wiload OGc 17 X0 B d4_15 rfl rfl ?_
  refine wiadd OGc 18 X0 B d4_17 rfl ?_
  show OG p e _ s below _ s₁ (mkF m 18 #[.val (.ref a1), .val (.int (0 : Int32)), .val (.int (2 : Int32)), .val (.long q4), .second, .val (.int (0 : Int32)), .val (.int (2 : Int32)), .unset] [(.int (2 : Int32))])
  refine wiconst OGc 19 X0 B d4_18 1 rfl rfl ?_
  refine own_st (fun t k => XS.iushr X0.here hx rfl (hb hby d4_19) rfl k) ?_
  show OG p e _ s below _ s₁ (mkF m 20 #[.val (.ref a1), .val (.int (0 : Int32)), .val (.int (2 : Int32)), .val (.long q4), .second, .val (.int (0 : Int32)), .val (.int (2 : Int32)), .unset] [(.int (1 : Int32))])
  refine wistore OGc 22 X0 B d4_20 #[.val (.ref a1), .val (.int (0 : Int32)), .val (.int (2 : Int32)), .val (.long q4), .second, .val (.int (0 : Int32)), .val (.int (2 : Int32)), .val (.int (1 : Int32))] rfl rfl ?_
  refine waloadN OGc 23 X0 B d4_22 rfl rfl rfl ?_
  refine wiload OGc 25 X0 B d4_23 rfl rfl ?_
  refine wiaload OGc 26 X0 B hZ e0 R0 (v := (.int v1)) 1 (by decide) (by decide) rfl d4_25 rfl ?_
  refine own_st (fun t k => XS.i2l X0.here hx rfl (hb hby d4_26) rfl k) ?_
  show OG p e _ s below _ s₁ (mkF m 27 #[.val (.ref a1), .val (.int (0 : Int32)), .val (.int (2 : Int32)), .val (.long q4), .second, .val (.int (0 : Int32)), .val (.int (2 : Int32)), .val (.int (1 : Int32))] [(.long (v1.toInt64))])
  refine wlloadN OGc 28 X0 B d4_27 rfl rfl ?_
  refine wlcmp OGc 29 X0 B d4_28 rfl ?_
  by_cases c2 : (v1.toInt64) < q4
  · refine wifNo OGc 32 X0 B d4_29 (own_if0 (tlt ((lw_lt _ _).mpr c2)).2.1) rfl ?_
    refine wiload OGc 34 X0 B d4_32 rfl rfl ?_
    refine wiconst OGc 35 X0 B d4_34 1 rfl rfl ?_
    refine wiadd OGc 36 X0 B d4_35 rfl ?_
    show OG p e _ s below _ s₁ (mkF m 36 #[.val (.ref a1), .val (.int (0 : Int32)), .val (.int (2 : Int32)), .val (.long q4), .second, .val (.int (0 : Int32)), .val (.int (2 : Int32)), .val (.int (1 : Int32))] [(.int (2 : Int32))])
    refine wistore OGc 38 X0 B d4_36 #[.val (.ref a1), .val (.int (0 : Int32)), .val (.int (2 : Int32)), .val (.long q4), .second, .val (.int (2 : Int32)), .val (.int (2 : Int32)), .val (.int (1 : Int32))] rfl rfl ?_
    refine wgoto OGc 45 X0 B d4_38 rfl ?_
    refine wgoto OGc 6 X0 B d4_45 rfl ?_
    refine wiload OGc 8 X0 B d4_6 rfl rfl ?_
    refine wiload OGc 10 X0 B d4_8 rfl rfl ?_
    refine wicmpYes OGc 48 X0 B d4_10 (by decide) rfl ?_
    refine wiload OGc 50 X0 B d4_48 rfl rfl ?_
    exact own_retI X0 hx hret hlk (hb hby d4_50) (by decide) (by decide) ⟨congrArg (fun z => some (Value.int z)) (show f4_0_2 q4 v0 v1 v2 v3 = (2 : Int32) from (by rw [f4_0_2, if_pos c2])).symm, rfl, e0⟩
  · refine wifYes OGc 41 X0 B d4_29 (own_if0 (flt (fun q => c2 ((lw_lt _ _).mp q))).2.1) rfl ?_
    refine wiload OGc 43 X0 B d4_41 rfl rfl ?_
    refine wistore OGc 45 X0 B d4_43 #[.val (.ref a1), .val (.int (0 : Int32)), .val (.int (2 : Int32)), .val (.long q4), .second, .val (.int (0 : Int32)), .val (.int (1 : Int32)), .val (.int (1 : Int32))] rfl rfl ?_
    refine wgoto OGc 6 X0 B d4_45 rfl ?_
    refine wiload OGc 8 X0 B d4_6 rfl rfl ?_
    refine wiload OGc 10 X0 B d4_8 rfl rfl ?_
    refine wicmpNo OGc 13 X0 B d4_10 (by decide) rfl ?_
    refine wiload OGc 15 X0 B d4_13 rfl rfl ?_
    refine wiload OGc 17 X0 B d4_15 rfl rfl ?_
    refine wiadd OGc 18 X0 B d4_17 rfl ?_
    show OG p e _ s below _ s₁ (mkF m 18 #[.val (.ref a1), .val (.int (0 : Int32)), .val (.int (2 : Int32)), .val (.long q4), .second, .val (.int (0 : Int32)), .val (.int (1 : Int32)), .val (.int (1 : Int32))] [(.int (1 : Int32))])
    refine wiconst OGc 19 X0 B d4_18 1 rfl rfl ?_
    refine own_st (fun t k => XS.iushr X0.here hx rfl (hb hby d4_19) rfl k) ?_
    show OG p e _ s below _ s₁ (mkF m 20 #[.val (.ref a1), .val (.int (0 : Int32)), .val (.int (2 : Int32)), .val (.long q4), .second, .val (.int (0 : Int32)), .val (.int (1 : Int32)), .val (.int (1 : Int32))] [(.int (0 : Int32))])
    refine wistore OGc 22 X0 B d4_20 #[.val (.ref a1), .val (.int (0 : Int32)), .val (.int (2 : Int32)), .val (.long q4), .second, .val (.int (0 : Int32)), .val (.int (1 : Int32)), .val (.int (0 : Int32))] rfl rfl ?_
    refine waloadN OGc 23 X0 B d4_22 rfl rfl rfl ?_
    refine wiload OGc 25 X0 B d4_23 rfl rfl ?_
    refine wiaload OGc 26 X0 B hZ e0 R0 (v := (.int v0)) 0 (by decide) (by decide) rfl d4_25 rfl ?_
    refine own_st (fun t k => XS.i2l X0.here hx rfl (hb hby d4_26) rfl k) ?_
    show OG p e _ s below _ s₁ (mkF m 27 #[.val (.ref a1), .val (.int (0 : Int32)), .val (.int (2 : Int32)), .val (.long q4), .second, .val (.int (0 : Int32)), .val (.int (1 : Int32)), .val (.int (0 : Int32))] [(.long (v0.toInt64))])
    refine wlloadN OGc 28 X0 B d4_27 rfl rfl ?_
    refine wlcmp OGc 29 X0 B d4_28 rfl ?_
    by_cases c4 : (v0.toInt64) < q4
    · refine wifNo OGc 32 X0 B d4_29 (own_if0 (tlt ((lw_lt _ _).mpr c4)).2.1) rfl ?_
      refine wiload OGc 34 X0 B d4_32 rfl rfl ?_
      refine wiconst OGc 35 X0 B d4_34 1 rfl rfl ?_
      refine wiadd OGc 36 X0 B d4_35 rfl ?_
      show OG p e _ s below _ s₁ (mkF m 36 #[.val (.ref a1), .val (.int (0 : Int32)), .val (.int (2 : Int32)), .val (.long q4), .second, .val (.int (0 : Int32)), .val (.int (1 : Int32)), .val (.int (0 : Int32))] [(.int (1 : Int32))])
      refine wistore OGc 38 X0 B d4_36 #[.val (.ref a1), .val (.int (0 : Int32)), .val (.int (2 : Int32)), .val (.long q4), .second, .val (.int (1 : Int32)), .val (.int (1 : Int32)), .val (.int (0 : Int32))] rfl rfl ?_
      refine wgoto OGc 45 X0 B d4_38 rfl ?_
      refine wgoto OGc 6 X0 B d4_45 rfl ?_
      refine wiload OGc 8 X0 B d4_6 rfl rfl ?_
      refine wiload OGc 10 X0 B d4_8 rfl rfl ?_
      refine wicmpYes OGc 48 X0 B d4_10 (by decide) rfl ?_
      refine wiload OGc 50 X0 B d4_48 rfl rfl ?_
      exact own_retI X0 hx hret hlk (hb hby d4_50) (by decide) (by decide) ⟨congrArg (fun z => some (Value.int z)) (show f4_0_2 q4 v0 v1 v2 v3 = (1 : Int32) from (by rw [f4_0_2, if_neg c2, if_pos c4])).symm, rfl, e0⟩
    · refine wifYes OGc 41 X0 B d4_29 (own_if0 (flt (fun q => c4 ((lw_lt _ _).mp q))).2.1) rfl ?_
      refine wiload OGc 43 X0 B d4_41 rfl rfl ?_
      refine wistore OGc 45 X0 B d4_43 #[.val (.ref a1), .val (.int (0 : Int32)), .val (.int (2 : Int32)), .val (.long q4), .second, .val (.int (0 : Int32)), .val (.int (0 : Int32)), .val (.int (0 : Int32))] rfl rfl ?_
      refine wgoto OGc 6 X0 B d4_45 rfl ?_
      refine wiload OGc 8 X0 B d4_6 rfl rfl ?_
      refine wiload OGc 10 X0 B d4_8 rfl rfl ?_
      refine wicmpYes OGc 48 X0 B d4_10 (by decide) rfl ?_
      refine wiload OGc 50 X0 B d4_48 rfl rfl ?_
      exact own_retI X0 hx hret hlk (hb hby d4_50) (by decide) (by decide) ⟨congrArg (fun z => some (Value.int z)) (show f4_0_2 q4 v0 v1 v2 v3 = (0 : Int32) from (by rw [f4_0_2, if_neg c2, if_neg c4])).symm, rfl, e0⟩
def f4_0_3 (q4 : Int64) (v0 : Int32) (v1 : Int32) (v2 : Int32) (v3 : Int32) : Int32 := (if (v1.toInt64) < q4 then (if (v2.toInt64) < q4 then (3 : Int32) else (2 : Int32)) else (if (v0.toInt64) < q4 then (1 : Int32) else (0 : Int32)))
theorem ef_4_0_3 (m : MethodId) (a1 : Addr) (q4 : Int64) : entryFrame m #[(.ref a1), (.int (0 : Int32)), (.int (3 : Int32)), (.long q4)] 8 = (mkF m 0 #[.val (.ref a1), .val (.int (0 : Int32)), .val (.int (3 : Int32)), .val (.long q4), .second, .unset, .unset, .unset] []) := by first | (simp [entryFrame, mkF, argsToLocals, Value.category]; done) | rfl
abbrev Q4_0_3 (Z : State) (a1 : Addr) (q4 : Int64) (v0 : Int32) (v1 : Int32) (v2 : Int32) (v3 : Int32) (h0 : Heap)  : Option Value → Heap → List Loc → Prop := (fun v h L => v = some (.int (f4_0_3 q4 v0 v1 v2 v3)) ∧ L = [] ∧ h = h0)
set_option maxRecDepth 65536 in
set_option maxHeartbeats 40000000 in
theorem rm4_0_3 (l : Launch) (Z : State) (a0 : Array Value) (hw : ∀ d ∈ tables_1, d.before a0 Z = true) (ws : List Jvm.Cond) (a1 : Addr) (q4 : Int64) (v0 : Int32) (v1 : Int32) (v2 : Int32) (v3 : Int32) (h0 : Heap) (R0 : OA Z h0 a1 .int [(.int v0), (.int v1), (.int v2), (.int v3)]) :
    OMet l Z (⟨"com/example/fragmark/fragmark/TermTokens", "indexFrom", "([IIIJ)I"⟩ : MethodName) prog_44_method_10_code 8 (some .int) ws ({ frames := 0, cells := 0, slots := 0, locals := 0 } : Room) #[(.ref a1), (.int (0 : Int32)), (.int (3 : Int32)), (.long q4)] h0 (Q4_0_3 Z a1 q4 v0 v1 v2 v3 h0) := by
  refine own_enter pn_4 ?_
  intro p e s m below meth c s₁ hx hby hml0 hown hret hlk hnm hZ X0 e0
  have hml : c.maxLocals = 8 := hml0
  have B : BX p c prog_44_method_10_code := ⟨hx, hby⟩
  refine own_cast (ef_4_0_3 m a1 q4) ?_
  show OG p e ({ frames := 0, cells := 0, slots := 0, locals := 0 } : Room) s below (fun v h L => v = some (.int (f4_0_3 q4 v0 v1 v2 v3)) ∧ L = [] ∧ h = h0) s₁ (mkF m 0 #[.val (.ref a1), .val (.int (0 : Int32)), .val (.int (3 : Int32)), .val (.long q4), .second, .unset, .unset, .unset] [])
  refine wiloadN OGc 1 X0 B d4_0 rfl rfl ?_
  refine wistore OGc 3 X0 B d4_1 #[.val (.ref a1), .val (.int (0 : Int32)), .val (.int (3 : Int32)), .val (.long q4), .second, .val (.int (0 : Int32)), .unset, .unset] rfl rfl ?_
  refine wiloadN OGc 4 X0 B d4_3 rfl rfl ?_
  refine wistore OGc 6 X0 B d4_4 #[.val (.ref a1), .val (.int (0 : Int32)), .val (.int (3 : Int32)), .val (.long q4), .second, .val (.int (0 : Int32)), .val (.int (3 : Int32)), .unset] rfl rfl ?_
  refine wiload OGc 8 X0 B d4_6 rfl rfl ?_
  refine wiload OGc 10 X0 B d4_8 rfl rfl ?_
  refine wicmpNo OGc 13 X0 B d4_10 (by decide) rfl ?_
  refine wiload OGc 15 X0 B d4_13 rfl rfl ?_
  refine wiload OGc 17 X0 B d4_15 rfl rfl ?_
  refine wiadd OGc 18 X0 B d4_17 rfl ?_
  show OG p e _ s below _ s₁ (mkF m 18 #[.val (.ref a1), .val (.int (0 : Int32)), .val (.int (3 : Int32)), .val (.long q4), .second, .val (.int (0 : Int32)), .val (.int (3 : Int32)), .unset] [(.int (3 : Int32))])
  refine wiconst OGc 19 X0 B d4_18 1 rfl rfl ?_
  refine own_st (fun t k => XS.iushr X0.here hx rfl (hb hby d4_19) rfl k) ?_
  show OG p e _ s below _ s₁ (mkF m 20 #[.val (.ref a1), .val (.int (0 : Int32)), .val (.int (3 : Int32)), .val (.long q4), .second, .val (.int (0 : Int32)), .val (.int (3 : Int32)), .unset] [(.int (1 : Int32))])
  refine wistore OGc 22 X0 B d4_20 #[.val (.ref a1), .val (.int (0 : Int32)), .val (.int (3 : Int32)), .val (.long q4), .second, .val (.int (0 : Int32)), .val (.int (3 : Int32)), .val (.int (1 : Int32))] rfl rfl ?_
  refine waloadN OGc 23 X0 B d4_22 rfl rfl rfl ?_
  refine wiload OGc 25 X0 B d4_23 rfl rfl ?_
  refine wiaload OGc 26 X0 B hZ e0 R0 (v := (.int v1)) 1 (by decide) (by decide) rfl d4_25 rfl ?_
  refine own_st (fun t k => XS.i2l X0.here hx rfl (hb hby d4_26) rfl k) ?_
  show OG p e _ s below _ s₁ (mkF m 27 #[.val (.ref a1), .val (.int (0 : Int32)), .val (.int (3 : Int32)), .val (.long q4), .second, .val (.int (0 : Int32)), .val (.int (3 : Int32)), .val (.int (1 : Int32))] [(.long (v1.toInt64))])
  refine wlloadN OGc 28 X0 B d4_27 rfl rfl ?_
  refine wlcmp OGc 29 X0 B d4_28 rfl ?_
  by_cases c2 : (v1.toInt64) < q4
  · refine wifNo OGc 32 X0 B d4_29 (own_if0 (tlt ((lw_lt _ _).mpr c2)).2.1) rfl ?_
    refine wiload OGc 34 X0 B d4_32 rfl rfl ?_
    refine wiconst OGc 35 X0 B d4_34 1 rfl rfl ?_
    refine wiadd OGc 36 X0 B d4_35 rfl ?_
    show OG p e _ s below _ s₁ (mkF m 36 #[.val (.ref a1), .val (.int (0 : Int32)), .val (.int (3 : Int32)), .val (.long q4), .second, .val (.int (0 : Int32)), .val (.int (3 : Int32)), .val (.int (1 : Int32))] [(.int (2 : Int32))])
    refine wistore OGc 38 X0 B d4_36 #[.val (.ref a1), .val (.int (0 : Int32)), .val (.int (3 : Int32)), .val (.long q4), .second, .val (.int (2 : Int32)), .val (.int (3 : Int32)), .val (.int (1 : Int32))] rfl rfl ?_
    refine wgoto OGc 45 X0 B d4_38 rfl ?_
    refine wgoto OGc 6 X0 B d4_45 rfl ?_
    refine wiload OGc 8 X0 B d4_6 rfl rfl ?_
    refine wiload OGc 10 X0 B d4_8 rfl rfl ?_
    refine wicmpNo OGc 13 X0 B d4_10 (by decide) rfl ?_
    refine wiload OGc 15 X0 B d4_13 rfl rfl ?_
    refine wiload OGc 17 X0 B d4_15 rfl rfl ?_
    refine wiadd OGc 18 X0 B d4_17 rfl ?_
    show OG p e _ s below _ s₁ (mkF m 18 #[.val (.ref a1), .val (.int (0 : Int32)), .val (.int (3 : Int32)), .val (.long q4), .second, .val (.int (2 : Int32)), .val (.int (3 : Int32)), .val (.int (1 : Int32))] [(.int (5 : Int32))])
    refine wiconst OGc 19 X0 B d4_18 1 rfl rfl ?_
    refine own_st (fun t k => XS.iushr X0.here hx rfl (hb hby d4_19) rfl k) ?_
    show OG p e _ s below _ s₁ (mkF m 20 #[.val (.ref a1), .val (.int (0 : Int32)), .val (.int (3 : Int32)), .val (.long q4), .second, .val (.int (2 : Int32)), .val (.int (3 : Int32)), .val (.int (1 : Int32))] [(.int (2 : Int32))])
    refine wistore OGc 22 X0 B d4_20 #[.val (.ref a1), .val (.int (0 : Int32)), .val (.int (3 : Int32)), .val (.long q4), .second, .val (.int (2 : Int32)), .val (.int (3 : Int32)), .val (.int (2 : Int32))] rfl rfl ?_
    refine waloadN OGc 23 X0 B d4_22 rfl rfl rfl ?_
    refine wiload OGc 25 X0 B d4_23 rfl rfl ?_
    refine wiaload OGc 26 X0 B hZ e0 R0 (v := (.int v2)) 2 (by decide) (by decide) rfl d4_25 rfl ?_
    refine own_st (fun t k => XS.i2l X0.here hx rfl (hb hby d4_26) rfl k) ?_
    show OG p e _ s below _ s₁ (mkF m 27 #[.val (.ref a1), .val (.int (0 : Int32)), .val (.int (3 : Int32)), .val (.long q4), .second, .val (.int (2 : Int32)), .val (.int (3 : Int32)), .val (.int (2 : Int32))] [(.long (v2.toInt64))])
    refine wlloadN OGc 28 X0 B d4_27 rfl rfl ?_
    refine wlcmp OGc 29 X0 B d4_28 rfl ?_
    by_cases c4 : (v2.toInt64) < q4
    · refine wifNo OGc 32 X0 B d4_29 (own_if0 (tlt ((lw_lt _ _).mpr c4)).2.1) rfl ?_
      refine wiload OGc 34 X0 B d4_32 rfl rfl ?_
      refine wiconst OGc 35 X0 B d4_34 1 rfl rfl ?_
      refine wiadd OGc 36 X0 B d4_35 rfl ?_
      show OG p e _ s below _ s₁ (mkF m 36 #[.val (.ref a1), .val (.int (0 : Int32)), .val (.int (3 : Int32)), .val (.long q4), .second, .val (.int (2 : Int32)), .val (.int (3 : Int32)), .val (.int (2 : Int32))] [(.int (3 : Int32))])
      refine wistore OGc 38 X0 B d4_36 #[.val (.ref a1), .val (.int (0 : Int32)), .val (.int (3 : Int32)), .val (.long q4), .second, .val (.int (3 : Int32)), .val (.int (3 : Int32)), .val (.int (2 : Int32))] rfl rfl ?_
      refine wgoto OGc 45 X0 B d4_38 rfl ?_
      refine wgoto OGc 6 X0 B d4_45 rfl ?_
      refine wiload OGc 8 X0 B d4_6 rfl rfl ?_
      refine wiload OGc 10 X0 B d4_8 rfl rfl ?_
      refine wicmpYes OGc 48 X0 B d4_10 (by decide) rfl ?_
      refine wiload OGc 50 X0 B d4_48 rfl rfl ?_
      exact own_retI X0 hx hret hlk (hb hby d4_50) (by decide) (by decide) ⟨congrArg (fun z => some (Value.int z)) (show f4_0_3 q4 v0 v1 v2 v3 = (3 : Int32) from (by rw [f4_0_3, if_pos c2, if_pos c4])).symm, rfl, e0⟩
    · refine wifYes OGc 41 X0 B d4_29 (own_if0 (flt (fun q => c4 ((lw_lt _ _).mp q))).2.1) rfl ?_
      refine wiload OGc 43 X0 B d4_41 rfl rfl ?_
      refine wistore OGc 45 X0 B d4_43 #[.val (.ref a1), .val (.int (0 : Int32)), .val (.int (3 : Int32)), .val (.long q4), .second, .val (.int (2 : Int32)), .val (.int (2 : Int32)), .val (.int (2 : Int32))] rfl rfl ?_
      refine wgoto OGc 6 X0 B d4_45 rfl ?_
      refine wiload OGc 8 X0 B d4_6 rfl rfl ?_
      refine wiload OGc 10 X0 B d4_8 rfl rfl ?_
      refine wicmpYes OGc 48 X0 B d4_10 (by decide) rfl ?_
      refine wiload OGc 50 X0 B d4_48 rfl rfl ?_
      exact own_retI X0 hx hret hlk (hb hby d4_50) (by decide) (by decide) ⟨congrArg (fun z => some (Value.int z)) (show f4_0_3 q4 v0 v1 v2 v3 = (2 : Int32) from (by rw [f4_0_3, if_pos c2, if_neg c4])).symm, rfl, e0⟩
  · refine wifYes OGc 41 X0 B d4_29 (own_if0 (flt (fun q => c2 ((lw_lt _ _).mp q))).2.1) rfl ?_
    refine wiload OGc 43 X0 B d4_41 rfl rfl ?_
    refine wistore OGc 45 X0 B d4_43 #[.val (.ref a1), .val (.int (0 : Int32)), .val (.int (3 : Int32)), .val (.long q4), .second, .val (.int (0 : Int32)), .val (.int (1 : Int32)), .val (.int (1 : Int32))] rfl rfl ?_
    refine wgoto OGc 6 X0 B d4_45 rfl ?_
    refine wiload OGc 8 X0 B d4_6 rfl rfl ?_
    refine wiload OGc 10 X0 B d4_8 rfl rfl ?_
    refine wicmpNo OGc 13 X0 B d4_10 (by decide) rfl ?_
    refine wiload OGc 15 X0 B d4_13 rfl rfl ?_
    refine wiload OGc 17 X0 B d4_15 rfl rfl ?_
    refine wiadd OGc 18 X0 B d4_17 rfl ?_
    show OG p e _ s below _ s₁ (mkF m 18 #[.val (.ref a1), .val (.int (0 : Int32)), .val (.int (3 : Int32)), .val (.long q4), .second, .val (.int (0 : Int32)), .val (.int (1 : Int32)), .val (.int (1 : Int32))] [(.int (1 : Int32))])
    refine wiconst OGc 19 X0 B d4_18 1 rfl rfl ?_
    refine own_st (fun t k => XS.iushr X0.here hx rfl (hb hby d4_19) rfl k) ?_
    show OG p e _ s below _ s₁ (mkF m 20 #[.val (.ref a1), .val (.int (0 : Int32)), .val (.int (3 : Int32)), .val (.long q4), .second, .val (.int (0 : Int32)), .val (.int (1 : Int32)), .val (.int (1 : Int32))] [(.int (0 : Int32))])
    refine wistore OGc 22 X0 B d4_20 #[.val (.ref a1), .val (.int (0 : Int32)), .val (.int (3 : Int32)), .val (.long q4), .second, .val (.int (0 : Int32)), .val (.int (1 : Int32)), .val (.int (0 : Int32))] rfl rfl ?_
    refine waloadN OGc 23 X0 B d4_22 rfl rfl rfl ?_
    refine wiload OGc 25 X0 B d4_23 rfl rfl ?_
    refine wiaload OGc 26 X0 B hZ e0 R0 (v := (.int v0)) 0 (by decide) (by decide) rfl d4_25 rfl ?_
    refine own_st (fun t k => XS.i2l X0.here hx rfl (hb hby d4_26) rfl k) ?_
    show OG p e _ s below _ s₁ (mkF m 27 #[.val (.ref a1), .val (.int (0 : Int32)), .val (.int (3 : Int32)), .val (.long q4), .second, .val (.int (0 : Int32)), .val (.int (1 : Int32)), .val (.int (0 : Int32))] [(.long (v0.toInt64))])
    refine wlloadN OGc 28 X0 B d4_27 rfl rfl ?_
    refine wlcmp OGc 29 X0 B d4_28 rfl ?_
    by_cases c6 : (v0.toInt64) < q4
    · refine wifNo OGc 32 X0 B d4_29 (own_if0 (tlt ((lw_lt _ _).mpr c6)).2.1) rfl ?_
      refine wiload OGc 34 X0 B d4_32 rfl rfl ?_
      refine wiconst OGc 35 X0 B d4_34 1 rfl rfl ?_
      refine wiadd OGc 36 X0 B d4_35 rfl ?_
      show OG p e _ s below _ s₁ (mkF m 36 #[.val (.ref a1), .val (.int (0 : Int32)), .val (.int (3 : Int32)), .val (.long q4), .second, .val (.int (0 : Int32)), .val (.int (1 : Int32)), .val (.int (0 : Int32))] [(.int (1 : Int32))])
      refine wistore OGc 38 X0 B d4_36 #[.val (.ref a1), .val (.int (0 : Int32)), .val (.int (3 : Int32)), .val (.long q4), .second, .val (.int (1 : Int32)), .val (.int (1 : Int32)), .val (.int (0 : Int32))] rfl rfl ?_
      refine wgoto OGc 45 X0 B d4_38 rfl ?_
      refine wgoto OGc 6 X0 B d4_45 rfl ?_
      refine wiload OGc 8 X0 B d4_6 rfl rfl ?_
      refine wiload OGc 10 X0 B d4_8 rfl rfl ?_
      refine wicmpYes OGc 48 X0 B d4_10 (by decide) rfl ?_
      refine wiload OGc 50 X0 B d4_48 rfl rfl ?_
      exact own_retI X0 hx hret hlk (hb hby d4_50) (by decide) (by decide) ⟨congrArg (fun z => some (Value.int z)) (show f4_0_3 q4 v0 v1 v2 v3 = (1 : Int32) from (by rw [f4_0_3, if_neg c2, if_pos c6])).symm, rfl, e0⟩
    · refine wifYes OGc 41 X0 B d4_29 (own_if0 (flt (fun q => c6 ((lw_lt _ _).mp q))).2.1) rfl ?_
      refine wiload OGc 43 X0 B d4_41 rfl rfl ?_
      refine wistore OGc 45 X0 B d4_43 #[.val (.ref a1), .val (.int (0 : Int32)), .val (.int (3 : Int32)), .val (.long q4), .second, .val (.int (0 : Int32)), .val (.int (0 : Int32)), .val (.int (0 : Int32))] rfl rfl ?_
      refine wgoto OGc 6 X0 B d4_45 rfl ?_
      refine wiload OGc 8 X0 B d4_6 rfl rfl ?_
      refine wiload OGc 10 X0 B d4_8 rfl rfl ?_
      refine wicmpYes OGc 48 X0 B d4_10 (by decide) rfl ?_
      refine wiload OGc 50 X0 B d4_48 rfl rfl ?_
      exact own_retI X0 hx hret hlk (hb hby d4_50) (by decide) (by decide) ⟨congrArg (fun z => some (Value.int z)) (show f4_0_3 q4 v0 v1 v2 v3 = (0 : Int32) from (by rw [f4_0_3, if_neg c2, if_neg c6])).symm, rfl, e0⟩
def f4_0_4 (q4 : Int64) (v0 : Int32) (v1 : Int32) (v2 : Int32) (v3 : Int32) : Int32 := (if (v2.toInt64) < q4 then (if (v3.toInt64) < q4 then (4 : Int32) else (3 : Int32)) else (if (v1.toInt64) < q4 then (2 : Int32) else (if (v0.toInt64) < q4 then (1 : Int32) else (0 : Int32))))
theorem ef_4_0_4 (m : MethodId) (a1 : Addr) (q4 : Int64) : entryFrame m #[(.ref a1), (.int (0 : Int32)), (.int (4 : Int32)), (.long q4)] 8 = (mkF m 0 #[.val (.ref a1), .val (.int (0 : Int32)), .val (.int (4 : Int32)), .val (.long q4), .second, .unset, .unset, .unset] []) := by first | (simp [entryFrame, mkF, argsToLocals, Value.category]; done) | rfl
abbrev Q4_0_4 (Z : State) (a1 : Addr) (q4 : Int64) (v0 : Int32) (v1 : Int32) (v2 : Int32) (v3 : Int32) (h0 : Heap)  : Option Value → Heap → List Loc → Prop := (fun v h L => v = some (.int (f4_0_4 q4 v0 v1 v2 v3)) ∧ L = [] ∧ h = h0)
set_option maxRecDepth 65536 in
set_option maxHeartbeats 40000000 in
theorem rm4_0_4 (l : Launch) (Z : State) (a0 : Array Value) (hw : ∀ d ∈ tables_1, d.before a0 Z = true) (ws : List Jvm.Cond) (a1 : Addr) (q4 : Int64) (v0 : Int32) (v1 : Int32) (v2 : Int32) (v3 : Int32) (h0 : Heap) (R0 : OA Z h0 a1 .int [(.int v0), (.int v1), (.int v2), (.int v3)]) :
    OMet l Z (⟨"com/example/fragmark/fragmark/TermTokens", "indexFrom", "([IIIJ)I"⟩ : MethodName) prog_44_method_10_code 8 (some .int) ws ({ frames := 0, cells := 0, slots := 0, locals := 0 } : Room) #[(.ref a1), (.int (0 : Int32)), (.int (4 : Int32)), (.long q4)] h0 (Q4_0_4 Z a1 q4 v0 v1 v2 v3 h0) := by
  refine own_enter pn_4 ?_
  intro p e s m below meth c s₁ hx hby hml0 hown hret hlk hnm hZ X0 e0
  have hml : c.maxLocals = 8 := hml0
  have B : BX p c prog_44_method_10_code := ⟨hx, hby⟩
  refine own_cast (ef_4_0_4 m a1 q4) ?_
  show OG p e ({ frames := 0, cells := 0, slots := 0, locals := 0 } : Room) s below (fun v h L => v = some (.int (f4_0_4 q4 v0 v1 v2 v3)) ∧ L = [] ∧ h = h0) s₁ (mkF m 0 #[.val (.ref a1), .val (.int (0 : Int32)), .val (.int (4 : Int32)), .val (.long q4), .second, .unset, .unset, .unset] [])
  refine wiloadN OGc 1 X0 B d4_0 rfl rfl ?_
  refine wistore OGc 3 X0 B d4_1 #[.val (.ref a1), .val (.int (0 : Int32)), .val (.int (4 : Int32)), .val (.long q4), .second, .val (.int (0 : Int32)), .unset, .unset] rfl rfl ?_
  refine wiloadN OGc 4 X0 B d4_3 rfl rfl ?_
  refine wistore OGc 6 X0 B d4_4 #[.val (.ref a1), .val (.int (0 : Int32)), .val (.int (4 : Int32)), .val (.long q4), .second, .val (.int (0 : Int32)), .val (.int (4 : Int32)), .unset] rfl rfl ?_
  refine wiload OGc 8 X0 B d4_6 rfl rfl ?_
  refine wiload OGc 10 X0 B d4_8 rfl rfl ?_
  refine wicmpNo OGc 13 X0 B d4_10 (by decide) rfl ?_
  refine wiload OGc 15 X0 B d4_13 rfl rfl ?_
  refine wiload OGc 17 X0 B d4_15 rfl rfl ?_
  refine wiadd OGc 18 X0 B d4_17 rfl ?_
  show OG p e _ s below _ s₁ (mkF m 18 #[.val (.ref a1), .val (.int (0 : Int32)), .val (.int (4 : Int32)), .val (.long q4), .second, .val (.int (0 : Int32)), .val (.int (4 : Int32)), .unset] [(.int (4 : Int32))])
  refine wiconst OGc 19 X0 B d4_18 1 rfl rfl ?_
  refine own_st (fun t k => XS.iushr X0.here hx rfl (hb hby d4_19) rfl k) ?_
  show OG p e _ s below _ s₁ (mkF m 20 #[.val (.ref a1), .val (.int (0 : Int32)), .val (.int (4 : Int32)), .val (.long q4), .second, .val (.int (0 : Int32)), .val (.int (4 : Int32)), .unset] [(.int (2 : Int32))])
  refine wistore OGc 22 X0 B d4_20 #[.val (.ref a1), .val (.int (0 : Int32)), .val (.int (4 : Int32)), .val (.long q4), .second, .val (.int (0 : Int32)), .val (.int (4 : Int32)), .val (.int (2 : Int32))] rfl rfl ?_
  refine waloadN OGc 23 X0 B d4_22 rfl rfl rfl ?_
  refine wiload OGc 25 X0 B d4_23 rfl rfl ?_
  refine wiaload OGc 26 X0 B hZ e0 R0 (v := (.int v2)) 2 (by decide) (by decide) rfl d4_25 rfl ?_
  refine own_st (fun t k => XS.i2l X0.here hx rfl (hb hby d4_26) rfl k) ?_
  show OG p e _ s below _ s₁ (mkF m 27 #[.val (.ref a1), .val (.int (0 : Int32)), .val (.int (4 : Int32)), .val (.long q4), .second, .val (.int (0 : Int32)), .val (.int (4 : Int32)), .val (.int (2 : Int32))] [(.long (v2.toInt64))])
  refine wlloadN OGc 28 X0 B d4_27 rfl rfl ?_
  refine wlcmp OGc 29 X0 B d4_28 rfl ?_
  by_cases c2 : (v2.toInt64) < q4
  · refine wifNo OGc 32 X0 B d4_29 (own_if0 (tlt ((lw_lt _ _).mpr c2)).2.1) rfl ?_
    refine wiload OGc 34 X0 B d4_32 rfl rfl ?_
    refine wiconst OGc 35 X0 B d4_34 1 rfl rfl ?_
    refine wiadd OGc 36 X0 B d4_35 rfl ?_
    show OG p e _ s below _ s₁ (mkF m 36 #[.val (.ref a1), .val (.int (0 : Int32)), .val (.int (4 : Int32)), .val (.long q4), .second, .val (.int (0 : Int32)), .val (.int (4 : Int32)), .val (.int (2 : Int32))] [(.int (3 : Int32))])
    refine wistore OGc 38 X0 B d4_36 #[.val (.ref a1), .val (.int (0 : Int32)), .val (.int (4 : Int32)), .val (.long q4), .second, .val (.int (3 : Int32)), .val (.int (4 : Int32)), .val (.int (2 : Int32))] rfl rfl ?_
    refine wgoto OGc 45 X0 B d4_38 rfl ?_
    refine wgoto OGc 6 X0 B d4_45 rfl ?_
    refine wiload OGc 8 X0 B d4_6 rfl rfl ?_
    refine wiload OGc 10 X0 B d4_8 rfl rfl ?_
    refine wicmpNo OGc 13 X0 B d4_10 (by decide) rfl ?_
    refine wiload OGc 15 X0 B d4_13 rfl rfl ?_
    refine wiload OGc 17 X0 B d4_15 rfl rfl ?_
    refine wiadd OGc 18 X0 B d4_17 rfl ?_
    show OG p e _ s below _ s₁ (mkF m 18 #[.val (.ref a1), .val (.int (0 : Int32)), .val (.int (4 : Int32)), .val (.long q4), .second, .val (.int (3 : Int32)), .val (.int (4 : Int32)), .val (.int (2 : Int32))] [(.int (7 : Int32))])
    refine wiconst OGc 19 X0 B d4_18 1 rfl rfl ?_
    refine own_st (fun t k => XS.iushr X0.here hx rfl (hb hby d4_19) rfl k) ?_
    show OG p e _ s below _ s₁ (mkF m 20 #[.val (.ref a1), .val (.int (0 : Int32)), .val (.int (4 : Int32)), .val (.long q4), .second, .val (.int (3 : Int32)), .val (.int (4 : Int32)), .val (.int (2 : Int32))] [(.int (3 : Int32))])
    refine wistore OGc 22 X0 B d4_20 #[.val (.ref a1), .val (.int (0 : Int32)), .val (.int (4 : Int32)), .val (.long q4), .second, .val (.int (3 : Int32)), .val (.int (4 : Int32)), .val (.int (3 : Int32))] rfl rfl ?_
    refine waloadN OGc 23 X0 B d4_22 rfl rfl rfl ?_
    refine wiload OGc 25 X0 B d4_23 rfl rfl ?_
    refine wiaload OGc 26 X0 B hZ e0 R0 (v := (.int v3)) 3 (by decide) (by decide) rfl d4_25 rfl ?_
    refine own_st (fun t k => XS.i2l X0.here hx rfl (hb hby d4_26) rfl k) ?_
    show OG p e _ s below _ s₁ (mkF m 27 #[.val (.ref a1), .val (.int (0 : Int32)), .val (.int (4 : Int32)), .val (.long q4), .second, .val (.int (3 : Int32)), .val (.int (4 : Int32)), .val (.int (3 : Int32))] [(.long (v3.toInt64))])
    refine wlloadN OGc 28 X0 B d4_27 rfl rfl ?_
    refine wlcmp OGc 29 X0 B d4_28 rfl ?_
    by_cases c4 : (v3.toInt64) < q4
    · refine wifNo OGc 32 X0 B d4_29 (own_if0 (tlt ((lw_lt _ _).mpr c4)).2.1) rfl ?_
      refine wiload OGc 34 X0 B d4_32 rfl rfl ?_
      refine wiconst OGc 35 X0 B d4_34 1 rfl rfl ?_
      refine wiadd OGc 36 X0 B d4_35 rfl ?_
      show OG p e _ s below _ s₁ (mkF m 36 #[.val (.ref a1), .val (.int (0 : Int32)), .val (.int (4 : Int32)), .val (.long q4), .second, .val (.int (3 : Int32)), .val (.int (4 : Int32)), .val (.int (3 : Int32))] [(.int (4 : Int32))])
      refine wistore OGc 38 X0 B d4_36 #[.val (.ref a1), .val (.int (0 : Int32)), .val (.int (4 : Int32)), .val (.long q4), .second, .val (.int (4 : Int32)), .val (.int (4 : Int32)), .val (.int (3 : Int32))] rfl rfl ?_
      refine wgoto OGc 45 X0 B d4_38 rfl ?_
      refine wgoto OGc 6 X0 B d4_45 rfl ?_
      refine wiload OGc 8 X0 B d4_6 rfl rfl ?_
      refine wiload OGc 10 X0 B d4_8 rfl rfl ?_
      refine wicmpYes OGc 48 X0 B d4_10 (by decide) rfl ?_
      refine wiload OGc 50 X0 B d4_48 rfl rfl ?_
      exact own_retI X0 hx hret hlk (hb hby d4_50) (by decide) (by decide) ⟨congrArg (fun z => some (Value.int z)) (show f4_0_4 q4 v0 v1 v2 v3 = (4 : Int32) from (by rw [f4_0_4, if_pos c2, if_pos c4])).symm, rfl, e0⟩
    · refine wifYes OGc 41 X0 B d4_29 (own_if0 (flt (fun q => c4 ((lw_lt _ _).mp q))).2.1) rfl ?_
      refine wiload OGc 43 X0 B d4_41 rfl rfl ?_
      refine wistore OGc 45 X0 B d4_43 #[.val (.ref a1), .val (.int (0 : Int32)), .val (.int (4 : Int32)), .val (.long q4), .second, .val (.int (3 : Int32)), .val (.int (3 : Int32)), .val (.int (3 : Int32))] rfl rfl ?_
      refine wgoto OGc 6 X0 B d4_45 rfl ?_
      refine wiload OGc 8 X0 B d4_6 rfl rfl ?_
      refine wiload OGc 10 X0 B d4_8 rfl rfl ?_
      refine wicmpYes OGc 48 X0 B d4_10 (by decide) rfl ?_
      refine wiload OGc 50 X0 B d4_48 rfl rfl ?_
      exact own_retI X0 hx hret hlk (hb hby d4_50) (by decide) (by decide) ⟨congrArg (fun z => some (Value.int z)) (show f4_0_4 q4 v0 v1 v2 v3 = (3 : Int32) from (by rw [f4_0_4, if_pos c2, if_neg c4])).symm, rfl, e0⟩
  · refine wifYes OGc 41 X0 B d4_29 (own_if0 (flt (fun q => c2 ((lw_lt _ _).mp q))).2.1) rfl ?_
    refine wiload OGc 43 X0 B d4_41 rfl rfl ?_
    refine wistore OGc 45 X0 B d4_43 #[.val (.ref a1), .val (.int (0 : Int32)), .val (.int (4 : Int32)), .val (.long q4), .second, .val (.int (0 : Int32)), .val (.int (2 : Int32)), .val (.int (2 : Int32))] rfl rfl ?_
    refine wgoto OGc 6 X0 B d4_45 rfl ?_
    refine wiload OGc 8 X0 B d4_6 rfl rfl ?_
    refine wiload OGc 10 X0 B d4_8 rfl rfl ?_
    refine wicmpNo OGc 13 X0 B d4_10 (by decide) rfl ?_
    refine wiload OGc 15 X0 B d4_13 rfl rfl ?_
    refine wiload OGc 17 X0 B d4_15 rfl rfl ?_
    refine wiadd OGc 18 X0 B d4_17 rfl ?_
    show OG p e _ s below _ s₁ (mkF m 18 #[.val (.ref a1), .val (.int (0 : Int32)), .val (.int (4 : Int32)), .val (.long q4), .second, .val (.int (0 : Int32)), .val (.int (2 : Int32)), .val (.int (2 : Int32))] [(.int (2 : Int32))])
    refine wiconst OGc 19 X0 B d4_18 1 rfl rfl ?_
    refine own_st (fun t k => XS.iushr X0.here hx rfl (hb hby d4_19) rfl k) ?_
    show OG p e _ s below _ s₁ (mkF m 20 #[.val (.ref a1), .val (.int (0 : Int32)), .val (.int (4 : Int32)), .val (.long q4), .second, .val (.int (0 : Int32)), .val (.int (2 : Int32)), .val (.int (2 : Int32))] [(.int (1 : Int32))])
    refine wistore OGc 22 X0 B d4_20 #[.val (.ref a1), .val (.int (0 : Int32)), .val (.int (4 : Int32)), .val (.long q4), .second, .val (.int (0 : Int32)), .val (.int (2 : Int32)), .val (.int (1 : Int32))] rfl rfl ?_
    refine waloadN OGc 23 X0 B d4_22 rfl rfl rfl ?_
    refine wiload OGc 25 X0 B d4_23 rfl rfl ?_
    refine wiaload OGc 26 X0 B hZ e0 R0 (v := (.int v1)) 1 (by decide) (by decide) rfl d4_25 rfl ?_
    refine own_st (fun t k => XS.i2l X0.here hx rfl (hb hby d4_26) rfl k) ?_
    show OG p e _ s below _ s₁ (mkF m 27 #[.val (.ref a1), .val (.int (0 : Int32)), .val (.int (4 : Int32)), .val (.long q4), .second, .val (.int (0 : Int32)), .val (.int (2 : Int32)), .val (.int (1 : Int32))] [(.long (v1.toInt64))])
    refine wlloadN OGc 28 X0 B d4_27 rfl rfl ?_
    refine wlcmp OGc 29 X0 B d4_28 rfl ?_
    by_cases c6 : (v1.toInt64) < q4
    · refine wifNo OGc 32 X0 B d4_29 (own_if0 (tlt ((lw_lt _ _).mpr c6)).2.1) rfl ?_
      refine wiload OGc 34 X0 B d4_32 rfl rfl ?_
      refine wiconst OGc 35 X0 B d4_34 1 rfl rfl ?_
      refine wiadd OGc 36 X0 B d4_35 rfl ?_
      show OG p e _ s below _ s₁ (mkF m 36 #[.val (.ref a1), .val (.int (0 : Int32)), .val (.int (4 : Int32)), .val (.long q4), .second, .val (.int (0 : Int32)), .val (.int (2 : Int32)), .val (.int (1 : Int32))] [(.int (2 : Int32))])
      refine wistore OGc 38 X0 B d4_36 #[.val (.ref a1), .val (.int (0 : Int32)), .val (.int (4 : Int32)), .val (.long q4), .second, .val (.int (2 : Int32)), .val (.int (2 : Int32)), .val (.int (1 : Int32))] rfl rfl ?_
      refine wgoto OGc 45 X0 B d4_38 rfl ?_
      refine wgoto OGc 6 X0 B d4_45 rfl ?_
      refine wiload OGc 8 X0 B d4_6 rfl rfl ?_
      refine wiload OGc 10 X0 B d4_8 rfl rfl ?_
      refine wicmpYes OGc 48 X0 B d4_10 (by decide) rfl ?_
      refine wiload OGc 50 X0 B d4_48 rfl rfl ?_
      exact own_retI X0 hx hret hlk (hb hby d4_50) (by decide) (by decide) ⟨congrArg (fun z => some (Value.int z)) (show f4_0_4 q4 v0 v1 v2 v3 = (2 : Int32) from (by rw [f4_0_4, if_neg c2, if_pos c6])).symm, rfl, e0⟩
    · refine wifYes OGc 41 X0 B d4_29 (own_if0 (flt (fun q => c6 ((lw_lt _ _).mp q))).2.1) rfl ?_
      refine wiload OGc 43 X0 B d4_41 rfl rfl ?_
      refine wistore OGc 45 X0 B d4_43 #[.val (.ref a1), .val (.int (0 : Int32)), .val (.int (4 : Int32)), .val (.long q4), .second, .val (.int (0 : Int32)), .val (.int (1 : Int32)), .val (.int (1 : Int32))] rfl rfl ?_
      refine wgoto OGc 6 X0 B d4_45 rfl ?_
      refine wiload OGc 8 X0 B d4_6 rfl rfl ?_
      refine wiload OGc 10 X0 B d4_8 rfl rfl ?_
      refine wicmpNo OGc 13 X0 B d4_10 (by decide) rfl ?_
      refine wiload OGc 15 X0 B d4_13 rfl rfl ?_
      refine wiload OGc 17 X0 B d4_15 rfl rfl ?_
      refine wiadd OGc 18 X0 B d4_17 rfl ?_
      show OG p e _ s below _ s₁ (mkF m 18 #[.val (.ref a1), .val (.int (0 : Int32)), .val (.int (4 : Int32)), .val (.long q4), .second, .val (.int (0 : Int32)), .val (.int (1 : Int32)), .val (.int (1 : Int32))] [(.int (1 : Int32))])
      refine wiconst OGc 19 X0 B d4_18 1 rfl rfl ?_
      refine own_st (fun t k => XS.iushr X0.here hx rfl (hb hby d4_19) rfl k) ?_
      show OG p e _ s below _ s₁ (mkF m 20 #[.val (.ref a1), .val (.int (0 : Int32)), .val (.int (4 : Int32)), .val (.long q4), .second, .val (.int (0 : Int32)), .val (.int (1 : Int32)), .val (.int (1 : Int32))] [(.int (0 : Int32))])
      refine wistore OGc 22 X0 B d4_20 #[.val (.ref a1), .val (.int (0 : Int32)), .val (.int (4 : Int32)), .val (.long q4), .second, .val (.int (0 : Int32)), .val (.int (1 : Int32)), .val (.int (0 : Int32))] rfl rfl ?_
      refine waloadN OGc 23 X0 B d4_22 rfl rfl rfl ?_
      refine wiload OGc 25 X0 B d4_23 rfl rfl ?_
      refine wiaload OGc 26 X0 B hZ e0 R0 (v := (.int v0)) 0 (by decide) (by decide) rfl d4_25 rfl ?_
      refine own_st (fun t k => XS.i2l X0.here hx rfl (hb hby d4_26) rfl k) ?_
      show OG p e _ s below _ s₁ (mkF m 27 #[.val (.ref a1), .val (.int (0 : Int32)), .val (.int (4 : Int32)), .val (.long q4), .second, .val (.int (0 : Int32)), .val (.int (1 : Int32)), .val (.int (0 : Int32))] [(.long (v0.toInt64))])
      refine wlloadN OGc 28 X0 B d4_27 rfl rfl ?_
      refine wlcmp OGc 29 X0 B d4_28 rfl ?_
      by_cases c8 : (v0.toInt64) < q4
      · refine wifNo OGc 32 X0 B d4_29 (own_if0 (tlt ((lw_lt _ _).mpr c8)).2.1) rfl ?_
        refine wiload OGc 34 X0 B d4_32 rfl rfl ?_
        refine wiconst OGc 35 X0 B d4_34 1 rfl rfl ?_
        refine wiadd OGc 36 X0 B d4_35 rfl ?_
        show OG p e _ s below _ s₁ (mkF m 36 #[.val (.ref a1), .val (.int (0 : Int32)), .val (.int (4 : Int32)), .val (.long q4), .second, .val (.int (0 : Int32)), .val (.int (1 : Int32)), .val (.int (0 : Int32))] [(.int (1 : Int32))])
        refine wistore OGc 38 X0 B d4_36 #[.val (.ref a1), .val (.int (0 : Int32)), .val (.int (4 : Int32)), .val (.long q4), .second, .val (.int (1 : Int32)), .val (.int (1 : Int32)), .val (.int (0 : Int32))] rfl rfl ?_
        refine wgoto OGc 45 X0 B d4_38 rfl ?_
        refine wgoto OGc 6 X0 B d4_45 rfl ?_
        refine wiload OGc 8 X0 B d4_6 rfl rfl ?_
        refine wiload OGc 10 X0 B d4_8 rfl rfl ?_
        refine wicmpYes OGc 48 X0 B d4_10 (by decide) rfl ?_
        refine wiload OGc 50 X0 B d4_48 rfl rfl ?_
        exact own_retI X0 hx hret hlk (hb hby d4_50) (by decide) (by decide) ⟨congrArg (fun z => some (Value.int z)) (show f4_0_4 q4 v0 v1 v2 v3 = (1 : Int32) from (by rw [f4_0_4, if_neg c2, if_neg c6, if_pos c8])).symm, rfl, e0⟩
      · refine wifYes OGc 41 X0 B d4_29 (own_if0 (flt (fun q => c8 ((lw_lt _ _).mp q))).2.1) rfl ?_
        refine wiload OGc 43 X0 B d4_41 rfl rfl ?_
        refine wistore OGc 45 X0 B d4_43 #[.val (.ref a1), .val (.int (0 : Int32)), .val (.int (4 : Int32)), .val (.long q4), .second, .val (.int (0 : Int32)), .val (.int (0 : Int32)), .val (.int (0 : Int32))] rfl rfl ?_
        refine wgoto OGc 6 X0 B d4_45 rfl ?_
        refine wiload OGc 8 X0 B d4_6 rfl rfl ?_
        refine wiload OGc 10 X0 B d4_8 rfl rfl ?_
        refine wicmpYes OGc 48 X0 B d4_10 (by decide) rfl ?_
        refine wiload OGc 50 X0 B d4_48 rfl rfl ?_
        exact own_retI X0 hx hret hlk (hb hby d4_50) (by decide) (by decide) ⟨congrArg (fun z => some (Value.int z)) (show f4_0_4 q4 v0 v1 v2 v3 = (0 : Int32) from (by rw [f4_0_4, if_neg c2, if_neg c6, if_neg c8])).symm, rfl, e0⟩
def f4_1_1 (q4 : Int64) (v0 : Int32) (v1 : Int32) (v2 : Int32) (v3 : Int32) : Int32 := (1 : Int32)
theorem ef_4_1_1 (m : MethodId) (a1 : Addr) (q4 : Int64) : entryFrame m #[(.ref a1), (.int (1 : Int32)), (.int (1 : Int32)), (.long q4)] 8 = (mkF m 0 #[.val (.ref a1), .val (.int (1 : Int32)), .val (.int (1 : Int32)), .val (.long q4), .second, .unset, .unset, .unset] []) := by first | (simp [entryFrame, mkF, argsToLocals, Value.category]; done) | rfl
abbrev Q4_1_1 (Z : State) (a1 : Addr) (q4 : Int64) (v0 : Int32) (v1 : Int32) (v2 : Int32) (v3 : Int32) (h0 : Heap)  : Option Value → Heap → List Loc → Prop := (fun v h L => v = some (.int (f4_1_1 q4 v0 v1 v2 v3)) ∧ L = [] ∧ h = h0)
set_option maxRecDepth 65536 in
set_option maxHeartbeats 40000000 in
theorem rm4_1_1 (l : Launch) (Z : State) (a0 : Array Value) (hw : ∀ d ∈ tables_1, d.before a0 Z = true) (ws : List Jvm.Cond) (a1 : Addr) (q4 : Int64) (v0 : Int32) (v1 : Int32) (v2 : Int32) (v3 : Int32) (h0 : Heap) (R0 : OA Z h0 a1 .int [(.int v0), (.int v1), (.int v2), (.int v3)]) :
    OMet l Z (⟨"com/example/fragmark/fragmark/TermTokens", "indexFrom", "([IIIJ)I"⟩ : MethodName) prog_44_method_10_code 8 (some .int) ws ({ frames := 0, cells := 0, slots := 0, locals := 0 } : Room) #[(.ref a1), (.int (1 : Int32)), (.int (1 : Int32)), (.long q4)] h0 (Q4_1_1 Z a1 q4 v0 v1 v2 v3 h0) := by
  refine own_enter pn_4 ?_
  intro p e s m below meth c s₁ hx hby hml0 hown hret hlk hnm hZ X0 e0
  have hml : c.maxLocals = 8 := hml0
  have B : BX p c prog_44_method_10_code := ⟨hx, hby⟩
  refine own_cast (ef_4_1_1 m a1 q4) ?_
  show OG p e ({ frames := 0, cells := 0, slots := 0, locals := 0 } : Room) s below (fun v h L => v = some (.int (f4_1_1 q4 v0 v1 v2 v3)) ∧ L = [] ∧ h = h0) s₁ (mkF m 0 #[.val (.ref a1), .val (.int (1 : Int32)), .val (.int (1 : Int32)), .val (.long q4), .second, .unset, .unset, .unset] [])
  refine wiloadN OGc 1 X0 B d4_0 rfl rfl ?_
  refine wistore OGc 3 X0 B d4_1 #[.val (.ref a1), .val (.int (1 : Int32)), .val (.int (1 : Int32)), .val (.long q4), .second, .val (.int (1 : Int32)), .unset, .unset] rfl rfl ?_
  refine wiloadN OGc 4 X0 B d4_3 rfl rfl ?_
  refine wistore OGc 6 X0 B d4_4 #[.val (.ref a1), .val (.int (1 : Int32)), .val (.int (1 : Int32)), .val (.long q4), .second, .val (.int (1 : Int32)), .val (.int (1 : Int32)), .unset] rfl rfl ?_
  refine wiload OGc 8 X0 B d4_6 rfl rfl ?_
  refine wiload OGc 10 X0 B d4_8 rfl rfl ?_
  refine wicmpYes OGc 48 X0 B d4_10 (by decide) rfl ?_
  refine wiload OGc 50 X0 B d4_48 rfl rfl ?_
  exact own_retI X0 hx hret hlk (hb hby d4_50) (by decide) (by decide) ⟨congrArg (fun z => some (Value.int z)) (show f4_1_1 q4 v0 v1 v2 v3 = (1 : Int32) from (by rw [f4_1_1])).symm, rfl, e0⟩
def f4_1_2 (q4 : Int64) (v0 : Int32) (v1 : Int32) (v2 : Int32) (v3 : Int32) : Int32 := (if (v1.toInt64) < q4 then (2 : Int32) else (1 : Int32))
theorem ef_4_1_2 (m : MethodId) (a1 : Addr) (q4 : Int64) : entryFrame m #[(.ref a1), (.int (1 : Int32)), (.int (2 : Int32)), (.long q4)] 8 = (mkF m 0 #[.val (.ref a1), .val (.int (1 : Int32)), .val (.int (2 : Int32)), .val (.long q4), .second, .unset, .unset, .unset] []) := by first | (simp [entryFrame, mkF, argsToLocals, Value.category]; done) | rfl
abbrev Q4_1_2 (Z : State) (a1 : Addr) (q4 : Int64) (v0 : Int32) (v1 : Int32) (v2 : Int32) (v3 : Int32) (h0 : Heap)  : Option Value → Heap → List Loc → Prop := (fun v h L => v = some (.int (f4_1_2 q4 v0 v1 v2 v3)) ∧ L = [] ∧ h = h0)
set_option maxRecDepth 65536 in
set_option maxHeartbeats 40000000 in
theorem rm4_1_2 (l : Launch) (Z : State) (a0 : Array Value) (hw : ∀ d ∈ tables_1, d.before a0 Z = true) (ws : List Jvm.Cond) (a1 : Addr) (q4 : Int64) (v0 : Int32) (v1 : Int32) (v2 : Int32) (v3 : Int32) (h0 : Heap) (R0 : OA Z h0 a1 .int [(.int v0), (.int v1), (.int v2), (.int v3)]) :
    OMet l Z (⟨"com/example/fragmark/fragmark/TermTokens", "indexFrom", "([IIIJ)I"⟩ : MethodName) prog_44_method_10_code 8 (some .int) ws ({ frames := 0, cells := 0, slots := 0, locals := 0 } : Room) #[(.ref a1), (.int (1 : Int32)), (.int (2 : Int32)), (.long q4)] h0 (Q4_1_2 Z a1 q4 v0 v1 v2 v3 h0) := by
  refine own_enter pn_4 ?_
  intro p e s m below meth c s₁ hx hby hml0 hown hret hlk hnm hZ X0 e0
  have hml : c.maxLocals = 8 := hml0
  have B : BX p c prog_44_method_10_code := ⟨hx, hby⟩
  refine own_cast (ef_4_1_2 m a1 q4) ?_
  show OG p e ({ frames := 0, cells := 0, slots := 0, locals := 0 } : Room) s below (fun v h L => v = some (.int (f4_1_2 q4 v0 v1 v2 v3)) ∧ L = [] ∧ h = h0) s₁ (mkF m 0 #[.val (.ref a1), .val (.int (1 : Int32)), .val (.int (2 : Int32)), .val (.long q4), .second, .unset, .unset, .unset] [])
  refine wiloadN OGc 1 X0 B d4_0 rfl rfl ?_
  refine wistore OGc 3 X0 B d4_1 #[.val (.ref a1), .val (.int (1 : Int32)), .val (.int (2 : Int32)), .val (.long q4), .second, .val (.int (1 : Int32)), .unset, .unset] rfl rfl ?_
  refine wiloadN OGc 4 X0 B d4_3 rfl rfl ?_
  refine wistore OGc 6 X0 B d4_4 #[.val (.ref a1), .val (.int (1 : Int32)), .val (.int (2 : Int32)), .val (.long q4), .second, .val (.int (1 : Int32)), .val (.int (2 : Int32)), .unset] rfl rfl ?_
  refine wiload OGc 8 X0 B d4_6 rfl rfl ?_
  refine wiload OGc 10 X0 B d4_8 rfl rfl ?_
  refine wicmpNo OGc 13 X0 B d4_10 (by decide) rfl ?_
  refine wiload OGc 15 X0 B d4_13 rfl rfl ?_
  refine wiload OGc 17 X0 B d4_15 rfl rfl ?_
  refine wiadd OGc 18 X0 B d4_17 rfl ?_
  show OG p e _ s below _ s₁ (mkF m 18 #[.val (.ref a1), .val (.int (1 : Int32)), .val (.int (2 : Int32)), .val (.long q4), .second, .val (.int (1 : Int32)), .val (.int (2 : Int32)), .unset] [(.int (3 : Int32))])
  refine wiconst OGc 19 X0 B d4_18 1 rfl rfl ?_
  refine own_st (fun t k => XS.iushr X0.here hx rfl (hb hby d4_19) rfl k) ?_
  show OG p e _ s below _ s₁ (mkF m 20 #[.val (.ref a1), .val (.int (1 : Int32)), .val (.int (2 : Int32)), .val (.long q4), .second, .val (.int (1 : Int32)), .val (.int (2 : Int32)), .unset] [(.int (1 : Int32))])
  refine wistore OGc 22 X0 B d4_20 #[.val (.ref a1), .val (.int (1 : Int32)), .val (.int (2 : Int32)), .val (.long q4), .second, .val (.int (1 : Int32)), .val (.int (2 : Int32)), .val (.int (1 : Int32))] rfl rfl ?_
  refine waloadN OGc 23 X0 B d4_22 rfl rfl rfl ?_
  refine wiload OGc 25 X0 B d4_23 rfl rfl ?_
  refine wiaload OGc 26 X0 B hZ e0 R0 (v := (.int v1)) 1 (by decide) (by decide) rfl d4_25 rfl ?_
  refine own_st (fun t k => XS.i2l X0.here hx rfl (hb hby d4_26) rfl k) ?_
  show OG p e _ s below _ s₁ (mkF m 27 #[.val (.ref a1), .val (.int (1 : Int32)), .val (.int (2 : Int32)), .val (.long q4), .second, .val (.int (1 : Int32)), .val (.int (2 : Int32)), .val (.int (1 : Int32))] [(.long (v1.toInt64))])
  refine wlloadN OGc 28 X0 B d4_27 rfl rfl ?_
  refine wlcmp OGc 29 X0 B d4_28 rfl ?_
  by_cases c2 : (v1.toInt64) < q4
  · refine wifNo OGc 32 X0 B d4_29 (own_if0 (tlt ((lw_lt _ _).mpr c2)).2.1) rfl ?_
    refine wiload OGc 34 X0 B d4_32 rfl rfl ?_
    refine wiconst OGc 35 X0 B d4_34 1 rfl rfl ?_
    refine wiadd OGc 36 X0 B d4_35 rfl ?_
    show OG p e _ s below _ s₁ (mkF m 36 #[.val (.ref a1), .val (.int (1 : Int32)), .val (.int (2 : Int32)), .val (.long q4), .second, .val (.int (1 : Int32)), .val (.int (2 : Int32)), .val (.int (1 : Int32))] [(.int (2 : Int32))])
    refine wistore OGc 38 X0 B d4_36 #[.val (.ref a1), .val (.int (1 : Int32)), .val (.int (2 : Int32)), .val (.long q4), .second, .val (.int (2 : Int32)), .val (.int (2 : Int32)), .val (.int (1 : Int32))] rfl rfl ?_
    refine wgoto OGc 45 X0 B d4_38 rfl ?_
    refine wgoto OGc 6 X0 B d4_45 rfl ?_
    refine wiload OGc 8 X0 B d4_6 rfl rfl ?_
    refine wiload OGc 10 X0 B d4_8 rfl rfl ?_
    refine wicmpYes OGc 48 X0 B d4_10 (by decide) rfl ?_
    refine wiload OGc 50 X0 B d4_48 rfl rfl ?_
    exact own_retI X0 hx hret hlk (hb hby d4_50) (by decide) (by decide) ⟨congrArg (fun z => some (Value.int z)) (show f4_1_2 q4 v0 v1 v2 v3 = (2 : Int32) from (by rw [f4_1_2, if_pos c2])).symm, rfl, e0⟩
  · refine wifYes OGc 41 X0 B d4_29 (own_if0 (flt (fun q => c2 ((lw_lt _ _).mp q))).2.1) rfl ?_
    refine wiload OGc 43 X0 B d4_41 rfl rfl ?_
    refine wistore OGc 45 X0 B d4_43 #[.val (.ref a1), .val (.int (1 : Int32)), .val (.int (2 : Int32)), .val (.long q4), .second, .val (.int (1 : Int32)), .val (.int (1 : Int32)), .val (.int (1 : Int32))] rfl rfl ?_
    refine wgoto OGc 6 X0 B d4_45 rfl ?_
    refine wiload OGc 8 X0 B d4_6 rfl rfl ?_
    refine wiload OGc 10 X0 B d4_8 rfl rfl ?_
    refine wicmpYes OGc 48 X0 B d4_10 (by decide) rfl ?_
    refine wiload OGc 50 X0 B d4_48 rfl rfl ?_
    exact own_retI X0 hx hret hlk (hb hby d4_50) (by decide) (by decide) ⟨congrArg (fun z => some (Value.int z)) (show f4_1_2 q4 v0 v1 v2 v3 = (1 : Int32) from (by rw [f4_1_2, if_neg c2])).symm, rfl, e0⟩
def f4_1_3 (q4 : Int64) (v0 : Int32) (v1 : Int32) (v2 : Int32) (v3 : Int32) : Int32 := (if (v2.toInt64) < q4 then (3 : Int32) else (if (v1.toInt64) < q4 then (2 : Int32) else (1 : Int32)))
theorem ef_4_1_3 (m : MethodId) (a1 : Addr) (q4 : Int64) : entryFrame m #[(.ref a1), (.int (1 : Int32)), (.int (3 : Int32)), (.long q4)] 8 = (mkF m 0 #[.val (.ref a1), .val (.int (1 : Int32)), .val (.int (3 : Int32)), .val (.long q4), .second, .unset, .unset, .unset] []) := by first | (simp [entryFrame, mkF, argsToLocals, Value.category]; done) | rfl
abbrev Q4_1_3 (Z : State) (a1 : Addr) (q4 : Int64) (v0 : Int32) (v1 : Int32) (v2 : Int32) (v3 : Int32) (h0 : Heap)  : Option Value → Heap → List Loc → Prop := (fun v h L => v = some (.int (f4_1_3 q4 v0 v1 v2 v3)) ∧ L = [] ∧ h = h0)
set_option maxRecDepth 65536 in
set_option maxHeartbeats 40000000 in
theorem rm4_1_3 (l : Launch) (Z : State) (a0 : Array Value) (hw : ∀ d ∈ tables_1, d.before a0 Z = true) (ws : List Jvm.Cond) (a1 : Addr) (q4 : Int64) (v0 : Int32) (v1 : Int32) (v2 : Int32) (v3 : Int32) (h0 : Heap) (R0 : OA Z h0 a1 .int [(.int v0), (.int v1), (.int v2), (.int v3)]) :
    OMet l Z (⟨"com/example/fragmark/fragmark/TermTokens", "indexFrom", "([IIIJ)I"⟩ : MethodName) prog_44_method_10_code 8 (some .int) ws ({ frames := 0, cells := 0, slots := 0, locals := 0 } : Room) #[(.ref a1), (.int (1 : Int32)), (.int (3 : Int32)), (.long q4)] h0 (Q4_1_3 Z a1 q4 v0 v1 v2 v3 h0) := by
  refine own_enter pn_4 ?_
  intro p e s m below meth c s₁ hx hby hml0 hown hret hlk hnm hZ X0 e0
  have hml : c.maxLocals = 8 := hml0
  have B : BX p c prog_44_method_10_code := ⟨hx, hby⟩
  refine own_cast (ef_4_1_3 m a1 q4) ?_
  show OG p e ({ frames := 0, cells := 0, slots := 0, locals := 0 } : Room) s below (fun v h L => v = some (.int (f4_1_3 q4 v0 v1 v2 v3)) ∧ L = [] ∧ h = h0) s₁ (mkF m 0 #[.val (.ref a1), .val (.int (1 : Int32)), .val (.int (3 : Int32)), .val (.long q4), .second, .unset, .unset, .unset] [])
  refine wiloadN OGc 1 X0 B d4_0 rfl rfl ?_
  refine wistore OGc 3 X0 B d4_1 #[.val (.ref a1), .val (.int (1 : Int32)), .val (.int (3 : Int32)), .val (.long q4), .second, .val (.int (1 : Int32)), .unset, .unset] rfl rfl ?_
  refine wiloadN OGc 4 X0 B d4_3 rfl rfl ?_
  refine wistore OGc 6 X0 B d4_4 #[.val (.ref a1), .val (.int (1 : Int32)), .val (.int (3 : Int32)), .val (.long q4), .second, .val (.int (1 : Int32)), .val (.int (3 : Int32)), .unset] rfl rfl ?_
  refine wiload OGc 8 X0 B d4_6 rfl rfl ?_
  refine wiload OGc 10 X0 B d4_8 rfl rfl ?_
  refine wicmpNo OGc 13 X0 B d4_10 (by decide) rfl ?_
  refine wiload OGc 15 X0 B d4_13 rfl rfl ?_
  refine wiload OGc 17 X0 B d4_15 rfl rfl ?_
  refine wiadd OGc 18 X0 B d4_17 rfl ?_
  show OG p e _ s below _ s₁ (mkF m 18 #[.val (.ref a1), .val (.int (1 : Int32)), .val (.int (3 : Int32)), .val (.long q4), .second, .val (.int (1 : Int32)), .val (.int (3 : Int32)), .unset] [(.int (4 : Int32))])
  refine wiconst OGc 19 X0 B d4_18 1 rfl rfl ?_
  refine own_st (fun t k => XS.iushr X0.here hx rfl (hb hby d4_19) rfl k) ?_
  show OG p e _ s below _ s₁ (mkF m 20 #[.val (.ref a1), .val (.int (1 : Int32)), .val (.int (3 : Int32)), .val (.long q4), .second, .val (.int (1 : Int32)), .val (.int (3 : Int32)), .unset] [(.int (2 : Int32))])
  refine wistore OGc 22 X0 B d4_20 #[.val (.ref a1), .val (.int (1 : Int32)), .val (.int (3 : Int32)), .val (.long q4), .second, .val (.int (1 : Int32)), .val (.int (3 : Int32)), .val (.int (2 : Int32))] rfl rfl ?_
  refine waloadN OGc 23 X0 B d4_22 rfl rfl rfl ?_
  refine wiload OGc 25 X0 B d4_23 rfl rfl ?_
  refine wiaload OGc 26 X0 B hZ e0 R0 (v := (.int v2)) 2 (by decide) (by decide) rfl d4_25 rfl ?_
  refine own_st (fun t k => XS.i2l X0.here hx rfl (hb hby d4_26) rfl k) ?_
  show OG p e _ s below _ s₁ (mkF m 27 #[.val (.ref a1), .val (.int (1 : Int32)), .val (.int (3 : Int32)), .val (.long q4), .second, .val (.int (1 : Int32)), .val (.int (3 : Int32)), .val (.int (2 : Int32))] [(.long (v2.toInt64))])
  refine wlloadN OGc 28 X0 B d4_27 rfl rfl ?_
  refine wlcmp OGc 29 X0 B d4_28 rfl ?_
  by_cases c2 : (v2.toInt64) < q4
  · refine wifNo OGc 32 X0 B d4_29 (own_if0 (tlt ((lw_lt _ _).mpr c2)).2.1) rfl ?_
    refine wiload OGc 34 X0 B d4_32 rfl rfl ?_
    refine wiconst OGc 35 X0 B d4_34 1 rfl rfl ?_
    refine wiadd OGc 36 X0 B d4_35 rfl ?_
    show OG p e _ s below _ s₁ (mkF m 36 #[.val (.ref a1), .val (.int (1 : Int32)), .val (.int (3 : Int32)), .val (.long q4), .second, .val (.int (1 : Int32)), .val (.int (3 : Int32)), .val (.int (2 : Int32))] [(.int (3 : Int32))])
    refine wistore OGc 38 X0 B d4_36 #[.val (.ref a1), .val (.int (1 : Int32)), .val (.int (3 : Int32)), .val (.long q4), .second, .val (.int (3 : Int32)), .val (.int (3 : Int32)), .val (.int (2 : Int32))] rfl rfl ?_
    refine wgoto OGc 45 X0 B d4_38 rfl ?_
    refine wgoto OGc 6 X0 B d4_45 rfl ?_
    refine wiload OGc 8 X0 B d4_6 rfl rfl ?_
    refine wiload OGc 10 X0 B d4_8 rfl rfl ?_
    refine wicmpYes OGc 48 X0 B d4_10 (by decide) rfl ?_
    refine wiload OGc 50 X0 B d4_48 rfl rfl ?_
    exact own_retI X0 hx hret hlk (hb hby d4_50) (by decide) (by decide) ⟨congrArg (fun z => some (Value.int z)) (show f4_1_3 q4 v0 v1 v2 v3 = (3 : Int32) from (by rw [f4_1_3, if_pos c2])).symm, rfl, e0⟩
  · refine wifYes OGc 41 X0 B d4_29 (own_if0 (flt (fun q => c2 ((lw_lt _ _).mp q))).2.1) rfl ?_
    refine wiload OGc 43 X0 B d4_41 rfl rfl ?_
    refine wistore OGc 45 X0 B d4_43 #[.val (.ref a1), .val (.int (1 : Int32)), .val (.int (3 : Int32)), .val (.long q4), .second, .val (.int (1 : Int32)), .val (.int (2 : Int32)), .val (.int (2 : Int32))] rfl rfl ?_
    refine wgoto OGc 6 X0 B d4_45 rfl ?_
    refine wiload OGc 8 X0 B d4_6 rfl rfl ?_
    refine wiload OGc 10 X0 B d4_8 rfl rfl ?_
    refine wicmpNo OGc 13 X0 B d4_10 (by decide) rfl ?_
    refine wiload OGc 15 X0 B d4_13 rfl rfl ?_
    refine wiload OGc 17 X0 B d4_15 rfl rfl ?_
    refine wiadd OGc 18 X0 B d4_17 rfl ?_
    show OG p e _ s below _ s₁ (mkF m 18 #[.val (.ref a1), .val (.int (1 : Int32)), .val (.int (3 : Int32)), .val (.long q4), .second, .val (.int (1 : Int32)), .val (.int (2 : Int32)), .val (.int (2 : Int32))] [(.int (3 : Int32))])
    refine wiconst OGc 19 X0 B d4_18 1 rfl rfl ?_
    refine own_st (fun t k => XS.iushr X0.here hx rfl (hb hby d4_19) rfl k) ?_
    show OG p e _ s below _ s₁ (mkF m 20 #[.val (.ref a1), .val (.int (1 : Int32)), .val (.int (3 : Int32)), .val (.long q4), .second, .val (.int (1 : Int32)), .val (.int (2 : Int32)), .val (.int (2 : Int32))] [(.int (1 : Int32))])
    refine wistore OGc 22 X0 B d4_20 #[.val (.ref a1), .val (.int (1 : Int32)), .val (.int (3 : Int32)), .val (.long q4), .second, .val (.int (1 : Int32)), .val (.int (2 : Int32)), .val (.int (1 : Int32))] rfl rfl ?_
    refine waloadN OGc 23 X0 B d4_22 rfl rfl rfl ?_
    refine wiload OGc 25 X0 B d4_23 rfl rfl ?_
    refine wiaload OGc 26 X0 B hZ e0 R0 (v := (.int v1)) 1 (by decide) (by decide) rfl d4_25 rfl ?_
    refine own_st (fun t k => XS.i2l X0.here hx rfl (hb hby d4_26) rfl k) ?_
    show OG p e _ s below _ s₁ (mkF m 27 #[.val (.ref a1), .val (.int (1 : Int32)), .val (.int (3 : Int32)), .val (.long q4), .second, .val (.int (1 : Int32)), .val (.int (2 : Int32)), .val (.int (1 : Int32))] [(.long (v1.toInt64))])
    refine wlloadN OGc 28 X0 B d4_27 rfl rfl ?_
    refine wlcmp OGc 29 X0 B d4_28 rfl ?_
    by_cases c4 : (v1.toInt64) < q4
    · refine wifNo OGc 32 X0 B d4_29 (own_if0 (tlt ((lw_lt _ _).mpr c4)).2.1) rfl ?_
      refine wiload OGc 34 X0 B d4_32 rfl rfl ?_
      refine wiconst OGc 35 X0 B d4_34 1 rfl rfl ?_
      refine wiadd OGc 36 X0 B d4_35 rfl ?_
      show OG p e _ s below _ s₁ (mkF m 36 #[.val (.ref a1), .val (.int (1 : Int32)), .val (.int (3 : Int32)), .val (.long q4), .second, .val (.int (1 : Int32)), .val (.int (2 : Int32)), .val (.int (1 : Int32))] [(.int (2 : Int32))])
      refine wistore OGc 38 X0 B d4_36 #[.val (.ref a1), .val (.int (1 : Int32)), .val (.int (3 : Int32)), .val (.long q4), .second, .val (.int (2 : Int32)), .val (.int (2 : Int32)), .val (.int (1 : Int32))] rfl rfl ?_
      refine wgoto OGc 45 X0 B d4_38 rfl ?_
      refine wgoto OGc 6 X0 B d4_45 rfl ?_
      refine wiload OGc 8 X0 B d4_6 rfl rfl ?_
      refine wiload OGc 10 X0 B d4_8 rfl rfl ?_
      refine wicmpYes OGc 48 X0 B d4_10 (by decide) rfl ?_
      refine wiload OGc 50 X0 B d4_48 rfl rfl ?_
      exact own_retI X0 hx hret hlk (hb hby d4_50) (by decide) (by decide) ⟨congrArg (fun z => some (Value.int z)) (show f4_1_3 q4 v0 v1 v2 v3 = (2 : Int32) from (by rw [f4_1_3, if_neg c2, if_pos c4])).symm, rfl, e0⟩
    · refine wifYes OGc 41 X0 B d4_29 (own_if0 (flt (fun q => c4 ((lw_lt _ _).mp q))).2.1) rfl ?_
      refine wiload OGc 43 X0 B d4_41 rfl rfl ?_
      refine wistore OGc 45 X0 B d4_43 #[.val (.ref a1), .val (.int (1 : Int32)), .val (.int (3 : Int32)), .val (.long q4), .second, .val (.int (1 : Int32)), .val (.int (1 : Int32)), .val (.int (1 : Int32))] rfl rfl ?_
      refine wgoto OGc 6 X0 B d4_45 rfl ?_
      refine wiload OGc 8 X0 B d4_6 rfl rfl ?_
      refine wiload OGc 10 X0 B d4_8 rfl rfl ?_
      refine wicmpYes OGc 48 X0 B d4_10 (by decide) rfl ?_
      refine wiload OGc 50 X0 B d4_48 rfl rfl ?_
      exact own_retI X0 hx hret hlk (hb hby d4_50) (by decide) (by decide) ⟨congrArg (fun z => some (Value.int z)) (show f4_1_3 q4 v0 v1 v2 v3 = (1 : Int32) from (by rw [f4_1_3, if_neg c2, if_neg c4])).symm, rfl, e0⟩
def f4_1_4 (q4 : Int64) (v0 : Int32) (v1 : Int32) (v2 : Int32) (v3 : Int32) : Int32 := (if (v2.toInt64) < q4 then (if (v3.toInt64) < q4 then (4 : Int32) else (3 : Int32)) else (if (v1.toInt64) < q4 then (2 : Int32) else (1 : Int32)))
theorem ef_4_1_4 (m : MethodId) (a1 : Addr) (q4 : Int64) : entryFrame m #[(.ref a1), (.int (1 : Int32)), (.int (4 : Int32)), (.long q4)] 8 = (mkF m 0 #[.val (.ref a1), .val (.int (1 : Int32)), .val (.int (4 : Int32)), .val (.long q4), .second, .unset, .unset, .unset] []) := by first | (simp [entryFrame, mkF, argsToLocals, Value.category]; done) | rfl
abbrev Q4_1_4 (Z : State) (a1 : Addr) (q4 : Int64) (v0 : Int32) (v1 : Int32) (v2 : Int32) (v3 : Int32) (h0 : Heap)  : Option Value → Heap → List Loc → Prop := (fun v h L => v = some (.int (f4_1_4 q4 v0 v1 v2 v3)) ∧ L = [] ∧ h = h0)
set_option maxRecDepth 65536 in
set_option maxHeartbeats 40000000 in
theorem rm4_1_4 (l : Launch) (Z : State) (a0 : Array Value) (hw : ∀ d ∈ tables_1, d.before a0 Z = true) (ws : List Jvm.Cond) (a1 : Addr) (q4 : Int64) (v0 : Int32) (v1 : Int32) (v2 : Int32) (v3 : Int32) (h0 : Heap) (R0 : OA Z h0 a1 .int [(.int v0), (.int v1), (.int v2), (.int v3)]) :
    OMet l Z (⟨"com/example/fragmark/fragmark/TermTokens", "indexFrom", "([IIIJ)I"⟩ : MethodName) prog_44_method_10_code 8 (some .int) ws ({ frames := 0, cells := 0, slots := 0, locals := 0 } : Room) #[(.ref a1), (.int (1 : Int32)), (.int (4 : Int32)), (.long q4)] h0 (Q4_1_4 Z a1 q4 v0 v1 v2 v3 h0) := by
  refine own_enter pn_4 ?_
  intro p e s m below meth c s₁ hx hby hml0 hown hret hlk hnm hZ X0 e0
  have hml : c.maxLocals = 8 := hml0
  have B : BX p c prog_44_method_10_code := ⟨hx, hby⟩
  refine own_cast (ef_4_1_4 m a1 q4) ?_
  show OG p e ({ frames := 0, cells := 0, slots := 0, locals := 0 } : Room) s below (fun v h L => v = some (.int (f4_1_4 q4 v0 v1 v2 v3)) ∧ L = [] ∧ h = h0) s₁ (mkF m 0 #[.val (.ref a1), .val (.int (1 : Int32)), .val (.int (4 : Int32)), .val (.long q4), .second, .unset, .unset, .unset] [])
  refine wiloadN OGc 1 X0 B d4_0 rfl rfl ?_
  refine wistore OGc 3 X0 B d4_1 #[.val (.ref a1), .val (.int (1 : Int32)), .val (.int (4 : Int32)), .val (.long q4), .second, .val (.int (1 : Int32)), .unset, .unset] rfl rfl ?_
  refine wiloadN OGc 4 X0 B d4_3 rfl rfl ?_
  refine wistore OGc 6 X0 B d4_4 #[.val (.ref a1), .val (.int (1 : Int32)), .val (.int (4 : Int32)), .val (.long q4), .second, .val (.int (1 : Int32)), .val (.int (4 : Int32)), .unset] rfl rfl ?_
  refine wiload OGc 8 X0 B d4_6 rfl rfl ?_
  refine wiload OGc 10 X0 B d4_8 rfl rfl ?_
  refine wicmpNo OGc 13 X0 B d4_10 (by decide) rfl ?_
  refine wiload OGc 15 X0 B d4_13 rfl rfl ?_
  refine wiload OGc 17 X0 B d4_15 rfl rfl ?_
  refine wiadd OGc 18 X0 B d4_17 rfl ?_
  show OG p e _ s below _ s₁ (mkF m 18 #[.val (.ref a1), .val (.int (1 : Int32)), .val (.int (4 : Int32)), .val (.long q4), .second, .val (.int (1 : Int32)), .val (.int (4 : Int32)), .unset] [(.int (5 : Int32))])
  refine wiconst OGc 19 X0 B d4_18 1 rfl rfl ?_
  refine own_st (fun t k => XS.iushr X0.here hx rfl (hb hby d4_19) rfl k) ?_
  show OG p e _ s below _ s₁ (mkF m 20 #[.val (.ref a1), .val (.int (1 : Int32)), .val (.int (4 : Int32)), .val (.long q4), .second, .val (.int (1 : Int32)), .val (.int (4 : Int32)), .unset] [(.int (2 : Int32))])
  refine wistore OGc 22 X0 B d4_20 #[.val (.ref a1), .val (.int (1 : Int32)), .val (.int (4 : Int32)), .val (.long q4), .second, .val (.int (1 : Int32)), .val (.int (4 : Int32)), .val (.int (2 : Int32))] rfl rfl ?_
  refine waloadN OGc 23 X0 B d4_22 rfl rfl rfl ?_
  refine wiload OGc 25 X0 B d4_23 rfl rfl ?_
  refine wiaload OGc 26 X0 B hZ e0 R0 (v := (.int v2)) 2 (by decide) (by decide) rfl d4_25 rfl ?_
  refine own_st (fun t k => XS.i2l X0.here hx rfl (hb hby d4_26) rfl k) ?_
  show OG p e _ s below _ s₁ (mkF m 27 #[.val (.ref a1), .val (.int (1 : Int32)), .val (.int (4 : Int32)), .val (.long q4), .second, .val (.int (1 : Int32)), .val (.int (4 : Int32)), .val (.int (2 : Int32))] [(.long (v2.toInt64))])
  refine wlloadN OGc 28 X0 B d4_27 rfl rfl ?_
  refine wlcmp OGc 29 X0 B d4_28 rfl ?_
  by_cases c2 : (v2.toInt64) < q4
  · refine wifNo OGc 32 X0 B d4_29 (own_if0 (tlt ((lw_lt _ _).mpr c2)).2.1) rfl ?_
    refine wiload OGc 34 X0 B d4_32 rfl rfl ?_
    refine wiconst OGc 35 X0 B d4_34 1 rfl rfl ?_
    refine wiadd OGc 36 X0 B d4_35 rfl ?_
    show OG p e _ s below _ s₁ (mkF m 36 #[.val (.ref a1), .val (.int (1 : Int32)), .val (.int (4 : Int32)), .val (.long q4), .second, .val (.int (1 : Int32)), .val (.int (4 : Int32)), .val (.int (2 : Int32))] [(.int (3 : Int32))])
    refine wistore OGc 38 X0 B d4_36 #[.val (.ref a1), .val (.int (1 : Int32)), .val (.int (4 : Int32)), .val (.long q4), .second, .val (.int (3 : Int32)), .val (.int (4 : Int32)), .val (.int (2 : Int32))] rfl rfl ?_
    refine wgoto OGc 45 X0 B d4_38 rfl ?_
    refine wgoto OGc 6 X0 B d4_45 rfl ?_
    refine wiload OGc 8 X0 B d4_6 rfl rfl ?_
    refine wiload OGc 10 X0 B d4_8 rfl rfl ?_
    refine wicmpNo OGc 13 X0 B d4_10 (by decide) rfl ?_
    refine wiload OGc 15 X0 B d4_13 rfl rfl ?_
    refine wiload OGc 17 X0 B d4_15 rfl rfl ?_
    refine wiadd OGc 18 X0 B d4_17 rfl ?_
    show OG p e _ s below _ s₁ (mkF m 18 #[.val (.ref a1), .val (.int (1 : Int32)), .val (.int (4 : Int32)), .val (.long q4), .second, .val (.int (3 : Int32)), .val (.int (4 : Int32)), .val (.int (2 : Int32))] [(.int (7 : Int32))])
    refine wiconst OGc 19 X0 B d4_18 1 rfl rfl ?_
    refine own_st (fun t k => XS.iushr X0.here hx rfl (hb hby d4_19) rfl k) ?_
    show OG p e _ s below _ s₁ (mkF m 20 #[.val (.ref a1), .val (.int (1 : Int32)), .val (.int (4 : Int32)), .val (.long q4), .second, .val (.int (3 : Int32)), .val (.int (4 : Int32)), .val (.int (2 : Int32))] [(.int (3 : Int32))])
    refine wistore OGc 22 X0 B d4_20 #[.val (.ref a1), .val (.int (1 : Int32)), .val (.int (4 : Int32)), .val (.long q4), .second, .val (.int (3 : Int32)), .val (.int (4 : Int32)), .val (.int (3 : Int32))] rfl rfl ?_
    refine waloadN OGc 23 X0 B d4_22 rfl rfl rfl ?_
    refine wiload OGc 25 X0 B d4_23 rfl rfl ?_
    refine wiaload OGc 26 X0 B hZ e0 R0 (v := (.int v3)) 3 (by decide) (by decide) rfl d4_25 rfl ?_
    refine own_st (fun t k => XS.i2l X0.here hx rfl (hb hby d4_26) rfl k) ?_
    show OG p e _ s below _ s₁ (mkF m 27 #[.val (.ref a1), .val (.int (1 : Int32)), .val (.int (4 : Int32)), .val (.long q4), .second, .val (.int (3 : Int32)), .val (.int (4 : Int32)), .val (.int (3 : Int32))] [(.long (v3.toInt64))])
    refine wlloadN OGc 28 X0 B d4_27 rfl rfl ?_
    refine wlcmp OGc 29 X0 B d4_28 rfl ?_
    by_cases c4 : (v3.toInt64) < q4
    · refine wifNo OGc 32 X0 B d4_29 (own_if0 (tlt ((lw_lt _ _).mpr c4)).2.1) rfl ?_
      refine wiload OGc 34 X0 B d4_32 rfl rfl ?_
      refine wiconst OGc 35 X0 B d4_34 1 rfl rfl ?_
      refine wiadd OGc 36 X0 B d4_35 rfl ?_
      show OG p e _ s below _ s₁ (mkF m 36 #[.val (.ref a1), .val (.int (1 : Int32)), .val (.int (4 : Int32)), .val (.long q4), .second, .val (.int (3 : Int32)), .val (.int (4 : Int32)), .val (.int (3 : Int32))] [(.int (4 : Int32))])
      refine wistore OGc 38 X0 B d4_36 #[.val (.ref a1), .val (.int (1 : Int32)), .val (.int (4 : Int32)), .val (.long q4), .second, .val (.int (4 : Int32)), .val (.int (4 : Int32)), .val (.int (3 : Int32))] rfl rfl ?_
      refine wgoto OGc 45 X0 B d4_38 rfl ?_
      refine wgoto OGc 6 X0 B d4_45 rfl ?_
      refine wiload OGc 8 X0 B d4_6 rfl rfl ?_
      refine wiload OGc 10 X0 B d4_8 rfl rfl ?_
      refine wicmpYes OGc 48 X0 B d4_10 (by decide) rfl ?_
      refine wiload OGc 50 X0 B d4_48 rfl rfl ?_
      exact own_retI X0 hx hret hlk (hb hby d4_50) (by decide) (by decide) ⟨congrArg (fun z => some (Value.int z)) (show f4_1_4 q4 v0 v1 v2 v3 = (4 : Int32) from (by rw [f4_1_4, if_pos c2, if_pos c4])).symm, rfl, e0⟩
    · refine wifYes OGc 41 X0 B d4_29 (own_if0 (flt (fun q => c4 ((lw_lt _ _).mp q))).2.1) rfl ?_
      refine wiload OGc 43 X0 B d4_41 rfl rfl ?_
      refine wistore OGc 45 X0 B d4_43 #[.val (.ref a1), .val (.int (1 : Int32)), .val (.int (4 : Int32)), .val (.long q4), .second, .val (.int (3 : Int32)), .val (.int (3 : Int32)), .val (.int (3 : Int32))] rfl rfl ?_
      refine wgoto OGc 6 X0 B d4_45 rfl ?_
      refine wiload OGc 8 X0 B d4_6 rfl rfl ?_
      refine wiload OGc 10 X0 B d4_8 rfl rfl ?_
      refine wicmpYes OGc 48 X0 B d4_10 (by decide) rfl ?_
      refine wiload OGc 50 X0 B d4_48 rfl rfl ?_
      exact own_retI X0 hx hret hlk (hb hby d4_50) (by decide) (by decide) ⟨congrArg (fun z => some (Value.int z)) (show f4_1_4 q4 v0 v1 v2 v3 = (3 : Int32) from (by rw [f4_1_4, if_pos c2, if_neg c4])).symm, rfl, e0⟩
  · refine wifYes OGc 41 X0 B d4_29 (own_if0 (flt (fun q => c2 ((lw_lt _ _).mp q))).2.1) rfl ?_
    refine wiload OGc 43 X0 B d4_41 rfl rfl ?_
    refine wistore OGc 45 X0 B d4_43 #[.val (.ref a1), .val (.int (1 : Int32)), .val (.int (4 : Int32)), .val (.long q4), .second, .val (.int (1 : Int32)), .val (.int (2 : Int32)), .val (.int (2 : Int32))] rfl rfl ?_
    refine wgoto OGc 6 X0 B d4_45 rfl ?_
    refine wiload OGc 8 X0 B d4_6 rfl rfl ?_
    refine wiload OGc 10 X0 B d4_8 rfl rfl ?_
    refine wicmpNo OGc 13 X0 B d4_10 (by decide) rfl ?_
    refine wiload OGc 15 X0 B d4_13 rfl rfl ?_
    refine wiload OGc 17 X0 B d4_15 rfl rfl ?_
    refine wiadd OGc 18 X0 B d4_17 rfl ?_
    show OG p e _ s below _ s₁ (mkF m 18 #[.val (.ref a1), .val (.int (1 : Int32)), .val (.int (4 : Int32)), .val (.long q4), .second, .val (.int (1 : Int32)), .val (.int (2 : Int32)), .val (.int (2 : Int32))] [(.int (3 : Int32))])
    refine wiconst OGc 19 X0 B d4_18 1 rfl rfl ?_
    refine own_st (fun t k => XS.iushr X0.here hx rfl (hb hby d4_19) rfl k) ?_
    show OG p e _ s below _ s₁ (mkF m 20 #[.val (.ref a1), .val (.int (1 : Int32)), .val (.int (4 : Int32)), .val (.long q4), .second, .val (.int (1 : Int32)), .val (.int (2 : Int32)), .val (.int (2 : Int32))] [(.int (1 : Int32))])
    refine wistore OGc 22 X0 B d4_20 #[.val (.ref a1), .val (.int (1 : Int32)), .val (.int (4 : Int32)), .val (.long q4), .second, .val (.int (1 : Int32)), .val (.int (2 : Int32)), .val (.int (1 : Int32))] rfl rfl ?_
    refine waloadN OGc 23 X0 B d4_22 rfl rfl rfl ?_
    refine wiload OGc 25 X0 B d4_23 rfl rfl ?_
    refine wiaload OGc 26 X0 B hZ e0 R0 (v := (.int v1)) 1 (by decide) (by decide) rfl d4_25 rfl ?_
    refine own_st (fun t k => XS.i2l X0.here hx rfl (hb hby d4_26) rfl k) ?_
    show OG p e _ s below _ s₁ (mkF m 27 #[.val (.ref a1), .val (.int (1 : Int32)), .val (.int (4 : Int32)), .val (.long q4), .second, .val (.int (1 : Int32)), .val (.int (2 : Int32)), .val (.int (1 : Int32))] [(.long (v1.toInt64))])
    refine wlloadN OGc 28 X0 B d4_27 rfl rfl ?_
    refine wlcmp OGc 29 X0 B d4_28 rfl ?_
    by_cases c6 : (v1.toInt64) < q4
    · refine wifNo OGc 32 X0 B d4_29 (own_if0 (tlt ((lw_lt _ _).mpr c6)).2.1) rfl ?_
      refine wiload OGc 34 X0 B d4_32 rfl rfl ?_
      refine wiconst OGc 35 X0 B d4_34 1 rfl rfl ?_
      refine wiadd OGc 36 X0 B d4_35 rfl ?_
      show OG p e _ s below _ s₁ (mkF m 36 #[.val (.ref a1), .val (.int (1 : Int32)), .val (.int (4 : Int32)), .val (.long q4), .second, .val (.int (1 : Int32)), .val (.int (2 : Int32)), .val (.int (1 : Int32))] [(.int (2 : Int32))])
      refine wistore OGc 38 X0 B d4_36 #[.val (.ref a1), .val (.int (1 : Int32)), .val (.int (4 : Int32)), .val (.long q4), .second, .val (.int (2 : Int32)), .val (.int (2 : Int32)), .val (.int (1 : Int32))] rfl rfl ?_
      refine wgoto OGc 45 X0 B d4_38 rfl ?_
      refine wgoto OGc 6 X0 B d4_45 rfl ?_
      refine wiload OGc 8 X0 B d4_6 rfl rfl ?_
      refine wiload OGc 10 X0 B d4_8 rfl rfl ?_
      refine wicmpYes OGc 48 X0 B d4_10 (by decide) rfl ?_
      refine wiload OGc 50 X0 B d4_48 rfl rfl ?_
      exact own_retI X0 hx hret hlk (hb hby d4_50) (by decide) (by decide) ⟨congrArg (fun z => some (Value.int z)) (show f4_1_4 q4 v0 v1 v2 v3 = (2 : Int32) from (by rw [f4_1_4, if_neg c2, if_pos c6])).symm, rfl, e0⟩
    · refine wifYes OGc 41 X0 B d4_29 (own_if0 (flt (fun q => c6 ((lw_lt _ _).mp q))).2.1) rfl ?_
      refine wiload OGc 43 X0 B d4_41 rfl rfl ?_
      refine wistore OGc 45 X0 B d4_43 #[.val (.ref a1), .val (.int (1 : Int32)), .val (.int (4 : Int32)), .val (.long q4), .second, .val (.int (1 : Int32)), .val (.int (1 : Int32)), .val (.int (1 : Int32))] rfl rfl ?_
      refine wgoto OGc 6 X0 B d4_45 rfl ?_
      refine wiload OGc 8 X0 B d4_6 rfl rfl ?_
      refine wiload OGc 10 X0 B d4_8 rfl rfl ?_
      refine wicmpYes OGc 48 X0 B d4_10 (by decide) rfl ?_
      refine wiload OGc 50 X0 B d4_48 rfl rfl ?_
      exact own_retI X0 hx hret hlk (hb hby d4_50) (by decide) (by decide) ⟨congrArg (fun z => some (Value.int z)) (show f4_1_4 q4 v0 v1 v2 v3 = (1 : Int32) from (by rw [f4_1_4, if_neg c2, if_neg c6])).symm, rfl, e0⟩
def f4_2_2 (q4 : Int64) (v0 : Int32) (v1 : Int32) (v2 : Int32) (v3 : Int32) : Int32 := (2 : Int32)
theorem ef_4_2_2 (m : MethodId) (a1 : Addr) (q4 : Int64) : entryFrame m #[(.ref a1), (.int (2 : Int32)), (.int (2 : Int32)), (.long q4)] 8 = (mkF m 0 #[.val (.ref a1), .val (.int (2 : Int32)), .val (.int (2 : Int32)), .val (.long q4), .second, .unset, .unset, .unset] []) := by first | (simp [entryFrame, mkF, argsToLocals, Value.category]; done) | rfl
abbrev Q4_2_2 (Z : State) (a1 : Addr) (q4 : Int64) (v0 : Int32) (v1 : Int32) (v2 : Int32) (v3 : Int32) (h0 : Heap)  : Option Value → Heap → List Loc → Prop := (fun v h L => v = some (.int (f4_2_2 q4 v0 v1 v2 v3)) ∧ L = [] ∧ h = h0)
set_option maxRecDepth 65536 in
set_option maxHeartbeats 40000000 in
theorem rm4_2_2 (l : Launch) (Z : State) (a0 : Array Value) (hw : ∀ d ∈ tables_1, d.before a0 Z = true) (ws : List Jvm.Cond) (a1 : Addr) (q4 : Int64) (v0 : Int32) (v1 : Int32) (v2 : Int32) (v3 : Int32) (h0 : Heap) (R0 : OA Z h0 a1 .int [(.int v0), (.int v1), (.int v2), (.int v3)]) :
    OMet l Z (⟨"com/example/fragmark/fragmark/TermTokens", "indexFrom", "([IIIJ)I"⟩ : MethodName) prog_44_method_10_code 8 (some .int) ws ({ frames := 0, cells := 0, slots := 0, locals := 0 } : Room) #[(.ref a1), (.int (2 : Int32)), (.int (2 : Int32)), (.long q4)] h0 (Q4_2_2 Z a1 q4 v0 v1 v2 v3 h0) := by
  refine own_enter pn_4 ?_
  intro p e s m below meth c s₁ hx hby hml0 hown hret hlk hnm hZ X0 e0
  have hml : c.maxLocals = 8 := hml0
  have B : BX p c prog_44_method_10_code := ⟨hx, hby⟩
  refine own_cast (ef_4_2_2 m a1 q4) ?_
  show OG p e ({ frames := 0, cells := 0, slots := 0, locals := 0 } : Room) s below (fun v h L => v = some (.int (f4_2_2 q4 v0 v1 v2 v3)) ∧ L = [] ∧ h = h0) s₁ (mkF m 0 #[.val (.ref a1), .val (.int (2 : Int32)), .val (.int (2 : Int32)), .val (.long q4), .second, .unset, .unset, .unset] [])
  refine wiloadN OGc 1 X0 B d4_0 rfl rfl ?_
  refine wistore OGc 3 X0 B d4_1 #[.val (.ref a1), .val (.int (2 : Int32)), .val (.int (2 : Int32)), .val (.long q4), .second, .val (.int (2 : Int32)), .unset, .unset] rfl rfl ?_
  refine wiloadN OGc 4 X0 B d4_3 rfl rfl ?_
  refine wistore OGc 6 X0 B d4_4 #[.val (.ref a1), .val (.int (2 : Int32)), .val (.int (2 : Int32)), .val (.long q4), .second, .val (.int (2 : Int32)), .val (.int (2 : Int32)), .unset] rfl rfl ?_
  refine wiload OGc 8 X0 B d4_6 rfl rfl ?_
  refine wiload OGc 10 X0 B d4_8 rfl rfl ?_
  refine wicmpYes OGc 48 X0 B d4_10 (by decide) rfl ?_
  refine wiload OGc 50 X0 B d4_48 rfl rfl ?_
  exact own_retI X0 hx hret hlk (hb hby d4_50) (by decide) (by decide) ⟨congrArg (fun z => some (Value.int z)) (show f4_2_2 q4 v0 v1 v2 v3 = (2 : Int32) from (by rw [f4_2_2])).symm, rfl, e0⟩
def f4_2_3 (q4 : Int64) (v0 : Int32) (v1 : Int32) (v2 : Int32) (v3 : Int32) : Int32 := (if (v2.toInt64) < q4 then (3 : Int32) else (2 : Int32))
theorem ef_4_2_3 (m : MethodId) (a1 : Addr) (q4 : Int64) : entryFrame m #[(.ref a1), (.int (2 : Int32)), (.int (3 : Int32)), (.long q4)] 8 = (mkF m 0 #[.val (.ref a1), .val (.int (2 : Int32)), .val (.int (3 : Int32)), .val (.long q4), .second, .unset, .unset, .unset] []) := by first | (simp [entryFrame, mkF, argsToLocals, Value.category]; done) | rfl
abbrev Q4_2_3 (Z : State) (a1 : Addr) (q4 : Int64) (v0 : Int32) (v1 : Int32) (v2 : Int32) (v3 : Int32) (h0 : Heap)  : Option Value → Heap → List Loc → Prop := (fun v h L => v = some (.int (f4_2_3 q4 v0 v1 v2 v3)) ∧ L = [] ∧ h = h0)
set_option maxRecDepth 65536 in
set_option maxHeartbeats 40000000 in
theorem rm4_2_3 (l : Launch) (Z : State) (a0 : Array Value) (hw : ∀ d ∈ tables_1, d.before a0 Z = true) (ws : List Jvm.Cond) (a1 : Addr) (q4 : Int64) (v0 : Int32) (v1 : Int32) (v2 : Int32) (v3 : Int32) (h0 : Heap) (R0 : OA Z h0 a1 .int [(.int v0), (.int v1), (.int v2), (.int v3)]) :
    OMet l Z (⟨"com/example/fragmark/fragmark/TermTokens", "indexFrom", "([IIIJ)I"⟩ : MethodName) prog_44_method_10_code 8 (some .int) ws ({ frames := 0, cells := 0, slots := 0, locals := 0 } : Room) #[(.ref a1), (.int (2 : Int32)), (.int (3 : Int32)), (.long q4)] h0 (Q4_2_3 Z a1 q4 v0 v1 v2 v3 h0) := by
  refine own_enter pn_4 ?_
  intro p e s m below meth c s₁ hx hby hml0 hown hret hlk hnm hZ X0 e0
  have hml : c.maxLocals = 8 := hml0
  have B : BX p c prog_44_method_10_code := ⟨hx, hby⟩
  refine own_cast (ef_4_2_3 m a1 q4) ?_
  show OG p e ({ frames := 0, cells := 0, slots := 0, locals := 0 } : Room) s below (fun v h L => v = some (.int (f4_2_3 q4 v0 v1 v2 v3)) ∧ L = [] ∧ h = h0) s₁ (mkF m 0 #[.val (.ref a1), .val (.int (2 : Int32)), .val (.int (3 : Int32)), .val (.long q4), .second, .unset, .unset, .unset] [])
  refine wiloadN OGc 1 X0 B d4_0 rfl rfl ?_
  refine wistore OGc 3 X0 B d4_1 #[.val (.ref a1), .val (.int (2 : Int32)), .val (.int (3 : Int32)), .val (.long q4), .second, .val (.int (2 : Int32)), .unset, .unset] rfl rfl ?_
  refine wiloadN OGc 4 X0 B d4_3 rfl rfl ?_
  refine wistore OGc 6 X0 B d4_4 #[.val (.ref a1), .val (.int (2 : Int32)), .val (.int (3 : Int32)), .val (.long q4), .second, .val (.int (2 : Int32)), .val (.int (3 : Int32)), .unset] rfl rfl ?_
  refine wiload OGc 8 X0 B d4_6 rfl rfl ?_
  refine wiload OGc 10 X0 B d4_8 rfl rfl ?_
  refine wicmpNo OGc 13 X0 B d4_10 (by decide) rfl ?_
  refine wiload OGc 15 X0 B d4_13 rfl rfl ?_
  refine wiload OGc 17 X0 B d4_15 rfl rfl ?_
  refine wiadd OGc 18 X0 B d4_17 rfl ?_
  show OG p e _ s below _ s₁ (mkF m 18 #[.val (.ref a1), .val (.int (2 : Int32)), .val (.int (3 : Int32)), .val (.long q4), .second, .val (.int (2 : Int32)), .val (.int (3 : Int32)), .unset] [(.int (5 : Int32))])
  refine wiconst OGc 19 X0 B d4_18 1 rfl rfl ?_
  refine own_st (fun t k => XS.iushr X0.here hx rfl (hb hby d4_19) rfl k) ?_
  show OG p e _ s below _ s₁ (mkF m 20 #[.val (.ref a1), .val (.int (2 : Int32)), .val (.int (3 : Int32)), .val (.long q4), .second, .val (.int (2 : Int32)), .val (.int (3 : Int32)), .unset] [(.int (2 : Int32))])
  refine wistore OGc 22 X0 B d4_20 #[.val (.ref a1), .val (.int (2 : Int32)), .val (.int (3 : Int32)), .val (.long q4), .second, .val (.int (2 : Int32)), .val (.int (3 : Int32)), .val (.int (2 : Int32))] rfl rfl ?_
  refine waloadN OGc 23 X0 B d4_22 rfl rfl rfl ?_
  refine wiload OGc 25 X0 B d4_23 rfl rfl ?_
  refine wiaload OGc 26 X0 B hZ e0 R0 (v := (.int v2)) 2 (by decide) (by decide) rfl d4_25 rfl ?_
  refine own_st (fun t k => XS.i2l X0.here hx rfl (hb hby d4_26) rfl k) ?_
  show OG p e _ s below _ s₁ (mkF m 27 #[.val (.ref a1), .val (.int (2 : Int32)), .val (.int (3 : Int32)), .val (.long q4), .second, .val (.int (2 : Int32)), .val (.int (3 : Int32)), .val (.int (2 : Int32))] [(.long (v2.toInt64))])
  refine wlloadN OGc 28 X0 B d4_27 rfl rfl ?_
  refine wlcmp OGc 29 X0 B d4_28 rfl ?_
  by_cases c2 : (v2.toInt64) < q4
  · refine wifNo OGc 32 X0 B d4_29 (own_if0 (tlt ((lw_lt _ _).mpr c2)).2.1) rfl ?_
    refine wiload OGc 34 X0 B d4_32 rfl rfl ?_
    refine wiconst OGc 35 X0 B d4_34 1 rfl rfl ?_
    refine wiadd OGc 36 X0 B d4_35 rfl ?_
    show OG p e _ s below _ s₁ (mkF m 36 #[.val (.ref a1), .val (.int (2 : Int32)), .val (.int (3 : Int32)), .val (.long q4), .second, .val (.int (2 : Int32)), .val (.int (3 : Int32)), .val (.int (2 : Int32))] [(.int (3 : Int32))])
    refine wistore OGc 38 X0 B d4_36 #[.val (.ref a1), .val (.int (2 : Int32)), .val (.int (3 : Int32)), .val (.long q4), .second, .val (.int (3 : Int32)), .val (.int (3 : Int32)), .val (.int (2 : Int32))] rfl rfl ?_
    refine wgoto OGc 45 X0 B d4_38 rfl ?_
    refine wgoto OGc 6 X0 B d4_45 rfl ?_
    refine wiload OGc 8 X0 B d4_6 rfl rfl ?_
    refine wiload OGc 10 X0 B d4_8 rfl rfl ?_
    refine wicmpYes OGc 48 X0 B d4_10 (by decide) rfl ?_
    refine wiload OGc 50 X0 B d4_48 rfl rfl ?_
    exact own_retI X0 hx hret hlk (hb hby d4_50) (by decide) (by decide) ⟨congrArg (fun z => some (Value.int z)) (show f4_2_3 q4 v0 v1 v2 v3 = (3 : Int32) from (by rw [f4_2_3, if_pos c2])).symm, rfl, e0⟩
  · refine wifYes OGc 41 X0 B d4_29 (own_if0 (flt (fun q => c2 ((lw_lt _ _).mp q))).2.1) rfl ?_
    refine wiload OGc 43 X0 B d4_41 rfl rfl ?_
    refine wistore OGc 45 X0 B d4_43 #[.val (.ref a1), .val (.int (2 : Int32)), .val (.int (3 : Int32)), .val (.long q4), .second, .val (.int (2 : Int32)), .val (.int (2 : Int32)), .val (.int (2 : Int32))] rfl rfl ?_
    refine wgoto OGc 6 X0 B d4_45 rfl ?_
    refine wiload OGc 8 X0 B d4_6 rfl rfl ?_
    refine wiload OGc 10 X0 B d4_8 rfl rfl ?_
    refine wicmpYes OGc 48 X0 B d4_10 (by decide) rfl ?_
    refine wiload OGc 50 X0 B d4_48 rfl rfl ?_
    exact own_retI X0 hx hret hlk (hb hby d4_50) (by decide) (by decide) ⟨congrArg (fun z => some (Value.int z)) (show f4_2_3 q4 v0 v1 v2 v3 = (2 : Int32) from (by rw [f4_2_3, if_neg c2])).symm, rfl, e0⟩
def f4_2_4 (q4 : Int64) (v0 : Int32) (v1 : Int32) (v2 : Int32) (v3 : Int32) : Int32 := (if (v3.toInt64) < q4 then (4 : Int32) else (if (v2.toInt64) < q4 then (3 : Int32) else (2 : Int32)))
theorem ef_4_2_4 (m : MethodId) (a1 : Addr) (q4 : Int64) : entryFrame m #[(.ref a1), (.int (2 : Int32)), (.int (4 : Int32)), (.long q4)] 8 = (mkF m 0 #[.val (.ref a1), .val (.int (2 : Int32)), .val (.int (4 : Int32)), .val (.long q4), .second, .unset, .unset, .unset] []) := by first | (simp [entryFrame, mkF, argsToLocals, Value.category]; done) | rfl
abbrev Q4_2_4 (Z : State) (a1 : Addr) (q4 : Int64) (v0 : Int32) (v1 : Int32) (v2 : Int32) (v3 : Int32) (h0 : Heap)  : Option Value → Heap → List Loc → Prop := (fun v h L => v = some (.int (f4_2_4 q4 v0 v1 v2 v3)) ∧ L = [] ∧ h = h0)
set_option maxRecDepth 65536 in
set_option maxHeartbeats 40000000 in
theorem rm4_2_4 (l : Launch) (Z : State) (a0 : Array Value) (hw : ∀ d ∈ tables_1, d.before a0 Z = true) (ws : List Jvm.Cond) (a1 : Addr) (q4 : Int64) (v0 : Int32) (v1 : Int32) (v2 : Int32) (v3 : Int32) (h0 : Heap) (R0 : OA Z h0 a1 .int [(.int v0), (.int v1), (.int v2), (.int v3)]) :
    OMet l Z (⟨"com/example/fragmark/fragmark/TermTokens", "indexFrom", "([IIIJ)I"⟩ : MethodName) prog_44_method_10_code 8 (some .int) ws ({ frames := 0, cells := 0, slots := 0, locals := 0 } : Room) #[(.ref a1), (.int (2 : Int32)), (.int (4 : Int32)), (.long q4)] h0 (Q4_2_4 Z a1 q4 v0 v1 v2 v3 h0) := by
  refine own_enter pn_4 ?_
  intro p e s m below meth c s₁ hx hby hml0 hown hret hlk hnm hZ X0 e0
  have hml : c.maxLocals = 8 := hml0
  have B : BX p c prog_44_method_10_code := ⟨hx, hby⟩
  refine own_cast (ef_4_2_4 m a1 q4) ?_
  show OG p e ({ frames := 0, cells := 0, slots := 0, locals := 0 } : Room) s below (fun v h L => v = some (.int (f4_2_4 q4 v0 v1 v2 v3)) ∧ L = [] ∧ h = h0) s₁ (mkF m 0 #[.val (.ref a1), .val (.int (2 : Int32)), .val (.int (4 : Int32)), .val (.long q4), .second, .unset, .unset, .unset] [])
  refine wiloadN OGc 1 X0 B d4_0 rfl rfl ?_
  refine wistore OGc 3 X0 B d4_1 #[.val (.ref a1), .val (.int (2 : Int32)), .val (.int (4 : Int32)), .val (.long q4), .second, .val (.int (2 : Int32)), .unset, .unset] rfl rfl ?_
  refine wiloadN OGc 4 X0 B d4_3 rfl rfl ?_
  refine wistore OGc 6 X0 B d4_4 #[.val (.ref a1), .val (.int (2 : Int32)), .val (.int (4 : Int32)), .val (.long q4), .second, .val (.int (2 : Int32)), .val (.int (4 : Int32)), .unset] rfl rfl ?_
  refine wiload OGc 8 X0 B d4_6 rfl rfl ?_
  refine wiload OGc 10 X0 B d4_8 rfl rfl ?_
  refine wicmpNo OGc 13 X0 B d4_10 (by decide) rfl ?_
  refine wiload OGc 15 X0 B d4_13 rfl rfl ?_
  refine wiload OGc 17 X0 B d4_15 rfl rfl ?_
  refine wiadd OGc 18 X0 B d4_17 rfl ?_
  show OG p e _ s below _ s₁ (mkF m 18 #[.val (.ref a1), .val (.int (2 : Int32)), .val (.int (4 : Int32)), .val (.long q4), .second, .val (.int (2 : Int32)), .val (.int (4 : Int32)), .unset] [(.int (6 : Int32))])
  refine wiconst OGc 19 X0 B d4_18 1 rfl rfl ?_
  refine own_st (fun t k => XS.iushr X0.here hx rfl (hb hby d4_19) rfl k) ?_
  show OG p e _ s below _ s₁ (mkF m 20 #[.val (.ref a1), .val (.int (2 : Int32)), .val (.int (4 : Int32)), .val (.long q4), .second, .val (.int (2 : Int32)), .val (.int (4 : Int32)), .unset] [(.int (3 : Int32))])
  refine wistore OGc 22 X0 B d4_20 #[.val (.ref a1), .val (.int (2 : Int32)), .val (.int (4 : Int32)), .val (.long q4), .second, .val (.int (2 : Int32)), .val (.int (4 : Int32)), .val (.int (3 : Int32))] rfl rfl ?_
  refine waloadN OGc 23 X0 B d4_22 rfl rfl rfl ?_
  refine wiload OGc 25 X0 B d4_23 rfl rfl ?_
  refine wiaload OGc 26 X0 B hZ e0 R0 (v := (.int v3)) 3 (by decide) (by decide) rfl d4_25 rfl ?_
  refine own_st (fun t k => XS.i2l X0.here hx rfl (hb hby d4_26) rfl k) ?_
  show OG p e _ s below _ s₁ (mkF m 27 #[.val (.ref a1), .val (.int (2 : Int32)), .val (.int (4 : Int32)), .val (.long q4), .second, .val (.int (2 : Int32)), .val (.int (4 : Int32)), .val (.int (3 : Int32))] [(.long (v3.toInt64))])
  refine wlloadN OGc 28 X0 B d4_27 rfl rfl ?_
  refine wlcmp OGc 29 X0 B d4_28 rfl ?_
  by_cases c2 : (v3.toInt64) < q4
  · refine wifNo OGc 32 X0 B d4_29 (own_if0 (tlt ((lw_lt _ _).mpr c2)).2.1) rfl ?_
    refine wiload OGc 34 X0 B d4_32 rfl rfl ?_
    refine wiconst OGc 35 X0 B d4_34 1 rfl rfl ?_
    refine wiadd OGc 36 X0 B d4_35 rfl ?_
    show OG p e _ s below _ s₁ (mkF m 36 #[.val (.ref a1), .val (.int (2 : Int32)), .val (.int (4 : Int32)), .val (.long q4), .second, .val (.int (2 : Int32)), .val (.int (4 : Int32)), .val (.int (3 : Int32))] [(.int (4 : Int32))])
    refine wistore OGc 38 X0 B d4_36 #[.val (.ref a1), .val (.int (2 : Int32)), .val (.int (4 : Int32)), .val (.long q4), .second, .val (.int (4 : Int32)), .val (.int (4 : Int32)), .val (.int (3 : Int32))] rfl rfl ?_
    refine wgoto OGc 45 X0 B d4_38 rfl ?_
    refine wgoto OGc 6 X0 B d4_45 rfl ?_
    refine wiload OGc 8 X0 B d4_6 rfl rfl ?_
    refine wiload OGc 10 X0 B d4_8 rfl rfl ?_
    refine wicmpYes OGc 48 X0 B d4_10 (by decide) rfl ?_
    refine wiload OGc 50 X0 B d4_48 rfl rfl ?_
    exact own_retI X0 hx hret hlk (hb hby d4_50) (by decide) (by decide) ⟨congrArg (fun z => some (Value.int z)) (show f4_2_4 q4 v0 v1 v2 v3 = (4 : Int32) from (by rw [f4_2_4, if_pos c2])).symm, rfl, e0⟩
  · refine wifYes OGc 41 X0 B d4_29 (own_if0 (flt (fun q => c2 ((lw_lt _ _).mp q))).2.1) rfl ?_
    refine wiload OGc 43 X0 B d4_41 rfl rfl ?_
    refine wistore OGc 45 X0 B d4_43 #[.val (.ref a1), .val (.int (2 : Int32)), .val (.int (4 : Int32)), .val (.long q4), .second, .val (.int (2 : Int32)), .val (.int (3 : Int32)), .val (.int (3 : Int32))] rfl rfl ?_
    refine wgoto OGc 6 X0 B d4_45 rfl ?_
    refine wiload OGc 8 X0 B d4_6 rfl rfl ?_
    refine wiload OGc 10 X0 B d4_8 rfl rfl ?_
    refine wicmpNo OGc 13 X0 B d4_10 (by decide) rfl ?_
    refine wiload OGc 15 X0 B d4_13 rfl rfl ?_
    refine wiload OGc 17 X0 B d4_15 rfl rfl ?_
    refine wiadd OGc 18 X0 B d4_17 rfl ?_
    show OG p e _ s below _ s₁ (mkF m 18 #[.val (.ref a1), .val (.int (2 : Int32)), .val (.int (4 : Int32)), .val (.long q4), .second, .val (.int (2 : Int32)), .val (.int (3 : Int32)), .val (.int (3 : Int32))] [(.int (5 : Int32))])
    refine wiconst OGc 19 X0 B d4_18 1 rfl rfl ?_
    refine own_st (fun t k => XS.iushr X0.here hx rfl (hb hby d4_19) rfl k) ?_
    show OG p e _ s below _ s₁ (mkF m 20 #[.val (.ref a1), .val (.int (2 : Int32)), .val (.int (4 : Int32)), .val (.long q4), .second, .val (.int (2 : Int32)), .val (.int (3 : Int32)), .val (.int (3 : Int32))] [(.int (2 : Int32))])
    refine wistore OGc 22 X0 B d4_20 #[.val (.ref a1), .val (.int (2 : Int32)), .val (.int (4 : Int32)), .val (.long q4), .second, .val (.int (2 : Int32)), .val (.int (3 : Int32)), .val (.int (2 : Int32))] rfl rfl ?_
    refine waloadN OGc 23 X0 B d4_22 rfl rfl rfl ?_
    refine wiload OGc 25 X0 B d4_23 rfl rfl ?_
    refine wiaload OGc 26 X0 B hZ e0 R0 (v := (.int v2)) 2 (by decide) (by decide) rfl d4_25 rfl ?_
    refine own_st (fun t k => XS.i2l X0.here hx rfl (hb hby d4_26) rfl k) ?_
    show OG p e _ s below _ s₁ (mkF m 27 #[.val (.ref a1), .val (.int (2 : Int32)), .val (.int (4 : Int32)), .val (.long q4), .second, .val (.int (2 : Int32)), .val (.int (3 : Int32)), .val (.int (2 : Int32))] [(.long (v2.toInt64))])
    refine wlloadN OGc 28 X0 B d4_27 rfl rfl ?_
    refine wlcmp OGc 29 X0 B d4_28 rfl ?_
    by_cases c4 : (v2.toInt64) < q4
    · refine wifNo OGc 32 X0 B d4_29 (own_if0 (tlt ((lw_lt _ _).mpr c4)).2.1) rfl ?_
      refine wiload OGc 34 X0 B d4_32 rfl rfl ?_
      refine wiconst OGc 35 X0 B d4_34 1 rfl rfl ?_
      refine wiadd OGc 36 X0 B d4_35 rfl ?_
      show OG p e _ s below _ s₁ (mkF m 36 #[.val (.ref a1), .val (.int (2 : Int32)), .val (.int (4 : Int32)), .val (.long q4), .second, .val (.int (2 : Int32)), .val (.int (3 : Int32)), .val (.int (2 : Int32))] [(.int (3 : Int32))])
      refine wistore OGc 38 X0 B d4_36 #[.val (.ref a1), .val (.int (2 : Int32)), .val (.int (4 : Int32)), .val (.long q4), .second, .val (.int (3 : Int32)), .val (.int (3 : Int32)), .val (.int (2 : Int32))] rfl rfl ?_
      refine wgoto OGc 45 X0 B d4_38 rfl ?_
      refine wgoto OGc 6 X0 B d4_45 rfl ?_
      refine wiload OGc 8 X0 B d4_6 rfl rfl ?_
      refine wiload OGc 10 X0 B d4_8 rfl rfl ?_
      refine wicmpYes OGc 48 X0 B d4_10 (by decide) rfl ?_
      refine wiload OGc 50 X0 B d4_48 rfl rfl ?_
      exact own_retI X0 hx hret hlk (hb hby d4_50) (by decide) (by decide) ⟨congrArg (fun z => some (Value.int z)) (show f4_2_4 q4 v0 v1 v2 v3 = (3 : Int32) from (by rw [f4_2_4, if_neg c2, if_pos c4])).symm, rfl, e0⟩
    · refine wifYes OGc 41 X0 B d4_29 (own_if0 (flt (fun q => c4 ((lw_lt _ _).mp q))).2.1) rfl ?_
      refine wiload OGc 43 X0 B d4_41 rfl rfl ?_
      refine wistore OGc 45 X0 B d4_43 #[.val (.ref a1), .val (.int (2 : Int32)), .val (.int (4 : Int32)), .val (.long q4), .second, .val (.int (2 : Int32)), .val (.int (2 : Int32)), .val (.int (2 : Int32))] rfl rfl ?_
      refine wgoto OGc 6 X0 B d4_45 rfl ?_
      refine wiload OGc 8 X0 B d4_6 rfl rfl ?_
      refine wiload OGc 10 X0 B d4_8 rfl rfl ?_
      refine wicmpYes OGc 48 X0 B d4_10 (by decide) rfl ?_
      refine wiload OGc 50 X0 B d4_48 rfl rfl ?_
      exact own_retI X0 hx hret hlk (hb hby d4_50) (by decide) (by decide) ⟨congrArg (fun z => some (Value.int z)) (show f4_2_4 q4 v0 v1 v2 v3 = (2 : Int32) from (by rw [f4_2_4, if_neg c2, if_neg c4])).symm, rfl, e0⟩
def f4_3_3 (q4 : Int64) (v0 : Int32) (v1 : Int32) (v2 : Int32) (v3 : Int32) : Int32 := (3 : Int32)
theorem ef_4_3_3 (m : MethodId) (a1 : Addr) (q4 : Int64) : entryFrame m #[(.ref a1), (.int (3 : Int32)), (.int (3 : Int32)), (.long q4)] 8 = (mkF m 0 #[.val (.ref a1), .val (.int (3 : Int32)), .val (.int (3 : Int32)), .val (.long q4), .second, .unset, .unset, .unset] []) := by first | (simp [entryFrame, mkF, argsToLocals, Value.category]; done) | rfl
abbrev Q4_3_3 (Z : State) (a1 : Addr) (q4 : Int64) (v0 : Int32) (v1 : Int32) (v2 : Int32) (v3 : Int32) (h0 : Heap)  : Option Value → Heap → List Loc → Prop := (fun v h L => v = some (.int (f4_3_3 q4 v0 v1 v2 v3)) ∧ L = [] ∧ h = h0)
set_option maxRecDepth 65536 in
set_option maxHeartbeats 40000000 in
theorem rm4_3_3 (l : Launch) (Z : State) (a0 : Array Value) (hw : ∀ d ∈ tables_1, d.before a0 Z = true) (ws : List Jvm.Cond) (a1 : Addr) (q4 : Int64) (v0 : Int32) (v1 : Int32) (v2 : Int32) (v3 : Int32) (h0 : Heap) (R0 : OA Z h0 a1 .int [(.int v0), (.int v1), (.int v2), (.int v3)]) :
    OMet l Z (⟨"com/example/fragmark/fragmark/TermTokens", "indexFrom", "([IIIJ)I"⟩ : MethodName) prog_44_method_10_code 8 (some .int) ws ({ frames := 0, cells := 0, slots := 0, locals := 0 } : Room) #[(.ref a1), (.int (3 : Int32)), (.int (3 : Int32)), (.long q4)] h0 (Q4_3_3 Z a1 q4 v0 v1 v2 v3 h0) := by
  refine own_enter pn_4 ?_
  intro p e s m below meth c s₁ hx hby hml0 hown hret hlk hnm hZ X0 e0
  have hml : c.maxLocals = 8 := hml0
  have B : BX p c prog_44_method_10_code := ⟨hx, hby⟩
  refine own_cast (ef_4_3_3 m a1 q4) ?_
  show OG p e ({ frames := 0, cells := 0, slots := 0, locals := 0 } : Room) s below (fun v h L => v = some (.int (f4_3_3 q4 v0 v1 v2 v3)) ∧ L = [] ∧ h = h0) s₁ (mkF m 0 #[.val (.ref a1), .val (.int (3 : Int32)), .val (.int (3 : Int32)), .val (.long q4), .second, .unset, .unset, .unset] [])
  refine wiloadN OGc 1 X0 B d4_0 rfl rfl ?_
  refine wistore OGc 3 X0 B d4_1 #[.val (.ref a1), .val (.int (3 : Int32)), .val (.int (3 : Int32)), .val (.long q4), .second, .val (.int (3 : Int32)), .unset, .unset] rfl rfl ?_
  refine wiloadN OGc 4 X0 B d4_3 rfl rfl ?_
  refine wistore OGc 6 X0 B d4_4 #[.val (.ref a1), .val (.int (3 : Int32)), .val (.int (3 : Int32)), .val (.long q4), .second, .val (.int (3 : Int32)), .val (.int (3 : Int32)), .unset] rfl rfl ?_
  refine wiload OGc 8 X0 B d4_6 rfl rfl ?_
  refine wiload OGc 10 X0 B d4_8 rfl rfl ?_
  refine wicmpYes OGc 48 X0 B d4_10 (by decide) rfl ?_
  refine wiload OGc 50 X0 B d4_48 rfl rfl ?_
  exact own_retI X0 hx hret hlk (hb hby d4_50) (by decide) (by decide) ⟨congrArg (fun z => some (Value.int z)) (show f4_3_3 q4 v0 v1 v2 v3 = (3 : Int32) from (by rw [f4_3_3])).symm, rfl, e0⟩
def f4_3_4 (q4 : Int64) (v0 : Int32) (v1 : Int32) (v2 : Int32) (v3 : Int32) : Int32 := (if (v3.toInt64) < q4 then (4 : Int32) else (3 : Int32))
theorem ef_4_3_4 (m : MethodId) (a1 : Addr) (q4 : Int64) : entryFrame m #[(.ref a1), (.int (3 : Int32)), (.int (4 : Int32)), (.long q4)] 8 = (mkF m 0 #[.val (.ref a1), .val (.int (3 : Int32)), .val (.int (4 : Int32)), .val (.long q4), .second, .unset, .unset, .unset] []) := by first | (simp [entryFrame, mkF, argsToLocals, Value.category]; done) | rfl
abbrev Q4_3_4 (Z : State) (a1 : Addr) (q4 : Int64) (v0 : Int32) (v1 : Int32) (v2 : Int32) (v3 : Int32) (h0 : Heap)  : Option Value → Heap → List Loc → Prop := (fun v h L => v = some (.int (f4_3_4 q4 v0 v1 v2 v3)) ∧ L = [] ∧ h = h0)
set_option maxRecDepth 65536 in
set_option maxHeartbeats 40000000 in
theorem rm4_3_4 (l : Launch) (Z : State) (a0 : Array Value) (hw : ∀ d ∈ tables_1, d.before a0 Z = true) (ws : List Jvm.Cond) (a1 : Addr) (q4 : Int64) (v0 : Int32) (v1 : Int32) (v2 : Int32) (v3 : Int32) (h0 : Heap) (R0 : OA Z h0 a1 .int [(.int v0), (.int v1), (.int v2), (.int v3)]) :
    OMet l Z (⟨"com/example/fragmark/fragmark/TermTokens", "indexFrom", "([IIIJ)I"⟩ : MethodName) prog_44_method_10_code 8 (some .int) ws ({ frames := 0, cells := 0, slots := 0, locals := 0 } : Room) #[(.ref a1), (.int (3 : Int32)), (.int (4 : Int32)), (.long q4)] h0 (Q4_3_4 Z a1 q4 v0 v1 v2 v3 h0) := by
  refine own_enter pn_4 ?_
  intro p e s m below meth c s₁ hx hby hml0 hown hret hlk hnm hZ X0 e0
  have hml : c.maxLocals = 8 := hml0
  have B : BX p c prog_44_method_10_code := ⟨hx, hby⟩
  refine own_cast (ef_4_3_4 m a1 q4) ?_
  show OG p e ({ frames := 0, cells := 0, slots := 0, locals := 0 } : Room) s below (fun v h L => v = some (.int (f4_3_4 q4 v0 v1 v2 v3)) ∧ L = [] ∧ h = h0) s₁ (mkF m 0 #[.val (.ref a1), .val (.int (3 : Int32)), .val (.int (4 : Int32)), .val (.long q4), .second, .unset, .unset, .unset] [])
  refine wiloadN OGc 1 X0 B d4_0 rfl rfl ?_
  refine wistore OGc 3 X0 B d4_1 #[.val (.ref a1), .val (.int (3 : Int32)), .val (.int (4 : Int32)), .val (.long q4), .second, .val (.int (3 : Int32)), .unset, .unset] rfl rfl ?_
  refine wiloadN OGc 4 X0 B d4_3 rfl rfl ?_
  refine wistore OGc 6 X0 B d4_4 #[.val (.ref a1), .val (.int (3 : Int32)), .val (.int (4 : Int32)), .val (.long q4), .second, .val (.int (3 : Int32)), .val (.int (4 : Int32)), .unset] rfl rfl ?_
  refine wiload OGc 8 X0 B d4_6 rfl rfl ?_
  refine wiload OGc 10 X0 B d4_8 rfl rfl ?_
  refine wicmpNo OGc 13 X0 B d4_10 (by decide) rfl ?_
  refine wiload OGc 15 X0 B d4_13 rfl rfl ?_
  refine wiload OGc 17 X0 B d4_15 rfl rfl ?_
  refine wiadd OGc 18 X0 B d4_17 rfl ?_
  show OG p e _ s below _ s₁ (mkF m 18 #[.val (.ref a1), .val (.int (3 : Int32)), .val (.int (4 : Int32)), .val (.long q4), .second, .val (.int (3 : Int32)), .val (.int (4 : Int32)), .unset] [(.int (7 : Int32))])
  refine wiconst OGc 19 X0 B d4_18 1 rfl rfl ?_
  refine own_st (fun t k => XS.iushr X0.here hx rfl (hb hby d4_19) rfl k) ?_
  show OG p e _ s below _ s₁ (mkF m 20 #[.val (.ref a1), .val (.int (3 : Int32)), .val (.int (4 : Int32)), .val (.long q4), .second, .val (.int (3 : Int32)), .val (.int (4 : Int32)), .unset] [(.int (3 : Int32))])
  refine wistore OGc 22 X0 B d4_20 #[.val (.ref a1), .val (.int (3 : Int32)), .val (.int (4 : Int32)), .val (.long q4), .second, .val (.int (3 : Int32)), .val (.int (4 : Int32)), .val (.int (3 : Int32))] rfl rfl ?_
  refine waloadN OGc 23 X0 B d4_22 rfl rfl rfl ?_
  refine wiload OGc 25 X0 B d4_23 rfl rfl ?_
  refine wiaload OGc 26 X0 B hZ e0 R0 (v := (.int v3)) 3 (by decide) (by decide) rfl d4_25 rfl ?_
  refine own_st (fun t k => XS.i2l X0.here hx rfl (hb hby d4_26) rfl k) ?_
  show OG p e _ s below _ s₁ (mkF m 27 #[.val (.ref a1), .val (.int (3 : Int32)), .val (.int (4 : Int32)), .val (.long q4), .second, .val (.int (3 : Int32)), .val (.int (4 : Int32)), .val (.int (3 : Int32))] [(.long (v3.toInt64))])
  refine wlloadN OGc 28 X0 B d4_27 rfl rfl ?_
  refine wlcmp OGc 29 X0 B d4_28 rfl ?_
  by_cases c2 : (v3.toInt64) < q4
  · refine wifNo OGc 32 X0 B d4_29 (own_if0 (tlt ((lw_lt _ _).mpr c2)).2.1) rfl ?_
    refine wiload OGc 34 X0 B d4_32 rfl rfl ?_
    refine wiconst OGc 35 X0 B d4_34 1 rfl rfl ?_
    refine wiadd OGc 36 X0 B d4_35 rfl ?_
    show OG p e _ s below _ s₁ (mkF m 36 #[.val (.ref a1), .val (.int (3 : Int32)), .val (.int (4 : Int32)), .val (.long q4), .second, .val (.int (3 : Int32)), .val (.int (4 : Int32)), .val (.int (3 : Int32))] [(.int (4 : Int32))])
    refine wistore OGc 38 X0 B d4_36 #[.val (.ref a1), .val (.int (3 : Int32)), .val (.int (4 : Int32)), .val (.long q4), .second, .val (.int (4 : Int32)), .val (.int (4 : Int32)), .val (.int (3 : Int32))] rfl rfl ?_
    refine wgoto OGc 45 X0 B d4_38 rfl ?_
    refine wgoto OGc 6 X0 B d4_45 rfl ?_
    refine wiload OGc 8 X0 B d4_6 rfl rfl ?_
    refine wiload OGc 10 X0 B d4_8 rfl rfl ?_
    refine wicmpYes OGc 48 X0 B d4_10 (by decide) rfl ?_
    refine wiload OGc 50 X0 B d4_48 rfl rfl ?_
    exact own_retI X0 hx hret hlk (hb hby d4_50) (by decide) (by decide) ⟨congrArg (fun z => some (Value.int z)) (show f4_3_4 q4 v0 v1 v2 v3 = (4 : Int32) from (by rw [f4_3_4, if_pos c2])).symm, rfl, e0⟩
  · refine wifYes OGc 41 X0 B d4_29 (own_if0 (flt (fun q => c2 ((lw_lt _ _).mp q))).2.1) rfl ?_
    refine wiload OGc 43 X0 B d4_41 rfl rfl ?_
    refine wistore OGc 45 X0 B d4_43 #[.val (.ref a1), .val (.int (3 : Int32)), .val (.int (4 : Int32)), .val (.long q4), .second, .val (.int (3 : Int32)), .val (.int (3 : Int32)), .val (.int (3 : Int32))] rfl rfl ?_
    refine wgoto OGc 6 X0 B d4_45 rfl ?_
    refine wiload OGc 8 X0 B d4_6 rfl rfl ?_
    refine wiload OGc 10 X0 B d4_8 rfl rfl ?_
    refine wicmpYes OGc 48 X0 B d4_10 (by decide) rfl ?_
    refine wiload OGc 50 X0 B d4_48 rfl rfl ?_
    exact own_retI X0 hx hret hlk (hb hby d4_50) (by decide) (by decide) ⟨congrArg (fun z => some (Value.int z)) (show f4_3_4 q4 v0 v1 v2 v3 = (3 : Int32) from (by rw [f4_3_4, if_neg c2])).symm, rfl, e0⟩
def f4_4_4 (q4 : Int64) (v0 : Int32) (v1 : Int32) (v2 : Int32) (v3 : Int32) : Int32 := (4 : Int32)
theorem ef_4_4_4 (m : MethodId) (a1 : Addr) (q4 : Int64) : entryFrame m #[(.ref a1), (.int (4 : Int32)), (.int (4 : Int32)), (.long q4)] 8 = (mkF m 0 #[.val (.ref a1), .val (.int (4 : Int32)), .val (.int (4 : Int32)), .val (.long q4), .second, .unset, .unset, .unset] []) := by first | (simp [entryFrame, mkF, argsToLocals, Value.category]; done) | rfl
abbrev Q4_4_4 (Z : State) (a1 : Addr) (q4 : Int64) (v0 : Int32) (v1 : Int32) (v2 : Int32) (v3 : Int32) (h0 : Heap)  : Option Value → Heap → List Loc → Prop := (fun v h L => v = some (.int (f4_4_4 q4 v0 v1 v2 v3)) ∧ L = [] ∧ h = h0)
set_option maxRecDepth 65536 in
set_option maxHeartbeats 40000000 in
theorem rm4_4_4 (l : Launch) (Z : State) (a0 : Array Value) (hw : ∀ d ∈ tables_1, d.before a0 Z = true) (ws : List Jvm.Cond) (a1 : Addr) (q4 : Int64) (v0 : Int32) (v1 : Int32) (v2 : Int32) (v3 : Int32) (h0 : Heap) (R0 : OA Z h0 a1 .int [(.int v0), (.int v1), (.int v2), (.int v3)]) :
    OMet l Z (⟨"com/example/fragmark/fragmark/TermTokens", "indexFrom", "([IIIJ)I"⟩ : MethodName) prog_44_method_10_code 8 (some .int) ws ({ frames := 0, cells := 0, slots := 0, locals := 0 } : Room) #[(.ref a1), (.int (4 : Int32)), (.int (4 : Int32)), (.long q4)] h0 (Q4_4_4 Z a1 q4 v0 v1 v2 v3 h0) := by
  refine own_enter pn_4 ?_
  intro p e s m below meth c s₁ hx hby hml0 hown hret hlk hnm hZ X0 e0
  have hml : c.maxLocals = 8 := hml0
  have B : BX p c prog_44_method_10_code := ⟨hx, hby⟩
  refine own_cast (ef_4_4_4 m a1 q4) ?_
  show OG p e ({ frames := 0, cells := 0, slots := 0, locals := 0 } : Room) s below (fun v h L => v = some (.int (f4_4_4 q4 v0 v1 v2 v3)) ∧ L = [] ∧ h = h0) s₁ (mkF m 0 #[.val (.ref a1), .val (.int (4 : Int32)), .val (.int (4 : Int32)), .val (.long q4), .second, .unset, .unset, .unset] [])
  refine wiloadN OGc 1 X0 B d4_0 rfl rfl ?_
  refine wistore OGc 3 X0 B d4_1 #[.val (.ref a1), .val (.int (4 : Int32)), .val (.int (4 : Int32)), .val (.long q4), .second, .val (.int (4 : Int32)), .unset, .unset] rfl rfl ?_
  refine wiloadN OGc 4 X0 B d4_3 rfl rfl ?_
  refine wistore OGc 6 X0 B d4_4 #[.val (.ref a1), .val (.int (4 : Int32)), .val (.int (4 : Int32)), .val (.long q4), .second, .val (.int (4 : Int32)), .val (.int (4 : Int32)), .unset] rfl rfl ?_
  refine wiload OGc 8 X0 B d4_6 rfl rfl ?_
  refine wiload OGc 10 X0 B d4_8 rfl rfl ?_
  refine wicmpYes OGc 48 X0 B d4_10 (by decide) rfl ?_
  refine wiload OGc 50 X0 B d4_48 rfl rfl ?_
  exact own_retI X0 hx hret hlk (hb hby d4_50) (by decide) (by decide) ⟨congrArg (fun z => some (Value.int z)) (show f4_4_4 q4 v0 v1 v2 v3 = (4 : Int32) from (by rw [f4_4_4])).symm, rfl, e0⟩
theorem pd__II_I : parseMethodDescriptor "(II)I" = some ⟨[.int, .int], some .int⟩ := by decide +kernel
theorem pd___IIIIJ_I : parseMethodDescriptor "([IIIIJ)I" = some ⟨[(.array .int), .int, .int, .int, .long], some .int⟩ := by decide +kernel
theorem pd___IIIJ_I : parseMethodDescriptor "([IIIJ)I" = some ⟨[(.array .int), .int, .int, .long], some .int⟩ := by decide +kernel
theorem pn_0 : plainFor (⟨"com/example/fragmark/fragmark/TermTokensIndexFromPinLaw", "law", "(IIIIJI)Z"⟩ : MethodName) = true := by first | exact plainFor_of_name (by first | (simp [plainName, overriddenIn]; done) | decide +kernel) | decide +kernel
def g0_1 (p1 : Int32) (p2 : Int32) (p3 : Int32) (p4 : Int32) (q5 : Int64) (p6 : Int32) : Int32 := (f2 (f1 p1 p2) (f1 p3 p4))
def g0_2 (p1 : Int32) (p2 : Int32) (p3 : Int32) (p4 : Int32) (q5 : Int64) (p6 : Int32) : Int32 := (f1 (f2 p1 p2) (f2 p3 p4))
def g0_3 (p1 : Int32) (p2 : Int32) (p3 : Int32) (p4 : Int32) (q5 : Int64) (p6 : Int32) : Int32 := (f1 (f1 p1 p2) (f1 p3 p4))
def g0_4 (p1 : Int32) (p2 : Int32) (p3 : Int32) (p4 : Int32) (q5 : Int64) (p6 : Int32) : Int32 := (f1 (g0_1 p1 p2 p3 p4 q5 p6) (g0_2 p1 p2 p3 p4 q5 p6))
def g0_5 (p1 : Int32) (p2 : Int32) (p3 : Int32) (p4 : Int32) (q5 : Int64) (p6 : Int32) : Int32 := (f2 (g0_1 p1 p2 p3 p4 q5 p6) (g0_2 p1 p2 p3 p4 q5 p6))
def g0_6 (p1 : Int32) (p2 : Int32) (p3 : Int32) (p4 : Int32) (q5 : Int64) (p6 : Int32) : Int32 := (f2 (f2 p1 p2) (f2 p3 p4))
def g0_7 (p1 : Int32) (p2 : Int32) (p3 : Int32) (p4 : Int32) (q5 : Int64) (p6 : Int32) : Int32 := ((p6 &&& (2147483647 : Int32)) % (5 : Int32))
def g0_8 (p1 : Int32) (p2 : Int32) (p3 : Int32) (p4 : Int32) (q5 : Int64) (p6 : Int32) : Int32 := ((g0_7 p1 p2 p3 p4 q5 p6) + ((((p6.toUInt32 >>> ((4 : Int32) &&& 31).toUInt32).toInt32) &&& (255 : Int32)) % ((5 : Int32) - (g0_7 p1 p2 p3 p4 q5 p6))))
def g0_9 (p1 : Int32) (p2 : Int32) (p3 : Int32) (p4 : Int32) (q5 : Int64) (p6 : Int32) : Int64 := (((g0_3 p1 p2 p3 p4 q5 p6).toInt64) + (q5 - (q5 / (2 : Int64)) * (2 : Int64)))
def g0_10 (p1 : Int32) (p2 : Int32) (p3 : Int32) (p4 : Int32) (q5 : Int64) (p6 : Int32) : Int64 := (((g0_4 p1 p2 p3 p4 q5 p6).toInt64) + (q5 - (q5 / (2 : Int64)) * (2 : Int64)))
def g0_11 (p1 : Int32) (p2 : Int32) (p3 : Int32) (p4 : Int32) (q5 : Int64) (p6 : Int32) : Int64 := (((g0_5 p1 p2 p3 p4 q5 p6).toInt64) + (q5 - (q5 / (2 : Int64)) * (2 : Int64)))
def g0_12 (p1 : Int32) (p2 : Int32) (p3 : Int32) (p4 : Int32) (q5 : Int64) (p6 : Int32) : Int64 := (((g0_6 p1 p2 p3 p4 q5 p6).toInt64) + (q5 - (q5 / (2 : Int64)) * (2 : Int64)))
def g0_13 (p1 : Int32) (p2 : Int32) (p3 : Int32) (p4 : Int32) (q5 : Int64) (p6 : Int32) : Int64 := (if (((p6.toUInt32 >>> ((12 : Int32) &&& 31).toUInt32).toInt32) &&& (1 : Int32)) = (0 : Int32) then q5 else (if (((p6.toUInt32 >>> ((13 : Int32) &&& 31).toUInt32).toInt32) &&& (3 : Int32)) = (0 : Int32) then (g0_9 p1 p2 p3 p4 q5 p6) else (if (((p6.toUInt32 >>> ((13 : Int32) &&& 31).toUInt32).toInt32) &&& (3 : Int32)) = (1 : Int32) then (g0_10 p1 p2 p3 p4 q5 p6) else (if (((p6.toUInt32 >>> ((13 : Int32) &&& 31).toUInt32).toInt32) &&& (3 : Int32)) = (2 : Int32) then (g0_11 p1 p2 p3 p4 q5 p6) else (if (((p6.toUInt32 >>> ((13 : Int32) &&& 31).toUInt32).toInt32) &&& (3 : Int32)) = (3 : Int32) then (g0_12 p1 p2 p3 p4 q5 p6) else 0)))))
def g0_14 (p1 : Int32) (p2 : Int32) (p3 : Int32) (p4 : Int32) (q5 : Int64) (p6 : Int32) : Int32 := (((((0 : Int32) + (f3_0 (0 : Int32) (0 : Int32) (g0_13 p1 p2 p3 p4 q5 p6) (g0_3 p1 p2 p3 p4 q5 p6) (g0_4 p1 p2 p3 p4 q5 p6) (g0_5 p1 p2 p3 p4 q5 p6) (g0_6 p1 p2 p3 p4 q5 p6))) + (f3_1 (0 : Int32) (0 : Int32) (g0_13 p1 p2 p3 p4 q5 p6) (g0_3 p1 p2 p3 p4 q5 p6) (g0_4 p1 p2 p3 p4 q5 p6) (g0_5 p1 p2 p3 p4 q5 p6) (g0_6 p1 p2 p3 p4 q5 p6))) + (f3_2 (0 : Int32) (0 : Int32) (g0_13 p1 p2 p3 p4 q5 p6) (g0_3 p1 p2 p3 p4 q5 p6) (g0_4 p1 p2 p3 p4 q5 p6) (g0_5 p1 p2 p3 p4 q5 p6) (g0_6 p1 p2 p3 p4 q5 p6))) + (f3_3 (0 : Int32) (0 : Int32) (g0_13 p1 p2 p3 p4 q5 p6) (g0_3 p1 p2 p3 p4 q5 p6) (g0_4 p1 p2 p3 p4 q5 p6) (g0_5 p1 p2 p3 p4 q5 p6) (g0_6 p1 p2 p3 p4 q5 p6)))
def g0_15 (p1 : Int32) (p2 : Int32) (p3 : Int32) (p4 : Int32) (q5 : Int64) (p6 : Int32) : Int32 := (((((0 : Int32) + (f3_0 (0 : Int32) (1 : Int32) (g0_13 p1 p2 p3 p4 q5 p6) (g0_3 p1 p2 p3 p4 q5 p6) (g0_4 p1 p2 p3 p4 q5 p6) (g0_5 p1 p2 p3 p4 q5 p6) (g0_6 p1 p2 p3 p4 q5 p6))) + (f3_1 (0 : Int32) (1 : Int32) (g0_13 p1 p2 p3 p4 q5 p6) (g0_3 p1 p2 p3 p4 q5 p6) (g0_4 p1 p2 p3 p4 q5 p6) (g0_5 p1 p2 p3 p4 q5 p6) (g0_6 p1 p2 p3 p4 q5 p6))) + (f3_2 (0 : Int32) (1 : Int32) (g0_13 p1 p2 p3 p4 q5 p6) (g0_3 p1 p2 p3 p4 q5 p6) (g0_4 p1 p2 p3 p4 q5 p6) (g0_5 p1 p2 p3 p4 q5 p6) (g0_6 p1 p2 p3 p4 q5 p6))) + (f3_3 (0 : Int32) (1 : Int32) (g0_13 p1 p2 p3 p4 q5 p6) (g0_3 p1 p2 p3 p4 q5 p6) (g0_4 p1 p2 p3 p4 q5 p6) (g0_5 p1 p2 p3 p4 q5 p6) (g0_6 p1 p2 p3 p4 q5 p6)))
def g0_16 (p1 : Int32) (p2 : Int32) (p3 : Int32) (p4 : Int32) (q5 : Int64) (p6 : Int32) : Int32 := (((((0 : Int32) + (f3_0 (0 : Int32) (2 : Int32) (g0_13 p1 p2 p3 p4 q5 p6) (g0_3 p1 p2 p3 p4 q5 p6) (g0_4 p1 p2 p3 p4 q5 p6) (g0_5 p1 p2 p3 p4 q5 p6) (g0_6 p1 p2 p3 p4 q5 p6))) + (f3_1 (0 : Int32) (2 : Int32) (g0_13 p1 p2 p3 p4 q5 p6) (g0_3 p1 p2 p3 p4 q5 p6) (g0_4 p1 p2 p3 p4 q5 p6) (g0_5 p1 p2 p3 p4 q5 p6) (g0_6 p1 p2 p3 p4 q5 p6))) + (f3_2 (0 : Int32) (2 : Int32) (g0_13 p1 p2 p3 p4 q5 p6) (g0_3 p1 p2 p3 p4 q5 p6) (g0_4 p1 p2 p3 p4 q5 p6) (g0_5 p1 p2 p3 p4 q5 p6) (g0_6 p1 p2 p3 p4 q5 p6))) + (f3_3 (0 : Int32) (2 : Int32) (g0_13 p1 p2 p3 p4 q5 p6) (g0_3 p1 p2 p3 p4 q5 p6) (g0_4 p1 p2 p3 p4 q5 p6) (g0_5 p1 p2 p3 p4 q5 p6) (g0_6 p1 p2 p3 p4 q5 p6)))
def g0_17 (p1 : Int32) (p2 : Int32) (p3 : Int32) (p4 : Int32) (q5 : Int64) (p6 : Int32) : Int32 := (((((0 : Int32) + (f3_0 (0 : Int32) (3 : Int32) (g0_13 p1 p2 p3 p4 q5 p6) (g0_3 p1 p2 p3 p4 q5 p6) (g0_4 p1 p2 p3 p4 q5 p6) (g0_5 p1 p2 p3 p4 q5 p6) (g0_6 p1 p2 p3 p4 q5 p6))) + (f3_1 (0 : Int32) (3 : Int32) (g0_13 p1 p2 p3 p4 q5 p6) (g0_3 p1 p2 p3 p4 q5 p6) (g0_4 p1 p2 p3 p4 q5 p6) (g0_5 p1 p2 p3 p4 q5 p6) (g0_6 p1 p2 p3 p4 q5 p6))) + (f3_2 (0 : Int32) (3 : Int32) (g0_13 p1 p2 p3 p4 q5 p6) (g0_3 p1 p2 p3 p4 q5 p6) (g0_4 p1 p2 p3 p4 q5 p6) (g0_5 p1 p2 p3 p4 q5 p6) (g0_6 p1 p2 p3 p4 q5 p6))) + (f3_3 (0 : Int32) (3 : Int32) (g0_13 p1 p2 p3 p4 q5 p6) (g0_3 p1 p2 p3 p4 q5 p6) (g0_4 p1 p2 p3 p4 q5 p6) (g0_5 p1 p2 p3 p4 q5 p6) (g0_6 p1 p2 p3 p4 q5 p6)))
def g0_18 (p1 : Int32) (p2 : Int32) (p3 : Int32) (p4 : Int32) (q5 : Int64) (p6 : Int32) : Int32 := (((((0 : Int32) + (f3_0 (0 : Int32) (4 : Int32) (g0_13 p1 p2 p3 p4 q5 p6) (g0_3 p1 p2 p3 p4 q5 p6) (g0_4 p1 p2 p3 p4 q5 p6) (g0_5 p1 p2 p3 p4 q5 p6) (g0_6 p1 p2 p3 p4 q5 p6))) + (f3_1 (0 : Int32) (4 : Int32) (g0_13 p1 p2 p3 p4 q5 p6) (g0_3 p1 p2 p3 p4 q5 p6) (g0_4 p1 p2 p3 p4 q5 p6) (g0_5 p1 p2 p3 p4 q5 p6) (g0_6 p1 p2 p3 p4 q5 p6))) + (f3_2 (0 : Int32) (4 : Int32) (g0_13 p1 p2 p3 p4 q5 p6) (g0_3 p1 p2 p3 p4 q5 p6) (g0_4 p1 p2 p3 p4 q5 p6) (g0_5 p1 p2 p3 p4 q5 p6) (g0_6 p1 p2 p3 p4 q5 p6))) + (f3_3 (0 : Int32) (4 : Int32) (g0_13 p1 p2 p3 p4 q5 p6) (g0_3 p1 p2 p3 p4 q5 p6) (g0_4 p1 p2 p3 p4 q5 p6) (g0_5 p1 p2 p3 p4 q5 p6) (g0_6 p1 p2 p3 p4 q5 p6)))
def g0_19 (p1 : Int32) (p2 : Int32) (p3 : Int32) (p4 : Int32) (q5 : Int64) (p6 : Int32) : Int32 := (((((1 : Int32) + (f3_0 (1 : Int32) (1 : Int32) (g0_13 p1 p2 p3 p4 q5 p6) (g0_3 p1 p2 p3 p4 q5 p6) (g0_4 p1 p2 p3 p4 q5 p6) (g0_5 p1 p2 p3 p4 q5 p6) (g0_6 p1 p2 p3 p4 q5 p6))) + (f3_1 (1 : Int32) (1 : Int32) (g0_13 p1 p2 p3 p4 q5 p6) (g0_3 p1 p2 p3 p4 q5 p6) (g0_4 p1 p2 p3 p4 q5 p6) (g0_5 p1 p2 p3 p4 q5 p6) (g0_6 p1 p2 p3 p4 q5 p6))) + (f3_2 (1 : Int32) (1 : Int32) (g0_13 p1 p2 p3 p4 q5 p6) (g0_3 p1 p2 p3 p4 q5 p6) (g0_4 p1 p2 p3 p4 q5 p6) (g0_5 p1 p2 p3 p4 q5 p6) (g0_6 p1 p2 p3 p4 q5 p6))) + (f3_3 (1 : Int32) (1 : Int32) (g0_13 p1 p2 p3 p4 q5 p6) (g0_3 p1 p2 p3 p4 q5 p6) (g0_4 p1 p2 p3 p4 q5 p6) (g0_5 p1 p2 p3 p4 q5 p6) (g0_6 p1 p2 p3 p4 q5 p6)))
def g0_20 (p1 : Int32) (p2 : Int32) (p3 : Int32) (p4 : Int32) (q5 : Int64) (p6 : Int32) : Int32 := (((((1 : Int32) + (f3_0 (1 : Int32) (2 : Int32) (g0_13 p1 p2 p3 p4 q5 p6) (g0_3 p1 p2 p3 p4 q5 p6) (g0_4 p1 p2 p3 p4 q5 p6) (g0_5 p1 p2 p3 p4 q5 p6) (g0_6 p1 p2 p3 p4 q5 p6))) + (f3_1 (1 : Int32) (2 : Int32) (g0_13 p1 p2 p3 p4 q5 p6) (g0_3 p1 p2 p3 p4 q5 p6) (g0_4 p1 p2 p3 p4 q5 p6) (g0_5 p1 p2 p3 p4 q5 p6) (g0_6 p1 p2 p3 p4 q5 p6))) + (f3_2 (1 : Int32) (2 : Int32) (g0_13 p1 p2 p3 p4 q5 p6) (g0_3 p1 p2 p3 p4 q5 p6) (g0_4 p1 p2 p3 p4 q5 p6) (g0_5 p1 p2 p3 p4 q5 p6) (g0_6 p1 p2 p3 p4 q5 p6))) + (f3_3 (1 : Int32) (2 : Int32) (g0_13 p1 p2 p3 p4 q5 p6) (g0_3 p1 p2 p3 p4 q5 p6) (g0_4 p1 p2 p3 p4 q5 p6) (g0_5 p1 p2 p3 p4 q5 p6) (g0_6 p1 p2 p3 p4 q5 p6)))
def g0_21 (p1 : Int32) (p2 : Int32) (p3 : Int32) (p4 : Int32) (q5 : Int64) (p6 : Int32) : Int32 := (((((1 : Int32) + (f3_0 (1 : Int32) (3 : Int32) (g0_13 p1 p2 p3 p4 q5 p6) (g0_3 p1 p2 p3 p4 q5 p6) (g0_4 p1 p2 p3 p4 q5 p6) (g0_5 p1 p2 p3 p4 q5 p6) (g0_6 p1 p2 p3 p4 q5 p6))) + (f3_1 (1 : Int32) (3 : Int32) (g0_13 p1 p2 p3 p4 q5 p6) (g0_3 p1 p2 p3 p4 q5 p6) (g0_4 p1 p2 p3 p4 q5 p6) (g0_5 p1 p2 p3 p4 q5 p6) (g0_6 p1 p2 p3 p4 q5 p6))) + (f3_2 (1 : Int32) (3 : Int32) (g0_13 p1 p2 p3 p4 q5 p6) (g0_3 p1 p2 p3 p4 q5 p6) (g0_4 p1 p2 p3 p4 q5 p6) (g0_5 p1 p2 p3 p4 q5 p6) (g0_6 p1 p2 p3 p4 q5 p6))) + (f3_3 (1 : Int32) (3 : Int32) (g0_13 p1 p2 p3 p4 q5 p6) (g0_3 p1 p2 p3 p4 q5 p6) (g0_4 p1 p2 p3 p4 q5 p6) (g0_5 p1 p2 p3 p4 q5 p6) (g0_6 p1 p2 p3 p4 q5 p6)))
def g0_22 (p1 : Int32) (p2 : Int32) (p3 : Int32) (p4 : Int32) (q5 : Int64) (p6 : Int32) : Int32 := (((((1 : Int32) + (f3_0 (1 : Int32) (4 : Int32) (g0_13 p1 p2 p3 p4 q5 p6) (g0_3 p1 p2 p3 p4 q5 p6) (g0_4 p1 p2 p3 p4 q5 p6) (g0_5 p1 p2 p3 p4 q5 p6) (g0_6 p1 p2 p3 p4 q5 p6))) + (f3_1 (1 : Int32) (4 : Int32) (g0_13 p1 p2 p3 p4 q5 p6) (g0_3 p1 p2 p3 p4 q5 p6) (g0_4 p1 p2 p3 p4 q5 p6) (g0_5 p1 p2 p3 p4 q5 p6) (g0_6 p1 p2 p3 p4 q5 p6))) + (f3_2 (1 : Int32) (4 : Int32) (g0_13 p1 p2 p3 p4 q5 p6) (g0_3 p1 p2 p3 p4 q5 p6) (g0_4 p1 p2 p3 p4 q5 p6) (g0_5 p1 p2 p3 p4 q5 p6) (g0_6 p1 p2 p3 p4 q5 p6))) + (f3_3 (1 : Int32) (4 : Int32) (g0_13 p1 p2 p3 p4 q5 p6) (g0_3 p1 p2 p3 p4 q5 p6) (g0_4 p1 p2 p3 p4 q5 p6) (g0_5 p1 p2 p3 p4 q5 p6) (g0_6 p1 p2 p3 p4 q5 p6)))
def g0_23 (p1 : Int32) (p2 : Int32) (p3 : Int32) (p4 : Int32) (q5 : Int64) (p6 : Int32) : Int32 := (((((2 : Int32) + (f3_0 (2 : Int32) (2 : Int32) (g0_13 p1 p2 p3 p4 q5 p6) (g0_3 p1 p2 p3 p4 q5 p6) (g0_4 p1 p2 p3 p4 q5 p6) (g0_5 p1 p2 p3 p4 q5 p6) (g0_6 p1 p2 p3 p4 q5 p6))) + (f3_1 (2 : Int32) (2 : Int32) (g0_13 p1 p2 p3 p4 q5 p6) (g0_3 p1 p2 p3 p4 q5 p6) (g0_4 p1 p2 p3 p4 q5 p6) (g0_5 p1 p2 p3 p4 q5 p6) (g0_6 p1 p2 p3 p4 q5 p6))) + (f3_2 (2 : Int32) (2 : Int32) (g0_13 p1 p2 p3 p4 q5 p6) (g0_3 p1 p2 p3 p4 q5 p6) (g0_4 p1 p2 p3 p4 q5 p6) (g0_5 p1 p2 p3 p4 q5 p6) (g0_6 p1 p2 p3 p4 q5 p6))) + (f3_3 (2 : Int32) (2 : Int32) (g0_13 p1 p2 p3 p4 q5 p6) (g0_3 p1 p2 p3 p4 q5 p6) (g0_4 p1 p2 p3 p4 q5 p6) (g0_5 p1 p2 p3 p4 q5 p6) (g0_6 p1 p2 p3 p4 q5 p6)))
def g0_24 (p1 : Int32) (p2 : Int32) (p3 : Int32) (p4 : Int32) (q5 : Int64) (p6 : Int32) : Int32 := (((((2 : Int32) + (f3_0 (2 : Int32) (3 : Int32) (g0_13 p1 p2 p3 p4 q5 p6) (g0_3 p1 p2 p3 p4 q5 p6) (g0_4 p1 p2 p3 p4 q5 p6) (g0_5 p1 p2 p3 p4 q5 p6) (g0_6 p1 p2 p3 p4 q5 p6))) + (f3_1 (2 : Int32) (3 : Int32) (g0_13 p1 p2 p3 p4 q5 p6) (g0_3 p1 p2 p3 p4 q5 p6) (g0_4 p1 p2 p3 p4 q5 p6) (g0_5 p1 p2 p3 p4 q5 p6) (g0_6 p1 p2 p3 p4 q5 p6))) + (f3_2 (2 : Int32) (3 : Int32) (g0_13 p1 p2 p3 p4 q5 p6) (g0_3 p1 p2 p3 p4 q5 p6) (g0_4 p1 p2 p3 p4 q5 p6) (g0_5 p1 p2 p3 p4 q5 p6) (g0_6 p1 p2 p3 p4 q5 p6))) + (f3_3 (2 : Int32) (3 : Int32) (g0_13 p1 p2 p3 p4 q5 p6) (g0_3 p1 p2 p3 p4 q5 p6) (g0_4 p1 p2 p3 p4 q5 p6) (g0_5 p1 p2 p3 p4 q5 p6) (g0_6 p1 p2 p3 p4 q5 p6)))
def g0_25 (p1 : Int32) (p2 : Int32) (p3 : Int32) (p4 : Int32) (q5 : Int64) (p6 : Int32) : Int32 := (((((2 : Int32) + (f3_0 (2 : Int32) (4 : Int32) (g0_13 p1 p2 p3 p4 q5 p6) (g0_3 p1 p2 p3 p4 q5 p6) (g0_4 p1 p2 p3 p4 q5 p6) (g0_5 p1 p2 p3 p4 q5 p6) (g0_6 p1 p2 p3 p4 q5 p6))) + (f3_1 (2 : Int32) (4 : Int32) (g0_13 p1 p2 p3 p4 q5 p6) (g0_3 p1 p2 p3 p4 q5 p6) (g0_4 p1 p2 p3 p4 q5 p6) (g0_5 p1 p2 p3 p4 q5 p6) (g0_6 p1 p2 p3 p4 q5 p6))) + (f3_2 (2 : Int32) (4 : Int32) (g0_13 p1 p2 p3 p4 q5 p6) (g0_3 p1 p2 p3 p4 q5 p6) (g0_4 p1 p2 p3 p4 q5 p6) (g0_5 p1 p2 p3 p4 q5 p6) (g0_6 p1 p2 p3 p4 q5 p6))) + (f3_3 (2 : Int32) (4 : Int32) (g0_13 p1 p2 p3 p4 q5 p6) (g0_3 p1 p2 p3 p4 q5 p6) (g0_4 p1 p2 p3 p4 q5 p6) (g0_5 p1 p2 p3 p4 q5 p6) (g0_6 p1 p2 p3 p4 q5 p6)))
def g0_26 (p1 : Int32) (p2 : Int32) (p3 : Int32) (p4 : Int32) (q5 : Int64) (p6 : Int32) : Int32 := (((((3 : Int32) + (f3_0 (3 : Int32) (3 : Int32) (g0_13 p1 p2 p3 p4 q5 p6) (g0_3 p1 p2 p3 p4 q5 p6) (g0_4 p1 p2 p3 p4 q5 p6) (g0_5 p1 p2 p3 p4 q5 p6) (g0_6 p1 p2 p3 p4 q5 p6))) + (f3_1 (3 : Int32) (3 : Int32) (g0_13 p1 p2 p3 p4 q5 p6) (g0_3 p1 p2 p3 p4 q5 p6) (g0_4 p1 p2 p3 p4 q5 p6) (g0_5 p1 p2 p3 p4 q5 p6) (g0_6 p1 p2 p3 p4 q5 p6))) + (f3_2 (3 : Int32) (3 : Int32) (g0_13 p1 p2 p3 p4 q5 p6) (g0_3 p1 p2 p3 p4 q5 p6) (g0_4 p1 p2 p3 p4 q5 p6) (g0_5 p1 p2 p3 p4 q5 p6) (g0_6 p1 p2 p3 p4 q5 p6))) + (f3_3 (3 : Int32) (3 : Int32) (g0_13 p1 p2 p3 p4 q5 p6) (g0_3 p1 p2 p3 p4 q5 p6) (g0_4 p1 p2 p3 p4 q5 p6) (g0_5 p1 p2 p3 p4 q5 p6) (g0_6 p1 p2 p3 p4 q5 p6)))
def g0_27 (p1 : Int32) (p2 : Int32) (p3 : Int32) (p4 : Int32) (q5 : Int64) (p6 : Int32) : Int32 := (((((3 : Int32) + (f3_0 (3 : Int32) (4 : Int32) (g0_13 p1 p2 p3 p4 q5 p6) (g0_3 p1 p2 p3 p4 q5 p6) (g0_4 p1 p2 p3 p4 q5 p6) (g0_5 p1 p2 p3 p4 q5 p6) (g0_6 p1 p2 p3 p4 q5 p6))) + (f3_1 (3 : Int32) (4 : Int32) (g0_13 p1 p2 p3 p4 q5 p6) (g0_3 p1 p2 p3 p4 q5 p6) (g0_4 p1 p2 p3 p4 q5 p6) (g0_5 p1 p2 p3 p4 q5 p6) (g0_6 p1 p2 p3 p4 q5 p6))) + (f3_2 (3 : Int32) (4 : Int32) (g0_13 p1 p2 p3 p4 q5 p6) (g0_3 p1 p2 p3 p4 q5 p6) (g0_4 p1 p2 p3 p4 q5 p6) (g0_5 p1 p2 p3 p4 q5 p6) (g0_6 p1 p2 p3 p4 q5 p6))) + (f3_3 (3 : Int32) (4 : Int32) (g0_13 p1 p2 p3 p4 q5 p6) (g0_3 p1 p2 p3 p4 q5 p6) (g0_4 p1 p2 p3 p4 q5 p6) (g0_5 p1 p2 p3 p4 q5 p6) (g0_6 p1 p2 p3 p4 q5 p6)))
def g0_28 (p1 : Int32) (p2 : Int32) (p3 : Int32) (p4 : Int32) (q5 : Int64) (p6 : Int32) : Int32 := (((((4 : Int32) + (f3_0 (4 : Int32) (4 : Int32) (g0_13 p1 p2 p3 p4 q5 p6) (g0_3 p1 p2 p3 p4 q5 p6) (g0_4 p1 p2 p3 p4 q5 p6) (g0_5 p1 p2 p3 p4 q5 p6) (g0_6 p1 p2 p3 p4 q5 p6))) + (f3_1 (4 : Int32) (4 : Int32) (g0_13 p1 p2 p3 p4 q5 p6) (g0_3 p1 p2 p3 p4 q5 p6) (g0_4 p1 p2 p3 p4 q5 p6) (g0_5 p1 p2 p3 p4 q5 p6) (g0_6 p1 p2 p3 p4 q5 p6))) + (f3_2 (4 : Int32) (4 : Int32) (g0_13 p1 p2 p3 p4 q5 p6) (g0_3 p1 p2 p3 p4 q5 p6) (g0_4 p1 p2 p3 p4 q5 p6) (g0_5 p1 p2 p3 p4 q5 p6) (g0_6 p1 p2 p3 p4 q5 p6))) + (f3_3 (4 : Int32) (4 : Int32) (g0_13 p1 p2 p3 p4 q5 p6) (g0_3 p1 p2 p3 p4 q5 p6) (g0_4 p1 p2 p3 p4 q5 p6) (g0_5 p1 p2 p3 p4 q5 p6) (g0_6 p1 p2 p3 p4 q5 p6)))
def f0 (p1 : Int32) (p2 : Int32) (p3 : Int32) (p4 : Int32) (q5 : Int64) (p6 : Int32) : Int32 := (if (g0_7 p1 p2 p3 p4 q5 p6) = (0 : Int32) then (if (g0_8 p1 p2 p3 p4 q5 p6) = (0 : Int32) then (if (f4_0_0 (g0_13 p1 p2 p3 p4 q5 p6) (g0_3 p1 p2 p3 p4 q5 p6) (g0_4 p1 p2 p3 p4 q5 p6) (g0_5 p1 p2 p3 p4 q5 p6) (g0_6 p1 p2 p3 p4 q5 p6)) = (g0_14 p1 p2 p3 p4 q5 p6) then (1 : Int32) else (0 : Int32)) else (if (g0_8 p1 p2 p3 p4 q5 p6) = (1 : Int32) then (if (f4_0_1 (g0_13 p1 p2 p3 p4 q5 p6) (g0_3 p1 p2 p3 p4 q5 p6) (g0_4 p1 p2 p3 p4 q5 p6) (g0_5 p1 p2 p3 p4 q5 p6) (g0_6 p1 p2 p3 p4 q5 p6)) = (g0_15 p1 p2 p3 p4 q5 p6) then (1 : Int32) else (0 : Int32)) else (if (g0_8 p1 p2 p3 p4 q5 p6) = (2 : Int32) then (if (f4_0_2 (g0_13 p1 p2 p3 p4 q5 p6) (g0_3 p1 p2 p3 p4 q5 p6) (g0_4 p1 p2 p3 p4 q5 p6) (g0_5 p1 p2 p3 p4 q5 p6) (g0_6 p1 p2 p3 p4 q5 p6)) = (g0_16 p1 p2 p3 p4 q5 p6) then (1 : Int32) else (0 : Int32)) else (if (g0_8 p1 p2 p3 p4 q5 p6) = (3 : Int32) then (if (f4_0_3 (g0_13 p1 p2 p3 p4 q5 p6) (g0_3 p1 p2 p3 p4 q5 p6) (g0_4 p1 p2 p3 p4 q5 p6) (g0_5 p1 p2 p3 p4 q5 p6) (g0_6 p1 p2 p3 p4 q5 p6)) = (g0_17 p1 p2 p3 p4 q5 p6) then (1 : Int32) else (0 : Int32)) else (if (g0_8 p1 p2 p3 p4 q5 p6) = (4 : Int32) then (if (f4_0_4 (g0_13 p1 p2 p3 p4 q5 p6) (g0_3 p1 p2 p3 p4 q5 p6) (g0_4 p1 p2 p3 p4 q5 p6) (g0_5 p1 p2 p3 p4 q5 p6) (g0_6 p1 p2 p3 p4 q5 p6)) = (g0_18 p1 p2 p3 p4 q5 p6) then (1 : Int32) else (0 : Int32)) else 0))))) else (if (g0_7 p1 p2 p3 p4 q5 p6) = (1 : Int32) then (if (g0_8 p1 p2 p3 p4 q5 p6) = (1 : Int32) then (if (f4_1_1 (g0_13 p1 p2 p3 p4 q5 p6) (g0_3 p1 p2 p3 p4 q5 p6) (g0_4 p1 p2 p3 p4 q5 p6) (g0_5 p1 p2 p3 p4 q5 p6) (g0_6 p1 p2 p3 p4 q5 p6)) = (g0_19 p1 p2 p3 p4 q5 p6) then (1 : Int32) else (0 : Int32)) else (if (g0_8 p1 p2 p3 p4 q5 p6) = (2 : Int32) then (if (f4_1_2 (g0_13 p1 p2 p3 p4 q5 p6) (g0_3 p1 p2 p3 p4 q5 p6) (g0_4 p1 p2 p3 p4 q5 p6) (g0_5 p1 p2 p3 p4 q5 p6) (g0_6 p1 p2 p3 p4 q5 p6)) = (g0_20 p1 p2 p3 p4 q5 p6) then (1 : Int32) else (0 : Int32)) else (if (g0_8 p1 p2 p3 p4 q5 p6) = (3 : Int32) then (if (f4_1_3 (g0_13 p1 p2 p3 p4 q5 p6) (g0_3 p1 p2 p3 p4 q5 p6) (g0_4 p1 p2 p3 p4 q5 p6) (g0_5 p1 p2 p3 p4 q5 p6) (g0_6 p1 p2 p3 p4 q5 p6)) = (g0_21 p1 p2 p3 p4 q5 p6) then (1 : Int32) else (0 : Int32)) else (if (g0_8 p1 p2 p3 p4 q5 p6) = (4 : Int32) then (if (f4_1_4 (g0_13 p1 p2 p3 p4 q5 p6) (g0_3 p1 p2 p3 p4 q5 p6) (g0_4 p1 p2 p3 p4 q5 p6) (g0_5 p1 p2 p3 p4 q5 p6) (g0_6 p1 p2 p3 p4 q5 p6)) = (g0_22 p1 p2 p3 p4 q5 p6) then (1 : Int32) else (0 : Int32)) else 0)))) else (if (g0_7 p1 p2 p3 p4 q5 p6) = (2 : Int32) then (if (g0_8 p1 p2 p3 p4 q5 p6) = (2 : Int32) then (if (f4_2_2 (g0_13 p1 p2 p3 p4 q5 p6) (g0_3 p1 p2 p3 p4 q5 p6) (g0_4 p1 p2 p3 p4 q5 p6) (g0_5 p1 p2 p3 p4 q5 p6) (g0_6 p1 p2 p3 p4 q5 p6)) = (g0_23 p1 p2 p3 p4 q5 p6) then (1 : Int32) else (0 : Int32)) else (if (g0_8 p1 p2 p3 p4 q5 p6) = (3 : Int32) then (if (f4_2_3 (g0_13 p1 p2 p3 p4 q5 p6) (g0_3 p1 p2 p3 p4 q5 p6) (g0_4 p1 p2 p3 p4 q5 p6) (g0_5 p1 p2 p3 p4 q5 p6) (g0_6 p1 p2 p3 p4 q5 p6)) = (g0_24 p1 p2 p3 p4 q5 p6) then (1 : Int32) else (0 : Int32)) else (if (g0_8 p1 p2 p3 p4 q5 p6) = (4 : Int32) then (if (f4_2_4 (g0_13 p1 p2 p3 p4 q5 p6) (g0_3 p1 p2 p3 p4 q5 p6) (g0_4 p1 p2 p3 p4 q5 p6) (g0_5 p1 p2 p3 p4 q5 p6) (g0_6 p1 p2 p3 p4 q5 p6)) = (g0_25 p1 p2 p3 p4 q5 p6) then (1 : Int32) else (0 : Int32)) else 0))) else (if (g0_7 p1 p2 p3 p4 q5 p6) = (3 : Int32) then (if (g0_8 p1 p2 p3 p4 q5 p6) = (3 : Int32) then (if (f4_3_3 (g0_13 p1 p2 p3 p4 q5 p6) (g0_3 p1 p2 p3 p4 q5 p6) (g0_4 p1 p2 p3 p4 q5 p6) (g0_5 p1 p2 p3 p4 q5 p6) (g0_6 p1 p2 p3 p4 q5 p6)) = (g0_26 p1 p2 p3 p4 q5 p6) then (1 : Int32) else (0 : Int32)) else (if (g0_8 p1 p2 p3 p4 q5 p6) = (4 : Int32) then (if (f4_3_4 (g0_13 p1 p2 p3 p4 q5 p6) (g0_3 p1 p2 p3 p4 q5 p6) (g0_4 p1 p2 p3 p4 q5 p6) (g0_5 p1 p2 p3 p4 q5 p6) (g0_6 p1 p2 p3 p4 q5 p6)) = (g0_27 p1 p2 p3 p4 q5 p6) then (1 : Int32) else (0 : Int32)) else 0)) else (if (g0_7 p1 p2 p3 p4 q5 p6) = (4 : Int32) then (if (g0_8 p1 p2 p3 p4 q5 p6) = (4 : Int32) then (if (f4_4_4 (g0_13 p1 p2 p3 p4 q5 p6) (g0_3 p1 p2 p3 p4 q5 p6) (g0_4 p1 p2 p3 p4 q5 p6) (g0_5 p1 p2 p3 p4 q5 p6) (g0_6 p1 p2 p3 p4 q5 p6)) = (g0_28 p1 p2 p3 p4 q5 p6) then (1 : Int32) else (0 : Int32)) else 0) else 0)))))
theorem own_r7 (p1 p2 p3 p4 : Int32) (q5 : Int64) (p6 : Int32) : 0 ≤ (g0_7 p1 p2 p3 p4 q5 p6).toInt ∧ (g0_7 p1 p2 p3 p4 q5 p6).toInt < 5 := by
  have h1 := c_mask p6 2147483647 31 (by decide) (by decide)
  have h2 := (c_irem (p6 &&& 2147483647) 5 5 (by decide)).1
  have hr := rng32 p6
  rw [h1] at h2
  show 0 ≤ ((p6 &&& 2147483647) % 5 : Int32).toInt ∧ ((p6 &&& 2147483647) % 5 : Int32).toInt < 5
  rw [h2 (by omega)]; omega
theorem own_nz (p1 p2 p3 p4 : Int32) (q5 : Int64) (p6 : Int32) : ((5 : Int32) - (g0_7 p1 p2 p3 p4 q5 p6)) ≠ 0 := by
  have h := own_r7 p1 p2 p3 p4 q5 p6
  generalize g0_7 p1 p2 p3 p4 q5 p6 = g at *
  intro q
  have q' : ((5 : Int32) - g).toInt = 0 := by rw [q]; decide
  have s := c_isub 5 g
  have k5 : (5 : Int32).toInt = 5 := by decide
  rw [q', k5] at s
  omega
theorem own_r8 (p1 p2 p3 p4 : Int32) (q5 : Int64) (p6 : Int32) : (g0_7 p1 p2 p3 p4 q5 p6).toInt ≤ (g0_8 p1 p2 p3 p4 q5 p6).toInt ∧ (g0_8 p1 p2 p3 p4 q5 p6).toInt < 5 := by
  have h := own_r7 p1 p2 p3 p4 q5 p6
  rw [g0_8]
  generalize g0_7 p1 p2 p3 p4 q5 p6 = g at *
  have s1 := c_isub 5 g
  have s2 := rng32 (5 - g)
  have k5 : (5 : Int32).toInt = 5 := by decide
  rw [k5] at s1
  have d : (5 - g).toInt = 5 - g.toInt := by omega
  have m := c_mask ((p6.toUInt32 >>> ((4 : Int32) &&& 31).toUInt32).toInt32) 255 8 (by decide) (by decide)
  generalize (((p6.toUInt32 >>> ((4 : Int32) &&& 31).toUInt32).toInt32) &&& (255 : Int32)) = y at *
  have r := (c_iremV y (5 - g)).1 (by omega) (by omega)
  have a1 := c_iadd g (y % (5 - g))
  have a2 := rng32 (g + y % (5 - g))
  omega
theorem own_ri (p1 p2 p3 p4 : Int32) (q5 : Int64) (p6 : Int32) (c0 : ¬ (((p6.toUInt32 >>> ((13 : Int32) &&& 31).toUInt32).toInt32) &&& (3 : Int32)) = (0 : Int32)) (c1 : ¬ (((p6.toUInt32 >>> ((13 : Int32) &&& 31).toUInt32).toInt32) &&& (3 : Int32)) = (1 : Int32)) (c2 : ¬ (((p6.toUInt32 >>> ((13 : Int32) &&& 31).toUInt32).toInt32) &&& (3 : Int32)) = (2 : Int32)) (c3 : ¬ (((p6.toUInt32 >>> ((13 : Int32) &&& 31).toUInt32).toInt32) &&& (3 : Int32)) = (3 : Int32)) : False := by
  have m := c_mask ((p6.toUInt32 >>> ((13 : Int32) &&& 31).toUInt32).toInt32) 3 2 (by decide) (by decide)
  generalize (((p6.toUInt32 >>> ((13 : Int32) &&& 31).toUInt32).toInt32) &&& (3 : Int32)) = y at *
  simp only [← Int32.toInt_inj] at c0 c1 c2 c3
  have k0 : (0 : Int32).toInt = 0 := by decide
  have k1 : (1 : Int32).toInt = 1 := by decide
  have k2 : (2 : Int32).toInt = 2 := by decide
  have k3 : (3 : Int32).toInt = 3 := by decide
  have k4 : (4 : Int32).toInt = 4 := by decide
  have k5 : (5 : Int32).toInt = 5 := by decide
  omega
theorem own_rf (p1 p2 p3 p4 : Int32) (q5 : Int64) (p6 : Int32) (c0 : ¬ (g0_7 p1 p2 p3 p4 q5 p6) = (0 : Int32)) (c1 : ¬ (g0_7 p1 p2 p3 p4 q5 p6) = (1 : Int32)) (c2 : ¬ (g0_7 p1 p2 p3 p4 q5 p6) = (2 : Int32)) (c3 : ¬ (g0_7 p1 p2 p3 p4 q5 p6) = (3 : Int32)) (c4 : ¬ (g0_7 p1 p2 p3 p4 q5 p6) = (4 : Int32)) : False := by
  have h := own_r7 p1 p2 p3 p4 q5 p6
  simp only [← Int32.toInt_inj] at c0 c1 c2 c3 c4
  have k0 : (0 : Int32).toInt = 0 := by decide
  have k1 : (1 : Int32).toInt = 1 := by decide
  have k2 : (2 : Int32).toInt = 2 := by decide
  have k3 : (3 : Int32).toInt = 3 := by decide
  have k4 : (4 : Int32).toInt = 4 := by decide
  have k5 : (5 : Int32).toInt = 5 := by decide
  omega
theorem own_rt0 (p1 p2 p3 p4 : Int32) (q5 : Int64) (p6 : Int32) (e : (g0_7 p1 p2 p3 p4 q5 p6) = (0 : Int32)) (c0 : ¬ (g0_8 p1 p2 p3 p4 q5 p6) = (0 : Int32)) (c1 : ¬ (g0_8 p1 p2 p3 p4 q5 p6) = (1 : Int32)) (c2 : ¬ (g0_8 p1 p2 p3 p4 q5 p6) = (2 : Int32)) (c3 : ¬ (g0_8 p1 p2 p3 p4 q5 p6) = (3 : Int32)) (c4 : ¬ (g0_8 p1 p2 p3 p4 q5 p6) = (4 : Int32)) : False := by
  have h := own_r8 p1 p2 p3 p4 q5 p6
  rw [e] at h
  simp only [← Int32.toInt_inj] at c0 c1 c2 c3 c4
  have k0 : (0 : Int32).toInt = 0 := by decide
  have k1 : (1 : Int32).toInt = 1 := by decide
  have k2 : (2 : Int32).toInt = 2 := by decide
  have k3 : (3 : Int32).toInt = 3 := by decide
  have k4 : (4 : Int32).toInt = 4 := by decide
  have k5 : (5 : Int32).toInt = 5 := by decide
  omega
theorem own_rt1 (p1 p2 p3 p4 : Int32) (q5 : Int64) (p6 : Int32) (e : (g0_7 p1 p2 p3 p4 q5 p6) = (1 : Int32)) (c1 : ¬ (g0_8 p1 p2 p3 p4 q5 p6) = (1 : Int32)) (c2 : ¬ (g0_8 p1 p2 p3 p4 q5 p6) = (2 : Int32)) (c3 : ¬ (g0_8 p1 p2 p3 p4 q5 p6) = (3 : Int32)) (c4 : ¬ (g0_8 p1 p2 p3 p4 q5 p6) = (4 : Int32)) : False := by
  have h := own_r8 p1 p2 p3 p4 q5 p6
  rw [e] at h
  simp only [← Int32.toInt_inj] at c1 c2 c3 c4
  have k0 : (0 : Int32).toInt = 0 := by decide
  have k1 : (1 : Int32).toInt = 1 := by decide
  have k2 : (2 : Int32).toInt = 2 := by decide
  have k3 : (3 : Int32).toInt = 3 := by decide
  have k4 : (4 : Int32).toInt = 4 := by decide
  have k5 : (5 : Int32).toInt = 5 := by decide
  omega
theorem own_rt2 (p1 p2 p3 p4 : Int32) (q5 : Int64) (p6 : Int32) (e : (g0_7 p1 p2 p3 p4 q5 p6) = (2 : Int32)) (c2 : ¬ (g0_8 p1 p2 p3 p4 q5 p6) = (2 : Int32)) (c3 : ¬ (g0_8 p1 p2 p3 p4 q5 p6) = (3 : Int32)) (c4 : ¬ (g0_8 p1 p2 p3 p4 q5 p6) = (4 : Int32)) : False := by
  have h := own_r8 p1 p2 p3 p4 q5 p6
  rw [e] at h
  simp only [← Int32.toInt_inj] at c2 c3 c4
  have k0 : (0 : Int32).toInt = 0 := by decide
  have k1 : (1 : Int32).toInt = 1 := by decide
  have k2 : (2 : Int32).toInt = 2 := by decide
  have k3 : (3 : Int32).toInt = 3 := by decide
  have k4 : (4 : Int32).toInt = 4 := by decide
  have k5 : (5 : Int32).toInt = 5 := by decide
  omega
theorem own_rt3 (p1 p2 p3 p4 : Int32) (q5 : Int64) (p6 : Int32) (e : (g0_7 p1 p2 p3 p4 q5 p6) = (3 : Int32)) (c3 : ¬ (g0_8 p1 p2 p3 p4 q5 p6) = (3 : Int32)) (c4 : ¬ (g0_8 p1 p2 p3 p4 q5 p6) = (4 : Int32)) : False := by
  have h := own_r8 p1 p2 p3 p4 q5 p6
  rw [e] at h
  simp only [← Int32.toInt_inj] at c3 c4
  have k0 : (0 : Int32).toInt = 0 := by decide
  have k1 : (1 : Int32).toInt = 1 := by decide
  have k2 : (2 : Int32).toInt = 2 := by decide
  have k3 : (3 : Int32).toInt = 3 := by decide
  have k4 : (4 : Int32).toInt = 4 := by decide
  have k5 : (5 : Int32).toInt = 5 := by decide
  omega
theorem own_rt4 (p1 p2 p3 p4 : Int32) (q5 : Int64) (p6 : Int32) (e : (g0_7 p1 p2 p3 p4 q5 p6) = (4 : Int32)) (c4 : ¬ (g0_8 p1 p2 p3 p4 q5 p6) = (4 : Int32)) : False := by
  have h := own_r8 p1 p2 p3 p4 q5 p6
  rw [e] at h
  simp only [← Int32.toInt_inj] at c4
  have k0 : (0 : Int32).toInt = 0 := by decide
  have k1 : (1 : Int32).toInt = 1 := by decide
  have k2 : (2 : Int32).toInt = 2 := by decide
  have k3 : (3 : Int32).toInt = 3 := by decide
  have k4 : (4 : Int32).toInt = 4 := by decide
  have k5 : (5 : Int32).toInt = 5 := by decide
  omega

theorem ef_0 (m : MethodId) (p1 : Int32) (p2 : Int32) (p3 : Int32) (p4 : Int32) (q5 : Int64) (p6 : Int32) : entryFrame m #[(.int p1), (.int p2), (.int p3), (.int p4), (.long q5), (.int p6)] 19 = (mkF m 0 #[.val (.int p1), .val (.int p2), .val (.int p3), .val (.int p4), .val (.long q5), .second, .val (.int p6), .unset, .unset, .unset, .unset, .unset, .unset, .unset, .unset, .unset, .unset, .unset, .unset] []) := by first | (simp [entryFrame, mkF, argsToLocals, Value.category]; done) | rfl
abbrev Q0 (Z : State) (p1 : Int32) (p2 : Int32) (p3 : Int32) (p4 : Int32) (q5 : Int64) (p6 : Int32) (h0 : Heap) (n0 : Nat) : Option Value → Heap → List Loc → Prop := (fun v h L => v = some (.int (f0 p1 p2 p3 p4 q5 p6)) ∧ Fr n0 L)
set_option maxRecDepth 65536 in
set_option maxHeartbeats 40000000 in
theorem rm0 (l : Launch) (Z : State) (a0 : Array Value) (hw : ∀ d ∈ tables_1, d.before a0 Z = true) (ws : List Jvm.Cond) (p1 : Int32) (p2 : Int32) (p3 : Int32) (p4 : Int32) (q5 : Int64) (p6 : Int32) (h0 : Heap) (n0 : Nat) (Z0 : n0 ≤ h0.size) :
    OMet l Z x code maxLocals ret ws room_1 #[(.int p1), (.int p2), (.int p3), (.int p4), (.long q5), (.int p6)] h0 (Q0 Z p1 p2 p3 p4 q5 p6 h0 n0) := by
  refine own_enter pn_0 ?_
  intro p e s m below meth c s₁ hx hby hml0 hown hret hlk hnm hZ X0 e0
  have hml : c.maxLocals = 19 := hml0
  have B : BX p c code := ⟨hx, hby⟩
  have N0 := Fr.nil n0
  refine own_cast (ef_0 m p1 p2 p3 p4 q5 p6) ?_
  show OG p e room_1 s below (fun v h L => v = some (.int (f0 p1 p2 p3 p4 q5 p6)) ∧ Fr n0 L) s₁ (mkF m 0 #[.val (.int p1), .val (.int p2), .val (.int p3), .val (.int p4), .val (.long q5), .second, .val (.int p6), .unset, .unset, .unset, .unset, .unset, .unset, .unset, .unset, .unset, .unset, .unset, .unset] [])
  refine wiloadN OGc 1 X0 B at_0 rfl rfl ?_
  refine wiloadN OGc 2 X0 B at_1 rfl rfl ?_
  refine wstat OGc 5 X0 B hZ hown (ow hw 0 rfl) (ow hw 1 rfl) (ow hw 3 rfl) (ow hw 2 rfl) e0 (rm1 l Z a0 hw [] p1 p2 h0) 0 (by decide) (by decide) hml rfl (lenOf pd__II_I rfl) [] rfl rfl at_2 rfl fun _ T1 L1 X1 hQ1 => ?_
  obtain ⟨rfl, rfl, e1⟩ := hQ1
  have N1 := Fr.app N0 (Fr.nil n0)
  refine own_stk (S' := [(.int (f1 p1 p2))]) rfl ?_
  refine wistore OGc 7 X1 B at_5 #[.val (.int p1), .val (.int p2), .val (.int p3), .val (.int p4), .val (.long q5), .second, .val (.int p6), .val (.int (f1 p1 p2)), .unset, .unset, .unset, .unset, .unset, .unset, .unset, .unset, .unset, .unset, .unset] rfl rfl ?_
  refine wiloadN OGc 8 X1 B at_7 rfl rfl ?_
  refine wiloadN OGc 9 X1 B at_8 rfl rfl ?_
  refine wstat OGc 12 X1 B hZ hown (ow hw 4 rfl) (ow hw 5 rfl) (ow hw 6 rfl) (ow hw 2 rfl) e1 (rm2 l Z a0 hw [] p1 p2 h0) 0 (by decide) (by decide) hml rfl (lenOf pd__II_I rfl) [] rfl rfl at_9 rfl fun _ T2 L2 X2 hQ2 => ?_
  obtain ⟨rfl, rfl, e2⟩ := hQ2
  have N2 := Fr.app N1 (Fr.nil n0)
  refine own_stk (S' := [(.int (f2 p1 p2))]) rfl ?_
  refine wistore OGc 14 X2 B at_12 #[.val (.int p1), .val (.int p2), .val (.int p3), .val (.int p4), .val (.long q5), .second, .val (.int p6), .val (.int (f1 p1 p2)), .val (.int (f2 p1 p2)), .unset, .unset, .unset, .unset, .unset, .unset, .unset, .unset, .unset, .unset] rfl rfl ?_
  refine wiloadN OGc 15 X2 B at_14 rfl rfl ?_
  refine wiloadN OGc 16 X2 B at_15 rfl rfl ?_
  refine wstat OGc 19 X2 B hZ hown (ow hw 0 rfl) (ow hw 1 rfl) (ow hw 3 rfl) (ow hw 2 rfl) e2 (rm1 l Z a0 hw [] p3 p4 h0) 0 (by decide) (by decide) hml rfl (lenOf pd__II_I rfl) [] rfl rfl at_16 rfl fun _ T3 L3 X3 hQ3 => ?_
  obtain ⟨rfl, rfl, e3⟩ := hQ3
  have N3 := Fr.app N2 (Fr.nil n0)
  refine own_stk (S' := [(.int (f1 p3 p4))]) rfl ?_
  refine wistore OGc 21 X3 B at_19 #[.val (.int p1), .val (.int p2), .val (.int p3), .val (.int p4), .val (.long q5), .second, .val (.int p6), .val (.int (f1 p1 p2)), .val (.int (f2 p1 p2)), .val (.int (f1 p3 p4)), .unset, .unset, .unset, .unset, .unset, .unset, .unset, .unset, .unset] rfl rfl ?_
  refine wiloadN OGc 22 X3 B at_21 rfl rfl ?_
  refine wiloadN OGc 23 X3 B at_22 rfl rfl ?_
  refine wstat OGc 26 X3 B hZ hown (ow hw 4 rfl) (ow hw 5 rfl) (ow hw 6 rfl) (ow hw 2 rfl) e3 (rm2 l Z a0 hw [] p3 p4 h0) 0 (by decide) (by decide) hml rfl (lenOf pd__II_I rfl) [] rfl rfl at_23 rfl fun _ T4 L4 X4 hQ4 => ?_
  obtain ⟨rfl, rfl, e4⟩ := hQ4
  have N4 := Fr.app N3 (Fr.nil n0)
  refine own_stk (S' := [(.int (f2 p3 p4))]) rfl ?_
  refine wistore OGc 28 X4 B at_26 #[.val (.int p1), .val (.int p2), .val (.int p3), .val (.int p4), .val (.long q5), .second, .val (.int p6), .val (.int (f1 p1 p2)), .val (.int (f2 p1 p2)), .val (.int (f1 p3 p4)), .val (.int (f2 p3 p4)), .unset, .unset, .unset, .unset, .unset, .unset, .unset, .unset] rfl rfl ?_
  refine wiload OGc 30 X4 B at_28 rfl rfl ?_
  refine wiload OGc 32 X4 B at_30 rfl rfl ?_
  refine wstat OGc 35 X4 B hZ hown (ow hw 4 rfl) (ow hw 5 rfl) (ow hw 6 rfl) (ow hw 2 rfl) e4 (rm2 l Z a0 hw [] (f1 p1 p2) (f1 p3 p4) h0) 0 (by decide) (by decide) hml rfl (lenOf pd__II_I rfl) [] rfl rfl at_32 rfl fun _ T5 L5 X5 hQ5 => ?_
  obtain ⟨rfl, rfl, e5⟩ := hQ5
  have N5 := Fr.app N4 (Fr.nil n0)
  refine own_stk (S' := [(.int (f2 (f1 p1 p2) (f1 p3 p4)))]) rfl ?_
  refine wistore OGc 37 X5 B at_35 #[.val (.int p1), .val (.int p2), .val (.int p3), .val (.int p4), .val (.long q5), .second, .val (.int p6), .val (.int (f1 p1 p2)), .val (.int (f2 p1 p2)), .val (.int (f1 p3 p4)), .val (.int (f2 p3 p4)), .val (.int (g0_1 p1 p2 p3 p4 q5 p6)), .unset, .unset, .unset, .unset, .unset, .unset, .unset] rfl rfl ?_
  refine wiload OGc 39 X5 B at_37 rfl rfl ?_
  refine wiload OGc 41 X5 B at_39 rfl rfl ?_
  refine wstat OGc 44 X5 B hZ hown (ow hw 0 rfl) (ow hw 1 rfl) (ow hw 3 rfl) (ow hw 2 rfl) e5 (rm1 l Z a0 hw [] (f2 p1 p2) (f2 p3 p4) h0) 0 (by decide) (by decide) hml rfl (lenOf pd__II_I rfl) [] rfl rfl at_41 rfl fun _ T6 L6 X6 hQ6 => ?_
  obtain ⟨rfl, rfl, e6⟩ := hQ6
  have N6 := Fr.app N5 (Fr.nil n0)
  refine own_stk (S' := [(.int (f1 (f2 p1 p2) (f2 p3 p4)))]) rfl ?_
  refine wistore OGc 46 X6 B at_44 #[.val (.int p1), .val (.int p2), .val (.int p3), .val (.int p4), .val (.long q5), .second, .val (.int p6), .val (.int (f1 p1 p2)), .val (.int (f2 p1 p2)), .val (.int (f1 p3 p4)), .val (.int (f2 p3 p4)), .val (.int (g0_1 p1 p2 p3 p4 q5 p6)), .val (.int (g0_2 p1 p2 p3 p4 q5 p6)), .unset, .unset, .unset, .unset, .unset, .unset] rfl rfl ?_
  refine wiconst OGc 47 X6 B at_46 4 rfl rfl ?_
  refine wnewP OGc 49 X6 B hZ (ow hw 7 rfl) e6 at_47 4 (by decide) (by decide) rfl fun T7 h7 b7 k7 gb7 X7 e7 E7 A7 => ?_
  have ge_b7 : n0 ≤ b7 := by rw [gb7]; exact Nat.le_trans Z0 (Keep.refl h0 []).1
  have sz_b7 : h0.size ≤ b7 := by rw [gb7]; exact (Keep.refl h0 []).1
  have K8 := (Keep.refl h0 []).ext E7
  have F9 : OA Z h7 b7 .int [(.int (0 : Int32)), (.int (0 : Int32)), (.int (0 : Int32)), (.int (0 : Int32))] := OA.new A7
  refine wastore OGc 51 X7 B at_49 #[.val (.int p1), .val (.int p2), .val (.int p3), .val (.int p4), .val (.long q5), .second, .val (.int p6), .val (.int (f1 p1 p2)), .val (.int (f2 p1 p2)), .val (.int (f1 p3 p4)), .val (.int (f2 p3 p4)), .val (.int (g0_1 p1 p2 p3 p4 q5 p6)), .val (.int (g0_2 p1 p2 p3 p4 q5 p6)), .val (.ref b7), .unset, .unset, .unset, .unset, .unset] rfl rfl rfl ?_
  refine waload OGc 53 X7 B at_51 rfl rfl rfl ?_
  refine wiconst OGc 54 X7 B at_53 0 rfl rfl ?_
  refine wiload OGc 56 X7 B at_54 rfl rfl ?_
  refine wiload OGc 58 X7 B at_56 rfl rfl ?_
  refine wstat OGc 61 X7 B hZ hown (ow hw 0 rfl) (ow hw 1 rfl) (ow hw 3 rfl) (ow hw 2 rfl) e7 (rm1 l Z a0 hw [] (f1 p1 p2) (f1 p3 p4) h7) 2 (by decide) (by decide) hml rfl (lenOf pd__II_I rfl) [(.int (0 : Int32)), (.ref b7)] rfl rfl at_58 rfl fun _ T10 L10 X10 hQ10 => ?_
  obtain ⟨rfl, rfl, e10⟩ := hQ10
  have N10 := Fr.app N6 (Fr.nil n0)
  refine own_stk (S' := [(.int (f1 (f1 p1 p2) (f1 p3 p4))), (.int (0 : Int32)), (.ref b7)]) rfl ?_
  refine wstI OGc 62 X10 B hZ e10 F9 0 (by decide) (by decide) (by decide : 0 < 4) at_61 rfl fun T11 h11 X11 e11 W11 => ?_
  have N11 := Fr.snoc X11 N10 ge_b7
  have K12 := K8.wr W11 (Or.inr sz_b7)
  have F13 : OA Z h11 b7 .int [(.int (g0_3 p1 p2 p3 p4 q5 p6)), (.int (0 : Int32)), (.int (0 : Int32)), (.int (0 : Int32))] := (F9.set W11 (i := 0) (by decide))
  refine waload OGc 64 X11 B at_62 rfl rfl rfl ?_
  refine wiconst OGc 65 X11 B at_64 1 rfl rfl ?_
  refine wiload OGc 67 X11 B at_65 rfl rfl ?_
  refine wiload OGc 69 X11 B at_67 rfl rfl ?_
  refine wstat OGc 72 X11 B hZ hown (ow hw 0 rfl) (ow hw 1 rfl) (ow hw 3 rfl) (ow hw 2 rfl) e11 (rm1 l Z a0 hw [] (g0_1 p1 p2 p3 p4 q5 p6) (g0_2 p1 p2 p3 p4 q5 p6) h11) 2 (by decide) (by decide) hml rfl (lenOf pd__II_I rfl) [(.int (1 : Int32)), (.ref b7)] rfl rfl at_69 rfl fun _ T14 L14 X14 hQ14 => ?_
  obtain ⟨rfl, rfl, e14⟩ := hQ14
  have N14 := Fr.app N11 (Fr.nil n0)
  refine own_stk (S' := [(.int (f1 (g0_1 p1 p2 p3 p4 q5 p6) (g0_2 p1 p2 p3 p4 q5 p6))), (.int (1 : Int32)), (.ref b7)]) rfl ?_
  refine wstI OGc 73 X14 B hZ e14 F13 1 (by decide) (by decide) (by decide : 1 < 4) at_72 rfl fun T15 h15 X15 e15 W15 => ?_
  have N15 := Fr.snoc X15 N14 ge_b7
  have K16 := K12.wr W15 (Or.inr sz_b7)
  have F17 : OA Z h15 b7 .int [(.int (g0_3 p1 p2 p3 p4 q5 p6)), (.int (g0_4 p1 p2 p3 p4 q5 p6)), (.int (0 : Int32)), (.int (0 : Int32))] := (F13.set W15 (i := 1) (by decide))
  refine waload OGc 75 X15 B at_73 rfl rfl rfl ?_
  refine wiconst OGc 76 X15 B at_75 2 rfl rfl ?_
  refine wiload OGc 78 X15 B at_76 rfl rfl ?_
  refine wiload OGc 80 X15 B at_78 rfl rfl ?_
  refine wstat OGc 83 X15 B hZ hown (ow hw 4 rfl) (ow hw 5 rfl) (ow hw 6 rfl) (ow hw 2 rfl) e15 (rm2 l Z a0 hw [] (g0_1 p1 p2 p3 p4 q5 p6) (g0_2 p1 p2 p3 p4 q5 p6) h15) 2 (by decide) (by decide) hml rfl (lenOf pd__II_I rfl) [(.int (2 : Int32)), (.ref b7)] rfl rfl at_80 rfl fun _ T18 L18 X18 hQ18 => ?_
  obtain ⟨rfl, rfl, e18⟩ := hQ18
  have N18 := Fr.app N15 (Fr.nil n0)
  refine own_stk (S' := [(.int (f2 (g0_1 p1 p2 p3 p4 q5 p6) (g0_2 p1 p2 p3 p4 q5 p6))), (.int (2 : Int32)), (.ref b7)]) rfl ?_
  refine wstI OGc 84 X18 B hZ e18 F17 2 (by decide) (by decide) (by decide : 2 < 4) at_83 rfl fun T19 h19 X19 e19 W19 => ?_
  have N19 := Fr.snoc X19 N18 ge_b7
  have K20 := K16.wr W19 (Or.inr sz_b7)
  have F21 : OA Z h19 b7 .int [(.int (g0_3 p1 p2 p3 p4 q5 p6)), (.int (g0_4 p1 p2 p3 p4 q5 p6)), (.int (g0_5 p1 p2 p3 p4 q5 p6)), (.int (0 : Int32))] := (F17.set W19 (i := 2) (by decide))
  refine waload OGc 86 X19 B at_84 rfl rfl rfl ?_
  refine wiconst OGc 87 X19 B at_86 3 rfl rfl ?_
  refine wiload OGc 89 X19 B at_87 rfl rfl ?_
  refine wiload OGc 91 X19 B at_89 rfl rfl ?_
  refine wstat OGc 94 X19 B hZ hown (ow hw 4 rfl) (ow hw 5 rfl) (ow hw 6 rfl) (ow hw 2 rfl) e19 (rm2 l Z a0 hw [] (f2 p1 p2) (f2 p3 p4) h19) 2 (by decide) (by decide) hml rfl (lenOf pd__II_I rfl) [(.int (3 : Int32)), (.ref b7)] rfl rfl at_91 rfl fun _ T22 L22 X22 hQ22 => ?_
  obtain ⟨rfl, rfl, e22⟩ := hQ22
  have N22 := Fr.app N19 (Fr.nil n0)
  refine own_stk (S' := [(.int (f2 (f2 p1 p2) (f2 p3 p4))), (.int (3 : Int32)), (.ref b7)]) rfl ?_
  refine wstI OGc 95 X22 B hZ e22 F21 3 (by decide) (by decide) (by decide : 3 < 4) at_94 rfl fun T23 h23 X23 e23 W23 => ?_
  have N23 := Fr.snoc X23 N22 ge_b7
  have K24 := K20.wr W23 (Or.inr sz_b7)
  have F25 : OA Z h23 b7 .int [(.int (g0_3 p1 p2 p3 p4 q5 p6)), (.int (g0_4 p1 p2 p3 p4 q5 p6)), (.int (g0_5 p1 p2 p3 p4 q5 p6)), (.int (g0_6 p1 p2 p3 p4 q5 p6))] := (F21.set W23 (i := 3) (by decide))
  refine wiload OGc 97 X23 B at_95 rfl rfl ?_
  refine own_st (fun t k => X23.ldcInt hx hown (mvT hZ (ow hw 8 rfl)) (g := (mkF m 97 #[.val (.int p1), .val (.int p2), .val (.int p3), .val (.int p4), .val (.long q5), .second, .val (.int p6), .val (.int (f1 p1 p2)), .val (.int (f2 p1 p2)), .val (.int (f1 p3 p4)), .val (.int (f2 p3 p4)), .val (.int (g0_1 p1 p2 p3 p4 q5 p6)), .val (.int (g0_2 p1 p2 p3 p4 q5 p6)), .val (.ref b7), .unset, .unset, .unset, .unset, .unset] [(.int p6)])) rfl (hb hby at_97) _ k) ?_
  show OG p e _ s below _ T23 (mkF m 99 #[.val (.int p1), .val (.int p2), .val (.int p3), .val (.int p4), .val (.long q5), .second, .val (.int p6), .val (.int (f1 p1 p2)), .val (.int (f2 p1 p2)), .val (.int (f1 p3 p4)), .val (.int (f2 p3 p4)), .val (.int (g0_1 p1 p2 p3 p4 q5 p6)), .val (.int (g0_2 p1 p2 p3 p4 q5 p6)), .val (.ref b7), .unset, .unset, .unset, .unset, .unset] [(.int (2147483647 : Int32)), (.int p6)])
  refine wiand OGc 100 X23 B at_99 rfl ?_
  refine wiconst OGc 101 X23 B at_100 5 rfl rfl ?_
  refine own_st (fun t k => iremM X23 hx rfl (hb hby at_101) rfl (by decide) k) ?_
  show OG p e _ s below _ T23 (mkF m 102 #[.val (.int p1), .val (.int p2), .val (.int p3), .val (.int p4), .val (.long q5), .second, .val (.int p6), .val (.int (f1 p1 p2)), .val (.int (f2 p1 p2)), .val (.int (f1 p3 p4)), .val (.int (f2 p3 p4)), .val (.int (g0_1 p1 p2 p3 p4 q5 p6)), .val (.int (g0_2 p1 p2 p3 p4 q5 p6)), .val (.ref b7), .unset, .unset, .unset, .unset, .unset] [(.int ((p6 &&& (2147483647 : Int32)) % (5 : Int32)))])
  refine wistore OGc 104 X23 B at_102 #[.val (.int p1), .val (.int p2), .val (.int p3), .val (.int p4), .val (.long q5), .second, .val (.int p6), .val (.int (f1 p1 p2)), .val (.int (f2 p1 p2)), .val (.int (f1 p3 p4)), .val (.int (f2 p3 p4)), .val (.int (g0_1 p1 p2 p3 p4 q5 p6)), .val (.int (g0_2 p1 p2 p3 p4 q5 p6)), .val (.ref b7), .val (.int (g0_7 p1 p2 p3 p4 q5 p6)), .unset, .unset, .unset, .unset] rfl rfl ?_
  refine wiload OGc 106 X23 B at_104 rfl rfl ?_
  refine wiload OGc 108 X23 B at_106 rfl rfl ?_
  refine wiconst OGc 109 X23 B at_108 4 rfl rfl ?_
  refine own_st (fun t k => XS.iushr X23.here hx rfl (hb hby at_109) rfl k) ?_
  show OG p e _ s below _ T23 (mkF m 110 #[.val (.int p1), .val (.int p2), .val (.int p3), .val (.int p4), .val (.long q5), .second, .val (.int p6), .val (.int (f1 p1 p2)), .val (.int (f2 p1 p2)), .val (.int (f1 p3 p4)), .val (.int (f2 p3 p4)), .val (.int (g0_1 p1 p2 p3 p4 q5 p6)), .val (.int (g0_2 p1 p2 p3 p4 q5 p6)), .val (.ref b7), .val (.int (g0_7 p1 p2 p3 p4 q5 p6)), .unset, .unset, .unset, .unset] [(.int ((p6.toUInt32 >>> ((4 : Int32) &&& 31).toUInt32).toInt32)), (.int (g0_7 p1 p2 p3 p4 q5 p6))])
  refine wsipush OGc 113 X23 B at_110 255 rfl rfl ?_
  refine wiand OGc 114 X23 B at_113 rfl ?_
  refine wiconst OGc 115 X23 B at_114 5 rfl rfl ?_
  refine wiload OGc 117 X23 B at_115 rfl rfl ?_
  refine wisub OGc 118 X23 B at_117 rfl ?_
  refine own_st (fun t k => iremM X23 hx rfl (hb hby at_118) rfl (own_nz p1 p2 p3 p4 q5 p6) k) ?_
  show OG p e _ s below _ T23 (mkF m 119 #[.val (.int p1), .val (.int p2), .val (.int p3), .val (.int p4), .val (.long q5), .second, .val (.int p6), .val (.int (f1 p1 p2)), .val (.int (f2 p1 p2)), .val (.int (f1 p3 p4)), .val (.int (f2 p3 p4)), .val (.int (g0_1 p1 p2 p3 p4 q5 p6)), .val (.int (g0_2 p1 p2 p3 p4 q5 p6)), .val (.ref b7), .val (.int (g0_7 p1 p2 p3 p4 q5 p6)), .unset, .unset, .unset, .unset] [(.int ((((p6.toUInt32 >>> ((4 : Int32) &&& 31).toUInt32).toInt32) &&& (255 : Int32)) % ((5 : Int32) - (g0_7 p1 p2 p3 p4 q5 p6)))), (.int (g0_7 p1 p2 p3 p4 q5 p6))])
  refine wiadd OGc 120 X23 B at_119 rfl ?_
  refine wistore OGc 122 X23 B at_120 #[.val (.int p1), .val (.int p2), .val (.int p3), .val (.int p4), .val (.long q5), .second, .val (.int p6), .val (.int (f1 p1 p2)), .val (.int (f2 p1 p2)), .val (.int (f1 p3 p4)), .val (.int (f2 p3 p4)), .val (.int (g0_1 p1 p2 p3 p4 q5 p6)), .val (.int (g0_2 p1 p2 p3 p4 q5 p6)), .val (.ref b7), .val (.int (g0_7 p1 p2 p3 p4 q5 p6)), .val (.int (g0_8 p1 p2 p3 p4 q5 p6)), .unset, .unset, .unset] rfl rfl ?_
  refine wlload OGc 124 X23 B at_122 rfl rfl ?_
  refine wlstore OGc 126 X23 B at_124 #[.val (.int p1), .val (.int p2), .val (.int p3), .val (.int p4), .val (.long q5), .second, .val (.int p6), .val (.int (f1 p1 p2)), .val (.int (f2 p1 p2)), .val (.int (f1 p3 p4)), .val (.int (f2 p3 p4)), .val (.int (g0_1 p1 p2 p3 p4 q5 p6)), .val (.int (g0_2 p1 p2 p3 p4 q5 p6)), .val (.ref b7), .val (.int (g0_7 p1 p2 p3 p4 q5 p6)), .val (.int (g0_8 p1 p2 p3 p4 q5 p6)), .val (.long q5), .second, .unset] rfl rfl ?_
  refine own_st (T' := T23) (g' := (mkF m 156 #[.val (.int p1), .val (.int p2), .val (.int p3), .val (.int p4), .val (.long q5), .second, .val (.int p6), .val (.int (f1 p1 p2)), .val (.int (f2 p1 p2)), .val (.int (f1 p3 p4)), .val (.int (f2 p3 p4)), .val (.int (g0_1 p1 p2 p3 p4 q5 p6)), .val (.int (g0_2 p1 p2 p3 p4 q5 p6)), .val (.ref b7), .val (.int (g0_7 p1 p2 p3 p4 q5 p6)), .val (.int (g0_8 p1 p2 p3 p4 q5 p6)), .val (.long (g0_13 p1 p2 p3 p4 q5 p6)), .second, .unset] [])) (fun t k => ?_) ?_
  · skip
    refine own_sp (fun t k => XS.iload X23.here hx rfl (hb hby at_126) rfl k) ?_
    show Steps p.tables e below (T23.setTop (mkF m 128 #[.val (.int p1), .val (.int p2), .val (.int p3), .val (.int p4), .val (.long q5), .second, .val (.int p6), .val (.int (f1 p1 p2)), .val (.int (f2 p1 p2)), .val (.int (f1 p3 p4)), .val (.int (f2 p3 p4)), .val (.int (g0_1 p1 p2 p3 p4 q5 p6)), .val (.int (g0_2 p1 p2 p3 p4 q5 p6)), .val (.ref b7), .val (.int (g0_7 p1 p2 p3 p4 q5 p6)), .val (.int (g0_8 p1 p2 p3 p4 q5 p6)), .val (.long q5), .second, .unset] [(.int p6)])) _
    refine own_sp (fun t k => XS.bipush X23.here hx rfl (hb hby at_128) k) ?_
    show Steps p.tables e below (T23.setTop (mkF m 130 #[.val (.int p1), .val (.int p2), .val (.int p3), .val (.int p4), .val (.long q5), .second, .val (.int p6), .val (.int (f1 p1 p2)), .val (.int (f2 p1 p2)), .val (.int (f1 p3 p4)), .val (.int (f2 p3 p4)), .val (.int (g0_1 p1 p2 p3 p4 q5 p6)), .val (.int (g0_2 p1 p2 p3 p4 q5 p6)), .val (.ref b7), .val (.int (g0_7 p1 p2 p3 p4 q5 p6)), .val (.int (g0_8 p1 p2 p3 p4 q5 p6)), .val (.long q5), .second, .unset] [(.int (12 : Int32)), (.int p6)])) _
    refine own_sp (fun t k => XS.iushr X23.here hx rfl (hb hby at_130) rfl k) ?_
    show Steps p.tables e below (T23.setTop (mkF m 131 #[.val (.int p1), .val (.int p2), .val (.int p3), .val (.int p4), .val (.long q5), .second, .val (.int p6), .val (.int (f1 p1 p2)), .val (.int (f2 p1 p2)), .val (.int (f1 p3 p4)), .val (.int (f2 p3 p4)), .val (.int (g0_1 p1 p2 p3 p4 q5 p6)), .val (.int (g0_2 p1 p2 p3 p4 q5 p6)), .val (.ref b7), .val (.int (g0_7 p1 p2 p3 p4 q5 p6)), .val (.int (g0_8 p1 p2 p3 p4 q5 p6)), .val (.long q5), .second, .unset] [(.int ((p6.toUInt32 >>> ((12 : Int32) &&& 31).toUInt32).toInt32))])) _
    refine own_sp (fun t k => XS.iconst X23.here hx rfl (hb hby at_131) k) ?_
    show Steps p.tables e below (T23.setTop (mkF m 132 #[.val (.int p1), .val (.int p2), .val (.int p3), .val (.int p4), .val (.long q5), .second, .val (.int p6), .val (.int (f1 p1 p2)), .val (.int (f2 p1 p2)), .val (.int (f1 p3 p4)), .val (.int (f2 p3 p4)), .val (.int (g0_1 p1 p2 p3 p4 q5 p6)), .val (.int (g0_2 p1 p2 p3 p4 q5 p6)), .val (.ref b7), .val (.int (g0_7 p1 p2 p3 p4 q5 p6)), .val (.int (g0_8 p1 p2 p3 p4 q5 p6)), .val (.long q5), .second, .unset] [(.int (1 : Int32)), (.int ((p6.toUInt32 >>> ((12 : Int32) &&& 31).toUInt32).toInt32))])) _
    refine own_sp (fun t k => XS.iand X23.here hx rfl (hb hby at_132) rfl k) ?_
    show Steps p.tables e below (T23.setTop (mkF m 133 #[.val (.int p1), .val (.int p2), .val (.int p3), .val (.int p4), .val (.long q5), .second, .val (.int p6), .val (.int (f1 p1 p2)), .val (.int (f2 p1 p2)), .val (.int (f1 p3 p4)), .val (.int (f2 p3 p4)), .val (.int (g0_1 p1 p2 p3 p4 q5 p6)), .val (.int (g0_2 p1 p2 p3 p4 q5 p6)), .val (.ref b7), .val (.int (g0_7 p1 p2 p3 p4 q5 p6)), .val (.int (g0_8 p1 p2 p3 p4 q5 p6)), .val (.long q5), .second, .unset] [(.int (((p6.toUInt32 >>> ((12 : Int32) &&& 31).toUInt32).toInt32) &&& (1 : Int32)))])) _
    by_cases c26 : (((p6.toUInt32 >>> ((12 : Int32) &&& 31).toUInt32).toInt32) &&& (1 : Int32)) = (0 : Int32)
    · refine own_sp (fun t k => XS.ifYes X23.here hx rfl (pc0 := 133) (pc' := 156) rfl (hb hby at_133) rfl (own_if0 (teq c26).1) (by decide) (by decide) k) ?_
      show Steps p.tables e below (T23.setTop (mkF m 156 #[.val (.int p1), .val (.int p2), .val (.int p3), .val (.int p4), .val (.long q5), .second, .val (.int p6), .val (.int (f1 p1 p2)), .val (.int (f2 p1 p2)), .val (.int (f1 p3 p4)), .val (.int (f2 p3 p4)), .val (.int (g0_1 p1 p2 p3 p4 q5 p6)), .val (.int (g0_2 p1 p2 p3 p4 q5 p6)), .val (.ref b7), .val (.int (g0_7 p1 p2 p3 p4 q5 p6)), .val (.int (g0_8 p1 p2 p3 p4 q5 p6)), .val (.long q5), .second, .unset] [])) _
      rw [show (g0_13 p1 p2 p3 p4 q5 p6) = q5 from by rw [g0_13, if_pos c26]] at k
      exact k
    · refine own_sp (fun t k => XS.ifNo X23.here hx rfl (hb hby at_133) rfl (own_if0 (feq c26).1) k) ?_
      show Steps p.tables e below (T23.setTop (mkF m 136 #[.val (.int p1), .val (.int p2), .val (.int p3), .val (.int p4), .val (.long q5), .second, .val (.int p6), .val (.int (f1 p1 p2)), .val (.int (f2 p1 p2)), .val (.int (f1 p3 p4)), .val (.int (f2 p3 p4)), .val (.int (g0_1 p1 p2 p3 p4 q5 p6)), .val (.int (g0_2 p1 p2 p3 p4 q5 p6)), .val (.ref b7), .val (.int (g0_7 p1 p2 p3 p4 q5 p6)), .val (.int (g0_8 p1 p2 p3 p4 q5 p6)), .val (.long q5), .second, .unset] [])) _
      refine own_sp (fun t k => XS.aload X23.here hx rfl (hb hby at_136) rfl rfl k) ?_
      show Steps p.tables e below (T23.setTop (mkF m 138 #[.val (.int p1), .val (.int p2), .val (.int p3), .val (.int p4), .val (.long q5), .second, .val (.int p6), .val (.int (f1 p1 p2)), .val (.int (f2 p1 p2)), .val (.int (f1 p3 p4)), .val (.int (f2 p3 p4)), .val (.int (g0_1 p1 p2 p3 p4 q5 p6)), .val (.int (g0_2 p1 p2 p3 p4 q5 p6)), .val (.ref b7), .val (.int (g0_7 p1 p2 p3 p4 q5 p6)), .val (.int (g0_8 p1 p2 p3 p4 q5 p6)), .val (.long q5), .second, .unset] [(.ref b7)])) _
      refine own_sp (fun t k => XS.iload X23.here hx rfl (hb hby at_138) rfl k) ?_
      show Steps p.tables e below (T23.setTop (mkF m 140 #[.val (.int p1), .val (.int p2), .val (.int p3), .val (.int p4), .val (.long q5), .second, .val (.int p6), .val (.int (f1 p1 p2)), .val (.int (f2 p1 p2)), .val (.int (f1 p3 p4)), .val (.int (f2 p3 p4)), .val (.int (g0_1 p1 p2 p3 p4 q5 p6)), .val (.int (g0_2 p1 p2 p3 p4 q5 p6)), .val (.ref b7), .val (.int (g0_7 p1 p2 p3 p4 q5 p6)), .val (.int (g0_8 p1 p2 p3 p4 q5 p6)), .val (.long q5), .second, .unset] [(.int p6), (.ref b7)])) _
      refine own_sp (fun t k => XS.bipush X23.here hx rfl (hb hby at_140) k) ?_
      show Steps p.tables e below (T23.setTop (mkF m 142 #[.val (.int p1), .val (.int p2), .val (.int p3), .val (.int p4), .val (.long q5), .second, .val (.int p6), .val (.int (f1 p1 p2)), .val (.int (f2 p1 p2)), .val (.int (f1 p3 p4)), .val (.int (f2 p3 p4)), .val (.int (g0_1 p1 p2 p3 p4 q5 p6)), .val (.int (g0_2 p1 p2 p3 p4 q5 p6)), .val (.ref b7), .val (.int (g0_7 p1 p2 p3 p4 q5 p6)), .val (.int (g0_8 p1 p2 p3 p4 q5 p6)), .val (.long q5), .second, .unset] [(.int (13 : Int32)), (.int p6), (.ref b7)])) _
      refine own_sp (fun t k => XS.iushr X23.here hx rfl (hb hby at_142) rfl k) ?_
      show Steps p.tables e below (T23.setTop (mkF m 143 #[.val (.int p1), .val (.int p2), .val (.int p3), .val (.int p4), .val (.long q5), .second, .val (.int p6), .val (.int (f1 p1 p2)), .val (.int (f2 p1 p2)), .val (.int (f1 p3 p4)), .val (.int (f2 p3 p4)), .val (.int (g0_1 p1 p2 p3 p4 q5 p6)), .val (.int (g0_2 p1 p2 p3 p4 q5 p6)), .val (.ref b7), .val (.int (g0_7 p1 p2 p3 p4 q5 p6)), .val (.int (g0_8 p1 p2 p3 p4 q5 p6)), .val (.long q5), .second, .unset] [(.int ((p6.toUInt32 >>> ((13 : Int32) &&& 31).toUInt32).toInt32)), (.ref b7)])) _
      refine own_sp (fun t k => XS.iconst X23.here hx rfl (hb hby at_143) k) ?_
      show Steps p.tables e below (T23.setTop (mkF m 144 #[.val (.int p1), .val (.int p2), .val (.int p3), .val (.int p4), .val (.long q5), .second, .val (.int p6), .val (.int (f1 p1 p2)), .val (.int (f2 p1 p2)), .val (.int (f1 p3 p4)), .val (.int (f2 p3 p4)), .val (.int (g0_1 p1 p2 p3 p4 q5 p6)), .val (.int (g0_2 p1 p2 p3 p4 q5 p6)), .val (.ref b7), .val (.int (g0_7 p1 p2 p3 p4 q5 p6)), .val (.int (g0_8 p1 p2 p3 p4 q5 p6)), .val (.long q5), .second, .unset] [(.int (3 : Int32)), (.int ((p6.toUInt32 >>> ((13 : Int32) &&& 31).toUInt32).toInt32)), (.ref b7)])) _
      refine own_sp (fun t k => XS.iand X23.here hx rfl (hb hby at_144) rfl k) ?_
      show Steps p.tables e below (T23.setTop (mkF m 145 #[.val (.int p1), .val (.int p2), .val (.int p3), .val (.int p4), .val (.long q5), .second, .val (.int p6), .val (.int (f1 p1 p2)), .val (.int (f2 p1 p2)), .val (.int (f1 p3 p4)), .val (.int (f2 p3 p4)), .val (.int (g0_1 p1 p2 p3 p4 q5 p6)), .val (.int (g0_2 p1 p2 p3 p4 q5 p6)), .val (.ref b7), .val (.int (g0_7 p1 p2 p3 p4 q5 p6)), .val (.int (g0_8 p1 p2 p3 p4 q5 p6)), .val (.long q5), .second, .unset] [(.int (((p6.toUInt32 >>> ((13 : Int32) &&& 31).toUInt32).toInt32) &&& (3 : Int32))), (.ref b7)])) _
      by_cases c27 : (((p6.toUInt32 >>> ((13 : Int32) &&& 31).toUInt32).toInt32) &&& (3 : Int32)) = (0 : Int32)
      · rw [c27]
        show Steps p.tables e below (T23.setTop (mkF m 145 #[.val (.int p1), .val (.int p2), .val (.int p3), .val (.int p4), .val (.long q5), .second, .val (.int p6), .val (.int (f1 p1 p2)), .val (.int (f2 p1 p2)), .val (.int (f1 p3 p4)), .val (.int (f2 p3 p4)), .val (.int (g0_1 p1 p2 p3 p4 q5 p6)), .val (.int (g0_2 p1 p2 p3 p4 q5 p6)), .val (.ref b7), .val (.int (g0_7 p1 p2 p3 p4 q5 p6)), .val (.int (g0_8 p1 p2 p3 p4 q5 p6)), .val (.long q5), .second, .unset] [(.int (0 : Int32)), (.ref b7)])) _
        obtain ⟨cl28, Ar28, hi28, ha28⟩ := own_rd F25 (j := (0 : Int32)) (i := 0) (by decide) (by decide) (v := (.int (g0_3 p1 p2 p3 p4 q5 p6))) rfl
        refine own_sp (fun t k => X23.iaload hx (j := (0 : Int32)) (v := (.int (g0_3 p1 p2 p3 p4 q5 p6))) (by rw [e23]; exact Ar28.1) (State.isArrayOf_alike hZ.alike Ar28.2.1) Ar28.2.2 hi28 ha28 (g := (mkF m 145 #[.val (.int p1), .val (.int p2), .val (.int p3), .val (.int p4), .val (.long q5), .second, .val (.int p6), .val (.int (f1 p1 p2)), .val (.int (f2 p1 p2)), .val (.int (f1 p3 p4)), .val (.int (f2 p3 p4)), .val (.int (g0_1 p1 p2 p3 p4 q5 p6)), .val (.int (g0_2 p1 p2 p3 p4 q5 p6)), .val (.ref b7), .val (.int (g0_7 p1 p2 p3 p4 q5 p6)), .val (.int (g0_8 p1 p2 p3 p4 q5 p6)), .val (.long q5), .second, .unset] [(.int (0 : Int32)), (.ref b7)])) rfl rfl (hb hby at_145) t k) ?_
        show Steps p.tables e below (T23.setTop (mkF m 146 #[.val (.int p1), .val (.int p2), .val (.int p3), .val (.int p4), .val (.long q5), .second, .val (.int p6), .val (.int (f1 p1 p2)), .val (.int (f2 p1 p2)), .val (.int (f1 p3 p4)), .val (.int (f2 p3 p4)), .val (.int (g0_1 p1 p2 p3 p4 q5 p6)), .val (.int (g0_2 p1 p2 p3 p4 q5 p6)), .val (.ref b7), .val (.int (g0_7 p1 p2 p3 p4 q5 p6)), .val (.int (g0_8 p1 p2 p3 p4 q5 p6)), .val (.long q5), .second, .unset] [(.int (g0_3 p1 p2 p3 p4 q5 p6))])) _
        refine own_sp (fun t k => XS.i2l X23.here hx rfl (hb hby at_146) rfl k) ?_
        show Steps p.tables e below (T23.setTop (mkF m 147 #[.val (.int p1), .val (.int p2), .val (.int p3), .val (.int p4), .val (.long q5), .second, .val (.int p6), .val (.int (f1 p1 p2)), .val (.int (f2 p1 p2)), .val (.int (f1 p3 p4)), .val (.int (f2 p3 p4)), .val (.int (g0_1 p1 p2 p3 p4 q5 p6)), .val (.int (g0_2 p1 p2 p3 p4 q5 p6)), .val (.ref b7), .val (.int (g0_7 p1 p2 p3 p4 q5 p6)), .val (.int (g0_8 p1 p2 p3 p4 q5 p6)), .val (.long q5), .second, .unset] [(.long ((g0_3 p1 p2 p3 p4 q5 p6).toInt64))])) _
        refine own_sp (fun t k => XS.lload X23.here hx rfl (hb hby at_147) rfl k) ?_
        show Steps p.tables e below (T23.setTop (mkF m 149 #[.val (.int p1), .val (.int p2), .val (.int p3), .val (.int p4), .val (.long q5), .second, .val (.int p6), .val (.int (f1 p1 p2)), .val (.int (f2 p1 p2)), .val (.int (f1 p3 p4)), .val (.int (f2 p3 p4)), .val (.int (g0_1 p1 p2 p3 p4 q5 p6)), .val (.int (g0_2 p1 p2 p3 p4 q5 p6)), .val (.ref b7), .val (.int (g0_7 p1 p2 p3 p4 q5 p6)), .val (.int (g0_8 p1 p2 p3 p4 q5 p6)), .val (.long q5), .second, .unset] [(.long q5), (.long ((g0_3 p1 p2 p3 p4 q5 p6).toInt64))])) _
        refine own_sp (fun t k => X23.ldc2Long hx hown (mvT hZ (ow hw 17 rfl)) (g := (mkF m 149 #[.val (.int p1), .val (.int p2), .val (.int p3), .val (.int p4), .val (.long q5), .second, .val (.int p6), .val (.int (f1 p1 p2)), .val (.int (f2 p1 p2)), .val (.int (f1 p3 p4)), .val (.int (f2 p3 p4)), .val (.int (g0_1 p1 p2 p3 p4 q5 p6)), .val (.int (g0_2 p1 p2 p3 p4 q5 p6)), .val (.ref b7), .val (.int (g0_7 p1 p2 p3 p4 q5 p6)), .val (.int (g0_8 p1 p2 p3 p4 q5 p6)), .val (.long q5), .second, .unset] [(.long q5), (.long ((g0_3 p1 p2 p3 p4 q5 p6).toInt64))])) rfl (hb hby at_149) _ k) ?_
        show Steps p.tables e below (T23.setTop (mkF m 152 #[.val (.int p1), .val (.int p2), .val (.int p3), .val (.int p4), .val (.long q5), .second, .val (.int p6), .val (.int (f1 p1 p2)), .val (.int (f2 p1 p2)), .val (.int (f1 p3 p4)), .val (.int (f2 p3 p4)), .val (.int (g0_1 p1 p2 p3 p4 q5 p6)), .val (.int (g0_2 p1 p2 p3 p4 q5 p6)), .val (.ref b7), .val (.int (g0_7 p1 p2 p3 p4 q5 p6)), .val (.int (g0_8 p1 p2 p3 p4 q5 p6)), .val (.long q5), .second, .unset] [(.long (2 : Int64)), (.long q5), (.long ((g0_3 p1 p2 p3 p4 q5 p6).toInt64))])) _
        refine own_sp (fun t k => XS.lrem X23.here hx rfl (hb hby at_152) rfl (by decide) k) ?_
        show Steps p.tables e below (T23.setTop (mkF m 153 #[.val (.int p1), .val (.int p2), .val (.int p3), .val (.int p4), .val (.long q5), .second, .val (.int p6), .val (.int (f1 p1 p2)), .val (.int (f2 p1 p2)), .val (.int (f1 p3 p4)), .val (.int (f2 p3 p4)), .val (.int (g0_1 p1 p2 p3 p4 q5 p6)), .val (.int (g0_2 p1 p2 p3 p4 q5 p6)), .val (.ref b7), .val (.int (g0_7 p1 p2 p3 p4 q5 p6)), .val (.int (g0_8 p1 p2 p3 p4 q5 p6)), .val (.long q5), .second, .unset] [(.long (q5 - (q5 / (2 : Int64)) * (2 : Int64))), (.long ((g0_3 p1 p2 p3 p4 q5 p6).toInt64))])) _
        refine own_sp (fun t k => XS.ladd X23.here hx rfl (hb hby at_153) rfl k) ?_
        show Steps p.tables e below (T23.setTop (mkF m 154 #[.val (.int p1), .val (.int p2), .val (.int p3), .val (.int p4), .val (.long q5), .second, .val (.int p6), .val (.int (f1 p1 p2)), .val (.int (f2 p1 p2)), .val (.int (f1 p3 p4)), .val (.int (f2 p3 p4)), .val (.int (g0_1 p1 p2 p3 p4 q5 p6)), .val (.int (g0_2 p1 p2 p3 p4 q5 p6)), .val (.ref b7), .val (.int (g0_7 p1 p2 p3 p4 q5 p6)), .val (.int (g0_8 p1 p2 p3 p4 q5 p6)), .val (.long q5), .second, .unset] [(.long (((g0_3 p1 p2 p3 p4 q5 p6).toInt64) + (q5 - (q5 / (2 : Int64)) * (2 : Int64))))])) _
        refine own_sp (fun t k => XS.lstore X23.here hx rfl (hb hby at_154) rfl (l' := #[.val (.int p1), .val (.int p2), .val (.int p3), .val (.int p4), .val (.long q5), .second, .val (.int p6), .val (.int (f1 p1 p2)), .val (.int (f2 p1 p2)), .val (.int (f1 p3 p4)), .val (.int (f2 p3 p4)), .val (.int (g0_1 p1 p2 p3 p4 q5 p6)), .val (.int (g0_2 p1 p2 p3 p4 q5 p6)), .val (.ref b7), .val (.int (g0_7 p1 p2 p3 p4 q5 p6)), .val (.int (g0_8 p1 p2 p3 p4 q5 p6)), .val (.long (g0_9 p1 p2 p3 p4 q5 p6)), .second, .unset]) rfl k) ?_
        show Steps p.tables e below (T23.setTop (mkF m 156 #[.val (.int p1), .val (.int p2), .val (.int p3), .val (.int p4), .val (.long q5), .second, .val (.int p6), .val (.int (f1 p1 p2)), .val (.int (f2 p1 p2)), .val (.int (f1 p3 p4)), .val (.int (f2 p3 p4)), .val (.int (g0_1 p1 p2 p3 p4 q5 p6)), .val (.int (g0_2 p1 p2 p3 p4 q5 p6)), .val (.ref b7), .val (.int (g0_7 p1 p2 p3 p4 q5 p6)), .val (.int (g0_8 p1 p2 p3 p4 q5 p6)), .val (.long (g0_9 p1 p2 p3 p4 q5 p6)), .second, .unset] [])) _
        rw [show (g0_13 p1 p2 p3 p4 q5 p6) = (g0_9 p1 p2 p3 p4 q5 p6) from by rw [g0_13, if_neg c26, if_pos c27]] at k
        exact k
      · skip
        by_cases c29 : (((p6.toUInt32 >>> ((13 : Int32) &&& 31).toUInt32).toInt32) &&& (3 : Int32)) = (1 : Int32)
        · rw [c29]
          show Steps p.tables e below (T23.setTop (mkF m 145 #[.val (.int p1), .val (.int p2), .val (.int p3), .val (.int p4), .val (.long q5), .second, .val (.int p6), .val (.int (f1 p1 p2)), .val (.int (f2 p1 p2)), .val (.int (f1 p3 p4)), .val (.int (f2 p3 p4)), .val (.int (g0_1 p1 p2 p3 p4 q5 p6)), .val (.int (g0_2 p1 p2 p3 p4 q5 p6)), .val (.ref b7), .val (.int (g0_7 p1 p2 p3 p4 q5 p6)), .val (.int (g0_8 p1 p2 p3 p4 q5 p6)), .val (.long q5), .second, .unset] [(.int (1 : Int32)), (.ref b7)])) _
          obtain ⟨cl30, Ar30, hi30, ha30⟩ := own_rd F25 (j := (1 : Int32)) (i := 1) (by decide) (by decide) (v := (.int (g0_4 p1 p2 p3 p4 q5 p6))) rfl
          refine own_sp (fun t k => X23.iaload hx (j := (1 : Int32)) (v := (.int (g0_4 p1 p2 p3 p4 q5 p6))) (by rw [e23]; exact Ar30.1) (State.isArrayOf_alike hZ.alike Ar30.2.1) Ar30.2.2 hi30 ha30 (g := (mkF m 145 #[.val (.int p1), .val (.int p2), .val (.int p3), .val (.int p4), .val (.long q5), .second, .val (.int p6), .val (.int (f1 p1 p2)), .val (.int (f2 p1 p2)), .val (.int (f1 p3 p4)), .val (.int (f2 p3 p4)), .val (.int (g0_1 p1 p2 p3 p4 q5 p6)), .val (.int (g0_2 p1 p2 p3 p4 q5 p6)), .val (.ref b7), .val (.int (g0_7 p1 p2 p3 p4 q5 p6)), .val (.int (g0_8 p1 p2 p3 p4 q5 p6)), .val (.long q5), .second, .unset] [(.int (1 : Int32)), (.ref b7)])) rfl rfl (hb hby at_145) t k) ?_
          show Steps p.tables e below (T23.setTop (mkF m 146 #[.val (.int p1), .val (.int p2), .val (.int p3), .val (.int p4), .val (.long q5), .second, .val (.int p6), .val (.int (f1 p1 p2)), .val (.int (f2 p1 p2)), .val (.int (f1 p3 p4)), .val (.int (f2 p3 p4)), .val (.int (g0_1 p1 p2 p3 p4 q5 p6)), .val (.int (g0_2 p1 p2 p3 p4 q5 p6)), .val (.ref b7), .val (.int (g0_7 p1 p2 p3 p4 q5 p6)), .val (.int (g0_8 p1 p2 p3 p4 q5 p6)), .val (.long q5), .second, .unset] [(.int (g0_4 p1 p2 p3 p4 q5 p6))])) _
          refine own_sp (fun t k => XS.i2l X23.here hx rfl (hb hby at_146) rfl k) ?_
          show Steps p.tables e below (T23.setTop (mkF m 147 #[.val (.int p1), .val (.int p2), .val (.int p3), .val (.int p4), .val (.long q5), .second, .val (.int p6), .val (.int (f1 p1 p2)), .val (.int (f2 p1 p2)), .val (.int (f1 p3 p4)), .val (.int (f2 p3 p4)), .val (.int (g0_1 p1 p2 p3 p4 q5 p6)), .val (.int (g0_2 p1 p2 p3 p4 q5 p6)), .val (.ref b7), .val (.int (g0_7 p1 p2 p3 p4 q5 p6)), .val (.int (g0_8 p1 p2 p3 p4 q5 p6)), .val (.long q5), .second, .unset] [(.long ((g0_4 p1 p2 p3 p4 q5 p6).toInt64))])) _
          refine own_sp (fun t k => XS.lload X23.here hx rfl (hb hby at_147) rfl k) ?_
          show Steps p.tables e below (T23.setTop (mkF m 149 #[.val (.int p1), .val (.int p2), .val (.int p3), .val (.int p4), .val (.long q5), .second, .val (.int p6), .val (.int (f1 p1 p2)), .val (.int (f2 p1 p2)), .val (.int (f1 p3 p4)), .val (.int (f2 p3 p4)), .val (.int (g0_1 p1 p2 p3 p4 q5 p6)), .val (.int (g0_2 p1 p2 p3 p4 q5 p6)), .val (.ref b7), .val (.int (g0_7 p1 p2 p3 p4 q5 p6)), .val (.int (g0_8 p1 p2 p3 p4 q5 p6)), .val (.long q5), .second, .unset] [(.long q5), (.long ((g0_4 p1 p2 p3 p4 q5 p6).toInt64))])) _
          refine own_sp (fun t k => X23.ldc2Long hx hown (mvT hZ (ow hw 17 rfl)) (g := (mkF m 149 #[.val (.int p1), .val (.int p2), .val (.int p3), .val (.int p4), .val (.long q5), .second, .val (.int p6), .val (.int (f1 p1 p2)), .val (.int (f2 p1 p2)), .val (.int (f1 p3 p4)), .val (.int (f2 p3 p4)), .val (.int (g0_1 p1 p2 p3 p4 q5 p6)), .val (.int (g0_2 p1 p2 p3 p4 q5 p6)), .val (.ref b7), .val (.int (g0_7 p1 p2 p3 p4 q5 p6)), .val (.int (g0_8 p1 p2 p3 p4 q5 p6)), .val (.long q5), .second, .unset] [(.long q5), (.long ((g0_4 p1 p2 p3 p4 q5 p6).toInt64))])) rfl (hb hby at_149) _ k) ?_
          show Steps p.tables e below (T23.setTop (mkF m 152 #[.val (.int p1), .val (.int p2), .val (.int p3), .val (.int p4), .val (.long q5), .second, .val (.int p6), .val (.int (f1 p1 p2)), .val (.int (f2 p1 p2)), .val (.int (f1 p3 p4)), .val (.int (f2 p3 p4)), .val (.int (g0_1 p1 p2 p3 p4 q5 p6)), .val (.int (g0_2 p1 p2 p3 p4 q5 p6)), .val (.ref b7), .val (.int (g0_7 p1 p2 p3 p4 q5 p6)), .val (.int (g0_8 p1 p2 p3 p4 q5 p6)), .val (.long q5), .second, .unset] [(.long (2 : Int64)), (.long q5), (.long ((g0_4 p1 p2 p3 p4 q5 p6).toInt64))])) _
          refine own_sp (fun t k => XS.lrem X23.here hx rfl (hb hby at_152) rfl (by decide) k) ?_
          show Steps p.tables e below (T23.setTop (mkF m 153 #[.val (.int p1), .val (.int p2), .val (.int p3), .val (.int p4), .val (.long q5), .second, .val (.int p6), .val (.int (f1 p1 p2)), .val (.int (f2 p1 p2)), .val (.int (f1 p3 p4)), .val (.int (f2 p3 p4)), .val (.int (g0_1 p1 p2 p3 p4 q5 p6)), .val (.int (g0_2 p1 p2 p3 p4 q5 p6)), .val (.ref b7), .val (.int (g0_7 p1 p2 p3 p4 q5 p6)), .val (.int (g0_8 p1 p2 p3 p4 q5 p6)), .val (.long q5), .second, .unset] [(.long (q5 - (q5 / (2 : Int64)) * (2 : Int64))), (.long ((g0_4 p1 p2 p3 p4 q5 p6).toInt64))])) _
          refine own_sp (fun t k => XS.ladd X23.here hx rfl (hb hby at_153) rfl k) ?_
          show Steps p.tables e below (T23.setTop (mkF m 154 #[.val (.int p1), .val (.int p2), .val (.int p3), .val (.int p4), .val (.long q5), .second, .val (.int p6), .val (.int (f1 p1 p2)), .val (.int (f2 p1 p2)), .val (.int (f1 p3 p4)), .val (.int (f2 p3 p4)), .val (.int (g0_1 p1 p2 p3 p4 q5 p6)), .val (.int (g0_2 p1 p2 p3 p4 q5 p6)), .val (.ref b7), .val (.int (g0_7 p1 p2 p3 p4 q5 p6)), .val (.int (g0_8 p1 p2 p3 p4 q5 p6)), .val (.long q5), .second, .unset] [(.long (((g0_4 p1 p2 p3 p4 q5 p6).toInt64) + (q5 - (q5 / (2 : Int64)) * (2 : Int64))))])) _
          refine own_sp (fun t k => XS.lstore X23.here hx rfl (hb hby at_154) rfl (l' := #[.val (.int p1), .val (.int p2), .val (.int p3), .val (.int p4), .val (.long q5), .second, .val (.int p6), .val (.int (f1 p1 p2)), .val (.int (f2 p1 p2)), .val (.int (f1 p3 p4)), .val (.int (f2 p3 p4)), .val (.int (g0_1 p1 p2 p3 p4 q5 p6)), .val (.int (g0_2 p1 p2 p3 p4 q5 p6)), .val (.ref b7), .val (.int (g0_7 p1 p2 p3 p4 q5 p6)), .val (.int (g0_8 p1 p2 p3 p4 q5 p6)), .val (.long (g0_10 p1 p2 p3 p4 q5 p6)), .second, .unset]) rfl k) ?_
          show Steps p.tables e below (T23.setTop (mkF m 156 #[.val (.int p1), .val (.int p2), .val (.int p3), .val (.int p4), .val (.long q5), .second, .val (.int p6), .val (.int (f1 p1 p2)), .val (.int (f2 p1 p2)), .val (.int (f1 p3 p4)), .val (.int (f2 p3 p4)), .val (.int (g0_1 p1 p2 p3 p4 q5 p6)), .val (.int (g0_2 p1 p2 p3 p4 q5 p6)), .val (.ref b7), .val (.int (g0_7 p1 p2 p3 p4 q5 p6)), .val (.int (g0_8 p1 p2 p3 p4 q5 p6)), .val (.long (g0_10 p1 p2 p3 p4 q5 p6)), .second, .unset] [])) _
          rw [show (g0_13 p1 p2 p3 p4 q5 p6) = (g0_10 p1 p2 p3 p4 q5 p6) from by rw [g0_13, if_neg c26, if_neg c27, if_pos c29]] at k
          exact k
        · skip
          by_cases c31 : (((p6.toUInt32 >>> ((13 : Int32) &&& 31).toUInt32).toInt32) &&& (3 : Int32)) = (2 : Int32)
          · rw [c31]
            show Steps p.tables e below (T23.setTop (mkF m 145 #[.val (.int p1), .val (.int p2), .val (.int p3), .val (.int p4), .val (.long q5), .second, .val (.int p6), .val (.int (f1 p1 p2)), .val (.int (f2 p1 p2)), .val (.int (f1 p3 p4)), .val (.int (f2 p3 p4)), .val (.int (g0_1 p1 p2 p3 p4 q5 p6)), .val (.int (g0_2 p1 p2 p3 p4 q5 p6)), .val (.ref b7), .val (.int (g0_7 p1 p2 p3 p4 q5 p6)), .val (.int (g0_8 p1 p2 p3 p4 q5 p6)), .val (.long q5), .second, .unset] [(.int (2 : Int32)), (.ref b7)])) _
            obtain ⟨cl32, Ar32, hi32, ha32⟩ := own_rd F25 (j := (2 : Int32)) (i := 2) (by decide) (by decide) (v := (.int (g0_5 p1 p2 p3 p4 q5 p6))) rfl
            refine own_sp (fun t k => X23.iaload hx (j := (2 : Int32)) (v := (.int (g0_5 p1 p2 p3 p4 q5 p6))) (by rw [e23]; exact Ar32.1) (State.isArrayOf_alike hZ.alike Ar32.2.1) Ar32.2.2 hi32 ha32 (g := (mkF m 145 #[.val (.int p1), .val (.int p2), .val (.int p3), .val (.int p4), .val (.long q5), .second, .val (.int p6), .val (.int (f1 p1 p2)), .val (.int (f2 p1 p2)), .val (.int (f1 p3 p4)), .val (.int (f2 p3 p4)), .val (.int (g0_1 p1 p2 p3 p4 q5 p6)), .val (.int (g0_2 p1 p2 p3 p4 q5 p6)), .val (.ref b7), .val (.int (g0_7 p1 p2 p3 p4 q5 p6)), .val (.int (g0_8 p1 p2 p3 p4 q5 p6)), .val (.long q5), .second, .unset] [(.int (2 : Int32)), (.ref b7)])) rfl rfl (hb hby at_145) t k) ?_
            show Steps p.tables e below (T23.setTop (mkF m 146 #[.val (.int p1), .val (.int p2), .val (.int p3), .val (.int p4), .val (.long q5), .second, .val (.int p6), .val (.int (f1 p1 p2)), .val (.int (f2 p1 p2)), .val (.int (f1 p3 p4)), .val (.int (f2 p3 p4)), .val (.int (g0_1 p1 p2 p3 p4 q5 p6)), .val (.int (g0_2 p1 p2 p3 p4 q5 p6)), .val (.ref b7), .val (.int (g0_7 p1 p2 p3 p4 q5 p6)), .val (.int (g0_8 p1 p2 p3 p4 q5 p6)), .val (.long q5), .second, .unset] [(.int (g0_5 p1 p2 p3 p4 q5 p6))])) _
            refine own_sp (fun t k => XS.i2l X23.here hx rfl (hb hby at_146) rfl k) ?_
            show Steps p.tables e below (T23.setTop (mkF m 147 #[.val (.int p1), .val (.int p2), .val (.int p3), .val (.int p4), .val (.long q5), .second, .val (.int p6), .val (.int (f1 p1 p2)), .val (.int (f2 p1 p2)), .val (.int (f1 p3 p4)), .val (.int (f2 p3 p4)), .val (.int (g0_1 p1 p2 p3 p4 q5 p6)), .val (.int (g0_2 p1 p2 p3 p4 q5 p6)), .val (.ref b7), .val (.int (g0_7 p1 p2 p3 p4 q5 p6)), .val (.int (g0_8 p1 p2 p3 p4 q5 p6)), .val (.long q5), .second, .unset] [(.long ((g0_5 p1 p2 p3 p4 q5 p6).toInt64))])) _
            refine own_sp (fun t k => XS.lload X23.here hx rfl (hb hby at_147) rfl k) ?_
            show Steps p.tables e below (T23.setTop (mkF m 149 #[.val (.int p1), .val (.int p2), .val (.int p3), .val (.int p4), .val (.long q5), .second, .val (.int p6), .val (.int (f1 p1 p2)), .val (.int (f2 p1 p2)), .val (.int (f1 p3 p4)), .val (.int (f2 p3 p4)), .val (.int (g0_1 p1 p2 p3 p4 q5 p6)), .val (.int (g0_2 p1 p2 p3 p4 q5 p6)), .val (.ref b7), .val (.int (g0_7 p1 p2 p3 p4 q5 p6)), .val (.int (g0_8 p1 p2 p3 p4 q5 p6)), .val (.long q5), .second, .unset] [(.long q5), (.long ((g0_5 p1 p2 p3 p4 q5 p6).toInt64))])) _
            refine own_sp (fun t k => X23.ldc2Long hx hown (mvT hZ (ow hw 17 rfl)) (g := (mkF m 149 #[.val (.int p1), .val (.int p2), .val (.int p3), .val (.int p4), .val (.long q5), .second, .val (.int p6), .val (.int (f1 p1 p2)), .val (.int (f2 p1 p2)), .val (.int (f1 p3 p4)), .val (.int (f2 p3 p4)), .val (.int (g0_1 p1 p2 p3 p4 q5 p6)), .val (.int (g0_2 p1 p2 p3 p4 q5 p6)), .val (.ref b7), .val (.int (g0_7 p1 p2 p3 p4 q5 p6)), .val (.int (g0_8 p1 p2 p3 p4 q5 p6)), .val (.long q5), .second, .unset] [(.long q5), (.long ((g0_5 p1 p2 p3 p4 q5 p6).toInt64))])) rfl (hb hby at_149) _ k) ?_
            show Steps p.tables e below (T23.setTop (mkF m 152 #[.val (.int p1), .val (.int p2), .val (.int p3), .val (.int p4), .val (.long q5), .second, .val (.int p6), .val (.int (f1 p1 p2)), .val (.int (f2 p1 p2)), .val (.int (f1 p3 p4)), .val (.int (f2 p3 p4)), .val (.int (g0_1 p1 p2 p3 p4 q5 p6)), .val (.int (g0_2 p1 p2 p3 p4 q5 p6)), .val (.ref b7), .val (.int (g0_7 p1 p2 p3 p4 q5 p6)), .val (.int (g0_8 p1 p2 p3 p4 q5 p6)), .val (.long q5), .second, .unset] [(.long (2 : Int64)), (.long q5), (.long ((g0_5 p1 p2 p3 p4 q5 p6).toInt64))])) _
            refine own_sp (fun t k => XS.lrem X23.here hx rfl (hb hby at_152) rfl (by decide) k) ?_
            show Steps p.tables e below (T23.setTop (mkF m 153 #[.val (.int p1), .val (.int p2), .val (.int p3), .val (.int p4), .val (.long q5), .second, .val (.int p6), .val (.int (f1 p1 p2)), .val (.int (f2 p1 p2)), .val (.int (f1 p3 p4)), .val (.int (f2 p3 p4)), .val (.int (g0_1 p1 p2 p3 p4 q5 p6)), .val (.int (g0_2 p1 p2 p3 p4 q5 p6)), .val (.ref b7), .val (.int (g0_7 p1 p2 p3 p4 q5 p6)), .val (.int (g0_8 p1 p2 p3 p4 q5 p6)), .val (.long q5), .second, .unset] [(.long (q5 - (q5 / (2 : Int64)) * (2 : Int64))), (.long ((g0_5 p1 p2 p3 p4 q5 p6).toInt64))])) _
            refine own_sp (fun t k => XS.ladd X23.here hx rfl (hb hby at_153) rfl k) ?_
            show Steps p.tables e below (T23.setTop (mkF m 154 #[.val (.int p1), .val (.int p2), .val (.int p3), .val (.int p4), .val (.long q5), .second, .val (.int p6), .val (.int (f1 p1 p2)), .val (.int (f2 p1 p2)), .val (.int (f1 p3 p4)), .val (.int (f2 p3 p4)), .val (.int (g0_1 p1 p2 p3 p4 q5 p6)), .val (.int (g0_2 p1 p2 p3 p4 q5 p6)), .val (.ref b7), .val (.int (g0_7 p1 p2 p3 p4 q5 p6)), .val (.int (g0_8 p1 p2 p3 p4 q5 p6)), .val (.long q5), .second, .unset] [(.long (((g0_5 p1 p2 p3 p4 q5 p6).toInt64) + (q5 - (q5 / (2 : Int64)) * (2 : Int64))))])) _
            refine own_sp (fun t k => XS.lstore X23.here hx rfl (hb hby at_154) rfl (l' := #[.val (.int p1), .val (.int p2), .val (.int p3), .val (.int p4), .val (.long q5), .second, .val (.int p6), .val (.int (f1 p1 p2)), .val (.int (f2 p1 p2)), .val (.int (f1 p3 p4)), .val (.int (f2 p3 p4)), .val (.int (g0_1 p1 p2 p3 p4 q5 p6)), .val (.int (g0_2 p1 p2 p3 p4 q5 p6)), .val (.ref b7), .val (.int (g0_7 p1 p2 p3 p4 q5 p6)), .val (.int (g0_8 p1 p2 p3 p4 q5 p6)), .val (.long (g0_11 p1 p2 p3 p4 q5 p6)), .second, .unset]) rfl k) ?_
            show Steps p.tables e below (T23.setTop (mkF m 156 #[.val (.int p1), .val (.int p2), .val (.int p3), .val (.int p4), .val (.long q5), .second, .val (.int p6), .val (.int (f1 p1 p2)), .val (.int (f2 p1 p2)), .val (.int (f1 p3 p4)), .val (.int (f2 p3 p4)), .val (.int (g0_1 p1 p2 p3 p4 q5 p6)), .val (.int (g0_2 p1 p2 p3 p4 q5 p6)), .val (.ref b7), .val (.int (g0_7 p1 p2 p3 p4 q5 p6)), .val (.int (g0_8 p1 p2 p3 p4 q5 p6)), .val (.long (g0_11 p1 p2 p3 p4 q5 p6)), .second, .unset] [])) _
            rw [show (g0_13 p1 p2 p3 p4 q5 p6) = (g0_11 p1 p2 p3 p4 q5 p6) from by rw [g0_13, if_neg c26, if_neg c27, if_neg c29, if_pos c31]] at k
            exact k
          · skip
            by_cases c33 : (((p6.toUInt32 >>> ((13 : Int32) &&& 31).toUInt32).toInt32) &&& (3 : Int32)) = (3 : Int32)
            · rw [c33]
              show Steps p.tables e below (T23.setTop (mkF m 145 #[.val (.int p1), .val (.int p2), .val (.int p3), .val (.int p4), .val (.long q5), .second, .val (.int p6), .val (.int (f1 p1 p2)), .val (.int (f2 p1 p2)), .val (.int (f1 p3 p4)), .val (.int (f2 p3 p4)), .val (.int (g0_1 p1 p2 p3 p4 q5 p6)), .val (.int (g0_2 p1 p2 p3 p4 q5 p6)), .val (.ref b7), .val (.int (g0_7 p1 p2 p3 p4 q5 p6)), .val (.int (g0_8 p1 p2 p3 p4 q5 p6)), .val (.long q5), .second, .unset] [(.int (3 : Int32)), (.ref b7)])) _
              obtain ⟨cl34, Ar34, hi34, ha34⟩ := own_rd F25 (j := (3 : Int32)) (i := 3) (by decide) (by decide) (v := (.int (g0_6 p1 p2 p3 p4 q5 p6))) rfl
              refine own_sp (fun t k => X23.iaload hx (j := (3 : Int32)) (v := (.int (g0_6 p1 p2 p3 p4 q5 p6))) (by rw [e23]; exact Ar34.1) (State.isArrayOf_alike hZ.alike Ar34.2.1) Ar34.2.2 hi34 ha34 (g := (mkF m 145 #[.val (.int p1), .val (.int p2), .val (.int p3), .val (.int p4), .val (.long q5), .second, .val (.int p6), .val (.int (f1 p1 p2)), .val (.int (f2 p1 p2)), .val (.int (f1 p3 p4)), .val (.int (f2 p3 p4)), .val (.int (g0_1 p1 p2 p3 p4 q5 p6)), .val (.int (g0_2 p1 p2 p3 p4 q5 p6)), .val (.ref b7), .val (.int (g0_7 p1 p2 p3 p4 q5 p6)), .val (.int (g0_8 p1 p2 p3 p4 q5 p6)), .val (.long q5), .second, .unset] [(.int (3 : Int32)), (.ref b7)])) rfl rfl (hb hby at_145) t k) ?_
              show Steps p.tables e below (T23.setTop (mkF m 146 #[.val (.int p1), .val (.int p2), .val (.int p3), .val (.int p4), .val (.long q5), .second, .val (.int p6), .val (.int (f1 p1 p2)), .val (.int (f2 p1 p2)), .val (.int (f1 p3 p4)), .val (.int (f2 p3 p4)), .val (.int (g0_1 p1 p2 p3 p4 q5 p6)), .val (.int (g0_2 p1 p2 p3 p4 q5 p6)), .val (.ref b7), .val (.int (g0_7 p1 p2 p3 p4 q5 p6)), .val (.int (g0_8 p1 p2 p3 p4 q5 p6)), .val (.long q5), .second, .unset] [(.int (g0_6 p1 p2 p3 p4 q5 p6))])) _
              refine own_sp (fun t k => XS.i2l X23.here hx rfl (hb hby at_146) rfl k) ?_
              show Steps p.tables e below (T23.setTop (mkF m 147 #[.val (.int p1), .val (.int p2), .val (.int p3), .val (.int p4), .val (.long q5), .second, .val (.int p6), .val (.int (f1 p1 p2)), .val (.int (f2 p1 p2)), .val (.int (f1 p3 p4)), .val (.int (f2 p3 p4)), .val (.int (g0_1 p1 p2 p3 p4 q5 p6)), .val (.int (g0_2 p1 p2 p3 p4 q5 p6)), .val (.ref b7), .val (.int (g0_7 p1 p2 p3 p4 q5 p6)), .val (.int (g0_8 p1 p2 p3 p4 q5 p6)), .val (.long q5), .second, .unset] [(.long ((g0_6 p1 p2 p3 p4 q5 p6).toInt64))])) _
              refine own_sp (fun t k => XS.lload X23.here hx rfl (hb hby at_147) rfl k) ?_
              show Steps p.tables e below (T23.setTop (mkF m 149 #[.val (.int p1), .val (.int p2), .val (.int p3), .val (.int p4), .val (.long q5), .second, .val (.int p6), .val (.int (f1 p1 p2)), .val (.int (f2 p1 p2)), .val (.int (f1 p3 p4)), .val (.int (f2 p3 p4)), .val (.int (g0_1 p1 p2 p3 p4 q5 p6)), .val (.int (g0_2 p1 p2 p3 p4 q5 p6)), .val (.ref b7), .val (.int (g0_7 p1 p2 p3 p4 q5 p6)), .val (.int (g0_8 p1 p2 p3 p4 q5 p6)), .val (.long q5), .second, .unset] [(.long q5), (.long ((g0_6 p1 p2 p3 p4 q5 p6).toInt64))])) _
              refine own_sp (fun t k => X23.ldc2Long hx hown (mvT hZ (ow hw 17 rfl)) (g := (mkF m 149 #[.val (.int p1), .val (.int p2), .val (.int p3), .val (.int p4), .val (.long q5), .second, .val (.int p6), .val (.int (f1 p1 p2)), .val (.int (f2 p1 p2)), .val (.int (f1 p3 p4)), .val (.int (f2 p3 p4)), .val (.int (g0_1 p1 p2 p3 p4 q5 p6)), .val (.int (g0_2 p1 p2 p3 p4 q5 p6)), .val (.ref b7), .val (.int (g0_7 p1 p2 p3 p4 q5 p6)), .val (.int (g0_8 p1 p2 p3 p4 q5 p6)), .val (.long q5), .second, .unset] [(.long q5), (.long ((g0_6 p1 p2 p3 p4 q5 p6).toInt64))])) rfl (hb hby at_149) _ k) ?_
              show Steps p.tables e below (T23.setTop (mkF m 152 #[.val (.int p1), .val (.int p2), .val (.int p3), .val (.int p4), .val (.long q5), .second, .val (.int p6), .val (.int (f1 p1 p2)), .val (.int (f2 p1 p2)), .val (.int (f1 p3 p4)), .val (.int (f2 p3 p4)), .val (.int (g0_1 p1 p2 p3 p4 q5 p6)), .val (.int (g0_2 p1 p2 p3 p4 q5 p6)), .val (.ref b7), .val (.int (g0_7 p1 p2 p3 p4 q5 p6)), .val (.int (g0_8 p1 p2 p3 p4 q5 p6)), .val (.long q5), .second, .unset] [(.long (2 : Int64)), (.long q5), (.long ((g0_6 p1 p2 p3 p4 q5 p6).toInt64))])) _
              refine own_sp (fun t k => XS.lrem X23.here hx rfl (hb hby at_152) rfl (by decide) k) ?_
              show Steps p.tables e below (T23.setTop (mkF m 153 #[.val (.int p1), .val (.int p2), .val (.int p3), .val (.int p4), .val (.long q5), .second, .val (.int p6), .val (.int (f1 p1 p2)), .val (.int (f2 p1 p2)), .val (.int (f1 p3 p4)), .val (.int (f2 p3 p4)), .val (.int (g0_1 p1 p2 p3 p4 q5 p6)), .val (.int (g0_2 p1 p2 p3 p4 q5 p6)), .val (.ref b7), .val (.int (g0_7 p1 p2 p3 p4 q5 p6)), .val (.int (g0_8 p1 p2 p3 p4 q5 p6)), .val (.long q5), .second, .unset] [(.long (q5 - (q5 / (2 : Int64)) * (2 : Int64))), (.long ((g0_6 p1 p2 p3 p4 q5 p6).toInt64))])) _
              refine own_sp (fun t k => XS.ladd X23.here hx rfl (hb hby at_153) rfl k) ?_
              show Steps p.tables e below (T23.setTop (mkF m 154 #[.val (.int p1), .val (.int p2), .val (.int p3), .val (.int p4), .val (.long q5), .second, .val (.int p6), .val (.int (f1 p1 p2)), .val (.int (f2 p1 p2)), .val (.int (f1 p3 p4)), .val (.int (f2 p3 p4)), .val (.int (g0_1 p1 p2 p3 p4 q5 p6)), .val (.int (g0_2 p1 p2 p3 p4 q5 p6)), .val (.ref b7), .val (.int (g0_7 p1 p2 p3 p4 q5 p6)), .val (.int (g0_8 p1 p2 p3 p4 q5 p6)), .val (.long q5), .second, .unset] [(.long (((g0_6 p1 p2 p3 p4 q5 p6).toInt64) + (q5 - (q5 / (2 : Int64)) * (2 : Int64))))])) _
              refine own_sp (fun t k => XS.lstore X23.here hx rfl (hb hby at_154) rfl (l' := #[.val (.int p1), .val (.int p2), .val (.int p3), .val (.int p4), .val (.long q5), .second, .val (.int p6), .val (.int (f1 p1 p2)), .val (.int (f2 p1 p2)), .val (.int (f1 p3 p4)), .val (.int (f2 p3 p4)), .val (.int (g0_1 p1 p2 p3 p4 q5 p6)), .val (.int (g0_2 p1 p2 p3 p4 q5 p6)), .val (.ref b7), .val (.int (g0_7 p1 p2 p3 p4 q5 p6)), .val (.int (g0_8 p1 p2 p3 p4 q5 p6)), .val (.long (g0_12 p1 p2 p3 p4 q5 p6)), .second, .unset]) rfl k) ?_
              show Steps p.tables e below (T23.setTop (mkF m 156 #[.val (.int p1), .val (.int p2), .val (.int p3), .val (.int p4), .val (.long q5), .second, .val (.int p6), .val (.int (f1 p1 p2)), .val (.int (f2 p1 p2)), .val (.int (f1 p3 p4)), .val (.int (f2 p3 p4)), .val (.int (g0_1 p1 p2 p3 p4 q5 p6)), .val (.int (g0_2 p1 p2 p3 p4 q5 p6)), .val (.ref b7), .val (.int (g0_7 p1 p2 p3 p4 q5 p6)), .val (.int (g0_8 p1 p2 p3 p4 q5 p6)), .val (.long (g0_12 p1 p2 p3 p4 q5 p6)), .second, .unset] [])) _
              rw [show (g0_13 p1 p2 p3 p4 q5 p6) = (g0_12 p1 p2 p3 p4 q5 p6) from by rw [g0_13, if_neg c26, if_neg c27, if_neg c29, if_neg c31, if_pos c33]] at k
              exact k
            · skip
              exact (own_ri p1 p2 p3 p4 q5 p6 c27 c29 c31 c33).elim
  show OG p e _ s below _ T23 (mkF m 156 #[.val (.int p1), .val (.int p2), .val (.int p3), .val (.int p4), .val (.long q5), .second, .val (.int p6), .val (.int (f1 p1 p2)), .val (.int (f2 p1 p2)), .val (.int (f1 p3 p4)), .val (.int (f2 p3 p4)), .val (.int (g0_1 p1 p2 p3 p4 q5 p6)), .val (.int (g0_2 p1 p2 p3 p4 q5 p6)), .val (.ref b7), .val (.int (g0_7 p1 p2 p3 p4 q5 p6)), .val (.int (g0_8 p1 p2 p3 p4 q5 p6)), .val (.long (g0_13 p1 p2 p3 p4 q5 p6)), .second, .unset] [])
  by_cases c35 : (g0_7 p1 p2 p3 p4 q5 p6) = (0 : Int32)
  · rw [c35]
    show OG p e _ s below _ T23 (mkF m 156 #[.val (.int p1), .val (.int p2), .val (.int p3), .val (.int p4), .val (.long q5), .second, .val (.int p6), .val (.int (f1 p1 p2)), .val (.int (f2 p1 p2)), .val (.int (f1 p3 p4)), .val (.int (f2 p3 p4)), .val (.int (g0_1 p1 p2 p3 p4 q5 p6)), .val (.int (g0_2 p1 p2 p3 p4 q5 p6)), .val (.ref b7), .val (.int (0 : Int32)), .val (.int (g0_8 p1 p2 p3 p4 q5 p6)), .val (.long (g0_13 p1 p2 p3 p4 q5 p6)), .second, .unset] [])
    refine wiload OGc 158 X23 B at_156 rfl rfl ?_
    by_cases c36 : (g0_8 p1 p2 p3 p4 q5 p6) = (0 : Int32)
    · rw [c36]
      show OG p e _ s below _ T23 (mkF m 158 #[.val (.int p1), .val (.int p2), .val (.int p3), .val (.int p4), .val (.long q5), .second, .val (.int p6), .val (.int (f1 p1 p2)), .val (.int (f2 p1 p2)), .val (.int (f1 p3 p4)), .val (.int (f2 p3 p4)), .val (.int (g0_1 p1 p2 p3 p4 q5 p6)), .val (.int (g0_2 p1 p2 p3 p4 q5 p6)), .val (.ref b7), .val (.int (0 : Int32)), .val (.int (0 : Int32)), .val (.long (g0_13 p1 p2 p3 p4 q5 p6)), .second, .unset] [(.int (0 : Int32))])
      refine waload OGc 160 X23 B at_158 rfl rfl rfl ?_
      refine wiconst OGc 161 X23 B at_160 0 rfl rfl ?_
      refine wiload OGc 163 X23 B at_161 rfl rfl ?_
      refine wiload OGc 165 X23 B at_163 rfl rfl ?_
      refine wlload OGc 167 X23 B at_165 rfl rfl ?_
      refine wstat OGc 170 X23 B hZ hown (ow hw 9 rfl) (ow hw 10 rfl) (ow hw 12 rfl) (ow hw 11 rfl) e23 (rm3_0 l Z a0 hw [] b7 (0 : Int32) (0 : Int32) (g0_13 p1 p2 p3 p4 q5 p6) (g0_3 p1 p2 p3 p4 q5 p6) (g0_4 p1 p2 p3 p4 q5 p6) (g0_5 p1 p2 p3 p4 q5 p6) (g0_6 p1 p2 p3 p4 q5 p6) h23 F25) 1 (by decide) (by decide) hml rfl (lenOf pd___IIIIJ_I rfl) [(.int (0 : Int32))] rfl rfl at_167 rfl fun _ T37 L37 X37 hQ37 => ?_
      obtain ⟨rfl, rfl, e37⟩ := hQ37
      have N37 := Fr.app N23 (Fr.nil n0)
      refine own_stk (S' := [(.int (f3_0 (0 : Int32) (0 : Int32) (g0_13 p1 p2 p3 p4 q5 p6) (g0_3 p1 p2 p3 p4 q5 p6) (g0_4 p1 p2 p3 p4 q5 p6) (g0_5 p1 p2 p3 p4 q5 p6) (g0_6 p1 p2 p3 p4 q5 p6))), (.int (0 : Int32))]) rfl ?_
      refine wiadd OGc 171 X37 B at_170 rfl ?_
      refine waload OGc 173 X37 B at_171 rfl rfl rfl ?_
      refine wiconst OGc 174 X37 B at_173 1 rfl rfl ?_
      refine wiload OGc 176 X37 B at_174 rfl rfl ?_
      refine wiload OGc 178 X37 B at_176 rfl rfl ?_
      refine wlload OGc 180 X37 B at_178 rfl rfl ?_
      refine wstat OGc 183 X37 B hZ hown (ow hw 9 rfl) (ow hw 10 rfl) (ow hw 12 rfl) (ow hw 11 rfl) e37 (rm3_1 l Z a0 hw [] b7 (0 : Int32) (0 : Int32) (g0_13 p1 p2 p3 p4 q5 p6) (g0_3 p1 p2 p3 p4 q5 p6) (g0_4 p1 p2 p3 p4 q5 p6) (g0_5 p1 p2 p3 p4 q5 p6) (g0_6 p1 p2 p3 p4 q5 p6) h23 F25) 1 (by decide) (by decide) hml rfl (lenOf pd___IIIIJ_I rfl) [(.int ((0 : Int32) + (f3_0 (0 : Int32) (0 : Int32) (g0_13 p1 p2 p3 p4 q5 p6) (g0_3 p1 p2 p3 p4 q5 p6) (g0_4 p1 p2 p3 p4 q5 p6) (g0_5 p1 p2 p3 p4 q5 p6) (g0_6 p1 p2 p3 p4 q5 p6))))] rfl rfl at_180 rfl fun _ T38 L38 X38 hQ38 => ?_
      obtain ⟨rfl, rfl, e38⟩ := hQ38
      have N38 := Fr.app N37 (Fr.nil n0)
      refine own_stk (S' := [(.int (f3_1 (0 : Int32) (0 : Int32) (g0_13 p1 p2 p3 p4 q5 p6) (g0_3 p1 p2 p3 p4 q5 p6) (g0_4 p1 p2 p3 p4 q5 p6) (g0_5 p1 p2 p3 p4 q5 p6) (g0_6 p1 p2 p3 p4 q5 p6))), (.int ((0 : Int32) + (f3_0 (0 : Int32) (0 : Int32) (g0_13 p1 p2 p3 p4 q5 p6) (g0_3 p1 p2 p3 p4 q5 p6) (g0_4 p1 p2 p3 p4 q5 p6) (g0_5 p1 p2 p3 p4 q5 p6) (g0_6 p1 p2 p3 p4 q5 p6))))]) rfl ?_
      refine wiadd OGc 184 X38 B at_183 rfl ?_
      refine waload OGc 186 X38 B at_184 rfl rfl rfl ?_
      refine wiconst OGc 187 X38 B at_186 2 rfl rfl ?_
      refine wiload OGc 189 X38 B at_187 rfl rfl ?_
      refine wiload OGc 191 X38 B at_189 rfl rfl ?_
      refine wlload OGc 193 X38 B at_191 rfl rfl ?_
      refine wstat OGc 196 X38 B hZ hown (ow hw 9 rfl) (ow hw 10 rfl) (ow hw 12 rfl) (ow hw 11 rfl) e38 (rm3_2 l Z a0 hw [] b7 (0 : Int32) (0 : Int32) (g0_13 p1 p2 p3 p4 q5 p6) (g0_3 p1 p2 p3 p4 q5 p6) (g0_4 p1 p2 p3 p4 q5 p6) (g0_5 p1 p2 p3 p4 q5 p6) (g0_6 p1 p2 p3 p4 q5 p6) h23 F25) 1 (by decide) (by decide) hml rfl (lenOf pd___IIIIJ_I rfl) [(.int (((0 : Int32) + (f3_0 (0 : Int32) (0 : Int32) (g0_13 p1 p2 p3 p4 q5 p6) (g0_3 p1 p2 p3 p4 q5 p6) (g0_4 p1 p2 p3 p4 q5 p6) (g0_5 p1 p2 p3 p4 q5 p6) (g0_6 p1 p2 p3 p4 q5 p6))) + (f3_1 (0 : Int32) (0 : Int32) (g0_13 p1 p2 p3 p4 q5 p6) (g0_3 p1 p2 p3 p4 q5 p6) (g0_4 p1 p2 p3 p4 q5 p6) (g0_5 p1 p2 p3 p4 q5 p6) (g0_6 p1 p2 p3 p4 q5 p6))))] rfl rfl at_193 rfl fun _ T39 L39 X39 hQ39 => ?_
      obtain ⟨rfl, rfl, e39⟩ := hQ39
      have N39 := Fr.app N38 (Fr.nil n0)
      refine own_stk (S' := [(.int (f3_2 (0 : Int32) (0 : Int32) (g0_13 p1 p2 p3 p4 q5 p6) (g0_3 p1 p2 p3 p4 q5 p6) (g0_4 p1 p2 p3 p4 q5 p6) (g0_5 p1 p2 p3 p4 q5 p6) (g0_6 p1 p2 p3 p4 q5 p6))), (.int (((0 : Int32) + (f3_0 (0 : Int32) (0 : Int32) (g0_13 p1 p2 p3 p4 q5 p6) (g0_3 p1 p2 p3 p4 q5 p6) (g0_4 p1 p2 p3 p4 q5 p6) (g0_5 p1 p2 p3 p4 q5 p6) (g0_6 p1 p2 p3 p4 q5 p6))) + (f3_1 (0 : Int32) (0 : Int32) (g0_13 p1 p2 p3 p4 q5 p6) (g0_3 p1 p2 p3 p4 q5 p6) (g0_4 p1 p2 p3 p4 q5 p6) (g0_5 p1 p2 p3 p4 q5 p6) (g0_6 p1 p2 p3 p4 q5 p6))))]) rfl ?_
      refine wiadd OGc 197 X39 B at_196 rfl ?_
      refine waload OGc 199 X39 B at_197 rfl rfl rfl ?_
      refine wiconst OGc 200 X39 B at_199 3 rfl rfl ?_
      refine wiload OGc 202 X39 B at_200 rfl rfl ?_
      refine wiload OGc 204 X39 B at_202 rfl rfl ?_
      refine wlload OGc 206 X39 B at_204 rfl rfl ?_
      refine wstat OGc 209 X39 B hZ hown (ow hw 9 rfl) (ow hw 10 rfl) (ow hw 12 rfl) (ow hw 11 rfl) e39 (rm3_3 l Z a0 hw [] b7 (0 : Int32) (0 : Int32) (g0_13 p1 p2 p3 p4 q5 p6) (g0_3 p1 p2 p3 p4 q5 p6) (g0_4 p1 p2 p3 p4 q5 p6) (g0_5 p1 p2 p3 p4 q5 p6) (g0_6 p1 p2 p3 p4 q5 p6) h23 F25) 1 (by decide) (by decide) hml rfl (lenOf pd___IIIIJ_I rfl) [(.int ((((0 : Int32) + (f3_0 (0 : Int32) (0 : Int32) (g0_13 p1 p2 p3 p4 q5 p6) (g0_3 p1 p2 p3 p4 q5 p6) (g0_4 p1 p2 p3 p4 q5 p6) (g0_5 p1 p2 p3 p4 q5 p6) (g0_6 p1 p2 p3 p4 q5 p6))) + (f3_1 (0 : Int32) (0 : Int32) (g0_13 p1 p2 p3 p4 q5 p6) (g0_3 p1 p2 p3 p4 q5 p6) (g0_4 p1 p2 p3 p4 q5 p6) (g0_5 p1 p2 p3 p4 q5 p6) (g0_6 p1 p2 p3 p4 q5 p6))) + (f3_2 (0 : Int32) (0 : Int32) (g0_13 p1 p2 p3 p4 q5 p6) (g0_3 p1 p2 p3 p4 q5 p6) (g0_4 p1 p2 p3 p4 q5 p6) (g0_5 p1 p2 p3 p4 q5 p6) (g0_6 p1 p2 p3 p4 q5 p6))))] rfl rfl at_206 rfl fun _ T40 L40 X40 hQ40 => ?_
      obtain ⟨rfl, rfl, e40⟩ := hQ40
      have N40 := Fr.app N39 (Fr.nil n0)
      refine own_stk (S' := [(.int (f3_3 (0 : Int32) (0 : Int32) (g0_13 p1 p2 p3 p4 q5 p6) (g0_3 p1 p2 p3 p4 q5 p6) (g0_4 p1 p2 p3 p4 q5 p6) (g0_5 p1 p2 p3 p4 q5 p6) (g0_6 p1 p2 p3 p4 q5 p6))), (.int ((((0 : Int32) + (f3_0 (0 : Int32) (0 : Int32) (g0_13 p1 p2 p3 p4 q5 p6) (g0_3 p1 p2 p3 p4 q5 p6) (g0_4 p1 p2 p3 p4 q5 p6) (g0_5 p1 p2 p3 p4 q5 p6) (g0_6 p1 p2 p3 p4 q5 p6))) + (f3_1 (0 : Int32) (0 : Int32) (g0_13 p1 p2 p3 p4 q5 p6) (g0_3 p1 p2 p3 p4 q5 p6) (g0_4 p1 p2 p3 p4 q5 p6) (g0_5 p1 p2 p3 p4 q5 p6) (g0_6 p1 p2 p3 p4 q5 p6))) + (f3_2 (0 : Int32) (0 : Int32) (g0_13 p1 p2 p3 p4 q5 p6) (g0_3 p1 p2 p3 p4 q5 p6) (g0_4 p1 p2 p3 p4 q5 p6) (g0_5 p1 p2 p3 p4 q5 p6) (g0_6 p1 p2 p3 p4 q5 p6))))]) rfl ?_
      refine wiadd OGc 210 X40 B at_209 rfl ?_
      refine wistore OGc 212 X40 B at_210 #[.val (.int p1), .val (.int p2), .val (.int p3), .val (.int p4), .val (.long q5), .second, .val (.int p6), .val (.int (f1 p1 p2)), .val (.int (f2 p1 p2)), .val (.int (f1 p3 p4)), .val (.int (f2 p3 p4)), .val (.int (g0_1 p1 p2 p3 p4 q5 p6)), .val (.int (g0_2 p1 p2 p3 p4 q5 p6)), .val (.ref b7), .val (.int (0 : Int32)), .val (.int (0 : Int32)), .val (.long (g0_13 p1 p2 p3 p4 q5 p6)), .second, .val (.int (g0_14 p1 p2 p3 p4 q5 p6))] rfl rfl ?_
      refine waload OGc 214 X40 B at_212 rfl rfl rfl ?_
      refine wiload OGc 216 X40 B at_214 rfl rfl ?_
      refine wiload OGc 218 X40 B at_216 rfl rfl ?_
      refine wlload OGc 220 X40 B at_218 rfl rfl ?_
      refine wstat OGc 223 X40 B hZ hown (ow hw 13 rfl) (ow hw 14 rfl) (ow hw 16 rfl) (ow hw 15 rfl) e40 (rm4_0_0 l Z a0 hw [] b7 (g0_13 p1 p2 p3 p4 q5 p6) (g0_3 p1 p2 p3 p4 q5 p6) (g0_4 p1 p2 p3 p4 q5 p6) (g0_5 p1 p2 p3 p4 q5 p6) (g0_6 p1 p2 p3 p4 q5 p6) h23 F25) 0 (by decide) (by decide) hml rfl (lenOf pd___IIIJ_I rfl) [] rfl rfl at_220 rfl fun _ T41 L41 X41 hQ41 => ?_
      obtain ⟨rfl, rfl, e41⟩ := hQ41
      have N41 := Fr.app N40 (Fr.nil n0)
      refine own_stk (S' := [(.int (f4_0_0 (g0_13 p1 p2 p3 p4 q5 p6) (g0_3 p1 p2 p3 p4 q5 p6) (g0_4 p1 p2 p3 p4 q5 p6) (g0_5 p1 p2 p3 p4 q5 p6) (g0_6 p1 p2 p3 p4 q5 p6)))]) rfl ?_
      refine wiload OGc 225 X41 B at_223 rfl rfl ?_
      by_cases c42 : (f4_0_0 (g0_13 p1 p2 p3 p4 q5 p6) (g0_3 p1 p2 p3 p4 q5 p6) (g0_4 p1 p2 p3 p4 q5 p6) (g0_5 p1 p2 p3 p4 q5 p6) (g0_6 p1 p2 p3 p4 q5 p6)) = (g0_14 p1 p2 p3 p4 q5 p6)
      · refine wicmpNo OGc 228 X41 B at_225 (teq c42).2 rfl ?_
        refine wiconst OGc 229 X41 B at_228 1 rfl rfl ?_
        refine wgoto OGc 233 X41 B at_229 rfl ?_
        refine own_retZ X41 hx (t := .boolean) hret (by simp) hlk (hb hby at_233) (by decide) (by decide) (w := (1 : Int32)) rfl ?_
        exact ⟨congrArg (fun z => some (Value.int z)) (show f0 p1 p2 p3 p4 q5 p6 = (1 : Int32) from (by rw [f0, if_pos c35, if_pos c36, if_pos c42])).symm, N41⟩
      · refine wicmpYes OGc 232 X41 B at_225 (feq c42).2 rfl ?_
        refine wiconst OGc 233 X41 B at_232 0 rfl rfl ?_
        refine own_retZ X41 hx (t := .boolean) hret (by simp) hlk (hb hby at_233) (by decide) (by decide) (w := (0 : Int32)) rfl ?_
        exact ⟨congrArg (fun z => some (Value.int z)) (show f0 p1 p2 p3 p4 q5 p6 = (0 : Int32) from (by rw [f0, if_pos c35, if_pos c36, if_neg c42])).symm, N41⟩
    · skip
      by_cases c43 : (g0_8 p1 p2 p3 p4 q5 p6) = (1 : Int32)
      · rw [c43]
        show OG p e _ s below _ T23 (mkF m 158 #[.val (.int p1), .val (.int p2), .val (.int p3), .val (.int p4), .val (.long q5), .second, .val (.int p6), .val (.int (f1 p1 p2)), .val (.int (f2 p1 p2)), .val (.int (f1 p3 p4)), .val (.int (f2 p3 p4)), .val (.int (g0_1 p1 p2 p3 p4 q5 p6)), .val (.int (g0_2 p1 p2 p3 p4 q5 p6)), .val (.ref b7), .val (.int (0 : Int32)), .val (.int (1 : Int32)), .val (.long (g0_13 p1 p2 p3 p4 q5 p6)), .second, .unset] [(.int (0 : Int32))])
        refine waload OGc 160 X23 B at_158 rfl rfl rfl ?_
        refine wiconst OGc 161 X23 B at_160 0 rfl rfl ?_
        refine wiload OGc 163 X23 B at_161 rfl rfl ?_
        refine wiload OGc 165 X23 B at_163 rfl rfl ?_
        refine wlload OGc 167 X23 B at_165 rfl rfl ?_
        refine wstat OGc 170 X23 B hZ hown (ow hw 9 rfl) (ow hw 10 rfl) (ow hw 12 rfl) (ow hw 11 rfl) e23 (rm3_0 l Z a0 hw [] b7 (0 : Int32) (1 : Int32) (g0_13 p1 p2 p3 p4 q5 p6) (g0_3 p1 p2 p3 p4 q5 p6) (g0_4 p1 p2 p3 p4 q5 p6) (g0_5 p1 p2 p3 p4 q5 p6) (g0_6 p1 p2 p3 p4 q5 p6) h23 F25) 1 (by decide) (by decide) hml rfl (lenOf pd___IIIIJ_I rfl) [(.int (0 : Int32))] rfl rfl at_167 rfl fun _ T44 L44 X44 hQ44 => ?_
        obtain ⟨rfl, rfl, e44⟩ := hQ44
        have N44 := Fr.app N23 (Fr.nil n0)
        refine own_stk (S' := [(.int (f3_0 (0 : Int32) (1 : Int32) (g0_13 p1 p2 p3 p4 q5 p6) (g0_3 p1 p2 p3 p4 q5 p6) (g0_4 p1 p2 p3 p4 q5 p6) (g0_5 p1 p2 p3 p4 q5 p6) (g0_6 p1 p2 p3 p4 q5 p6))), (.int (0 : Int32))]) rfl ?_
        refine wiadd OGc 171 X44 B at_170 rfl ?_
        refine waload OGc 173 X44 B at_171 rfl rfl rfl ?_
        refine wiconst OGc 174 X44 B at_173 1 rfl rfl ?_
        refine wiload OGc 176 X44 B at_174 rfl rfl ?_
        refine wiload OGc 178 X44 B at_176 rfl rfl ?_
        refine wlload OGc 180 X44 B at_178 rfl rfl ?_
        refine wstat OGc 183 X44 B hZ hown (ow hw 9 rfl) (ow hw 10 rfl) (ow hw 12 rfl) (ow hw 11 rfl) e44 (rm3_1 l Z a0 hw [] b7 (0 : Int32) (1 : Int32) (g0_13 p1 p2 p3 p4 q5 p6) (g0_3 p1 p2 p3 p4 q5 p6) (g0_4 p1 p2 p3 p4 q5 p6) (g0_5 p1 p2 p3 p4 q5 p6) (g0_6 p1 p2 p3 p4 q5 p6) h23 F25) 1 (by decide) (by decide) hml rfl (lenOf pd___IIIIJ_I rfl) [(.int ((0 : Int32) + (f3_0 (0 : Int32) (1 : Int32) (g0_13 p1 p2 p3 p4 q5 p6) (g0_3 p1 p2 p3 p4 q5 p6) (g0_4 p1 p2 p3 p4 q5 p6) (g0_5 p1 p2 p3 p4 q5 p6) (g0_6 p1 p2 p3 p4 q5 p6))))] rfl rfl at_180 rfl fun _ T45 L45 X45 hQ45 => ?_
        obtain ⟨rfl, rfl, e45⟩ := hQ45
        have N45 := Fr.app N44 (Fr.nil n0)
        refine own_stk (S' := [(.int (f3_1 (0 : Int32) (1 : Int32) (g0_13 p1 p2 p3 p4 q5 p6) (g0_3 p1 p2 p3 p4 q5 p6) (g0_4 p1 p2 p3 p4 q5 p6) (g0_5 p1 p2 p3 p4 q5 p6) (g0_6 p1 p2 p3 p4 q5 p6))), (.int ((0 : Int32) + (f3_0 (0 : Int32) (1 : Int32) (g0_13 p1 p2 p3 p4 q5 p6) (g0_3 p1 p2 p3 p4 q5 p6) (g0_4 p1 p2 p3 p4 q5 p6) (g0_5 p1 p2 p3 p4 q5 p6) (g0_6 p1 p2 p3 p4 q5 p6))))]) rfl ?_
        refine wiadd OGc 184 X45 B at_183 rfl ?_
        refine waload OGc 186 X45 B at_184 rfl rfl rfl ?_
        refine wiconst OGc 187 X45 B at_186 2 rfl rfl ?_
        refine wiload OGc 189 X45 B at_187 rfl rfl ?_
        refine wiload OGc 191 X45 B at_189 rfl rfl ?_
        refine wlload OGc 193 X45 B at_191 rfl rfl ?_
        refine wstat OGc 196 X45 B hZ hown (ow hw 9 rfl) (ow hw 10 rfl) (ow hw 12 rfl) (ow hw 11 rfl) e45 (rm3_2 l Z a0 hw [] b7 (0 : Int32) (1 : Int32) (g0_13 p1 p2 p3 p4 q5 p6) (g0_3 p1 p2 p3 p4 q5 p6) (g0_4 p1 p2 p3 p4 q5 p6) (g0_5 p1 p2 p3 p4 q5 p6) (g0_6 p1 p2 p3 p4 q5 p6) h23 F25) 1 (by decide) (by decide) hml rfl (lenOf pd___IIIIJ_I rfl) [(.int (((0 : Int32) + (f3_0 (0 : Int32) (1 : Int32) (g0_13 p1 p2 p3 p4 q5 p6) (g0_3 p1 p2 p3 p4 q5 p6) (g0_4 p1 p2 p3 p4 q5 p6) (g0_5 p1 p2 p3 p4 q5 p6) (g0_6 p1 p2 p3 p4 q5 p6))) + (f3_1 (0 : Int32) (1 : Int32) (g0_13 p1 p2 p3 p4 q5 p6) (g0_3 p1 p2 p3 p4 q5 p6) (g0_4 p1 p2 p3 p4 q5 p6) (g0_5 p1 p2 p3 p4 q5 p6) (g0_6 p1 p2 p3 p4 q5 p6))))] rfl rfl at_193 rfl fun _ T46 L46 X46 hQ46 => ?_
        obtain ⟨rfl, rfl, e46⟩ := hQ46
        have N46 := Fr.app N45 (Fr.nil n0)
        refine own_stk (S' := [(.int (f3_2 (0 : Int32) (1 : Int32) (g0_13 p1 p2 p3 p4 q5 p6) (g0_3 p1 p2 p3 p4 q5 p6) (g0_4 p1 p2 p3 p4 q5 p6) (g0_5 p1 p2 p3 p4 q5 p6) (g0_6 p1 p2 p3 p4 q5 p6))), (.int (((0 : Int32) + (f3_0 (0 : Int32) (1 : Int32) (g0_13 p1 p2 p3 p4 q5 p6) (g0_3 p1 p2 p3 p4 q5 p6) (g0_4 p1 p2 p3 p4 q5 p6) (g0_5 p1 p2 p3 p4 q5 p6) (g0_6 p1 p2 p3 p4 q5 p6))) + (f3_1 (0 : Int32) (1 : Int32) (g0_13 p1 p2 p3 p4 q5 p6) (g0_3 p1 p2 p3 p4 q5 p6) (g0_4 p1 p2 p3 p4 q5 p6) (g0_5 p1 p2 p3 p4 q5 p6) (g0_6 p1 p2 p3 p4 q5 p6))))]) rfl ?_
        refine wiadd OGc 197 X46 B at_196 rfl ?_
        refine waload OGc 199 X46 B at_197 rfl rfl rfl ?_
        refine wiconst OGc 200 X46 B at_199 3 rfl rfl ?_
        refine wiload OGc 202 X46 B at_200 rfl rfl ?_
        refine wiload OGc 204 X46 B at_202 rfl rfl ?_
        refine wlload OGc 206 X46 B at_204 rfl rfl ?_
        refine wstat OGc 209 X46 B hZ hown (ow hw 9 rfl) (ow hw 10 rfl) (ow hw 12 rfl) (ow hw 11 rfl) e46 (rm3_3 l Z a0 hw [] b7 (0 : Int32) (1 : Int32) (g0_13 p1 p2 p3 p4 q5 p6) (g0_3 p1 p2 p3 p4 q5 p6) (g0_4 p1 p2 p3 p4 q5 p6) (g0_5 p1 p2 p3 p4 q5 p6) (g0_6 p1 p2 p3 p4 q5 p6) h23 F25) 1 (by decide) (by decide) hml rfl (lenOf pd___IIIIJ_I rfl) [(.int ((((0 : Int32) + (f3_0 (0 : Int32) (1 : Int32) (g0_13 p1 p2 p3 p4 q5 p6) (g0_3 p1 p2 p3 p4 q5 p6) (g0_4 p1 p2 p3 p4 q5 p6) (g0_5 p1 p2 p3 p4 q5 p6) (g0_6 p1 p2 p3 p4 q5 p6))) + (f3_1 (0 : Int32) (1 : Int32) (g0_13 p1 p2 p3 p4 q5 p6) (g0_3 p1 p2 p3 p4 q5 p6) (g0_4 p1 p2 p3 p4 q5 p6) (g0_5 p1 p2 p3 p4 q5 p6) (g0_6 p1 p2 p3 p4 q5 p6))) + (f3_2 (0 : Int32) (1 : Int32) (g0_13 p1 p2 p3 p4 q5 p6) (g0_3 p1 p2 p3 p4 q5 p6) (g0_4 p1 p2 p3 p4 q5 p6) (g0_5 p1 p2 p3 p4 q5 p6) (g0_6 p1 p2 p3 p4 q5 p6))))] rfl rfl at_206 rfl fun _ T47 L47 X47 hQ47 => ?_
        obtain ⟨rfl, rfl, e47⟩ := hQ47
        have N47 := Fr.app N46 (Fr.nil n0)
        refine own_stk (S' := [(.int (f3_3 (0 : Int32) (1 : Int32) (g0_13 p1 p2 p3 p4 q5 p6) (g0_3 p1 p2 p3 p4 q5 p6) (g0_4 p1 p2 p3 p4 q5 p6) (g0_5 p1 p2 p3 p4 q5 p6) (g0_6 p1 p2 p3 p4 q5 p6))), (.int ((((0 : Int32) + (f3_0 (0 : Int32) (1 : Int32) (g0_13 p1 p2 p3 p4 q5 p6) (g0_3 p1 p2 p3 p4 q5 p6) (g0_4 p1 p2 p3 p4 q5 p6) (g0_5 p1 p2 p3 p4 q5 p6) (g0_6 p1 p2 p3 p4 q5 p6))) + (f3_1 (0 : Int32) (1 : Int32) (g0_13 p1 p2 p3 p4 q5 p6) (g0_3 p1 p2 p3 p4 q5 p6) (g0_4 p1 p2 p3 p4 q5 p6) (g0_5 p1 p2 p3 p4 q5 p6) (g0_6 p1 p2 p3 p4 q5 p6))) + (f3_2 (0 : Int32) (1 : Int32) (g0_13 p1 p2 p3 p4 q5 p6) (g0_3 p1 p2 p3 p4 q5 p6) (g0_4 p1 p2 p3 p4 q5 p6) (g0_5 p1 p2 p3 p4 q5 p6) (g0_6 p1 p2 p3 p4 q5 p6))))]) rfl ?_
        refine wiadd OGc 210 X47 B at_209 rfl ?_
        refine wistore OGc 212 X47 B at_210 #[.val (.int p1), .val (.int p2), .val (.int p3), .val (.int p4), .val (.long q5), .second, .val (.int p6), .val (.int (f1 p1 p2)), .val (.int (f2 p1 p2)), .val (.int (f1 p3 p4)), .val (.int (f2 p3 p4)), .val (.int (g0_1 p1 p2 p3 p4 q5 p6)), .val (.int (g0_2 p1 p2 p3 p4 q5 p6)), .val (.ref b7), .val (.int (0 : Int32)), .val (.int (1 : Int32)), .val (.long (g0_13 p1 p2 p3 p4 q5 p6)), .second, .val (.int (g0_15 p1 p2 p3 p4 q5 p6))] rfl rfl ?_
        refine waload OGc 214 X47 B at_212 rfl rfl rfl ?_
        refine wiload OGc 216 X47 B at_214 rfl rfl ?_
        refine wiload OGc 218 X47 B at_216 rfl rfl ?_
        refine wlload OGc 220 X47 B at_218 rfl rfl ?_
        refine wstat OGc 223 X47 B hZ hown (ow hw 13 rfl) (ow hw 14 rfl) (ow hw 16 rfl) (ow hw 15 rfl) e47 (rm4_0_1 l Z a0 hw [] b7 (g0_13 p1 p2 p3 p4 q5 p6) (g0_3 p1 p2 p3 p4 q5 p6) (g0_4 p1 p2 p3 p4 q5 p6) (g0_5 p1 p2 p3 p4 q5 p6) (g0_6 p1 p2 p3 p4 q5 p6) h23 F25) 0 (by decide) (by decide) hml rfl (lenOf pd___IIIJ_I rfl) [] rfl rfl at_220 rfl fun _ T48 L48 X48 hQ48 => ?_
        obtain ⟨rfl, rfl, e48⟩ := hQ48
        have N48 := Fr.app N47 (Fr.nil n0)
        refine own_stk (S' := [(.int (f4_0_1 (g0_13 p1 p2 p3 p4 q5 p6) (g0_3 p1 p2 p3 p4 q5 p6) (g0_4 p1 p2 p3 p4 q5 p6) (g0_5 p1 p2 p3 p4 q5 p6) (g0_6 p1 p2 p3 p4 q5 p6)))]) rfl ?_
        refine wiload OGc 225 X48 B at_223 rfl rfl ?_
        by_cases c49 : (f4_0_1 (g0_13 p1 p2 p3 p4 q5 p6) (g0_3 p1 p2 p3 p4 q5 p6) (g0_4 p1 p2 p3 p4 q5 p6) (g0_5 p1 p2 p3 p4 q5 p6) (g0_6 p1 p2 p3 p4 q5 p6)) = (g0_15 p1 p2 p3 p4 q5 p6)
        · refine wicmpNo OGc 228 X48 B at_225 (teq c49).2 rfl ?_
          refine wiconst OGc 229 X48 B at_228 1 rfl rfl ?_
          refine wgoto OGc 233 X48 B at_229 rfl ?_
          refine own_retZ X48 hx (t := .boolean) hret (by simp) hlk (hb hby at_233) (by decide) (by decide) (w := (1 : Int32)) rfl ?_
          exact ⟨congrArg (fun z => some (Value.int z)) (show f0 p1 p2 p3 p4 q5 p6 = (1 : Int32) from (by rw [f0, if_pos c35, if_neg c36, if_pos c43, if_pos c49])).symm, N48⟩
        · refine wicmpYes OGc 232 X48 B at_225 (feq c49).2 rfl ?_
          refine wiconst OGc 233 X48 B at_232 0 rfl rfl ?_
          refine own_retZ X48 hx (t := .boolean) hret (by simp) hlk (hb hby at_233) (by decide) (by decide) (w := (0 : Int32)) rfl ?_
          exact ⟨congrArg (fun z => some (Value.int z)) (show f0 p1 p2 p3 p4 q5 p6 = (0 : Int32) from (by rw [f0, if_pos c35, if_neg c36, if_pos c43, if_neg c49])).symm, N48⟩
      · skip
        by_cases c50 : (g0_8 p1 p2 p3 p4 q5 p6) = (2 : Int32)
        · rw [c50]
          show OG p e _ s below _ T23 (mkF m 158 #[.val (.int p1), .val (.int p2), .val (.int p3), .val (.int p4), .val (.long q5), .second, .val (.int p6), .val (.int (f1 p1 p2)), .val (.int (f2 p1 p2)), .val (.int (f1 p3 p4)), .val (.int (f2 p3 p4)), .val (.int (g0_1 p1 p2 p3 p4 q5 p6)), .val (.int (g0_2 p1 p2 p3 p4 q5 p6)), .val (.ref b7), .val (.int (0 : Int32)), .val (.int (2 : Int32)), .val (.long (g0_13 p1 p2 p3 p4 q5 p6)), .second, .unset] [(.int (0 : Int32))])
          refine waload OGc 160 X23 B at_158 rfl rfl rfl ?_
          refine wiconst OGc 161 X23 B at_160 0 rfl rfl ?_
          refine wiload OGc 163 X23 B at_161 rfl rfl ?_
          refine wiload OGc 165 X23 B at_163 rfl rfl ?_
          refine wlload OGc 167 X23 B at_165 rfl rfl ?_
          refine wstat OGc 170 X23 B hZ hown (ow hw 9 rfl) (ow hw 10 rfl) (ow hw 12 rfl) (ow hw 11 rfl) e23 (rm3_0 l Z a0 hw [] b7 (0 : Int32) (2 : Int32) (g0_13 p1 p2 p3 p4 q5 p6) (g0_3 p1 p2 p3 p4 q5 p6) (g0_4 p1 p2 p3 p4 q5 p6) (g0_5 p1 p2 p3 p4 q5 p6) (g0_6 p1 p2 p3 p4 q5 p6) h23 F25) 1 (by decide) (by decide) hml rfl (lenOf pd___IIIIJ_I rfl) [(.int (0 : Int32))] rfl rfl at_167 rfl fun _ T51 L51 X51 hQ51 => ?_
          obtain ⟨rfl, rfl, e51⟩ := hQ51
          have N51 := Fr.app N23 (Fr.nil n0)
          refine own_stk (S' := [(.int (f3_0 (0 : Int32) (2 : Int32) (g0_13 p1 p2 p3 p4 q5 p6) (g0_3 p1 p2 p3 p4 q5 p6) (g0_4 p1 p2 p3 p4 q5 p6) (g0_5 p1 p2 p3 p4 q5 p6) (g0_6 p1 p2 p3 p4 q5 p6))), (.int (0 : Int32))]) rfl ?_
          refine wiadd OGc 171 X51 B at_170 rfl ?_
          refine waload OGc 173 X51 B at_171 rfl rfl rfl ?_
          refine wiconst OGc 174 X51 B at_173 1 rfl rfl ?_
          refine wiload OGc 176 X51 B at_174 rfl rfl ?_
          refine wiload OGc 178 X51 B at_176 rfl rfl ?_
          refine wlload OGc 180 X51 B at_178 rfl rfl ?_
          refine wstat OGc 183 X51 B hZ hown (ow hw 9 rfl) (ow hw 10 rfl) (ow hw 12 rfl) (ow hw 11 rfl) e51 (rm3_1 l Z a0 hw [] b7 (0 : Int32) (2 : Int32) (g0_13 p1 p2 p3 p4 q5 p6) (g0_3 p1 p2 p3 p4 q5 p6) (g0_4 p1 p2 p3 p4 q5 p6) (g0_5 p1 p2 p3 p4 q5 p6) (g0_6 p1 p2 p3 p4 q5 p6) h23 F25) 1 (by decide) (by decide) hml rfl (lenOf pd___IIIIJ_I rfl) [(.int ((0 : Int32) + (f3_0 (0 : Int32) (2 : Int32) (g0_13 p1 p2 p3 p4 q5 p6) (g0_3 p1 p2 p3 p4 q5 p6) (g0_4 p1 p2 p3 p4 q5 p6) (g0_5 p1 p2 p3 p4 q5 p6) (g0_6 p1 p2 p3 p4 q5 p6))))] rfl rfl at_180 rfl fun _ T52 L52 X52 hQ52 => ?_
          obtain ⟨rfl, rfl, e52⟩ := hQ52
          have N52 := Fr.app N51 (Fr.nil n0)
          refine own_stk (S' := [(.int (f3_1 (0 : Int32) (2 : Int32) (g0_13 p1 p2 p3 p4 q5 p6) (g0_3 p1 p2 p3 p4 q5 p6) (g0_4 p1 p2 p3 p4 q5 p6) (g0_5 p1 p2 p3 p4 q5 p6) (g0_6 p1 p2 p3 p4 q5 p6))), (.int ((0 : Int32) + (f3_0 (0 : Int32) (2 : Int32) (g0_13 p1 p2 p3 p4 q5 p6) (g0_3 p1 p2 p3 p4 q5 p6) (g0_4 p1 p2 p3 p4 q5 p6) (g0_5 p1 p2 p3 p4 q5 p6) (g0_6 p1 p2 p3 p4 q5 p6))))]) rfl ?_
          refine wiadd OGc 184 X52 B at_183 rfl ?_
          refine waload OGc 186 X52 B at_184 rfl rfl rfl ?_
          refine wiconst OGc 187 X52 B at_186 2 rfl rfl ?_
          refine wiload OGc 189 X52 B at_187 rfl rfl ?_
          refine wiload OGc 191 X52 B at_189 rfl rfl ?_
          refine wlload OGc 193 X52 B at_191 rfl rfl ?_
          refine wstat OGc 196 X52 B hZ hown (ow hw 9 rfl) (ow hw 10 rfl) (ow hw 12 rfl) (ow hw 11 rfl) e52 (rm3_2 l Z a0 hw [] b7 (0 : Int32) (2 : Int32) (g0_13 p1 p2 p3 p4 q5 p6) (g0_3 p1 p2 p3 p4 q5 p6) (g0_4 p1 p2 p3 p4 q5 p6) (g0_5 p1 p2 p3 p4 q5 p6) (g0_6 p1 p2 p3 p4 q5 p6) h23 F25) 1 (by decide) (by decide) hml rfl (lenOf pd___IIIIJ_I rfl) [(.int (((0 : Int32) + (f3_0 (0 : Int32) (2 : Int32) (g0_13 p1 p2 p3 p4 q5 p6) (g0_3 p1 p2 p3 p4 q5 p6) (g0_4 p1 p2 p3 p4 q5 p6) (g0_5 p1 p2 p3 p4 q5 p6) (g0_6 p1 p2 p3 p4 q5 p6))) + (f3_1 (0 : Int32) (2 : Int32) (g0_13 p1 p2 p3 p4 q5 p6) (g0_3 p1 p2 p3 p4 q5 p6) (g0_4 p1 p2 p3 p4 q5 p6) (g0_5 p1 p2 p3 p4 q5 p6) (g0_6 p1 p2 p3 p4 q5 p6))))] rfl rfl at_193 rfl fun _ T53 L53 X53 hQ53 => ?_
          obtain ⟨rfl, rfl, e53⟩ := hQ53
          have N53 := Fr.app N52 (Fr.nil n0)
          refine own_stk (S' := [(.int (f3_2 (0 : Int32) (2 : Int32) (g0_13 p1 p2 p3 p4 q5 p6) (g0_3 p1 p2 p3 p4 q5 p6) (g0_4 p1 p2 p3 p4 q5 p6) (g0_5 p1 p2 p3 p4 q5 p6) (g0_6 p1 p2 p3 p4 q5 p6))), (.int (((0 : Int32) + (f3_0 (0 : Int32) (2 : Int32) (g0_13 p1 p2 p3 p4 q5 p6) (g0_3 p1 p2 p3 p4 q5 p6) (g0_4 p1 p2 p3 p4 q5 p6) (g0_5 p1 p2 p3 p4 q5 p6) (g0_6 p1 p2 p3 p4 q5 p6))) + (f3_1 (0 : Int32) (2 : Int32) (g0_13 p1 p2 p3 p4 q5 p6) (g0_3 p1 p2 p3 p4 q5 p6) (g0_4 p1 p2 p3 p4 q5 p6) (g0_5 p1 p2 p3 p4 q5 p6) (g0_6 p1 p2 p3 p4 q5 p6))))]) rfl ?_
          refine wiadd OGc 197 X53 B at_196 rfl ?_
          refine waload OGc 199 X53 B at_197 rfl rfl rfl ?_
          refine wiconst OGc 200 X53 B at_199 3 rfl rfl ?_
          refine wiload OGc 202 X53 B at_200 rfl rfl ?_
          refine wiload OGc 204 X53 B at_202 rfl rfl ?_
          refine wlload OGc 206 X53 B at_204 rfl rfl ?_
          refine wstat OGc 209 X53 B hZ hown (ow hw 9 rfl) (ow hw 10 rfl) (ow hw 12 rfl) (ow hw 11 rfl) e53 (rm3_3 l Z a0 hw [] b7 (0 : Int32) (2 : Int32) (g0_13 p1 p2 p3 p4 q5 p6) (g0_3 p1 p2 p3 p4 q5 p6) (g0_4 p1 p2 p3 p4 q5 p6) (g0_5 p1 p2 p3 p4 q5 p6) (g0_6 p1 p2 p3 p4 q5 p6) h23 F25) 1 (by decide) (by decide) hml rfl (lenOf pd___IIIIJ_I rfl) [(.int ((((0 : Int32) + (f3_0 (0 : Int32) (2 : Int32) (g0_13 p1 p2 p3 p4 q5 p6) (g0_3 p1 p2 p3 p4 q5 p6) (g0_4 p1 p2 p3 p4 q5 p6) (g0_5 p1 p2 p3 p4 q5 p6) (g0_6 p1 p2 p3 p4 q5 p6))) + (f3_1 (0 : Int32) (2 : Int32) (g0_13 p1 p2 p3 p4 q5 p6) (g0_3 p1 p2 p3 p4 q5 p6) (g0_4 p1 p2 p3 p4 q5 p6) (g0_5 p1 p2 p3 p4 q5 p6) (g0_6 p1 p2 p3 p4 q5 p6))) + (f3_2 (0 : Int32) (2 : Int32) (g0_13 p1 p2 p3 p4 q5 p6) (g0_3 p1 p2 p3 p4 q5 p6) (g0_4 p1 p2 p3 p4 q5 p6) (g0_5 p1 p2 p3 p4 q5 p6) (g0_6 p1 p2 p3 p4 q5 p6))))] rfl rfl at_206 rfl fun _ T54 L54 X54 hQ54 => ?_
          obtain ⟨rfl, rfl, e54⟩ := hQ54
          have N54 := Fr.app N53 (Fr.nil n0)
          refine own_stk (S' := [(.int (f3_3 (0 : Int32) (2 : Int32) (g0_13 p1 p2 p3 p4 q5 p6) (g0_3 p1 p2 p3 p4 q5 p6) (g0_4 p1 p2 p3 p4 q5 p6) (g0_5 p1 p2 p3 p4 q5 p6) (g0_6 p1 p2 p3 p4 q5 p6))), (.int ((((0 : Int32) + (f3_0 (0 : Int32) (2 : Int32) (g0_13 p1 p2 p3 p4 q5 p6) (g0_3 p1 p2 p3 p4 q5 p6) (g0_4 p1 p2 p3 p4 q5 p6) (g0_5 p1 p2 p3 p4 q5 p6) (g0_6 p1 p2 p3 p4 q5 p6))) + (f3_1 (0 : Int32) (2 : Int32) (g0_13 p1 p2 p3 p4 q5 p6) (g0_3 p1 p2 p3 p4 q5 p6) (g0_4 p1 p2 p3 p4 q5 p6) (g0_5 p1 p2 p3 p4 q5 p6) (g0_6 p1 p2 p3 p4 q5 p6))) + (f3_2 (0 : Int32) (2 : Int32) (g0_13 p1 p2 p3 p4 q5 p6) (g0_3 p1 p2 p3 p4 q5 p6) (g0_4 p1 p2 p3 p4 q5 p6) (g0_5 p1 p2 p3 p4 q5 p6) (g0_6 p1 p2 p3 p4 q5 p6))))]) rfl ?_
          refine wiadd OGc 210 X54 B at_209 rfl ?_
          refine wistore OGc 212 X54 B at_210 #[.val (.int p1), .val (.int p2), .val (.int p3), .val (.int p4), .val (.long q5), .second, .val (.int p6), .val (.int (f1 p1 p2)), .val (.int (f2 p1 p2)), .val (.int (f1 p3 p4)), .val (.int (f2 p3 p4)), .val (.int (g0_1 p1 p2 p3 p4 q5 p6)), .val (.int (g0_2 p1 p2 p3 p4 q5 p6)), .val (.ref b7), .val (.int (0 : Int32)), .val (.int (2 : Int32)), .val (.long (g0_13 p1 p2 p3 p4 q5 p6)), .second, .val (.int (g0_16 p1 p2 p3 p4 q5 p6))] rfl rfl ?_
          refine waload OGc 214 X54 B at_212 rfl rfl rfl ?_
          refine wiload OGc 216 X54 B at_214 rfl rfl ?_
          refine wiload OGc 218 X54 B at_216 rfl rfl ?_
          refine wlload OGc 220 X54 B at_218 rfl rfl ?_
          refine wstat OGc 223 X54 B hZ hown (ow hw 13 rfl) (ow hw 14 rfl) (ow hw 16 rfl) (ow hw 15 rfl) e54 (rm4_0_2 l Z a0 hw [] b7 (g0_13 p1 p2 p3 p4 q5 p6) (g0_3 p1 p2 p3 p4 q5 p6) (g0_4 p1 p2 p3 p4 q5 p6) (g0_5 p1 p2 p3 p4 q5 p6) (g0_6 p1 p2 p3 p4 q5 p6) h23 F25) 0 (by decide) (by decide) hml rfl (lenOf pd___IIIJ_I rfl) [] rfl rfl at_220 rfl fun _ T55 L55 X55 hQ55 => ?_
          obtain ⟨rfl, rfl, e55⟩ := hQ55
          have N55 := Fr.app N54 (Fr.nil n0)
          refine own_stk (S' := [(.int (f4_0_2 (g0_13 p1 p2 p3 p4 q5 p6) (g0_3 p1 p2 p3 p4 q5 p6) (g0_4 p1 p2 p3 p4 q5 p6) (g0_5 p1 p2 p3 p4 q5 p6) (g0_6 p1 p2 p3 p4 q5 p6)))]) rfl ?_
          refine wiload OGc 225 X55 B at_223 rfl rfl ?_
          by_cases c56 : (f4_0_2 (g0_13 p1 p2 p3 p4 q5 p6) (g0_3 p1 p2 p3 p4 q5 p6) (g0_4 p1 p2 p3 p4 q5 p6) (g0_5 p1 p2 p3 p4 q5 p6) (g0_6 p1 p2 p3 p4 q5 p6)) = (g0_16 p1 p2 p3 p4 q5 p6)
          · refine wicmpNo OGc 228 X55 B at_225 (teq c56).2 rfl ?_
            refine wiconst OGc 229 X55 B at_228 1 rfl rfl ?_
            refine wgoto OGc 233 X55 B at_229 rfl ?_
            refine own_retZ X55 hx (t := .boolean) hret (by simp) hlk (hb hby at_233) (by decide) (by decide) (w := (1 : Int32)) rfl ?_
            exact ⟨congrArg (fun z => some (Value.int z)) (show f0 p1 p2 p3 p4 q5 p6 = (1 : Int32) from (by rw [f0, if_pos c35, if_neg c36, if_neg c43, if_pos c50, if_pos c56])).symm, N55⟩
          · refine wicmpYes OGc 232 X55 B at_225 (feq c56).2 rfl ?_
            refine wiconst OGc 233 X55 B at_232 0 rfl rfl ?_
            refine own_retZ X55 hx (t := .boolean) hret (by simp) hlk (hb hby at_233) (by decide) (by decide) (w := (0 : Int32)) rfl ?_
            exact ⟨congrArg (fun z => some (Value.int z)) (show f0 p1 p2 p3 p4 q5 p6 = (0 : Int32) from (by rw [f0, if_pos c35, if_neg c36, if_neg c43, if_pos c50, if_neg c56])).symm, N55⟩
        · skip
          by_cases c57 : (g0_8 p1 p2 p3 p4 q5 p6) = (3 : Int32)
          · rw [c57]
            show OG p e _ s below _ T23 (mkF m 158 #[.val (.int p1), .val (.int p2), .val (.int p3), .val (.int p4), .val (.long q5), .second, .val (.int p6), .val (.int (f1 p1 p2)), .val (.int (f2 p1 p2)), .val (.int (f1 p3 p4)), .val (.int (f2 p3 p4)), .val (.int (g0_1 p1 p2 p3 p4 q5 p6)), .val (.int (g0_2 p1 p2 p3 p4 q5 p6)), .val (.ref b7), .val (.int (0 : Int32)), .val (.int (3 : Int32)), .val (.long (g0_13 p1 p2 p3 p4 q5 p6)), .second, .unset] [(.int (0 : Int32))])
            refine waload OGc 160 X23 B at_158 rfl rfl rfl ?_
            refine wiconst OGc 161 X23 B at_160 0 rfl rfl ?_
            refine wiload OGc 163 X23 B at_161 rfl rfl ?_
            refine wiload OGc 165 X23 B at_163 rfl rfl ?_
            refine wlload OGc 167 X23 B at_165 rfl rfl ?_
            refine wstat OGc 170 X23 B hZ hown (ow hw 9 rfl) (ow hw 10 rfl) (ow hw 12 rfl) (ow hw 11 rfl) e23 (rm3_0 l Z a0 hw [] b7 (0 : Int32) (3 : Int32) (g0_13 p1 p2 p3 p4 q5 p6) (g0_3 p1 p2 p3 p4 q5 p6) (g0_4 p1 p2 p3 p4 q5 p6) (g0_5 p1 p2 p3 p4 q5 p6) (g0_6 p1 p2 p3 p4 q5 p6) h23 F25) 1 (by decide) (by decide) hml rfl (lenOf pd___IIIIJ_I rfl) [(.int (0 : Int32))] rfl rfl at_167 rfl fun _ T58 L58 X58 hQ58 => ?_
            obtain ⟨rfl, rfl, e58⟩ := hQ58
            have N58 := Fr.app N23 (Fr.nil n0)
            refine own_stk (S' := [(.int (f3_0 (0 : Int32) (3 : Int32) (g0_13 p1 p2 p3 p4 q5 p6) (g0_3 p1 p2 p3 p4 q5 p6) (g0_4 p1 p2 p3 p4 q5 p6) (g0_5 p1 p2 p3 p4 q5 p6) (g0_6 p1 p2 p3 p4 q5 p6))), (.int (0 : Int32))]) rfl ?_
            refine wiadd OGc 171 X58 B at_170 rfl ?_
            refine waload OGc 173 X58 B at_171 rfl rfl rfl ?_
            refine wiconst OGc 174 X58 B at_173 1 rfl rfl ?_
            refine wiload OGc 176 X58 B at_174 rfl rfl ?_
            refine wiload OGc 178 X58 B at_176 rfl rfl ?_
            refine wlload OGc 180 X58 B at_178 rfl rfl ?_
            refine wstat OGc 183 X58 B hZ hown (ow hw 9 rfl) (ow hw 10 rfl) (ow hw 12 rfl) (ow hw 11 rfl) e58 (rm3_1 l Z a0 hw [] b7 (0 : Int32) (3 : Int32) (g0_13 p1 p2 p3 p4 q5 p6) (g0_3 p1 p2 p3 p4 q5 p6) (g0_4 p1 p2 p3 p4 q5 p6) (g0_5 p1 p2 p3 p4 q5 p6) (g0_6 p1 p2 p3 p4 q5 p6) h23 F25) 1 (by decide) (by decide) hml rfl (lenOf pd___IIIIJ_I rfl) [(.int ((0 : Int32) + (f3_0 (0 : Int32) (3 : Int32) (g0_13 p1 p2 p3 p4 q5 p6) (g0_3 p1 p2 p3 p4 q5 p6) (g0_4 p1 p2 p3 p4 q5 p6) (g0_5 p1 p2 p3 p4 q5 p6) (g0_6 p1 p2 p3 p4 q5 p6))))] rfl rfl at_180 rfl fun _ T59 L59 X59 hQ59 => ?_
            obtain ⟨rfl, rfl, e59⟩ := hQ59
            have N59 := Fr.app N58 (Fr.nil n0)
            refine own_stk (S' := [(.int (f3_1 (0 : Int32) (3 : Int32) (g0_13 p1 p2 p3 p4 q5 p6) (g0_3 p1 p2 p3 p4 q5 p6) (g0_4 p1 p2 p3 p4 q5 p6) (g0_5 p1 p2 p3 p4 q5 p6) (g0_6 p1 p2 p3 p4 q5 p6))), (.int ((0 : Int32) + (f3_0 (0 : Int32) (3 : Int32) (g0_13 p1 p2 p3 p4 q5 p6) (g0_3 p1 p2 p3 p4 q5 p6) (g0_4 p1 p2 p3 p4 q5 p6) (g0_5 p1 p2 p3 p4 q5 p6) (g0_6 p1 p2 p3 p4 q5 p6))))]) rfl ?_
            refine wiadd OGc 184 X59 B at_183 rfl ?_
            refine waload OGc 186 X59 B at_184 rfl rfl rfl ?_
            refine wiconst OGc 187 X59 B at_186 2 rfl rfl ?_
            refine wiload OGc 189 X59 B at_187 rfl rfl ?_
            refine wiload OGc 191 X59 B at_189 rfl rfl ?_
            refine wlload OGc 193 X59 B at_191 rfl rfl ?_
            refine wstat OGc 196 X59 B hZ hown (ow hw 9 rfl) (ow hw 10 rfl) (ow hw 12 rfl) (ow hw 11 rfl) e59 (rm3_2 l Z a0 hw [] b7 (0 : Int32) (3 : Int32) (g0_13 p1 p2 p3 p4 q5 p6) (g0_3 p1 p2 p3 p4 q5 p6) (g0_4 p1 p2 p3 p4 q5 p6) (g0_5 p1 p2 p3 p4 q5 p6) (g0_6 p1 p2 p3 p4 q5 p6) h23 F25) 1 (by decide) (by decide) hml rfl (lenOf pd___IIIIJ_I rfl) [(.int (((0 : Int32) + (f3_0 (0 : Int32) (3 : Int32) (g0_13 p1 p2 p3 p4 q5 p6) (g0_3 p1 p2 p3 p4 q5 p6) (g0_4 p1 p2 p3 p4 q5 p6) (g0_5 p1 p2 p3 p4 q5 p6) (g0_6 p1 p2 p3 p4 q5 p6))) + (f3_1 (0 : Int32) (3 : Int32) (g0_13 p1 p2 p3 p4 q5 p6) (g0_3 p1 p2 p3 p4 q5 p6) (g0_4 p1 p2 p3 p4 q5 p6) (g0_5 p1 p2 p3 p4 q5 p6) (g0_6 p1 p2 p3 p4 q5 p6))))] rfl rfl at_193 rfl fun _ T60 L60 X60 hQ60 => ?_
            obtain ⟨rfl, rfl, e60⟩ := hQ60
            have N60 := Fr.app N59 (Fr.nil n0)
            refine own_stk (S' := [(.int (f3_2 (0 : Int32) (3 : Int32) (g0_13 p1 p2 p3 p4 q5 p6) (g0_3 p1 p2 p3 p4 q5 p6) (g0_4 p1 p2 p3 p4 q5 p6) (g0_5 p1 p2 p3 p4 q5 p6) (g0_6 p1 p2 p3 p4 q5 p6))), (.int (((0 : Int32) + (f3_0 (0 : Int32) (3 : Int32) (g0_13 p1 p2 p3 p4 q5 p6) (g0_3 p1 p2 p3 p4 q5 p6) (g0_4 p1 p2 p3 p4 q5 p6) (g0_5 p1 p2 p3 p4 q5 p6) (g0_6 p1 p2 p3 p4 q5 p6))) + (f3_1 (0 : Int32) (3 : Int32) (g0_13 p1 p2 p3 p4 q5 p6) (g0_3 p1 p2 p3 p4 q5 p6) (g0_4 p1 p2 p3 p4 q5 p6) (g0_5 p1 p2 p3 p4 q5 p6) (g0_6 p1 p2 p3 p4 q5 p6))))]) rfl ?_
            refine wiadd OGc 197 X60 B at_196 rfl ?_
            refine waload OGc 199 X60 B at_197 rfl rfl rfl ?_
            refine wiconst OGc 200 X60 B at_199 3 rfl rfl ?_
            refine wiload OGc 202 X60 B at_200 rfl rfl ?_
            refine wiload OGc 204 X60 B at_202 rfl rfl ?_
            refine wlload OGc 206 X60 B at_204 rfl rfl ?_
            refine wstat OGc 209 X60 B hZ hown (ow hw 9 rfl) (ow hw 10 rfl) (ow hw 12 rfl) (ow hw 11 rfl) e60 (rm3_3 l Z a0 hw [] b7 (0 : Int32) (3 : Int32) (g0_13 p1 p2 p3 p4 q5 p6) (g0_3 p1 p2 p3 p4 q5 p6) (g0_4 p1 p2 p3 p4 q5 p6) (g0_5 p1 p2 p3 p4 q5 p6) (g0_6 p1 p2 p3 p4 q5 p6) h23 F25) 1 (by decide) (by decide) hml rfl (lenOf pd___IIIIJ_I rfl) [(.int ((((0 : Int32) + (f3_0 (0 : Int32) (3 : Int32) (g0_13 p1 p2 p3 p4 q5 p6) (g0_3 p1 p2 p3 p4 q5 p6) (g0_4 p1 p2 p3 p4 q5 p6) (g0_5 p1 p2 p3 p4 q5 p6) (g0_6 p1 p2 p3 p4 q5 p6))) + (f3_1 (0 : Int32) (3 : Int32) (g0_13 p1 p2 p3 p4 q5 p6) (g0_3 p1 p2 p3 p4 q5 p6) (g0_4 p1 p2 p3 p4 q5 p6) (g0_5 p1 p2 p3 p4 q5 p6) (g0_6 p1 p2 p3 p4 q5 p6))) + (f3_2 (0 : Int32) (3 : Int32) (g0_13 p1 p2 p3 p4 q5 p6) (g0_3 p1 p2 p3 p4 q5 p6) (g0_4 p1 p2 p3 p4 q5 p6) (g0_5 p1 p2 p3 p4 q5 p6) (g0_6 p1 p2 p3 p4 q5 p6))))] rfl rfl at_206 rfl fun _ T61 L61 X61 hQ61 => ?_
            obtain ⟨rfl, rfl, e61⟩ := hQ61
            have N61 := Fr.app N60 (Fr.nil n0)
            refine own_stk (S' := [(.int (f3_3 (0 : Int32) (3 : Int32) (g0_13 p1 p2 p3 p4 q5 p6) (g0_3 p1 p2 p3 p4 q5 p6) (g0_4 p1 p2 p3 p4 q5 p6) (g0_5 p1 p2 p3 p4 q5 p6) (g0_6 p1 p2 p3 p4 q5 p6))), (.int ((((0 : Int32) + (f3_0 (0 : Int32) (3 : Int32) (g0_13 p1 p2 p3 p4 q5 p6) (g0_3 p1 p2 p3 p4 q5 p6) (g0_4 p1 p2 p3 p4 q5 p6) (g0_5 p1 p2 p3 p4 q5 p6) (g0_6 p1 p2 p3 p4 q5 p6))) + (f3_1 (0 : Int32) (3 : Int32) (g0_13 p1 p2 p3 p4 q5 p6) (g0_3 p1 p2 p3 p4 q5 p6) (g0_4 p1 p2 p3 p4 q5 p6) (g0_5 p1 p2 p3 p4 q5 p6) (g0_6 p1 p2 p3 p4 q5 p6))) + (f3_2 (0 : Int32) (3 : Int32) (g0_13 p1 p2 p3 p4 q5 p6) (g0_3 p1 p2 p3 p4 q5 p6) (g0_4 p1 p2 p3 p4 q5 p6) (g0_5 p1 p2 p3 p4 q5 p6) (g0_6 p1 p2 p3 p4 q5 p6))))]) rfl ?_
            refine wiadd OGc 210 X61 B at_209 rfl ?_
            refine wistore OGc 212 X61 B at_210 #[.val (.int p1), .val (.int p2), .val (.int p3), .val (.int p4), .val (.long q5), .second, .val (.int p6), .val (.int (f1 p1 p2)), .val (.int (f2 p1 p2)), .val (.int (f1 p3 p4)), .val (.int (f2 p3 p4)), .val (.int (g0_1 p1 p2 p3 p4 q5 p6)), .val (.int (g0_2 p1 p2 p3 p4 q5 p6)), .val (.ref b7), .val (.int (0 : Int32)), .val (.int (3 : Int32)), .val (.long (g0_13 p1 p2 p3 p4 q5 p6)), .second, .val (.int (g0_17 p1 p2 p3 p4 q5 p6))] rfl rfl ?_
            refine waload OGc 214 X61 B at_212 rfl rfl rfl ?_
            refine wiload OGc 216 X61 B at_214 rfl rfl ?_
            refine wiload OGc 218 X61 B at_216 rfl rfl ?_
            refine wlload OGc 220 X61 B at_218 rfl rfl ?_
            refine wstat OGc 223 X61 B hZ hown (ow hw 13 rfl) (ow hw 14 rfl) (ow hw 16 rfl) (ow hw 15 rfl) e61 (rm4_0_3 l Z a0 hw [] b7 (g0_13 p1 p2 p3 p4 q5 p6) (g0_3 p1 p2 p3 p4 q5 p6) (g0_4 p1 p2 p3 p4 q5 p6) (g0_5 p1 p2 p3 p4 q5 p6) (g0_6 p1 p2 p3 p4 q5 p6) h23 F25) 0 (by decide) (by decide) hml rfl (lenOf pd___IIIJ_I rfl) [] rfl rfl at_220 rfl fun _ T62 L62 X62 hQ62 => ?_
            obtain ⟨rfl, rfl, e62⟩ := hQ62
            have N62 := Fr.app N61 (Fr.nil n0)
            refine own_stk (S' := [(.int (f4_0_3 (g0_13 p1 p2 p3 p4 q5 p6) (g0_3 p1 p2 p3 p4 q5 p6) (g0_4 p1 p2 p3 p4 q5 p6) (g0_5 p1 p2 p3 p4 q5 p6) (g0_6 p1 p2 p3 p4 q5 p6)))]) rfl ?_
            refine wiload OGc 225 X62 B at_223 rfl rfl ?_
            by_cases c63 : (f4_0_3 (g0_13 p1 p2 p3 p4 q5 p6) (g0_3 p1 p2 p3 p4 q5 p6) (g0_4 p1 p2 p3 p4 q5 p6) (g0_5 p1 p2 p3 p4 q5 p6) (g0_6 p1 p2 p3 p4 q5 p6)) = (g0_17 p1 p2 p3 p4 q5 p6)
            · refine wicmpNo OGc 228 X62 B at_225 (teq c63).2 rfl ?_
              refine wiconst OGc 229 X62 B at_228 1 rfl rfl ?_
              refine wgoto OGc 233 X62 B at_229 rfl ?_
              refine own_retZ X62 hx (t := .boolean) hret (by simp) hlk (hb hby at_233) (by decide) (by decide) (w := (1 : Int32)) rfl ?_
              exact ⟨congrArg (fun z => some (Value.int z)) (show f0 p1 p2 p3 p4 q5 p6 = (1 : Int32) from (by rw [f0, if_pos c35, if_neg c36, if_neg c43, if_neg c50, if_pos c57, if_pos c63])).symm, N62⟩
            · refine wicmpYes OGc 232 X62 B at_225 (feq c63).2 rfl ?_
              refine wiconst OGc 233 X62 B at_232 0 rfl rfl ?_
              refine own_retZ X62 hx (t := .boolean) hret (by simp) hlk (hb hby at_233) (by decide) (by decide) (w := (0 : Int32)) rfl ?_
              exact ⟨congrArg (fun z => some (Value.int z)) (show f0 p1 p2 p3 p4 q5 p6 = (0 : Int32) from (by rw [f0, if_pos c35, if_neg c36, if_neg c43, if_neg c50, if_pos c57, if_neg c63])).symm, N62⟩
          · skip
            by_cases c64 : (g0_8 p1 p2 p3 p4 q5 p6) = (4 : Int32)
            · rw [c64]
              show OG p e _ s below _ T23 (mkF m 158 #[.val (.int p1), .val (.int p2), .val (.int p3), .val (.int p4), .val (.long q5), .second, .val (.int p6), .val (.int (f1 p1 p2)), .val (.int (f2 p1 p2)), .val (.int (f1 p3 p4)), .val (.int (f2 p3 p4)), .val (.int (g0_1 p1 p2 p3 p4 q5 p6)), .val (.int (g0_2 p1 p2 p3 p4 q5 p6)), .val (.ref b7), .val (.int (0 : Int32)), .val (.int (4 : Int32)), .val (.long (g0_13 p1 p2 p3 p4 q5 p6)), .second, .unset] [(.int (0 : Int32))])
              refine waload OGc 160 X23 B at_158 rfl rfl rfl ?_
              refine wiconst OGc 161 X23 B at_160 0 rfl rfl ?_
              refine wiload OGc 163 X23 B at_161 rfl rfl ?_
              refine wiload OGc 165 X23 B at_163 rfl rfl ?_
              refine wlload OGc 167 X23 B at_165 rfl rfl ?_
              refine wstat OGc 170 X23 B hZ hown (ow hw 9 rfl) (ow hw 10 rfl) (ow hw 12 rfl) (ow hw 11 rfl) e23 (rm3_0 l Z a0 hw [] b7 (0 : Int32) (4 : Int32) (g0_13 p1 p2 p3 p4 q5 p6) (g0_3 p1 p2 p3 p4 q5 p6) (g0_4 p1 p2 p3 p4 q5 p6) (g0_5 p1 p2 p3 p4 q5 p6) (g0_6 p1 p2 p3 p4 q5 p6) h23 F25) 1 (by decide) (by decide) hml rfl (lenOf pd___IIIIJ_I rfl) [(.int (0 : Int32))] rfl rfl at_167 rfl fun _ T65 L65 X65 hQ65 => ?_
              obtain ⟨rfl, rfl, e65⟩ := hQ65
              have N65 := Fr.app N23 (Fr.nil n0)
              refine own_stk (S' := [(.int (f3_0 (0 : Int32) (4 : Int32) (g0_13 p1 p2 p3 p4 q5 p6) (g0_3 p1 p2 p3 p4 q5 p6) (g0_4 p1 p2 p3 p4 q5 p6) (g0_5 p1 p2 p3 p4 q5 p6) (g0_6 p1 p2 p3 p4 q5 p6))), (.int (0 : Int32))]) rfl ?_
              refine wiadd OGc 171 X65 B at_170 rfl ?_
              refine waload OGc 173 X65 B at_171 rfl rfl rfl ?_
              refine wiconst OGc 174 X65 B at_173 1 rfl rfl ?_
              refine wiload OGc 176 X65 B at_174 rfl rfl ?_
              refine wiload OGc 178 X65 B at_176 rfl rfl ?_
              refine wlload OGc 180 X65 B at_178 rfl rfl ?_
              refine wstat OGc 183 X65 B hZ hown (ow hw 9 rfl) (ow hw 10 rfl) (ow hw 12 rfl) (ow hw 11 rfl) e65 (rm3_1 l Z a0 hw [] b7 (0 : Int32) (4 : Int32) (g0_13 p1 p2 p3 p4 q5 p6) (g0_3 p1 p2 p3 p4 q5 p6) (g0_4 p1 p2 p3 p4 q5 p6) (g0_5 p1 p2 p3 p4 q5 p6) (g0_6 p1 p2 p3 p4 q5 p6) h23 F25) 1 (by decide) (by decide) hml rfl (lenOf pd___IIIIJ_I rfl) [(.int ((0 : Int32) + (f3_0 (0 : Int32) (4 : Int32) (g0_13 p1 p2 p3 p4 q5 p6) (g0_3 p1 p2 p3 p4 q5 p6) (g0_4 p1 p2 p3 p4 q5 p6) (g0_5 p1 p2 p3 p4 q5 p6) (g0_6 p1 p2 p3 p4 q5 p6))))] rfl rfl at_180 rfl fun _ T66 L66 X66 hQ66 => ?_
              obtain ⟨rfl, rfl, e66⟩ := hQ66
              have N66 := Fr.app N65 (Fr.nil n0)
              refine own_stk (S' := [(.int (f3_1 (0 : Int32) (4 : Int32) (g0_13 p1 p2 p3 p4 q5 p6) (g0_3 p1 p2 p3 p4 q5 p6) (g0_4 p1 p2 p3 p4 q5 p6) (g0_5 p1 p2 p3 p4 q5 p6) (g0_6 p1 p2 p3 p4 q5 p6))), (.int ((0 : Int32) + (f3_0 (0 : Int32) (4 : Int32) (g0_13 p1 p2 p3 p4 q5 p6) (g0_3 p1 p2 p3 p4 q5 p6) (g0_4 p1 p2 p3 p4 q5 p6) (g0_5 p1 p2 p3 p4 q5 p6) (g0_6 p1 p2 p3 p4 q5 p6))))]) rfl ?_
              refine wiadd OGc 184 X66 B at_183 rfl ?_
              refine waload OGc 186 X66 B at_184 rfl rfl rfl ?_
              refine wiconst OGc 187 X66 B at_186 2 rfl rfl ?_
              refine wiload OGc 189 X66 B at_187 rfl rfl ?_
              refine wiload OGc 191 X66 B at_189 rfl rfl ?_
              refine wlload OGc 193 X66 B at_191 rfl rfl ?_
              refine wstat OGc 196 X66 B hZ hown (ow hw 9 rfl) (ow hw 10 rfl) (ow hw 12 rfl) (ow hw 11 rfl) e66 (rm3_2 l Z a0 hw [] b7 (0 : Int32) (4 : Int32) (g0_13 p1 p2 p3 p4 q5 p6) (g0_3 p1 p2 p3 p4 q5 p6) (g0_4 p1 p2 p3 p4 q5 p6) (g0_5 p1 p2 p3 p4 q5 p6) (g0_6 p1 p2 p3 p4 q5 p6) h23 F25) 1 (by decide) (by decide) hml rfl (lenOf pd___IIIIJ_I rfl) [(.int (((0 : Int32) + (f3_0 (0 : Int32) (4 : Int32) (g0_13 p1 p2 p3 p4 q5 p6) (g0_3 p1 p2 p3 p4 q5 p6) (g0_4 p1 p2 p3 p4 q5 p6) (g0_5 p1 p2 p3 p4 q5 p6) (g0_6 p1 p2 p3 p4 q5 p6))) + (f3_1 (0 : Int32) (4 : Int32) (g0_13 p1 p2 p3 p4 q5 p6) (g0_3 p1 p2 p3 p4 q5 p6) (g0_4 p1 p2 p3 p4 q5 p6) (g0_5 p1 p2 p3 p4 q5 p6) (g0_6 p1 p2 p3 p4 q5 p6))))] rfl rfl at_193 rfl fun _ T67 L67 X67 hQ67 => ?_
              obtain ⟨rfl, rfl, e67⟩ := hQ67
              have N67 := Fr.app N66 (Fr.nil n0)
              refine own_stk (S' := [(.int (f3_2 (0 : Int32) (4 : Int32) (g0_13 p1 p2 p3 p4 q5 p6) (g0_3 p1 p2 p3 p4 q5 p6) (g0_4 p1 p2 p3 p4 q5 p6) (g0_5 p1 p2 p3 p4 q5 p6) (g0_6 p1 p2 p3 p4 q5 p6))), (.int (((0 : Int32) + (f3_0 (0 : Int32) (4 : Int32) (g0_13 p1 p2 p3 p4 q5 p6) (g0_3 p1 p2 p3 p4 q5 p6) (g0_4 p1 p2 p3 p4 q5 p6) (g0_5 p1 p2 p3 p4 q5 p6) (g0_6 p1 p2 p3 p4 q5 p6))) + (f3_1 (0 : Int32) (4 : Int32) (g0_13 p1 p2 p3 p4 q5 p6) (g0_3 p1 p2 p3 p4 q5 p6) (g0_4 p1 p2 p3 p4 q5 p6) (g0_5 p1 p2 p3 p4 q5 p6) (g0_6 p1 p2 p3 p4 q5 p6))))]) rfl ?_
              refine wiadd OGc 197 X67 B at_196 rfl ?_
              refine waload OGc 199 X67 B at_197 rfl rfl rfl ?_
              refine wiconst OGc 200 X67 B at_199 3 rfl rfl ?_
              refine wiload OGc 202 X67 B at_200 rfl rfl ?_
              refine wiload OGc 204 X67 B at_202 rfl rfl ?_
              refine wlload OGc 206 X67 B at_204 rfl rfl ?_
              refine wstat OGc 209 X67 B hZ hown (ow hw 9 rfl) (ow hw 10 rfl) (ow hw 12 rfl) (ow hw 11 rfl) e67 (rm3_3 l Z a0 hw [] b7 (0 : Int32) (4 : Int32) (g0_13 p1 p2 p3 p4 q5 p6) (g0_3 p1 p2 p3 p4 q5 p6) (g0_4 p1 p2 p3 p4 q5 p6) (g0_5 p1 p2 p3 p4 q5 p6) (g0_6 p1 p2 p3 p4 q5 p6) h23 F25) 1 (by decide) (by decide) hml rfl (lenOf pd___IIIIJ_I rfl) [(.int ((((0 : Int32) + (f3_0 (0 : Int32) (4 : Int32) (g0_13 p1 p2 p3 p4 q5 p6) (g0_3 p1 p2 p3 p4 q5 p6) (g0_4 p1 p2 p3 p4 q5 p6) (g0_5 p1 p2 p3 p4 q5 p6) (g0_6 p1 p2 p3 p4 q5 p6))) + (f3_1 (0 : Int32) (4 : Int32) (g0_13 p1 p2 p3 p4 q5 p6) (g0_3 p1 p2 p3 p4 q5 p6) (g0_4 p1 p2 p3 p4 q5 p6) (g0_5 p1 p2 p3 p4 q5 p6) (g0_6 p1 p2 p3 p4 q5 p6))) + (f3_2 (0 : Int32) (4 : Int32) (g0_13 p1 p2 p3 p4 q5 p6) (g0_3 p1 p2 p3 p4 q5 p6) (g0_4 p1 p2 p3 p4 q5 p6) (g0_5 p1 p2 p3 p4 q5 p6) (g0_6 p1 p2 p3 p4 q5 p6))))] rfl rfl at_206 rfl fun _ T68 L68 X68 hQ68 => ?_
              obtain ⟨rfl, rfl, e68⟩ := hQ68
              have N68 := Fr.app N67 (Fr.nil n0)
              refine own_stk (S' := [(.int (f3_3 (0 : Int32) (4 : Int32) (g0_13 p1 p2 p3 p4 q5 p6) (g0_3 p1 p2 p3 p4 q5 p6) (g0_4 p1 p2 p3 p4 q5 p6) (g0_5 p1 p2 p3 p4 q5 p6) (g0_6 p1 p2 p3 p4 q5 p6))), (.int ((((0 : Int32) + (f3_0 (0 : Int32) (4 : Int32) (g0_13 p1 p2 p3 p4 q5 p6) (g0_3 p1 p2 p3 p4 q5 p6) (g0_4 p1 p2 p3 p4 q5 p6) (g0_5 p1 p2 p3 p4 q5 p6) (g0_6 p1 p2 p3 p4 q5 p6))) + (f3_1 (0 : Int32) (4 : Int32) (g0_13 p1 p2 p3 p4 q5 p6) (g0_3 p1 p2 p3 p4 q5 p6) (g0_4 p1 p2 p3 p4 q5 p6) (g0_5 p1 p2 p3 p4 q5 p6) (g0_6 p1 p2 p3 p4 q5 p6))) + (f3_2 (0 : Int32) (4 : Int32) (g0_13 p1 p2 p3 p4 q5 p6) (g0_3 p1 p2 p3 p4 q5 p6) (g0_4 p1 p2 p3 p4 q5 p6) (g0_5 p1 p2 p3 p4 q5 p6) (g0_6 p1 p2 p3 p4 q5 p6))))]) rfl ?_
              refine wiadd OGc 210 X68 B at_209 rfl ?_
              refine wistore OGc 212 X68 B at_210 #[.val (.int p1), .val (.int p2), .val (.int p3), .val (.int p4), .val (.long q5), .second, .val (.int p6), .val (.int (f1 p1 p2)), .val (.int (f2 p1 p2)), .val (.int (f1 p3 p4)), .val (.int (f2 p3 p4)), .val (.int (g0_1 p1 p2 p3 p4 q5 p6)), .val (.int (g0_2 p1 p2 p3 p4 q5 p6)), .val (.ref b7), .val (.int (0 : Int32)), .val (.int (4 : Int32)), .val (.long (g0_13 p1 p2 p3 p4 q5 p6)), .second, .val (.int (g0_18 p1 p2 p3 p4 q5 p6))] rfl rfl ?_
              refine waload OGc 214 X68 B at_212 rfl rfl rfl ?_
              refine wiload OGc 216 X68 B at_214 rfl rfl ?_
              refine wiload OGc 218 X68 B at_216 rfl rfl ?_
              refine wlload OGc 220 X68 B at_218 rfl rfl ?_
              refine wstat OGc 223 X68 B hZ hown (ow hw 13 rfl) (ow hw 14 rfl) (ow hw 16 rfl) (ow hw 15 rfl) e68 (rm4_0_4 l Z a0 hw [] b7 (g0_13 p1 p2 p3 p4 q5 p6) (g0_3 p1 p2 p3 p4 q5 p6) (g0_4 p1 p2 p3 p4 q5 p6) (g0_5 p1 p2 p3 p4 q5 p6) (g0_6 p1 p2 p3 p4 q5 p6) h23 F25) 0 (by decide) (by decide) hml rfl (lenOf pd___IIIJ_I rfl) [] rfl rfl at_220 rfl fun _ T69 L69 X69 hQ69 => ?_
              obtain ⟨rfl, rfl, e69⟩ := hQ69
              have N69 := Fr.app N68 (Fr.nil n0)
              refine own_stk (S' := [(.int (f4_0_4 (g0_13 p1 p2 p3 p4 q5 p6) (g0_3 p1 p2 p3 p4 q5 p6) (g0_4 p1 p2 p3 p4 q5 p6) (g0_5 p1 p2 p3 p4 q5 p6) (g0_6 p1 p2 p3 p4 q5 p6)))]) rfl ?_
              refine wiload OGc 225 X69 B at_223 rfl rfl ?_
              by_cases c70 : (f4_0_4 (g0_13 p1 p2 p3 p4 q5 p6) (g0_3 p1 p2 p3 p4 q5 p6) (g0_4 p1 p2 p3 p4 q5 p6) (g0_5 p1 p2 p3 p4 q5 p6) (g0_6 p1 p2 p3 p4 q5 p6)) = (g0_18 p1 p2 p3 p4 q5 p6)
              · refine wicmpNo OGc 228 X69 B at_225 (teq c70).2 rfl ?_
                refine wiconst OGc 229 X69 B at_228 1 rfl rfl ?_
                refine wgoto OGc 233 X69 B at_229 rfl ?_
                refine own_retZ X69 hx (t := .boolean) hret (by simp) hlk (hb hby at_233) (by decide) (by decide) (w := (1 : Int32)) rfl ?_
                exact ⟨congrArg (fun z => some (Value.int z)) (show f0 p1 p2 p3 p4 q5 p6 = (1 : Int32) from (by rw [f0, if_pos c35, if_neg c36, if_neg c43, if_neg c50, if_neg c57, if_pos c64, if_pos c70])).symm, N69⟩
              · refine wicmpYes OGc 232 X69 B at_225 (feq c70).2 rfl ?_
                refine wiconst OGc 233 X69 B at_232 0 rfl rfl ?_
                refine own_retZ X69 hx (t := .boolean) hret (by simp) hlk (hb hby at_233) (by decide) (by decide) (w := (0 : Int32)) rfl ?_
                exact ⟨congrArg (fun z => some (Value.int z)) (show f0 p1 p2 p3 p4 q5 p6 = (0 : Int32) from (by rw [f0, if_pos c35, if_neg c36, if_neg c43, if_neg c50, if_neg c57, if_pos c64, if_neg c70])).symm, N69⟩
            · skip
              exact (own_rt0 p1 p2 p3 p4 q5 p6 c35 c36 c43 c50 c57 c64).elim
  · skip
    by_cases c71 : (g0_7 p1 p2 p3 p4 q5 p6) = (1 : Int32)
    · rw [c71]
      show OG p e _ s below _ T23 (mkF m 156 #[.val (.int p1), .val (.int p2), .val (.int p3), .val (.int p4), .val (.long q5), .second, .val (.int p6), .val (.int (f1 p1 p2)), .val (.int (f2 p1 p2)), .val (.int (f1 p3 p4)), .val (.int (f2 p3 p4)), .val (.int (g0_1 p1 p2 p3 p4 q5 p6)), .val (.int (g0_2 p1 p2 p3 p4 q5 p6)), .val (.ref b7), .val (.int (1 : Int32)), .val (.int (g0_8 p1 p2 p3 p4 q5 p6)), .val (.long (g0_13 p1 p2 p3 p4 q5 p6)), .second, .unset] [])
      refine wiload OGc 158 X23 B at_156 rfl rfl ?_
      by_cases c72 : (g0_8 p1 p2 p3 p4 q5 p6) = (1 : Int32)
      · rw [c72]
        show OG p e _ s below _ T23 (mkF m 158 #[.val (.int p1), .val (.int p2), .val (.int p3), .val (.int p4), .val (.long q5), .second, .val (.int p6), .val (.int (f1 p1 p2)), .val (.int (f2 p1 p2)), .val (.int (f1 p3 p4)), .val (.int (f2 p3 p4)), .val (.int (g0_1 p1 p2 p3 p4 q5 p6)), .val (.int (g0_2 p1 p2 p3 p4 q5 p6)), .val (.ref b7), .val (.int (1 : Int32)), .val (.int (1 : Int32)), .val (.long (g0_13 p1 p2 p3 p4 q5 p6)), .second, .unset] [(.int (1 : Int32))])
        refine waload OGc 160 X23 B at_158 rfl rfl rfl ?_
        refine wiconst OGc 161 X23 B at_160 0 rfl rfl ?_
        refine wiload OGc 163 X23 B at_161 rfl rfl ?_
        refine wiload OGc 165 X23 B at_163 rfl rfl ?_
        refine wlload OGc 167 X23 B at_165 rfl rfl ?_
        refine wstat OGc 170 X23 B hZ hown (ow hw 9 rfl) (ow hw 10 rfl) (ow hw 12 rfl) (ow hw 11 rfl) e23 (rm3_0 l Z a0 hw [] b7 (1 : Int32) (1 : Int32) (g0_13 p1 p2 p3 p4 q5 p6) (g0_3 p1 p2 p3 p4 q5 p6) (g0_4 p1 p2 p3 p4 q5 p6) (g0_5 p1 p2 p3 p4 q5 p6) (g0_6 p1 p2 p3 p4 q5 p6) h23 F25) 1 (by decide) (by decide) hml rfl (lenOf pd___IIIIJ_I rfl) [(.int (1 : Int32))] rfl rfl at_167 rfl fun _ T73 L73 X73 hQ73 => ?_
        obtain ⟨rfl, rfl, e73⟩ := hQ73
        have N73 := Fr.app N23 (Fr.nil n0)
        refine own_stk (S' := [(.int (f3_0 (1 : Int32) (1 : Int32) (g0_13 p1 p2 p3 p4 q5 p6) (g0_3 p1 p2 p3 p4 q5 p6) (g0_4 p1 p2 p3 p4 q5 p6) (g0_5 p1 p2 p3 p4 q5 p6) (g0_6 p1 p2 p3 p4 q5 p6))), (.int (1 : Int32))]) rfl ?_
        refine wiadd OGc 171 X73 B at_170 rfl ?_
        refine waload OGc 173 X73 B at_171 rfl rfl rfl ?_
        refine wiconst OGc 174 X73 B at_173 1 rfl rfl ?_
        refine wiload OGc 176 X73 B at_174 rfl rfl ?_
        refine wiload OGc 178 X73 B at_176 rfl rfl ?_
        refine wlload OGc 180 X73 B at_178 rfl rfl ?_
        refine wstat OGc 183 X73 B hZ hown (ow hw 9 rfl) (ow hw 10 rfl) (ow hw 12 rfl) (ow hw 11 rfl) e73 (rm3_1 l Z a0 hw [] b7 (1 : Int32) (1 : Int32) (g0_13 p1 p2 p3 p4 q5 p6) (g0_3 p1 p2 p3 p4 q5 p6) (g0_4 p1 p2 p3 p4 q5 p6) (g0_5 p1 p2 p3 p4 q5 p6) (g0_6 p1 p2 p3 p4 q5 p6) h23 F25) 1 (by decide) (by decide) hml rfl (lenOf pd___IIIIJ_I rfl) [(.int ((1 : Int32) + (f3_0 (1 : Int32) (1 : Int32) (g0_13 p1 p2 p3 p4 q5 p6) (g0_3 p1 p2 p3 p4 q5 p6) (g0_4 p1 p2 p3 p4 q5 p6) (g0_5 p1 p2 p3 p4 q5 p6) (g0_6 p1 p2 p3 p4 q5 p6))))] rfl rfl at_180 rfl fun _ T74 L74 X74 hQ74 => ?_
        obtain ⟨rfl, rfl, e74⟩ := hQ74
        have N74 := Fr.app N73 (Fr.nil n0)
        refine own_stk (S' := [(.int (f3_1 (1 : Int32) (1 : Int32) (g0_13 p1 p2 p3 p4 q5 p6) (g0_3 p1 p2 p3 p4 q5 p6) (g0_4 p1 p2 p3 p4 q5 p6) (g0_5 p1 p2 p3 p4 q5 p6) (g0_6 p1 p2 p3 p4 q5 p6))), (.int ((1 : Int32) + (f3_0 (1 : Int32) (1 : Int32) (g0_13 p1 p2 p3 p4 q5 p6) (g0_3 p1 p2 p3 p4 q5 p6) (g0_4 p1 p2 p3 p4 q5 p6) (g0_5 p1 p2 p3 p4 q5 p6) (g0_6 p1 p2 p3 p4 q5 p6))))]) rfl ?_
        refine wiadd OGc 184 X74 B at_183 rfl ?_
        refine waload OGc 186 X74 B at_184 rfl rfl rfl ?_
        refine wiconst OGc 187 X74 B at_186 2 rfl rfl ?_
        refine wiload OGc 189 X74 B at_187 rfl rfl ?_
        refine wiload OGc 191 X74 B at_189 rfl rfl ?_
        refine wlload OGc 193 X74 B at_191 rfl rfl ?_
        refine wstat OGc 196 X74 B hZ hown (ow hw 9 rfl) (ow hw 10 rfl) (ow hw 12 rfl) (ow hw 11 rfl) e74 (rm3_2 l Z a0 hw [] b7 (1 : Int32) (1 : Int32) (g0_13 p1 p2 p3 p4 q5 p6) (g0_3 p1 p2 p3 p4 q5 p6) (g0_4 p1 p2 p3 p4 q5 p6) (g0_5 p1 p2 p3 p4 q5 p6) (g0_6 p1 p2 p3 p4 q5 p6) h23 F25) 1 (by decide) (by decide) hml rfl (lenOf pd___IIIIJ_I rfl) [(.int (((1 : Int32) + (f3_0 (1 : Int32) (1 : Int32) (g0_13 p1 p2 p3 p4 q5 p6) (g0_3 p1 p2 p3 p4 q5 p6) (g0_4 p1 p2 p3 p4 q5 p6) (g0_5 p1 p2 p3 p4 q5 p6) (g0_6 p1 p2 p3 p4 q5 p6))) + (f3_1 (1 : Int32) (1 : Int32) (g0_13 p1 p2 p3 p4 q5 p6) (g0_3 p1 p2 p3 p4 q5 p6) (g0_4 p1 p2 p3 p4 q5 p6) (g0_5 p1 p2 p3 p4 q5 p6) (g0_6 p1 p2 p3 p4 q5 p6))))] rfl rfl at_193 rfl fun _ T75 L75 X75 hQ75 => ?_
        obtain ⟨rfl, rfl, e75⟩ := hQ75
        have N75 := Fr.app N74 (Fr.nil n0)
        refine own_stk (S' := [(.int (f3_2 (1 : Int32) (1 : Int32) (g0_13 p1 p2 p3 p4 q5 p6) (g0_3 p1 p2 p3 p4 q5 p6) (g0_4 p1 p2 p3 p4 q5 p6) (g0_5 p1 p2 p3 p4 q5 p6) (g0_6 p1 p2 p3 p4 q5 p6))), (.int (((1 : Int32) + (f3_0 (1 : Int32) (1 : Int32) (g0_13 p1 p2 p3 p4 q5 p6) (g0_3 p1 p2 p3 p4 q5 p6) (g0_4 p1 p2 p3 p4 q5 p6) (g0_5 p1 p2 p3 p4 q5 p6) (g0_6 p1 p2 p3 p4 q5 p6))) + (f3_1 (1 : Int32) (1 : Int32) (g0_13 p1 p2 p3 p4 q5 p6) (g0_3 p1 p2 p3 p4 q5 p6) (g0_4 p1 p2 p3 p4 q5 p6) (g0_5 p1 p2 p3 p4 q5 p6) (g0_6 p1 p2 p3 p4 q5 p6))))]) rfl ?_
        refine wiadd OGc 197 X75 B at_196 rfl ?_
        refine waload OGc 199 X75 B at_197 rfl rfl rfl ?_
        refine wiconst OGc 200 X75 B at_199 3 rfl rfl ?_
        refine wiload OGc 202 X75 B at_200 rfl rfl ?_
        refine wiload OGc 204 X75 B at_202 rfl rfl ?_
        refine wlload OGc 206 X75 B at_204 rfl rfl ?_
        refine wstat OGc 209 X75 B hZ hown (ow hw 9 rfl) (ow hw 10 rfl) (ow hw 12 rfl) (ow hw 11 rfl) e75 (rm3_3 l Z a0 hw [] b7 (1 : Int32) (1 : Int32) (g0_13 p1 p2 p3 p4 q5 p6) (g0_3 p1 p2 p3 p4 q5 p6) (g0_4 p1 p2 p3 p4 q5 p6) (g0_5 p1 p2 p3 p4 q5 p6) (g0_6 p1 p2 p3 p4 q5 p6) h23 F25) 1 (by decide) (by decide) hml rfl (lenOf pd___IIIIJ_I rfl) [(.int ((((1 : Int32) + (f3_0 (1 : Int32) (1 : Int32) (g0_13 p1 p2 p3 p4 q5 p6) (g0_3 p1 p2 p3 p4 q5 p6) (g0_4 p1 p2 p3 p4 q5 p6) (g0_5 p1 p2 p3 p4 q5 p6) (g0_6 p1 p2 p3 p4 q5 p6))) + (f3_1 (1 : Int32) (1 : Int32) (g0_13 p1 p2 p3 p4 q5 p6) (g0_3 p1 p2 p3 p4 q5 p6) (g0_4 p1 p2 p3 p4 q5 p6) (g0_5 p1 p2 p3 p4 q5 p6) (g0_6 p1 p2 p3 p4 q5 p6))) + (f3_2 (1 : Int32) (1 : Int32) (g0_13 p1 p2 p3 p4 q5 p6) (g0_3 p1 p2 p3 p4 q5 p6) (g0_4 p1 p2 p3 p4 q5 p6) (g0_5 p1 p2 p3 p4 q5 p6) (g0_6 p1 p2 p3 p4 q5 p6))))] rfl rfl at_206 rfl fun _ T76 L76 X76 hQ76 => ?_
        obtain ⟨rfl, rfl, e76⟩ := hQ76
        have N76 := Fr.app N75 (Fr.nil n0)
        refine own_stk (S' := [(.int (f3_3 (1 : Int32) (1 : Int32) (g0_13 p1 p2 p3 p4 q5 p6) (g0_3 p1 p2 p3 p4 q5 p6) (g0_4 p1 p2 p3 p4 q5 p6) (g0_5 p1 p2 p3 p4 q5 p6) (g0_6 p1 p2 p3 p4 q5 p6))), (.int ((((1 : Int32) + (f3_0 (1 : Int32) (1 : Int32) (g0_13 p1 p2 p3 p4 q5 p6) (g0_3 p1 p2 p3 p4 q5 p6) (g0_4 p1 p2 p3 p4 q5 p6) (g0_5 p1 p2 p3 p4 q5 p6) (g0_6 p1 p2 p3 p4 q5 p6))) + (f3_1 (1 : Int32) (1 : Int32) (g0_13 p1 p2 p3 p4 q5 p6) (g0_3 p1 p2 p3 p4 q5 p6) (g0_4 p1 p2 p3 p4 q5 p6) (g0_5 p1 p2 p3 p4 q5 p6) (g0_6 p1 p2 p3 p4 q5 p6))) + (f3_2 (1 : Int32) (1 : Int32) (g0_13 p1 p2 p3 p4 q5 p6) (g0_3 p1 p2 p3 p4 q5 p6) (g0_4 p1 p2 p3 p4 q5 p6) (g0_5 p1 p2 p3 p4 q5 p6) (g0_6 p1 p2 p3 p4 q5 p6))))]) rfl ?_
        refine wiadd OGc 210 X76 B at_209 rfl ?_
        refine wistore OGc 212 X76 B at_210 #[.val (.int p1), .val (.int p2), .val (.int p3), .val (.int p4), .val (.long q5), .second, .val (.int p6), .val (.int (f1 p1 p2)), .val (.int (f2 p1 p2)), .val (.int (f1 p3 p4)), .val (.int (f2 p3 p4)), .val (.int (g0_1 p1 p2 p3 p4 q5 p6)), .val (.int (g0_2 p1 p2 p3 p4 q5 p6)), .val (.ref b7), .val (.int (1 : Int32)), .val (.int (1 : Int32)), .val (.long (g0_13 p1 p2 p3 p4 q5 p6)), .second, .val (.int (g0_19 p1 p2 p3 p4 q5 p6))] rfl rfl ?_
        refine waload OGc 214 X76 B at_212 rfl rfl rfl ?_
        refine wiload OGc 216 X76 B at_214 rfl rfl ?_
        refine wiload OGc 218 X76 B at_216 rfl rfl ?_
        refine wlload OGc 220 X76 B at_218 rfl rfl ?_
        refine wstat OGc 223 X76 B hZ hown (ow hw 13 rfl) (ow hw 14 rfl) (ow hw 16 rfl) (ow hw 15 rfl) e76 (rm4_1_1 l Z a0 hw [] b7 (g0_13 p1 p2 p3 p4 q5 p6) (g0_3 p1 p2 p3 p4 q5 p6) (g0_4 p1 p2 p3 p4 q5 p6) (g0_5 p1 p2 p3 p4 q5 p6) (g0_6 p1 p2 p3 p4 q5 p6) h23 F25) 0 (by decide) (by decide) hml rfl (lenOf pd___IIIJ_I rfl) [] rfl rfl at_220 rfl fun _ T77 L77 X77 hQ77 => ?_
        obtain ⟨rfl, rfl, e77⟩ := hQ77
        have N77 := Fr.app N76 (Fr.nil n0)
        refine own_stk (S' := [(.int (f4_1_1 (g0_13 p1 p2 p3 p4 q5 p6) (g0_3 p1 p2 p3 p4 q5 p6) (g0_4 p1 p2 p3 p4 q5 p6) (g0_5 p1 p2 p3 p4 q5 p6) (g0_6 p1 p2 p3 p4 q5 p6)))]) rfl ?_
        refine wiload OGc 225 X77 B at_223 rfl rfl ?_
        by_cases c78 : (f4_1_1 (g0_13 p1 p2 p3 p4 q5 p6) (g0_3 p1 p2 p3 p4 q5 p6) (g0_4 p1 p2 p3 p4 q5 p6) (g0_5 p1 p2 p3 p4 q5 p6) (g0_6 p1 p2 p3 p4 q5 p6)) = (g0_19 p1 p2 p3 p4 q5 p6)
        · refine wicmpNo OGc 228 X77 B at_225 (teq c78).2 rfl ?_
          refine wiconst OGc 229 X77 B at_228 1 rfl rfl ?_
          refine wgoto OGc 233 X77 B at_229 rfl ?_
          refine own_retZ X77 hx (t := .boolean) hret (by simp) hlk (hb hby at_233) (by decide) (by decide) (w := (1 : Int32)) rfl ?_
          exact ⟨congrArg (fun z => some (Value.int z)) (show f0 p1 p2 p3 p4 q5 p6 = (1 : Int32) from (by rw [f0, if_neg c35, if_pos c71, if_pos c72, if_pos c78])).symm, N77⟩
        · refine wicmpYes OGc 232 X77 B at_225 (feq c78).2 rfl ?_
          refine wiconst OGc 233 X77 B at_232 0 rfl rfl ?_
          refine own_retZ X77 hx (t := .boolean) hret (by simp) hlk (hb hby at_233) (by decide) (by decide) (w := (0 : Int32)) rfl ?_
          exact ⟨congrArg (fun z => some (Value.int z)) (show f0 p1 p2 p3 p4 q5 p6 = (0 : Int32) from (by rw [f0, if_neg c35, if_pos c71, if_pos c72, if_neg c78])).symm, N77⟩
      · skip
        by_cases c79 : (g0_8 p1 p2 p3 p4 q5 p6) = (2 : Int32)
        · rw [c79]
          show OG p e _ s below _ T23 (mkF m 158 #[.val (.int p1), .val (.int p2), .val (.int p3), .val (.int p4), .val (.long q5), .second, .val (.int p6), .val (.int (f1 p1 p2)), .val (.int (f2 p1 p2)), .val (.int (f1 p3 p4)), .val (.int (f2 p3 p4)), .val (.int (g0_1 p1 p2 p3 p4 q5 p6)), .val (.int (g0_2 p1 p2 p3 p4 q5 p6)), .val (.ref b7), .val (.int (1 : Int32)), .val (.int (2 : Int32)), .val (.long (g0_13 p1 p2 p3 p4 q5 p6)), .second, .unset] [(.int (1 : Int32))])
          refine waload OGc 160 X23 B at_158 rfl rfl rfl ?_
          refine wiconst OGc 161 X23 B at_160 0 rfl rfl ?_
          refine wiload OGc 163 X23 B at_161 rfl rfl ?_
          refine wiload OGc 165 X23 B at_163 rfl rfl ?_
          refine wlload OGc 167 X23 B at_165 rfl rfl ?_
          refine wstat OGc 170 X23 B hZ hown (ow hw 9 rfl) (ow hw 10 rfl) (ow hw 12 rfl) (ow hw 11 rfl) e23 (rm3_0 l Z a0 hw [] b7 (1 : Int32) (2 : Int32) (g0_13 p1 p2 p3 p4 q5 p6) (g0_3 p1 p2 p3 p4 q5 p6) (g0_4 p1 p2 p3 p4 q5 p6) (g0_5 p1 p2 p3 p4 q5 p6) (g0_6 p1 p2 p3 p4 q5 p6) h23 F25) 1 (by decide) (by decide) hml rfl (lenOf pd___IIIIJ_I rfl) [(.int (1 : Int32))] rfl rfl at_167 rfl fun _ T80 L80 X80 hQ80 => ?_
          obtain ⟨rfl, rfl, e80⟩ := hQ80
          have N80 := Fr.app N23 (Fr.nil n0)
          refine own_stk (S' := [(.int (f3_0 (1 : Int32) (2 : Int32) (g0_13 p1 p2 p3 p4 q5 p6) (g0_3 p1 p2 p3 p4 q5 p6) (g0_4 p1 p2 p3 p4 q5 p6) (g0_5 p1 p2 p3 p4 q5 p6) (g0_6 p1 p2 p3 p4 q5 p6))), (.int (1 : Int32))]) rfl ?_
          refine wiadd OGc 171 X80 B at_170 rfl ?_
          refine waload OGc 173 X80 B at_171 rfl rfl rfl ?_
          refine wiconst OGc 174 X80 B at_173 1 rfl rfl ?_
          refine wiload OGc 176 X80 B at_174 rfl rfl ?_
          refine wiload OGc 178 X80 B at_176 rfl rfl ?_
          refine wlload OGc 180 X80 B at_178 rfl rfl ?_
          refine wstat OGc 183 X80 B hZ hown (ow hw 9 rfl) (ow hw 10 rfl) (ow hw 12 rfl) (ow hw 11 rfl) e80 (rm3_1 l Z a0 hw [] b7 (1 : Int32) (2 : Int32) (g0_13 p1 p2 p3 p4 q5 p6) (g0_3 p1 p2 p3 p4 q5 p6) (g0_4 p1 p2 p3 p4 q5 p6) (g0_5 p1 p2 p3 p4 q5 p6) (g0_6 p1 p2 p3 p4 q5 p6) h23 F25) 1 (by decide) (by decide) hml rfl (lenOf pd___IIIIJ_I rfl) [(.int ((1 : Int32) + (f3_0 (1 : Int32) (2 : Int32) (g0_13 p1 p2 p3 p4 q5 p6) (g0_3 p1 p2 p3 p4 q5 p6) (g0_4 p1 p2 p3 p4 q5 p6) (g0_5 p1 p2 p3 p4 q5 p6) (g0_6 p1 p2 p3 p4 q5 p6))))] rfl rfl at_180 rfl fun _ T81 L81 X81 hQ81 => ?_
          obtain ⟨rfl, rfl, e81⟩ := hQ81
          have N81 := Fr.app N80 (Fr.nil n0)
          refine own_stk (S' := [(.int (f3_1 (1 : Int32) (2 : Int32) (g0_13 p1 p2 p3 p4 q5 p6) (g0_3 p1 p2 p3 p4 q5 p6) (g0_4 p1 p2 p3 p4 q5 p6) (g0_5 p1 p2 p3 p4 q5 p6) (g0_6 p1 p2 p3 p4 q5 p6))), (.int ((1 : Int32) + (f3_0 (1 : Int32) (2 : Int32) (g0_13 p1 p2 p3 p4 q5 p6) (g0_3 p1 p2 p3 p4 q5 p6) (g0_4 p1 p2 p3 p4 q5 p6) (g0_5 p1 p2 p3 p4 q5 p6) (g0_6 p1 p2 p3 p4 q5 p6))))]) rfl ?_
          refine wiadd OGc 184 X81 B at_183 rfl ?_
          refine waload OGc 186 X81 B at_184 rfl rfl rfl ?_
          refine wiconst OGc 187 X81 B at_186 2 rfl rfl ?_
          refine wiload OGc 189 X81 B at_187 rfl rfl ?_
          refine wiload OGc 191 X81 B at_189 rfl rfl ?_
          refine wlload OGc 193 X81 B at_191 rfl rfl ?_
          refine wstat OGc 196 X81 B hZ hown (ow hw 9 rfl) (ow hw 10 rfl) (ow hw 12 rfl) (ow hw 11 rfl) e81 (rm3_2 l Z a0 hw [] b7 (1 : Int32) (2 : Int32) (g0_13 p1 p2 p3 p4 q5 p6) (g0_3 p1 p2 p3 p4 q5 p6) (g0_4 p1 p2 p3 p4 q5 p6) (g0_5 p1 p2 p3 p4 q5 p6) (g0_6 p1 p2 p3 p4 q5 p6) h23 F25) 1 (by decide) (by decide) hml rfl (lenOf pd___IIIIJ_I rfl) [(.int (((1 : Int32) + (f3_0 (1 : Int32) (2 : Int32) (g0_13 p1 p2 p3 p4 q5 p6) (g0_3 p1 p2 p3 p4 q5 p6) (g0_4 p1 p2 p3 p4 q5 p6) (g0_5 p1 p2 p3 p4 q5 p6) (g0_6 p1 p2 p3 p4 q5 p6))) + (f3_1 (1 : Int32) (2 : Int32) (g0_13 p1 p2 p3 p4 q5 p6) (g0_3 p1 p2 p3 p4 q5 p6) (g0_4 p1 p2 p3 p4 q5 p6) (g0_5 p1 p2 p3 p4 q5 p6) (g0_6 p1 p2 p3 p4 q5 p6))))] rfl rfl at_193 rfl fun _ T82 L82 X82 hQ82 => ?_
          obtain ⟨rfl, rfl, e82⟩ := hQ82
          have N82 := Fr.app N81 (Fr.nil n0)
          refine own_stk (S' := [(.int (f3_2 (1 : Int32) (2 : Int32) (g0_13 p1 p2 p3 p4 q5 p6) (g0_3 p1 p2 p3 p4 q5 p6) (g0_4 p1 p2 p3 p4 q5 p6) (g0_5 p1 p2 p3 p4 q5 p6) (g0_6 p1 p2 p3 p4 q5 p6))), (.int (((1 : Int32) + (f3_0 (1 : Int32) (2 : Int32) (g0_13 p1 p2 p3 p4 q5 p6) (g0_3 p1 p2 p3 p4 q5 p6) (g0_4 p1 p2 p3 p4 q5 p6) (g0_5 p1 p2 p3 p4 q5 p6) (g0_6 p1 p2 p3 p4 q5 p6))) + (f3_1 (1 : Int32) (2 : Int32) (g0_13 p1 p2 p3 p4 q5 p6) (g0_3 p1 p2 p3 p4 q5 p6) (g0_4 p1 p2 p3 p4 q5 p6) (g0_5 p1 p2 p3 p4 q5 p6) (g0_6 p1 p2 p3 p4 q5 p6))))]) rfl ?_
          refine wiadd OGc 197 X82 B at_196 rfl ?_
          refine waload OGc 199 X82 B at_197 rfl rfl rfl ?_
          refine wiconst OGc 200 X82 B at_199 3 rfl rfl ?_
          refine wiload OGc 202 X82 B at_200 rfl rfl ?_
          refine wiload OGc 204 X82 B at_202 rfl rfl ?_
          refine wlload OGc 206 X82 B at_204 rfl rfl ?_
          refine wstat OGc 209 X82 B hZ hown (ow hw 9 rfl) (ow hw 10 rfl) (ow hw 12 rfl) (ow hw 11 rfl) e82 (rm3_3 l Z a0 hw [] b7 (1 : Int32) (2 : Int32) (g0_13 p1 p2 p3 p4 q5 p6) (g0_3 p1 p2 p3 p4 q5 p6) (g0_4 p1 p2 p3 p4 q5 p6) (g0_5 p1 p2 p3 p4 q5 p6) (g0_6 p1 p2 p3 p4 q5 p6) h23 F25) 1 (by decide) (by decide) hml rfl (lenOf pd___IIIIJ_I rfl) [(.int ((((1 : Int32) + (f3_0 (1 : Int32) (2 : Int32) (g0_13 p1 p2 p3 p4 q5 p6) (g0_3 p1 p2 p3 p4 q5 p6) (g0_4 p1 p2 p3 p4 q5 p6) (g0_5 p1 p2 p3 p4 q5 p6) (g0_6 p1 p2 p3 p4 q5 p6))) + (f3_1 (1 : Int32) (2 : Int32) (g0_13 p1 p2 p3 p4 q5 p6) (g0_3 p1 p2 p3 p4 q5 p6) (g0_4 p1 p2 p3 p4 q5 p6) (g0_5 p1 p2 p3 p4 q5 p6) (g0_6 p1 p2 p3 p4 q5 p6))) + (f3_2 (1 : Int32) (2 : Int32) (g0_13 p1 p2 p3 p4 q5 p6) (g0_3 p1 p2 p3 p4 q5 p6) (g0_4 p1 p2 p3 p4 q5 p6) (g0_5 p1 p2 p3 p4 q5 p6) (g0_6 p1 p2 p3 p4 q5 p6))))] rfl rfl at_206 rfl fun _ T83 L83 X83 hQ83 => ?_
          obtain ⟨rfl, rfl, e83⟩ := hQ83
          have N83 := Fr.app N82 (Fr.nil n0)
          refine own_stk (S' := [(.int (f3_3 (1 : Int32) (2 : Int32) (g0_13 p1 p2 p3 p4 q5 p6) (g0_3 p1 p2 p3 p4 q5 p6) (g0_4 p1 p2 p3 p4 q5 p6) (g0_5 p1 p2 p3 p4 q5 p6) (g0_6 p1 p2 p3 p4 q5 p6))), (.int ((((1 : Int32) + (f3_0 (1 : Int32) (2 : Int32) (g0_13 p1 p2 p3 p4 q5 p6) (g0_3 p1 p2 p3 p4 q5 p6) (g0_4 p1 p2 p3 p4 q5 p6) (g0_5 p1 p2 p3 p4 q5 p6) (g0_6 p1 p2 p3 p4 q5 p6))) + (f3_1 (1 : Int32) (2 : Int32) (g0_13 p1 p2 p3 p4 q5 p6) (g0_3 p1 p2 p3 p4 q5 p6) (g0_4 p1 p2 p3 p4 q5 p6) (g0_5 p1 p2 p3 p4 q5 p6) (g0_6 p1 p2 p3 p4 q5 p6))) + (f3_2 (1 : Int32) (2 : Int32) (g0_13 p1 p2 p3 p4 q5 p6) (g0_3 p1 p2 p3 p4 q5 p6) (g0_4 p1 p2 p3 p4 q5 p6) (g0_5 p1 p2 p3 p4 q5 p6) (g0_6 p1 p2 p3 p4 q5 p6))))]) rfl ?_
          refine wiadd OGc 210 X83 B at_209 rfl ?_
          refine wistore OGc 212 X83 B at_210 #[.val (.int p1), .val (.int p2), .val (.int p3), .val (.int p4), .val (.long q5), .second, .val (.int p6), .val (.int (f1 p1 p2)), .val (.int (f2 p1 p2)), .val (.int (f1 p3 p4)), .val (.int (f2 p3 p4)), .val (.int (g0_1 p1 p2 p3 p4 q5 p6)), .val (.int (g0_2 p1 p2 p3 p4 q5 p6)), .val (.ref b7), .val (.int (1 : Int32)), .val (.int (2 : Int32)), .val (.long (g0_13 p1 p2 p3 p4 q5 p6)), .second, .val (.int (g0_20 p1 p2 p3 p4 q5 p6))] rfl rfl ?_
          refine waload OGc 214 X83 B at_212 rfl rfl rfl ?_
          refine wiload OGc 216 X83 B at_214 rfl rfl ?_
          refine wiload OGc 218 X83 B at_216 rfl rfl ?_
          refine wlload OGc 220 X83 B at_218 rfl rfl ?_
          refine wstat OGc 223 X83 B hZ hown (ow hw 13 rfl) (ow hw 14 rfl) (ow hw 16 rfl) (ow hw 15 rfl) e83 (rm4_1_2 l Z a0 hw [] b7 (g0_13 p1 p2 p3 p4 q5 p6) (g0_3 p1 p2 p3 p4 q5 p6) (g0_4 p1 p2 p3 p4 q5 p6) (g0_5 p1 p2 p3 p4 q5 p6) (g0_6 p1 p2 p3 p4 q5 p6) h23 F25) 0 (by decide) (by decide) hml rfl (lenOf pd___IIIJ_I rfl) [] rfl rfl at_220 rfl fun _ T84 L84 X84 hQ84 => ?_
          obtain ⟨rfl, rfl, e84⟩ := hQ84
          have N84 := Fr.app N83 (Fr.nil n0)
          refine own_stk (S' := [(.int (f4_1_2 (g0_13 p1 p2 p3 p4 q5 p6) (g0_3 p1 p2 p3 p4 q5 p6) (g0_4 p1 p2 p3 p4 q5 p6) (g0_5 p1 p2 p3 p4 q5 p6) (g0_6 p1 p2 p3 p4 q5 p6)))]) rfl ?_
          refine wiload OGc 225 X84 B at_223 rfl rfl ?_
          by_cases c85 : (f4_1_2 (g0_13 p1 p2 p3 p4 q5 p6) (g0_3 p1 p2 p3 p4 q5 p6) (g0_4 p1 p2 p3 p4 q5 p6) (g0_5 p1 p2 p3 p4 q5 p6) (g0_6 p1 p2 p3 p4 q5 p6)) = (g0_20 p1 p2 p3 p4 q5 p6)
          · refine wicmpNo OGc 228 X84 B at_225 (teq c85).2 rfl ?_
            refine wiconst OGc 229 X84 B at_228 1 rfl rfl ?_
            refine wgoto OGc 233 X84 B at_229 rfl ?_
            refine own_retZ X84 hx (t := .boolean) hret (by simp) hlk (hb hby at_233) (by decide) (by decide) (w := (1 : Int32)) rfl ?_
            exact ⟨congrArg (fun z => some (Value.int z)) (show f0 p1 p2 p3 p4 q5 p6 = (1 : Int32) from (by rw [f0, if_neg c35, if_pos c71, if_neg c72, if_pos c79, if_pos c85])).symm, N84⟩
          · refine wicmpYes OGc 232 X84 B at_225 (feq c85).2 rfl ?_
            refine wiconst OGc 233 X84 B at_232 0 rfl rfl ?_
            refine own_retZ X84 hx (t := .boolean) hret (by simp) hlk (hb hby at_233) (by decide) (by decide) (w := (0 : Int32)) rfl ?_
            exact ⟨congrArg (fun z => some (Value.int z)) (show f0 p1 p2 p3 p4 q5 p6 = (0 : Int32) from (by rw [f0, if_neg c35, if_pos c71, if_neg c72, if_pos c79, if_neg c85])).symm, N84⟩
        · skip
          by_cases c86 : (g0_8 p1 p2 p3 p4 q5 p6) = (3 : Int32)
          · rw [c86]
            show OG p e _ s below _ T23 (mkF m 158 #[.val (.int p1), .val (.int p2), .val (.int p3), .val (.int p4), .val (.long q5), .second, .val (.int p6), .val (.int (f1 p1 p2)), .val (.int (f2 p1 p2)), .val (.int (f1 p3 p4)), .val (.int (f2 p3 p4)), .val (.int (g0_1 p1 p2 p3 p4 q5 p6)), .val (.int (g0_2 p1 p2 p3 p4 q5 p6)), .val (.ref b7), .val (.int (1 : Int32)), .val (.int (3 : Int32)), .val (.long (g0_13 p1 p2 p3 p4 q5 p6)), .second, .unset] [(.int (1 : Int32))])
            refine waload OGc 160 X23 B at_158 rfl rfl rfl ?_
            refine wiconst OGc 161 X23 B at_160 0 rfl rfl ?_
            refine wiload OGc 163 X23 B at_161 rfl rfl ?_
            refine wiload OGc 165 X23 B at_163 rfl rfl ?_
            refine wlload OGc 167 X23 B at_165 rfl rfl ?_
            refine wstat OGc 170 X23 B hZ hown (ow hw 9 rfl) (ow hw 10 rfl) (ow hw 12 rfl) (ow hw 11 rfl) e23 (rm3_0 l Z a0 hw [] b7 (1 : Int32) (3 : Int32) (g0_13 p1 p2 p3 p4 q5 p6) (g0_3 p1 p2 p3 p4 q5 p6) (g0_4 p1 p2 p3 p4 q5 p6) (g0_5 p1 p2 p3 p4 q5 p6) (g0_6 p1 p2 p3 p4 q5 p6) h23 F25) 1 (by decide) (by decide) hml rfl (lenOf pd___IIIIJ_I rfl) [(.int (1 : Int32))] rfl rfl at_167 rfl fun _ T87 L87 X87 hQ87 => ?_
            obtain ⟨rfl, rfl, e87⟩ := hQ87
            have N87 := Fr.app N23 (Fr.nil n0)
            refine own_stk (S' := [(.int (f3_0 (1 : Int32) (3 : Int32) (g0_13 p1 p2 p3 p4 q5 p6) (g0_3 p1 p2 p3 p4 q5 p6) (g0_4 p1 p2 p3 p4 q5 p6) (g0_5 p1 p2 p3 p4 q5 p6) (g0_6 p1 p2 p3 p4 q5 p6))), (.int (1 : Int32))]) rfl ?_
            refine wiadd OGc 171 X87 B at_170 rfl ?_
            refine waload OGc 173 X87 B at_171 rfl rfl rfl ?_
            refine wiconst OGc 174 X87 B at_173 1 rfl rfl ?_
            refine wiload OGc 176 X87 B at_174 rfl rfl ?_
            refine wiload OGc 178 X87 B at_176 rfl rfl ?_
            refine wlload OGc 180 X87 B at_178 rfl rfl ?_
            refine wstat OGc 183 X87 B hZ hown (ow hw 9 rfl) (ow hw 10 rfl) (ow hw 12 rfl) (ow hw 11 rfl) e87 (rm3_1 l Z a0 hw [] b7 (1 : Int32) (3 : Int32) (g0_13 p1 p2 p3 p4 q5 p6) (g0_3 p1 p2 p3 p4 q5 p6) (g0_4 p1 p2 p3 p4 q5 p6) (g0_5 p1 p2 p3 p4 q5 p6) (g0_6 p1 p2 p3 p4 q5 p6) h23 F25) 1 (by decide) (by decide) hml rfl (lenOf pd___IIIIJ_I rfl) [(.int ((1 : Int32) + (f3_0 (1 : Int32) (3 : Int32) (g0_13 p1 p2 p3 p4 q5 p6) (g0_3 p1 p2 p3 p4 q5 p6) (g0_4 p1 p2 p3 p4 q5 p6) (g0_5 p1 p2 p3 p4 q5 p6) (g0_6 p1 p2 p3 p4 q5 p6))))] rfl rfl at_180 rfl fun _ T88 L88 X88 hQ88 => ?_
            obtain ⟨rfl, rfl, e88⟩ := hQ88
            have N88 := Fr.app N87 (Fr.nil n0)
            refine own_stk (S' := [(.int (f3_1 (1 : Int32) (3 : Int32) (g0_13 p1 p2 p3 p4 q5 p6) (g0_3 p1 p2 p3 p4 q5 p6) (g0_4 p1 p2 p3 p4 q5 p6) (g0_5 p1 p2 p3 p4 q5 p6) (g0_6 p1 p2 p3 p4 q5 p6))), (.int ((1 : Int32) + (f3_0 (1 : Int32) (3 : Int32) (g0_13 p1 p2 p3 p4 q5 p6) (g0_3 p1 p2 p3 p4 q5 p6) (g0_4 p1 p2 p3 p4 q5 p6) (g0_5 p1 p2 p3 p4 q5 p6) (g0_6 p1 p2 p3 p4 q5 p6))))]) rfl ?_
            refine wiadd OGc 184 X88 B at_183 rfl ?_
            refine waload OGc 186 X88 B at_184 rfl rfl rfl ?_
            refine wiconst OGc 187 X88 B at_186 2 rfl rfl ?_
            refine wiload OGc 189 X88 B at_187 rfl rfl ?_
            refine wiload OGc 191 X88 B at_189 rfl rfl ?_
            refine wlload OGc 193 X88 B at_191 rfl rfl ?_
            refine wstat OGc 196 X88 B hZ hown (ow hw 9 rfl) (ow hw 10 rfl) (ow hw 12 rfl) (ow hw 11 rfl) e88 (rm3_2 l Z a0 hw [] b7 (1 : Int32) (3 : Int32) (g0_13 p1 p2 p3 p4 q5 p6) (g0_3 p1 p2 p3 p4 q5 p6) (g0_4 p1 p2 p3 p4 q5 p6) (g0_5 p1 p2 p3 p4 q5 p6) (g0_6 p1 p2 p3 p4 q5 p6) h23 F25) 1 (by decide) (by decide) hml rfl (lenOf pd___IIIIJ_I rfl) [(.int (((1 : Int32) + (f3_0 (1 : Int32) (3 : Int32) (g0_13 p1 p2 p3 p4 q5 p6) (g0_3 p1 p2 p3 p4 q5 p6) (g0_4 p1 p2 p3 p4 q5 p6) (g0_5 p1 p2 p3 p4 q5 p6) (g0_6 p1 p2 p3 p4 q5 p6))) + (f3_1 (1 : Int32) (3 : Int32) (g0_13 p1 p2 p3 p4 q5 p6) (g0_3 p1 p2 p3 p4 q5 p6) (g0_4 p1 p2 p3 p4 q5 p6) (g0_5 p1 p2 p3 p4 q5 p6) (g0_6 p1 p2 p3 p4 q5 p6))))] rfl rfl at_193 rfl fun _ T89 L89 X89 hQ89 => ?_
            obtain ⟨rfl, rfl, e89⟩ := hQ89
            have N89 := Fr.app N88 (Fr.nil n0)
            refine own_stk (S' := [(.int (f3_2 (1 : Int32) (3 : Int32) (g0_13 p1 p2 p3 p4 q5 p6) (g0_3 p1 p2 p3 p4 q5 p6) (g0_4 p1 p2 p3 p4 q5 p6) (g0_5 p1 p2 p3 p4 q5 p6) (g0_6 p1 p2 p3 p4 q5 p6))), (.int (((1 : Int32) + (f3_0 (1 : Int32) (3 : Int32) (g0_13 p1 p2 p3 p4 q5 p6) (g0_3 p1 p2 p3 p4 q5 p6) (g0_4 p1 p2 p3 p4 q5 p6) (g0_5 p1 p2 p3 p4 q5 p6) (g0_6 p1 p2 p3 p4 q5 p6))) + (f3_1 (1 : Int32) (3 : Int32) (g0_13 p1 p2 p3 p4 q5 p6) (g0_3 p1 p2 p3 p4 q5 p6) (g0_4 p1 p2 p3 p4 q5 p6) (g0_5 p1 p2 p3 p4 q5 p6) (g0_6 p1 p2 p3 p4 q5 p6))))]) rfl ?_
            refine wiadd OGc 197 X89 B at_196 rfl ?_
            refine waload OGc 199 X89 B at_197 rfl rfl rfl ?_
            refine wiconst OGc 200 X89 B at_199 3 rfl rfl ?_
            refine wiload OGc 202 X89 B at_200 rfl rfl ?_
            refine wiload OGc 204 X89 B at_202 rfl rfl ?_
            refine wlload OGc 206 X89 B at_204 rfl rfl ?_
            refine wstat OGc 209 X89 B hZ hown (ow hw 9 rfl) (ow hw 10 rfl) (ow hw 12 rfl) (ow hw 11 rfl) e89 (rm3_3 l Z a0 hw [] b7 (1 : Int32) (3 : Int32) (g0_13 p1 p2 p3 p4 q5 p6) (g0_3 p1 p2 p3 p4 q5 p6) (g0_4 p1 p2 p3 p4 q5 p6) (g0_5 p1 p2 p3 p4 q5 p6) (g0_6 p1 p2 p3 p4 q5 p6) h23 F25) 1 (by decide) (by decide) hml rfl (lenOf pd___IIIIJ_I rfl) [(.int ((((1 : Int32) + (f3_0 (1 : Int32) (3 : Int32) (g0_13 p1 p2 p3 p4 q5 p6) (g0_3 p1 p2 p3 p4 q5 p6) (g0_4 p1 p2 p3 p4 q5 p6) (g0_5 p1 p2 p3 p4 q5 p6) (g0_6 p1 p2 p3 p4 q5 p6))) + (f3_1 (1 : Int32) (3 : Int32) (g0_13 p1 p2 p3 p4 q5 p6) (g0_3 p1 p2 p3 p4 q5 p6) (g0_4 p1 p2 p3 p4 q5 p6) (g0_5 p1 p2 p3 p4 q5 p6) (g0_6 p1 p2 p3 p4 q5 p6))) + (f3_2 (1 : Int32) (3 : Int32) (g0_13 p1 p2 p3 p4 q5 p6) (g0_3 p1 p2 p3 p4 q5 p6) (g0_4 p1 p2 p3 p4 q5 p6) (g0_5 p1 p2 p3 p4 q5 p6) (g0_6 p1 p2 p3 p4 q5 p6))))] rfl rfl at_206 rfl fun _ T90 L90 X90 hQ90 => ?_
            obtain ⟨rfl, rfl, e90⟩ := hQ90
            have N90 := Fr.app N89 (Fr.nil n0)
            refine own_stk (S' := [(.int (f3_3 (1 : Int32) (3 : Int32) (g0_13 p1 p2 p3 p4 q5 p6) (g0_3 p1 p2 p3 p4 q5 p6) (g0_4 p1 p2 p3 p4 q5 p6) (g0_5 p1 p2 p3 p4 q5 p6) (g0_6 p1 p2 p3 p4 q5 p6))), (.int ((((1 : Int32) + (f3_0 (1 : Int32) (3 : Int32) (g0_13 p1 p2 p3 p4 q5 p6) (g0_3 p1 p2 p3 p4 q5 p6) (g0_4 p1 p2 p3 p4 q5 p6) (g0_5 p1 p2 p3 p4 q5 p6) (g0_6 p1 p2 p3 p4 q5 p6))) + (f3_1 (1 : Int32) (3 : Int32) (g0_13 p1 p2 p3 p4 q5 p6) (g0_3 p1 p2 p3 p4 q5 p6) (g0_4 p1 p2 p3 p4 q5 p6) (g0_5 p1 p2 p3 p4 q5 p6) (g0_6 p1 p2 p3 p4 q5 p6))) + (f3_2 (1 : Int32) (3 : Int32) (g0_13 p1 p2 p3 p4 q5 p6) (g0_3 p1 p2 p3 p4 q5 p6) (g0_4 p1 p2 p3 p4 q5 p6) (g0_5 p1 p2 p3 p4 q5 p6) (g0_6 p1 p2 p3 p4 q5 p6))))]) rfl ?_
            refine wiadd OGc 210 X90 B at_209 rfl ?_
            refine wistore OGc 212 X90 B at_210 #[.val (.int p1), .val (.int p2), .val (.int p3), .val (.int p4), .val (.long q5), .second, .val (.int p6), .val (.int (f1 p1 p2)), .val (.int (f2 p1 p2)), .val (.int (f1 p3 p4)), .val (.int (f2 p3 p4)), .val (.int (g0_1 p1 p2 p3 p4 q5 p6)), .val (.int (g0_2 p1 p2 p3 p4 q5 p6)), .val (.ref b7), .val (.int (1 : Int32)), .val (.int (3 : Int32)), .val (.long (g0_13 p1 p2 p3 p4 q5 p6)), .second, .val (.int (g0_21 p1 p2 p3 p4 q5 p6))] rfl rfl ?_
            refine waload OGc 214 X90 B at_212 rfl rfl rfl ?_
            refine wiload OGc 216 X90 B at_214 rfl rfl ?_
            refine wiload OGc 218 X90 B at_216 rfl rfl ?_
            refine wlload OGc 220 X90 B at_218 rfl rfl ?_
            refine wstat OGc 223 X90 B hZ hown (ow hw 13 rfl) (ow hw 14 rfl) (ow hw 16 rfl) (ow hw 15 rfl) e90 (rm4_1_3 l Z a0 hw [] b7 (g0_13 p1 p2 p3 p4 q5 p6) (g0_3 p1 p2 p3 p4 q5 p6) (g0_4 p1 p2 p3 p4 q5 p6) (g0_5 p1 p2 p3 p4 q5 p6) (g0_6 p1 p2 p3 p4 q5 p6) h23 F25) 0 (by decide) (by decide) hml rfl (lenOf pd___IIIJ_I rfl) [] rfl rfl at_220 rfl fun _ T91 L91 X91 hQ91 => ?_
            obtain ⟨rfl, rfl, e91⟩ := hQ91
            have N91 := Fr.app N90 (Fr.nil n0)
            refine own_stk (S' := [(.int (f4_1_3 (g0_13 p1 p2 p3 p4 q5 p6) (g0_3 p1 p2 p3 p4 q5 p6) (g0_4 p1 p2 p3 p4 q5 p6) (g0_5 p1 p2 p3 p4 q5 p6) (g0_6 p1 p2 p3 p4 q5 p6)))]) rfl ?_
            refine wiload OGc 225 X91 B at_223 rfl rfl ?_
            by_cases c92 : (f4_1_3 (g0_13 p1 p2 p3 p4 q5 p6) (g0_3 p1 p2 p3 p4 q5 p6) (g0_4 p1 p2 p3 p4 q5 p6) (g0_5 p1 p2 p3 p4 q5 p6) (g0_6 p1 p2 p3 p4 q5 p6)) = (g0_21 p1 p2 p3 p4 q5 p6)
            · refine wicmpNo OGc 228 X91 B at_225 (teq c92).2 rfl ?_
              refine wiconst OGc 229 X91 B at_228 1 rfl rfl ?_
              refine wgoto OGc 233 X91 B at_229 rfl ?_
              refine own_retZ X91 hx (t := .boolean) hret (by simp) hlk (hb hby at_233) (by decide) (by decide) (w := (1 : Int32)) rfl ?_
              exact ⟨congrArg (fun z => some (Value.int z)) (show f0 p1 p2 p3 p4 q5 p6 = (1 : Int32) from (by rw [f0, if_neg c35, if_pos c71, if_neg c72, if_neg c79, if_pos c86, if_pos c92])).symm, N91⟩
            · refine wicmpYes OGc 232 X91 B at_225 (feq c92).2 rfl ?_
              refine wiconst OGc 233 X91 B at_232 0 rfl rfl ?_
              refine own_retZ X91 hx (t := .boolean) hret (by simp) hlk (hb hby at_233) (by decide) (by decide) (w := (0 : Int32)) rfl ?_
              exact ⟨congrArg (fun z => some (Value.int z)) (show f0 p1 p2 p3 p4 q5 p6 = (0 : Int32) from (by rw [f0, if_neg c35, if_pos c71, if_neg c72, if_neg c79, if_pos c86, if_neg c92])).symm, N91⟩
          · skip
            by_cases c93 : (g0_8 p1 p2 p3 p4 q5 p6) = (4 : Int32)
            · rw [c93]
              show OG p e _ s below _ T23 (mkF m 158 #[.val (.int p1), .val (.int p2), .val (.int p3), .val (.int p4), .val (.long q5), .second, .val (.int p6), .val (.int (f1 p1 p2)), .val (.int (f2 p1 p2)), .val (.int (f1 p3 p4)), .val (.int (f2 p3 p4)), .val (.int (g0_1 p1 p2 p3 p4 q5 p6)), .val (.int (g0_2 p1 p2 p3 p4 q5 p6)), .val (.ref b7), .val (.int (1 : Int32)), .val (.int (4 : Int32)), .val (.long (g0_13 p1 p2 p3 p4 q5 p6)), .second, .unset] [(.int (1 : Int32))])
              refine waload OGc 160 X23 B at_158 rfl rfl rfl ?_
              refine wiconst OGc 161 X23 B at_160 0 rfl rfl ?_
              refine wiload OGc 163 X23 B at_161 rfl rfl ?_
              refine wiload OGc 165 X23 B at_163 rfl rfl ?_
              refine wlload OGc 167 X23 B at_165 rfl rfl ?_
              refine wstat OGc 170 X23 B hZ hown (ow hw 9 rfl) (ow hw 10 rfl) (ow hw 12 rfl) (ow hw 11 rfl) e23 (rm3_0 l Z a0 hw [] b7 (1 : Int32) (4 : Int32) (g0_13 p1 p2 p3 p4 q5 p6) (g0_3 p1 p2 p3 p4 q5 p6) (g0_4 p1 p2 p3 p4 q5 p6) (g0_5 p1 p2 p3 p4 q5 p6) (g0_6 p1 p2 p3 p4 q5 p6) h23 F25) 1 (by decide) (by decide) hml rfl (lenOf pd___IIIIJ_I rfl) [(.int (1 : Int32))] rfl rfl at_167 rfl fun _ T94 L94 X94 hQ94 => ?_
              obtain ⟨rfl, rfl, e94⟩ := hQ94
              have N94 := Fr.app N23 (Fr.nil n0)
              refine own_stk (S' := [(.int (f3_0 (1 : Int32) (4 : Int32) (g0_13 p1 p2 p3 p4 q5 p6) (g0_3 p1 p2 p3 p4 q5 p6) (g0_4 p1 p2 p3 p4 q5 p6) (g0_5 p1 p2 p3 p4 q5 p6) (g0_6 p1 p2 p3 p4 q5 p6))), (.int (1 : Int32))]) rfl ?_
              refine wiadd OGc 171 X94 B at_170 rfl ?_
              refine waload OGc 173 X94 B at_171 rfl rfl rfl ?_
              refine wiconst OGc 174 X94 B at_173 1 rfl rfl ?_
              refine wiload OGc 176 X94 B at_174 rfl rfl ?_
              refine wiload OGc 178 X94 B at_176 rfl rfl ?_
              refine wlload OGc 180 X94 B at_178 rfl rfl ?_
              refine wstat OGc 183 X94 B hZ hown (ow hw 9 rfl) (ow hw 10 rfl) (ow hw 12 rfl) (ow hw 11 rfl) e94 (rm3_1 l Z a0 hw [] b7 (1 : Int32) (4 : Int32) (g0_13 p1 p2 p3 p4 q5 p6) (g0_3 p1 p2 p3 p4 q5 p6) (g0_4 p1 p2 p3 p4 q5 p6) (g0_5 p1 p2 p3 p4 q5 p6) (g0_6 p1 p2 p3 p4 q5 p6) h23 F25) 1 (by decide) (by decide) hml rfl (lenOf pd___IIIIJ_I rfl) [(.int ((1 : Int32) + (f3_0 (1 : Int32) (4 : Int32) (g0_13 p1 p2 p3 p4 q5 p6) (g0_3 p1 p2 p3 p4 q5 p6) (g0_4 p1 p2 p3 p4 q5 p6) (g0_5 p1 p2 p3 p4 q5 p6) (g0_6 p1 p2 p3 p4 q5 p6))))] rfl rfl at_180 rfl fun _ T95 L95 X95 hQ95 => ?_
              obtain ⟨rfl, rfl, e95⟩ := hQ95
              have N95 := Fr.app N94 (Fr.nil n0)
              refine own_stk (S' := [(.int (f3_1 (1 : Int32) (4 : Int32) (g0_13 p1 p2 p3 p4 q5 p6) (g0_3 p1 p2 p3 p4 q5 p6) (g0_4 p1 p2 p3 p4 q5 p6) (g0_5 p1 p2 p3 p4 q5 p6) (g0_6 p1 p2 p3 p4 q5 p6))), (.int ((1 : Int32) + (f3_0 (1 : Int32) (4 : Int32) (g0_13 p1 p2 p3 p4 q5 p6) (g0_3 p1 p2 p3 p4 q5 p6) (g0_4 p1 p2 p3 p4 q5 p6) (g0_5 p1 p2 p3 p4 q5 p6) (g0_6 p1 p2 p3 p4 q5 p6))))]) rfl ?_
              refine wiadd OGc 184 X95 B at_183 rfl ?_
              refine waload OGc 186 X95 B at_184 rfl rfl rfl ?_
              refine wiconst OGc 187 X95 B at_186 2 rfl rfl ?_
              refine wiload OGc 189 X95 B at_187 rfl rfl ?_
              refine wiload OGc 191 X95 B at_189 rfl rfl ?_
              refine wlload OGc 193 X95 B at_191 rfl rfl ?_
              refine wstat OGc 196 X95 B hZ hown (ow hw 9 rfl) (ow hw 10 rfl) (ow hw 12 rfl) (ow hw 11 rfl) e95 (rm3_2 l Z a0 hw [] b7 (1 : Int32) (4 : Int32) (g0_13 p1 p2 p3 p4 q5 p6) (g0_3 p1 p2 p3 p4 q5 p6) (g0_4 p1 p2 p3 p4 q5 p6) (g0_5 p1 p2 p3 p4 q5 p6) (g0_6 p1 p2 p3 p4 q5 p6) h23 F25) 1 (by decide) (by decide) hml rfl (lenOf pd___IIIIJ_I rfl) [(.int (((1 : Int32) + (f3_0 (1 : Int32) (4 : Int32) (g0_13 p1 p2 p3 p4 q5 p6) (g0_3 p1 p2 p3 p4 q5 p6) (g0_4 p1 p2 p3 p4 q5 p6) (g0_5 p1 p2 p3 p4 q5 p6) (g0_6 p1 p2 p3 p4 q5 p6))) + (f3_1 (1 : Int32) (4 : Int32) (g0_13 p1 p2 p3 p4 q5 p6) (g0_3 p1 p2 p3 p4 q5 p6) (g0_4 p1 p2 p3 p4 q5 p6) (g0_5 p1 p2 p3 p4 q5 p6) (g0_6 p1 p2 p3 p4 q5 p6))))] rfl rfl at_193 rfl fun _ T96 L96 X96 hQ96 => ?_
              obtain ⟨rfl, rfl, e96⟩ := hQ96
              have N96 := Fr.app N95 (Fr.nil n0)
              refine own_stk (S' := [(.int (f3_2 (1 : Int32) (4 : Int32) (g0_13 p1 p2 p3 p4 q5 p6) (g0_3 p1 p2 p3 p4 q5 p6) (g0_4 p1 p2 p3 p4 q5 p6) (g0_5 p1 p2 p3 p4 q5 p6) (g0_6 p1 p2 p3 p4 q5 p6))), (.int (((1 : Int32) + (f3_0 (1 : Int32) (4 : Int32) (g0_13 p1 p2 p3 p4 q5 p6) (g0_3 p1 p2 p3 p4 q5 p6) (g0_4 p1 p2 p3 p4 q5 p6) (g0_5 p1 p2 p3 p4 q5 p6) (g0_6 p1 p2 p3 p4 q5 p6))) + (f3_1 (1 : Int32) (4 : Int32) (g0_13 p1 p2 p3 p4 q5 p6) (g0_3 p1 p2 p3 p4 q5 p6) (g0_4 p1 p2 p3 p4 q5 p6) (g0_5 p1 p2 p3 p4 q5 p6) (g0_6 p1 p2 p3 p4 q5 p6))))]) rfl ?_
              refine wiadd OGc 197 X96 B at_196 rfl ?_
              refine waload OGc 199 X96 B at_197 rfl rfl rfl ?_
              refine wiconst OGc 200 X96 B at_199 3 rfl rfl ?_
              refine wiload OGc 202 X96 B at_200 rfl rfl ?_
              refine wiload OGc 204 X96 B at_202 rfl rfl ?_
              refine wlload OGc 206 X96 B at_204 rfl rfl ?_
              refine wstat OGc 209 X96 B hZ hown (ow hw 9 rfl) (ow hw 10 rfl) (ow hw 12 rfl) (ow hw 11 rfl) e96 (rm3_3 l Z a0 hw [] b7 (1 : Int32) (4 : Int32) (g0_13 p1 p2 p3 p4 q5 p6) (g0_3 p1 p2 p3 p4 q5 p6) (g0_4 p1 p2 p3 p4 q5 p6) (g0_5 p1 p2 p3 p4 q5 p6) (g0_6 p1 p2 p3 p4 q5 p6) h23 F25) 1 (by decide) (by decide) hml rfl (lenOf pd___IIIIJ_I rfl) [(.int ((((1 : Int32) + (f3_0 (1 : Int32) (4 : Int32) (g0_13 p1 p2 p3 p4 q5 p6) (g0_3 p1 p2 p3 p4 q5 p6) (g0_4 p1 p2 p3 p4 q5 p6) (g0_5 p1 p2 p3 p4 q5 p6) (g0_6 p1 p2 p3 p4 q5 p6))) + (f3_1 (1 : Int32) (4 : Int32) (g0_13 p1 p2 p3 p4 q5 p6) (g0_3 p1 p2 p3 p4 q5 p6) (g0_4 p1 p2 p3 p4 q5 p6) (g0_5 p1 p2 p3 p4 q5 p6) (g0_6 p1 p2 p3 p4 q5 p6))) + (f3_2 (1 : Int32) (4 : Int32) (g0_13 p1 p2 p3 p4 q5 p6) (g0_3 p1 p2 p3 p4 q5 p6) (g0_4 p1 p2 p3 p4 q5 p6) (g0_5 p1 p2 p3 p4 q5 p6) (g0_6 p1 p2 p3 p4 q5 p6))))] rfl rfl at_206 rfl fun _ T97 L97 X97 hQ97 => ?_
              obtain ⟨rfl, rfl, e97⟩ := hQ97
              have N97 := Fr.app N96 (Fr.nil n0)
              refine own_stk (S' := [(.int (f3_3 (1 : Int32) (4 : Int32) (g0_13 p1 p2 p3 p4 q5 p6) (g0_3 p1 p2 p3 p4 q5 p6) (g0_4 p1 p2 p3 p4 q5 p6) (g0_5 p1 p2 p3 p4 q5 p6) (g0_6 p1 p2 p3 p4 q5 p6))), (.int ((((1 : Int32) + (f3_0 (1 : Int32) (4 : Int32) (g0_13 p1 p2 p3 p4 q5 p6) (g0_3 p1 p2 p3 p4 q5 p6) (g0_4 p1 p2 p3 p4 q5 p6) (g0_5 p1 p2 p3 p4 q5 p6) (g0_6 p1 p2 p3 p4 q5 p6))) + (f3_1 (1 : Int32) (4 : Int32) (g0_13 p1 p2 p3 p4 q5 p6) (g0_3 p1 p2 p3 p4 q5 p6) (g0_4 p1 p2 p3 p4 q5 p6) (g0_5 p1 p2 p3 p4 q5 p6) (g0_6 p1 p2 p3 p4 q5 p6))) + (f3_2 (1 : Int32) (4 : Int32) (g0_13 p1 p2 p3 p4 q5 p6) (g0_3 p1 p2 p3 p4 q5 p6) (g0_4 p1 p2 p3 p4 q5 p6) (g0_5 p1 p2 p3 p4 q5 p6) (g0_6 p1 p2 p3 p4 q5 p6))))]) rfl ?_
              refine wiadd OGc 210 X97 B at_209 rfl ?_
              refine wistore OGc 212 X97 B at_210 #[.val (.int p1), .val (.int p2), .val (.int p3), .val (.int p4), .val (.long q5), .second, .val (.int p6), .val (.int (f1 p1 p2)), .val (.int (f2 p1 p2)), .val (.int (f1 p3 p4)), .val (.int (f2 p3 p4)), .val (.int (g0_1 p1 p2 p3 p4 q5 p6)), .val (.int (g0_2 p1 p2 p3 p4 q5 p6)), .val (.ref b7), .val (.int (1 : Int32)), .val (.int (4 : Int32)), .val (.long (g0_13 p1 p2 p3 p4 q5 p6)), .second, .val (.int (g0_22 p1 p2 p3 p4 q5 p6))] rfl rfl ?_
              refine waload OGc 214 X97 B at_212 rfl rfl rfl ?_
              refine wiload OGc 216 X97 B at_214 rfl rfl ?_
              refine wiload OGc 218 X97 B at_216 rfl rfl ?_
              refine wlload OGc 220 X97 B at_218 rfl rfl ?_
              refine wstat OGc 223 X97 B hZ hown (ow hw 13 rfl) (ow hw 14 rfl) (ow hw 16 rfl) (ow hw 15 rfl) e97 (rm4_1_4 l Z a0 hw [] b7 (g0_13 p1 p2 p3 p4 q5 p6) (g0_3 p1 p2 p3 p4 q5 p6) (g0_4 p1 p2 p3 p4 q5 p6) (g0_5 p1 p2 p3 p4 q5 p6) (g0_6 p1 p2 p3 p4 q5 p6) h23 F25) 0 (by decide) (by decide) hml rfl (lenOf pd___IIIJ_I rfl) [] rfl rfl at_220 rfl fun _ T98 L98 X98 hQ98 => ?_
              obtain ⟨rfl, rfl, e98⟩ := hQ98
              have N98 := Fr.app N97 (Fr.nil n0)
              refine own_stk (S' := [(.int (f4_1_4 (g0_13 p1 p2 p3 p4 q5 p6) (g0_3 p1 p2 p3 p4 q5 p6) (g0_4 p1 p2 p3 p4 q5 p6) (g0_5 p1 p2 p3 p4 q5 p6) (g0_6 p1 p2 p3 p4 q5 p6)))]) rfl ?_
              refine wiload OGc 225 X98 B at_223 rfl rfl ?_
              by_cases c99 : (f4_1_4 (g0_13 p1 p2 p3 p4 q5 p6) (g0_3 p1 p2 p3 p4 q5 p6) (g0_4 p1 p2 p3 p4 q5 p6) (g0_5 p1 p2 p3 p4 q5 p6) (g0_6 p1 p2 p3 p4 q5 p6)) = (g0_22 p1 p2 p3 p4 q5 p6)
              · refine wicmpNo OGc 228 X98 B at_225 (teq c99).2 rfl ?_
                refine wiconst OGc 229 X98 B at_228 1 rfl rfl ?_
                refine wgoto OGc 233 X98 B at_229 rfl ?_
                refine own_retZ X98 hx (t := .boolean) hret (by simp) hlk (hb hby at_233) (by decide) (by decide) (w := (1 : Int32)) rfl ?_
                exact ⟨congrArg (fun z => some (Value.int z)) (show f0 p1 p2 p3 p4 q5 p6 = (1 : Int32) from (by rw [f0, if_neg c35, if_pos c71, if_neg c72, if_neg c79, if_neg c86, if_pos c93, if_pos c99])).symm, N98⟩
              · refine wicmpYes OGc 232 X98 B at_225 (feq c99).2 rfl ?_
                refine wiconst OGc 233 X98 B at_232 0 rfl rfl ?_
                refine own_retZ X98 hx (t := .boolean) hret (by simp) hlk (hb hby at_233) (by decide) (by decide) (w := (0 : Int32)) rfl ?_
                exact ⟨congrArg (fun z => some (Value.int z)) (show f0 p1 p2 p3 p4 q5 p6 = (0 : Int32) from (by rw [f0, if_neg c35, if_pos c71, if_neg c72, if_neg c79, if_neg c86, if_pos c93, if_neg c99])).symm, N98⟩
            · skip
              exact (own_rt1 p1 p2 p3 p4 q5 p6 c71 c72 c79 c86 c93).elim
    · skip
      by_cases c100 : (g0_7 p1 p2 p3 p4 q5 p6) = (2 : Int32)
      · rw [c100]
        show OG p e _ s below _ T23 (mkF m 156 #[.val (.int p1), .val (.int p2), .val (.int p3), .val (.int p4), .val (.long q5), .second, .val (.int p6), .val (.int (f1 p1 p2)), .val (.int (f2 p1 p2)), .val (.int (f1 p3 p4)), .val (.int (f2 p3 p4)), .val (.int (g0_1 p1 p2 p3 p4 q5 p6)), .val (.int (g0_2 p1 p2 p3 p4 q5 p6)), .val (.ref b7), .val (.int (2 : Int32)), .val (.int (g0_8 p1 p2 p3 p4 q5 p6)), .val (.long (g0_13 p1 p2 p3 p4 q5 p6)), .second, .unset] [])
        refine wiload OGc 158 X23 B at_156 rfl rfl ?_
        by_cases c101 : (g0_8 p1 p2 p3 p4 q5 p6) = (2 : Int32)
        · rw [c101]
          show OG p e _ s below _ T23 (mkF m 158 #[.val (.int p1), .val (.int p2), .val (.int p3), .val (.int p4), .val (.long q5), .second, .val (.int p6), .val (.int (f1 p1 p2)), .val (.int (f2 p1 p2)), .val (.int (f1 p3 p4)), .val (.int (f2 p3 p4)), .val (.int (g0_1 p1 p2 p3 p4 q5 p6)), .val (.int (g0_2 p1 p2 p3 p4 q5 p6)), .val (.ref b7), .val (.int (2 : Int32)), .val (.int (2 : Int32)), .val (.long (g0_13 p1 p2 p3 p4 q5 p6)), .second, .unset] [(.int (2 : Int32))])
          refine waload OGc 160 X23 B at_158 rfl rfl rfl ?_
          refine wiconst OGc 161 X23 B at_160 0 rfl rfl ?_
          refine wiload OGc 163 X23 B at_161 rfl rfl ?_
          refine wiload OGc 165 X23 B at_163 rfl rfl ?_
          refine wlload OGc 167 X23 B at_165 rfl rfl ?_
          refine wstat OGc 170 X23 B hZ hown (ow hw 9 rfl) (ow hw 10 rfl) (ow hw 12 rfl) (ow hw 11 rfl) e23 (rm3_0 l Z a0 hw [] b7 (2 : Int32) (2 : Int32) (g0_13 p1 p2 p3 p4 q5 p6) (g0_3 p1 p2 p3 p4 q5 p6) (g0_4 p1 p2 p3 p4 q5 p6) (g0_5 p1 p2 p3 p4 q5 p6) (g0_6 p1 p2 p3 p4 q5 p6) h23 F25) 1 (by decide) (by decide) hml rfl (lenOf pd___IIIIJ_I rfl) [(.int (2 : Int32))] rfl rfl at_167 rfl fun _ T102 L102 X102 hQ102 => ?_
          obtain ⟨rfl, rfl, e102⟩ := hQ102
          have N102 := Fr.app N23 (Fr.nil n0)
          refine own_stk (S' := [(.int (f3_0 (2 : Int32) (2 : Int32) (g0_13 p1 p2 p3 p4 q5 p6) (g0_3 p1 p2 p3 p4 q5 p6) (g0_4 p1 p2 p3 p4 q5 p6) (g0_5 p1 p2 p3 p4 q5 p6) (g0_6 p1 p2 p3 p4 q5 p6))), (.int (2 : Int32))]) rfl ?_
          refine wiadd OGc 171 X102 B at_170 rfl ?_
          refine waload OGc 173 X102 B at_171 rfl rfl rfl ?_
          refine wiconst OGc 174 X102 B at_173 1 rfl rfl ?_
          refine wiload OGc 176 X102 B at_174 rfl rfl ?_
          refine wiload OGc 178 X102 B at_176 rfl rfl ?_
          refine wlload OGc 180 X102 B at_178 rfl rfl ?_
          refine wstat OGc 183 X102 B hZ hown (ow hw 9 rfl) (ow hw 10 rfl) (ow hw 12 rfl) (ow hw 11 rfl) e102 (rm3_1 l Z a0 hw [] b7 (2 : Int32) (2 : Int32) (g0_13 p1 p2 p3 p4 q5 p6) (g0_3 p1 p2 p3 p4 q5 p6) (g0_4 p1 p2 p3 p4 q5 p6) (g0_5 p1 p2 p3 p4 q5 p6) (g0_6 p1 p2 p3 p4 q5 p6) h23 F25) 1 (by decide) (by decide) hml rfl (lenOf pd___IIIIJ_I rfl) [(.int ((2 : Int32) + (f3_0 (2 : Int32) (2 : Int32) (g0_13 p1 p2 p3 p4 q5 p6) (g0_3 p1 p2 p3 p4 q5 p6) (g0_4 p1 p2 p3 p4 q5 p6) (g0_5 p1 p2 p3 p4 q5 p6) (g0_6 p1 p2 p3 p4 q5 p6))))] rfl rfl at_180 rfl fun _ T103 L103 X103 hQ103 => ?_
          obtain ⟨rfl, rfl, e103⟩ := hQ103
          have N103 := Fr.app N102 (Fr.nil n0)
          refine own_stk (S' := [(.int (f3_1 (2 : Int32) (2 : Int32) (g0_13 p1 p2 p3 p4 q5 p6) (g0_3 p1 p2 p3 p4 q5 p6) (g0_4 p1 p2 p3 p4 q5 p6) (g0_5 p1 p2 p3 p4 q5 p6) (g0_6 p1 p2 p3 p4 q5 p6))), (.int ((2 : Int32) + (f3_0 (2 : Int32) (2 : Int32) (g0_13 p1 p2 p3 p4 q5 p6) (g0_3 p1 p2 p3 p4 q5 p6) (g0_4 p1 p2 p3 p4 q5 p6) (g0_5 p1 p2 p3 p4 q5 p6) (g0_6 p1 p2 p3 p4 q5 p6))))]) rfl ?_
          refine wiadd OGc 184 X103 B at_183 rfl ?_
          refine waload OGc 186 X103 B at_184 rfl rfl rfl ?_
          refine wiconst OGc 187 X103 B at_186 2 rfl rfl ?_
          refine wiload OGc 189 X103 B at_187 rfl rfl ?_
          refine wiload OGc 191 X103 B at_189 rfl rfl ?_
          refine wlload OGc 193 X103 B at_191 rfl rfl ?_
          refine wstat OGc 196 X103 B hZ hown (ow hw 9 rfl) (ow hw 10 rfl) (ow hw 12 rfl) (ow hw 11 rfl) e103 (rm3_2 l Z a0 hw [] b7 (2 : Int32) (2 : Int32) (g0_13 p1 p2 p3 p4 q5 p6) (g0_3 p1 p2 p3 p4 q5 p6) (g0_4 p1 p2 p3 p4 q5 p6) (g0_5 p1 p2 p3 p4 q5 p6) (g0_6 p1 p2 p3 p4 q5 p6) h23 F25) 1 (by decide) (by decide) hml rfl (lenOf pd___IIIIJ_I rfl) [(.int (((2 : Int32) + (f3_0 (2 : Int32) (2 : Int32) (g0_13 p1 p2 p3 p4 q5 p6) (g0_3 p1 p2 p3 p4 q5 p6) (g0_4 p1 p2 p3 p4 q5 p6) (g0_5 p1 p2 p3 p4 q5 p6) (g0_6 p1 p2 p3 p4 q5 p6))) + (f3_1 (2 : Int32) (2 : Int32) (g0_13 p1 p2 p3 p4 q5 p6) (g0_3 p1 p2 p3 p4 q5 p6) (g0_4 p1 p2 p3 p4 q5 p6) (g0_5 p1 p2 p3 p4 q5 p6) (g0_6 p1 p2 p3 p4 q5 p6))))] rfl rfl at_193 rfl fun _ T104 L104 X104 hQ104 => ?_
          obtain ⟨rfl, rfl, e104⟩ := hQ104
          have N104 := Fr.app N103 (Fr.nil n0)
          refine own_stk (S' := [(.int (f3_2 (2 : Int32) (2 : Int32) (g0_13 p1 p2 p3 p4 q5 p6) (g0_3 p1 p2 p3 p4 q5 p6) (g0_4 p1 p2 p3 p4 q5 p6) (g0_5 p1 p2 p3 p4 q5 p6) (g0_6 p1 p2 p3 p4 q5 p6))), (.int (((2 : Int32) + (f3_0 (2 : Int32) (2 : Int32) (g0_13 p1 p2 p3 p4 q5 p6) (g0_3 p1 p2 p3 p4 q5 p6) (g0_4 p1 p2 p3 p4 q5 p6) (g0_5 p1 p2 p3 p4 q5 p6) (g0_6 p1 p2 p3 p4 q5 p6))) + (f3_1 (2 : Int32) (2 : Int32) (g0_13 p1 p2 p3 p4 q5 p6) (g0_3 p1 p2 p3 p4 q5 p6) (g0_4 p1 p2 p3 p4 q5 p6) (g0_5 p1 p2 p3 p4 q5 p6) (g0_6 p1 p2 p3 p4 q5 p6))))]) rfl ?_
          refine wiadd OGc 197 X104 B at_196 rfl ?_
          refine waload OGc 199 X104 B at_197 rfl rfl rfl ?_
          refine wiconst OGc 200 X104 B at_199 3 rfl rfl ?_
          refine wiload OGc 202 X104 B at_200 rfl rfl ?_
          refine wiload OGc 204 X104 B at_202 rfl rfl ?_
          refine wlload OGc 206 X104 B at_204 rfl rfl ?_
          refine wstat OGc 209 X104 B hZ hown (ow hw 9 rfl) (ow hw 10 rfl) (ow hw 12 rfl) (ow hw 11 rfl) e104 (rm3_3 l Z a0 hw [] b7 (2 : Int32) (2 : Int32) (g0_13 p1 p2 p3 p4 q5 p6) (g0_3 p1 p2 p3 p4 q5 p6) (g0_4 p1 p2 p3 p4 q5 p6) (g0_5 p1 p2 p3 p4 q5 p6) (g0_6 p1 p2 p3 p4 q5 p6) h23 F25) 1 (by decide) (by decide) hml rfl (lenOf pd___IIIIJ_I rfl) [(.int ((((2 : Int32) + (f3_0 (2 : Int32) (2 : Int32) (g0_13 p1 p2 p3 p4 q5 p6) (g0_3 p1 p2 p3 p4 q5 p6) (g0_4 p1 p2 p3 p4 q5 p6) (g0_5 p1 p2 p3 p4 q5 p6) (g0_6 p1 p2 p3 p4 q5 p6))) + (f3_1 (2 : Int32) (2 : Int32) (g0_13 p1 p2 p3 p4 q5 p6) (g0_3 p1 p2 p3 p4 q5 p6) (g0_4 p1 p2 p3 p4 q5 p6) (g0_5 p1 p2 p3 p4 q5 p6) (g0_6 p1 p2 p3 p4 q5 p6))) + (f3_2 (2 : Int32) (2 : Int32) (g0_13 p1 p2 p3 p4 q5 p6) (g0_3 p1 p2 p3 p4 q5 p6) (g0_4 p1 p2 p3 p4 q5 p6) (g0_5 p1 p2 p3 p4 q5 p6) (g0_6 p1 p2 p3 p4 q5 p6))))] rfl rfl at_206 rfl fun _ T105 L105 X105 hQ105 => ?_
          obtain ⟨rfl, rfl, e105⟩ := hQ105
          have N105 := Fr.app N104 (Fr.nil n0)
          refine own_stk (S' := [(.int (f3_3 (2 : Int32) (2 : Int32) (g0_13 p1 p2 p3 p4 q5 p6) (g0_3 p1 p2 p3 p4 q5 p6) (g0_4 p1 p2 p3 p4 q5 p6) (g0_5 p1 p2 p3 p4 q5 p6) (g0_6 p1 p2 p3 p4 q5 p6))), (.int ((((2 : Int32) + (f3_0 (2 : Int32) (2 : Int32) (g0_13 p1 p2 p3 p4 q5 p6) (g0_3 p1 p2 p3 p4 q5 p6) (g0_4 p1 p2 p3 p4 q5 p6) (g0_5 p1 p2 p3 p4 q5 p6) (g0_6 p1 p2 p3 p4 q5 p6))) + (f3_1 (2 : Int32) (2 : Int32) (g0_13 p1 p2 p3 p4 q5 p6) (g0_3 p1 p2 p3 p4 q5 p6) (g0_4 p1 p2 p3 p4 q5 p6) (g0_5 p1 p2 p3 p4 q5 p6) (g0_6 p1 p2 p3 p4 q5 p6))) + (f3_2 (2 : Int32) (2 : Int32) (g0_13 p1 p2 p3 p4 q5 p6) (g0_3 p1 p2 p3 p4 q5 p6) (g0_4 p1 p2 p3 p4 q5 p6) (g0_5 p1 p2 p3 p4 q5 p6) (g0_6 p1 p2 p3 p4 q5 p6))))]) rfl ?_
          refine wiadd OGc 210 X105 B at_209 rfl ?_
          refine wistore OGc 212 X105 B at_210 #[.val (.int p1), .val (.int p2), .val (.int p3), .val (.int p4), .val (.long q5), .second, .val (.int p6), .val (.int (f1 p1 p2)), .val (.int (f2 p1 p2)), .val (.int (f1 p3 p4)), .val (.int (f2 p3 p4)), .val (.int (g0_1 p1 p2 p3 p4 q5 p6)), .val (.int (g0_2 p1 p2 p3 p4 q5 p6)), .val (.ref b7), .val (.int (2 : Int32)), .val (.int (2 : Int32)), .val (.long (g0_13 p1 p2 p3 p4 q5 p6)), .second, .val (.int (g0_23 p1 p2 p3 p4 q5 p6))] rfl rfl ?_
          refine waload OGc 214 X105 B at_212 rfl rfl rfl ?_
          refine wiload OGc 216 X105 B at_214 rfl rfl ?_
          refine wiload OGc 218 X105 B at_216 rfl rfl ?_
          refine wlload OGc 220 X105 B at_218 rfl rfl ?_
          refine wstat OGc 223 X105 B hZ hown (ow hw 13 rfl) (ow hw 14 rfl) (ow hw 16 rfl) (ow hw 15 rfl) e105 (rm4_2_2 l Z a0 hw [] b7 (g0_13 p1 p2 p3 p4 q5 p6) (g0_3 p1 p2 p3 p4 q5 p6) (g0_4 p1 p2 p3 p4 q5 p6) (g0_5 p1 p2 p3 p4 q5 p6) (g0_6 p1 p2 p3 p4 q5 p6) h23 F25) 0 (by decide) (by decide) hml rfl (lenOf pd___IIIJ_I rfl) [] rfl rfl at_220 rfl fun _ T106 L106 X106 hQ106 => ?_
          obtain ⟨rfl, rfl, e106⟩ := hQ106
          have N106 := Fr.app N105 (Fr.nil n0)
          refine own_stk (S' := [(.int (f4_2_2 (g0_13 p1 p2 p3 p4 q5 p6) (g0_3 p1 p2 p3 p4 q5 p6) (g0_4 p1 p2 p3 p4 q5 p6) (g0_5 p1 p2 p3 p4 q5 p6) (g0_6 p1 p2 p3 p4 q5 p6)))]) rfl ?_
          refine wiload OGc 225 X106 B at_223 rfl rfl ?_
          by_cases c107 : (f4_2_2 (g0_13 p1 p2 p3 p4 q5 p6) (g0_3 p1 p2 p3 p4 q5 p6) (g0_4 p1 p2 p3 p4 q5 p6) (g0_5 p1 p2 p3 p4 q5 p6) (g0_6 p1 p2 p3 p4 q5 p6)) = (g0_23 p1 p2 p3 p4 q5 p6)
          · refine wicmpNo OGc 228 X106 B at_225 (teq c107).2 rfl ?_
            refine wiconst OGc 229 X106 B at_228 1 rfl rfl ?_
            refine wgoto OGc 233 X106 B at_229 rfl ?_
            refine own_retZ X106 hx (t := .boolean) hret (by simp) hlk (hb hby at_233) (by decide) (by decide) (w := (1 : Int32)) rfl ?_
            exact ⟨congrArg (fun z => some (Value.int z)) (show f0 p1 p2 p3 p4 q5 p6 = (1 : Int32) from (by rw [f0, if_neg c35, if_neg c71, if_pos c100, if_pos c101, if_pos c107])).symm, N106⟩
          · refine wicmpYes OGc 232 X106 B at_225 (feq c107).2 rfl ?_
            refine wiconst OGc 233 X106 B at_232 0 rfl rfl ?_
            refine own_retZ X106 hx (t := .boolean) hret (by simp) hlk (hb hby at_233) (by decide) (by decide) (w := (0 : Int32)) rfl ?_
            exact ⟨congrArg (fun z => some (Value.int z)) (show f0 p1 p2 p3 p4 q5 p6 = (0 : Int32) from (by rw [f0, if_neg c35, if_neg c71, if_pos c100, if_pos c101, if_neg c107])).symm, N106⟩
        · skip
          by_cases c108 : (g0_8 p1 p2 p3 p4 q5 p6) = (3 : Int32)
          · rw [c108]
            show OG p e _ s below _ T23 (mkF m 158 #[.val (.int p1), .val (.int p2), .val (.int p3), .val (.int p4), .val (.long q5), .second, .val (.int p6), .val (.int (f1 p1 p2)), .val (.int (f2 p1 p2)), .val (.int (f1 p3 p4)), .val (.int (f2 p3 p4)), .val (.int (g0_1 p1 p2 p3 p4 q5 p6)), .val (.int (g0_2 p1 p2 p3 p4 q5 p6)), .val (.ref b7), .val (.int (2 : Int32)), .val (.int (3 : Int32)), .val (.long (g0_13 p1 p2 p3 p4 q5 p6)), .second, .unset] [(.int (2 : Int32))])
            refine waload OGc 160 X23 B at_158 rfl rfl rfl ?_
            refine wiconst OGc 161 X23 B at_160 0 rfl rfl ?_
            refine wiload OGc 163 X23 B at_161 rfl rfl ?_
            refine wiload OGc 165 X23 B at_163 rfl rfl ?_
            refine wlload OGc 167 X23 B at_165 rfl rfl ?_
            refine wstat OGc 170 X23 B hZ hown (ow hw 9 rfl) (ow hw 10 rfl) (ow hw 12 rfl) (ow hw 11 rfl) e23 (rm3_0 l Z a0 hw [] b7 (2 : Int32) (3 : Int32) (g0_13 p1 p2 p3 p4 q5 p6) (g0_3 p1 p2 p3 p4 q5 p6) (g0_4 p1 p2 p3 p4 q5 p6) (g0_5 p1 p2 p3 p4 q5 p6) (g0_6 p1 p2 p3 p4 q5 p6) h23 F25) 1 (by decide) (by decide) hml rfl (lenOf pd___IIIIJ_I rfl) [(.int (2 : Int32))] rfl rfl at_167 rfl fun _ T109 L109 X109 hQ109 => ?_
            obtain ⟨rfl, rfl, e109⟩ := hQ109
            have N109 := Fr.app N23 (Fr.nil n0)
            refine own_stk (S' := [(.int (f3_0 (2 : Int32) (3 : Int32) (g0_13 p1 p2 p3 p4 q5 p6) (g0_3 p1 p2 p3 p4 q5 p6) (g0_4 p1 p2 p3 p4 q5 p6) (g0_5 p1 p2 p3 p4 q5 p6) (g0_6 p1 p2 p3 p4 q5 p6))), (.int (2 : Int32))]) rfl ?_
            refine wiadd OGc 171 X109 B at_170 rfl ?_
            refine waload OGc 173 X109 B at_171 rfl rfl rfl ?_
            refine wiconst OGc 174 X109 B at_173 1 rfl rfl ?_
            refine wiload OGc 176 X109 B at_174 rfl rfl ?_
            refine wiload OGc 178 X109 B at_176 rfl rfl ?_
            refine wlload OGc 180 X109 B at_178 rfl rfl ?_
            refine wstat OGc 183 X109 B hZ hown (ow hw 9 rfl) (ow hw 10 rfl) (ow hw 12 rfl) (ow hw 11 rfl) e109 (rm3_1 l Z a0 hw [] b7 (2 : Int32) (3 : Int32) (g0_13 p1 p2 p3 p4 q5 p6) (g0_3 p1 p2 p3 p4 q5 p6) (g0_4 p1 p2 p3 p4 q5 p6) (g0_5 p1 p2 p3 p4 q5 p6) (g0_6 p1 p2 p3 p4 q5 p6) h23 F25) 1 (by decide) (by decide) hml rfl (lenOf pd___IIIIJ_I rfl) [(.int ((2 : Int32) + (f3_0 (2 : Int32) (3 : Int32) (g0_13 p1 p2 p3 p4 q5 p6) (g0_3 p1 p2 p3 p4 q5 p6) (g0_4 p1 p2 p3 p4 q5 p6) (g0_5 p1 p2 p3 p4 q5 p6) (g0_6 p1 p2 p3 p4 q5 p6))))] rfl rfl at_180 rfl fun _ T110 L110 X110 hQ110 => ?_
            obtain ⟨rfl, rfl, e110⟩ := hQ110
            have N110 := Fr.app N109 (Fr.nil n0)
            refine own_stk (S' := [(.int (f3_1 (2 : Int32) (3 : Int32) (g0_13 p1 p2 p3 p4 q5 p6) (g0_3 p1 p2 p3 p4 q5 p6) (g0_4 p1 p2 p3 p4 q5 p6) (g0_5 p1 p2 p3 p4 q5 p6) (g0_6 p1 p2 p3 p4 q5 p6))), (.int ((2 : Int32) + (f3_0 (2 : Int32) (3 : Int32) (g0_13 p1 p2 p3 p4 q5 p6) (g0_3 p1 p2 p3 p4 q5 p6) (g0_4 p1 p2 p3 p4 q5 p6) (g0_5 p1 p2 p3 p4 q5 p6) (g0_6 p1 p2 p3 p4 q5 p6))))]) rfl ?_
            refine wiadd OGc 184 X110 B at_183 rfl ?_
            refine waload OGc 186 X110 B at_184 rfl rfl rfl ?_
            refine wiconst OGc 187 X110 B at_186 2 rfl rfl ?_
            refine wiload OGc 189 X110 B at_187 rfl rfl ?_
            refine wiload OGc 191 X110 B at_189 rfl rfl ?_
            refine wlload OGc 193 X110 B at_191 rfl rfl ?_
            refine wstat OGc 196 X110 B hZ hown (ow hw 9 rfl) (ow hw 10 rfl) (ow hw 12 rfl) (ow hw 11 rfl) e110 (rm3_2 l Z a0 hw [] b7 (2 : Int32) (3 : Int32) (g0_13 p1 p2 p3 p4 q5 p6) (g0_3 p1 p2 p3 p4 q5 p6) (g0_4 p1 p2 p3 p4 q5 p6) (g0_5 p1 p2 p3 p4 q5 p6) (g0_6 p1 p2 p3 p4 q5 p6) h23 F25) 1 (by decide) (by decide) hml rfl (lenOf pd___IIIIJ_I rfl) [(.int (((2 : Int32) + (f3_0 (2 : Int32) (3 : Int32) (g0_13 p1 p2 p3 p4 q5 p6) (g0_3 p1 p2 p3 p4 q5 p6) (g0_4 p1 p2 p3 p4 q5 p6) (g0_5 p1 p2 p3 p4 q5 p6) (g0_6 p1 p2 p3 p4 q5 p6))) + (f3_1 (2 : Int32) (3 : Int32) (g0_13 p1 p2 p3 p4 q5 p6) (g0_3 p1 p2 p3 p4 q5 p6) (g0_4 p1 p2 p3 p4 q5 p6) (g0_5 p1 p2 p3 p4 q5 p6) (g0_6 p1 p2 p3 p4 q5 p6))))] rfl rfl at_193 rfl fun _ T111 L111 X111 hQ111 => ?_
            obtain ⟨rfl, rfl, e111⟩ := hQ111
            have N111 := Fr.app N110 (Fr.nil n0)
            refine own_stk (S' := [(.int (f3_2 (2 : Int32) (3 : Int32) (g0_13 p1 p2 p3 p4 q5 p6) (g0_3 p1 p2 p3 p4 q5 p6) (g0_4 p1 p2 p3 p4 q5 p6) (g0_5 p1 p2 p3 p4 q5 p6) (g0_6 p1 p2 p3 p4 q5 p6))), (.int (((2 : Int32) + (f3_0 (2 : Int32) (3 : Int32) (g0_13 p1 p2 p3 p4 q5 p6) (g0_3 p1 p2 p3 p4 q5 p6) (g0_4 p1 p2 p3 p4 q5 p6) (g0_5 p1 p2 p3 p4 q5 p6) (g0_6 p1 p2 p3 p4 q5 p6))) + (f3_1 (2 : Int32) (3 : Int32) (g0_13 p1 p2 p3 p4 q5 p6) (g0_3 p1 p2 p3 p4 q5 p6) (g0_4 p1 p2 p3 p4 q5 p6) (g0_5 p1 p2 p3 p4 q5 p6) (g0_6 p1 p2 p3 p4 q5 p6))))]) rfl ?_
            refine wiadd OGc 197 X111 B at_196 rfl ?_
            refine waload OGc 199 X111 B at_197 rfl rfl rfl ?_
            refine wiconst OGc 200 X111 B at_199 3 rfl rfl ?_
            refine wiload OGc 202 X111 B at_200 rfl rfl ?_
            refine wiload OGc 204 X111 B at_202 rfl rfl ?_
            refine wlload OGc 206 X111 B at_204 rfl rfl ?_
            refine wstat OGc 209 X111 B hZ hown (ow hw 9 rfl) (ow hw 10 rfl) (ow hw 12 rfl) (ow hw 11 rfl) e111 (rm3_3 l Z a0 hw [] b7 (2 : Int32) (3 : Int32) (g0_13 p1 p2 p3 p4 q5 p6) (g0_3 p1 p2 p3 p4 q5 p6) (g0_4 p1 p2 p3 p4 q5 p6) (g0_5 p1 p2 p3 p4 q5 p6) (g0_6 p1 p2 p3 p4 q5 p6) h23 F25) 1 (by decide) (by decide) hml rfl (lenOf pd___IIIIJ_I rfl) [(.int ((((2 : Int32) + (f3_0 (2 : Int32) (3 : Int32) (g0_13 p1 p2 p3 p4 q5 p6) (g0_3 p1 p2 p3 p4 q5 p6) (g0_4 p1 p2 p3 p4 q5 p6) (g0_5 p1 p2 p3 p4 q5 p6) (g0_6 p1 p2 p3 p4 q5 p6))) + (f3_1 (2 : Int32) (3 : Int32) (g0_13 p1 p2 p3 p4 q5 p6) (g0_3 p1 p2 p3 p4 q5 p6) (g0_4 p1 p2 p3 p4 q5 p6) (g0_5 p1 p2 p3 p4 q5 p6) (g0_6 p1 p2 p3 p4 q5 p6))) + (f3_2 (2 : Int32) (3 : Int32) (g0_13 p1 p2 p3 p4 q5 p6) (g0_3 p1 p2 p3 p4 q5 p6) (g0_4 p1 p2 p3 p4 q5 p6) (g0_5 p1 p2 p3 p4 q5 p6) (g0_6 p1 p2 p3 p4 q5 p6))))] rfl rfl at_206 rfl fun _ T112 L112 X112 hQ112 => ?_
            obtain ⟨rfl, rfl, e112⟩ := hQ112
            have N112 := Fr.app N111 (Fr.nil n0)
            refine own_stk (S' := [(.int (f3_3 (2 : Int32) (3 : Int32) (g0_13 p1 p2 p3 p4 q5 p6) (g0_3 p1 p2 p3 p4 q5 p6) (g0_4 p1 p2 p3 p4 q5 p6) (g0_5 p1 p2 p3 p4 q5 p6) (g0_6 p1 p2 p3 p4 q5 p6))), (.int ((((2 : Int32) + (f3_0 (2 : Int32) (3 : Int32) (g0_13 p1 p2 p3 p4 q5 p6) (g0_3 p1 p2 p3 p4 q5 p6) (g0_4 p1 p2 p3 p4 q5 p6) (g0_5 p1 p2 p3 p4 q5 p6) (g0_6 p1 p2 p3 p4 q5 p6))) + (f3_1 (2 : Int32) (3 : Int32) (g0_13 p1 p2 p3 p4 q5 p6) (g0_3 p1 p2 p3 p4 q5 p6) (g0_4 p1 p2 p3 p4 q5 p6) (g0_5 p1 p2 p3 p4 q5 p6) (g0_6 p1 p2 p3 p4 q5 p6))) + (f3_2 (2 : Int32) (3 : Int32) (g0_13 p1 p2 p3 p4 q5 p6) (g0_3 p1 p2 p3 p4 q5 p6) (g0_4 p1 p2 p3 p4 q5 p6) (g0_5 p1 p2 p3 p4 q5 p6) (g0_6 p1 p2 p3 p4 q5 p6))))]) rfl ?_
            refine wiadd OGc 210 X112 B at_209 rfl ?_
            refine wistore OGc 212 X112 B at_210 #[.val (.int p1), .val (.int p2), .val (.int p3), .val (.int p4), .val (.long q5), .second, .val (.int p6), .val (.int (f1 p1 p2)), .val (.int (f2 p1 p2)), .val (.int (f1 p3 p4)), .val (.int (f2 p3 p4)), .val (.int (g0_1 p1 p2 p3 p4 q5 p6)), .val (.int (g0_2 p1 p2 p3 p4 q5 p6)), .val (.ref b7), .val (.int (2 : Int32)), .val (.int (3 : Int32)), .val (.long (g0_13 p1 p2 p3 p4 q5 p6)), .second, .val (.int (g0_24 p1 p2 p3 p4 q5 p6))] rfl rfl ?_
            refine waload OGc 214 X112 B at_212 rfl rfl rfl ?_
            refine wiload OGc 216 X112 B at_214 rfl rfl ?_
            refine wiload OGc 218 X112 B at_216 rfl rfl ?_
            refine wlload OGc 220 X112 B at_218 rfl rfl ?_
            refine wstat OGc 223 X112 B hZ hown (ow hw 13 rfl) (ow hw 14 rfl) (ow hw 16 rfl) (ow hw 15 rfl) e112 (rm4_2_3 l Z a0 hw [] b7 (g0_13 p1 p2 p3 p4 q5 p6) (g0_3 p1 p2 p3 p4 q5 p6) (g0_4 p1 p2 p3 p4 q5 p6) (g0_5 p1 p2 p3 p4 q5 p6) (g0_6 p1 p2 p3 p4 q5 p6) h23 F25) 0 (by decide) (by decide) hml rfl (lenOf pd___IIIJ_I rfl) [] rfl rfl at_220 rfl fun _ T113 L113 X113 hQ113 => ?_
            obtain ⟨rfl, rfl, e113⟩ := hQ113
            have N113 := Fr.app N112 (Fr.nil n0)
            refine own_stk (S' := [(.int (f4_2_3 (g0_13 p1 p2 p3 p4 q5 p6) (g0_3 p1 p2 p3 p4 q5 p6) (g0_4 p1 p2 p3 p4 q5 p6) (g0_5 p1 p2 p3 p4 q5 p6) (g0_6 p1 p2 p3 p4 q5 p6)))]) rfl ?_
            refine wiload OGc 225 X113 B at_223 rfl rfl ?_
            by_cases c114 : (f4_2_3 (g0_13 p1 p2 p3 p4 q5 p6) (g0_3 p1 p2 p3 p4 q5 p6) (g0_4 p1 p2 p3 p4 q5 p6) (g0_5 p1 p2 p3 p4 q5 p6) (g0_6 p1 p2 p3 p4 q5 p6)) = (g0_24 p1 p2 p3 p4 q5 p6)
            · refine wicmpNo OGc 228 X113 B at_225 (teq c114).2 rfl ?_
              refine wiconst OGc 229 X113 B at_228 1 rfl rfl ?_
              refine wgoto OGc 233 X113 B at_229 rfl ?_
              refine own_retZ X113 hx (t := .boolean) hret (by simp) hlk (hb hby at_233) (by decide) (by decide) (w := (1 : Int32)) rfl ?_
              exact ⟨congrArg (fun z => some (Value.int z)) (show f0 p1 p2 p3 p4 q5 p6 = (1 : Int32) from (by rw [f0, if_neg c35, if_neg c71, if_pos c100, if_neg c101, if_pos c108, if_pos c114])).symm, N113⟩
            · refine wicmpYes OGc 232 X113 B at_225 (feq c114).2 rfl ?_
              refine wiconst OGc 233 X113 B at_232 0 rfl rfl ?_
              refine own_retZ X113 hx (t := .boolean) hret (by simp) hlk (hb hby at_233) (by decide) (by decide) (w := (0 : Int32)) rfl ?_
              exact ⟨congrArg (fun z => some (Value.int z)) (show f0 p1 p2 p3 p4 q5 p6 = (0 : Int32) from (by rw [f0, if_neg c35, if_neg c71, if_pos c100, if_neg c101, if_pos c108, if_neg c114])).symm, N113⟩
          · skip
            by_cases c115 : (g0_8 p1 p2 p3 p4 q5 p6) = (4 : Int32)
            · rw [c115]
              show OG p e _ s below _ T23 (mkF m 158 #[.val (.int p1), .val (.int p2), .val (.int p3), .val (.int p4), .val (.long q5), .second, .val (.int p6), .val (.int (f1 p1 p2)), .val (.int (f2 p1 p2)), .val (.int (f1 p3 p4)), .val (.int (f2 p3 p4)), .val (.int (g0_1 p1 p2 p3 p4 q5 p6)), .val (.int (g0_2 p1 p2 p3 p4 q5 p6)), .val (.ref b7), .val (.int (2 : Int32)), .val (.int (4 : Int32)), .val (.long (g0_13 p1 p2 p3 p4 q5 p6)), .second, .unset] [(.int (2 : Int32))])
              refine waload OGc 160 X23 B at_158 rfl rfl rfl ?_
              refine wiconst OGc 161 X23 B at_160 0 rfl rfl ?_
              refine wiload OGc 163 X23 B at_161 rfl rfl ?_
              refine wiload OGc 165 X23 B at_163 rfl rfl ?_
              refine wlload OGc 167 X23 B at_165 rfl rfl ?_
              refine wstat OGc 170 X23 B hZ hown (ow hw 9 rfl) (ow hw 10 rfl) (ow hw 12 rfl) (ow hw 11 rfl) e23 (rm3_0 l Z a0 hw [] b7 (2 : Int32) (4 : Int32) (g0_13 p1 p2 p3 p4 q5 p6) (g0_3 p1 p2 p3 p4 q5 p6) (g0_4 p1 p2 p3 p4 q5 p6) (g0_5 p1 p2 p3 p4 q5 p6) (g0_6 p1 p2 p3 p4 q5 p6) h23 F25) 1 (by decide) (by decide) hml rfl (lenOf pd___IIIIJ_I rfl) [(.int (2 : Int32))] rfl rfl at_167 rfl fun _ T116 L116 X116 hQ116 => ?_
              obtain ⟨rfl, rfl, e116⟩ := hQ116
              have N116 := Fr.app N23 (Fr.nil n0)
              refine own_stk (S' := [(.int (f3_0 (2 : Int32) (4 : Int32) (g0_13 p1 p2 p3 p4 q5 p6) (g0_3 p1 p2 p3 p4 q5 p6) (g0_4 p1 p2 p3 p4 q5 p6) (g0_5 p1 p2 p3 p4 q5 p6) (g0_6 p1 p2 p3 p4 q5 p6))), (.int (2 : Int32))]) rfl ?_
              refine wiadd OGc 171 X116 B at_170 rfl ?_
              refine waload OGc 173 X116 B at_171 rfl rfl rfl ?_
              refine wiconst OGc 174 X116 B at_173 1 rfl rfl ?_
              refine wiload OGc 176 X116 B at_174 rfl rfl ?_
              refine wiload OGc 178 X116 B at_176 rfl rfl ?_
              refine wlload OGc 180 X116 B at_178 rfl rfl ?_
              refine wstat OGc 183 X116 B hZ hown (ow hw 9 rfl) (ow hw 10 rfl) (ow hw 12 rfl) (ow hw 11 rfl) e116 (rm3_1 l Z a0 hw [] b7 (2 : Int32) (4 : Int32) (g0_13 p1 p2 p3 p4 q5 p6) (g0_3 p1 p2 p3 p4 q5 p6) (g0_4 p1 p2 p3 p4 q5 p6) (g0_5 p1 p2 p3 p4 q5 p6) (g0_6 p1 p2 p3 p4 q5 p6) h23 F25) 1 (by decide) (by decide) hml rfl (lenOf pd___IIIIJ_I rfl) [(.int ((2 : Int32) + (f3_0 (2 : Int32) (4 : Int32) (g0_13 p1 p2 p3 p4 q5 p6) (g0_3 p1 p2 p3 p4 q5 p6) (g0_4 p1 p2 p3 p4 q5 p6) (g0_5 p1 p2 p3 p4 q5 p6) (g0_6 p1 p2 p3 p4 q5 p6))))] rfl rfl at_180 rfl fun _ T117 L117 X117 hQ117 => ?_
              obtain ⟨rfl, rfl, e117⟩ := hQ117
              have N117 := Fr.app N116 (Fr.nil n0)
              refine own_stk (S' := [(.int (f3_1 (2 : Int32) (4 : Int32) (g0_13 p1 p2 p3 p4 q5 p6) (g0_3 p1 p2 p3 p4 q5 p6) (g0_4 p1 p2 p3 p4 q5 p6) (g0_5 p1 p2 p3 p4 q5 p6) (g0_6 p1 p2 p3 p4 q5 p6))), (.int ((2 : Int32) + (f3_0 (2 : Int32) (4 : Int32) (g0_13 p1 p2 p3 p4 q5 p6) (g0_3 p1 p2 p3 p4 q5 p6) (g0_4 p1 p2 p3 p4 q5 p6) (g0_5 p1 p2 p3 p4 q5 p6) (g0_6 p1 p2 p3 p4 q5 p6))))]) rfl ?_
              refine wiadd OGc 184 X117 B at_183 rfl ?_
              refine waload OGc 186 X117 B at_184 rfl rfl rfl ?_
              refine wiconst OGc 187 X117 B at_186 2 rfl rfl ?_
              refine wiload OGc 189 X117 B at_187 rfl rfl ?_
              refine wiload OGc 191 X117 B at_189 rfl rfl ?_
              refine wlload OGc 193 X117 B at_191 rfl rfl ?_
              refine wstat OGc 196 X117 B hZ hown (ow hw 9 rfl) (ow hw 10 rfl) (ow hw 12 rfl) (ow hw 11 rfl) e117 (rm3_2 l Z a0 hw [] b7 (2 : Int32) (4 : Int32) (g0_13 p1 p2 p3 p4 q5 p6) (g0_3 p1 p2 p3 p4 q5 p6) (g0_4 p1 p2 p3 p4 q5 p6) (g0_5 p1 p2 p3 p4 q5 p6) (g0_6 p1 p2 p3 p4 q5 p6) h23 F25) 1 (by decide) (by decide) hml rfl (lenOf pd___IIIIJ_I rfl) [(.int (((2 : Int32) + (f3_0 (2 : Int32) (4 : Int32) (g0_13 p1 p2 p3 p4 q5 p6) (g0_3 p1 p2 p3 p4 q5 p6) (g0_4 p1 p2 p3 p4 q5 p6) (g0_5 p1 p2 p3 p4 q5 p6) (g0_6 p1 p2 p3 p4 q5 p6))) + (f3_1 (2 : Int32) (4 : Int32) (g0_13 p1 p2 p3 p4 q5 p6) (g0_3 p1 p2 p3 p4 q5 p6) (g0_4 p1 p2 p3 p4 q5 p6) (g0_5 p1 p2 p3 p4 q5 p6) (g0_6 p1 p2 p3 p4 q5 p6))))] rfl rfl at_193 rfl fun _ T118 L118 X118 hQ118 => ?_
              obtain ⟨rfl, rfl, e118⟩ := hQ118
              have N118 := Fr.app N117 (Fr.nil n0)
              refine own_stk (S' := [(.int (f3_2 (2 : Int32) (4 : Int32) (g0_13 p1 p2 p3 p4 q5 p6) (g0_3 p1 p2 p3 p4 q5 p6) (g0_4 p1 p2 p3 p4 q5 p6) (g0_5 p1 p2 p3 p4 q5 p6) (g0_6 p1 p2 p3 p4 q5 p6))), (.int (((2 : Int32) + (f3_0 (2 : Int32) (4 : Int32) (g0_13 p1 p2 p3 p4 q5 p6) (g0_3 p1 p2 p3 p4 q5 p6) (g0_4 p1 p2 p3 p4 q5 p6) (g0_5 p1 p2 p3 p4 q5 p6) (g0_6 p1 p2 p3 p4 q5 p6))) + (f3_1 (2 : Int32) (4 : Int32) (g0_13 p1 p2 p3 p4 q5 p6) (g0_3 p1 p2 p3 p4 q5 p6) (g0_4 p1 p2 p3 p4 q5 p6) (g0_5 p1 p2 p3 p4 q5 p6) (g0_6 p1 p2 p3 p4 q5 p6))))]) rfl ?_
              refine wiadd OGc 197 X118 B at_196 rfl ?_
              refine waload OGc 199 X118 B at_197 rfl rfl rfl ?_
              refine wiconst OGc 200 X118 B at_199 3 rfl rfl ?_
              refine wiload OGc 202 X118 B at_200 rfl rfl ?_
              refine wiload OGc 204 X118 B at_202 rfl rfl ?_
              refine wlload OGc 206 X118 B at_204 rfl rfl ?_
              refine wstat OGc 209 X118 B hZ hown (ow hw 9 rfl) (ow hw 10 rfl) (ow hw 12 rfl) (ow hw 11 rfl) e118 (rm3_3 l Z a0 hw [] b7 (2 : Int32) (4 : Int32) (g0_13 p1 p2 p3 p4 q5 p6) (g0_3 p1 p2 p3 p4 q5 p6) (g0_4 p1 p2 p3 p4 q5 p6) (g0_5 p1 p2 p3 p4 q5 p6) (g0_6 p1 p2 p3 p4 q5 p6) h23 F25) 1 (by decide) (by decide) hml rfl (lenOf pd___IIIIJ_I rfl) [(.int ((((2 : Int32) + (f3_0 (2 : Int32) (4 : Int32) (g0_13 p1 p2 p3 p4 q5 p6) (g0_3 p1 p2 p3 p4 q5 p6) (g0_4 p1 p2 p3 p4 q5 p6) (g0_5 p1 p2 p3 p4 q5 p6) (g0_6 p1 p2 p3 p4 q5 p6))) + (f3_1 (2 : Int32) (4 : Int32) (g0_13 p1 p2 p3 p4 q5 p6) (g0_3 p1 p2 p3 p4 q5 p6) (g0_4 p1 p2 p3 p4 q5 p6) (g0_5 p1 p2 p3 p4 q5 p6) (g0_6 p1 p2 p3 p4 q5 p6))) + (f3_2 (2 : Int32) (4 : Int32) (g0_13 p1 p2 p3 p4 q5 p6) (g0_3 p1 p2 p3 p4 q5 p6) (g0_4 p1 p2 p3 p4 q5 p6) (g0_5 p1 p2 p3 p4 q5 p6) (g0_6 p1 p2 p3 p4 q5 p6))))] rfl rfl at_206 rfl fun _ T119 L119 X119 hQ119 => ?_
              obtain ⟨rfl, rfl, e119⟩ := hQ119
              have N119 := Fr.app N118 (Fr.nil n0)
              refine own_stk (S' := [(.int (f3_3 (2 : Int32) (4 : Int32) (g0_13 p1 p2 p3 p4 q5 p6) (g0_3 p1 p2 p3 p4 q5 p6) (g0_4 p1 p2 p3 p4 q5 p6) (g0_5 p1 p2 p3 p4 q5 p6) (g0_6 p1 p2 p3 p4 q5 p6))), (.int ((((2 : Int32) + (f3_0 (2 : Int32) (4 : Int32) (g0_13 p1 p2 p3 p4 q5 p6) (g0_3 p1 p2 p3 p4 q5 p6) (g0_4 p1 p2 p3 p4 q5 p6) (g0_5 p1 p2 p3 p4 q5 p6) (g0_6 p1 p2 p3 p4 q5 p6))) + (f3_1 (2 : Int32) (4 : Int32) (g0_13 p1 p2 p3 p4 q5 p6) (g0_3 p1 p2 p3 p4 q5 p6) (g0_4 p1 p2 p3 p4 q5 p6) (g0_5 p1 p2 p3 p4 q5 p6) (g0_6 p1 p2 p3 p4 q5 p6))) + (f3_2 (2 : Int32) (4 : Int32) (g0_13 p1 p2 p3 p4 q5 p6) (g0_3 p1 p2 p3 p4 q5 p6) (g0_4 p1 p2 p3 p4 q5 p6) (g0_5 p1 p2 p3 p4 q5 p6) (g0_6 p1 p2 p3 p4 q5 p6))))]) rfl ?_
              refine wiadd OGc 210 X119 B at_209 rfl ?_
              refine wistore OGc 212 X119 B at_210 #[.val (.int p1), .val (.int p2), .val (.int p3), .val (.int p4), .val (.long q5), .second, .val (.int p6), .val (.int (f1 p1 p2)), .val (.int (f2 p1 p2)), .val (.int (f1 p3 p4)), .val (.int (f2 p3 p4)), .val (.int (g0_1 p1 p2 p3 p4 q5 p6)), .val (.int (g0_2 p1 p2 p3 p4 q5 p6)), .val (.ref b7), .val (.int (2 : Int32)), .val (.int (4 : Int32)), .val (.long (g0_13 p1 p2 p3 p4 q5 p6)), .second, .val (.int (g0_25 p1 p2 p3 p4 q5 p6))] rfl rfl ?_
              refine waload OGc 214 X119 B at_212 rfl rfl rfl ?_
              refine wiload OGc 216 X119 B at_214 rfl rfl ?_
              refine wiload OGc 218 X119 B at_216 rfl rfl ?_
              refine wlload OGc 220 X119 B at_218 rfl rfl ?_
              refine wstat OGc 223 X119 B hZ hown (ow hw 13 rfl) (ow hw 14 rfl) (ow hw 16 rfl) (ow hw 15 rfl) e119 (rm4_2_4 l Z a0 hw [] b7 (g0_13 p1 p2 p3 p4 q5 p6) (g0_3 p1 p2 p3 p4 q5 p6) (g0_4 p1 p2 p3 p4 q5 p6) (g0_5 p1 p2 p3 p4 q5 p6) (g0_6 p1 p2 p3 p4 q5 p6) h23 F25) 0 (by decide) (by decide) hml rfl (lenOf pd___IIIJ_I rfl) [] rfl rfl at_220 rfl fun _ T120 L120 X120 hQ120 => ?_
              obtain ⟨rfl, rfl, e120⟩ := hQ120
              have N120 := Fr.app N119 (Fr.nil n0)
              refine own_stk (S' := [(.int (f4_2_4 (g0_13 p1 p2 p3 p4 q5 p6) (g0_3 p1 p2 p3 p4 q5 p6) (g0_4 p1 p2 p3 p4 q5 p6) (g0_5 p1 p2 p3 p4 q5 p6) (g0_6 p1 p2 p3 p4 q5 p6)))]) rfl ?_
              refine wiload OGc 225 X120 B at_223 rfl rfl ?_
              by_cases c121 : (f4_2_4 (g0_13 p1 p2 p3 p4 q5 p6) (g0_3 p1 p2 p3 p4 q5 p6) (g0_4 p1 p2 p3 p4 q5 p6) (g0_5 p1 p2 p3 p4 q5 p6) (g0_6 p1 p2 p3 p4 q5 p6)) = (g0_25 p1 p2 p3 p4 q5 p6)
              · refine wicmpNo OGc 228 X120 B at_225 (teq c121).2 rfl ?_
                refine wiconst OGc 229 X120 B at_228 1 rfl rfl ?_
                refine wgoto OGc 233 X120 B at_229 rfl ?_
                refine own_retZ X120 hx (t := .boolean) hret (by simp) hlk (hb hby at_233) (by decide) (by decide) (w := (1 : Int32)) rfl ?_
                exact ⟨congrArg (fun z => some (Value.int z)) (show f0 p1 p2 p3 p4 q5 p6 = (1 : Int32) from (by rw [f0, if_neg c35, if_neg c71, if_pos c100, if_neg c101, if_neg c108, if_pos c115, if_pos c121])).symm, N120⟩
              · refine wicmpYes OGc 232 X120 B at_225 (feq c121).2 rfl ?_
                refine wiconst OGc 233 X120 B at_232 0 rfl rfl ?_
                refine own_retZ X120 hx (t := .boolean) hret (by simp) hlk (hb hby at_233) (by decide) (by decide) (w := (0 : Int32)) rfl ?_
                exact ⟨congrArg (fun z => some (Value.int z)) (show f0 p1 p2 p3 p4 q5 p6 = (0 : Int32) from (by rw [f0, if_neg c35, if_neg c71, if_pos c100, if_neg c101, if_neg c108, if_pos c115, if_neg c121])).symm, N120⟩
            · skip
              exact (own_rt2 p1 p2 p3 p4 q5 p6 c100 c101 c108 c115).elim
      · skip
        by_cases c122 : (g0_7 p1 p2 p3 p4 q5 p6) = (3 : Int32)
        · rw [c122]
          show OG p e _ s below _ T23 (mkF m 156 #[.val (.int p1), .val (.int p2), .val (.int p3), .val (.int p4), .val (.long q5), .second, .val (.int p6), .val (.int (f1 p1 p2)), .val (.int (f2 p1 p2)), .val (.int (f1 p3 p4)), .val (.int (f2 p3 p4)), .val (.int (g0_1 p1 p2 p3 p4 q5 p6)), .val (.int (g0_2 p1 p2 p3 p4 q5 p6)), .val (.ref b7), .val (.int (3 : Int32)), .val (.int (g0_8 p1 p2 p3 p4 q5 p6)), .val (.long (g0_13 p1 p2 p3 p4 q5 p6)), .second, .unset] [])
          refine wiload OGc 158 X23 B at_156 rfl rfl ?_
          by_cases c123 : (g0_8 p1 p2 p3 p4 q5 p6) = (3 : Int32)
          · rw [c123]
            show OG p e _ s below _ T23 (mkF m 158 #[.val (.int p1), .val (.int p2), .val (.int p3), .val (.int p4), .val (.long q5), .second, .val (.int p6), .val (.int (f1 p1 p2)), .val (.int (f2 p1 p2)), .val (.int (f1 p3 p4)), .val (.int (f2 p3 p4)), .val (.int (g0_1 p1 p2 p3 p4 q5 p6)), .val (.int (g0_2 p1 p2 p3 p4 q5 p6)), .val (.ref b7), .val (.int (3 : Int32)), .val (.int (3 : Int32)), .val (.long (g0_13 p1 p2 p3 p4 q5 p6)), .second, .unset] [(.int (3 : Int32))])
            refine waload OGc 160 X23 B at_158 rfl rfl rfl ?_
            refine wiconst OGc 161 X23 B at_160 0 rfl rfl ?_
            refine wiload OGc 163 X23 B at_161 rfl rfl ?_
            refine wiload OGc 165 X23 B at_163 rfl rfl ?_
            refine wlload OGc 167 X23 B at_165 rfl rfl ?_
            refine wstat OGc 170 X23 B hZ hown (ow hw 9 rfl) (ow hw 10 rfl) (ow hw 12 rfl) (ow hw 11 rfl) e23 (rm3_0 l Z a0 hw [] b7 (3 : Int32) (3 : Int32) (g0_13 p1 p2 p3 p4 q5 p6) (g0_3 p1 p2 p3 p4 q5 p6) (g0_4 p1 p2 p3 p4 q5 p6) (g0_5 p1 p2 p3 p4 q5 p6) (g0_6 p1 p2 p3 p4 q5 p6) h23 F25) 1 (by decide) (by decide) hml rfl (lenOf pd___IIIIJ_I rfl) [(.int (3 : Int32))] rfl rfl at_167 rfl fun _ T124 L124 X124 hQ124 => ?_
            obtain ⟨rfl, rfl, e124⟩ := hQ124
            have N124 := Fr.app N23 (Fr.nil n0)
            refine own_stk (S' := [(.int (f3_0 (3 : Int32) (3 : Int32) (g0_13 p1 p2 p3 p4 q5 p6) (g0_3 p1 p2 p3 p4 q5 p6) (g0_4 p1 p2 p3 p4 q5 p6) (g0_5 p1 p2 p3 p4 q5 p6) (g0_6 p1 p2 p3 p4 q5 p6))), (.int (3 : Int32))]) rfl ?_
            refine wiadd OGc 171 X124 B at_170 rfl ?_
            refine waload OGc 173 X124 B at_171 rfl rfl rfl ?_
            refine wiconst OGc 174 X124 B at_173 1 rfl rfl ?_
            refine wiload OGc 176 X124 B at_174 rfl rfl ?_
            refine wiload OGc 178 X124 B at_176 rfl rfl ?_
            refine wlload OGc 180 X124 B at_178 rfl rfl ?_
            refine wstat OGc 183 X124 B hZ hown (ow hw 9 rfl) (ow hw 10 rfl) (ow hw 12 rfl) (ow hw 11 rfl) e124 (rm3_1 l Z a0 hw [] b7 (3 : Int32) (3 : Int32) (g0_13 p1 p2 p3 p4 q5 p6) (g0_3 p1 p2 p3 p4 q5 p6) (g0_4 p1 p2 p3 p4 q5 p6) (g0_5 p1 p2 p3 p4 q5 p6) (g0_6 p1 p2 p3 p4 q5 p6) h23 F25) 1 (by decide) (by decide) hml rfl (lenOf pd___IIIIJ_I rfl) [(.int ((3 : Int32) + (f3_0 (3 : Int32) (3 : Int32) (g0_13 p1 p2 p3 p4 q5 p6) (g0_3 p1 p2 p3 p4 q5 p6) (g0_4 p1 p2 p3 p4 q5 p6) (g0_5 p1 p2 p3 p4 q5 p6) (g0_6 p1 p2 p3 p4 q5 p6))))] rfl rfl at_180 rfl fun _ T125 L125 X125 hQ125 => ?_
            obtain ⟨rfl, rfl, e125⟩ := hQ125
            have N125 := Fr.app N124 (Fr.nil n0)
            refine own_stk (S' := [(.int (f3_1 (3 : Int32) (3 : Int32) (g0_13 p1 p2 p3 p4 q5 p6) (g0_3 p1 p2 p3 p4 q5 p6) (g0_4 p1 p2 p3 p4 q5 p6) (g0_5 p1 p2 p3 p4 q5 p6) (g0_6 p1 p2 p3 p4 q5 p6))), (.int ((3 : Int32) + (f3_0 (3 : Int32) (3 : Int32) (g0_13 p1 p2 p3 p4 q5 p6) (g0_3 p1 p2 p3 p4 q5 p6) (g0_4 p1 p2 p3 p4 q5 p6) (g0_5 p1 p2 p3 p4 q5 p6) (g0_6 p1 p2 p3 p4 q5 p6))))]) rfl ?_
            refine wiadd OGc 184 X125 B at_183 rfl ?_
            refine waload OGc 186 X125 B at_184 rfl rfl rfl ?_
            refine wiconst OGc 187 X125 B at_186 2 rfl rfl ?_
            refine wiload OGc 189 X125 B at_187 rfl rfl ?_
            refine wiload OGc 191 X125 B at_189 rfl rfl ?_
            refine wlload OGc 193 X125 B at_191 rfl rfl ?_
            refine wstat OGc 196 X125 B hZ hown (ow hw 9 rfl) (ow hw 10 rfl) (ow hw 12 rfl) (ow hw 11 rfl) e125 (rm3_2 l Z a0 hw [] b7 (3 : Int32) (3 : Int32) (g0_13 p1 p2 p3 p4 q5 p6) (g0_3 p1 p2 p3 p4 q5 p6) (g0_4 p1 p2 p3 p4 q5 p6) (g0_5 p1 p2 p3 p4 q5 p6) (g0_6 p1 p2 p3 p4 q5 p6) h23 F25) 1 (by decide) (by decide) hml rfl (lenOf pd___IIIIJ_I rfl) [(.int (((3 : Int32) + (f3_0 (3 : Int32) (3 : Int32) (g0_13 p1 p2 p3 p4 q5 p6) (g0_3 p1 p2 p3 p4 q5 p6) (g0_4 p1 p2 p3 p4 q5 p6) (g0_5 p1 p2 p3 p4 q5 p6) (g0_6 p1 p2 p3 p4 q5 p6))) + (f3_1 (3 : Int32) (3 : Int32) (g0_13 p1 p2 p3 p4 q5 p6) (g0_3 p1 p2 p3 p4 q5 p6) (g0_4 p1 p2 p3 p4 q5 p6) (g0_5 p1 p2 p3 p4 q5 p6) (g0_6 p1 p2 p3 p4 q5 p6))))] rfl rfl at_193 rfl fun _ T126 L126 X126 hQ126 => ?_
            obtain ⟨rfl, rfl, e126⟩ := hQ126
            have N126 := Fr.app N125 (Fr.nil n0)
            refine own_stk (S' := [(.int (f3_2 (3 : Int32) (3 : Int32) (g0_13 p1 p2 p3 p4 q5 p6) (g0_3 p1 p2 p3 p4 q5 p6) (g0_4 p1 p2 p3 p4 q5 p6) (g0_5 p1 p2 p3 p4 q5 p6) (g0_6 p1 p2 p3 p4 q5 p6))), (.int (((3 : Int32) + (f3_0 (3 : Int32) (3 : Int32) (g0_13 p1 p2 p3 p4 q5 p6) (g0_3 p1 p2 p3 p4 q5 p6) (g0_4 p1 p2 p3 p4 q5 p6) (g0_5 p1 p2 p3 p4 q5 p6) (g0_6 p1 p2 p3 p4 q5 p6))) + (f3_1 (3 : Int32) (3 : Int32) (g0_13 p1 p2 p3 p4 q5 p6) (g0_3 p1 p2 p3 p4 q5 p6) (g0_4 p1 p2 p3 p4 q5 p6) (g0_5 p1 p2 p3 p4 q5 p6) (g0_6 p1 p2 p3 p4 q5 p6))))]) rfl ?_
            refine wiadd OGc 197 X126 B at_196 rfl ?_
            refine waload OGc 199 X126 B at_197 rfl rfl rfl ?_
            refine wiconst OGc 200 X126 B at_199 3 rfl rfl ?_
            refine wiload OGc 202 X126 B at_200 rfl rfl ?_
            refine wiload OGc 204 X126 B at_202 rfl rfl ?_
            refine wlload OGc 206 X126 B at_204 rfl rfl ?_
            refine wstat OGc 209 X126 B hZ hown (ow hw 9 rfl) (ow hw 10 rfl) (ow hw 12 rfl) (ow hw 11 rfl) e126 (rm3_3 l Z a0 hw [] b7 (3 : Int32) (3 : Int32) (g0_13 p1 p2 p3 p4 q5 p6) (g0_3 p1 p2 p3 p4 q5 p6) (g0_4 p1 p2 p3 p4 q5 p6) (g0_5 p1 p2 p3 p4 q5 p6) (g0_6 p1 p2 p3 p4 q5 p6) h23 F25) 1 (by decide) (by decide) hml rfl (lenOf pd___IIIIJ_I rfl) [(.int ((((3 : Int32) + (f3_0 (3 : Int32) (3 : Int32) (g0_13 p1 p2 p3 p4 q5 p6) (g0_3 p1 p2 p3 p4 q5 p6) (g0_4 p1 p2 p3 p4 q5 p6) (g0_5 p1 p2 p3 p4 q5 p6) (g0_6 p1 p2 p3 p4 q5 p6))) + (f3_1 (3 : Int32) (3 : Int32) (g0_13 p1 p2 p3 p4 q5 p6) (g0_3 p1 p2 p3 p4 q5 p6) (g0_4 p1 p2 p3 p4 q5 p6) (g0_5 p1 p2 p3 p4 q5 p6) (g0_6 p1 p2 p3 p4 q5 p6))) + (f3_2 (3 : Int32) (3 : Int32) (g0_13 p1 p2 p3 p4 q5 p6) (g0_3 p1 p2 p3 p4 q5 p6) (g0_4 p1 p2 p3 p4 q5 p6) (g0_5 p1 p2 p3 p4 q5 p6) (g0_6 p1 p2 p3 p4 q5 p6))))] rfl rfl at_206 rfl fun _ T127 L127 X127 hQ127 => ?_
            obtain ⟨rfl, rfl, e127⟩ := hQ127
            have N127 := Fr.app N126 (Fr.nil n0)
            refine own_stk (S' := [(.int (f3_3 (3 : Int32) (3 : Int32) (g0_13 p1 p2 p3 p4 q5 p6) (g0_3 p1 p2 p3 p4 q5 p6) (g0_4 p1 p2 p3 p4 q5 p6) (g0_5 p1 p2 p3 p4 q5 p6) (g0_6 p1 p2 p3 p4 q5 p6))), (.int ((((3 : Int32) + (f3_0 (3 : Int32) (3 : Int32) (g0_13 p1 p2 p3 p4 q5 p6) (g0_3 p1 p2 p3 p4 q5 p6) (g0_4 p1 p2 p3 p4 q5 p6) (g0_5 p1 p2 p3 p4 q5 p6) (g0_6 p1 p2 p3 p4 q5 p6))) + (f3_1 (3 : Int32) (3 : Int32) (g0_13 p1 p2 p3 p4 q5 p6) (g0_3 p1 p2 p3 p4 q5 p6) (g0_4 p1 p2 p3 p4 q5 p6) (g0_5 p1 p2 p3 p4 q5 p6) (g0_6 p1 p2 p3 p4 q5 p6))) + (f3_2 (3 : Int32) (3 : Int32) (g0_13 p1 p2 p3 p4 q5 p6) (g0_3 p1 p2 p3 p4 q5 p6) (g0_4 p1 p2 p3 p4 q5 p6) (g0_5 p1 p2 p3 p4 q5 p6) (g0_6 p1 p2 p3 p4 q5 p6))))]) rfl ?_
            refine wiadd OGc 210 X127 B at_209 rfl ?_
            refine wistore OGc 212 X127 B at_210 #[.val (.int p1), .val (.int p2), .val (.int p3), .val (.int p4), .val (.long q5), .second, .val (.int p6), .val (.int (f1 p1 p2)), .val (.int (f2 p1 p2)), .val (.int (f1 p3 p4)), .val (.int (f2 p3 p4)), .val (.int (g0_1 p1 p2 p3 p4 q5 p6)), .val (.int (g0_2 p1 p2 p3 p4 q5 p6)), .val (.ref b7), .val (.int (3 : Int32)), .val (.int (3 : Int32)), .val (.long (g0_13 p1 p2 p3 p4 q5 p6)), .second, .val (.int (g0_26 p1 p2 p3 p4 q5 p6))] rfl rfl ?_
            refine waload OGc 214 X127 B at_212 rfl rfl rfl ?_
            refine wiload OGc 216 X127 B at_214 rfl rfl ?_
            refine wiload OGc 218 X127 B at_216 rfl rfl ?_
            refine wlload OGc 220 X127 B at_218 rfl rfl ?_
            refine wstat OGc 223 X127 B hZ hown (ow hw 13 rfl) (ow hw 14 rfl) (ow hw 16 rfl) (ow hw 15 rfl) e127 (rm4_3_3 l Z a0 hw [] b7 (g0_13 p1 p2 p3 p4 q5 p6) (g0_3 p1 p2 p3 p4 q5 p6) (g0_4 p1 p2 p3 p4 q5 p6) (g0_5 p1 p2 p3 p4 q5 p6) (g0_6 p1 p2 p3 p4 q5 p6) h23 F25) 0 (by decide) (by decide) hml rfl (lenOf pd___IIIJ_I rfl) [] rfl rfl at_220 rfl fun _ T128 L128 X128 hQ128 => ?_
            obtain ⟨rfl, rfl, e128⟩ := hQ128
            have N128 := Fr.app N127 (Fr.nil n0)
            refine own_stk (S' := [(.int (f4_3_3 (g0_13 p1 p2 p3 p4 q5 p6) (g0_3 p1 p2 p3 p4 q5 p6) (g0_4 p1 p2 p3 p4 q5 p6) (g0_5 p1 p2 p3 p4 q5 p6) (g0_6 p1 p2 p3 p4 q5 p6)))]) rfl ?_
            refine wiload OGc 225 X128 B at_223 rfl rfl ?_
            by_cases c129 : (f4_3_3 (g0_13 p1 p2 p3 p4 q5 p6) (g0_3 p1 p2 p3 p4 q5 p6) (g0_4 p1 p2 p3 p4 q5 p6) (g0_5 p1 p2 p3 p4 q5 p6) (g0_6 p1 p2 p3 p4 q5 p6)) = (g0_26 p1 p2 p3 p4 q5 p6)
            · refine wicmpNo OGc 228 X128 B at_225 (teq c129).2 rfl ?_
              refine wiconst OGc 229 X128 B at_228 1 rfl rfl ?_
              refine wgoto OGc 233 X128 B at_229 rfl ?_
              refine own_retZ X128 hx (t := .boolean) hret (by simp) hlk (hb hby at_233) (by decide) (by decide) (w := (1 : Int32)) rfl ?_
              exact ⟨congrArg (fun z => some (Value.int z)) (show f0 p1 p2 p3 p4 q5 p6 = (1 : Int32) from (by rw [f0, if_neg c35, if_neg c71, if_neg c100, if_pos c122, if_pos c123, if_pos c129])).symm, N128⟩
            · refine wicmpYes OGc 232 X128 B at_225 (feq c129).2 rfl ?_
              refine wiconst OGc 233 X128 B at_232 0 rfl rfl ?_
              refine own_retZ X128 hx (t := .boolean) hret (by simp) hlk (hb hby at_233) (by decide) (by decide) (w := (0 : Int32)) rfl ?_
              exact ⟨congrArg (fun z => some (Value.int z)) (show f0 p1 p2 p3 p4 q5 p6 = (0 : Int32) from (by rw [f0, if_neg c35, if_neg c71, if_neg c100, if_pos c122, if_pos c123, if_neg c129])).symm, N128⟩
          · skip
            by_cases c130 : (g0_8 p1 p2 p3 p4 q5 p6) = (4 : Int32)
            · rw [c130]
              show OG p e _ s below _ T23 (mkF m 158 #[.val (.int p1), .val (.int p2), .val (.int p3), .val (.int p4), .val (.long q5), .second, .val (.int p6), .val (.int (f1 p1 p2)), .val (.int (f2 p1 p2)), .val (.int (f1 p3 p4)), .val (.int (f2 p3 p4)), .val (.int (g0_1 p1 p2 p3 p4 q5 p6)), .val (.int (g0_2 p1 p2 p3 p4 q5 p6)), .val (.ref b7), .val (.int (3 : Int32)), .val (.int (4 : Int32)), .val (.long (g0_13 p1 p2 p3 p4 q5 p6)), .second, .unset] [(.int (3 : Int32))])
              refine waload OGc 160 X23 B at_158 rfl rfl rfl ?_
              refine wiconst OGc 161 X23 B at_160 0 rfl rfl ?_
              refine wiload OGc 163 X23 B at_161 rfl rfl ?_
              refine wiload OGc 165 X23 B at_163 rfl rfl ?_
              refine wlload OGc 167 X23 B at_165 rfl rfl ?_
              refine wstat OGc 170 X23 B hZ hown (ow hw 9 rfl) (ow hw 10 rfl) (ow hw 12 rfl) (ow hw 11 rfl) e23 (rm3_0 l Z a0 hw [] b7 (3 : Int32) (4 : Int32) (g0_13 p1 p2 p3 p4 q5 p6) (g0_3 p1 p2 p3 p4 q5 p6) (g0_4 p1 p2 p3 p4 q5 p6) (g0_5 p1 p2 p3 p4 q5 p6) (g0_6 p1 p2 p3 p4 q5 p6) h23 F25) 1 (by decide) (by decide) hml rfl (lenOf pd___IIIIJ_I rfl) [(.int (3 : Int32))] rfl rfl at_167 rfl fun _ T131 L131 X131 hQ131 => ?_
              obtain ⟨rfl, rfl, e131⟩ := hQ131
              have N131 := Fr.app N23 (Fr.nil n0)
              refine own_stk (S' := [(.int (f3_0 (3 : Int32) (4 : Int32) (g0_13 p1 p2 p3 p4 q5 p6) (g0_3 p1 p2 p3 p4 q5 p6) (g0_4 p1 p2 p3 p4 q5 p6) (g0_5 p1 p2 p3 p4 q5 p6) (g0_6 p1 p2 p3 p4 q5 p6))), (.int (3 : Int32))]) rfl ?_
              refine wiadd OGc 171 X131 B at_170 rfl ?_
              refine waload OGc 173 X131 B at_171 rfl rfl rfl ?_
              refine wiconst OGc 174 X131 B at_173 1 rfl rfl ?_
              refine wiload OGc 176 X131 B at_174 rfl rfl ?_
              refine wiload OGc 178 X131 B at_176 rfl rfl ?_
              refine wlload OGc 180 X131 B at_178 rfl rfl ?_
              refine wstat OGc 183 X131 B hZ hown (ow hw 9 rfl) (ow hw 10 rfl) (ow hw 12 rfl) (ow hw 11 rfl) e131 (rm3_1 l Z a0 hw [] b7 (3 : Int32) (4 : Int32) (g0_13 p1 p2 p3 p4 q5 p6) (g0_3 p1 p2 p3 p4 q5 p6) (g0_4 p1 p2 p3 p4 q5 p6) (g0_5 p1 p2 p3 p4 q5 p6) (g0_6 p1 p2 p3 p4 q5 p6) h23 F25) 1 (by decide) (by decide) hml rfl (lenOf pd___IIIIJ_I rfl) [(.int ((3 : Int32) + (f3_0 (3 : Int32) (4 : Int32) (g0_13 p1 p2 p3 p4 q5 p6) (g0_3 p1 p2 p3 p4 q5 p6) (g0_4 p1 p2 p3 p4 q5 p6) (g0_5 p1 p2 p3 p4 q5 p6) (g0_6 p1 p2 p3 p4 q5 p6))))] rfl rfl at_180 rfl fun _ T132 L132 X132 hQ132 => ?_
              obtain ⟨rfl, rfl, e132⟩ := hQ132
              have N132 := Fr.app N131 (Fr.nil n0)
              refine own_stk (S' := [(.int (f3_1 (3 : Int32) (4 : Int32) (g0_13 p1 p2 p3 p4 q5 p6) (g0_3 p1 p2 p3 p4 q5 p6) (g0_4 p1 p2 p3 p4 q5 p6) (g0_5 p1 p2 p3 p4 q5 p6) (g0_6 p1 p2 p3 p4 q5 p6))), (.int ((3 : Int32) + (f3_0 (3 : Int32) (4 : Int32) (g0_13 p1 p2 p3 p4 q5 p6) (g0_3 p1 p2 p3 p4 q5 p6) (g0_4 p1 p2 p3 p4 q5 p6) (g0_5 p1 p2 p3 p4 q5 p6) (g0_6 p1 p2 p3 p4 q5 p6))))]) rfl ?_
              refine wiadd OGc 184 X132 B at_183 rfl ?_
              refine waload OGc 186 X132 B at_184 rfl rfl rfl ?_
              refine wiconst OGc 187 X132 B at_186 2 rfl rfl ?_
              refine wiload OGc 189 X132 B at_187 rfl rfl ?_
              refine wiload OGc 191 X132 B at_189 rfl rfl ?_
              refine wlload OGc 193 X132 B at_191 rfl rfl ?_
              refine wstat OGc 196 X132 B hZ hown (ow hw 9 rfl) (ow hw 10 rfl) (ow hw 12 rfl) (ow hw 11 rfl) e132 (rm3_2 l Z a0 hw [] b7 (3 : Int32) (4 : Int32) (g0_13 p1 p2 p3 p4 q5 p6) (g0_3 p1 p2 p3 p4 q5 p6) (g0_4 p1 p2 p3 p4 q5 p6) (g0_5 p1 p2 p3 p4 q5 p6) (g0_6 p1 p2 p3 p4 q5 p6) h23 F25) 1 (by decide) (by decide) hml rfl (lenOf pd___IIIIJ_I rfl) [(.int (((3 : Int32) + (f3_0 (3 : Int32) (4 : Int32) (g0_13 p1 p2 p3 p4 q5 p6) (g0_3 p1 p2 p3 p4 q5 p6) (g0_4 p1 p2 p3 p4 q5 p6) (g0_5 p1 p2 p3 p4 q5 p6) (g0_6 p1 p2 p3 p4 q5 p6))) + (f3_1 (3 : Int32) (4 : Int32) (g0_13 p1 p2 p3 p4 q5 p6) (g0_3 p1 p2 p3 p4 q5 p6) (g0_4 p1 p2 p3 p4 q5 p6) (g0_5 p1 p2 p3 p4 q5 p6) (g0_6 p1 p2 p3 p4 q5 p6))))] rfl rfl at_193 rfl fun _ T133 L133 X133 hQ133 => ?_
              obtain ⟨rfl, rfl, e133⟩ := hQ133
              have N133 := Fr.app N132 (Fr.nil n0)
              refine own_stk (S' := [(.int (f3_2 (3 : Int32) (4 : Int32) (g0_13 p1 p2 p3 p4 q5 p6) (g0_3 p1 p2 p3 p4 q5 p6) (g0_4 p1 p2 p3 p4 q5 p6) (g0_5 p1 p2 p3 p4 q5 p6) (g0_6 p1 p2 p3 p4 q5 p6))), (.int (((3 : Int32) + (f3_0 (3 : Int32) (4 : Int32) (g0_13 p1 p2 p3 p4 q5 p6) (g0_3 p1 p2 p3 p4 q5 p6) (g0_4 p1 p2 p3 p4 q5 p6) (g0_5 p1 p2 p3 p4 q5 p6) (g0_6 p1 p2 p3 p4 q5 p6))) + (f3_1 (3 : Int32) (4 : Int32) (g0_13 p1 p2 p3 p4 q5 p6) (g0_3 p1 p2 p3 p4 q5 p6) (g0_4 p1 p2 p3 p4 q5 p6) (g0_5 p1 p2 p3 p4 q5 p6) (g0_6 p1 p2 p3 p4 q5 p6))))]) rfl ?_
              refine wiadd OGc 197 X133 B at_196 rfl ?_
              refine waload OGc 199 X133 B at_197 rfl rfl rfl ?_
              refine wiconst OGc 200 X133 B at_199 3 rfl rfl ?_
              refine wiload OGc 202 X133 B at_200 rfl rfl ?_
              refine wiload OGc 204 X133 B at_202 rfl rfl ?_
              refine wlload OGc 206 X133 B at_204 rfl rfl ?_
              refine wstat OGc 209 X133 B hZ hown (ow hw 9 rfl) (ow hw 10 rfl) (ow hw 12 rfl) (ow hw 11 rfl) e133 (rm3_3 l Z a0 hw [] b7 (3 : Int32) (4 : Int32) (g0_13 p1 p2 p3 p4 q5 p6) (g0_3 p1 p2 p3 p4 q5 p6) (g0_4 p1 p2 p3 p4 q5 p6) (g0_5 p1 p2 p3 p4 q5 p6) (g0_6 p1 p2 p3 p4 q5 p6) h23 F25) 1 (by decide) (by decide) hml rfl (lenOf pd___IIIIJ_I rfl) [(.int ((((3 : Int32) + (f3_0 (3 : Int32) (4 : Int32) (g0_13 p1 p2 p3 p4 q5 p6) (g0_3 p1 p2 p3 p4 q5 p6) (g0_4 p1 p2 p3 p4 q5 p6) (g0_5 p1 p2 p3 p4 q5 p6) (g0_6 p1 p2 p3 p4 q5 p6))) + (f3_1 (3 : Int32) (4 : Int32) (g0_13 p1 p2 p3 p4 q5 p6) (g0_3 p1 p2 p3 p4 q5 p6) (g0_4 p1 p2 p3 p4 q5 p6) (g0_5 p1 p2 p3 p4 q5 p6) (g0_6 p1 p2 p3 p4 q5 p6))) + (f3_2 (3 : Int32) (4 : Int32) (g0_13 p1 p2 p3 p4 q5 p6) (g0_3 p1 p2 p3 p4 q5 p6) (g0_4 p1 p2 p3 p4 q5 p6) (g0_5 p1 p2 p3 p4 q5 p6) (g0_6 p1 p2 p3 p4 q5 p6))))] rfl rfl at_206 rfl fun _ T134 L134 X134 hQ134 => ?_
              obtain ⟨rfl, rfl, e134⟩ := hQ134
              have N134 := Fr.app N133 (Fr.nil n0)
              refine own_stk (S' := [(.int (f3_3 (3 : Int32) (4 : Int32) (g0_13 p1 p2 p3 p4 q5 p6) (g0_3 p1 p2 p3 p4 q5 p6) (g0_4 p1 p2 p3 p4 q5 p6) (g0_5 p1 p2 p3 p4 q5 p6) (g0_6 p1 p2 p3 p4 q5 p6))), (.int ((((3 : Int32) + (f3_0 (3 : Int32) (4 : Int32) (g0_13 p1 p2 p3 p4 q5 p6) (g0_3 p1 p2 p3 p4 q5 p6) (g0_4 p1 p2 p3 p4 q5 p6) (g0_5 p1 p2 p3 p4 q5 p6) (g0_6 p1 p2 p3 p4 q5 p6))) + (f3_1 (3 : Int32) (4 : Int32) (g0_13 p1 p2 p3 p4 q5 p6) (g0_3 p1 p2 p3 p4 q5 p6) (g0_4 p1 p2 p3 p4 q5 p6) (g0_5 p1 p2 p3 p4 q5 p6) (g0_6 p1 p2 p3 p4 q5 p6))) + (f3_2 (3 : Int32) (4 : Int32) (g0_13 p1 p2 p3 p4 q5 p6) (g0_3 p1 p2 p3 p4 q5 p6) (g0_4 p1 p2 p3 p4 q5 p6) (g0_5 p1 p2 p3 p4 q5 p6) (g0_6 p1 p2 p3 p4 q5 p6))))]) rfl ?_
              refine wiadd OGc 210 X134 B at_209 rfl ?_
              refine wistore OGc 212 X134 B at_210 #[.val (.int p1), .val (.int p2), .val (.int p3), .val (.int p4), .val (.long q5), .second, .val (.int p6), .val (.int (f1 p1 p2)), .val (.int (f2 p1 p2)), .val (.int (f1 p3 p4)), .val (.int (f2 p3 p4)), .val (.int (g0_1 p1 p2 p3 p4 q5 p6)), .val (.int (g0_2 p1 p2 p3 p4 q5 p6)), .val (.ref b7), .val (.int (3 : Int32)), .val (.int (4 : Int32)), .val (.long (g0_13 p1 p2 p3 p4 q5 p6)), .second, .val (.int (g0_27 p1 p2 p3 p4 q5 p6))] rfl rfl ?_
              refine waload OGc 214 X134 B at_212 rfl rfl rfl ?_
              refine wiload OGc 216 X134 B at_214 rfl rfl ?_
              refine wiload OGc 218 X134 B at_216 rfl rfl ?_
              refine wlload OGc 220 X134 B at_218 rfl rfl ?_
              refine wstat OGc 223 X134 B hZ hown (ow hw 13 rfl) (ow hw 14 rfl) (ow hw 16 rfl) (ow hw 15 rfl) e134 (rm4_3_4 l Z a0 hw [] b7 (g0_13 p1 p2 p3 p4 q5 p6) (g0_3 p1 p2 p3 p4 q5 p6) (g0_4 p1 p2 p3 p4 q5 p6) (g0_5 p1 p2 p3 p4 q5 p6) (g0_6 p1 p2 p3 p4 q5 p6) h23 F25) 0 (by decide) (by decide) hml rfl (lenOf pd___IIIJ_I rfl) [] rfl rfl at_220 rfl fun _ T135 L135 X135 hQ135 => ?_
              obtain ⟨rfl, rfl, e135⟩ := hQ135
              have N135 := Fr.app N134 (Fr.nil n0)
              refine own_stk (S' := [(.int (f4_3_4 (g0_13 p1 p2 p3 p4 q5 p6) (g0_3 p1 p2 p3 p4 q5 p6) (g0_4 p1 p2 p3 p4 q5 p6) (g0_5 p1 p2 p3 p4 q5 p6) (g0_6 p1 p2 p3 p4 q5 p6)))]) rfl ?_
              refine wiload OGc 225 X135 B at_223 rfl rfl ?_
              by_cases c136 : (f4_3_4 (g0_13 p1 p2 p3 p4 q5 p6) (g0_3 p1 p2 p3 p4 q5 p6) (g0_4 p1 p2 p3 p4 q5 p6) (g0_5 p1 p2 p3 p4 q5 p6) (g0_6 p1 p2 p3 p4 q5 p6)) = (g0_27 p1 p2 p3 p4 q5 p6)
              · refine wicmpNo OGc 228 X135 B at_225 (teq c136).2 rfl ?_
                refine wiconst OGc 229 X135 B at_228 1 rfl rfl ?_
                refine wgoto OGc 233 X135 B at_229 rfl ?_
                refine own_retZ X135 hx (t := .boolean) hret (by simp) hlk (hb hby at_233) (by decide) (by decide) (w := (1 : Int32)) rfl ?_
                exact ⟨congrArg (fun z => some (Value.int z)) (show f0 p1 p2 p3 p4 q5 p6 = (1 : Int32) from (by rw [f0, if_neg c35, if_neg c71, if_neg c100, if_pos c122, if_neg c123, if_pos c130, if_pos c136])).symm, N135⟩
              · refine wicmpYes OGc 232 X135 B at_225 (feq c136).2 rfl ?_
                refine wiconst OGc 233 X135 B at_232 0 rfl rfl ?_
                refine own_retZ X135 hx (t := .boolean) hret (by simp) hlk (hb hby at_233) (by decide) (by decide) (w := (0 : Int32)) rfl ?_
                exact ⟨congrArg (fun z => some (Value.int z)) (show f0 p1 p2 p3 p4 q5 p6 = (0 : Int32) from (by rw [f0, if_neg c35, if_neg c71, if_neg c100, if_pos c122, if_neg c123, if_pos c130, if_neg c136])).symm, N135⟩
            · skip
              exact (own_rt3 p1 p2 p3 p4 q5 p6 c122 c123 c130).elim
        · skip
          by_cases c137 : (g0_7 p1 p2 p3 p4 q5 p6) = (4 : Int32)
          · rw [c137]
            show OG p e _ s below _ T23 (mkF m 156 #[.val (.int p1), .val (.int p2), .val (.int p3), .val (.int p4), .val (.long q5), .second, .val (.int p6), .val (.int (f1 p1 p2)), .val (.int (f2 p1 p2)), .val (.int (f1 p3 p4)), .val (.int (f2 p3 p4)), .val (.int (g0_1 p1 p2 p3 p4 q5 p6)), .val (.int (g0_2 p1 p2 p3 p4 q5 p6)), .val (.ref b7), .val (.int (4 : Int32)), .val (.int (g0_8 p1 p2 p3 p4 q5 p6)), .val (.long (g0_13 p1 p2 p3 p4 q5 p6)), .second, .unset] [])
            refine wiload OGc 158 X23 B at_156 rfl rfl ?_
            by_cases c138 : (g0_8 p1 p2 p3 p4 q5 p6) = (4 : Int32)
            · rw [c138]
              show OG p e _ s below _ T23 (mkF m 158 #[.val (.int p1), .val (.int p2), .val (.int p3), .val (.int p4), .val (.long q5), .second, .val (.int p6), .val (.int (f1 p1 p2)), .val (.int (f2 p1 p2)), .val (.int (f1 p3 p4)), .val (.int (f2 p3 p4)), .val (.int (g0_1 p1 p2 p3 p4 q5 p6)), .val (.int (g0_2 p1 p2 p3 p4 q5 p6)), .val (.ref b7), .val (.int (4 : Int32)), .val (.int (4 : Int32)), .val (.long (g0_13 p1 p2 p3 p4 q5 p6)), .second, .unset] [(.int (4 : Int32))])
              refine waload OGc 160 X23 B at_158 rfl rfl rfl ?_
              refine wiconst OGc 161 X23 B at_160 0 rfl rfl ?_
              refine wiload OGc 163 X23 B at_161 rfl rfl ?_
              refine wiload OGc 165 X23 B at_163 rfl rfl ?_
              refine wlload OGc 167 X23 B at_165 rfl rfl ?_
              refine wstat OGc 170 X23 B hZ hown (ow hw 9 rfl) (ow hw 10 rfl) (ow hw 12 rfl) (ow hw 11 rfl) e23 (rm3_0 l Z a0 hw [] b7 (4 : Int32) (4 : Int32) (g0_13 p1 p2 p3 p4 q5 p6) (g0_3 p1 p2 p3 p4 q5 p6) (g0_4 p1 p2 p3 p4 q5 p6) (g0_5 p1 p2 p3 p4 q5 p6) (g0_6 p1 p2 p3 p4 q5 p6) h23 F25) 1 (by decide) (by decide) hml rfl (lenOf pd___IIIIJ_I rfl) [(.int (4 : Int32))] rfl rfl at_167 rfl fun _ T139 L139 X139 hQ139 => ?_
              obtain ⟨rfl, rfl, e139⟩ := hQ139
              have N139 := Fr.app N23 (Fr.nil n0)
              refine own_stk (S' := [(.int (f3_0 (4 : Int32) (4 : Int32) (g0_13 p1 p2 p3 p4 q5 p6) (g0_3 p1 p2 p3 p4 q5 p6) (g0_4 p1 p2 p3 p4 q5 p6) (g0_5 p1 p2 p3 p4 q5 p6) (g0_6 p1 p2 p3 p4 q5 p6))), (.int (4 : Int32))]) rfl ?_
              refine wiadd OGc 171 X139 B at_170 rfl ?_
              refine waload OGc 173 X139 B at_171 rfl rfl rfl ?_
              refine wiconst OGc 174 X139 B at_173 1 rfl rfl ?_
              refine wiload OGc 176 X139 B at_174 rfl rfl ?_
              refine wiload OGc 178 X139 B at_176 rfl rfl ?_
              refine wlload OGc 180 X139 B at_178 rfl rfl ?_
              refine wstat OGc 183 X139 B hZ hown (ow hw 9 rfl) (ow hw 10 rfl) (ow hw 12 rfl) (ow hw 11 rfl) e139 (rm3_1 l Z a0 hw [] b7 (4 : Int32) (4 : Int32) (g0_13 p1 p2 p3 p4 q5 p6) (g0_3 p1 p2 p3 p4 q5 p6) (g0_4 p1 p2 p3 p4 q5 p6) (g0_5 p1 p2 p3 p4 q5 p6) (g0_6 p1 p2 p3 p4 q5 p6) h23 F25) 1 (by decide) (by decide) hml rfl (lenOf pd___IIIIJ_I rfl) [(.int ((4 : Int32) + (f3_0 (4 : Int32) (4 : Int32) (g0_13 p1 p2 p3 p4 q5 p6) (g0_3 p1 p2 p3 p4 q5 p6) (g0_4 p1 p2 p3 p4 q5 p6) (g0_5 p1 p2 p3 p4 q5 p6) (g0_6 p1 p2 p3 p4 q5 p6))))] rfl rfl at_180 rfl fun _ T140 L140 X140 hQ140 => ?_
              obtain ⟨rfl, rfl, e140⟩ := hQ140
              have N140 := Fr.app N139 (Fr.nil n0)
              refine own_stk (S' := [(.int (f3_1 (4 : Int32) (4 : Int32) (g0_13 p1 p2 p3 p4 q5 p6) (g0_3 p1 p2 p3 p4 q5 p6) (g0_4 p1 p2 p3 p4 q5 p6) (g0_5 p1 p2 p3 p4 q5 p6) (g0_6 p1 p2 p3 p4 q5 p6))), (.int ((4 : Int32) + (f3_0 (4 : Int32) (4 : Int32) (g0_13 p1 p2 p3 p4 q5 p6) (g0_3 p1 p2 p3 p4 q5 p6) (g0_4 p1 p2 p3 p4 q5 p6) (g0_5 p1 p2 p3 p4 q5 p6) (g0_6 p1 p2 p3 p4 q5 p6))))]) rfl ?_
              refine wiadd OGc 184 X140 B at_183 rfl ?_
              refine waload OGc 186 X140 B at_184 rfl rfl rfl ?_
              refine wiconst OGc 187 X140 B at_186 2 rfl rfl ?_
              refine wiload OGc 189 X140 B at_187 rfl rfl ?_
              refine wiload OGc 191 X140 B at_189 rfl rfl ?_
              refine wlload OGc 193 X140 B at_191 rfl rfl ?_
              refine wstat OGc 196 X140 B hZ hown (ow hw 9 rfl) (ow hw 10 rfl) (ow hw 12 rfl) (ow hw 11 rfl) e140 (rm3_2 l Z a0 hw [] b7 (4 : Int32) (4 : Int32) (g0_13 p1 p2 p3 p4 q5 p6) (g0_3 p1 p2 p3 p4 q5 p6) (g0_4 p1 p2 p3 p4 q5 p6) (g0_5 p1 p2 p3 p4 q5 p6) (g0_6 p1 p2 p3 p4 q5 p6) h23 F25) 1 (by decide) (by decide) hml rfl (lenOf pd___IIIIJ_I rfl) [(.int (((4 : Int32) + (f3_0 (4 : Int32) (4 : Int32) (g0_13 p1 p2 p3 p4 q5 p6) (g0_3 p1 p2 p3 p4 q5 p6) (g0_4 p1 p2 p3 p4 q5 p6) (g0_5 p1 p2 p3 p4 q5 p6) (g0_6 p1 p2 p3 p4 q5 p6))) + (f3_1 (4 : Int32) (4 : Int32) (g0_13 p1 p2 p3 p4 q5 p6) (g0_3 p1 p2 p3 p4 q5 p6) (g0_4 p1 p2 p3 p4 q5 p6) (g0_5 p1 p2 p3 p4 q5 p6) (g0_6 p1 p2 p3 p4 q5 p6))))] rfl rfl at_193 rfl fun _ T141 L141 X141 hQ141 => ?_
              obtain ⟨rfl, rfl, e141⟩ := hQ141
              have N141 := Fr.app N140 (Fr.nil n0)
              refine own_stk (S' := [(.int (f3_2 (4 : Int32) (4 : Int32) (g0_13 p1 p2 p3 p4 q5 p6) (g0_3 p1 p2 p3 p4 q5 p6) (g0_4 p1 p2 p3 p4 q5 p6) (g0_5 p1 p2 p3 p4 q5 p6) (g0_6 p1 p2 p3 p4 q5 p6))), (.int (((4 : Int32) + (f3_0 (4 : Int32) (4 : Int32) (g0_13 p1 p2 p3 p4 q5 p6) (g0_3 p1 p2 p3 p4 q5 p6) (g0_4 p1 p2 p3 p4 q5 p6) (g0_5 p1 p2 p3 p4 q5 p6) (g0_6 p1 p2 p3 p4 q5 p6))) + (f3_1 (4 : Int32) (4 : Int32) (g0_13 p1 p2 p3 p4 q5 p6) (g0_3 p1 p2 p3 p4 q5 p6) (g0_4 p1 p2 p3 p4 q5 p6) (g0_5 p1 p2 p3 p4 q5 p6) (g0_6 p1 p2 p3 p4 q5 p6))))]) rfl ?_
              refine wiadd OGc 197 X141 B at_196 rfl ?_
              refine waload OGc 199 X141 B at_197 rfl rfl rfl ?_
              refine wiconst OGc 200 X141 B at_199 3 rfl rfl ?_
              refine wiload OGc 202 X141 B at_200 rfl rfl ?_
              refine wiload OGc 204 X141 B at_202 rfl rfl ?_
              refine wlload OGc 206 X141 B at_204 rfl rfl ?_
              refine wstat OGc 209 X141 B hZ hown (ow hw 9 rfl) (ow hw 10 rfl) (ow hw 12 rfl) (ow hw 11 rfl) e141 (rm3_3 l Z a0 hw [] b7 (4 : Int32) (4 : Int32) (g0_13 p1 p2 p3 p4 q5 p6) (g0_3 p1 p2 p3 p4 q5 p6) (g0_4 p1 p2 p3 p4 q5 p6) (g0_5 p1 p2 p3 p4 q5 p6) (g0_6 p1 p2 p3 p4 q5 p6) h23 F25) 1 (by decide) (by decide) hml rfl (lenOf pd___IIIIJ_I rfl) [(.int ((((4 : Int32) + (f3_0 (4 : Int32) (4 : Int32) (g0_13 p1 p2 p3 p4 q5 p6) (g0_3 p1 p2 p3 p4 q5 p6) (g0_4 p1 p2 p3 p4 q5 p6) (g0_5 p1 p2 p3 p4 q5 p6) (g0_6 p1 p2 p3 p4 q5 p6))) + (f3_1 (4 : Int32) (4 : Int32) (g0_13 p1 p2 p3 p4 q5 p6) (g0_3 p1 p2 p3 p4 q5 p6) (g0_4 p1 p2 p3 p4 q5 p6) (g0_5 p1 p2 p3 p4 q5 p6) (g0_6 p1 p2 p3 p4 q5 p6))) + (f3_2 (4 : Int32) (4 : Int32) (g0_13 p1 p2 p3 p4 q5 p6) (g0_3 p1 p2 p3 p4 q5 p6) (g0_4 p1 p2 p3 p4 q5 p6) (g0_5 p1 p2 p3 p4 q5 p6) (g0_6 p1 p2 p3 p4 q5 p6))))] rfl rfl at_206 rfl fun _ T142 L142 X142 hQ142 => ?_
              obtain ⟨rfl, rfl, e142⟩ := hQ142
              have N142 := Fr.app N141 (Fr.nil n0)
              refine own_stk (S' := [(.int (f3_3 (4 : Int32) (4 : Int32) (g0_13 p1 p2 p3 p4 q5 p6) (g0_3 p1 p2 p3 p4 q5 p6) (g0_4 p1 p2 p3 p4 q5 p6) (g0_5 p1 p2 p3 p4 q5 p6) (g0_6 p1 p2 p3 p4 q5 p6))), (.int ((((4 : Int32) + (f3_0 (4 : Int32) (4 : Int32) (g0_13 p1 p2 p3 p4 q5 p6) (g0_3 p1 p2 p3 p4 q5 p6) (g0_4 p1 p2 p3 p4 q5 p6) (g0_5 p1 p2 p3 p4 q5 p6) (g0_6 p1 p2 p3 p4 q5 p6))) + (f3_1 (4 : Int32) (4 : Int32) (g0_13 p1 p2 p3 p4 q5 p6) (g0_3 p1 p2 p3 p4 q5 p6) (g0_4 p1 p2 p3 p4 q5 p6) (g0_5 p1 p2 p3 p4 q5 p6) (g0_6 p1 p2 p3 p4 q5 p6))) + (f3_2 (4 : Int32) (4 : Int32) (g0_13 p1 p2 p3 p4 q5 p6) (g0_3 p1 p2 p3 p4 q5 p6) (g0_4 p1 p2 p3 p4 q5 p6) (g0_5 p1 p2 p3 p4 q5 p6) (g0_6 p1 p2 p3 p4 q5 p6))))]) rfl ?_
              refine wiadd OGc 210 X142 B at_209 rfl ?_
              refine wistore OGc 212 X142 B at_210 #[.val (.int p1), .val (.int p2), .val (.int p3), .val (.int p4), .val (.long q5), .second, .val (.int p6), .val (.int (f1 p1 p2)), .val (.int (f2 p1 p2)), .val (.int (f1 p3 p4)), .val (.int (f2 p3 p4)), .val (.int (g0_1 p1 p2 p3 p4 q5 p6)), .val (.int (g0_2 p1 p2 p3 p4 q5 p6)), .val (.ref b7), .val (.int (4 : Int32)), .val (.int (4 : Int32)), .val (.long (g0_13 p1 p2 p3 p4 q5 p6)), .second, .val (.int (g0_28 p1 p2 p3 p4 q5 p6))] rfl rfl ?_
              refine waload OGc 214 X142 B at_212 rfl rfl rfl ?_
              refine wiload OGc 216 X142 B at_214 rfl rfl ?_
              refine wiload OGc 218 X142 B at_216 rfl rfl ?_
              refine wlload OGc 220 X142 B at_218 rfl rfl ?_
              refine wstat OGc 223 X142 B hZ hown (ow hw 13 rfl) (ow hw 14 rfl) (ow hw 16 rfl) (ow hw 15 rfl) e142 (rm4_4_4 l Z a0 hw [] b7 (g0_13 p1 p2 p3 p4 q5 p6) (g0_3 p1 p2 p3 p4 q5 p6) (g0_4 p1 p2 p3 p4 q5 p6) (g0_5 p1 p2 p3 p4 q5 p6) (g0_6 p1 p2 p3 p4 q5 p6) h23 F25) 0 (by decide) (by decide) hml rfl (lenOf pd___IIIJ_I rfl) [] rfl rfl at_220 rfl fun _ T143 L143 X143 hQ143 => ?_
              obtain ⟨rfl, rfl, e143⟩ := hQ143
              have N143 := Fr.app N142 (Fr.nil n0)
              refine own_stk (S' := [(.int (f4_4_4 (g0_13 p1 p2 p3 p4 q5 p6) (g0_3 p1 p2 p3 p4 q5 p6) (g0_4 p1 p2 p3 p4 q5 p6) (g0_5 p1 p2 p3 p4 q5 p6) (g0_6 p1 p2 p3 p4 q5 p6)))]) rfl ?_
              refine wiload OGc 225 X143 B at_223 rfl rfl ?_
              by_cases c144 : (f4_4_4 (g0_13 p1 p2 p3 p4 q5 p6) (g0_3 p1 p2 p3 p4 q5 p6) (g0_4 p1 p2 p3 p4 q5 p6) (g0_5 p1 p2 p3 p4 q5 p6) (g0_6 p1 p2 p3 p4 q5 p6)) = (g0_28 p1 p2 p3 p4 q5 p6)
              · refine wicmpNo OGc 228 X143 B at_225 (teq c144).2 rfl ?_
                refine wiconst OGc 229 X143 B at_228 1 rfl rfl ?_
                refine wgoto OGc 233 X143 B at_229 rfl ?_
                refine own_retZ X143 hx (t := .boolean) hret (by simp) hlk (hb hby at_233) (by decide) (by decide) (w := (1 : Int32)) rfl ?_
                exact ⟨congrArg (fun z => some (Value.int z)) (show f0 p1 p2 p3 p4 q5 p6 = (1 : Int32) from (by rw [f0, if_neg c35, if_neg c71, if_neg c100, if_neg c122, if_pos c137, if_pos c138, if_pos c144])).symm, N143⟩
              · refine wicmpYes OGc 232 X143 B at_225 (feq c144).2 rfl ?_
                refine wiconst OGc 233 X143 B at_232 0 rfl rfl ?_
                refine own_retZ X143 hx (t := .boolean) hret (by simp) hlk (hb hby at_233) (by decide) (by decide) (w := (0 : Int32)) rfl ?_
                exact ⟨congrArg (fun z => some (Value.int z)) (show f0 p1 p2 p3 p4 q5 p6 = (0 : Int32) from (by rw [f0, if_neg c35, if_neg c71, if_neg c100, if_neg c122, if_pos c137, if_pos c138, if_neg c144])).symm, N143⟩
            · skip
              exact (own_rt4 p1 p2 p3 p4 q5 p6 c137 c138).elim
          · skip
            exact (own_rf p1 p2 p3 p4 q5 p6 c35 c71 c100 c122 c137).elim
/-! the plain law -/
theorem own_pat (v0 v1 v2 v3 : Int32) (q : Int64) (h0 : v0.toInt ≤ v1.toInt) (h1 : v1.toInt ≤ v2.toInt) (h2 : v2.toInt ≤ v3.toInt) : (¬ (v0.toInt64 < q) ∧ ¬ (v1.toInt64 < q) ∧ ¬ (v2.toInt64 < q) ∧ ¬ (v3.toInt64 < q)) ∨ ((v0.toInt64 < q) ∧ ¬ (v1.toInt64 < q) ∧ ¬ (v2.toInt64 < q) ∧ ¬ (v3.toInt64 < q)) ∨ ((v0.toInt64 < q) ∧ (v1.toInt64 < q) ∧ ¬ (v2.toInt64 < q) ∧ ¬ (v3.toInt64 < q)) ∨ ((v0.toInt64 < q) ∧ (v1.toInt64 < q) ∧ (v2.toInt64 < q) ∧ ¬ (v3.toInt64 < q)) ∨ ((v0.toInt64 < q) ∧ (v1.toInt64 < q) ∧ (v2.toInt64 < q) ∧ (v3.toInt64 < q)) := by
  simp only [Int64.lt_iff_toInt_lt, c_i2l]
  omega
theorem own_s0_0 (v0 v1 v2 v3 : Int32) (q : Int64) (h0 : v0.toInt ≤ v1.toInt) (h1 : v1.toInt ≤ v2.toInt) (h2 : v2.toInt ≤ v3.toInt) : f4_0_0 q v0 v1 v2 v3 = (((((0 : Int32) + f3_0 0 0 q v0 v1 v2 v3) + f3_1 0 0 q v0 v1 v2 v3) + f3_2 0 0 q v0 v1 v2 v3) + f3_3 0 0 q v0 v1 v2 v3) := by
  rcases own_pat v0 v1 v2 v3 q h0 h1 h2 with ⟨a, b, c, d⟩ | ⟨a, b, c, d⟩ | ⟨a, b, c, d⟩ | ⟨a, b, c, d⟩ | ⟨a, b, c, d⟩ <;> simp only [f4_0_0, f3_0, f3_1, f3_2, f3_3, a, b, c, d, if_true, if_false, ite_self] <;> decide
theorem own_s0_1 (v0 v1 v2 v3 : Int32) (q : Int64) (h0 : v0.toInt ≤ v1.toInt) (h1 : v1.toInt ≤ v2.toInt) (h2 : v2.toInt ≤ v3.toInt) : f4_0_1 q v0 v1 v2 v3 = (((((0 : Int32) + f3_0 0 1 q v0 v1 v2 v3) + f3_1 0 1 q v0 v1 v2 v3) + f3_2 0 1 q v0 v1 v2 v3) + f3_3 0 1 q v0 v1 v2 v3) := by
  rcases own_pat v0 v1 v2 v3 q h0 h1 h2 with ⟨a, b, c, d⟩ | ⟨a, b, c, d⟩ | ⟨a, b, c, d⟩ | ⟨a, b, c, d⟩ | ⟨a, b, c, d⟩ <;> simp only [f4_0_1, f3_0, f3_1, f3_2, f3_3, a, b, c, d, if_true, if_false, ite_self] <;> decide
theorem own_s0_2 (v0 v1 v2 v3 : Int32) (q : Int64) (h0 : v0.toInt ≤ v1.toInt) (h1 : v1.toInt ≤ v2.toInt) (h2 : v2.toInt ≤ v3.toInt) : f4_0_2 q v0 v1 v2 v3 = (((((0 : Int32) + f3_0 0 2 q v0 v1 v2 v3) + f3_1 0 2 q v0 v1 v2 v3) + f3_2 0 2 q v0 v1 v2 v3) + f3_3 0 2 q v0 v1 v2 v3) := by
  rcases own_pat v0 v1 v2 v3 q h0 h1 h2 with ⟨a, b, c, d⟩ | ⟨a, b, c, d⟩ | ⟨a, b, c, d⟩ | ⟨a, b, c, d⟩ | ⟨a, b, c, d⟩ <;> simp only [f4_0_2, f3_0, f3_1, f3_2, f3_3, a, b, c, d, if_true, if_false, ite_self] <;> decide
theorem own_s0_3 (v0 v1 v2 v3 : Int32) (q : Int64) (h0 : v0.toInt ≤ v1.toInt) (h1 : v1.toInt ≤ v2.toInt) (h2 : v2.toInt ≤ v3.toInt) : f4_0_3 q v0 v1 v2 v3 = (((((0 : Int32) + f3_0 0 3 q v0 v1 v2 v3) + f3_1 0 3 q v0 v1 v2 v3) + f3_2 0 3 q v0 v1 v2 v3) + f3_3 0 3 q v0 v1 v2 v3) := by
  rcases own_pat v0 v1 v2 v3 q h0 h1 h2 with ⟨a, b, c, d⟩ | ⟨a, b, c, d⟩ | ⟨a, b, c, d⟩ | ⟨a, b, c, d⟩ | ⟨a, b, c, d⟩ <;> simp only [f4_0_3, f3_0, f3_1, f3_2, f3_3, a, b, c, d, if_true, if_false, ite_self] <;> decide
theorem own_s0_4 (v0 v1 v2 v3 : Int32) (q : Int64) (h0 : v0.toInt ≤ v1.toInt) (h1 : v1.toInt ≤ v2.toInt) (h2 : v2.toInt ≤ v3.toInt) : f4_0_4 q v0 v1 v2 v3 = (((((0 : Int32) + f3_0 0 4 q v0 v1 v2 v3) + f3_1 0 4 q v0 v1 v2 v3) + f3_2 0 4 q v0 v1 v2 v3) + f3_3 0 4 q v0 v1 v2 v3) := by
  rcases own_pat v0 v1 v2 v3 q h0 h1 h2 with ⟨a, b, c, d⟩ | ⟨a, b, c, d⟩ | ⟨a, b, c, d⟩ | ⟨a, b, c, d⟩ | ⟨a, b, c, d⟩ <;> simp only [f4_0_4, f3_0, f3_1, f3_2, f3_3, a, b, c, d, if_true, if_false, ite_self] <;> decide
theorem own_s1_1 (v0 v1 v2 v3 : Int32) (q : Int64) (h0 : v0.toInt ≤ v1.toInt) (h1 : v1.toInt ≤ v2.toInt) (h2 : v2.toInt ≤ v3.toInt) : f4_1_1 q v0 v1 v2 v3 = (((((1 : Int32) + f3_0 1 1 q v0 v1 v2 v3) + f3_1 1 1 q v0 v1 v2 v3) + f3_2 1 1 q v0 v1 v2 v3) + f3_3 1 1 q v0 v1 v2 v3) := by
  rcases own_pat v0 v1 v2 v3 q h0 h1 h2 with ⟨a, b, c, d⟩ | ⟨a, b, c, d⟩ | ⟨a, b, c, d⟩ | ⟨a, b, c, d⟩ | ⟨a, b, c, d⟩ <;> simp only [f4_1_1, f3_0, f3_1, f3_2, f3_3, a, b, c, d, if_true, if_false, ite_self] <;> decide
theorem own_s1_2 (v0 v1 v2 v3 : Int32) (q : Int64) (h0 : v0.toInt ≤ v1.toInt) (h1 : v1.toInt ≤ v2.toInt) (h2 : v2.toInt ≤ v3.toInt) : f4_1_2 q v0 v1 v2 v3 = (((((1 : Int32) + f3_0 1 2 q v0 v1 v2 v3) + f3_1 1 2 q v0 v1 v2 v3) + f3_2 1 2 q v0 v1 v2 v3) + f3_3 1 2 q v0 v1 v2 v3) := by
  rcases own_pat v0 v1 v2 v3 q h0 h1 h2 with ⟨a, b, c, d⟩ | ⟨a, b, c, d⟩ | ⟨a, b, c, d⟩ | ⟨a, b, c, d⟩ | ⟨a, b, c, d⟩ <;> simp only [f4_1_2, f3_0, f3_1, f3_2, f3_3, a, b, c, d, if_true, if_false, ite_self] <;> decide
theorem own_s1_3 (v0 v1 v2 v3 : Int32) (q : Int64) (h0 : v0.toInt ≤ v1.toInt) (h1 : v1.toInt ≤ v2.toInt) (h2 : v2.toInt ≤ v3.toInt) : f4_1_3 q v0 v1 v2 v3 = (((((1 : Int32) + f3_0 1 3 q v0 v1 v2 v3) + f3_1 1 3 q v0 v1 v2 v3) + f3_2 1 3 q v0 v1 v2 v3) + f3_3 1 3 q v0 v1 v2 v3) := by
  rcases own_pat v0 v1 v2 v3 q h0 h1 h2 with ⟨a, b, c, d⟩ | ⟨a, b, c, d⟩ | ⟨a, b, c, d⟩ | ⟨a, b, c, d⟩ | ⟨a, b, c, d⟩ <;> simp only [f4_1_3, f3_0, f3_1, f3_2, f3_3, a, b, c, d, if_true, if_false, ite_self] <;> decide
theorem own_s1_4 (v0 v1 v2 v3 : Int32) (q : Int64) (h0 : v0.toInt ≤ v1.toInt) (h1 : v1.toInt ≤ v2.toInt) (h2 : v2.toInt ≤ v3.toInt) : f4_1_4 q v0 v1 v2 v3 = (((((1 : Int32) + f3_0 1 4 q v0 v1 v2 v3) + f3_1 1 4 q v0 v1 v2 v3) + f3_2 1 4 q v0 v1 v2 v3) + f3_3 1 4 q v0 v1 v2 v3) := by
  rcases own_pat v0 v1 v2 v3 q h0 h1 h2 with ⟨a, b, c, d⟩ | ⟨a, b, c, d⟩ | ⟨a, b, c, d⟩ | ⟨a, b, c, d⟩ | ⟨a, b, c, d⟩ <;> simp only [f4_1_4, f3_0, f3_1, f3_2, f3_3, a, b, c, d, if_true, if_false, ite_self] <;> decide
theorem own_s2_2 (v0 v1 v2 v3 : Int32) (q : Int64) (h0 : v0.toInt ≤ v1.toInt) (h1 : v1.toInt ≤ v2.toInt) (h2 : v2.toInt ≤ v3.toInt) : f4_2_2 q v0 v1 v2 v3 = (((((2 : Int32) + f3_0 2 2 q v0 v1 v2 v3) + f3_1 2 2 q v0 v1 v2 v3) + f3_2 2 2 q v0 v1 v2 v3) + f3_3 2 2 q v0 v1 v2 v3) := by
  rcases own_pat v0 v1 v2 v3 q h0 h1 h2 with ⟨a, b, c, d⟩ | ⟨a, b, c, d⟩ | ⟨a, b, c, d⟩ | ⟨a, b, c, d⟩ | ⟨a, b, c, d⟩ <;> simp only [f4_2_2, f3_0, f3_1, f3_2, f3_3, a, b, c, d, if_true, if_false, ite_self] <;> decide
theorem own_s2_3 (v0 v1 v2 v3 : Int32) (q : Int64) (h0 : v0.toInt ≤ v1.toInt) (h1 : v1.toInt ≤ v2.toInt) (h2 : v2.toInt ≤ v3.toInt) : f4_2_3 q v0 v1 v2 v3 = (((((2 : Int32) + f3_0 2 3 q v0 v1 v2 v3) + f3_1 2 3 q v0 v1 v2 v3) + f3_2 2 3 q v0 v1 v2 v3) + f3_3 2 3 q v0 v1 v2 v3) := by
  rcases own_pat v0 v1 v2 v3 q h0 h1 h2 with ⟨a, b, c, d⟩ | ⟨a, b, c, d⟩ | ⟨a, b, c, d⟩ | ⟨a, b, c, d⟩ | ⟨a, b, c, d⟩ <;> simp only [f4_2_3, f3_0, f3_1, f3_2, f3_3, a, b, c, d, if_true, if_false, ite_self] <;> decide
theorem own_s2_4 (v0 v1 v2 v3 : Int32) (q : Int64) (h0 : v0.toInt ≤ v1.toInt) (h1 : v1.toInt ≤ v2.toInt) (h2 : v2.toInt ≤ v3.toInt) : f4_2_4 q v0 v1 v2 v3 = (((((2 : Int32) + f3_0 2 4 q v0 v1 v2 v3) + f3_1 2 4 q v0 v1 v2 v3) + f3_2 2 4 q v0 v1 v2 v3) + f3_3 2 4 q v0 v1 v2 v3) := by
  rcases own_pat v0 v1 v2 v3 q h0 h1 h2 with ⟨a, b, c, d⟩ | ⟨a, b, c, d⟩ | ⟨a, b, c, d⟩ | ⟨a, b, c, d⟩ | ⟨a, b, c, d⟩ <;> simp only [f4_2_4, f3_0, f3_1, f3_2, f3_3, a, b, c, d, if_true, if_false, ite_self] <;> decide
theorem own_s3_3 (v0 v1 v2 v3 : Int32) (q : Int64) (h0 : v0.toInt ≤ v1.toInt) (h1 : v1.toInt ≤ v2.toInt) (h2 : v2.toInt ≤ v3.toInt) : f4_3_3 q v0 v1 v2 v3 = (((((3 : Int32) + f3_0 3 3 q v0 v1 v2 v3) + f3_1 3 3 q v0 v1 v2 v3) + f3_2 3 3 q v0 v1 v2 v3) + f3_3 3 3 q v0 v1 v2 v3) := by
  rcases own_pat v0 v1 v2 v3 q h0 h1 h2 with ⟨a, b, c, d⟩ | ⟨a, b, c, d⟩ | ⟨a, b, c, d⟩ | ⟨a, b, c, d⟩ | ⟨a, b, c, d⟩ <;> simp only [f4_3_3, f3_0, f3_1, f3_2, f3_3, a, b, c, d, if_true, if_false, ite_self] <;> decide
theorem own_s3_4 (v0 v1 v2 v3 : Int32) (q : Int64) (h0 : v0.toInt ≤ v1.toInt) (h1 : v1.toInt ≤ v2.toInt) (h2 : v2.toInt ≤ v3.toInt) : f4_3_4 q v0 v1 v2 v3 = (((((3 : Int32) + f3_0 3 4 q v0 v1 v2 v3) + f3_1 3 4 q v0 v1 v2 v3) + f3_2 3 4 q v0 v1 v2 v3) + f3_3 3 4 q v0 v1 v2 v3) := by
  rcases own_pat v0 v1 v2 v3 q h0 h1 h2 with ⟨a, b, c, d⟩ | ⟨a, b, c, d⟩ | ⟨a, b, c, d⟩ | ⟨a, b, c, d⟩ | ⟨a, b, c, d⟩ <;> simp only [f4_3_4, f3_0, f3_1, f3_2, f3_3, a, b, c, d, if_true, if_false, ite_self] <;> decide
theorem own_s4_4 (v0 v1 v2 v3 : Int32) (q : Int64) (h0 : v0.toInt ≤ v1.toInt) (h1 : v1.toInt ≤ v2.toInt) (h2 : v2.toInt ≤ v3.toInt) : f4_4_4 q v0 v1 v2 v3 = (((((4 : Int32) + f3_0 4 4 q v0 v1 v2 v3) + f3_1 4 4 q v0 v1 v2 v3) + f3_2 4 4 q v0 v1 v2 v3) + f3_3 4 4 q v0 v1 v2 v3) := by
  rcases own_pat v0 v1 v2 v3 q h0 h1 h2 with ⟨a, b, c, d⟩ | ⟨a, b, c, d⟩ | ⟨a, b, c, d⟩ | ⟨a, b, c, d⟩ | ⟨a, b, c, d⟩ <;> simp only [f4_4_4, f3_0, f3_1, f3_2, f3_3, a, b, c, d, if_true, if_false, ite_self] <;> decide
theorem own_min (x y : Int32) : (f1 x y).toInt = if y.toInt < x.toInt then y.toInt else x.toInt := by
  simp only [f1, Int32.lt_iff_toInt_lt]; split <;> rfl
theorem own_max (x y : Int32) : (f2 x y).toInt = if x.toInt < y.toInt then y.toInt else x.toInt := by
  simp only [f2, Int32.lt_iff_toInt_lt]; split <;> rfl
theorem own_law (p1 p2 p3 p4 : Int32) (q5 : Int64) (p6 : Int32) : f0 p1 p2 p3 p4 q5 p6 = 1 := by
  have o1 : (g0_3 p1 p2 p3 p4 q5 p6).toInt ≤ (g0_4 p1 p2 p3 p4 q5 p6).toInt := by simp only [g0_3, g0_4, g0_1, g0_2, own_min, own_max]; (repeat' split) <;> omega
  have o2 : (g0_4 p1 p2 p3 p4 q5 p6).toInt ≤ (g0_5 p1 p2 p3 p4 q5 p6).toInt := by simp only [g0_4, g0_5, own_min, own_max]; (repeat' split) <;> omega
  have o3 : (g0_5 p1 p2 p3 p4 q5 p6).toInt ≤ (g0_6 p1 p2 p3 p4 q5 p6).toInt := by simp only [g0_5, g0_6, g0_1, g0_2, own_min, own_max]; (repeat' split) <;> omega
  have e14 : f4_0_0 (g0_13 p1 p2 p3 p4 q5 p6) (g0_3 p1 p2 p3 p4 q5 p6) (g0_4 p1 p2 p3 p4 q5 p6) (g0_5 p1 p2 p3 p4 q5 p6) (g0_6 p1 p2 p3 p4 q5 p6) = g0_14 p1 p2 p3 p4 q5 p6 := own_s0_0 _ _ _ _ _ o1 o2 o3
  have e15 : f4_0_1 (g0_13 p1 p2 p3 p4 q5 p6) (g0_3 p1 p2 p3 p4 q5 p6) (g0_4 p1 p2 p3 p4 q5 p6) (g0_5 p1 p2 p3 p4 q5 p6) (g0_6 p1 p2 p3 p4 q5 p6) = g0_15 p1 p2 p3 p4 q5 p6 := own_s0_1 _ _ _ _ _ o1 o2 o3
  have e16 : f4_0_2 (g0_13 p1 p2 p3 p4 q5 p6) (g0_3 p1 p2 p3 p4 q5 p6) (g0_4 p1 p2 p3 p4 q5 p6) (g0_5 p1 p2 p3 p4 q5 p6) (g0_6 p1 p2 p3 p4 q5 p6) = g0_16 p1 p2 p3 p4 q5 p6 := own_s0_2 _ _ _ _ _ o1 o2 o3
  have e17 : f4_0_3 (g0_13 p1 p2 p3 p4 q5 p6) (g0_3 p1 p2 p3 p4 q5 p6) (g0_4 p1 p2 p3 p4 q5 p6) (g0_5 p1 p2 p3 p4 q5 p6) (g0_6 p1 p2 p3 p4 q5 p6) = g0_17 p1 p2 p3 p4 q5 p6 := own_s0_3 _ _ _ _ _ o1 o2 o3
  have e18 : f4_0_4 (g0_13 p1 p2 p3 p4 q5 p6) (g0_3 p1 p2 p3 p4 q5 p6) (g0_4 p1 p2 p3 p4 q5 p6) (g0_5 p1 p2 p3 p4 q5 p6) (g0_6 p1 p2 p3 p4 q5 p6) = g0_18 p1 p2 p3 p4 q5 p6 := own_s0_4 _ _ _ _ _ o1 o2 o3
  have e19 : f4_1_1 (g0_13 p1 p2 p3 p4 q5 p6) (g0_3 p1 p2 p3 p4 q5 p6) (g0_4 p1 p2 p3 p4 q5 p6) (g0_5 p1 p2 p3 p4 q5 p6) (g0_6 p1 p2 p3 p4 q5 p6) = g0_19 p1 p2 p3 p4 q5 p6 := own_s1_1 _ _ _ _ _ o1 o2 o3
  have e20 : f4_1_2 (g0_13 p1 p2 p3 p4 q5 p6) (g0_3 p1 p2 p3 p4 q5 p6) (g0_4 p1 p2 p3 p4 q5 p6) (g0_5 p1 p2 p3 p4 q5 p6) (g0_6 p1 p2 p3 p4 q5 p6) = g0_20 p1 p2 p3 p4 q5 p6 := own_s1_2 _ _ _ _ _ o1 o2 o3
  have e21 : f4_1_3 (g0_13 p1 p2 p3 p4 q5 p6) (g0_3 p1 p2 p3 p4 q5 p6) (g0_4 p1 p2 p3 p4 q5 p6) (g0_5 p1 p2 p3 p4 q5 p6) (g0_6 p1 p2 p3 p4 q5 p6) = g0_21 p1 p2 p3 p4 q5 p6 := own_s1_3 _ _ _ _ _ o1 o2 o3
  have e22 : f4_1_4 (g0_13 p1 p2 p3 p4 q5 p6) (g0_3 p1 p2 p3 p4 q5 p6) (g0_4 p1 p2 p3 p4 q5 p6) (g0_5 p1 p2 p3 p4 q5 p6) (g0_6 p1 p2 p3 p4 q5 p6) = g0_22 p1 p2 p3 p4 q5 p6 := own_s1_4 _ _ _ _ _ o1 o2 o3
  have e23 : f4_2_2 (g0_13 p1 p2 p3 p4 q5 p6) (g0_3 p1 p2 p3 p4 q5 p6) (g0_4 p1 p2 p3 p4 q5 p6) (g0_5 p1 p2 p3 p4 q5 p6) (g0_6 p1 p2 p3 p4 q5 p6) = g0_23 p1 p2 p3 p4 q5 p6 := own_s2_2 _ _ _ _ _ o1 o2 o3
  have e24 : f4_2_3 (g0_13 p1 p2 p3 p4 q5 p6) (g0_3 p1 p2 p3 p4 q5 p6) (g0_4 p1 p2 p3 p4 q5 p6) (g0_5 p1 p2 p3 p4 q5 p6) (g0_6 p1 p2 p3 p4 q5 p6) = g0_24 p1 p2 p3 p4 q5 p6 := own_s2_3 _ _ _ _ _ o1 o2 o3
  have e25 : f4_2_4 (g0_13 p1 p2 p3 p4 q5 p6) (g0_3 p1 p2 p3 p4 q5 p6) (g0_4 p1 p2 p3 p4 q5 p6) (g0_5 p1 p2 p3 p4 q5 p6) (g0_6 p1 p2 p3 p4 q5 p6) = g0_25 p1 p2 p3 p4 q5 p6 := own_s2_4 _ _ _ _ _ o1 o2 o3
  have e26 : f4_3_3 (g0_13 p1 p2 p3 p4 q5 p6) (g0_3 p1 p2 p3 p4 q5 p6) (g0_4 p1 p2 p3 p4 q5 p6) (g0_5 p1 p2 p3 p4 q5 p6) (g0_6 p1 p2 p3 p4 q5 p6) = g0_26 p1 p2 p3 p4 q5 p6 := own_s3_3 _ _ _ _ _ o1 o2 o3
  have e27 : f4_3_4 (g0_13 p1 p2 p3 p4 q5 p6) (g0_3 p1 p2 p3 p4 q5 p6) (g0_4 p1 p2 p3 p4 q5 p6) (g0_5 p1 p2 p3 p4 q5 p6) (g0_6 p1 p2 p3 p4 q5 p6) = g0_27 p1 p2 p3 p4 q5 p6 := own_s3_4 _ _ _ _ _ o1 o2 o3
  have e28 : f4_4_4 (g0_13 p1 p2 p3 p4 q5 p6) (g0_3 p1 p2 p3 p4 q5 p6) (g0_4 p1 p2 p3 p4 q5 p6) (g0_5 p1 p2 p3 p4 q5 p6) (g0_6 p1 p2 p3 p4 q5 p6) = g0_28 p1 p2 p3 p4 q5 p6 := own_s4_4 _ _ _ _ _ o1 o2 o3
  have rf := own_rf p1 p2 p3 p4 q5 p6
  have r0 := own_rt0 p1 p2 p3 p4 q5 p6
  have r1 := own_rt1 p1 p2 p3 p4 q5 p6
  have r2 := own_rt2 p1 p2 p3 p4 q5 p6
  have r3 := own_rt3 p1 p2 p3 p4 q5 p6
  have r4 := own_rt4 p1 p2 p3 p4 q5 p6
  simp only [f0, if_pos e14, if_pos e15, if_pos e16, if_pos e17, if_pos e18, if_pos e19, if_pos e20, if_pos e21, if_pos e22, if_pos e23, if_pos e24, if_pos e25, if_pos e26, if_pos e27, if_pos e28]
  clear o1 o2 o3 e14 e15 e16 e17 e18 e19 e20 e21 e22 e23 e24 e25 e26 e27 e28
  generalize g0_8 p1 p2 p3 p4 q5 p6 = b at *
  generalize g0_7 p1 p2 p3 p4 q5 p6 = a at *
  repeat' split
  all_goals first | rfl | (exfalso; first | (apply rf <;> assumption) | (apply r0 <;> assumption) | (apply r1 <;> assumption) | (apply r2 <;> assumption) | (apply r3 <;> assumption) | (apply r4 <;> assumption))

theorem own_met (l : Launch) (Z : State) (a0 : Array Value) (hw : ∀ d ∈ tables_1, d.before a0 Z = true) (ws : List Jvm.Cond) (p1 : Int32) (p2 : Int32) (p3 : Int32) (p4 : Int32) (q5 : Int64) (p6 : Int32) (h0 : Heap) :
    OMet l Z x code maxLocals ret ws room_1 #[(.int p1), (.int p2), (.int p3), (.int p4), (.long q5), (.int p6)] h0 (fun v h L => v = some (.int 1) ∧ Fr h0.size L) := by
  intro p e ha hc hk s m args below hf happ hP hK
  obtain ⟨n, o, h1, h2, h3, v, L, ho, ⟨hv, hL⟩, hq⟩ := rm0 l Z a0 hw ws p1 p2 p3 p4 q5 p6 h0 h0.size (Nat.le_refl _) p e ha hc hk s m args below hf happ hP hK
  rw [own_law] at hv
  exact ⟨n, o, h1, h2, h3, v, L, ho, ⟨hv, hL⟩, hq⟩
set_option maxRecDepth 65536 in
set_option maxHeartbeats 40000000 in
theorem comes_1 {Post : Tables → Env → Array Value → State → Outcome → State → Prop} (hpost : ∀ tb e args s v u, (limb_1_1.after args s (.returned v) u = true ∧ limb_1_2.after args s (.returned v) u = true ∧ True) → FrameEnd s (.returned v) u (Jvm.fieldLocs frame_1_writes args s ++ Jvm.arrayLocs frame_1_arrays args s ++ Jvm.staticLocs frame_1_statics s) 16 128 → Post tb e args s (.returned v) u) :
    ArmFor flags0 classFile x code maxLocals ret World_1 tables_1 room_1 Calls_1 rest_1 Pre_1 Post := by
  intro l hfl _ _ p e ha hc hk s m args below hf hA hF happ hP
  obtain ⟨hcalls, hrest, hpre⟩ := hP
  obtain ⟨-, -, -, hnamed, -, -, -, hat⟩ := (Spec.applies_iff hf).mp happ
  obtain ⟨hg, hn⟩ := and_e (Cond.before_iff.mp (show (Jvm.Cond.and given_1 narrow_1).before args s = true from hpre))
  obtain ⟨h1, g0⟩ := and_e hg
  obtain ⟨w0, w1, w2, w3, w4, w5, rfl⟩ : ∃ w0 w1 w2 w3 w4 w5 : Value, args = #[w0, w1, w2, w3, w4, w5] := by
    have hs : args.size = 6 := by simpa [Cond.value, given_1] using h1
    obtain ⟨L⟩ := args
    match L, hs with
    | [w0, w1, w2, w3, w4, w5], _ => exact ⟨w0, w1, w2, w3, w4, w5, rfl⟩
  have hw := fun d (hd : d ∈ tables_1) => atoms_spec (ws := Jvm.Cond.code x code maxLocals ret :: tables_1) hat d (List.mem_cons_of_mem _ hd)
  obtain ⟨b0, g1⟩ := and_e g0
  obtain ⟨i0, e0⟩ := is_v b0
  obtain rfl : w0 = (.int i0) := Option.some.inj e0
  obtain ⟨b1, g2⟩ := and_e g1
  obtain ⟨i1, e1⟩ := is_v b1
  obtain rfl : w1 = (.int i1) := Option.some.inj e1
  obtain ⟨b2, g3⟩ := and_e g2
  obtain ⟨i2, e2⟩ := is_v b2
  obtain rfl : w2 = (.int i2) := Option.some.inj e2
  obtain ⟨b3, g4⟩ := and_e g3
  obtain ⟨i3, e3⟩ := is_v b3
  obtain rfl : w3 = (.int i3) := Option.some.inj e3
  obtain ⟨b4, g5⟩ := and_e g4
  obtain ⟨i4, e4⟩ := isL_v b4
  obtain rfl : w4 = (.long i4) := Option.some.inj e4
  obtain ⟨i5, e5⟩ := is_v g5
  obtain rfl : w5 = (.int i5) := Option.some.inj e5
  obtain ⟨n, o, h1, h2, h3, _, L, rfl, ⟨rfl, N⟩, hq⟩ := own_met l s _ hw tables_1 i0 i1 i2 i3 i4 i5 s.heap p e ha hc hk s m _ below hf ((Spec.applies_iff_loose hf).mp happ).1 ⟨rfl, State.Warmed39.refl s, rfl⟩ trivial
  refine ⟨n, _, h1, h2, h3, hpost _ _ _ _ _ _ ⟨Cond.after_iff.mpr rfl, Cond.after_iff.mpr (eq_i res_at (Term.int_eval (1)) rfl), trivial⟩ ⟨hq.1, hq.2.1, (hq.2.2.sift fun y hy => Or.inr (N y hy)).mono (by decide) (by decide)⟩⟩
theorem main_1_1 : Claimed_1_1 := comes_1 fun _ _ _ _ _ _ h hF => ⟨h.1, hF⟩
theorem main_1_2 : Claimed_1_2 := comes_1 fun _ _ _ _ _ _ h hF => ⟨h.2.1, hF⟩
end Jvm.Pilot.@@N@@
namespace Jvm.Pilot.@@N@@
open Jvm Jvm.ClassFile Sem Op Lib Jvm.Free Jvm.Stand Jvm.Pilot.@@N@@.Jvm.D
/-! MADE BY PROGRAM (witnessworld.py) out of the Statement's table words and the real class files: 10 classes; the members and pool entries that the words name. The judged class is class 1, her method 1. -/
namespace start1
open Jvm.ClassFile
def u (s : String) : CpInfo := .utf8 (stringToUtf16 s)
/-- a pool by its gaps: so many unusable entries, then the entry; so many at the end -/
def gap : Nat → List CpInfo → List CpInfo
  | 0, r => r
  | n + 1, r => .unusable :: gap n r
def poolList (es : List (Nat × CpInfo)) (last : Nat) : List CpInfo := es.foldr (fun e r => gap e.1 (e.2 :: r)) (gap last [])
def pool (es : List (Nat × CpInfo)) (last : Nat) : Array CpInfo := ⟨poolList es last⟩
def fileOf (pool : Array CpInfo) (this : Nat) (attrs : Array Attribute := #[]) (ms : Array MethodInfo := #[]) (fl : Nat := 33) (sup : Nat := 0) (ifs : Array Nat := #[]) (fds : Array FieldInfo := #[]) : ClassFile where
  minorVersion := 0
  majorVersion := 65
  constantPool := pool
  accessFlags := fl
  thisClass := this
  superClass := sup
  interfaces := ifs
  fields := fds
  methods := ms
  attributes := attrs
def plain (name : String) (sup : Option ClassId) : Class where
  name := name
  kind := .ordinary
  loader := none
  accessFlags := 33
  super := sup
  interfaces := #[]
  cf := none
  fields := #[]
  methods := #[]
  instanceTypes := #[]
  staticTypes := #[]
  resolved := #[]
  callSites := []
  init := .initialized
  statics := none
  mirror := none

def pool0 : Array CpInfo := pool [(5, u "<init>"), (0, u "()V"), (1, .class_ 10), (1, u "java/lang/Object")] 113

def k0m0 : Method := { name := "<init>", desc := "()V", sig := { parameters := [], returnType := none }, accessFlags := 1, code := none }
/-- java/lang/Object -/
def k0 : Class := { plain "java/lang/Object" none with
  accessFlags := 33
  interfaces := #[]
  cf := some (fileOf pool0 8 #[] #[{ accessFlags := 1, nameIndex := 5, descriptorIndex := 6, attributes := #[] }] 33 0 #[] #[])
  fields := #[]
  methods := #[k0m0]
  instanceTypes := #[]
  staticTypes := #[]
  resolved := Array.replicate 124 none
  statics := none }

def pool1 : Array CpInfo := pool [(2, .class_ 4), (1, u "java/lang/Object"), (0, u "<init>"), (0, u "()V"), (0, .methodref 8 9), (0, .class_ 10), (0, .nameAndType 11 12), (0, u "java/lang/Math"), (0, u "min"), (0, u "(II)I"), (0, .methodref 8 14), (0, .nameAndType 15 12), (0, u "max"), (0, .integer 2147483647), (0, .long 2), (1, .methodref 20 21), (0, .class_ 22), (0, .nameAndType 23 24), (0, u "com/example/fragmark/fragmark/TermTokensIndexFromPinLaw"), (0, u "below"), (0, u "([IIIIJ)I"), (0, .methodref 26 27), (0, .class_ 28), (0, .nameAndType 29 30), (0, u "com/example/fragmark/fragmark/TermTokens"), (0, u "indexFrom"), (0, u "([IIIJ)I"), (2, u "law"), (0, u "(IIIIJI)Z")] 5

def k1m0 : Method := { name := "<init>", desc := "()V", sig := { parameters := [], returnType := none }, accessFlags := 1, code := none }
def k1c1 : Code := { maxStack := 7, maxLocals := 19, code := code, exceptionTable := #[], attributes := #[] }
def k1m1 : Method := { name := "law", desc := "(IIIIJI)Z", sig := { parameters := [.int, .int, .int, .int, .long, .int], returnType := some .boolean }, accessFlags := 9, code := some k1c1 }
def k1c2 : Code := { maxStack := 4, maxLocals := 6, code := method_3_code, exceptionTable := #[], attributes := #[] }
def k1m2 : Method := { name := "below", desc := "([IIIIJ)I", sig := { parameters := [(.array .int), .int, .int, .int, .long], returnType := some .int }, accessFlags := 10, code := some k1c2 }
/-- com/example/fragmark/fragmark/TermTokensIndexFromPinLaw -/
def k1 : Class := { plain "com/example/fragmark/fragmark/TermTokensIndexFromPinLaw" (some 0) with
  accessFlags := 49
  interfaces := #[]
  cf := some (fileOf pool1 20 #[] #[{ accessFlags := 1, nameIndex := 5, descriptorIndex := 6, attributes := #[] }, { accessFlags := 9, nameIndex := 33, descriptorIndex := 34, attributes := #[] }, { accessFlags := 10, nameIndex := 23, descriptorIndex := 24, attributes := #[] }] 49 2 #[] #[])
  fields := #[]
  methods := #[k1m0, k1m1, k1m2]
  instanceTypes := #[]
  staticTypes := #[]
  resolved := Array.replicate 40 none
  statics := none }

def pool2 : Array CpInfo := pool [(1, .class_ 2), (0, u "java/lang/Math"), (1, .class_ 6), (1, u "java/lang/Object"), (0, u "<init>"), (0, u "()V"), (89, .class_ 100), (1, u "java/lang/Math$RandomNumberGeneratorHolder"), (71, u "negativeZeroFloatBits"), (0, u "J"), (2, u "negativeZeroDoubleBits"), (21, u "max"), (2, u "min"), (43, u "$assertionsDisabled"), (0, u "Z"), (88, u "(II)I"), (2, u "twoToTheDoubleScaleDown"), (0, u "D"), (4, u "twoToTheDoubleScaleUp"), (9, u "E"), (3, u "PI"), (2, u "TAU"), (2, u "DEGREES_TO_RADIANS"), (0, u "RADIANS_TO_DEGREES")] 94

def k2m0 : Method := { name := "<init>", desc := "()V", sig := { parameters := [], returnType := none }, accessFlags := 2, code := none }
def k2c1 : Code := { maxStack := 2, maxLocals := 2, code := jdk_29_method_65_code, exceptionTable := #[], attributes := #[] }
def k2m1 : Method := { name := "max", desc := "(II)I", sig := { parameters := [.int, .int], returnType := some .int }, accessFlags := 9, code := some k2c1 }
def k2c2 : Code := { maxStack := 2, maxLocals := 2, code := jdk_29_method_69_code, exceptionTable := #[], attributes := #[] }
def k2m2 : Method := { name := "min", desc := "(II)I", sig := { parameters := [.int, .int], returnType := some .int }, accessFlags := 9, code := some k2c2 }
/-- java/lang/Math -/
def k2 : Class := { plain "java/lang/Math" (some 0) with
  accessFlags := 49
  interfaces := #[]
  cf := some (fileOf pool2 1 #[.nestMembers #[98]] #[{ accessFlags := 2, nameIndex := 7, descriptorIndex := 8, attributes := #[] }, { accessFlags := 9, nameIndex := 198, descriptorIndex := 335, attributes := #[] }, { accessFlags := 9, nameIndex := 201, descriptorIndex := 335, attributes := #[] }] 49 4 #[] #[{ accessFlags := 25, nameIndex := 354, descriptorIndex := 339, attributes := #[] }, { accessFlags := 25, nameIndex := 358, descriptorIndex := 339, attributes := #[] }, { accessFlags := 25, nameIndex := 361, descriptorIndex := 339, attributes := #[] }, { accessFlags := 26, nameIndex := 364, descriptorIndex := 339, attributes := #[] }, { accessFlags := 26, nameIndex := 365, descriptorIndex := 339, attributes := #[] }, { accessFlags := 26, nameIndex := 172, descriptorIndex := 173, attributes := #[] }, { accessFlags := 26, nameIndex := 176, descriptorIndex := 173, attributes := #[] }, { accessFlags := 8, nameIndex := 344, descriptorIndex := 339, attributes := #[] }, { accessFlags := 8, nameIndex := 338, descriptorIndex := 339, attributes := #[] }, { accessFlags := 4120, nameIndex := 245, descriptorIndex := 246, attributes := #[] }])
  fields := #[{ name := "E", type := .double, accessFlags := 25, slot := 0, constantValue := 0 }, { name := "PI", type := .double, accessFlags := 25, slot := 1, constantValue := 0 }, { name := "TAU", type := .double, accessFlags := 25, slot := 2, constantValue := 0 }, { name := "DEGREES_TO_RADIANS", type := .double, accessFlags := 26, slot := 3, constantValue := 0 }, { name := "RADIANS_TO_DEGREES", type := .double, accessFlags := 26, slot := 4, constantValue := 0 }, { name := "negativeZeroFloatBits", type := .long, accessFlags := 26, slot := 5, constantValue := 0 }, { name := "negativeZeroDoubleBits", type := .long, accessFlags := 26, slot := 6, constantValue := 0 }, { name := "twoToTheDoubleScaleUp", type := .double, accessFlags := 8, slot := 7, constantValue := 0 }, { name := "twoToTheDoubleScaleDown", type := .double, accessFlags := 8, slot := 8, constantValue := 0 }, { name := "$assertionsDisabled", type := .boolean, accessFlags := 4120, slot := 9, constantValue := 0 }]
  methods := #[k2m0, k2m1, k2m2]
  instanceTypes := #[]
  staticTypes := #[.double, .double, .double, .double, .double, .long, .long, .double, .double, .boolean]
  resolved := Array.replicate 460 none
  statics := none }

def pool3 : Array CpInfo := pool [(2, .class_ 4), (1, u "java/lang/Object"), (0, u "<init>"), (0, u "()V"), (1, .class_ 10), (1, u "com/example/fragmark/fragmark/TermTokens"), (0, u "positions"), (0, u "[I"), (2, u "starts"), (2, u "ends"), (2, u "repeats"), (2, u "size"), (0, u "I"), (12, u "repeatsSize"), (16, u "indexFrom"), (0, u "([IIIJ)I")] 17

def k3m0 : Method := { name := "<init>", desc := "()V", sig := { parameters := [], returnType := none }, accessFlags := 0, code := none }
def k3c1 : Code := { maxStack := 4, maxLocals := 8, code := prog_44_method_10_code, exceptionTable := #[], attributes := #[] }
def k3m1 : Method := { name := "indexFrom", desc := "([IIIJ)I", sig := { parameters := [(.array .int), .int, .int, .long], returnType := some .int }, accessFlags := 8, code := some k3c1 }
/-- com/example/fragmark/fragmark/TermTokens -/
def k3 : Class := { plain "com/example/fragmark/fragmark/TermTokens" (some 0) with
  accessFlags := 48
  interfaces := #[]
  cf := some (fileOf pool3 8 #[] #[{ accessFlags := 0, nameIndex := 5, descriptorIndex := 6, attributes := #[] }, { accessFlags := 8, nameIndex := 55, descriptorIndex := 56, attributes := #[] }] 48 2 #[] #[{ accessFlags := 2, nameIndex := 11, descriptorIndex := 12, attributes := #[] }, { accessFlags := 2, nameIndex := 15, descriptorIndex := 12, attributes := #[] }, { accessFlags := 2, nameIndex := 18, descriptorIndex := 12, attributes := #[] }, { accessFlags := 2, nameIndex := 24, descriptorIndex := 25, attributes := #[] }, { accessFlags := 2, nameIndex := 21, descriptorIndex := 12, attributes := #[] }, { accessFlags := 2, nameIndex := 38, descriptorIndex := 25, attributes := #[] }])
  fields := #[{ name := "positions", type := (.array .int), accessFlags := 2, slot := 0, constantValue := 0 }, { name := "starts", type := (.array .int), accessFlags := 2, slot := 1, constantValue := 0 }, { name := "ends", type := (.array .int), accessFlags := 2, slot := 2, constantValue := 0 }, { name := "size", type := .int, accessFlags := 2, slot := 3, constantValue := 0 }, { name := "repeats", type := (.array .int), accessFlags := 2, slot := 4, constantValue := 0 }, { name := "repeatsSize", type := .int, accessFlags := 2, slot := 5, constantValue := 0 }]
  methods := #[k3m0, k3m1]
  instanceTypes := #[(.array .int), (.array .int), (.array .int), .int, (.array .int), .int]
  staticTypes := #[]
  resolved := Array.replicate 74 none
  statics := none }

def pool4 : Array CpInfo := pool [(1, u "java/lang/Cloneable"), (0, .class_ 1), (0, u "java/lang/Object"), (0, .class_ 3)] 3

/-- java/lang/Cloneable -/
def k4 : Class := { plain "java/lang/Cloneable" (some 0) with
  accessFlags := 1537
  interfaces := #[]
  cf := some (fileOf pool4 2 #[] #[] 1537 4 #[] #[])
  fields := #[]
  methods := #[]
  instanceTypes := #[]
  staticTypes := #[]
  resolved := Array.replicate 8 none
  statics := none }

def pool5 : Array CpInfo := pool [(1, u "java/io/Serializable"), (0, .class_ 1), (0, u "java/lang/Object"), (0, .class_ 3)] 3

/-- java/io/Serializable -/
def k5 : Class := { plain "java/io/Serializable" (some 0) with
  accessFlags := 1537
  interfaces := #[]
  cf := some (fileOf pool5 2 #[] #[] 1537 4 #[] #[])
  fields := #[]
  methods := #[]
  instanceTypes := #[]
  staticTypes := #[]
  resolved := Array.replicate 8 none
  statics := none }

/-- the primitive byte -/
def k6 : Class := { plain "byte" none with kind := .primitive 'B', accessFlags := 0x411 }
/-- [B -/
def k7 : Class := { plain "[B" (some 0) with kind := .array 6 .byte, interfaces := #[4, 5], accessFlags := 1041 }

/-- the primitive int -/
def k8 : Class := { plain "int" none with kind := .primitive 'I', accessFlags := 0x411 }
/-- [I -/
def k9 : Class := { plain "[I" (some 0) with kind := .array 8 .int, interfaces := #[4, 5], accessFlags := 1041 }

def heap : Heap := #[]
def classes : Array Class := #[k0, k1, k2, k3, k4, k5, k6, k7, k8, k9]
def interned : List (Array UInt16 × Addr) := []
def slotsUsed : Nat := 0
def theMethod : MethodId := ⟨1, 1⟩
def args0 : Array Value := #[.int 5, .int 7, .int 1, .int 2, .long 3, .int 9]
def aboutOver (below : List Frame) : State where
  vm := { classes := classes, interned := interned.toArray }
  heap := heap
  slotsUsed := slotsUsed
  threads := #[{ frames := .invoking theMethod args0 :: below }]
def below0 : List Frame := [.native { method := ⟨0, 0⟩, args := #[] }]
def about1 : State := aboutOver below0
def p0 : Program := .bare "" "" ""
def e0 : Env := launch0.env 0 0 0
theorem w_frames : about1.frames = Frame.invoking theMethod args0 :: below0 := rfl
set_option maxRecDepth 65536 in
theorem w_args : argsFit about1.vm theMethod args0 = true := by decide +kernel
set_option maxRecDepth 65536 in
theorem w_heap : heapFits about1 = true := by decide +kernel
set_option maxRecDepth 65536 in
theorem w_runnable : about1.curStatus? = some .runnable := by decide +kernel
set_option maxRecDepth 65536 in
theorem w_alone : about1.alone = true := by decide +kernel
set_option maxRecDepth 65536 in
theorem w_named : about1.methodNamed? x = some theMethod := by decide +kernel
set_option maxRecDepth 65536 in
theorem w_hears : about1.hears theMethod below0 = true := by decide +kernel
set_option maxRecDepth 65536 in
theorem w_ripe : about1.ripe theMethod args0 below0 = true := by decide +kernel
theorem w_running : about1.status = .running := rfl
set_option maxRecDepth 65536 in
theorem w_room : about1.hasRoom e0.platform room_1 = true :=
  launch0.hasRoom_least _ room_1 (by decide +kernel) (by decide +kernel) (by decide +kernel) (by decide +kernel) (by decide +kernel) (by decide +kernel)
theorem allAtoms_all (ts : List Jvm.Cond) (a : Array Jvm.Value) (st : Jvm.State) : (allAtoms ts).before a st = ts.all (fun c => c.before a st) := by
  induction ts with
  | nil => rfl
  | cons c t ih =>
    show (Jvm.Cond.and c (allAtoms t)).before a st = _
    rw [Jvm.Cond.before_and, ih, List.all_cons]
def words1 : List Jvm.Cond := Jvm.Cond.code x code maxLocals ret :: tables_1
/-- a 'code' word, met by the world's own term for the bytes: nothing is compared byte by byte -/
theorem code_word {y : MethodName} {bytes : ByteArray} {mx : Nat} {rt : Option FieldType} {a : Array Value} {s : State} {m : MethodId} {meth : Method} {c : Code} (h1 : s.methodNamed? y = some m) (h2 : s.vm.method? m = some meth) (h3 : meth.code = some c) (h4 : c.code = bytes)
    (h5 : (c.maxLocals == mx && c.exceptionTable.isEmpty && decide (c.maxStack ≤ mostOperands) && decide (meth.sig.returnType = rt) && !meth.locks && decide (parseMethodDescriptor y.desc = some meth.sig)) = true) : (Jvm.Cond.code y bytes mx rt).before a s = true := by
  simp only [Bool.and_eq_true, beq_iff_eq, Bool.not_eq_true', decide_eq_true_eq] at h5
  obtain ⟨⟨⟨⟨⟨g1, g2⟩, g3⟩, g4⟩, g5⟩, g6⟩ := h5
  simp [Cond.before, Cond.holds, Cond.value, h1, h2, h3, h4, g1, g2, g3, g4, g5, g6]
def isCode : Jvm.Cond → Bool
  | .code _ _ _ _ => true
  | _ => false
theorem all_split {L : List Jvm.Cond} {P : Jvm.Cond → Bool} (h1 : L.all (fun c => isCode c || P c) = true) (h2 : ∀ c ∈ L.filter isCode, P c = true) : L.all P = true := by
  refine List.all_eq_true.mpr fun c hc => ?_
  have h := List.all_eq_true.mp h1 c hc
  rcases Bool.eq_false_or_eq_true (isCode c) with hi | hi
  · exact h2 c (List.mem_filter.mpr ⟨hc, hi⟩)
  · simpa [hi] using h
set_option maxRecDepth 65536 in
theorem w_c0 : (Jvm.Cond.code x code maxLocals ret).before args0 about1 = true := code_word (m := ⟨1, 1⟩) (meth := k1m1) (c := k1c1) (by decide +kernel) rfl rfl rfl (by decide +kernel)
set_option maxRecDepth 65536 in
theorem w_c1 : (Jvm.Cond.code ({ cls := "java/lang/Math", name := "min", desc := "(II)I" } : Jvm.MethodName) jdk_29_method_69_code (2 : Nat) (Option.some Jvm.ClassFile.FieldType.int)).before args0 about1 = true := code_word (m := ⟨2, 2⟩) (meth := k2m2) (c := k2c2) (by decide +kernel) rfl rfl rfl (by decide +kernel)
set_option maxRecDepth 65536 in
theorem w_c2 : (Jvm.Cond.code ({ cls := "java/lang/Math", name := "max", desc := "(II)I" } : Jvm.MethodName) jdk_29_method_65_code (2 : Nat) (Option.some Jvm.ClassFile.FieldType.int)).before args0 about1 = true := code_word (m := ⟨2, 1⟩) (meth := k2m1) (c := k2c1) (by decide +kernel) rfl rfl rfl (by decide +kernel)
set_option maxRecDepth 65536 in
theorem w_c3 : (Jvm.Cond.code ({ cls := "com/example/fragmark/fragmark/TermTokensIndexFromPinLaw", name := "below", desc := "([IIIIJ)I" } : Jvm.MethodName) method_3_code (6 : Nat) (Option.some Jvm.ClassFile.FieldType.int)).before args0 about1 = true := code_word (m := ⟨1, 2⟩) (meth := k1m2) (c := k1c2) (by decide +kernel) rfl rfl rfl (by decide +kernel)
set_option maxRecDepth 65536 in
theorem w_c4 : (Jvm.Cond.code ({ cls := "com/example/fragmark/fragmark/TermTokens", name := "indexFrom", desc := "([IIIJ)I" } : Jvm.MethodName) prog_44_method_10_code (8 : Nat) (Option.some Jvm.ClassFile.FieldType.int)).before args0 about1 = true := code_word (m := ⟨3, 1⟩) (meth := k3m1) (c := k3c1) (by decide +kernel) rfl rfl rfl (by decide +kernel)
def codes1 : List Jvm.Cond := [Jvm.Cond.code x code maxLocals ret, Jvm.Cond.code ({ cls := "java/lang/Math", name := "min", desc := "(II)I" } : Jvm.MethodName) jdk_29_method_69_code (2 : Nat) (Option.some Jvm.ClassFile.FieldType.int), Jvm.Cond.code ({ cls := "java/lang/Math", name := "max", desc := "(II)I" } : Jvm.MethodName) jdk_29_method_65_code (2 : Nat) (Option.some Jvm.ClassFile.FieldType.int), Jvm.Cond.code ({ cls := "com/example/fragmark/fragmark/TermTokensIndexFromPinLaw", name := "below", desc := "([IIIIJ)I" } : Jvm.MethodName) method_3_code (6 : Nat) (Option.some Jvm.ClassFile.FieldType.int), Jvm.Cond.code ({ cls := "com/example/fragmark/fragmark/TermTokens", name := "indexFrom", desc := "([IIIJ)I" } : Jvm.MethodName) prog_44_method_10_code (8 : Nat) (Option.some Jvm.ClassFile.FieldType.int)]
set_option maxRecDepth 65536 in
theorem codes_eq : words1.filter isCode = codes1 := rfl
theorem w_codes : ∀ c ∈ words1.filter isCode, c.before args0 about1 = true := by
  rw [codes_eq]
  intro c hc
  simp only [codes1, List.mem_cons, List.not_mem_nil, or_false] at hc
  rcases hc with rfl | rfl | rfl | rfl | rfl
  · exact w_c0
  · exact w_c1
  · exact w_c2
  · exact w_c3
  · exact w_c4
set_option maxRecDepth 65536 in
theorem w_t1 : words1.all (fun c => isCode c || c.before args0 about1) = true := by decide +kernel
theorem w_tables : (allAtoms (Jvm.Cond.code x code maxLocals ret :: tables_1)).before args0 about1 = true := by
  rw [allAtoms_all]
  show words1.all (fun c => c.before args0 about1) = true
  refine all_split ?_ w_codes
  rw [w_t1]
set_option maxRecDepth 65536 in
theorem w_case : (Jvm.Cond.and given_1 narrow_1).before args0 about1 = true := by decide +kernel
theorem w_applies : (headSpec (Jvm.Cond.code x code maxLocals ret :: tables_1) room_1).applies x e0.platform about1 = true :=
  (Spec.applies_iff w_frames).mpr ⟨w_running, w_runnable, w_alone, w_named, w_hears, w_ripe, w_room, w_tables⟩
theorem atStart : AtStart classFile x code maxLocals ret World_1 tables_1 room_1 Calls_1 rest_1 Pre_1 launch0 p0 e0 about1 theMethod args0 below0 :=
  ⟨lists_1, trivial, launch0.admits_env _ _ _, launch0.least_env, fairChoices_fair.cas, fairChoices_fair.clock, w_frames, w_args, w_heap, w_applies, trivial, trivial, w_case⟩
end start1
theorem witness_1 : WitnessClaimed_1 := ⟨start1.p0, start1.e0, start1.about1, start1.theMethod, start1.args0, start1.below0, start1.atStart⟩
end Jvm.Pilot.@@N@@
