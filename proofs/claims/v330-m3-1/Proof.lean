import JvmDerived
import JvmDerived.Pilot.@@N@@Statement
import JvmDerived.Pilot.@@N@@Code
set_option linter.unusedVariables false
set_option linter.unusedSimpArgs false
namespace Jvm.Pilot.@@N@@
open Jvm Jvm.ClassFile Sem Op Lib Jvm.Free Jvm.Stand Jvm.LawKit Jvm.RoadKit Bundle Jvm.Pilot.@@N@@.Jvm.D
/-! what a body's walk owes, in the manner of a continuation -/
section Own
variable {p : Program} {l : Launch} {e : Env} {R : Room} {s : State} {m : MethodId} {args : Array Value} {below : List Frame} {meth : Method} {c : Code} {T T' : State} {locs : List Loc} {cells slots : Nat} {Q Q' : Option Value → Heap → List Loc → Prop}
abbrev OMet (l : Launch) (Z : State) (y : MethodName) (bytes : ByteArray) (maxL : Nat) (ret : Option FieldType) (ws : List Jvm.Cond) (rm : Room) (as : Array Value) (h0 : Heap) (Q : Option Value → Heap → List Loc → Prop) : Prop :=
  MetFree l y (head1 (Jvm.Cond.code y bytes maxL ret :: ws) rm) (fun a U => a = as ∧ Z.Warmed39 U.vm ∧ U.heap = h0) (fun _ _ _ _ _ => True) (fun _ U o U' => ∃ v L, o = .returned v ∧ Q v U'.heap L ∧ FrameEnd U o U' L rm.cells rm.slots)
def OG (p : Program) (e : Env) (R : Room) (s : State) (below : List Frame) (Q : Option Value → Heap → List Loc → Prop) (T : State) (g : JFrame) : Prop :=
  ∃ s₂ o, Steps p.tables e below (T.setTop g) s₂ ∧ s₂.status = .running ∧ Ended s₂ below o ∧ ∃ v L, o = .returned v ∧ Q v s₂.heap L ∧ FrameEnd s o s₂ L R.cells R.slots
theorem own_st {g g' : JFrame} (h : ∀ t, Steps p.tables e below (T'.setTop g') t → Steps p.tables e below (T.setTop g) t) (k : OG p e R s below Q T' g') : OG p e R s below Q T g := by
  obtain ⟨s₂, o, h1, h2⟩ := k
  exact ⟨s₂, o, h _ h1, h2⟩
theorem own_sp {g g' : JFrame} {t : State} (h : ∀ t, Steps p.tables e below (T'.setTop g') t → Steps p.tables e below (T.setTop g) t) (k : Steps p.tables e below (T'.setTop g') t) : Steps p.tables e below (T.setTop g) t := h _ k
theorem own_cast {g g' : JFrame} (q : g = g') (k : OG p e R s below Q T g') : OG p e R s below Q T g := q ▸ k
theorem own_irr {x : Int64} : ¬ x < x := Int64.lt_irrefl
theorem own_if0 {cd : ClassFile.Cond} {x : Int32} {b : Bool} (h : if_icmp.holds cd x 0 = b) : ifCond.holds cd x = b := by rw [if0]; exact h
theorem own_retZ (X : Stand p l e R s m args below meth c T locs cells slots) (hx : p.tables.exec = Jvm.exec) {t : FieldType} (hret : meth.sig.returnType = some t) (ht : t = .boolean ∨ t = .byte ∨ t = .char ∨ t = .short) (hlk : meth.locks = false) {pc : Nat} {Ls : Array Slot} {z : Int32} {rest : List Value}
    (hd : decode c.code pc = .ok (.ireturn, 1)) (hc : cells ≤ R.cells) (hs : slots ≤ R.slots) {w : Int32} (hn : nar t z = w) (hq : Q (some (.int w)) T.heap locs) : OG p e R s below Q T (mkF m pc Ls (.int z :: rest)) := by
  subst hn
  obtain ⟨fs, hr, hrun, hended, hW, hsame⟩ := X.leave (v := some (.int (nar t z))) (fun h => by rw [hret] at h; cases h) hlk
  exact ⟨_, _, retN X hx hret ht hd hr, hrun, hended, _, _, rfl, hq, ⟨_, rfl⟩, hW, hsame.mono hc hs⟩
theorem own_retV (X : Stand p l e R s m args below meth c T locs cells slots) (hx : p.tables.exec = Jvm.exec) {t : FieldType} {i : Instr} {w : Value} (hret : meth.sig.returnType = some t) (hn : narrow t w = w)
    (hi : (i = .ireturn ∧ (t = .int ∨ t = .boolean ∨ t = .byte ∨ t = .char ∨ t = .short) ∧ ∃ z, w = .int z) ∨ (i = .lreturn ∧ t = .long ∧ ∃ z, w = .long z) ∨ (i = .dreturn ∧ t = .double ∧ ∃ z, w = .double z) ∨ (i = .freturn ∧ t = .float ∧ ∃ z, w = .float z) ∨ (i = .areturn ∧ t.isReference = true ∧ w.isRef = true))
    (hlk : meth.locks = false) {pc : Nat} {Ls : Array Slot} {rest : List Value}
    (hd : decode c.code pc = .ok (i, 1)) (hc : cells ≤ R.cells) (hs : slots ≤ R.slots) (hq : Q (some w) T.heap locs) : OG p e R s below Q T (mkF m pc Ls (w :: rest)) := by
  obtain ⟨fs, hr, hrun, hended, hW, hsame⟩ := X.leave (v := some w) (fun h => by rw [hret] at h; cases h) hlk
  exact ⟨_, _, retOut X hx hret hn hi hd hr, hrun, hended, _, _, rfl, hq, ⟨_, rfl⟩, hW, hsame.mono hc hs⟩
theorem own_retI (X : Stand p l e R s m args below meth c T locs cells slots) (hx : p.tables.exec = Jvm.exec) (hret : meth.sig.returnType = some .int) (hlk : meth.locks = false) {pc : Nat} {Ls : Array Slot} {z : Int32} {rest : List Value}
    (hd : decode c.code pc = .ok (.ireturn, 1)) (hc : cells ≤ R.cells) (hs : slots ≤ R.slots) (hq : Q (some (.int z)) T.heap locs) : OG p e R s below Q T (mkF m pc Ls (.int z :: rest)) :=
  own_retV X hx hret rfl (Or.inl ⟨rfl, Or.inl rfl, _, rfl⟩) hlk hd hc hs hq
theorem own_retL (X : Stand p l e R s m args below meth c T locs cells slots) (hx : p.tables.exec = Jvm.exec) (hret : meth.sig.returnType = some .long) (hlk : meth.locks = false) {pc : Nat} {Ls : Array Slot} {z : Int64} {rest : List Value}
    (hd : decode c.code pc = .ok (.lreturn, 1)) (hc : cells ≤ R.cells) (hs : slots ≤ R.slots) (hq : Q (some (.long z)) T.heap locs) : OG p e R s below Q T (mkF m pc Ls (.long z :: rest)) :=
  own_retV X hx hret rfl (Or.inr (Or.inl ⟨rfl, rfl, _, rfl⟩)) hlk hd hc hs hq
theorem own_ret0 (X : Stand p l e R s m args below meth c T locs cells slots) (hx : p.tables.exec = Jvm.exec) (hret : meth.sig.returnType = none) (hlk : meth.locks = false) {pc : Nat} {Ls : Array Slot}
    (hd : decode c.code pc = .ok (.return_, 1)) (hc : cells ≤ R.cells) (hs : slots ≤ R.slots) (hq : Q none T.heap locs) : OG p e R s below Q T (mkF m pc Ls []) := by
  obtain ⟨fs, hr, hrun, hended, hW, hsame⟩ := X.leave (v := none) (fun _ => rfl) hlk
  exact ⟨_, _, X.returnOut hx hret hd hr, hrun, hended, _, _, rfl, hq, ⟨_, rfl⟩, hW, hsame.mono hc hs⟩
theorem own_enter {Z : State} {y : MethodName} {bytes : ByteArray} {maxL : Nat} {ret : Option FieldType} {ws : List Jvm.Cond} {rm : Room} {as : Array Value} {h0 : Heap} (hp : plainFor y = true)
    (body : ∀ (p : Program) (e : Env) (s : State) (m : MethodId) (below : List Frame) (meth : Method) (c : Code) (s₁ : State), p.tables.exec = Jvm.exec → c.code = bytes → c.maxLocals = maxL → s.vm.findClass y.cls = some m.cls → meth.sig.returnType = ret → meth.locks = false → meth.name = y.name → Z.Warmed39 s.vm →
      Stand p l e rm s m as below meth c s₁ [] 0 0 → s₁.heap = h0 → OG p e rm s below Q s₁ (entryFrame m as maxL)) : OMet l Z y bytes maxL ret ws rm as h0 Q := by
  refine MetFree.of_bodySF hp hisR ?_
  intro p e s m args below meth c s₁ Bd hml0 hP hK
  obtain ⟨rfl, hZ, hh⟩ := hP
  exact body p e s m below meth c s₁ Bd.exec Bd.bytes hml0 (findClass_of_methodNamed Bd.named) Bd.returns Bd.notSynchronized (name_of_methodNamed Bd.named Bd.method).1 hZ (Stand.of_body Bd) (by rw [← hh, Bd.state]; rfl)
end Own
section OwnH
variable {Z : State} {h h' h0 : Heap} {a b : Addr} {ty : FieldType} {vs : List Value} {n sl : Nat} {v : Value} {ws : List Addr}
/-- an array, by the whole list of what it holds -/
def OA (Z : State) (h : Heap) (a : Addr) (ty : FieldType) (vs : List Value) : Prop := ∃ c : Cell, Arr Z h a c ty ∧ c.slots.toList = vs
/-- an array, by its length alone -/
def OL (Z : State) (h : Heap) (a : Addr) (ty : FieldType) (n : Nat) : Prop := ∃ c : Cell, Arr Z h a c ty ∧ c.slots.size = n
theorem OA.lt (F : OA Z h a ty vs) : a < h.size := by obtain ⟨c, A, -⟩ := F; exact A.lt
theorem OL.lt (F : OL Z h a ty n) : a < h.size := by obtain ⟨c, A, -⟩ := F; exact A.lt
theorem OA.ext (F : OA Z h a ty vs) (E : Ext h h') : OA Z h' a ty vs := by obtain ⟨c, A, r⟩ := F; exact ⟨c, A.ext E, r⟩
theorem OL.ext (F : OL Z h a ty n) (E : Ext h h') : OL Z h' a ty n := by obtain ⟨c, A, r⟩ := F; exact ⟨c, A.ext E, r⟩
theorem OA.other (F : OA Z h b ty vs) (W : Wr h h' a sl v) (q : b ≠ a) : OA Z h' b ty vs := by obtain ⟨c, A, r⟩ := F; exact ⟨c, A.other W q, r⟩
theorem OL.other (F : OL Z h b ty n) (W : Wr h h' a sl v) (q : b ≠ a) : OL Z h' b ty n := by obtain ⟨c, A, r⟩ := F; exact ⟨c, A.other W q, r⟩
theorem OA.keep (F : OA Z h a ty vs) (K : Keep h h' ws) (q : a ∉ ws) : OA Z h' a ty vs := by obtain ⟨c, A, r⟩ := F; exact ⟨c, ⟨K.2.1 a c A.1 q, A.2⟩, r⟩
theorem OL.keep (F : OL Z h a ty n) (K : Keep h h' ws) (q : a ∉ ws) : OL Z h' a ty n := by obtain ⟨c, A, r⟩ := F; exact ⟨c, ⟨K.2.1 a c A.1 q, A.2⟩, r⟩
theorem OA.new {k : ClassId} {z : Int32} (A : Arr Z h a (newA k ty z) ty) : OA Z h a ty (List.replicate z.toNatClampNeg (defaultValue ty)) := ⟨_, A, by show (Array.replicate _ _).toList = _; exact Array.toList_replicate⟩
theorem OL.new {k : ClassId} {z : Int32} (A : Arr Z h a (newA k ty z) ty) : OL Z h a ty z.toNatClampNeg := ⟨_, A, sz_new _ _ _⟩
theorem OA.len (F : OA Z h a ty vs) : ∃ c : Cell, Arr Z h a c ty ∧ c.slots.size = vs.length := by obtain ⟨c, A, r⟩ := F; exact ⟨c, A, by rw [← r]; simp⟩
theorem OA.set {j : Int32} {i : Nat} (F : OA Z h a ty vs) (W : Wr h h' a j.toNatClampNeg v) (hj : j.toNatClampNeg = i) : OA Z h' a ty (vs.set i v) := by
  obtain ⟨c, A, r⟩ := F
  refine ⟨_, A.same W, ?_⟩
  subst hj r
  show (c.slots.setIfInBounds _ _).toList = _
  exact Array.toList_setIfInBounds
theorem OL.set {j : Int32} (F : OL Z h a ty n) (W : Wr h h' a j.toNatClampNeg v) : OL Z h' a ty n := by
  obtain ⟨c, A, r⟩ := F
  exact ⟨_, A.same W, by rw [sz_set]; exact r⟩
theorem own_rd (F : OA Z h a ty vs) {j : Int32} {i : Nat} (hj : j.toNatClampNeg = i) (hn : ¬ j < 0) (hv : vs[i]? = some v) : ∃ c : Cell, Arr Z h a c ty ∧ ¬ (j < 0 ∨ c.slots.size ≤ j.toNatClampNeg) ∧ c.slots[j.toNatClampNeg]? = some v := by
  obtain ⟨c, A, r⟩ := F
  subst hj r
  rw [Array.getElem?_toList] at hv
  refine ⟨c, A, fun q => ?_, hv⟩
  rcases q with q | q
  · exact hn q
  · have := (Array.getElem?_eq_some_iff.mp hv).1; omega
theorem own_wr (F : OA Z h a ty vs) {j : Int32} {i : Nat} (hj : j.toNatClampNeg = i) (hn : ¬ j < 0) (hi : i < vs.length) : ∃ c : Cell, Arr Z h a c ty ∧ ¬ (j < 0 ∨ c.slots.size ≤ j.toNatClampNeg) := by
  obtain ⟨c, A, r⟩ := F
  subst hj r
  rw [Array.length_toList] at hi
  refine ⟨c, A, fun q => ?_⟩
  rcases q with q | q
  · exact hn q
  · omega
theorem own_wrL (F : OL Z h a ty n) {j : Int32} (hj : ¬ j < 0 ∧ j.toNatClampNeg < n) : ∃ c : Cell, Arr Z h a c ty ∧ ¬ (j < 0 ∨ c.slots.size ≤ j.toNatClampNeg) := by
  obtain ⟨c, A, r⟩ := F
  subst r
  exact ⟨c, A, fun q => by rcases q with q | q; exact hj.1 q; omega⟩
theorem own_selp {s : State} {y : MethodName} {a0 args : Array Value} {k : Nat} (hZ : Z.Warmed39 s.vm) (wi : (Jvm.Cond.instantiable y.cls k).before a0 Z = true) (wp : (Jvm.Cond.privateMethod y).before a0 Z = true) (wm : (Jvm.Cond.instanceMethod y).before a0 Z = true) (hy : y.cls ≠ "java/lang/invoke/MethodHandle" ∧ y.cls ≠ "java/lang/invoke/VarHandle") : (Jvm.Cond.selects y.cls y y).before args s = true := by
  have wi' : (Jvm.Cond.instantiable y.cls k).before args s = true := mv hZ wi
  obtain ⟨c, kc, i1, i2, -, i4, -⟩ := Cond.instantiable_spec wi'
  exact selects_self_of_private i1 i2 (Bool.or_eq_false_iff.mp i4).1 (Cond.privateMethod_at (mvP hZ wp (args := args))) (mvT hZ wm) hy
theorem own_all0 {P : Addr → Prop} : ∀ x ∈ ([] : List Addr), P x := fun x hx => by cases hx
theorem own_all1 {P : Addr → Prop} {a : Addr} (h : P a) : ∀ x ∈ [a], P x := fun x hx => by simp only [List.mem_cons, List.not_mem_nil, or_false] at hx; subst hx; exact h
theorem own_all2 {P : Addr → Prop} {a b : Addr} (h : P a) (h2 : P b) : ∀ x ∈ [a, b], P x := fun x hx => by
  simp only [List.mem_cons, List.not_mem_nil, or_false] at hx; rcases hx with rfl | rfl; exact h; exact h2
theorem own_all3 {P : Addr → Prop} {a b c : Addr} (h : P a) (h2 : P b) (h3 : P c) : ∀ x ∈ [a, b, c], P x := fun x hx => by
  simp only [List.mem_cons, List.not_mem_nil, or_false] at hx; rcases hx with rfl | rfl | rfl; exact h; exact h2; exact h3
theorem own_all4 {P : Addr → Prop} {a b c d : Addr} (h : P a) (h2 : P b) (h3 : P c) (h4 : P d) : ∀ x ∈ [a, b, c, d], P x := fun x hx => by
  simp only [List.mem_cons, List.not_mem_nil, or_false] at hx; rcases hx with rfl | rfl | rfl | rfl; exact h; exact h2; exact h3; exact h4
theorem own_nin0 {x : Addr} : x ∉ ([] : List Addr) := List.not_mem_nil
theorem own_nin1 {x a : Addr} (h : x ≠ a) : x ∉ [a] := by simp [h]
theorem own_nin2 {x a b : Addr} (h : x ≠ a) (h2 : x ≠ b) : x ∉ [a, b] := by simp [h, h2]
theorem own_nin3 {x a b c : Addr} (h : x ≠ a) (h2 : x ≠ b) (h3 : x ≠ c) : x ∉ [a, b, c] := by simp [h, h2, h3]
theorem own_nin4 {x a b c d : Addr} (h : x ≠ a) (h2 : x ≠ b) (h3 : x ≠ c) (h4 : x ≠ d) : x ∉ [a, b, c, d] := by simp [h, h2, h3, h4]
end OwnH
/-- the builder's length, with room for k more -/
def OB (n : Int32) (k : Nat) : Prop := 0 ≤ n.toInt ∧ n.toInt + k ≤ 256
theorem OB.step {n : Int32} {k : Nat} (h : OB n (k + 1)) : OB (n + 1) k := by
  obtain ⟨h1, h2⟩ := h
  have s := c_iadd n 1
  have r := rng32 (n + 1)
  have k1 : (1 : Int32).toInt = 1 := by decide
  rw [k1] at s
  constructor <;> omega
theorem OB.weak {n : Int32} {k k' : Nat} (h : OB n k) (q : k' ≤ k) : OB n k' := by obtain ⟨h1, h2⟩ := h; exact ⟨h1, by omega⟩
theorem OB.lit {n : Int32} {k : Nat} (h : 0 ≤ n.toInt ∧ n.toInt + k ≤ 256) : OB n k := h
theorem OB.ix {n : Int32} (h : OB n 1) : ¬ n < 0 ∧ n.toNatClampNeg < 256 := by
  obtain ⟨h1, h2⟩ := h
  have k0 : (0 : Int32).toInt = 0 := by decide
  rw [Int32.lt_iff_toInt_lt, k0]
  refine ⟨by omega, ?_⟩
  show n.toInt.toNat < 256
  omega
theorem OB.res {n : Int32} (h : OB n 1) : ¬ ((256 : Int32) - n) < (1 : Int32) := by
  obtain ⟨h1, h2⟩ := h
  have s := c_isub 256 n
  have r := rng32 (256 - n)
  have k1 : (1 : Int32).toInt = 1 := by decide
  have k256 : (256 : Int32).toInt = 256 := by decide
  rw [k256] at s
  rw [Int32.lt_iff_toInt_lt, k1]
  omega
def OQ (q : Int64) : Prop := 0 ≤ q.toInt ∧ q.toInt < 4294967296
theorem own_neg128 (x : Int64) (h0 : 0 ≤ x.toInt) : (x &&& (-128 : Int64)) = 0 ↔ x.toInt < 128 := by
  have m := c_maskL x 127 7 (by decide) (by decide)
  have e : x = (x &&& 127) ||| (x &&& (-128 : Int64)) := by
    apply Int64.toBitVec_inj.mp
    rw [Int64.toBitVec_or, Int64.toBitVec_and, Int64.toBitVec_and, ← BitVec.and_or_distrib_left, show (127 : Int64).toBitVec ||| (-128 : Int64).toBitVec = BitVec.allOnes 64 from by decide, BitVec.and_allOnes]
  constructor
  · intro q
    rw [q, Int64.or_zero] at e
    rw [← e] at m
    omega
  · intro q
    have e2 : x &&& 127 = x := Int64.toInt_inj.mp (by rw [m]; omega)
    rw [← e2, Int64.and_assoc, show ((127 : Int64) &&& (-128 : Int64)) = 0 from by decide, Int64.and_zero]
theorem own_shr7 (x : Int64) (h0 : 0 ≤ x.toInt) : ((x.toUInt64 >>> ((7 : Int32) &&& 0x3f).toInt64.toUInt64).toInt64).toInt = x.toInt / 128 := by
  have h := c_lushr x 7 7 (by decide) (by decide)
  have r := rng64 x
  rw [h, Int.emod_eq_of_lt h0 (by omega)]; rfl
theorem d3_0 : decode prog_1_method_1_code 0 = .ok (.aload_n 0, 1) := by decide +kernel
theorem d3_1 : decode prog_1_method_1_code 1 = .ok (.invokespecial 1, 3) := by decide +kernel
theorem d3_4 : decode prog_1_method_1_code 4 = .ok (.aload_n 0, 1) := by decide +kernel
theorem d3_5 : decode prog_1_method_1_code 5 = .ok (.iload_n 1, 1) := by decide +kernel
theorem d3_6 : decode prog_1_method_1_code 6 = .ok (.newarray .byte, 2) := by decide +kernel
theorem d3_8 : decode prog_1_method_1_code 8 = .ok (.putfield 7, 3) := by decide +kernel
theorem d3_11 : decode prog_1_method_1_code 11 = .ok (.return_, 1) := by decide +kernel
theorem pn_3 : plainFor (⟨"com/example/partwise/partwise/ByteBuilder", "<init>", "(I)V"⟩ : MethodName) = true := by first | exact plainFor_of_name (by first | (simp [plainName, overriddenIn]; done) | decide +kernel) | decide +kernel
theorem ef_3 (m : MethodId) (a1 : Addr) : entryFrame m #[(.ref a1), (.int (256 : Int32))] 2 = (mkF m 0 #[.val (.ref a1), .val (.int (256 : Int32))] []) := by first | (simp [entryFrame, mkF, argsToLocals, Value.category]; done) | rfl
abbrev Q3 (Z : State) (a1 : Addr) (h0 : Heap) (n0 : Nat) : Option Value → Heap → List Loc → Prop := (fun v h L => v = none ∧ Fr n0 L ∧ Keep h0 h [a1] ∧ ∃ buf : Addr, h0.size ≤ buf ∧ Exa Z h a1 "com/example/partwise/partwise/ByteBuilder" ∧ Fld Z h a1 "com/example/partwise/partwise/ByteBuilder" "bytes" "[B" (.ref buf) ∧ Fld Z h a1 "com/example/partwise/partwise/ByteBuilder" "length" "I" (.int (0 : Int32)) ∧ OL Z h buf .byte 256)
set_option maxRecDepth 65536 in
set_option maxHeartbeats 40000000 in
theorem rm3 (l : Launch) (Z : State) (a0 : Array Value) (hw : ∀ d ∈ tables_1, d.before a0 Z = true) (ws : List Jvm.Cond) (a1 : Addr) (h0 : Heap) (n0 : Nat) (Z0 : n0 ≤ h0.size) (R0 : Exa Z h0 a1 "com/example/partwise/partwise/ByteBuilder") (R1 : Fld Z h0 a1 "com/example/partwise/partwise/ByteBuilder" "bytes" "[B" .null) (R2 : Fld Z h0 a1 "com/example/partwise/partwise/ByteBuilder" "length" "I" (.int (0 : Int32))) (g_a1 : n0 ≤ a1) :
    OMet l Z (⟨"com/example/partwise/partwise/ByteBuilder", "<init>", "(I)V"⟩ : MethodName) prog_1_method_1_code 2 none ws ({ frames := 1, cells := 1, slots := 256, locals := 12 } : Room) #[(.ref a1), (.int (256 : Int32))] h0 (Q3 Z a1 h0 n0) := by
  refine own_enter pn_3 ?_
  intro p e s m below meth c s₁ hx hby hml0 hown hret hlk hnm hZ X0 e0
  have hml : c.maxLocals = 2 := hml0
  have N0 := Fr.nil n0
  refine own_cast (ef_3 m a1) ?_
  show OG p e ({ frames := 1, cells := 1, slots := 256, locals := 12 } : Room) s below (fun v h L => v = none ∧ Fr n0 L ∧ Keep h0 h [a1] ∧ ∃ buf : Addr, h0.size ≤ buf ∧ Exa Z h a1 "com/example/partwise/partwise/ByteBuilder" ∧ Fld Z h a1 "com/example/partwise/partwise/ByteBuilder" "bytes" "[B" (.ref buf) ∧ Fld Z h a1 "com/example/partwise/partwise/ByteBuilder" "length" "I" (.int (0 : Int32)) ∧ OL Z h buf .byte 256) s₁ (mkF m 0 #[.val (.ref a1), .val (.int (256 : Int32))] [])
  refine own_st (fun t k => XS.aloadN X0.here hx rfl (hb hby d3_0) rfl rfl k) ?_
  show OG p e _ s below _ s₁ (mkF m 1 #[.val (.ref a1), .val (.int (256 : Int32))] [(.ref a1)])
  obtain ⟨T1, X1, e1, st1⟩ := initO X0 hx hZ hown (hw _ (List.mem_of_getElem? (i := 15) rfl)) (hw _ (List.mem_of_getElem? (i := 7) rfl)) (hw _ (List.mem_of_getElem? (i := 8) rfl)) e0 (g := (mkF m 1 #[.val (.ref a1), .val (.int (256 : Int32))] [(.ref a1)])) rfl (by rw [hml]; rfl) rfl (hb hby d3_1) (by decide) (W := 0) (by show 2 * 0 + _ ≤ _; exact Nat.le_of_eq rfl) (by decide)
  refine own_st st1 ?_
  show OG p e _ s below _ T1 (mkF m 4 #[.val (.ref a1), .val (.int (256 : Int32))] [])
  refine own_st (fun t k => XS.aloadN X1.here hx rfl (hb hby d3_4) rfl rfl k) ?_
  show OG p e _ s below _ T1 (mkF m 5 #[.val (.ref a1), .val (.int (256 : Int32))] [(.ref a1)])
  refine own_st (fun t k => XS.iloadN X1.here hx rfl (hb hby d3_5) rfl k) ?_
  show OG p e _ s below _ T1 (mkF m 6 #[.val (.ref a1), .val (.int (256 : Int32))] [(.int (256 : Int32)), (.ref a1)])
  obtain ⟨T2, h2, k2, X2, e2, E2, A2, st2⟩ := newP X1 hx hZ (hw _ (List.mem_of_getElem? (i := 16) rfl)) e1 (g := (mkF m 6 #[.val (.ref a1), .val (.int (256 : Int32))] [(.int (256 : Int32)), (.ref a1)])) rfl (hb hby d3_6) rfl (by decide) (cap := 256) (by decide) (by decide) (by decide) (by decide)
  obtain ⟨b2, gb2⟩ : ∃ z, z = h0.size := ⟨_, rfl⟩
  rw [← gb2] at A2 st2
  refine own_st st2 ?_
  have ge_b2 : n0 ≤ b2 := by rw [gb2]; exact Nat.le_trans Z0 (Keep.refl h0 [a1]).1
  have sz_b2 : h0.size ≤ b2 := by rw [gb2]; exact (Keep.refl h0 [a1]).1
  have ne_a1_b2 : a1 ≠ b2 := Nat.ne_of_lt (Nat.lt_of_lt_of_eq R0.lt gb2.symm)
  have F3 : Exa Z h2 a1 "com/example/partwise/partwise/ByteBuilder" := (R0.ext E2)
  have F4 : Fld Z h2 a1 "com/example/partwise/partwise/ByteBuilder" "bytes" "[B" .null := (R1.ext E2)
  have F5 : Fld Z h2 a1 "com/example/partwise/partwise/ByteBuilder" "length" "I" (.int (0 : Int32)) := (R2.ext E2)
  have K6 : Keep h0 h2 [a1] := (Keep.refl h0 [a1]).ext E2
  have F7 : OL Z h2 b2 .byte 256 := OL.new A2
  show OG p e _ s below _ T2 (mkF m 8 #[.val (.ref a1), .val (.int (256 : Int32))] [(.ref b2), (.ref a1)])
  obtain ⟨T8, h8, X8, e8, W8, st8⟩ := putF X2 hx hZ hown (host := "") (Or.inl (hw _ (List.mem_of_getElem? (i := 17) rfl))) Via.refl e2 F4 F3 (Or.inl (hw _ (List.mem_of_getElem? (i := 18) rfl))) (hw _ (List.mem_of_getElem? (i := 10) rfl)) (ty := (.array .byte)) (by decide) rfl rfl (g := (mkF m 8 #[.val (.ref a1), .val (.int (256 : Int32))] [(.ref b2), (.ref a1)])) rfl rfl (hb hby d3_8)
  refine own_st st8 ?_
  have N8 := Fr.snoc X8 N0 g_a1
  have K9 : Keep h0 h8 [a1] := K6.wr W8 (Or.inl (List.mem_of_getElem? (i := 0) rfl))
  have F10 : Exa Z h8 a1 "com/example/partwise/partwise/ByteBuilder" := (F3.wr W8)
  have F11 : Fld Z h8 a1 "com/example/partwise/partwise/ByteBuilder" "bytes" "[B" (.ref b2) := (F4.same W8)
  have F12 : Fld Z h8 a1 "com/example/partwise/partwise/ByteBuilder" "length" "I" (.int (0 : Int32)) := (F5.other W8 (Or.inr (slot_ne (Or.inl (hw _ (List.mem_of_getElem? (i := 46) rfl))) (Or.inl (hw _ (List.mem_of_getElem? (i := 18) rfl))) (by decide) (t := .int) (t' := (.array .byte)) (by decide) (by decide))))
  have F13 : OL Z h8 b2 .byte 256 := (F7.other W8 (Ne.symm ne_a1_b2))
  show OG p e _ s below _ T8 (mkF m 11 #[.val (.ref a1), .val (.int (256 : Int32))] [])
  refine own_ret0 X8 hx hret hlk (hb hby d3_11) (by decide) (by decide) ?_
  rw [e8]
  exact ⟨rfl, N8, K9, b2, sz_b2, F10, F11, F12, F13⟩
theorem d7_0 : decode prog_1_method_10_code 0 = .ok (.aload_n 0, 1) := by decide +kernel
theorem d7_1 : decode prog_1_method_10_code 1 = .ok (.getfield 7, 3) := by decide +kernel
theorem d7_4 : decode prog_1_method_10_code 4 = .ok (.arraylength, 1) := by decide +kernel
theorem d7_5 : decode prog_1_method_10_code 5 = .ok (.aload_n 0, 1) := by decide +kernel
theorem d7_6 : decode prog_1_method_10_code 6 = .ok (.getfield 17, 3) := by decide +kernel
theorem d7_9 : decode prog_1_method_10_code 9 = .ok (.isub, 1) := by decide +kernel
theorem d7_10 : decode prog_1_method_10_code 10 = .ok (.iload_n 1, 1) := by decide +kernel
theorem d7_11 : decode prog_1_method_10_code 11 = .ok (.if_icmp .ge 30, 3) := by decide +kernel
theorem d7_41 : decode prog_1_method_10_code 41 = .ok (.return_, 1) := by decide +kernel
theorem pn_7 : plainFor (⟨"com/example/partwise/partwise/ByteBuilder", "reserve", "(I)V"⟩ : MethodName) = true := by first | exact plainFor_of_name (by first | (simp [plainName, overriddenIn]; done) | decide +kernel) | decide +kernel
theorem ef_7 (m : MethodId) (a1 : Addr) : entryFrame m #[(.ref a1), (.int (1 : Int32))] 2 = (mkF m 0 #[.val (.ref a1), .val (.int (1 : Int32))] []) := by first | (simp [entryFrame, mkF, argsToLocals, Value.category]; done) | rfl
abbrev Q7 (Z : State) (a1 : Addr) (buf : Addr) (n : Int32) (h0 : Heap) (n0 : Nat) : Option Value → Heap → List Loc → Prop := (fun v h L => v = none ∧ Fr n0 L ∧ Keep h0 h [])
set_option maxRecDepth 65536 in
set_option maxHeartbeats 40000000 in
theorem rm7 (l : Launch) (Z : State) (a0 : Array Value) (hw : ∀ d ∈ tables_1, d.before a0 Z = true) (ws : List Jvm.Cond) (a1 : Addr) (buf : Addr) (n : Int32) (h0 : Heap) (n0 : Nat) (R0 : Fld Z h0 a1 "com/example/partwise/partwise/ByteBuilder" "bytes" "[B" (.ref buf)) (R1 : Fld Z h0 a1 "com/example/partwise/partwise/ByteBuilder" "length" "I" (.int n)) (R2 : OL Z h0 buf .byte 256) (hn : OB n 1) :
    OMet l Z (⟨"com/example/partwise/partwise/ByteBuilder", "reserve", "(I)V"⟩ : MethodName) prog_1_method_10_code 2 none ws ({ frames := 0, cells := 0, slots := 0, locals := 0 } : Room) #[(.ref a1), (.int (1 : Int32))] h0 (Q7 Z a1 buf n h0 n0) := by
  refine own_enter pn_7 ?_
  intro p e s m below meth c s₁ hx hby hml0 hown hret hlk hnm hZ X0 e0
  have hml : c.maxLocals = 2 := hml0
  have N0 := Fr.nil n0
  refine own_cast (ef_7 m a1) ?_
  show OG p e ({ frames := 0, cells := 0, slots := 0, locals := 0 } : Room) s below (fun v h L => v = none ∧ Fr n0 L ∧ Keep h0 h []) s₁ (mkF m 0 #[.val (.ref a1), .val (.int (1 : Int32))] [])
  refine own_st (fun t k => XS.aloadN X0.here hx rfl (hb hby d7_0) rfl rfl k) ?_
  show OG p e _ s below _ s₁ (mkF m 1 #[.val (.ref a1), .val (.int (1 : Int32))] [(.ref a1)])
  obtain ⟨T1, X1, e1, st1⟩ := getF X0 hx hZ hown (host := "") (Or.inl (hw _ (List.mem_of_getElem? (i := 17) rfl))) Via.refl e0 R0 (g := (mkF m 1 #[.val (.ref a1), .val (.int (1 : Int32))] [(.ref a1)])) rfl rfl (hb hby d7_1)
  refine own_st st1 ?_
  show OG p e _ s below _ T1 (mkF m 4 #[.val (.ref a1), .val (.int (1 : Int32))] [(.ref buf)])
  obtain ⟨cl2, Ar2, hz2⟩ := R2
  refine own_st (fun t k => X1.arraylength hx (by rw [e1]; exact Ar2.1) (State.isArrayOf_alike hZ.alike Ar2.2.1) (g := (mkF m 4 #[.val (.ref a1), .val (.int (1 : Int32))] [(.ref buf)])) rfl rfl (hb hby d7_4) t k) ?_
  rw [hz2]
  show OG p e _ s below _ T1 (mkF m 5 #[.val (.ref a1), .val (.int (1 : Int32))] [(.int (256 : Int32))])
  refine own_st (fun t k => XS.aloadN X1.here hx rfl (hb hby d7_5) rfl rfl k) ?_
  show OG p e _ s below _ T1 (mkF m 6 #[.val (.ref a1), .val (.int (1 : Int32))] [(.ref a1), (.int (256 : Int32))])
  obtain ⟨T3, X3, e3, st3⟩ := getF X1 hx hZ hown (host := "") (Or.inl (hw _ (List.mem_of_getElem? (i := 45) rfl))) Via.refl e1 R1 (g := (mkF m 6 #[.val (.ref a1), .val (.int (1 : Int32))] [(.ref a1), (.int (256 : Int32))])) rfl rfl (hb hby d7_6)
  refine own_st st3 ?_
  show OG p e _ s below _ T3 (mkF m 9 #[.val (.ref a1), .val (.int (1 : Int32))] [(.int n), (.int (256 : Int32))])
  refine own_st (fun t k => XS.isub X3.here hx rfl (hb hby d7_9) rfl k) ?_
  show OG p e _ s below _ T3 (mkF m 10 #[.val (.ref a1), .val (.int (1 : Int32))] [(.int ((256 : Int32) - n))])
  refine own_st (fun t k => XS.iloadN X3.here hx rfl (hb hby d7_10) rfl k) ?_
  show OG p e _ s below _ T3 (mkF m 11 #[.val (.ref a1), .val (.int (1 : Int32))] [(.int (1 : Int32)), (.int ((256 : Int32) - n))])
  refine own_st (fun t k => XS.icmpYes X3.here hx rfl (pc0 := 11) (pc' := 41) rfl (hb hby d7_11) rfl (flt hn.res).2.1 (by decide) (by decide) k) ?_
  show OG p e _ s below _ T3 (mkF m 41 #[.val (.ref a1), .val (.int (1 : Int32))] [])
  refine own_ret0 X3 hx hret hlk (hb hby d7_41) (by decide) (by decide) ?_
  rw [e3]
  exact ⟨rfl, N0, (Keep.refl h0 [])⟩
theorem d6_0 : decode prog_1_method_2_code 0 = .ok (.aload_n 0, 1) := by decide +kernel
theorem d6_1 : decode prog_1_method_2_code 1 = .ok (.iconst 1, 1) := by decide +kernel
theorem d6_2 : decode prog_1_method_2_code 2 = .ok (.invokevirtual 13, 3) := by decide +kernel
theorem d6_5 : decode prog_1_method_2_code 5 = .ok (.aload_n 0, 1) := by decide +kernel
theorem d6_6 : decode prog_1_method_2_code 6 = .ok (.getfield 7, 3) := by decide +kernel
theorem d6_9 : decode prog_1_method_2_code 9 = .ok (.aload_n 0, 1) := by decide +kernel
theorem d6_10 : decode prog_1_method_2_code 10 = .ok (.getfield 17, 3) := by decide +kernel
theorem d6_13 : decode prog_1_method_2_code 13 = .ok (.iload_n 1, 1) := by decide +kernel
theorem d6_14 : decode prog_1_method_2_code 14 = .ok (.i2b, 1) := by decide +kernel
theorem d6_15 : decode prog_1_method_2_code 15 = .ok (.bastore, 1) := by decide +kernel
theorem d6_16 : decode prog_1_method_2_code 16 = .ok (.aload_n 0, 1) := by decide +kernel
theorem d6_17 : decode prog_1_method_2_code 17 = .ok (.dup, 1) := by decide +kernel
theorem d6_18 : decode prog_1_method_2_code 18 = .ok (.getfield 17, 3) := by decide +kernel
theorem d6_21 : decode prog_1_method_2_code 21 = .ok (.iconst 1, 1) := by decide +kernel
theorem d6_22 : decode prog_1_method_2_code 22 = .ok (.iadd, 1) := by decide +kernel
theorem d6_23 : decode prog_1_method_2_code 23 = .ok (.putfield 17, 3) := by decide +kernel
theorem d6_26 : decode prog_1_method_2_code 26 = .ok (.return_, 1) := by decide +kernel
theorem pd__I_V : parseMethodDescriptor "(I)V" = some ⟨[.int], none⟩ := by decide +kernel
theorem pn_6 : plainFor (⟨"com/example/partwise/partwise/ByteBuilder", "append", "(I)V"⟩ : MethodName) = true := by first | exact plainFor_of_name (by first | (simp [plainName, overriddenIn]; done) | decide +kernel) | decide +kernel
theorem ef_6 (m : MethodId) (a1 : Addr) (p2 : Int32) : entryFrame m #[(.ref a1), (.int p2)] 2 = (mkF m 0 #[.val (.ref a1), .val (.int p2)] []) := by first | (simp [entryFrame, mkF, argsToLocals, Value.category]; done) | rfl
abbrev Q6 (Z : State) (a1 : Addr) (p2 : Int32) (buf : Addr) (n : Int32) (h0 : Heap) (n0 : Nat) : Option Value → Heap → List Loc → Prop := (fun v h L => v = none ∧ Fr n0 L ∧ Keep h0 h [a1, buf] ∧ Exa Z h a1 "com/example/partwise/partwise/ByteBuilder" ∧ Fld Z h a1 "com/example/partwise/partwise/ByteBuilder" "bytes" "[B" (.ref buf) ∧ Fld Z h a1 "com/example/partwise/partwise/ByteBuilder" "length" "I" (.int (n + (1 : Int32))) ∧ OL Z h buf .byte 256)
set_option maxRecDepth 65536 in
set_option maxHeartbeats 40000000 in
theorem rm6 (l : Launch) (Z : State) (a0 : Array Value) (hw : ∀ d ∈ tables_1, d.before a0 Z = true) (ws : List Jvm.Cond) (a1 : Addr) (p2 : Int32) (buf : Addr) (n : Int32) (h0 : Heap) (n0 : Nat) (R0 : Exa Z h0 a1 "com/example/partwise/partwise/ByteBuilder") (R1 : Fld Z h0 a1 "com/example/partwise/partwise/ByteBuilder" "bytes" "[B" (.ref buf)) (R2 : Fld Z h0 a1 "com/example/partwise/partwise/ByteBuilder" "length" "I" (.int n)) (R3 : OL Z h0 buf .byte 256) (g_a1 : n0 ≤ a1) (g_buf : n0 ≤ buf) (ne_buf_a1 : buf ≠ a1) (hn : OB n 1) :
    OMet l Z (⟨"com/example/partwise/partwise/ByteBuilder", "append", "(I)V"⟩ : MethodName) prog_1_method_2_code 2 none ws ({ frames := 1, cells := 0, slots := 0, locals := 13 } : Room) #[(.ref a1), (.int p2)] h0 (Q6 Z a1 p2 buf n h0 n0) := by
  refine own_enter pn_6 ?_
  intro p e s m below meth c s₁ hx hby hml0 hown hret hlk hnm hZ X0 e0
  have hml : c.maxLocals = 2 := hml0
  have N0 := Fr.nil n0
  refine own_cast (ef_6 m a1 p2) ?_
  show OG p e ({ frames := 1, cells := 0, slots := 0, locals := 13 } : Room) s below (fun v h L => v = none ∧ Fr n0 L ∧ Keep h0 h [a1, buf] ∧ Exa Z h a1 "com/example/partwise/partwise/ByteBuilder" ∧ Fld Z h a1 "com/example/partwise/partwise/ByteBuilder" "bytes" "[B" (.ref buf) ∧ Fld Z h a1 "com/example/partwise/partwise/ByteBuilder" "length" "I" (.int (n + (1 : Int32))) ∧ OL Z h buf .byte 256) s₁ (mkF m 0 #[.val (.ref a1), .val (.int p2)] [])
  refine own_st (fun t k => XS.aloadN X0.here hx rfl (hb hby d6_0) rfl rfl k) ?_
  show OG p e _ s below _ s₁ (mkF m 1 #[.val (.ref a1), .val (.int p2)] [(.ref a1)])
  refine own_st (fun t k => XS.iconst X0.here hx rfl (hb hby d6_1) k) ?_
  show OG p e _ s below _ s₁ (mkF m 2 #[.val (.ref a1), .val (.int p2)] [(.int (1 : Int32)), (.ref a1)])
  obtain ⟨cq1, q1, q1'⟩ := R0.cell
  obtain ⟨_, _, ⟨T1, L1, k1, n1⟩, -, X1, ⟨Lc1, hQ1, l1, y1, z1⟩, st1⟩ := X0.privateBack hx (y := (⟨"com/example/partwise/partwise/ByteBuilder", "reserve", "(I)V"⟩ : MethodName)) hown (mvT hZ (hw _ (List.mem_of_getElem? (i := 41) rfl))) (mvT hZ (hw _ (List.mem_of_getElem? (i := 42) rfl))) (own_selp hZ (hw _ (List.mem_of_getElem? (i := 10) rfl)) (hw _ (List.mem_of_getElem? (i := 43) rfl)) (hw _ (List.mem_of_getElem? (i := 42) rfl)) (by decide)) (Cond.privateMethod_at (mvP hZ (hw _ (List.mem_of_getElem? (i := 43) rfl)) (args := #[]))) (mvT hZ (hw _ (List.mem_of_getElem? (i := 44) rfl))) (by decide) (backOf (W := 0) (rm := ({ frames := 0, cells := 0, slots := 0, locals := 0 } : Room)) (rm7 l Z a0 hw [] a1 buf n h0 n0 R1 R2 R3 hn) hZ (hw _ (List.mem_of_getElem? (i := 44) rfl)) (hw _ (List.mem_of_getElem? (i := 11) rfl)) (by decide) (by decide)) (g := (mkF m 2 #[.val (.ref a1), .val (.int p2)] [(.int (1 : Int32)), (.ref a1)])) rfl (by rw [hml]; rfl) (Steps.refl _) (a := a1) (by rw [e0]; exact q1) q1' (argsL := [(.int (1 : Int32))]) (rest := []) (lenOf pd__I_V rfl) rfl (by show 2 * 0 + _ ≤ _; exact Nat.le_of_eq rfl) (hb hby d6_2) (fun _ _ => ⟨rfl, e0, (by decide : 0 + 0 ≤ _), (by decide : 0 + 0 ≤ _)⟩)
  dsimp only [Pt.U, Pt.locs, Pt.cells, Pt.slots] at X1 l1 y1 z1 st1 hQ1
  subst l1 y1 z1
  obtain ⟨rfl, N1q, K1q⟩ := hQ1
  refine own_st (fun t k => st1.trans k) ?_
  have N1 := Fr.app N0 N1q
  have K1 : Keep h0 T1.heap [a1, buf] := (Keep.refl h0 [a1, buf]).trans K1q (own_all0 )
  have F2 : Exa Z T1.heap a1 "com/example/partwise/partwise/ByteBuilder" := (R0.keep K1q)
  have F3 : Fld Z T1.heap a1 "com/example/partwise/partwise/ByteBuilder" "bytes" "[B" (.ref buf) := (R1.keep K1q (own_nin0 ))
  have F4 : Fld Z T1.heap a1 "com/example/partwise/partwise/ByteBuilder" "length" "I" (.int n) := (R2.keep K1q (own_nin0 ))
  have F5 : OL Z T1.heap buf .byte 256 := (R3.keep K1q (own_nin0 ))
  show OG p e _ s below _ T1 (mkF m 5 #[.val (.ref a1), .val (.int p2)] [])
  refine own_st (fun t k => XS.aloadN X1.here hx rfl (hb hby d6_5) rfl rfl k) ?_
  show OG p e _ s below _ T1 (mkF m 6 #[.val (.ref a1), .val (.int p2)] [(.ref a1)])
  obtain ⟨T6, X6, e6, st6⟩ := getF X1 hx hZ hown (host := "") (Or.inl (hw _ (List.mem_of_getElem? (i := 17) rfl))) Via.refl rfl F3 (g := (mkF m 6 #[.val (.ref a1), .val (.int p2)] [(.ref a1)])) rfl rfl (hb hby d6_6)
  refine own_st st6 ?_
  show OG p e _ s below _ T6 (mkF m 9 #[.val (.ref a1), .val (.int p2)] [(.ref buf)])
  refine own_st (fun t k => XS.aloadN X6.here hx rfl (hb hby d6_9) rfl rfl k) ?_
  show OG p e _ s below _ T6 (mkF m 10 #[.val (.ref a1), .val (.int p2)] [(.ref a1), (.ref buf)])
  obtain ⟨T7, X7, e7, st7⟩ := getF X6 hx hZ hown (host := "") (Or.inl (hw _ (List.mem_of_getElem? (i := 45) rfl))) Via.refl e6 F4 (g := (mkF m 10 #[.val (.ref a1), .val (.int p2)] [(.ref a1), (.ref buf)])) rfl rfl (hb hby d6_10)
  refine own_st st7 ?_
  show OG p e _ s below _ T7 (mkF m 13 #[.val (.ref a1), .val (.int p2)] [(.int n), (.ref buf)])
  refine own_st (fun t k => XS.iloadN X7.here hx rfl (hb hby d6_13) rfl k) ?_
  show OG p e _ s below _ T7 (mkF m 14 #[.val (.ref a1), .val (.int p2)] [(.int p2), (.int n), (.ref buf)])
  refine own_st (fun t k => XS.i2b X7.here hx rfl (hb hby d6_14) rfl k) ?_
  show OG p e _ s below _ T7 (mkF m 15 #[.val (.ref a1), .val (.int p2)] [(.int (p2.toInt8.toInt32)), (.int n), (.ref buf)])
  obtain ⟨cl8, Ar8, hi8⟩ := own_wrL F5 (j := n) hn.ix
  obtain ⟨T8, h8, X8, e8, W8, st8⟩ := stB X7 hx hZ e7 Ar8 hi8 (g := (mkF m 15 #[.val (.ref a1), .val (.int p2)] [(.int (p2.toInt8.toInt32)), (.int n), (.ref buf)])) rfl rfl (hb hby d6_15)
  refine own_st st8 ?_
  have N8 := Fr.snoc X8 N1 g_buf
  have K9 : Keep h0 h8 [a1, buf] := K1.wr W8 (Or.inl (List.mem_of_getElem? (i := 1) rfl))
  have F10 : Exa Z h8 a1 "com/example/partwise/partwise/ByteBuilder" := (F2.wr W8)
  have F11 : Fld Z h8 a1 "com/example/partwise/partwise/ByteBuilder" "bytes" "[B" (.ref buf) := (F3.other W8 (Or.inl (Ne.symm ne_buf_a1)))
  have F12 : Fld Z h8 a1 "com/example/partwise/partwise/ByteBuilder" "length" "I" (.int n) := (F4.other W8 (Or.inl (Ne.symm ne_buf_a1)))
  have F13 : OL Z h8 buf .byte 256 := (F5.set W8)
  show OG p e _ s below _ T8 (mkF m 16 #[.val (.ref a1), .val (.int p2)] [])
  refine own_st (fun t k => XS.aloadN X8.here hx rfl (hb hby d6_16) rfl rfl k) ?_
  show OG p e _ s below _ T8 (mkF m 17 #[.val (.ref a1), .val (.int p2)] [(.ref a1)])
  refine own_st (fun t k => XS.dup X8.here hx rfl (hb hby d6_17) rfl rfl k) ?_
  show OG p e _ s below _ T8 (mkF m 18 #[.val (.ref a1), .val (.int p2)] [(.ref a1), (.ref a1)])
  obtain ⟨T14, X14, e14, st14⟩ := getF X8 hx hZ hown (host := "") (Or.inl (hw _ (List.mem_of_getElem? (i := 45) rfl))) Via.refl e8 F12 (g := (mkF m 18 #[.val (.ref a1), .val (.int p2)] [(.ref a1), (.ref a1)])) rfl rfl (hb hby d6_18)
  refine own_st st14 ?_
  show OG p e _ s below _ T14 (mkF m 21 #[.val (.ref a1), .val (.int p2)] [(.int n), (.ref a1)])
  refine own_st (fun t k => XS.iconst X14.here hx rfl (hb hby d6_21) k) ?_
  show OG p e _ s below _ T14 (mkF m 22 #[.val (.ref a1), .val (.int p2)] [(.int (1 : Int32)), (.int n), (.ref a1)])
  refine own_st (fun t k => XS.iadd X14.here hx rfl (hb hby d6_22) rfl k) ?_
  show OG p e _ s below _ T14 (mkF m 23 #[.val (.ref a1), .val (.int p2)] [(.int (n + (1 : Int32))), (.ref a1)])
  obtain ⟨T15, h15, X15, e15, W15, st15⟩ := putF X14 hx hZ hown (host := "") (Or.inl (hw _ (List.mem_of_getElem? (i := 45) rfl))) Via.refl e14 F12 F10 (Or.inl (hw _ (List.mem_of_getElem? (i := 46) rfl))) (hw _ (List.mem_of_getElem? (i := 10) rfl)) (ty := .int) (by decide) rfl rfl (g := (mkF m 23 #[.val (.ref a1), .val (.int p2)] [(.int (n + (1 : Int32))), (.ref a1)])) rfl rfl (hb hby d6_23)
  refine own_st st15 ?_
  have N15 := Fr.snoc X15 N8 g_a1
  have K16 : Keep h0 h15 [a1, buf] := K9.wr W15 (Or.inl (List.mem_of_getElem? (i := 0) rfl))
  have F17 : Exa Z h15 a1 "com/example/partwise/partwise/ByteBuilder" := (F10.wr W15)
  have F18 : Fld Z h15 a1 "com/example/partwise/partwise/ByteBuilder" "bytes" "[B" (.ref buf) := (F11.other W15 (Or.inr (slot_ne (Or.inl (hw _ (List.mem_of_getElem? (i := 18) rfl))) (Or.inl (hw _ (List.mem_of_getElem? (i := 46) rfl))) (by decide) (t := (.array .byte)) (t' := .int) (by decide) (by decide))))
  have F19 : Fld Z h15 a1 "com/example/partwise/partwise/ByteBuilder" "length" "I" (.int (n + (1 : Int32))) := (F12.same W15)
  have F20 : OL Z h15 buf .byte 256 := (F13.other W15 ne_buf_a1)
  show OG p e _ s below _ T15 (mkF m 26 #[.val (.ref a1), .val (.int p2)] [])
  refine own_ret0 X15 hx hret hlk (hb hby d6_26) (by decide) (by decide) ?_
  rw [e15]
  exact ⟨rfl, N15, K16, F17, F18, F19, F20⟩
theorem own_last (q2 : Int64) (hq : OQ q2) : (((((((((q2.toUInt64 >>> ((7 : Int32) &&& 0x3f).toInt64.toUInt64).toInt64).toUInt64 >>> ((7 : Int32) &&& 0x3f).toInt64.toUInt64).toInt64).toUInt64 >>> ((7 : Int32) &&& 0x3f).toInt64.toUInt64).toInt64).toUInt64 >>> ((7 : Int32) &&& 0x3f).toInt64.toUInt64).toInt64) &&& (-128 : Int64)) = (0 : Int64) := by
  obtain ⟨h1, h2⟩ := hq
  have a1 := own_shr7 q2 h1
  have a2 := own_shr7 _ (by rw [a1]; omega : 0 ≤ (((q2.toUInt64 >>> ((7 : Int32) &&& 0x3f).toInt64.toUInt64).toInt64)).toInt)
  have a3 := own_shr7 _ (by rw [a2, a1]; omega : 0 ≤ (((((q2.toUInt64 >>> ((7 : Int32) &&& 0x3f).toInt64.toUInt64).toInt64).toUInt64 >>> ((7 : Int32) &&& 0x3f).toInt64.toUInt64).toInt64)).toInt)
  have a4 := own_shr7 _ (by rw [a3, a2, a1]; omega : 0 ≤ (((((((q2.toUInt64 >>> ((7 : Int32) &&& 0x3f).toInt64.toUInt64).toInt64).toUInt64 >>> ((7 : Int32) &&& 0x3f).toInt64.toUInt64).toInt64).toUInt64 >>> ((7 : Int32) &&& 0x3f).toInt64.toUInt64).toInt64)).toInt)
  refine (own_neg128 _ ?_).mpr ?_
  · rw [a4, a3, a2, a1]; omega
  · rw [a4, a3, a2, a1]; omega
theorem d10_0 : decode prog_1_method_5_code 0 = .ok (.lload_n 1, 1) := by decide +kernel
theorem d10_1 : decode prog_1_method_5_code 1 = .ok (.lstore_n 3, 1) := by decide +kernel
theorem d10_2 : decode prog_1_method_5_code 2 = .ok (.lload_n 3, 1) := by decide +kernel
theorem d10_3 : decode prog_1_method_5_code 3 = .ok (.ldc2_w 27, 3) := by decide +kernel
theorem d10_6 : decode prog_1_method_5_code 6 = .ok (.land, 1) := by decide +kernel
theorem d10_7 : decode prog_1_method_5_code 7 = .ok (.lconst 0, 1) := by decide +kernel
theorem d10_8 : decode prog_1_method_5_code 8 = .ok (.lcmp, 1) := by decide +kernel
theorem d10_9 : decode prog_1_method_5_code 9 = .ok (.ifCond .eq 25, 3) := by decide +kernel
theorem d10_12 : decode prog_1_method_5_code 12 = .ok (.aload_n 0, 1) := by decide +kernel
theorem d10_13 : decode prog_1_method_5_code 13 = .ok (.lload_n 3, 1) := by decide +kernel
theorem d10_14 : decode prog_1_method_5_code 14 = .ok (.ldc2_w 29, 3) := by decide +kernel
theorem d10_17 : decode prog_1_method_5_code 17 = .ok (.land, 1) := by decide +kernel
theorem d10_18 : decode prog_1_method_5_code 18 = .ok (.l2i, 1) := by decide +kernel
theorem d10_19 : decode prog_1_method_5_code 19 = .ok (.sipush 128, 3) := by decide +kernel
theorem d10_22 : decode prog_1_method_5_code 22 = .ok (.ior, 1) := by decide +kernel
theorem d10_23 : decode prog_1_method_5_code 23 = .ok (.invokevirtual 31, 3) := by decide +kernel
theorem d10_26 : decode prog_1_method_5_code 26 = .ok (.lload_n 3, 1) := by decide +kernel
theorem d10_27 : decode prog_1_method_5_code 27 = .ok (.bipush 7, 2) := by decide +kernel
theorem d10_29 : decode prog_1_method_5_code 29 = .ok (.lushr, 1) := by decide +kernel
theorem d10_30 : decode prog_1_method_5_code 30 = .ok (.lstore_n 3, 1) := by decide +kernel
theorem d10_31 : decode prog_1_method_5_code 31 = .ok (.goto (-29), 3) := by decide +kernel
theorem d10_34 : decode prog_1_method_5_code 34 = .ok (.aload_n 0, 1) := by decide +kernel
theorem d10_35 : decode prog_1_method_5_code 35 = .ok (.lload_n 3, 1) := by decide +kernel
theorem d10_36 : decode prog_1_method_5_code 36 = .ok (.l2i, 1) := by decide +kernel
theorem d10_37 : decode prog_1_method_5_code 37 = .ok (.invokevirtual 31, 3) := by decide +kernel
theorem d10_40 : decode prog_1_method_5_code 40 = .ok (.return_, 1) := by decide +kernel
theorem pn_10 : plainFor (⟨"com/example/partwise/partwise/ByteBuilder", "appendVarint", "(J)V"⟩ : MethodName) = true := by first | exact plainFor_of_name (by first | (simp [plainName, overriddenIn]; done) | decide +kernel) | decide +kernel
def f10 (q2 : Int64) (n : Int32) : Int32 := (if (q2 &&& (-128 : Int64)) = (0 : Int64) then (n + (1 : Int32)) else (if (((q2.toUInt64 >>> ((7 : Int32) &&& 0x3f).toInt64.toUInt64).toInt64) &&& (-128 : Int64)) = (0 : Int64) then ((n + (1 : Int32)) + (1 : Int32)) else (if (((((q2.toUInt64 >>> ((7 : Int32) &&& 0x3f).toInt64.toUInt64).toInt64).toUInt64 >>> ((7 : Int32) &&& 0x3f).toInt64.toUInt64).toInt64) &&& (-128 : Int64)) = (0 : Int64) then (((n + (1 : Int32)) + (1 : Int32)) + (1 : Int32)) else (if (((((((q2.toUInt64 >>> ((7 : Int32) &&& 0x3f).toInt64.toUInt64).toInt64).toUInt64 >>> ((7 : Int32) &&& 0x3f).toInt64.toUInt64).toInt64).toUInt64 >>> ((7 : Int32) &&& 0x3f).toInt64.toUInt64).toInt64) &&& (-128 : Int64)) = (0 : Int64) then ((((n + (1 : Int32)) + (1 : Int32)) + (1 : Int32)) + (1 : Int32)) else (((((n + (1 : Int32)) + (1 : Int32)) + (1 : Int32)) + (1 : Int32)) + (1 : Int32))))))
theorem ef_10 (m : MethodId) (a1 : Addr) (q2 : Int64) : entryFrame m #[(.ref a1), (.long q2)] 5 = (mkF m 0 #[.val (.ref a1), .val (.long q2), .second, .unset, .unset] []) := by first | (simp [entryFrame, mkF, argsToLocals, Value.category]; done) | rfl
abbrev Q10 (Z : State) (a1 : Addr) (q2 : Int64) (buf : Addr) (n : Int32) (h0 : Heap) (n0 : Nat) : Option Value → Heap → List Loc → Prop := (fun v h L => v = none ∧ Fr n0 L ∧ Keep h0 h [a1, buf] ∧ Exa Z h a1 "com/example/partwise/partwise/ByteBuilder" ∧ Fld Z h a1 "com/example/partwise/partwise/ByteBuilder" "bytes" "[B" (.ref buf) ∧ Fld Z h a1 "com/example/partwise/partwise/ByteBuilder" "length" "I" (.int (f10 q2 n)) ∧ OL Z h buf .byte 256)
set_option maxRecDepth 65536 in
set_option maxHeartbeats 40000000 in
theorem rm10 (l : Launch) (Z : State) (a0 : Array Value) (hw : ∀ d ∈ tables_1, d.before a0 Z = true) (ws : List Jvm.Cond) (a1 : Addr) (q2 : Int64) (buf : Addr) (n : Int32) (h0 : Heap) (n0 : Nat) (R0 : Exa Z h0 a1 "com/example/partwise/partwise/ByteBuilder") (R1 : Fld Z h0 a1 "com/example/partwise/partwise/ByteBuilder" "bytes" "[B" (.ref buf)) (R2 : Fld Z h0 a1 "com/example/partwise/partwise/ByteBuilder" "length" "I" (.int n)) (R3 : OL Z h0 buf .byte 256) (g_a1 : n0 ≤ a1) (g_buf : n0 ≤ buf) (ne_buf_a1 : buf ≠ a1) (hn : OB n 5) (hq : OQ q2) :
    OMet l Z (⟨"com/example/partwise/partwise/ByteBuilder", "appendVarint", "(J)V"⟩ : MethodName) prog_1_method_5_code 5 none ws ({ frames := 2, cells := 0, slots := 0, locals := 26 } : Room) #[(.ref a1), (.long q2)] h0 (Q10 Z a1 q2 buf n h0 n0) := by
  refine own_enter pn_10 ?_
  intro p e s m below meth c s₁ hx hby hml0 hown hret hlk hnm hZ X0 e0
  have hml : c.maxLocals = 5 := hml0
  have N0 := Fr.nil n0
  refine own_cast (ef_10 m a1 q2) ?_
  show OG p e ({ frames := 2, cells := 0, slots := 0, locals := 26 } : Room) s below (fun v h L => v = none ∧ Fr n0 L ∧ Keep h0 h [a1, buf] ∧ Exa Z h a1 "com/example/partwise/partwise/ByteBuilder" ∧ Fld Z h a1 "com/example/partwise/partwise/ByteBuilder" "bytes" "[B" (.ref buf) ∧ Fld Z h a1 "com/example/partwise/partwise/ByteBuilder" "length" "I" (.int (f10 q2 n)) ∧ OL Z h buf .byte 256) s₁ (mkF m 0 #[.val (.ref a1), .val (.long q2), .second, .unset, .unset] [])
  refine own_st (fun t k => XS.lloadN X0.here hx rfl (hb hby d10_0) rfl k) ?_
  show OG p e _ s below _ s₁ (mkF m 1 #[.val (.ref a1), .val (.long q2), .second, .unset, .unset] [(.long q2)])
  refine own_st (fun t k => XS.lstoreN X0.here hx rfl (hb hby d10_1) rfl (l' := #[.val (.ref a1), .val (.long q2), .second, .val (.long q2), .second]) rfl k) ?_
  show OG p e _ s below _ s₁ (mkF m 2 #[.val (.ref a1), .val (.long q2), .second, .val (.long q2), .second] [])
  refine own_st (fun t k => XS.lloadN X0.here hx rfl (hb hby d10_2) rfl k) ?_
  show OG p e _ s below _ s₁ (mkF m 3 #[.val (.ref a1), .val (.long q2), .second, .val (.long q2), .second] [(.long q2)])
  refine own_st (fun t k => X0.ldc2Long hx hown (mvT hZ (hw _ (List.mem_of_getElem? (i := 62) rfl))) (g := (mkF m 3 #[.val (.ref a1), .val (.long q2), .second, .val (.long q2), .second] [(.long q2)])) rfl (hb hby d10_3) _ k) ?_
  show OG p e _ s below _ s₁ (mkF m 6 #[.val (.ref a1), .val (.long q2), .second, .val (.long q2), .second] [(.long (-128 : Int64)), (.long q2)])
  refine own_st (fun t k => XS.land X0.here hx rfl (hb hby d10_6) rfl k) ?_
  show OG p e _ s below _ s₁ (mkF m 7 #[.val (.ref a1), .val (.long q2), .second, .val (.long q2), .second] [(.long (q2 &&& (-128 : Int64)))])
  refine own_st (fun t k => XS.lconst X0.here hx rfl (hb hby d10_7) k) ?_
  show OG p e _ s below _ s₁ (mkF m 8 #[.val (.ref a1), .val (.long q2), .second, .val (.long q2), .second] [(.long (0 : Int64)), (.long (q2 &&& (-128 : Int64)))])
  refine own_st (fun t k => XS.lcmp X0.here hx rfl (hb hby d10_8) rfl k) ?_
  show OG p e _ s below _ s₁ (mkF m 9 #[.val (.ref a1), .val (.long q2), .second, .val (.long q2), .second] [(.int (lcmpW (q2 &&& (-128 : Int64)) (0 : Int64)))])
  by_cases c1 : (q2 &&& (-128 : Int64)) = (0 : Int64)
  · refine own_st (fun t k => XS.ifYes X0.here hx rfl (pc0 := 9) (pc' := 34) rfl (hb hby d10_9) rfl (own_if0 (teq ((lw_eq _ _).mpr c1)).1) (by decide) (by decide) k) ?_
    show OG p e _ s below _ s₁ (mkF m 34 #[.val (.ref a1), .val (.long q2), .second, .val (.long q2), .second] [])
    refine own_st (fun t k => XS.aloadN X0.here hx rfl (hb hby d10_34) rfl rfl k) ?_
    show OG p e _ s below _ s₁ (mkF m 35 #[.val (.ref a1), .val (.long q2), .second, .val (.long q2), .second] [(.ref a1)])
    refine own_st (fun t k => XS.lloadN X0.here hx rfl (hb hby d10_35) rfl k) ?_
    show OG p e _ s below _ s₁ (mkF m 36 #[.val (.ref a1), .val (.long q2), .second, .val (.long q2), .second] [(.long q2), (.ref a1)])
    refine own_st (fun t k => XS.l2i X0.here hx rfl (hb hby d10_36) rfl k) ?_
    show OG p e _ s below _ s₁ (mkF m 37 #[.val (.ref a1), .val (.long q2), .second, .val (.long q2), .second] [(.int (q2.toInt32)), (.ref a1)])
    obtain ⟨cq2, kq2, q2a, q2b, q2c⟩ := isOf hZ e0 R0
    obtain ⟨_, _, ⟨T2, L2, k2, n2⟩, -, X2, ⟨Lc2, hQ2, l2, y2, z2⟩, st2⟩ := X0.virtualBack hx (y := (⟨"com/example/partwise/partwise/ByteBuilder", "append", "(I)V"⟩ : MethodName)) (z := (⟨"com/example/partwise/partwise/ByteBuilder", "append", "(I)V"⟩ : MethodName)) hown (mvT hZ (hw _ (List.mem_of_getElem? (i := 63) rfl))) (mvT hZ (hw _ (List.mem_of_getElem? (i := 37) rfl))) (notFace_of_selects (args := #[]) (mvT hZ (hw _ (List.mem_of_getElem? (i := 39) rfl)))) (mvT hZ (hw _ (List.mem_of_getElem? (i := 39) rfl))) (mvT hZ (hw _ (List.mem_of_getElem? (i := 38) rfl))) (by decide) (backOf (W := 0) (rm := ({ frames := 1, cells := 0, slots := 0, locals := 13 } : Room)) (rm6 l Z a0 hw [] a1 (q2.toInt32) buf n h0 n0 R0 R1 R2 R3 g_a1 g_buf ne_buf_a1 (OB.weak hn (by decide))) hZ (hw _ (List.mem_of_getElem? (i := 40) rfl)) (hw _ (List.mem_of_getElem? (i := 11) rfl)) (by decide) (by decide)) q2a q2c (g := (mkF m 37 #[.val (.ref a1), .val (.long q2), .second, .val (.long q2), .second] [(.int (q2.toInt32)), (.ref a1)])) rfl (by rw [hml]; rfl) (Steps.refl _) (argsL := [(.int (q2.toInt32))]) (rest := []) (lenOf pd__I_V rfl) rfl (by show 2 * 0 + _ ≤ _; exact Nat.le_of_eq rfl) (hb hby d10_37) (fun _ _ => ⟨rfl, e0, (by decide : 0 + 0 ≤ _), (by decide : 0 + 0 ≤ _)⟩)
    dsimp only [Pt.U, Pt.locs, Pt.cells, Pt.slots] at X2 l2 y2 z2 st2 hQ2
    subst l2 y2 z2
    obtain ⟨rfl, N2q, K2q, P2_0, P2_1, P2_2, P2_3⟩ := hQ2
    refine own_st (fun t k => st2.trans k) ?_
    have N2 := Fr.app N0 N2q
    have K2 : Keep h0 T2.heap [a1, buf] := (Keep.refl h0 [a1, buf]).trans K2q (own_all2 (Or.inl (List.mem_of_getElem? (i := 0) rfl)) (Or.inl (List.mem_of_getElem? (i := 1) rfl)))
    show OG p e _ s below _ T2 (mkF m 40 #[.val (.ref a1), .val (.long q2), .second, .val (.long q2), .second] [])
    refine own_ret0 X2 hx hret hlk (hb hby d10_40) (by decide) (by decide) ?_
    exact ⟨rfl, N2, K2, P2_0, P2_1, (by rw [show f10 q2 n = (n + (1 : Int32)) from (by rw [f10, if_pos c1])]; exact P2_2), P2_3⟩
  · refine own_st (fun t k => XS.ifNo X0.here hx rfl (hb hby d10_9) rfl (own_if0 (feq (fun q => c1 ((lw_eq _ _).mp q))).1) k) ?_
    show OG p e _ s below _ s₁ (mkF m 12 #[.val (.ref a1), .val (.long q2), .second, .val (.long q2), .second] [])
    refine own_st (fun t k => XS.aloadN X0.here hx rfl (hb hby d10_12) rfl rfl k) ?_
    show OG p e _ s below _ s₁ (mkF m 13 #[.val (.ref a1), .val (.long q2), .second, .val (.long q2), .second] [(.ref a1)])
    refine own_st (fun t k => XS.lloadN X0.here hx rfl (hb hby d10_13) rfl k) ?_
    show OG p e _ s below _ s₁ (mkF m 14 #[.val (.ref a1), .val (.long q2), .second, .val (.long q2), .second] [(.long q2), (.ref a1)])
    refine own_st (fun t k => X0.ldc2Long hx hown (mvT hZ (hw _ (List.mem_of_getElem? (i := 106) rfl))) (g := (mkF m 14 #[.val (.ref a1), .val (.long q2), .second, .val (.long q2), .second] [(.long q2), (.ref a1)])) rfl (hb hby d10_14) _ k) ?_
    show OG p e _ s below _ s₁ (mkF m 17 #[.val (.ref a1), .val (.long q2), .second, .val (.long q2), .second] [(.long (127 : Int64)), (.long q2), (.ref a1)])
    refine own_st (fun t k => XS.land X0.here hx rfl (hb hby d10_17) rfl k) ?_
    show OG p e _ s below _ s₁ (mkF m 18 #[.val (.ref a1), .val (.long q2), .second, .val (.long q2), .second] [(.long (q2 &&& (127 : Int64))), (.ref a1)])
    refine own_st (fun t k => XS.l2i X0.here hx rfl (hb hby d10_18) rfl k) ?_
    show OG p e _ s below _ s₁ (mkF m 19 #[.val (.ref a1), .val (.long q2), .second, .val (.long q2), .second] [(.int ((q2 &&& (127 : Int64)).toInt32)), (.ref a1)])
    refine own_st (fun t k => XS.sipush X0.here hx rfl (hb hby d10_19) k) ?_
    show OG p e _ s below _ s₁ (mkF m 22 #[.val (.ref a1), .val (.long q2), .second, .val (.long q2), .second] [(.int (128 : Int32)), (.int ((q2 &&& (127 : Int64)).toInt32)), (.ref a1)])
    refine own_st (fun t k => XS.ior X0.here hx rfl (hb hby d10_22) rfl k) ?_
    show OG p e _ s below _ s₁ (mkF m 23 #[.val (.ref a1), .val (.long q2), .second, .val (.long q2), .second] [(.int (((q2 &&& (127 : Int64)).toInt32) ||| (128 : Int32))), (.ref a1)])
    obtain ⟨cq3, kq3, q3a, q3b, q3c⟩ := isOf hZ e0 R0
    obtain ⟨_, _, ⟨T3, L3, k3, n3⟩, -, X3, ⟨Lc3, hQ3, l3, y3, z3⟩, st3⟩ := X0.virtualBack hx (y := (⟨"com/example/partwise/partwise/ByteBuilder", "append", "(I)V"⟩ : MethodName)) (z := (⟨"com/example/partwise/partwise/ByteBuilder", "append", "(I)V"⟩ : MethodName)) hown (mvT hZ (hw _ (List.mem_of_getElem? (i := 63) rfl))) (mvT hZ (hw _ (List.mem_of_getElem? (i := 37) rfl))) (notFace_of_selects (args := #[]) (mvT hZ (hw _ (List.mem_of_getElem? (i := 39) rfl)))) (mvT hZ (hw _ (List.mem_of_getElem? (i := 39) rfl))) (mvT hZ (hw _ (List.mem_of_getElem? (i := 38) rfl))) (by decide) (backOf (W := 0) (rm := ({ frames := 1, cells := 0, slots := 0, locals := 13 } : Room)) (rm6 l Z a0 hw [] a1 (((q2 &&& (127 : Int64)).toInt32) ||| (128 : Int32)) buf n h0 n0 R0 R1 R2 R3 g_a1 g_buf ne_buf_a1 (OB.weak hn (by decide))) hZ (hw _ (List.mem_of_getElem? (i := 40) rfl)) (hw _ (List.mem_of_getElem? (i := 11) rfl)) (by decide) (by decide)) q3a q3c (g := (mkF m 23 #[.val (.ref a1), .val (.long q2), .second, .val (.long q2), .second] [(.int (((q2 &&& (127 : Int64)).toInt32) ||| (128 : Int32))), (.ref a1)])) rfl (by rw [hml]; rfl) (Steps.refl _) (argsL := [(.int (((q2 &&& (127 : Int64)).toInt32) ||| (128 : Int32)))]) (rest := []) (lenOf pd__I_V rfl) rfl (by show 2 * 0 + _ ≤ _; exact Nat.le_of_eq rfl) (hb hby d10_23) (fun _ _ => ⟨rfl, e0, (by decide : 0 + 0 ≤ _), (by decide : 0 + 0 ≤ _)⟩)
    dsimp only [Pt.U, Pt.locs, Pt.cells, Pt.slots] at X3 l3 y3 z3 st3 hQ3
    subst l3 y3 z3
    obtain ⟨rfl, N3q, K3q, P3_0, P3_1, P3_2, P3_3⟩ := hQ3
    refine own_st (fun t k => st3.trans k) ?_
    have N3 := Fr.app N0 N3q
    have K3 : Keep h0 T3.heap [a1, buf] := (Keep.refl h0 [a1, buf]).trans K3q (own_all2 (Or.inl (List.mem_of_getElem? (i := 0) rfl)) (Or.inl (List.mem_of_getElem? (i := 1) rfl)))
    show OG p e _ s below _ T3 (mkF m 26 #[.val (.ref a1), .val (.long q2), .second, .val (.long q2), .second] [])
    refine own_st (fun t k => XS.lloadN X3.here hx rfl (hb hby d10_26) rfl k) ?_
    show OG p e _ s below _ T3 (mkF m 27 #[.val (.ref a1), .val (.long q2), .second, .val (.long q2), .second] [(.long q2)])
    refine own_st (fun t k => XS.bipush X3.here hx rfl (hb hby d10_27) k) ?_
    show OG p e _ s below _ T3 (mkF m 29 #[.val (.ref a1), .val (.long q2), .second, .val (.long q2), .second] [(.int (7 : Int32)), (.long q2)])
    refine own_st (fun t k => XS.lushr X3.here hx rfl (hb hby d10_29) rfl k) ?_
    show OG p e _ s below _ T3 (mkF m 30 #[.val (.ref a1), .val (.long q2), .second, .val (.long q2), .second] [(.long ((q2.toUInt64 >>> ((7 : Int32) &&& 0x3f).toInt64.toUInt64).toInt64))])
    refine own_st (fun t k => XS.lstoreN X3.here hx rfl (hb hby d10_30) rfl (l' := #[.val (.ref a1), .val (.long q2), .second, .val (.long ((q2.toUInt64 >>> ((7 : Int32) &&& 0x3f).toInt64.toUInt64).toInt64)), .second]) rfl k) ?_
    show OG p e _ s below _ T3 (mkF m 31 #[.val (.ref a1), .val (.long q2), .second, .val (.long ((q2.toUInt64 >>> ((7 : Int32) &&& 0x3f).toInt64.toUInt64).toInt64)), .second] [])
    refine own_st (fun t k => XS.goto X3.here hx rfl (pc0 := 31) (pc' := 2) rfl (hb hby d10_31) (by decide) (by decide) k) ?_
    show OG p e _ s below _ T3 (mkF m 2 #[.val (.ref a1), .val (.long q2), .second, .val (.long ((q2.toUInt64 >>> ((7 : Int32) &&& 0x3f).toInt64.toUInt64).toInt64)), .second] [])
    refine own_st (fun t k => XS.lloadN X3.here hx rfl (hb hby d10_2) rfl k) ?_
    show OG p e _ s below _ T3 (mkF m 3 #[.val (.ref a1), .val (.long q2), .second, .val (.long ((q2.toUInt64 >>> ((7 : Int32) &&& 0x3f).toInt64.toUInt64).toInt64)), .second] [(.long ((q2.toUInt64 >>> ((7 : Int32) &&& 0x3f).toInt64.toUInt64).toInt64))])
    refine own_st (fun t k => X3.ldc2Long hx hown (mvT hZ (hw _ (List.mem_of_getElem? (i := 62) rfl))) (g := (mkF m 3 #[.val (.ref a1), .val (.long q2), .second, .val (.long ((q2.toUInt64 >>> ((7 : Int32) &&& 0x3f).toInt64.toUInt64).toInt64)), .second] [(.long ((q2.toUInt64 >>> ((7 : Int32) &&& 0x3f).toInt64.toUInt64).toInt64))])) rfl (hb hby d10_3) _ k) ?_
    show OG p e _ s below _ T3 (mkF m 6 #[.val (.ref a1), .val (.long q2), .second, .val (.long ((q2.toUInt64 >>> ((7 : Int32) &&& 0x3f).toInt64.toUInt64).toInt64)), .second] [(.long (-128 : Int64)), (.long ((q2.toUInt64 >>> ((7 : Int32) &&& 0x3f).toInt64.toUInt64).toInt64))])
    refine own_st (fun t k => XS.land X3.here hx rfl (hb hby d10_6) rfl k) ?_
    show OG p e _ s below _ T3 (mkF m 7 #[.val (.ref a1), .val (.long q2), .second, .val (.long ((q2.toUInt64 >>> ((7 : Int32) &&& 0x3f).toInt64.toUInt64).toInt64)), .second] [(.long (((q2.toUInt64 >>> ((7 : Int32) &&& 0x3f).toInt64.toUInt64).toInt64) &&& (-128 : Int64)))])
    refine own_st (fun t k => XS.lconst X3.here hx rfl (hb hby d10_7) k) ?_
    show OG p e _ s below _ T3 (mkF m 8 #[.val (.ref a1), .val (.long q2), .second, .val (.long ((q2.toUInt64 >>> ((7 : Int32) &&& 0x3f).toInt64.toUInt64).toInt64)), .second] [(.long (0 : Int64)), (.long (((q2.toUInt64 >>> ((7 : Int32) &&& 0x3f).toInt64.toUInt64).toInt64) &&& (-128 : Int64)))])
    refine own_st (fun t k => XS.lcmp X3.here hx rfl (hb hby d10_8) rfl k) ?_
    show OG p e _ s below _ T3 (mkF m 9 #[.val (.ref a1), .val (.long q2), .second, .val (.long ((q2.toUInt64 >>> ((7 : Int32) &&& 0x3f).toInt64.toUInt64).toInt64)), .second] [(.int (lcmpW (((q2.toUInt64 >>> ((7 : Int32) &&& 0x3f).toInt64.toUInt64).toInt64) &&& (-128 : Int64)) (0 : Int64)))])
    by_cases c4 : (((q2.toUInt64 >>> ((7 : Int32) &&& 0x3f).toInt64.toUInt64).toInt64) &&& (-128 : Int64)) = (0 : Int64)
    · refine own_st (fun t k => XS.ifYes X3.here hx rfl (pc0 := 9) (pc' := 34) rfl (hb hby d10_9) rfl (own_if0 (teq ((lw_eq _ _).mpr c4)).1) (by decide) (by decide) k) ?_
      show OG p e _ s below _ T3 (mkF m 34 #[.val (.ref a1), .val (.long q2), .second, .val (.long ((q2.toUInt64 >>> ((7 : Int32) &&& 0x3f).toInt64.toUInt64).toInt64)), .second] [])
      refine own_st (fun t k => XS.aloadN X3.here hx rfl (hb hby d10_34) rfl rfl k) ?_
      show OG p e _ s below _ T3 (mkF m 35 #[.val (.ref a1), .val (.long q2), .second, .val (.long ((q2.toUInt64 >>> ((7 : Int32) &&& 0x3f).toInt64.toUInt64).toInt64)), .second] [(.ref a1)])
      refine own_st (fun t k => XS.lloadN X3.here hx rfl (hb hby d10_35) rfl k) ?_
      show OG p e _ s below _ T3 (mkF m 36 #[.val (.ref a1), .val (.long q2), .second, .val (.long ((q2.toUInt64 >>> ((7 : Int32) &&& 0x3f).toInt64.toUInt64).toInt64)), .second] [(.long ((q2.toUInt64 >>> ((7 : Int32) &&& 0x3f).toInt64.toUInt64).toInt64)), (.ref a1)])
      refine own_st (fun t k => XS.l2i X3.here hx rfl (hb hby d10_36) rfl k) ?_
      show OG p e _ s below _ T3 (mkF m 37 #[.val (.ref a1), .val (.long q2), .second, .val (.long ((q2.toUInt64 >>> ((7 : Int32) &&& 0x3f).toInt64.toUInt64).toInt64)), .second] [(.int (((q2.toUInt64 >>> ((7 : Int32) &&& 0x3f).toInt64.toUInt64).toInt64).toInt32)), (.ref a1)])
      obtain ⟨cq5, kq5, q5a, q5b, q5c⟩ := isOf hZ rfl P3_0
      obtain ⟨_, _, ⟨T5, L5, k5, n5⟩, -, X5, ⟨Lc5, hQ5, l5, y5, z5⟩, st5⟩ := X3.virtualBack hx (y := (⟨"com/example/partwise/partwise/ByteBuilder", "append", "(I)V"⟩ : MethodName)) (z := (⟨"com/example/partwise/partwise/ByteBuilder", "append", "(I)V"⟩ : MethodName)) hown (mvT hZ (hw _ (List.mem_of_getElem? (i := 63) rfl))) (mvT hZ (hw _ (List.mem_of_getElem? (i := 37) rfl))) (notFace_of_selects (args := #[]) (mvT hZ (hw _ (List.mem_of_getElem? (i := 39) rfl)))) (mvT hZ (hw _ (List.mem_of_getElem? (i := 39) rfl))) (mvT hZ (hw _ (List.mem_of_getElem? (i := 38) rfl))) (by decide) (backOf (W := 0) (rm := ({ frames := 1, cells := 0, slots := 0, locals := 13 } : Room)) (rm6 l Z a0 hw [] a1 (((q2.toUInt64 >>> ((7 : Int32) &&& 0x3f).toInt64.toUInt64).toInt64).toInt32) buf (n + (1 : Int32)) T3.heap n0 P3_0 P3_1 P3_2 P3_3 g_a1 g_buf ne_buf_a1 (OB.weak hn.step (by decide))) hZ (hw _ (List.mem_of_getElem? (i := 40) rfl)) (hw _ (List.mem_of_getElem? (i := 11) rfl)) (by decide) (by decide)) q5a q5c (g := (mkF m 37 #[.val (.ref a1), .val (.long q2), .second, .val (.long ((q2.toUInt64 >>> ((7 : Int32) &&& 0x3f).toInt64.toUInt64).toInt64)), .second] [(.int (((q2.toUInt64 >>> ((7 : Int32) &&& 0x3f).toInt64.toUInt64).toInt64).toInt32)), (.ref a1)])) rfl (by rw [hml]; rfl) (Steps.refl _) (argsL := [(.int (((q2.toUInt64 >>> ((7 : Int32) &&& 0x3f).toInt64.toUInt64).toInt64).toInt32))]) (rest := []) (lenOf pd__I_V rfl) rfl (by show 2 * 0 + _ ≤ _; exact Nat.le_of_eq rfl) (hb hby d10_37) (fun _ _ => ⟨rfl, rfl, (by decide : 0 + 0 ≤ _), (by decide : 0 + 0 ≤ _)⟩)
      dsimp only [Pt.U, Pt.locs, Pt.cells, Pt.slots] at X5 l5 y5 z5 st5 hQ5
      subst l5 y5 z5
      obtain ⟨rfl, N5q, K5q, P5_0, P5_1, P5_2, P5_3⟩ := hQ5
      refine own_st (fun t k => st5.trans k) ?_
      have N5 := Fr.app N3 N5q
      have K5 : Keep h0 T5.heap [a1, buf] := K3.trans K5q (own_all2 (Or.inl (List.mem_of_getElem? (i := 0) rfl)) (Or.inl (List.mem_of_getElem? (i := 1) rfl)))
      show OG p e _ s below _ T5 (mkF m 40 #[.val (.ref a1), .val (.long q2), .second, .val (.long ((q2.toUInt64 >>> ((7 : Int32) &&& 0x3f).toInt64.toUInt64).toInt64)), .second] [])
      refine own_ret0 X5 hx hret hlk (hb hby d10_40) (by decide) (by decide) ?_
      exact ⟨rfl, N5, K5, P5_0, P5_1, (by rw [show f10 q2 n = ((n + (1 : Int32)) + (1 : Int32)) from (by rw [f10, if_neg c1, if_pos c4])]; exact P5_2), P5_3⟩
    · refine own_st (fun t k => XS.ifNo X3.here hx rfl (hb hby d10_9) rfl (own_if0 (feq (fun q => c4 ((lw_eq _ _).mp q))).1) k) ?_
      show OG p e _ s below _ T3 (mkF m 12 #[.val (.ref a1), .val (.long q2), .second, .val (.long ((q2.toUInt64 >>> ((7 : Int32) &&& 0x3f).toInt64.toUInt64).toInt64)), .second] [])
      refine own_st (fun t k => XS.aloadN X3.here hx rfl (hb hby d10_12) rfl rfl k) ?_
      show OG p e _ s below _ T3 (mkF m 13 #[.val (.ref a1), .val (.long q2), .second, .val (.long ((q2.toUInt64 >>> ((7 : Int32) &&& 0x3f).toInt64.toUInt64).toInt64)), .second] [(.ref a1)])
      refine own_st (fun t k => XS.lloadN X3.here hx rfl (hb hby d10_13) rfl k) ?_
      show OG p e _ s below _ T3 (mkF m 14 #[.val (.ref a1), .val (.long q2), .second, .val (.long ((q2.toUInt64 >>> ((7 : Int32) &&& 0x3f).toInt64.toUInt64).toInt64)), .second] [(.long ((q2.toUInt64 >>> ((7 : Int32) &&& 0x3f).toInt64.toUInt64).toInt64)), (.ref a1)])
      refine own_st (fun t k => X3.ldc2Long hx hown (mvT hZ (hw _ (List.mem_of_getElem? (i := 106) rfl))) (g := (mkF m 14 #[.val (.ref a1), .val (.long q2), .second, .val (.long ((q2.toUInt64 >>> ((7 : Int32) &&& 0x3f).toInt64.toUInt64).toInt64)), .second] [(.long ((q2.toUInt64 >>> ((7 : Int32) &&& 0x3f).toInt64.toUInt64).toInt64)), (.ref a1)])) rfl (hb hby d10_14) _ k) ?_
      show OG p e _ s below _ T3 (mkF m 17 #[.val (.ref a1), .val (.long q2), .second, .val (.long ((q2.toUInt64 >>> ((7 : Int32) &&& 0x3f).toInt64.toUInt64).toInt64)), .second] [(.long (127 : Int64)), (.long ((q2.toUInt64 >>> ((7 : Int32) &&& 0x3f).toInt64.toUInt64).toInt64)), (.ref a1)])
      refine own_st (fun t k => XS.land X3.here hx rfl (hb hby d10_17) rfl k) ?_
      show OG p e _ s below _ T3 (mkF m 18 #[.val (.ref a1), .val (.long q2), .second, .val (.long ((q2.toUInt64 >>> ((7 : Int32) &&& 0x3f).toInt64.toUInt64).toInt64)), .second] [(.long (((q2.toUInt64 >>> ((7 : Int32) &&& 0x3f).toInt64.toUInt64).toInt64) &&& (127 : Int64))), (.ref a1)])
      refine own_st (fun t k => XS.l2i X3.here hx rfl (hb hby d10_18) rfl k) ?_
      show OG p e _ s below _ T3 (mkF m 19 #[.val (.ref a1), .val (.long q2), .second, .val (.long ((q2.toUInt64 >>> ((7 : Int32) &&& 0x3f).toInt64.toUInt64).toInt64)), .second] [(.int ((((q2.toUInt64 >>> ((7 : Int32) &&& 0x3f).toInt64.toUInt64).toInt64) &&& (127 : Int64)).toInt32)), (.ref a1)])
      refine own_st (fun t k => XS.sipush X3.here hx rfl (hb hby d10_19) k) ?_
      show OG p e _ s below _ T3 (mkF m 22 #[.val (.ref a1), .val (.long q2), .second, .val (.long ((q2.toUInt64 >>> ((7 : Int32) &&& 0x3f).toInt64.toUInt64).toInt64)), .second] [(.int (128 : Int32)), (.int ((((q2.toUInt64 >>> ((7 : Int32) &&& 0x3f).toInt64.toUInt64).toInt64) &&& (127 : Int64)).toInt32)), (.ref a1)])
      refine own_st (fun t k => XS.ior X3.here hx rfl (hb hby d10_22) rfl k) ?_
      show OG p e _ s below _ T3 (mkF m 23 #[.val (.ref a1), .val (.long q2), .second, .val (.long ((q2.toUInt64 >>> ((7 : Int32) &&& 0x3f).toInt64.toUInt64).toInt64)), .second] [(.int (((((q2.toUInt64 >>> ((7 : Int32) &&& 0x3f).toInt64.toUInt64).toInt64) &&& (127 : Int64)).toInt32) ||| (128 : Int32))), (.ref a1)])
      obtain ⟨cq6, kq6, q6a, q6b, q6c⟩ := isOf hZ rfl P3_0
      obtain ⟨_, _, ⟨T6, L6, k6, n6⟩, -, X6, ⟨Lc6, hQ6, l6, y6, z6⟩, st6⟩ := X3.virtualBack hx (y := (⟨"com/example/partwise/partwise/ByteBuilder", "append", "(I)V"⟩ : MethodName)) (z := (⟨"com/example/partwise/partwise/ByteBuilder", "append", "(I)V"⟩ : MethodName)) hown (mvT hZ (hw _ (List.mem_of_getElem? (i := 63) rfl))) (mvT hZ (hw _ (List.mem_of_getElem? (i := 37) rfl))) (notFace_of_selects (args := #[]) (mvT hZ (hw _ (List.mem_of_getElem? (i := 39) rfl)))) (mvT hZ (hw _ (List.mem_of_getElem? (i := 39) rfl))) (mvT hZ (hw _ (List.mem_of_getElem? (i := 38) rfl))) (by decide) (backOf (W := 0) (rm := ({ frames := 1, cells := 0, slots := 0, locals := 13 } : Room)) (rm6 l Z a0 hw [] a1 (((((q2.toUInt64 >>> ((7 : Int32) &&& 0x3f).toInt64.toUInt64).toInt64) &&& (127 : Int64)).toInt32) ||| (128 : Int32)) buf (n + (1 : Int32)) T3.heap n0 P3_0 P3_1 P3_2 P3_3 g_a1 g_buf ne_buf_a1 (OB.weak hn.step (by decide))) hZ (hw _ (List.mem_of_getElem? (i := 40) rfl)) (hw _ (List.mem_of_getElem? (i := 11) rfl)) (by decide) (by decide)) q6a q6c (g := (mkF m 23 #[.val (.ref a1), .val (.long q2), .second, .val (.long ((q2.toUInt64 >>> ((7 : Int32) &&& 0x3f).toInt64.toUInt64).toInt64)), .second] [(.int (((((q2.toUInt64 >>> ((7 : Int32) &&& 0x3f).toInt64.toUInt64).toInt64) &&& (127 : Int64)).toInt32) ||| (128 : Int32))), (.ref a1)])) rfl (by rw [hml]; rfl) (Steps.refl _) (argsL := [(.int (((((q2.toUInt64 >>> ((7 : Int32) &&& 0x3f).toInt64.toUInt64).toInt64) &&& (127 : Int64)).toInt32) ||| (128 : Int32)))]) (rest := []) (lenOf pd__I_V rfl) rfl (by show 2 * 0 + _ ≤ _; exact Nat.le_of_eq rfl) (hb hby d10_23) (fun _ _ => ⟨rfl, rfl, (by decide : 0 + 0 ≤ _), (by decide : 0 + 0 ≤ _)⟩)
      dsimp only [Pt.U, Pt.locs, Pt.cells, Pt.slots] at X6 l6 y6 z6 st6 hQ6
      subst l6 y6 z6
      obtain ⟨rfl, N6q, K6q, P6_0, P6_1, P6_2, P6_3⟩ := hQ6
      refine own_st (fun t k => st6.trans k) ?_
      have N6 := Fr.app N3 N6q
      have K6 : Keep h0 T6.heap [a1, buf] := K3.trans K6q (own_all2 (Or.inl (List.mem_of_getElem? (i := 0) rfl)) (Or.inl (List.mem_of_getElem? (i := 1) rfl)))
      show OG p e _ s below _ T6 (mkF m 26 #[.val (.ref a1), .val (.long q2), .second, .val (.long ((q2.toUInt64 >>> ((7 : Int32) &&& 0x3f).toInt64.toUInt64).toInt64)), .second] [])
      refine own_st (fun t k => XS.lloadN X6.here hx rfl (hb hby d10_26) rfl k) ?_
      show OG p e _ s below _ T6 (mkF m 27 #[.val (.ref a1), .val (.long q2), .second, .val (.long ((q2.toUInt64 >>> ((7 : Int32) &&& 0x3f).toInt64.toUInt64).toInt64)), .second] [(.long ((q2.toUInt64 >>> ((7 : Int32) &&& 0x3f).toInt64.toUInt64).toInt64))])
      refine own_st (fun t k => XS.bipush X6.here hx rfl (hb hby d10_27) k) ?_
      show OG p e _ s below _ T6 (mkF m 29 #[.val (.ref a1), .val (.long q2), .second, .val (.long ((q2.toUInt64 >>> ((7 : Int32) &&& 0x3f).toInt64.toUInt64).toInt64)), .second] [(.int (7 : Int32)), (.long ((q2.toUInt64 >>> ((7 : Int32) &&& 0x3f).toInt64.toUInt64).toInt64))])
      refine own_st (fun t k => XS.lushr X6.here hx rfl (hb hby d10_29) rfl k) ?_
      show OG p e _ s below _ T6 (mkF m 30 #[.val (.ref a1), .val (.long q2), .second, .val (.long ((q2.toUInt64 >>> ((7 : Int32) &&& 0x3f).toInt64.toUInt64).toInt64)), .second] [(.long ((((q2.toUInt64 >>> ((7 : Int32) &&& 0x3f).toInt64.toUInt64).toInt64).toUInt64 >>> ((7 : Int32) &&& 0x3f).toInt64.toUInt64).toInt64))])
      refine own_st (fun t k => XS.lstoreN X6.here hx rfl (hb hby d10_30) rfl (l' := #[.val (.ref a1), .val (.long q2), .second, .val (.long ((((q2.toUInt64 >>> ((7 : Int32) &&& 0x3f).toInt64.toUInt64).toInt64).toUInt64 >>> ((7 : Int32) &&& 0x3f).toInt64.toUInt64).toInt64)), .second]) rfl k) ?_
      show OG p e _ s below _ T6 (mkF m 31 #[.val (.ref a1), .val (.long q2), .second, .val (.long ((((q2.toUInt64 >>> ((7 : Int32) &&& 0x3f).toInt64.toUInt64).toInt64).toUInt64 >>> ((7 : Int32) &&& 0x3f).toInt64.toUInt64).toInt64)), .second] [])
      refine own_st (fun t k => XS.goto X6.here hx rfl (pc0 := 31) (pc' := 2) rfl (hb hby d10_31) (by decide) (by decide) k) ?_
      show OG p e _ s below _ T6 (mkF m 2 #[.val (.ref a1), .val (.long q2), .second, .val (.long ((((q2.toUInt64 >>> ((7 : Int32) &&& 0x3f).toInt64.toUInt64).toInt64).toUInt64 >>> ((7 : Int32) &&& 0x3f).toInt64.toUInt64).toInt64)), .second] [])
      refine own_st (fun t k => XS.lloadN X6.here hx rfl (hb hby d10_2) rfl k) ?_
      show OG p e _ s below _ T6 (mkF m 3 #[.val (.ref a1), .val (.long q2), .second, .val (.long ((((q2.toUInt64 >>> ((7 : Int32) &&& 0x3f).toInt64.toUInt64).toInt64).toUInt64 >>> ((7 : Int32) &&& 0x3f).toInt64.toUInt64).toInt64)), .second] [(.long ((((q2.toUInt64 >>> ((7 : Int32) &&& 0x3f).toInt64.toUInt64).toInt64).toUInt64 >>> ((7 : Int32) &&& 0x3f).toInt64.toUInt64).toInt64))])
      refine own_st (fun t k => X6.ldc2Long hx hown (mvT hZ (hw _ (List.mem_of_getElem? (i := 62) rfl))) (g := (mkF m 3 #[.val (.ref a1), .val (.long q2), .second, .val (.long ((((q2.toUInt64 >>> ((7 : Int32) &&& 0x3f).toInt64.toUInt64).toInt64).toUInt64 >>> ((7 : Int32) &&& 0x3f).toInt64.toUInt64).toInt64)), .second] [(.long ((((q2.toUInt64 >>> ((7 : Int32) &&& 0x3f).toInt64.toUInt64).toInt64).toUInt64 >>> ((7 : Int32) &&& 0x3f).toInt64.toUInt64).toInt64))])) rfl (hb hby d10_3) _ k) ?_
      show OG p e _ s below _ T6 (mkF m 6 #[.val (.ref a1), .val (.long q2), .second, .val (.long ((((q2.toUInt64 >>> ((7 : Int32) &&& 0x3f).toInt64.toUInt64).toInt64).toUInt64 >>> ((7 : Int32) &&& 0x3f).toInt64.toUInt64).toInt64)), .second] [(.long (-128 : Int64)), (.long ((((q2.toUInt64 >>> ((7 : Int32) &&& 0x3f).toInt64.toUInt64).toInt64).toUInt64 >>> ((7 : Int32) &&& 0x3f).toInt64.toUInt64).toInt64))])
      refine own_st (fun t k => XS.land X6.here hx rfl (hb hby d10_6) rfl k) ?_
      show OG p e _ s below _ T6 (mkF m 7 #[.val (.ref a1), .val (.long q2), .second, .val (.long ((((q2.toUInt64 >>> ((7 : Int32) &&& 0x3f).toInt64.toUInt64).toInt64).toUInt64 >>> ((7 : Int32) &&& 0x3f).toInt64.toUInt64).toInt64)), .second] [(.long (((((q2.toUInt64 >>> ((7 : Int32) &&& 0x3f).toInt64.toUInt64).toInt64).toUInt64 >>> ((7 : Int32) &&& 0x3f).toInt64.toUInt64).toInt64) &&& (-128 : Int64)))])
      refine own_st (fun t k => XS.lconst X6.here hx rfl (hb hby d10_7) k) ?_
      show OG p e _ s below _ T6 (mkF m 8 #[.val (.ref a1), .val (.long q2), .second, .val (.long ((((q2.toUInt64 >>> ((7 : Int32) &&& 0x3f).toInt64.toUInt64).toInt64).toUInt64 >>> ((7 : Int32) &&& 0x3f).toInt64.toUInt64).toInt64)), .second] [(.long (0 : Int64)), (.long (((((q2.toUInt64 >>> ((7 : Int32) &&& 0x3f).toInt64.toUInt64).toInt64).toUInt64 >>> ((7 : Int32) &&& 0x3f).toInt64.toUInt64).toInt64) &&& (-128 : Int64)))])
      refine own_st (fun t k => XS.lcmp X6.here hx rfl (hb hby d10_8) rfl k) ?_
      show OG p e _ s below _ T6 (mkF m 9 #[.val (.ref a1), .val (.long q2), .second, .val (.long ((((q2.toUInt64 >>> ((7 : Int32) &&& 0x3f).toInt64.toUInt64).toInt64).toUInt64 >>> ((7 : Int32) &&& 0x3f).toInt64.toUInt64).toInt64)), .second] [(.int (lcmpW (((((q2.toUInt64 >>> ((7 : Int32) &&& 0x3f).toInt64.toUInt64).toInt64).toUInt64 >>> ((7 : Int32) &&& 0x3f).toInt64.toUInt64).toInt64) &&& (-128 : Int64)) (0 : Int64)))])
      by_cases c7 : (((((q2.toUInt64 >>> ((7 : Int32) &&& 0x3f).toInt64.toUInt64).toInt64).toUInt64 >>> ((7 : Int32) &&& 0x3f).toInt64.toUInt64).toInt64) &&& (-128 : Int64)) = (0 : Int64)
      · refine own_st (fun t k => XS.ifYes X6.here hx rfl (pc0 := 9) (pc' := 34) rfl (hb hby d10_9) rfl (own_if0 (teq ((lw_eq _ _).mpr c7)).1) (by decide) (by decide) k) ?_
        show OG p e _ s below _ T6 (mkF m 34 #[.val (.ref a1), .val (.long q2), .second, .val (.long ((((q2.toUInt64 >>> ((7 : Int32) &&& 0x3f).toInt64.toUInt64).toInt64).toUInt64 >>> ((7 : Int32) &&& 0x3f).toInt64.toUInt64).toInt64)), .second] [])
        refine own_st (fun t k => XS.aloadN X6.here hx rfl (hb hby d10_34) rfl rfl k) ?_
        show OG p e _ s below _ T6 (mkF m 35 #[.val (.ref a1), .val (.long q2), .second, .val (.long ((((q2.toUInt64 >>> ((7 : Int32) &&& 0x3f).toInt64.toUInt64).toInt64).toUInt64 >>> ((7 : Int32) &&& 0x3f).toInt64.toUInt64).toInt64)), .second] [(.ref a1)])
        refine own_st (fun t k => XS.lloadN X6.here hx rfl (hb hby d10_35) rfl k) ?_
        show OG p e _ s below _ T6 (mkF m 36 #[.val (.ref a1), .val (.long q2), .second, .val (.long ((((q2.toUInt64 >>> ((7 : Int32) &&& 0x3f).toInt64.toUInt64).toInt64).toUInt64 >>> ((7 : Int32) &&& 0x3f).toInt64.toUInt64).toInt64)), .second] [(.long ((((q2.toUInt64 >>> ((7 : Int32) &&& 0x3f).toInt64.toUInt64).toInt64).toUInt64 >>> ((7 : Int32) &&& 0x3f).toInt64.toUInt64).toInt64)), (.ref a1)])
        refine own_st (fun t k => XS.l2i X6.here hx rfl (hb hby d10_36) rfl k) ?_
        show OG p e _ s below _ T6 (mkF m 37 #[.val (.ref a1), .val (.long q2), .second, .val (.long ((((q2.toUInt64 >>> ((7 : Int32) &&& 0x3f).toInt64.toUInt64).toInt64).toUInt64 >>> ((7 : Int32) &&& 0x3f).toInt64.toUInt64).toInt64)), .second] [(.int (((((q2.toUInt64 >>> ((7 : Int32) &&& 0x3f).toInt64.toUInt64).toInt64).toUInt64 >>> ((7 : Int32) &&& 0x3f).toInt64.toUInt64).toInt64).toInt32)), (.ref a1)])
        obtain ⟨cq8, kq8, q8a, q8b, q8c⟩ := isOf hZ rfl P6_0
        obtain ⟨_, _, ⟨T8, L8, k8, n8⟩, -, X8, ⟨Lc8, hQ8, l8, y8, z8⟩, st8⟩ := X6.virtualBack hx (y := (⟨"com/example/partwise/partwise/ByteBuilder", "append", "(I)V"⟩ : MethodName)) (z := (⟨"com/example/partwise/partwise/ByteBuilder", "append", "(I)V"⟩ : MethodName)) hown (mvT hZ (hw _ (List.mem_of_getElem? (i := 63) rfl))) (mvT hZ (hw _ (List.mem_of_getElem? (i := 37) rfl))) (notFace_of_selects (args := #[]) (mvT hZ (hw _ (List.mem_of_getElem? (i := 39) rfl)))) (mvT hZ (hw _ (List.mem_of_getElem? (i := 39) rfl))) (mvT hZ (hw _ (List.mem_of_getElem? (i := 38) rfl))) (by decide) (backOf (W := 0) (rm := ({ frames := 1, cells := 0, slots := 0, locals := 13 } : Room)) (rm6 l Z a0 hw [] a1 (((((q2.toUInt64 >>> ((7 : Int32) &&& 0x3f).toInt64.toUInt64).toInt64).toUInt64 >>> ((7 : Int32) &&& 0x3f).toInt64.toUInt64).toInt64).toInt32) buf ((n + (1 : Int32)) + (1 : Int32)) T6.heap n0 P6_0 P6_1 P6_2 P6_3 g_a1 g_buf ne_buf_a1 (OB.weak hn.step.step (by decide))) hZ (hw _ (List.mem_of_getElem? (i := 40) rfl)) (hw _ (List.mem_of_getElem? (i := 11) rfl)) (by decide) (by decide)) q8a q8c (g := (mkF m 37 #[.val (.ref a1), .val (.long q2), .second, .val (.long ((((q2.toUInt64 >>> ((7 : Int32) &&& 0x3f).toInt64.toUInt64).toInt64).toUInt64 >>> ((7 : Int32) &&& 0x3f).toInt64.toUInt64).toInt64)), .second] [(.int (((((q2.toUInt64 >>> ((7 : Int32) &&& 0x3f).toInt64.toUInt64).toInt64).toUInt64 >>> ((7 : Int32) &&& 0x3f).toInt64.toUInt64).toInt64).toInt32)), (.ref a1)])) rfl (by rw [hml]; rfl) (Steps.refl _) (argsL := [(.int (((((q2.toUInt64 >>> ((7 : Int32) &&& 0x3f).toInt64.toUInt64).toInt64).toUInt64 >>> ((7 : Int32) &&& 0x3f).toInt64.toUInt64).toInt64).toInt32))]) (rest := []) (lenOf pd__I_V rfl) rfl (by show 2 * 0 + _ ≤ _; exact Nat.le_of_eq rfl) (hb hby d10_37) (fun _ _ => ⟨rfl, rfl, (by decide : 0 + 0 ≤ _), (by decide : 0 + 0 ≤ _)⟩)
        dsimp only [Pt.U, Pt.locs, Pt.cells, Pt.slots] at X8 l8 y8 z8 st8 hQ8
        subst l8 y8 z8
        obtain ⟨rfl, N8q, K8q, P8_0, P8_1, P8_2, P8_3⟩ := hQ8
        refine own_st (fun t k => st8.trans k) ?_
        have N8 := Fr.app N6 N8q
        have K8 : Keep h0 T8.heap [a1, buf] := K6.trans K8q (own_all2 (Or.inl (List.mem_of_getElem? (i := 0) rfl)) (Or.inl (List.mem_of_getElem? (i := 1) rfl)))
        show OG p e _ s below _ T8 (mkF m 40 #[.val (.ref a1), .val (.long q2), .second, .val (.long ((((q2.toUInt64 >>> ((7 : Int32) &&& 0x3f).toInt64.toUInt64).toInt64).toUInt64 >>> ((7 : Int32) &&& 0x3f).toInt64.toUInt64).toInt64)), .second] [])
        refine own_ret0 X8 hx hret hlk (hb hby d10_40) (by decide) (by decide) ?_
        exact ⟨rfl, N8, K8, P8_0, P8_1, (by rw [show f10 q2 n = (((n + (1 : Int32)) + (1 : Int32)) + (1 : Int32)) from (by rw [f10, if_neg c1, if_neg c4, if_pos c7])]; exact P8_2), P8_3⟩
      · refine own_st (fun t k => XS.ifNo X6.here hx rfl (hb hby d10_9) rfl (own_if0 (feq (fun q => c7 ((lw_eq _ _).mp q))).1) k) ?_
        show OG p e _ s below _ T6 (mkF m 12 #[.val (.ref a1), .val (.long q2), .second, .val (.long ((((q2.toUInt64 >>> ((7 : Int32) &&& 0x3f).toInt64.toUInt64).toInt64).toUInt64 >>> ((7 : Int32) &&& 0x3f).toInt64.toUInt64).toInt64)), .second] [])
        refine own_st (fun t k => XS.aloadN X6.here hx rfl (hb hby d10_12) rfl rfl k) ?_
        show OG p e _ s below _ T6 (mkF m 13 #[.val (.ref a1), .val (.long q2), .second, .val (.long ((((q2.toUInt64 >>> ((7 : Int32) &&& 0x3f).toInt64.toUInt64).toInt64).toUInt64 >>> ((7 : Int32) &&& 0x3f).toInt64.toUInt64).toInt64)), .second] [(.ref a1)])
        refine own_st (fun t k => XS.lloadN X6.here hx rfl (hb hby d10_13) rfl k) ?_
        show OG p e _ s below _ T6 (mkF m 14 #[.val (.ref a1), .val (.long q2), .second, .val (.long ((((q2.toUInt64 >>> ((7 : Int32) &&& 0x3f).toInt64.toUInt64).toInt64).toUInt64 >>> ((7 : Int32) &&& 0x3f).toInt64.toUInt64).toInt64)), .second] [(.long ((((q2.toUInt64 >>> ((7 : Int32) &&& 0x3f).toInt64.toUInt64).toInt64).toUInt64 >>> ((7 : Int32) &&& 0x3f).toInt64.toUInt64).toInt64)), (.ref a1)])
        refine own_st (fun t k => X6.ldc2Long hx hown (mvT hZ (hw _ (List.mem_of_getElem? (i := 106) rfl))) (g := (mkF m 14 #[.val (.ref a1), .val (.long q2), .second, .val (.long ((((q2.toUInt64 >>> ((7 : Int32) &&& 0x3f).toInt64.toUInt64).toInt64).toUInt64 >>> ((7 : Int32) &&& 0x3f).toInt64.toUInt64).toInt64)), .second] [(.long ((((q2.toUInt64 >>> ((7 : Int32) &&& 0x3f).toInt64.toUInt64).toInt64).toUInt64 >>> ((7 : Int32) &&& 0x3f).toInt64.toUInt64).toInt64)), (.ref a1)])) rfl (hb hby d10_14) _ k) ?_
        show OG p e _ s below _ T6 (mkF m 17 #[.val (.ref a1), .val (.long q2), .second, .val (.long ((((q2.toUInt64 >>> ((7 : Int32) &&& 0x3f).toInt64.toUInt64).toInt64).toUInt64 >>> ((7 : Int32) &&& 0x3f).toInt64.toUInt64).toInt64)), .second] [(.long (127 : Int64)), (.long ((((q2.toUInt64 >>> ((7 : Int32) &&& 0x3f).toInt64.toUInt64).toInt64).toUInt64 >>> ((7 : Int32) &&& 0x3f).toInt64.toUInt64).toInt64)), (.ref a1)])
        refine own_st (fun t k => XS.land X6.here hx rfl (hb hby d10_17) rfl k) ?_
        show OG p e _ s below _ T6 (mkF m 18 #[.val (.ref a1), .val (.long q2), .second, .val (.long ((((q2.toUInt64 >>> ((7 : Int32) &&& 0x3f).toInt64.toUInt64).toInt64).toUInt64 >>> ((7 : Int32) &&& 0x3f).toInt64.toUInt64).toInt64)), .second] [(.long (((((q2.toUInt64 >>> ((7 : Int32) &&& 0x3f).toInt64.toUInt64).toInt64).toUInt64 >>> ((7 : Int32) &&& 0x3f).toInt64.toUInt64).toInt64) &&& (127 : Int64))), (.ref a1)])
        refine own_st (fun t k => XS.l2i X6.here hx rfl (hb hby d10_18) rfl k) ?_
        show OG p e _ s below _ T6 (mkF m 19 #[.val (.ref a1), .val (.long q2), .second, .val (.long ((((q2.toUInt64 >>> ((7 : Int32) &&& 0x3f).toInt64.toUInt64).toInt64).toUInt64 >>> ((7 : Int32) &&& 0x3f).toInt64.toUInt64).toInt64)), .second] [(.int ((((((q2.toUInt64 >>> ((7 : Int32) &&& 0x3f).toInt64.toUInt64).toInt64).toUInt64 >>> ((7 : Int32) &&& 0x3f).toInt64.toUInt64).toInt64) &&& (127 : Int64)).toInt32)), (.ref a1)])
        refine own_st (fun t k => XS.sipush X6.here hx rfl (hb hby d10_19) k) ?_
        show OG p e _ s below _ T6 (mkF m 22 #[.val (.ref a1), .val (.long q2), .second, .val (.long ((((q2.toUInt64 >>> ((7 : Int32) &&& 0x3f).toInt64.toUInt64).toInt64).toUInt64 >>> ((7 : Int32) &&& 0x3f).toInt64.toUInt64).toInt64)), .second] [(.int (128 : Int32)), (.int ((((((q2.toUInt64 >>> ((7 : Int32) &&& 0x3f).toInt64.toUInt64).toInt64).toUInt64 >>> ((7 : Int32) &&& 0x3f).toInt64.toUInt64).toInt64) &&& (127 : Int64)).toInt32)), (.ref a1)])
        refine own_st (fun t k => XS.ior X6.here hx rfl (hb hby d10_22) rfl k) ?_
        show OG p e _ s below _ T6 (mkF m 23 #[.val (.ref a1), .val (.long q2), .second, .val (.long ((((q2.toUInt64 >>> ((7 : Int32) &&& 0x3f).toInt64.toUInt64).toInt64).toUInt64 >>> ((7 : Int32) &&& 0x3f).toInt64.toUInt64).toInt64)), .second] [(.int (((((((q2.toUInt64 >>> ((7 : Int32) &&& 0x3f).toInt64.toUInt64).toInt64).toUInt64 >>> ((7 : Int32) &&& 0x3f).toInt64.toUInt64).toInt64) &&& (127 : Int64)).toInt32) ||| (128 : Int32))), (.ref a1)])
        obtain ⟨cq9, kq9, q9a, q9b, q9c⟩ := isOf hZ rfl P6_0
        obtain ⟨_, _, ⟨T9, L9, k9, n9⟩, -, X9, ⟨Lc9, hQ9, l9, y9, z9⟩, st9⟩ := X6.virtualBack hx (y := (⟨"com/example/partwise/partwise/ByteBuilder", "append", "(I)V"⟩ : MethodName)) (z := (⟨"com/example/partwise/partwise/ByteBuilder", "append", "(I)V"⟩ : MethodName)) hown (mvT hZ (hw _ (List.mem_of_getElem? (i := 63) rfl))) (mvT hZ (hw _ (List.mem_of_getElem? (i := 37) rfl))) (notFace_of_selects (args := #[]) (mvT hZ (hw _ (List.mem_of_getElem? (i := 39) rfl)))) (mvT hZ (hw _ (List.mem_of_getElem? (i := 39) rfl))) (mvT hZ (hw _ (List.mem_of_getElem? (i := 38) rfl))) (by decide) (backOf (W := 0) (rm := ({ frames := 1, cells := 0, slots := 0, locals := 13 } : Room)) (rm6 l Z a0 hw [] a1 (((((((q2.toUInt64 >>> ((7 : Int32) &&& 0x3f).toInt64.toUInt64).toInt64).toUInt64 >>> ((7 : Int32) &&& 0x3f).toInt64.toUInt64).toInt64) &&& (127 : Int64)).toInt32) ||| (128 : Int32)) buf ((n + (1 : Int32)) + (1 : Int32)) T6.heap n0 P6_0 P6_1 P6_2 P6_3 g_a1 g_buf ne_buf_a1 (OB.weak hn.step.step (by decide))) hZ (hw _ (List.mem_of_getElem? (i := 40) rfl)) (hw _ (List.mem_of_getElem? (i := 11) rfl)) (by decide) (by decide)) q9a q9c (g := (mkF m 23 #[.val (.ref a1), .val (.long q2), .second, .val (.long ((((q2.toUInt64 >>> ((7 : Int32) &&& 0x3f).toInt64.toUInt64).toInt64).toUInt64 >>> ((7 : Int32) &&& 0x3f).toInt64.toUInt64).toInt64)), .second] [(.int (((((((q2.toUInt64 >>> ((7 : Int32) &&& 0x3f).toInt64.toUInt64).toInt64).toUInt64 >>> ((7 : Int32) &&& 0x3f).toInt64.toUInt64).toInt64) &&& (127 : Int64)).toInt32) ||| (128 : Int32))), (.ref a1)])) rfl (by rw [hml]; rfl) (Steps.refl _) (argsL := [(.int (((((((q2.toUInt64 >>> ((7 : Int32) &&& 0x3f).toInt64.toUInt64).toInt64).toUInt64 >>> ((7 : Int32) &&& 0x3f).toInt64.toUInt64).toInt64) &&& (127 : Int64)).toInt32) ||| (128 : Int32)))]) (rest := []) (lenOf pd__I_V rfl) rfl (by show 2 * 0 + _ ≤ _; exact Nat.le_of_eq rfl) (hb hby d10_23) (fun _ _ => ⟨rfl, rfl, (by decide : 0 + 0 ≤ _), (by decide : 0 + 0 ≤ _)⟩)
        dsimp only [Pt.U, Pt.locs, Pt.cells, Pt.slots] at X9 l9 y9 z9 st9 hQ9
        subst l9 y9 z9
        obtain ⟨rfl, N9q, K9q, P9_0, P9_1, P9_2, P9_3⟩ := hQ9
        refine own_st (fun t k => st9.trans k) ?_
        have N9 := Fr.app N6 N9q
        have K9 : Keep h0 T9.heap [a1, buf] := K6.trans K9q (own_all2 (Or.inl (List.mem_of_getElem? (i := 0) rfl)) (Or.inl (List.mem_of_getElem? (i := 1) rfl)))
        show OG p e _ s below _ T9 (mkF m 26 #[.val (.ref a1), .val (.long q2), .second, .val (.long ((((q2.toUInt64 >>> ((7 : Int32) &&& 0x3f).toInt64.toUInt64).toInt64).toUInt64 >>> ((7 : Int32) &&& 0x3f).toInt64.toUInt64).toInt64)), .second] [])
        refine own_st (fun t k => XS.lloadN X9.here hx rfl (hb hby d10_26) rfl k) ?_
        show OG p e _ s below _ T9 (mkF m 27 #[.val (.ref a1), .val (.long q2), .second, .val (.long ((((q2.toUInt64 >>> ((7 : Int32) &&& 0x3f).toInt64.toUInt64).toInt64).toUInt64 >>> ((7 : Int32) &&& 0x3f).toInt64.toUInt64).toInt64)), .second] [(.long ((((q2.toUInt64 >>> ((7 : Int32) &&& 0x3f).toInt64.toUInt64).toInt64).toUInt64 >>> ((7 : Int32) &&& 0x3f).toInt64.toUInt64).toInt64))])
        refine own_st (fun t k => XS.bipush X9.here hx rfl (hb hby d10_27) k) ?_
        show OG p e _ s below _ T9 (mkF m 29 #[.val (.ref a1), .val (.long q2), .second, .val (.long ((((q2.toUInt64 >>> ((7 : Int32) &&& 0x3f).toInt64.toUInt64).toInt64).toUInt64 >>> ((7 : Int32) &&& 0x3f).toInt64.toUInt64).toInt64)), .second] [(.int (7 : Int32)), (.long ((((q2.toUInt64 >>> ((7 : Int32) &&& 0x3f).toInt64.toUInt64).toInt64).toUInt64 >>> ((7 : Int32) &&& 0x3f).toInt64.toUInt64).toInt64))])
        refine own_st (fun t k => XS.lushr X9.here hx rfl (hb hby d10_29) rfl k) ?_
        show OG p e _ s below _ T9 (mkF m 30 #[.val (.ref a1), .val (.long q2), .second, .val (.long ((((q2.toUInt64 >>> ((7 : Int32) &&& 0x3f).toInt64.toUInt64).toInt64).toUInt64 >>> ((7 : Int32) &&& 0x3f).toInt64.toUInt64).toInt64)), .second] [(.long ((((((q2.toUInt64 >>> ((7 : Int32) &&& 0x3f).toInt64.toUInt64).toInt64).toUInt64 >>> ((7 : Int32) &&& 0x3f).toInt64.toUInt64).toInt64).toUInt64 >>> ((7 : Int32) &&& 0x3f).toInt64.toUInt64).toInt64))])
        refine own_st (fun t k => XS.lstoreN X9.here hx rfl (hb hby d10_30) rfl (l' := #[.val (.ref a1), .val (.long q2), .second, .val (.long ((((((q2.toUInt64 >>> ((7 : Int32) &&& 0x3f).toInt64.toUInt64).toInt64).toUInt64 >>> ((7 : Int32) &&& 0x3f).toInt64.toUInt64).toInt64).toUInt64 >>> ((7 : Int32) &&& 0x3f).toInt64.toUInt64).toInt64)), .second]) rfl k) ?_
        show OG p e _ s below _ T9 (mkF m 31 #[.val (.ref a1), .val (.long q2), .second, .val (.long ((((((q2.toUInt64 >>> ((7 : Int32) &&& 0x3f).toInt64.toUInt64).toInt64).toUInt64 >>> ((7 : Int32) &&& 0x3f).toInt64.toUInt64).toInt64).toUInt64 >>> ((7 : Int32) &&& 0x3f).toInt64.toUInt64).toInt64)), .second] [])
        refine own_st (fun t k => XS.goto X9.here hx rfl (pc0 := 31) (pc' := 2) rfl (hb hby d10_31) (by decide) (by decide) k) ?_
        show OG p e _ s below _ T9 (mkF m 2 #[.val (.ref a1), .val (.long q2), .second, .val (.long ((((((q2.toUInt64 >>> ((7 : Int32) &&& 0x3f).toInt64.toUInt64).toInt64).toUInt64 >>> ((7 : Int32) &&& 0x3f).toInt64.toUInt64).toInt64).toUInt64 >>> ((7 : Int32) &&& 0x3f).toInt64.toUInt64).toInt64)), .second] [])
        refine own_st (fun t k => XS.lloadN X9.here hx rfl (hb hby d10_2) rfl k) ?_
        show OG p e _ s below _ T9 (mkF m 3 #[.val (.ref a1), .val (.long q2), .second, .val (.long ((((((q2.toUInt64 >>> ((7 : Int32) &&& 0x3f).toInt64.toUInt64).toInt64).toUInt64 >>> ((7 : Int32) &&& 0x3f).toInt64.toUInt64).toInt64).toUInt64 >>> ((7 : Int32) &&& 0x3f).toInt64.toUInt64).toInt64)), .second] [(.long ((((((q2.toUInt64 >>> ((7 : Int32) &&& 0x3f).toInt64.toUInt64).toInt64).toUInt64 >>> ((7 : Int32) &&& 0x3f).toInt64.toUInt64).toInt64).toUInt64 >>> ((7 : Int32) &&& 0x3f).toInt64.toUInt64).toInt64))])
        refine own_st (fun t k => X9.ldc2Long hx hown (mvT hZ (hw _ (List.mem_of_getElem? (i := 62) rfl))) (g := (mkF m 3 #[.val (.ref a1), .val (.long q2), .second, .val (.long ((((((q2.toUInt64 >>> ((7 : Int32) &&& 0x3f).toInt64.toUInt64).toInt64).toUInt64 >>> ((7 : Int32) &&& 0x3f).toInt64.toUInt64).toInt64).toUInt64 >>> ((7 : Int32) &&& 0x3f).toInt64.toUInt64).toInt64)), .second] [(.long ((((((q2.toUInt64 >>> ((7 : Int32) &&& 0x3f).toInt64.toUInt64).toInt64).toUInt64 >>> ((7 : Int32) &&& 0x3f).toInt64.toUInt64).toInt64).toUInt64 >>> ((7 : Int32) &&& 0x3f).toInt64.toUInt64).toInt64))])) rfl (hb hby d10_3) _ k) ?_
        show OG p e _ s below _ T9 (mkF m 6 #[.val (.ref a1), .val (.long q2), .second, .val (.long ((((((q2.toUInt64 >>> ((7 : Int32) &&& 0x3f).toInt64.toUInt64).toInt64).toUInt64 >>> ((7 : Int32) &&& 0x3f).toInt64.toUInt64).toInt64).toUInt64 >>> ((7 : Int32) &&& 0x3f).toInt64.toUInt64).toInt64)), .second] [(.long (-128 : Int64)), (.long ((((((q2.toUInt64 >>> ((7 : Int32) &&& 0x3f).toInt64.toUInt64).toInt64).toUInt64 >>> ((7 : Int32) &&& 0x3f).toInt64.toUInt64).toInt64).toUInt64 >>> ((7 : Int32) &&& 0x3f).toInt64.toUInt64).toInt64))])
        refine own_st (fun t k => XS.land X9.here hx rfl (hb hby d10_6) rfl k) ?_
        show OG p e _ s below _ T9 (mkF m 7 #[.val (.ref a1), .val (.long q2), .second, .val (.long ((((((q2.toUInt64 >>> ((7 : Int32) &&& 0x3f).toInt64.toUInt64).toInt64).toUInt64 >>> ((7 : Int32) &&& 0x3f).toInt64.toUInt64).toInt64).toUInt64 >>> ((7 : Int32) &&& 0x3f).toInt64.toUInt64).toInt64)), .second] [(.long (((((((q2.toUInt64 >>> ((7 : Int32) &&& 0x3f).toInt64.toUInt64).toInt64).toUInt64 >>> ((7 : Int32) &&& 0x3f).toInt64.toUInt64).toInt64).toUInt64 >>> ((7 : Int32) &&& 0x3f).toInt64.toUInt64).toInt64) &&& (-128 : Int64)))])
        refine own_st (fun t k => XS.lconst X9.here hx rfl (hb hby d10_7) k) ?_
        show OG p e _ s below _ T9 (mkF m 8 #[.val (.ref a1), .val (.long q2), .second, .val (.long ((((((q2.toUInt64 >>> ((7 : Int32) &&& 0x3f).toInt64.toUInt64).toInt64).toUInt64 >>> ((7 : Int32) &&& 0x3f).toInt64.toUInt64).toInt64).toUInt64 >>> ((7 : Int32) &&& 0x3f).toInt64.toUInt64).toInt64)), .second] [(.long (0 : Int64)), (.long (((((((q2.toUInt64 >>> ((7 : Int32) &&& 0x3f).toInt64.toUInt64).toInt64).toUInt64 >>> ((7 : Int32) &&& 0x3f).toInt64.toUInt64).toInt64).toUInt64 >>> ((7 : Int32) &&& 0x3f).toInt64.toUInt64).toInt64) &&& (-128 : Int64)))])
        refine own_st (fun t k => XS.lcmp X9.here hx rfl (hb hby d10_8) rfl k) ?_
        show OG p e _ s below _ T9 (mkF m 9 #[.val (.ref a1), .val (.long q2), .second, .val (.long ((((((q2.toUInt64 >>> ((7 : Int32) &&& 0x3f).toInt64.toUInt64).toInt64).toUInt64 >>> ((7 : Int32) &&& 0x3f).toInt64.toUInt64).toInt64).toUInt64 >>> ((7 : Int32) &&& 0x3f).toInt64.toUInt64).toInt64)), .second] [(.int (lcmpW (((((((q2.toUInt64 >>> ((7 : Int32) &&& 0x3f).toInt64.toUInt64).toInt64).toUInt64 >>> ((7 : Int32) &&& 0x3f).toInt64.toUInt64).toInt64).toUInt64 >>> ((7 : Int32) &&& 0x3f).toInt64.toUInt64).toInt64) &&& (-128 : Int64)) (0 : Int64)))])
        by_cases c10 : (((((((q2.toUInt64 >>> ((7 : Int32) &&& 0x3f).toInt64.toUInt64).toInt64).toUInt64 >>> ((7 : Int32) &&& 0x3f).toInt64.toUInt64).toInt64).toUInt64 >>> ((7 : Int32) &&& 0x3f).toInt64.toUInt64).toInt64) &&& (-128 : Int64)) = (0 : Int64)
        · refine own_st (fun t k => XS.ifYes X9.here hx rfl (pc0 := 9) (pc' := 34) rfl (hb hby d10_9) rfl (own_if0 (teq ((lw_eq _ _).mpr c10)).1) (by decide) (by decide) k) ?_
          show OG p e _ s below _ T9 (mkF m 34 #[.val (.ref a1), .val (.long q2), .second, .val (.long ((((((q2.toUInt64 >>> ((7 : Int32) &&& 0x3f).toInt64.toUInt64).toInt64).toUInt64 >>> ((7 : Int32) &&& 0x3f).toInt64.toUInt64).toInt64).toUInt64 >>> ((7 : Int32) &&& 0x3f).toInt64.toUInt64).toInt64)), .second] [])
          refine own_st (fun t k => XS.aloadN X9.here hx rfl (hb hby d10_34) rfl rfl k) ?_
          show OG p e _ s below _ T9 (mkF m 35 #[.val (.ref a1), .val (.long q2), .second, .val (.long ((((((q2.toUInt64 >>> ((7 : Int32) &&& 0x3f).toInt64.toUInt64).toInt64).toUInt64 >>> ((7 : Int32) &&& 0x3f).toInt64.toUInt64).toInt64).toUInt64 >>> ((7 : Int32) &&& 0x3f).toInt64.toUInt64).toInt64)), .second] [(.ref a1)])
          refine own_st (fun t k => XS.lloadN X9.here hx rfl (hb hby d10_35) rfl k) ?_
          show OG p e _ s below _ T9 (mkF m 36 #[.val (.ref a1), .val (.long q2), .second, .val (.long ((((((q2.toUInt64 >>> ((7 : Int32) &&& 0x3f).toInt64.toUInt64).toInt64).toUInt64 >>> ((7 : Int32) &&& 0x3f).toInt64.toUInt64).toInt64).toUInt64 >>> ((7 : Int32) &&& 0x3f).toInt64.toUInt64).toInt64)), .second] [(.long ((((((q2.toUInt64 >>> ((7 : Int32) &&& 0x3f).toInt64.toUInt64).toInt64).toUInt64 >>> ((7 : Int32) &&& 0x3f).toInt64.toUInt64).toInt64).toUInt64 >>> ((7 : Int32) &&& 0x3f).toInt64.toUInt64).toInt64)), (.ref a1)])
          refine own_st (fun t k => XS.l2i X9.here hx rfl (hb hby d10_36) rfl k) ?_
          show OG p e _ s below _ T9 (mkF m 37 #[.val (.ref a1), .val (.long q2), .second, .val (.long ((((((q2.toUInt64 >>> ((7 : Int32) &&& 0x3f).toInt64.toUInt64).toInt64).toUInt64 >>> ((7 : Int32) &&& 0x3f).toInt64.toUInt64).toInt64).toUInt64 >>> ((7 : Int32) &&& 0x3f).toInt64.toUInt64).toInt64)), .second] [(.int (((((((q2.toUInt64 >>> ((7 : Int32) &&& 0x3f).toInt64.toUInt64).toInt64).toUInt64 >>> ((7 : Int32) &&& 0x3f).toInt64.toUInt64).toInt64).toUInt64 >>> ((7 : Int32) &&& 0x3f).toInt64.toUInt64).toInt64).toInt32)), (.ref a1)])
          obtain ⟨cq11, kq11, q11a, q11b, q11c⟩ := isOf hZ rfl P9_0
          obtain ⟨_, _, ⟨T11, L11, k11, n11⟩, -, X11, ⟨Lc11, hQ11, l11, y11, z11⟩, st11⟩ := X9.virtualBack hx (y := (⟨"com/example/partwise/partwise/ByteBuilder", "append", "(I)V"⟩ : MethodName)) (z := (⟨"com/example/partwise/partwise/ByteBuilder", "append", "(I)V"⟩ : MethodName)) hown (mvT hZ (hw _ (List.mem_of_getElem? (i := 63) rfl))) (mvT hZ (hw _ (List.mem_of_getElem? (i := 37) rfl))) (notFace_of_selects (args := #[]) (mvT hZ (hw _ (List.mem_of_getElem? (i := 39) rfl)))) (mvT hZ (hw _ (List.mem_of_getElem? (i := 39) rfl))) (mvT hZ (hw _ (List.mem_of_getElem? (i := 38) rfl))) (by decide) (backOf (W := 0) (rm := ({ frames := 1, cells := 0, slots := 0, locals := 13 } : Room)) (rm6 l Z a0 hw [] a1 (((((((q2.toUInt64 >>> ((7 : Int32) &&& 0x3f).toInt64.toUInt64).toInt64).toUInt64 >>> ((7 : Int32) &&& 0x3f).toInt64.toUInt64).toInt64).toUInt64 >>> ((7 : Int32) &&& 0x3f).toInt64.toUInt64).toInt64).toInt32) buf (((n + (1 : Int32)) + (1 : Int32)) + (1 : Int32)) T9.heap n0 P9_0 P9_1 P9_2 P9_3 g_a1 g_buf ne_buf_a1 (OB.weak hn.step.step.step (by decide))) hZ (hw _ (List.mem_of_getElem? (i := 40) rfl)) (hw _ (List.mem_of_getElem? (i := 11) rfl)) (by decide) (by decide)) q11a q11c (g := (mkF m 37 #[.val (.ref a1), .val (.long q2), .second, .val (.long ((((((q2.toUInt64 >>> ((7 : Int32) &&& 0x3f).toInt64.toUInt64).toInt64).toUInt64 >>> ((7 : Int32) &&& 0x3f).toInt64.toUInt64).toInt64).toUInt64 >>> ((7 : Int32) &&& 0x3f).toInt64.toUInt64).toInt64)), .second] [(.int (((((((q2.toUInt64 >>> ((7 : Int32) &&& 0x3f).toInt64.toUInt64).toInt64).toUInt64 >>> ((7 : Int32) &&& 0x3f).toInt64.toUInt64).toInt64).toUInt64 >>> ((7 : Int32) &&& 0x3f).toInt64.toUInt64).toInt64).toInt32)), (.ref a1)])) rfl (by rw [hml]; rfl) (Steps.refl _) (argsL := [(.int (((((((q2.toUInt64 >>> ((7 : Int32) &&& 0x3f).toInt64.toUInt64).toInt64).toUInt64 >>> ((7 : Int32) &&& 0x3f).toInt64.toUInt64).toInt64).toUInt64 >>> ((7 : Int32) &&& 0x3f).toInt64.toUInt64).toInt64).toInt32))]) (rest := []) (lenOf pd__I_V rfl) rfl (by show 2 * 0 + _ ≤ _; exact Nat.le_of_eq rfl) (hb hby d10_37) (fun _ _ => ⟨rfl, rfl, (by decide : 0 + 0 ≤ _), (by decide : 0 + 0 ≤ _)⟩)
          dsimp only [Pt.U, Pt.locs, Pt.cells, Pt.slots] at X11 l11 y11 z11 st11 hQ11
          subst l11 y11 z11
          obtain ⟨rfl, N11q, K11q, P11_0, P11_1, P11_2, P11_3⟩ := hQ11
          refine own_st (fun t k => st11.trans k) ?_
          have N11 := Fr.app N9 N11q
          have K11 : Keep h0 T11.heap [a1, buf] := K9.trans K11q (own_all2 (Or.inl (List.mem_of_getElem? (i := 0) rfl)) (Or.inl (List.mem_of_getElem? (i := 1) rfl)))
          show OG p e _ s below _ T11 (mkF m 40 #[.val (.ref a1), .val (.long q2), .second, .val (.long ((((((q2.toUInt64 >>> ((7 : Int32) &&& 0x3f).toInt64.toUInt64).toInt64).toUInt64 >>> ((7 : Int32) &&& 0x3f).toInt64.toUInt64).toInt64).toUInt64 >>> ((7 : Int32) &&& 0x3f).toInt64.toUInt64).toInt64)), .second] [])
          refine own_ret0 X11 hx hret hlk (hb hby d10_40) (by decide) (by decide) ?_
          exact ⟨rfl, N11, K11, P11_0, P11_1, (by rw [show f10 q2 n = ((((n + (1 : Int32)) + (1 : Int32)) + (1 : Int32)) + (1 : Int32)) from (by rw [f10, if_neg c1, if_neg c4, if_neg c7, if_pos c10])]; exact P11_2), P11_3⟩
        · refine own_st (fun t k => XS.ifNo X9.here hx rfl (hb hby d10_9) rfl (own_if0 (feq (fun q => c10 ((lw_eq _ _).mp q))).1) k) ?_
          show OG p e _ s below _ T9 (mkF m 12 #[.val (.ref a1), .val (.long q2), .second, .val (.long ((((((q2.toUInt64 >>> ((7 : Int32) &&& 0x3f).toInt64.toUInt64).toInt64).toUInt64 >>> ((7 : Int32) &&& 0x3f).toInt64.toUInt64).toInt64).toUInt64 >>> ((7 : Int32) &&& 0x3f).toInt64.toUInt64).toInt64)), .second] [])
          refine own_st (fun t k => XS.aloadN X9.here hx rfl (hb hby d10_12) rfl rfl k) ?_
          show OG p e _ s below _ T9 (mkF m 13 #[.val (.ref a1), .val (.long q2), .second, .val (.long ((((((q2.toUInt64 >>> ((7 : Int32) &&& 0x3f).toInt64.toUInt64).toInt64).toUInt64 >>> ((7 : Int32) &&& 0x3f).toInt64.toUInt64).toInt64).toUInt64 >>> ((7 : Int32) &&& 0x3f).toInt64.toUInt64).toInt64)), .second] [(.ref a1)])
          refine own_st (fun t k => XS.lloadN X9.here hx rfl (hb hby d10_13) rfl k) ?_
          show OG p e _ s below _ T9 (mkF m 14 #[.val (.ref a1), .val (.long q2), .second, .val (.long ((((((q2.toUInt64 >>> ((7 : Int32) &&& 0x3f).toInt64.toUInt64).toInt64).toUInt64 >>> ((7 : Int32) &&& 0x3f).toInt64.toUInt64).toInt64).toUInt64 >>> ((7 : Int32) &&& 0x3f).toInt64.toUInt64).toInt64)), .second] [(.long ((((((q2.toUInt64 >>> ((7 : Int32) &&& 0x3f).toInt64.toUInt64).toInt64).toUInt64 >>> ((7 : Int32) &&& 0x3f).toInt64.toUInt64).toInt64).toUInt64 >>> ((7 : Int32) &&& 0x3f).toInt64.toUInt64).toInt64)), (.ref a1)])
          refine own_st (fun t k => X9.ldc2Long hx hown (mvT hZ (hw _ (List.mem_of_getElem? (i := 106) rfl))) (g := (mkF m 14 #[.val (.ref a1), .val (.long q2), .second, .val (.long ((((((q2.toUInt64 >>> ((7 : Int32) &&& 0x3f).toInt64.toUInt64).toInt64).toUInt64 >>> ((7 : Int32) &&& 0x3f).toInt64.toUInt64).toInt64).toUInt64 >>> ((7 : Int32) &&& 0x3f).toInt64.toUInt64).toInt64)), .second] [(.long ((((((q2.toUInt64 >>> ((7 : Int32) &&& 0x3f).toInt64.toUInt64).toInt64).toUInt64 >>> ((7 : Int32) &&& 0x3f).toInt64.toUInt64).toInt64).toUInt64 >>> ((7 : Int32) &&& 0x3f).toInt64.toUInt64).toInt64)), (.ref a1)])) rfl (hb hby d10_14) _ k) ?_
          show OG p e _ s below _ T9 (mkF m 17 #[.val (.ref a1), .val (.long q2), .second, .val (.long ((((((q2.toUInt64 >>> ((7 : Int32) &&& 0x3f).toInt64.toUInt64).toInt64).toUInt64 >>> ((7 : Int32) &&& 0x3f).toInt64.toUInt64).toInt64).toUInt64 >>> ((7 : Int32) &&& 0x3f).toInt64.toUInt64).toInt64)), .second] [(.long (127 : Int64)), (.long ((((((q2.toUInt64 >>> ((7 : Int32) &&& 0x3f).toInt64.toUInt64).toInt64).toUInt64 >>> ((7 : Int32) &&& 0x3f).toInt64.toUInt64).toInt64).toUInt64 >>> ((7 : Int32) &&& 0x3f).toInt64.toUInt64).toInt64)), (.ref a1)])
          refine own_st (fun t k => XS.land X9.here hx rfl (hb hby d10_17) rfl k) ?_
          show OG p e _ s below _ T9 (mkF m 18 #[.val (.ref a1), .val (.long q2), .second, .val (.long ((((((q2.toUInt64 >>> ((7 : Int32) &&& 0x3f).toInt64.toUInt64).toInt64).toUInt64 >>> ((7 : Int32) &&& 0x3f).toInt64.toUInt64).toInt64).toUInt64 >>> ((7 : Int32) &&& 0x3f).toInt64.toUInt64).toInt64)), .second] [(.long (((((((q2.toUInt64 >>> ((7 : Int32) &&& 0x3f).toInt64.toUInt64).toInt64).toUInt64 >>> ((7 : Int32) &&& 0x3f).toInt64.toUInt64).toInt64).toUInt64 >>> ((7 : Int32) &&& 0x3f).toInt64.toUInt64).toInt64) &&& (127 : Int64))), (.ref a1)])
          refine own_st (fun t k => XS.l2i X9.here hx rfl (hb hby d10_18) rfl k) ?_
          show OG p e _ s below _ T9 (mkF m 19 #[.val (.ref a1), .val (.long q2), .second, .val (.long ((((((q2.toUInt64 >>> ((7 : Int32) &&& 0x3f).toInt64.toUInt64).toInt64).toUInt64 >>> ((7 : Int32) &&& 0x3f).toInt64.toUInt64).toInt64).toUInt64 >>> ((7 : Int32) &&& 0x3f).toInt64.toUInt64).toInt64)), .second] [(.int ((((((((q2.toUInt64 >>> ((7 : Int32) &&& 0x3f).toInt64.toUInt64).toInt64).toUInt64 >>> ((7 : Int32) &&& 0x3f).toInt64.toUInt64).toInt64).toUInt64 >>> ((7 : Int32) &&& 0x3f).toInt64.toUInt64).toInt64) &&& (127 : Int64)).toInt32)), (.ref a1)])
          refine own_st (fun t k => XS.sipush X9.here hx rfl (hb hby d10_19) k) ?_
          show OG p e _ s below _ T9 (mkF m 22 #[.val (.ref a1), .val (.long q2), .second, .val (.long ((((((q2.toUInt64 >>> ((7 : Int32) &&& 0x3f).toInt64.toUInt64).toInt64).toUInt64 >>> ((7 : Int32) &&& 0x3f).toInt64.toUInt64).toInt64).toUInt64 >>> ((7 : Int32) &&& 0x3f).toInt64.toUInt64).toInt64)), .second] [(.int (128 : Int32)), (.int ((((((((q2.toUInt64 >>> ((7 : Int32) &&& 0x3f).toInt64.toUInt64).toInt64).toUInt64 >>> ((7 : Int32) &&& 0x3f).toInt64.toUInt64).toInt64).toUInt64 >>> ((7 : Int32) &&& 0x3f).toInt64.toUInt64).toInt64) &&& (127 : Int64)).toInt32)), (.ref a1)])
          refine own_st (fun t k => XS.ior X9.here hx rfl (hb hby d10_22) rfl k) ?_
          show OG p e _ s below _ T9 (mkF m 23 #[.val (.ref a1), .val (.long q2), .second, .val (.long ((((((q2.toUInt64 >>> ((7 : Int32) &&& 0x3f).toInt64.toUInt64).toInt64).toUInt64 >>> ((7 : Int32) &&& 0x3f).toInt64.toUInt64).toInt64).toUInt64 >>> ((7 : Int32) &&& 0x3f).toInt64.toUInt64).toInt64)), .second] [(.int (((((((((q2.toUInt64 >>> ((7 : Int32) &&& 0x3f).toInt64.toUInt64).toInt64).toUInt64 >>> ((7 : Int32) &&& 0x3f).toInt64.toUInt64).toInt64).toUInt64 >>> ((7 : Int32) &&& 0x3f).toInt64.toUInt64).toInt64) &&& (127 : Int64)).toInt32) ||| (128 : Int32))), (.ref a1)])
          obtain ⟨cq12, kq12, q12a, q12b, q12c⟩ := isOf hZ rfl P9_0
          obtain ⟨_, _, ⟨T12, L12, k12, n12⟩, -, X12, ⟨Lc12, hQ12, l12, y12, z12⟩, st12⟩ := X9.virtualBack hx (y := (⟨"com/example/partwise/partwise/ByteBuilder", "append", "(I)V"⟩ : MethodName)) (z := (⟨"com/example/partwise/partwise/ByteBuilder", "append", "(I)V"⟩ : MethodName)) hown (mvT hZ (hw _ (List.mem_of_getElem? (i := 63) rfl))) (mvT hZ (hw _ (List.mem_of_getElem? (i := 37) rfl))) (notFace_of_selects (args := #[]) (mvT hZ (hw _ (List.mem_of_getElem? (i := 39) rfl)))) (mvT hZ (hw _ (List.mem_of_getElem? (i := 39) rfl))) (mvT hZ (hw _ (List.mem_of_getElem? (i := 38) rfl))) (by decide) (backOf (W := 0) (rm := ({ frames := 1, cells := 0, slots := 0, locals := 13 } : Room)) (rm6 l Z a0 hw [] a1 (((((((((q2.toUInt64 >>> ((7 : Int32) &&& 0x3f).toInt64.toUInt64).toInt64).toUInt64 >>> ((7 : Int32) &&& 0x3f).toInt64.toUInt64).toInt64).toUInt64 >>> ((7 : Int32) &&& 0x3f).toInt64.toUInt64).toInt64) &&& (127 : Int64)).toInt32) ||| (128 : Int32)) buf (((n + (1 : Int32)) + (1 : Int32)) + (1 : Int32)) T9.heap n0 P9_0 P9_1 P9_2 P9_3 g_a1 g_buf ne_buf_a1 (OB.weak hn.step.step.step (by decide))) hZ (hw _ (List.mem_of_getElem? (i := 40) rfl)) (hw _ (List.mem_of_getElem? (i := 11) rfl)) (by decide) (by decide)) q12a q12c (g := (mkF m 23 #[.val (.ref a1), .val (.long q2), .second, .val (.long ((((((q2.toUInt64 >>> ((7 : Int32) &&& 0x3f).toInt64.toUInt64).toInt64).toUInt64 >>> ((7 : Int32) &&& 0x3f).toInt64.toUInt64).toInt64).toUInt64 >>> ((7 : Int32) &&& 0x3f).toInt64.toUInt64).toInt64)), .second] [(.int (((((((((q2.toUInt64 >>> ((7 : Int32) &&& 0x3f).toInt64.toUInt64).toInt64).toUInt64 >>> ((7 : Int32) &&& 0x3f).toInt64.toUInt64).toInt64).toUInt64 >>> ((7 : Int32) &&& 0x3f).toInt64.toUInt64).toInt64) &&& (127 : Int64)).toInt32) ||| (128 : Int32))), (.ref a1)])) rfl (by rw [hml]; rfl) (Steps.refl _) (argsL := [(.int (((((((((q2.toUInt64 >>> ((7 : Int32) &&& 0x3f).toInt64.toUInt64).toInt64).toUInt64 >>> ((7 : Int32) &&& 0x3f).toInt64.toUInt64).toInt64).toUInt64 >>> ((7 : Int32) &&& 0x3f).toInt64.toUInt64).toInt64) &&& (127 : Int64)).toInt32) ||| (128 : Int32)))]) (rest := []) (lenOf pd__I_V rfl) rfl (by show 2 * 0 + _ ≤ _; exact Nat.le_of_eq rfl) (hb hby d10_23) (fun _ _ => ⟨rfl, rfl, (by decide : 0 + 0 ≤ _), (by decide : 0 + 0 ≤ _)⟩)
          dsimp only [Pt.U, Pt.locs, Pt.cells, Pt.slots] at X12 l12 y12 z12 st12 hQ12
          subst l12 y12 z12
          obtain ⟨rfl, N12q, K12q, P12_0, P12_1, P12_2, P12_3⟩ := hQ12
          refine own_st (fun t k => st12.trans k) ?_
          have N12 := Fr.app N9 N12q
          have K12 : Keep h0 T12.heap [a1, buf] := K9.trans K12q (own_all2 (Or.inl (List.mem_of_getElem? (i := 0) rfl)) (Or.inl (List.mem_of_getElem? (i := 1) rfl)))
          show OG p e _ s below _ T12 (mkF m 26 #[.val (.ref a1), .val (.long q2), .second, .val (.long ((((((q2.toUInt64 >>> ((7 : Int32) &&& 0x3f).toInt64.toUInt64).toInt64).toUInt64 >>> ((7 : Int32) &&& 0x3f).toInt64.toUInt64).toInt64).toUInt64 >>> ((7 : Int32) &&& 0x3f).toInt64.toUInt64).toInt64)), .second] [])
          refine own_st (fun t k => XS.lloadN X12.here hx rfl (hb hby d10_26) rfl k) ?_
          show OG p e _ s below _ T12 (mkF m 27 #[.val (.ref a1), .val (.long q2), .second, .val (.long ((((((q2.toUInt64 >>> ((7 : Int32) &&& 0x3f).toInt64.toUInt64).toInt64).toUInt64 >>> ((7 : Int32) &&& 0x3f).toInt64.toUInt64).toInt64).toUInt64 >>> ((7 : Int32) &&& 0x3f).toInt64.toUInt64).toInt64)), .second] [(.long ((((((q2.toUInt64 >>> ((7 : Int32) &&& 0x3f).toInt64.toUInt64).toInt64).toUInt64 >>> ((7 : Int32) &&& 0x3f).toInt64.toUInt64).toInt64).toUInt64 >>> ((7 : Int32) &&& 0x3f).toInt64.toUInt64).toInt64))])
          refine own_st (fun t k => XS.bipush X12.here hx rfl (hb hby d10_27) k) ?_
          show OG p e _ s below _ T12 (mkF m 29 #[.val (.ref a1), .val (.long q2), .second, .val (.long ((((((q2.toUInt64 >>> ((7 : Int32) &&& 0x3f).toInt64.toUInt64).toInt64).toUInt64 >>> ((7 : Int32) &&& 0x3f).toInt64.toUInt64).toInt64).toUInt64 >>> ((7 : Int32) &&& 0x3f).toInt64.toUInt64).toInt64)), .second] [(.int (7 : Int32)), (.long ((((((q2.toUInt64 >>> ((7 : Int32) &&& 0x3f).toInt64.toUInt64).toInt64).toUInt64 >>> ((7 : Int32) &&& 0x3f).toInt64.toUInt64).toInt64).toUInt64 >>> ((7 : Int32) &&& 0x3f).toInt64.toUInt64).toInt64))])
          refine own_st (fun t k => XS.lushr X12.here hx rfl (hb hby d10_29) rfl k) ?_
          show OG p e _ s below _ T12 (mkF m 30 #[.val (.ref a1), .val (.long q2), .second, .val (.long ((((((q2.toUInt64 >>> ((7 : Int32) &&& 0x3f).toInt64.toUInt64).toInt64).toUInt64 >>> ((7 : Int32) &&& 0x3f).toInt64.toUInt64).toInt64).toUInt64 >>> ((7 : Int32) &&& 0x3f).toInt64.toUInt64).toInt64)), .second] [(.long ((((((((q2.toUInt64 >>> ((7 : Int32) &&& 0x3f).toInt64.toUInt64).toInt64).toUInt64 >>> ((7 : Int32) &&& 0x3f).toInt64.toUInt64).toInt64).toUInt64 >>> ((7 : Int32) &&& 0x3f).toInt64.toUInt64).toInt64).toUInt64 >>> ((7 : Int32) &&& 0x3f).toInt64.toUInt64).toInt64))])
          refine own_st (fun t k => XS.lstoreN X12.here hx rfl (hb hby d10_30) rfl (l' := #[.val (.ref a1), .val (.long q2), .second, .val (.long ((((((((q2.toUInt64 >>> ((7 : Int32) &&& 0x3f).toInt64.toUInt64).toInt64).toUInt64 >>> ((7 : Int32) &&& 0x3f).toInt64.toUInt64).toInt64).toUInt64 >>> ((7 : Int32) &&& 0x3f).toInt64.toUInt64).toInt64).toUInt64 >>> ((7 : Int32) &&& 0x3f).toInt64.toUInt64).toInt64)), .second]) rfl k) ?_
          show OG p e _ s below _ T12 (mkF m 31 #[.val (.ref a1), .val (.long q2), .second, .val (.long ((((((((q2.toUInt64 >>> ((7 : Int32) &&& 0x3f).toInt64.toUInt64).toInt64).toUInt64 >>> ((7 : Int32) &&& 0x3f).toInt64.toUInt64).toInt64).toUInt64 >>> ((7 : Int32) &&& 0x3f).toInt64.toUInt64).toInt64).toUInt64 >>> ((7 : Int32) &&& 0x3f).toInt64.toUInt64).toInt64)), .second] [])
          refine own_st (fun t k => XS.goto X12.here hx rfl (pc0 := 31) (pc' := 2) rfl (hb hby d10_31) (by decide) (by decide) k) ?_
          show OG p e _ s below _ T12 (mkF m 2 #[.val (.ref a1), .val (.long q2), .second, .val (.long ((((((((q2.toUInt64 >>> ((7 : Int32) &&& 0x3f).toInt64.toUInt64).toInt64).toUInt64 >>> ((7 : Int32) &&& 0x3f).toInt64.toUInt64).toInt64).toUInt64 >>> ((7 : Int32) &&& 0x3f).toInt64.toUInt64).toInt64).toUInt64 >>> ((7 : Int32) &&& 0x3f).toInt64.toUInt64).toInt64)), .second] [])
          refine own_st (fun t k => XS.lloadN X12.here hx rfl (hb hby d10_2) rfl k) ?_
          show OG p e _ s below _ T12 (mkF m 3 #[.val (.ref a1), .val (.long q2), .second, .val (.long ((((((((q2.toUInt64 >>> ((7 : Int32) &&& 0x3f).toInt64.toUInt64).toInt64).toUInt64 >>> ((7 : Int32) &&& 0x3f).toInt64.toUInt64).toInt64).toUInt64 >>> ((7 : Int32) &&& 0x3f).toInt64.toUInt64).toInt64).toUInt64 >>> ((7 : Int32) &&& 0x3f).toInt64.toUInt64).toInt64)), .second] [(.long ((((((((q2.toUInt64 >>> ((7 : Int32) &&& 0x3f).toInt64.toUInt64).toInt64).toUInt64 >>> ((7 : Int32) &&& 0x3f).toInt64.toUInt64).toInt64).toUInt64 >>> ((7 : Int32) &&& 0x3f).toInt64.toUInt64).toInt64).toUInt64 >>> ((7 : Int32) &&& 0x3f).toInt64.toUInt64).toInt64))])
          refine own_st (fun t k => X12.ldc2Long hx hown (mvT hZ (hw _ (List.mem_of_getElem? (i := 62) rfl))) (g := (mkF m 3 #[.val (.ref a1), .val (.long q2), .second, .val (.long ((((((((q2.toUInt64 >>> ((7 : Int32) &&& 0x3f).toInt64.toUInt64).toInt64).toUInt64 >>> ((7 : Int32) &&& 0x3f).toInt64.toUInt64).toInt64).toUInt64 >>> ((7 : Int32) &&& 0x3f).toInt64.toUInt64).toInt64).toUInt64 >>> ((7 : Int32) &&& 0x3f).toInt64.toUInt64).toInt64)), .second] [(.long ((((((((q2.toUInt64 >>> ((7 : Int32) &&& 0x3f).toInt64.toUInt64).toInt64).toUInt64 >>> ((7 : Int32) &&& 0x3f).toInt64.toUInt64).toInt64).toUInt64 >>> ((7 : Int32) &&& 0x3f).toInt64.toUInt64).toInt64).toUInt64 >>> ((7 : Int32) &&& 0x3f).toInt64.toUInt64).toInt64))])) rfl (hb hby d10_3) _ k) ?_
          show OG p e _ s below _ T12 (mkF m 6 #[.val (.ref a1), .val (.long q2), .second, .val (.long ((((((((q2.toUInt64 >>> ((7 : Int32) &&& 0x3f).toInt64.toUInt64).toInt64).toUInt64 >>> ((7 : Int32) &&& 0x3f).toInt64.toUInt64).toInt64).toUInt64 >>> ((7 : Int32) &&& 0x3f).toInt64.toUInt64).toInt64).toUInt64 >>> ((7 : Int32) &&& 0x3f).toInt64.toUInt64).toInt64)), .second] [(.long (-128 : Int64)), (.long ((((((((q2.toUInt64 >>> ((7 : Int32) &&& 0x3f).toInt64.toUInt64).toInt64).toUInt64 >>> ((7 : Int32) &&& 0x3f).toInt64.toUInt64).toInt64).toUInt64 >>> ((7 : Int32) &&& 0x3f).toInt64.toUInt64).toInt64).toUInt64 >>> ((7 : Int32) &&& 0x3f).toInt64.toUInt64).toInt64))])
          refine own_st (fun t k => XS.land X12.here hx rfl (hb hby d10_6) rfl k) ?_
          show OG p e _ s below _ T12 (mkF m 7 #[.val (.ref a1), .val (.long q2), .second, .val (.long ((((((((q2.toUInt64 >>> ((7 : Int32) &&& 0x3f).toInt64.toUInt64).toInt64).toUInt64 >>> ((7 : Int32) &&& 0x3f).toInt64.toUInt64).toInt64).toUInt64 >>> ((7 : Int32) &&& 0x3f).toInt64.toUInt64).toInt64).toUInt64 >>> ((7 : Int32) &&& 0x3f).toInt64.toUInt64).toInt64)), .second] [(.long (((((((((q2.toUInt64 >>> ((7 : Int32) &&& 0x3f).toInt64.toUInt64).toInt64).toUInt64 >>> ((7 : Int32) &&& 0x3f).toInt64.toUInt64).toInt64).toUInt64 >>> ((7 : Int32) &&& 0x3f).toInt64.toUInt64).toInt64).toUInt64 >>> ((7 : Int32) &&& 0x3f).toInt64.toUInt64).toInt64) &&& (-128 : Int64)))])
          refine own_st (fun t k => XS.lconst X12.here hx rfl (hb hby d10_7) k) ?_
          show OG p e _ s below _ T12 (mkF m 8 #[.val (.ref a1), .val (.long q2), .second, .val (.long ((((((((q2.toUInt64 >>> ((7 : Int32) &&& 0x3f).toInt64.toUInt64).toInt64).toUInt64 >>> ((7 : Int32) &&& 0x3f).toInt64.toUInt64).toInt64).toUInt64 >>> ((7 : Int32) &&& 0x3f).toInt64.toUInt64).toInt64).toUInt64 >>> ((7 : Int32) &&& 0x3f).toInt64.toUInt64).toInt64)), .second] [(.long (0 : Int64)), (.long (((((((((q2.toUInt64 >>> ((7 : Int32) &&& 0x3f).toInt64.toUInt64).toInt64).toUInt64 >>> ((7 : Int32) &&& 0x3f).toInt64.toUInt64).toInt64).toUInt64 >>> ((7 : Int32) &&& 0x3f).toInt64.toUInt64).toInt64).toUInt64 >>> ((7 : Int32) &&& 0x3f).toInt64.toUInt64).toInt64) &&& (-128 : Int64)))])
          refine own_st (fun t k => XS.lcmp X12.here hx rfl (hb hby d10_8) rfl k) ?_
          show OG p e _ s below _ T12 (mkF m 9 #[.val (.ref a1), .val (.long q2), .second, .val (.long ((((((((q2.toUInt64 >>> ((7 : Int32) &&& 0x3f).toInt64.toUInt64).toInt64).toUInt64 >>> ((7 : Int32) &&& 0x3f).toInt64.toUInt64).toInt64).toUInt64 >>> ((7 : Int32) &&& 0x3f).toInt64.toUInt64).toInt64).toUInt64 >>> ((7 : Int32) &&& 0x3f).toInt64.toUInt64).toInt64)), .second] [(.int (lcmpW (((((((((q2.toUInt64 >>> ((7 : Int32) &&& 0x3f).toInt64.toUInt64).toInt64).toUInt64 >>> ((7 : Int32) &&& 0x3f).toInt64.toUInt64).toInt64).toUInt64 >>> ((7 : Int32) &&& 0x3f).toInt64.toUInt64).toInt64).toUInt64 >>> ((7 : Int32) &&& 0x3f).toInt64.toUInt64).toInt64) &&& (-128 : Int64)) (0 : Int64)))])
          refine own_st (fun t k => XS.ifYes X12.here hx rfl (pc0 := 9) (pc' := 34) rfl (hb hby d10_9) rfl (own_if0 (teq ((lw_eq _ _).mpr (own_last q2 hq))).1) (by decide) (by decide) k) ?_
          show OG p e _ s below _ T12 (mkF m 34 #[.val (.ref a1), .val (.long q2), .second, .val (.long ((((((((q2.toUInt64 >>> ((7 : Int32) &&& 0x3f).toInt64.toUInt64).toInt64).toUInt64 >>> ((7 : Int32) &&& 0x3f).toInt64.toUInt64).toInt64).toUInt64 >>> ((7 : Int32) &&& 0x3f).toInt64.toUInt64).toInt64).toUInt64 >>> ((7 : Int32) &&& 0x3f).toInt64.toUInt64).toInt64)), .second] [])
          refine own_st (fun t k => XS.aloadN X12.here hx rfl (hb hby d10_34) rfl rfl k) ?_
          show OG p e _ s below _ T12 (mkF m 35 #[.val (.ref a1), .val (.long q2), .second, .val (.long ((((((((q2.toUInt64 >>> ((7 : Int32) &&& 0x3f).toInt64.toUInt64).toInt64).toUInt64 >>> ((7 : Int32) &&& 0x3f).toInt64.toUInt64).toInt64).toUInt64 >>> ((7 : Int32) &&& 0x3f).toInt64.toUInt64).toInt64).toUInt64 >>> ((7 : Int32) &&& 0x3f).toInt64.toUInt64).toInt64)), .second] [(.ref a1)])
          refine own_st (fun t k => XS.lloadN X12.here hx rfl (hb hby d10_35) rfl k) ?_
          show OG p e _ s below _ T12 (mkF m 36 #[.val (.ref a1), .val (.long q2), .second, .val (.long ((((((((q2.toUInt64 >>> ((7 : Int32) &&& 0x3f).toInt64.toUInt64).toInt64).toUInt64 >>> ((7 : Int32) &&& 0x3f).toInt64.toUInt64).toInt64).toUInt64 >>> ((7 : Int32) &&& 0x3f).toInt64.toUInt64).toInt64).toUInt64 >>> ((7 : Int32) &&& 0x3f).toInt64.toUInt64).toInt64)), .second] [(.long ((((((((q2.toUInt64 >>> ((7 : Int32) &&& 0x3f).toInt64.toUInt64).toInt64).toUInt64 >>> ((7 : Int32) &&& 0x3f).toInt64.toUInt64).toInt64).toUInt64 >>> ((7 : Int32) &&& 0x3f).toInt64.toUInt64).toInt64).toUInt64 >>> ((7 : Int32) &&& 0x3f).toInt64.toUInt64).toInt64)), (.ref a1)])
          refine own_st (fun t k => XS.l2i X12.here hx rfl (hb hby d10_36) rfl k) ?_
          show OG p e _ s below _ T12 (mkF m 37 #[.val (.ref a1), .val (.long q2), .second, .val (.long ((((((((q2.toUInt64 >>> ((7 : Int32) &&& 0x3f).toInt64.toUInt64).toInt64).toUInt64 >>> ((7 : Int32) &&& 0x3f).toInt64.toUInt64).toInt64).toUInt64 >>> ((7 : Int32) &&& 0x3f).toInt64.toUInt64).toInt64).toUInt64 >>> ((7 : Int32) &&& 0x3f).toInt64.toUInt64).toInt64)), .second] [(.int (((((((((q2.toUInt64 >>> ((7 : Int32) &&& 0x3f).toInt64.toUInt64).toInt64).toUInt64 >>> ((7 : Int32) &&& 0x3f).toInt64.toUInt64).toInt64).toUInt64 >>> ((7 : Int32) &&& 0x3f).toInt64.toUInt64).toInt64).toUInt64 >>> ((7 : Int32) &&& 0x3f).toInt64.toUInt64).toInt64).toInt32)), (.ref a1)])
          obtain ⟨cq13, kq13, q13a, q13b, q13c⟩ := isOf hZ rfl P12_0
          obtain ⟨_, _, ⟨T13, L13, k13, n13⟩, -, X13, ⟨Lc13, hQ13, l13, y13, z13⟩, st13⟩ := X12.virtualBack hx (y := (⟨"com/example/partwise/partwise/ByteBuilder", "append", "(I)V"⟩ : MethodName)) (z := (⟨"com/example/partwise/partwise/ByteBuilder", "append", "(I)V"⟩ : MethodName)) hown (mvT hZ (hw _ (List.mem_of_getElem? (i := 63) rfl))) (mvT hZ (hw _ (List.mem_of_getElem? (i := 37) rfl))) (notFace_of_selects (args := #[]) (mvT hZ (hw _ (List.mem_of_getElem? (i := 39) rfl)))) (mvT hZ (hw _ (List.mem_of_getElem? (i := 39) rfl))) (mvT hZ (hw _ (List.mem_of_getElem? (i := 38) rfl))) (by decide) (backOf (W := 0) (rm := ({ frames := 1, cells := 0, slots := 0, locals := 13 } : Room)) (rm6 l Z a0 hw [] a1 (((((((((q2.toUInt64 >>> ((7 : Int32) &&& 0x3f).toInt64.toUInt64).toInt64).toUInt64 >>> ((7 : Int32) &&& 0x3f).toInt64.toUInt64).toInt64).toUInt64 >>> ((7 : Int32) &&& 0x3f).toInt64.toUInt64).toInt64).toUInt64 >>> ((7 : Int32) &&& 0x3f).toInt64.toUInt64).toInt64).toInt32) buf ((((n + (1 : Int32)) + (1 : Int32)) + (1 : Int32)) + (1 : Int32)) T12.heap n0 P12_0 P12_1 P12_2 P12_3 g_a1 g_buf ne_buf_a1 (OB.weak hn.step.step.step.step (by decide))) hZ (hw _ (List.mem_of_getElem? (i := 40) rfl)) (hw _ (List.mem_of_getElem? (i := 11) rfl)) (by decide) (by decide)) q13a q13c (g := (mkF m 37 #[.val (.ref a1), .val (.long q2), .second, .val (.long ((((((((q2.toUInt64 >>> ((7 : Int32) &&& 0x3f).toInt64.toUInt64).toInt64).toUInt64 >>> ((7 : Int32) &&& 0x3f).toInt64.toUInt64).toInt64).toUInt64 >>> ((7 : Int32) &&& 0x3f).toInt64.toUInt64).toInt64).toUInt64 >>> ((7 : Int32) &&& 0x3f).toInt64.toUInt64).toInt64)), .second] [(.int (((((((((q2.toUInt64 >>> ((7 : Int32) &&& 0x3f).toInt64.toUInt64).toInt64).toUInt64 >>> ((7 : Int32) &&& 0x3f).toInt64.toUInt64).toInt64).toUInt64 >>> ((7 : Int32) &&& 0x3f).toInt64.toUInt64).toInt64).toUInt64 >>> ((7 : Int32) &&& 0x3f).toInt64.toUInt64).toInt64).toInt32)), (.ref a1)])) rfl (by rw [hml]; rfl) (Steps.refl _) (argsL := [(.int (((((((((q2.toUInt64 >>> ((7 : Int32) &&& 0x3f).toInt64.toUInt64).toInt64).toUInt64 >>> ((7 : Int32) &&& 0x3f).toInt64.toUInt64).toInt64).toUInt64 >>> ((7 : Int32) &&& 0x3f).toInt64.toUInt64).toInt64).toUInt64 >>> ((7 : Int32) &&& 0x3f).toInt64.toUInt64).toInt64).toInt32))]) (rest := []) (lenOf pd__I_V rfl) rfl (by show 2 * 0 + _ ≤ _; exact Nat.le_of_eq rfl) (hb hby d10_37) (fun _ _ => ⟨rfl, rfl, (by decide : 0 + 0 ≤ _), (by decide : 0 + 0 ≤ _)⟩)
          dsimp only [Pt.U, Pt.locs, Pt.cells, Pt.slots] at X13 l13 y13 z13 st13 hQ13
          subst l13 y13 z13
          obtain ⟨rfl, N13q, K13q, P13_0, P13_1, P13_2, P13_3⟩ := hQ13
          refine own_st (fun t k => st13.trans k) ?_
          have N13 := Fr.app N12 N13q
          have K13 : Keep h0 T13.heap [a1, buf] := K12.trans K13q (own_all2 (Or.inl (List.mem_of_getElem? (i := 0) rfl)) (Or.inl (List.mem_of_getElem? (i := 1) rfl)))
          show OG p e _ s below _ T13 (mkF m 40 #[.val (.ref a1), .val (.long q2), .second, .val (.long ((((((((q2.toUInt64 >>> ((7 : Int32) &&& 0x3f).toInt64.toUInt64).toInt64).toUInt64 >>> ((7 : Int32) &&& 0x3f).toInt64.toUInt64).toInt64).toUInt64 >>> ((7 : Int32) &&& 0x3f).toInt64.toUInt64).toInt64).toUInt64 >>> ((7 : Int32) &&& 0x3f).toInt64.toUInt64).toInt64)), .second] [])
          refine own_ret0 X13 hx hret hlk (hb hby d10_40) (by decide) (by decide) ?_
          exact ⟨rfl, N13, K13, P13_0, P13_1, (by rw [show f10 q2 n = (((((n + (1 : Int32)) + (1 : Int32)) + (1 : Int32)) + (1 : Int32)) + (1 : Int32)) from (by rw [f10, if_neg c1, if_neg c4, if_neg c7, if_neg c10])]; exact P13_2), P13_3⟩
theorem own_vob (q2 : Int64) {n : Int32} {k : Nat} (h : OB n (k + 5)) : OB (f10 q2 n) k := by
  rw [f10]
  split
  · exact OB.weak h.step (by omega)
  split
  · exact OB.weak h.step.step (by omega)
  split
  · exact OB.weak h.step.step.step (by omega)
  split
  · exact OB.weak h.step.step.step.step (by omega)
  · exact h.step.step.step.step.step
theorem d17_0 : decode prog_1_method_6_code 0 = .ok (.aload_n 0, 1) := by decide +kernel
theorem d17_1 : decode prog_1_method_6_code 1 = .ok (.getfield 17, 3) := by decide +kernel
theorem d17_4 : decode prog_1_method_6_code 4 = .ok (.ireturn, 1) := by decide +kernel
theorem pn_17 : plainFor (⟨"com/example/partwise/partwise/ByteBuilder", "length", "()I"⟩ : MethodName) = true := by first | exact plainFor_of_name (by first | (simp [plainName, overriddenIn]; done) | decide +kernel) | decide +kernel
def f17 (n : Int32) : Int32 := n
theorem ef_17 (m : MethodId) (a1 : Addr) : entryFrame m #[(.ref a1)] 1 = (mkF m 0 #[.val (.ref a1)] []) := by first | (simp [entryFrame, mkF, argsToLocals, Value.category]; done) | rfl
abbrev Q17 (Z : State) (a1 : Addr) (n : Int32) (h0 : Heap)  : Option Value → Heap → List Loc → Prop := (fun v h L => v = some (.int (f17 n)) ∧ L = [] ∧ h = h0)
set_option maxRecDepth 65536 in
set_option maxHeartbeats 40000000 in
theorem rm17 (l : Launch) (Z : State) (a0 : Array Value) (hw : ∀ d ∈ tables_1, d.before a0 Z = true) (ws : List Jvm.Cond) (a1 : Addr) (n : Int32) (h0 : Heap) (R0 : Fld Z h0 a1 "com/example/partwise/partwise/ByteBuilder" "length" "I" (.int n)) :
    OMet l Z (⟨"com/example/partwise/partwise/ByteBuilder", "length", "()I"⟩ : MethodName) prog_1_method_6_code 1 (some .int) ws ({ frames := 0, cells := 0, slots := 0, locals := 0 } : Room) #[(.ref a1)] h0 (Q17 Z a1 n h0) := by
  refine own_enter pn_17 ?_
  intro p e s m below meth c s₁ hx hby hml0 hown hret hlk hnm hZ X0 e0
  have hml : c.maxLocals = 1 := hml0
  refine own_cast (ef_17 m a1) ?_
  show OG p e ({ frames := 0, cells := 0, slots := 0, locals := 0 } : Room) s below (fun v h L => v = some (.int (f17 n)) ∧ L = [] ∧ h = h0) s₁ (mkF m 0 #[.val (.ref a1)] [])
  refine own_st (fun t k => XS.aloadN X0.here hx rfl (hb hby d17_0) rfl rfl k) ?_
  show OG p e _ s below _ s₁ (mkF m 1 #[.val (.ref a1)] [(.ref a1)])
  obtain ⟨T1, X1, e1, st1⟩ := getF X0 hx hZ hown (host := "") (Or.inl (hw _ (List.mem_of_getElem? (i := 45) rfl))) Via.refl e0 R0 (g := (mkF m 1 #[.val (.ref a1)] [(.ref a1)])) rfl rfl (hb hby d17_1)
  refine own_st st1 ?_
  show OG p e _ s below _ T1 (mkF m 4 #[.val (.ref a1)] [(.int n)])
  exact own_retI X1 hx hret hlk (hb hby d17_4) (by decide) (by decide) ⟨congrArg (fun z => some (Value.int z)) (show f17 n = n from (by rw [f17])).symm, rfl, e1⟩
theorem d15_0 : decode prog_1_method_9_code 0 = .ok (.aload_n 0, 1) := by decide +kernel
theorem d15_1 : decode prog_1_method_9_code 1 = .ok (.iconst 0, 1) := by decide +kernel
theorem d15_2 : decode prog_1_method_9_code 2 = .ok (.putfield 17, 3) := by decide +kernel
theorem d15_5 : decode prog_1_method_9_code 5 = .ok (.return_, 1) := by decide +kernel
theorem pn_15 : plainFor (⟨"com/example/partwise/partwise/ByteBuilder", "clear", "()V"⟩ : MethodName) = true := by first | exact plainFor_of_name (by first | (simp [plainName, overriddenIn]; done) | decide +kernel) | decide +kernel
theorem ef_15 (m : MethodId) (a1 : Addr) : entryFrame m #[(.ref a1)] 1 = (mkF m 0 #[.val (.ref a1)] []) := by first | (simp [entryFrame, mkF, argsToLocals, Value.category]; done) | rfl
abbrev Q15 (Z : State) (a1 : Addr) (buf : Addr) (n : Int32) (h0 : Heap) (n0 : Nat) : Option Value → Heap → List Loc → Prop := (fun v h L => v = none ∧ Fr n0 L ∧ Keep h0 h [a1] ∧ Exa Z h a1 "com/example/partwise/partwise/ByteBuilder" ∧ Fld Z h a1 "com/example/partwise/partwise/ByteBuilder" "bytes" "[B" (.ref buf) ∧ Fld Z h a1 "com/example/partwise/partwise/ByteBuilder" "length" "I" (.int (0 : Int32)))
set_option maxRecDepth 65536 in
set_option maxHeartbeats 40000000 in
theorem rm15 (l : Launch) (Z : State) (a0 : Array Value) (hw : ∀ d ∈ tables_1, d.before a0 Z = true) (ws : List Jvm.Cond) (a1 : Addr) (buf : Addr) (n : Int32) (h0 : Heap) (n0 : Nat) (R0 : Exa Z h0 a1 "com/example/partwise/partwise/ByteBuilder") (R1 : Fld Z h0 a1 "com/example/partwise/partwise/ByteBuilder" "bytes" "[B" (.ref buf)) (R2 : Fld Z h0 a1 "com/example/partwise/partwise/ByteBuilder" "length" "I" (.int n)) (g_a1 : n0 ≤ a1) :
    OMet l Z (⟨"com/example/partwise/partwise/ByteBuilder", "clear", "()V"⟩ : MethodName) prog_1_method_9_code 1 none ws ({ frames := 0, cells := 0, slots := 0, locals := 0 } : Room) #[(.ref a1)] h0 (Q15 Z a1 buf n h0 n0) := by
  refine own_enter pn_15 ?_
  intro p e s m below meth c s₁ hx hby hml0 hown hret hlk hnm hZ X0 e0
  have hml : c.maxLocals = 1 := hml0
  have N0 := Fr.nil n0
  refine own_cast (ef_15 m a1) ?_
  show OG p e ({ frames := 0, cells := 0, slots := 0, locals := 0 } : Room) s below (fun v h L => v = none ∧ Fr n0 L ∧ Keep h0 h [a1] ∧ Exa Z h a1 "com/example/partwise/partwise/ByteBuilder" ∧ Fld Z h a1 "com/example/partwise/partwise/ByteBuilder" "bytes" "[B" (.ref buf) ∧ Fld Z h a1 "com/example/partwise/partwise/ByteBuilder" "length" "I" (.int (0 : Int32))) s₁ (mkF m 0 #[.val (.ref a1)] [])
  refine own_st (fun t k => XS.aloadN X0.here hx rfl (hb hby d15_0) rfl rfl k) ?_
  show OG p e _ s below _ s₁ (mkF m 1 #[.val (.ref a1)] [(.ref a1)])
  refine own_st (fun t k => XS.iconst X0.here hx rfl (hb hby d15_1) k) ?_
  show OG p e _ s below _ s₁ (mkF m 2 #[.val (.ref a1)] [(.int (0 : Int32)), (.ref a1)])
  obtain ⟨T1, h1, X1, e1, W1, st1⟩ := putF X0 hx hZ hown (host := "") (Or.inl (hw _ (List.mem_of_getElem? (i := 45) rfl))) Via.refl e0 R2 R0 (Or.inl (hw _ (List.mem_of_getElem? (i := 46) rfl))) (hw _ (List.mem_of_getElem? (i := 10) rfl)) (ty := .int) (by decide) rfl rfl (g := (mkF m 2 #[.val (.ref a1)] [(.int (0 : Int32)), (.ref a1)])) rfl rfl (hb hby d15_2)
  refine own_st st1 ?_
  have N1 := Fr.snoc X1 N0 g_a1
  have K2 : Keep h0 h1 [a1] := (Keep.refl h0 [a1]).wr W1 (Or.inl (List.mem_of_getElem? (i := 0) rfl))
  have F3 : Exa Z h1 a1 "com/example/partwise/partwise/ByteBuilder" := (R0.wr W1)
  have F4 : Fld Z h1 a1 "com/example/partwise/partwise/ByteBuilder" "bytes" "[B" (.ref buf) := (R1.other W1 (Or.inr (slot_ne (Or.inl (hw _ (List.mem_of_getElem? (i := 18) rfl))) (Or.inl (hw _ (List.mem_of_getElem? (i := 46) rfl))) (by decide) (t := (.array .byte)) (t' := .int) (by decide) (by decide))))
  have F5 : Fld Z h1 a1 "com/example/partwise/partwise/ByteBuilder" "length" "I" (.int (0 : Int32)) := (R2.same W1)
  show OG p e _ s below _ T1 (mkF m 5 #[.val (.ref a1)] [])
  refine own_ret0 X1 hx hret hlk (hb hby d15_5) (by decide) (by decide) ?_
  rw [e1]
  exact ⟨rfl, N1, K2, F3, F4, F5⟩
theorem d9_0 : decode jdk_33_method_42_code 0 = .ok (.iload_n 0, 1) := by decide +kernel
theorem d9_1 : decode jdk_33_method_42_code 1 = .ok (.i2l, 1) := by decide +kernel
theorem d9_2 : decode jdk_33_method_42_code 2 = .ok (.ldc2_w 262, 3) := by decide +kernel
theorem d9_5 : decode jdk_33_method_42_code 5 = .ok (.land, 1) := by decide +kernel
theorem d9_6 : decode jdk_33_method_42_code 6 = .ok (.lreturn, 1) := by decide +kernel
theorem pn_9 : plainFor (⟨"java/lang/Integer", "toUnsignedLong", "(I)J"⟩ : MethodName) = true := by first | exact plainFor_of_name (by first | (simp [plainName, overriddenIn]; done) | decide +kernel) | decide +kernel
def f9 (p1 : Int32) : Int64 := ((p1.toInt64) &&& (4294967295 : Int64))
theorem ef_9 (m : MethodId) (p1 : Int32) : entryFrame m #[(.int p1)] 1 = (mkF m 0 #[.val (.int p1)] []) := by first | (simp [entryFrame, mkF, argsToLocals, Value.category]; done) | rfl
abbrev Q9 (Z : State) (p1 : Int32) (h0 : Heap)  : Option Value → Heap → List Loc → Prop := (fun v h L => v = some (.long (f9 p1)) ∧ L = [] ∧ h = h0)
set_option maxRecDepth 65536 in
set_option maxHeartbeats 40000000 in
theorem rm9 (l : Launch) (Z : State) (a0 : Array Value) (hw : ∀ d ∈ tables_1, d.before a0 Z = true) (ws : List Jvm.Cond) (p1 : Int32) (h0 : Heap)  :
    OMet l Z (⟨"java/lang/Integer", "toUnsignedLong", "(I)J"⟩ : MethodName) jdk_33_method_42_code 1 (some .long) ws ({ frames := 0, cells := 0, slots := 0, locals := 0 } : Room) #[(.int p1)] h0 (Q9 Z p1 h0) := by
  refine own_enter pn_9 ?_
  intro p e s m below meth c s₁ hx hby hml0 hown hret hlk hnm hZ X0 e0
  have hml : c.maxLocals = 1 := hml0
  refine own_cast (ef_9 m p1) ?_
  show OG p e ({ frames := 0, cells := 0, slots := 0, locals := 0 } : Room) s below (fun v h L => v = some (.long (f9 p1)) ∧ L = [] ∧ h = h0) s₁ (mkF m 0 #[.val (.int p1)] [])
  refine own_st (fun t k => XS.iloadN X0.here hx rfl (hb hby d9_0) rfl k) ?_
  show OG p e _ s below _ s₁ (mkF m 1 #[.val (.int p1)] [(.int p1)])
  refine own_st (fun t k => XS.i2l X0.here hx rfl (hb hby d9_1) rfl k) ?_
  show OG p e _ s below _ s₁ (mkF m 2 #[.val (.int p1)] [(.long (p1.toInt64))])
  refine own_st (fun t k => X0.ldc2Long hx hown (mvT hZ (hw _ (List.mem_of_getElem? (i := 56) rfl))) (g := (mkF m 2 #[.val (.int p1)] [(.long (p1.toInt64))])) rfl (hb hby d9_2) _ k) ?_
  show OG p e _ s below _ s₁ (mkF m 5 #[.val (.int p1)] [(.long (4294967295 : Int64)), (.long (p1.toInt64))])
  refine own_st (fun t k => XS.land X0.here hx rfl (hb hby d9_5) rfl k) ?_
  show OG p e _ s below _ s₁ (mkF m 6 #[.val (.int p1)] [(.long ((p1.toInt64) &&& (4294967295 : Int64)))])
  exact own_retL X0 hx hret hlk (hb hby d9_6) (by decide) (by decide) ⟨congrArg (fun z => some (Value.long z)) (show f9 p1 = ((p1.toInt64) &&& (4294967295 : Int64)) from (by rw [f9])).symm, rfl, e0⟩
theorem own_tul (x : Int32) : OQ (f9 x) := by
  have m := c_maskL x.toInt64 4294967295 32 (by decide) (by decide)
  show 0 ≤ (x.toInt64 &&& 4294967295).toInt ∧ (x.toInt64 &&& 4294967295).toInt < 4294967296
  rw [m]; omega
theorem d1_0 : decode prog_27_method_1_code 0 = .ok (.aload_n 0, 1) := by decide +kernel
theorem d1_1 : decode prog_27_method_1_code 1 = .ok (.invokespecial 1, 3) := by decide +kernel
theorem d1_4 : decode prog_27_method_1_code 4 = .ok (.aload_n 0, 1) := by decide +kernel
theorem d1_5 : decode prog_27_method_1_code 5 = .ok (.new 7, 3) := by decide +kernel
theorem d1_8 : decode prog_27_method_1_code 8 = .ok (.dup, 1) := by decide +kernel
theorem d1_9 : decode prog_27_method_1_code 9 = .ok (.sipush 256, 3) := by decide +kernel
theorem d1_12 : decode prog_27_method_1_code 12 = .ok (.invokespecial 9, 3) := by decide +kernel
theorem d1_15 : decode prog_27_method_1_code 15 = .ok (.putfield 12, 3) := by decide +kernel
theorem d1_18 : decode prog_27_method_1_code 18 = .ok (.aload_n 0, 1) := by decide +kernel
theorem d1_19 : decode prog_27_method_1_code 19 = .ok (.bipush 8, 2) := by decide +kernel
theorem d1_21 : decode prog_27_method_1_code 21 = .ok (.newarray .int, 2) := by decide +kernel
theorem d1_23 : decode prog_27_method_1_code 23 = .ok (.putfield 18, 3) := by decide +kernel
theorem d1_26 : decode prog_27_method_1_code 26 = .ok (.return_, 1) := by decide +kernel
theorem pn_1 : plainFor (⟨"com/example/partwise/partwise/CompactThrift", "<init>", "()V"⟩ : MethodName) = true := by first | exact plainFor_of_name (by first | (simp [plainName, overriddenIn]; done) | decide +kernel) | decide +kernel
theorem ef_1 (m : MethodId) (a1 : Addr) : entryFrame m #[(.ref a1)] 1 = (mkF m 0 #[.val (.ref a1)] []) := by first | (simp [entryFrame, mkF, argsToLocals, Value.category]; done) | rfl
abbrev Q1 (Z : State) (a1 : Addr) (h0 : Heap) (n0 : Nat) : Option Value → Heap → List Loc → Prop := (fun v h L => v = none ∧ Fr n0 L ∧ Keep h0 h [a1] ∧ ∃ bb : Addr, ∃ buf : Addr, ∃ enc : Addr, h0.size ≤ bb ∧ h0.size ≤ buf ∧ h0.size ≤ enc ∧ buf ≠ bb ∧ enc ≠ bb ∧ enc ≠ buf ∧ Exa Z h a1 "com/example/partwise/partwise/CompactThrift" ∧ Fld Z h a1 "com/example/partwise/partwise/CompactThrift" "bytes" "Lcom/example/partwise/partwise/ByteBuilder;" (.ref bb) ∧ Fld Z h a1 "com/example/partwise/partwise/CompactThrift" "enclosing" "[I" (.ref enc) ∧ Fld Z h a1 "com/example/partwise/partwise/CompactThrift" "lastField" "I" (.int (0 : Int32)) ∧ Fld Z h a1 "com/example/partwise/partwise/CompactThrift" "depth" "I" (.int (0 : Int32)) ∧ Exa Z h bb "com/example/partwise/partwise/ByteBuilder" ∧ Fld Z h bb "com/example/partwise/partwise/ByteBuilder" "bytes" "[B" (.ref buf) ∧ Fld Z h bb "com/example/partwise/partwise/ByteBuilder" "length" "I" (.int (0 : Int32)) ∧ OL Z h buf .byte 256 ∧ OA Z h enc .int [(.int (0 : Int32)), (.int (0 : Int32)), (.int (0 : Int32)), (.int (0 : Int32)), (.int (0 : Int32)), (.int (0 : Int32)), (.int (0 : Int32)), (.int (0 : Int32))])
set_option maxRecDepth 65536 in
set_option maxHeartbeats 40000000 in
theorem rm1 (l : Launch) (Z : State) (a0 : Array Value) (hw : ∀ d ∈ tables_1, d.before a0 Z = true) (ws : List Jvm.Cond) (a1 : Addr) (h0 : Heap) (n0 : Nat) (Z0 : n0 ≤ h0.size) (R0 : Exa Z h0 a1 "com/example/partwise/partwise/CompactThrift") (R1 : Fld Z h0 a1 "com/example/partwise/partwise/CompactThrift" "bytes" "Lcom/example/partwise/partwise/ByteBuilder;" .null) (R2 : Fld Z h0 a1 "com/example/partwise/partwise/CompactThrift" "enclosing" "[I" .null) (R3 : Fld Z h0 a1 "com/example/partwise/partwise/CompactThrift" "lastField" "I" (.int (0 : Int32))) (R4 : Fld Z h0 a1 "com/example/partwise/partwise/CompactThrift" "depth" "I" (.int (0 : Int32))) (g_a1 : n0 ≤ a1) :
    OMet l Z (⟨"com/example/partwise/partwise/CompactThrift", "<init>", "()V"⟩ : MethodName) prog_27_method_1_code 1 none ws ({ frames := 2, cells := 3, slots := 266, locals := 27 } : Room) #[(.ref a1)] h0 (Q1 Z a1 h0 n0) := by
  refine own_enter pn_1 ?_
  intro p e s m below meth c s₁ hx hby hml0 hown hret hlk hnm hZ X0 e0
  have hml : c.maxLocals = 1 := hml0
  have N0 := Fr.nil n0
  refine own_cast (ef_1 m a1) ?_
  show OG p e ({ frames := 2, cells := 3, slots := 266, locals := 27 } : Room) s below (fun v h L => v = none ∧ Fr n0 L ∧ Keep h0 h [a1] ∧ ∃ bb : Addr, ∃ buf : Addr, ∃ enc : Addr, h0.size ≤ bb ∧ h0.size ≤ buf ∧ h0.size ≤ enc ∧ buf ≠ bb ∧ enc ≠ bb ∧ enc ≠ buf ∧ Exa Z h a1 "com/example/partwise/partwise/CompactThrift" ∧ Fld Z h a1 "com/example/partwise/partwise/CompactThrift" "bytes" "Lcom/example/partwise/partwise/ByteBuilder;" (.ref bb) ∧ Fld Z h a1 "com/example/partwise/partwise/CompactThrift" "enclosing" "[I" (.ref enc) ∧ Fld Z h a1 "com/example/partwise/partwise/CompactThrift" "lastField" "I" (.int (0 : Int32)) ∧ Fld Z h a1 "com/example/partwise/partwise/CompactThrift" "depth" "I" (.int (0 : Int32)) ∧ Exa Z h bb "com/example/partwise/partwise/ByteBuilder" ∧ Fld Z h bb "com/example/partwise/partwise/ByteBuilder" "bytes" "[B" (.ref buf) ∧ Fld Z h bb "com/example/partwise/partwise/ByteBuilder" "length" "I" (.int (0 : Int32)) ∧ OL Z h buf .byte 256 ∧ OA Z h enc .int [(.int (0 : Int32)), (.int (0 : Int32)), (.int (0 : Int32)), (.int (0 : Int32)), (.int (0 : Int32)), (.int (0 : Int32)), (.int (0 : Int32)), (.int (0 : Int32))]) s₁ (mkF m 0 #[.val (.ref a1)] [])
  refine own_st (fun t k => XS.aloadN X0.here hx rfl (hb hby d1_0) rfl rfl k) ?_
  show OG p e _ s below _ s₁ (mkF m 1 #[.val (.ref a1)] [(.ref a1)])
  obtain ⟨T1, X1, e1, st1⟩ := initO X0 hx hZ hown (hw _ (List.mem_of_getElem? (i := 6) rfl)) (hw _ (List.mem_of_getElem? (i := 7) rfl)) (hw _ (List.mem_of_getElem? (i := 8) rfl)) e0 (g := (mkF m 1 #[.val (.ref a1)] [(.ref a1)])) rfl (by rw [hml]; rfl) rfl (hb hby d1_1) (by decide) (W := 0) (by show 2 * 0 + _ ≤ _; exact Nat.le_of_eq rfl) (by decide)
  refine own_st st1 ?_
  show OG p e _ s below _ T1 (mkF m 4 #[.val (.ref a1)] [])
  refine own_st (fun t k => XS.aloadN X1.here hx rfl (hb hby d1_4) rfl rfl k) ?_
  show OG p e _ s below _ T1 (mkF m 5 #[.val (.ref a1)] [(.ref a1)])
  obtain ⟨T2, h2, X2, e2, E2, A2, D2, -, st2⟩ := newO X1 hx hZ hown (hw _ (List.mem_of_getElem? (i := 9) rfl)) (hw _ (List.mem_of_getElem? (i := 10) rfl)) (hw _ (List.mem_of_getElem? (i := 11) rfl)) e1 (g := (mkF m 5 #[.val (.ref a1)] [(.ref a1)])) rfl (hb hby d1_5) (by decide) (by decide)
  obtain ⟨o2, gb2⟩ : ∃ z, z = h0.size := ⟨_, rfl⟩
  rw [← gb2] at A2 D2 st2
  refine own_st st2 ?_
  have ge_o2 : n0 ≤ o2 := by rw [gb2]; exact Nat.le_trans Z0 (Keep.refl h0 [a1]).1
  have sz_o2 : h0.size ≤ o2 := by rw [gb2]; exact (Keep.refl h0 [a1]).1
  have ne_a1_o2 : a1 ≠ o2 := Nat.ne_of_lt (Nat.lt_of_lt_of_eq R0.lt gb2.symm)
  have F3 : Exa Z h2 a1 "com/example/partwise/partwise/CompactThrift" := (R0.ext E2)
  have F4 : Fld Z h2 a1 "com/example/partwise/partwise/CompactThrift" "bytes" "Lcom/example/partwise/partwise/ByteBuilder;" .null := (R1.ext E2)
  have F5 : Fld Z h2 a1 "com/example/partwise/partwise/CompactThrift" "enclosing" "[I" .null := (R2.ext E2)
  have F6 : Fld Z h2 a1 "com/example/partwise/partwise/CompactThrift" "lastField" "I" (.int (0 : Int32)) := (R3.ext E2)
  have F7 : Fld Z h2 a1 "com/example/partwise/partwise/CompactThrift" "depth" "I" (.int (0 : Int32)) := (R4.ext E2)
  have K8 : Keep h0 h2 [a1] := (Keep.refl h0 [a1]).ext E2
  have F9 : Fld Z h2 o2 "com/example/partwise/partwise/ByteBuilder" "bytes" "[B" .null := D2 (Or.inl (hw _ (List.mem_of_getElem? (i := 18) rfl))) (ty := (.array .byte)) (by decide)
  have F10 : Fld Z h2 o2 "com/example/partwise/partwise/ByteBuilder" "length" "I" (.int (0 : Int32)) := D2 (Or.inl (hw _ (List.mem_of_getElem? (i := 46) rfl))) (ty := .int) (by decide)
  show OG p e _ s below _ T2 (mkF m 8 #[.val (.ref a1)] [(.ref o2), (.ref a1)])
  refine own_st (fun t k => XS.dup X2.here hx rfl (hb hby d1_8) rfl rfl k) ?_
  show OG p e _ s below _ T2 (mkF m 9 #[.val (.ref a1)] [(.ref o2), (.ref o2), (.ref a1)])
  refine own_st (fun t k => XS.sipush X2.here hx rfl (hb hby d1_9) k) ?_
  show OG p e _ s below _ T2 (mkF m 12 #[.val (.ref a1)] [(.int (256 : Int32)), (.ref o2), (.ref o2), (.ref a1)])
  obtain ⟨_, _, ⟨T11, L11, k11, n11⟩, -, X11, ⟨Lc11, hQ11, l11, y11, z11⟩, st11⟩ := X2.specialBack hx (y := (⟨"com/example/partwise/partwise/ByteBuilder", "<init>", "(I)V"⟩ : MethodName)) rfl hown (mvT hZ (hw _ (List.mem_of_getElem? (i := 12) rfl))) (mvT hZ (hw _ (List.mem_of_getElem? (i := 13) rfl))) (mvT hZ (hw _ (List.mem_of_getElem? (i := 14) rfl))) (by decide) (backOf (W := 2) (rm := ({ frames := 1, cells := 1, slots := 256, locals := 12 } : Room)) (rm3 l Z a0 hw [] o2 h2 n0 (Nat.le_trans Z0 K8.1) A2 F9 F10 ge_o2) hZ (hw _ (List.mem_of_getElem? (i := 14) rfl)) (hw _ (List.mem_of_getElem? (i := 11) rfl)) (by decide) (by decide)) (g := (mkF m 12 #[.val (.ref a1)] [(.int (256 : Int32)), (.ref o2), (.ref o2), (.ref a1)])) rfl (by rw [hml]; rfl) (Steps.refl _) (a := o2) (argsL := [(.int (256 : Int32))]) (rest := [(.ref o2), (.ref a1)]) (lenOf pd__I_V rfl) rfl (by show 2 * 0 + _ ≤ _; exact Nat.le_of_eq rfl) (hb hby d1_12) (fun _ _ => ⟨rfl, e2, (by decide : 1 + 1 ≤ _), (by decide : 2 + 256 ≤ _)⟩)
  dsimp only [Pt.U, Pt.locs, Pt.cells, Pt.slots] at X11 l11 y11 z11 st11 hQ11
  subst l11 y11 z11
  obtain ⟨rfl, N11q, K11q, buf_11, sz_buf_11, P11_0, P11_1, P11_2, P11_3⟩ := hQ11
  refine own_st (fun t k => st11.trans k) ?_
  have N11 := Fr.app N0 N11q
  have ge_buf_11 : n0 ≤ buf_11 := Nat.le_trans (Nat.le_trans Z0 K8.1) sz_buf_11
  have sy_buf_11 : h0.size ≤ buf_11 := Nat.le_trans K8.1 sz_buf_11
  have ne_a1_buf_11 : a1 ≠ buf_11 := Nat.ne_of_lt (Nat.lt_of_lt_of_le F3.lt sz_buf_11)
  have ne_o2_buf_11 : o2 ≠ buf_11 := Nat.ne_of_lt (Nat.lt_of_lt_of_le A2.lt sz_buf_11)
  have K11 : Keep h0 T11.heap [a1] := K8.trans K11q (own_all1 (Or.inr sz_o2))
  have F12 : Exa Z T11.heap a1 "com/example/partwise/partwise/CompactThrift" := (F3.keep K11q)
  have F13 : Fld Z T11.heap a1 "com/example/partwise/partwise/CompactThrift" "bytes" "Lcom/example/partwise/partwise/ByteBuilder;" .null := (F4.keep K11q (own_nin1 ne_a1_o2))
  have F14 : Fld Z T11.heap a1 "com/example/partwise/partwise/CompactThrift" "enclosing" "[I" .null := (F5.keep K11q (own_nin1 ne_a1_o2))
  have F15 : Fld Z T11.heap a1 "com/example/partwise/partwise/CompactThrift" "lastField" "I" (.int (0 : Int32)) := (F6.keep K11q (own_nin1 ne_a1_o2))
  have F16 : Fld Z T11.heap a1 "com/example/partwise/partwise/CompactThrift" "depth" "I" (.int (0 : Int32)) := (F7.keep K11q (own_nin1 ne_a1_o2))
  show OG p e _ s below _ T11 (mkF m 15 #[.val (.ref a1)] [(.ref o2), (.ref a1)])
  obtain ⟨T17, h17, X17, e17, W17, st17⟩ := putF X11 hx hZ hown (host := "") (Or.inl (hw _ (List.mem_of_getElem? (i := 19) rfl))) Via.refl rfl F13 F12 (Or.inr ⟨(hw _ (List.mem_of_getElem? (i := 20) rfl)), rfl, hnm⟩) (hw _ (List.mem_of_getElem? (i := 1) rfl)) (ty := (.object "com/example/partwise/partwise/ByteBuilder")) (by decide) rfl rfl (g := (mkF m 15 #[.val (.ref a1)] [(.ref o2), (.ref a1)])) rfl rfl (hb hby d1_15)
  refine own_st st17 ?_
  have N17 := Fr.snoc X17 N11 g_a1
  have K18 : Keep h0 h17 [a1] := K11.wr W17 (Or.inl (List.mem_of_getElem? (i := 0) rfl))
  have F19 : Exa Z h17 a1 "com/example/partwise/partwise/CompactThrift" := (F12.wr W17)
  have F20 : Fld Z h17 a1 "com/example/partwise/partwise/CompactThrift" "bytes" "Lcom/example/partwise/partwise/ByteBuilder;" (.ref o2) := (F13.same W17)
  have F21 : Fld Z h17 a1 "com/example/partwise/partwise/CompactThrift" "enclosing" "[I" .null := (F14.other W17 (Or.inr (slot_ne (Or.inl (hw _ (List.mem_of_getElem? (i := 23) rfl))) (Or.inr (hw _ (List.mem_of_getElem? (i := 20) rfl))) (by decide) (t := (.array .int)) (t' := (.object "com/example/partwise/partwise/ByteBuilder")) (by decide) (by decide))))
  have F22 : Fld Z h17 a1 "com/example/partwise/partwise/CompactThrift" "lastField" "I" (.int (0 : Int32)) := (F15.other W17 (Or.inr (slot_ne (Or.inl (hw _ (List.mem_of_getElem? (i := 35) rfl))) (Or.inr (hw _ (List.mem_of_getElem? (i := 20) rfl))) (by decide) (t := .int) (t' := (.object "com/example/partwise/partwise/ByteBuilder")) (by decide) (by decide))))
  have F23 : Fld Z h17 a1 "com/example/partwise/partwise/CompactThrift" "depth" "I" (.int (0 : Int32)) := (F16.other W17 (Or.inr (slot_ne (Or.inl (hw _ (List.mem_of_getElem? (i := 74) rfl))) (Or.inr (hw _ (List.mem_of_getElem? (i := 20) rfl))) (by decide) (t := .int) (t' := (.object "com/example/partwise/partwise/ByteBuilder")) (by decide) (by decide))))
  have F24 : Exa Z h17 o2 "com/example/partwise/partwise/ByteBuilder" := (P11_0.wr W17)
  have F25 : Fld Z h17 o2 "com/example/partwise/partwise/ByteBuilder" "bytes" "[B" (.ref buf_11) := (P11_1.other W17 (Or.inl (Ne.symm ne_a1_o2)))
  have F26 : Fld Z h17 o2 "com/example/partwise/partwise/ByteBuilder" "length" "I" (.int (0 : Int32)) := (P11_2.other W17 (Or.inl (Ne.symm ne_a1_o2)))
  have F27 : OL Z h17 buf_11 .byte 256 := (P11_3.other W17 (Ne.symm ne_a1_buf_11))
  show OG p e _ s below _ T17 (mkF m 18 #[.val (.ref a1)] [])
  refine own_st (fun t k => XS.aloadN X17.here hx rfl (hb hby d1_18) rfl rfl k) ?_
  show OG p e _ s below _ T17 (mkF m 19 #[.val (.ref a1)] [(.ref a1)])
  refine own_st (fun t k => XS.bipush X17.here hx rfl (hb hby d1_19) k) ?_
  show OG p e _ s below _ T17 (mkF m 21 #[.val (.ref a1)] [(.int (8 : Int32)), (.ref a1)])
  obtain ⟨T28, h28, k28, X28, e28, E28, A28, st28⟩ := newP X17 hx hZ (hw _ (List.mem_of_getElem? (i := 21) rfl)) e17 (g := (mkF m 21 #[.val (.ref a1)] [(.int (8 : Int32)), (.ref a1)])) rfl (hb hby d1_21) rfl (by decide) (cap := 8) (by decide) (by decide) (by decide) (by decide)
  obtain ⟨b28, gb28⟩ : ∃ z, z = h17.size := ⟨_, rfl⟩
  rw [← gb28] at A28 st28
  refine own_st st28 ?_
  have ge_b28 : n0 ≤ b28 := by rw [gb28]; exact Nat.le_trans Z0 K18.1
  have sz_b28 : h0.size ≤ b28 := by rw [gb28]; exact K18.1
  have ne_a1_b28 : a1 ≠ b28 := Nat.ne_of_lt (Nat.lt_of_lt_of_eq F19.lt gb28.symm)
  have ne_buf_11_b28 : buf_11 ≠ b28 := Nat.ne_of_lt (Nat.lt_of_lt_of_eq F27.lt gb28.symm)
  have ne_o2_b28 : o2 ≠ b28 := Nat.ne_of_lt (Nat.lt_of_lt_of_eq F24.lt gb28.symm)
  have F29 : Exa Z h28 a1 "com/example/partwise/partwise/CompactThrift" := (F19.ext E28)
  have F30 : Fld Z h28 a1 "com/example/partwise/partwise/CompactThrift" "bytes" "Lcom/example/partwise/partwise/ByteBuilder;" (.ref o2) := (F20.ext E28)
  have F31 : Fld Z h28 a1 "com/example/partwise/partwise/CompactThrift" "enclosing" "[I" .null := (F21.ext E28)
  have F32 : Fld Z h28 a1 "com/example/partwise/partwise/CompactThrift" "lastField" "I" (.int (0 : Int32)) := (F22.ext E28)
  have F33 : Fld Z h28 a1 "com/example/partwise/partwise/CompactThrift" "depth" "I" (.int (0 : Int32)) := (F23.ext E28)
  have F34 : Exa Z h28 o2 "com/example/partwise/partwise/ByteBuilder" := (F24.ext E28)
  have F35 : Fld Z h28 o2 "com/example/partwise/partwise/ByteBuilder" "bytes" "[B" (.ref buf_11) := (F25.ext E28)
  have F36 : Fld Z h28 o2 "com/example/partwise/partwise/ByteBuilder" "length" "I" (.int (0 : Int32)) := (F26.ext E28)
  have F37 : OL Z h28 buf_11 .byte 256 := (F27.ext E28)
  have K38 : Keep h0 h28 [a1] := K18.ext E28
  have F39 : OA Z h28 b28 .int [(.int (0 : Int32)), (.int (0 : Int32)), (.int (0 : Int32)), (.int (0 : Int32)), (.int (0 : Int32)), (.int (0 : Int32)), (.int (0 : Int32)), (.int (0 : Int32))] := OA.new A28
  show OG p e _ s below _ T28 (mkF m 23 #[.val (.ref a1)] [(.ref b28), (.ref a1)])
  obtain ⟨T40, h40, X40, e40, W40, st40⟩ := putF X28 hx hZ hown (host := "") (Or.inl (hw _ (List.mem_of_getElem? (i := 22) rfl))) Via.refl e28 F31 F29 (Or.inl (hw _ (List.mem_of_getElem? (i := 23) rfl))) (hw _ (List.mem_of_getElem? (i := 1) rfl)) (ty := (.array .int)) (by decide) rfl rfl (g := (mkF m 23 #[.val (.ref a1)] [(.ref b28), (.ref a1)])) rfl rfl (hb hby d1_23)
  refine own_st st40 ?_
  have N40 := Fr.snoc X40 N17 g_a1
  have K41 : Keep h0 h40 [a1] := K38.wr W40 (Or.inl (List.mem_of_getElem? (i := 0) rfl))
  have F42 : Exa Z h40 a1 "com/example/partwise/partwise/CompactThrift" := (F29.wr W40)
  have F43 : Fld Z h40 a1 "com/example/partwise/partwise/CompactThrift" "bytes" "Lcom/example/partwise/partwise/ByteBuilder;" (.ref o2) := (F30.other W40 (Or.inr (slot_ne (Or.inr (hw _ (List.mem_of_getElem? (i := 20) rfl))) (Or.inl (hw _ (List.mem_of_getElem? (i := 23) rfl))) (by decide) (t := (.object "com/example/partwise/partwise/ByteBuilder")) (t' := (.array .int)) (by decide) (by decide))))
  have F44 : Fld Z h40 a1 "com/example/partwise/partwise/CompactThrift" "enclosing" "[I" (.ref b28) := (F31.same W40)
  have F45 : Fld Z h40 a1 "com/example/partwise/partwise/CompactThrift" "lastField" "I" (.int (0 : Int32)) := (F32.other W40 (Or.inr (slot_ne (Or.inl (hw _ (List.mem_of_getElem? (i := 35) rfl))) (Or.inl (hw _ (List.mem_of_getElem? (i := 23) rfl))) (by decide) (t := .int) (t' := (.array .int)) (by decide) (by decide))))
  have F46 : Fld Z h40 a1 "com/example/partwise/partwise/CompactThrift" "depth" "I" (.int (0 : Int32)) := (F33.other W40 (Or.inr (slot_ne (Or.inl (hw _ (List.mem_of_getElem? (i := 74) rfl))) (Or.inl (hw _ (List.mem_of_getElem? (i := 23) rfl))) (by decide) (t := .int) (t' := (.array .int)) (by decide) (by decide))))
  have F47 : Exa Z h40 o2 "com/example/partwise/partwise/ByteBuilder" := (F34.wr W40)
  have F48 : Fld Z h40 o2 "com/example/partwise/partwise/ByteBuilder" "bytes" "[B" (.ref buf_11) := (F35.other W40 (Or.inl (Ne.symm ne_a1_o2)))
  have F49 : Fld Z h40 o2 "com/example/partwise/partwise/ByteBuilder" "length" "I" (.int (0 : Int32)) := (F36.other W40 (Or.inl (Ne.symm ne_a1_o2)))
  have F50 : OL Z h40 buf_11 .byte 256 := (F37.other W40 (Ne.symm ne_a1_buf_11))
  have F51 : OA Z h40 b28 .int [(.int (0 : Int32)), (.int (0 : Int32)), (.int (0 : Int32)), (.int (0 : Int32)), (.int (0 : Int32)), (.int (0 : Int32)), (.int (0 : Int32)), (.int (0 : Int32))] := (F39.other W40 (Ne.symm ne_a1_b28))
  show OG p e _ s below _ T40 (mkF m 26 #[.val (.ref a1)] [])
  refine own_ret0 X40 hx hret hlk (hb hby d1_26) (by decide) (by decide) ?_
  rw [e40]
  exact ⟨rfl, N40, K41, o2, buf_11, b28, sz_o2, sy_buf_11, sz_b28, (Ne.symm ne_o2_buf_11), (Ne.symm ne_o2_b28), (Ne.symm ne_buf_11_b28), F42, F43, F44, F45, F46, F47, F48, F49, F50, F51⟩
theorem d5_0 : decode prog_27_method_15_code 0 = .ok (.iload_n 1, 1) := by decide +kernel
theorem d5_1 : decode prog_27_method_15_code 1 = .ok (.aload_n 0, 1) := by decide +kernel
theorem d5_2 : decode prog_27_method_15_code 2 = .ok (.getfield 25, 3) := by decide +kernel
theorem d5_5 : decode prog_27_method_15_code 5 = .ok (.isub, 1) := by decide +kernel
theorem d5_6 : decode prog_27_method_15_code 6 = .ok (.istore_n 3, 1) := by decide +kernel
theorem d5_7 : decode prog_27_method_15_code 7 = .ok (.iload_n 3, 1) := by decide +kernel
theorem d5_8 : decode prog_27_method_15_code 8 = .ok (.iconst 1, 1) := by decide +kernel
theorem d5_9 : decode prog_27_method_15_code 9 = .ok (.if_icmp .lt 9, 3) := by decide +kernel
theorem d5_12 : decode prog_27_method_15_code 12 = .ok (.iload_n 3, 1) := by decide +kernel
theorem d5_13 : decode prog_27_method_15_code 13 = .ok (.bipush 15, 2) := by decide +kernel
theorem d5_15 : decode prog_27_method_15_code 15 = .ok (.if_icmp .le 21, 3) := by decide +kernel
theorem d5_36 : decode prog_27_method_15_code 36 = .ok (.aload_n 0, 1) := by decide +kernel
theorem d5_37 : decode prog_27_method_15_code 37 = .ok (.getfield 12, 3) := by decide +kernel
theorem d5_40 : decode prog_27_method_15_code 40 = .ok (.iload_n 3, 1) := by decide +kernel
theorem d5_41 : decode prog_27_method_15_code 41 = .ok (.iconst 4, 1) := by decide +kernel
theorem d5_42 : decode prog_27_method_15_code 42 = .ok (.ishl, 1) := by decide +kernel
theorem d5_43 : decode prog_27_method_15_code 43 = .ok (.iload_n 2, 1) := by decide +kernel
theorem d5_44 : decode prog_27_method_15_code 44 = .ok (.ior, 1) := by decide +kernel
theorem d5_45 : decode prog_27_method_15_code 45 = .ok (.invokevirtual 66, 3) := by decide +kernel
theorem d5_48 : decode prog_27_method_15_code 48 = .ok (.aload_n 0, 1) := by decide +kernel
theorem d5_49 : decode prog_27_method_15_code 49 = .ok (.iload_n 1, 1) := by decide +kernel
theorem d5_50 : decode prog_27_method_15_code 50 = .ok (.putfield 25, 3) := by decide +kernel
theorem d5_53 : decode prog_27_method_15_code 53 = .ok (.return_, 1) := by decide +kernel
theorem pn_5 : plainFor (⟨"com/example/partwise/partwise/CompactThrift", "fieldHeader", "(II)V"⟩ : MethodName) = true := by first | exact plainFor_of_name (by first | (simp [plainName, overriddenIn]; done) | decide +kernel) | decide +kernel
theorem ef_5 (m : MethodId) (a1 : Addr) (p2 : Int32) (p3 : Int32) : entryFrame m #[(.ref a1), (.int p2), (.int p3)] 4 = (mkF m 0 #[.val (.ref a1), .val (.int p2), .val (.int p3), .unset] []) := by first | (simp [entryFrame, mkF, argsToLocals, Value.category]; done) | rfl
abbrev Q5 (Z : State) (a1 : Addr) (p2 : Int32) (p3 : Int32) (bb : Addr) (buf : Addr) (n : Int32) (enc : Addr) (last : Int32) (d : Int32) (h0 : Heap) (n0 : Nat) : Option Value → Heap → List Loc → Prop := (fun v h L => v = none ∧ Fr n0 L ∧ Keep h0 h [a1, bb, buf] ∧ Exa Z h a1 "com/example/partwise/partwise/CompactThrift" ∧ Fld Z h a1 "com/example/partwise/partwise/CompactThrift" "bytes" "Lcom/example/partwise/partwise/ByteBuilder;" (.ref bb) ∧ Fld Z h a1 "com/example/partwise/partwise/CompactThrift" "enclosing" "[I" (.ref enc) ∧ Fld Z h a1 "com/example/partwise/partwise/CompactThrift" "lastField" "I" (.int p2) ∧ Fld Z h a1 "com/example/partwise/partwise/CompactThrift" "depth" "I" (.int d) ∧ Exa Z h bb "com/example/partwise/partwise/ByteBuilder" ∧ Fld Z h bb "com/example/partwise/partwise/ByteBuilder" "bytes" "[B" (.ref buf) ∧ Fld Z h bb "com/example/partwise/partwise/ByteBuilder" "length" "I" (.int (n + (1 : Int32))) ∧ OL Z h buf .byte 256)
set_option maxRecDepth 65536 in
set_option maxHeartbeats 40000000 in
theorem rm5 (l : Launch) (Z : State) (a0 : Array Value) (hw : ∀ d ∈ tables_1, d.before a0 Z = true) (ws : List Jvm.Cond) (a1 : Addr) (p2 : Int32) (p3 : Int32) (bb : Addr) (buf : Addr) (n : Int32) (enc : Addr) (last : Int32) (d : Int32) (h0 : Heap) (n0 : Nat) (R0 : Exa Z h0 a1 "com/example/partwise/partwise/CompactThrift") (R1 : Fld Z h0 a1 "com/example/partwise/partwise/CompactThrift" "bytes" "Lcom/example/partwise/partwise/ByteBuilder;" (.ref bb)) (R2 : Fld Z h0 a1 "com/example/partwise/partwise/CompactThrift" "enclosing" "[I" (.ref enc)) (R3 : Fld Z h0 a1 "com/example/partwise/partwise/CompactThrift" "lastField" "I" (.int last)) (R4 : Fld Z h0 a1 "com/example/partwise/partwise/CompactThrift" "depth" "I" (.int d)) (R5 : Exa Z h0 bb "com/example/partwise/partwise/ByteBuilder") (R6 : Fld Z h0 bb "com/example/partwise/partwise/ByteBuilder" "bytes" "[B" (.ref buf)) (R7 : Fld Z h0 bb "com/example/partwise/partwise/ByteBuilder" "length" "I" (.int n)) (R8 : OL Z h0 buf .byte 256) (g_a1 : n0 ≤ a1) (g_bb : n0 ≤ bb) (g_buf : n0 ≤ buf) (ne_a1_bb : a1 ≠ bb) (ne_a1_buf : a1 ≠ buf) (ne_buf_bb : buf ≠ bb) (hn : OB n 1) (hd1 : ¬ (p2 - last) < (1 : Int32)) (hd2 : ¬ (15 : Int32) < (p2 - last)) :
    OMet l Z (⟨"com/example/partwise/partwise/CompactThrift", "fieldHeader", "(II)V"⟩ : MethodName) prog_27_method_15_code 4 none ws ({ frames := 2, cells := 0, slots := 0, locals := 26 } : Room) #[(.ref a1), (.int p2), (.int p3)] h0 (Q5 Z a1 p2 p3 bb buf n enc last d h0 n0) := by
  refine own_enter pn_5 ?_
  intro p e s m below meth c s₁ hx hby hml0 hown hret hlk hnm hZ X0 e0
  have hml : c.maxLocals = 4 := hml0
  have N0 := Fr.nil n0
  refine own_cast (ef_5 m a1 p2 p3) ?_
  show OG p e ({ frames := 2, cells := 0, slots := 0, locals := 26 } : Room) s below (fun v h L => v = none ∧ Fr n0 L ∧ Keep h0 h [a1, bb, buf] ∧ Exa Z h a1 "com/example/partwise/partwise/CompactThrift" ∧ Fld Z h a1 "com/example/partwise/partwise/CompactThrift" "bytes" "Lcom/example/partwise/partwise/ByteBuilder;" (.ref bb) ∧ Fld Z h a1 "com/example/partwise/partwise/CompactThrift" "enclosing" "[I" (.ref enc) ∧ Fld Z h a1 "com/example/partwise/partwise/CompactThrift" "lastField" "I" (.int p2) ∧ Fld Z h a1 "com/example/partwise/partwise/CompactThrift" "depth" "I" (.int d) ∧ Exa Z h bb "com/example/partwise/partwise/ByteBuilder" ∧ Fld Z h bb "com/example/partwise/partwise/ByteBuilder" "bytes" "[B" (.ref buf) ∧ Fld Z h bb "com/example/partwise/partwise/ByteBuilder" "length" "I" (.int (n + (1 : Int32))) ∧ OL Z h buf .byte 256) s₁ (mkF m 0 #[.val (.ref a1), .val (.int p2), .val (.int p3), .unset] [])
  refine own_st (fun t k => XS.iloadN X0.here hx rfl (hb hby d5_0) rfl k) ?_
  show OG p e _ s below _ s₁ (mkF m 1 #[.val (.ref a1), .val (.int p2), .val (.int p3), .unset] [(.int p2)])
  refine own_st (fun t k => XS.aloadN X0.here hx rfl (hb hby d5_1) rfl rfl k) ?_
  show OG p e _ s below _ s₁ (mkF m 2 #[.val (.ref a1), .val (.int p2), .val (.int p3), .unset] [(.ref a1), (.int p2)])
  obtain ⟨T1, X1, e1, st1⟩ := getF X0 hx hZ hown (host := "") (Or.inl (hw _ (List.mem_of_getElem? (i := 34) rfl))) Via.refl e0 R3 (g := (mkF m 2 #[.val (.ref a1), .val (.int p2), .val (.int p3), .unset] [(.ref a1), (.int p2)])) rfl rfl (hb hby d5_2)
  refine own_st st1 ?_
  show OG p e _ s below _ T1 (mkF m 5 #[.val (.ref a1), .val (.int p2), .val (.int p3), .unset] [(.int last), (.int p2)])
  refine own_st (fun t k => XS.isub X1.here hx rfl (hb hby d5_5) rfl k) ?_
  show OG p e _ s below _ T1 (mkF m 6 #[.val (.ref a1), .val (.int p2), .val (.int p3), .unset] [(.int (p2 - last))])
  refine own_st (fun t k => XS.istoreN X1.here hx rfl (hb hby d5_6) rfl (l' := #[.val (.ref a1), .val (.int p2), .val (.int p3), .val (.int (p2 - last))]) rfl k) ?_
  show OG p e _ s below _ T1 (mkF m 7 #[.val (.ref a1), .val (.int p2), .val (.int p3), .val (.int (p2 - last))] [])
  refine own_st (fun t k => XS.iloadN X1.here hx rfl (hb hby d5_7) rfl k) ?_
  show OG p e _ s below _ T1 (mkF m 8 #[.val (.ref a1), .val (.int p2), .val (.int p3), .val (.int (p2 - last))] [(.int (p2 - last))])
  refine own_st (fun t k => XS.iconst X1.here hx rfl (hb hby d5_8) k) ?_
  show OG p e _ s below _ T1 (mkF m 9 #[.val (.ref a1), .val (.int p2), .val (.int p3), .val (.int (p2 - last))] [(.int (1 : Int32)), (.int (p2 - last))])
  refine own_st (fun t k => XS.icmpNo X1.here hx rfl (hb hby d5_9) rfl (flt hd1).1 k) ?_
  show OG p e _ s below _ T1 (mkF m 12 #[.val (.ref a1), .val (.int p2), .val (.int p3), .val (.int (p2 - last))] [])
  refine own_st (fun t k => XS.iloadN X1.here hx rfl (hb hby d5_12) rfl k) ?_
  show OG p e _ s below _ T1 (mkF m 13 #[.val (.ref a1), .val (.int p2), .val (.int p3), .val (.int (p2 - last))] [(.int (p2 - last))])
  refine own_st (fun t k => XS.bipush X1.here hx rfl (hb hby d5_13) k) ?_
  show OG p e _ s below _ T1 (mkF m 15 #[.val (.ref a1), .val (.int p2), .val (.int p3), .val (.int (p2 - last))] [(.int (15 : Int32)), (.int (p2 - last))])
  refine own_st (fun t k => XS.icmpYes X1.here hx rfl (pc0 := 15) (pc' := 36) rfl (hb hby d5_15) rfl (flt hd2).2.2.2 (by decide) (by decide) k) ?_
  show OG p e _ s below _ T1 (mkF m 36 #[.val (.ref a1), .val (.int p2), .val (.int p3), .val (.int (p2 - last))] [])
  refine own_st (fun t k => XS.aloadN X1.here hx rfl (hb hby d5_36) rfl rfl k) ?_
  show OG p e _ s below _ T1 (mkF m 37 #[.val (.ref a1), .val (.int p2), .val (.int p3), .val (.int (p2 - last))] [(.ref a1)])
  obtain ⟨T2, X2, e2, st2⟩ := getF X1 hx hZ hown (host := "") (Or.inl (hw _ (List.mem_of_getElem? (i := 19) rfl))) Via.refl e1 R1 (g := (mkF m 37 #[.val (.ref a1), .val (.int p2), .val (.int p3), .val (.int (p2 - last))] [(.ref a1)])) rfl rfl (hb hby d5_37)
  refine own_st st2 ?_
  show OG p e _ s below _ T2 (mkF m 40 #[.val (.ref a1), .val (.int p2), .val (.int p3), .val (.int (p2 - last))] [(.ref bb)])
  refine own_st (fun t k => XS.iloadN X2.here hx rfl (hb hby d5_40) rfl k) ?_
  show OG p e _ s below _ T2 (mkF m 41 #[.val (.ref a1), .val (.int p2), .val (.int p3), .val (.int (p2 - last))] [(.int (p2 - last)), (.ref bb)])
  refine own_st (fun t k => XS.iconst X2.here hx rfl (hb hby d5_41) k) ?_
  show OG p e _ s below _ T2 (mkF m 42 #[.val (.ref a1), .val (.int p2), .val (.int p3), .val (.int (p2 - last))] [(.int (4 : Int32)), (.int (p2 - last)), (.ref bb)])
  refine own_st (fun t k => XS.ishl X2.here hx rfl (hb hby d5_42) rfl k) ?_
  show OG p e _ s below _ T2 (mkF m 43 #[.val (.ref a1), .val (.int p2), .val (.int p3), .val (.int (p2 - last))] [(.int ((p2 - last) <<< ((4 : Int32) &&& 31))), (.ref bb)])
  refine own_st (fun t k => XS.iloadN X2.here hx rfl (hb hby d5_43) rfl k) ?_
  show OG p e _ s below _ T2 (mkF m 44 #[.val (.ref a1), .val (.int p2), .val (.int p3), .val (.int (p2 - last))] [(.int p3), (.int ((p2 - last) <<< ((4 : Int32) &&& 31))), (.ref bb)])
  refine own_st (fun t k => XS.ior X2.here hx rfl (hb hby d5_44) rfl k) ?_
  show OG p e _ s below _ T2 (mkF m 45 #[.val (.ref a1), .val (.int p2), .val (.int p3), .val (.int (p2 - last))] [(.int (((p2 - last) <<< ((4 : Int32) &&& 31)) ||| p3)), (.ref bb)])
  obtain ⟨cq3, kq3, q3a, q3b, q3c⟩ := isOf hZ e2 R5
  obtain ⟨_, _, ⟨T3, L3, k3, n3⟩, -, X3, ⟨Lc3, hQ3, l3, y3, z3⟩, st3⟩ := X2.virtualBack hx (y := (⟨"com/example/partwise/partwise/ByteBuilder", "append", "(I)V"⟩ : MethodName)) (z := (⟨"com/example/partwise/partwise/ByteBuilder", "append", "(I)V"⟩ : MethodName)) hown (mvT hZ (hw _ (List.mem_of_getElem? (i := 36) rfl))) (mvT hZ (hw _ (List.mem_of_getElem? (i := 37) rfl))) (notFace_of_selects (args := #[]) (mvT hZ (hw _ (List.mem_of_getElem? (i := 39) rfl)))) (mvT hZ (hw _ (List.mem_of_getElem? (i := 39) rfl))) (mvT hZ (hw _ (List.mem_of_getElem? (i := 38) rfl))) (by decide) (backOf (W := 0) (rm := ({ frames := 1, cells := 0, slots := 0, locals := 13 } : Room)) (rm6 l Z a0 hw [] bb (((p2 - last) <<< ((4 : Int32) &&& 31)) ||| p3) buf n h0 n0 R5 R6 R7 R8 g_bb g_buf ne_buf_bb (OB.weak hn (by decide))) hZ (hw _ (List.mem_of_getElem? (i := 40) rfl)) (hw _ (List.mem_of_getElem? (i := 11) rfl)) (by decide) (by decide)) q3a q3c (g := (mkF m 45 #[.val (.ref a1), .val (.int p2), .val (.int p3), .val (.int (p2 - last))] [(.int (((p2 - last) <<< ((4 : Int32) &&& 31)) ||| p3)), (.ref bb)])) rfl (by rw [hml]; rfl) (Steps.refl _) (argsL := [(.int (((p2 - last) <<< ((4 : Int32) &&& 31)) ||| p3))]) (rest := []) (lenOf pd__I_V rfl) rfl (by show 2 * 0 + _ ≤ _; exact Nat.le_of_eq rfl) (hb hby d5_45) (fun _ _ => ⟨rfl, e2, (by decide : 0 + 0 ≤ _), (by decide : 0 + 0 ≤ _)⟩)
  dsimp only [Pt.U, Pt.locs, Pt.cells, Pt.slots] at X3 l3 y3 z3 st3 hQ3
  subst l3 y3 z3
  obtain ⟨rfl, N3q, K3q, P3_0, P3_1, P3_2, P3_3⟩ := hQ3
  refine own_st (fun t k => st3.trans k) ?_
  have N3 := Fr.app N0 N3q
  have K3 : Keep h0 T3.heap [a1, bb, buf] := (Keep.refl h0 [a1, bb, buf]).trans K3q (own_all2 (Or.inl (List.mem_of_getElem? (i := 1) rfl)) (Or.inl (List.mem_of_getElem? (i := 2) rfl)))
  have F4 : Exa Z T3.heap a1 "com/example/partwise/partwise/CompactThrift" := (R0.keep K3q)
  have F5 : Fld Z T3.heap a1 "com/example/partwise/partwise/CompactThrift" "bytes" "Lcom/example/partwise/partwise/ByteBuilder;" (.ref bb) := (R1.keep K3q (own_nin2 ne_a1_bb ne_a1_buf))
  have F6 : Fld Z T3.heap a1 "com/example/partwise/partwise/CompactThrift" "enclosing" "[I" (.ref enc) := (R2.keep K3q (own_nin2 ne_a1_bb ne_a1_buf))
  have F7 : Fld Z T3.heap a1 "com/example/partwise/partwise/CompactThrift" "lastField" "I" (.int last) := (R3.keep K3q (own_nin2 ne_a1_bb ne_a1_buf))
  have F8 : Fld Z T3.heap a1 "com/example/partwise/partwise/CompactThrift" "depth" "I" (.int d) := (R4.keep K3q (own_nin2 ne_a1_bb ne_a1_buf))
  show OG p e _ s below _ T3 (mkF m 48 #[.val (.ref a1), .val (.int p2), .val (.int p3), .val (.int (p2 - last))] [])
  refine own_st (fun t k => XS.aloadN X3.here hx rfl (hb hby d5_48) rfl rfl k) ?_
  show OG p e _ s below _ T3 (mkF m 49 #[.val (.ref a1), .val (.int p2), .val (.int p3), .val (.int (p2 - last))] [(.ref a1)])
  refine own_st (fun t k => XS.iloadN X3.here hx rfl (hb hby d5_49) rfl k) ?_
  show OG p e _ s below _ T3 (mkF m 50 #[.val (.ref a1), .val (.int p2), .val (.int p3), .val (.int (p2 - last))] [(.int p2), (.ref a1)])
  obtain ⟨T9, h9, X9, e9, W9, st9⟩ := putF X3 hx hZ hown (host := "") (Or.inl (hw _ (List.mem_of_getElem? (i := 34) rfl))) Via.refl rfl F7 F4 (Or.inl (hw _ (List.mem_of_getElem? (i := 35) rfl))) (hw _ (List.mem_of_getElem? (i := 1) rfl)) (ty := .int) (by decide) rfl rfl (g := (mkF m 50 #[.val (.ref a1), .val (.int p2), .val (.int p3), .val (.int (p2 - last))] [(.int p2), (.ref a1)])) rfl rfl (hb hby d5_50)
  refine own_st st9 ?_
  have N9 := Fr.snoc X9 N3 g_a1
  have K10 : Keep h0 h9 [a1, bb, buf] := K3.wr W9 (Or.inl (List.mem_of_getElem? (i := 0) rfl))
  have F11 : Exa Z h9 a1 "com/example/partwise/partwise/CompactThrift" := (F4.wr W9)
  have F12 : Fld Z h9 a1 "com/example/partwise/partwise/CompactThrift" "bytes" "Lcom/example/partwise/partwise/ByteBuilder;" (.ref bb) := (F5.other W9 (Or.inr (slot_ne (Or.inr (hw _ (List.mem_of_getElem? (i := 20) rfl))) (Or.inl (hw _ (List.mem_of_getElem? (i := 35) rfl))) (by decide) (t := (.object "com/example/partwise/partwise/ByteBuilder")) (t' := .int) (by decide) (by decide))))
  have F13 : Fld Z h9 a1 "com/example/partwise/partwise/CompactThrift" "enclosing" "[I" (.ref enc) := (F6.other W9 (Or.inr (slot_ne (Or.inl (hw _ (List.mem_of_getElem? (i := 23) rfl))) (Or.inl (hw _ (List.mem_of_getElem? (i := 35) rfl))) (by decide) (t := (.array .int)) (t' := .int) (by decide) (by decide))))
  have F14 : Fld Z h9 a1 "com/example/partwise/partwise/CompactThrift" "lastField" "I" (.int p2) := (F7.same W9)
  have F15 : Fld Z h9 a1 "com/example/partwise/partwise/CompactThrift" "depth" "I" (.int d) := (F8.other W9 (Or.inr (slot_ne (Or.inl (hw _ (List.mem_of_getElem? (i := 74) rfl))) (Or.inl (hw _ (List.mem_of_getElem? (i := 35) rfl))) (by decide) (t := .int) (t' := .int) (by decide) (by decide))))
  have F16 : Exa Z h9 bb "com/example/partwise/partwise/ByteBuilder" := (P3_0.wr W9)
  have F17 : Fld Z h9 bb "com/example/partwise/partwise/ByteBuilder" "bytes" "[B" (.ref buf) := (P3_1.other W9 (Or.inl (Ne.symm ne_a1_bb)))
  have F18 : Fld Z h9 bb "com/example/partwise/partwise/ByteBuilder" "length" "I" (.int (n + (1 : Int32))) := (P3_2.other W9 (Or.inl (Ne.symm ne_a1_bb)))
  have F19 : OL Z h9 buf .byte 256 := (P3_3.other W9 (Ne.symm ne_a1_buf))
  show OG p e _ s below _ T9 (mkF m 53 #[.val (.ref a1), .val (.int p2), .val (.int p3), .val (.int (p2 - last))] [])
  refine own_ret0 X9 hx hret hlk (hb hby d5_53) (by decide) (by decide) ?_
  rw [e9]
  exact ⟨rfl, N9, K10, F11, F12, F13, F14, F15, F16, F17, F18, F19⟩
theorem d8_0 : decode prog_27_method_10_code 0 = .ok (.aload_n 0, 1) := by decide +kernel
theorem d8_1 : decode prog_27_method_10_code 1 = .ok (.getfield 12, 3) := by decide +kernel
theorem d8_4 : decode prog_27_method_10_code 4 = .ok (.iload_n 1, 1) := by decide +kernel
theorem d8_5 : decode prog_27_method_10_code 5 = .ok (.iconst 1, 1) := by decide +kernel
theorem d8_6 : decode prog_27_method_10_code 6 = .ok (.ishl, 1) := by decide +kernel
theorem d8_7 : decode prog_27_method_10_code 7 = .ok (.iload_n 1, 1) := by decide +kernel
theorem d8_8 : decode prog_27_method_10_code 8 = .ok (.bipush 31, 2) := by decide +kernel
theorem d8_10 : decode prog_27_method_10_code 10 = .ok (.ishr, 1) := by decide +kernel
theorem d8_11 : decode prog_27_method_10_code 11 = .ok (.ixor, 1) := by decide +kernel
theorem d8_12 : decode prog_27_method_10_code 12 = .ok (.invokestatic 69, 3) := by decide +kernel
theorem d8_15 : decode prog_27_method_10_code 15 = .ok (.invokevirtual 39, 3) := by decide +kernel
theorem d8_18 : decode prog_27_method_10_code 18 = .ok (.return_, 1) := by decide +kernel
theorem pd__I_J : parseMethodDescriptor "(I)J" = some ⟨[.int], some .long⟩ := by decide +kernel
theorem pd__J_V : parseMethodDescriptor "(J)V" = some ⟨[.long], none⟩ := by decide +kernel
theorem pn_8 : plainFor (⟨"com/example/partwise/partwise/CompactThrift", "i32Element", "(I)V"⟩ : MethodName) = true := by first | exact plainFor_of_name (by first | (simp [plainName, overriddenIn]; done) | decide +kernel) | decide +kernel
theorem ef_8 (m : MethodId) (a1 : Addr) (p2 : Int32) : entryFrame m #[(.ref a1), (.int p2)] 2 = (mkF m 0 #[.val (.ref a1), .val (.int p2)] []) := by first | (simp [entryFrame, mkF, argsToLocals, Value.category]; done) | rfl
abbrev Q8 (Z : State) (a1 : Addr) (p2 : Int32) (bb : Addr) (buf : Addr) (n : Int32) (h0 : Heap) (n0 : Nat) : Option Value → Heap → List Loc → Prop := (fun v h L => v = none ∧ Fr n0 L ∧ Keep h0 h [bb, buf] ∧ Exa Z h a1 "com/example/partwise/partwise/CompactThrift" ∧ Fld Z h a1 "com/example/partwise/partwise/CompactThrift" "bytes" "Lcom/example/partwise/partwise/ByteBuilder;" (.ref bb) ∧ Exa Z h bb "com/example/partwise/partwise/ByteBuilder" ∧ Fld Z h bb "com/example/partwise/partwise/ByteBuilder" "bytes" "[B" (.ref buf) ∧ Fld Z h bb "com/example/partwise/partwise/ByteBuilder" "length" "I" (.int (f10 (f9 ((p2 <<< ((1 : Int32) &&& 31)) ^^^ (p2 >>> ((31 : Int32) &&& 31)))) n)) ∧ OL Z h buf .byte 256)
set_option maxRecDepth 65536 in
set_option maxHeartbeats 40000000 in
theorem rm8 (l : Launch) (Z : State) (a0 : Array Value) (hw : ∀ d ∈ tables_1, d.before a0 Z = true) (ws : List Jvm.Cond) (a1 : Addr) (p2 : Int32) (bb : Addr) (buf : Addr) (n : Int32) (h0 : Heap) (n0 : Nat) (R0 : Exa Z h0 a1 "com/example/partwise/partwise/CompactThrift") (R1 : Fld Z h0 a1 "com/example/partwise/partwise/CompactThrift" "bytes" "Lcom/example/partwise/partwise/ByteBuilder;" (.ref bb)) (R2 : Exa Z h0 bb "com/example/partwise/partwise/ByteBuilder") (R3 : Fld Z h0 bb "com/example/partwise/partwise/ByteBuilder" "bytes" "[B" (.ref buf)) (R4 : Fld Z h0 bb "com/example/partwise/partwise/ByteBuilder" "length" "I" (.int n)) (R5 : OL Z h0 buf .byte 256) (g_bb : n0 ≤ bb) (g_buf : n0 ≤ buf) (ne_a1_bb : a1 ≠ bb) (ne_a1_buf : a1 ≠ buf) (ne_buf_bb : buf ≠ bb) (hn : OB n 5) :
    OMet l Z (⟨"com/example/partwise/partwise/CompactThrift", "i32Element", "(I)V"⟩ : MethodName) prog_27_method_10_code 2 none ws ({ frames := 3, cells := 0, slots := 0, locals := 42 } : Room) #[(.ref a1), (.int p2)] h0 (Q8 Z a1 p2 bb buf n h0 n0) := by
  refine own_enter pn_8 ?_
  intro p e s m below meth c s₁ hx hby hml0 hown hret hlk hnm hZ X0 e0
  have hml : c.maxLocals = 2 := hml0
  have N0 := Fr.nil n0
  refine own_cast (ef_8 m a1 p2) ?_
  show OG p e ({ frames := 3, cells := 0, slots := 0, locals := 42 } : Room) s below (fun v h L => v = none ∧ Fr n0 L ∧ Keep h0 h [bb, buf] ∧ Exa Z h a1 "com/example/partwise/partwise/CompactThrift" ∧ Fld Z h a1 "com/example/partwise/partwise/CompactThrift" "bytes" "Lcom/example/partwise/partwise/ByteBuilder;" (.ref bb) ∧ Exa Z h bb "com/example/partwise/partwise/ByteBuilder" ∧ Fld Z h bb "com/example/partwise/partwise/ByteBuilder" "bytes" "[B" (.ref buf) ∧ Fld Z h bb "com/example/partwise/partwise/ByteBuilder" "length" "I" (.int (f10 (f9 ((p2 <<< ((1 : Int32) &&& 31)) ^^^ (p2 >>> ((31 : Int32) &&& 31)))) n)) ∧ OL Z h buf .byte 256) s₁ (mkF m 0 #[.val (.ref a1), .val (.int p2)] [])
  refine own_st (fun t k => XS.aloadN X0.here hx rfl (hb hby d8_0) rfl rfl k) ?_
  show OG p e _ s below _ s₁ (mkF m 1 #[.val (.ref a1), .val (.int p2)] [(.ref a1)])
  obtain ⟨T1, X1, e1, st1⟩ := getF X0 hx hZ hown (host := "") (Or.inl (hw _ (List.mem_of_getElem? (i := 19) rfl))) Via.refl e0 R1 (g := (mkF m 1 #[.val (.ref a1), .val (.int p2)] [(.ref a1)])) rfl rfl (hb hby d8_1)
  refine own_st st1 ?_
  show OG p e _ s below _ T1 (mkF m 4 #[.val (.ref a1), .val (.int p2)] [(.ref bb)])
  refine own_st (fun t k => XS.iloadN X1.here hx rfl (hb hby d8_4) rfl k) ?_
  show OG p e _ s below _ T1 (mkF m 5 #[.val (.ref a1), .val (.int p2)] [(.int p2), (.ref bb)])
  refine own_st (fun t k => XS.iconst X1.here hx rfl (hb hby d8_5) k) ?_
  show OG p e _ s below _ T1 (mkF m 6 #[.val (.ref a1), .val (.int p2)] [(.int (1 : Int32)), (.int p2), (.ref bb)])
  refine own_st (fun t k => XS.ishl X1.here hx rfl (hb hby d8_6) rfl k) ?_
  show OG p e _ s below _ T1 (mkF m 7 #[.val (.ref a1), .val (.int p2)] [(.int (p2 <<< ((1 : Int32) &&& 31))), (.ref bb)])
  refine own_st (fun t k => XS.iloadN X1.here hx rfl (hb hby d8_7) rfl k) ?_
  show OG p e _ s below _ T1 (mkF m 8 #[.val (.ref a1), .val (.int p2)] [(.int p2), (.int (p2 <<< ((1 : Int32) &&& 31))), (.ref bb)])
  refine own_st (fun t k => XS.bipush X1.here hx rfl (hb hby d8_8) k) ?_
  show OG p e _ s below _ T1 (mkF m 10 #[.val (.ref a1), .val (.int p2)] [(.int (31 : Int32)), (.int p2), (.int (p2 <<< ((1 : Int32) &&& 31))), (.ref bb)])
  refine own_st (fun t k => XS.ishr X1.here hx rfl (hb hby d8_10) rfl k) ?_
  show OG p e _ s below _ T1 (mkF m 11 #[.val (.ref a1), .val (.int p2)] [(.int (p2 >>> ((31 : Int32) &&& 31))), (.int (p2 <<< ((1 : Int32) &&& 31))), (.ref bb)])
  refine own_st (fun t k => XS.ixor X1.here hx rfl (hb hby d8_11) rfl k) ?_
  show OG p e _ s below _ T1 (mkF m 12 #[.val (.ref a1), .val (.int p2)] [(.int ((p2 <<< ((1 : Int32) &&& 31)) ^^^ (p2 >>> ((31 : Int32) &&& 31)))), (.ref bb)])
  obtain ⟨_, _, ⟨T2, L2, k2, n2⟩, -, X2, ⟨Lc2, hQ2, l2, y2, z2⟩, st2⟩ := Jvm.LawKit.callS X1 hx (y := (⟨"java/lang/Integer", "toUnsignedLong", "(I)J"⟩ : MethodName)) hown (mvT hZ (hw _ (List.mem_of_getElem? (i := 52) rfl))) (mvT hZ (hw _ (List.mem_of_getElem? (i := 53) rfl))) (mvT hZ (hw _ (List.mem_of_getElem? (i := 54) rfl))) (mvT hZ (hw _ (List.mem_of_getElem? (i := 55) rfl))) (by decide) (backOf (W := 1) (rm := ({ frames := 0, cells := 0, slots := 0, locals := 0 } : Room)) (rm9 l Z a0 hw [] ((p2 <<< ((1 : Int32) &&& 31)) ^^^ (p2 >>> ((31 : Int32) &&& 31))) h0) hZ (hw _ (List.mem_of_getElem? (i := 55) rfl)) (hw _ (List.mem_of_getElem? (i := 54) rfl)) (by decide) (by decide)) (g := (mkF m 12 #[.val (.ref a1), .val (.int p2)] [(.int ((p2 <<< ((1 : Int32) &&& 31)) ^^^ (p2 >>> ((31 : Int32) &&& 31)))), (.ref bb)])) rfl (by rw [hml]; rfl) (argsL := [(.int ((p2 <<< ((1 : Int32) &&& 31)) ^^^ (p2 >>> ((31 : Int32) &&& 31))))]) (rest := [(.ref bb)]) (lenOf pd__I_J rfl) rfl (by show 2 * 0 + _ ≤ _; exact Nat.le_of_eq rfl) (hb hby d8_12) (fun _ _ => ⟨rfl, e1, (by decide : 0 + 0 ≤ _), (by decide : 0 + 0 ≤ _)⟩)
  dsimp only [Pt.U, Pt.locs, Pt.cells, Pt.slots] at X2 l2 y2 z2 st2 hQ2
  subst l2 y2 z2
  obtain ⟨rfl, rfl, e2⟩ := hQ2
  refine own_st st2 ?_
  have N2 := Fr.app N0 (Fr.nil n0)
  show OG p e _ s below _ T2 (mkF m 15 #[.val (.ref a1), .val (.int p2)] [(.long (f9 ((p2 <<< ((1 : Int32) &&& 31)) ^^^ (p2 >>> ((31 : Int32) &&& 31))))), (.ref bb)])
  obtain ⟨cq3, kq3, q3a, q3b, q3c⟩ := isOf hZ e2 R2
  obtain ⟨_, _, ⟨T3, L3, k3, n3⟩, -, X3, ⟨Lc3, hQ3, l3, y3, z3⟩, st3⟩ := X2.virtualBack hx (y := (⟨"com/example/partwise/partwise/ByteBuilder", "appendVarint", "(J)V"⟩ : MethodName)) (z := (⟨"com/example/partwise/partwise/ByteBuilder", "appendVarint", "(J)V"⟩ : MethodName)) hown (mvT hZ (hw _ (List.mem_of_getElem? (i := 57) rfl))) (mvT hZ (hw _ (List.mem_of_getElem? (i := 58) rfl))) (notFace_of_selects (args := #[]) (mvT hZ (hw _ (List.mem_of_getElem? (i := 60) rfl)))) (mvT hZ (hw _ (List.mem_of_getElem? (i := 60) rfl))) (mvT hZ (hw _ (List.mem_of_getElem? (i := 59) rfl))) (by decide) (backOf (W := 0) (rm := ({ frames := 2, cells := 0, slots := 0, locals := 26 } : Room)) (rm10 l Z a0 hw [] bb (f9 ((p2 <<< ((1 : Int32) &&& 31)) ^^^ (p2 >>> ((31 : Int32) &&& 31)))) buf n h0 n0 R2 R3 R4 R5 g_bb g_buf ne_buf_bb (OB.weak hn (by decide)) (own_tul _)) hZ (hw _ (List.mem_of_getElem? (i := 61) rfl)) (hw _ (List.mem_of_getElem? (i := 11) rfl)) (by decide) (by decide)) q3a q3c (g := (mkF m 15 #[.val (.ref a1), .val (.int p2)] [(.long (f9 ((p2 <<< ((1 : Int32) &&& 31)) ^^^ (p2 >>> ((31 : Int32) &&& 31))))), (.ref bb)])) rfl (by rw [hml]; rfl) (Steps.refl _) (argsL := [(.long (f9 ((p2 <<< ((1 : Int32) &&& 31)) ^^^ (p2 >>> ((31 : Int32) &&& 31)))))]) (rest := []) (lenOf pd__J_V rfl) rfl (by show 2 * 0 + _ ≤ _; exact Nat.le_of_eq rfl) (hb hby d8_15) (fun _ _ => ⟨rfl, e2, (by decide : 0 + 0 ≤ _), (by decide : 0 + 0 ≤ _)⟩)
  dsimp only [Pt.U, Pt.locs, Pt.cells, Pt.slots] at X3 l3 y3 z3 st3 hQ3
  subst l3 y3 z3
  obtain ⟨rfl, N3q, K3q, P3_0, P3_1, P3_2, P3_3⟩ := hQ3
  refine own_st (fun t k => st3.trans k) ?_
  have N3 := Fr.app N2 N3q
  have K3 : Keep h0 T3.heap [bb, buf] := (Keep.refl h0 [bb, buf]).trans K3q (own_all2 (Or.inl (List.mem_of_getElem? (i := 0) rfl)) (Or.inl (List.mem_of_getElem? (i := 1) rfl)))
  have F4 : Exa Z T3.heap a1 "com/example/partwise/partwise/CompactThrift" := (R0.keep K3q)
  have F5 : Fld Z T3.heap a1 "com/example/partwise/partwise/CompactThrift" "bytes" "Lcom/example/partwise/partwise/ByteBuilder;" (.ref bb) := (R1.keep K3q (own_nin2 ne_a1_bb ne_a1_buf))
  show OG p e _ s below _ T3 (mkF m 18 #[.val (.ref a1), .val (.int p2)] [])
  refine own_ret0 X3 hx hret hlk (hb hby d8_18) (by decide) (by decide) ?_
  exact ⟨rfl, N3, K3, F4, F5, P3_0, P3_1, P3_2, P3_3⟩
theorem d4_0 : decode prog_27_method_3_code 0 = .ok (.aload_n 0, 1) := by decide +kernel
theorem d4_1 : decode prog_27_method_3_code 1 = .ok (.iload_n 1, 1) := by decide +kernel
theorem d4_2 : decode prog_27_method_3_code 2 = .ok (.iconst 5, 1) := by decide +kernel
theorem d4_3 : decode prog_27_method_3_code 3 = .ok (.invokevirtual 32, 3) := by decide +kernel
theorem d4_6 : decode prog_27_method_3_code 6 = .ok (.aload_n 0, 1) := by decide +kernel
theorem d4_7 : decode prog_27_method_3_code 7 = .ok (.iload_n 2, 1) := by decide +kernel
theorem d4_8 : decode prog_27_method_3_code 8 = .ok (.invokevirtual 36, 3) := by decide +kernel
theorem d4_11 : decode prog_27_method_3_code 11 = .ok (.return_, 1) := by decide +kernel
theorem pd__II_V : parseMethodDescriptor "(II)V" = some ⟨[.int, .int], none⟩ := by decide +kernel
theorem pn_4 : plainFor (⟨"com/example/partwise/partwise/CompactThrift", "i32", "(II)V"⟩ : MethodName) = true := by first | exact plainFor_of_name (by first | (simp [plainName, overriddenIn]; done) | decide +kernel) | decide +kernel
theorem ef_4 (m : MethodId) (a1 : Addr) (p2 : Int32) (p3 : Int32) : entryFrame m #[(.ref a1), (.int p2), (.int p3)] 3 = (mkF m 0 #[.val (.ref a1), .val (.int p2), .val (.int p3)] []) := by first | (simp [entryFrame, mkF, argsToLocals, Value.category]; done) | rfl
abbrev Q4 (Z : State) (a1 : Addr) (p2 : Int32) (p3 : Int32) (bb : Addr) (buf : Addr) (n : Int32) (enc : Addr) (last : Int32) (d : Int32) (h0 : Heap) (n0 : Nat) : Option Value → Heap → List Loc → Prop := (fun v h L => v = none ∧ Fr n0 L ∧ Keep h0 h [a1, bb, buf] ∧ Exa Z h a1 "com/example/partwise/partwise/CompactThrift" ∧ Fld Z h a1 "com/example/partwise/partwise/CompactThrift" "bytes" "Lcom/example/partwise/partwise/ByteBuilder;" (.ref bb) ∧ Fld Z h a1 "com/example/partwise/partwise/CompactThrift" "enclosing" "[I" (.ref enc) ∧ Fld Z h a1 "com/example/partwise/partwise/CompactThrift" "lastField" "I" (.int p2) ∧ Fld Z h a1 "com/example/partwise/partwise/CompactThrift" "depth" "I" (.int d) ∧ Exa Z h bb "com/example/partwise/partwise/ByteBuilder" ∧ Fld Z h bb "com/example/partwise/partwise/ByteBuilder" "bytes" "[B" (.ref buf) ∧ Fld Z h bb "com/example/partwise/partwise/ByteBuilder" "length" "I" (.int (f10 (f9 ((p3 <<< ((1 : Int32) &&& 31)) ^^^ (p3 >>> ((31 : Int32) &&& 31)))) (n + (1 : Int32)))) ∧ OL Z h buf .byte 256)
set_option maxRecDepth 65536 in
set_option maxHeartbeats 40000000 in
theorem rm4 (l : Launch) (Z : State) (a0 : Array Value) (hw : ∀ d ∈ tables_1, d.before a0 Z = true) (ws : List Jvm.Cond) (a1 : Addr) (p2 : Int32) (p3 : Int32) (bb : Addr) (buf : Addr) (n : Int32) (enc : Addr) (last : Int32) (d : Int32) (h0 : Heap) (n0 : Nat) (R0 : Exa Z h0 a1 "com/example/partwise/partwise/CompactThrift") (R1 : Fld Z h0 a1 "com/example/partwise/partwise/CompactThrift" "bytes" "Lcom/example/partwise/partwise/ByteBuilder;" (.ref bb)) (R2 : Fld Z h0 a1 "com/example/partwise/partwise/CompactThrift" "enclosing" "[I" (.ref enc)) (R3 : Fld Z h0 a1 "com/example/partwise/partwise/CompactThrift" "lastField" "I" (.int last)) (R4 : Fld Z h0 a1 "com/example/partwise/partwise/CompactThrift" "depth" "I" (.int d)) (R5 : Exa Z h0 bb "com/example/partwise/partwise/ByteBuilder") (R6 : Fld Z h0 bb "com/example/partwise/partwise/ByteBuilder" "bytes" "[B" (.ref buf)) (R7 : Fld Z h0 bb "com/example/partwise/partwise/ByteBuilder" "length" "I" (.int n)) (R8 : OL Z h0 buf .byte 256) (g_a1 : n0 ≤ a1) (g_bb : n0 ≤ bb) (g_buf : n0 ≤ buf) (ne_a1_bb : a1 ≠ bb) (ne_a1_buf : a1 ≠ buf) (ne_buf_bb : buf ≠ bb) (hn : OB n 6) (hd1 : ¬ (p2 - last) < (1 : Int32)) (hd2 : ¬ (15 : Int32) < (p2 - last)) :
    OMet l Z (⟨"com/example/partwise/partwise/CompactThrift", "i32", "(II)V"⟩ : MethodName) prog_27_method_3_code 3 none ws ({ frames := 4, cells := 0, slots := 0, locals := 55 } : Room) #[(.ref a1), (.int p2), (.int p3)] h0 (Q4 Z a1 p2 p3 bb buf n enc last d h0 n0) := by
  refine own_enter pn_4 ?_
  intro p e s m below meth c s₁ hx hby hml0 hown hret hlk hnm hZ X0 e0
  have hml : c.maxLocals = 3 := hml0
  have N0 := Fr.nil n0
  refine own_cast (ef_4 m a1 p2 p3) ?_
  show OG p e ({ frames := 4, cells := 0, slots := 0, locals := 55 } : Room) s below (fun v h L => v = none ∧ Fr n0 L ∧ Keep h0 h [a1, bb, buf] ∧ Exa Z h a1 "com/example/partwise/partwise/CompactThrift" ∧ Fld Z h a1 "com/example/partwise/partwise/CompactThrift" "bytes" "Lcom/example/partwise/partwise/ByteBuilder;" (.ref bb) ∧ Fld Z h a1 "com/example/partwise/partwise/CompactThrift" "enclosing" "[I" (.ref enc) ∧ Fld Z h a1 "com/example/partwise/partwise/CompactThrift" "lastField" "I" (.int p2) ∧ Fld Z h a1 "com/example/partwise/partwise/CompactThrift" "depth" "I" (.int d) ∧ Exa Z h bb "com/example/partwise/partwise/ByteBuilder" ∧ Fld Z h bb "com/example/partwise/partwise/ByteBuilder" "bytes" "[B" (.ref buf) ∧ Fld Z h bb "com/example/partwise/partwise/ByteBuilder" "length" "I" (.int (f10 (f9 ((p3 <<< ((1 : Int32) &&& 31)) ^^^ (p3 >>> ((31 : Int32) &&& 31)))) (n + (1 : Int32)))) ∧ OL Z h buf .byte 256) s₁ (mkF m 0 #[.val (.ref a1), .val (.int p2), .val (.int p3)] [])
  refine own_st (fun t k => XS.aloadN X0.here hx rfl (hb hby d4_0) rfl rfl k) ?_
  show OG p e _ s below _ s₁ (mkF m 1 #[.val (.ref a1), .val (.int p2), .val (.int p3)] [(.ref a1)])
  refine own_st (fun t k => XS.iloadN X0.here hx rfl (hb hby d4_1) rfl k) ?_
  show OG p e _ s below _ s₁ (mkF m 2 #[.val (.ref a1), .val (.int p2), .val (.int p3)] [(.int p2), (.ref a1)])
  refine own_st (fun t k => XS.iconst X0.here hx rfl (hb hby d4_2) k) ?_
  show OG p e _ s below _ s₁ (mkF m 3 #[.val (.ref a1), .val (.int p2), .val (.int p3)] [(.int (5 : Int32)), (.int p2), (.ref a1)])
  obtain ⟨cq1, q1, q1'⟩ := R0.cell
  obtain ⟨_, _, ⟨T1, L1, k1, n1⟩, -, X1, ⟨Lc1, hQ1, l1, y1, z1⟩, st1⟩ := X0.privateBack hx (y := (⟨"com/example/partwise/partwise/CompactThrift", "fieldHeader", "(II)V"⟩ : MethodName)) hown (mvT hZ (hw _ (List.mem_of_getElem? (i := 30) rfl))) (mvT hZ (hw _ (List.mem_of_getElem? (i := 31) rfl))) (own_selp hZ (hw _ (List.mem_of_getElem? (i := 1) rfl)) (hw _ (List.mem_of_getElem? (i := 32) rfl)) (hw _ (List.mem_of_getElem? (i := 31) rfl)) (by decide)) (Cond.privateMethod_at (mvP hZ (hw _ (List.mem_of_getElem? (i := 32) rfl)) (args := #[]))) (mvT hZ (hw _ (List.mem_of_getElem? (i := 33) rfl))) (by decide) (backOf (W := 0) (rm := ({ frames := 2, cells := 0, slots := 0, locals := 26 } : Room)) (rm5 l Z a0 hw [] a1 p2 (5 : Int32) bb buf n enc last d h0 n0 R0 R1 R2 R3 R4 R5 R6 R7 R8 g_a1 g_bb g_buf ne_a1_bb ne_a1_buf ne_buf_bb (OB.weak hn (by decide)) hd1 hd2) hZ (hw _ (List.mem_of_getElem? (i := 33) rfl)) (hw _ (List.mem_of_getElem? (i := 2) rfl)) (by decide) (by decide)) (g := (mkF m 3 #[.val (.ref a1), .val (.int p2), .val (.int p3)] [(.int (5 : Int32)), (.int p2), (.ref a1)])) rfl (by rw [hml]; rfl) (Steps.refl _) (a := a1) (by rw [e0]; exact q1) q1' (argsL := [(.int p2), (.int (5 : Int32))]) (rest := []) (lenOf pd__II_V rfl) rfl (by show 2 * 0 + _ ≤ _; exact Nat.le_of_eq rfl) (hb hby d4_3) (fun _ _ => ⟨rfl, e0, (by decide : 0 + 0 ≤ _), (by decide : 0 + 0 ≤ _)⟩)
  dsimp only [Pt.U, Pt.locs, Pt.cells, Pt.slots] at X1 l1 y1 z1 st1 hQ1
  subst l1 y1 z1
  obtain ⟨rfl, N1q, K1q, P1_0, P1_1, P1_2, P1_3, P1_4, P1_5, P1_6, P1_7, P1_8⟩ := hQ1
  refine own_st (fun t k => st1.trans k) ?_
  have N1 := Fr.app N0 N1q
  have K1 : Keep h0 T1.heap [a1, bb, buf] := (Keep.refl h0 [a1, bb, buf]).trans K1q (own_all3 (Or.inl (List.mem_of_getElem? (i := 0) rfl)) (Or.inl (List.mem_of_getElem? (i := 1) rfl)) (Or.inl (List.mem_of_getElem? (i := 2) rfl)))
  show OG p e _ s below _ T1 (mkF m 6 #[.val (.ref a1), .val (.int p2), .val (.int p3)] [])
  refine own_st (fun t k => XS.aloadN X1.here hx rfl (hb hby d4_6) rfl rfl k) ?_
  show OG p e _ s below _ T1 (mkF m 7 #[.val (.ref a1), .val (.int p2), .val (.int p3)] [(.ref a1)])
  refine own_st (fun t k => XS.iloadN X1.here hx rfl (hb hby d4_7) rfl k) ?_
  show OG p e _ s below _ T1 (mkF m 8 #[.val (.ref a1), .val (.int p2), .val (.int p3)] [(.int p3), (.ref a1)])
  obtain ⟨cq2, kq2, q2a, q2b, q2c⟩ := isOf hZ rfl P1_0
  obtain ⟨_, _, ⟨T2, L2, k2, n2⟩, -, X2, ⟨Lc2, hQ2, l2, y2, z2⟩, st2⟩ := X1.virtualBack hx (y := (⟨"com/example/partwise/partwise/CompactThrift", "i32Element", "(I)V"⟩ : MethodName)) (z := (⟨"com/example/partwise/partwise/CompactThrift", "i32Element", "(I)V"⟩ : MethodName)) hown (mvT hZ (hw _ (List.mem_of_getElem? (i := 47) rfl))) (mvT hZ (hw _ (List.mem_of_getElem? (i := 48) rfl))) (notFace_of_selects (args := #[]) (mvT hZ (hw _ (List.mem_of_getElem? (i := 50) rfl)))) (mvT hZ (hw _ (List.mem_of_getElem? (i := 50) rfl))) (mvT hZ (hw _ (List.mem_of_getElem? (i := 49) rfl))) (by decide) (backOf (W := 0) (rm := ({ frames := 3, cells := 0, slots := 0, locals := 42 } : Room)) (rm8 l Z a0 hw [] a1 p3 bb buf (n + (1 : Int32)) T1.heap n0 P1_0 P1_1 P1_5 P1_6 P1_7 P1_8 g_bb g_buf ne_a1_bb ne_a1_buf ne_buf_bb (OB.weak hn.step (by decide))) hZ (hw _ (List.mem_of_getElem? (i := 51) rfl)) (hw _ (List.mem_of_getElem? (i := 2) rfl)) (by decide) (by decide)) q2a q2c (g := (mkF m 8 #[.val (.ref a1), .val (.int p2), .val (.int p3)] [(.int p3), (.ref a1)])) rfl (by rw [hml]; rfl) (Steps.refl _) (argsL := [(.int p3)]) (rest := []) (lenOf pd__I_V rfl) rfl (by show 2 * 0 + _ ≤ _; exact Nat.le_of_eq rfl) (hb hby d4_8) (fun _ _ => ⟨rfl, rfl, (by decide : 0 + 0 ≤ _), (by decide : 0 + 0 ≤ _)⟩)
  dsimp only [Pt.U, Pt.locs, Pt.cells, Pt.slots] at X2 l2 y2 z2 st2 hQ2
  subst l2 y2 z2
  obtain ⟨rfl, N2q, K2q, P2_0, P2_1, P2_2, P2_3, P2_4, P2_5⟩ := hQ2
  refine own_st (fun t k => st2.trans k) ?_
  have N2 := Fr.app N1 N2q
  have K2 : Keep h0 T2.heap [a1, bb, buf] := K1.trans K2q (own_all2 (Or.inl (List.mem_of_getElem? (i := 1) rfl)) (Or.inl (List.mem_of_getElem? (i := 2) rfl)))
  have F3 : Fld Z T2.heap a1 "com/example/partwise/partwise/CompactThrift" "enclosing" "[I" (.ref enc) := (P1_2.keep K2q (own_nin2 ne_a1_bb ne_a1_buf))
  have F4 : Fld Z T2.heap a1 "com/example/partwise/partwise/CompactThrift" "lastField" "I" (.int p2) := (P1_3.keep K2q (own_nin2 ne_a1_bb ne_a1_buf))
  have F5 : Fld Z T2.heap a1 "com/example/partwise/partwise/CompactThrift" "depth" "I" (.int d) := (P1_4.keep K2q (own_nin2 ne_a1_bb ne_a1_buf))
  show OG p e _ s below _ T2 (mkF m 11 #[.val (.ref a1), .val (.int p2), .val (.int p3)] [])
  refine own_ret0 X2 hx hret hlk (hb hby d4_11) (by decide) (by decide) ?_
  exact ⟨rfl, N2, K2, P2_0, P2_1, F3, F4, F5, P2_2, P2_3, P2_4, P2_5⟩
theorem d12_0 : decode prog_27_method_17_code 0 = .ok (.aload_n 0, 1) := by decide +kernel
theorem d12_1 : decode prog_27_method_17_code 1 = .ok (.getfield 29, 3) := by decide +kernel
theorem d12_4 : decode prog_27_method_17_code 4 = .ok (.aload_n 0, 1) := by decide +kernel
theorem d12_5 : decode prog_27_method_17_code 5 = .ok (.getfield 18, 3) := by decide +kernel
theorem d12_8 : decode prog_27_method_17_code 8 = .ok (.arraylength, 1) := by decide +kernel
theorem d12_9 : decode prog_27_method_17_code 9 = .ok (.if_icmp .ne 20, 3) := by decide +kernel
theorem d12_29 : decode prog_27_method_17_code 29 = .ok (.aload_n 0, 1) := by decide +kernel
theorem d12_30 : decode prog_27_method_17_code 30 = .ok (.getfield 18, 3) := by decide +kernel
theorem d12_33 : decode prog_27_method_17_code 33 = .ok (.aload_n 0, 1) := by decide +kernel
theorem d12_34 : decode prog_27_method_17_code 34 = .ok (.getfield 29, 3) := by decide +kernel
theorem d12_37 : decode prog_27_method_17_code 37 = .ok (.aload_n 0, 1) := by decide +kernel
theorem d12_38 : decode prog_27_method_17_code 38 = .ok (.getfield 25, 3) := by decide +kernel
theorem d12_41 : decode prog_27_method_17_code 41 = .ok (.iastore, 1) := by decide +kernel
theorem d12_42 : decode prog_27_method_17_code 42 = .ok (.aload_n 0, 1) := by decide +kernel
theorem d12_43 : decode prog_27_method_17_code 43 = .ok (.dup, 1) := by decide +kernel
theorem d12_44 : decode prog_27_method_17_code 44 = .ok (.getfield 29, 3) := by decide +kernel
theorem d12_47 : decode prog_27_method_17_code 47 = .ok (.iconst 1, 1) := by decide +kernel
theorem d12_48 : decode prog_27_method_17_code 48 = .ok (.iadd, 1) := by decide +kernel
theorem d12_49 : decode prog_27_method_17_code 49 = .ok (.putfield 29, 3) := by decide +kernel
theorem d12_52 : decode prog_27_method_17_code 52 = .ok (.aload_n 0, 1) := by decide +kernel
theorem d12_53 : decode prog_27_method_17_code 53 = .ok (.iconst 0, 1) := by decide +kernel
theorem d12_54 : decode prog_27_method_17_code 54 = .ok (.putfield 25, 3) := by decide +kernel
theorem d12_57 : decode prog_27_method_17_code 57 = .ok (.return_, 1) := by decide +kernel
theorem pn_12 : plainFor (⟨"com/example/partwise/partwise/CompactThrift", "enter", "()V"⟩ : MethodName) = true := by first | exact plainFor_of_name (by first | (simp [plainName, overriddenIn]; done) | decide +kernel) | decide +kernel
theorem ef_12 (m : MethodId) (a1 : Addr) : entryFrame m #[(.ref a1)] 1 = (mkF m 0 #[.val (.ref a1)] []) := by first | (simp [entryFrame, mkF, argsToLocals, Value.category]; done) | rfl
abbrev Q12 (Z : State) (a1 : Addr) (bb : Addr) (enc : Addr) (last : Int32) (h0 : Heap) (n0 : Nat) : Option Value → Heap → List Loc → Prop := (fun v h L => v = none ∧ Fr n0 L ∧ Keep h0 h [a1, enc] ∧ Exa Z h a1 "com/example/partwise/partwise/CompactThrift" ∧ Fld Z h a1 "com/example/partwise/partwise/CompactThrift" "bytes" "Lcom/example/partwise/partwise/ByteBuilder;" (.ref bb) ∧ Fld Z h a1 "com/example/partwise/partwise/CompactThrift" "enclosing" "[I" (.ref enc) ∧ Fld Z h a1 "com/example/partwise/partwise/CompactThrift" "lastField" "I" (.int (0 : Int32)) ∧ Fld Z h a1 "com/example/partwise/partwise/CompactThrift" "depth" "I" (.int (1 : Int32)) ∧ OA Z h enc .int [(.int last), (.int (0 : Int32)), (.int (0 : Int32)), (.int (0 : Int32)), (.int (0 : Int32)), (.int (0 : Int32)), (.int (0 : Int32)), (.int (0 : Int32))])
set_option maxRecDepth 65536 in
set_option maxHeartbeats 40000000 in
theorem rm12 (l : Launch) (Z : State) (a0 : Array Value) (hw : ∀ d ∈ tables_1, d.before a0 Z = true) (ws : List Jvm.Cond) (a1 : Addr) (bb : Addr) (enc : Addr) (last : Int32) (h0 : Heap) (n0 : Nat) (R0 : Exa Z h0 a1 "com/example/partwise/partwise/CompactThrift") (R1 : Fld Z h0 a1 "com/example/partwise/partwise/CompactThrift" "bytes" "Lcom/example/partwise/partwise/ByteBuilder;" (.ref bb)) (R2 : Fld Z h0 a1 "com/example/partwise/partwise/CompactThrift" "enclosing" "[I" (.ref enc)) (R3 : Fld Z h0 a1 "com/example/partwise/partwise/CompactThrift" "lastField" "I" (.int last)) (R4 : Fld Z h0 a1 "com/example/partwise/partwise/CompactThrift" "depth" "I" (.int (0 : Int32))) (R5 : OA Z h0 enc .int [(.int (0 : Int32)), (.int (0 : Int32)), (.int (0 : Int32)), (.int (0 : Int32)), (.int (0 : Int32)), (.int (0 : Int32)), (.int (0 : Int32)), (.int (0 : Int32))]) (g_a1 : n0 ≤ a1) (g_enc : n0 ≤ enc) (ne_enc_a1 : enc ≠ a1) :
    OMet l Z (⟨"com/example/partwise/partwise/CompactThrift", "enter", "()V"⟩ : MethodName) prog_27_method_17_code 1 none ws ({ frames := 0, cells := 0, slots := 0, locals := 0 } : Room) #[(.ref a1)] h0 (Q12 Z a1 bb enc last h0 n0) := by
  refine own_enter pn_12 ?_
  intro p e s m below meth c s₁ hx hby hml0 hown hret hlk hnm hZ X0 e0
  have hml : c.maxLocals = 1 := hml0
  have N0 := Fr.nil n0
  refine own_cast (ef_12 m a1) ?_
  show OG p e ({ frames := 0, cells := 0, slots := 0, locals := 0 } : Room) s below (fun v h L => v = none ∧ Fr n0 L ∧ Keep h0 h [a1, enc] ∧ Exa Z h a1 "com/example/partwise/partwise/CompactThrift" ∧ Fld Z h a1 "com/example/partwise/partwise/CompactThrift" "bytes" "Lcom/example/partwise/partwise/ByteBuilder;" (.ref bb) ∧ Fld Z h a1 "com/example/partwise/partwise/CompactThrift" "enclosing" "[I" (.ref enc) ∧ Fld Z h a1 "com/example/partwise/partwise/CompactThrift" "lastField" "I" (.int (0 : Int32)) ∧ Fld Z h a1 "com/example/partwise/partwise/CompactThrift" "depth" "I" (.int (1 : Int32)) ∧ OA Z h enc .int [(.int last), (.int (0 : Int32)), (.int (0 : Int32)), (.int (0 : Int32)), (.int (0 : Int32)), (.int (0 : Int32)), (.int (0 : Int32)), (.int (0 : Int32))]) s₁ (mkF m 0 #[.val (.ref a1)] [])
  refine own_st (fun t k => XS.aloadN X0.here hx rfl (hb hby d12_0) rfl rfl k) ?_
  show OG p e _ s below _ s₁ (mkF m 1 #[.val (.ref a1)] [(.ref a1)])
  obtain ⟨T1, X1, e1, st1⟩ := getF X0 hx hZ hown (host := "") (Or.inl (hw _ (List.mem_of_getElem? (i := 73) rfl))) Via.refl e0 R4 (g := (mkF m 1 #[.val (.ref a1)] [(.ref a1)])) rfl rfl (hb hby d12_1)
  refine own_st st1 ?_
  show OG p e _ s below _ T1 (mkF m 4 #[.val (.ref a1)] [(.int (0 : Int32))])
  refine own_st (fun t k => XS.aloadN X1.here hx rfl (hb hby d12_4) rfl rfl k) ?_
  show OG p e _ s below _ T1 (mkF m 5 #[.val (.ref a1)] [(.ref a1), (.int (0 : Int32))])
  obtain ⟨T2, X2, e2, st2⟩ := getF X1 hx hZ hown (host := "") (Or.inl (hw _ (List.mem_of_getElem? (i := 22) rfl))) Via.refl e1 R2 (g := (mkF m 5 #[.val (.ref a1)] [(.ref a1), (.int (0 : Int32))])) rfl rfl (hb hby d12_5)
  refine own_st st2 ?_
  show OG p e _ s below _ T2 (mkF m 8 #[.val (.ref a1)] [(.ref enc), (.int (0 : Int32))])
  obtain ⟨cl3, Ar3, hz3⟩ := R5.len
  refine own_st (fun t k => X2.arraylength hx (by rw [e2]; exact Ar3.1) (State.isArrayOf_alike hZ.alike Ar3.2.1) (g := (mkF m 8 #[.val (.ref a1)] [(.ref enc), (.int (0 : Int32))])) rfl rfl (hb hby d12_8) t k) ?_
  rw [hz3]
  show OG p e _ s below _ T2 (mkF m 9 #[.val (.ref a1)] [(.int (8 : Int32)), (.int (0 : Int32))])
  refine own_st (fun t k => XS.icmpYes X2.here hx rfl (pc0 := 9) (pc' := 29) rfl (hb hby d12_9) rfl (by decide) (by decide) (by decide) k) ?_
  show OG p e _ s below _ T2 (mkF m 29 #[.val (.ref a1)] [])
  refine own_st (fun t k => XS.aloadN X2.here hx rfl (hb hby d12_29) rfl rfl k) ?_
  show OG p e _ s below _ T2 (mkF m 30 #[.val (.ref a1)] [(.ref a1)])
  obtain ⟨T4, X4, e4, st4⟩ := getF X2 hx hZ hown (host := "") (Or.inl (hw _ (List.mem_of_getElem? (i := 22) rfl))) Via.refl e2 R2 (g := (mkF m 30 #[.val (.ref a1)] [(.ref a1)])) rfl rfl (hb hby d12_30)
  refine own_st st4 ?_
  show OG p e _ s below _ T4 (mkF m 33 #[.val (.ref a1)] [(.ref enc)])
  refine own_st (fun t k => XS.aloadN X4.here hx rfl (hb hby d12_33) rfl rfl k) ?_
  show OG p e _ s below _ T4 (mkF m 34 #[.val (.ref a1)] [(.ref a1), (.ref enc)])
  obtain ⟨T5, X5, e5, st5⟩ := getF X4 hx hZ hown (host := "") (Or.inl (hw _ (List.mem_of_getElem? (i := 73) rfl))) Via.refl e4 R4 (g := (mkF m 34 #[.val (.ref a1)] [(.ref a1), (.ref enc)])) rfl rfl (hb hby d12_34)
  refine own_st st5 ?_
  show OG p e _ s below _ T5 (mkF m 37 #[.val (.ref a1)] [(.int (0 : Int32)), (.ref enc)])
  refine own_st (fun t k => XS.aloadN X5.here hx rfl (hb hby d12_37) rfl rfl k) ?_
  show OG p e _ s below _ T5 (mkF m 38 #[.val (.ref a1)] [(.ref a1), (.int (0 : Int32)), (.ref enc)])
  obtain ⟨T6, X6, e6, st6⟩ := getF X5 hx hZ hown (host := "") (Or.inl (hw _ (List.mem_of_getElem? (i := 34) rfl))) Via.refl e5 R3 (g := (mkF m 38 #[.val (.ref a1)] [(.ref a1), (.int (0 : Int32)), (.ref enc)])) rfl rfl (hb hby d12_38)
  refine own_st st6 ?_
  show OG p e _ s below _ T6 (mkF m 41 #[.val (.ref a1)] [(.int last), (.int (0 : Int32)), (.ref enc)])
  obtain ⟨cl7, Ar7, hi7⟩ := own_wr R5 (j := (0 : Int32)) (i := 0) (by decide) (by decide) (by decide : 0 < 8)
  obtain ⟨T7, h7, X7, e7, W7, st7⟩ := stI X6 hx hZ e6 Ar7 hi7 (g := (mkF m 41 #[.val (.ref a1)] [(.int last), (.int (0 : Int32)), (.ref enc)])) rfl rfl (hb hby d12_41)
  refine own_st st7 ?_
  have N7 := Fr.snoc X7 N0 g_enc
  have K8 : Keep h0 h7 [a1, enc] := (Keep.refl h0 [a1, enc]).wr W7 (Or.inl (List.mem_of_getElem? (i := 1) rfl))
  have F9 : Exa Z h7 a1 "com/example/partwise/partwise/CompactThrift" := (R0.wr W7)
  have F10 : Fld Z h7 a1 "com/example/partwise/partwise/CompactThrift" "bytes" "Lcom/example/partwise/partwise/ByteBuilder;" (.ref bb) := (R1.other W7 (Or.inl (Ne.symm ne_enc_a1)))
  have F11 : Fld Z h7 a1 "com/example/partwise/partwise/CompactThrift" "enclosing" "[I" (.ref enc) := (R2.other W7 (Or.inl (Ne.symm ne_enc_a1)))
  have F12 : Fld Z h7 a1 "com/example/partwise/partwise/CompactThrift" "lastField" "I" (.int last) := (R3.other W7 (Or.inl (Ne.symm ne_enc_a1)))
  have F13 : Fld Z h7 a1 "com/example/partwise/partwise/CompactThrift" "depth" "I" (.int (0 : Int32)) := (R4.other W7 (Or.inl (Ne.symm ne_enc_a1)))
  have F14 : OA Z h7 enc .int [(.int last), (.int (0 : Int32)), (.int (0 : Int32)), (.int (0 : Int32)), (.int (0 : Int32)), (.int (0 : Int32)), (.int (0 : Int32)), (.int (0 : Int32))] := (R5.set W7 (i := 0) (by decide))
  show OG p e _ s below _ T7 (mkF m 42 #[.val (.ref a1)] [])
  refine own_st (fun t k => XS.aloadN X7.here hx rfl (hb hby d12_42) rfl rfl k) ?_
  show OG p e _ s below _ T7 (mkF m 43 #[.val (.ref a1)] [(.ref a1)])
  refine own_st (fun t k => XS.dup X7.here hx rfl (hb hby d12_43) rfl rfl k) ?_
  show OG p e _ s below _ T7 (mkF m 44 #[.val (.ref a1)] [(.ref a1), (.ref a1)])
  obtain ⟨T15, X15, e15, st15⟩ := getF X7 hx hZ hown (host := "") (Or.inl (hw _ (List.mem_of_getElem? (i := 73) rfl))) Via.refl e7 F13 (g := (mkF m 44 #[.val (.ref a1)] [(.ref a1), (.ref a1)])) rfl rfl (hb hby d12_44)
  refine own_st st15 ?_
  show OG p e _ s below _ T15 (mkF m 47 #[.val (.ref a1)] [(.int (0 : Int32)), (.ref a1)])
  refine own_st (fun t k => XS.iconst X15.here hx rfl (hb hby d12_47) k) ?_
  show OG p e _ s below _ T15 (mkF m 48 #[.val (.ref a1)] [(.int (1 : Int32)), (.int (0 : Int32)), (.ref a1)])
  refine own_st (fun t k => XS.iadd X15.here hx rfl (hb hby d12_48) rfl k) ?_
  show OG p e _ s below _ T15 (mkF m 49 #[.val (.ref a1)] [(.int (1 : Int32)), (.ref a1)])
  obtain ⟨T16, h16, X16, e16, W16, st16⟩ := putF X15 hx hZ hown (host := "") (Or.inl (hw _ (List.mem_of_getElem? (i := 73) rfl))) Via.refl e15 F13 F9 (Or.inl (hw _ (List.mem_of_getElem? (i := 74) rfl))) (hw _ (List.mem_of_getElem? (i := 1) rfl)) (ty := .int) (by decide) rfl rfl (g := (mkF m 49 #[.val (.ref a1)] [(.int (1 : Int32)), (.ref a1)])) rfl rfl (hb hby d12_49)
  refine own_st st16 ?_
  have N16 := Fr.snoc X16 N7 g_a1
  have K17 : Keep h0 h16 [a1, enc] := K8.wr W16 (Or.inl (List.mem_of_getElem? (i := 0) rfl))
  have F18 : Exa Z h16 a1 "com/example/partwise/partwise/CompactThrift" := (F9.wr W16)
  have F19 : Fld Z h16 a1 "com/example/partwise/partwise/CompactThrift" "bytes" "Lcom/example/partwise/partwise/ByteBuilder;" (.ref bb) := (F10.other W16 (Or.inr (slot_ne (Or.inr (hw _ (List.mem_of_getElem? (i := 20) rfl))) (Or.inl (hw _ (List.mem_of_getElem? (i := 74) rfl))) (by decide) (t := (.object "com/example/partwise/partwise/ByteBuilder")) (t' := .int) (by decide) (by decide))))
  have F20 : Fld Z h16 a1 "com/example/partwise/partwise/CompactThrift" "enclosing" "[I" (.ref enc) := (F11.other W16 (Or.inr (slot_ne (Or.inl (hw _ (List.mem_of_getElem? (i := 23) rfl))) (Or.inl (hw _ (List.mem_of_getElem? (i := 74) rfl))) (by decide) (t := (.array .int)) (t' := .int) (by decide) (by decide))))
  have F21 : Fld Z h16 a1 "com/example/partwise/partwise/CompactThrift" "lastField" "I" (.int last) := (F12.other W16 (Or.inr (slot_ne (Or.inl (hw _ (List.mem_of_getElem? (i := 35) rfl))) (Or.inl (hw _ (List.mem_of_getElem? (i := 74) rfl))) (by decide) (t := .int) (t' := .int) (by decide) (by decide))))
  have F22 : Fld Z h16 a1 "com/example/partwise/partwise/CompactThrift" "depth" "I" (.int (1 : Int32)) := (F13.same W16)
  have F23 : OA Z h16 enc .int [(.int last), (.int (0 : Int32)), (.int (0 : Int32)), (.int (0 : Int32)), (.int (0 : Int32)), (.int (0 : Int32)), (.int (0 : Int32)), (.int (0 : Int32))] := (F14.other W16 ne_enc_a1)
  show OG p e _ s below _ T16 (mkF m 52 #[.val (.ref a1)] [])
  refine own_st (fun t k => XS.aloadN X16.here hx rfl (hb hby d12_52) rfl rfl k) ?_
  show OG p e _ s below _ T16 (mkF m 53 #[.val (.ref a1)] [(.ref a1)])
  refine own_st (fun t k => XS.iconst X16.here hx rfl (hb hby d12_53) k) ?_
  show OG p e _ s below _ T16 (mkF m 54 #[.val (.ref a1)] [(.int (0 : Int32)), (.ref a1)])
  obtain ⟨T24, h24, X24, e24, W24, st24⟩ := putF X16 hx hZ hown (host := "") (Or.inl (hw _ (List.mem_of_getElem? (i := 34) rfl))) Via.refl e16 F21 F18 (Or.inl (hw _ (List.mem_of_getElem? (i := 35) rfl))) (hw _ (List.mem_of_getElem? (i := 1) rfl)) (ty := .int) (by decide) rfl rfl (g := (mkF m 54 #[.val (.ref a1)] [(.int (0 : Int32)), (.ref a1)])) rfl rfl (hb hby d12_54)
  refine own_st st24 ?_
  have N24 := Fr.snoc X24 N16 g_a1
  have K25 : Keep h0 h24 [a1, enc] := K17.wr W24 (Or.inl (List.mem_of_getElem? (i := 0) rfl))
  have F26 : Exa Z h24 a1 "com/example/partwise/partwise/CompactThrift" := (F18.wr W24)
  have F27 : Fld Z h24 a1 "com/example/partwise/partwise/CompactThrift" "bytes" "Lcom/example/partwise/partwise/ByteBuilder;" (.ref bb) := (F19.other W24 (Or.inr (slot_ne (Or.inr (hw _ (List.mem_of_getElem? (i := 20) rfl))) (Or.inl (hw _ (List.mem_of_getElem? (i := 35) rfl))) (by decide) (t := (.object "com/example/partwise/partwise/ByteBuilder")) (t' := .int) (by decide) (by decide))))
  have F28 : Fld Z h24 a1 "com/example/partwise/partwise/CompactThrift" "enclosing" "[I" (.ref enc) := (F20.other W24 (Or.inr (slot_ne (Or.inl (hw _ (List.mem_of_getElem? (i := 23) rfl))) (Or.inl (hw _ (List.mem_of_getElem? (i := 35) rfl))) (by decide) (t := (.array .int)) (t' := .int) (by decide) (by decide))))
  have F29 : Fld Z h24 a1 "com/example/partwise/partwise/CompactThrift" "lastField" "I" (.int (0 : Int32)) := (F21.same W24)
  have F30 : Fld Z h24 a1 "com/example/partwise/partwise/CompactThrift" "depth" "I" (.int (1 : Int32)) := (F22.other W24 (Or.inr (slot_ne (Or.inl (hw _ (List.mem_of_getElem? (i := 74) rfl))) (Or.inl (hw _ (List.mem_of_getElem? (i := 35) rfl))) (by decide) (t := .int) (t' := .int) (by decide) (by decide))))
  have F31 : OA Z h24 enc .int [(.int last), (.int (0 : Int32)), (.int (0 : Int32)), (.int (0 : Int32)), (.int (0 : Int32)), (.int (0 : Int32)), (.int (0 : Int32)), (.int (0 : Int32))] := (F23.other W24 ne_enc_a1)
  show OG p e _ s below _ T24 (mkF m 57 #[.val (.ref a1)] [])
  refine own_ret0 X24 hx hret hlk (hb hby d12_57) (by decide) (by decide) ?_
  rw [e24]
  exact ⟨rfl, N24, K25, F26, F27, F28, F29, F30, F31⟩
theorem d11_0 : decode prog_27_method_7_code 0 = .ok (.aload_n 0, 1) := by decide +kernel
theorem d11_1 : decode prog_27_method_7_code 1 = .ok (.iload_n 1, 1) := by decide +kernel
theorem d11_2 : decode prog_27_method_7_code 2 = .ok (.bipush 12, 2) := by decide +kernel
theorem d11_4 : decode prog_27_method_7_code 4 = .ok (.invokevirtual 32, 3) := by decide +kernel
theorem d11_7 : decode prog_27_method_7_code 7 = .ok (.aload_n 0, 1) := by decide +kernel
theorem d11_8 : decode prog_27_method_7_code 8 = .ok (.invokevirtual 63, 3) := by decide +kernel
theorem d11_11 : decode prog_27_method_7_code 11 = .ok (.return_, 1) := by decide +kernel
theorem pd___V : parseMethodDescriptor "()V" = some ⟨[], none⟩ := by decide +kernel
theorem pn_11 : plainFor (⟨"com/example/partwise/partwise/CompactThrift", "struct", "(I)V"⟩ : MethodName) = true := by first | exact plainFor_of_name (by first | (simp [plainName, overriddenIn]; done) | decide +kernel) | decide +kernel
theorem ef_11 (m : MethodId) (a1 : Addr) (p2 : Int32) : entryFrame m #[(.ref a1), (.int p2)] 2 = (mkF m 0 #[.val (.ref a1), .val (.int p2)] []) := by first | (simp [entryFrame, mkF, argsToLocals, Value.category]; done) | rfl
abbrev Q11 (Z : State) (a1 : Addr) (p2 : Int32) (bb : Addr) (buf : Addr) (n : Int32) (enc : Addr) (last : Int32) (h0 : Heap) (n0 : Nat) : Option Value → Heap → List Loc → Prop := (fun v h L => v = none ∧ Fr n0 L ∧ Keep h0 h [a1, bb, buf, enc] ∧ Exa Z h a1 "com/example/partwise/partwise/CompactThrift" ∧ Fld Z h a1 "com/example/partwise/partwise/CompactThrift" "bytes" "Lcom/example/partwise/partwise/ByteBuilder;" (.ref bb) ∧ Fld Z h a1 "com/example/partwise/partwise/CompactThrift" "enclosing" "[I" (.ref enc) ∧ Fld Z h a1 "com/example/partwise/partwise/CompactThrift" "lastField" "I" (.int (0 : Int32)) ∧ Fld Z h a1 "com/example/partwise/partwise/CompactThrift" "depth" "I" (.int (1 : Int32)) ∧ OA Z h enc .int [(.int p2), (.int (0 : Int32)), (.int (0 : Int32)), (.int (0 : Int32)), (.int (0 : Int32)), (.int (0 : Int32)), (.int (0 : Int32)), (.int (0 : Int32))] ∧ Exa Z h bb "com/example/partwise/partwise/ByteBuilder" ∧ Fld Z h bb "com/example/partwise/partwise/ByteBuilder" "bytes" "[B" (.ref buf) ∧ Fld Z h bb "com/example/partwise/partwise/ByteBuilder" "length" "I" (.int (n + (1 : Int32))) ∧ OL Z h buf .byte 256)
set_option maxRecDepth 65536 in
set_option maxHeartbeats 40000000 in
theorem rm11 (l : Launch) (Z : State) (a0 : Array Value) (hw : ∀ d ∈ tables_1, d.before a0 Z = true) (ws : List Jvm.Cond) (a1 : Addr) (p2 : Int32) (bb : Addr) (buf : Addr) (n : Int32) (enc : Addr) (last : Int32) (h0 : Heap) (n0 : Nat) (R0 : Exa Z h0 a1 "com/example/partwise/partwise/CompactThrift") (R1 : Fld Z h0 a1 "com/example/partwise/partwise/CompactThrift" "bytes" "Lcom/example/partwise/partwise/ByteBuilder;" (.ref bb)) (R2 : Fld Z h0 a1 "com/example/partwise/partwise/CompactThrift" "enclosing" "[I" (.ref enc)) (R3 : Fld Z h0 a1 "com/example/partwise/partwise/CompactThrift" "lastField" "I" (.int last)) (R4 : Fld Z h0 a1 "com/example/partwise/partwise/CompactThrift" "depth" "I" (.int (0 : Int32))) (R5 : OA Z h0 enc .int [(.int (0 : Int32)), (.int (0 : Int32)), (.int (0 : Int32)), (.int (0 : Int32)), (.int (0 : Int32)), (.int (0 : Int32)), (.int (0 : Int32)), (.int (0 : Int32))]) (R6 : Exa Z h0 bb "com/example/partwise/partwise/ByteBuilder") (R7 : Fld Z h0 bb "com/example/partwise/partwise/ByteBuilder" "bytes" "[B" (.ref buf)) (R8 : Fld Z h0 bb "com/example/partwise/partwise/ByteBuilder" "length" "I" (.int n)) (R9 : OL Z h0 buf .byte 256) (g_a1 : n0 ≤ a1) (g_bb : n0 ≤ bb) (g_buf : n0 ≤ buf) (g_enc : n0 ≤ enc) (ne_a1_bb : a1 ≠ bb) (ne_a1_buf : a1 ≠ buf) (ne_buf_bb : buf ≠ bb) (ne_enc_a1 : enc ≠ a1) (ne_enc_bb : enc ≠ bb) (ne_enc_buf : enc ≠ buf) (hn : OB n 1) (hd1 : ¬ (p2 - last) < (1 : Int32)) (hd2 : ¬ (15 : Int32) < (p2 - last)) :
    OMet l Z (⟨"com/example/partwise/partwise/CompactThrift", "struct", "(I)V"⟩ : MethodName) prog_27_method_7_code 2 none ws ({ frames := 3, cells := 0, slots := 0, locals := 41 } : Room) #[(.ref a1), (.int p2)] h0 (Q11 Z a1 p2 bb buf n enc last h0 n0) := by
  refine own_enter pn_11 ?_
  intro p e s m below meth c s₁ hx hby hml0 hown hret hlk hnm hZ X0 e0
  have hml : c.maxLocals = 2 := hml0
  have N0 := Fr.nil n0
  refine own_cast (ef_11 m a1 p2) ?_
  show OG p e ({ frames := 3, cells := 0, slots := 0, locals := 41 } : Room) s below (fun v h L => v = none ∧ Fr n0 L ∧ Keep h0 h [a1, bb, buf, enc] ∧ Exa Z h a1 "com/example/partwise/partwise/CompactThrift" ∧ Fld Z h a1 "com/example/partwise/partwise/CompactThrift" "bytes" "Lcom/example/partwise/partwise/ByteBuilder;" (.ref bb) ∧ Fld Z h a1 "com/example/partwise/partwise/CompactThrift" "enclosing" "[I" (.ref enc) ∧ Fld Z h a1 "com/example/partwise/partwise/CompactThrift" "lastField" "I" (.int (0 : Int32)) ∧ Fld Z h a1 "com/example/partwise/partwise/CompactThrift" "depth" "I" (.int (1 : Int32)) ∧ OA Z h enc .int [(.int p2), (.int (0 : Int32)), (.int (0 : Int32)), (.int (0 : Int32)), (.int (0 : Int32)), (.int (0 : Int32)), (.int (0 : Int32)), (.int (0 : Int32))] ∧ Exa Z h bb "com/example/partwise/partwise/ByteBuilder" ∧ Fld Z h bb "com/example/partwise/partwise/ByteBuilder" "bytes" "[B" (.ref buf) ∧ Fld Z h bb "com/example/partwise/partwise/ByteBuilder" "length" "I" (.int (n + (1 : Int32))) ∧ OL Z h buf .byte 256) s₁ (mkF m 0 #[.val (.ref a1), .val (.int p2)] [])
  refine own_st (fun t k => XS.aloadN X0.here hx rfl (hb hby d11_0) rfl rfl k) ?_
  show OG p e _ s below _ s₁ (mkF m 1 #[.val (.ref a1), .val (.int p2)] [(.ref a1)])
  refine own_st (fun t k => XS.iloadN X0.here hx rfl (hb hby d11_1) rfl k) ?_
  show OG p e _ s below _ s₁ (mkF m 2 #[.val (.ref a1), .val (.int p2)] [(.int p2), (.ref a1)])
  refine own_st (fun t k => XS.bipush X0.here hx rfl (hb hby d11_2) k) ?_
  show OG p e _ s below _ s₁ (mkF m 4 #[.val (.ref a1), .val (.int p2)] [(.int (12 : Int32)), (.int p2), (.ref a1)])
  obtain ⟨cq1, q1, q1'⟩ := R0.cell
  obtain ⟨_, _, ⟨T1, L1, k1, n1⟩, -, X1, ⟨Lc1, hQ1, l1, y1, z1⟩, st1⟩ := X0.privateBack hx (y := (⟨"com/example/partwise/partwise/CompactThrift", "fieldHeader", "(II)V"⟩ : MethodName)) hown (mvT hZ (hw _ (List.mem_of_getElem? (i := 30) rfl))) (mvT hZ (hw _ (List.mem_of_getElem? (i := 31) rfl))) (own_selp hZ (hw _ (List.mem_of_getElem? (i := 1) rfl)) (hw _ (List.mem_of_getElem? (i := 32) rfl)) (hw _ (List.mem_of_getElem? (i := 31) rfl)) (by decide)) (Cond.privateMethod_at (mvP hZ (hw _ (List.mem_of_getElem? (i := 32) rfl)) (args := #[]))) (mvT hZ (hw _ (List.mem_of_getElem? (i := 33) rfl))) (by decide) (backOf (W := 0) (rm := ({ frames := 2, cells := 0, slots := 0, locals := 26 } : Room)) (rm5 l Z a0 hw [] a1 p2 (12 : Int32) bb buf n enc last (0 : Int32) h0 n0 R0 R1 R2 R3 R4 R6 R7 R8 R9 g_a1 g_bb g_buf ne_a1_bb ne_a1_buf ne_buf_bb (OB.weak hn (by decide)) hd1 hd2) hZ (hw _ (List.mem_of_getElem? (i := 33) rfl)) (hw _ (List.mem_of_getElem? (i := 2) rfl)) (by decide) (by decide)) (g := (mkF m 4 #[.val (.ref a1), .val (.int p2)] [(.int (12 : Int32)), (.int p2), (.ref a1)])) rfl (by rw [hml]; rfl) (Steps.refl _) (a := a1) (by rw [e0]; exact q1) q1' (argsL := [(.int p2), (.int (12 : Int32))]) (rest := []) (lenOf pd__II_V rfl) rfl (by show 2 * 0 + _ ≤ _; exact Nat.le_of_eq rfl) (hb hby d11_4) (fun _ _ => ⟨rfl, e0, (by decide : 0 + 0 ≤ _), (by decide : 0 + 0 ≤ _)⟩)
  dsimp only [Pt.U, Pt.locs, Pt.cells, Pt.slots] at X1 l1 y1 z1 st1 hQ1
  subst l1 y1 z1
  obtain ⟨rfl, N1q, K1q, P1_0, P1_1, P1_2, P1_3, P1_4, P1_5, P1_6, P1_7, P1_8⟩ := hQ1
  refine own_st (fun t k => st1.trans k) ?_
  have N1 := Fr.app N0 N1q
  have K1 : Keep h0 T1.heap [a1, bb, buf, enc] := (Keep.refl h0 [a1, bb, buf, enc]).trans K1q (own_all3 (Or.inl (List.mem_of_getElem? (i := 0) rfl)) (Or.inl (List.mem_of_getElem? (i := 1) rfl)) (Or.inl (List.mem_of_getElem? (i := 2) rfl)))
  have F2 : OA Z T1.heap enc .int [(.int (0 : Int32)), (.int (0 : Int32)), (.int (0 : Int32)), (.int (0 : Int32)), (.int (0 : Int32)), (.int (0 : Int32)), (.int (0 : Int32)), (.int (0 : Int32))] := (R5.keep K1q (own_nin3 ne_enc_a1 ne_enc_bb ne_enc_buf))
  show OG p e _ s below _ T1 (mkF m 7 #[.val (.ref a1), .val (.int p2)] [])
  refine own_st (fun t k => XS.aloadN X1.here hx rfl (hb hby d11_7) rfl rfl k) ?_
  show OG p e _ s below _ T1 (mkF m 8 #[.val (.ref a1), .val (.int p2)] [(.ref a1)])
  obtain ⟨cq3, q3, q3'⟩ := P1_0.cell
  obtain ⟨_, _, ⟨T3, L3, k3, n3⟩, -, X3, ⟨Lc3, hQ3, l3, y3, z3⟩, st3⟩ := X1.privateBack hx (y := (⟨"com/example/partwise/partwise/CompactThrift", "enter", "()V"⟩ : MethodName)) hown (mvT hZ (hw _ (List.mem_of_getElem? (i := 69) rfl))) (mvT hZ (hw _ (List.mem_of_getElem? (i := 70) rfl))) (own_selp hZ (hw _ (List.mem_of_getElem? (i := 1) rfl)) (hw _ (List.mem_of_getElem? (i := 71) rfl)) (hw _ (List.mem_of_getElem? (i := 70) rfl)) (by decide)) (Cond.privateMethod_at (mvP hZ (hw _ (List.mem_of_getElem? (i := 71) rfl)) (args := #[]))) (mvT hZ (hw _ (List.mem_of_getElem? (i := 72) rfl))) (by decide) (backOf (W := 0) (rm := ({ frames := 0, cells := 0, slots := 0, locals := 0 } : Room)) (rm12 l Z a0 hw [] a1 bb enc p2 T1.heap n0 P1_0 P1_1 P1_2 P1_3 P1_4 F2 g_a1 g_enc ne_enc_a1) hZ (hw _ (List.mem_of_getElem? (i := 72) rfl)) (hw _ (List.mem_of_getElem? (i := 2) rfl)) (by decide) (by decide)) (g := (mkF m 8 #[.val (.ref a1), .val (.int p2)] [(.ref a1)])) rfl (by rw [hml]; rfl) (Steps.refl _) (a := a1) q3 q3' (argsL := []) (rest := []) (lenOf pd___V rfl) rfl (by show 2 * 0 + _ ≤ _; exact Nat.le_of_eq rfl) (hb hby d11_8) (fun _ _ => ⟨rfl, rfl, (by decide : 0 + 0 ≤ _), (by decide : 0 + 0 ≤ _)⟩)
  dsimp only [Pt.U, Pt.locs, Pt.cells, Pt.slots] at X3 l3 y3 z3 st3 hQ3
  subst l3 y3 z3
  obtain ⟨rfl, N3q, K3q, P3_0, P3_1, P3_2, P3_3, P3_4, P3_5⟩ := hQ3
  refine own_st (fun t k => st3.trans k) ?_
  have N3 := Fr.app N1 N3q
  have K3 : Keep h0 T3.heap [a1, bb, buf, enc] := K1.trans K3q (own_all2 (Or.inl (List.mem_of_getElem? (i := 0) rfl)) (Or.inl (List.mem_of_getElem? (i := 3) rfl)))
  have F4 : Exa Z T3.heap bb "com/example/partwise/partwise/ByteBuilder" := (P1_5.keep K3q)
  have F5 : Fld Z T3.heap bb "com/example/partwise/partwise/ByteBuilder" "bytes" "[B" (.ref buf) := (P1_6.keep K3q (own_nin2 (Ne.symm ne_a1_bb) (Ne.symm ne_enc_bb)))
  have F6 : Fld Z T3.heap bb "com/example/partwise/partwise/ByteBuilder" "length" "I" (.int (n + (1 : Int32))) := (P1_7.keep K3q (own_nin2 (Ne.symm ne_a1_bb) (Ne.symm ne_enc_bb)))
  have F7 : OL Z T3.heap buf .byte 256 := (P1_8.keep K3q (own_nin2 (Ne.symm ne_a1_buf) (Ne.symm ne_enc_buf)))
  show OG p e _ s below _ T3 (mkF m 11 #[.val (.ref a1), .val (.int p2)] [])
  refine own_ret0 X3 hx hret hlk (hb hby d11_11) (by decide) (by decide) ?_
  exact ⟨rfl, N3, K3, P3_0, P3_1, P3_2, P3_3, P3_4, P3_5, F4, F5, F6, F7⟩
theorem d13_0 : decode prog_27_method_12_code 0 = .ok (.aload_n 0, 1) := by decide +kernel
theorem d13_1 : decode prog_27_method_12_code 1 = .ok (.getfield 12, 3) := by decide +kernel
theorem d13_4 : decode prog_27_method_12_code 4 = .ok (.iconst 0, 1) := by decide +kernel
theorem d13_5 : decode prog_27_method_12_code 5 = .ok (.invokevirtual 66, 3) := by decide +kernel
theorem d13_8 : decode prog_27_method_12_code 8 = .ok (.aload_n 0, 1) := by decide +kernel
theorem d13_9 : decode prog_27_method_12_code 9 = .ok (.getfield 29, 3) := by decide +kernel
theorem d13_12 : decode prog_27_method_12_code 12 = .ok (.ifCond .le 26, 3) := by decide +kernel
theorem d13_38 : decode prog_27_method_12_code 38 = .ok (.return_, 1) := by decide +kernel
theorem pn_13 : plainFor (⟨"com/example/partwise/partwise/CompactThrift", "end", "()V"⟩ : MethodName) = true := by first | exact plainFor_of_name (by first | (simp [plainName, overriddenIn]; done) | decide +kernel) | decide +kernel
theorem ef_13 (m : MethodId) (a1 : Addr) : entryFrame m #[(.ref a1)] 1 = (mkF m 0 #[.val (.ref a1)] []) := by first | (simp [entryFrame, mkF, argsToLocals, Value.category]; done) | rfl
abbrev Q13_0 (Z : State) (a1 : Addr) (bb : Addr) (buf : Addr) (n : Int32) (enc : Addr) (last : Int32) (h0 : Heap) (n0 : Nat) : Option Value → Heap → List Loc → Prop := (fun v h L => v = none ∧ Fr n0 L ∧ Keep h0 h [bb, buf] ∧ Exa Z h a1 "com/example/partwise/partwise/CompactThrift" ∧ Fld Z h a1 "com/example/partwise/partwise/CompactThrift" "bytes" "Lcom/example/partwise/partwise/ByteBuilder;" (.ref bb) ∧ Fld Z h a1 "com/example/partwise/partwise/CompactThrift" "enclosing" "[I" (.ref enc) ∧ Fld Z h a1 "com/example/partwise/partwise/CompactThrift" "lastField" "I" (.int last) ∧ Fld Z h a1 "com/example/partwise/partwise/CompactThrift" "depth" "I" (.int (0 : Int32)) ∧ Exa Z h bb "com/example/partwise/partwise/ByteBuilder" ∧ Fld Z h bb "com/example/partwise/partwise/ByteBuilder" "bytes" "[B" (.ref buf) ∧ Fld Z h bb "com/example/partwise/partwise/ByteBuilder" "length" "I" (.int (n + (1 : Int32))) ∧ OL Z h buf .byte 256)
set_option maxRecDepth 65536 in
set_option maxHeartbeats 40000000 in
theorem rm13_0 (l : Launch) (Z : State) (a0 : Array Value) (hw : ∀ d ∈ tables_1, d.before a0 Z = true) (ws : List Jvm.Cond) (a1 : Addr) (bb : Addr) (buf : Addr) (n : Int32) (enc : Addr) (last : Int32) (h0 : Heap) (n0 : Nat) (R0 : Exa Z h0 a1 "com/example/partwise/partwise/CompactThrift") (R1 : Fld Z h0 a1 "com/example/partwise/partwise/CompactThrift" "bytes" "Lcom/example/partwise/partwise/ByteBuilder;" (.ref bb)) (R2 : Fld Z h0 a1 "com/example/partwise/partwise/CompactThrift" "enclosing" "[I" (.ref enc)) (R3 : Fld Z h0 a1 "com/example/partwise/partwise/CompactThrift" "lastField" "I" (.int last)) (R4 : Fld Z h0 a1 "com/example/partwise/partwise/CompactThrift" "depth" "I" (.int (0 : Int32))) (R5 : Exa Z h0 bb "com/example/partwise/partwise/ByteBuilder") (R6 : Fld Z h0 bb "com/example/partwise/partwise/ByteBuilder" "bytes" "[B" (.ref buf)) (R7 : Fld Z h0 bb "com/example/partwise/partwise/ByteBuilder" "length" "I" (.int n)) (R8 : OL Z h0 buf .byte 256) (g_bb : n0 ≤ bb) (g_buf : n0 ≤ buf) (ne_a1_bb : a1 ≠ bb) (ne_a1_buf : a1 ≠ buf) (ne_buf_bb : buf ≠ bb) (hn : OB n 1) :
    OMet l Z (⟨"com/example/partwise/partwise/CompactThrift", "end", "()V"⟩ : MethodName) prog_27_method_12_code 1 none ws ({ frames := 2, cells := 0, slots := 0, locals := 26 } : Room) #[(.ref a1)] h0 (Q13_0 Z a1 bb buf n enc last h0 n0) := by
  refine own_enter pn_13 ?_
  intro p e s m below meth c s₁ hx hby hml0 hown hret hlk hnm hZ X0 e0
  have hml : c.maxLocals = 1 := hml0
  have N0 := Fr.nil n0
  refine own_cast (ef_13 m a1) ?_
  show OG p e ({ frames := 2, cells := 0, slots := 0, locals := 26 } : Room) s below (fun v h L => v = none ∧ Fr n0 L ∧ Keep h0 h [bb, buf] ∧ Exa Z h a1 "com/example/partwise/partwise/CompactThrift" ∧ Fld Z h a1 "com/example/partwise/partwise/CompactThrift" "bytes" "Lcom/example/partwise/partwise/ByteBuilder;" (.ref bb) ∧ Fld Z h a1 "com/example/partwise/partwise/CompactThrift" "enclosing" "[I" (.ref enc) ∧ Fld Z h a1 "com/example/partwise/partwise/CompactThrift" "lastField" "I" (.int last) ∧ Fld Z h a1 "com/example/partwise/partwise/CompactThrift" "depth" "I" (.int (0 : Int32)) ∧ Exa Z h bb "com/example/partwise/partwise/ByteBuilder" ∧ Fld Z h bb "com/example/partwise/partwise/ByteBuilder" "bytes" "[B" (.ref buf) ∧ Fld Z h bb "com/example/partwise/partwise/ByteBuilder" "length" "I" (.int (n + (1 : Int32))) ∧ OL Z h buf .byte 256) s₁ (mkF m 0 #[.val (.ref a1)] [])
  refine own_st (fun t k => XS.aloadN X0.here hx rfl (hb hby d13_0) rfl rfl k) ?_
  show OG p e _ s below _ s₁ (mkF m 1 #[.val (.ref a1)] [(.ref a1)])
  obtain ⟨T1, X1, e1, st1⟩ := getF X0 hx hZ hown (host := "") (Or.inl (hw _ (List.mem_of_getElem? (i := 19) rfl))) Via.refl e0 R1 (g := (mkF m 1 #[.val (.ref a1)] [(.ref a1)])) rfl rfl (hb hby d13_1)
  refine own_st st1 ?_
  show OG p e _ s below _ T1 (mkF m 4 #[.val (.ref a1)] [(.ref bb)])
  refine own_st (fun t k => XS.iconst X1.here hx rfl (hb hby d13_4) k) ?_
  show OG p e _ s below _ T1 (mkF m 5 #[.val (.ref a1)] [(.int (0 : Int32)), (.ref bb)])
  obtain ⟨cq2, kq2, q2a, q2b, q2c⟩ := isOf hZ e1 R5
  obtain ⟨_, _, ⟨T2, L2, k2, n2⟩, -, X2, ⟨Lc2, hQ2, l2, y2, z2⟩, st2⟩ := X1.virtualBack hx (y := (⟨"com/example/partwise/partwise/ByteBuilder", "append", "(I)V"⟩ : MethodName)) (z := (⟨"com/example/partwise/partwise/ByteBuilder", "append", "(I)V"⟩ : MethodName)) hown (mvT hZ (hw _ (List.mem_of_getElem? (i := 36) rfl))) (mvT hZ (hw _ (List.mem_of_getElem? (i := 37) rfl))) (notFace_of_selects (args := #[]) (mvT hZ (hw _ (List.mem_of_getElem? (i := 39) rfl)))) (mvT hZ (hw _ (List.mem_of_getElem? (i := 39) rfl))) (mvT hZ (hw _ (List.mem_of_getElem? (i := 38) rfl))) (by decide) (backOf (W := 0) (rm := ({ frames := 1, cells := 0, slots := 0, locals := 13 } : Room)) (rm6 l Z a0 hw [] bb (0 : Int32) buf n h0 n0 R5 R6 R7 R8 g_bb g_buf ne_buf_bb (OB.weak hn (by decide))) hZ (hw _ (List.mem_of_getElem? (i := 40) rfl)) (hw _ (List.mem_of_getElem? (i := 11) rfl)) (by decide) (by decide)) q2a q2c (g := (mkF m 5 #[.val (.ref a1)] [(.int (0 : Int32)), (.ref bb)])) rfl (by rw [hml]; rfl) (Steps.refl _) (argsL := [(.int (0 : Int32))]) (rest := []) (lenOf pd__I_V rfl) rfl (by show 2 * 0 + _ ≤ _; exact Nat.le_of_eq rfl) (hb hby d13_5) (fun _ _ => ⟨rfl, e1, (by decide : 0 + 0 ≤ _), (by decide : 0 + 0 ≤ _)⟩)
  dsimp only [Pt.U, Pt.locs, Pt.cells, Pt.slots] at X2 l2 y2 z2 st2 hQ2
  subst l2 y2 z2
  obtain ⟨rfl, N2q, K2q, P2_0, P2_1, P2_2, P2_3⟩ := hQ2
  refine own_st (fun t k => st2.trans k) ?_
  have N2 := Fr.app N0 N2q
  have K2 : Keep h0 T2.heap [bb, buf] := (Keep.refl h0 [bb, buf]).trans K2q (own_all2 (Or.inl (List.mem_of_getElem? (i := 0) rfl)) (Or.inl (List.mem_of_getElem? (i := 1) rfl)))
  have F3 : Exa Z T2.heap a1 "com/example/partwise/partwise/CompactThrift" := (R0.keep K2q)
  have F4 : Fld Z T2.heap a1 "com/example/partwise/partwise/CompactThrift" "bytes" "Lcom/example/partwise/partwise/ByteBuilder;" (.ref bb) := (R1.keep K2q (own_nin2 ne_a1_bb ne_a1_buf))
  have F5 : Fld Z T2.heap a1 "com/example/partwise/partwise/CompactThrift" "enclosing" "[I" (.ref enc) := (R2.keep K2q (own_nin2 ne_a1_bb ne_a1_buf))
  have F6 : Fld Z T2.heap a1 "com/example/partwise/partwise/CompactThrift" "lastField" "I" (.int last) := (R3.keep K2q (own_nin2 ne_a1_bb ne_a1_buf))
  have F7 : Fld Z T2.heap a1 "com/example/partwise/partwise/CompactThrift" "depth" "I" (.int (0 : Int32)) := (R4.keep K2q (own_nin2 ne_a1_bb ne_a1_buf))
  show OG p e _ s below _ T2 (mkF m 8 #[.val (.ref a1)] [])
  refine own_st (fun t k => XS.aloadN X2.here hx rfl (hb hby d13_8) rfl rfl k) ?_
  show OG p e _ s below _ T2 (mkF m 9 #[.val (.ref a1)] [(.ref a1)])
  obtain ⟨T8, X8, e8, st8⟩ := getF X2 hx hZ hown (host := "") (Or.inl (hw _ (List.mem_of_getElem? (i := 73) rfl))) Via.refl rfl F7 (g := (mkF m 9 #[.val (.ref a1)] [(.ref a1)])) rfl rfl (hb hby d13_9)
  refine own_st st8 ?_
  show OG p e _ s below _ T8 (mkF m 12 #[.val (.ref a1)] [(.int (0 : Int32))])
  refine own_st (fun t k => XS.ifYes X8.here hx rfl (pc0 := 12) (pc' := 38) rfl (hb hby d13_12) rfl (by decide) (by decide) (by decide) k) ?_
  show OG p e _ s below _ T8 (mkF m 38 #[.val (.ref a1)] [])
  refine own_ret0 X8 hx hret hlk (hb hby d13_38) (by decide) (by decide) ?_
  rw [e8]
  exact ⟨rfl, N2, K2, F3, F4, F5, F6, F7, P2_0, P2_1, P2_2, P2_3⟩
theorem d13_15 : decode prog_27_method_12_code 15 = .ok (.aload_n 0, 1) := by decide +kernel
theorem d13_16 : decode prog_27_method_12_code 16 = .ok (.dup, 1) := by decide +kernel
theorem d13_17 : decode prog_27_method_12_code 17 = .ok (.getfield 29, 3) := by decide +kernel
theorem d13_20 : decode prog_27_method_12_code 20 = .ok (.iconst 1, 1) := by decide +kernel
theorem d13_21 : decode prog_27_method_12_code 21 = .ok (.isub, 1) := by decide +kernel
theorem d13_22 : decode prog_27_method_12_code 22 = .ok (.putfield 29, 3) := by decide +kernel
theorem d13_25 : decode prog_27_method_12_code 25 = .ok (.aload_n 0, 1) := by decide +kernel
theorem d13_26 : decode prog_27_method_12_code 26 = .ok (.aload_n 0, 1) := by decide +kernel
theorem d13_27 : decode prog_27_method_12_code 27 = .ok (.getfield 18, 3) := by decide +kernel
theorem d13_30 : decode prog_27_method_12_code 30 = .ok (.aload_n 0, 1) := by decide +kernel
theorem d13_31 : decode prog_27_method_12_code 31 = .ok (.getfield 29, 3) := by decide +kernel
theorem d13_34 : decode prog_27_method_12_code 34 = .ok (.iaload, 1) := by decide +kernel
theorem d13_35 : decode prog_27_method_12_code 35 = .ok (.putfield 25, 3) := by decide +kernel
abbrev Q13_1 (Z : State) (a1 : Addr) (bb : Addr) (buf : Addr) (n : Int32) (enc : Addr) (last : Int32) (z : Int32) (h0 : Heap) (n0 : Nat) : Option Value → Heap → List Loc → Prop := (fun v h L => v = none ∧ Fr n0 L ∧ Keep h0 h [a1, bb, buf] ∧ Exa Z h a1 "com/example/partwise/partwise/CompactThrift" ∧ Fld Z h a1 "com/example/partwise/partwise/CompactThrift" "bytes" "Lcom/example/partwise/partwise/ByteBuilder;" (.ref bb) ∧ Fld Z h a1 "com/example/partwise/partwise/CompactThrift" "enclosing" "[I" (.ref enc) ∧ Fld Z h a1 "com/example/partwise/partwise/CompactThrift" "lastField" "I" (.int z) ∧ Fld Z h a1 "com/example/partwise/partwise/CompactThrift" "depth" "I" (.int (0 : Int32)) ∧ Exa Z h bb "com/example/partwise/partwise/ByteBuilder" ∧ Fld Z h bb "com/example/partwise/partwise/ByteBuilder" "bytes" "[B" (.ref buf) ∧ Fld Z h bb "com/example/partwise/partwise/ByteBuilder" "length" "I" (.int (n + (1 : Int32))) ∧ OL Z h buf .byte 256)
set_option maxRecDepth 65536 in
set_option maxHeartbeats 40000000 in
theorem rm13_1 (l : Launch) (Z : State) (a0 : Array Value) (hw : ∀ d ∈ tables_1, d.before a0 Z = true) (ws : List Jvm.Cond) (a1 : Addr) (bb : Addr) (buf : Addr) (n : Int32) (enc : Addr) (last : Int32) (z : Int32) (h0 : Heap) (n0 : Nat) (R0 : Exa Z h0 a1 "com/example/partwise/partwise/CompactThrift") (R1 : Fld Z h0 a1 "com/example/partwise/partwise/CompactThrift" "bytes" "Lcom/example/partwise/partwise/ByteBuilder;" (.ref bb)) (R2 : Fld Z h0 a1 "com/example/partwise/partwise/CompactThrift" "enclosing" "[I" (.ref enc)) (R3 : Fld Z h0 a1 "com/example/partwise/partwise/CompactThrift" "lastField" "I" (.int last)) (R4 : Fld Z h0 a1 "com/example/partwise/partwise/CompactThrift" "depth" "I" (.int (1 : Int32))) (R5 : OA Z h0 enc .int [(.int z), (.int (0 : Int32)), (.int (0 : Int32)), (.int (0 : Int32)), (.int (0 : Int32)), (.int (0 : Int32)), (.int (0 : Int32)), (.int (0 : Int32))]) (R6 : Exa Z h0 bb "com/example/partwise/partwise/ByteBuilder") (R7 : Fld Z h0 bb "com/example/partwise/partwise/ByteBuilder" "bytes" "[B" (.ref buf)) (R8 : Fld Z h0 bb "com/example/partwise/partwise/ByteBuilder" "length" "I" (.int n)) (R9 : OL Z h0 buf .byte 256) (g_a1 : n0 ≤ a1) (g_bb : n0 ≤ bb) (g_buf : n0 ≤ buf) (ne_a1_bb : a1 ≠ bb) (ne_a1_buf : a1 ≠ buf) (ne_buf_bb : buf ≠ bb) (ne_enc_a1 : enc ≠ a1) (ne_enc_bb : enc ≠ bb) (ne_enc_buf : enc ≠ buf) (hn : OB n 1) :
    OMet l Z (⟨"com/example/partwise/partwise/CompactThrift", "end", "()V"⟩ : MethodName) prog_27_method_12_code 1 none ws ({ frames := 2, cells := 0, slots := 0, locals := 26 } : Room) #[(.ref a1)] h0 (Q13_1 Z a1 bb buf n enc last z h0 n0) := by
  refine own_enter pn_13 ?_
  intro p e s m below meth c s₁ hx hby hml0 hown hret hlk hnm hZ X0 e0
  have hml : c.maxLocals = 1 := hml0
  have N0 := Fr.nil n0
  refine own_cast (ef_13 m a1) ?_
  show OG p e ({ frames := 2, cells := 0, slots := 0, locals := 26 } : Room) s below (fun v h L => v = none ∧ Fr n0 L ∧ Keep h0 h [a1, bb, buf] ∧ Exa Z h a1 "com/example/partwise/partwise/CompactThrift" ∧ Fld Z h a1 "com/example/partwise/partwise/CompactThrift" "bytes" "Lcom/example/partwise/partwise/ByteBuilder;" (.ref bb) ∧ Fld Z h a1 "com/example/partwise/partwise/CompactThrift" "enclosing" "[I" (.ref enc) ∧ Fld Z h a1 "com/example/partwise/partwise/CompactThrift" "lastField" "I" (.int z) ∧ Fld Z h a1 "com/example/partwise/partwise/CompactThrift" "depth" "I" (.int (0 : Int32)) ∧ Exa Z h bb "com/example/partwise/partwise/ByteBuilder" ∧ Fld Z h bb "com/example/partwise/partwise/ByteBuilder" "bytes" "[B" (.ref buf) ∧ Fld Z h bb "com/example/partwise/partwise/ByteBuilder" "length" "I" (.int (n + (1 : Int32))) ∧ OL Z h buf .byte 256) s₁ (mkF m 0 #[.val (.ref a1)] [])
  refine own_st (fun t k => XS.aloadN X0.here hx rfl (hb hby d13_0) rfl rfl k) ?_
  show OG p e _ s below _ s₁ (mkF m 1 #[.val (.ref a1)] [(.ref a1)])
  obtain ⟨T1, X1, e1, st1⟩ := getF X0 hx hZ hown (host := "") (Or.inl (hw _ (List.mem_of_getElem? (i := 19) rfl))) Via.refl e0 R1 (g := (mkF m 1 #[.val (.ref a1)] [(.ref a1)])) rfl rfl (hb hby d13_1)
  refine own_st st1 ?_
  show OG p e _ s below _ T1 (mkF m 4 #[.val (.ref a1)] [(.ref bb)])
  refine own_st (fun t k => XS.iconst X1.here hx rfl (hb hby d13_4) k) ?_
  show OG p e _ s below _ T1 (mkF m 5 #[.val (.ref a1)] [(.int (0 : Int32)), (.ref bb)])
  obtain ⟨cq2, kq2, q2a, q2b, q2c⟩ := isOf hZ e1 R6
  obtain ⟨_, _, ⟨T2, L2, k2, n2⟩, -, X2, ⟨Lc2, hQ2, l2, y2, z2⟩, st2⟩ := X1.virtualBack hx (y := (⟨"com/example/partwise/partwise/ByteBuilder", "append", "(I)V"⟩ : MethodName)) (z := (⟨"com/example/partwise/partwise/ByteBuilder", "append", "(I)V"⟩ : MethodName)) hown (mvT hZ (hw _ (List.mem_of_getElem? (i := 36) rfl))) (mvT hZ (hw _ (List.mem_of_getElem? (i := 37) rfl))) (notFace_of_selects (args := #[]) (mvT hZ (hw _ (List.mem_of_getElem? (i := 39) rfl)))) (mvT hZ (hw _ (List.mem_of_getElem? (i := 39) rfl))) (mvT hZ (hw _ (List.mem_of_getElem? (i := 38) rfl))) (by decide) (backOf (W := 0) (rm := ({ frames := 1, cells := 0, slots := 0, locals := 13 } : Room)) (rm6 l Z a0 hw [] bb (0 : Int32) buf n h0 n0 R6 R7 R8 R9 g_bb g_buf ne_buf_bb (OB.weak hn (by decide))) hZ (hw _ (List.mem_of_getElem? (i := 40) rfl)) (hw _ (List.mem_of_getElem? (i := 11) rfl)) (by decide) (by decide)) q2a q2c (g := (mkF m 5 #[.val (.ref a1)] [(.int (0 : Int32)), (.ref bb)])) rfl (by rw [hml]; rfl) (Steps.refl _) (argsL := [(.int (0 : Int32))]) (rest := []) (lenOf pd__I_V rfl) rfl (by show 2 * 0 + _ ≤ _; exact Nat.le_of_eq rfl) (hb hby d13_5) (fun _ _ => ⟨rfl, e1, (by decide : 0 + 0 ≤ _), (by decide : 0 + 0 ≤ _)⟩)
  dsimp only [Pt.U, Pt.locs, Pt.cells, Pt.slots] at X2 l2 y2 z2 st2 hQ2
  subst l2 y2 z2
  obtain ⟨rfl, N2q, K2q, P2_0, P2_1, P2_2, P2_3⟩ := hQ2
  refine own_st (fun t k => st2.trans k) ?_
  have N2 := Fr.app N0 N2q
  have K2 : Keep h0 T2.heap [a1, bb, buf] := (Keep.refl h0 [a1, bb, buf]).trans K2q (own_all2 (Or.inl (List.mem_of_getElem? (i := 1) rfl)) (Or.inl (List.mem_of_getElem? (i := 2) rfl)))
  have F3 : Exa Z T2.heap a1 "com/example/partwise/partwise/CompactThrift" := (R0.keep K2q)
  have F4 : Fld Z T2.heap a1 "com/example/partwise/partwise/CompactThrift" "bytes" "Lcom/example/partwise/partwise/ByteBuilder;" (.ref bb) := (R1.keep K2q (own_nin2 ne_a1_bb ne_a1_buf))
  have F5 : Fld Z T2.heap a1 "com/example/partwise/partwise/CompactThrift" "enclosing" "[I" (.ref enc) := (R2.keep K2q (own_nin2 ne_a1_bb ne_a1_buf))
  have F6 : Fld Z T2.heap a1 "com/example/partwise/partwise/CompactThrift" "lastField" "I" (.int last) := (R3.keep K2q (own_nin2 ne_a1_bb ne_a1_buf))
  have F7 : Fld Z T2.heap a1 "com/example/partwise/partwise/CompactThrift" "depth" "I" (.int (1 : Int32)) := (R4.keep K2q (own_nin2 ne_a1_bb ne_a1_buf))
  have F8 : OA Z T2.heap enc .int [(.int z), (.int (0 : Int32)), (.int (0 : Int32)), (.int (0 : Int32)), (.int (0 : Int32)), (.int (0 : Int32)), (.int (0 : Int32)), (.int (0 : Int32))] := (R5.keep K2q (own_nin2 ne_enc_bb ne_enc_buf))
  show OG p e _ s below _ T2 (mkF m 8 #[.val (.ref a1)] [])
  refine own_st (fun t k => XS.aloadN X2.here hx rfl (hb hby d13_8) rfl rfl k) ?_
  show OG p e _ s below _ T2 (mkF m 9 #[.val (.ref a1)] [(.ref a1)])
  obtain ⟨T9, X9, e9, st9⟩ := getF X2 hx hZ hown (host := "") (Or.inl (hw _ (List.mem_of_getElem? (i := 73) rfl))) Via.refl rfl F7 (g := (mkF m 9 #[.val (.ref a1)] [(.ref a1)])) rfl rfl (hb hby d13_9)
  refine own_st st9 ?_
  show OG p e _ s below _ T9 (mkF m 12 #[.val (.ref a1)] [(.int (1 : Int32))])
  refine own_st (fun t k => XS.ifNo X9.here hx rfl (hb hby d13_12) rfl (by decide) k) ?_
  show OG p e _ s below _ T9 (mkF m 15 #[.val (.ref a1)] [])
  refine own_st (fun t k => XS.aloadN X9.here hx rfl (hb hby d13_15) rfl rfl k) ?_
  show OG p e _ s below _ T9 (mkF m 16 #[.val (.ref a1)] [(.ref a1)])
  refine own_st (fun t k => XS.dup X9.here hx rfl (hb hby d13_16) rfl rfl k) ?_
  show OG p e _ s below _ T9 (mkF m 17 #[.val (.ref a1)] [(.ref a1), (.ref a1)])
  obtain ⟨T10, X10, e10, st10⟩ := getF X9 hx hZ hown (host := "") (Or.inl (hw _ (List.mem_of_getElem? (i := 73) rfl))) Via.refl e9 F7 (g := (mkF m 17 #[.val (.ref a1)] [(.ref a1), (.ref a1)])) rfl rfl (hb hby d13_17)
  refine own_st st10 ?_
  show OG p e _ s below _ T10 (mkF m 20 #[.val (.ref a1)] [(.int (1 : Int32)), (.ref a1)])
  refine own_st (fun t k => XS.iconst X10.here hx rfl (hb hby d13_20) k) ?_
  show OG p e _ s below _ T10 (mkF m 21 #[.val (.ref a1)] [(.int (1 : Int32)), (.int (1 : Int32)), (.ref a1)])
  refine own_st (fun t k => XS.isub X10.here hx rfl (hb hby d13_21) rfl k) ?_
  show OG p e _ s below _ T10 (mkF m 22 #[.val (.ref a1)] [(.int (0 : Int32)), (.ref a1)])
  obtain ⟨T11, h11, X11, e11, W11, st11⟩ := putF X10 hx hZ hown (host := "") (Or.inl (hw _ (List.mem_of_getElem? (i := 73) rfl))) Via.refl e10 F7 F3 (Or.inl (hw _ (List.mem_of_getElem? (i := 74) rfl))) (hw _ (List.mem_of_getElem? (i := 1) rfl)) (ty := .int) (by decide) rfl rfl (g := (mkF m 22 #[.val (.ref a1)] [(.int (0 : Int32)), (.ref a1)])) rfl rfl (hb hby d13_22)
  refine own_st st11 ?_
  have N11 := Fr.snoc X11 N2 g_a1
  have K12 : Keep h0 h11 [a1, bb, buf] := K2.wr W11 (Or.inl (List.mem_of_getElem? (i := 0) rfl))
  have F13 : Exa Z h11 a1 "com/example/partwise/partwise/CompactThrift" := (F3.wr W11)
  have F14 : Fld Z h11 a1 "com/example/partwise/partwise/CompactThrift" "bytes" "Lcom/example/partwise/partwise/ByteBuilder;" (.ref bb) := (F4.other W11 (Or.inr (slot_ne (Or.inr (hw _ (List.mem_of_getElem? (i := 20) rfl))) (Or.inl (hw _ (List.mem_of_getElem? (i := 74) rfl))) (by decide) (t := (.object "com/example/partwise/partwise/ByteBuilder")) (t' := .int) (by decide) (by decide))))
  have F15 : Fld Z h11 a1 "com/example/partwise/partwise/CompactThrift" "enclosing" "[I" (.ref enc) := (F5.other W11 (Or.inr (slot_ne (Or.inl (hw _ (List.mem_of_getElem? (i := 23) rfl))) (Or.inl (hw _ (List.mem_of_getElem? (i := 74) rfl))) (by decide) (t := (.array .int)) (t' := .int) (by decide) (by decide))))
  have F16 : Fld Z h11 a1 "com/example/partwise/partwise/CompactThrift" "lastField" "I" (.int last) := (F6.other W11 (Or.inr (slot_ne (Or.inl (hw _ (List.mem_of_getElem? (i := 35) rfl))) (Or.inl (hw _ (List.mem_of_getElem? (i := 74) rfl))) (by decide) (t := .int) (t' := .int) (by decide) (by decide))))
  have F17 : Fld Z h11 a1 "com/example/partwise/partwise/CompactThrift" "depth" "I" (.int (0 : Int32)) := (F7.same W11)
  have F18 : OA Z h11 enc .int [(.int z), (.int (0 : Int32)), (.int (0 : Int32)), (.int (0 : Int32)), (.int (0 : Int32)), (.int (0 : Int32)), (.int (0 : Int32)), (.int (0 : Int32))] := (F8.other W11 ne_enc_a1)
  have F19 : Exa Z h11 bb "com/example/partwise/partwise/ByteBuilder" := (P2_0.wr W11)
  have F20 : Fld Z h11 bb "com/example/partwise/partwise/ByteBuilder" "bytes" "[B" (.ref buf) := (P2_1.other W11 (Or.inl (Ne.symm ne_a1_bb)))
  have F21 : Fld Z h11 bb "com/example/partwise/partwise/ByteBuilder" "length" "I" (.int (n + (1 : Int32))) := (P2_2.other W11 (Or.inl (Ne.symm ne_a1_bb)))
  have F22 : OL Z h11 buf .byte 256 := (P2_3.other W11 (Ne.symm ne_a1_buf))
  show OG p e _ s below _ T11 (mkF m 25 #[.val (.ref a1)] [])
  refine own_st (fun t k => XS.aloadN X11.here hx rfl (hb hby d13_25) rfl rfl k) ?_
  show OG p e _ s below _ T11 (mkF m 26 #[.val (.ref a1)] [(.ref a1)])
  refine own_st (fun t k => XS.aloadN X11.here hx rfl (hb hby d13_26) rfl rfl k) ?_
  show OG p e _ s below _ T11 (mkF m 27 #[.val (.ref a1)] [(.ref a1), (.ref a1)])
  obtain ⟨T23, X23, e23, st23⟩ := getF X11 hx hZ hown (host := "") (Or.inl (hw _ (List.mem_of_getElem? (i := 22) rfl))) Via.refl e11 F15 (g := (mkF m 27 #[.val (.ref a1)] [(.ref a1), (.ref a1)])) rfl rfl (hb hby d13_27)
  refine own_st st23 ?_
  show OG p e _ s below _ T23 (mkF m 30 #[.val (.ref a1)] [(.ref enc), (.ref a1)])
  refine own_st (fun t k => XS.aloadN X23.here hx rfl (hb hby d13_30) rfl rfl k) ?_
  show OG p e _ s below _ T23 (mkF m 31 #[.val (.ref a1)] [(.ref a1), (.ref enc), (.ref a1)])
  obtain ⟨T24, X24, e24, st24⟩ := getF X23 hx hZ hown (host := "") (Or.inl (hw _ (List.mem_of_getElem? (i := 73) rfl))) Via.refl e23 F17 (g := (mkF m 31 #[.val (.ref a1)] [(.ref a1), (.ref enc), (.ref a1)])) rfl rfl (hb hby d13_31)
  refine own_st st24 ?_
  show OG p e _ s below _ T24 (mkF m 34 #[.val (.ref a1)] [(.int (0 : Int32)), (.ref enc), (.ref a1)])
  obtain ⟨cl25, Ar25, hi25, ha25⟩ := own_rd F18 (j := (0 : Int32)) (i := 0) (by decide) (by decide) (v := (.int z)) rfl
  refine own_st (fun t k => X24.iaload hx (j := (0 : Int32)) (v := (.int z)) (by rw [e24]; exact Ar25.1) (State.isArrayOf_alike hZ.alike Ar25.2.1) Ar25.2.2 hi25 ha25 (g := (mkF m 34 #[.val (.ref a1)] [(.int (0 : Int32)), (.ref enc), (.ref a1)])) rfl rfl (hb hby d13_34) t k) ?_
  show OG p e _ s below _ T24 (mkF m 35 #[.val (.ref a1)] [(.int z), (.ref a1)])
  obtain ⟨T26, h26, X26, e26, W26, st26⟩ := putF X24 hx hZ hown (host := "") (Or.inl (hw _ (List.mem_of_getElem? (i := 34) rfl))) Via.refl e24 F16 F13 (Or.inl (hw _ (List.mem_of_getElem? (i := 35) rfl))) (hw _ (List.mem_of_getElem? (i := 1) rfl)) (ty := .int) (by decide) rfl rfl (g := (mkF m 35 #[.val (.ref a1)] [(.int z), (.ref a1)])) rfl rfl (hb hby d13_35)
  refine own_st st26 ?_
  have N26 := Fr.snoc X26 N11 g_a1
  have K27 : Keep h0 h26 [a1, bb, buf] := K12.wr W26 (Or.inl (List.mem_of_getElem? (i := 0) rfl))
  have F28 : Exa Z h26 a1 "com/example/partwise/partwise/CompactThrift" := (F13.wr W26)
  have F29 : Fld Z h26 a1 "com/example/partwise/partwise/CompactThrift" "bytes" "Lcom/example/partwise/partwise/ByteBuilder;" (.ref bb) := (F14.other W26 (Or.inr (slot_ne (Or.inr (hw _ (List.mem_of_getElem? (i := 20) rfl))) (Or.inl (hw _ (List.mem_of_getElem? (i := 35) rfl))) (by decide) (t := (.object "com/example/partwise/partwise/ByteBuilder")) (t' := .int) (by decide) (by decide))))
  have F30 : Fld Z h26 a1 "com/example/partwise/partwise/CompactThrift" "enclosing" "[I" (.ref enc) := (F15.other W26 (Or.inr (slot_ne (Or.inl (hw _ (List.mem_of_getElem? (i := 23) rfl))) (Or.inl (hw _ (List.mem_of_getElem? (i := 35) rfl))) (by decide) (t := (.array .int)) (t' := .int) (by decide) (by decide))))
  have F31 : Fld Z h26 a1 "com/example/partwise/partwise/CompactThrift" "lastField" "I" (.int z) := (F16.same W26)
  have F32 : Fld Z h26 a1 "com/example/partwise/partwise/CompactThrift" "depth" "I" (.int (0 : Int32)) := (F17.other W26 (Or.inr (slot_ne (Or.inl (hw _ (List.mem_of_getElem? (i := 74) rfl))) (Or.inl (hw _ (List.mem_of_getElem? (i := 35) rfl))) (by decide) (t := .int) (t' := .int) (by decide) (by decide))))
  have F33 : OA Z h26 enc .int [(.int z), (.int (0 : Int32)), (.int (0 : Int32)), (.int (0 : Int32)), (.int (0 : Int32)), (.int (0 : Int32)), (.int (0 : Int32)), (.int (0 : Int32))] := (F18.other W26 ne_enc_a1)
  have F34 : Exa Z h26 bb "com/example/partwise/partwise/ByteBuilder" := (F19.wr W26)
  have F35 : Fld Z h26 bb "com/example/partwise/partwise/ByteBuilder" "bytes" "[B" (.ref buf) := (F20.other W26 (Or.inl (Ne.symm ne_a1_bb)))
  have F36 : Fld Z h26 bb "com/example/partwise/partwise/ByteBuilder" "length" "I" (.int (n + (1 : Int32))) := (F21.other W26 (Or.inl (Ne.symm ne_a1_bb)))
  have F37 : OL Z h26 buf .byte 256 := (F22.other W26 (Ne.symm ne_a1_buf))
  show OG p e _ s below _ T26 (mkF m 38 #[.val (.ref a1)] [])
  refine own_ret0 X26 hx hret hlk (hb hby d13_38) (by decide) (by decide) ?_
  rw [e26]
  exact ⟨rfl, N26, K27, F28, F29, F30, F31, F32, F34, F35, F36, F37⟩
theorem d14_0 : decode prog_27_method_2_code 0 = .ok (.aload_n 0, 1) := by decide +kernel
theorem d14_1 : decode prog_27_method_2_code 1 = .ok (.getfield 12, 3) := by decide +kernel
theorem d14_4 : decode prog_27_method_2_code 4 = .ok (.invokevirtual 22, 3) := by decide +kernel
theorem d14_7 : decode prog_27_method_2_code 7 = .ok (.aload_n 0, 1) := by decide +kernel
theorem d14_8 : decode prog_27_method_2_code 8 = .ok (.iconst 0, 1) := by decide +kernel
theorem d14_9 : decode prog_27_method_2_code 9 = .ok (.putfield 25, 3) := by decide +kernel
theorem d14_12 : decode prog_27_method_2_code 12 = .ok (.aload_n 0, 1) := by decide +kernel
theorem d14_13 : decode prog_27_method_2_code 13 = .ok (.iconst 0, 1) := by decide +kernel
theorem d14_14 : decode prog_27_method_2_code 14 = .ok (.putfield 29, 3) := by decide +kernel
theorem d14_17 : decode prog_27_method_2_code 17 = .ok (.return_, 1) := by decide +kernel
theorem pn_14 : plainFor (⟨"com/example/partwise/partwise/CompactThrift", "reset", "()V"⟩ : MethodName) = true := by first | exact plainFor_of_name (by first | (simp [plainName, overriddenIn]; done) | decide +kernel) | decide +kernel
theorem ef_14 (m : MethodId) (a1 : Addr) : entryFrame m #[(.ref a1)] 1 = (mkF m 0 #[.val (.ref a1)] []) := by first | (simp [entryFrame, mkF, argsToLocals, Value.category]; done) | rfl
abbrev Q14 (Z : State) (a1 : Addr) (bb : Addr) (buf : Addr) (n : Int32) (enc : Addr) (last : Int32) (d : Int32) (h0 : Heap) (n0 : Nat) : Option Value → Heap → List Loc → Prop := (fun v h L => v = none ∧ Fr n0 L ∧ Keep h0 h [a1, bb] ∧ Exa Z h a1 "com/example/partwise/partwise/CompactThrift" ∧ Fld Z h a1 "com/example/partwise/partwise/CompactThrift" "bytes" "Lcom/example/partwise/partwise/ByteBuilder;" (.ref bb) ∧ Fld Z h a1 "com/example/partwise/partwise/CompactThrift" "enclosing" "[I" (.ref enc) ∧ Fld Z h a1 "com/example/partwise/partwise/CompactThrift" "lastField" "I" (.int (0 : Int32)) ∧ Fld Z h a1 "com/example/partwise/partwise/CompactThrift" "depth" "I" (.int (0 : Int32)) ∧ Exa Z h bb "com/example/partwise/partwise/ByteBuilder" ∧ Fld Z h bb "com/example/partwise/partwise/ByteBuilder" "bytes" "[B" (.ref buf) ∧ Fld Z h bb "com/example/partwise/partwise/ByteBuilder" "length" "I" (.int (0 : Int32)) ∧ OL Z h buf .byte 256)
set_option maxRecDepth 65536 in
set_option maxHeartbeats 40000000 in
theorem rm14 (l : Launch) (Z : State) (a0 : Array Value) (hw : ∀ d ∈ tables_1, d.before a0 Z = true) (ws : List Jvm.Cond) (a1 : Addr) (bb : Addr) (buf : Addr) (n : Int32) (enc : Addr) (last : Int32) (d : Int32) (h0 : Heap) (n0 : Nat) (R0 : Exa Z h0 a1 "com/example/partwise/partwise/CompactThrift") (R1 : Fld Z h0 a1 "com/example/partwise/partwise/CompactThrift" "bytes" "Lcom/example/partwise/partwise/ByteBuilder;" (.ref bb)) (R2 : Fld Z h0 a1 "com/example/partwise/partwise/CompactThrift" "enclosing" "[I" (.ref enc)) (R3 : Fld Z h0 a1 "com/example/partwise/partwise/CompactThrift" "lastField" "I" (.int last)) (R4 : Fld Z h0 a1 "com/example/partwise/partwise/CompactThrift" "depth" "I" (.int d)) (R5 : Exa Z h0 bb "com/example/partwise/partwise/ByteBuilder") (R6 : Fld Z h0 bb "com/example/partwise/partwise/ByteBuilder" "bytes" "[B" (.ref buf)) (R7 : Fld Z h0 bb "com/example/partwise/partwise/ByteBuilder" "length" "I" (.int n)) (R8 : OL Z h0 buf .byte 256) (g_a1 : n0 ≤ a1) (g_bb : n0 ≤ bb) (ne_a1_bb : a1 ≠ bb) (ne_a1_buf : a1 ≠ buf) (ne_buf_bb : buf ≠ bb) :
    OMet l Z (⟨"com/example/partwise/partwise/CompactThrift", "reset", "()V"⟩ : MethodName) prog_27_method_2_code 1 none ws ({ frames := 1, cells := 0, slots := 0, locals := 12 } : Room) #[(.ref a1)] h0 (Q14 Z a1 bb buf n enc last d h0 n0) := by
  refine own_enter pn_14 ?_
  intro p e s m below meth c s₁ hx hby hml0 hown hret hlk hnm hZ X0 e0
  have hml : c.maxLocals = 1 := hml0
  have N0 := Fr.nil n0
  refine own_cast (ef_14 m a1) ?_
  show OG p e ({ frames := 1, cells := 0, slots := 0, locals := 12 } : Room) s below (fun v h L => v = none ∧ Fr n0 L ∧ Keep h0 h [a1, bb] ∧ Exa Z h a1 "com/example/partwise/partwise/CompactThrift" ∧ Fld Z h a1 "com/example/partwise/partwise/CompactThrift" "bytes" "Lcom/example/partwise/partwise/ByteBuilder;" (.ref bb) ∧ Fld Z h a1 "com/example/partwise/partwise/CompactThrift" "enclosing" "[I" (.ref enc) ∧ Fld Z h a1 "com/example/partwise/partwise/CompactThrift" "lastField" "I" (.int (0 : Int32)) ∧ Fld Z h a1 "com/example/partwise/partwise/CompactThrift" "depth" "I" (.int (0 : Int32)) ∧ Exa Z h bb "com/example/partwise/partwise/ByteBuilder" ∧ Fld Z h bb "com/example/partwise/partwise/ByteBuilder" "bytes" "[B" (.ref buf) ∧ Fld Z h bb "com/example/partwise/partwise/ByteBuilder" "length" "I" (.int (0 : Int32)) ∧ OL Z h buf .byte 256) s₁ (mkF m 0 #[.val (.ref a1)] [])
  refine own_st (fun t k => XS.aloadN X0.here hx rfl (hb hby d14_0) rfl rfl k) ?_
  show OG p e _ s below _ s₁ (mkF m 1 #[.val (.ref a1)] [(.ref a1)])
  obtain ⟨T1, X1, e1, st1⟩ := getF X0 hx hZ hown (host := "") (Or.inl (hw _ (List.mem_of_getElem? (i := 19) rfl))) Via.refl e0 R1 (g := (mkF m 1 #[.val (.ref a1)] [(.ref a1)])) rfl rfl (hb hby d14_1)
  refine own_st st1 ?_
  show OG p e _ s below _ T1 (mkF m 4 #[.val (.ref a1)] [(.ref bb)])
  obtain ⟨cq2, kq2, q2a, q2b, q2c⟩ := isOf hZ e1 R5
  obtain ⟨_, _, ⟨T2, L2, k2, n2⟩, -, X2, ⟨Lc2, hQ2, l2, y2, z2⟩, st2⟩ := X1.virtualBack hx (y := (⟨"com/example/partwise/partwise/ByteBuilder", "clear", "()V"⟩ : MethodName)) (z := (⟨"com/example/partwise/partwise/ByteBuilder", "clear", "()V"⟩ : MethodName)) hown (mvT hZ (hw _ (List.mem_of_getElem? (i := 85) rfl))) (mvT hZ (hw _ (List.mem_of_getElem? (i := 86) rfl))) (notFace_of_selects (args := #[]) (mvT hZ (hw _ (List.mem_of_getElem? (i := 88) rfl)))) (mvT hZ (hw _ (List.mem_of_getElem? (i := 88) rfl))) (mvT hZ (hw _ (List.mem_of_getElem? (i := 87) rfl))) (by decide) (backOf (W := 0) (rm := ({ frames := 0, cells := 0, slots := 0, locals := 0 } : Room)) (rm15 l Z a0 hw [] bb buf n h0 n0 R5 R6 R7 g_bb) hZ (hw _ (List.mem_of_getElem? (i := 89) rfl)) (hw _ (List.mem_of_getElem? (i := 11) rfl)) (by decide) (by decide)) q2a q2c (g := (mkF m 4 #[.val (.ref a1)] [(.ref bb)])) rfl (by rw [hml]; rfl) (Steps.refl _) (argsL := []) (rest := []) (lenOf pd___V rfl) rfl (by show 2 * 0 + _ ≤ _; exact Nat.le_of_eq rfl) (hb hby d14_4) (fun _ _ => ⟨rfl, e1, (by decide : 0 + 0 ≤ _), (by decide : 0 + 0 ≤ _)⟩)
  dsimp only [Pt.U, Pt.locs, Pt.cells, Pt.slots] at X2 l2 y2 z2 st2 hQ2
  subst l2 y2 z2
  obtain ⟨rfl, N2q, K2q, P2_0, P2_1, P2_2⟩ := hQ2
  refine own_st (fun t k => st2.trans k) ?_
  have N2 := Fr.app N0 N2q
  have K2 : Keep h0 T2.heap [a1, bb] := (Keep.refl h0 [a1, bb]).trans K2q (own_all1 (Or.inl (List.mem_of_getElem? (i := 1) rfl)))
  have F3 : Exa Z T2.heap a1 "com/example/partwise/partwise/CompactThrift" := (R0.keep K2q)
  have F4 : Fld Z T2.heap a1 "com/example/partwise/partwise/CompactThrift" "bytes" "Lcom/example/partwise/partwise/ByteBuilder;" (.ref bb) := (R1.keep K2q (own_nin1 ne_a1_bb))
  have F5 : Fld Z T2.heap a1 "com/example/partwise/partwise/CompactThrift" "enclosing" "[I" (.ref enc) := (R2.keep K2q (own_nin1 ne_a1_bb))
  have F6 : Fld Z T2.heap a1 "com/example/partwise/partwise/CompactThrift" "lastField" "I" (.int last) := (R3.keep K2q (own_nin1 ne_a1_bb))
  have F7 : Fld Z T2.heap a1 "com/example/partwise/partwise/CompactThrift" "depth" "I" (.int d) := (R4.keep K2q (own_nin1 ne_a1_bb))
  have F8 : OL Z T2.heap buf .byte 256 := (R8.keep K2q (own_nin1 ne_buf_bb))
  show OG p e _ s below _ T2 (mkF m 7 #[.val (.ref a1)] [])
  refine own_st (fun t k => XS.aloadN X2.here hx rfl (hb hby d14_7) rfl rfl k) ?_
  show OG p e _ s below _ T2 (mkF m 8 #[.val (.ref a1)] [(.ref a1)])
  refine own_st (fun t k => XS.iconst X2.here hx rfl (hb hby d14_8) k) ?_
  show OG p e _ s below _ T2 (mkF m 9 #[.val (.ref a1)] [(.int (0 : Int32)), (.ref a1)])
  obtain ⟨T9, h9, X9, e9, W9, st9⟩ := putF X2 hx hZ hown (host := "") (Or.inl (hw _ (List.mem_of_getElem? (i := 34) rfl))) Via.refl rfl F6 F3 (Or.inl (hw _ (List.mem_of_getElem? (i := 35) rfl))) (hw _ (List.mem_of_getElem? (i := 1) rfl)) (ty := .int) (by decide) rfl rfl (g := (mkF m 9 #[.val (.ref a1)] [(.int (0 : Int32)), (.ref a1)])) rfl rfl (hb hby d14_9)
  refine own_st st9 ?_
  have N9 := Fr.snoc X9 N2 g_a1
  have K10 : Keep h0 h9 [a1, bb] := K2.wr W9 (Or.inl (List.mem_of_getElem? (i := 0) rfl))
  have F11 : Exa Z h9 a1 "com/example/partwise/partwise/CompactThrift" := (F3.wr W9)
  have F12 : Fld Z h9 a1 "com/example/partwise/partwise/CompactThrift" "bytes" "Lcom/example/partwise/partwise/ByteBuilder;" (.ref bb) := (F4.other W9 (Or.inr (slot_ne (Or.inr (hw _ (List.mem_of_getElem? (i := 20) rfl))) (Or.inl (hw _ (List.mem_of_getElem? (i := 35) rfl))) (by decide) (t := (.object "com/example/partwise/partwise/ByteBuilder")) (t' := .int) (by decide) (by decide))))
  have F13 : Fld Z h9 a1 "com/example/partwise/partwise/CompactThrift" "enclosing" "[I" (.ref enc) := (F5.other W9 (Or.inr (slot_ne (Or.inl (hw _ (List.mem_of_getElem? (i := 23) rfl))) (Or.inl (hw _ (List.mem_of_getElem? (i := 35) rfl))) (by decide) (t := (.array .int)) (t' := .int) (by decide) (by decide))))
  have F14 : Fld Z h9 a1 "com/example/partwise/partwise/CompactThrift" "lastField" "I" (.int (0 : Int32)) := (F6.same W9)
  have F15 : Fld Z h9 a1 "com/example/partwise/partwise/CompactThrift" "depth" "I" (.int d) := (F7.other W9 (Or.inr (slot_ne (Or.inl (hw _ (List.mem_of_getElem? (i := 74) rfl))) (Or.inl (hw _ (List.mem_of_getElem? (i := 35) rfl))) (by decide) (t := .int) (t' := .int) (by decide) (by decide))))
  have F16 : OL Z h9 buf .byte 256 := (F8.other W9 (Ne.symm ne_a1_buf))
  have F17 : Exa Z h9 bb "com/example/partwise/partwise/ByteBuilder" := (P2_0.wr W9)
  have F18 : Fld Z h9 bb "com/example/partwise/partwise/ByteBuilder" "bytes" "[B" (.ref buf) := (P2_1.other W9 (Or.inl (Ne.symm ne_a1_bb)))
  have F19 : Fld Z h9 bb "com/example/partwise/partwise/ByteBuilder" "length" "I" (.int (0 : Int32)) := (P2_2.other W9 (Or.inl (Ne.symm ne_a1_bb)))
  show OG p e _ s below _ T9 (mkF m 12 #[.val (.ref a1)] [])
  refine own_st (fun t k => XS.aloadN X9.here hx rfl (hb hby d14_12) rfl rfl k) ?_
  show OG p e _ s below _ T9 (mkF m 13 #[.val (.ref a1)] [(.ref a1)])
  refine own_st (fun t k => XS.iconst X9.here hx rfl (hb hby d14_13) k) ?_
  show OG p e _ s below _ T9 (mkF m 14 #[.val (.ref a1)] [(.int (0 : Int32)), (.ref a1)])
  obtain ⟨T20, h20, X20, e20, W20, st20⟩ := putF X9 hx hZ hown (host := "") (Or.inl (hw _ (List.mem_of_getElem? (i := 73) rfl))) Via.refl e9 F15 F11 (Or.inl (hw _ (List.mem_of_getElem? (i := 74) rfl))) (hw _ (List.mem_of_getElem? (i := 1) rfl)) (ty := .int) (by decide) rfl rfl (g := (mkF m 14 #[.val (.ref a1)] [(.int (0 : Int32)), (.ref a1)])) rfl rfl (hb hby d14_14)
  refine own_st st20 ?_
  have N20 := Fr.snoc X20 N9 g_a1
  have K21 : Keep h0 h20 [a1, bb] := K10.wr W20 (Or.inl (List.mem_of_getElem? (i := 0) rfl))
  have F22 : Exa Z h20 a1 "com/example/partwise/partwise/CompactThrift" := (F11.wr W20)
  have F23 : Fld Z h20 a1 "com/example/partwise/partwise/CompactThrift" "bytes" "Lcom/example/partwise/partwise/ByteBuilder;" (.ref bb) := (F12.other W20 (Or.inr (slot_ne (Or.inr (hw _ (List.mem_of_getElem? (i := 20) rfl))) (Or.inl (hw _ (List.mem_of_getElem? (i := 74) rfl))) (by decide) (t := (.object "com/example/partwise/partwise/ByteBuilder")) (t' := .int) (by decide) (by decide))))
  have F24 : Fld Z h20 a1 "com/example/partwise/partwise/CompactThrift" "enclosing" "[I" (.ref enc) := (F13.other W20 (Or.inr (slot_ne (Or.inl (hw _ (List.mem_of_getElem? (i := 23) rfl))) (Or.inl (hw _ (List.mem_of_getElem? (i := 74) rfl))) (by decide) (t := (.array .int)) (t' := .int) (by decide) (by decide))))
  have F25 : Fld Z h20 a1 "com/example/partwise/partwise/CompactThrift" "lastField" "I" (.int (0 : Int32)) := (F14.other W20 (Or.inr (slot_ne (Or.inl (hw _ (List.mem_of_getElem? (i := 35) rfl))) (Or.inl (hw _ (List.mem_of_getElem? (i := 74) rfl))) (by decide) (t := .int) (t' := .int) (by decide) (by decide))))
  have F26 : Fld Z h20 a1 "com/example/partwise/partwise/CompactThrift" "depth" "I" (.int (0 : Int32)) := (F15.same W20)
  have F27 : OL Z h20 buf .byte 256 := (F16.other W20 (Ne.symm ne_a1_buf))
  have F28 : Exa Z h20 bb "com/example/partwise/partwise/ByteBuilder" := (F17.wr W20)
  have F29 : Fld Z h20 bb "com/example/partwise/partwise/ByteBuilder" "bytes" "[B" (.ref buf) := (F18.other W20 (Or.inl (Ne.symm ne_a1_bb)))
  have F30 : Fld Z h20 bb "com/example/partwise/partwise/ByteBuilder" "length" "I" (.int (0 : Int32)) := (F19.other W20 (Or.inl (Ne.symm ne_a1_bb)))
  show OG p e _ s below _ T20 (mkF m 17 #[.val (.ref a1)] [])
  refine own_ret0 X20 hx hret hlk (hb hby d14_17) (by decide) (by decide) ?_
  rw [e20]
  exact ⟨rfl, N20, K21, F22, F23, F24, F25, F26, F28, F29, F30, F27⟩
theorem d16_0 : decode prog_27_method_13_code 0 = .ok (.aload_n 0, 1) := by decide +kernel
theorem d16_1 : decode prog_27_method_13_code 1 = .ok (.getfield 12, 3) := by decide +kernel
theorem d16_4 : decode prog_27_method_13_code 4 = .ok (.invokevirtual 75, 3) := by decide +kernel
theorem d16_7 : decode prog_27_method_13_code 7 = .ok (.ireturn, 1) := by decide +kernel
theorem pd___I : parseMethodDescriptor "()I" = some ⟨[], some .int⟩ := by decide +kernel
theorem pn_16 : plainFor (⟨"com/example/partwise/partwise/CompactThrift", "size", "()I"⟩ : MethodName) = true := by first | exact plainFor_of_name (by first | (simp [plainName, overriddenIn]; done) | decide +kernel) | decide +kernel
def f16 (n : Int32) : Int32 := (f17 n)
theorem ef_16 (m : MethodId) (a1 : Addr) : entryFrame m #[(.ref a1)] 1 = (mkF m 0 #[.val (.ref a1)] []) := by first | (simp [entryFrame, mkF, argsToLocals, Value.category]; done) | rfl
abbrev Q16 (Z : State) (a1 : Addr) (bb : Addr) (n : Int32) (h0 : Heap)  : Option Value → Heap → List Loc → Prop := (fun v h L => v = some (.int (f16 n)) ∧ L = [] ∧ h = h0)
set_option maxRecDepth 65536 in
set_option maxHeartbeats 40000000 in
theorem rm16 (l : Launch) (Z : State) (a0 : Array Value) (hw : ∀ d ∈ tables_1, d.before a0 Z = true) (ws : List Jvm.Cond) (a1 : Addr) (bb : Addr) (n : Int32) (h0 : Heap) (R0 : Fld Z h0 a1 "com/example/partwise/partwise/CompactThrift" "bytes" "Lcom/example/partwise/partwise/ByteBuilder;" (.ref bb)) (R1 : Exa Z h0 bb "com/example/partwise/partwise/ByteBuilder") (R2 : Fld Z h0 bb "com/example/partwise/partwise/ByteBuilder" "length" "I" (.int n)) :
    OMet l Z (⟨"com/example/partwise/partwise/CompactThrift", "size", "()I"⟩ : MethodName) prog_27_method_13_code 1 (some .int) ws ({ frames := 1, cells := 0, slots := 0, locals := 12 } : Room) #[(.ref a1)] h0 (Q16 Z a1 bb n h0) := by
  refine own_enter pn_16 ?_
  intro p e s m below meth c s₁ hx hby hml0 hown hret hlk hnm hZ X0 e0
  have hml : c.maxLocals = 1 := hml0
  refine own_cast (ef_16 m a1) ?_
  show OG p e ({ frames := 1, cells := 0, slots := 0, locals := 12 } : Room) s below (fun v h L => v = some (.int (f16 n)) ∧ L = [] ∧ h = h0) s₁ (mkF m 0 #[.val (.ref a1)] [])
  refine own_st (fun t k => XS.aloadN X0.here hx rfl (hb hby d16_0) rfl rfl k) ?_
  show OG p e _ s below _ s₁ (mkF m 1 #[.val (.ref a1)] [(.ref a1)])
  obtain ⟨T1, X1, e1, st1⟩ := getF X0 hx hZ hown (host := "") (Or.inl (hw _ (List.mem_of_getElem? (i := 19) rfl))) Via.refl e0 R0 (g := (mkF m 1 #[.val (.ref a1)] [(.ref a1)])) rfl rfl (hb hby d16_1)
  refine own_st st1 ?_
  show OG p e _ s below _ T1 (mkF m 4 #[.val (.ref a1)] [(.ref bb)])
  obtain ⟨cq2, kq2, q2a, q2b, q2c⟩ := isOf hZ e1 R1
  obtain ⟨_, _, ⟨T2, L2, k2, n2⟩, -, X2, ⟨Lc2, hQ2, l2, y2, z2⟩, st2⟩ := X1.virtualBack hx (y := (⟨"com/example/partwise/partwise/ByteBuilder", "length", "()I"⟩ : MethodName)) (z := (⟨"com/example/partwise/partwise/ByteBuilder", "length", "()I"⟩ : MethodName)) hown (mvT hZ (hw _ (List.mem_of_getElem? (i := 95) rfl))) (mvT hZ (hw _ (List.mem_of_getElem? (i := 96) rfl))) (notFace_of_selects (args := #[]) (mvT hZ (hw _ (List.mem_of_getElem? (i := 98) rfl)))) (mvT hZ (hw _ (List.mem_of_getElem? (i := 98) rfl))) (mvT hZ (hw _ (List.mem_of_getElem? (i := 97) rfl))) (by decide) (backOf (W := 0) (rm := ({ frames := 0, cells := 0, slots := 0, locals := 0 } : Room)) (rm17 l Z a0 hw [] bb n h0 R2) hZ (hw _ (List.mem_of_getElem? (i := 99) rfl)) (hw _ (List.mem_of_getElem? (i := 11) rfl)) (by decide) (by decide)) q2a q2c (g := (mkF m 4 #[.val (.ref a1)] [(.ref bb)])) rfl (by rw [hml]; rfl) (Steps.refl _) (argsL := []) (rest := []) (lenOf pd___I rfl) rfl (by show 2 * 0 + _ ≤ _; exact Nat.le_of_eq rfl) (hb hby d16_4) (fun _ _ => ⟨rfl, e1, (by decide : 0 + 0 ≤ _), (by decide : 0 + 0 ≤ _)⟩)
  dsimp only [Pt.U, Pt.locs, Pt.cells, Pt.slots] at X2 l2 y2 z2 st2 hQ2
  subst l2 y2 z2
  obtain ⟨rfl, rfl, e2⟩ := hQ2
  refine own_st (fun t k => st2.trans k) ?_
  show OG p e _ s below _ T2 (mkF m 7 #[.val (.ref a1)] [(.int (f17 n))])
  exact own_retI X2 hx hret hlk (hb hby d16_7) (by decide) (by decide) ⟨congrArg (fun z => some (Value.int z)) (show f16 n = (f17 n) from (by rw [f16])).symm, rfl, e2⟩
theorem d18_0 : decode method_2_code 0 = .ok (.iload_n 0, 1) := by decide +kernel
theorem d18_1 : decode method_2_code 1 = .ok (.iconst 1, 1) := by decide +kernel
theorem d18_2 : decode method_2_code 2 = .ok (.ishl, 1) := by decide +kernel
theorem d18_3 : decode method_2_code 3 = .ok (.iload_n 0, 1) := by decide +kernel
theorem d18_4 : decode method_2_code 4 = .ok (.bipush 31, 2) := by decide +kernel
theorem d18_6 : decode method_2_code 6 = .ok (.ishr, 1) := by decide +kernel
theorem d18_7 : decode method_2_code 7 = .ok (.ixor, 1) := by decide +kernel
theorem d18_8 : decode method_2_code 8 = .ok (.istore_n 1, 1) := by decide +kernel
theorem d18_9 : decode method_2_code 9 = .ok (.iload_n 1, 1) := by decide +kernel
theorem d18_10 : decode method_2_code 10 = .ok (.i2l, 1) := by decide +kernel
theorem d18_11 : decode method_2_code 11 = .ok (.ldc2_w 7, 3) := by decide +kernel
theorem d18_14 : decode method_2_code 14 = .ok (.land, 1) := by decide +kernel
theorem d18_15 : decode method_2_code 15 = .ok (.lstore_n 2, 1) := by decide +kernel
theorem d18_16 : decode method_2_code 16 = .ok (.lload_n 2, 1) := by decide +kernel
theorem d18_17 : decode method_2_code 17 = .ok (.ldc2_w 9, 3) := by decide +kernel
theorem d18_20 : decode method_2_code 20 = .ok (.lcmp, 1) := by decide +kernel
theorem d18_21 : decode method_2_code 21 = .ok (.ifCond .ge 5, 3) := by decide +kernel
theorem d18_24 : decode method_2_code 24 = .ok (.iconst 1, 1) := by decide +kernel
theorem d18_25 : decode method_2_code 25 = .ok (.ireturn, 1) := by decide +kernel
theorem d18_26 : decode method_2_code 26 = .ok (.lload_n 2, 1) := by decide +kernel
theorem d18_27 : decode method_2_code 27 = .ok (.ldc2_w 11, 3) := by decide +kernel
theorem d18_30 : decode method_2_code 30 = .ok (.lcmp, 1) := by decide +kernel
theorem d18_31 : decode method_2_code 31 = .ok (.ifCond .ge 5, 3) := by decide +kernel
theorem d18_34 : decode method_2_code 34 = .ok (.iconst 2, 1) := by decide +kernel
theorem d18_35 : decode method_2_code 35 = .ok (.ireturn, 1) := by decide +kernel
theorem d18_36 : decode method_2_code 36 = .ok (.lload_n 2, 1) := by decide +kernel
theorem d18_37 : decode method_2_code 37 = .ok (.ldc2_w 13, 3) := by decide +kernel
theorem d18_40 : decode method_2_code 40 = .ok (.lcmp, 1) := by decide +kernel
theorem d18_41 : decode method_2_code 41 = .ok (.ifCond .ge 5, 3) := by decide +kernel
theorem d18_44 : decode method_2_code 44 = .ok (.iconst 3, 1) := by decide +kernel
theorem d18_45 : decode method_2_code 45 = .ok (.ireturn, 1) := by decide +kernel
theorem d18_46 : decode method_2_code 46 = .ok (.lload_n 2, 1) := by decide +kernel
theorem d18_47 : decode method_2_code 47 = .ok (.ldc2_w 15, 3) := by decide +kernel
theorem d18_50 : decode method_2_code 50 = .ok (.lcmp, 1) := by decide +kernel
theorem d18_51 : decode method_2_code 51 = .ok (.ifCond .ge 5, 3) := by decide +kernel
theorem d18_54 : decode method_2_code 54 = .ok (.iconst 4, 1) := by decide +kernel
theorem d18_55 : decode method_2_code 55 = .ok (.ireturn, 1) := by decide +kernel
theorem d18_56 : decode method_2_code 56 = .ok (.iconst 5, 1) := by decide +kernel
theorem d18_57 : decode method_2_code 57 = .ok (.ireturn, 1) := by decide +kernel
theorem pn_18 : plainFor (⟨"com/example/partwise/partwise/CompactThriftResetPinLaw", "varLen", "(I)I"⟩ : MethodName) = true := by first | exact plainFor_of_name (by first | (simp [plainName, overriddenIn]; done) | decide +kernel) | decide +kernel
def g18_1 (p1 : Int32) : Int32 := ((p1 <<< ((1 : Int32) &&& 31)) ^^^ (p1 >>> ((31 : Int32) &&& 31)))
def g18_2 (p1 : Int32) : Int64 := (((g18_1 p1).toInt64) &&& (4294967295 : Int64))
def f18 (p1 : Int32) : Int32 := (if (g18_2 p1) < (128 : Int64) then (1 : Int32) else (if (g18_2 p1) < (16384 : Int64) then (2 : Int32) else (if (g18_2 p1) < (2097152 : Int64) then (3 : Int32) else (if (g18_2 p1) < (268435456 : Int64) then (4 : Int32) else (5 : Int32)))))
theorem ef_18 (m : MethodId) (p1 : Int32) : entryFrame m #[(.int p1)] 4 = (mkF m 0 #[.val (.int p1), .unset, .unset, .unset] []) := by first | (simp [entryFrame, mkF, argsToLocals, Value.category]; done) | rfl
abbrev Q18 (Z : State) (p1 : Int32) (h0 : Heap)  : Option Value → Heap → List Loc → Prop := (fun v h L => v = some (.int (f18 p1)) ∧ L = [] ∧ h = h0)
set_option maxRecDepth 65536 in
set_option maxHeartbeats 40000000 in
theorem rm18 (l : Launch) (Z : State) (a0 : Array Value) (hw : ∀ d ∈ tables_1, d.before a0 Z = true) (ws : List Jvm.Cond) (p1 : Int32) (h0 : Heap)  :
    OMet l Z (⟨"com/example/partwise/partwise/CompactThriftResetPinLaw", "varLen", "(I)I"⟩ : MethodName) method_2_code 4 (some .int) ws ({ frames := 0, cells := 0, slots := 0, locals := 0 } : Room) #[(.int p1)] h0 (Q18 Z p1 h0) := by
  refine own_enter pn_18 ?_
  intro p e s m below meth c s₁ hx hby hml0 hown hret hlk hnm hZ X0 e0
  have hml : c.maxLocals = 4 := hml0
  refine own_cast (ef_18 m p1) ?_
  show OG p e ({ frames := 0, cells := 0, slots := 0, locals := 0 } : Room) s below (fun v h L => v = some (.int (f18 p1)) ∧ L = [] ∧ h = h0) s₁ (mkF m 0 #[.val (.int p1), .unset, .unset, .unset] [])
  refine own_st (fun t k => XS.iloadN X0.here hx rfl (hb hby d18_0) rfl k) ?_
  show OG p e _ s below _ s₁ (mkF m 1 #[.val (.int p1), .unset, .unset, .unset] [(.int p1)])
  refine own_st (fun t k => XS.iconst X0.here hx rfl (hb hby d18_1) k) ?_
  show OG p e _ s below _ s₁ (mkF m 2 #[.val (.int p1), .unset, .unset, .unset] [(.int (1 : Int32)), (.int p1)])
  refine own_st (fun t k => XS.ishl X0.here hx rfl (hb hby d18_2) rfl k) ?_
  show OG p e _ s below _ s₁ (mkF m 3 #[.val (.int p1), .unset, .unset, .unset] [(.int (p1 <<< ((1 : Int32) &&& 31)))])
  refine own_st (fun t k => XS.iloadN X0.here hx rfl (hb hby d18_3) rfl k) ?_
  show OG p e _ s below _ s₁ (mkF m 4 #[.val (.int p1), .unset, .unset, .unset] [(.int p1), (.int (p1 <<< ((1 : Int32) &&& 31)))])
  refine own_st (fun t k => XS.bipush X0.here hx rfl (hb hby d18_4) k) ?_
  show OG p e _ s below _ s₁ (mkF m 6 #[.val (.int p1), .unset, .unset, .unset] [(.int (31 : Int32)), (.int p1), (.int (p1 <<< ((1 : Int32) &&& 31)))])
  refine own_st (fun t k => XS.ishr X0.here hx rfl (hb hby d18_6) rfl k) ?_
  show OG p e _ s below _ s₁ (mkF m 7 #[.val (.int p1), .unset, .unset, .unset] [(.int (p1 >>> ((31 : Int32) &&& 31))), (.int (p1 <<< ((1 : Int32) &&& 31)))])
  refine own_st (fun t k => XS.ixor X0.here hx rfl (hb hby d18_7) rfl k) ?_
  show OG p e _ s below _ s₁ (mkF m 8 #[.val (.int p1), .unset, .unset, .unset] [(.int ((p1 <<< ((1 : Int32) &&& 31)) ^^^ (p1 >>> ((31 : Int32) &&& 31))))])
  refine own_st (fun t k => XS.istoreN X0.here hx rfl (hb hby d18_8) rfl (l' := #[.val (.int p1), .val (.int (g18_1 p1)), .unset, .unset]) rfl k) ?_
  show OG p e _ s below _ s₁ (mkF m 9 #[.val (.int p1), .val (.int (g18_1 p1)), .unset, .unset] [])
  refine own_st (fun t k => XS.iloadN X0.here hx rfl (hb hby d18_9) rfl k) ?_
  show OG p e _ s below _ s₁ (mkF m 10 #[.val (.int p1), .val (.int (g18_1 p1)), .unset, .unset] [(.int (g18_1 p1))])
  refine own_st (fun t k => XS.i2l X0.here hx rfl (hb hby d18_10) rfl k) ?_
  show OG p e _ s below _ s₁ (mkF m 11 #[.val (.int p1), .val (.int (g18_1 p1)), .unset, .unset] [(.long ((g18_1 p1).toInt64))])
  refine own_st (fun t k => X0.ldc2Long hx hown (mvT hZ (hw _ (List.mem_of_getElem? (i := 104) rfl))) (g := (mkF m 11 #[.val (.int p1), .val (.int (g18_1 p1)), .unset, .unset] [(.long ((g18_1 p1).toInt64))])) rfl (hb hby d18_11) _ k) ?_
  show OG p e _ s below _ s₁ (mkF m 14 #[.val (.int p1), .val (.int (g18_1 p1)), .unset, .unset] [(.long (4294967295 : Int64)), (.long ((g18_1 p1).toInt64))])
  refine own_st (fun t k => XS.land X0.here hx rfl (hb hby d18_14) rfl k) ?_
  show OG p e _ s below _ s₁ (mkF m 15 #[.val (.int p1), .val (.int (g18_1 p1)), .unset, .unset] [(.long (((g18_1 p1).toInt64) &&& (4294967295 : Int64)))])
  refine own_st (fun t k => XS.lstoreN X0.here hx rfl (hb hby d18_15) rfl (l' := #[.val (.int p1), .val (.int (g18_1 p1)), .val (.long (g18_2 p1)), .second]) rfl k) ?_
  show OG p e _ s below _ s₁ (mkF m 16 #[.val (.int p1), .val (.int (g18_1 p1)), .val (.long (g18_2 p1)), .second] [])
  refine own_st (fun t k => XS.lloadN X0.here hx rfl (hb hby d18_16) rfl k) ?_
  show OG p e _ s below _ s₁ (mkF m 17 #[.val (.int p1), .val (.int (g18_1 p1)), .val (.long (g18_2 p1)), .second] [(.long (g18_2 p1))])
  refine own_st (fun t k => X0.ldc2Long hx hown (mvT hZ (hw _ (List.mem_of_getElem? (i := 105) rfl))) (g := (mkF m 17 #[.val (.int p1), .val (.int (g18_1 p1)), .val (.long (g18_2 p1)), .second] [(.long (g18_2 p1))])) rfl (hb hby d18_17) _ k) ?_
  show OG p e _ s below _ s₁ (mkF m 20 #[.val (.int p1), .val (.int (g18_1 p1)), .val (.long (g18_2 p1)), .second] [(.long (128 : Int64)), (.long (g18_2 p1))])
  refine own_st (fun t k => XS.lcmp X0.here hx rfl (hb hby d18_20) rfl k) ?_
  show OG p e _ s below _ s₁ (mkF m 21 #[.val (.int p1), .val (.int (g18_1 p1)), .val (.long (g18_2 p1)), .second] [(.int (lcmpW (g18_2 p1) (128 : Int64)))])
  by_cases c1 : (g18_2 p1) < (128 : Int64)
  · refine own_st (fun t k => XS.ifNo X0.here hx rfl (hb hby d18_21) rfl (own_if0 (tlt ((lw_lt _ _).mpr c1)).2.1) k) ?_
    show OG p e _ s below _ s₁ (mkF m 24 #[.val (.int p1), .val (.int (g18_1 p1)), .val (.long (g18_2 p1)), .second] [])
    refine own_st (fun t k => XS.iconst X0.here hx rfl (hb hby d18_24) k) ?_
    show OG p e _ s below _ s₁ (mkF m 25 #[.val (.int p1), .val (.int (g18_1 p1)), .val (.long (g18_2 p1)), .second] [(.int (1 : Int32))])
    exact own_retI X0 hx hret hlk (hb hby d18_25) (by decide) (by decide) ⟨congrArg (fun z => some (Value.int z)) (show f18 p1 = (1 : Int32) from (by rw [f18, if_pos c1])).symm, rfl, e0⟩
  · refine own_st (fun t k => XS.ifYes X0.here hx rfl (pc0 := 21) (pc' := 26) rfl (hb hby d18_21) rfl (own_if0 (flt (fun q => c1 ((lw_lt _ _).mp q))).2.1) (by decide) (by decide) k) ?_
    show OG p e _ s below _ s₁ (mkF m 26 #[.val (.int p1), .val (.int (g18_1 p1)), .val (.long (g18_2 p1)), .second] [])
    refine own_st (fun t k => XS.lloadN X0.here hx rfl (hb hby d18_26) rfl k) ?_
    show OG p e _ s below _ s₁ (mkF m 27 #[.val (.int p1), .val (.int (g18_1 p1)), .val (.long (g18_2 p1)), .second] [(.long (g18_2 p1))])
    refine own_st (fun t k => X0.ldc2Long hx hown (mvT hZ (hw _ (List.mem_of_getElem? (i := 107) rfl))) (g := (mkF m 27 #[.val (.int p1), .val (.int (g18_1 p1)), .val (.long (g18_2 p1)), .second] [(.long (g18_2 p1))])) rfl (hb hby d18_27) _ k) ?_
    show OG p e _ s below _ s₁ (mkF m 30 #[.val (.int p1), .val (.int (g18_1 p1)), .val (.long (g18_2 p1)), .second] [(.long (16384 : Int64)), (.long (g18_2 p1))])
    refine own_st (fun t k => XS.lcmp X0.here hx rfl (hb hby d18_30) rfl k) ?_
    show OG p e _ s below _ s₁ (mkF m 31 #[.val (.int p1), .val (.int (g18_1 p1)), .val (.long (g18_2 p1)), .second] [(.int (lcmpW (g18_2 p1) (16384 : Int64)))])
    by_cases c2 : (g18_2 p1) < (16384 : Int64)
    · refine own_st (fun t k => XS.ifNo X0.here hx rfl (hb hby d18_31) rfl (own_if0 (tlt ((lw_lt _ _).mpr c2)).2.1) k) ?_
      show OG p e _ s below _ s₁ (mkF m 34 #[.val (.int p1), .val (.int (g18_1 p1)), .val (.long (g18_2 p1)), .second] [])
      refine own_st (fun t k => XS.iconst X0.here hx rfl (hb hby d18_34) k) ?_
      show OG p e _ s below _ s₁ (mkF m 35 #[.val (.int p1), .val (.int (g18_1 p1)), .val (.long (g18_2 p1)), .second] [(.int (2 : Int32))])
      exact own_retI X0 hx hret hlk (hb hby d18_35) (by decide) (by decide) ⟨congrArg (fun z => some (Value.int z)) (show f18 p1 = (2 : Int32) from (by rw [f18, if_neg c1, if_pos c2])).symm, rfl, e0⟩
    · refine own_st (fun t k => XS.ifYes X0.here hx rfl (pc0 := 31) (pc' := 36) rfl (hb hby d18_31) rfl (own_if0 (flt (fun q => c2 ((lw_lt _ _).mp q))).2.1) (by decide) (by decide) k) ?_
      show OG p e _ s below _ s₁ (mkF m 36 #[.val (.int p1), .val (.int (g18_1 p1)), .val (.long (g18_2 p1)), .second] [])
      refine own_st (fun t k => XS.lloadN X0.here hx rfl (hb hby d18_36) rfl k) ?_
      show OG p e _ s below _ s₁ (mkF m 37 #[.val (.int p1), .val (.int (g18_1 p1)), .val (.long (g18_2 p1)), .second] [(.long (g18_2 p1))])
      refine own_st (fun t k => X0.ldc2Long hx hown (mvT hZ (hw _ (List.mem_of_getElem? (i := 108) rfl))) (g := (mkF m 37 #[.val (.int p1), .val (.int (g18_1 p1)), .val (.long (g18_2 p1)), .second] [(.long (g18_2 p1))])) rfl (hb hby d18_37) _ k) ?_
      show OG p e _ s below _ s₁ (mkF m 40 #[.val (.int p1), .val (.int (g18_1 p1)), .val (.long (g18_2 p1)), .second] [(.long (2097152 : Int64)), (.long (g18_2 p1))])
      refine own_st (fun t k => XS.lcmp X0.here hx rfl (hb hby d18_40) rfl k) ?_
      show OG p e _ s below _ s₁ (mkF m 41 #[.val (.int p1), .val (.int (g18_1 p1)), .val (.long (g18_2 p1)), .second] [(.int (lcmpW (g18_2 p1) (2097152 : Int64)))])
      by_cases c3 : (g18_2 p1) < (2097152 : Int64)
      · refine own_st (fun t k => XS.ifNo X0.here hx rfl (hb hby d18_41) rfl (own_if0 (tlt ((lw_lt _ _).mpr c3)).2.1) k) ?_
        show OG p e _ s below _ s₁ (mkF m 44 #[.val (.int p1), .val (.int (g18_1 p1)), .val (.long (g18_2 p1)), .second] [])
        refine own_st (fun t k => XS.iconst X0.here hx rfl (hb hby d18_44) k) ?_
        show OG p e _ s below _ s₁ (mkF m 45 #[.val (.int p1), .val (.int (g18_1 p1)), .val (.long (g18_2 p1)), .second] [(.int (3 : Int32))])
        exact own_retI X0 hx hret hlk (hb hby d18_45) (by decide) (by decide) ⟨congrArg (fun z => some (Value.int z)) (show f18 p1 = (3 : Int32) from (by rw [f18, if_neg c1, if_neg c2, if_pos c3])).symm, rfl, e0⟩
      · refine own_st (fun t k => XS.ifYes X0.here hx rfl (pc0 := 41) (pc' := 46) rfl (hb hby d18_41) rfl (own_if0 (flt (fun q => c3 ((lw_lt _ _).mp q))).2.1) (by decide) (by decide) k) ?_
        show OG p e _ s below _ s₁ (mkF m 46 #[.val (.int p1), .val (.int (g18_1 p1)), .val (.long (g18_2 p1)), .second] [])
        refine own_st (fun t k => XS.lloadN X0.here hx rfl (hb hby d18_46) rfl k) ?_
        show OG p e _ s below _ s₁ (mkF m 47 #[.val (.int p1), .val (.int (g18_1 p1)), .val (.long (g18_2 p1)), .second] [(.long (g18_2 p1))])
        refine own_st (fun t k => X0.ldc2Long hx hown (mvT hZ (hw _ (List.mem_of_getElem? (i := 109) rfl))) (g := (mkF m 47 #[.val (.int p1), .val (.int (g18_1 p1)), .val (.long (g18_2 p1)), .second] [(.long (g18_2 p1))])) rfl (hb hby d18_47) _ k) ?_
        show OG p e _ s below _ s₁ (mkF m 50 #[.val (.int p1), .val (.int (g18_1 p1)), .val (.long (g18_2 p1)), .second] [(.long (268435456 : Int64)), (.long (g18_2 p1))])
        refine own_st (fun t k => XS.lcmp X0.here hx rfl (hb hby d18_50) rfl k) ?_
        show OG p e _ s below _ s₁ (mkF m 51 #[.val (.int p1), .val (.int (g18_1 p1)), .val (.long (g18_2 p1)), .second] [(.int (lcmpW (g18_2 p1) (268435456 : Int64)))])
        by_cases c4 : (g18_2 p1) < (268435456 : Int64)
        · refine own_st (fun t k => XS.ifNo X0.here hx rfl (hb hby d18_51) rfl (own_if0 (tlt ((lw_lt _ _).mpr c4)).2.1) k) ?_
          show OG p e _ s below _ s₁ (mkF m 54 #[.val (.int p1), .val (.int (g18_1 p1)), .val (.long (g18_2 p1)), .second] [])
          refine own_st (fun t k => XS.iconst X0.here hx rfl (hb hby d18_54) k) ?_
          show OG p e _ s below _ s₁ (mkF m 55 #[.val (.int p1), .val (.int (g18_1 p1)), .val (.long (g18_2 p1)), .second] [(.int (4 : Int32))])
          exact own_retI X0 hx hret hlk (hb hby d18_55) (by decide) (by decide) ⟨congrArg (fun z => some (Value.int z)) (show f18 p1 = (4 : Int32) from (by rw [f18, if_neg c1, if_neg c2, if_neg c3, if_pos c4])).symm, rfl, e0⟩
        · refine own_st (fun t k => XS.ifYes X0.here hx rfl (pc0 := 51) (pc' := 56) rfl (hb hby d18_51) rfl (own_if0 (flt (fun q => c4 ((lw_lt _ _).mp q))).2.1) (by decide) (by decide) k) ?_
          show OG p e _ s below _ s₁ (mkF m 56 #[.val (.int p1), .val (.int (g18_1 p1)), .val (.long (g18_2 p1)), .second] [])
          refine own_st (fun t k => XS.iconst X0.here hx rfl (hb hby d18_56) k) ?_
          show OG p e _ s below _ s₁ (mkF m 57 #[.val (.int p1), .val (.int (g18_1 p1)), .val (.long (g18_2 p1)), .second] [(.int (5 : Int32))])
          exact own_retI X0 hx hret hlk (hb hby d18_57) (by decide) (by decide) ⟨congrArg (fun z => some (Value.int z)) (show f18 p1 = (5 : Int32) from (by rw [f18, if_neg c1, if_neg c2, if_neg c3, if_neg c4])).symm, rfl, e0⟩
theorem pd__I_I : parseMethodDescriptor "(I)I" = some ⟨[.int], some .int⟩ := by decide +kernel
theorem pn_0 : plainFor (⟨"com/example/partwise/partwise/CompactThriftResetPinLaw", "law", "(IIIIII)Z"⟩ : MethodName) = true := by first | exact plainFor_of_name (by first | (simp [plainName, overriddenIn]; done) | decide +kernel) | decide +kernel
def g0_1 (p1 : Int32) (p2 : Int32) (p3 : Int32) (p4 : Int32) (p5 : Int32) (p6 : Int32) : Int32 := ((1 : Int32) + ((p1 &&& (2147483647 : Int32)) % (15 : Int32)))
def g0_2 (p1 : Int32) (p2 : Int32) (p3 : Int32) (p4 : Int32) (p5 : Int32) (p6 : Int32) : Int32 := (if (f16 (0 : Int32)) = (0 : Int32) then (1 : Int32) else (0 : Int32))
def g0_3 (p1 : Int32) (p2 : Int32) (p3 : Int32) (p4 : Int32) (p5 : Int32) (p6 : Int32) : Int32 := ((1 : Int32) + ((p2 &&& (2147483647 : Int32)) % (15 : Int32)))
def g0_4 (p1 : Int32) (p2 : Int32) (p3 : Int32) (p4 : Int32) (p5 : Int32) (p6 : Int32) : Int32 := (((g0_3 p1 p2 p3 p4 p5 p6) + (1 : Int32)) + ((p5 &&& (2147483647 : Int32)) % (15 : Int32)))
def g0_5 (p1 : Int32) (p2 : Int32) (p3 : Int32) (p4 : Int32) (p5 : Int32) (p6 : Int32) : Int32 := (((((1 : Int32) + (f18 p3)) + (1 : Int32)) + (1 : Int32)) + (f18 p4))
def f0 (p1 : Int32) (p2 : Int32) (p3 : Int32) (p4 : Int32) (p5 : Int32) (p6 : Int32) : Int32 := (if (p6 &&& (1 : Int32)) = (0 : Int32) then (if (g0_2 p1 p2 p3 p4 p5 p6) = (0 : Int32) then (0 : Int32) else (if (f16 (f10 (f9 ((p4 <<< ((1 : Int32) &&& 31)) ^^^ (p4 >>> ((31 : Int32) &&& 31)))) (((f10 (f9 ((p3 <<< ((1 : Int32) &&& 31)) ^^^ (p3 >>> ((31 : Int32) &&& 31)))) (1 : Int32)) + (1 : Int32)) + (1 : Int32)))) = (g0_5 p1 p2 p3 p4 p5 p6) then (1 : Int32) else (0 : Int32))) else (if (p6 &&& (2 : Int32)) = (0 : Int32) then (if (g0_2 p1 p2 p3 p4 p5 p6) = (0 : Int32) then (0 : Int32) else (if (f16 (f10 (f9 ((p4 <<< ((1 : Int32) &&& 31)) ^^^ (p4 >>> ((31 : Int32) &&& 31)))) (((f10 (f9 ((p3 <<< ((1 : Int32) &&& 31)) ^^^ (p3 >>> ((31 : Int32) &&& 31)))) (1 : Int32)) + (1 : Int32)) + (1 : Int32)))) = (g0_5 p1 p2 p3 p4 p5 p6) then (1 : Int32) else (0 : Int32))) else (if (g0_2 p1 p2 p3 p4 p5 p6) = (0 : Int32) then (0 : Int32) else (if (f16 (f10 (f9 ((p4 <<< ((1 : Int32) &&& 31)) ^^^ (p4 >>> ((31 : Int32) &&& 31)))) (((f10 (f9 ((p3 <<< ((1 : Int32) &&& 31)) ^^^ (p3 >>> ((31 : Int32) &&& 31)))) (1 : Int32)) + (1 : Int32)) + (1 : Int32)))) = (g0_5 p1 p2 p3 p4 p5 p6) then (1 : Int32) else (0 : Int32)))))
theorem own_rem15 (x : Int32) : 0 ≤ ((x &&& 2147483647) % 15 : Int32).toInt ∧ ((x &&& 2147483647) % 15 : Int32).toInt < 15 := by
  have h1 := c_mask x 2147483647 31 (by decide) (by decide)
  have h2 := (c_irem (x &&& 2147483647) 15 15 (by decide)).1
  have hr := rng32 x
  rw [h1] at h2
  rw [h2 (by omega)]; omega
theorem own_dist (a b : Int32) (h1 : 1 ≤ a.toInt - b.toInt) (h2 : a.toInt - b.toInt ≤ 15) : ¬ (a - b) < (1 : Int32) ∧ ¬ (15 : Int32) < (a - b) := by
  have s := c_isub a b
  have r := rng32 (a - b)
  have k1 : (1 : Int32).toInt = 1 := by decide
  have k15 : (15 : Int32).toInt = 15 := by decide
  rw [Int32.lt_iff_toInt_lt, Int32.lt_iff_toInt_lt, k1, k15]
  omega
theorem own_one (x : Int32) : ((1 : Int32) + ((x &&& 2147483647) % 15)).toInt = 1 + ((x &&& 2147483647) % 15 : Int32).toInt := by
  have h := own_rem15 x
  have s := c_iadd 1 ((x &&& 2147483647) % 15)
  have r := rng32 ((1 : Int32) + ((x &&& 2147483647) % 15))
  have k1 : (1 : Int32).toInt = 1 := by decide
  rw [k1] at s
  omega
theorem own_da (p1 p2 p3 p4 p5 p6 : Int32) : ¬ ((g0_1 p1 p2 p3 p4 p5 p6) - (0 : Int32)) < (1 : Int32) ∧ ¬ (15 : Int32) < ((g0_1 p1 p2 p3 p4 p5 p6) - (0 : Int32)) := by
  have h := own_rem15 p1
  have e := own_one p1
  have k0 : (0 : Int32).toInt = 0 := by decide
  exact own_dist _ _ (by rw [g0_1, e, k0]; omega) (by rw [g0_1, e, k0]; omega)
theorem own_db (p1 p2 p3 p4 p5 p6 : Int32) : ¬ (((g0_1 p1 p2 p3 p4 p5 p6) + (15 : Int32)) - (g0_1 p1 p2 p3 p4 p5 p6)) < (1 : Int32) ∧ ¬ (15 : Int32) < (((g0_1 p1 p2 p3 p4 p5 p6) + (15 : Int32)) - (g0_1 p1 p2 p3 p4 p5 p6)) := by
  have h := own_rem15 p1
  have e := own_one p1
  have k15 : (15 : Int32).toInt = 15 := by decide
  have s := c_iadd (g0_1 p1 p2 p3 p4 p5 p6) 15
  have r := rng32 ((g0_1 p1 p2 p3 p4 p5 p6) + 15)
  have e' : (g0_1 p1 p2 p3 p4 p5 p6).toInt = 1 + ((p1 &&& 2147483647) % 15 : Int32).toInt := e
  rw [k15] at s
  exact own_dist _ _ (by omega) (by omega)
theorem own_dc (p1 p2 p3 p4 p5 p6 : Int32) : ¬ ((g0_3 p1 p2 p3 p4 p5 p6) - (0 : Int32)) < (1 : Int32) ∧ ¬ (15 : Int32) < ((g0_3 p1 p2 p3 p4 p5 p6) - (0 : Int32)) := by
  have h := own_rem15 p2
  have e := own_one p2
  have k0 : (0 : Int32).toInt = 0 := by decide
  exact own_dist _ _ (by rw [g0_3, e, k0]; omega) (by rw [g0_3, e, k0]; omega)
theorem own_dd (p1 p2 p3 p4 p5 p6 : Int32) : ¬ ((g0_4 p1 p2 p3 p4 p5 p6) - (g0_3 p1 p2 p3 p4 p5 p6)) < (1 : Int32) ∧ ¬ (15 : Int32) < ((g0_4 p1 p2 p3 p4 p5 p6) - (g0_3 p1 p2 p3 p4 p5 p6)) := by
  have h2 := own_rem15 p2
  have h := own_rem15 p5
  have e' : (g0_3 p1 p2 p3 p4 p5 p6).toInt = 1 + ((p2 &&& 2147483647) % 15 : Int32).toInt := own_one p2
  have k1 : (1 : Int32).toInt = 1 := by decide
  have s1 := c_iadd (g0_3 p1 p2 p3 p4 p5 p6) 1
  have r1 := rng32 ((g0_3 p1 p2 p3 p4 p5 p6) + 1)
  have s2 := c_iadd ((g0_3 p1 p2 p3 p4 p5 p6) + 1) ((p5 &&& 2147483647) % 15)
  have r2 := rng32 (((g0_3 p1 p2 p3 p4 p5 p6) + 1) + ((p5 &&& 2147483647) % 15))
  rw [k1] at s1
  exact own_dist _ _ (by rw [g0_4]; omega) (by rw [g0_4]; omega)
theorem ef_0 (m : MethodId) (p1 : Int32) (p2 : Int32) (p3 : Int32) (p4 : Int32) (p5 : Int32) (p6 : Int32) : entryFrame m #[(.int p1), (.int p2), (.int p3), (.int p4), (.int p5), (.int p6)] 12 = (mkF m 0 #[.val (.int p1), .val (.int p2), .val (.int p3), .val (.int p4), .val (.int p5), .val (.int p6), .unset, .unset, .unset, .unset, .unset, .unset] []) := by first | (simp [entryFrame, mkF, argsToLocals, Value.category]; done) | rfl
abbrev Q0 (Z : State) (p1 : Int32) (p2 : Int32) (p3 : Int32) (p4 : Int32) (p5 : Int32) (p6 : Int32) (h0 : Heap) (n0 : Nat) : Option Value → Heap → List Loc → Prop := (fun v h L => v = some (.int (f0 p1 p2 p3 p4 p5 p6)) ∧ Fr n0 L)
set_option maxRecDepth 65536 in
set_option maxHeartbeats 40000000 in
theorem rm0 (l : Launch) (Z : State) (a0 : Array Value) (hw : ∀ d ∈ tables_1, d.before a0 Z = true) (ws : List Jvm.Cond) (p1 : Int32) (p2 : Int32) (p3 : Int32) (p4 : Int32) (p5 : Int32) (p6 : Int32) (h0 : Heap) (n0 : Nat) (Z0 : n0 ≤ h0.size) :
    OMet l Z x code maxLocals ret ws room_1 #[(.int p1), (.int p2), (.int p3), (.int p4), (.int p5), (.int p6)] h0 (Q0 Z p1 p2 p3 p4 p5 p6 h0 n0) := by
  refine own_enter pn_0 ?_
  intro p e s m below meth c s₁ hx hby hml0 hown hret hlk hnm hZ X0 e0
  have hml : c.maxLocals = 12 := hml0
  have N0 := Fr.nil n0
  refine own_cast (ef_0 m p1 p2 p3 p4 p5 p6) ?_
  show OG p e room_1 s below (fun v h L => v = some (.int (f0 p1 p2 p3 p4 p5 p6)) ∧ Fr n0 L) s₁ (mkF m 0 #[.val (.int p1), .val (.int p2), .val (.int p3), .val (.int p4), .val (.int p5), .val (.int p6), .unset, .unset, .unset, .unset, .unset, .unset] [])
  obtain ⟨T1, h1, X1, e1, E1, A1, D1, -, st1⟩ := newO X0 hx hZ hown (hw _ (List.mem_of_getElem? (i := 0) rfl)) (hw _ (List.mem_of_getElem? (i := 1) rfl)) (hw _ (List.mem_of_getElem? (i := 2) rfl)) e0 (g := (mkF m 0 #[.val (.int p1), .val (.int p2), .val (.int p3), .val (.int p4), .val (.int p5), .val (.int p6), .unset, .unset, .unset, .unset, .unset, .unset] [])) rfl (hb hby at_0) (by decide) (by decide)
  obtain ⟨o1, gb1⟩ : ∃ z, z = h0.size := ⟨_, rfl⟩
  rw [← gb1] at A1 D1 st1
  refine own_st st1 ?_
  have ge_o1 : n0 ≤ o1 := by rw [gb1]; exact Nat.le_trans Z0 (Keep.refl h0 []).1
  have sz_o1 : h0.size ≤ o1 := by rw [gb1]; exact (Keep.refl h0 []).1
  have K2 : Keep h0 h1 [] := (Keep.refl h0 []).ext E1
  have F3 : Fld Z h1 o1 "com/example/partwise/partwise/CompactThrift" "enclosing" "[I" .null := D1 (Or.inl (hw _ (List.mem_of_getElem? (i := 23) rfl))) (ty := (.array .int)) (by decide)
  have F4 : Fld Z h1 o1 "com/example/partwise/partwise/CompactThrift" "lastField" "I" (.int (0 : Int32)) := D1 (Or.inl (hw _ (List.mem_of_getElem? (i := 35) rfl))) (ty := .int) (by decide)
  have F5 : Fld Z h1 o1 "com/example/partwise/partwise/CompactThrift" "depth" "I" (.int (0 : Int32)) := D1 (Or.inl (hw _ (List.mem_of_getElem? (i := 74) rfl))) (ty := .int) (by decide)
  have F6 : Fld Z h1 o1 "com/example/partwise/partwise/CompactThrift" "bytes" "Lcom/example/partwise/partwise/ByteBuilder;" .null := D1 (Or.inr (hw _ (List.mem_of_getElem? (i := 20) rfl))) (ty := (.object "com/example/partwise/partwise/ByteBuilder")) (by decide)
  show OG p e _ s below _ T1 (mkF m 3 #[.val (.int p1), .val (.int p2), .val (.int p3), .val (.int p4), .val (.int p5), .val (.int p6), .unset, .unset, .unset, .unset, .unset, .unset] [(.ref o1)])
  refine own_st (fun t k => XS.dup X1.here hx rfl (hb hby at_3) rfl rfl k) ?_
  show OG p e _ s below _ T1 (mkF m 4 #[.val (.int p1), .val (.int p2), .val (.int p3), .val (.int p4), .val (.int p5), .val (.int p6), .unset, .unset, .unset, .unset, .unset, .unset] [(.ref o1), (.ref o1)])
  obtain ⟨_, _, ⟨T7, L7, k7, n7⟩, -, X7, ⟨Lc7, hQ7, l7, y7, z7⟩, st7⟩ := X1.specialBack hx (y := (⟨"com/example/partwise/partwise/CompactThrift", "<init>", "()V"⟩ : MethodName)) rfl hown (mvT hZ (hw _ (List.mem_of_getElem? (i := 3) rfl))) (mvT hZ (hw _ (List.mem_of_getElem? (i := 4) rfl))) (mvT hZ (hw _ (List.mem_of_getElem? (i := 5) rfl))) (by decide) (backOf (W := 1) (rm := ({ frames := 2, cells := 3, slots := 266, locals := 27 } : Room)) (rm1 l Z a0 hw [] o1 h1 n0 (Nat.le_trans Z0 K2.1) A1 F6 F3 F4 F5 ge_o1) hZ (hw _ (List.mem_of_getElem? (i := 5) rfl)) (hw _ (List.mem_of_getElem? (i := 2) rfl)) (by decide) (by decide)) (g := (mkF m 4 #[.val (.int p1), .val (.int p2), .val (.int p3), .val (.int p4), .val (.int p5), .val (.int p6), .unset, .unset, .unset, .unset, .unset, .unset] [(.ref o1), (.ref o1)])) rfl (by rw [hml]; rfl) (Steps.refl _) (a := o1) (argsL := []) (rest := [(.ref o1)]) (lenOf pd___V rfl) rfl (by show 2 * 0 + _ ≤ _; exact Nat.le_of_eq rfl) (hb hby at_4) (fun _ _ => ⟨rfl, e1, (by decide : 1 + 3 ≤ _), (by decide : 4 + 266 ≤ _)⟩)
  dsimp only [Pt.U, Pt.locs, Pt.cells, Pt.slots] at X7 l7 y7 z7 st7 hQ7
  subst l7 y7 z7
  obtain ⟨rfl, N7q, K7q, bb_7, buf_7, enc_7, sz_bb_7, sz_buf_7, sz_enc_7, nx7_0, nx7_1, nx7_2, P7_0, P7_1, P7_2, P7_3, P7_4, P7_5, P7_6, P7_7, P7_8, P7_9⟩ := hQ7
  refine own_st (fun t k => st7.trans k) ?_
  have N7 := Fr.app N0 N7q
  have ge_bb_7 : n0 ≤ bb_7 := Nat.le_trans (Nat.le_trans Z0 K2.1) sz_bb_7
  have sy_bb_7 : h0.size ≤ bb_7 := Nat.le_trans K2.1 sz_bb_7
  have ne_o1_bb_7 : o1 ≠ bb_7 := Nat.ne_of_lt (Nat.lt_of_lt_of_le A1.lt sz_bb_7)
  have ge_buf_7 : n0 ≤ buf_7 := Nat.le_trans (Nat.le_trans Z0 K2.1) sz_buf_7
  have sy_buf_7 : h0.size ≤ buf_7 := Nat.le_trans K2.1 sz_buf_7
  have ne_o1_buf_7 : o1 ≠ buf_7 := Nat.ne_of_lt (Nat.lt_of_lt_of_le A1.lt sz_buf_7)
  have ge_enc_7 : n0 ≤ enc_7 := Nat.le_trans (Nat.le_trans Z0 K2.1) sz_enc_7
  have sy_enc_7 : h0.size ≤ enc_7 := Nat.le_trans K2.1 sz_enc_7
  have ne_o1_enc_7 : o1 ≠ enc_7 := Nat.ne_of_lt (Nat.lt_of_lt_of_le A1.lt sz_enc_7)
  have K7 : Keep h0 T7.heap [] := K2.trans K7q (own_all1 (Or.inr sz_o1))
  show OG p e _ s below _ T7 (mkF m 7 #[.val (.int p1), .val (.int p2), .val (.int p3), .val (.int p4), .val (.int p5), .val (.int p6), .unset, .unset, .unset, .unset, .unset, .unset] [(.ref o1)])
  refine own_st (fun t k => XS.astore X7.here hx rfl (hb hby at_7) rfl rfl (l' := #[.val (.int p1), .val (.int p2), .val (.int p3), .val (.int p4), .val (.int p5), .val (.int p6), .val (.ref o1), .unset, .unset, .unset, .unset, .unset]) rfl k) ?_
  show OG p e _ s below _ T7 (mkF m 9 #[.val (.int p1), .val (.int p2), .val (.int p3), .val (.int p4), .val (.int p5), .val (.int p6), .val (.ref o1), .unset, .unset, .unset, .unset, .unset] [])
  refine own_st (fun t k => XS.iconst X7.here hx rfl (hb hby at_9) k) ?_
  show OG p e _ s below _ T7 (mkF m 10 #[.val (.int p1), .val (.int p2), .val (.int p3), .val (.int p4), .val (.int p5), .val (.int p6), .val (.ref o1), .unset, .unset, .unset, .unset, .unset] [(.int (1 : Int32))])
  refine own_st (fun t k => XS.iloadN X7.here hx rfl (hb hby at_10) rfl k) ?_
  show OG p e _ s below _ T7 (mkF m 11 #[.val (.int p1), .val (.int p2), .val (.int p3), .val (.int p4), .val (.int p5), .val (.int p6), .val (.ref o1), .unset, .unset, .unset, .unset, .unset] [(.int p1), (.int (1 : Int32))])
  refine own_st (fun t k => X7.ldcInt hx hown (mvT hZ (hw _ (List.mem_of_getElem? (i := 24) rfl))) (g := (mkF m 11 #[.val (.int p1), .val (.int p2), .val (.int p3), .val (.int p4), .val (.int p5), .val (.int p6), .val (.ref o1), .unset, .unset, .unset, .unset, .unset] [(.int p1), (.int (1 : Int32))])) rfl (hb hby at_11) _ k) ?_
  show OG p e _ s below _ T7 (mkF m 13 #[.val (.int p1), .val (.int p2), .val (.int p3), .val (.int p4), .val (.int p5), .val (.int p6), .val (.ref o1), .unset, .unset, .unset, .unset, .unset] [(.int (2147483647 : Int32)), (.int p1), (.int (1 : Int32))])
  refine own_st (fun t k => XS.iand X7.here hx rfl (hb hby at_13) rfl k) ?_
  show OG p e _ s below _ T7 (mkF m 14 #[.val (.int p1), .val (.int p2), .val (.int p3), .val (.int p4), .val (.int p5), .val (.int p6), .val (.ref o1), .unset, .unset, .unset, .unset, .unset] [(.int (p1 &&& (2147483647 : Int32))), (.int (1 : Int32))])
  refine own_st (fun t k => XS.bipush X7.here hx rfl (hb hby at_14) k) ?_
  show OG p e _ s below _ T7 (mkF m 16 #[.val (.int p1), .val (.int p2), .val (.int p3), .val (.int p4), .val (.int p5), .val (.int p6), .val (.ref o1), .unset, .unset, .unset, .unset, .unset] [(.int (15 : Int32)), (.int (p1 &&& (2147483647 : Int32))), (.int (1 : Int32))])
  refine own_st (fun t k => iremM X7 hx rfl (hb hby at_16) rfl (by decide) k) ?_
  show OG p e _ s below _ T7 (mkF m 17 #[.val (.int p1), .val (.int p2), .val (.int p3), .val (.int p4), .val (.int p5), .val (.int p6), .val (.ref o1), .unset, .unset, .unset, .unset, .unset] [(.int ((p1 &&& (2147483647 : Int32)) % (15 : Int32))), (.int (1 : Int32))])
  refine own_st (fun t k => XS.iadd X7.here hx rfl (hb hby at_17) rfl k) ?_
  show OG p e _ s below _ T7 (mkF m 18 #[.val (.int p1), .val (.int p2), .val (.int p3), .val (.int p4), .val (.int p5), .val (.int p6), .val (.ref o1), .unset, .unset, .unset, .unset, .unset] [(.int ((1 : Int32) + ((p1 &&& (2147483647 : Int32)) % (15 : Int32))))])
  refine own_st (fun t k => XS.istore X7.here hx rfl (hb hby at_18) rfl (l' := #[.val (.int p1), .val (.int p2), .val (.int p3), .val (.int p4), .val (.int p5), .val (.int p6), .val (.ref o1), .val (.int (g0_1 p1 p2 p3 p4 p5 p6)), .unset, .unset, .unset, .unset]) rfl k) ?_
  show OG p e _ s below _ T7 (mkF m 20 #[.val (.int p1), .val (.int p2), .val (.int p3), .val (.int p4), .val (.int p5), .val (.int p6), .val (.ref o1), .val (.int (g0_1 p1 p2 p3 p4 p5 p6)), .unset, .unset, .unset, .unset] [])
  refine own_st (fun t k => XS.aload X7.here hx rfl (hb hby at_20) rfl rfl k) ?_
  show OG p e _ s below _ T7 (mkF m 22 #[.val (.int p1), .val (.int p2), .val (.int p3), .val (.int p4), .val (.int p5), .val (.int p6), .val (.ref o1), .val (.int (g0_1 p1 p2 p3 p4 p5 p6)), .unset, .unset, .unset, .unset] [(.ref o1)])
  refine own_st (fun t k => XS.iload X7.here hx rfl (hb hby at_22) rfl k) ?_
  show OG p e _ s below _ T7 (mkF m 24 #[.val (.int p1), .val (.int p2), .val (.int p3), .val (.int p4), .val (.int p5), .val (.int p6), .val (.ref o1), .val (.int (g0_1 p1 p2 p3 p4 p5 p6)), .unset, .unset, .unset, .unset] [(.int (g0_1 p1 p2 p3 p4 p5 p6)), (.ref o1)])
  refine own_st (fun t k => XS.iloadN X7.here hx rfl (hb hby at_24) rfl k) ?_
  show OG p e _ s below _ T7 (mkF m 25 #[.val (.int p1), .val (.int p2), .val (.int p3), .val (.int p4), .val (.int p5), .val (.int p6), .val (.ref o1), .val (.int (g0_1 p1 p2 p3 p4 p5 p6)), .unset, .unset, .unset, .unset] [(.int p3), (.int (g0_1 p1 p2 p3 p4 p5 p6)), (.ref o1)])
  obtain ⟨cq8, kq8, q8a, q8b, q8c⟩ := isOf hZ rfl P7_0
  obtain ⟨_, _, ⟨T8, L8, k8, n8⟩, -, X8, ⟨Lc8, hQ8, l8, y8, z8⟩, st8⟩ := X7.virtualBack hx (y := (⟨"com/example/partwise/partwise/CompactThrift", "i32", "(II)V"⟩ : MethodName)) (z := (⟨"com/example/partwise/partwise/CompactThrift", "i32", "(II)V"⟩ : MethodName)) hown (mvT hZ (hw _ (List.mem_of_getElem? (i := 25) rfl))) (mvT hZ (hw _ (List.mem_of_getElem? (i := 26) rfl))) (notFace_of_selects (args := #[]) (mvT hZ (hw _ (List.mem_of_getElem? (i := 28) rfl)))) (mvT hZ (hw _ (List.mem_of_getElem? (i := 28) rfl))) (mvT hZ (hw _ (List.mem_of_getElem? (i := 27) rfl))) (by decide) (backOf (W := 0) (rm := ({ frames := 4, cells := 0, slots := 0, locals := 55 } : Room)) (rm4 l Z a0 hw [] o1 (g0_1 p1 p2 p3 p4 p5 p6) p3 bb_7 buf_7 (0 : Int32) enc_7 (0 : Int32) (0 : Int32) T7.heap n0 P7_0 P7_1 P7_2 P7_3 P7_4 P7_5 P7_6 P7_7 P7_8 ge_o1 ge_bb_7 ge_buf_7 ne_o1_bb_7 ne_o1_buf_7 nx7_0 (OB.lit (by decide)) (own_da p1 p2 p3 p4 p5 p6).1 (own_da p1 p2 p3 p4 p5 p6).2) hZ (hw _ (List.mem_of_getElem? (i := 29) rfl)) (hw _ (List.mem_of_getElem? (i := 2) rfl)) (by decide) (by decide)) q8a q8c (g := (mkF m 25 #[.val (.int p1), .val (.int p2), .val (.int p3), .val (.int p4), .val (.int p5), .val (.int p6), .val (.ref o1), .val (.int (g0_1 p1 p2 p3 p4 p5 p6)), .unset, .unset, .unset, .unset] [(.int p3), (.int (g0_1 p1 p2 p3 p4 p5 p6)), (.ref o1)])) rfl (by rw [hml]; rfl) (Steps.refl _) (argsL := [(.int (g0_1 p1 p2 p3 p4 p5 p6)), (.int p3)]) (rest := []) (lenOf pd__II_V rfl) rfl (by show 2 * 0 + _ ≤ _; exact Nat.le_of_eq rfl) (hb hby at_25) (fun _ _ => ⟨rfl, rfl, (by decide : 4 + 0 ≤ _), (by decide : 270 + 0 ≤ _)⟩)
  dsimp only [Pt.U, Pt.locs, Pt.cells, Pt.slots] at X8 l8 y8 z8 st8 hQ8
  subst l8 y8 z8
  obtain ⟨rfl, N8q, K8q, P8_0, P8_1, P8_2, P8_3, P8_4, P8_5, P8_6, P8_7, P8_8⟩ := hQ8
  refine own_st (fun t k => st8.trans k) ?_
  have N8 := Fr.app N7 N8q
  have K8 : Keep h0 T8.heap [] := K7.trans K8q (own_all3 (Or.inr sz_o1) (Or.inr sy_bb_7) (Or.inr sy_buf_7))
  have F9 : OA Z T8.heap enc_7 .int [(.int (0 : Int32)), (.int (0 : Int32)), (.int (0 : Int32)), (.int (0 : Int32)), (.int (0 : Int32)), (.int (0 : Int32)), (.int (0 : Int32)), (.int (0 : Int32))] := (P7_9.keep K8q (own_nin3 (Ne.symm ne_o1_enc_7) nx7_1 nx7_2))
  have F10 : Fld Z T8.heap bb_7 "com/example/partwise/partwise/ByteBuilder" "length" "I" (.int (f10 (f9 ((p3 <<< ((1 : Int32) &&& 31)) ^^^ (p3 >>> ((31 : Int32) &&& 31)))) (1 : Int32))) := P8_7
  show OG p e _ s below _ T8 (mkF m 28 #[.val (.int p1), .val (.int p2), .val (.int p3), .val (.int p4), .val (.int p5), .val (.int p6), .val (.ref o1), .val (.int (g0_1 p1 p2 p3 p4 p5 p6)), .unset, .unset, .unset, .unset] [])
  refine own_st (fun t k => XS.iload X8.here hx rfl (hb hby at_28) rfl k) ?_
  show OG p e _ s below _ T8 (mkF m 30 #[.val (.int p1), .val (.int p2), .val (.int p3), .val (.int p4), .val (.int p5), .val (.int p6), .val (.ref o1), .val (.int (g0_1 p1 p2 p3 p4 p5 p6)), .unset, .unset, .unset, .unset] [(.int p6)])
  refine own_st (fun t k => XS.iconst X8.here hx rfl (hb hby at_30) k) ?_
  show OG p e _ s below _ T8 (mkF m 31 #[.val (.int p1), .val (.int p2), .val (.int p3), .val (.int p4), .val (.int p5), .val (.int p6), .val (.ref o1), .val (.int (g0_1 p1 p2 p3 p4 p5 p6)), .unset, .unset, .unset, .unset] [(.int (1 : Int32)), (.int p6)])
  refine own_st (fun t k => XS.iand X8.here hx rfl (hb hby at_31) rfl k) ?_
  show OG p e _ s below _ T8 (mkF m 32 #[.val (.int p1), .val (.int p2), .val (.int p3), .val (.int p4), .val (.int p5), .val (.int p6), .val (.ref o1), .val (.int (g0_1 p1 p2 p3 p4 p5 p6)), .unset, .unset, .unset, .unset] [(.int (p6 &&& (1 : Int32)))])
  by_cases c11 : (p6 &&& (1 : Int32)) = (0 : Int32)
  · refine own_st (fun t k => XS.ifYes X8.here hx rfl (pc0 := 32) (pc' := 57) rfl (hb hby at_32) rfl (own_if0 (teq c11).1) (by decide) (by decide) k) ?_
    show OG p e _ s below _ T8 (mkF m 57 #[.val (.int p1), .val (.int p2), .val (.int p3), .val (.int p4), .val (.int p5), .val (.int p6), .val (.ref o1), .val (.int (g0_1 p1 p2 p3 p4 p5 p6)), .unset, .unset, .unset, .unset] [])
    refine own_st (fun t k => XS.aload X8.here hx rfl (hb hby at_57) rfl rfl k) ?_
    show OG p e _ s below _ T8 (mkF m 59 #[.val (.int p1), .val (.int p2), .val (.int p3), .val (.int p4), .val (.int p5), .val (.int p6), .val (.ref o1), .val (.int (g0_1 p1 p2 p3 p4 p5 p6)), .unset, .unset, .unset, .unset] [(.ref o1)])
    obtain ⟨cq12, kq12, q12a, q12b, q12c⟩ := isOf hZ rfl P8_0
    obtain ⟨_, _, ⟨T12, L12, k12, n12⟩, -, X12, ⟨Lc12, hQ12, l12, y12, z12⟩, st12⟩ := X8.virtualBack hx (y := (⟨"com/example/partwise/partwise/CompactThrift", "reset", "()V"⟩ : MethodName)) (z := (⟨"com/example/partwise/partwise/CompactThrift", "reset", "()V"⟩ : MethodName)) hown (mvT hZ (hw _ (List.mem_of_getElem? (i := 80) rfl))) (mvT hZ (hw _ (List.mem_of_getElem? (i := 81) rfl))) (notFace_of_selects (args := #[]) (mvT hZ (hw _ (List.mem_of_getElem? (i := 83) rfl)))) (mvT hZ (hw _ (List.mem_of_getElem? (i := 83) rfl))) (mvT hZ (hw _ (List.mem_of_getElem? (i := 82) rfl))) (by decide) (backOf (W := 0) (rm := ({ frames := 1, cells := 0, slots := 0, locals := 12 } : Room)) (rm14 l Z a0 hw [] o1 bb_7 buf_7 (f10 (f9 ((p3 <<< ((1 : Int32) &&& 31)) ^^^ (p3 >>> ((31 : Int32) &&& 31)))) (1 : Int32)) enc_7 (g0_1 p1 p2 p3 p4 p5 p6) (0 : Int32) T8.heap n0 P8_0 P8_1 P8_2 P8_3 P8_4 P8_5 P8_6 F10 P8_8 ge_o1 ge_bb_7 ne_o1_bb_7 ne_o1_buf_7 nx7_0) hZ (hw _ (List.mem_of_getElem? (i := 84) rfl)) (hw _ (List.mem_of_getElem? (i := 2) rfl)) (by decide) (by decide)) q12a q12c (g := (mkF m 59 #[.val (.int p1), .val (.int p2), .val (.int p3), .val (.int p4), .val (.int p5), .val (.int p6), .val (.ref o1), .val (.int (g0_1 p1 p2 p3 p4 p5 p6)), .unset, .unset, .unset, .unset] [(.ref o1)])) rfl (by rw [hml]; rfl) (Steps.refl _) (argsL := []) (rest := []) (lenOf pd___V rfl) rfl (by show 2 * 0 + _ ≤ _; exact Nat.le_of_eq rfl) (hb hby at_59) (fun _ _ => ⟨rfl, rfl, (by decide : 4 + 0 ≤ _), (by decide : 270 + 0 ≤ _)⟩)
    dsimp only [Pt.U, Pt.locs, Pt.cells, Pt.slots] at X12 l12 y12 z12 st12 hQ12
    subst l12 y12 z12
    obtain ⟨rfl, N12q, K12q, P12_0, P12_1, P12_2, P12_3, P12_4, P12_5, P12_6, P12_7, P12_8⟩ := hQ12
    refine own_st (fun t k => st12.trans k) ?_
    have N12 := Fr.app N8 N12q
    have K12 : Keep h0 T12.heap [] := K8.trans K12q (own_all2 (Or.inr sz_o1) (Or.inr sy_bb_7))
    have F13 : OA Z T12.heap enc_7 .int [(.int (0 : Int32)), (.int (0 : Int32)), (.int (0 : Int32)), (.int (0 : Int32)), (.int (0 : Int32)), (.int (0 : Int32)), (.int (0 : Int32)), (.int (0 : Int32))] := (F9.keep K12q (own_nin2 (Ne.symm ne_o1_enc_7) nx7_1))
    show OG p e _ s below _ T12 (mkF m 62 #[.val (.int p1), .val (.int p2), .val (.int p3), .val (.int p4), .val (.int p5), .val (.int p6), .val (.ref o1), .val (.int (g0_1 p1 p2 p3 p4 p5 p6)), .unset, .unset, .unset, .unset] [])
    refine own_st (fun t k => XS.aload X12.here hx rfl (hb hby at_62) rfl rfl k) ?_
    show OG p e _ s below _ T12 (mkF m 64 #[.val (.int p1), .val (.int p2), .val (.int p3), .val (.int p4), .val (.int p5), .val (.int p6), .val (.ref o1), .val (.int (g0_1 p1 p2 p3 p4 p5 p6)), .unset, .unset, .unset, .unset] [(.ref o1)])
    obtain ⟨cq14, kq14, q14a, q14b, q14c⟩ := isOf hZ rfl P12_0
    obtain ⟨_, _, ⟨T14, L14, k14, n14⟩, -, X14, ⟨Lc14, hQ14, l14, y14, z14⟩, st14⟩ := X12.virtualBack hx (y := (⟨"com/example/partwise/partwise/CompactThrift", "size", "()I"⟩ : MethodName)) (z := (⟨"com/example/partwise/partwise/CompactThrift", "size", "()I"⟩ : MethodName)) hown (mvT hZ (hw _ (List.mem_of_getElem? (i := 90) rfl))) (mvT hZ (hw _ (List.mem_of_getElem? (i := 91) rfl))) (notFace_of_selects (args := #[]) (mvT hZ (hw _ (List.mem_of_getElem? (i := 93) rfl)))) (mvT hZ (hw _ (List.mem_of_getElem? (i := 93) rfl))) (mvT hZ (hw _ (List.mem_of_getElem? (i := 92) rfl))) (by decide) (backOf (W := 0) (rm := ({ frames := 1, cells := 0, slots := 0, locals := 12 } : Room)) (rm16 l Z a0 hw [] o1 bb_7 (0 : Int32) T12.heap P12_1 P12_5 P12_7) hZ (hw _ (List.mem_of_getElem? (i := 94) rfl)) (hw _ (List.mem_of_getElem? (i := 2) rfl)) (by decide) (by decide)) q14a q14c (g := (mkF m 64 #[.val (.int p1), .val (.int p2), .val (.int p3), .val (.int p4), .val (.int p5), .val (.int p6), .val (.ref o1), .val (.int (g0_1 p1 p2 p3 p4 p5 p6)), .unset, .unset, .unset, .unset] [(.ref o1)])) rfl (by rw [hml]; rfl) (Steps.refl _) (argsL := []) (rest := []) (lenOf pd___I rfl) rfl (by show 2 * 0 + _ ≤ _; exact Nat.le_of_eq rfl) (hb hby at_64) (fun _ _ => ⟨rfl, rfl, (by decide : 4 + 0 ≤ _), (by decide : 270 + 0 ≤ _)⟩)
    dsimp only [Pt.U, Pt.locs, Pt.cells, Pt.slots] at X14 l14 y14 z14 st14 hQ14
    subst l14 y14 z14
    obtain ⟨rfl, rfl, e14⟩ := hQ14
    refine own_st (fun t k => st14.trans k) ?_
    have N14 := Fr.app N12 (Fr.nil n0)
    show OG p e _ s below _ T14 (mkF m 67 #[.val (.int p1), .val (.int p2), .val (.int p3), .val (.int p4), .val (.int p5), .val (.int p6), .val (.ref o1), .val (.int (g0_1 p1 p2 p3 p4 p5 p6)), .unset, .unset, .unset, .unset] [(.int (f16 (0 : Int32)))])
    refine own_st (T' := T14) (g' := (mkF m 75 #[.val (.int p1), .val (.int p2), .val (.int p3), .val (.int p4), .val (.int p5), .val (.int p6), .val (.ref o1), .val (.int (g0_1 p1 p2 p3 p4 p5 p6)), .unset, .unset, .unset, .unset] [(.int (if (f16 (0 : Int32)) = (0 : Int32) then (1 : Int32) else (0 : Int32)))])) (fun t k => ?_) ?_
    · by_cases c15 : (f16 (0 : Int32)) = (0 : Int32)
      · rw [if_pos c15] at k
        refine XS.ifNo X14.here hx rfl (hb hby at_67) rfl (own_if0 (teq c15).2) ?_
        show Steps p.tables e below (T14.setTop (mkF m 70 #[.val (.int p1), .val (.int p2), .val (.int p3), .val (.int p4), .val (.int p5), .val (.int p6), .val (.ref o1), .val (.int (g0_1 p1 p2 p3 p4 p5 p6)), .unset, .unset, .unset, .unset] [])) _
        refine XS.iconst X14.here hx rfl (hb hby at_70) ?_
        show Steps p.tables e below (T14.setTop (mkF m 71 #[.val (.int p1), .val (.int p2), .val (.int p3), .val (.int p4), .val (.int p5), .val (.int p6), .val (.ref o1), .val (.int (g0_1 p1 p2 p3 p4 p5 p6)), .unset, .unset, .unset, .unset] [(.int (1 : Int32))])) _
        refine XS.goto X14.here hx rfl (pc0 := 71) (pc' := 75) rfl (hb hby at_71) (by decide) (by decide) ?_
        exact k
      · rw [if_neg c15] at k
        refine XS.ifYes X14.here hx rfl (pc0 := 67) (pc' := 74) rfl (hb hby at_67) rfl (own_if0 (feq c15).2) (by decide) (by decide) ?_
        show Steps p.tables e below (T14.setTop (mkF m 74 #[.val (.int p1), .val (.int p2), .val (.int p3), .val (.int p4), .val (.int p5), .val (.int p6), .val (.ref o1), .val (.int (g0_1 p1 p2 p3 p4 p5 p6)), .unset, .unset, .unset, .unset] [])) _
        refine XS.iconst X14.here hx rfl (hb hby at_74) ?_
        show Steps p.tables e below (T14.setTop (mkF m 75 #[.val (.int p1), .val (.int p2), .val (.int p3), .val (.int p4), .val (.int p5), .val (.int p6), .val (.ref o1), .val (.int (g0_1 p1 p2 p3 p4 p5 p6)), .unset, .unset, .unset, .unset] [(.int (0 : Int32))])) _
        exact k
    show OG p e _ s below _ T14 (mkF m 75 #[.val (.int p1), .val (.int p2), .val (.int p3), .val (.int p4), .val (.int p5), .val (.int p6), .val (.ref o1), .val (.int (g0_1 p1 p2 p3 p4 p5 p6)), .unset, .unset, .unset, .unset] [(.int (if (f16 (0 : Int32)) = (0 : Int32) then (1 : Int32) else (0 : Int32)))])
    refine own_st (fun t k => XS.istore X14.here hx rfl (hb hby at_75) rfl (l' := #[.val (.int p1), .val (.int p2), .val (.int p3), .val (.int p4), .val (.int p5), .val (.int p6), .val (.ref o1), .val (.int (g0_1 p1 p2 p3 p4 p5 p6)), .val (.int (g0_2 p1 p2 p3 p4 p5 p6)), .unset, .unset, .unset]) rfl k) ?_
    show OG p e _ s below _ T14 (mkF m 77 #[.val (.int p1), .val (.int p2), .val (.int p3), .val (.int p4), .val (.int p5), .val (.int p6), .val (.ref o1), .val (.int (g0_1 p1 p2 p3 p4 p5 p6)), .val (.int (g0_2 p1 p2 p3 p4 p5 p6)), .unset, .unset, .unset] [])
    refine own_st (fun t k => XS.iconst X14.here hx rfl (hb hby at_77) k) ?_
    show OG p e _ s below _ T14 (mkF m 78 #[.val (.int p1), .val (.int p2), .val (.int p3), .val (.int p4), .val (.int p5), .val (.int p6), .val (.ref o1), .val (.int (g0_1 p1 p2 p3 p4 p5 p6)), .val (.int (g0_2 p1 p2 p3 p4 p5 p6)), .unset, .unset, .unset] [(.int (1 : Int32))])
    refine own_st (fun t k => XS.iloadN X14.here hx rfl (hb hby at_78) rfl k) ?_
    show OG p e _ s below _ T14 (mkF m 79 #[.val (.int p1), .val (.int p2), .val (.int p3), .val (.int p4), .val (.int p5), .val (.int p6), .val (.ref o1), .val (.int (g0_1 p1 p2 p3 p4 p5 p6)), .val (.int (g0_2 p1 p2 p3 p4 p5 p6)), .unset, .unset, .unset] [(.int p2), (.int (1 : Int32))])
    refine own_st (fun t k => X14.ldcInt hx hown (mvT hZ (hw _ (List.mem_of_getElem? (i := 24) rfl))) (g := (mkF m 79 #[.val (.int p1), .val (.int p2), .val (.int p3), .val (.int p4), .val (.int p5), .val (.int p6), .val (.ref o1), .val (.int (g0_1 p1 p2 p3 p4 p5 p6)), .val (.int (g0_2 p1 p2 p3 p4 p5 p6)), .unset, .unset, .unset] [(.int p2), (.int (1 : Int32))])) rfl (hb hby at_79) _ k) ?_
    show OG p e _ s below _ T14 (mkF m 81 #[.val (.int p1), .val (.int p2), .val (.int p3), .val (.int p4), .val (.int p5), .val (.int p6), .val (.ref o1), .val (.int (g0_1 p1 p2 p3 p4 p5 p6)), .val (.int (g0_2 p1 p2 p3 p4 p5 p6)), .unset, .unset, .unset] [(.int (2147483647 : Int32)), (.int p2), (.int (1 : Int32))])
    refine own_st (fun t k => XS.iand X14.here hx rfl (hb hby at_81) rfl k) ?_
    show OG p e _ s below _ T14 (mkF m 82 #[.val (.int p1), .val (.int p2), .val (.int p3), .val (.int p4), .val (.int p5), .val (.int p6), .val (.ref o1), .val (.int (g0_1 p1 p2 p3 p4 p5 p6)), .val (.int (g0_2 p1 p2 p3 p4 p5 p6)), .unset, .unset, .unset] [(.int (p2 &&& (2147483647 : Int32))), (.int (1 : Int32))])
    refine own_st (fun t k => XS.bipush X14.here hx rfl (hb hby at_82) k) ?_
    show OG p e _ s below _ T14 (mkF m 84 #[.val (.int p1), .val (.int p2), .val (.int p3), .val (.int p4), .val (.int p5), .val (.int p6), .val (.ref o1), .val (.int (g0_1 p1 p2 p3 p4 p5 p6)), .val (.int (g0_2 p1 p2 p3 p4 p5 p6)), .unset, .unset, .unset] [(.int (15 : Int32)), (.int (p2 &&& (2147483647 : Int32))), (.int (1 : Int32))])
    refine own_st (fun t k => iremM X14 hx rfl (hb hby at_84) rfl (by decide) k) ?_
    show OG p e _ s below _ T14 (mkF m 85 #[.val (.int p1), .val (.int p2), .val (.int p3), .val (.int p4), .val (.int p5), .val (.int p6), .val (.ref o1), .val (.int (g0_1 p1 p2 p3 p4 p5 p6)), .val (.int (g0_2 p1 p2 p3 p4 p5 p6)), .unset, .unset, .unset] [(.int ((p2 &&& (2147483647 : Int32)) % (15 : Int32))), (.int (1 : Int32))])
    refine own_st (fun t k => XS.iadd X14.here hx rfl (hb hby at_85) rfl k) ?_
    show OG p e _ s below _ T14 (mkF m 86 #[.val (.int p1), .val (.int p2), .val (.int p3), .val (.int p4), .val (.int p5), .val (.int p6), .val (.ref o1), .val (.int (g0_1 p1 p2 p3 p4 p5 p6)), .val (.int (g0_2 p1 p2 p3 p4 p5 p6)), .unset, .unset, .unset] [(.int ((1 : Int32) + ((p2 &&& (2147483647 : Int32)) % (15 : Int32))))])
    refine own_st (fun t k => XS.istore X14.here hx rfl (hb hby at_86) rfl (l' := #[.val (.int p1), .val (.int p2), .val (.int p3), .val (.int p4), .val (.int p5), .val (.int p6), .val (.ref o1), .val (.int (g0_1 p1 p2 p3 p4 p5 p6)), .val (.int (g0_2 p1 p2 p3 p4 p5 p6)), .val (.int (g0_3 p1 p2 p3 p4 p5 p6)), .unset, .unset]) rfl k) ?_
    show OG p e _ s below _ T14 (mkF m 88 #[.val (.int p1), .val (.int p2), .val (.int p3), .val (.int p4), .val (.int p5), .val (.int p6), .val (.ref o1), .val (.int (g0_1 p1 p2 p3 p4 p5 p6)), .val (.int (g0_2 p1 p2 p3 p4 p5 p6)), .val (.int (g0_3 p1 p2 p3 p4 p5 p6)), .unset, .unset] [])
    refine own_st (fun t k => XS.iload X14.here hx rfl (hb hby at_88) rfl k) ?_
    show OG p e _ s below _ T14 (mkF m 90 #[.val (.int p1), .val (.int p2), .val (.int p3), .val (.int p4), .val (.int p5), .val (.int p6), .val (.ref o1), .val (.int (g0_1 p1 p2 p3 p4 p5 p6)), .val (.int (g0_2 p1 p2 p3 p4 p5 p6)), .val (.int (g0_3 p1 p2 p3 p4 p5 p6)), .unset, .unset] [(.int (g0_3 p1 p2 p3 p4 p5 p6))])
    refine own_st (fun t k => XS.iconst X14.here hx rfl (hb hby at_90) k) ?_
    show OG p e _ s below _ T14 (mkF m 91 #[.val (.int p1), .val (.int p2), .val (.int p3), .val (.int p4), .val (.int p5), .val (.int p6), .val (.ref o1), .val (.int (g0_1 p1 p2 p3 p4 p5 p6)), .val (.int (g0_2 p1 p2 p3 p4 p5 p6)), .val (.int (g0_3 p1 p2 p3 p4 p5 p6)), .unset, .unset] [(.int (1 : Int32)), (.int (g0_3 p1 p2 p3 p4 p5 p6))])
    refine own_st (fun t k => XS.iadd X14.here hx rfl (hb hby at_91) rfl k) ?_
    show OG p e _ s below _ T14 (mkF m 92 #[.val (.int p1), .val (.int p2), .val (.int p3), .val (.int p4), .val (.int p5), .val (.int p6), .val (.ref o1), .val (.int (g0_1 p1 p2 p3 p4 p5 p6)), .val (.int (g0_2 p1 p2 p3 p4 p5 p6)), .val (.int (g0_3 p1 p2 p3 p4 p5 p6)), .unset, .unset] [(.int ((g0_3 p1 p2 p3 p4 p5 p6) + (1 : Int32)))])
    refine own_st (fun t k => XS.iload X14.here hx rfl (hb hby at_92) rfl k) ?_
    show OG p e _ s below _ T14 (mkF m 94 #[.val (.int p1), .val (.int p2), .val (.int p3), .val (.int p4), .val (.int p5), .val (.int p6), .val (.ref o1), .val (.int (g0_1 p1 p2 p3 p4 p5 p6)), .val (.int (g0_2 p1 p2 p3 p4 p5 p6)), .val (.int (g0_3 p1 p2 p3 p4 p5 p6)), .unset, .unset] [(.int p5), (.int ((g0_3 p1 p2 p3 p4 p5 p6) + (1 : Int32)))])
    refine own_st (fun t k => X14.ldcInt hx hown (mvT hZ (hw _ (List.mem_of_getElem? (i := 24) rfl))) (g := (mkF m 94 #[.val (.int p1), .val (.int p2), .val (.int p3), .val (.int p4), .val (.int p5), .val (.int p6), .val (.ref o1), .val (.int (g0_1 p1 p2 p3 p4 p5 p6)), .val (.int (g0_2 p1 p2 p3 p4 p5 p6)), .val (.int (g0_3 p1 p2 p3 p4 p5 p6)), .unset, .unset] [(.int p5), (.int ((g0_3 p1 p2 p3 p4 p5 p6) + (1 : Int32)))])) rfl (hb hby at_94) _ k) ?_
    show OG p e _ s below _ T14 (mkF m 96 #[.val (.int p1), .val (.int p2), .val (.int p3), .val (.int p4), .val (.int p5), .val (.int p6), .val (.ref o1), .val (.int (g0_1 p1 p2 p3 p4 p5 p6)), .val (.int (g0_2 p1 p2 p3 p4 p5 p6)), .val (.int (g0_3 p1 p2 p3 p4 p5 p6)), .unset, .unset] [(.int (2147483647 : Int32)), (.int p5), (.int ((g0_3 p1 p2 p3 p4 p5 p6) + (1 : Int32)))])
    refine own_st (fun t k => XS.iand X14.here hx rfl (hb hby at_96) rfl k) ?_
    show OG p e _ s below _ T14 (mkF m 97 #[.val (.int p1), .val (.int p2), .val (.int p3), .val (.int p4), .val (.int p5), .val (.int p6), .val (.ref o1), .val (.int (g0_1 p1 p2 p3 p4 p5 p6)), .val (.int (g0_2 p1 p2 p3 p4 p5 p6)), .val (.int (g0_3 p1 p2 p3 p4 p5 p6)), .unset, .unset] [(.int (p5 &&& (2147483647 : Int32))), (.int ((g0_3 p1 p2 p3 p4 p5 p6) + (1 : Int32)))])
    refine own_st (fun t k => XS.bipush X14.here hx rfl (hb hby at_97) k) ?_
    show OG p e _ s below _ T14 (mkF m 99 #[.val (.int p1), .val (.int p2), .val (.int p3), .val (.int p4), .val (.int p5), .val (.int p6), .val (.ref o1), .val (.int (g0_1 p1 p2 p3 p4 p5 p6)), .val (.int (g0_2 p1 p2 p3 p4 p5 p6)), .val (.int (g0_3 p1 p2 p3 p4 p5 p6)), .unset, .unset] [(.int (15 : Int32)), (.int (p5 &&& (2147483647 : Int32))), (.int ((g0_3 p1 p2 p3 p4 p5 p6) + (1 : Int32)))])
    refine own_st (fun t k => iremM X14 hx rfl (hb hby at_99) rfl (by decide) k) ?_
    show OG p e _ s below _ T14 (mkF m 100 #[.val (.int p1), .val (.int p2), .val (.int p3), .val (.int p4), .val (.int p5), .val (.int p6), .val (.ref o1), .val (.int (g0_1 p1 p2 p3 p4 p5 p6)), .val (.int (g0_2 p1 p2 p3 p4 p5 p6)), .val (.int (g0_3 p1 p2 p3 p4 p5 p6)), .unset, .unset] [(.int ((p5 &&& (2147483647 : Int32)) % (15 : Int32))), (.int ((g0_3 p1 p2 p3 p4 p5 p6) + (1 : Int32)))])
    refine own_st (fun t k => XS.iadd X14.here hx rfl (hb hby at_100) rfl k) ?_
    show OG p e _ s below _ T14 (mkF m 101 #[.val (.int p1), .val (.int p2), .val (.int p3), .val (.int p4), .val (.int p5), .val (.int p6), .val (.ref o1), .val (.int (g0_1 p1 p2 p3 p4 p5 p6)), .val (.int (g0_2 p1 p2 p3 p4 p5 p6)), .val (.int (g0_3 p1 p2 p3 p4 p5 p6)), .unset, .unset] [(.int (((g0_3 p1 p2 p3 p4 p5 p6) + (1 : Int32)) + ((p5 &&& (2147483647 : Int32)) % (15 : Int32))))])
    refine own_st (fun t k => XS.istore X14.here hx rfl (hb hby at_101) rfl (l' := #[.val (.int p1), .val (.int p2), .val (.int p3), .val (.int p4), .val (.int p5), .val (.int p6), .val (.ref o1), .val (.int (g0_1 p1 p2 p3 p4 p5 p6)), .val (.int (g0_2 p1 p2 p3 p4 p5 p6)), .val (.int (g0_3 p1 p2 p3 p4 p5 p6)), .val (.int (g0_4 p1 p2 p3 p4 p5 p6)), .unset]) rfl k) ?_
    show OG p e _ s below _ T14 (mkF m 103 #[.val (.int p1), .val (.int p2), .val (.int p3), .val (.int p4), .val (.int p5), .val (.int p6), .val (.ref o1), .val (.int (g0_1 p1 p2 p3 p4 p5 p6)), .val (.int (g0_2 p1 p2 p3 p4 p5 p6)), .val (.int (g0_3 p1 p2 p3 p4 p5 p6)), .val (.int (g0_4 p1 p2 p3 p4 p5 p6)), .unset] [])
    refine own_st (fun t k => XS.aload X14.here hx rfl (hb hby at_103) rfl rfl k) ?_
    show OG p e _ s below _ T14 (mkF m 105 #[.val (.int p1), .val (.int p2), .val (.int p3), .val (.int p4), .val (.int p5), .val (.int p6), .val (.ref o1), .val (.int (g0_1 p1 p2 p3 p4 p5 p6)), .val (.int (g0_2 p1 p2 p3 p4 p5 p6)), .val (.int (g0_3 p1 p2 p3 p4 p5 p6)), .val (.int (g0_4 p1 p2 p3 p4 p5 p6)), .unset] [(.ref o1)])
    refine own_st (fun t k => XS.iload X14.here hx rfl (hb hby at_105) rfl k) ?_
    show OG p e _ s below _ T14 (mkF m 107 #[.val (.int p1), .val (.int p2), .val (.int p3), .val (.int p4), .val (.int p5), .val (.int p6), .val (.ref o1), .val (.int (g0_1 p1 p2 p3 p4 p5 p6)), .val (.int (g0_2 p1 p2 p3 p4 p5 p6)), .val (.int (g0_3 p1 p2 p3 p4 p5 p6)), .val (.int (g0_4 p1 p2 p3 p4 p5 p6)), .unset] [(.int (g0_3 p1 p2 p3 p4 p5 p6)), (.ref o1)])
    refine own_st (fun t k => XS.iloadN X14.here hx rfl (hb hby at_107) rfl k) ?_
    show OG p e _ s below _ T14 (mkF m 108 #[.val (.int p1), .val (.int p2), .val (.int p3), .val (.int p4), .val (.int p5), .val (.int p6), .val (.ref o1), .val (.int (g0_1 p1 p2 p3 p4 p5 p6)), .val (.int (g0_2 p1 p2 p3 p4 p5 p6)), .val (.int (g0_3 p1 p2 p3 p4 p5 p6)), .val (.int (g0_4 p1 p2 p3 p4 p5 p6)), .unset] [(.int p3), (.int (g0_3 p1 p2 p3 p4 p5 p6)), (.ref o1)])
    obtain ⟨cq16, kq16, q16a, q16b, q16c⟩ := isOf hZ e14 P12_0
    obtain ⟨_, _, ⟨T16, L16, k16, n16⟩, -, X16, ⟨Lc16, hQ16, l16, y16, z16⟩, st16⟩ := X14.virtualBack hx (y := (⟨"com/example/partwise/partwise/CompactThrift", "i32", "(II)V"⟩ : MethodName)) (z := (⟨"com/example/partwise/partwise/CompactThrift", "i32", "(II)V"⟩ : MethodName)) hown (mvT hZ (hw _ (List.mem_of_getElem? (i := 25) rfl))) (mvT hZ (hw _ (List.mem_of_getElem? (i := 26) rfl))) (notFace_of_selects (args := #[]) (mvT hZ (hw _ (List.mem_of_getElem? (i := 28) rfl)))) (mvT hZ (hw _ (List.mem_of_getElem? (i := 28) rfl))) (mvT hZ (hw _ (List.mem_of_getElem? (i := 27) rfl))) (by decide) (backOf (W := 0) (rm := ({ frames := 4, cells := 0, slots := 0, locals := 55 } : Room)) (rm4 l Z a0 hw [] o1 (g0_3 p1 p2 p3 p4 p5 p6) p3 bb_7 buf_7 (0 : Int32) enc_7 (0 : Int32) (0 : Int32) T12.heap n0 P12_0 P12_1 P12_2 P12_3 P12_4 P12_5 P12_6 P12_7 P12_8 ge_o1 ge_bb_7 ge_buf_7 ne_o1_bb_7 ne_o1_buf_7 nx7_0 (OB.lit (by decide)) (own_dc p1 p2 p3 p4 p5 p6).1 (own_dc p1 p2 p3 p4 p5 p6).2) hZ (hw _ (List.mem_of_getElem? (i := 29) rfl)) (hw _ (List.mem_of_getElem? (i := 2) rfl)) (by decide) (by decide)) q16a q16c (g := (mkF m 108 #[.val (.int p1), .val (.int p2), .val (.int p3), .val (.int p4), .val (.int p5), .val (.int p6), .val (.ref o1), .val (.int (g0_1 p1 p2 p3 p4 p5 p6)), .val (.int (g0_2 p1 p2 p3 p4 p5 p6)), .val (.int (g0_3 p1 p2 p3 p4 p5 p6)), .val (.int (g0_4 p1 p2 p3 p4 p5 p6)), .unset] [(.int p3), (.int (g0_3 p1 p2 p3 p4 p5 p6)), (.ref o1)])) rfl (by rw [hml]; rfl) (Steps.refl _) (argsL := [(.int (g0_3 p1 p2 p3 p4 p5 p6)), (.int p3)]) (rest := []) (lenOf pd__II_V rfl) rfl (by show 2 * 0 + _ ≤ _; exact Nat.le_of_eq rfl) (hb hby at_108) (fun _ _ => ⟨rfl, e14, (by decide : 4 + 0 ≤ _), (by decide : 270 + 0 ≤ _)⟩)
    dsimp only [Pt.U, Pt.locs, Pt.cells, Pt.slots] at X16 l16 y16 z16 st16 hQ16
    subst l16 y16 z16
    obtain ⟨rfl, N16q, K16q, P16_0, P16_1, P16_2, P16_3, P16_4, P16_5, P16_6, P16_7, P16_8⟩ := hQ16
    refine own_st (fun t k => st16.trans k) ?_
    have N16 := Fr.app N14 N16q
    have K16 : Keep h0 T16.heap [] := K12.trans K16q (own_all3 (Or.inr sz_o1) (Or.inr sy_bb_7) (Or.inr sy_buf_7))
    have F17 : OA Z T16.heap enc_7 .int [(.int (0 : Int32)), (.int (0 : Int32)), (.int (0 : Int32)), (.int (0 : Int32)), (.int (0 : Int32)), (.int (0 : Int32)), (.int (0 : Int32)), (.int (0 : Int32))] := (F13.keep K16q (own_nin3 (Ne.symm ne_o1_enc_7) nx7_1 nx7_2))
    have F18 : Fld Z T16.heap bb_7 "com/example/partwise/partwise/ByteBuilder" "length" "I" (.int (f10 (f9 ((p3 <<< ((1 : Int32) &&& 31)) ^^^ (p3 >>> ((31 : Int32) &&& 31)))) (1 : Int32))) := P16_7
    show OG p e _ s below _ T16 (mkF m 111 #[.val (.int p1), .val (.int p2), .val (.int p3), .val (.int p4), .val (.int p5), .val (.int p6), .val (.ref o1), .val (.int (g0_1 p1 p2 p3 p4 p5 p6)), .val (.int (g0_2 p1 p2 p3 p4 p5 p6)), .val (.int (g0_3 p1 p2 p3 p4 p5 p6)), .val (.int (g0_4 p1 p2 p3 p4 p5 p6)), .unset] [])
    refine own_st (fun t k => XS.aload X16.here hx rfl (hb hby at_111) rfl rfl k) ?_
    show OG p e _ s below _ T16 (mkF m 113 #[.val (.int p1), .val (.int p2), .val (.int p3), .val (.int p4), .val (.int p5), .val (.int p6), .val (.ref o1), .val (.int (g0_1 p1 p2 p3 p4 p5 p6)), .val (.int (g0_2 p1 p2 p3 p4 p5 p6)), .val (.int (g0_3 p1 p2 p3 p4 p5 p6)), .val (.int (g0_4 p1 p2 p3 p4 p5 p6)), .unset] [(.ref o1)])
    obtain ⟨cq19, kq19, q19a, q19b, q19c⟩ := isOf hZ rfl P16_0
    obtain ⟨_, _, ⟨T19, L19, k19, n19⟩, -, X19, ⟨Lc19, hQ19, l19, y19, z19⟩, st19⟩ := X16.virtualBack hx (y := (⟨"com/example/partwise/partwise/CompactThrift", "end", "()V"⟩ : MethodName)) (z := (⟨"com/example/partwise/partwise/CompactThrift", "end", "()V"⟩ : MethodName)) hown (mvT hZ (hw _ (List.mem_of_getElem? (i := 75) rfl))) (mvT hZ (hw _ (List.mem_of_getElem? (i := 76) rfl))) (notFace_of_selects (args := #[]) (mvT hZ (hw _ (List.mem_of_getElem? (i := 78) rfl)))) (mvT hZ (hw _ (List.mem_of_getElem? (i := 78) rfl))) (mvT hZ (hw _ (List.mem_of_getElem? (i := 77) rfl))) (by decide) (backOf (W := 0) (rm := ({ frames := 2, cells := 0, slots := 0, locals := 26 } : Room)) (rm13_0 l Z a0 hw [] o1 bb_7 buf_7 (f10 (f9 ((p3 <<< ((1 : Int32) &&& 31)) ^^^ (p3 >>> ((31 : Int32) &&& 31)))) (1 : Int32)) enc_7 (g0_3 p1 p2 p3 p4 p5 p6) T16.heap n0 P16_0 P16_1 P16_2 P16_3 P16_4 P16_5 P16_6 F18 P16_8 ge_bb_7 ge_buf_7 ne_o1_bb_7 ne_o1_buf_7 nx7_0 (OB.weak (own_vob (k := 1) _ (OB.lit (by decide))) (by decide))) hZ (hw _ (List.mem_of_getElem? (i := 79) rfl)) (hw _ (List.mem_of_getElem? (i := 2) rfl)) (by decide) (by decide)) q19a q19c (g := (mkF m 113 #[.val (.int p1), .val (.int p2), .val (.int p3), .val (.int p4), .val (.int p5), .val (.int p6), .val (.ref o1), .val (.int (g0_1 p1 p2 p3 p4 p5 p6)), .val (.int (g0_2 p1 p2 p3 p4 p5 p6)), .val (.int (g0_3 p1 p2 p3 p4 p5 p6)), .val (.int (g0_4 p1 p2 p3 p4 p5 p6)), .unset] [(.ref o1)])) rfl (by rw [hml]; rfl) (Steps.refl _) (argsL := []) (rest := []) (lenOf pd___V rfl) rfl (by show 2 * 0 + _ ≤ _; exact Nat.le_of_eq rfl) (hb hby at_113) (fun _ _ => ⟨rfl, rfl, (by decide : 4 + 0 ≤ _), (by decide : 270 + 0 ≤ _)⟩)
    dsimp only [Pt.U, Pt.locs, Pt.cells, Pt.slots] at X19 l19 y19 z19 st19 hQ19
    subst l19 y19 z19
    obtain ⟨rfl, N19q, K19q, P19_0, P19_1, P19_2, P19_3, P19_4, P19_5, P19_6, P19_7, P19_8⟩ := hQ19
    refine own_st (fun t k => st19.trans k) ?_
    have N19 := Fr.app N16 N19q
    have K19 : Keep h0 T19.heap [] := K16.trans K19q (own_all2 (Or.inr sy_bb_7) (Or.inr sy_buf_7))
    have F20 : OA Z T19.heap enc_7 .int [(.int (0 : Int32)), (.int (0 : Int32)), (.int (0 : Int32)), (.int (0 : Int32)), (.int (0 : Int32)), (.int (0 : Int32)), (.int (0 : Int32)), (.int (0 : Int32))] := (F17.keep K19q (own_nin2 nx7_1 nx7_2))
    show OG p e _ s below _ T19 (mkF m 116 #[.val (.int p1), .val (.int p2), .val (.int p3), .val (.int p4), .val (.int p5), .val (.int p6), .val (.ref o1), .val (.int (g0_1 p1 p2 p3 p4 p5 p6)), .val (.int (g0_2 p1 p2 p3 p4 p5 p6)), .val (.int (g0_3 p1 p2 p3 p4 p5 p6)), .val (.int (g0_4 p1 p2 p3 p4 p5 p6)), .unset] [])
    refine own_st (fun t k => XS.aload X19.here hx rfl (hb hby at_116) rfl rfl k) ?_
    show OG p e _ s below _ T19 (mkF m 118 #[.val (.int p1), .val (.int p2), .val (.int p3), .val (.int p4), .val (.int p5), .val (.int p6), .val (.ref o1), .val (.int (g0_1 p1 p2 p3 p4 p5 p6)), .val (.int (g0_2 p1 p2 p3 p4 p5 p6)), .val (.int (g0_3 p1 p2 p3 p4 p5 p6)), .val (.int (g0_4 p1 p2 p3 p4 p5 p6)), .unset] [(.ref o1)])
    refine own_st (fun t k => XS.iload X19.here hx rfl (hb hby at_118) rfl k) ?_
    show OG p e _ s below _ T19 (mkF m 120 #[.val (.int p1), .val (.int p2), .val (.int p3), .val (.int p4), .val (.int p5), .val (.int p6), .val (.ref o1), .val (.int (g0_1 p1 p2 p3 p4 p5 p6)), .val (.int (g0_2 p1 p2 p3 p4 p5 p6)), .val (.int (g0_3 p1 p2 p3 p4 p5 p6)), .val (.int (g0_4 p1 p2 p3 p4 p5 p6)), .unset] [(.int (g0_4 p1 p2 p3 p4 p5 p6)), (.ref o1)])
    refine own_st (fun t k => XS.iloadN X19.here hx rfl (hb hby at_120) rfl k) ?_
    show OG p e _ s below _ T19 (mkF m 121 #[.val (.int p1), .val (.int p2), .val (.int p3), .val (.int p4), .val (.int p5), .val (.int p6), .val (.ref o1), .val (.int (g0_1 p1 p2 p3 p4 p5 p6)), .val (.int (g0_2 p1 p2 p3 p4 p5 p6)), .val (.int (g0_3 p1 p2 p3 p4 p5 p6)), .val (.int (g0_4 p1 p2 p3 p4 p5 p6)), .unset] [(.int p4), (.int (g0_4 p1 p2 p3 p4 p5 p6)), (.ref o1)])
    obtain ⟨cq21, kq21, q21a, q21b, q21c⟩ := isOf hZ rfl P19_0
    obtain ⟨_, _, ⟨T21, L21, k21, n21⟩, -, X21, ⟨Lc21, hQ21, l21, y21, z21⟩, st21⟩ := X19.virtualBack hx (y := (⟨"com/example/partwise/partwise/CompactThrift", "i32", "(II)V"⟩ : MethodName)) (z := (⟨"com/example/partwise/partwise/CompactThrift", "i32", "(II)V"⟩ : MethodName)) hown (mvT hZ (hw _ (List.mem_of_getElem? (i := 25) rfl))) (mvT hZ (hw _ (List.mem_of_getElem? (i := 26) rfl))) (notFace_of_selects (args := #[]) (mvT hZ (hw _ (List.mem_of_getElem? (i := 28) rfl)))) (mvT hZ (hw _ (List.mem_of_getElem? (i := 28) rfl))) (mvT hZ (hw _ (List.mem_of_getElem? (i := 27) rfl))) (by decide) (backOf (W := 0) (rm := ({ frames := 4, cells := 0, slots := 0, locals := 55 } : Room)) (rm4 l Z a0 hw [] o1 (g0_4 p1 p2 p3 p4 p5 p6) p4 bb_7 buf_7 ((f10 (f9 ((p3 <<< ((1 : Int32) &&& 31)) ^^^ (p3 >>> ((31 : Int32) &&& 31)))) (1 : Int32)) + (1 : Int32)) enc_7 (g0_3 p1 p2 p3 p4 p5 p6) (0 : Int32) T19.heap n0 P19_0 P19_1 P19_2 P19_3 P19_4 P19_5 P19_6 P19_7 P19_8 ge_o1 ge_bb_7 ge_buf_7 ne_o1_bb_7 ne_o1_buf_7 nx7_0 (OB.weak (own_vob (k := 7) _ (OB.lit (by decide))).step (by decide)) (own_dd p1 p2 p3 p4 p5 p6).1 (own_dd p1 p2 p3 p4 p5 p6).2) hZ (hw _ (List.mem_of_getElem? (i := 29) rfl)) (hw _ (List.mem_of_getElem? (i := 2) rfl)) (by decide) (by decide)) q21a q21c (g := (mkF m 121 #[.val (.int p1), .val (.int p2), .val (.int p3), .val (.int p4), .val (.int p5), .val (.int p6), .val (.ref o1), .val (.int (g0_1 p1 p2 p3 p4 p5 p6)), .val (.int (g0_2 p1 p2 p3 p4 p5 p6)), .val (.int (g0_3 p1 p2 p3 p4 p5 p6)), .val (.int (g0_4 p1 p2 p3 p4 p5 p6)), .unset] [(.int p4), (.int (g0_4 p1 p2 p3 p4 p5 p6)), (.ref o1)])) rfl (by rw [hml]; rfl) (Steps.refl _) (argsL := [(.int (g0_4 p1 p2 p3 p4 p5 p6)), (.int p4)]) (rest := []) (lenOf pd__II_V rfl) rfl (by show 2 * 0 + _ ≤ _; exact Nat.le_of_eq rfl) (hb hby at_121) (fun _ _ => ⟨rfl, rfl, (by decide : 4 + 0 ≤ _), (by decide : 270 + 0 ≤ _)⟩)
    dsimp only [Pt.U, Pt.locs, Pt.cells, Pt.slots] at X21 l21 y21 z21 st21 hQ21
    subst l21 y21 z21
    obtain ⟨rfl, N21q, K21q, P21_0, P21_1, P21_2, P21_3, P21_4, P21_5, P21_6, P21_7, P21_8⟩ := hQ21
    refine own_st (fun t k => st21.trans k) ?_
    have N21 := Fr.app N19 N21q
    have K21 : Keep h0 T21.heap [] := K19.trans K21q (own_all3 (Or.inr sz_o1) (Or.inr sy_bb_7) (Or.inr sy_buf_7))
    have F22 : OA Z T21.heap enc_7 .int [(.int (0 : Int32)), (.int (0 : Int32)), (.int (0 : Int32)), (.int (0 : Int32)), (.int (0 : Int32)), (.int (0 : Int32)), (.int (0 : Int32)), (.int (0 : Int32))] := (F20.keep K21q (own_nin3 (Ne.symm ne_o1_enc_7) nx7_1 nx7_2))
    show OG p e _ s below _ T21 (mkF m 124 #[.val (.int p1), .val (.int p2), .val (.int p3), .val (.int p4), .val (.int p5), .val (.int p6), .val (.ref o1), .val (.int (g0_1 p1 p2 p3 p4 p5 p6)), .val (.int (g0_2 p1 p2 p3 p4 p5 p6)), .val (.int (g0_3 p1 p2 p3 p4 p5 p6)), .val (.int (g0_4 p1 p2 p3 p4 p5 p6)), .unset] [])
    refine own_st (fun t k => XS.iconst X21.here hx rfl (hb hby at_124) k) ?_
    show OG p e _ s below _ T21 (mkF m 125 #[.val (.int p1), .val (.int p2), .val (.int p3), .val (.int p4), .val (.int p5), .val (.int p6), .val (.ref o1), .val (.int (g0_1 p1 p2 p3 p4 p5 p6)), .val (.int (g0_2 p1 p2 p3 p4 p5 p6)), .val (.int (g0_3 p1 p2 p3 p4 p5 p6)), .val (.int (g0_4 p1 p2 p3 p4 p5 p6)), .unset] [(.int (1 : Int32))])
    refine own_st (fun t k => XS.iloadN X21.here hx rfl (hb hby at_125) rfl k) ?_
    show OG p e _ s below _ T21 (mkF m 126 #[.val (.int p1), .val (.int p2), .val (.int p3), .val (.int p4), .val (.int p5), .val (.int p6), .val (.ref o1), .val (.int (g0_1 p1 p2 p3 p4 p5 p6)), .val (.int (g0_2 p1 p2 p3 p4 p5 p6)), .val (.int (g0_3 p1 p2 p3 p4 p5 p6)), .val (.int (g0_4 p1 p2 p3 p4 p5 p6)), .unset] [(.int p3), (.int (1 : Int32))])
    obtain ⟨_, _, ⟨T23, L23, k23, n23⟩, -, X23, ⟨Lc23, hQ23, l23, y23, z23⟩, st23⟩ := Jvm.LawKit.callS X21 hx (y := (⟨"com/example/partwise/partwise/CompactThriftResetPinLaw", "varLen", "(I)I"⟩ : MethodName)) hown (mvT hZ (hw _ (List.mem_of_getElem? (i := 100) rfl))) (mvT hZ (hw _ (List.mem_of_getElem? (i := 101) rfl))) (mvT hZ (hw _ (List.mem_of_getElem? (i := 102) rfl))) (mvT hZ (hw _ (List.mem_of_getElem? (i := 103) rfl))) (by decide) (backOf (W := 1) (rm := ({ frames := 0, cells := 0, slots := 0, locals := 0 } : Room)) (rm18 l Z a0 hw [] p3 T21.heap) hZ (hw _ (List.mem_of_getElem? (i := 103) rfl)) (hw _ (List.mem_of_getElem? (i := 102) rfl)) (by decide) (by decide)) (g := (mkF m 126 #[.val (.int p1), .val (.int p2), .val (.int p3), .val (.int p4), .val (.int p5), .val (.int p6), .val (.ref o1), .val (.int (g0_1 p1 p2 p3 p4 p5 p6)), .val (.int (g0_2 p1 p2 p3 p4 p5 p6)), .val (.int (g0_3 p1 p2 p3 p4 p5 p6)), .val (.int (g0_4 p1 p2 p3 p4 p5 p6)), .unset] [(.int p3), (.int (1 : Int32))])) rfl (by rw [hml]; rfl) (argsL := [(.int p3)]) (rest := [(.int (1 : Int32))]) (lenOf pd__I_I rfl) rfl (by show 2 * 0 + _ ≤ _; exact Nat.le_of_eq rfl) (hb hby at_126) (fun _ _ => ⟨rfl, rfl, (by decide : 4 + 0 ≤ _), (by decide : 270 + 0 ≤ _)⟩)
    dsimp only [Pt.U, Pt.locs, Pt.cells, Pt.slots] at X23 l23 y23 z23 st23 hQ23
    subst l23 y23 z23
    obtain ⟨rfl, rfl, e23⟩ := hQ23
    refine own_st st23 ?_
    have N23 := Fr.app N21 (Fr.nil n0)
    show OG p e _ s below _ T23 (mkF m 129 #[.val (.int p1), .val (.int p2), .val (.int p3), .val (.int p4), .val (.int p5), .val (.int p6), .val (.ref o1), .val (.int (g0_1 p1 p2 p3 p4 p5 p6)), .val (.int (g0_2 p1 p2 p3 p4 p5 p6)), .val (.int (g0_3 p1 p2 p3 p4 p5 p6)), .val (.int (g0_4 p1 p2 p3 p4 p5 p6)), .unset] [(.int (f18 p3)), (.int (1 : Int32))])
    refine own_st (fun t k => XS.iadd X23.here hx rfl (hb hby at_129) rfl k) ?_
    show OG p e _ s below _ T23 (mkF m 130 #[.val (.int p1), .val (.int p2), .val (.int p3), .val (.int p4), .val (.int p5), .val (.int p6), .val (.ref o1), .val (.int (g0_1 p1 p2 p3 p4 p5 p6)), .val (.int (g0_2 p1 p2 p3 p4 p5 p6)), .val (.int (g0_3 p1 p2 p3 p4 p5 p6)), .val (.int (g0_4 p1 p2 p3 p4 p5 p6)), .unset] [(.int ((1 : Int32) + (f18 p3)))])
    refine own_st (fun t k => XS.iconst X23.here hx rfl (hb hby at_130) k) ?_
    show OG p e _ s below _ T23 (mkF m 131 #[.val (.int p1), .val (.int p2), .val (.int p3), .val (.int p4), .val (.int p5), .val (.int p6), .val (.ref o1), .val (.int (g0_1 p1 p2 p3 p4 p5 p6)), .val (.int (g0_2 p1 p2 p3 p4 p5 p6)), .val (.int (g0_3 p1 p2 p3 p4 p5 p6)), .val (.int (g0_4 p1 p2 p3 p4 p5 p6)), .unset] [(.int (1 : Int32)), (.int ((1 : Int32) + (f18 p3)))])
    refine own_st (fun t k => XS.iadd X23.here hx rfl (hb hby at_131) rfl k) ?_
    show OG p e _ s below _ T23 (mkF m 132 #[.val (.int p1), .val (.int p2), .val (.int p3), .val (.int p4), .val (.int p5), .val (.int p6), .val (.ref o1), .val (.int (g0_1 p1 p2 p3 p4 p5 p6)), .val (.int (g0_2 p1 p2 p3 p4 p5 p6)), .val (.int (g0_3 p1 p2 p3 p4 p5 p6)), .val (.int (g0_4 p1 p2 p3 p4 p5 p6)), .unset] [(.int (((1 : Int32) + (f18 p3)) + (1 : Int32)))])
    refine own_st (fun t k => XS.iconst X23.here hx rfl (hb hby at_132) k) ?_
    show OG p e _ s below _ T23 (mkF m 133 #[.val (.int p1), .val (.int p2), .val (.int p3), .val (.int p4), .val (.int p5), .val (.int p6), .val (.ref o1), .val (.int (g0_1 p1 p2 p3 p4 p5 p6)), .val (.int (g0_2 p1 p2 p3 p4 p5 p6)), .val (.int (g0_3 p1 p2 p3 p4 p5 p6)), .val (.int (g0_4 p1 p2 p3 p4 p5 p6)), .unset] [(.int (1 : Int32)), (.int (((1 : Int32) + (f18 p3)) + (1 : Int32)))])
    refine own_st (fun t k => XS.iadd X23.here hx rfl (hb hby at_133) rfl k) ?_
    show OG p e _ s below _ T23 (mkF m 134 #[.val (.int p1), .val (.int p2), .val (.int p3), .val (.int p4), .val (.int p5), .val (.int p6), .val (.ref o1), .val (.int (g0_1 p1 p2 p3 p4 p5 p6)), .val (.int (g0_2 p1 p2 p3 p4 p5 p6)), .val (.int (g0_3 p1 p2 p3 p4 p5 p6)), .val (.int (g0_4 p1 p2 p3 p4 p5 p6)), .unset] [(.int ((((1 : Int32) + (f18 p3)) + (1 : Int32)) + (1 : Int32)))])
    refine own_st (fun t k => XS.iloadN X23.here hx rfl (hb hby at_134) rfl k) ?_
    show OG p e _ s below _ T23 (mkF m 135 #[.val (.int p1), .val (.int p2), .val (.int p3), .val (.int p4), .val (.int p5), .val (.int p6), .val (.ref o1), .val (.int (g0_1 p1 p2 p3 p4 p5 p6)), .val (.int (g0_2 p1 p2 p3 p4 p5 p6)), .val (.int (g0_3 p1 p2 p3 p4 p5 p6)), .val (.int (g0_4 p1 p2 p3 p4 p5 p6)), .unset] [(.int p4), (.int ((((1 : Int32) + (f18 p3)) + (1 : Int32)) + (1 : Int32)))])
    obtain ⟨_, _, ⟨T24, L24, k24, n24⟩, -, X24, ⟨Lc24, hQ24, l24, y24, z24⟩, st24⟩ := Jvm.LawKit.callS X23 hx (y := (⟨"com/example/partwise/partwise/CompactThriftResetPinLaw", "varLen", "(I)I"⟩ : MethodName)) hown (mvT hZ (hw _ (List.mem_of_getElem? (i := 100) rfl))) (mvT hZ (hw _ (List.mem_of_getElem? (i := 101) rfl))) (mvT hZ (hw _ (List.mem_of_getElem? (i := 102) rfl))) (mvT hZ (hw _ (List.mem_of_getElem? (i := 103) rfl))) (by decide) (backOf (W := 1) (rm := ({ frames := 0, cells := 0, slots := 0, locals := 0 } : Room)) (rm18 l Z a0 hw [] p4 T21.heap) hZ (hw _ (List.mem_of_getElem? (i := 103) rfl)) (hw _ (List.mem_of_getElem? (i := 102) rfl)) (by decide) (by decide)) (g := (mkF m 135 #[.val (.int p1), .val (.int p2), .val (.int p3), .val (.int p4), .val (.int p5), .val (.int p6), .val (.ref o1), .val (.int (g0_1 p1 p2 p3 p4 p5 p6)), .val (.int (g0_2 p1 p2 p3 p4 p5 p6)), .val (.int (g0_3 p1 p2 p3 p4 p5 p6)), .val (.int (g0_4 p1 p2 p3 p4 p5 p6)), .unset] [(.int p4), (.int ((((1 : Int32) + (f18 p3)) + (1 : Int32)) + (1 : Int32)))])) rfl (by rw [hml]; rfl) (argsL := [(.int p4)]) (rest := [(.int ((((1 : Int32) + (f18 p3)) + (1 : Int32)) + (1 : Int32)))]) (lenOf pd__I_I rfl) rfl (by show 2 * 0 + _ ≤ _; exact Nat.le_of_eq rfl) (hb hby at_135) (fun _ _ => ⟨rfl, e23, (by decide : 4 + 0 ≤ _), (by decide : 270 + 0 ≤ _)⟩)
    dsimp only [Pt.U, Pt.locs, Pt.cells, Pt.slots] at X24 l24 y24 z24 st24 hQ24
    subst l24 y24 z24
    obtain ⟨rfl, rfl, e24⟩ := hQ24
    refine own_st st24 ?_
    have N24 := Fr.app N23 (Fr.nil n0)
    show OG p e _ s below _ T24 (mkF m 138 #[.val (.int p1), .val (.int p2), .val (.int p3), .val (.int p4), .val (.int p5), .val (.int p6), .val (.ref o1), .val (.int (g0_1 p1 p2 p3 p4 p5 p6)), .val (.int (g0_2 p1 p2 p3 p4 p5 p6)), .val (.int (g0_3 p1 p2 p3 p4 p5 p6)), .val (.int (g0_4 p1 p2 p3 p4 p5 p6)), .unset] [(.int (f18 p4)), (.int ((((1 : Int32) + (f18 p3)) + (1 : Int32)) + (1 : Int32)))])
    refine own_st (fun t k => XS.iadd X24.here hx rfl (hb hby at_138) rfl k) ?_
    show OG p e _ s below _ T24 (mkF m 139 #[.val (.int p1), .val (.int p2), .val (.int p3), .val (.int p4), .val (.int p5), .val (.int p6), .val (.ref o1), .val (.int (g0_1 p1 p2 p3 p4 p5 p6)), .val (.int (g0_2 p1 p2 p3 p4 p5 p6)), .val (.int (g0_3 p1 p2 p3 p4 p5 p6)), .val (.int (g0_4 p1 p2 p3 p4 p5 p6)), .unset] [(.int (((((1 : Int32) + (f18 p3)) + (1 : Int32)) + (1 : Int32)) + (f18 p4)))])
    refine own_st (fun t k => XS.istore X24.here hx rfl (hb hby at_139) rfl (l' := #[.val (.int p1), .val (.int p2), .val (.int p3), .val (.int p4), .val (.int p5), .val (.int p6), .val (.ref o1), .val (.int (g0_1 p1 p2 p3 p4 p5 p6)), .val (.int (g0_2 p1 p2 p3 p4 p5 p6)), .val (.int (g0_3 p1 p2 p3 p4 p5 p6)), .val (.int (g0_4 p1 p2 p3 p4 p5 p6)), .val (.int (g0_5 p1 p2 p3 p4 p5 p6))]) rfl k) ?_
    show OG p e _ s below _ T24 (mkF m 141 #[.val (.int p1), .val (.int p2), .val (.int p3), .val (.int p4), .val (.int p5), .val (.int p6), .val (.ref o1), .val (.int (g0_1 p1 p2 p3 p4 p5 p6)), .val (.int (g0_2 p1 p2 p3 p4 p5 p6)), .val (.int (g0_3 p1 p2 p3 p4 p5 p6)), .val (.int (g0_4 p1 p2 p3 p4 p5 p6)), .val (.int (g0_5 p1 p2 p3 p4 p5 p6))] [])
    refine own_st (fun t k => XS.iload X24.here hx rfl (hb hby at_141) rfl k) ?_
    show OG p e _ s below _ T24 (mkF m 143 #[.val (.int p1), .val (.int p2), .val (.int p3), .val (.int p4), .val (.int p5), .val (.int p6), .val (.ref o1), .val (.int (g0_1 p1 p2 p3 p4 p5 p6)), .val (.int (g0_2 p1 p2 p3 p4 p5 p6)), .val (.int (g0_3 p1 p2 p3 p4 p5 p6)), .val (.int (g0_4 p1 p2 p3 p4 p5 p6)), .val (.int (g0_5 p1 p2 p3 p4 p5 p6))] [(.int (g0_2 p1 p2 p3 p4 p5 p6))])
    by_cases c25 : (g0_2 p1 p2 p3 p4 p5 p6) = (0 : Int32)
    · refine own_st (fun t k => XS.ifYes X24.here hx rfl (pc0 := 143) (pc' := 160) rfl (hb hby at_143) rfl (own_if0 (teq c25).1) (by decide) (by decide) k) ?_
      show OG p e _ s below _ T24 (mkF m 160 #[.val (.int p1), .val (.int p2), .val (.int p3), .val (.int p4), .val (.int p5), .val (.int p6), .val (.ref o1), .val (.int (g0_1 p1 p2 p3 p4 p5 p6)), .val (.int (g0_2 p1 p2 p3 p4 p5 p6)), .val (.int (g0_3 p1 p2 p3 p4 p5 p6)), .val (.int (g0_4 p1 p2 p3 p4 p5 p6)), .val (.int (g0_5 p1 p2 p3 p4 p5 p6))] [])
      refine own_st (fun t k => XS.iconst X24.here hx rfl (hb hby at_160) k) ?_
      show OG p e _ s below _ T24 (mkF m 161 #[.val (.int p1), .val (.int p2), .val (.int p3), .val (.int p4), .val (.int p5), .val (.int p6), .val (.ref o1), .val (.int (g0_1 p1 p2 p3 p4 p5 p6)), .val (.int (g0_2 p1 p2 p3 p4 p5 p6)), .val (.int (g0_3 p1 p2 p3 p4 p5 p6)), .val (.int (g0_4 p1 p2 p3 p4 p5 p6)), .val (.int (g0_5 p1 p2 p3 p4 p5 p6))] [(.int (0 : Int32))])
      refine own_retZ X24 hx (t := .boolean) hret (by simp) hlk (hb hby at_161) (by decide) (by decide) (w := (0 : Int32)) rfl ?_
      exact ⟨congrArg (fun z => some (Value.int z)) (show f0 p1 p2 p3 p4 p5 p6 = (0 : Int32) from (by rw [f0, if_pos c11, if_pos c25])).symm, N24⟩
    · refine own_st (fun t k => XS.ifNo X24.here hx rfl (hb hby at_143) rfl (own_if0 (feq c25).1) k) ?_
      show OG p e _ s below _ T24 (mkF m 146 #[.val (.int p1), .val (.int p2), .val (.int p3), .val (.int p4), .val (.int p5), .val (.int p6), .val (.ref o1), .val (.int (g0_1 p1 p2 p3 p4 p5 p6)), .val (.int (g0_2 p1 p2 p3 p4 p5 p6)), .val (.int (g0_3 p1 p2 p3 p4 p5 p6)), .val (.int (g0_4 p1 p2 p3 p4 p5 p6)), .val (.int (g0_5 p1 p2 p3 p4 p5 p6))] [])
      refine own_st (fun t k => XS.aload X24.here hx rfl (hb hby at_146) rfl rfl k) ?_
      show OG p e _ s below _ T24 (mkF m 148 #[.val (.int p1), .val (.int p2), .val (.int p3), .val (.int p4), .val (.int p5), .val (.int p6), .val (.ref o1), .val (.int (g0_1 p1 p2 p3 p4 p5 p6)), .val (.int (g0_2 p1 p2 p3 p4 p5 p6)), .val (.int (g0_3 p1 p2 p3 p4 p5 p6)), .val (.int (g0_4 p1 p2 p3 p4 p5 p6)), .val (.int (g0_5 p1 p2 p3 p4 p5 p6))] [(.ref o1)])
      obtain ⟨cq26, kq26, q26a, q26b, q26c⟩ := isOf hZ e24 P21_0
      obtain ⟨_, _, ⟨T26, L26, k26, n26⟩, -, X26, ⟨Lc26, hQ26, l26, y26, z26⟩, st26⟩ := X24.virtualBack hx (y := (⟨"com/example/partwise/partwise/CompactThrift", "size", "()I"⟩ : MethodName)) (z := (⟨"com/example/partwise/partwise/CompactThrift", "size", "()I"⟩ : MethodName)) hown (mvT hZ (hw _ (List.mem_of_getElem? (i := 90) rfl))) (mvT hZ (hw _ (List.mem_of_getElem? (i := 91) rfl))) (notFace_of_selects (args := #[]) (mvT hZ (hw _ (List.mem_of_getElem? (i := 93) rfl)))) (mvT hZ (hw _ (List.mem_of_getElem? (i := 93) rfl))) (mvT hZ (hw _ (List.mem_of_getElem? (i := 92) rfl))) (by decide) (backOf (W := 0) (rm := ({ frames := 1, cells := 0, slots := 0, locals := 12 } : Room)) (rm16 l Z a0 hw [] o1 bb_7 (f10 (f9 ((p4 <<< ((1 : Int32) &&& 31)) ^^^ (p4 >>> ((31 : Int32) &&& 31)))) (((f10 (f9 ((p3 <<< ((1 : Int32) &&& 31)) ^^^ (p3 >>> ((31 : Int32) &&& 31)))) (1 : Int32)) + (1 : Int32)) + (1 : Int32))) T21.heap P21_1 P21_5 P21_7) hZ (hw _ (List.mem_of_getElem? (i := 94) rfl)) (hw _ (List.mem_of_getElem? (i := 2) rfl)) (by decide) (by decide)) q26a q26c (g := (mkF m 148 #[.val (.int p1), .val (.int p2), .val (.int p3), .val (.int p4), .val (.int p5), .val (.int p6), .val (.ref o1), .val (.int (g0_1 p1 p2 p3 p4 p5 p6)), .val (.int (g0_2 p1 p2 p3 p4 p5 p6)), .val (.int (g0_3 p1 p2 p3 p4 p5 p6)), .val (.int (g0_4 p1 p2 p3 p4 p5 p6)), .val (.int (g0_5 p1 p2 p3 p4 p5 p6))] [(.ref o1)])) rfl (by rw [hml]; rfl) (Steps.refl _) (argsL := []) (rest := []) (lenOf pd___I rfl) rfl (by show 2 * 0 + _ ≤ _; exact Nat.le_of_eq rfl) (hb hby at_148) (fun _ _ => ⟨rfl, e24, (by decide : 4 + 0 ≤ _), (by decide : 270 + 0 ≤ _)⟩)
      dsimp only [Pt.U, Pt.locs, Pt.cells, Pt.slots] at X26 l26 y26 z26 st26 hQ26
      subst l26 y26 z26
      obtain ⟨rfl, rfl, e26⟩ := hQ26
      refine own_st (fun t k => st26.trans k) ?_
      have N26 := Fr.app N24 (Fr.nil n0)
      show OG p e _ s below _ T26 (mkF m 151 #[.val (.int p1), .val (.int p2), .val (.int p3), .val (.int p4), .val (.int p5), .val (.int p6), .val (.ref o1), .val (.int (g0_1 p1 p2 p3 p4 p5 p6)), .val (.int (g0_2 p1 p2 p3 p4 p5 p6)), .val (.int (g0_3 p1 p2 p3 p4 p5 p6)), .val (.int (g0_4 p1 p2 p3 p4 p5 p6)), .val (.int (g0_5 p1 p2 p3 p4 p5 p6))] [(.int (f16 (f10 (f9 ((p4 <<< ((1 : Int32) &&& 31)) ^^^ (p4 >>> ((31 : Int32) &&& 31)))) (((f10 (f9 ((p3 <<< ((1 : Int32) &&& 31)) ^^^ (p3 >>> ((31 : Int32) &&& 31)))) (1 : Int32)) + (1 : Int32)) + (1 : Int32)))))])
      refine own_st (fun t k => XS.iload X26.here hx rfl (hb hby at_151) rfl k) ?_
      show OG p e _ s below _ T26 (mkF m 153 #[.val (.int p1), .val (.int p2), .val (.int p3), .val (.int p4), .val (.int p5), .val (.int p6), .val (.ref o1), .val (.int (g0_1 p1 p2 p3 p4 p5 p6)), .val (.int (g0_2 p1 p2 p3 p4 p5 p6)), .val (.int (g0_3 p1 p2 p3 p4 p5 p6)), .val (.int (g0_4 p1 p2 p3 p4 p5 p6)), .val (.int (g0_5 p1 p2 p3 p4 p5 p6))] [(.int (g0_5 p1 p2 p3 p4 p5 p6)), (.int (f16 (f10 (f9 ((p4 <<< ((1 : Int32) &&& 31)) ^^^ (p4 >>> ((31 : Int32) &&& 31)))) (((f10 (f9 ((p3 <<< ((1 : Int32) &&& 31)) ^^^ (p3 >>> ((31 : Int32) &&& 31)))) (1 : Int32)) + (1 : Int32)) + (1 : Int32)))))])
      by_cases c27 : (f16 (f10 (f9 ((p4 <<< ((1 : Int32) &&& 31)) ^^^ (p4 >>> ((31 : Int32) &&& 31)))) (((f10 (f9 ((p3 <<< ((1 : Int32) &&& 31)) ^^^ (p3 >>> ((31 : Int32) &&& 31)))) (1 : Int32)) + (1 : Int32)) + (1 : Int32)))) = (g0_5 p1 p2 p3 p4 p5 p6)
      · refine own_st (fun t k => XS.icmpNo X26.here hx rfl (hb hby at_153) rfl (teq c27).2 k) ?_
        show OG p e _ s below _ T26 (mkF m 156 #[.val (.int p1), .val (.int p2), .val (.int p3), .val (.int p4), .val (.int p5), .val (.int p6), .val (.ref o1), .val (.int (g0_1 p1 p2 p3 p4 p5 p6)), .val (.int (g0_2 p1 p2 p3 p4 p5 p6)), .val (.int (g0_3 p1 p2 p3 p4 p5 p6)), .val (.int (g0_4 p1 p2 p3 p4 p5 p6)), .val (.int (g0_5 p1 p2 p3 p4 p5 p6))] [])
        refine own_st (fun t k => XS.iconst X26.here hx rfl (hb hby at_156) k) ?_
        show OG p e _ s below _ T26 (mkF m 157 #[.val (.int p1), .val (.int p2), .val (.int p3), .val (.int p4), .val (.int p5), .val (.int p6), .val (.ref o1), .val (.int (g0_1 p1 p2 p3 p4 p5 p6)), .val (.int (g0_2 p1 p2 p3 p4 p5 p6)), .val (.int (g0_3 p1 p2 p3 p4 p5 p6)), .val (.int (g0_4 p1 p2 p3 p4 p5 p6)), .val (.int (g0_5 p1 p2 p3 p4 p5 p6))] [(.int (1 : Int32))])
        refine own_st (fun t k => XS.goto X26.here hx rfl (pc0 := 157) (pc' := 161) rfl (hb hby at_157) (by decide) (by decide) k) ?_
        show OG p e _ s below _ T26 (mkF m 161 #[.val (.int p1), .val (.int p2), .val (.int p3), .val (.int p4), .val (.int p5), .val (.int p6), .val (.ref o1), .val (.int (g0_1 p1 p2 p3 p4 p5 p6)), .val (.int (g0_2 p1 p2 p3 p4 p5 p6)), .val (.int (g0_3 p1 p2 p3 p4 p5 p6)), .val (.int (g0_4 p1 p2 p3 p4 p5 p6)), .val (.int (g0_5 p1 p2 p3 p4 p5 p6))] [(.int (1 : Int32))])
        refine own_retZ X26 hx (t := .boolean) hret (by simp) hlk (hb hby at_161) (by decide) (by decide) (w := (1 : Int32)) rfl ?_
        exact ⟨congrArg (fun z => some (Value.int z)) (show f0 p1 p2 p3 p4 p5 p6 = (1 : Int32) from (by rw [f0, if_pos c11, if_neg c25, if_pos c27])).symm, N26⟩
      · refine own_st (fun t k => XS.icmpYes X26.here hx rfl (pc0 := 153) (pc' := 160) rfl (hb hby at_153) rfl (feq c27).2 (by decide) (by decide) k) ?_
        show OG p e _ s below _ T26 (mkF m 160 #[.val (.int p1), .val (.int p2), .val (.int p3), .val (.int p4), .val (.int p5), .val (.int p6), .val (.ref o1), .val (.int (g0_1 p1 p2 p3 p4 p5 p6)), .val (.int (g0_2 p1 p2 p3 p4 p5 p6)), .val (.int (g0_3 p1 p2 p3 p4 p5 p6)), .val (.int (g0_4 p1 p2 p3 p4 p5 p6)), .val (.int (g0_5 p1 p2 p3 p4 p5 p6))] [])
        refine own_st (fun t k => XS.iconst X26.here hx rfl (hb hby at_160) k) ?_
        show OG p e _ s below _ T26 (mkF m 161 #[.val (.int p1), .val (.int p2), .val (.int p3), .val (.int p4), .val (.int p5), .val (.int p6), .val (.ref o1), .val (.int (g0_1 p1 p2 p3 p4 p5 p6)), .val (.int (g0_2 p1 p2 p3 p4 p5 p6)), .val (.int (g0_3 p1 p2 p3 p4 p5 p6)), .val (.int (g0_4 p1 p2 p3 p4 p5 p6)), .val (.int (g0_5 p1 p2 p3 p4 p5 p6))] [(.int (0 : Int32))])
        refine own_retZ X26 hx (t := .boolean) hret (by simp) hlk (hb hby at_161) (by decide) (by decide) (w := (0 : Int32)) rfl ?_
        exact ⟨congrArg (fun z => some (Value.int z)) (show f0 p1 p2 p3 p4 p5 p6 = (0 : Int32) from (by rw [f0, if_pos c11, if_neg c25, if_neg c27])).symm, N26⟩
  · refine own_st (fun t k => XS.ifNo X8.here hx rfl (hb hby at_32) rfl (own_if0 (feq c11).1) k) ?_
    show OG p e _ s below _ T8 (mkF m 35 #[.val (.int p1), .val (.int p2), .val (.int p3), .val (.int p4), .val (.int p5), .val (.int p6), .val (.ref o1), .val (.int (g0_1 p1 p2 p3 p4 p5 p6)), .unset, .unset, .unset, .unset] [])
    refine own_st (fun t k => XS.aload X8.here hx rfl (hb hby at_35) rfl rfl k) ?_
    show OG p e _ s below _ T8 (mkF m 37 #[.val (.int p1), .val (.int p2), .val (.int p3), .val (.int p4), .val (.int p5), .val (.int p6), .val (.ref o1), .val (.int (g0_1 p1 p2 p3 p4 p5 p6)), .unset, .unset, .unset, .unset] [(.ref o1)])
    refine own_st (fun t k => XS.iload X8.here hx rfl (hb hby at_37) rfl k) ?_
    show OG p e _ s below _ T8 (mkF m 39 #[.val (.int p1), .val (.int p2), .val (.int p3), .val (.int p4), .val (.int p5), .val (.int p6), .val (.ref o1), .val (.int (g0_1 p1 p2 p3 p4 p5 p6)), .unset, .unset, .unset, .unset] [(.int (g0_1 p1 p2 p3 p4 p5 p6)), (.ref o1)])
    refine own_st (fun t k => XS.bipush X8.here hx rfl (hb hby at_39) k) ?_
    show OG p e _ s below _ T8 (mkF m 41 #[.val (.int p1), .val (.int p2), .val (.int p3), .val (.int p4), .val (.int p5), .val (.int p6), .val (.ref o1), .val (.int (g0_1 p1 p2 p3 p4 p5 p6)), .unset, .unset, .unset, .unset] [(.int (15 : Int32)), (.int (g0_1 p1 p2 p3 p4 p5 p6)), (.ref o1)])
    refine own_st (fun t k => XS.iadd X8.here hx rfl (hb hby at_41) rfl k) ?_
    show OG p e _ s below _ T8 (mkF m 42 #[.val (.int p1), .val (.int p2), .val (.int p3), .val (.int p4), .val (.int p5), .val (.int p6), .val (.ref o1), .val (.int (g0_1 p1 p2 p3 p4 p5 p6)), .unset, .unset, .unset, .unset] [(.int ((g0_1 p1 p2 p3 p4 p5 p6) + (15 : Int32))), (.ref o1)])
    obtain ⟨cq28, kq28, q28a, q28b, q28c⟩ := isOf hZ rfl P8_0
    obtain ⟨_, _, ⟨T28, L28, k28, n28⟩, -, X28, ⟨Lc28, hQ28, l28, y28, z28⟩, st28⟩ := X8.virtualBack hx (y := (⟨"com/example/partwise/partwise/CompactThrift", "struct", "(I)V"⟩ : MethodName)) (z := (⟨"com/example/partwise/partwise/CompactThrift", "struct", "(I)V"⟩ : MethodName)) hown (mvT hZ (hw _ (List.mem_of_getElem? (i := 64) rfl))) (mvT hZ (hw _ (List.mem_of_getElem? (i := 65) rfl))) (notFace_of_selects (args := #[]) (mvT hZ (hw _ (List.mem_of_getElem? (i := 67) rfl)))) (mvT hZ (hw _ (List.mem_of_getElem? (i := 67) rfl))) (mvT hZ (hw _ (List.mem_of_getElem? (i := 66) rfl))) (by decide) (backOf (W := 0) (rm := ({ frames := 3, cells := 0, slots := 0, locals := 41 } : Room)) (rm11 l Z a0 hw [] o1 ((g0_1 p1 p2 p3 p4 p5 p6) + (15 : Int32)) bb_7 buf_7 (f10 (f9 ((p3 <<< ((1 : Int32) &&& 31)) ^^^ (p3 >>> ((31 : Int32) &&& 31)))) (1 : Int32)) enc_7 (g0_1 p1 p2 p3 p4 p5 p6) T8.heap n0 P8_0 P8_1 P8_2 P8_3 P8_4 F9 P8_5 P8_6 F10 P8_8 ge_o1 ge_bb_7 ge_buf_7 ge_enc_7 ne_o1_bb_7 ne_o1_buf_7 nx7_0 (Ne.symm ne_o1_enc_7) nx7_1 nx7_2 (OB.weak (own_vob (k := 1) _ (OB.lit (by decide))) (by decide)) (own_db p1 p2 p3 p4 p5 p6).1 (own_db p1 p2 p3 p4 p5 p6).2) hZ (hw _ (List.mem_of_getElem? (i := 68) rfl)) (hw _ (List.mem_of_getElem? (i := 2) rfl)) (by decide) (by decide)) q28a q28c (g := (mkF m 42 #[.val (.int p1), .val (.int p2), .val (.int p3), .val (.int p4), .val (.int p5), .val (.int p6), .val (.ref o1), .val (.int (g0_1 p1 p2 p3 p4 p5 p6)), .unset, .unset, .unset, .unset] [(.int ((g0_1 p1 p2 p3 p4 p5 p6) + (15 : Int32))), (.ref o1)])) rfl (by rw [hml]; rfl) (Steps.refl _) (argsL := [(.int ((g0_1 p1 p2 p3 p4 p5 p6) + (15 : Int32)))]) (rest := []) (lenOf pd__I_V rfl) rfl (by show 2 * 0 + _ ≤ _; exact Nat.le_of_eq rfl) (hb hby at_42) (fun _ _ => ⟨rfl, rfl, (by decide : 4 + 0 ≤ _), (by decide : 270 + 0 ≤ _)⟩)
    dsimp only [Pt.U, Pt.locs, Pt.cells, Pt.slots] at X28 l28 y28 z28 st28 hQ28
    subst l28 y28 z28
    obtain ⟨rfl, N28q, K28q, P28_0, P28_1, P28_2, P28_3, P28_4, P28_5, P28_6, P28_7, P28_8, P28_9⟩ := hQ28
    refine own_st (fun t k => st28.trans k) ?_
    have N28 := Fr.app N8 N28q
    have K28 : Keep h0 T28.heap [] := K8.trans K28q (own_all4 (Or.inr sz_o1) (Or.inr sy_bb_7) (Or.inr sy_buf_7) (Or.inr sy_enc_7))
    show OG p e _ s below _ T28 (mkF m 45 #[.val (.int p1), .val (.int p2), .val (.int p3), .val (.int p4), .val (.int p5), .val (.int p6), .val (.ref o1), .val (.int (g0_1 p1 p2 p3 p4 p5 p6)), .unset, .unset, .unset, .unset] [])
    refine own_st (fun t k => XS.iload X28.here hx rfl (hb hby at_45) rfl k) ?_
    show OG p e _ s below _ T28 (mkF m 47 #[.val (.int p1), .val (.int p2), .val (.int p3), .val (.int p4), .val (.int p5), .val (.int p6), .val (.ref o1), .val (.int (g0_1 p1 p2 p3 p4 p5 p6)), .unset, .unset, .unset, .unset] [(.int p6)])
    refine own_st (fun t k => XS.iconst X28.here hx rfl (hb hby at_47) k) ?_
    show OG p e _ s below _ T28 (mkF m 48 #[.val (.int p1), .val (.int p2), .val (.int p3), .val (.int p4), .val (.int p5), .val (.int p6), .val (.ref o1), .val (.int (g0_1 p1 p2 p3 p4 p5 p6)), .unset, .unset, .unset, .unset] [(.int (2 : Int32)), (.int p6)])
    refine own_st (fun t k => XS.iand X28.here hx rfl (hb hby at_48) rfl k) ?_
    show OG p e _ s below _ T28 (mkF m 49 #[.val (.int p1), .val (.int p2), .val (.int p3), .val (.int p4), .val (.int p5), .val (.int p6), .val (.ref o1), .val (.int (g0_1 p1 p2 p3 p4 p5 p6)), .unset, .unset, .unset, .unset] [(.int (p6 &&& (2 : Int32)))])
    by_cases c29 : (p6 &&& (2 : Int32)) = (0 : Int32)
    · refine own_st (fun t k => XS.ifYes X28.here hx rfl (pc0 := 49) (pc' := 57) rfl (hb hby at_49) rfl (own_if0 (teq c29).1) (by decide) (by decide) k) ?_
      show OG p e _ s below _ T28 (mkF m 57 #[.val (.int p1), .val (.int p2), .val (.int p3), .val (.int p4), .val (.int p5), .val (.int p6), .val (.ref o1), .val (.int (g0_1 p1 p2 p3 p4 p5 p6)), .unset, .unset, .unset, .unset] [])
      refine own_st (fun t k => XS.aload X28.here hx rfl (hb hby at_57) rfl rfl k) ?_
      show OG p e _ s below _ T28 (mkF m 59 #[.val (.int p1), .val (.int p2), .val (.int p3), .val (.int p4), .val (.int p5), .val (.int p6), .val (.ref o1), .val (.int (g0_1 p1 p2 p3 p4 p5 p6)), .unset, .unset, .unset, .unset] [(.ref o1)])
      obtain ⟨cq30, kq30, q30a, q30b, q30c⟩ := isOf hZ rfl P28_0
      obtain ⟨_, _, ⟨T30, L30, k30, n30⟩, -, X30, ⟨Lc30, hQ30, l30, y30, z30⟩, st30⟩ := X28.virtualBack hx (y := (⟨"com/example/partwise/partwise/CompactThrift", "reset", "()V"⟩ : MethodName)) (z := (⟨"com/example/partwise/partwise/CompactThrift", "reset", "()V"⟩ : MethodName)) hown (mvT hZ (hw _ (List.mem_of_getElem? (i := 80) rfl))) (mvT hZ (hw _ (List.mem_of_getElem? (i := 81) rfl))) (notFace_of_selects (args := #[]) (mvT hZ (hw _ (List.mem_of_getElem? (i := 83) rfl)))) (mvT hZ (hw _ (List.mem_of_getElem? (i := 83) rfl))) (mvT hZ (hw _ (List.mem_of_getElem? (i := 82) rfl))) (by decide) (backOf (W := 0) (rm := ({ frames := 1, cells := 0, slots := 0, locals := 12 } : Room)) (rm14 l Z a0 hw [] o1 bb_7 buf_7 ((f10 (f9 ((p3 <<< ((1 : Int32) &&& 31)) ^^^ (p3 >>> ((31 : Int32) &&& 31)))) (1 : Int32)) + (1 : Int32)) enc_7 (0 : Int32) (1 : Int32) T28.heap n0 P28_0 P28_1 P28_2 P28_3 P28_4 P28_6 P28_7 P28_8 P28_9 ge_o1 ge_bb_7 ne_o1_bb_7 ne_o1_buf_7 nx7_0) hZ (hw _ (List.mem_of_getElem? (i := 84) rfl)) (hw _ (List.mem_of_getElem? (i := 2) rfl)) (by decide) (by decide)) q30a q30c (g := (mkF m 59 #[.val (.int p1), .val (.int p2), .val (.int p3), .val (.int p4), .val (.int p5), .val (.int p6), .val (.ref o1), .val (.int (g0_1 p1 p2 p3 p4 p5 p6)), .unset, .unset, .unset, .unset] [(.ref o1)])) rfl (by rw [hml]; rfl) (Steps.refl _) (argsL := []) (rest := []) (lenOf pd___V rfl) rfl (by show 2 * 0 + _ ≤ _; exact Nat.le_of_eq rfl) (hb hby at_59) (fun _ _ => ⟨rfl, rfl, (by decide : 4 + 0 ≤ _), (by decide : 270 + 0 ≤ _)⟩)
      dsimp only [Pt.U, Pt.locs, Pt.cells, Pt.slots] at X30 l30 y30 z30 st30 hQ30
      subst l30 y30 z30
      obtain ⟨rfl, N30q, K30q, P30_0, P30_1, P30_2, P30_3, P30_4, P30_5, P30_6, P30_7, P30_8⟩ := hQ30
      refine own_st (fun t k => st30.trans k) ?_
      have N30 := Fr.app N28 N30q
      have K30 : Keep h0 T30.heap [] := K28.trans K30q (own_all2 (Or.inr sz_o1) (Or.inr sy_bb_7))
      have F31 : OA Z T30.heap enc_7 .int [(.int ((g0_1 p1 p2 p3 p4 p5 p6) + (15 : Int32))), (.int (0 : Int32)), (.int (0 : Int32)), (.int (0 : Int32)), (.int (0 : Int32)), (.int (0 : Int32)), (.int (0 : Int32)), (.int (0 : Int32))] := (P28_5.keep K30q (own_nin2 (Ne.symm ne_o1_enc_7) nx7_1))
      show OG p e _ s below _ T30 (mkF m 62 #[.val (.int p1), .val (.int p2), .val (.int p3), .val (.int p4), .val (.int p5), .val (.int p6), .val (.ref o1), .val (.int (g0_1 p1 p2 p3 p4 p5 p6)), .unset, .unset, .unset, .unset] [])
      refine own_st (fun t k => XS.aload X30.here hx rfl (hb hby at_62) rfl rfl k) ?_
      show OG p e _ s below _ T30 (mkF m 64 #[.val (.int p1), .val (.int p2), .val (.int p3), .val (.int p4), .val (.int p5), .val (.int p6), .val (.ref o1), .val (.int (g0_1 p1 p2 p3 p4 p5 p6)), .unset, .unset, .unset, .unset] [(.ref o1)])
      obtain ⟨cq32, kq32, q32a, q32b, q32c⟩ := isOf hZ rfl P30_0
      obtain ⟨_, _, ⟨T32, L32, k32, n32⟩, -, X32, ⟨Lc32, hQ32, l32, y32, z32⟩, st32⟩ := X30.virtualBack hx (y := (⟨"com/example/partwise/partwise/CompactThrift", "size", "()I"⟩ : MethodName)) (z := (⟨"com/example/partwise/partwise/CompactThrift", "size", "()I"⟩ : MethodName)) hown (mvT hZ (hw _ (List.mem_of_getElem? (i := 90) rfl))) (mvT hZ (hw _ (List.mem_of_getElem? (i := 91) rfl))) (notFace_of_selects (args := #[]) (mvT hZ (hw _ (List.mem_of_getElem? (i := 93) rfl)))) (mvT hZ (hw _ (List.mem_of_getElem? (i := 93) rfl))) (mvT hZ (hw _ (List.mem_of_getElem? (i := 92) rfl))) (by decide) (backOf (W := 0) (rm := ({ frames := 1, cells := 0, slots := 0, locals := 12 } : Room)) (rm16 l Z a0 hw [] o1 bb_7 (0 : Int32) T30.heap P30_1 P30_5 P30_7) hZ (hw _ (List.mem_of_getElem? (i := 94) rfl)) (hw _ (List.mem_of_getElem? (i := 2) rfl)) (by decide) (by decide)) q32a q32c (g := (mkF m 64 #[.val (.int p1), .val (.int p2), .val (.int p3), .val (.int p4), .val (.int p5), .val (.int p6), .val (.ref o1), .val (.int (g0_1 p1 p2 p3 p4 p5 p6)), .unset, .unset, .unset, .unset] [(.ref o1)])) rfl (by rw [hml]; rfl) (Steps.refl _) (argsL := []) (rest := []) (lenOf pd___I rfl) rfl (by show 2 * 0 + _ ≤ _; exact Nat.le_of_eq rfl) (hb hby at_64) (fun _ _ => ⟨rfl, rfl, (by decide : 4 + 0 ≤ _), (by decide : 270 + 0 ≤ _)⟩)
      dsimp only [Pt.U, Pt.locs, Pt.cells, Pt.slots] at X32 l32 y32 z32 st32 hQ32
      subst l32 y32 z32
      obtain ⟨rfl, rfl, e32⟩ := hQ32
      refine own_st (fun t k => st32.trans k) ?_
      have N32 := Fr.app N30 (Fr.nil n0)
      show OG p e _ s below _ T32 (mkF m 67 #[.val (.int p1), .val (.int p2), .val (.int p3), .val (.int p4), .val (.int p5), .val (.int p6), .val (.ref o1), .val (.int (g0_1 p1 p2 p3 p4 p5 p6)), .unset, .unset, .unset, .unset] [(.int (f16 (0 : Int32)))])
      refine own_st (T' := T32) (g' := (mkF m 75 #[.val (.int p1), .val (.int p2), .val (.int p3), .val (.int p4), .val (.int p5), .val (.int p6), .val (.ref o1), .val (.int (g0_1 p1 p2 p3 p4 p5 p6)), .unset, .unset, .unset, .unset] [(.int (if (f16 (0 : Int32)) = (0 : Int32) then (1 : Int32) else (0 : Int32)))])) (fun t k => ?_) ?_
      · by_cases c33 : (f16 (0 : Int32)) = (0 : Int32)
        · rw [if_pos c33] at k
          refine XS.ifNo X32.here hx rfl (hb hby at_67) rfl (own_if0 (teq c33).2) ?_
          show Steps p.tables e below (T32.setTop (mkF m 70 #[.val (.int p1), .val (.int p2), .val (.int p3), .val (.int p4), .val (.int p5), .val (.int p6), .val (.ref o1), .val (.int (g0_1 p1 p2 p3 p4 p5 p6)), .unset, .unset, .unset, .unset] [])) _
          refine XS.iconst X32.here hx rfl (hb hby at_70) ?_
          show Steps p.tables e below (T32.setTop (mkF m 71 #[.val (.int p1), .val (.int p2), .val (.int p3), .val (.int p4), .val (.int p5), .val (.int p6), .val (.ref o1), .val (.int (g0_1 p1 p2 p3 p4 p5 p6)), .unset, .unset, .unset, .unset] [(.int (1 : Int32))])) _
          refine XS.goto X32.here hx rfl (pc0 := 71) (pc' := 75) rfl (hb hby at_71) (by decide) (by decide) ?_
          exact k
        · rw [if_neg c33] at k
          refine XS.ifYes X32.here hx rfl (pc0 := 67) (pc' := 74) rfl (hb hby at_67) rfl (own_if0 (feq c33).2) (by decide) (by decide) ?_
          show Steps p.tables e below (T32.setTop (mkF m 74 #[.val (.int p1), .val (.int p2), .val (.int p3), .val (.int p4), .val (.int p5), .val (.int p6), .val (.ref o1), .val (.int (g0_1 p1 p2 p3 p4 p5 p6)), .unset, .unset, .unset, .unset] [])) _
          refine XS.iconst X32.here hx rfl (hb hby at_74) ?_
          show Steps p.tables e below (T32.setTop (mkF m 75 #[.val (.int p1), .val (.int p2), .val (.int p3), .val (.int p4), .val (.int p5), .val (.int p6), .val (.ref o1), .val (.int (g0_1 p1 p2 p3 p4 p5 p6)), .unset, .unset, .unset, .unset] [(.int (0 : Int32))])) _
          exact k
      show OG p e _ s below _ T32 (mkF m 75 #[.val (.int p1), .val (.int p2), .val (.int p3), .val (.int p4), .val (.int p5), .val (.int p6), .val (.ref o1), .val (.int (g0_1 p1 p2 p3 p4 p5 p6)), .unset, .unset, .unset, .unset] [(.int (if (f16 (0 : Int32)) = (0 : Int32) then (1 : Int32) else (0 : Int32)))])
      refine own_st (fun t k => XS.istore X32.here hx rfl (hb hby at_75) rfl (l' := #[.val (.int p1), .val (.int p2), .val (.int p3), .val (.int p4), .val (.int p5), .val (.int p6), .val (.ref o1), .val (.int (g0_1 p1 p2 p3 p4 p5 p6)), .val (.int (g0_2 p1 p2 p3 p4 p5 p6)), .unset, .unset, .unset]) rfl k) ?_
      show OG p e _ s below _ T32 (mkF m 77 #[.val (.int p1), .val (.int p2), .val (.int p3), .val (.int p4), .val (.int p5), .val (.int p6), .val (.ref o1), .val (.int (g0_1 p1 p2 p3 p4 p5 p6)), .val (.int (g0_2 p1 p2 p3 p4 p5 p6)), .unset, .unset, .unset] [])
      refine own_st (fun t k => XS.iconst X32.here hx rfl (hb hby at_77) k) ?_
      show OG p e _ s below _ T32 (mkF m 78 #[.val (.int p1), .val (.int p2), .val (.int p3), .val (.int p4), .val (.int p5), .val (.int p6), .val (.ref o1), .val (.int (g0_1 p1 p2 p3 p4 p5 p6)), .val (.int (g0_2 p1 p2 p3 p4 p5 p6)), .unset, .unset, .unset] [(.int (1 : Int32))])
      refine own_st (fun t k => XS.iloadN X32.here hx rfl (hb hby at_78) rfl k) ?_
      show OG p e _ s below _ T32 (mkF m 79 #[.val (.int p1), .val (.int p2), .val (.int p3), .val (.int p4), .val (.int p5), .val (.int p6), .val (.ref o1), .val (.int (g0_1 p1 p2 p3 p4 p5 p6)), .val (.int (g0_2 p1 p2 p3 p4 p5 p6)), .unset, .unset, .unset] [(.int p2), (.int (1 : Int32))])
      refine own_st (fun t k => X32.ldcInt hx hown (mvT hZ (hw _ (List.mem_of_getElem? (i := 24) rfl))) (g := (mkF m 79 #[.val (.int p1), .val (.int p2), .val (.int p3), .val (.int p4), .val (.int p5), .val (.int p6), .val (.ref o1), .val (.int (g0_1 p1 p2 p3 p4 p5 p6)), .val (.int (g0_2 p1 p2 p3 p4 p5 p6)), .unset, .unset, .unset] [(.int p2), (.int (1 : Int32))])) rfl (hb hby at_79) _ k) ?_
      show OG p e _ s below _ T32 (mkF m 81 #[.val (.int p1), .val (.int p2), .val (.int p3), .val (.int p4), .val (.int p5), .val (.int p6), .val (.ref o1), .val (.int (g0_1 p1 p2 p3 p4 p5 p6)), .val (.int (g0_2 p1 p2 p3 p4 p5 p6)), .unset, .unset, .unset] [(.int (2147483647 : Int32)), (.int p2), (.int (1 : Int32))])
      refine own_st (fun t k => XS.iand X32.here hx rfl (hb hby at_81) rfl k) ?_
      show OG p e _ s below _ T32 (mkF m 82 #[.val (.int p1), .val (.int p2), .val (.int p3), .val (.int p4), .val (.int p5), .val (.int p6), .val (.ref o1), .val (.int (g0_1 p1 p2 p3 p4 p5 p6)), .val (.int (g0_2 p1 p2 p3 p4 p5 p6)), .unset, .unset, .unset] [(.int (p2 &&& (2147483647 : Int32))), (.int (1 : Int32))])
      refine own_st (fun t k => XS.bipush X32.here hx rfl (hb hby at_82) k) ?_
      show OG p e _ s below _ T32 (mkF m 84 #[.val (.int p1), .val (.int p2), .val (.int p3), .val (.int p4), .val (.int p5), .val (.int p6), .val (.ref o1), .val (.int (g0_1 p1 p2 p3 p4 p5 p6)), .val (.int (g0_2 p1 p2 p3 p4 p5 p6)), .unset, .unset, .unset] [(.int (15 : Int32)), (.int (p2 &&& (2147483647 : Int32))), (.int (1 : Int32))])
      refine own_st (fun t k => iremM X32 hx rfl (hb hby at_84) rfl (by decide) k) ?_
      show OG p e _ s below _ T32 (mkF m 85 #[.val (.int p1), .val (.int p2), .val (.int p3), .val (.int p4), .val (.int p5), .val (.int p6), .val (.ref o1), .val (.int (g0_1 p1 p2 p3 p4 p5 p6)), .val (.int (g0_2 p1 p2 p3 p4 p5 p6)), .unset, .unset, .unset] [(.int ((p2 &&& (2147483647 : Int32)) % (15 : Int32))), (.int (1 : Int32))])
      refine own_st (fun t k => XS.iadd X32.here hx rfl (hb hby at_85) rfl k) ?_
      show OG p e _ s below _ T32 (mkF m 86 #[.val (.int p1), .val (.int p2), .val (.int p3), .val (.int p4), .val (.int p5), .val (.int p6), .val (.ref o1), .val (.int (g0_1 p1 p2 p3 p4 p5 p6)), .val (.int (g0_2 p1 p2 p3 p4 p5 p6)), .unset, .unset, .unset] [(.int ((1 : Int32) + ((p2 &&& (2147483647 : Int32)) % (15 : Int32))))])
      refine own_st (fun t k => XS.istore X32.here hx rfl (hb hby at_86) rfl (l' := #[.val (.int p1), .val (.int p2), .val (.int p3), .val (.int p4), .val (.int p5), .val (.int p6), .val (.ref o1), .val (.int (g0_1 p1 p2 p3 p4 p5 p6)), .val (.int (g0_2 p1 p2 p3 p4 p5 p6)), .val (.int (g0_3 p1 p2 p3 p4 p5 p6)), .unset, .unset]) rfl k) ?_
      show OG p e _ s below _ T32 (mkF m 88 #[.val (.int p1), .val (.int p2), .val (.int p3), .val (.int p4), .val (.int p5), .val (.int p6), .val (.ref o1), .val (.int (g0_1 p1 p2 p3 p4 p5 p6)), .val (.int (g0_2 p1 p2 p3 p4 p5 p6)), .val (.int (g0_3 p1 p2 p3 p4 p5 p6)), .unset, .unset] [])
      refine own_st (fun t k => XS.iload X32.here hx rfl (hb hby at_88) rfl k) ?_
      show OG p e _ s below _ T32 (mkF m 90 #[.val (.int p1), .val (.int p2), .val (.int p3), .val (.int p4), .val (.int p5), .val (.int p6), .val (.ref o1), .val (.int (g0_1 p1 p2 p3 p4 p5 p6)), .val (.int (g0_2 p1 p2 p3 p4 p5 p6)), .val (.int (g0_3 p1 p2 p3 p4 p5 p6)), .unset, .unset] [(.int (g0_3 p1 p2 p3 p4 p5 p6))])
      refine own_st (fun t k => XS.iconst X32.here hx rfl (hb hby at_90) k) ?_
      show OG p e _ s below _ T32 (mkF m 91 #[.val (.int p1), .val (.int p2), .val (.int p3), .val (.int p4), .val (.int p5), .val (.int p6), .val (.ref o1), .val (.int (g0_1 p1 p2 p3 p4 p5 p6)), .val (.int (g0_2 p1 p2 p3 p4 p5 p6)), .val (.int (g0_3 p1 p2 p3 p4 p5 p6)), .unset, .unset] [(.int (1 : Int32)), (.int (g0_3 p1 p2 p3 p4 p5 p6))])
      refine own_st (fun t k => XS.iadd X32.here hx rfl (hb hby at_91) rfl k) ?_
      show OG p e _ s below _ T32 (mkF m 92 #[.val (.int p1), .val (.int p2), .val (.int p3), .val (.int p4), .val (.int p5), .val (.int p6), .val (.ref o1), .val (.int (g0_1 p1 p2 p3 p4 p5 p6)), .val (.int (g0_2 p1 p2 p3 p4 p5 p6)), .val (.int (g0_3 p1 p2 p3 p4 p5 p6)), .unset, .unset] [(.int ((g0_3 p1 p2 p3 p4 p5 p6) + (1 : Int32)))])
      refine own_st (fun t k => XS.iload X32.here hx rfl (hb hby at_92) rfl k) ?_
      show OG p e _ s below _ T32 (mkF m 94 #[.val (.int p1), .val (.int p2), .val (.int p3), .val (.int p4), .val (.int p5), .val (.int p6), .val (.ref o1), .val (.int (g0_1 p1 p2 p3 p4 p5 p6)), .val (.int (g0_2 p1 p2 p3 p4 p5 p6)), .val (.int (g0_3 p1 p2 p3 p4 p5 p6)), .unset, .unset] [(.int p5), (.int ((g0_3 p1 p2 p3 p4 p5 p6) + (1 : Int32)))])
      refine own_st (fun t k => X32.ldcInt hx hown (mvT hZ (hw _ (List.mem_of_getElem? (i := 24) rfl))) (g := (mkF m 94 #[.val (.int p1), .val (.int p2), .val (.int p3), .val (.int p4), .val (.int p5), .val (.int p6), .val (.ref o1), .val (.int (g0_1 p1 p2 p3 p4 p5 p6)), .val (.int (g0_2 p1 p2 p3 p4 p5 p6)), .val (.int (g0_3 p1 p2 p3 p4 p5 p6)), .unset, .unset] [(.int p5), (.int ((g0_3 p1 p2 p3 p4 p5 p6) + (1 : Int32)))])) rfl (hb hby at_94) _ k) ?_
      show OG p e _ s below _ T32 (mkF m 96 #[.val (.int p1), .val (.int p2), .val (.int p3), .val (.int p4), .val (.int p5), .val (.int p6), .val (.ref o1), .val (.int (g0_1 p1 p2 p3 p4 p5 p6)), .val (.int (g0_2 p1 p2 p3 p4 p5 p6)), .val (.int (g0_3 p1 p2 p3 p4 p5 p6)), .unset, .unset] [(.int (2147483647 : Int32)), (.int p5), (.int ((g0_3 p1 p2 p3 p4 p5 p6) + (1 : Int32)))])
      refine own_st (fun t k => XS.iand X32.here hx rfl (hb hby at_96) rfl k) ?_
      show OG p e _ s below _ T32 (mkF m 97 #[.val (.int p1), .val (.int p2), .val (.int p3), .val (.int p4), .val (.int p5), .val (.int p6), .val (.ref o1), .val (.int (g0_1 p1 p2 p3 p4 p5 p6)), .val (.int (g0_2 p1 p2 p3 p4 p5 p6)), .val (.int (g0_3 p1 p2 p3 p4 p5 p6)), .unset, .unset] [(.int (p5 &&& (2147483647 : Int32))), (.int ((g0_3 p1 p2 p3 p4 p5 p6) + (1 : Int32)))])
      refine own_st (fun t k => XS.bipush X32.here hx rfl (hb hby at_97) k) ?_
      show OG p e _ s below _ T32 (mkF m 99 #[.val (.int p1), .val (.int p2), .val (.int p3), .val (.int p4), .val (.int p5), .val (.int p6), .val (.ref o1), .val (.int (g0_1 p1 p2 p3 p4 p5 p6)), .val (.int (g0_2 p1 p2 p3 p4 p5 p6)), .val (.int (g0_3 p1 p2 p3 p4 p5 p6)), .unset, .unset] [(.int (15 : Int32)), (.int (p5 &&& (2147483647 : Int32))), (.int ((g0_3 p1 p2 p3 p4 p5 p6) + (1 : Int32)))])
      refine own_st (fun t k => iremM X32 hx rfl (hb hby at_99) rfl (by decide) k) ?_
      show OG p e _ s below _ T32 (mkF m 100 #[.val (.int p1), .val (.int p2), .val (.int p3), .val (.int p4), .val (.int p5), .val (.int p6), .val (.ref o1), .val (.int (g0_1 p1 p2 p3 p4 p5 p6)), .val (.int (g0_2 p1 p2 p3 p4 p5 p6)), .val (.int (g0_3 p1 p2 p3 p4 p5 p6)), .unset, .unset] [(.int ((p5 &&& (2147483647 : Int32)) % (15 : Int32))), (.int ((g0_3 p1 p2 p3 p4 p5 p6) + (1 : Int32)))])
      refine own_st (fun t k => XS.iadd X32.here hx rfl (hb hby at_100) rfl k) ?_
      show OG p e _ s below _ T32 (mkF m 101 #[.val (.int p1), .val (.int p2), .val (.int p3), .val (.int p4), .val (.int p5), .val (.int p6), .val (.ref o1), .val (.int (g0_1 p1 p2 p3 p4 p5 p6)), .val (.int (g0_2 p1 p2 p3 p4 p5 p6)), .val (.int (g0_3 p1 p2 p3 p4 p5 p6)), .unset, .unset] [(.int (((g0_3 p1 p2 p3 p4 p5 p6) + (1 : Int32)) + ((p5 &&& (2147483647 : Int32)) % (15 : Int32))))])
      refine own_st (fun t k => XS.istore X32.here hx rfl (hb hby at_101) rfl (l' := #[.val (.int p1), .val (.int p2), .val (.int p3), .val (.int p4), .val (.int p5), .val (.int p6), .val (.ref o1), .val (.int (g0_1 p1 p2 p3 p4 p5 p6)), .val (.int (g0_2 p1 p2 p3 p4 p5 p6)), .val (.int (g0_3 p1 p2 p3 p4 p5 p6)), .val (.int (g0_4 p1 p2 p3 p4 p5 p6)), .unset]) rfl k) ?_
      show OG p e _ s below _ T32 (mkF m 103 #[.val (.int p1), .val (.int p2), .val (.int p3), .val (.int p4), .val (.int p5), .val (.int p6), .val (.ref o1), .val (.int (g0_1 p1 p2 p3 p4 p5 p6)), .val (.int (g0_2 p1 p2 p3 p4 p5 p6)), .val (.int (g0_3 p1 p2 p3 p4 p5 p6)), .val (.int (g0_4 p1 p2 p3 p4 p5 p6)), .unset] [])
      refine own_st (fun t k => XS.aload X32.here hx rfl (hb hby at_103) rfl rfl k) ?_
      show OG p e _ s below _ T32 (mkF m 105 #[.val (.int p1), .val (.int p2), .val (.int p3), .val (.int p4), .val (.int p5), .val (.int p6), .val (.ref o1), .val (.int (g0_1 p1 p2 p3 p4 p5 p6)), .val (.int (g0_2 p1 p2 p3 p4 p5 p6)), .val (.int (g0_3 p1 p2 p3 p4 p5 p6)), .val (.int (g0_4 p1 p2 p3 p4 p5 p6)), .unset] [(.ref o1)])
      refine own_st (fun t k => XS.iload X32.here hx rfl (hb hby at_105) rfl k) ?_
      show OG p e _ s below _ T32 (mkF m 107 #[.val (.int p1), .val (.int p2), .val (.int p3), .val (.int p4), .val (.int p5), .val (.int p6), .val (.ref o1), .val (.int (g0_1 p1 p2 p3 p4 p5 p6)), .val (.int (g0_2 p1 p2 p3 p4 p5 p6)), .val (.int (g0_3 p1 p2 p3 p4 p5 p6)), .val (.int (g0_4 p1 p2 p3 p4 p5 p6)), .unset] [(.int (g0_3 p1 p2 p3 p4 p5 p6)), (.ref o1)])
      refine own_st (fun t k => XS.iloadN X32.here hx rfl (hb hby at_107) rfl k) ?_
      show OG p e _ s below _ T32 (mkF m 108 #[.val (.int p1), .val (.int p2), .val (.int p3), .val (.int p4), .val (.int p5), .val (.int p6), .val (.ref o1), .val (.int (g0_1 p1 p2 p3 p4 p5 p6)), .val (.int (g0_2 p1 p2 p3 p4 p5 p6)), .val (.int (g0_3 p1 p2 p3 p4 p5 p6)), .val (.int (g0_4 p1 p2 p3 p4 p5 p6)), .unset] [(.int p3), (.int (g0_3 p1 p2 p3 p4 p5 p6)), (.ref o1)])
      obtain ⟨cq34, kq34, q34a, q34b, q34c⟩ := isOf hZ e32 P30_0
      obtain ⟨_, _, ⟨T34, L34, k34, n34⟩, -, X34, ⟨Lc34, hQ34, l34, y34, z34⟩, st34⟩ := X32.virtualBack hx (y := (⟨"com/example/partwise/partwise/CompactThrift", "i32", "(II)V"⟩ : MethodName)) (z := (⟨"com/example/partwise/partwise/CompactThrift", "i32", "(II)V"⟩ : MethodName)) hown (mvT hZ (hw _ (List.mem_of_getElem? (i := 25) rfl))) (mvT hZ (hw _ (List.mem_of_getElem? (i := 26) rfl))) (notFace_of_selects (args := #[]) (mvT hZ (hw _ (List.mem_of_getElem? (i := 28) rfl)))) (mvT hZ (hw _ (List.mem_of_getElem? (i := 28) rfl))) (mvT hZ (hw _ (List.mem_of_getElem? (i := 27) rfl))) (by decide) (backOf (W := 0) (rm := ({ frames := 4, cells := 0, slots := 0, locals := 55 } : Room)) (rm4 l Z a0 hw [] o1 (g0_3 p1 p2 p3 p4 p5 p6) p3 bb_7 buf_7 (0 : Int32) enc_7 (0 : Int32) (0 : Int32) T30.heap n0 P30_0 P30_1 P30_2 P30_3 P30_4 P30_5 P30_6 P30_7 P30_8 ge_o1 ge_bb_7 ge_buf_7 ne_o1_bb_7 ne_o1_buf_7 nx7_0 (OB.lit (by decide)) (own_dc p1 p2 p3 p4 p5 p6).1 (own_dc p1 p2 p3 p4 p5 p6).2) hZ (hw _ (List.mem_of_getElem? (i := 29) rfl)) (hw _ (List.mem_of_getElem? (i := 2) rfl)) (by decide) (by decide)) q34a q34c (g := (mkF m 108 #[.val (.int p1), .val (.int p2), .val (.int p3), .val (.int p4), .val (.int p5), .val (.int p6), .val (.ref o1), .val (.int (g0_1 p1 p2 p3 p4 p5 p6)), .val (.int (g0_2 p1 p2 p3 p4 p5 p6)), .val (.int (g0_3 p1 p2 p3 p4 p5 p6)), .val (.int (g0_4 p1 p2 p3 p4 p5 p6)), .unset] [(.int p3), (.int (g0_3 p1 p2 p3 p4 p5 p6)), (.ref o1)])) rfl (by rw [hml]; rfl) (Steps.refl _) (argsL := [(.int (g0_3 p1 p2 p3 p4 p5 p6)), (.int p3)]) (rest := []) (lenOf pd__II_V rfl) rfl (by show 2 * 0 + _ ≤ _; exact Nat.le_of_eq rfl) (hb hby at_108) (fun _ _ => ⟨rfl, e32, (by decide : 4 + 0 ≤ _), (by decide : 270 + 0 ≤ _)⟩)
      dsimp only [Pt.U, Pt.locs, Pt.cells, Pt.slots] at X34 l34 y34 z34 st34 hQ34
      subst l34 y34 z34
      obtain ⟨rfl, N34q, K34q, P34_0, P34_1, P34_2, P34_3, P34_4, P34_5, P34_6, P34_7, P34_8⟩ := hQ34
      refine own_st (fun t k => st34.trans k) ?_
      have N34 := Fr.app N32 N34q
      have K34 : Keep h0 T34.heap [] := K30.trans K34q (own_all3 (Or.inr sz_o1) (Or.inr sy_bb_7) (Or.inr sy_buf_7))
      have F35 : OA Z T34.heap enc_7 .int [(.int ((g0_1 p1 p2 p3 p4 p5 p6) + (15 : Int32))), (.int (0 : Int32)), (.int (0 : Int32)), (.int (0 : Int32)), (.int (0 : Int32)), (.int (0 : Int32)), (.int (0 : Int32)), (.int (0 : Int32))] := (F31.keep K34q (own_nin3 (Ne.symm ne_o1_enc_7) nx7_1 nx7_2))
      have F36 : Fld Z T34.heap bb_7 "com/example/partwise/partwise/ByteBuilder" "length" "I" (.int (f10 (f9 ((p3 <<< ((1 : Int32) &&& 31)) ^^^ (p3 >>> ((31 : Int32) &&& 31)))) (1 : Int32))) := P34_7
      show OG p e _ s below _ T34 (mkF m 111 #[.val (.int p1), .val (.int p2), .val (.int p3), .val (.int p4), .val (.int p5), .val (.int p6), .val (.ref o1), .val (.int (g0_1 p1 p2 p3 p4 p5 p6)), .val (.int (g0_2 p1 p2 p3 p4 p5 p6)), .val (.int (g0_3 p1 p2 p3 p4 p5 p6)), .val (.int (g0_4 p1 p2 p3 p4 p5 p6)), .unset] [])
      refine own_st (fun t k => XS.aload X34.here hx rfl (hb hby at_111) rfl rfl k) ?_
      show OG p e _ s below _ T34 (mkF m 113 #[.val (.int p1), .val (.int p2), .val (.int p3), .val (.int p4), .val (.int p5), .val (.int p6), .val (.ref o1), .val (.int (g0_1 p1 p2 p3 p4 p5 p6)), .val (.int (g0_2 p1 p2 p3 p4 p5 p6)), .val (.int (g0_3 p1 p2 p3 p4 p5 p6)), .val (.int (g0_4 p1 p2 p3 p4 p5 p6)), .unset] [(.ref o1)])
      obtain ⟨cq37, kq37, q37a, q37b, q37c⟩ := isOf hZ rfl P34_0
      obtain ⟨_, _, ⟨T37, L37, k37, n37⟩, -, X37, ⟨Lc37, hQ37, l37, y37, z37⟩, st37⟩ := X34.virtualBack hx (y := (⟨"com/example/partwise/partwise/CompactThrift", "end", "()V"⟩ : MethodName)) (z := (⟨"com/example/partwise/partwise/CompactThrift", "end", "()V"⟩ : MethodName)) hown (mvT hZ (hw _ (List.mem_of_getElem? (i := 75) rfl))) (mvT hZ (hw _ (List.mem_of_getElem? (i := 76) rfl))) (notFace_of_selects (args := #[]) (mvT hZ (hw _ (List.mem_of_getElem? (i := 78) rfl)))) (mvT hZ (hw _ (List.mem_of_getElem? (i := 78) rfl))) (mvT hZ (hw _ (List.mem_of_getElem? (i := 77) rfl))) (by decide) (backOf (W := 0) (rm := ({ frames := 2, cells := 0, slots := 0, locals := 26 } : Room)) (rm13_0 l Z a0 hw [] o1 bb_7 buf_7 (f10 (f9 ((p3 <<< ((1 : Int32) &&& 31)) ^^^ (p3 >>> ((31 : Int32) &&& 31)))) (1 : Int32)) enc_7 (g0_3 p1 p2 p3 p4 p5 p6) T34.heap n0 P34_0 P34_1 P34_2 P34_3 P34_4 P34_5 P34_6 F36 P34_8 ge_bb_7 ge_buf_7 ne_o1_bb_7 ne_o1_buf_7 nx7_0 (OB.weak (own_vob (k := 1) _ (OB.lit (by decide))) (by decide))) hZ (hw _ (List.mem_of_getElem? (i := 79) rfl)) (hw _ (List.mem_of_getElem? (i := 2) rfl)) (by decide) (by decide)) q37a q37c (g := (mkF m 113 #[.val (.int p1), .val (.int p2), .val (.int p3), .val (.int p4), .val (.int p5), .val (.int p6), .val (.ref o1), .val (.int (g0_1 p1 p2 p3 p4 p5 p6)), .val (.int (g0_2 p1 p2 p3 p4 p5 p6)), .val (.int (g0_3 p1 p2 p3 p4 p5 p6)), .val (.int (g0_4 p1 p2 p3 p4 p5 p6)), .unset] [(.ref o1)])) rfl (by rw [hml]; rfl) (Steps.refl _) (argsL := []) (rest := []) (lenOf pd___V rfl) rfl (by show 2 * 0 + _ ≤ _; exact Nat.le_of_eq rfl) (hb hby at_113) (fun _ _ => ⟨rfl, rfl, (by decide : 4 + 0 ≤ _), (by decide : 270 + 0 ≤ _)⟩)
      dsimp only [Pt.U, Pt.locs, Pt.cells, Pt.slots] at X37 l37 y37 z37 st37 hQ37
      subst l37 y37 z37
      obtain ⟨rfl, N37q, K37q, P37_0, P37_1, P37_2, P37_3, P37_4, P37_5, P37_6, P37_7, P37_8⟩ := hQ37
      refine own_st (fun t k => st37.trans k) ?_
      have N37 := Fr.app N34 N37q
      have K37 : Keep h0 T37.heap [] := K34.trans K37q (own_all2 (Or.inr sy_bb_7) (Or.inr sy_buf_7))
      have F38 : OA Z T37.heap enc_7 .int [(.int ((g0_1 p1 p2 p3 p4 p5 p6) + (15 : Int32))), (.int (0 : Int32)), (.int (0 : Int32)), (.int (0 : Int32)), (.int (0 : Int32)), (.int (0 : Int32)), (.int (0 : Int32)), (.int (0 : Int32))] := (F35.keep K37q (own_nin2 nx7_1 nx7_2))
      show OG p e _ s below _ T37 (mkF m 116 #[.val (.int p1), .val (.int p2), .val (.int p3), .val (.int p4), .val (.int p5), .val (.int p6), .val (.ref o1), .val (.int (g0_1 p1 p2 p3 p4 p5 p6)), .val (.int (g0_2 p1 p2 p3 p4 p5 p6)), .val (.int (g0_3 p1 p2 p3 p4 p5 p6)), .val (.int (g0_4 p1 p2 p3 p4 p5 p6)), .unset] [])
      refine own_st (fun t k => XS.aload X37.here hx rfl (hb hby at_116) rfl rfl k) ?_
      show OG p e _ s below _ T37 (mkF m 118 #[.val (.int p1), .val (.int p2), .val (.int p3), .val (.int p4), .val (.int p5), .val (.int p6), .val (.ref o1), .val (.int (g0_1 p1 p2 p3 p4 p5 p6)), .val (.int (g0_2 p1 p2 p3 p4 p5 p6)), .val (.int (g0_3 p1 p2 p3 p4 p5 p6)), .val (.int (g0_4 p1 p2 p3 p4 p5 p6)), .unset] [(.ref o1)])
      refine own_st (fun t k => XS.iload X37.here hx rfl (hb hby at_118) rfl k) ?_
      show OG p e _ s below _ T37 (mkF m 120 #[.val (.int p1), .val (.int p2), .val (.int p3), .val (.int p4), .val (.int p5), .val (.int p6), .val (.ref o1), .val (.int (g0_1 p1 p2 p3 p4 p5 p6)), .val (.int (g0_2 p1 p2 p3 p4 p5 p6)), .val (.int (g0_3 p1 p2 p3 p4 p5 p6)), .val (.int (g0_4 p1 p2 p3 p4 p5 p6)), .unset] [(.int (g0_4 p1 p2 p3 p4 p5 p6)), (.ref o1)])
      refine own_st (fun t k => XS.iloadN X37.here hx rfl (hb hby at_120) rfl k) ?_
      show OG p e _ s below _ T37 (mkF m 121 #[.val (.int p1), .val (.int p2), .val (.int p3), .val (.int p4), .val (.int p5), .val (.int p6), .val (.ref o1), .val (.int (g0_1 p1 p2 p3 p4 p5 p6)), .val (.int (g0_2 p1 p2 p3 p4 p5 p6)), .val (.int (g0_3 p1 p2 p3 p4 p5 p6)), .val (.int (g0_4 p1 p2 p3 p4 p5 p6)), .unset] [(.int p4), (.int (g0_4 p1 p2 p3 p4 p5 p6)), (.ref o1)])
      obtain ⟨cq39, kq39, q39a, q39b, q39c⟩ := isOf hZ rfl P37_0
      obtain ⟨_, _, ⟨T39, L39, k39, n39⟩, -, X39, ⟨Lc39, hQ39, l39, y39, z39⟩, st39⟩ := X37.virtualBack hx (y := (⟨"com/example/partwise/partwise/CompactThrift", "i32", "(II)V"⟩ : MethodName)) (z := (⟨"com/example/partwise/partwise/CompactThrift", "i32", "(II)V"⟩ : MethodName)) hown (mvT hZ (hw _ (List.mem_of_getElem? (i := 25) rfl))) (mvT hZ (hw _ (List.mem_of_getElem? (i := 26) rfl))) (notFace_of_selects (args := #[]) (mvT hZ (hw _ (List.mem_of_getElem? (i := 28) rfl)))) (mvT hZ (hw _ (List.mem_of_getElem? (i := 28) rfl))) (mvT hZ (hw _ (List.mem_of_getElem? (i := 27) rfl))) (by decide) (backOf (W := 0) (rm := ({ frames := 4, cells := 0, slots := 0, locals := 55 } : Room)) (rm4 l Z a0 hw [] o1 (g0_4 p1 p2 p3 p4 p5 p6) p4 bb_7 buf_7 ((f10 (f9 ((p3 <<< ((1 : Int32) &&& 31)) ^^^ (p3 >>> ((31 : Int32) &&& 31)))) (1 : Int32)) + (1 : Int32)) enc_7 (g0_3 p1 p2 p3 p4 p5 p6) (0 : Int32) T37.heap n0 P37_0 P37_1 P37_2 P37_3 P37_4 P37_5 P37_6 P37_7 P37_8 ge_o1 ge_bb_7 ge_buf_7 ne_o1_bb_7 ne_o1_buf_7 nx7_0 (OB.weak (own_vob (k := 7) _ (OB.lit (by decide))).step (by decide)) (own_dd p1 p2 p3 p4 p5 p6).1 (own_dd p1 p2 p3 p4 p5 p6).2) hZ (hw _ (List.mem_of_getElem? (i := 29) rfl)) (hw _ (List.mem_of_getElem? (i := 2) rfl)) (by decide) (by decide)) q39a q39c (g := (mkF m 121 #[.val (.int p1), .val (.int p2), .val (.int p3), .val (.int p4), .val (.int p5), .val (.int p6), .val (.ref o1), .val (.int (g0_1 p1 p2 p3 p4 p5 p6)), .val (.int (g0_2 p1 p2 p3 p4 p5 p6)), .val (.int (g0_3 p1 p2 p3 p4 p5 p6)), .val (.int (g0_4 p1 p2 p3 p4 p5 p6)), .unset] [(.int p4), (.int (g0_4 p1 p2 p3 p4 p5 p6)), (.ref o1)])) rfl (by rw [hml]; rfl) (Steps.refl _) (argsL := [(.int (g0_4 p1 p2 p3 p4 p5 p6)), (.int p4)]) (rest := []) (lenOf pd__II_V rfl) rfl (by show 2 * 0 + _ ≤ _; exact Nat.le_of_eq rfl) (hb hby at_121) (fun _ _ => ⟨rfl, rfl, (by decide : 4 + 0 ≤ _), (by decide : 270 + 0 ≤ _)⟩)
      dsimp only [Pt.U, Pt.locs, Pt.cells, Pt.slots] at X39 l39 y39 z39 st39 hQ39
      subst l39 y39 z39
      obtain ⟨rfl, N39q, K39q, P39_0, P39_1, P39_2, P39_3, P39_4, P39_5, P39_6, P39_7, P39_8⟩ := hQ39
      refine own_st (fun t k => st39.trans k) ?_
      have N39 := Fr.app N37 N39q
      have K39 : Keep h0 T39.heap [] := K37.trans K39q (own_all3 (Or.inr sz_o1) (Or.inr sy_bb_7) (Or.inr sy_buf_7))
      have F40 : OA Z T39.heap enc_7 .int [(.int ((g0_1 p1 p2 p3 p4 p5 p6) + (15 : Int32))), (.int (0 : Int32)), (.int (0 : Int32)), (.int (0 : Int32)), (.int (0 : Int32)), (.int (0 : Int32)), (.int (0 : Int32)), (.int (0 : Int32))] := (F38.keep K39q (own_nin3 (Ne.symm ne_o1_enc_7) nx7_1 nx7_2))
      show OG p e _ s below _ T39 (mkF m 124 #[.val (.int p1), .val (.int p2), .val (.int p3), .val (.int p4), .val (.int p5), .val (.int p6), .val (.ref o1), .val (.int (g0_1 p1 p2 p3 p4 p5 p6)), .val (.int (g0_2 p1 p2 p3 p4 p5 p6)), .val (.int (g0_3 p1 p2 p3 p4 p5 p6)), .val (.int (g0_4 p1 p2 p3 p4 p5 p6)), .unset] [])
      refine own_st (fun t k => XS.iconst X39.here hx rfl (hb hby at_124) k) ?_
      show OG p e _ s below _ T39 (mkF m 125 #[.val (.int p1), .val (.int p2), .val (.int p3), .val (.int p4), .val (.int p5), .val (.int p6), .val (.ref o1), .val (.int (g0_1 p1 p2 p3 p4 p5 p6)), .val (.int (g0_2 p1 p2 p3 p4 p5 p6)), .val (.int (g0_3 p1 p2 p3 p4 p5 p6)), .val (.int (g0_4 p1 p2 p3 p4 p5 p6)), .unset] [(.int (1 : Int32))])
      refine own_st (fun t k => XS.iloadN X39.here hx rfl (hb hby at_125) rfl k) ?_
      show OG p e _ s below _ T39 (mkF m 126 #[.val (.int p1), .val (.int p2), .val (.int p3), .val (.int p4), .val (.int p5), .val (.int p6), .val (.ref o1), .val (.int (g0_1 p1 p2 p3 p4 p5 p6)), .val (.int (g0_2 p1 p2 p3 p4 p5 p6)), .val (.int (g0_3 p1 p2 p3 p4 p5 p6)), .val (.int (g0_4 p1 p2 p3 p4 p5 p6)), .unset] [(.int p3), (.int (1 : Int32))])
      obtain ⟨_, _, ⟨T41, L41, k41, n41⟩, -, X41, ⟨Lc41, hQ41, l41, y41, z41⟩, st41⟩ := Jvm.LawKit.callS X39 hx (y := (⟨"com/example/partwise/partwise/CompactThriftResetPinLaw", "varLen", "(I)I"⟩ : MethodName)) hown (mvT hZ (hw _ (List.mem_of_getElem? (i := 100) rfl))) (mvT hZ (hw _ (List.mem_of_getElem? (i := 101) rfl))) (mvT hZ (hw _ (List.mem_of_getElem? (i := 102) rfl))) (mvT hZ (hw _ (List.mem_of_getElem? (i := 103) rfl))) (by decide) (backOf (W := 1) (rm := ({ frames := 0, cells := 0, slots := 0, locals := 0 } : Room)) (rm18 l Z a0 hw [] p3 T39.heap) hZ (hw _ (List.mem_of_getElem? (i := 103) rfl)) (hw _ (List.mem_of_getElem? (i := 102) rfl)) (by decide) (by decide)) (g := (mkF m 126 #[.val (.int p1), .val (.int p2), .val (.int p3), .val (.int p4), .val (.int p5), .val (.int p6), .val (.ref o1), .val (.int (g0_1 p1 p2 p3 p4 p5 p6)), .val (.int (g0_2 p1 p2 p3 p4 p5 p6)), .val (.int (g0_3 p1 p2 p3 p4 p5 p6)), .val (.int (g0_4 p1 p2 p3 p4 p5 p6)), .unset] [(.int p3), (.int (1 : Int32))])) rfl (by rw [hml]; rfl) (argsL := [(.int p3)]) (rest := [(.int (1 : Int32))]) (lenOf pd__I_I rfl) rfl (by show 2 * 0 + _ ≤ _; exact Nat.le_of_eq rfl) (hb hby at_126) (fun _ _ => ⟨rfl, rfl, (by decide : 4 + 0 ≤ _), (by decide : 270 + 0 ≤ _)⟩)
      dsimp only [Pt.U, Pt.locs, Pt.cells, Pt.slots] at X41 l41 y41 z41 st41 hQ41
      subst l41 y41 z41
      obtain ⟨rfl, rfl, e41⟩ := hQ41
      refine own_st st41 ?_
      have N41 := Fr.app N39 (Fr.nil n0)
      show OG p e _ s below _ T41 (mkF m 129 #[.val (.int p1), .val (.int p2), .val (.int p3), .val (.int p4), .val (.int p5), .val (.int p6), .val (.ref o1), .val (.int (g0_1 p1 p2 p3 p4 p5 p6)), .val (.int (g0_2 p1 p2 p3 p4 p5 p6)), .val (.int (g0_3 p1 p2 p3 p4 p5 p6)), .val (.int (g0_4 p1 p2 p3 p4 p5 p6)), .unset] [(.int (f18 p3)), (.int (1 : Int32))])
      refine own_st (fun t k => XS.iadd X41.here hx rfl (hb hby at_129) rfl k) ?_
      show OG p e _ s below _ T41 (mkF m 130 #[.val (.int p1), .val (.int p2), .val (.int p3), .val (.int p4), .val (.int p5), .val (.int p6), .val (.ref o1), .val (.int (g0_1 p1 p2 p3 p4 p5 p6)), .val (.int (g0_2 p1 p2 p3 p4 p5 p6)), .val (.int (g0_3 p1 p2 p3 p4 p5 p6)), .val (.int (g0_4 p1 p2 p3 p4 p5 p6)), .unset] [(.int ((1 : Int32) + (f18 p3)))])
      refine own_st (fun t k => XS.iconst X41.here hx rfl (hb hby at_130) k) ?_
      show OG p e _ s below _ T41 (mkF m 131 #[.val (.int p1), .val (.int p2), .val (.int p3), .val (.int p4), .val (.int p5), .val (.int p6), .val (.ref o1), .val (.int (g0_1 p1 p2 p3 p4 p5 p6)), .val (.int (g0_2 p1 p2 p3 p4 p5 p6)), .val (.int (g0_3 p1 p2 p3 p4 p5 p6)), .val (.int (g0_4 p1 p2 p3 p4 p5 p6)), .unset] [(.int (1 : Int32)), (.int ((1 : Int32) + (f18 p3)))])
      refine own_st (fun t k => XS.iadd X41.here hx rfl (hb hby at_131) rfl k) ?_
      show OG p e _ s below _ T41 (mkF m 132 #[.val (.int p1), .val (.int p2), .val (.int p3), .val (.int p4), .val (.int p5), .val (.int p6), .val (.ref o1), .val (.int (g0_1 p1 p2 p3 p4 p5 p6)), .val (.int (g0_2 p1 p2 p3 p4 p5 p6)), .val (.int (g0_3 p1 p2 p3 p4 p5 p6)), .val (.int (g0_4 p1 p2 p3 p4 p5 p6)), .unset] [(.int (((1 : Int32) + (f18 p3)) + (1 : Int32)))])
      refine own_st (fun t k => XS.iconst X41.here hx rfl (hb hby at_132) k) ?_
      show OG p e _ s below _ T41 (mkF m 133 #[.val (.int p1), .val (.int p2), .val (.int p3), .val (.int p4), .val (.int p5), .val (.int p6), .val (.ref o1), .val (.int (g0_1 p1 p2 p3 p4 p5 p6)), .val (.int (g0_2 p1 p2 p3 p4 p5 p6)), .val (.int (g0_3 p1 p2 p3 p4 p5 p6)), .val (.int (g0_4 p1 p2 p3 p4 p5 p6)), .unset] [(.int (1 : Int32)), (.int (((1 : Int32) + (f18 p3)) + (1 : Int32)))])
      refine own_st (fun t k => XS.iadd X41.here hx rfl (hb hby at_133) rfl k) ?_
      show OG p e _ s below _ T41 (mkF m 134 #[.val (.int p1), .val (.int p2), .val (.int p3), .val (.int p4), .val (.int p5), .val (.int p6), .val (.ref o1), .val (.int (g0_1 p1 p2 p3 p4 p5 p6)), .val (.int (g0_2 p1 p2 p3 p4 p5 p6)), .val (.int (g0_3 p1 p2 p3 p4 p5 p6)), .val (.int (g0_4 p1 p2 p3 p4 p5 p6)), .unset] [(.int ((((1 : Int32) + (f18 p3)) + (1 : Int32)) + (1 : Int32)))])
      refine own_st (fun t k => XS.iloadN X41.here hx rfl (hb hby at_134) rfl k) ?_
      show OG p e _ s below _ T41 (mkF m 135 #[.val (.int p1), .val (.int p2), .val (.int p3), .val (.int p4), .val (.int p5), .val (.int p6), .val (.ref o1), .val (.int (g0_1 p1 p2 p3 p4 p5 p6)), .val (.int (g0_2 p1 p2 p3 p4 p5 p6)), .val (.int (g0_3 p1 p2 p3 p4 p5 p6)), .val (.int (g0_4 p1 p2 p3 p4 p5 p6)), .unset] [(.int p4), (.int ((((1 : Int32) + (f18 p3)) + (1 : Int32)) + (1 : Int32)))])
      obtain ⟨_, _, ⟨T42, L42, k42, n42⟩, -, X42, ⟨Lc42, hQ42, l42, y42, z42⟩, st42⟩ := Jvm.LawKit.callS X41 hx (y := (⟨"com/example/partwise/partwise/CompactThriftResetPinLaw", "varLen", "(I)I"⟩ : MethodName)) hown (mvT hZ (hw _ (List.mem_of_getElem? (i := 100) rfl))) (mvT hZ (hw _ (List.mem_of_getElem? (i := 101) rfl))) (mvT hZ (hw _ (List.mem_of_getElem? (i := 102) rfl))) (mvT hZ (hw _ (List.mem_of_getElem? (i := 103) rfl))) (by decide) (backOf (W := 1) (rm := ({ frames := 0, cells := 0, slots := 0, locals := 0 } : Room)) (rm18 l Z a0 hw [] p4 T39.heap) hZ (hw _ (List.mem_of_getElem? (i := 103) rfl)) (hw _ (List.mem_of_getElem? (i := 102) rfl)) (by decide) (by decide)) (g := (mkF m 135 #[.val (.int p1), .val (.int p2), .val (.int p3), .val (.int p4), .val (.int p5), .val (.int p6), .val (.ref o1), .val (.int (g0_1 p1 p2 p3 p4 p5 p6)), .val (.int (g0_2 p1 p2 p3 p4 p5 p6)), .val (.int (g0_3 p1 p2 p3 p4 p5 p6)), .val (.int (g0_4 p1 p2 p3 p4 p5 p6)), .unset] [(.int p4), (.int ((((1 : Int32) + (f18 p3)) + (1 : Int32)) + (1 : Int32)))])) rfl (by rw [hml]; rfl) (argsL := [(.int p4)]) (rest := [(.int ((((1 : Int32) + (f18 p3)) + (1 : Int32)) + (1 : Int32)))]) (lenOf pd__I_I rfl) rfl (by show 2 * 0 + _ ≤ _; exact Nat.le_of_eq rfl) (hb hby at_135) (fun _ _ => ⟨rfl, e41, (by decide : 4 + 0 ≤ _), (by decide : 270 + 0 ≤ _)⟩)
      dsimp only [Pt.U, Pt.locs, Pt.cells, Pt.slots] at X42 l42 y42 z42 st42 hQ42
      subst l42 y42 z42
      obtain ⟨rfl, rfl, e42⟩ := hQ42
      refine own_st st42 ?_
      have N42 := Fr.app N41 (Fr.nil n0)
      show OG p e _ s below _ T42 (mkF m 138 #[.val (.int p1), .val (.int p2), .val (.int p3), .val (.int p4), .val (.int p5), .val (.int p6), .val (.ref o1), .val (.int (g0_1 p1 p2 p3 p4 p5 p6)), .val (.int (g0_2 p1 p2 p3 p4 p5 p6)), .val (.int (g0_3 p1 p2 p3 p4 p5 p6)), .val (.int (g0_4 p1 p2 p3 p4 p5 p6)), .unset] [(.int (f18 p4)), (.int ((((1 : Int32) + (f18 p3)) + (1 : Int32)) + (1 : Int32)))])
      refine own_st (fun t k => XS.iadd X42.here hx rfl (hb hby at_138) rfl k) ?_
      show OG p e _ s below _ T42 (mkF m 139 #[.val (.int p1), .val (.int p2), .val (.int p3), .val (.int p4), .val (.int p5), .val (.int p6), .val (.ref o1), .val (.int (g0_1 p1 p2 p3 p4 p5 p6)), .val (.int (g0_2 p1 p2 p3 p4 p5 p6)), .val (.int (g0_3 p1 p2 p3 p4 p5 p6)), .val (.int (g0_4 p1 p2 p3 p4 p5 p6)), .unset] [(.int (((((1 : Int32) + (f18 p3)) + (1 : Int32)) + (1 : Int32)) + (f18 p4)))])
      refine own_st (fun t k => XS.istore X42.here hx rfl (hb hby at_139) rfl (l' := #[.val (.int p1), .val (.int p2), .val (.int p3), .val (.int p4), .val (.int p5), .val (.int p6), .val (.ref o1), .val (.int (g0_1 p1 p2 p3 p4 p5 p6)), .val (.int (g0_2 p1 p2 p3 p4 p5 p6)), .val (.int (g0_3 p1 p2 p3 p4 p5 p6)), .val (.int (g0_4 p1 p2 p3 p4 p5 p6)), .val (.int (g0_5 p1 p2 p3 p4 p5 p6))]) rfl k) ?_
      show OG p e _ s below _ T42 (mkF m 141 #[.val (.int p1), .val (.int p2), .val (.int p3), .val (.int p4), .val (.int p5), .val (.int p6), .val (.ref o1), .val (.int (g0_1 p1 p2 p3 p4 p5 p6)), .val (.int (g0_2 p1 p2 p3 p4 p5 p6)), .val (.int (g0_3 p1 p2 p3 p4 p5 p6)), .val (.int (g0_4 p1 p2 p3 p4 p5 p6)), .val (.int (g0_5 p1 p2 p3 p4 p5 p6))] [])
      refine own_st (fun t k => XS.iload X42.here hx rfl (hb hby at_141) rfl k) ?_
      show OG p e _ s below _ T42 (mkF m 143 #[.val (.int p1), .val (.int p2), .val (.int p3), .val (.int p4), .val (.int p5), .val (.int p6), .val (.ref o1), .val (.int (g0_1 p1 p2 p3 p4 p5 p6)), .val (.int (g0_2 p1 p2 p3 p4 p5 p6)), .val (.int (g0_3 p1 p2 p3 p4 p5 p6)), .val (.int (g0_4 p1 p2 p3 p4 p5 p6)), .val (.int (g0_5 p1 p2 p3 p4 p5 p6))] [(.int (g0_2 p1 p2 p3 p4 p5 p6))])
      by_cases c43 : (g0_2 p1 p2 p3 p4 p5 p6) = (0 : Int32)
      · refine own_st (fun t k => XS.ifYes X42.here hx rfl (pc0 := 143) (pc' := 160) rfl (hb hby at_143) rfl (own_if0 (teq c43).1) (by decide) (by decide) k) ?_
        show OG p e _ s below _ T42 (mkF m 160 #[.val (.int p1), .val (.int p2), .val (.int p3), .val (.int p4), .val (.int p5), .val (.int p6), .val (.ref o1), .val (.int (g0_1 p1 p2 p3 p4 p5 p6)), .val (.int (g0_2 p1 p2 p3 p4 p5 p6)), .val (.int (g0_3 p1 p2 p3 p4 p5 p6)), .val (.int (g0_4 p1 p2 p3 p4 p5 p6)), .val (.int (g0_5 p1 p2 p3 p4 p5 p6))] [])
        refine own_st (fun t k => XS.iconst X42.here hx rfl (hb hby at_160) k) ?_
        show OG p e _ s below _ T42 (mkF m 161 #[.val (.int p1), .val (.int p2), .val (.int p3), .val (.int p4), .val (.int p5), .val (.int p6), .val (.ref o1), .val (.int (g0_1 p1 p2 p3 p4 p5 p6)), .val (.int (g0_2 p1 p2 p3 p4 p5 p6)), .val (.int (g0_3 p1 p2 p3 p4 p5 p6)), .val (.int (g0_4 p1 p2 p3 p4 p5 p6)), .val (.int (g0_5 p1 p2 p3 p4 p5 p6))] [(.int (0 : Int32))])
        refine own_retZ X42 hx (t := .boolean) hret (by simp) hlk (hb hby at_161) (by decide) (by decide) (w := (0 : Int32)) rfl ?_
        exact ⟨congrArg (fun z => some (Value.int z)) (show f0 p1 p2 p3 p4 p5 p6 = (0 : Int32) from (by rw [f0, if_neg c11, if_pos c29, if_pos c43])).symm, N42⟩
      · refine own_st (fun t k => XS.ifNo X42.here hx rfl (hb hby at_143) rfl (own_if0 (feq c43).1) k) ?_
        show OG p e _ s below _ T42 (mkF m 146 #[.val (.int p1), .val (.int p2), .val (.int p3), .val (.int p4), .val (.int p5), .val (.int p6), .val (.ref o1), .val (.int (g0_1 p1 p2 p3 p4 p5 p6)), .val (.int (g0_2 p1 p2 p3 p4 p5 p6)), .val (.int (g0_3 p1 p2 p3 p4 p5 p6)), .val (.int (g0_4 p1 p2 p3 p4 p5 p6)), .val (.int (g0_5 p1 p2 p3 p4 p5 p6))] [])
        refine own_st (fun t k => XS.aload X42.here hx rfl (hb hby at_146) rfl rfl k) ?_
        show OG p e _ s below _ T42 (mkF m 148 #[.val (.int p1), .val (.int p2), .val (.int p3), .val (.int p4), .val (.int p5), .val (.int p6), .val (.ref o1), .val (.int (g0_1 p1 p2 p3 p4 p5 p6)), .val (.int (g0_2 p1 p2 p3 p4 p5 p6)), .val (.int (g0_3 p1 p2 p3 p4 p5 p6)), .val (.int (g0_4 p1 p2 p3 p4 p5 p6)), .val (.int (g0_5 p1 p2 p3 p4 p5 p6))] [(.ref o1)])
        obtain ⟨cq44, kq44, q44a, q44b, q44c⟩ := isOf hZ e42 P39_0
        obtain ⟨_, _, ⟨T44, L44, k44, n44⟩, -, X44, ⟨Lc44, hQ44, l44, y44, z44⟩, st44⟩ := X42.virtualBack hx (y := (⟨"com/example/partwise/partwise/CompactThrift", "size", "()I"⟩ : MethodName)) (z := (⟨"com/example/partwise/partwise/CompactThrift", "size", "()I"⟩ : MethodName)) hown (mvT hZ (hw _ (List.mem_of_getElem? (i := 90) rfl))) (mvT hZ (hw _ (List.mem_of_getElem? (i := 91) rfl))) (notFace_of_selects (args := #[]) (mvT hZ (hw _ (List.mem_of_getElem? (i := 93) rfl)))) (mvT hZ (hw _ (List.mem_of_getElem? (i := 93) rfl))) (mvT hZ (hw _ (List.mem_of_getElem? (i := 92) rfl))) (by decide) (backOf (W := 0) (rm := ({ frames := 1, cells := 0, slots := 0, locals := 12 } : Room)) (rm16 l Z a0 hw [] o1 bb_7 (f10 (f9 ((p4 <<< ((1 : Int32) &&& 31)) ^^^ (p4 >>> ((31 : Int32) &&& 31)))) (((f10 (f9 ((p3 <<< ((1 : Int32) &&& 31)) ^^^ (p3 >>> ((31 : Int32) &&& 31)))) (1 : Int32)) + (1 : Int32)) + (1 : Int32))) T39.heap P39_1 P39_5 P39_7) hZ (hw _ (List.mem_of_getElem? (i := 94) rfl)) (hw _ (List.mem_of_getElem? (i := 2) rfl)) (by decide) (by decide)) q44a q44c (g := (mkF m 148 #[.val (.int p1), .val (.int p2), .val (.int p3), .val (.int p4), .val (.int p5), .val (.int p6), .val (.ref o1), .val (.int (g0_1 p1 p2 p3 p4 p5 p6)), .val (.int (g0_2 p1 p2 p3 p4 p5 p6)), .val (.int (g0_3 p1 p2 p3 p4 p5 p6)), .val (.int (g0_4 p1 p2 p3 p4 p5 p6)), .val (.int (g0_5 p1 p2 p3 p4 p5 p6))] [(.ref o1)])) rfl (by rw [hml]; rfl) (Steps.refl _) (argsL := []) (rest := []) (lenOf pd___I rfl) rfl (by show 2 * 0 + _ ≤ _; exact Nat.le_of_eq rfl) (hb hby at_148) (fun _ _ => ⟨rfl, e42, (by decide : 4 + 0 ≤ _), (by decide : 270 + 0 ≤ _)⟩)
        dsimp only [Pt.U, Pt.locs, Pt.cells, Pt.slots] at X44 l44 y44 z44 st44 hQ44
        subst l44 y44 z44
        obtain ⟨rfl, rfl, e44⟩ := hQ44
        refine own_st (fun t k => st44.trans k) ?_
        have N44 := Fr.app N42 (Fr.nil n0)
        show OG p e _ s below _ T44 (mkF m 151 #[.val (.int p1), .val (.int p2), .val (.int p3), .val (.int p4), .val (.int p5), .val (.int p6), .val (.ref o1), .val (.int (g0_1 p1 p2 p3 p4 p5 p6)), .val (.int (g0_2 p1 p2 p3 p4 p5 p6)), .val (.int (g0_3 p1 p2 p3 p4 p5 p6)), .val (.int (g0_4 p1 p2 p3 p4 p5 p6)), .val (.int (g0_5 p1 p2 p3 p4 p5 p6))] [(.int (f16 (f10 (f9 ((p4 <<< ((1 : Int32) &&& 31)) ^^^ (p4 >>> ((31 : Int32) &&& 31)))) (((f10 (f9 ((p3 <<< ((1 : Int32) &&& 31)) ^^^ (p3 >>> ((31 : Int32) &&& 31)))) (1 : Int32)) + (1 : Int32)) + (1 : Int32)))))])
        refine own_st (fun t k => XS.iload X44.here hx rfl (hb hby at_151) rfl k) ?_
        show OG p e _ s below _ T44 (mkF m 153 #[.val (.int p1), .val (.int p2), .val (.int p3), .val (.int p4), .val (.int p5), .val (.int p6), .val (.ref o1), .val (.int (g0_1 p1 p2 p3 p4 p5 p6)), .val (.int (g0_2 p1 p2 p3 p4 p5 p6)), .val (.int (g0_3 p1 p2 p3 p4 p5 p6)), .val (.int (g0_4 p1 p2 p3 p4 p5 p6)), .val (.int (g0_5 p1 p2 p3 p4 p5 p6))] [(.int (g0_5 p1 p2 p3 p4 p5 p6)), (.int (f16 (f10 (f9 ((p4 <<< ((1 : Int32) &&& 31)) ^^^ (p4 >>> ((31 : Int32) &&& 31)))) (((f10 (f9 ((p3 <<< ((1 : Int32) &&& 31)) ^^^ (p3 >>> ((31 : Int32) &&& 31)))) (1 : Int32)) + (1 : Int32)) + (1 : Int32)))))])
        by_cases c45 : (f16 (f10 (f9 ((p4 <<< ((1 : Int32) &&& 31)) ^^^ (p4 >>> ((31 : Int32) &&& 31)))) (((f10 (f9 ((p3 <<< ((1 : Int32) &&& 31)) ^^^ (p3 >>> ((31 : Int32) &&& 31)))) (1 : Int32)) + (1 : Int32)) + (1 : Int32)))) = (g0_5 p1 p2 p3 p4 p5 p6)
        · refine own_st (fun t k => XS.icmpNo X44.here hx rfl (hb hby at_153) rfl (teq c45).2 k) ?_
          show OG p e _ s below _ T44 (mkF m 156 #[.val (.int p1), .val (.int p2), .val (.int p3), .val (.int p4), .val (.int p5), .val (.int p6), .val (.ref o1), .val (.int (g0_1 p1 p2 p3 p4 p5 p6)), .val (.int (g0_2 p1 p2 p3 p4 p5 p6)), .val (.int (g0_3 p1 p2 p3 p4 p5 p6)), .val (.int (g0_4 p1 p2 p3 p4 p5 p6)), .val (.int (g0_5 p1 p2 p3 p4 p5 p6))] [])
          refine own_st (fun t k => XS.iconst X44.here hx rfl (hb hby at_156) k) ?_
          show OG p e _ s below _ T44 (mkF m 157 #[.val (.int p1), .val (.int p2), .val (.int p3), .val (.int p4), .val (.int p5), .val (.int p6), .val (.ref o1), .val (.int (g0_1 p1 p2 p3 p4 p5 p6)), .val (.int (g0_2 p1 p2 p3 p4 p5 p6)), .val (.int (g0_3 p1 p2 p3 p4 p5 p6)), .val (.int (g0_4 p1 p2 p3 p4 p5 p6)), .val (.int (g0_5 p1 p2 p3 p4 p5 p6))] [(.int (1 : Int32))])
          refine own_st (fun t k => XS.goto X44.here hx rfl (pc0 := 157) (pc' := 161) rfl (hb hby at_157) (by decide) (by decide) k) ?_
          show OG p e _ s below _ T44 (mkF m 161 #[.val (.int p1), .val (.int p2), .val (.int p3), .val (.int p4), .val (.int p5), .val (.int p6), .val (.ref o1), .val (.int (g0_1 p1 p2 p3 p4 p5 p6)), .val (.int (g0_2 p1 p2 p3 p4 p5 p6)), .val (.int (g0_3 p1 p2 p3 p4 p5 p6)), .val (.int (g0_4 p1 p2 p3 p4 p5 p6)), .val (.int (g0_5 p1 p2 p3 p4 p5 p6))] [(.int (1 : Int32))])
          refine own_retZ X44 hx (t := .boolean) hret (by simp) hlk (hb hby at_161) (by decide) (by decide) (w := (1 : Int32)) rfl ?_
          exact ⟨congrArg (fun z => some (Value.int z)) (show f0 p1 p2 p3 p4 p5 p6 = (1 : Int32) from (by rw [f0, if_neg c11, if_pos c29, if_neg c43, if_pos c45])).symm, N44⟩
        · refine own_st (fun t k => XS.icmpYes X44.here hx rfl (pc0 := 153) (pc' := 160) rfl (hb hby at_153) rfl (feq c45).2 (by decide) (by decide) k) ?_
          show OG p e _ s below _ T44 (mkF m 160 #[.val (.int p1), .val (.int p2), .val (.int p3), .val (.int p4), .val (.int p5), .val (.int p6), .val (.ref o1), .val (.int (g0_1 p1 p2 p3 p4 p5 p6)), .val (.int (g0_2 p1 p2 p3 p4 p5 p6)), .val (.int (g0_3 p1 p2 p3 p4 p5 p6)), .val (.int (g0_4 p1 p2 p3 p4 p5 p6)), .val (.int (g0_5 p1 p2 p3 p4 p5 p6))] [])
          refine own_st (fun t k => XS.iconst X44.here hx rfl (hb hby at_160) k) ?_
          show OG p e _ s below _ T44 (mkF m 161 #[.val (.int p1), .val (.int p2), .val (.int p3), .val (.int p4), .val (.int p5), .val (.int p6), .val (.ref o1), .val (.int (g0_1 p1 p2 p3 p4 p5 p6)), .val (.int (g0_2 p1 p2 p3 p4 p5 p6)), .val (.int (g0_3 p1 p2 p3 p4 p5 p6)), .val (.int (g0_4 p1 p2 p3 p4 p5 p6)), .val (.int (g0_5 p1 p2 p3 p4 p5 p6))] [(.int (0 : Int32))])
          refine own_retZ X44 hx (t := .boolean) hret (by simp) hlk (hb hby at_161) (by decide) (by decide) (w := (0 : Int32)) rfl ?_
          exact ⟨congrArg (fun z => some (Value.int z)) (show f0 p1 p2 p3 p4 p5 p6 = (0 : Int32) from (by rw [f0, if_neg c11, if_pos c29, if_neg c43, if_neg c45])).symm, N44⟩
    · refine own_st (fun t k => XS.ifNo X28.here hx rfl (hb hby at_49) rfl (own_if0 (feq c29).1) k) ?_
      show OG p e _ s below _ T28 (mkF m 52 #[.val (.int p1), .val (.int p2), .val (.int p3), .val (.int p4), .val (.int p5), .val (.int p6), .val (.ref o1), .val (.int (g0_1 p1 p2 p3 p4 p5 p6)), .unset, .unset, .unset, .unset] [])
      refine own_st (fun t k => XS.aload X28.here hx rfl (hb hby at_52) rfl rfl k) ?_
      show OG p e _ s below _ T28 (mkF m 54 #[.val (.int p1), .val (.int p2), .val (.int p3), .val (.int p4), .val (.int p5), .val (.int p6), .val (.ref o1), .val (.int (g0_1 p1 p2 p3 p4 p5 p6)), .unset, .unset, .unset, .unset] [(.ref o1)])
      obtain ⟨cq46, kq46, q46a, q46b, q46c⟩ := isOf hZ rfl P28_0
      obtain ⟨_, _, ⟨T46, L46, k46, n46⟩, -, X46, ⟨Lc46, hQ46, l46, y46, z46⟩, st46⟩ := X28.virtualBack hx (y := (⟨"com/example/partwise/partwise/CompactThrift", "end", "()V"⟩ : MethodName)) (z := (⟨"com/example/partwise/partwise/CompactThrift", "end", "()V"⟩ : MethodName)) hown (mvT hZ (hw _ (List.mem_of_getElem? (i := 75) rfl))) (mvT hZ (hw _ (List.mem_of_getElem? (i := 76) rfl))) (notFace_of_selects (args := #[]) (mvT hZ (hw _ (List.mem_of_getElem? (i := 78) rfl)))) (mvT hZ (hw _ (List.mem_of_getElem? (i := 78) rfl))) (mvT hZ (hw _ (List.mem_of_getElem? (i := 77) rfl))) (by decide) (backOf (W := 0) (rm := ({ frames := 2, cells := 0, slots := 0, locals := 26 } : Room)) (rm13_1 l Z a0 hw [] o1 bb_7 buf_7 ((f10 (f9 ((p3 <<< ((1 : Int32) &&& 31)) ^^^ (p3 >>> ((31 : Int32) &&& 31)))) (1 : Int32)) + (1 : Int32)) enc_7 (0 : Int32) ((g0_1 p1 p2 p3 p4 p5 p6) + (15 : Int32)) T28.heap n0 P28_0 P28_1 P28_2 P28_3 P28_4 P28_5 P28_6 P28_7 P28_8 P28_9 ge_o1 ge_bb_7 ge_buf_7 ne_o1_bb_7 ne_o1_buf_7 nx7_0 (Ne.symm ne_o1_enc_7) nx7_1 nx7_2 (OB.weak (own_vob (k := 2) _ (OB.lit (by decide))).step (by decide))) hZ (hw _ (List.mem_of_getElem? (i := 79) rfl)) (hw _ (List.mem_of_getElem? (i := 2) rfl)) (by decide) (by decide)) q46a q46c (g := (mkF m 54 #[.val (.int p1), .val (.int p2), .val (.int p3), .val (.int p4), .val (.int p5), .val (.int p6), .val (.ref o1), .val (.int (g0_1 p1 p2 p3 p4 p5 p6)), .unset, .unset, .unset, .unset] [(.ref o1)])) rfl (by rw [hml]; rfl) (Steps.refl _) (argsL := []) (rest := []) (lenOf pd___V rfl) rfl (by show 2 * 0 + _ ≤ _; exact Nat.le_of_eq rfl) (hb hby at_54) (fun _ _ => ⟨rfl, rfl, (by decide : 4 + 0 ≤ _), (by decide : 270 + 0 ≤ _)⟩)
      dsimp only [Pt.U, Pt.locs, Pt.cells, Pt.slots] at X46 l46 y46 z46 st46 hQ46
      subst l46 y46 z46
      obtain ⟨rfl, N46q, K46q, P46_0, P46_1, P46_2, P46_3, P46_4, P46_5, P46_6, P46_7, P46_8⟩ := hQ46
      refine own_st (fun t k => st46.trans k) ?_
      have N46 := Fr.app N28 N46q
      have K46 : Keep h0 T46.heap [] := K28.trans K46q (own_all3 (Or.inr sz_o1) (Or.inr sy_bb_7) (Or.inr sy_buf_7))
      have F47 : OA Z T46.heap enc_7 .int [(.int ((g0_1 p1 p2 p3 p4 p5 p6) + (15 : Int32))), (.int (0 : Int32)), (.int (0 : Int32)), (.int (0 : Int32)), (.int (0 : Int32)), (.int (0 : Int32)), (.int (0 : Int32)), (.int (0 : Int32))] := (P28_5.keep K46q (own_nin3 (Ne.symm ne_o1_enc_7) nx7_1 nx7_2))
      show OG p e _ s below _ T46 (mkF m 57 #[.val (.int p1), .val (.int p2), .val (.int p3), .val (.int p4), .val (.int p5), .val (.int p6), .val (.ref o1), .val (.int (g0_1 p1 p2 p3 p4 p5 p6)), .unset, .unset, .unset, .unset] [])
      refine own_st (fun t k => XS.aload X46.here hx rfl (hb hby at_57) rfl rfl k) ?_
      show OG p e _ s below _ T46 (mkF m 59 #[.val (.int p1), .val (.int p2), .val (.int p3), .val (.int p4), .val (.int p5), .val (.int p6), .val (.ref o1), .val (.int (g0_1 p1 p2 p3 p4 p5 p6)), .unset, .unset, .unset, .unset] [(.ref o1)])
      obtain ⟨cq48, kq48, q48a, q48b, q48c⟩ := isOf hZ rfl P46_0
      obtain ⟨_, _, ⟨T48, L48, k48, n48⟩, -, X48, ⟨Lc48, hQ48, l48, y48, z48⟩, st48⟩ := X46.virtualBack hx (y := (⟨"com/example/partwise/partwise/CompactThrift", "reset", "()V"⟩ : MethodName)) (z := (⟨"com/example/partwise/partwise/CompactThrift", "reset", "()V"⟩ : MethodName)) hown (mvT hZ (hw _ (List.mem_of_getElem? (i := 80) rfl))) (mvT hZ (hw _ (List.mem_of_getElem? (i := 81) rfl))) (notFace_of_selects (args := #[]) (mvT hZ (hw _ (List.mem_of_getElem? (i := 83) rfl)))) (mvT hZ (hw _ (List.mem_of_getElem? (i := 83) rfl))) (mvT hZ (hw _ (List.mem_of_getElem? (i := 82) rfl))) (by decide) (backOf (W := 0) (rm := ({ frames := 1, cells := 0, slots := 0, locals := 12 } : Room)) (rm14 l Z a0 hw [] o1 bb_7 buf_7 (((f10 (f9 ((p3 <<< ((1 : Int32) &&& 31)) ^^^ (p3 >>> ((31 : Int32) &&& 31)))) (1 : Int32)) + (1 : Int32)) + (1 : Int32)) enc_7 ((g0_1 p1 p2 p3 p4 p5 p6) + (15 : Int32)) (0 : Int32) T46.heap n0 P46_0 P46_1 P46_2 P46_3 P46_4 P46_5 P46_6 P46_7 P46_8 ge_o1 ge_bb_7 ne_o1_bb_7 ne_o1_buf_7 nx7_0) hZ (hw _ (List.mem_of_getElem? (i := 84) rfl)) (hw _ (List.mem_of_getElem? (i := 2) rfl)) (by decide) (by decide)) q48a q48c (g := (mkF m 59 #[.val (.int p1), .val (.int p2), .val (.int p3), .val (.int p4), .val (.int p5), .val (.int p6), .val (.ref o1), .val (.int (g0_1 p1 p2 p3 p4 p5 p6)), .unset, .unset, .unset, .unset] [(.ref o1)])) rfl (by rw [hml]; rfl) (Steps.refl _) (argsL := []) (rest := []) (lenOf pd___V rfl) rfl (by show 2 * 0 + _ ≤ _; exact Nat.le_of_eq rfl) (hb hby at_59) (fun _ _ => ⟨rfl, rfl, (by decide : 4 + 0 ≤ _), (by decide : 270 + 0 ≤ _)⟩)
      dsimp only [Pt.U, Pt.locs, Pt.cells, Pt.slots] at X48 l48 y48 z48 st48 hQ48
      subst l48 y48 z48
      obtain ⟨rfl, N48q, K48q, P48_0, P48_1, P48_2, P48_3, P48_4, P48_5, P48_6, P48_7, P48_8⟩ := hQ48
      refine own_st (fun t k => st48.trans k) ?_
      have N48 := Fr.app N46 N48q
      have K48 : Keep h0 T48.heap [] := K46.trans K48q (own_all2 (Or.inr sz_o1) (Or.inr sy_bb_7))
      have F49 : OA Z T48.heap enc_7 .int [(.int ((g0_1 p1 p2 p3 p4 p5 p6) + (15 : Int32))), (.int (0 : Int32)), (.int (0 : Int32)), (.int (0 : Int32)), (.int (0 : Int32)), (.int (0 : Int32)), (.int (0 : Int32)), (.int (0 : Int32))] := (F47.keep K48q (own_nin2 (Ne.symm ne_o1_enc_7) nx7_1))
      show OG p e _ s below _ T48 (mkF m 62 #[.val (.int p1), .val (.int p2), .val (.int p3), .val (.int p4), .val (.int p5), .val (.int p6), .val (.ref o1), .val (.int (g0_1 p1 p2 p3 p4 p5 p6)), .unset, .unset, .unset, .unset] [])
      refine own_st (fun t k => XS.aload X48.here hx rfl (hb hby at_62) rfl rfl k) ?_
      show OG p e _ s below _ T48 (mkF m 64 #[.val (.int p1), .val (.int p2), .val (.int p3), .val (.int p4), .val (.int p5), .val (.int p6), .val (.ref o1), .val (.int (g0_1 p1 p2 p3 p4 p5 p6)), .unset, .unset, .unset, .unset] [(.ref o1)])
      obtain ⟨cq50, kq50, q50a, q50b, q50c⟩ := isOf hZ rfl P48_0
      obtain ⟨_, _, ⟨T50, L50, k50, n50⟩, -, X50, ⟨Lc50, hQ50, l50, y50, z50⟩, st50⟩ := X48.virtualBack hx (y := (⟨"com/example/partwise/partwise/CompactThrift", "size", "()I"⟩ : MethodName)) (z := (⟨"com/example/partwise/partwise/CompactThrift", "size", "()I"⟩ : MethodName)) hown (mvT hZ (hw _ (List.mem_of_getElem? (i := 90) rfl))) (mvT hZ (hw _ (List.mem_of_getElem? (i := 91) rfl))) (notFace_of_selects (args := #[]) (mvT hZ (hw _ (List.mem_of_getElem? (i := 93) rfl)))) (mvT hZ (hw _ (List.mem_of_getElem? (i := 93) rfl))) (mvT hZ (hw _ (List.mem_of_getElem? (i := 92) rfl))) (by decide) (backOf (W := 0) (rm := ({ frames := 1, cells := 0, slots := 0, locals := 12 } : Room)) (rm16 l Z a0 hw [] o1 bb_7 (0 : Int32) T48.heap P48_1 P48_5 P48_7) hZ (hw _ (List.mem_of_getElem? (i := 94) rfl)) (hw _ (List.mem_of_getElem? (i := 2) rfl)) (by decide) (by decide)) q50a q50c (g := (mkF m 64 #[.val (.int p1), .val (.int p2), .val (.int p3), .val (.int p4), .val (.int p5), .val (.int p6), .val (.ref o1), .val (.int (g0_1 p1 p2 p3 p4 p5 p6)), .unset, .unset, .unset, .unset] [(.ref o1)])) rfl (by rw [hml]; rfl) (Steps.refl _) (argsL := []) (rest := []) (lenOf pd___I rfl) rfl (by show 2 * 0 + _ ≤ _; exact Nat.le_of_eq rfl) (hb hby at_64) (fun _ _ => ⟨rfl, rfl, (by decide : 4 + 0 ≤ _), (by decide : 270 + 0 ≤ _)⟩)
      dsimp only [Pt.U, Pt.locs, Pt.cells, Pt.slots] at X50 l50 y50 z50 st50 hQ50
      subst l50 y50 z50
      obtain ⟨rfl, rfl, e50⟩ := hQ50
      refine own_st (fun t k => st50.trans k) ?_
      have N50 := Fr.app N48 (Fr.nil n0)
      show OG p e _ s below _ T50 (mkF m 67 #[.val (.int p1), .val (.int p2), .val (.int p3), .val (.int p4), .val (.int p5), .val (.int p6), .val (.ref o1), .val (.int (g0_1 p1 p2 p3 p4 p5 p6)), .unset, .unset, .unset, .unset] [(.int (f16 (0 : Int32)))])
      refine own_st (T' := T50) (g' := (mkF m 75 #[.val (.int p1), .val (.int p2), .val (.int p3), .val (.int p4), .val (.int p5), .val (.int p6), .val (.ref o1), .val (.int (g0_1 p1 p2 p3 p4 p5 p6)), .unset, .unset, .unset, .unset] [(.int (if (f16 (0 : Int32)) = (0 : Int32) then (1 : Int32) else (0 : Int32)))])) (fun t k => ?_) ?_
      · by_cases c51 : (f16 (0 : Int32)) = (0 : Int32)
        · rw [if_pos c51] at k
          refine XS.ifNo X50.here hx rfl (hb hby at_67) rfl (own_if0 (teq c51).2) ?_
          show Steps p.tables e below (T50.setTop (mkF m 70 #[.val (.int p1), .val (.int p2), .val (.int p3), .val (.int p4), .val (.int p5), .val (.int p6), .val (.ref o1), .val (.int (g0_1 p1 p2 p3 p4 p5 p6)), .unset, .unset, .unset, .unset] [])) _
          refine XS.iconst X50.here hx rfl (hb hby at_70) ?_
          show Steps p.tables e below (T50.setTop (mkF m 71 #[.val (.int p1), .val (.int p2), .val (.int p3), .val (.int p4), .val (.int p5), .val (.int p6), .val (.ref o1), .val (.int (g0_1 p1 p2 p3 p4 p5 p6)), .unset, .unset, .unset, .unset] [(.int (1 : Int32))])) _
          refine XS.goto X50.here hx rfl (pc0 := 71) (pc' := 75) rfl (hb hby at_71) (by decide) (by decide) ?_
          exact k
        · rw [if_neg c51] at k
          refine XS.ifYes X50.here hx rfl (pc0 := 67) (pc' := 74) rfl (hb hby at_67) rfl (own_if0 (feq c51).2) (by decide) (by decide) ?_
          show Steps p.tables e below (T50.setTop (mkF m 74 #[.val (.int p1), .val (.int p2), .val (.int p3), .val (.int p4), .val (.int p5), .val (.int p6), .val (.ref o1), .val (.int (g0_1 p1 p2 p3 p4 p5 p6)), .unset, .unset, .unset, .unset] [])) _
          refine XS.iconst X50.here hx rfl (hb hby at_74) ?_
          show Steps p.tables e below (T50.setTop (mkF m 75 #[.val (.int p1), .val (.int p2), .val (.int p3), .val (.int p4), .val (.int p5), .val (.int p6), .val (.ref o1), .val (.int (g0_1 p1 p2 p3 p4 p5 p6)), .unset, .unset, .unset, .unset] [(.int (0 : Int32))])) _
          exact k
      show OG p e _ s below _ T50 (mkF m 75 #[.val (.int p1), .val (.int p2), .val (.int p3), .val (.int p4), .val (.int p5), .val (.int p6), .val (.ref o1), .val (.int (g0_1 p1 p2 p3 p4 p5 p6)), .unset, .unset, .unset, .unset] [(.int (if (f16 (0 : Int32)) = (0 : Int32) then (1 : Int32) else (0 : Int32)))])
      refine own_st (fun t k => XS.istore X50.here hx rfl (hb hby at_75) rfl (l' := #[.val (.int p1), .val (.int p2), .val (.int p3), .val (.int p4), .val (.int p5), .val (.int p6), .val (.ref o1), .val (.int (g0_1 p1 p2 p3 p4 p5 p6)), .val (.int (g0_2 p1 p2 p3 p4 p5 p6)), .unset, .unset, .unset]) rfl k) ?_
      show OG p e _ s below _ T50 (mkF m 77 #[.val (.int p1), .val (.int p2), .val (.int p3), .val (.int p4), .val (.int p5), .val (.int p6), .val (.ref o1), .val (.int (g0_1 p1 p2 p3 p4 p5 p6)), .val (.int (g0_2 p1 p2 p3 p4 p5 p6)), .unset, .unset, .unset] [])
      refine own_st (fun t k => XS.iconst X50.here hx rfl (hb hby at_77) k) ?_
      show OG p e _ s below _ T50 (mkF m 78 #[.val (.int p1), .val (.int p2), .val (.int p3), .val (.int p4), .val (.int p5), .val (.int p6), .val (.ref o1), .val (.int (g0_1 p1 p2 p3 p4 p5 p6)), .val (.int (g0_2 p1 p2 p3 p4 p5 p6)), .unset, .unset, .unset] [(.int (1 : Int32))])
      refine own_st (fun t k => XS.iloadN X50.here hx rfl (hb hby at_78) rfl k) ?_
      show OG p e _ s below _ T50 (mkF m 79 #[.val (.int p1), .val (.int p2), .val (.int p3), .val (.int p4), .val (.int p5), .val (.int p6), .val (.ref o1), .val (.int (g0_1 p1 p2 p3 p4 p5 p6)), .val (.int (g0_2 p1 p2 p3 p4 p5 p6)), .unset, .unset, .unset] [(.int p2), (.int (1 : Int32))])
      refine own_st (fun t k => X50.ldcInt hx hown (mvT hZ (hw _ (List.mem_of_getElem? (i := 24) rfl))) (g := (mkF m 79 #[.val (.int p1), .val (.int p2), .val (.int p3), .val (.int p4), .val (.int p5), .val (.int p6), .val (.ref o1), .val (.int (g0_1 p1 p2 p3 p4 p5 p6)), .val (.int (g0_2 p1 p2 p3 p4 p5 p6)), .unset, .unset, .unset] [(.int p2), (.int (1 : Int32))])) rfl (hb hby at_79) _ k) ?_
      show OG p e _ s below _ T50 (mkF m 81 #[.val (.int p1), .val (.int p2), .val (.int p3), .val (.int p4), .val (.int p5), .val (.int p6), .val (.ref o1), .val (.int (g0_1 p1 p2 p3 p4 p5 p6)), .val (.int (g0_2 p1 p2 p3 p4 p5 p6)), .unset, .unset, .unset] [(.int (2147483647 : Int32)), (.int p2), (.int (1 : Int32))])
      refine own_st (fun t k => XS.iand X50.here hx rfl (hb hby at_81) rfl k) ?_
      show OG p e _ s below _ T50 (mkF m 82 #[.val (.int p1), .val (.int p2), .val (.int p3), .val (.int p4), .val (.int p5), .val (.int p6), .val (.ref o1), .val (.int (g0_1 p1 p2 p3 p4 p5 p6)), .val (.int (g0_2 p1 p2 p3 p4 p5 p6)), .unset, .unset, .unset] [(.int (p2 &&& (2147483647 : Int32))), (.int (1 : Int32))])
      refine own_st (fun t k => XS.bipush X50.here hx rfl (hb hby at_82) k) ?_
      show OG p e _ s below _ T50 (mkF m 84 #[.val (.int p1), .val (.int p2), .val (.int p3), .val (.int p4), .val (.int p5), .val (.int p6), .val (.ref o1), .val (.int (g0_1 p1 p2 p3 p4 p5 p6)), .val (.int (g0_2 p1 p2 p3 p4 p5 p6)), .unset, .unset, .unset] [(.int (15 : Int32)), (.int (p2 &&& (2147483647 : Int32))), (.int (1 : Int32))])
      refine own_st (fun t k => iremM X50 hx rfl (hb hby at_84) rfl (by decide) k) ?_
      show OG p e _ s below _ T50 (mkF m 85 #[.val (.int p1), .val (.int p2), .val (.int p3), .val (.int p4), .val (.int p5), .val (.int p6), .val (.ref o1), .val (.int (g0_1 p1 p2 p3 p4 p5 p6)), .val (.int (g0_2 p1 p2 p3 p4 p5 p6)), .unset, .unset, .unset] [(.int ((p2 &&& (2147483647 : Int32)) % (15 : Int32))), (.int (1 : Int32))])
      refine own_st (fun t k => XS.iadd X50.here hx rfl (hb hby at_85) rfl k) ?_
      show OG p e _ s below _ T50 (mkF m 86 #[.val (.int p1), .val (.int p2), .val (.int p3), .val (.int p4), .val (.int p5), .val (.int p6), .val (.ref o1), .val (.int (g0_1 p1 p2 p3 p4 p5 p6)), .val (.int (g0_2 p1 p2 p3 p4 p5 p6)), .unset, .unset, .unset] [(.int ((1 : Int32) + ((p2 &&& (2147483647 : Int32)) % (15 : Int32))))])
      refine own_st (fun t k => XS.istore X50.here hx rfl (hb hby at_86) rfl (l' := #[.val (.int p1), .val (.int p2), .val (.int p3), .val (.int p4), .val (.int p5), .val (.int p6), .val (.ref o1), .val (.int (g0_1 p1 p2 p3 p4 p5 p6)), .val (.int (g0_2 p1 p2 p3 p4 p5 p6)), .val (.int (g0_3 p1 p2 p3 p4 p5 p6)), .unset, .unset]) rfl k) ?_
      show OG p e _ s below _ T50 (mkF m 88 #[.val (.int p1), .val (.int p2), .val (.int p3), .val (.int p4), .val (.int p5), .val (.int p6), .val (.ref o1), .val (.int (g0_1 p1 p2 p3 p4 p5 p6)), .val (.int (g0_2 p1 p2 p3 p4 p5 p6)), .val (.int (g0_3 p1 p2 p3 p4 p5 p6)), .unset, .unset] [])
      refine own_st (fun t k => XS.iload X50.here hx rfl (hb hby at_88) rfl k) ?_
      show OG p e _ s below _ T50 (mkF m 90 #[.val (.int p1), .val (.int p2), .val (.int p3), .val (.int p4), .val (.int p5), .val (.int p6), .val (.ref o1), .val (.int (g0_1 p1 p2 p3 p4 p5 p6)), .val (.int (g0_2 p1 p2 p3 p4 p5 p6)), .val (.int (g0_3 p1 p2 p3 p4 p5 p6)), .unset, .unset] [(.int (g0_3 p1 p2 p3 p4 p5 p6))])
      refine own_st (fun t k => XS.iconst X50.here hx rfl (hb hby at_90) k) ?_
      show OG p e _ s below _ T50 (mkF m 91 #[.val (.int p1), .val (.int p2), .val (.int p3), .val (.int p4), .val (.int p5), .val (.int p6), .val (.ref o1), .val (.int (g0_1 p1 p2 p3 p4 p5 p6)), .val (.int (g0_2 p1 p2 p3 p4 p5 p6)), .val (.int (g0_3 p1 p2 p3 p4 p5 p6)), .unset, .unset] [(.int (1 : Int32)), (.int (g0_3 p1 p2 p3 p4 p5 p6))])
      refine own_st (fun t k => XS.iadd X50.here hx rfl (hb hby at_91) rfl k) ?_
      show OG p e _ s below _ T50 (mkF m 92 #[.val (.int p1), .val (.int p2), .val (.int p3), .val (.int p4), .val (.int p5), .val (.int p6), .val (.ref o1), .val (.int (g0_1 p1 p2 p3 p4 p5 p6)), .val (.int (g0_2 p1 p2 p3 p4 p5 p6)), .val (.int (g0_3 p1 p2 p3 p4 p5 p6)), .unset, .unset] [(.int ((g0_3 p1 p2 p3 p4 p5 p6) + (1 : Int32)))])
      refine own_st (fun t k => XS.iload X50.here hx rfl (hb hby at_92) rfl k) ?_
      show OG p e _ s below _ T50 (mkF m 94 #[.val (.int p1), .val (.int p2), .val (.int p3), .val (.int p4), .val (.int p5), .val (.int p6), .val (.ref o1), .val (.int (g0_1 p1 p2 p3 p4 p5 p6)), .val (.int (g0_2 p1 p2 p3 p4 p5 p6)), .val (.int (g0_3 p1 p2 p3 p4 p5 p6)), .unset, .unset] [(.int p5), (.int ((g0_3 p1 p2 p3 p4 p5 p6) + (1 : Int32)))])
      refine own_st (fun t k => X50.ldcInt hx hown (mvT hZ (hw _ (List.mem_of_getElem? (i := 24) rfl))) (g := (mkF m 94 #[.val (.int p1), .val (.int p2), .val (.int p3), .val (.int p4), .val (.int p5), .val (.int p6), .val (.ref o1), .val (.int (g0_1 p1 p2 p3 p4 p5 p6)), .val (.int (g0_2 p1 p2 p3 p4 p5 p6)), .val (.int (g0_3 p1 p2 p3 p4 p5 p6)), .unset, .unset] [(.int p5), (.int ((g0_3 p1 p2 p3 p4 p5 p6) + (1 : Int32)))])) rfl (hb hby at_94) _ k) ?_
      show OG p e _ s below _ T50 (mkF m 96 #[.val (.int p1), .val (.int p2), .val (.int p3), .val (.int p4), .val (.int p5), .val (.int p6), .val (.ref o1), .val (.int (g0_1 p1 p2 p3 p4 p5 p6)), .val (.int (g0_2 p1 p2 p3 p4 p5 p6)), .val (.int (g0_3 p1 p2 p3 p4 p5 p6)), .unset, .unset] [(.int (2147483647 : Int32)), (.int p5), (.int ((g0_3 p1 p2 p3 p4 p5 p6) + (1 : Int32)))])
      refine own_st (fun t k => XS.iand X50.here hx rfl (hb hby at_96) rfl k) ?_
      show OG p e _ s below _ T50 (mkF m 97 #[.val (.int p1), .val (.int p2), .val (.int p3), .val (.int p4), .val (.int p5), .val (.int p6), .val (.ref o1), .val (.int (g0_1 p1 p2 p3 p4 p5 p6)), .val (.int (g0_2 p1 p2 p3 p4 p5 p6)), .val (.int (g0_3 p1 p2 p3 p4 p5 p6)), .unset, .unset] [(.int (p5 &&& (2147483647 : Int32))), (.int ((g0_3 p1 p2 p3 p4 p5 p6) + (1 : Int32)))])
      refine own_st (fun t k => XS.bipush X50.here hx rfl (hb hby at_97) k) ?_
      show OG p e _ s below _ T50 (mkF m 99 #[.val (.int p1), .val (.int p2), .val (.int p3), .val (.int p4), .val (.int p5), .val (.int p6), .val (.ref o1), .val (.int (g0_1 p1 p2 p3 p4 p5 p6)), .val (.int (g0_2 p1 p2 p3 p4 p5 p6)), .val (.int (g0_3 p1 p2 p3 p4 p5 p6)), .unset, .unset] [(.int (15 : Int32)), (.int (p5 &&& (2147483647 : Int32))), (.int ((g0_3 p1 p2 p3 p4 p5 p6) + (1 : Int32)))])
      refine own_st (fun t k => iremM X50 hx rfl (hb hby at_99) rfl (by decide) k) ?_
      show OG p e _ s below _ T50 (mkF m 100 #[.val (.int p1), .val (.int p2), .val (.int p3), .val (.int p4), .val (.int p5), .val (.int p6), .val (.ref o1), .val (.int (g0_1 p1 p2 p3 p4 p5 p6)), .val (.int (g0_2 p1 p2 p3 p4 p5 p6)), .val (.int (g0_3 p1 p2 p3 p4 p5 p6)), .unset, .unset] [(.int ((p5 &&& (2147483647 : Int32)) % (15 : Int32))), (.int ((g0_3 p1 p2 p3 p4 p5 p6) + (1 : Int32)))])
      refine own_st (fun t k => XS.iadd X50.here hx rfl (hb hby at_100) rfl k) ?_
      show OG p e _ s below _ T50 (mkF m 101 #[.val (.int p1), .val (.int p2), .val (.int p3), .val (.int p4), .val (.int p5), .val (.int p6), .val (.ref o1), .val (.int (g0_1 p1 p2 p3 p4 p5 p6)), .val (.int (g0_2 p1 p2 p3 p4 p5 p6)), .val (.int (g0_3 p1 p2 p3 p4 p5 p6)), .unset, .unset] [(.int (((g0_3 p1 p2 p3 p4 p5 p6) + (1 : Int32)) + ((p5 &&& (2147483647 : Int32)) % (15 : Int32))))])
      refine own_st (fun t k => XS.istore X50.here hx rfl (hb hby at_101) rfl (l' := #[.val (.int p1), .val (.int p2), .val (.int p3), .val (.int p4), .val (.int p5), .val (.int p6), .val (.ref o1), .val (.int (g0_1 p1 p2 p3 p4 p5 p6)), .val (.int (g0_2 p1 p2 p3 p4 p5 p6)), .val (.int (g0_3 p1 p2 p3 p4 p5 p6)), .val (.int (g0_4 p1 p2 p3 p4 p5 p6)), .unset]) rfl k) ?_
      show OG p e _ s below _ T50 (mkF m 103 #[.val (.int p1), .val (.int p2), .val (.int p3), .val (.int p4), .val (.int p5), .val (.int p6), .val (.ref o1), .val (.int (g0_1 p1 p2 p3 p4 p5 p6)), .val (.int (g0_2 p1 p2 p3 p4 p5 p6)), .val (.int (g0_3 p1 p2 p3 p4 p5 p6)), .val (.int (g0_4 p1 p2 p3 p4 p5 p6)), .unset] [])
      refine own_st (fun t k => XS.aload X50.here hx rfl (hb hby at_103) rfl rfl k) ?_
      show OG p e _ s below _ T50 (mkF m 105 #[.val (.int p1), .val (.int p2), .val (.int p3), .val (.int p4), .val (.int p5), .val (.int p6), .val (.ref o1), .val (.int (g0_1 p1 p2 p3 p4 p5 p6)), .val (.int (g0_2 p1 p2 p3 p4 p5 p6)), .val (.int (g0_3 p1 p2 p3 p4 p5 p6)), .val (.int (g0_4 p1 p2 p3 p4 p5 p6)), .unset] [(.ref o1)])
      refine own_st (fun t k => XS.iload X50.here hx rfl (hb hby at_105) rfl k) ?_
      show OG p e _ s below _ T50 (mkF m 107 #[.val (.int p1), .val (.int p2), .val (.int p3), .val (.int p4), .val (.int p5), .val (.int p6), .val (.ref o1), .val (.int (g0_1 p1 p2 p3 p4 p5 p6)), .val (.int (g0_2 p1 p2 p3 p4 p5 p6)), .val (.int (g0_3 p1 p2 p3 p4 p5 p6)), .val (.int (g0_4 p1 p2 p3 p4 p5 p6)), .unset] [(.int (g0_3 p1 p2 p3 p4 p5 p6)), (.ref o1)])
      refine own_st (fun t k => XS.iloadN X50.here hx rfl (hb hby at_107) rfl k) ?_
      show OG p e _ s below _ T50 (mkF m 108 #[.val (.int p1), .val (.int p2), .val (.int p3), .val (.int p4), .val (.int p5), .val (.int p6), .val (.ref o1), .val (.int (g0_1 p1 p2 p3 p4 p5 p6)), .val (.int (g0_2 p1 p2 p3 p4 p5 p6)), .val (.int (g0_3 p1 p2 p3 p4 p5 p6)), .val (.int (g0_4 p1 p2 p3 p4 p5 p6)), .unset] [(.int p3), (.int (g0_3 p1 p2 p3 p4 p5 p6)), (.ref o1)])
      obtain ⟨cq52, kq52, q52a, q52b, q52c⟩ := isOf hZ e50 P48_0
      obtain ⟨_, _, ⟨T52, L52, k52, n52⟩, -, X52, ⟨Lc52, hQ52, l52, y52, z52⟩, st52⟩ := X50.virtualBack hx (y := (⟨"com/example/partwise/partwise/CompactThrift", "i32", "(II)V"⟩ : MethodName)) (z := (⟨"com/example/partwise/partwise/CompactThrift", "i32", "(II)V"⟩ : MethodName)) hown (mvT hZ (hw _ (List.mem_of_getElem? (i := 25) rfl))) (mvT hZ (hw _ (List.mem_of_getElem? (i := 26) rfl))) (notFace_of_selects (args := #[]) (mvT hZ (hw _ (List.mem_of_getElem? (i := 28) rfl)))) (mvT hZ (hw _ (List.mem_of_getElem? (i := 28) rfl))) (mvT hZ (hw _ (List.mem_of_getElem? (i := 27) rfl))) (by decide) (backOf (W := 0) (rm := ({ frames := 4, cells := 0, slots := 0, locals := 55 } : Room)) (rm4 l Z a0 hw [] o1 (g0_3 p1 p2 p3 p4 p5 p6) p3 bb_7 buf_7 (0 : Int32) enc_7 (0 : Int32) (0 : Int32) T48.heap n0 P48_0 P48_1 P48_2 P48_3 P48_4 P48_5 P48_6 P48_7 P48_8 ge_o1 ge_bb_7 ge_buf_7 ne_o1_bb_7 ne_o1_buf_7 nx7_0 (OB.lit (by decide)) (own_dc p1 p2 p3 p4 p5 p6).1 (own_dc p1 p2 p3 p4 p5 p6).2) hZ (hw _ (List.mem_of_getElem? (i := 29) rfl)) (hw _ (List.mem_of_getElem? (i := 2) rfl)) (by decide) (by decide)) q52a q52c (g := (mkF m 108 #[.val (.int p1), .val (.int p2), .val (.int p3), .val (.int p4), .val (.int p5), .val (.int p6), .val (.ref o1), .val (.int (g0_1 p1 p2 p3 p4 p5 p6)), .val (.int (g0_2 p1 p2 p3 p4 p5 p6)), .val (.int (g0_3 p1 p2 p3 p4 p5 p6)), .val (.int (g0_4 p1 p2 p3 p4 p5 p6)), .unset] [(.int p3), (.int (g0_3 p1 p2 p3 p4 p5 p6)), (.ref o1)])) rfl (by rw [hml]; rfl) (Steps.refl _) (argsL := [(.int (g0_3 p1 p2 p3 p4 p5 p6)), (.int p3)]) (rest := []) (lenOf pd__II_V rfl) rfl (by show 2 * 0 + _ ≤ _; exact Nat.le_of_eq rfl) (hb hby at_108) (fun _ _ => ⟨rfl, e50, (by decide : 4 + 0 ≤ _), (by decide : 270 + 0 ≤ _)⟩)
      dsimp only [Pt.U, Pt.locs, Pt.cells, Pt.slots] at X52 l52 y52 z52 st52 hQ52
      subst l52 y52 z52
      obtain ⟨rfl, N52q, K52q, P52_0, P52_1, P52_2, P52_3, P52_4, P52_5, P52_6, P52_7, P52_8⟩ := hQ52
      refine own_st (fun t k => st52.trans k) ?_
      have N52 := Fr.app N50 N52q
      have K52 : Keep h0 T52.heap [] := K48.trans K52q (own_all3 (Or.inr sz_o1) (Or.inr sy_bb_7) (Or.inr sy_buf_7))
      have F53 : OA Z T52.heap enc_7 .int [(.int ((g0_1 p1 p2 p3 p4 p5 p6) + (15 : Int32))), (.int (0 : Int32)), (.int (0 : Int32)), (.int (0 : Int32)), (.int (0 : Int32)), (.int (0 : Int32)), (.int (0 : Int32)), (.int (0 : Int32))] := (F49.keep K52q (own_nin3 (Ne.symm ne_o1_enc_7) nx7_1 nx7_2))
      have F54 : Fld Z T52.heap bb_7 "com/example/partwise/partwise/ByteBuilder" "length" "I" (.int (f10 (f9 ((p3 <<< ((1 : Int32) &&& 31)) ^^^ (p3 >>> ((31 : Int32) &&& 31)))) (1 : Int32))) := P52_7
      show OG p e _ s below _ T52 (mkF m 111 #[.val (.int p1), .val (.int p2), .val (.int p3), .val (.int p4), .val (.int p5), .val (.int p6), .val (.ref o1), .val (.int (g0_1 p1 p2 p3 p4 p5 p6)), .val (.int (g0_2 p1 p2 p3 p4 p5 p6)), .val (.int (g0_3 p1 p2 p3 p4 p5 p6)), .val (.int (g0_4 p1 p2 p3 p4 p5 p6)), .unset] [])
      refine own_st (fun t k => XS.aload X52.here hx rfl (hb hby at_111) rfl rfl k) ?_
      show OG p e _ s below _ T52 (mkF m 113 #[.val (.int p1), .val (.int p2), .val (.int p3), .val (.int p4), .val (.int p5), .val (.int p6), .val (.ref o1), .val (.int (g0_1 p1 p2 p3 p4 p5 p6)), .val (.int (g0_2 p1 p2 p3 p4 p5 p6)), .val (.int (g0_3 p1 p2 p3 p4 p5 p6)), .val (.int (g0_4 p1 p2 p3 p4 p5 p6)), .unset] [(.ref o1)])
      obtain ⟨cq55, kq55, q55a, q55b, q55c⟩ := isOf hZ rfl P52_0
      obtain ⟨_, _, ⟨T55, L55, k55, n55⟩, -, X55, ⟨Lc55, hQ55, l55, y55, z55⟩, st55⟩ := X52.virtualBack hx (y := (⟨"com/example/partwise/partwise/CompactThrift", "end", "()V"⟩ : MethodName)) (z := (⟨"com/example/partwise/partwise/CompactThrift", "end", "()V"⟩ : MethodName)) hown (mvT hZ (hw _ (List.mem_of_getElem? (i := 75) rfl))) (mvT hZ (hw _ (List.mem_of_getElem? (i := 76) rfl))) (notFace_of_selects (args := #[]) (mvT hZ (hw _ (List.mem_of_getElem? (i := 78) rfl)))) (mvT hZ (hw _ (List.mem_of_getElem? (i := 78) rfl))) (mvT hZ (hw _ (List.mem_of_getElem? (i := 77) rfl))) (by decide) (backOf (W := 0) (rm := ({ frames := 2, cells := 0, slots := 0, locals := 26 } : Room)) (rm13_0 l Z a0 hw [] o1 bb_7 buf_7 (f10 (f9 ((p3 <<< ((1 : Int32) &&& 31)) ^^^ (p3 >>> ((31 : Int32) &&& 31)))) (1 : Int32)) enc_7 (g0_3 p1 p2 p3 p4 p5 p6) T52.heap n0 P52_0 P52_1 P52_2 P52_3 P52_4 P52_5 P52_6 F54 P52_8 ge_bb_7 ge_buf_7 ne_o1_bb_7 ne_o1_buf_7 nx7_0 (OB.weak (own_vob (k := 1) _ (OB.lit (by decide))) (by decide))) hZ (hw _ (List.mem_of_getElem? (i := 79) rfl)) (hw _ (List.mem_of_getElem? (i := 2) rfl)) (by decide) (by decide)) q55a q55c (g := (mkF m 113 #[.val (.int p1), .val (.int p2), .val (.int p3), .val (.int p4), .val (.int p5), .val (.int p6), .val (.ref o1), .val (.int (g0_1 p1 p2 p3 p4 p5 p6)), .val (.int (g0_2 p1 p2 p3 p4 p5 p6)), .val (.int (g0_3 p1 p2 p3 p4 p5 p6)), .val (.int (g0_4 p1 p2 p3 p4 p5 p6)), .unset] [(.ref o1)])) rfl (by rw [hml]; rfl) (Steps.refl _) (argsL := []) (rest := []) (lenOf pd___V rfl) rfl (by show 2 * 0 + _ ≤ _; exact Nat.le_of_eq rfl) (hb hby at_113) (fun _ _ => ⟨rfl, rfl, (by decide : 4 + 0 ≤ _), (by decide : 270 + 0 ≤ _)⟩)
      dsimp only [Pt.U, Pt.locs, Pt.cells, Pt.slots] at X55 l55 y55 z55 st55 hQ55
      subst l55 y55 z55
      obtain ⟨rfl, N55q, K55q, P55_0, P55_1, P55_2, P55_3, P55_4, P55_5, P55_6, P55_7, P55_8⟩ := hQ55
      refine own_st (fun t k => st55.trans k) ?_
      have N55 := Fr.app N52 N55q
      have K55 : Keep h0 T55.heap [] := K52.trans K55q (own_all2 (Or.inr sy_bb_7) (Or.inr sy_buf_7))
      have F56 : OA Z T55.heap enc_7 .int [(.int ((g0_1 p1 p2 p3 p4 p5 p6) + (15 : Int32))), (.int (0 : Int32)), (.int (0 : Int32)), (.int (0 : Int32)), (.int (0 : Int32)), (.int (0 : Int32)), (.int (0 : Int32)), (.int (0 : Int32))] := (F53.keep K55q (own_nin2 nx7_1 nx7_2))
      show OG p e _ s below _ T55 (mkF m 116 #[.val (.int p1), .val (.int p2), .val (.int p3), .val (.int p4), .val (.int p5), .val (.int p6), .val (.ref o1), .val (.int (g0_1 p1 p2 p3 p4 p5 p6)), .val (.int (g0_2 p1 p2 p3 p4 p5 p6)), .val (.int (g0_3 p1 p2 p3 p4 p5 p6)), .val (.int (g0_4 p1 p2 p3 p4 p5 p6)), .unset] [])
      refine own_st (fun t k => XS.aload X55.here hx rfl (hb hby at_116) rfl rfl k) ?_
      show OG p e _ s below _ T55 (mkF m 118 #[.val (.int p1), .val (.int p2), .val (.int p3), .val (.int p4), .val (.int p5), .val (.int p6), .val (.ref o1), .val (.int (g0_1 p1 p2 p3 p4 p5 p6)), .val (.int (g0_2 p1 p2 p3 p4 p5 p6)), .val (.int (g0_3 p1 p2 p3 p4 p5 p6)), .val (.int (g0_4 p1 p2 p3 p4 p5 p6)), .unset] [(.ref o1)])
      refine own_st (fun t k => XS.iload X55.here hx rfl (hb hby at_118) rfl k) ?_
      show OG p e _ s below _ T55 (mkF m 120 #[.val (.int p1), .val (.int p2), .val (.int p3), .val (.int p4), .val (.int p5), .val (.int p6), .val (.ref o1), .val (.int (g0_1 p1 p2 p3 p4 p5 p6)), .val (.int (g0_2 p1 p2 p3 p4 p5 p6)), .val (.int (g0_3 p1 p2 p3 p4 p5 p6)), .val (.int (g0_4 p1 p2 p3 p4 p5 p6)), .unset] [(.int (g0_4 p1 p2 p3 p4 p5 p6)), (.ref o1)])
      refine own_st (fun t k => XS.iloadN X55.here hx rfl (hb hby at_120) rfl k) ?_
      show OG p e _ s below _ T55 (mkF m 121 #[.val (.int p1), .val (.int p2), .val (.int p3), .val (.int p4), .val (.int p5), .val (.int p6), .val (.ref o1), .val (.int (g0_1 p1 p2 p3 p4 p5 p6)), .val (.int (g0_2 p1 p2 p3 p4 p5 p6)), .val (.int (g0_3 p1 p2 p3 p4 p5 p6)), .val (.int (g0_4 p1 p2 p3 p4 p5 p6)), .unset] [(.int p4), (.int (g0_4 p1 p2 p3 p4 p5 p6)), (.ref o1)])
      obtain ⟨cq57, kq57, q57a, q57b, q57c⟩ := isOf hZ rfl P55_0
      obtain ⟨_, _, ⟨T57, L57, k57, n57⟩, -, X57, ⟨Lc57, hQ57, l57, y57, z57⟩, st57⟩ := X55.virtualBack hx (y := (⟨"com/example/partwise/partwise/CompactThrift", "i32", "(II)V"⟩ : MethodName)) (z := (⟨"com/example/partwise/partwise/CompactThrift", "i32", "(II)V"⟩ : MethodName)) hown (mvT hZ (hw _ (List.mem_of_getElem? (i := 25) rfl))) (mvT hZ (hw _ (List.mem_of_getElem? (i := 26) rfl))) (notFace_of_selects (args := #[]) (mvT hZ (hw _ (List.mem_of_getElem? (i := 28) rfl)))) (mvT hZ (hw _ (List.mem_of_getElem? (i := 28) rfl))) (mvT hZ (hw _ (List.mem_of_getElem? (i := 27) rfl))) (by decide) (backOf (W := 0) (rm := ({ frames := 4, cells := 0, slots := 0, locals := 55 } : Room)) (rm4 l Z a0 hw [] o1 (g0_4 p1 p2 p3 p4 p5 p6) p4 bb_7 buf_7 ((f10 (f9 ((p3 <<< ((1 : Int32) &&& 31)) ^^^ (p3 >>> ((31 : Int32) &&& 31)))) (1 : Int32)) + (1 : Int32)) enc_7 (g0_3 p1 p2 p3 p4 p5 p6) (0 : Int32) T55.heap n0 P55_0 P55_1 P55_2 P55_3 P55_4 P55_5 P55_6 P55_7 P55_8 ge_o1 ge_bb_7 ge_buf_7 ne_o1_bb_7 ne_o1_buf_7 nx7_0 (OB.weak (own_vob (k := 7) _ (OB.lit (by decide))).step (by decide)) (own_dd p1 p2 p3 p4 p5 p6).1 (own_dd p1 p2 p3 p4 p5 p6).2) hZ (hw _ (List.mem_of_getElem? (i := 29) rfl)) (hw _ (List.mem_of_getElem? (i := 2) rfl)) (by decide) (by decide)) q57a q57c (g := (mkF m 121 #[.val (.int p1), .val (.int p2), .val (.int p3), .val (.int p4), .val (.int p5), .val (.int p6), .val (.ref o1), .val (.int (g0_1 p1 p2 p3 p4 p5 p6)), .val (.int (g0_2 p1 p2 p3 p4 p5 p6)), .val (.int (g0_3 p1 p2 p3 p4 p5 p6)), .val (.int (g0_4 p1 p2 p3 p4 p5 p6)), .unset] [(.int p4), (.int (g0_4 p1 p2 p3 p4 p5 p6)), (.ref o1)])) rfl (by rw [hml]; rfl) (Steps.refl _) (argsL := [(.int (g0_4 p1 p2 p3 p4 p5 p6)), (.int p4)]) (rest := []) (lenOf pd__II_V rfl) rfl (by show 2 * 0 + _ ≤ _; exact Nat.le_of_eq rfl) (hb hby at_121) (fun _ _ => ⟨rfl, rfl, (by decide : 4 + 0 ≤ _), (by decide : 270 + 0 ≤ _)⟩)
      dsimp only [Pt.U, Pt.locs, Pt.cells, Pt.slots] at X57 l57 y57 z57 st57 hQ57
      subst l57 y57 z57
      obtain ⟨rfl, N57q, K57q, P57_0, P57_1, P57_2, P57_3, P57_4, P57_5, P57_6, P57_7, P57_8⟩ := hQ57
      refine own_st (fun t k => st57.trans k) ?_
      have N57 := Fr.app N55 N57q
      have K57 : Keep h0 T57.heap [] := K55.trans K57q (own_all3 (Or.inr sz_o1) (Or.inr sy_bb_7) (Or.inr sy_buf_7))
      have F58 : OA Z T57.heap enc_7 .int [(.int ((g0_1 p1 p2 p3 p4 p5 p6) + (15 : Int32))), (.int (0 : Int32)), (.int (0 : Int32)), (.int (0 : Int32)), (.int (0 : Int32)), (.int (0 : Int32)), (.int (0 : Int32)), (.int (0 : Int32))] := (F56.keep K57q (own_nin3 (Ne.symm ne_o1_enc_7) nx7_1 nx7_2))
      show OG p e _ s below _ T57 (mkF m 124 #[.val (.int p1), .val (.int p2), .val (.int p3), .val (.int p4), .val (.int p5), .val (.int p6), .val (.ref o1), .val (.int (g0_1 p1 p2 p3 p4 p5 p6)), .val (.int (g0_2 p1 p2 p3 p4 p5 p6)), .val (.int (g0_3 p1 p2 p3 p4 p5 p6)), .val (.int (g0_4 p1 p2 p3 p4 p5 p6)), .unset] [])
      refine own_st (fun t k => XS.iconst X57.here hx rfl (hb hby at_124) k) ?_
      show OG p e _ s below _ T57 (mkF m 125 #[.val (.int p1), .val (.int p2), .val (.int p3), .val (.int p4), .val (.int p5), .val (.int p6), .val (.ref o1), .val (.int (g0_1 p1 p2 p3 p4 p5 p6)), .val (.int (g0_2 p1 p2 p3 p4 p5 p6)), .val (.int (g0_3 p1 p2 p3 p4 p5 p6)), .val (.int (g0_4 p1 p2 p3 p4 p5 p6)), .unset] [(.int (1 : Int32))])
      refine own_st (fun t k => XS.iloadN X57.here hx rfl (hb hby at_125) rfl k) ?_
      show OG p e _ s below _ T57 (mkF m 126 #[.val (.int p1), .val (.int p2), .val (.int p3), .val (.int p4), .val (.int p5), .val (.int p6), .val (.ref o1), .val (.int (g0_1 p1 p2 p3 p4 p5 p6)), .val (.int (g0_2 p1 p2 p3 p4 p5 p6)), .val (.int (g0_3 p1 p2 p3 p4 p5 p6)), .val (.int (g0_4 p1 p2 p3 p4 p5 p6)), .unset] [(.int p3), (.int (1 : Int32))])
      obtain ⟨_, _, ⟨T59, L59, k59, n59⟩, -, X59, ⟨Lc59, hQ59, l59, y59, z59⟩, st59⟩ := Jvm.LawKit.callS X57 hx (y := (⟨"com/example/partwise/partwise/CompactThriftResetPinLaw", "varLen", "(I)I"⟩ : MethodName)) hown (mvT hZ (hw _ (List.mem_of_getElem? (i := 100) rfl))) (mvT hZ (hw _ (List.mem_of_getElem? (i := 101) rfl))) (mvT hZ (hw _ (List.mem_of_getElem? (i := 102) rfl))) (mvT hZ (hw _ (List.mem_of_getElem? (i := 103) rfl))) (by decide) (backOf (W := 1) (rm := ({ frames := 0, cells := 0, slots := 0, locals := 0 } : Room)) (rm18 l Z a0 hw [] p3 T57.heap) hZ (hw _ (List.mem_of_getElem? (i := 103) rfl)) (hw _ (List.mem_of_getElem? (i := 102) rfl)) (by decide) (by decide)) (g := (mkF m 126 #[.val (.int p1), .val (.int p2), .val (.int p3), .val (.int p4), .val (.int p5), .val (.int p6), .val (.ref o1), .val (.int (g0_1 p1 p2 p3 p4 p5 p6)), .val (.int (g0_2 p1 p2 p3 p4 p5 p6)), .val (.int (g0_3 p1 p2 p3 p4 p5 p6)), .val (.int (g0_4 p1 p2 p3 p4 p5 p6)), .unset] [(.int p3), (.int (1 : Int32))])) rfl (by rw [hml]; rfl) (argsL := [(.int p3)]) (rest := [(.int (1 : Int32))]) (lenOf pd__I_I rfl) rfl (by show 2 * 0 + _ ≤ _; exact Nat.le_of_eq rfl) (hb hby at_126) (fun _ _ => ⟨rfl, rfl, (by decide : 4 + 0 ≤ _), (by decide : 270 + 0 ≤ _)⟩)
      dsimp only [Pt.U, Pt.locs, Pt.cells, Pt.slots] at X59 l59 y59 z59 st59 hQ59
      subst l59 y59 z59
      obtain ⟨rfl, rfl, e59⟩ := hQ59
      refine own_st st59 ?_
      have N59 := Fr.app N57 (Fr.nil n0)
      show OG p e _ s below _ T59 (mkF m 129 #[.val (.int p1), .val (.int p2), .val (.int p3), .val (.int p4), .val (.int p5), .val (.int p6), .val (.ref o1), .val (.int (g0_1 p1 p2 p3 p4 p5 p6)), .val (.int (g0_2 p1 p2 p3 p4 p5 p6)), .val (.int (g0_3 p1 p2 p3 p4 p5 p6)), .val (.int (g0_4 p1 p2 p3 p4 p5 p6)), .unset] [(.int (f18 p3)), (.int (1 : Int32))])
      refine own_st (fun t k => XS.iadd X59.here hx rfl (hb hby at_129) rfl k) ?_
      show OG p e _ s below _ T59 (mkF m 130 #[.val (.int p1), .val (.int p2), .val (.int p3), .val (.int p4), .val (.int p5), .val (.int p6), .val (.ref o1), .val (.int (g0_1 p1 p2 p3 p4 p5 p6)), .val (.int (g0_2 p1 p2 p3 p4 p5 p6)), .val (.int (g0_3 p1 p2 p3 p4 p5 p6)), .val (.int (g0_4 p1 p2 p3 p4 p5 p6)), .unset] [(.int ((1 : Int32) + (f18 p3)))])
      refine own_st (fun t k => XS.iconst X59.here hx rfl (hb hby at_130) k) ?_
      show OG p e _ s below _ T59 (mkF m 131 #[.val (.int p1), .val (.int p2), .val (.int p3), .val (.int p4), .val (.int p5), .val (.int p6), .val (.ref o1), .val (.int (g0_1 p1 p2 p3 p4 p5 p6)), .val (.int (g0_2 p1 p2 p3 p4 p5 p6)), .val (.int (g0_3 p1 p2 p3 p4 p5 p6)), .val (.int (g0_4 p1 p2 p3 p4 p5 p6)), .unset] [(.int (1 : Int32)), (.int ((1 : Int32) + (f18 p3)))])
      refine own_st (fun t k => XS.iadd X59.here hx rfl (hb hby at_131) rfl k) ?_
      show OG p e _ s below _ T59 (mkF m 132 #[.val (.int p1), .val (.int p2), .val (.int p3), .val (.int p4), .val (.int p5), .val (.int p6), .val (.ref o1), .val (.int (g0_1 p1 p2 p3 p4 p5 p6)), .val (.int (g0_2 p1 p2 p3 p4 p5 p6)), .val (.int (g0_3 p1 p2 p3 p4 p5 p6)), .val (.int (g0_4 p1 p2 p3 p4 p5 p6)), .unset] [(.int (((1 : Int32) + (f18 p3)) + (1 : Int32)))])
      refine own_st (fun t k => XS.iconst X59.here hx rfl (hb hby at_132) k) ?_
      show OG p e _ s below _ T59 (mkF m 133 #[.val (.int p1), .val (.int p2), .val (.int p3), .val (.int p4), .val (.int p5), .val (.int p6), .val (.ref o1), .val (.int (g0_1 p1 p2 p3 p4 p5 p6)), .val (.int (g0_2 p1 p2 p3 p4 p5 p6)), .val (.int (g0_3 p1 p2 p3 p4 p5 p6)), .val (.int (g0_4 p1 p2 p3 p4 p5 p6)), .unset] [(.int (1 : Int32)), (.int (((1 : Int32) + (f18 p3)) + (1 : Int32)))])
      refine own_st (fun t k => XS.iadd X59.here hx rfl (hb hby at_133) rfl k) ?_
      show OG p e _ s below _ T59 (mkF m 134 #[.val (.int p1), .val (.int p2), .val (.int p3), .val (.int p4), .val (.int p5), .val (.int p6), .val (.ref o1), .val (.int (g0_1 p1 p2 p3 p4 p5 p6)), .val (.int (g0_2 p1 p2 p3 p4 p5 p6)), .val (.int (g0_3 p1 p2 p3 p4 p5 p6)), .val (.int (g0_4 p1 p2 p3 p4 p5 p6)), .unset] [(.int ((((1 : Int32) + (f18 p3)) + (1 : Int32)) + (1 : Int32)))])
      refine own_st (fun t k => XS.iloadN X59.here hx rfl (hb hby at_134) rfl k) ?_
      show OG p e _ s below _ T59 (mkF m 135 #[.val (.int p1), .val (.int p2), .val (.int p3), .val (.int p4), .val (.int p5), .val (.int p6), .val (.ref o1), .val (.int (g0_1 p1 p2 p3 p4 p5 p6)), .val (.int (g0_2 p1 p2 p3 p4 p5 p6)), .val (.int (g0_3 p1 p2 p3 p4 p5 p6)), .val (.int (g0_4 p1 p2 p3 p4 p5 p6)), .unset] [(.int p4), (.int ((((1 : Int32) + (f18 p3)) + (1 : Int32)) + (1 : Int32)))])
      obtain ⟨_, _, ⟨T60, L60, k60, n60⟩, -, X60, ⟨Lc60, hQ60, l60, y60, z60⟩, st60⟩ := Jvm.LawKit.callS X59 hx (y := (⟨"com/example/partwise/partwise/CompactThriftResetPinLaw", "varLen", "(I)I"⟩ : MethodName)) hown (mvT hZ (hw _ (List.mem_of_getElem? (i := 100) rfl))) (mvT hZ (hw _ (List.mem_of_getElem? (i := 101) rfl))) (mvT hZ (hw _ (List.mem_of_getElem? (i := 102) rfl))) (mvT hZ (hw _ (List.mem_of_getElem? (i := 103) rfl))) (by decide) (backOf (W := 1) (rm := ({ frames := 0, cells := 0, slots := 0, locals := 0 } : Room)) (rm18 l Z a0 hw [] p4 T57.heap) hZ (hw _ (List.mem_of_getElem? (i := 103) rfl)) (hw _ (List.mem_of_getElem? (i := 102) rfl)) (by decide) (by decide)) (g := (mkF m 135 #[.val (.int p1), .val (.int p2), .val (.int p3), .val (.int p4), .val (.int p5), .val (.int p6), .val (.ref o1), .val (.int (g0_1 p1 p2 p3 p4 p5 p6)), .val (.int (g0_2 p1 p2 p3 p4 p5 p6)), .val (.int (g0_3 p1 p2 p3 p4 p5 p6)), .val (.int (g0_4 p1 p2 p3 p4 p5 p6)), .unset] [(.int p4), (.int ((((1 : Int32) + (f18 p3)) + (1 : Int32)) + (1 : Int32)))])) rfl (by rw [hml]; rfl) (argsL := [(.int p4)]) (rest := [(.int ((((1 : Int32) + (f18 p3)) + (1 : Int32)) + (1 : Int32)))]) (lenOf pd__I_I rfl) rfl (by show 2 * 0 + _ ≤ _; exact Nat.le_of_eq rfl) (hb hby at_135) (fun _ _ => ⟨rfl, e59, (by decide : 4 + 0 ≤ _), (by decide : 270 + 0 ≤ _)⟩)
      dsimp only [Pt.U, Pt.locs, Pt.cells, Pt.slots] at X60 l60 y60 z60 st60 hQ60
      subst l60 y60 z60
      obtain ⟨rfl, rfl, e60⟩ := hQ60
      refine own_st st60 ?_
      have N60 := Fr.app N59 (Fr.nil n0)
      show OG p e _ s below _ T60 (mkF m 138 #[.val (.int p1), .val (.int p2), .val (.int p3), .val (.int p4), .val (.int p5), .val (.int p6), .val (.ref o1), .val (.int (g0_1 p1 p2 p3 p4 p5 p6)), .val (.int (g0_2 p1 p2 p3 p4 p5 p6)), .val (.int (g0_3 p1 p2 p3 p4 p5 p6)), .val (.int (g0_4 p1 p2 p3 p4 p5 p6)), .unset] [(.int (f18 p4)), (.int ((((1 : Int32) + (f18 p3)) + (1 : Int32)) + (1 : Int32)))])
      refine own_st (fun t k => XS.iadd X60.here hx rfl (hb hby at_138) rfl k) ?_
      show OG p e _ s below _ T60 (mkF m 139 #[.val (.int p1), .val (.int p2), .val (.int p3), .val (.int p4), .val (.int p5), .val (.int p6), .val (.ref o1), .val (.int (g0_1 p1 p2 p3 p4 p5 p6)), .val (.int (g0_2 p1 p2 p3 p4 p5 p6)), .val (.int (g0_3 p1 p2 p3 p4 p5 p6)), .val (.int (g0_4 p1 p2 p3 p4 p5 p6)), .unset] [(.int (((((1 : Int32) + (f18 p3)) + (1 : Int32)) + (1 : Int32)) + (f18 p4)))])
      refine own_st (fun t k => XS.istore X60.here hx rfl (hb hby at_139) rfl (l' := #[.val (.int p1), .val (.int p2), .val (.int p3), .val (.int p4), .val (.int p5), .val (.int p6), .val (.ref o1), .val (.int (g0_1 p1 p2 p3 p4 p5 p6)), .val (.int (g0_2 p1 p2 p3 p4 p5 p6)), .val (.int (g0_3 p1 p2 p3 p4 p5 p6)), .val (.int (g0_4 p1 p2 p3 p4 p5 p6)), .val (.int (g0_5 p1 p2 p3 p4 p5 p6))]) rfl k) ?_
      show OG p e _ s below _ T60 (mkF m 141 #[.val (.int p1), .val (.int p2), .val (.int p3), .val (.int p4), .val (.int p5), .val (.int p6), .val (.ref o1), .val (.int (g0_1 p1 p2 p3 p4 p5 p6)), .val (.int (g0_2 p1 p2 p3 p4 p5 p6)), .val (.int (g0_3 p1 p2 p3 p4 p5 p6)), .val (.int (g0_4 p1 p2 p3 p4 p5 p6)), .val (.int (g0_5 p1 p2 p3 p4 p5 p6))] [])
      refine own_st (fun t k => XS.iload X60.here hx rfl (hb hby at_141) rfl k) ?_
      show OG p e _ s below _ T60 (mkF m 143 #[.val (.int p1), .val (.int p2), .val (.int p3), .val (.int p4), .val (.int p5), .val (.int p6), .val (.ref o1), .val (.int (g0_1 p1 p2 p3 p4 p5 p6)), .val (.int (g0_2 p1 p2 p3 p4 p5 p6)), .val (.int (g0_3 p1 p2 p3 p4 p5 p6)), .val (.int (g0_4 p1 p2 p3 p4 p5 p6)), .val (.int (g0_5 p1 p2 p3 p4 p5 p6))] [(.int (g0_2 p1 p2 p3 p4 p5 p6))])
      by_cases c61 : (g0_2 p1 p2 p3 p4 p5 p6) = (0 : Int32)
      · refine own_st (fun t k => XS.ifYes X60.here hx rfl (pc0 := 143) (pc' := 160) rfl (hb hby at_143) rfl (own_if0 (teq c61).1) (by decide) (by decide) k) ?_
        show OG p e _ s below _ T60 (mkF m 160 #[.val (.int p1), .val (.int p2), .val (.int p3), .val (.int p4), .val (.int p5), .val (.int p6), .val (.ref o1), .val (.int (g0_1 p1 p2 p3 p4 p5 p6)), .val (.int (g0_2 p1 p2 p3 p4 p5 p6)), .val (.int (g0_3 p1 p2 p3 p4 p5 p6)), .val (.int (g0_4 p1 p2 p3 p4 p5 p6)), .val (.int (g0_5 p1 p2 p3 p4 p5 p6))] [])
        refine own_st (fun t k => XS.iconst X60.here hx rfl (hb hby at_160) k) ?_
        show OG p e _ s below _ T60 (mkF m 161 #[.val (.int p1), .val (.int p2), .val (.int p3), .val (.int p4), .val (.int p5), .val (.int p6), .val (.ref o1), .val (.int (g0_1 p1 p2 p3 p4 p5 p6)), .val (.int (g0_2 p1 p2 p3 p4 p5 p6)), .val (.int (g0_3 p1 p2 p3 p4 p5 p6)), .val (.int (g0_4 p1 p2 p3 p4 p5 p6)), .val (.int (g0_5 p1 p2 p3 p4 p5 p6))] [(.int (0 : Int32))])
        refine own_retZ X60 hx (t := .boolean) hret (by simp) hlk (hb hby at_161) (by decide) (by decide) (w := (0 : Int32)) rfl ?_
        exact ⟨congrArg (fun z => some (Value.int z)) (show f0 p1 p2 p3 p4 p5 p6 = (0 : Int32) from (by rw [f0, if_neg c11, if_neg c29, if_pos c61])).symm, N60⟩
      · refine own_st (fun t k => XS.ifNo X60.here hx rfl (hb hby at_143) rfl (own_if0 (feq c61).1) k) ?_
        show OG p e _ s below _ T60 (mkF m 146 #[.val (.int p1), .val (.int p2), .val (.int p3), .val (.int p4), .val (.int p5), .val (.int p6), .val (.ref o1), .val (.int (g0_1 p1 p2 p3 p4 p5 p6)), .val (.int (g0_2 p1 p2 p3 p4 p5 p6)), .val (.int (g0_3 p1 p2 p3 p4 p5 p6)), .val (.int (g0_4 p1 p2 p3 p4 p5 p6)), .val (.int (g0_5 p1 p2 p3 p4 p5 p6))] [])
        refine own_st (fun t k => XS.aload X60.here hx rfl (hb hby at_146) rfl rfl k) ?_
        show OG p e _ s below _ T60 (mkF m 148 #[.val (.int p1), .val (.int p2), .val (.int p3), .val (.int p4), .val (.int p5), .val (.int p6), .val (.ref o1), .val (.int (g0_1 p1 p2 p3 p4 p5 p6)), .val (.int (g0_2 p1 p2 p3 p4 p5 p6)), .val (.int (g0_3 p1 p2 p3 p4 p5 p6)), .val (.int (g0_4 p1 p2 p3 p4 p5 p6)), .val (.int (g0_5 p1 p2 p3 p4 p5 p6))] [(.ref o1)])
        obtain ⟨cq62, kq62, q62a, q62b, q62c⟩ := isOf hZ e60 P57_0
        obtain ⟨_, _, ⟨T62, L62, k62, n62⟩, -, X62, ⟨Lc62, hQ62, l62, y62, z62⟩, st62⟩ := X60.virtualBack hx (y := (⟨"com/example/partwise/partwise/CompactThrift", "size", "()I"⟩ : MethodName)) (z := (⟨"com/example/partwise/partwise/CompactThrift", "size", "()I"⟩ : MethodName)) hown (mvT hZ (hw _ (List.mem_of_getElem? (i := 90) rfl))) (mvT hZ (hw _ (List.mem_of_getElem? (i := 91) rfl))) (notFace_of_selects (args := #[]) (mvT hZ (hw _ (List.mem_of_getElem? (i := 93) rfl)))) (mvT hZ (hw _ (List.mem_of_getElem? (i := 93) rfl))) (mvT hZ (hw _ (List.mem_of_getElem? (i := 92) rfl))) (by decide) (backOf (W := 0) (rm := ({ frames := 1, cells := 0, slots := 0, locals := 12 } : Room)) (rm16 l Z a0 hw [] o1 bb_7 (f10 (f9 ((p4 <<< ((1 : Int32) &&& 31)) ^^^ (p4 >>> ((31 : Int32) &&& 31)))) (((f10 (f9 ((p3 <<< ((1 : Int32) &&& 31)) ^^^ (p3 >>> ((31 : Int32) &&& 31)))) (1 : Int32)) + (1 : Int32)) + (1 : Int32))) T57.heap P57_1 P57_5 P57_7) hZ (hw _ (List.mem_of_getElem? (i := 94) rfl)) (hw _ (List.mem_of_getElem? (i := 2) rfl)) (by decide) (by decide)) q62a q62c (g := (mkF m 148 #[.val (.int p1), .val (.int p2), .val (.int p3), .val (.int p4), .val (.int p5), .val (.int p6), .val (.ref o1), .val (.int (g0_1 p1 p2 p3 p4 p5 p6)), .val (.int (g0_2 p1 p2 p3 p4 p5 p6)), .val (.int (g0_3 p1 p2 p3 p4 p5 p6)), .val (.int (g0_4 p1 p2 p3 p4 p5 p6)), .val (.int (g0_5 p1 p2 p3 p4 p5 p6))] [(.ref o1)])) rfl (by rw [hml]; rfl) (Steps.refl _) (argsL := []) (rest := []) (lenOf pd___I rfl) rfl (by show 2 * 0 + _ ≤ _; exact Nat.le_of_eq rfl) (hb hby at_148) (fun _ _ => ⟨rfl, e60, (by decide : 4 + 0 ≤ _), (by decide : 270 + 0 ≤ _)⟩)
        dsimp only [Pt.U, Pt.locs, Pt.cells, Pt.slots] at X62 l62 y62 z62 st62 hQ62
        subst l62 y62 z62
        obtain ⟨rfl, rfl, e62⟩ := hQ62
        refine own_st (fun t k => st62.trans k) ?_
        have N62 := Fr.app N60 (Fr.nil n0)
        show OG p e _ s below _ T62 (mkF m 151 #[.val (.int p1), .val (.int p2), .val (.int p3), .val (.int p4), .val (.int p5), .val (.int p6), .val (.ref o1), .val (.int (g0_1 p1 p2 p3 p4 p5 p6)), .val (.int (g0_2 p1 p2 p3 p4 p5 p6)), .val (.int (g0_3 p1 p2 p3 p4 p5 p6)), .val (.int (g0_4 p1 p2 p3 p4 p5 p6)), .val (.int (g0_5 p1 p2 p3 p4 p5 p6))] [(.int (f16 (f10 (f9 ((p4 <<< ((1 : Int32) &&& 31)) ^^^ (p4 >>> ((31 : Int32) &&& 31)))) (((f10 (f9 ((p3 <<< ((1 : Int32) &&& 31)) ^^^ (p3 >>> ((31 : Int32) &&& 31)))) (1 : Int32)) + (1 : Int32)) + (1 : Int32)))))])
        refine own_st (fun t k => XS.iload X62.here hx rfl (hb hby at_151) rfl k) ?_
        show OG p e _ s below _ T62 (mkF m 153 #[.val (.int p1), .val (.int p2), .val (.int p3), .val (.int p4), .val (.int p5), .val (.int p6), .val (.ref o1), .val (.int (g0_1 p1 p2 p3 p4 p5 p6)), .val (.int (g0_2 p1 p2 p3 p4 p5 p6)), .val (.int (g0_3 p1 p2 p3 p4 p5 p6)), .val (.int (g0_4 p1 p2 p3 p4 p5 p6)), .val (.int (g0_5 p1 p2 p3 p4 p5 p6))] [(.int (g0_5 p1 p2 p3 p4 p5 p6)), (.int (f16 (f10 (f9 ((p4 <<< ((1 : Int32) &&& 31)) ^^^ (p4 >>> ((31 : Int32) &&& 31)))) (((f10 (f9 ((p3 <<< ((1 : Int32) &&& 31)) ^^^ (p3 >>> ((31 : Int32) &&& 31)))) (1 : Int32)) + (1 : Int32)) + (1 : Int32)))))])
        by_cases c63 : (f16 (f10 (f9 ((p4 <<< ((1 : Int32) &&& 31)) ^^^ (p4 >>> ((31 : Int32) &&& 31)))) (((f10 (f9 ((p3 <<< ((1 : Int32) &&& 31)) ^^^ (p3 >>> ((31 : Int32) &&& 31)))) (1 : Int32)) + (1 : Int32)) + (1 : Int32)))) = (g0_5 p1 p2 p3 p4 p5 p6)
        · refine own_st (fun t k => XS.icmpNo X62.here hx rfl (hb hby at_153) rfl (teq c63).2 k) ?_
          show OG p e _ s below _ T62 (mkF m 156 #[.val (.int p1), .val (.int p2), .val (.int p3), .val (.int p4), .val (.int p5), .val (.int p6), .val (.ref o1), .val (.int (g0_1 p1 p2 p3 p4 p5 p6)), .val (.int (g0_2 p1 p2 p3 p4 p5 p6)), .val (.int (g0_3 p1 p2 p3 p4 p5 p6)), .val (.int (g0_4 p1 p2 p3 p4 p5 p6)), .val (.int (g0_5 p1 p2 p3 p4 p5 p6))] [])
          refine own_st (fun t k => XS.iconst X62.here hx rfl (hb hby at_156) k) ?_
          show OG p e _ s below _ T62 (mkF m 157 #[.val (.int p1), .val (.int p2), .val (.int p3), .val (.int p4), .val (.int p5), .val (.int p6), .val (.ref o1), .val (.int (g0_1 p1 p2 p3 p4 p5 p6)), .val (.int (g0_2 p1 p2 p3 p4 p5 p6)), .val (.int (g0_3 p1 p2 p3 p4 p5 p6)), .val (.int (g0_4 p1 p2 p3 p4 p5 p6)), .val (.int (g0_5 p1 p2 p3 p4 p5 p6))] [(.int (1 : Int32))])
          refine own_st (fun t k => XS.goto X62.here hx rfl (pc0 := 157) (pc' := 161) rfl (hb hby at_157) (by decide) (by decide) k) ?_
          show OG p e _ s below _ T62 (mkF m 161 #[.val (.int p1), .val (.int p2), .val (.int p3), .val (.int p4), .val (.int p5), .val (.int p6), .val (.ref o1), .val (.int (g0_1 p1 p2 p3 p4 p5 p6)), .val (.int (g0_2 p1 p2 p3 p4 p5 p6)), .val (.int (g0_3 p1 p2 p3 p4 p5 p6)), .val (.int (g0_4 p1 p2 p3 p4 p5 p6)), .val (.int (g0_5 p1 p2 p3 p4 p5 p6))] [(.int (1 : Int32))])
          refine own_retZ X62 hx (t := .boolean) hret (by simp) hlk (hb hby at_161) (by decide) (by decide) (w := (1 : Int32)) rfl ?_
          exact ⟨congrArg (fun z => some (Value.int z)) (show f0 p1 p2 p3 p4 p5 p6 = (1 : Int32) from (by rw [f0, if_neg c11, if_neg c29, if_neg c61, if_pos c63])).symm, N62⟩
        · refine own_st (fun t k => XS.icmpYes X62.here hx rfl (pc0 := 153) (pc' := 160) rfl (hb hby at_153) rfl (feq c63).2 (by decide) (by decide) k) ?_
          show OG p e _ s below _ T62 (mkF m 160 #[.val (.int p1), .val (.int p2), .val (.int p3), .val (.int p4), .val (.int p5), .val (.int p6), .val (.ref o1), .val (.int (g0_1 p1 p2 p3 p4 p5 p6)), .val (.int (g0_2 p1 p2 p3 p4 p5 p6)), .val (.int (g0_3 p1 p2 p3 p4 p5 p6)), .val (.int (g0_4 p1 p2 p3 p4 p5 p6)), .val (.int (g0_5 p1 p2 p3 p4 p5 p6))] [])
          refine own_st (fun t k => XS.iconst X62.here hx rfl (hb hby at_160) k) ?_
          show OG p e _ s below _ T62 (mkF m 161 #[.val (.int p1), .val (.int p2), .val (.int p3), .val (.int p4), .val (.int p5), .val (.int p6), .val (.ref o1), .val (.int (g0_1 p1 p2 p3 p4 p5 p6)), .val (.int (g0_2 p1 p2 p3 p4 p5 p6)), .val (.int (g0_3 p1 p2 p3 p4 p5 p6)), .val (.int (g0_4 p1 p2 p3 p4 p5 p6)), .val (.int (g0_5 p1 p2 p3 p4 p5 p6))] [(.int (0 : Int32))])
          refine own_retZ X62 hx (t := .boolean) hret (by simp) hlk (hb hby at_161) (by decide) (by decide) (w := (0 : Int32)) rfl ?_
          exact ⟨congrArg (fun z => some (Value.int z)) (show f0 p1 p2 p3 p4 p5 p6 = (0 : Int32) from (by rw [f0, if_neg c11, if_neg c29, if_neg c61, if_neg c63])).symm, N62⟩
/-! the plain law -/
theorem own_var (v n : Int32) : f10 (f9 ((v <<< ((1 : Int32) &&& 31)) ^^^ (v >>> ((31 : Int32) &&& 31)))) n = n + f18 v := by
  have hq : OQ (g18_2 v) := own_tul _
  have e : f9 ((v <<< ((1 : Int32) &&& 31)) ^^^ (v >>> ((31 : Int32) &&& 31))) = g18_2 v := rfl
  rw [e, f18]
  generalize g18_2 v = q at *
  obtain ⟨h1, h2⟩ := hq
  have a1 := own_shr7 q h1
  have a2 := own_shr7 _ (by rw [a1]; omega : 0 ≤ (((q.toUInt64 >>> ((7 : Int32) &&& 0x3f).toInt64.toUInt64).toInt64)).toInt)
  have a3 := own_shr7 _ (by rw [a2, a1]; omega : 0 ≤ (((((q.toUInt64 >>> ((7 : Int32) &&& 0x3f).toInt64.toUInt64).toInt64).toUInt64 >>> ((7 : Int32) &&& 0x3f).toInt64.toUInt64).toInt64)).toInt)
  have c1 := own_neg128 q h1
  have c2 := own_neg128 (((q.toUInt64 >>> ((7 : Int32) &&& 0x3f).toInt64.toUInt64).toInt64)) (by rw [a1]; omega)
  have c3 := own_neg128 (((((q.toUInt64 >>> ((7 : Int32) &&& 0x3f).toInt64.toUInt64).toInt64).toUInt64 >>> ((7 : Int32) &&& 0x3f).toInt64.toUInt64).toInt64)) (by rw [a2, a1]; omega)
  have c4 := own_neg128 (((((((q.toUInt64 >>> ((7 : Int32) &&& 0x3f).toInt64.toUInt64).toInt64).toUInt64 >>> ((7 : Int32) &&& 0x3f).toInt64.toUInt64).toInt64).toUInt64 >>> ((7 : Int32) &&& 0x3f).toInt64.toUInt64).toInt64)) (by rw [a3, a2, a1]; omega)
  rw [a1] at c2
  rw [a2, a1] at c3
  rw [a3, a2, a1] at c4
  have k1 : (128 : Int64).toInt = 128 := by decide
  have k2 : (16384 : Int64).toInt = 16384 := by decide
  have k3 : (2097152 : Int64).toInt = 2097152 := by decide
  have k4 : (268435456 : Int64).toInt = 268435456 := by decide
  simp only [f10, c1, c2, c3, c4, Int64.lt_iff_toInt_lt, k1, k2, k3, k4, Int32.add_assoc]
  repeat' split
  all_goals first | rfl | (exfalso; omega)
theorem own_law (p1 p2 p3 p4 p5 p6 : Int32) : f0 p1 p2 p3 p4 p5 p6 = 1 := by
  have g2 : ¬ g0_2 p1 p2 p3 p4 p5 p6 = 0 := by rw [g0_2, if_pos (by decide : f16 0 = 0)]; decide
  have e : f16 (f10 (f9 ((p4 <<< ((1 : Int32) &&& 31)) ^^^ (p4 >>> ((31 : Int32) &&& 31)))) (((f10 (f9 ((p3 <<< ((1 : Int32) &&& 31)) ^^^ (p3 >>> ((31 : Int32) &&& 31)))) (1 : Int32)) + (1 : Int32)) + (1 : Int32))) = g0_5 p1 p2 p3 p4 p5 p6 := by
    rw [own_var, own_var]; rfl
  simp only [f0, if_neg g2, if_pos e, ite_self]

theorem own_met (l : Launch) (Z : State) (a0 : Array Value) (hw : ∀ d ∈ tables_1, d.before a0 Z = true) (ws : List Jvm.Cond) (p1 : Int32) (p2 : Int32) (p3 : Int32) (p4 : Int32) (p5 : Int32) (p6 : Int32) (h0 : Heap) :
    OMet l Z x code maxLocals ret ws room_1 #[(.int p1), (.int p2), (.int p3), (.int p4), (.int p5), (.int p6)] h0 (fun v h L => v = some (.int 1) ∧ Fr h0.size L) := by
  intro p e ha hc hk s m args below hf happ hP hK
  obtain ⟨n, o, h1, h2, h3, v, L, ho, ⟨hv, hL⟩, hq⟩ := rm0 l Z a0 hw ws p1 p2 p3 p4 p5 p6 h0 h0.size (Nat.le_refl _) p e ha hc hk s m args below hf happ hP hK
  rw [own_law] at hv
  exact ⟨n, o, h1, h2, h3, v, L, ho, ⟨hv, hL⟩, hq⟩
set_option maxRecDepth 65536 in
set_option maxHeartbeats 40000000 in
theorem comes_1 {Post : Tables → Env → Array Value → State → Outcome → State → Prop} (hpost : ∀ tb e args s v u, (limb_1_1.after args s (.returned v) u = true ∧ limb_1_2.after args s (.returned v) u = true ∧ True) → FrameEnd s (.returned v) u (Jvm.fieldLocs frame_1_writes args s ++ Jvm.arrayLocs frame_1_arrays args s ++ Jvm.staticLocs frame_1_statics s) 16 640 → Post tb e args s (.returned v) u) :
    ArmFor flags0 classFile x code maxLocals ret World_1 tables_1 room_1 Calls_1 rest_1 Pre_1 Post := by
  intro l hfl _ _ p e ha hc hk s m args below hf hA hF happ hP
  obtain ⟨hcalls, hrest, hpre⟩ := hP
  obtain ⟨-, -, -, hnamed, -, -, -, hat⟩ := (Spec.applies_iff hf).mp happ
  obtain ⟨hg, hn⟩ := and_e (Cond.before_iff.mp (show (Jvm.Cond.and given_1 narrow_1).before args s = true from hpre))
  obtain ⟨h1, g0⟩ := and_e hg
  obtain ⟨w0, w1, w2, w3, w4, w5, rfl⟩ : ∃ w0 w1 w2 w3 w4 w5 : Value, args = #[w0, w1, w2, w3, w4, w5] := by
    have hs : args.size = 6 := by simpa [Cond.value, given_1] using h1
    obtain ⟨L⟩ := args
    match L, hs with
    | [w0, w1, w2, w3, w4, w5], _ => exact ⟨w0, w1, w2, w3, w4, w5, rfl⟩
  have hw := fun d (hd : d ∈ tables_1) => atoms_spec (ws := Jvm.Cond.code x code maxLocals ret :: tables_1) hat d (List.mem_cons_of_mem _ hd)
  obtain ⟨b0, g1⟩ := and_e g0
  obtain ⟨i0, e0⟩ := is_v b0
  obtain rfl : w0 = (.int i0) := Option.some.inj e0
  obtain ⟨b1, g2⟩ := and_e g1
  obtain ⟨i1, e1⟩ := is_v b1
  obtain rfl : w1 = (.int i1) := Option.some.inj e1
  obtain ⟨b2, g3⟩ := and_e g2
  obtain ⟨i2, e2⟩ := is_v b2
  obtain rfl : w2 = (.int i2) := Option.some.inj e2
  obtain ⟨b3, g4⟩ := and_e g3
  obtain ⟨i3, e3⟩ := is_v b3
  obtain rfl : w3 = (.int i3) := Option.some.inj e3
  obtain ⟨b4, g5⟩ := and_e g4
  obtain ⟨i4, e4⟩ := is_v b4
  obtain rfl : w4 = (.int i4) := Option.some.inj e4
  obtain ⟨i5, e5⟩ := is_v g5
  obtain rfl : w5 = (.int i5) := Option.some.inj e5
  obtain ⟨n, o, h1, h2, h3, _, L, rfl, ⟨rfl, N⟩, hq⟩ := own_met l s _ hw tables_1 i0 i1 i2 i3 i4 i5 s.heap p e ha hc hk s m _ below hf ((Spec.applies_iff_loose hf).mp happ).1 ⟨rfl, State.Warmed39.refl s, rfl⟩ trivial
  refine ⟨n, _, h1, h2, h3, hpost _ _ _ _ _ _ ⟨Cond.after_iff.mpr rfl, Cond.after_iff.mpr (eq_i res_at (Term.int_eval (1)) rfl), trivial⟩ ⟨hq.1, hq.2.1, (hq.2.2.sift fun y hy => Or.inr (N y hy)).mono (by decide) (by decide)⟩⟩
theorem main_1_1 : Claimed_1_1 := comes_1 fun _ _ _ _ _ _ h hF => ⟨h.1, hF⟩
theorem main_1_2 : Claimed_1_2 := comes_1 fun _ _ _ _ _ _ h hF => ⟨h.2.1, hF⟩
end Jvm.Pilot.@@N@@
namespace Jvm.Pilot.@@N@@
open Jvm Jvm.ClassFile Sem Op Lib Jvm.Free Jvm.Stand Jvm.Pilot.@@N@@.Jvm.D
/-! MADE BY PROGRAM (witnessworld.py) out of the Statement's table words and the real class files: 15 classes; the members and pool entries that the words name. The judged class is class 1, her method 2. -/
namespace start1
open Jvm.ClassFile
def u (s : String) : CpInfo := .utf8 (stringToUtf16 s)
/-- a pool by its gaps: so many unusable entries, then the entry; so many at the end -/
def gap : Nat → List CpInfo → List CpInfo
  | 0, r => r
  | n + 1, r => .unusable :: gap n r
def poolList (es : List (Nat × CpInfo)) (last : Nat) : List CpInfo := es.foldr (fun e r => gap e.1 (e.2 :: r)) (gap last [])
def pool (es : List (Nat × CpInfo)) (last : Nat) : Array CpInfo := ⟨poolList es last⟩
def fileOf (pool : Array CpInfo) (this : Nat) (attrs : Array Attribute := #[]) (ms : Array MethodInfo := #[]) (fl : Nat := 33) (sup : Nat := 0) (ifs : Array Nat := #[]) (fds : Array FieldInfo := #[]) : ClassFile where
  minorVersion := 0
  majorVersion := 65
  constantPool := pool
  accessFlags := fl
  thisClass := this
  superClass := sup
  interfaces := ifs
  fields := fds
  methods := ms
  attributes := attrs
def plain (name : String) (sup : Option ClassId) : Class where
  name := name
  kind := .ordinary
  loader := none
  accessFlags := 33
  super := sup
  interfaces := #[]
  cf := none
  fields := #[]
  methods := #[]
  instanceTypes := #[]
  staticTypes := #[]
  resolved := #[]
  callSites := []
  init := .initialized
  statics := none
  mirror := none

def pool0 : Array CpInfo := pool [(5, u "<init>"), (0, u "()V"), (1, .class_ 10), (1, u "java/lang/Object")] 113

def k0c0 : Code := { maxStack := 0, maxLocals := 1, code := object_method_1_code, exceptionTable := #[], attributes := #[] }
def k0m0 : Method := { name := "<init>", desc := "()V", sig := { parameters := [], returnType := none }, accessFlags := 1, code := some k0c0 }
/-- java/lang/Object -/
def k0 : Class := { plain "java/lang/Object" none with
  accessFlags := 33
  interfaces := #[]
  cf := some (fileOf pool0 8 #[] #[{ accessFlags := 1, nameIndex := 5, descriptorIndex := 6, attributes := #[] }] 33 0 #[] #[])
  fields := #[]
  methods := #[k0m0]
  instanceTypes := #[]
  staticTypes := #[]
  resolved := Array.replicate 124 none
  statics := none }

def pool1 : Array CpInfo := pool [(2, .class_ 4), (0, .nameAndType 5 6), (0, u "java/lang/Object"), (0, u "<init>"), (0, u "()V"), (0, .long 4294967295), (1, .long 128), (1, .long 16384), (1, .long 2097152), (1, .long 268435456), (1, .class_ 18), (0, u "com/example/partwise/partwise/CompactThrift"), (0, .methodref 17 3), (0, .integer 2147483647), (0, .methodref 17 22), (0, .nameAndType 23 24), (0, u "i32"), (0, u "(II)V"), (0, .methodref 17 26), (0, .nameAndType 27 28), (0, u "struct"), (0, u "(I)V"), (0, .methodref 17 30), (0, .nameAndType 31 6), (0, u "end"), (0, .methodref 17 33), (0, .nameAndType 34 6), (0, u "reset"), (0, .methodref 17 36), (0, .nameAndType 37 38), (0, u "size"), (0, u "()I"), (0, .methodref 40 41), (0, .class_ 42), (0, .nameAndType 43 44), (0, u "com/example/partwise/partwise/CompactThriftResetPinLaw"), (0, u "varLen"), (0, u "(I)I"), (3, u "law"), (0, u "(IIIIII)Z")] 2

def k1m0 : Method := { name := "<init>", desc := "()V", sig := { parameters := [], returnType := none }, accessFlags := 2, code := none }
def k1c1 : Code := { maxStack := 4, maxLocals := 4, code := method_2_code, exceptionTable := #[], attributes := #[] }
def k1m1 : Method := { name := "varLen", desc := "(I)I", sig := { parameters := [.int], returnType := some .int }, accessFlags := 10, code := some k1c1 }
def k1c2 : Code := { maxStack := 3, maxLocals := 12, code := code, exceptionTable := #[], attributes := #[] }
def k1m2 : Method := { name := "law", desc := "(IIIIII)Z", sig := { parameters := [.int, .int, .int, .int, .int, .int], returnType := some .boolean }, accessFlags := 9, code := some k1c2 }
/-- com/example/partwise/partwise/CompactThriftResetPinLaw -/
def k1 : Class := { plain "com/example/partwise/partwise/CompactThriftResetPinLaw" (some 0) with
  accessFlags := 49
  interfaces := #[]
  cf := some (fileOf pool1 40 #[] #[{ accessFlags := 2, nameIndex := 5, descriptorIndex := 6, attributes := #[] }, { accessFlags := 10, nameIndex := 43, descriptorIndex := 44, attributes := #[] }, { accessFlags := 9, nameIndex := 48, descriptorIndex := 49, attributes := #[] }] 49 2 #[] #[])
  fields := #[]
  methods := #[k1m0, k1m1, k1m2]
  instanceTypes := #[]
  staticTypes := #[]
  resolved := Array.replicate 52 none
  statics := none }

def pool2 : Array CpInfo := pool [(1, .methodref 2 3), (0, .class_ 4), (0, .nameAndType 5 6), (0, u "java/lang/Object"), (0, u "<init>"), (0, u "()V"), (0, .class_ 8), (0, u "com/example/partwise/partwise/ByteBuilder"), (0, .methodref 7 10), (0, .nameAndType 5 11), (0, u "(I)V"), (0, .fieldref 13 14), (0, .class_ 15), (0, .nameAndType 16 17), (0, u "com/example/partwise/partwise/CompactThrift"), (0, u "bytes"), (0, u "Lcom/example/partwise/partwise/ByteBuilder;"), (0, .fieldref 13 19), (0, .nameAndType 20 21), (0, u "enclosing"), (0, u "[I"), (0, .methodref 7 23), (0, .nameAndType 24 6), (0, u "clear"), (0, .fieldref 13 26), (0, .nameAndType 27 28), (0, u "lastField"), (0, u "I"), (0, .fieldref 13 30), (0, .nameAndType 31 28), (0, u "depth"), (0, .methodref 13 33), (0, .nameAndType 34 35), (0, u "fieldHeader"), (0, u "(II)V"), (0, .methodref 13 37), (0, .nameAndType 38 11), (0, u "i32Element"), (0, .methodref 7 40), (0, .nameAndType 41 42), (0, u "appendVarint"), (0, u "(J)V"), (20, .methodref 13 64), (0, .nameAndType 65 6), (0, u "enter"), (0, .methodref 7 67), (0, .nameAndType 68 11), (0, u "append"), (0, .methodref 70 71), (0, .class_ 72), (0, .nameAndType 73 74), (0, u "java/lang/Integer"), (0, u "toUnsignedLong"), (0, u "(I)J"), (0, .methodref 7 76), (0, .nameAndType 77 78), (0, u "length"), (0, u "()I"), (22, u "I32"), (2, u "I64"), (1, u "BINARY"), (1, u "STRUCT"), (1, u "LIST"), (1, u "STOP"), (1, u "MOST_FIELD_DELTA"), (1, u "MOST_SHORT_LIST"), (3, u "reset"), (0, u "i32"), (4, u "struct"), (5, u "end"), (0, u "size")] 20

def k2c0 : Code := { maxStack := 4, maxLocals := 1, code := prog_27_method_1_code, exceptionTable := #[], attributes := #[] }
def k2m0 : Method := { name := "<init>", desc := "()V", sig := { parameters := [], returnType := none }, accessFlags := 0, code := some k2c0 }
def k2c1 : Code := { maxStack := 2, maxLocals := 1, code := prog_27_method_2_code, exceptionTable := #[], attributes := #[] }
def k2m1 : Method := { name := "reset", desc := "()V", sig := { parameters := [], returnType := none }, accessFlags := 0, code := some k2c1 }
def k2c2 : Code := { maxStack := 3, maxLocals := 3, code := prog_27_method_3_code, exceptionTable := #[], attributes := #[] }
def k2m2 : Method := { name := "i32", desc := "(II)V", sig := { parameters := [.int, .int], returnType := none }, accessFlags := 0, code := some k2c2 }
def k2c3 : Code := { maxStack := 3, maxLocals := 2, code := prog_27_method_7_code, exceptionTable := #[], attributes := #[] }
def k2m3 : Method := { name := "struct", desc := "(I)V", sig := { parameters := [.int], returnType := none }, accessFlags := 0, code := some k2c3 }
def k2c4 : Code := { maxStack := 4, maxLocals := 2, code := prog_27_method_10_code, exceptionTable := #[], attributes := #[] }
def k2m4 : Method := { name := "i32Element", desc := "(I)V", sig := { parameters := [.int], returnType := none }, accessFlags := 0, code := some k2c4 }
def k2c5 : Code := { maxStack := 3, maxLocals := 1, code := prog_27_method_12_code, exceptionTable := #[], attributes := #[] }
def k2m5 : Method := { name := "end", desc := "()V", sig := { parameters := [], returnType := none }, accessFlags := 0, code := some k2c5 }
def k2c6 : Code := { maxStack := 1, maxLocals := 1, code := prog_27_method_13_code, exceptionTable := #[], attributes := #[] }
def k2m6 : Method := { name := "size", desc := "()I", sig := { parameters := [], returnType := some .int }, accessFlags := 0, code := some k2c6 }
def k2c7 : Code := { maxStack := 4, maxLocals := 4, code := prog_27_method_15_code, exceptionTable := #[], attributes := #[] }
def k2m7 : Method := { name := "fieldHeader", desc := "(II)V", sig := { parameters := [.int, .int], returnType := none }, accessFlags := 2, code := some k2c7 }
def k2c8 : Code := { maxStack := 4, maxLocals := 1, code := prog_27_method_17_code, exceptionTable := #[], attributes := #[] }
def k2m8 : Method := { name := "enter", desc := "()V", sig := { parameters := [], returnType := none }, accessFlags := 2, code := some k2c8 }
/-- com/example/partwise/partwise/CompactThrift -/
def k2 : Class := { plain "com/example/partwise/partwise/CompactThrift" (some 0) with
  accessFlags := 48
  interfaces := #[]
  cf := some (fileOf pool2 13 #[] #[{ accessFlags := 0, nameIndex := 5, descriptorIndex := 6, attributes := #[] }, { accessFlags := 0, nameIndex := 120, descriptorIndex := 6, attributes := #[] }, { accessFlags := 0, nameIndex := 121, descriptorIndex := 35, attributes := #[] }, { accessFlags := 0, nameIndex := 126, descriptorIndex := 11, attributes := #[] }, { accessFlags := 0, nameIndex := 38, descriptorIndex := 11, attributes := #[] }, { accessFlags := 0, nameIndex := 132, descriptorIndex := 6, attributes := #[] }, { accessFlags := 0, nameIndex := 133, descriptorIndex := 78, attributes := #[] }, { accessFlags := 2, nameIndex := 34, descriptorIndex := 35, attributes := #[] }, { accessFlags := 2, nameIndex := 65, descriptorIndex := 6, attributes := #[] }] 48 2 #[] #[{ accessFlags := 24, nameIndex := 101, descriptorIndex := 28, attributes := #[] }, { accessFlags := 24, nameIndex := 104, descriptorIndex := 28, attributes := #[] }, { accessFlags := 24, nameIndex := 106, descriptorIndex := 28, attributes := #[] }, { accessFlags := 24, nameIndex := 108, descriptorIndex := 28, attributes := #[] }, { accessFlags := 26, nameIndex := 110, descriptorIndex := 28, attributes := #[] }, { accessFlags := 26, nameIndex := 112, descriptorIndex := 28, attributes := #[] }, { accessFlags := 26, nameIndex := 114, descriptorIndex := 28, attributes := #[] }, { accessFlags := 26, nameIndex := 116, descriptorIndex := 28, attributes := #[] }, { accessFlags := 18, nameIndex := 16, descriptorIndex := 17, attributes := #[] }, { accessFlags := 2, nameIndex := 27, descriptorIndex := 28, attributes := #[] }, { accessFlags := 2, nameIndex := 20, descriptorIndex := 21, attributes := #[] }, { accessFlags := 2, nameIndex := 31, descriptorIndex := 28, attributes := #[] }])
  fields := #[{ name := "I32", type := .int, accessFlags := 24, slot := 0, constantValue := 0 }, { name := "I64", type := .int, accessFlags := 24, slot := 1, constantValue := 0 }, { name := "BINARY", type := .int, accessFlags := 24, slot := 2, constantValue := 0 }, { name := "STRUCT", type := .int, accessFlags := 24, slot := 3, constantValue := 0 }, { name := "LIST", type := .int, accessFlags := 26, slot := 4, constantValue := 0 }, { name := "STOP", type := .int, accessFlags := 26, slot := 5, constantValue := 0 }, { name := "MOST_FIELD_DELTA", type := .int, accessFlags := 26, slot := 6, constantValue := 0 }, { name := "MOST_SHORT_LIST", type := .int, accessFlags := 26, slot := 7, constantValue := 0 }, { name := "bytes", type := (.object "com/example/partwise/partwise/ByteBuilder"), accessFlags := 18, slot := 0, constantValue := 0 }, { name := "lastField", type := .int, accessFlags := 2, slot := 1, constantValue := 0 }, { name := "enclosing", type := (.array .int), accessFlags := 2, slot := 2, constantValue := 0 }, { name := "depth", type := .int, accessFlags := 2, slot := 3, constantValue := 0 }]
  methods := #[k2m0, k2m1, k2m2, k2m3, k2m4, k2m5, k2m6, k2m7, k2m8]
  instanceTypes := #[(.object "com/example/partwise/partwise/ByteBuilder"), .int, (.array .int), .int]
  staticTypes := #[.int, .int, .int, .int, .int, .int, .int, .int]
  resolved := Array.replicate 154 none
  statics := none }

def pool3 : Array CpInfo := pool [(1, .methodref 2 3), (0, .class_ 4), (0, .nameAndType 5 6), (0, u "java/lang/Object"), (0, u "<init>"), (0, u "()V"), (0, .fieldref 8 9), (0, .class_ 10), (0, .nameAndType 11 12), (0, u "com/example/partwise/partwise/ByteBuilder"), (0, u "bytes"), (0, u "[B"), (0, .methodref 8 14), (0, .nameAndType 15 16), (0, u "reserve"), (0, u "(I)V"), (0, .fieldref 8 18), (0, .nameAndType 19 20), (0, u "length"), (0, u "I"), (6, .long 18446744073709551488), (1, .long 127), (1, .methodref 8 32), (0, .nameAndType 33 16), (0, u "append"), (23, u "appendVarint"), (0, u "(J)V"), (0, u "()I"), (7, u "clear")] 2

def k3c0 : Code := { maxStack := 2, maxLocals := 2, code := prog_1_method_1_code, exceptionTable := #[], attributes := #[] }
def k3m0 : Method := { name := "<init>", desc := "(I)V", sig := { parameters := [.int], returnType := none }, accessFlags := 0, code := some k3c0 }
def k3c1 : Code := { maxStack := 3, maxLocals := 2, code := prog_1_method_2_code, exceptionTable := #[], attributes := #[] }
def k3m1 : Method := { name := "append", desc := "(I)V", sig := { parameters := [.int], returnType := none }, accessFlags := 0, code := some k3c1 }
def k3c2 : Code := { maxStack := 5, maxLocals := 5, code := prog_1_method_5_code, exceptionTable := #[], attributes := #[] }
def k3m2 : Method := { name := "appendVarint", desc := "(J)V", sig := { parameters := [.long], returnType := none }, accessFlags := 0, code := some k3c2 }
def k3c3 : Code := { maxStack := 1, maxLocals := 1, code := prog_1_method_6_code, exceptionTable := #[], attributes := #[] }
def k3m3 : Method := { name := "length", desc := "()I", sig := { parameters := [], returnType := some .int }, accessFlags := 0, code := some k3c3 }
def k3c4 : Code := { maxStack := 2, maxLocals := 1, code := prog_1_method_9_code, exceptionTable := #[], attributes := #[] }
def k3m4 : Method := { name := "clear", desc := "()V", sig := { parameters := [], returnType := none }, accessFlags := 0, code := some k3c4 }
def k3c5 : Code := { maxStack := 5, maxLocals := 2, code := prog_1_method_10_code, exceptionTable := #[], attributes := #[] }
def k3m5 : Method := { name := "reserve", desc := "(I)V", sig := { parameters := [.int], returnType := none }, accessFlags := 2, code := some k3c5 }
/-- com/example/partwise/partwise/ByteBuilder -/
def k3 : Class := { plain "com/example/partwise/partwise/ByteBuilder" (some 0) with
  accessFlags := 48
  interfaces := #[]
  cf := some (fileOf pool3 8 #[] #[{ accessFlags := 0, nameIndex := 5, descriptorIndex := 16, attributes := #[] }, { accessFlags := 0, nameIndex := 33, descriptorIndex := 16, attributes := #[] }, { accessFlags := 0, nameIndex := 57, descriptorIndex := 58, attributes := #[] }, { accessFlags := 0, nameIndex := 19, descriptorIndex := 59, attributes := #[] }, { accessFlags := 0, nameIndex := 67, descriptorIndex := 6, attributes := #[] }, { accessFlags := 2, nameIndex := 15, descriptorIndex := 16, attributes := #[] }] 48 2 #[] #[{ accessFlags := 2, nameIndex := 11, descriptorIndex := 12, attributes := #[] }, { accessFlags := 2, nameIndex := 19, descriptorIndex := 20, attributes := #[] }])
  fields := #[{ name := "bytes", type := (.array .byte), accessFlags := 2, slot := 0, constantValue := 0 }, { name := "length", type := .int, accessFlags := 2, slot := 1, constantValue := 0 }]
  methods := #[k3m0, k3m1, k3m2, k3m3, k3m4, k3m5]
  instanceTypes := #[(.array .byte), .int]
  staticTypes := #[]
  resolved := Array.replicate 70 none
  statics := none }

def pool4 : Array CpInfo := pool [(1, .class_ 2), (0, u "java/io/Serializable"), (0, .class_ 4), (0, u "java/lang/Object")] 2

/-- java/io/Serializable -/
def k4 : Class := { plain "java/io/Serializable" (some 0) with
  accessFlags := 1537
  interfaces := #[]
  cf := some (fileOf pool4 1 #[] #[] 1537 3 #[] #[])
  fields := #[]
  methods := #[]
  instanceTypes := #[]
  staticTypes := #[]
  resolved := Array.replicate 7 none
  statics := none }

def pool5 : Array CpInfo := pool [(2, .class_ 4), (1, u "java/lang/Object"), (0, u "<init>"), (0, u "()V"), (1, .class_ 10), (1, u "java/lang/Number"), (2, .class_ 14), (0, u "java/io/Serializable"), (0, u "serialVersionUID"), (0, u "J")] 20

def k5m0 : Method := { name := "<init>", desc := "()V", sig := { parameters := [], returnType := none }, accessFlags := 1, code := none }
/-- java/lang/Number -/
def k5 : Class := { plain "java/lang/Number" (some 0) with
  accessFlags := 1057
  interfaces := #[4]
  cf := some (fileOf pool5 8 #[] #[{ accessFlags := 1, nameIndex := 5, descriptorIndex := 6, attributes := #[] }] 1057 2 #[13] #[{ accessFlags := 26, nameIndex := 15, descriptorIndex := 16, attributes := #[] }])
  fields := #[{ name := "serialVersionUID", type := .long, accessFlags := 26, slot := 0, constantValue := 0 }]
  methods := #[k5m0]
  instanceTypes := #[]
  staticTypes := #[.long]
  resolved := Array.replicate 37 none
  statics := none }

def pool6 : Array CpInfo := pool [(1, .class_ 2), (0, u "java/lang/Comparable"), (0, .class_ 4), (0, u "java/lang/Object")] 7

/-- java/lang/Comparable -/
def k6 : Class := { plain "java/lang/Comparable" (some 0) with
  accessFlags := 1537
  interfaces := #[]
  cf := some (fileOf pool6 1 #[] #[] 1537 3 #[] #[])
  fields := #[]
  methods := #[]
  instanceTypes := #[]
  staticTypes := #[]
  resolved := Array.replicate 12 none
  statics := none }

def pool7 : Array CpInfo := pool [(1, .class_ 2), (0, u "java/lang/constant/Constable"), (0, .class_ 4), (0, u "java/lang/Object")] 6

/-- java/lang/constant/Constable -/
def k7 : Class := { plain "java/lang/constant/Constable" (some 0) with
  accessFlags := 1537
  interfaces := #[]
  cf := some (fileOf pool7 1 #[] #[] 1537 3 #[] #[])
  fields := #[]
  methods := #[]
  instanceTypes := #[]
  staticTypes := #[]
  resolved := Array.replicate 11 none
  statics := none }

def pool8 : Array CpInfo := pool [(1, .class_ 2), (0, u "java/lang/constant/ConstantDesc"), (0, .class_ 4), (0, u "java/lang/Object")] 32

/-- java/lang/constant/ConstantDesc -/
def k8 : Class := { plain "java/lang/constant/ConstantDesc" (some 0) with
  accessFlags := 1537
  interfaces := #[]
  cf := some (fileOf pool8 1 #[] #[] 1537 3 #[] #[])
  fields := #[]
  methods := #[]
  instanceTypes := #[]
  staticTypes := #[]
  resolved := Array.replicate 37 none
  statics := none }

def pool9 : Array CpInfo := pool [(1, .class_ 2), (0, u "java/lang/Integer"), (16, u "digits"), (0, u "[C"), (19, u "toUnsignedLong"), (0, u "(I)J"), (43, u "DigitOnes"), (0, u "[B"), (2, u "DigitTens"), (99, .class_ 190), (0, u "java/lang/Integer$IntegerCache"), (3, u "I"), (8, .class_ 204), (0, u "java/lang/Number"), (2, u "value"), (54, .long 4294967295), (39, u "TYPE"), (0, u "Ljava/lang/Class;"), (0, .class_ 305), (0, u "java/lang/Comparable"), (0, .class_ 307), (0, u "java/lang/constant/Constable"), (0, .class_ 309), (0, u "java/lang/constant/ConstantDesc"), (0, u "MIN_VALUE"), (1, u "MAX_VALUE"), (3, u "SIZE"), (1, u "BYTES"), (1, u "serialVersionUID"), (0, u "J")] 131

def k9c0 : Code := { maxStack := 4, maxLocals := 1, code := jdk_33_method_42_code, exceptionTable := #[], attributes := #[] }
def k9m0 : Method := { name := "toUnsignedLong", desc := "(I)J", sig := { parameters := [.int], returnType := some .long }, accessFlags := 9, code := some k9c0 }
/-- java/lang/Integer -/
def k9 : Class := { plain "java/lang/Integer" (some 5) with
  accessFlags := 49
  interfaces := #[6, 7, 8]
  cf := some (fileOf pool9 1 #[.nestMembers #[189]] #[{ accessFlags := 9, nameIndex := 40, descriptorIndex := 41, attributes := #[] }] 49 203 #[304, 306, 308] #[{ accessFlags := 25, nameIndex := 310, descriptorIndex := 194, attributes := #[] }, { accessFlags := 25, nameIndex := 312, descriptorIndex := 194, attributes := #[] }, { accessFlags := 25, nameIndex := 302, descriptorIndex := 303, attributes := #[] }, { accessFlags := 24, nameIndex := 19, descriptorIndex := 20, attributes := #[] }, { accessFlags := 24, nameIndex := 89, descriptorIndex := 86, attributes := #[] }, { accessFlags := 24, nameIndex := 85, descriptorIndex := 86, attributes := #[] }, { accessFlags := 18, nameIndex := 207, descriptorIndex := 194, attributes := #[] }, { accessFlags := 25, nameIndex := 316, descriptorIndex := 194, attributes := #[] }, { accessFlags := 25, nameIndex := 318, descriptorIndex := 194, attributes := #[] }, { accessFlags := 26, nameIndex := 320, descriptorIndex := 321, attributes := #[] }])
  fields := #[{ name := "MIN_VALUE", type := .int, accessFlags := 25, slot := 0, constantValue := 0 }, { name := "MAX_VALUE", type := .int, accessFlags := 25, slot := 1, constantValue := 0 }, { name := "TYPE", type := (.object "java/lang/Class"), accessFlags := 25, slot := 2, constantValue := 0 }, { name := "digits", type := (.array .char), accessFlags := 24, slot := 3, constantValue := 0 }, { name := "DigitTens", type := (.array .byte), accessFlags := 24, slot := 4, constantValue := 0 }, { name := "DigitOnes", type := (.array .byte), accessFlags := 24, slot := 5, constantValue := 0 }, { name := "value", type := .int, accessFlags := 18, slot := 0, constantValue := 0 }, { name := "SIZE", type := .int, accessFlags := 25, slot := 6, constantValue := 0 }, { name := "BYTES", type := .int, accessFlags := 25, slot := 7, constantValue := 0 }, { name := "serialVersionUID", type := .long, accessFlags := 26, slot := 8, constantValue := 0 }]
  methods := #[k9m0]
  instanceTypes := #[.int]
  staticTypes := #[.int, .int, (.object "java/lang/Class"), (.array .char), (.array .byte), (.array .byte), .int, .int, .long]
  resolved := Array.replicate 453 none
  statics := none }

def pool10 : Array CpInfo := pool [(1, u "java/lang/Cloneable"), (0, .class_ 1), (0, u "java/lang/Object"), (0, .class_ 3)] 3

/-- java/lang/Cloneable -/
def k10 : Class := { plain "java/lang/Cloneable" (some 0) with
  accessFlags := 1537
  interfaces := #[]
  cf := some (fileOf pool10 2 #[] #[] 1537 4 #[] #[])
  fields := #[]
  methods := #[]
  instanceTypes := #[]
  staticTypes := #[]
  resolved := Array.replicate 8 none
  statics := none }

/-- the primitive byte -/
def k11 : Class := { plain "byte" none with kind := .primitive 'B', accessFlags := 0x411 }
/-- [B -/
def k12 : Class := { plain "[B" (some 0) with kind := .array 11 .byte, interfaces := #[10, 4], accessFlags := 1041 }

/-- the primitive int -/
def k13 : Class := { plain "int" none with kind := .primitive 'I', accessFlags := 0x411 }
/-- [I -/
def k14 : Class := { plain "[I" (some 0) with kind := .array 13 .int, interfaces := #[10, 4], accessFlags := 1041 }

def heap : Heap := #[]
def classes : Array Class := #[k0, k1, k2, k3, k4, k5, k6, k7, k8, k9, k10, k11, k12, k13, k14]
def interned : List (Array UInt16 × Addr) := []
def slotsUsed : Nat := 0
def theMethod : MethodId := ⟨1, 2⟩
def args0 : Array Value := #[.int 5, .int 7, .int 1, .int 2, .int 3, .int 9]
def aboutOver (below : List Frame) : State where
  vm := { classes := classes, interned := interned.toArray }
  heap := heap
  slotsUsed := slotsUsed
  threads := #[{ frames := .invoking theMethod args0 :: below }]
def below0 : List Frame := [.native { method := ⟨0, 0⟩, args := #[] }]
def about1 : State := aboutOver below0
def p0 : Program := .bare "" "" ""
def e0 : Env := launch0.env 0 0 0
theorem w_frames : about1.frames = Frame.invoking theMethod args0 :: below0 := rfl
set_option maxRecDepth 65536 in
theorem w_args : argsFit about1.vm theMethod args0 = true := by decide +kernel
set_option maxRecDepth 65536 in
theorem w_heap : heapFits about1 = true := by decide +kernel
set_option maxRecDepth 65536 in
theorem w_runnable : about1.curStatus? = some .runnable := by decide +kernel
set_option maxRecDepth 65536 in
theorem w_alone : about1.alone = true := by decide +kernel
set_option maxRecDepth 65536 in
theorem w_named : about1.methodNamed? x = some theMethod := by decide +kernel
set_option maxRecDepth 65536 in
theorem w_hears : about1.hears theMethod below0 = true := by decide +kernel
set_option maxRecDepth 65536 in
theorem w_ripe : about1.ripe theMethod args0 below0 = true := by decide +kernel
theorem w_running : about1.status = .running := rfl
set_option maxRecDepth 65536 in
theorem w_room : about1.hasRoom e0.platform room_1 = true :=
  launch0.hasRoom_least _ room_1 (by decide +kernel) (by decide +kernel) (by decide +kernel) (by decide +kernel) (by decide +kernel) (by decide +kernel)
theorem allAtoms_all (ts : List Jvm.Cond) (a : Array Jvm.Value) (st : Jvm.State) : (allAtoms ts).before a st = ts.all (fun c => c.before a st) := by
  induction ts with
  | nil => rfl
  | cons c t ih =>
    show (Jvm.Cond.and c (allAtoms t)).before a st = _
    rw [Jvm.Cond.before_and, ih, List.all_cons]
def words1 : List Jvm.Cond := Jvm.Cond.code x code maxLocals ret :: tables_1
/-- a 'code' word, met by the world's own term for the bytes: nothing is compared byte by byte -/
theorem code_word {y : MethodName} {bytes : ByteArray} {mx : Nat} {rt : Option FieldType} {a : Array Value} {s : State} {m : MethodId} {meth : Method} {c : Code} (h1 : s.methodNamed? y = some m) (h2 : s.vm.method? m = some meth) (h3 : meth.code = some c) (h4 : c.code = bytes)
    (h5 : (c.maxLocals == mx && c.exceptionTable.isEmpty && decide (c.maxStack ≤ mostOperands) && decide (meth.sig.returnType = rt) && !meth.locks && decide (parseMethodDescriptor y.desc = some meth.sig)) = true) : (Jvm.Cond.code y bytes mx rt).before a s = true := by
  simp only [Bool.and_eq_true, beq_iff_eq, Bool.not_eq_true', decide_eq_true_eq] at h5
  obtain ⟨⟨⟨⟨⟨g1, g2⟩, g3⟩, g4⟩, g5⟩, g6⟩ := h5
  simp [Cond.before, Cond.holds, Cond.value, h1, h2, h3, h4, g1, g2, g3, g4, g5, g6]
def isCode : Jvm.Cond → Bool
  | .code _ _ _ _ => true
  | _ => false
theorem all_split {L : List Jvm.Cond} {P : Jvm.Cond → Bool} (h1 : L.all (fun c => isCode c || P c) = true) (h2 : ∀ c ∈ L.filter isCode, P c = true) : L.all P = true := by
  refine List.all_eq_true.mpr fun c hc => ?_
  have h := List.all_eq_true.mp h1 c hc
  rcases Bool.eq_false_or_eq_true (isCode c) with hi | hi
  · exact h2 c (List.mem_filter.mpr ⟨hc, hi⟩)
  · simpa [hi] using h
set_option maxRecDepth 65536 in
theorem w_c0 : (Jvm.Cond.code x code maxLocals ret).before args0 about1 = true := code_word (m := ⟨1, 2⟩) (meth := k1m2) (c := k1c2) (by decide +kernel) rfl rfl rfl (by decide +kernel)
set_option maxRecDepth 65536 in
theorem w_c1 : (Jvm.Cond.code ({ cls := "com/example/partwise/partwise/CompactThrift", name := "<init>", desc := "()V" } : Jvm.MethodName) prog_27_method_1_code (1 : Nat) (Option.none : Option Jvm.ClassFile.FieldType)).before args0 about1 = true := code_word (m := ⟨2, 0⟩) (meth := k2m0) (c := k2c0) (by decide +kernel) rfl rfl rfl (by decide +kernel)
set_option maxRecDepth 65536 in
theorem w_c2 : (Jvm.Cond.code ({ cls := "java/lang/Object", name := "<init>", desc := "()V" } : Jvm.MethodName) object_method_1_code (1 : Nat) (Option.none : Option Jvm.ClassFile.FieldType)).before args0 about1 = true := code_word (m := ⟨0, 0⟩) (meth := k0m0) (c := k0c0) (by decide +kernel) rfl rfl rfl (by decide +kernel)
set_option maxRecDepth 65536 in
theorem w_c3 : (Jvm.Cond.code ({ cls := "com/example/partwise/partwise/ByteBuilder", name := "<init>", desc := "(I)V" } : Jvm.MethodName) prog_1_method_1_code (2 : Nat) (Option.none : Option Jvm.ClassFile.FieldType)).before args0 about1 = true := code_word (m := ⟨3, 0⟩) (meth := k3m0) (c := k3c0) (by decide +kernel) rfl rfl rfl (by decide +kernel)
set_option maxRecDepth 65536 in
theorem w_c4 : (Jvm.Cond.code ({ cls := "com/example/partwise/partwise/CompactThrift", name := "i32", desc := "(II)V" } : Jvm.MethodName) prog_27_method_3_code (3 : Nat) (Option.none : Option Jvm.ClassFile.FieldType)).before args0 about1 = true := code_word (m := ⟨2, 2⟩) (meth := k2m2) (c := k2c2) (by decide +kernel) rfl rfl rfl (by decide +kernel)
set_option maxRecDepth 65536 in
theorem w_c5 : (Jvm.Cond.code ({ cls := "com/example/partwise/partwise/CompactThrift", name := "fieldHeader", desc := "(II)V" } : Jvm.MethodName) prog_27_method_15_code (4 : Nat) (Option.none : Option Jvm.ClassFile.FieldType)).before args0 about1 = true := code_word (m := ⟨2, 7⟩) (meth := k2m7) (c := k2c7) (by decide +kernel) rfl rfl rfl (by decide +kernel)
set_option maxRecDepth 65536 in
theorem w_c6 : (Jvm.Cond.code ({ cls := "com/example/partwise/partwise/ByteBuilder", name := "append", desc := "(I)V" } : Jvm.MethodName) prog_1_method_2_code (2 : Nat) (Option.none : Option Jvm.ClassFile.FieldType)).before args0 about1 = true := code_word (m := ⟨3, 1⟩) (meth := k3m1) (c := k3c1) (by decide +kernel) rfl rfl rfl (by decide +kernel)
set_option maxRecDepth 65536 in
theorem w_c7 : (Jvm.Cond.code ({ cls := "com/example/partwise/partwise/ByteBuilder", name := "reserve", desc := "(I)V" } : Jvm.MethodName) prog_1_method_10_code (2 : Nat) (Option.none : Option Jvm.ClassFile.FieldType)).before args0 about1 = true := code_word (m := ⟨3, 5⟩) (meth := k3m5) (c := k3c5) (by decide +kernel) rfl rfl rfl (by decide +kernel)
set_option maxRecDepth 65536 in
theorem w_c8 : (Jvm.Cond.code ({ cls := "com/example/partwise/partwise/CompactThrift", name := "i32Element", desc := "(I)V" } : Jvm.MethodName) prog_27_method_10_code (2 : Nat) (Option.none : Option Jvm.ClassFile.FieldType)).before args0 about1 = true := code_word (m := ⟨2, 4⟩) (meth := k2m4) (c := k2c4) (by decide +kernel) rfl rfl rfl (by decide +kernel)
set_option maxRecDepth 65536 in
theorem w_c9 : (Jvm.Cond.code ({ cls := "java/lang/Integer", name := "toUnsignedLong", desc := "(I)J" } : Jvm.MethodName) jdk_33_method_42_code (1 : Nat) (Option.some Jvm.ClassFile.FieldType.long)).before args0 about1 = true := code_word (m := ⟨9, 0⟩) (meth := k9m0) (c := k9c0) (by decide +kernel) rfl rfl rfl (by decide +kernel)
set_option maxRecDepth 65536 in
theorem w_c10 : (Jvm.Cond.code ({ cls := "com/example/partwise/partwise/ByteBuilder", name := "appendVarint", desc := "(J)V" } : Jvm.MethodName) prog_1_method_5_code (5 : Nat) (Option.none : Option Jvm.ClassFile.FieldType)).before args0 about1 = true := code_word (m := ⟨3, 2⟩) (meth := k3m2) (c := k3c2) (by decide +kernel) rfl rfl rfl (by decide +kernel)
set_option maxRecDepth 65536 in
theorem w_c11 : (Jvm.Cond.code ({ cls := "com/example/partwise/partwise/CompactThrift", name := "struct", desc := "(I)V" } : Jvm.MethodName) prog_27_method_7_code (2 : Nat) (Option.none : Option Jvm.ClassFile.FieldType)).before args0 about1 = true := code_word (m := ⟨2, 3⟩) (meth := k2m3) (c := k2c3) (by decide +kernel) rfl rfl rfl (by decide +kernel)
set_option maxRecDepth 65536 in
theorem w_c12 : (Jvm.Cond.code ({ cls := "com/example/partwise/partwise/CompactThrift", name := "enter", desc := "()V" } : Jvm.MethodName) prog_27_method_17_code (1 : Nat) (Option.none : Option Jvm.ClassFile.FieldType)).before args0 about1 = true := code_word (m := ⟨2, 8⟩) (meth := k2m8) (c := k2c8) (by decide +kernel) rfl rfl rfl (by decide +kernel)
set_option maxRecDepth 65536 in
theorem w_c13 : (Jvm.Cond.code ({ cls := "com/example/partwise/partwise/CompactThrift", name := "end", desc := "()V" } : Jvm.MethodName) prog_27_method_12_code (1 : Nat) (Option.none : Option Jvm.ClassFile.FieldType)).before args0 about1 = true := code_word (m := ⟨2, 5⟩) (meth := k2m5) (c := k2c5) (by decide +kernel) rfl rfl rfl (by decide +kernel)
set_option maxRecDepth 65536 in
theorem w_c14 : (Jvm.Cond.code ({ cls := "com/example/partwise/partwise/CompactThrift", name := "reset", desc := "()V" } : Jvm.MethodName) prog_27_method_2_code (1 : Nat) (Option.none : Option Jvm.ClassFile.FieldType)).before args0 about1 = true := code_word (m := ⟨2, 1⟩) (meth := k2m1) (c := k2c1) (by decide +kernel) rfl rfl rfl (by decide +kernel)
set_option maxRecDepth 65536 in
theorem w_c15 : (Jvm.Cond.code ({ cls := "com/example/partwise/partwise/ByteBuilder", name := "clear", desc := "()V" } : Jvm.MethodName) prog_1_method_9_code (1 : Nat) (Option.none : Option Jvm.ClassFile.FieldType)).before args0 about1 = true := code_word (m := ⟨3, 4⟩) (meth := k3m4) (c := k3c4) (by decide +kernel) rfl rfl rfl (by decide +kernel)
set_option maxRecDepth 65536 in
theorem w_c16 : (Jvm.Cond.code ({ cls := "com/example/partwise/partwise/CompactThrift", name := "size", desc := "()I" } : Jvm.MethodName) prog_27_method_13_code (1 : Nat) (Option.some Jvm.ClassFile.FieldType.int)).before args0 about1 = true := code_word (m := ⟨2, 6⟩) (meth := k2m6) (c := k2c6) (by decide +kernel) rfl rfl rfl (by decide +kernel)
set_option maxRecDepth 65536 in
theorem w_c17 : (Jvm.Cond.code ({ cls := "com/example/partwise/partwise/ByteBuilder", name := "length", desc := "()I" } : Jvm.MethodName) prog_1_method_6_code (1 : Nat) (Option.some Jvm.ClassFile.FieldType.int)).before args0 about1 = true := code_word (m := ⟨3, 3⟩) (meth := k3m3) (c := k3c3) (by decide +kernel) rfl rfl rfl (by decide +kernel)
set_option maxRecDepth 65536 in
theorem w_c18 : (Jvm.Cond.code ({ cls := "com/example/partwise/partwise/CompactThriftResetPinLaw", name := "varLen", desc := "(I)I" } : Jvm.MethodName) method_2_code (4 : Nat) (Option.some Jvm.ClassFile.FieldType.int)).before args0 about1 = true := code_word (m := ⟨1, 1⟩) (meth := k1m1) (c := k1c1) (by decide +kernel) rfl rfl rfl (by decide +kernel)
def codes1 : List Jvm.Cond := [Jvm.Cond.code x code maxLocals ret, Jvm.Cond.code ({ cls := "com/example/partwise/partwise/CompactThrift", name := "<init>", desc := "()V" } : Jvm.MethodName) prog_27_method_1_code (1 : Nat) (Option.none : Option Jvm.ClassFile.FieldType), Jvm.Cond.code ({ cls := "java/lang/Object", name := "<init>", desc := "()V" } : Jvm.MethodName) object_method_1_code (1 : Nat) (Option.none : Option Jvm.ClassFile.FieldType), Jvm.Cond.code ({ cls := "com/example/partwise/partwise/ByteBuilder", name := "<init>", desc := "(I)V" } : Jvm.MethodName) prog_1_method_1_code (2 : Nat) (Option.none : Option Jvm.ClassFile.FieldType), Jvm.Cond.code ({ cls := "com/example/partwise/partwise/CompactThrift", name := "i32", desc := "(II)V" } : Jvm.MethodName) prog_27_method_3_code (3 : Nat) (Option.none : Option Jvm.ClassFile.FieldType), Jvm.Cond.code ({ cls := "com/example/partwise/partwise/CompactThrift", name := "fieldHeader", desc := "(II)V" } : Jvm.MethodName) prog_27_method_15_code (4 : Nat) (Option.none : Option Jvm.ClassFile.FieldType), Jvm.Cond.code ({ cls := "com/example/partwise/partwise/ByteBuilder", name := "append", desc := "(I)V" } : Jvm.MethodName) prog_1_method_2_code (2 : Nat) (Option.none : Option Jvm.ClassFile.FieldType), Jvm.Cond.code ({ cls := "com/example/partwise/partwise/ByteBuilder", name := "reserve", desc := "(I)V" } : Jvm.MethodName) prog_1_method_10_code (2 : Nat) (Option.none : Option Jvm.ClassFile.FieldType), Jvm.Cond.code ({ cls := "com/example/partwise/partwise/CompactThrift", name := "i32Element", desc := "(I)V" } : Jvm.MethodName) prog_27_method_10_code (2 : Nat) (Option.none : Option Jvm.ClassFile.FieldType), Jvm.Cond.code ({ cls := "java/lang/Integer", name := "toUnsignedLong", desc := "(I)J" } : Jvm.MethodName) jdk_33_method_42_code (1 : Nat) (Option.some Jvm.ClassFile.FieldType.long), Jvm.Cond.code ({ cls := "com/example/partwise/partwise/ByteBuilder", name := "appendVarint", desc := "(J)V" } : Jvm.MethodName) prog_1_method_5_code (5 : Nat) (Option.none : Option Jvm.ClassFile.FieldType), Jvm.Cond.code ({ cls := "com/example/partwise/partwise/CompactThrift", name := "struct", desc := "(I)V" } : Jvm.MethodName) prog_27_method_7_code (2 : Nat) (Option.none : Option Jvm.ClassFile.FieldType), Jvm.Cond.code ({ cls := "com/example/partwise/partwise/CompactThrift", name := "enter", desc := "()V" } : Jvm.MethodName) prog_27_method_17_code (1 : Nat) (Option.none : Option Jvm.ClassFile.FieldType), Jvm.Cond.code ({ cls := "com/example/partwise/partwise/CompactThrift", name := "end", desc := "()V" } : Jvm.MethodName) prog_27_method_12_code (1 : Nat) (Option.none : Option Jvm.ClassFile.FieldType), Jvm.Cond.code ({ cls := "com/example/partwise/partwise/CompactThrift", name := "reset", desc := "()V" } : Jvm.MethodName) prog_27_method_2_code (1 : Nat) (Option.none : Option Jvm.ClassFile.FieldType), Jvm.Cond.code ({ cls := "com/example/partwise/partwise/ByteBuilder", name := "clear", desc := "()V" } : Jvm.MethodName) prog_1_method_9_code (1 : Nat) (Option.none : Option Jvm.ClassFile.FieldType), Jvm.Cond.code ({ cls := "com/example/partwise/partwise/CompactThrift", name := "size", desc := "()I" } : Jvm.MethodName) prog_27_method_13_code (1 : Nat) (Option.some Jvm.ClassFile.FieldType.int), Jvm.Cond.code ({ cls := "com/example/partwise/partwise/ByteBuilder", name := "length", desc := "()I" } : Jvm.MethodName) prog_1_method_6_code (1 : Nat) (Option.some Jvm.ClassFile.FieldType.int), Jvm.Cond.code ({ cls := "com/example/partwise/partwise/CompactThriftResetPinLaw", name := "varLen", desc := "(I)I" } : Jvm.MethodName) method_2_code (4 : Nat) (Option.some Jvm.ClassFile.FieldType.int)]
set_option maxRecDepth 65536 in
theorem codes_eq : words1.filter isCode = codes1 := rfl
theorem w_codes : ∀ c ∈ words1.filter isCode, c.before args0 about1 = true := by
  rw [codes_eq]
  intro c hc
  simp only [codes1, List.mem_cons, List.not_mem_nil, or_false] at hc
  rcases hc with rfl | rfl | rfl | rfl | rfl | rfl | rfl | rfl | rfl | rfl | rfl | rfl | rfl | rfl | rfl | rfl | rfl | rfl | rfl
  · exact w_c0
  · exact w_c1
  · exact w_c2
  · exact w_c3
  · exact w_c4
  · exact w_c5
  · exact w_c6
  · exact w_c7
  · exact w_c8
  · exact w_c9
  · exact w_c10
  · exact w_c11
  · exact w_c12
  · exact w_c13
  · exact w_c14
  · exact w_c15
  · exact w_c16
  · exact w_c17
  · exact w_c18
set_option maxRecDepth 65536 in
theorem w_t1 : (words1.take 24).all (fun c => isCode c || c.before args0 about1) = true := by decide +kernel
set_option maxRecDepth 65536 in
theorem w_t2 : ((words1.drop 24).take 24).all (fun c => isCode c || c.before args0 about1) = true := by decide +kernel
set_option maxRecDepth 65536 in
theorem w_t3 : (((words1.drop 24).drop 24).take 24).all (fun c => isCode c || c.before args0 about1) = true := by decide +kernel
set_option maxRecDepth 65536 in
theorem w_t4 : ((((words1.drop 24).drop 24).drop 24).take 24).all (fun c => isCode c || c.before args0 about1) = true := by decide +kernel
set_option maxRecDepth 65536 in
theorem w_t5 : ((((words1.drop 24).drop 24).drop 24).drop 24).all (fun c => isCode c || c.before args0 about1) = true := by decide +kernel
theorem w_tables : (allAtoms (Jvm.Cond.code x code maxLocals ret :: tables_1)).before args0 about1 = true := by
  rw [allAtoms_all]
  show words1.all (fun c => c.before args0 about1) = true
  refine all_split ?_ w_codes
  rw [← List.take_append_drop 24 words1, List.all_append, w_t1, ← List.take_append_drop 24 (words1.drop 24), List.all_append, w_t2, ← List.take_append_drop 24 ((words1.drop 24).drop 24), List.all_append, w_t3, ← List.take_append_drop 24 (((words1.drop 24).drop 24).drop 24), List.all_append, w_t4, w_t5]
  rfl
set_option maxRecDepth 65536 in
theorem w_case : (Jvm.Cond.and given_1 narrow_1).before args0 about1 = true := by decide +kernel
theorem w_applies : (headSpec (Jvm.Cond.code x code maxLocals ret :: tables_1) room_1).applies x e0.platform about1 = true :=
  (Spec.applies_iff w_frames).mpr ⟨w_running, w_runnable, w_alone, w_named, w_hears, w_ripe, w_room, w_tables⟩
theorem atStart : AtStart classFile x code maxLocals ret World_1 tables_1 room_1 Calls_1 rest_1 Pre_1 launch0 p0 e0 about1 theMethod args0 below0 :=
  ⟨lists_1, trivial, launch0.admits_env _ _ _, launch0.least_env, fairChoices_fair.cas, fairChoices_fair.clock, w_frames, w_args, w_heap, w_applies, trivial, trivial, w_case⟩
end start1
theorem witness_1 : WitnessClaimed_1 := ⟨start1.p0, start1.e0, start1.about1, start1.theMethod, start1.args0, start1.below0, start1.atStart⟩
end Jvm.Pilot.@@N@@
