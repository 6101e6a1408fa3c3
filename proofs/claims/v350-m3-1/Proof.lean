import JvmDerived
import JvmDerived.Pilot.@@N@@Statement
import JvmDerived.Pilot.@@N@@Code
@@BLOCK:LamKit.lean.txt@@
set_option linter.unusedVariables false
set_option linter.unusedSimpArgs false
namespace Jvm.Pilot.@@N@@
open Jvm Jvm.ClassFile Sem Op Lib Jvm.Free Jvm.Stand Jvm.LawKit Jvm.RoadKit Bundle Jvm.Pilot.@@N@@.Jvm.D
/-! what a body's walk owes, in the manner of a continuation -/
section Own
variable {p : Program} {l : Launch} {e : Env} {R : Room} {s : State} {m : MethodId} {args : Array Value} {below : List Frame} {meth : Method} {c : Code} {T T' : State} {locs : List Loc} {cells slots : Nat} {Q Q' : Option Value → Heap → List Loc → Prop}
abbrev OMet (l : Launch) (Z : State) (y : MethodName) (bytes : ByteArray) (maxL : Nat) (ret : Option FieldType) (ws : List Jvm.Cond) (rm : Room) (as : Array Value) (h0 : Heap) (Q : Option Value → Heap → List Loc → Prop) : Prop :=
  MetFree l y (head1 (Jvm.Cond.code y bytes maxL ret :: ws) rm) (fun a U => a = as ∧ Z.Warmed39 U.vm ∧ U.heap = h0) (fun _ _ _ _ _ => True) (fun _ U o U' => ∃ v L, o = .returned v ∧ Q v U'.heap L ∧ FrameEnd U o U' L rm.cells rm.slots)
def OG (p : Program) (e : Env) (R : Room) (s : State) (below : List Frame) (Q : Option Value → Heap → List Loc → Prop) (T : State) (g : JFrame) : Prop :=
  ∃ s₂ o, Steps p.tables e below (T.setTop g) s₂ ∧ s₂.status = .running ∧ Ended s₂ below o ∧ ∃ v L, o = .returned v ∧ Q v s₂.heap L ∧ FrameEnd s o s₂ L R.cells R.slots
theorem own_st {g g' : JFrame} (h : ∀ t, Steps p.tables e below (T'.setTop g') t → Steps p.tables e below (T.setTop g) t) (k : OG p e R s below Q T' g') : OG p e R s below Q T g := by
  obtain ⟨s₂, o, h1, h2⟩ := k
  exact ⟨s₂, o, h _ h1, h2⟩
theorem own_sp {g g' : JFrame} {t : State} (h : ∀ t, Steps p.tables e below (T'.setTop g') t → Steps p.tables e below (T.setTop g) t) (k : Steps p.tables e below (T'.setTop g') t) : Steps p.tables e below (T.setTop g) t := h _ k
theorem own_cast {g g' : JFrame} (q : g = g') (k : OG p e R s below Q T g') : OG p e R s below Q T g := q ▸ k
theorem own_irr {x : Int64} : ¬ x < x := Int64.lt_irrefl
theorem own_if0 {cd : ClassFile.Cond} {x : Int32} {b : Bool} (h : if_icmp.holds cd x 0 = b) : ifCond.holds cd x = b := by rw [if0]; exact h
theorem own_retZ (X : Stand p l e R s m args below meth c T locs cells slots) (hx : p.tables.exec = Jvm.exec) {t : FieldType} (hret : meth.sig.returnType = some t) (ht : t = .boolean ∨ t = .byte ∨ t = .char ∨ t = .short) (hlk : meth.locks = false) {pc : Nat} {Ls : Array Slot} {z : Int32} {rest : List Value}
    (hd : decode c.code pc = .ok (.ireturn, 1)) (hc : cells ≤ R.cells) (hs : slots ≤ R.slots) {w : Int32} (hn : nar t z = w) (hq : Q (some (.int w)) T.heap locs) : OG p e R s below Q T (mkF m pc Ls (.int z :: rest)) := by
  subst hn
  obtain ⟨fs, hr, hrun, hended, hW, hsame⟩ := X.leave (v := some (.int (nar t z))) (fun h => by rw [hret] at h; cases h) hlk
  exact ⟨_, _, retN X hx hret ht hd hr, hrun, hended, _, _, rfl, hq, ⟨_, rfl⟩, hW, hsame.mono hc hs⟩
theorem own_retV (X : Stand p l e R s m args below meth c T locs cells slots) (hx : p.tables.exec = Jvm.exec) {t : FieldType} {i : Instr} {w : Value} (hret : meth.sig.returnType = some t) (hn : narrow t w = w)
    (hi : (i = .ireturn ∧ (t = .int ∨ t = .boolean ∨ t = .byte ∨ t = .char ∨ t = .short) ∧ ∃ z, w = .int z) ∨ (i = .lreturn ∧ t = .long ∧ ∃ z, w = .long z) ∨ (i = .dreturn ∧ t = .double ∧ ∃ z, w = .double z) ∨ (i = .freturn ∧ t = .float ∧ ∃ z, w = .float z) ∨ (i = .areturn ∧ t.isReference = true ∧ w.isRef = true))
    (hlk : meth.locks = false) {pc : Nat} {Ls : Array Slot} {rest : List Value}
    (hd : decode c.code pc = .ok (i, 1)) (hc : cells ≤ R.cells) (hs : slots ≤ R.slots) (hq : Q (some w) T.heap locs) : OG p e R s below Q T (mkF m pc Ls (w :: rest)) := by
  obtain ⟨fs, hr, hrun, hended, hW, hsame⟩ := X.leave (v := some w) (fun h => by rw [hret] at h; cases h) hlk
  exact ⟨_, _, retOut X hx hret hn hi hd hr, hrun, hended, _, _, rfl, hq, ⟨_, rfl⟩, hW, hsame.mono hc hs⟩
theorem own_retI (X : Stand p l e R s m args below meth c T locs cells slots) (hx : p.tables.exec = Jvm.exec) (hret : meth.sig.returnType = some .int) (hlk : meth.locks = false) {pc : Nat} {Ls : Array Slot} {z : Int32} {rest : List Value}
    (hd : decode c.code pc = .ok (.ireturn, 1)) (hc : cells ≤ R.cells) (hs : slots ≤ R.slots) (hq : Q (some (.int z)) T.heap locs) : OG p e R s below Q T (mkF m pc Ls (.int z :: rest)) :=
  own_retV X hx hret rfl (Or.inl ⟨rfl, Or.inl rfl, _, rfl⟩) hlk hd hc hs hq
theorem own_retL (X : Stand p l e R s m args below meth c T locs cells slots) (hx : p.tables.exec = Jvm.exec) (hret : meth.sig.returnType = some .long) (hlk : meth.locks = false) {pc : Nat} {Ls : Array Slot} {z : Int64} {rest : List Value}
    (hd : decode c.code pc = .ok (.lreturn, 1)) (hc : cells ≤ R.cells) (hs : slots ≤ R.slots) (hq : Q (some (.long z)) T.heap locs) : OG p e R s below Q T (mkF m pc Ls (.long z :: rest)) :=
  own_retV X hx hret rfl (Or.inr (Or.inl ⟨rfl, rfl, _, rfl⟩)) hlk hd hc hs hq
theorem own_ret0 (X : Stand p l e R s m args below meth c T locs cells slots) (hx : p.tables.exec = Jvm.exec) (hret : meth.sig.returnType = none) (hlk : meth.locks = false) {pc : Nat} {Ls : Array Slot}
    (hd : decode c.code pc = .ok (.return_, 1)) (hc : cells ≤ R.cells) (hs : slots ≤ R.slots) (hq : Q none T.heap locs) : OG p e R s below Q T (mkF m pc Ls []) := by
  obtain ⟨fs, hr, hrun, hended, hW, hsame⟩ := X.leave (v := none) (fun _ => rfl) hlk
  exact ⟨_, _, X.returnOut hx hret hd hr, hrun, hended, _, _, rfl, hq, ⟨_, rfl⟩, hW, hsame.mono hc hs⟩
theorem own_enter {Z : State} {y : MethodName} {bytes : ByteArray} {maxL : Nat} {ret : Option FieldType} {ws : List Jvm.Cond} {rm : Room} {as : Array Value} {h0 : Heap} (hp : plainFor y = true)
    (body : ∀ (p : Program) (e : Env) (s : State) (m : MethodId) (below : List Frame) (meth : Method) (c : Code) (s₁ : State), p.tables.exec = Jvm.exec → c.code = bytes → c.maxLocals = maxL → s.vm.findClass y.cls = some m.cls → meth.sig.returnType = ret → meth.locks = false → meth.name = y.name → Z.Warmed39 s.vm →
      Stand p l e rm s m as below meth c s₁ [] 0 0 → s₁.heap = h0 → OG p e rm s below Q s₁ (entryFrame m as maxL)) : OMet l Z y bytes maxL ret ws rm as h0 Q := by
  refine MetFree.of_bodySF hp hisR ?_
  intro p e s m args below meth c s₁ Bd hml0 hP hK
  obtain ⟨rfl, hZ, hh⟩ := hP
  exact body p e s m below meth c s₁ Bd.exec Bd.bytes hml0 (findClass_of_methodNamed Bd.named) Bd.returns Bd.notSynchronized (name_of_methodNamed Bd.named Bd.method).1 hZ (Stand.of_body Bd) (by rw [← hh, Bd.state]; rfl)
end Own
/-! the lambda: its site, its object, the call of it -/
section OwnL
open Jvm.LamKit
variable {p : Program} {l : Launch} {e : Env} {R : Room} {s : State} {m : MethodId} {args : Array Value} {below : List Frame} {meth : Method} {c : Code} {T Z : State} {locs : List Loc} {cells slots : Nat} {h h' : Heap} {a b : Addr} {cK : ClassId} {ws : List Addr}
def sig0 : Lambda.Shape := Lambda.Shape.mk "java/util/function/IntUnaryOperator" "applyAsInt" (MethodDescriptor.mk ([FieldType.int] : List FieldType) (Option.some FieldType.int)) ([] : List FieldType) 6 "com/example/fragmark/fragmark/PhraseTerm" "lambda$startPicking$0" (MethodDescriptor.mk ([FieldType.int] : List FieldType) (Option.some FieldType.int)) false (MethodDescriptor.mk ([FieldType.int] : List FieldType) (Option.some FieldType.int))
def fcode0 : ByteArray := ⟨#[0x1b, 0xb8, 0x00, 0x11, 0xac]⟩
abbrev ySP : MethodName := ⟨"com/example/fragmark/fragmark/PhraseTerm", "startPicking", "()V"⟩
abbrev yLa : MethodName := ⟨"com/example/fragmark/fragmark/PhraseTerm", "lambda$startPicking$0", "(I)I"⟩
abbrev yAp : MethodName := ⟨"java/util/function/IntUnaryOperator", "applyAsInt", "(I)I"⟩
theorem own_fwd : fwdOK sig0 "com/example/fragmark/fragmark/PhraseTerm" fcode0 2 (some .int) 17 14 = true := by decide +kernel
/-- the site is linked to the object at a, whose class is cK's -/
def OSite (Z : State) (a : Addr) (cK : ClassId) : Prop := Z.lambdaAt? ySP 26 112 sig0 = some (cK, some a)
def OF (Z : State) (h : Heap) (a : Addr) (cK : ClassId) : Prop := FnAt h a cK
theorem OF.lt (F : OF Z h a cK) : a < h.size := by obtain ⟨c, q, -⟩ := F; exact (Array.getElem?_eq_some_iff.mp q).1
theorem OF.ext (F : OF Z h a cK) (E : Ext h h') : OF Z h' a cK := by obtain ⟨c, q, r⟩ := F; exact ⟨c, E.2 _ _ q, r⟩
theorem OF.keep (F : OF Z h a cK) (K : Keep h h' ws) : OF Z h' a cK := by
  obtain ⟨c, q, r1, r2⟩ := F
  obtain ⟨c', q', e1, e2, -⟩ := K.2.2 a c q
  exact ⟨c', q', e1.trans r1, e2.trans r2⟩
theorem OF.wr {sl : Nat} {v : Value} (F : OF Z h a cK) (W : Wr h h' b sl v) : OF Z h' a cK := F.keep (Keep.of_wr W)
/-- the site's word, at the start -/
theorem own_site {a0 : Array Value} (hs : (Jvm.Cond.lambdaSite ySP 26 112 sig0).before a0 Z = true) : ∃ (a : Addr) (cK : ClassId), OSite Z a cK ∧ OF Z Z.heap a cK := by
  obtain ⟨cK, one, hat⟩ := Cond.lambdaSite_spec hs
  obtain ⟨_, _, _, _, _, _, _, _, _, _, _, _, _, _, hl⟩ := State.lambdaAt?_spec hat
  rcases hl with ⟨a, cell, -, rfl, -, hcell, hcls, hvm, -⟩ | ⟨-, -, hne⟩
  · exact ⟨a, cK, hat, cell, hcell, hcls, hvm⟩
  · exact absurd rfl hne
theorem own_ob2 {α : Type} {o o' : Option α} {f g : α → Option Bool} (k : ∀ x, o = some x → ∃ y, o' = some y ∧ ((f x).getD false = true → (g y).getD false = true)) : (o.bind f).getD false = true → (o'.bind g).getD false = true := by
  intro h
  cases o with
  | none => cases h
  | some x => obtain ⟨y, rfl, r⟩ := k x rfl; exact r h
theorem own_ob {α : Type} {o : Option α} {f g : α → Option Bool} (k : ∀ x, o = some x → ((f x).getD false = true → (g x).getD false = true)) : (o.bind f).getD false = true → (o.bind g).getD false = true := own_ob2 fun x q => ⟨x, q, k x q⟩
/-- a class that the rule has made stays one, where Strings come to be interned -/
theorem own_made {vm : Vm} {d : ClassId} {σ : Lambda.Shape} (hW : Z.Warmed39 vm) (h : Lambda.isMade { classPath := fun _ => none } Z.vm d σ cK = true) : Lambda.isMade { classPath := fun _ => none } vm d σ cK = true := by
  have hA := hW.alike
  unfold Lambda.isMade at h ⊢
  cases hd : Z.vm.classes[d]? with
  | none => rw [hd] at h; cases h
  | some dk =>
  cases hk : Z.vm.classes[cK]? with
  | none => rw [hd, hk] at h; cases h
  | some k =>
  obtain ⟨dk', hd', ed⟩ := hA.2.2 _ _ hd
  obtain ⟨k', hk', ek, -, hres, -⟩ := hW.2.2.2 _ _ hk
  have hr : ∀ i r, k.resolved[i]? = some (some r) → k'.resolved[i]? = some (some r) := fun i r q => by
    rcases hres i with u | ⟨u, -⟩
    · exact u.trans q
    · rw [q] at u; cases u
  rw [hd, hk] at h
  rw [hd', hk']
  generalize k'.resolved = R' at ek hr
  generalize k'.nestHost = N' at ek
  generalize k'.nestHostError = E' at ek
  generalize dk'.resolved = R2 at ed
  generalize dk'.nestHost = N2 at ed
  generalize dk'.nestHostError = E2 at ed
  subst ek ed
  simp only [Option.bind_eq_bind, Option.bind_some, hA.findClass, Lambda.resolvedOf_alike hA, Lambda.methodIn_ask_alike hA, hA.selectMethod] at h ⊢
  revert h
  refine own_ob fun file _ => own_ob fun cf _ => own_ob fun ob _ => own_ob fun ifc _ => own_ob2 fun ok hok => ?_
  obtain ⟨ok', hok', eo⟩ := hA.2.2 _ _ hok
  refine ⟨ok', hok', ?_⟩
  have ei : ok'.instanceTypes = ok.instanceTypes := by rw [eo]
  rw [ei]
  refine own_ob fun lay _ => own_ob fun ms _ => own_ob fun t _ => own_ob2 fun tk htk => ?_
  obtain ⟨tk', htk', et⟩ := hA.2.2 _ _ htk
  refine ⟨tk', htk', ?_⟩
  have ef : tk'.isInterface = tk.isInterface := by rw [et]; rfl
  rw [ef]
  split
  · split
    · simp only [Option.pure_def, Option.getD_some, Bool.and_eq_true]
      refine fun q => ⟨⟨q.1.1, ?_⟩, q.2⟩
      rw [List.all_eq_true]
      intro y hy
      have z := List.all_eq_true.mp q.1.2 y hy
      obtain ⟨x, i⟩ := y
      cases x with
      | none => rfl
      | some r => simp only [Option.isNone_some, Bool.false_or, decide_eq_true_eq] at z ⊢; exact hr i r z
    · exact id
  · exact id
/-- the site's step -/
theorem own_indy (X : Stand p l e R s m args below meth c T locs cells slots) (hx : p.tables.exec = Jvm.exec) (hZ : Z.Warmed39 s.vm) (hn : s.methodNamed? ySP = some m) (hS : OSite Z a cK) {g : JFrame} (hg : g.method = m) (hpc : g.pc = 26) (hsize : g.locals.size = c.maxLocals)
    (hdg : decode c.code g.pc = .ok (.invokedynamic 112, 5)) (hwords : 2 * g.monitorRoom + (g.stack.map fun v => v.category).sum + 3072 ≤ R.locals) : ∀ t, Steps p.tables e below (T.setTop { g with pc := g.pc + 5, stack := .ref a :: g.stack }) t → Steps p.tables e below (T.setTop g) t := by
  obtain ⟨mD, kD, _, i0, p0, lk, hmD, hkD, _, _, _, hfind, _, _, hl⟩ := State.lambdaAt?_spec hS
  have hm : s.methodNamed? ySP = some mD := by
    have q := State.methodNamed?_setVm (s := Z) hZ.alike ySP
    rw [hmD] at q
    exact q
  cases hn.symm.trans hm
  obtain ⟨k', hk', ek⟩ := hZ.alike.2.2 _ _ hkD
  rcases hl with ⟨b, cell, rfl, hb, -⟩ | ⟨-, h, -⟩
  · cases hb
    intro t h
    refine X.lambdaConstant hx hg hsize hdg hk' (i0 := i0) (p0 := p0) (a := a) ?_ ?_ h
    · rw [hpc, ek]; exact hfind
    · rw [show e.platform.lambdaLinkWords = 3072 by rw [X.admits.platform]]; exact hwords
  · cases h
theorem own_Made (hZ : Z.Warmed39 s.vm) (hS : OSite Z a cK) : Jvm.LamKit.Made s "com/example/fragmark/fragmark/PhraseTerm" sig0 cK := by
  obtain ⟨mD, kD, _, i0, p0, lk, hmD, hkD, _, _, _, _, hmade, hcan, _⟩ := State.lambdaAt?_spec hS
  obtain ⟨kD', hkD', hnameD⟩ := className_of_methodNamed hmD
  cases hkD.symm.trans hkD'
  have hA := hZ.alike
  obtain ⟨k', hk', ek⟩ := hA.2.2 _ _ hkD
  refine ⟨mD.cls, k', hk', by rw [ek]; exact hnameD, own_made hZ hmade, ?_⟩
  simp only [State.lambdaCallable, hA.findClass, hA.assignable, hA.superclasses, hA.declaredIn] at hcan ⊢
  exact hcan
theorem own_dI : decode fcode0 1 = .ok (.invokestatic 17, 3) := by decide +kernel
theorem own_dR : decode fcode0 (1 + 3) = .ok (.ireturn, 1) := by decide +kernel
theorem own_d0 : decode fcode0 0 = .ok (.iload_n 1, 1) := by decide +kernel
theorem own_pdI : parseMethodDescriptor "(I)I" = some ⟨[.int], some .int⟩ := by decide +kernel
/-- the object's method is called: it gives what the lambda's body gives -/
theorem own_lam (X : Stand p l e R s m args below meth c T locs cells slots) (hx : p.tables.exec = Jvm.exec) (hZ : Z.Warmed39 s.vm) {a0 : Array Value} {own : String} {index count : Nat} (hown : s.vm.findClass own = some m.cls) {bytes : ByteArray}
    (wl : (Jvm.Cond.methodLink own index yAp).before a0 Z = true) (wd : (Jvm.Cond.declares yAp).before a0 Z = true) (wf : (Jvm.Cond.interfaceMethod yAp.cls yAp.cls yAp.name yAp.desc).before a0 Z = true)
    (wc : (Jvm.Cond.code yLa bytes 1 (some .int)).before a0 Z = true) (wst : (Jvm.Cond.static yLa).before a0 Z = true) (wi : (Jvm.Cond.initialized yLa.cls).before a0 Z = true) (hS : OSite Z a cK) {h : Heap} (eT : T.heap = h) (hF : OF Z h a cK) {z w : Int32}
    (hM : OMet l Z yLa bytes 1 (some .int) [] ({ frames := 0, cells := 0, slots := 0, locals := 0 } : Room) #[.int z] h (fun v h1 L => v = some (.int w) ∧ L = [] ∧ h1 = h))
    {pc : Nat} {Ls : Array Slot} (hsize : Ls.size = c.maxLocals) {rest : List Value} (hdg : decode c.code pc = .ok (.invokeinterface index count, 5)) (hfr : 2 ≤ R.frames) {W : Nat} (hW : (rest.map fun v => v.category).sum = W) (hlo : W + 25 ≤ R.locals) (hc : cells ≤ R.cells) (hs : slots ≤ R.slots) :
    ∃ T' : State, Stand p l e R s m args below meth c T' locs cells slots ∧ T'.heap = h ∧ ∀ t, Steps p.tables e below (T'.setTop (mkF m (pc + 5) Ls (.int w :: rest))) t → Steps p.tables e below (T.setTop (mkF m pc Ls (.int z :: .ref a :: rest))) t := by
  subst eT
  have hM' : Met l yLa [Jvm.Cond.code yLa bytes 1 (some .int)] ({ frames := 0, cells := 0, slots := 0, locals := 0 } : Room) (fun a' U => a' = #[.int z] ∧ Z.Warmed39 U.vm ∧ U.heap = T.heap) (fun _ _ o t => o = .returned (some (.int w)) ∧ t.heap = T.heap) 0 0 (fun _ => False) := by
    intro p e ha hc hk s m args below hf happ hP hK
    obtain ⟨n, o, h1, h2, h3, v, L, ho, ⟨hv, hL, hh⟩, hq⟩ := hM p e ha hc hk s m args below hf happ hP hK
    subst hv hL
    exact ⟨n, o, h1, h2, h3, ⟨ho, hh⟩, [], hq, fun q hq => by cases hq⟩
  obtain ⟨v, st, t, T', L, X', hL, e1, -, ⟨hv, ht⟩, hsteps⟩ := callLamS X hx (own := own) (host := "com/example/fragmark/fragmark/PhraseTerm") (xi := yAp) (y := yLa) (σ := sig0) hM' (fun _ _ _ _ h => h) rfl rfl
    (fun w hw a' U hU => by cases List.mem_singleton.mp hw; exact mvT (State.Warmed39.trans hZ hU.wide) wc) (List.mem_singleton.mpr rfl) hown (mvT hZ wl) (mvT hZ wd) (mvT hZ wf) (mvT hZ wc) (mvT hZ wst) (mvT hZ wi) ⟨rfl, rfl, by decide +kernel⟩ ⟨rfl, rfl, by decide +kernel⟩ ⟨by decide, by decide⟩
    (own_Made hZ hS) hF own_fwd own_dI own_dR (g := mkF m pc Ls (.int z :: .ref a :: rest)) rfl hsize (argsL := [.int z]) (argsT := [.int z]) (rest := rest) (L0 := #[.val (.ref a), .val (.int z)])
    (fun sig q => by cases own_pdI.symm.trans q; rfl) (fun sig q => by cases own_pdI.symm.trans q; rfl) rfl hdg (fun mk => by first | rfl | simp [entryFrame, argsToLocals, Value.category]) rfl
    (fun U ck bl target hU hck _ _ k => Jvm.Free.XS.iloadN (g := mkF ⟨cK, 1⟩ 0 #[.val (.ref a), .val (.int z)] []) hU hx rfl (hb hck own_d0) rfl k)
    (fun _ v _ q => Or.inl ⟨.int, w, rfl, Or.inl rfl, rfl, rfl, by cases q.1; rfl⟩) hfr (by rw [hW]; show 2 * 0 + W + 13 + 12 ≤ _; omega) (by omega) (by omega) (fun U hU hh => ⟨rfl, State.Warmed39.trans hZ hU.wide, hh⟩)
  have hL0 : L = [] := by
    cases L with
    | nil => rfl
    | cons q r => exact (hL q List.mem_cons_self).elim
  subst hL0
  cases hv
  exact ⟨T', by simpa using X', e1.trans ht, hsteps⟩
theorem own_enterN {Q : Option Value → Heap → List Loc → Prop} {y : MethodName} {bytes : ByteArray} {maxL : Nat} {ret : Option FieldType} {ws : List Jvm.Cond} {rm : Room} {as : Array Value} {h0 : Heap} (hp : plainFor y = true)
    (body : ∀ (p : Program) (e : Env) (s : State) (m : MethodId) (below : List Frame) (meth : Method) (c : Code) (s₁ : State), p.tables.exec = Jvm.exec → c.code = bytes → c.maxLocals = maxL → s.vm.findClass y.cls = some m.cls → meth.sig.returnType = ret → meth.locks = false → meth.name = y.name → s.methodNamed? y = some m → Z.Warmed39 s.vm →
      Stand p l e rm s m as below meth c s₁ [] 0 0 → s₁.heap = h0 → OG p e rm s below Q s₁ (entryFrame m as maxL)) : OMet l Z y bytes maxL ret ws rm as h0 Q := by
  refine MetFree.of_bodySF hp hisR ?_
  intro p e s m args below meth c s₁ Bd hml0 hP hK
  obtain ⟨rfl, hZ, hh⟩ := hP
  exact body p e s m below meth c s₁ Bd.exec Bd.bytes hml0 (findClass_of_methodNamed Bd.named) Bd.returns Bd.notSynchronized (name_of_methodNamed Bd.named Bd.method).1 Bd.named hZ (Stand.of_body Bd) (by rw [← hh, Bd.state]; rfl)
theorem own_mono {Q Q' : Option Value → Heap → List Loc → Prop} {y : MethodName} {bytes : ByteArray} {maxL : Nat} {ret : Option FieldType} {ws : List Jvm.Cond} {rm : Room} {as : Array Value} {h0 : Heap} (h : OMet l Z y bytes maxL ret ws rm as h0 Q) (k : ∀ v h L, Q v h L → Q' v h L) : OMet l Z y bytes maxL ret ws rm as h0 Q' := by
  intro p e ha hc hk s m args below hf happ hP hK
  obtain ⟨n, o, h1, h2, h3, v, L, ho, q, r⟩ := h p e ha hc hk s m args below hf happ hP hK
  exact ⟨n, o, h1, h2, h3, v, L, ho, k _ _ _ q, r⟩
end OwnL
section OwnH
variable {Z : State} {h h' h0 : Heap} {a b : Addr} {ty : FieldType} {vs : List Value} {n sl : Nat} {v : Value} {ws : List Addr}
/-- an array, by the whole list of what it holds -/
def OA (Z : State) (h : Heap) (a : Addr) (ty : FieldType) (vs : List Value) : Prop := ∃ c : Cell, Arr Z h a c ty ∧ c.slots.toList = vs
/-- an array, by its length alone -/
def OL (Z : State) (h : Heap) (a : Addr) (ty : FieldType) (n : Nat) : Prop := ∃ c : Cell, Arr Z h a c ty ∧ c.slots.size = n
theorem OA.lt (F : OA Z h a ty vs) : a < h.size := by obtain ⟨c, A, -⟩ := F; exact A.lt
theorem OL.lt (F : OL Z h a ty n) : a < h.size := by obtain ⟨c, A, -⟩ := F; exact A.lt
theorem OA.ext (F : OA Z h a ty vs) (E : Ext h h') : OA Z h' a ty vs := by obtain ⟨c, A, r⟩ := F; exact ⟨c, A.ext E, r⟩
theorem OL.ext (F : OL Z h a ty n) (E : Ext h h') : OL Z h' a ty n := by obtain ⟨c, A, r⟩ := F; exact ⟨c, A.ext E, r⟩
theorem OA.other (F : OA Z h b ty vs) (W : Wr h h' a sl v) (q : b ≠ a) : OA Z h' b ty vs := by obtain ⟨c, A, r⟩ := F; exact ⟨c, A.other W q, r⟩
theorem OL.other (F : OL Z h b ty n) (W : Wr h h' a sl v) (q : b ≠ a) : OL Z h' b ty n := by obtain ⟨c, A, r⟩ := F; exact ⟨c, A.other W q, r⟩
theorem OA.keep (F : OA Z h a ty vs) (K : Keep h h' ws) (q : a ∉ ws) : OA Z h' a ty vs := by obtain ⟨c, A, r⟩ := F; exact ⟨c, ⟨K.2.1 a c A.1 q, A.2⟩, r⟩
theorem OL.keep (F : OL Z h a ty n) (K : Keep h h' ws) (q : a ∉ ws) : OL Z h' a ty n := by obtain ⟨c, A, r⟩ := F; exact ⟨c, ⟨K.2.1 a c A.1 q, A.2⟩, r⟩
theorem OA.new {k : ClassId} {z : Int32} (A : Arr Z h a (newA k ty z) ty) : OA Z h a ty (List.replicate z.toNatClampNeg (defaultValue ty)) := ⟨_, A, by show (Array.replicate _ _).toList = _; exact Array.toList_replicate⟩
theorem OL.new {k : ClassId} {z : Int32} (A : Arr Z h a (newA k ty z) ty) : OL Z h a ty z.toNatClampNeg := ⟨_, A, sz_new _ _ _⟩
theorem OA.len (F : OA Z h a ty vs) : ∃ c : Cell, Arr Z h a c ty ∧ c.slots.size = vs.length := by obtain ⟨c, A, r⟩ := F; exact ⟨c, A, by rw [← r]; simp⟩
theorem OA.set {j : Int32} {i : Nat} (F : OA Z h a ty vs) (W : Wr h h' a j.toNatClampNeg v) (hj : j.toNatClampNeg = i) : OA Z h' a ty (vs.set i v) := by
  obtain ⟨c, A, r⟩ := F
  refine ⟨_, A.same W, ?_⟩
  subst hj r
  show (c.slots.setIfInBounds _ _).toList = _
  exact Array.toList_setIfInBounds
theorem OL.set {j : Int32} (F : OL Z h a ty n) (W : Wr h h' a j.toNatClampNeg v) : OL Z h' a ty n := by
  obtain ⟨c, A, r⟩ := F
  exact ⟨_, A.same W, by rw [sz_set]; exact r⟩
theorem own_rd (F : OA Z h a ty vs) {j : Int32} {i : Nat} (hj : j.toNatClampNeg = i) (hn : ¬ j < 0) (hv : vs[i]? = some v) : ∃ c : Cell, Arr Z h a c ty ∧ ¬ (j < 0 ∨ c.slots.size ≤ j.toNatClampNeg) ∧ c.slots[j.toNatClampNeg]? = some v := by
  obtain ⟨c, A, r⟩ := F
  subst hj r
  rw [Array.getElem?_toList] at hv
  refine ⟨c, A, fun q => ?_, hv⟩
  rcases q with q | q
  · exact hn q
  · have := (Array.getElem?_eq_some_iff.mp hv).1; omega
theorem own_wr (F : OA Z h a ty vs) {j : Int32} {i : Nat} (hj : j.toNatClampNeg = i) (hn : ¬ j < 0) (hi : i < vs.length) : ∃ c : Cell, Arr Z h a c ty ∧ ¬ (j < 0 ∨ c.slots.size ≤ j.toNatClampNeg) := by
  obtain ⟨c, A, r⟩ := F
  subst hj r
  rw [Array.length_toList] at hi
  refine ⟨c, A, fun q => ?_⟩
  rcases q with q | q
  · exact hn q
  · omega
theorem own_wrL (F : OL Z h a ty n) {j : Int32} (hj : ¬ j < 0 ∧ j.toNatClampNeg < n) : ∃ c : Cell, Arr Z h a c ty ∧ ¬ (j < 0 ∨ c.slots.size ≤ j.toNatClampNeg) := by
  obtain ⟨c, A, r⟩ := F
  subst r
  exact ⟨c, A, fun q => by rcases q with q | q; exact hj.1 q; omega⟩
theorem own_acN {x y : Addr} (h : x ≠ y) : if_acmp.holds .ne (some x) (some y) = true ∧ if_acmp.holds .eq (some x) (some y) = false := by simp [if_acmp.holds, h]
theorem own_plE {C : String} (E : Exa Z h a C) : ∀ cell : Cell, h[a]? = some cell → cell.vm.isStatics = false := fun cell q => by obtain ⟨c, k, h1, -, -, h4, -⟩ := E; cases h1.symm.trans q; exact h4
theorem own_plA (F : OA Z h a ty vs) : ∀ cell : Cell, h[a]? = some cell → cell.vm.isStatics = false := fun cell q => by obtain ⟨c, A, -⟩ := F; cases A.1.symm.trans q; exact A.plain
theorem own_plL (F : OL Z h a ty n) : ∀ cell : Cell, h[a]? = some cell → cell.vm.isStatics = false := fun cell q => by obtain ⟨c, A, -⟩ := F; cases A.1.symm.trans q; exact A.plain
theorem own_staK {C f d : String} {w : Value} (F : Sta Z h C f d w) (K : Keep h h' ws) (hp : ∀ x ∈ ws, ∀ cell : Cell, h[x]? = some cell → cell.vm.isStatics = false) : Sta Z h' C f d w := by
  obtain ⟨cf, i, k, g, st, cell, h1, h2, h3, h4, h5, h6, h7⟩ := F
  exact ⟨cf, i, k, g, st, cell, h1, h2, h3, h4, K.2.1 st cell h5 (fun q => by rw [hp st q cell h5] at h6; cases h6), h6, h7⟩
theorem own_selp {s : State} {y : MethodName} {a0 args : Array Value} {k : Nat} (hZ : Z.Warmed39 s.vm) (wi : (Jvm.Cond.instantiable y.cls k).before a0 Z = true) (wp : (Jvm.Cond.privateMethod y).before a0 Z = true) (wm : (Jvm.Cond.instanceMethod y).before a0 Z = true) (hy : y.cls ≠ "java/lang/invoke/MethodHandle" ∧ y.cls ≠ "java/lang/invoke/VarHandle") : (Jvm.Cond.selects y.cls y y).before args s = true := by
  have wi' : (Jvm.Cond.instantiable y.cls k).before args s = true := mv hZ wi
  obtain ⟨c, kc, i1, i2, -, i4, -⟩ := Cond.instantiable_spec wi'
  exact selects_self_of_private i1 i2 (Bool.or_eq_false_iff.mp i4).1 (Cond.privateMethod_at (mvP hZ wp (args := args))) (mvT hZ wm) hy
theorem own_all0 {P : Addr → Prop} : ∀ x ∈ ([] : List Addr), P x := fun x hx => by cases hx
theorem own_all1 {P : Addr → Prop} {a : Addr} (h : P a) : ∀ x ∈ [a], P x := fun x hx => by simp only [List.mem_cons, List.not_mem_nil, or_false] at hx; subst hx; exact h
theorem own_all2 {P : Addr → Prop} {a b : Addr} (h : P a) (h2 : P b) : ∀ x ∈ [a, b], P x := fun x hx => by
  simp only [List.mem_cons, List.not_mem_nil, or_false] at hx; rcases hx with rfl | rfl; exact h; exact h2
theorem own_all3 {P : Addr → Prop} {a b c : Addr} (h : P a) (h2 : P b) (h3 : P c) : ∀ x ∈ [a, b, c], P x := fun x hx => by
  simp only [List.mem_cons, List.not_mem_nil, or_false] at hx; rcases hx with rfl | rfl | rfl; exact h; exact h2; exact h3
theorem own_all4 {P : Addr → Prop} {a b c d : Addr} (h : P a) (h2 : P b) (h3 : P c) (h4 : P d) : ∀ x ∈ [a, b, c, d], P x := fun x hx => by
  simp only [List.mem_cons, List.not_mem_nil, or_false] at hx; rcases hx with rfl | rfl | rfl | rfl; exact h; exact h2; exact h3; exact h4
theorem own_nin0 {x : Addr} : x ∉ ([] : List Addr) := List.not_mem_nil
theorem own_nin1 {x a : Addr} (h : x ≠ a) : x ∉ [a] := by simp [h]
theorem own_nin2 {x a b : Addr} (h : x ≠ a) (h2 : x ≠ b) : x ∉ [a, b] := by simp [h, h2]
theorem own_nin3 {x a b c : Addr} (h : x ≠ a) (h2 : x ≠ b) (h3 : x ≠ c) : x ∉ [a, b, c] := by simp [h, h2, h3]
theorem own_nin4 {x a b c d : Addr} (h : x ≠ a) (h2 : x ≠ b) (h3 : x ≠ c) (h4 : x ≠ d) : x ∉ [a, b, c, d] := by simp [h, h2, h3, h4]
end OwnH
section OwnS
variable {p : Program} {l : Launch} {e : Env} {R : Room} {s : State} {m : MethodId} {args : Array Value} {below : List Frame} {meth : Method} {c : Code} {T T' Z : State} {locs : List Loc} {cells slots : Nat} {Q Q' : Option Value → Heap → List Loc → Prop} {EL : List (String × Nat)} {vm : Vm} {k0 : Nat} {h h0 : Heap}
abbrev OMetS (l : Launch) (Z : State) (EL : List (String × Nat)) (y : MethodName) (bytes : ByteArray) (maxL : Nat) (ret : Option FieldType) (ws : List Jvm.Cond) (rm : Room) (as : Array Value) (h0 : Heap) (Q : Option Value → Heap → List Loc → Prop) : Prop :=
  MetFree l y (head1 (Jvm.Cond.code y bytes maxL ret :: ws) rm) (fun a U => a = as ∧ Z.Warmed39 U.vm ∧ U.heap = h0 ∧ CHv Z EL U.vm h0) (fun _ _ _ _ _ => True) (fun _ U o U' => ∃ v L, o = .returned v ∧ Q v U'.heap L ∧ CHr Z EL U.vm U.heap U'.vm U'.heap ∧ ReturnedEndW U o U' L rm.cells rm.slots)
def OGS (Z : State) (EL : List (String × Nat)) (p : Program) (e : Env) (R : Room) (s : State) (below : List Frame) (Q : Option Value → Heap → List Loc → Prop) (T : State) (g : JFrame) : Prop :=
  ∃ s₂ o, Steps p.tables e below (T.setTop g) s₂ ∧ s₂.status = .running ∧ Ended s₂ below o ∧ ∃ v L, o = .returned v ∧ Q v s₂.heap L ∧ CHr Z EL s.vm s.heap s₂.vm s₂.heap ∧ ReturnedEndW s o s₂ L R.cells R.slots
theorem own_stS {g g' : JFrame} (h : ∀ t, Steps p.tables e below (T'.setTop g') t → Steps p.tables e below (T.setTop g) t) (k : OGS Z EL p e R s below Q T' g') : OGS Z EL p e R s below Q T g := by
  obtain ⟨s₂, o, h1, h2⟩ := k
  exact ⟨s₂, o, h _ h1, h2⟩
theorem own_castS {g g' : JFrame} (q : g = g') (k : OGS Z EL p e R s below Q T g') : OGS Z EL p e R s below Q T g := q ▸ k
theorem own_endS (X : Stand p l e R (s.setVm vm) m args below meth c T locs cells slots) (hlk : meth.locks = false) (hZ : Z.Warmed39 vm) (hEL : EW Z a0 EL) (eT : T.heap = h) (hs0 : s.heap = h0) (hS : s.Since vm k0) (hk : k0 ≤ h.size) (CH : CHv Z EL vm h) (CR : CHr Z EL s.vm h0 vm h) {v : Option Value} (hv : meth.sig.returnType = none → v = none) (hc : cells ≤ R.cells) (hs : slots ≤ R.slots) (hq : Q v h locs)
    {g : JFrame} (k : ∀ fs, (∀ (f : JFrame) (acts : List Action), f.method = m → f.locked = none → f.entered = [] → (doReturn e (T.setTop f) acts v).1 = T.setFrames fs) → Steps p.tables e below (T.setTop g) (T.setFrames fs)) : OGS Z EL p e R s below Q T g := by
  obtain ⟨fs, hr, hrun, hended, hW, hsame⟩ := X.leave (v := v) hv hlk
  subst eT
  have hC := CHr.trans CR (CHv.at X hZ hEL CH)
  rw [← hs0] at hC
  obtain ⟨r1, r2, r3⟩ := hS.ended (U := T.setFrames fs) hW hk hsame
  exact ⟨_, _, k fs hr, hrun, hended, _, _, rfl, hq, hC, ⟨_, rfl⟩, r1, r2, r3.mono hc hs⟩
theorem own_enterS {y : MethodName} {bytes : ByteArray} {maxL : Nat} {ret : Option FieldType} {ws : List Jvm.Cond} {rm : Room} {as : Array Value} (hp : plainFor y = true)
    (body : ∀ (p : Program) (e : Env) (s : State) (m : MethodId) (below : List Frame) (meth : Method) (c : Code) (s₁ : State), p.tables.exec = Jvm.exec → c.code = bytes → c.maxLocals = maxL → s.vm.findClass y.cls = some m.cls → meth.sig.returnType = ret → meth.locks = false → meth.name = y.name → Z.Warmed39 s.vm →
      Stand p l e rm (s.setVm s.vm) m as below meth c s₁ [] 0 0 → s₁.heap = h0 → s.heap = h0 → CHv Z EL s.vm h0 → OGS Z EL p e rm s below Q s₁ (entryFrame m as maxL)) : OMetS l Z EL y bytes maxL ret ws rm as h0 Q := by
  refine MetFree.of_bodySF hp hisR ?_
  intro p e s m args below meth c s₁ Bd hml0 hP hK
  obtain ⟨rfl, hZ, hh, hC⟩ := hP
  exact body p e s m below meth c s₁ Bd.exec Bd.bytes hml0 (findClass_of_methodNamed Bd.named) Bd.returns Bd.notSynchronized (name_of_methodNamed Bd.named Bd.method).1 hZ (Stand.of_body Bd) (by rw [← hh, Bd.state]; rfl) hh hC
theorem own_safeA {ty : FieldType} {x : Addr} {vs : List Value} (hal : Z.vm.Alike vm) (F : OA Z h x ty vs) (ht : ty ≠ .byte) : Safe Z EL vm h x := by obtain ⟨c, A, -⟩ := F; exact Safe.arr hal A ht
theorem own_oaV {b : Addr} {kc : ClassId} {z : Int32} {vs : List Value} {d : Value} (F : Arv Z h b kc .byte z vs d) (hl : z.toNatClampNeg = vs.length := by decide) : OA Z h b .byte vs := by
  obtain ⟨c, A, -, S, -, H, -⟩ := F
  refine ⟨c, A, List.ext_getElem? fun i => ?_⟩
  rw [Array.getElem?_toList]
  by_cases q : i < c.slots.size
  · rw [H i q, List.getD_eq_getElem?_getD, List.getElem?_eq_getElem (by omega)]; rfl
  · rw [Array.getElem?_eq_none (by omega), List.getElem?_eq_none (by omega)]
theorem own_raw {x : Addr} (hal : Z.vm.Alike vm) (E : Exa Z h x "java/lang/String") (F : Fld Z h x "java/lang/String" "value" "[B" .null) : Safe Z EL vm h x := fun B => by
  obtain ⟨p, hp, u, a, hb, q, hq, G, hx⟩ := B
  rcases hx with rfl | rfl
  · obtain ⟨cS, ⟨⟨s1, s2, s3, ⟨cv, kv, iv, s4, s4'⟩, -, s6, s7, s8, -⟩, -⟩, -⟩ := G
    obtain ⟨cell, cf, k, i, f, h1, h2, h3, h4, h5, h6, h7⟩ := F
    obtain ⟨k', z4⟩ := ff_back (U := Wst Z vm h) hal s4
    cases h1.symm.trans s1
    have e := h2.symm.trans z4
    simp only [Option.some.injEq, Prod.mk.injEq] at e
    rw [← e.2.2.2, h7] at s8
    cases s8
  · have hd := G.hd
    obtain ⟨cS, -, -, hB, -⟩ := G
    obtain ⟨cell, k, h1, h2, -⟩ := E
    cases h1.symm.trans hd
    have hB' : Z.vm.findClass "[B" = some q.SA.cls := by rw [← hal.findClass]; exact hB
    obtain ⟨k1, a1, a2⟩ := Vm.findClass_spec h2
    obtain ⟨k2, b1, b2⟩ := Vm.findClass_spec hB'
    cases a1.symm.trans b1
    exact absurd (a2.symm.trans b2) (by decide)
end OwnS
section Sq
variable {p : Program} {l : Launch} {e : Env} {R : Room} {s : State} {m : MethodId} {args : Array Value} {below : List Frame} {meth : Method} {c : Code} {T Z : State} {locs : List Loc} {cells slots : Nat} {P : State → JFrame → Prop} {bytes : ByteArray} {pc : Nat} {L : Array Slot} {S : List Value} {a0 : Array Value} {h : Heap}
abbrev BX (p : Program) (c : Code) (bytes : ByteArray) : Prop := p.tables.exec = Jvm.exec ∧ c.code = bytes
abbrev CL (p : Program) (e : Env) (below : List Frame) (P : State → JFrame → Prop) : Prop := ∀ (T T' : State) (g g' : JFrame), (∀ t, Steps p.tables e below (T'.setTop g') t → Steps p.tables e below (T.setTop g) t) → P T' g' → P T g
theorem OGc {Q : Option Value → Heap → List Loc → Prop} : CL p e below (OG p e R s below Q) := fun _ _ _ _ h k => own_st h k
theorem OSc {EL : List (String × Nat)} {Q : Option Value → Heap → List Loc → Prop} : CL p e below (OGS Z EL p e R s below Q) := fun _ _ _ _ h k => own_stS h k
theorem ow {Z : State} {a0 : Array Value} (hw : ∀ d ∈ tables_1, d.before a0 Z = true) (i : Nat) {d : Jvm.Cond} (h : tables_1[i]? = some d) : d.before a0 Z = true := hw _ (List.mem_of_getElem? h)
theorem own_stk {S' : List Value} (h : S = S') (k : P T (mkF m pc L S')) : P T (mkF m pc L S) := h ▸ k
theorem wiload (G : CL p e below P) (n : Nat) (X : Stand p l e R s m args below meth c T locs cells slots) (B : BX p c bytes) {k : Nat} {v : Int32} (hd : decode bytes pc = .ok (.iload k, 2)) (hl : L[k]? = some (.val (.int v))) (hn : pc + 2 = n) (K : P T (mkF m n L (.int v :: S))) : P T (mkF m pc L S) := by
  subst hn; exact G _ _ _ _ (fun t k => XS.iload X.here B.1 rfl (hb B.2 hd) hl k) K
theorem wiloadN (G : CL p e below P) (n : Nat) (X : Stand p l e R s m args below meth c T locs cells slots) (B : BX p c bytes) {k : Fin 4} {v : Int32} (hd : decode bytes pc = .ok (.iload_n k, 1)) (hl : L[k.val]? = some (.val (.int v))) (hn : pc + 1 = n) (K : P T (mkF m n L (.int v :: S))) : P T (mkF m pc L S) := by
  subst hn; exact G _ _ _ _ (fun t k => XS.iloadN X.here B.1 rfl (hb B.2 hd) hl k) K
theorem wlload (G : CL p e below P) (n : Nat) (X : Stand p l e R s m args below meth c T locs cells slots) (B : BX p c bytes) {k : Nat} {v : Int64} (hd : decode bytes pc = .ok (.lload k, 2)) (hl : L[k]? = some (.val (.long v))) (hn : pc + 2 = n) (K : P T (mkF m n L (.long v :: S))) : P T (mkF m pc L S) := by
  subst hn; exact G _ _ _ _ (fun t k => XS.lload X.here B.1 rfl (hb B.2 hd) hl k) K
theorem wlloadN (G : CL p e below P) (n : Nat) (X : Stand p l e R s m args below meth c T locs cells slots) (B : BX p c bytes) {k : Fin 4} {v : Int64} (hd : decode bytes pc = .ok (.lload_n k, 1)) (hl : L[k.val]? = some (.val (.long v))) (hn : pc + 1 = n) (K : P T (mkF m n L (.long v :: S))) : P T (mkF m pc L S) := by
  subst hn; exact G _ _ _ _ (fun t k => XS.lloadN X.here B.1 rfl (hb B.2 hd) hl k) K
theorem waload (G : CL p e below P) (n : Nat) (X : Stand p l e R s m args below meth c T locs cells slots) (B : BX p c bytes) {k : Nat} {v : Value} (hd : decode bytes pc = .ok (.aload k, 2)) (hl : L[k]? = some (.val v)) (hv : v.isRef = true) (hn : pc + 2 = n) (K : P T (mkF m n L (v :: S))) : P T (mkF m pc L S) := by
  subst hn; exact G _ _ _ _ (fun t k => XS.aload X.here B.1 rfl (hb B.2 hd) hl hv k) K
theorem waloadN (G : CL p e below P) (n : Nat) (X : Stand p l e R s m args below meth c T locs cells slots) (B : BX p c bytes) {k : Fin 4} {v : Value} (hd : decode bytes pc = .ok (.aload_n k, 1)) (hl : L[k.val]? = some (.val v)) (hv : v.isRef = true) (hn : pc + 1 = n) (K : P T (mkF m n L (v :: S))) : P T (mkF m pc L S) := by
  subst hn; exact G _ _ _ _ (fun t k => XS.aloadN X.here B.1 rfl (hb B.2 hd) hl hv k) K
theorem wistore (G : CL p e below P) (n : Nat) (X : Stand p l e R s m args below meth c T locs cells slots) (B : BX p c bytes) {k : Nat} {x : Int32} (hd : decode bytes pc = .ok (.istore k, 2)) (L' : Array Slot) (hl : storeLocals L k (.int x) = some L') (hn : pc + 2 = n) (K : P T (mkF m n L' S)) : P T (mkF m pc L (.int x :: S)) := by
  subst hn; exact G _ _ _ _ (fun t k => XS.istore X.here B.1 rfl (hb B.2 hd) rfl hl k) K
theorem wistoreN (G : CL p e below P) (n : Nat) (X : Stand p l e R s m args below meth c T locs cells slots) (B : BX p c bytes) {k : Fin 4} {x : Int32} (hd : decode bytes pc = .ok (.istore_n k, 1)) (L' : Array Slot) (hl : storeLocals L k.val (.int x) = some L') (hn : pc + 1 = n) (K : P T (mkF m n L' S)) : P T (mkF m pc L (.int x :: S)) := by
  subst hn; exact G _ _ _ _ (fun t k => XS.istoreN X.here B.1 rfl (hb B.2 hd) rfl hl k) K
theorem wlstore (G : CL p e below P) (n : Nat) (X : Stand p l e R s m args below meth c T locs cells slots) (B : BX p c bytes) {k : Nat} {x : Int64} (hd : decode bytes pc = .ok (.lstore k, 2)) (L' : Array Slot) (hl : storeLocals L k (.long x) = some L') (hn : pc + 2 = n) (K : P T (mkF m n L' S)) : P T (mkF m pc L (.long x :: S)) := by
  subst hn; exact G _ _ _ _ (fun t k => XS.lstore X.here B.1 rfl (hb B.2 hd) rfl hl k) K
theorem wlstoreN (G : CL p e below P) (n : Nat) (X : Stand p l e R s m args below meth c T locs cells slots) (B : BX p c bytes) {k : Fin 4} {x : Int64} (hd : decode bytes pc = .ok (.lstore_n k, 1)) (L' : Array Slot) (hl : storeLocals L k.val (.long x) = some L') (hn : pc + 1 = n) (K : P T (mkF m n L' S)) : P T (mkF m pc L (.long x :: S)) := by
  subst hn; exact G _ _ _ _ (fun t k => XS.lstoreN X.here B.1 rfl (hb B.2 hd) rfl hl k) K
theorem wastore (G : CL p e below P) (n : Nat) (X : Stand p l e R s m args below meth c T locs cells slots) (B : BX p c bytes) {k : Nat} {x : Value} (hd : decode bytes pc = .ok (.astore k, 2)) (L' : Array Slot) (hv : x.isRef = true) (hl : storeLocals L k x = some L') (hn : pc + 2 = n) (K : P T (mkF m n L' S)) : P T (mkF m pc L (x :: S)) := by
  subst hn; exact G _ _ _ _ (fun t k => XS.astore X.here B.1 rfl (hb B.2 hd) rfl hv hl k) K
theorem wastoreN (G : CL p e below P) (n : Nat) (X : Stand p l e R s m args below meth c T locs cells slots) (B : BX p c bytes) {k : Fin 4} {x : Value} (hd : decode bytes pc = .ok (.astore_n k, 1)) (L' : Array Slot) (hv : x.isRef = true) (hl : storeLocals L k.val x = some L') (hn : pc + 1 = n) (K : P T (mkF m n L' S)) : P T (mkF m pc L (x :: S)) := by
  subst hn; exact G _ _ _ _ (fun t k => XS.astoreN X.here B.1 rfl (hb B.2 hd) rfl hv hl k) K
theorem wiconst (G : CL p e below P) (n : Nat) (X : Stand p l e R s m args below meth c T locs cells slots) (B : BX p c bytes) {i : Int} (hd : decode bytes pc = .ok (.iconst i, 1)) (z : Int32) (hz : Int32.ofInt i = z) (hn : pc + 1 = n) (K : P T (mkF m n L (.int z :: S))) : P T (mkF m pc L S) := by
  subst hn hz; exact G _ _ _ _ (fun t k => XS.iconst X.here B.1 rfl (hb B.2 hd)  k) K
theorem wbipush (G : CL p e below P) (n : Nat) (X : Stand p l e R s m args below meth c T locs cells slots) (B : BX p c bytes) {i : Int} (hd : decode bytes pc = .ok (.bipush i, 2)) (z : Int32) (hz : (Int8.ofInt i).toInt32 = z) (hn : pc + 2 = n) (K : P T (mkF m n L (.int z :: S))) : P T (mkF m pc L S) := by
  subst hn hz; exact G _ _ _ _ (fun t k => XS.bipush X.here B.1 rfl (hb B.2 hd)  k) K
theorem wsipush (G : CL p e below P) (n : Nat) (X : Stand p l e R s m args below meth c T locs cells slots) (B : BX p c bytes) {i : Int} (hd : decode bytes pc = .ok (.sipush i, 3)) (z : Int32) (hz : (Int16.ofInt i).toInt32 = z) (hn : pc + 3 = n) (K : P T (mkF m n L (.int z :: S))) : P T (mkF m pc L S) := by
  subst hn hz; exact G _ _ _ _ (fun t k => XS.sipush X.here B.1 rfl (hb B.2 hd)  k) K
theorem wlconst (G : CL p e below P) (n : Nat) (X : Stand p l e R s m args below meth c T locs cells slots) (B : BX p c bytes) {i : Fin 2} (hd : decode bytes pc = .ok (.lconst i, 1)) (z : Int64) (hz : Int64.ofNat i = z) (hn : pc + 1 = n) (K : P T (mkF m n L (.long z :: S))) : P T (mkF m pc L S) := by
  subst hn hz; exact G _ _ _ _ (fun t k => XS.lconst X.here B.1 rfl (hb B.2 hd)  k) K
theorem waconstNull (G : CL p e below P) (n : Nat) (X : Stand p l e R s m args below meth c T locs cells slots) (B : BX p c bytes)  (hd : decode bytes pc = .ok (.aconst_null, 1))  (hn : pc + 1 = n) (K : P T (mkF m n L (.null :: S))) : P T (mkF m pc L S) := by
  subst hn; exact G _ _ _ _ (fun t k => XS.aconstNull X.here B.1 rfl (hb B.2 hd)  k) K
theorem wdup (G : CL p e below P) (n : Nat) (X : Stand p l e R s m args below meth c T locs cells slots) (B : BX p c bytes) {x : Value} (hd : decode bytes pc = .ok (.dup, 1)) (hc : x.category = 1) (hn : pc + 1 = n) (K : P T (mkF m n L (x :: x :: S))) : P T (mkF m pc L (x :: S)) := by
  subst hn; exact G _ _ _ _ (fun t k => XS.dup X.here B.1 rfl (hb B.2 hd) rfl hc k) K
theorem wpop (G : CL p e below P) (n : Nat) (X : Stand p l e R s m args below meth c T locs cells slots) (B : BX p c bytes) {x : Value} (hd : decode bytes pc = .ok (.pop, 1)) (hc : x.category = 1) (hn : pc + 1 = n) (K : P T (mkF m n L S)) : P T (mkF m pc L (x :: S)) := by
  subst hn; exact G _ _ _ _ (fun t k => XS.pop X.here B.1 rfl (hb B.2 hd) rfl hc k) K
theorem wiadd (G : CL p e below P) (n : Nat) (X : Stand p l e R s m args below meth c T locs cells slots) (B : BX p c bytes) {x y : Int32} (hd : decode bytes pc = .ok (.iadd, 1))  (hn : pc + 1 = n) (K : P T (mkF m n L (.int (x + y) :: S))) : P T (mkF m pc L (.int y :: .int x :: S)) := by
  subst hn; exact G _ _ _ _ (fun t k => XS.iadd X.here B.1 rfl (hb B.2 hd) rfl k) K
theorem wisub (G : CL p e below P) (n : Nat) (X : Stand p l e R s m args below meth c T locs cells slots) (B : BX p c bytes) {x y : Int32} (hd : decode bytes pc = .ok (.isub, 1))  (hn : pc + 1 = n) (K : P T (mkF m n L (.int (x - y) :: S))) : P T (mkF m pc L (.int y :: .int x :: S)) := by
  subst hn; exact G _ _ _ _ (fun t k => XS.isub X.here B.1 rfl (hb B.2 hd) rfl k) K
theorem wiand (G : CL p e below P) (n : Nat) (X : Stand p l e R s m args below meth c T locs cells slots) (B : BX p c bytes) {x y : Int32} (hd : decode bytes pc = .ok (.iand, 1))  (hn : pc + 1 = n) (K : P T (mkF m n L (.int (x &&& y) :: S))) : P T (mkF m pc L (.int y :: .int x :: S)) := by
  subst hn; exact G _ _ _ _ (fun t k => XS.iand X.here B.1 rfl (hb B.2 hd) rfl k) K
theorem wladd (G : CL p e below P) (n : Nat) (X : Stand p l e R s m args below meth c T locs cells slots) (B : BX p c bytes) {x y : Int64} (hd : decode bytes pc = .ok (.ladd, 1))  (hn : pc + 1 = n) (K : P T (mkF m n L (.long (x + y) :: S))) : P T (mkF m pc L (.long y :: .long x :: S)) := by
  subst hn; exact G _ _ _ _ (fun t k => XS.ladd X.here B.1 rfl (hb B.2 hd) rfl k) K
theorem wlsub (G : CL p e below P) (n : Nat) (X : Stand p l e R s m args below meth c T locs cells slots) (B : BX p c bytes) {x y : Int64} (hd : decode bytes pc = .ok (.lsub, 1))  (hn : pc + 1 = n) (K : P T (mkF m n L (.long (x - y) :: S))) : P T (mkF m pc L (.long y :: .long x :: S)) := by
  subst hn; exact G _ _ _ _ (fun t k => XS.lsub X.here B.1 rfl (hb B.2 hd) rfl k) K
theorem wlcmp (G : CL p e below P) (n : Nat) (X : Stand p l e R s m args below meth c T locs cells slots) (B : BX p c bytes) {x y : Int64} (hd : decode bytes pc = .ok (.lcmp, 1))  (hn : pc + 1 = n) (K : P T (mkF m n L (.int (lcmpW x y) :: S))) : P T (mkF m pc L (.long y :: .long x :: S)) := by
  subst hn; exact G _ _ _ _ (fun t k => XS.lcmp X.here B.1 rfl (hb B.2 hd) rfl k) K
theorem wiinc (G : CL p e below P) (n : Nat) (X : Stand p l e R s m args below meth c T locs cells slots) (B : BX p c bytes) {k : Nat} {cst : Int} {x : Int32} (hd : decode bytes pc = .ok (.iinc k cst, 3)) (L' : Array Slot) (hl : L[k]? = some (.val (.int x))) (hl' : storeLocals L k (.int (x + Int32.ofInt cst)) = some L') (hn : pc + 3 = n) (K : P T (mkF m n L' S)) : P T (mkF m pc L S) := by
  subst hn; exact G _ _ _ _ (fun t k => XS.iinc X.here B.1 rfl (hb B.2 hd) hl hl' k) K
theorem wgoto (G : CL p e below P) (n : Nat) (X : Stand p l e R s m args below meth c T locs cells slots) (B : BX p c bytes)  {o : Int} (hd : decode bytes pc = .ok (.goto o, 3))  (hj : (pc : Int) + o = (n : Int)) (K : P T (mkF m n L S)) : P T (mkF m pc L S) :=
  G _ _ _ _ (fun t k => XS.goto X.here B.1 rfl (pc0 := pc) (pc' := n) rfl (hb B.2 hd)  (by rw [hj]; exact Int.natCast_nonneg n) (by rw [hj]; exact Int.toNat_natCast n) k) K
theorem wifYes (G : CL p e below P) (n : Nat) (X : Stand p l e R s m args below meth c T locs cells slots) (B : BX p c bytes) {cd : ClassFile.Cond} {x : Int32} {o : Int} (hd : decode bytes pc = .ok (.ifCond cd o, 3)) (hc : ifCond.holds cd x = true) (hj : (pc : Int) + o = (n : Int)) (K : P T (mkF m n L S)) : P T (mkF m pc L (.int x :: S)) :=
  G _ _ _ _ (fun t k => XS.ifYes X.here B.1 rfl (pc0 := pc) (pc' := n) rfl (hb B.2 hd) rfl hc (by rw [hj]; exact Int.natCast_nonneg n) (by rw [hj]; exact Int.toNat_natCast n) k) K
theorem wicmpYes (G : CL p e below P) (n : Nat) (X : Stand p l e R s m args below meth c T locs cells slots) (B : BX p c bytes) {cd : ClassFile.Cond} {x y : Int32} {o : Int} (hd : decode bytes pc = .ok (.if_icmp cd o, 3)) (hc : if_icmp.holds cd x y = true) (hj : (pc : Int) + o = (n : Int)) (K : P T (mkF m n L S)) : P T (mkF m pc L (.int y :: .int x :: S)) :=
  G _ _ _ _ (fun t k => XS.icmpYes X.here B.1 rfl (pc0 := pc) (pc' := n) rfl (hb B.2 hd) rfl hc (by rw [hj]; exact Int.natCast_nonneg n) (by rw [hj]; exact Int.toNat_natCast n) k) K
theorem wifnullYes (G : CL p e below P) (n : Nat) (X : Stand p l e R s m args below meth c T locs cells slots) (B : BX p c bytes)  {o : Int} (hd : decode bytes pc = .ok (.ifnull o, 3))  (hj : (pc : Int) + o = (n : Int)) (K : P T (mkF m n L S)) : P T (mkF m pc L (.null :: S)) :=
  G _ _ _ _ (fun t k => XS.ifnullYes X.here B.1 rfl (pc0 := pc) (pc' := n) rfl (hb B.2 hd) rfl (by rw [hj]; exact Int.natCast_nonneg n) (by rw [hj]; exact Int.toNat_natCast n) k) K
theorem wifnonnullYes (G : CL p e below P) (n : Nat) (X : Stand p l e R s m args below meth c T locs cells slots) (B : BX p c bytes) {b : Addr} {o : Int} (hd : decode bytes pc = .ok (.ifnonnull o, 3))  (hj : (pc : Int) + o = (n : Int)) (K : P T (mkF m n L S)) : P T (mkF m pc L (.ref b :: S)) :=
  G _ _ _ _ (fun t k => XS.ifnonnullYes X.here B.1 rfl (pc0 := pc) (pc' := n) rfl (hb B.2 hd) rfl (by rw [hj]; exact Int.natCast_nonneg n) (by rw [hj]; exact Int.toNat_natCast n) k) K
theorem wifNo (G : CL p e below P) (n : Nat) (X : Stand p l e R s m args below meth c T locs cells slots) (B : BX p c bytes) {cd : ClassFile.Cond} {o : Int} {x : Int32} (hd : decode bytes pc = .ok (.ifCond cd o, 3)) (hc : ifCond.holds cd x = false) (hn : pc + 3 = n) (K : P T (mkF m n L S)) : P T (mkF m pc L (.int x :: S)) := by
  subst hn; exact G _ _ _ _ (fun t k => XS.ifNo X.here B.1 rfl (hb B.2 hd) rfl hc k) K
theorem wicmpNo (G : CL p e below P) (n : Nat) (X : Stand p l e R s m args below meth c T locs cells slots) (B : BX p c bytes) {cd : ClassFile.Cond} {o : Int} {x y : Int32} (hd : decode bytes pc = .ok (.if_icmp cd o, 3)) (hc : if_icmp.holds cd x y = false) (hn : pc + 3 = n) (K : P T (mkF m n L S)) : P T (mkF m pc L (.int y :: .int x :: S)) := by
  subst hn; exact G _ _ _ _ (fun t k => XS.icmpNo X.here B.1 rfl (hb B.2 hd) rfl hc k) K
theorem wifnullNo (G : CL p e below P) (n : Nat) (X : Stand p l e R s m args below meth c T locs cells slots) (B : BX p c bytes) {o : Int} {b : Addr} (hd : decode bytes pc = .ok (.ifnull o, 3))  (hn : pc + 3 = n) (K : P T (mkF m n L S)) : P T (mkF m pc L (.ref b :: S)) := by
  subst hn; exact G _ _ _ _ (fun t k => XS.ifnullNo X.here B.1 rfl (hb B.2 hd) rfl k) K
theorem wifnonnullNo (G : CL p e below P) (n : Nat) (X : Stand p l e R s m args below meth c T locs cells slots) (B : BX p c bytes) {o : Int} (hd : decode bytes pc = .ok (.ifnonnull o, 3))  (hn : pc + 3 = n) (K : P T (mkF m n L S)) : P T (mkF m pc L (.null :: S)) := by
  subst hn; exact G _ _ _ _ (fun t k => XS.ifnonnullNo X.here B.1 rfl (hb B.2 hd) rfl k) K
theorem wgetF (G : CL p e below P) (n : Nat) (X : Stand p l e R s m args below meth c T locs cells slots) (B : BX p c bytes) (hZ : Z.Warmed39 s.vm) {own R0 nm d : String} {index : Nat} (hown : s.vm.findClass own = some m.cls) (w : (Jvm.Cond.fieldLink own index R0 nm d).before a0 Z = true) (eT : T.heap = h) {a : Addr} {v : Value} (F : Fld Z h a R0 nm d v) (hd : decode bytes pc = .ok (.getfield index, 3)) (hn : pc + 3 = n) (K : ∀ T', Stand p l e R s m args below meth c T' locs cells slots → T'.heap = h → P T' (mkF m n L (v :: S))) : P T (mkF m pc L (.ref a :: S)) := by
  subst hn
  obtain ⟨T', X', e', st⟩ := getF X B.1 hZ hown (host := "") (Or.inl w) Via.refl eT F (g := mkF m pc L (.ref a :: S)) rfl rfl (hb B.2 hd)
  exact G _ _ _ _ st (K T' X' e')
theorem wgetS (G : CL p e below P) (n : Nat) (X : Stand p l e R s m args below meth c T locs cells slots) (B : BX p c bytes) (hZ : Z.Warmed39 s.vm) {own R0 nm d : String} {index : Nat} (hown : s.vm.findClass own = some m.cls) (w : (Jvm.Cond.fieldLink own index R0 nm d).before a0 Z = true) (eT : T.heap = h) {v : Value} (F : Sta Z h R0 nm d v) (hd : decode bytes pc = .ok (.getstatic index, 3)) (hn : pc + 3 = n) (K : ∀ T', Stand p l e R s m args below meth c T' locs cells slots → T'.heap = h → P T' (mkF m n L (v :: S))) : P T (mkF m pc L S) := by
  subst hn
  obtain ⟨T', X', e', st⟩ := getS X B.1 hZ (host := "") hown w Via.refl eT F (g := mkF m pc L S) rfl (hb B.2 hd)
  exact G _ _ _ _ st (K T' X' e')
theorem wputF (G : CL p e below P) (n : Nat) (X : Stand p l e R s m args below meth c T locs cells slots) (B : BX p c bytes) (hZ : Z.Warmed39 s.vm) {own R0 nm d C : String} {index kk : Nat} {ty : FieldType} (hown : s.vm.findClass own = some m.cls) (w : (Jvm.Cond.fieldLink own index R0 nm d).before a0 Z = true) (eT : T.heap = h) {a : Addr} {v old : Value} (F : Fld Z h a R0 nm d old) (E : Exa Z h a C) (Ly : (Jvm.Cond.lays C R0 nm d).before a0 Z = true ∨ ((Jvm.Cond.laysFinal C R0 nm d).before a0 Z = true ∧ own = R0 ∧ meth.name = "<init>")) (wi : (Jvm.Cond.instantiable C kk).before a0 Z = true)
    (hty : parseFieldDescriptor d = some ty) (hnn : narrow ty v = v) (hf : fits ty v = true) (hd : decode bytes pc = .ok (.putfield index, 3)) (hn : pc + 3 = n) (K : ∀ T' h', Stand p l e R s m args below meth c T' (locs ++ [⟨a, Jvm.RoadKit.slotOf Z R0 nm d⟩]) cells slots → T'.heap = h' → Wr h h' a (Jvm.RoadKit.slotOf Z R0 nm d) v → P T' (mkF m n L S)) : P T (mkF m pc L (v :: .ref a :: S)) := by
  subst hn
  obtain ⟨T', h', X', e', W', st⟩ := putF X B.1 hZ hown (host := "") (Or.inl w) Via.refl eT F E Ly wi hty hnn hf (g := mkF m pc L (v :: .ref a :: S)) rfl rfl (hb B.2 hd)
  exact G _ _ _ _ st (K T' h' X' e' W')
theorem wnewO (G : CL p e below P) (n : Nat) (X : Stand p l e R s m args below meth c T locs cells slots) (B : BX p c bytes) (hZ : Z.Warmed39 s.vm) {own C : String} {index k : Nat} (hown : s.vm.findClass own = some m.cls) (w : (Jvm.Cond.classLink own index C).before a0 Z = true) (wi : (Jvm.Cond.instantiable C k).before a0 Z = true) (wz : (Jvm.Cond.initialized C).before a0 Z = true) (eT : T.heap = h) (hd : decode bytes pc = .ok (.new index, 3)) (hc : cells + 1 ≤ R.cells ∧ slots + k ≤ R.slots) (hn : pc + 3 = n)
    (K : ∀ T' h' x, x = h.size → Stand p l e R s m args below meth c T' locs (cells + 1) (slots + k) → T'.heap = h' → Ext h h' → Exa Z h' x C → (∀ {O nm d : String} {ty : FieldType}, Laid Z a0 C O nm d → parseFieldDescriptor d = some ty → Fld Z h' x O nm d (defaultValue ty)) → P T' (mkF m n L (.ref x :: S))) : P T (mkF m pc L S) := by
  subst hn
  obtain ⟨T', h', X', e', E', A', D', -, st⟩ := newO X B.1 hZ hown w wi wz eT (g := mkF m pc L S) rfl (hb B.2 hd) hc.1 hc.2
  exact G _ _ _ _ st (K T' h' _ rfl X' e' E' A' D')
theorem wnewP (G : CL p e below P) (n : Nat) (X : Stand p l e R s m args below meth c T locs cells slots) (B : BX p c bytes) (hZ : Z.Warmed39 s.vm) {aty : ArrayType} (w : (Jvm.Cond.arrayClass (newarray.typeOf aty)).before a0 Z = true) (eT : T.heap = h) (hd : decode bytes pc = .ok (.newarray aty, 2)) {z : Int32} (cap : Nat) (hz : ¬ z < 0 ∧ z.toNatClampNeg ≤ cap ∧ cap * 8 ≤ 536870912) (hc : cells + 1 ≤ R.cells ∧ slots + cap ≤ R.slots) (hn : pc + 2 = n)
    (K : ∀ T' h' x cA, x = h.size → Stand p l e R s m args below meth c T' locs (cells + 1) (slots + cap) → T'.heap = h' → Ext h h' → Arr Z h' x (newA cA (newarray.typeOf aty) z) (newarray.typeOf aty) → P T' (mkF m n L (.ref x :: S))) : P T (mkF m pc L (.int z :: S)) := by
  subst hn
  obtain ⟨T', h', k', X', e', E', A', st⟩ := newP X B.1 hZ w eT (g := mkF m pc L (.int z :: S)) rfl (hb B.2 hd) rfl hz.1 hz.2.1 hz.2.2 hc.1 hc.2
  exact G _ _ _ _ st (K T' h' _ k' rfl X' e' E' A')
theorem wstI (G : CL p e below P) (n : Nat) (X : Stand p l e R s m args below meth c T locs cells slots) (B : BX p c bytes) (hZ : Z.Warmed39 s.vm) (eT : T.heap = h) {a : Addr} {vs : List Value} (F : OA Z h a .int vs) {j : Int32} {x : Int32} (i : Nat) (hj : j.toNatClampNeg = i) (h0 : ¬ j < 0) (hi : i < vs.length) (hd : decode bytes pc = .ok (.iastore, 1)) (hn : pc + 1 = n)
    (K : ∀ T' h', Stand p l e R s m args below meth c T' (locs ++ [⟨a, j.toNatClampNeg⟩]) cells slots → T'.heap = h' → Wr h h' a j.toNatClampNeg (.int x) → P T' (mkF m n L S)) : P T (mkF m pc L (.int x :: .int j :: .ref a :: S)) := by
  subst hn
  obtain ⟨cl, A, hi'⟩ := own_wr F hj h0 hi
  obtain ⟨T', h', X', e', W', st⟩ := stI X B.1 hZ eT A hi' (g := mkF m pc L (.int x :: .int j :: .ref a :: S)) rfl rfl (hb B.2 hd)
  exact G _ _ _ _ st (K T' h' X' e' W')
theorem wstJ (G : CL p e below P) (n : Nat) (X : Stand p l e R s m args below meth c T locs cells slots) (B : BX p c bytes) (hZ : Z.Warmed39 s.vm) (eT : T.heap = h) {a : Addr} {vs : List Value} (F : OA Z h a .long vs) {j : Int32} {x : Int64} (i : Nat) (hj : j.toNatClampNeg = i) (h0 : ¬ j < 0) (hi : i < vs.length) (hd : decode bytes pc = .ok (.lastore, 1)) (hn : pc + 1 = n)
    (K : ∀ T' h', Stand p l e R s m args below meth c T' (locs ++ [⟨a, j.toNatClampNeg⟩]) cells slots → T'.heap = h' → Wr h h' a j.toNatClampNeg (.long x) → P T' (mkF m n L S)) : P T (mkF m pc L (.long x :: .int j :: .ref a :: S)) := by
  subst hn
  obtain ⟨cl, A, hi'⟩ := own_wr F hj h0 hi
  obtain ⟨T', h', X', e', W', st⟩ := stJ X B.1 hZ eT A hi' (g := mkF m pc L (.long x :: .int j :: .ref a :: S)) rfl rfl (hb B.2 hd)
  exact G _ _ _ _ st (K T' h' X' e' W')
theorem wstB (G : CL p e below P) (n : Nat) (X : Stand p l e R s m args below meth c T locs cells slots) (B : BX p c bytes) (hZ : Z.Warmed39 s.vm) (eT : T.heap = h) {a : Addr} {vs : List Value} (F : OA Z h a .byte vs) {j : Int32} {x : Int32} (i : Nat) (hj : j.toNatClampNeg = i) (h0 : ¬ j < 0) (hi : i < vs.length) (hd : decode bytes pc = .ok (.bastore, 1)) (hn : pc + 1 = n)
    (K : ∀ T' h', Stand p l e R s m args below meth c T' (locs ++ [⟨a, j.toNatClampNeg⟩]) cells slots → T'.heap = h' → Wr h h' a j.toNatClampNeg (.int (nar .byte x)) → P T' (mkF m n L S)) : P T (mkF m pc L (.int x :: .int j :: .ref a :: S)) := by
  subst hn
  obtain ⟨cl, A, hi'⟩ := own_wr F hj h0 hi
  obtain ⟨T', h', X', e', W', st⟩ := stB X B.1 hZ eT A hi' (g := mkF m pc L (.int x :: .int j :: .ref a :: S)) rfl rfl (hb B.2 hd)
  exact G _ _ _ _ st (K T' h' X' e' W')
theorem wstC (G : CL p e below P) (n : Nat) (X : Stand p l e R s m args below meth c T locs cells slots) (B : BX p c bytes) (hZ : Z.Warmed39 s.vm) (eT : T.heap = h) {a : Addr} {vs : List Value} (F : OA Z h a .char vs) {j : Int32} {x : Int32} (i : Nat) (hj : j.toNatClampNeg = i) (h0 : ¬ j < 0) (hi : i < vs.length) (hd : decode bytes pc = .ok (.castore, 1)) (hn : pc + 1 = n)
    (K : ∀ T' h', Stand p l e R s m args below meth c T' (locs ++ [⟨a, j.toNatClampNeg⟩]) cells slots → T'.heap = h' → Wr h h' a j.toNatClampNeg (.int (nar .char x)) → P T' (mkF m n L S)) : P T (mkF m pc L (.int x :: .int j :: .ref a :: S)) := by
  subst hn
  obtain ⟨cl, A, hi'⟩ := own_wr F hj h0 hi
  obtain ⟨T', h', X', e', W', st⟩ := stC X B.1 hZ eT A hi' (g := mkF m pc L (.int x :: .int j :: .ref a :: S)) rfl rfl (hb B.2 hd)
  exact G _ _ _ _ st (K T' h' X' e' W')
theorem wiaload (G : CL p e below P) (n : Nat) (X : Stand p l e R s m args below meth c T locs cells slots) (B : BX p c bytes) (hZ : Z.Warmed39 s.vm) (eT : T.heap = h) {a : Addr} {vs : List Value} (F : OA Z h a .int vs) {j : Int32} {v : Value} (i : Nat) (hj : j.toNatClampNeg = i) (h0 : ¬ j < 0) (hv : vs[i]? = some v) (hd : decode bytes pc = .ok (.iaload, 1)) (hn : pc + 1 = n) (K : P T (mkF m n L (v :: S))) : P T (mkF m pc L (.int j :: .ref a :: S)) := by
  subst hn
  obtain ⟨cl, Ar, hi, ha⟩ := own_rd F hj h0 hv
  exact G _ _ _ _ (fun t k => X.iaload B.1 (j := j) (v := v) (by rw [eT]; exact Ar.1) (State.isArrayOf_alike hZ.alike Ar.2.1) Ar.2.2 hi ha (g := mkF m pc L (.int j :: .ref a :: S)) rfl rfl (hb B.2 hd) t k) K
theorem wlaload (G : CL p e below P) (n : Nat) (X : Stand p l e R s m args below meth c T locs cells slots) (B : BX p c bytes) (hZ : Z.Warmed39 s.vm) (eT : T.heap = h) {a : Addr} {vs : List Value} (F : OA Z h a .long vs) {j : Int32} {v : Value} (i : Nat) (hj : j.toNatClampNeg = i) (h0 : ¬ j < 0) (hv : vs[i]? = some v) (hd : decode bytes pc = .ok (.laload, 1)) (hn : pc + 1 = n) (K : P T (mkF m n L (v :: S))) : P T (mkF m pc L (.int j :: .ref a :: S)) := by
  subst hn
  obtain ⟨cl, Ar, hi, ha⟩ := own_rd F hj h0 hv
  exact G _ _ _ _ (fun t k => X.laload B.1 (j := j) (v := v) (by rw [eT]; exact Ar.1) (State.isArrayOf_alike hZ.alike Ar.2.1) Ar.2.2 hi ha (g := mkF m pc L (.int j :: .ref a :: S)) rfl rfl (hb B.2 hd) t k) K
theorem wcaload (G : CL p e below P) (n : Nat) (X : Stand p l e R s m args below meth c T locs cells slots) (B : BX p c bytes) (hZ : Z.Warmed39 s.vm) (eT : T.heap = h) {a : Addr} {vs : List Value} (F : OA Z h a .char vs) {j : Int32} {v : Value} (i : Nat) (hj : j.toNatClampNeg = i) (h0 : ¬ j < 0) (hv : vs[i]? = some v) (hd : decode bytes pc = .ok (.caload, 1)) (hn : pc + 1 = n) (K : P T (mkF m n L (v :: S))) : P T (mkF m pc L (.int j :: .ref a :: S)) := by
  subst hn
  obtain ⟨cl, Ar, hi, ha⟩ := own_rd F hj h0 hv
  exact G _ _ _ _ (fun t k => X.caload B.1 (j := j) (v := v) (by rw [eT]; exact Ar.1) (State.isArrayOf_alike hZ.alike Ar.2.1) Ar.2.2 hi ha (g := mkF m pc L (.int j :: .ref a :: S)) rfl rfl (hb B.2 hd) t k) K
theorem wbaload (G : CL p e below P) (n : Nat) (X : Stand p l e R s m args below meth c T locs cells slots) (B : BX p c bytes) (hZ : Z.Warmed39 s.vm) (eT : T.heap = h) {a : Addr} {vs : List Value} (F : OA Z h a .byte vs) {j : Int32} {v : Value} (i : Nat) (hj : j.toNatClampNeg = i) (h0 : ¬ j < 0) (hv : vs[i]? = some v) (hd : decode bytes pc = .ok (.baload, 1)) (hn : pc + 1 = n) (K : P T (mkF m n L (v :: S))) : P T (mkF m pc L (.int j :: .ref a :: S)) := by
  subst hn
  obtain ⟨cl, Ar, hi, ha⟩ := own_rd F hj h0 hv
  exact G _ _ _ _ (fun t k => X.baloadBytes B.1 (j := j) (v := v) (by rw [eT]; exact Ar.1) (State.isArrayOf_alike hZ.alike Ar.2.1) Ar.2.2 hi ha (g := mkF m pc L (.int j :: .ref a :: S)) rfl rfl (hb B.2 hd) t k) K
theorem warlenA (G : CL p e below P) (n : Nat) (X : Stand p l e R s m args below meth c T locs cells slots) (B : BX p c bytes) (hZ : Z.Warmed39 s.vm) (eT : T.heap = h) {a : Addr} {ty : FieldType} {vs : List Value} (F : OA Z h a ty vs) (z : Int32) (hz : vs.length.toInt32 = z) (hd : decode bytes pc = .ok (.arraylength, 1)) (hn : pc + 1 = n) (K : P T (mkF m n L (.int z :: S))) : P T (mkF m pc L (.ref a :: S)) := by
  subst hn
  obtain ⟨cl, Ar, hs⟩ := F.len
  rw [← hs] at hz
  subst hz
  exact G _ _ _ _ (fun t k => X.arraylength B.1 (by rw [eT]; exact Ar.1) (State.isArrayOf_alike hZ.alike Ar.2.1) (g := mkF m pc L (.ref a :: S)) rfl rfl (hb B.2 hd) t k) K
theorem warlenL (G : CL p e below P) (n : Nat) (X : Stand p l e R s m args below meth c T locs cells slots) (B : BX p c bytes) (hZ : Z.Warmed39 s.vm) (eT : T.heap = h) {a : Addr} {ty : FieldType} {q : Nat} (F : OL Z h a ty q) (z : Int32) (hz : q.toInt32 = z) (hd : decode bytes pc = .ok (.arraylength, 1)) (hn : pc + 1 = n) (K : P T (mkF m n L (.int z :: S))) : P T (mkF m pc L (.ref a :: S)) := by
  subst hn
  obtain ⟨cl, Ar, hs⟩ := F
  rw [← hs] at hz
  subst hz
  exact G _ _ _ _ (fun t k => X.arraylength B.1 (by rw [eT]; exact Ar.1) (State.isArrayOf_alike hZ.alike Ar.2.1) (g := mkF m pc L (.ref a :: S)) rfl rfl (hb B.2 hd) t k) K
theorem wstat (G : CL p e below P) (n : Nat) (X : Stand p l e R s m args below meth c T locs cells slots) (B : BX p c bytes) (hZ : Z.Warmed39 s.vm) {own : String} {index : Nat} {y : MethodName} {ret : Option FieldType} {bs : ByteArray} {maxL : Nat} (hown : s.vm.findClass own = some m.cls) (w1 : (Jvm.Cond.methodLink own index y).before a0 Z = true) (w2 : (Jvm.Cond.static y).before a0 Z = true) (wc : (Jvm.Cond.code y bs maxL ret).before a0 Z = true) (wz : (Jvm.Cond.initialized y.cls).before a0 Z = true) (eT : T.heap = h) {rm : Room} {argsL : List Value} {Q : Option Value → Heap → List Loc → Prop} (hM : OMet l Z y bs maxL ret [] rm argsL.toArray h Q) (W : Nat) (hy : y.cls ≠ "java/lang/invoke/MethodHandle" ∧ y.cls ≠ "java/lang/invoke/VarHandle") (hr : rm.frames + 1 ≤ R.frames ∧ W + (maxL + 11) + rm.locals ≤ R.locals ∧ cells + rm.cells ≤ R.cells ∧ slots + rm.slots ≤ R.slots) {k : Nat} (hml : c.maxLocals = k) (hsz : L.size = k)
    (hlen : ∀ sig, parseMethodDescriptor y.desc = some sig → argsL.length = sig.parameters.length) (rest : List Value) (hst : S = argsL.reverse ++ rest) (hW : (rest.map fun v => v.category).sum = W) (hd : decode bytes pc = .ok (.invokestatic index, 3)) (hn : pc + 3 = n)
    (K : ∀ (v : Option Value) (T' : State) (L' : List Loc), Stand p l e R s m args below meth c T' (locs ++ L') (cells + rm.cells) (slots + rm.slots) → Q v T'.heap L' → P T' (mkF m n L (v.toList ++ rest))) : P T (mkF m pc L S) := by
  subst hn
  obtain ⟨hf, hl, hc, hs⟩ := hr
  obtain ⟨v, _, ⟨T', L', k', n'⟩, -, X', ⟨Lc, hQ, l1, l2, l3⟩, st⟩ := Jvm.LawKit.callS X B.1 (y := y) hown (mvT hZ w1) (mvT hZ w2) (mvT hZ wz) (mvT hZ wc) hy (backOf (W := W) (rm := rm) hM hZ wc wz hf hl) (g := mkF m pc L S) rfl (by rw [hml]; exact hsz) (argsL := argsL) (rest := rest) hlen hst (by show 2 * 0 + _ ≤ _; omega) (hb B.2 hd) (fun _ _ => ⟨rfl, eT, hc, hs⟩)
  dsimp only [Pt.U, Pt.locs, Pt.cells, Pt.slots] at X' l1 l2 l3 st hQ
  subst l1 l2 l3
  exact G _ _ _ _ st (K v T' Lc X' hQ)
theorem wspec (G : CL p e below P) (n : Nat) (X : Stand p l e R s m args below meth c T locs cells slots) (B : BX p c bytes) (hZ : Z.Warmed39 s.vm) {own : String} {index : Nat} {y : MethodName} {a : Addr} {bs : ByteArray} {maxL : Nat} (hown : s.vm.findClass own = some m.cls) (w1 : (Jvm.Cond.methodLink own index y).before a0 Z = true) (w2 : (Jvm.Cond.instanceMethod y).before a0 Z = true) (hy1 : y.name = "<init>") (wc : (Jvm.Cond.code y bs maxL none).before a0 Z = true) (wz : (Jvm.Cond.initialized y.cls).before a0 Z = true) (eT : T.heap = h) {rm : Room} {argsL : List Value} {Q : Option Value → Heap → List Loc → Prop} (hM : OMet l Z y bs maxL none [] rm (.ref a :: argsL).toArray h Q) (W : Nat) (hy : y.cls ≠ "java/lang/invoke/MethodHandle" ∧ y.cls ≠ "java/lang/invoke/VarHandle") (hr : rm.frames + 1 ≤ R.frames ∧ W + (maxL + 11) + rm.locals ≤ R.locals ∧ cells + rm.cells ≤ R.cells ∧ slots + rm.slots ≤ R.slots) {k : Nat} (hml : c.maxLocals = k) (hsz : L.size = k)
    (hlen : ∀ sig, parseMethodDescriptor y.desc = some sig → argsL.length = sig.parameters.length) (rest : List Value) (hst : S = argsL.reverse ++ .ref a :: rest) (hW : (rest.map fun v => v.category).sum = W) (hd : decode bytes pc = .ok (.invokespecial index, 3)) (hn : pc + 3 = n)
    (K : ∀ (v : Option Value) (T' : State) (L' : List Loc), Stand p l e R s m args below meth c T' (locs ++ L') (cells + rm.cells) (slots + rm.slots) → Q v T'.heap L' → P T' (mkF m n L (v.toList ++ rest))) : P T (mkF m pc L S) := by
  subst hn
  obtain ⟨hf, hl, hc, hs⟩ := hr
  obtain ⟨v, _, ⟨T', L', k', n'⟩, -, X', ⟨Lc, hQ, l1, l2, l3⟩, st⟩ := X.specialBack B.1 (y := y) hy1 hown (mvT hZ w1) (mvT hZ w2) (mvT hZ wc) hy (backOf (W := W) (rm := rm) hM hZ wc wz hf hl) (g := mkF m pc L S) rfl (by rw [hml]; exact hsz) (Steps.refl _) (a := a) (argsL := argsL) (rest := rest) hlen hst (by show 2 * 0 + _ ≤ _; omega) (hb B.2 hd) (fun _ _ => ⟨rfl, eT, hc, hs⟩)
  dsimp only [Pt.U, Pt.locs, Pt.cells, Pt.slots] at X' l1 l2 l3 st hQ
  subst l1 l2 l3
  exact G _ _ _ _ (fun t k => st.trans k) (K v T' Lc X' hQ)
theorem wvirt (G : CL p e below P) (n : Nat) (X : Stand p l e R s m args below meth c T locs cells slots) (B : BX p c bytes) (hZ : Z.Warmed39 s.vm) {own : String} {index : Nat} {y : MethodName} {C : String} {a : Addr} {ret : Option FieldType} {bs : ByteArray} {maxL : Nat} (hown : s.vm.findClass own = some m.cls) (w1 : (Jvm.Cond.methodLink own index y).before a0 Z = true) (w2 : (Jvm.Cond.declares y).before a0 Z = true) (w3 : (Jvm.Cond.selects C y y).before a0 Z = true) (w4 : (Jvm.Cond.instanceMethod y).before a0 Z = true) (E : Exa Z h a C) (wc : (Jvm.Cond.code y bs maxL ret).before a0 Z = true) (wz : (Jvm.Cond.initialized y.cls).before a0 Z = true) (eT : T.heap = h) {rm : Room} {argsL : List Value} {Q : Option Value → Heap → List Loc → Prop} (hM : OMet l Z y bs maxL ret [] rm (.ref a :: argsL).toArray h Q) (W : Nat) (hy : y.cls ≠ "java/lang/invoke/MethodHandle" ∧ y.cls ≠ "java/lang/invoke/VarHandle") (hr : rm.frames + 1 ≤ R.frames ∧ W + (maxL + 11) + rm.locals ≤ R.locals ∧ cells + rm.cells ≤ R.cells ∧ slots + rm.slots ≤ R.slots) {k : Nat} (hml : c.maxLocals = k) (hsz : L.size = k)
    (hlen : ∀ sig, parseMethodDescriptor y.desc = some sig → argsL.length = sig.parameters.length) (rest : List Value) (hst : S = argsL.reverse ++ .ref a :: rest) (hW : (rest.map fun v => v.category).sum = W) (hd : decode bytes pc = .ok (.invokevirtual index, 3)) (hn : pc + 3 = n)
    (K : ∀ (v : Option Value) (T' : State) (L' : List Loc), Stand p l e R s m args below meth c T' (locs ++ L') (cells + rm.cells) (slots + rm.slots) → Q v T'.heap L' → P T' (mkF m n L (v.toList ++ rest))) : P T (mkF m pc L S) := by
  subst hn
  obtain ⟨hf, hl, hc, hs⟩ := hr
  obtain ⟨cq, kq, qa, qb, qc⟩ := isOf hZ eT E
  obtain ⟨v, _, ⟨T', L', k', n'⟩, -, X', ⟨Lc, hQ, l1, l2, l3⟩, st⟩ := X.virtualBack B.1 (y := y) (z := y) hown (mvT hZ w1) (mvT hZ w2) (notFace_of_selects (args := #[]) (mvT hZ w3)) (mvT hZ w3) (mvT hZ w4) hy (backOf (W := W) (rm := rm) hM hZ wc wz hf hl) qa qc (g := mkF m pc L S) rfl (by rw [hml]; exact hsz) (Steps.refl _) (argsL := argsL) (rest := rest) hlen hst (by show 2 * 0 + _ ≤ _; omega) (hb B.2 hd) (fun _ _ => ⟨rfl, eT, hc, hs⟩)
  dsimp only [Pt.U, Pt.locs, Pt.cells, Pt.slots] at X' l1 l2 l3 st hQ
  subst l1 l2 l3
  exact G _ _ _ _ (fun t k => st.trans k) (K v T' Lc X' hQ)
theorem wpriv (G : CL p e below P) (n : Nat) (X : Stand p l e R s m args below meth c T locs cells slots) (B : BX p c bytes) (hZ : Z.Warmed39 s.vm) {own : String} {index : Nat} {y : MethodName} {C : String} {a : Addr} {ret : Option FieldType} {bs : ByteArray} {maxL : Nat} (hown : s.vm.findClass own = some m.cls) (w1 : (Jvm.Cond.methodLink own index y).before a0 Z = true) (w2 : (Jvm.Cond.instanceMethod y).before a0 Z = true) (hsel : (Jvm.Cond.selects y.cls y y).before args s = true) (w4 : (Jvm.Cond.privateMethod y).before a0 Z = true) (E : Exa Z h a C) (wc : (Jvm.Cond.code y bs maxL ret).before a0 Z = true) (wz : (Jvm.Cond.initialized y.cls).before a0 Z = true) (eT : T.heap = h) {rm : Room} {argsL : List Value} {Q : Option Value → Heap → List Loc → Prop} (hM : OMet l Z y bs maxL ret [] rm (.ref a :: argsL).toArray h Q) (W : Nat) (hy : y.cls ≠ "java/lang/invoke/MethodHandle" ∧ y.cls ≠ "java/lang/invoke/VarHandle") (hr : rm.frames + 1 ≤ R.frames ∧ W + (maxL + 11) + rm.locals ≤ R.locals ∧ cells + rm.cells ≤ R.cells ∧ slots + rm.slots ≤ R.slots) {k : Nat} (hml : c.maxLocals = k) (hsz : L.size = k)
    (hlen : ∀ sig, parseMethodDescriptor y.desc = some sig → argsL.length = sig.parameters.length) (rest : List Value) (hst : S = argsL.reverse ++ .ref a :: rest) (hW : (rest.map fun v => v.category).sum = W) (hd : decode bytes pc = .ok (.invokevirtual index, 3)) (hn : pc + 3 = n)
    (K : ∀ (v : Option Value) (T' : State) (L' : List Loc), Stand p l e R s m args below meth c T' (locs ++ L') (cells + rm.cells) (slots + rm.slots) → Q v T'.heap L' → P T' (mkF m n L (v.toList ++ rest))) : P T (mkF m pc L S) := by
  subst hn
  obtain ⟨hf, hl, hc, hs⟩ := hr
  obtain ⟨cq, q1, q2⟩ := E.cell
  obtain ⟨v, _, ⟨T', L', k', n'⟩, -, X', ⟨Lc, hQ, l1, l2, l3⟩, st⟩ := X.privateBack B.1 (y := y) hown (mvT hZ w1) (mvT hZ w2) hsel (Cond.privateMethod_at (mvP hZ w4 (args := #[]))) (mvT hZ wc) hy (backOf (W := W) (rm := rm) hM hZ wc wz hf hl) (g := mkF m pc L S) rfl (by rw [hml]; exact hsz) (Steps.refl _) (a := a) (by rw [eT]; exact q1) q2 (argsL := argsL) (rest := rest) hlen hst (by show 2 * 0 + _ ≤ _; omega) (hb B.2 hd) (fun _ _ => ⟨rfl, eT, hc, hs⟩)
  dsimp only [Pt.U, Pt.locs, Pt.cells, Pt.slots] at X' l1 l2 l3 st hQ
  subst l1 l2 l3
  exact G _ _ _ _ (fun t k => st.trans k) (K v T' Lc X' hQ)
end Sq
def EL0 : List (String × Nat) := []
theorem own_wS {Z : State} {a0 : Array Value} (hw : ∀ d ∈ tables_1, d.before a0 Z = true) : ∀ a ∈ Bundle.stringAtoms, a.before a0 Z = true := fun a ha => by
  simp only [Bundle.stringAtoms, List.mem_cons, List.not_mem_nil, or_false] at ha
  rcases ha with rfl | rfl | rfl | rfl | rfl | rfl | rfl
  · exact (ow hw 29 rfl)
  · exact (ow hw 30 rfl)
  · exact (ow hw 31 rfl)
  · exact (ow hw 32 rfl)
  · exact (ow hw 33 rfl)
  · exact (ow hw 34 rfl)
  · exact (ow hw 35 rfl)
theorem own_EW {Z : State} {a0 : Array Value} (hw : ∀ d ∈ tables_1, d.before a0 Z = true) : EW Z a0 EL0 := EW.nil
theorem d1_0 : decode prog_45_method_1_code 0 = .ok (.aload_n 0, 1) := by decide +kernel
theorem d1_1 : decode prog_45_method_1_code 1 = .ok (.invokespecial 1, 3) := by decide +kernel
theorem d1_4 : decode prog_45_method_1_code 4 = .ok (.aload_n 0, 1) := by decide +kernel
theorem d1_5 : decode prog_45_method_1_code 5 = .ok (.bipush 8, 2) := by decide +kernel
theorem d1_7 : decode prog_45_method_1_code 7 = .ok (.newarray .int, 2) := by decide +kernel
theorem d1_9 : decode prog_45_method_1_code 9 = .ok (.putfield 7, 3) := by decide +kernel
theorem d1_12 : decode prog_45_method_1_code 12 = .ok (.aload_n 0, 1) := by decide +kernel
theorem d1_13 : decode prog_45_method_1_code 13 = .ok (.bipush 8, 2) := by decide +kernel
theorem d1_15 : decode prog_45_method_1_code 15 = .ok (.newarray .int, 2) := by decide +kernel
theorem d1_17 : decode prog_45_method_1_code 17 = .ok (.putfield 13, 3) := by decide +kernel
theorem d1_20 : decode prog_45_method_1_code 20 = .ok (.aload_n 0, 1) := by decide +kernel
theorem d1_21 : decode prog_45_method_1_code 21 = .ok (.bipush 8, 2) := by decide +kernel
theorem d1_23 : decode prog_45_method_1_code 23 = .ok (.newarray .int, 2) := by decide +kernel
theorem d1_25 : decode prog_45_method_1_code 25 = .ok (.putfield 16, 3) := by decide +kernel
theorem d1_28 : decode prog_45_method_1_code 28 = .ok (.aload_n 0, 1) := by decide +kernel
theorem d1_29 : decode prog_45_method_1_code 29 = .ok (.iconst 0, 1) := by decide +kernel
theorem d1_30 : decode prog_45_method_1_code 30 = .ok (.newarray .int, 2) := by decide +kernel
theorem d1_32 : decode prog_45_method_1_code 32 = .ok (.putfield 19, 3) := by decide +kernel
theorem d1_35 : decode prog_45_method_1_code 35 = .ok (.return_, 1) := by decide +kernel
theorem pn_1 : plainFor (⟨"com/example/fragmark/fragmark/TermTokens", "<init>", "()V"⟩ : MethodName) = true := by first | exact plainFor_of_name (by first | (simp [plainName, overriddenIn]; done) | decide +kernel) | decide +kernel
theorem ef_1 (m : MethodId) (a1 : Addr) : entryFrame m #[(.ref a1)] 1 = (mkF m 0 #[.val (.ref a1)] []) := by first | (simp [entryFrame, mkF, argsToLocals, Value.category]; done) | rfl
abbrev Q1 (Z : State) (a1 : Addr) (h0 : Heap) (n0 : Nat) : Option Value → Heap → List Loc → Prop := (fun v h L => v = none ∧ Fr n0 L ∧ Keep h0 h [a1] ∧ ∃ x : Addr, ∃ y : Addr, ∃ z : Addr, h0.size ≤ x ∧ h0.size ≤ y ∧ h0.size ≤ z ∧ x ≠ y ∧ x ≠ z ∧ y ≠ z ∧ Exa Z h a1 "com/example/fragmark/fragmark/TermTokens" ∧ Fld Z h a1 "com/example/fragmark/fragmark/TermTokens" "positions" "[I" (.ref x) ∧ Fld Z h a1 "com/example/fragmark/fragmark/TermTokens" "starts" "[I" (.ref y) ∧ Fld Z h a1 "com/example/fragmark/fragmark/TermTokens" "ends" "[I" (.ref z) ∧ Fld Z h a1 "com/example/fragmark/fragmark/TermTokens" "size" "I" (.int (0 : Int32)) ∧ OA Z h x .int [(.int (0 : Int32)), (.int (0 : Int32)), (.int (0 : Int32)), (.int (0 : Int32)), (.int (0 : Int32)), (.int (0 : Int32)), (.int (0 : Int32)), (.int (0 : Int32))] ∧ OA Z h y .int [(.int (0 : Int32)), (.int (0 : Int32)), (.int (0 : Int32)), (.int (0 : Int32)), (.int (0 : Int32)), (.int (0 : Int32)), (.int (0 : Int32)), (.int (0 : Int32))] ∧ OA Z h z .int [(.int (0 : Int32)), (.int (0 : Int32)), (.int (0 : Int32)), (.int (0 : Int32)), (.int (0 : Int32)), (.int (0 : Int32)), (.int (0 : Int32)), (.int (0 : Int32))])
set_option maxRecDepth 65536 in
set_option maxHeartbeats 40000000 in
theorem rm1 (l : Launch) (Z : State) (a0 : Array Value) (hw : ∀ d ∈ tables_1, d.before a0 Z = true) (ws : List Jvm.Cond) (a1 : Addr) (h0 : Heap) (n0 : Nat) (Z0 : n0 ≤ h0.size) (R0 : Exa Z h0 a1 "com/example/fragmark/fragmark/TermTokens") (R1 : Fld Z h0 a1 "com/example/fragmark/fragmark/TermTokens" "positions" "[I" .null) (R2 : Fld Z h0 a1 "com/example/fragmark/fragmark/TermTokens" "starts" "[I" .null) (R3 : Fld Z h0 a1 "com/example/fragmark/fragmark/TermTokens" "ends" "[I" .null) (R4 : Fld Z h0 a1 "com/example/fragmark/fragmark/TermTokens" "repeats" "[I" .null) (R5 : Fld Z h0 a1 "com/example/fragmark/fragmark/TermTokens" "size" "I" (.int (0 : Int32))) (g_a1 : n0 ≤ a1) :
    OMet l Z (⟨"com/example/fragmark/fragmark/TermTokens", "<init>", "()V"⟩ : MethodName) prog_45_method_1_code 1 none ws ({ frames := 1, cells := 4, slots := 24, locals := 12 } : Room) #[(.ref a1)] h0 (Q1 Z a1 h0 n0) := by
  refine own_enter pn_1 ?_
  intro p e s m below meth c s₁ hx hby hml0 hown hret hlk hnm hZ X0 e0
  have hml : c.maxLocals = 1 := hml0
  have B : BX p c prog_45_method_1_code := ⟨hx, hby⟩
  have N0 := Fr.nil n0
  refine own_cast (ef_1 m a1) ?_
  show OG p e ({ frames := 1, cells := 4, slots := 24, locals := 12 } : Room) s below (fun v h L => v = none ∧ Fr n0 L ∧ Keep h0 h [a1] ∧ ∃ x : Addr, ∃ y : Addr, ∃ z : Addr, h0.size ≤ x ∧ h0.size ≤ y ∧ h0.size ≤ z ∧ x ≠ y ∧ x ≠ z ∧ y ≠ z ∧ Exa Z h a1 "com/example/fragmark/fragmark/TermTokens" ∧ Fld Z h a1 "com/example/fragmark/fragmark/TermTokens" "positions" "[I" (.ref x) ∧ Fld Z h a1 "com/example/fragmark/fragmark/TermTokens" "starts" "[I" (.ref y) ∧ Fld Z h a1 "com/example/fragmark/fragmark/TermTokens" "ends" "[I" (.ref z) ∧ Fld Z h a1 "com/example/fragmark/fragmark/TermTokens" "size" "I" (.int (0 : Int32)) ∧ OA Z h x .int [(.int (0 : Int32)), (.int (0 : Int32)), (.int (0 : Int32)), (.int (0 : Int32)), (.int (0 : Int32)), (.int (0 : Int32)), (.int (0 : Int32)), (.int (0 : Int32))] ∧ OA Z h y .int [(.int (0 : Int32)), (.int (0 : Int32)), (.int (0 : Int32)), (.int (0 : Int32)), (.int (0 : Int32)), (.int (0 : Int32)), (.int (0 : Int32)), (.int (0 : Int32))] ∧ OA Z h z .int [(.int (0 : Int32)), (.int (0 : Int32)), (.int (0 : Int32)), (.int (0 : Int32)), (.int (0 : Int32)), (.int (0 : Int32)), (.int (0 : Int32)), (.int (0 : Int32))]) s₁ (mkF m 0 #[.val (.ref a1)] [])
  refine waloadN OGc 1 X0 B d1_0 rfl rfl rfl ?_
  obtain ⟨T1, X1, e1, st1⟩ := initO X0 hx hZ hown (ow hw 6 rfl) (ow hw 7 rfl) (ow hw 8 rfl) e0 (g := (mkF m 1 #[.val (.ref a1)] [(.ref a1)])) rfl (by rw [hml]; rfl) rfl (hb hby d1_1) (by decide) (W := 0) (by show 2 * 0 + _ ≤ _; exact Nat.le_of_eq rfl) (by decide)
  refine own_st st1 ?_
  show OG p e _ s below _ T1 (mkF m 4 #[.val (.ref a1)] [])
  refine waloadN OGc 5 X1 B d1_4 rfl rfl rfl ?_
  refine wbipush OGc 7 X1 B d1_5 8 rfl rfl ?_
  refine wnewP OGc 9 X1 B hZ (ow hw 9 rfl) e1 d1_7 8 (by decide) (by decide) rfl fun T2 h2 b2 k2 gb2 X2 e2 E2 A2 => ?_
  have ge_b2 : n0 ≤ b2 := by rw [gb2]; exact Nat.le_trans Z0 (Keep.refl h0 [a1]).1
  have sz_b2 : h0.size ≤ b2 := by rw [gb2]; exact (Keep.refl h0 [a1]).1
  have ne_a1_b2 : a1 ≠ b2 := Nat.ne_of_lt (Nat.lt_of_lt_of_eq R0.lt gb2.symm)
  have F3 := R0.ext E2
  have F4 := R1.ext E2
  have F5 := R2.ext E2
  have F6 := R3.ext E2
  have F7 := R4.ext E2
  have F8 := R5.ext E2
  have K9 := (Keep.refl h0 [a1]).ext E2
  have F10 : OA Z h2 b2 .int [(.int (0 : Int32)), (.int (0 : Int32)), (.int (0 : Int32)), (.int (0 : Int32)), (.int (0 : Int32)), (.int (0 : Int32)), (.int (0 : Int32)), (.int (0 : Int32))] := OA.new A2
  refine wputF OGc 12 X2 B hZ hown (ow hw 10 rfl) e2 F4 F3 (Or.inl (ow hw 11 rfl)) (ow hw 1 rfl) (ty := (.array .int)) (by decide) rfl rfl d1_9 rfl fun T11 h11 X11 e11 W11 => ?_
  have N11 := Fr.snoc X11 N0 g_a1
  have K12 := K9.wr W11 (Or.inl (List.mem_of_getElem? (i := 0) rfl))
  have F13 := F3.wr W11
  have F14 : Fld Z h11 a1 "com/example/fragmark/fragmark/TermTokens" "positions" "[I" (.ref b2) := (F4.same W11)
  have F15 := F5.other W11 (Or.inr (slot_ne (Or.inl (ow hw 13 rfl)) (Or.inl (ow hw 11 rfl)) (by decide) (t := (.array .int)) (t' := (.array .int)) (by decide) (by decide)))
  have F16 := F6.other W11 (Or.inr (slot_ne (Or.inl (ow hw 15 rfl)) (Or.inl (ow hw 11 rfl)) (by decide) (t := (.array .int)) (t' := (.array .int)) (by decide) (by decide)))
  have F17 := F7.other W11 (Or.inr (slot_ne (Or.inl (ow hw 17 rfl)) (Or.inl (ow hw 11 rfl)) (by decide) (t := (.array .int)) (t' := (.array .int)) (by decide) (by decide)))
  have F18 := F8.other W11 (Or.inr (slot_ne (Or.inl (ow hw 24 rfl)) (Or.inl (ow hw 11 rfl)) (by decide) (t := .int) (t' := (.array .int)) (by decide) (by decide)))
  have F19 := F10.other W11 (Ne.symm ne_a1_b2)
  refine waloadN OGc 13 X11 B d1_12 rfl rfl rfl ?_
  refine wbipush OGc 15 X11 B d1_13 8 rfl rfl ?_
  refine wnewP OGc 17 X11 B hZ (ow hw 9 rfl) e11 d1_15 8 (by decide) (by decide) rfl fun T20 h20 b20 k20 gb20 X20 e20 E20 A20 => ?_
  have ge_b20 : n0 ≤ b20 := by rw [gb20]; exact Nat.le_trans Z0 K12.1
  have sz_b20 : h0.size ≤ b20 := by rw [gb20]; exact K12.1
  have ne_a1_b20 : a1 ≠ b20 := Nat.ne_of_lt (Nat.lt_of_lt_of_eq F13.lt gb20.symm)
  have ne_b2_b20 : b2 ≠ b20 := Nat.ne_of_lt (Nat.lt_of_lt_of_eq F19.lt gb20.symm)
  have F21 := F13.ext E20
  have F22 := F14.ext E20
  have F23 := F15.ext E20
  have F24 := F16.ext E20
  have F25 := F17.ext E20
  have F26 := F18.ext E20
  have F27 := F19.ext E20
  have K28 := K12.ext E20
  have F29 : OA Z h20 b20 .int [(.int (0 : Int32)), (.int (0 : Int32)), (.int (0 : Int32)), (.int (0 : Int32)), (.int (0 : Int32)), (.int (0 : Int32)), (.int (0 : Int32)), (.int (0 : Int32))] := OA.new A20
  refine wputF OGc 20 X20 B hZ hown (ow hw 12 rfl) e20 F23 F21 (Or.inl (ow hw 13 rfl)) (ow hw 1 rfl) (ty := (.array .int)) (by decide) rfl rfl d1_17 rfl fun T30 h30 X30 e30 W30 => ?_
  have N30 := Fr.snoc X30 N11 g_a1
  have K31 := K28.wr W30 (Or.inl (List.mem_of_getElem? (i := 0) rfl))
  have F32 := F21.wr W30
  have F33 := F22.other W30 (Or.inr (slot_ne (Or.inl (ow hw 11 rfl)) (Or.inl (ow hw 13 rfl)) (by decide) (t := (.array .int)) (t' := (.array .int)) (by decide) (by decide)))
  have F34 : Fld Z h30 a1 "com/example/fragmark/fragmark/TermTokens" "starts" "[I" (.ref b20) := (F23.same W30)
  have F35 := F24.other W30 (Or.inr (slot_ne (Or.inl (ow hw 15 rfl)) (Or.inl (ow hw 13 rfl)) (by decide) (t := (.array .int)) (t' := (.array .int)) (by decide) (by decide)))
  have F36 := F25.other W30 (Or.inr (slot_ne (Or.inl (ow hw 17 rfl)) (Or.inl (ow hw 13 rfl)) (by decide) (t := (.array .int)) (t' := (.array .int)) (by decide) (by decide)))
  have F37 := F26.other W30 (Or.inr (slot_ne (Or.inl (ow hw 24 rfl)) (Or.inl (ow hw 13 rfl)) (by decide) (t := .int) (t' := (.array .int)) (by decide) (by decide)))
  have F38 := F27.other W30 (Ne.symm ne_a1_b2)
  have F39 := F29.other W30 (Ne.symm ne_a1_b20)
  refine waloadN OGc 21 X30 B d1_20 rfl rfl rfl ?_
  refine wbipush OGc 23 X30 B d1_21 8 rfl rfl ?_
  refine wnewP OGc 25 X30 B hZ (ow hw 9 rfl) e30 d1_23 8 (by decide) (by decide) rfl fun T40 h40 b40 k40 gb40 X40 e40 E40 A40 => ?_
  have ge_b40 : n0 ≤ b40 := by rw [gb40]; exact Nat.le_trans Z0 K31.1
  have sz_b40 : h0.size ≤ b40 := by rw [gb40]; exact K31.1
  have ne_a1_b40 : a1 ≠ b40 := Nat.ne_of_lt (Nat.lt_of_lt_of_eq F32.lt gb40.symm)
  have ne_b2_b40 : b2 ≠ b40 := Nat.ne_of_lt (Nat.lt_of_lt_of_eq F38.lt gb40.symm)
  have ne_b20_b40 : b20 ≠ b40 := Nat.ne_of_lt (Nat.lt_of_lt_of_eq F39.lt gb40.symm)
  have F41 := F32.ext E40
  have F42 := F33.ext E40
  have F43 := F34.ext E40
  have F44 := F35.ext E40
  have F45 := F36.ext E40
  have F46 := F37.ext E40
  have F47 := F38.ext E40
  have F48 := F39.ext E40
  have K49 := K31.ext E40
  have F50 : OA Z h40 b40 .int [(.int (0 : Int32)), (.int (0 : Int32)), (.int (0 : Int32)), (.int (0 : Int32)), (.int (0 : Int32)), (.int (0 : Int32)), (.int (0 : Int32)), (.int (0 : Int32))] := OA.new A40
  refine wputF OGc 28 X40 B hZ hown (ow hw 14 rfl) e40 F44 F41 (Or.inl (ow hw 15 rfl)) (ow hw 1 rfl) (ty := (.array .int)) (by decide) rfl rfl d1_25 rfl fun T51 h51 X51 e51 W51 => ?_
  have N51 := Fr.snoc X51 N30 g_a1
  have K52 := K49.wr W51 (Or.inl (List.mem_of_getElem? (i := 0) rfl))
  have F53 := F41.wr W51
  have F54 := F42.other W51 (Or.inr (slot_ne (Or.inl (ow hw 11 rfl)) (Or.inl (ow hw 15 rfl)) (by decide) (t := (.array .int)) (t' := (.array .int)) (by decide) (by decide)))
  have F55 := F43.other W51 (Or.inr (slot_ne (Or.inl (ow hw 13 rfl)) (Or.inl (ow hw 15 rfl)) (by decide) (t := (.array .int)) (t' := (.array .int)) (by decide) (by decide)))
  have F56 : Fld Z h51 a1 "com/example/fragmark/fragmark/TermTokens" "ends" "[I" (.ref b40) := (F44.same W51)
  have F57 := F45.other W51 (Or.inr (slot_ne (Or.inl (ow hw 17 rfl)) (Or.inl (ow hw 15 rfl)) (by decide) (t := (.array .int)) (t' := (.array .int)) (by decide) (by decide)))
  have F58 := F46.other W51 (Or.inr (slot_ne (Or.inl (ow hw 24 rfl)) (Or.inl (ow hw 15 rfl)) (by decide) (t := .int) (t' := (.array .int)) (by decide) (by decide)))
  have F59 := F47.other W51 (Ne.symm ne_a1_b2)
  have F60 := F48.other W51 (Ne.symm ne_a1_b20)
  have F61 := F50.other W51 (Ne.symm ne_a1_b40)
  refine waloadN OGc 29 X51 B d1_28 rfl rfl rfl ?_
  refine wiconst OGc 30 X51 B d1_29 0 rfl rfl ?_
  refine wnewP OGc 32 X51 B hZ (ow hw 9 rfl) e51 d1_30 0 (by decide) (by decide) rfl fun T62 h62 b62 k62 gb62 X62 e62 E62 A62 => ?_
  have ge_b62 : n0 ≤ b62 := by rw [gb62]; exact Nat.le_trans Z0 K52.1
  have sz_b62 : h0.size ≤ b62 := by rw [gb62]; exact K52.1
  have ne_a1_b62 : a1 ≠ b62 := Nat.ne_of_lt (Nat.lt_of_lt_of_eq F53.lt gb62.symm)
  have ne_b2_b62 : b2 ≠ b62 := Nat.ne_of_lt (Nat.lt_of_lt_of_eq F59.lt gb62.symm)
  have ne_b20_b62 : b20 ≠ b62 := Nat.ne_of_lt (Nat.lt_of_lt_of_eq F60.lt gb62.symm)
  have ne_b40_b62 : b40 ≠ b62 := Nat.ne_of_lt (Nat.lt_of_lt_of_eq F61.lt gb62.symm)
  have F63 := F53.ext E62
  have F64 := F54.ext E62
  have F65 := F55.ext E62
  have F66 := F56.ext E62
  have F67 := F57.ext E62
  have F68 := F58.ext E62
  have F69 := F59.ext E62
  have F70 := F60.ext E62
  have F71 := F61.ext E62
  have K72 := K52.ext E62
  have F73 : OA Z h62 b62 .int [] := OA.new A62
  refine wputF OGc 35 X62 B hZ hown (ow hw 16 rfl) e62 F67 F63 (Or.inl (ow hw 17 rfl)) (ow hw 1 rfl) (ty := (.array .int)) (by decide) rfl rfl d1_32 rfl fun T74 h74 X74 e74 W74 => ?_
  have N74 := Fr.snoc X74 N51 g_a1
  have K75 := K72.wr W74 (Or.inl (List.mem_of_getElem? (i := 0) rfl))
  have F76 := F63.wr W74
  have F77 := F64.other W74 (Or.inr (slot_ne (Or.inl (ow hw 11 rfl)) (Or.inl (ow hw 17 rfl)) (by decide) (t := (.array .int)) (t' := (.array .int)) (by decide) (by decide)))
  have F78 := F65.other W74 (Or.inr (slot_ne (Or.inl (ow hw 13 rfl)) (Or.inl (ow hw 17 rfl)) (by decide) (t := (.array .int)) (t' := (.array .int)) (by decide) (by decide)))
  have F79 := F66.other W74 (Or.inr (slot_ne (Or.inl (ow hw 15 rfl)) (Or.inl (ow hw 17 rfl)) (by decide) (t := (.array .int)) (t' := (.array .int)) (by decide) (by decide)))
  have F80 : Fld Z h74 a1 "com/example/fragmark/fragmark/TermTokens" "repeats" "[I" (.ref b62) := (F67.same W74)
  have F81 := F68.other W74 (Or.inr (slot_ne (Or.inl (ow hw 24 rfl)) (Or.inl (ow hw 17 rfl)) (by decide) (t := .int) (t' := (.array .int)) (by decide) (by decide)))
  have F82 := F69.other W74 (Ne.symm ne_a1_b2)
  have F83 := F70.other W74 (Ne.symm ne_a1_b20)
  have F84 := F71.other W74 (Ne.symm ne_a1_b40)
  have F85 := F73.other W74 (Ne.symm ne_a1_b62)
  refine own_ret0 X74 hx hret hlk (hb hby d1_35) (by decide) (by decide) ?_
  rw [e74]
  exact ⟨rfl, N74, K75, b2, b20, b40, sz_b2, sz_b20, sz_b40, ne_b2_b20, ne_b2_b40, ne_b20_b40, F76, F77, F78, F79, F81, F82, F83, F84⟩
theorem d3_0 : decode prog_45_method_2_code 0 = .ok (.aload_n 0, 1) := by decide +kernel
theorem d3_1 : decode prog_45_method_2_code 1 = .ok (.getfield 22, 3) := by decide +kernel
theorem d3_4 : decode prog_45_method_2_code 4 = .ok (.ifCond .le 55, 3) := by decide +kernel
theorem d3_59 : decode prog_45_method_2_code 59 = .ok (.aload_n 0, 1) := by decide +kernel
theorem d3_60 : decode prog_45_method_2_code 60 = .ok (.getfield 22, 3) := by decide +kernel
theorem d3_63 : decode prog_45_method_2_code 63 = .ok (.aload_n 0, 1) := by decide +kernel
theorem d3_64 : decode prog_45_method_2_code 64 = .ok (.getfield 7, 3) := by decide +kernel
theorem d3_67 : decode prog_45_method_2_code 67 = .ok (.arraylength, 1) := by decide +kernel
theorem d3_68 : decode prog_45_method_2_code 68 = .ok (.if_icmp .ne 55, 3) := by decide +kernel
theorem d3_123 : decode prog_45_method_2_code 123 = .ok (.aload_n 0, 1) := by decide +kernel
theorem d3_124 : decode prog_45_method_2_code 124 = .ok (.getfield 7, 3) := by decide +kernel
theorem d3_127 : decode prog_45_method_2_code 127 = .ok (.aload_n 0, 1) := by decide +kernel
theorem d3_128 : decode prog_45_method_2_code 128 = .ok (.getfield 22, 3) := by decide +kernel
theorem d3_131 : decode prog_45_method_2_code 131 = .ok (.iload_n 1, 1) := by decide +kernel
theorem d3_132 : decode prog_45_method_2_code 132 = .ok (.iastore, 1) := by decide +kernel
theorem d3_133 : decode prog_45_method_2_code 133 = .ok (.aload_n 0, 1) := by decide +kernel
theorem d3_134 : decode prog_45_method_2_code 134 = .ok (.getfield 13, 3) := by decide +kernel
theorem d3_137 : decode prog_45_method_2_code 137 = .ok (.aload_n 0, 1) := by decide +kernel
theorem d3_138 : decode prog_45_method_2_code 138 = .ok (.getfield 22, 3) := by decide +kernel
theorem d3_141 : decode prog_45_method_2_code 141 = .ok (.iload_n 2, 1) := by decide +kernel
theorem d3_142 : decode prog_45_method_2_code 142 = .ok (.iastore, 1) := by decide +kernel
theorem d3_143 : decode prog_45_method_2_code 143 = .ok (.aload_n 0, 1) := by decide +kernel
theorem d3_144 : decode prog_45_method_2_code 144 = .ok (.getfield 16, 3) := by decide +kernel
theorem d3_147 : decode prog_45_method_2_code 147 = .ok (.aload_n 0, 1) := by decide +kernel
theorem d3_148 : decode prog_45_method_2_code 148 = .ok (.getfield 22, 3) := by decide +kernel
theorem d3_151 : decode prog_45_method_2_code 151 = .ok (.iload_n 3, 1) := by decide +kernel
theorem d3_152 : decode prog_45_method_2_code 152 = .ok (.iastore, 1) := by decide +kernel
theorem d3_153 : decode prog_45_method_2_code 153 = .ok (.aload_n 0, 1) := by decide +kernel
theorem d3_154 : decode prog_45_method_2_code 154 = .ok (.dup, 1) := by decide +kernel
theorem d3_155 : decode prog_45_method_2_code 155 = .ok (.getfield 22, 3) := by decide +kernel
theorem d3_158 : decode prog_45_method_2_code 158 = .ok (.iconst 1, 1) := by decide +kernel
theorem d3_159 : decode prog_45_method_2_code 159 = .ok (.iadd, 1) := by decide +kernel
theorem d3_160 : decode prog_45_method_2_code 160 = .ok (.putfield 22, 3) := by decide +kernel
theorem d3_163 : decode prog_45_method_2_code 163 = .ok (.return_, 1) := by decide +kernel
theorem pn_3 : plainFor (⟨"com/example/fragmark/fragmark/TermTokens", "add", "(III)V"⟩ : MethodName) = true := by first | exact plainFor_of_name (by first | (simp [plainName, overriddenIn]; done) | decide +kernel) | decide +kernel
theorem ef_3_0 (m : MethodId) (a1 : Addr) : entryFrame m #[(.ref a1), (.int (0 : Int32)), (.int (0 : Int32)), (.int (1 : Int32))] 5 = (mkF m 0 #[.val (.ref a1), .val (.int (0 : Int32)), .val (.int (0 : Int32)), .val (.int (1 : Int32)), .unset] []) := by first | (simp [entryFrame, mkF, argsToLocals, Value.category]; done) | rfl
abbrev Q3_0 (Z : State) (a1 : Addr) (x : Addr) (y : Addr) (z : Addr) (h0 : Heap) (n0 : Nat) : Option Value → Heap → List Loc → Prop := (fun v h L => v = none ∧ Fr n0 L ∧ Keep h0 h [a1, x, y, z] ∧ Exa Z h a1 "com/example/fragmark/fragmark/TermTokens" ∧ Fld Z h a1 "com/example/fragmark/fragmark/TermTokens" "positions" "[I" (.ref x) ∧ Fld Z h a1 "com/example/fragmark/fragmark/TermTokens" "starts" "[I" (.ref y) ∧ Fld Z h a1 "com/example/fragmark/fragmark/TermTokens" "ends" "[I" (.ref z) ∧ Fld Z h a1 "com/example/fragmark/fragmark/TermTokens" "size" "I" (.int (1 : Int32)) ∧ OA Z h x .int [(.int (0 : Int32)), (.int (0 : Int32)), (.int (0 : Int32)), (.int (0 : Int32)), (.int (0 : Int32)), (.int (0 : Int32)), (.int (0 : Int32)), (.int (0 : Int32))] ∧ OA Z h y .int [(.int (0 : Int32)), (.int (0 : Int32)), (.int (0 : Int32)), (.int (0 : Int32)), (.int (0 : Int32)), (.int (0 : Int32)), (.int (0 : Int32)), (.int (0 : Int32))] ∧ OA Z h z .int [(.int (1 : Int32)), (.int (0 : Int32)), (.int (0 : Int32)), (.int (0 : Int32)), (.int (0 : Int32)), (.int (0 : Int32)), (.int (0 : Int32)), (.int (0 : Int32))])
set_option maxRecDepth 65536 in
set_option maxHeartbeats 40000000 in
theorem rm3_0 (l : Launch) (Z : State) (a0 : Array Value) (hw : ∀ d ∈ tables_1, d.before a0 Z = true) (ws : List Jvm.Cond) (a1 : Addr) (x : Addr) (y : Addr) (z : Addr) (h0 : Heap) (n0 : Nat) (R0 : Exa Z h0 a1 "com/example/fragmark/fragmark/TermTokens") (R1 : Fld Z h0 a1 "com/example/fragmark/fragmark/TermTokens" "positions" "[I" (.ref x)) (R2 : Fld Z h0 a1 "com/example/fragmark/fragmark/TermTokens" "starts" "[I" (.ref y)) (R3 : Fld Z h0 a1 "com/example/fragmark/fragmark/TermTokens" "ends" "[I" (.ref z)) (R4 : Fld Z h0 a1 "com/example/fragmark/fragmark/TermTokens" "size" "I" (.int (0 : Int32))) (R5 : OA Z h0 x .int [(.int (0 : Int32)), (.int (0 : Int32)), (.int (0 : Int32)), (.int (0 : Int32)), (.int (0 : Int32)), (.int (0 : Int32)), (.int (0 : Int32)), (.int (0 : Int32))]) (R6 : OA Z h0 y .int [(.int (0 : Int32)), (.int (0 : Int32)), (.int (0 : Int32)), (.int (0 : Int32)), (.int (0 : Int32)), (.int (0 : Int32)), (.int (0 : Int32)), (.int (0 : Int32))]) (R7 : OA Z h0 z .int [(.int (0 : Int32)), (.int (0 : Int32)), (.int (0 : Int32)), (.int (0 : Int32)), (.int (0 : Int32)), (.int (0 : Int32)), (.int (0 : Int32)), (.int (0 : Int32))]) (g_a1 : n0 ≤ a1) (g_x : n0 ≤ x) (g_y : n0 ≤ y) (g_z : n0 ≤ z) (ne_a1_x : a1 ≠ x) (ne_a1_y : a1 ≠ y) (ne_a1_z : a1 ≠ z) (ne_x_y : x ≠ y) (ne_x_z : x ≠ z) (ne_y_z : y ≠ z) :
    OMet l Z (⟨"com/example/fragmark/fragmark/TermTokens", "add", "(III)V"⟩ : MethodName) prog_45_method_2_code 5 none ws ({ frames := 0, cells := 0, slots := 0, locals := 0 } : Room) #[(.ref a1), (.int (0 : Int32)), (.int (0 : Int32)), (.int (1 : Int32))] h0 (Q3_0 Z a1 x y z h0 n0) := by
  refine own_enter pn_3 ?_
  intro p e s m below meth c s₁ hx hby hml0 hown hret hlk hnm hZ X0 e0
  have hml : c.maxLocals = 5 := hml0
  have B : BX p c prog_45_method_2_code := ⟨hx, hby⟩
  have N0 := Fr.nil n0
  refine own_cast (ef_3_0 m a1) ?_
  show OG p e ({ frames := 0, cells := 0, slots := 0, locals := 0 } : Room) s below (fun v h L => v = none ∧ Fr n0 L ∧ Keep h0 h [a1, x, y, z] ∧ Exa Z h a1 "com/example/fragmark/fragmark/TermTokens" ∧ Fld Z h a1 "com/example/fragmark/fragmark/TermTokens" "positions" "[I" (.ref x) ∧ Fld Z h a1 "com/example/fragmark/fragmark/TermTokens" "starts" "[I" (.ref y) ∧ Fld Z h a1 "com/example/fragmark/fragmark/TermTokens" "ends" "[I" (.ref z) ∧ Fld Z h a1 "com/example/fragmark/fragmark/TermTokens" "size" "I" (.int (1 : Int32)) ∧ OA Z h x .int [(.int (0 : Int32)), (.int (0 : Int32)), (.int (0 : Int32)), (.int (0 : Int32)), (.int (0 : Int32)), (.int (0 : Int32)), (.int (0 : Int32)), (.int (0 : Int32))] ∧ OA Z h y .int [(.int (0 : Int32)), (.int (0 : Int32)), (.int (0 : Int32)), (.int (0 : Int32)), (.int (0 : Int32)), (.int (0 : Int32)), (.int (0 : Int32)), (.int (0 : Int32))] ∧ OA Z h z .int [(.int (1 : Int32)), (.int (0 : Int32)), (.int (0 : Int32)), (.int (0 : Int32)), (.int (0 : Int32)), (.int (0 : Int32)), (.int (0 : Int32)), (.int (0 : Int32))]) s₁ (mkF m 0 #[.val (.ref a1), .val (.int (0 : Int32)), .val (.int (0 : Int32)), .val (.int (1 : Int32)), .unset] [])
  refine waloadN OGc 1 X0 B d3_0 rfl rfl rfl ?_
  refine wgetF OGc 4 X0 B hZ hown (ow hw 23 rfl) e0 R4 d3_1 rfl fun T1 X1 e1 => ?_
  refine wifYes OGc 59 X1 B d3_4 (by decide) rfl ?_
  refine waloadN OGc 60 X1 B d3_59 rfl rfl rfl ?_
  refine wgetF OGc 63 X1 B hZ hown (ow hw 23 rfl) e1 R4 d3_60 rfl fun T2 X2 e2 => ?_
  refine waloadN OGc 64 X2 B d3_63 rfl rfl rfl ?_
  refine wgetF OGc 67 X2 B hZ hown (ow hw 10 rfl) e2 R1 d3_64 rfl fun T3 X3 e3 => ?_
  refine warlenA OGc 68 X3 B hZ e3 R5 (8 : Int32) rfl d3_67 rfl ?_
  refine wicmpYes OGc 123 X3 B d3_68 (by decide) rfl ?_
  refine waloadN OGc 124 X3 B d3_123 rfl rfl rfl ?_
  refine wgetF OGc 127 X3 B hZ hown (ow hw 10 rfl) e3 R1 d3_124 rfl fun T5 X5 e5 => ?_
  refine waloadN OGc 128 X5 B d3_127 rfl rfl rfl ?_
  refine wgetF OGc 131 X5 B hZ hown (ow hw 23 rfl) e5 R4 d3_128 rfl fun T6 X6 e6 => ?_
  refine wiloadN OGc 132 X6 B d3_131 rfl rfl ?_
  refine wstI OGc 133 X6 B hZ e6 R5 0 (by decide) (by decide) (by decide : 0 < 8) d3_132 rfl fun T7 h7 X7 e7 W7 => ?_
  have N7 := Fr.snoc X7 N0 g_x
  have K8 := (Keep.refl h0 [a1, x, y, z]).wr W7 (Or.inl (List.mem_of_getElem? (i := 1) rfl))
  have F9 := R0.wr W7
  have F10 := R1.other W7 (Or.inl ne_a1_x)
  have F11 := R2.other W7 (Or.inl ne_a1_x)
  have F12 := R3.other W7 (Or.inl ne_a1_x)
  have F13 := R4.other W7 (Or.inl ne_a1_x)
  have F14 : OA Z h7 x .int [(.int (0 : Int32)), (.int (0 : Int32)), (.int (0 : Int32)), (.int (0 : Int32)), (.int (0 : Int32)), (.int (0 : Int32)), (.int (0 : Int32)), (.int (0 : Int32))] := (R5.set W7 (i := 0) (by decide))
  have F15 := R6.other W7 (Ne.symm ne_x_y)
  have F16 := R7.other W7 (Ne.symm ne_x_z)
  refine waloadN OGc 134 X7 B d3_133 rfl rfl rfl ?_
  refine wgetF OGc 137 X7 B hZ hown (ow hw 12 rfl) e7 F11 d3_134 rfl fun T17 X17 e17 => ?_
  refine waloadN OGc 138 X17 B d3_137 rfl rfl rfl ?_
  refine wgetF OGc 141 X17 B hZ hown (ow hw 23 rfl) e17 F13 d3_138 rfl fun T18 X18 e18 => ?_
  refine wiloadN OGc 142 X18 B d3_141 rfl rfl ?_
  refine wstI OGc 143 X18 B hZ e18 F15 0 (by decide) (by decide) (by decide : 0 < 8) d3_142 rfl fun T19 h19 X19 e19 W19 => ?_
  have N19 := Fr.snoc X19 N7 g_y
  have K20 := K8.wr W19 (Or.inl (List.mem_of_getElem? (i := 2) rfl))
  have F21 := F9.wr W19
  have F22 := F10.other W19 (Or.inl ne_a1_y)
  have F23 := F11.other W19 (Or.inl ne_a1_y)
  have F24 := F12.other W19 (Or.inl ne_a1_y)
  have F25 := F13.other W19 (Or.inl ne_a1_y)
  have F26 := F14.other W19 ne_x_y
  have F27 : OA Z h19 y .int [(.int (0 : Int32)), (.int (0 : Int32)), (.int (0 : Int32)), (.int (0 : Int32)), (.int (0 : Int32)), (.int (0 : Int32)), (.int (0 : Int32)), (.int (0 : Int32))] := (F15.set W19 (i := 0) (by decide))
  have F28 := F16.other W19 (Ne.symm ne_y_z)
  refine waloadN OGc 144 X19 B d3_143 rfl rfl rfl ?_
  refine wgetF OGc 147 X19 B hZ hown (ow hw 14 rfl) e19 F24 d3_144 rfl fun T29 X29 e29 => ?_
  refine waloadN OGc 148 X29 B d3_147 rfl rfl rfl ?_
  refine wgetF OGc 151 X29 B hZ hown (ow hw 23 rfl) e29 F25 d3_148 rfl fun T30 X30 e30 => ?_
  refine wiloadN OGc 152 X30 B d3_151 rfl rfl ?_
  refine wstI OGc 153 X30 B hZ e30 F28 0 (by decide) (by decide) (by decide : 0 < 8) d3_152 rfl fun T31 h31 X31 e31 W31 => ?_
  have N31 := Fr.snoc X31 N19 g_z
  have K32 := K20.wr W31 (Or.inl (List.mem_of_getElem? (i := 3) rfl))
  have F33 := F21.wr W31
  have F34 := F22.other W31 (Or.inl ne_a1_z)
  have F35 := F23.other W31 (Or.inl ne_a1_z)
  have F36 := F24.other W31 (Or.inl ne_a1_z)
  have F37 := F25.other W31 (Or.inl ne_a1_z)
  have F38 := F26.other W31 ne_x_z
  have F39 := F27.other W31 ne_y_z
  have F40 : OA Z h31 z .int [(.int (1 : Int32)), (.int (0 : Int32)), (.int (0 : Int32)), (.int (0 : Int32)), (.int (0 : Int32)), (.int (0 : Int32)), (.int (0 : Int32)), (.int (0 : Int32))] := (F28.set W31 (i := 0) (by decide))
  refine waloadN OGc 154 X31 B d3_153 rfl rfl rfl ?_
  refine wdup OGc 155 X31 B d3_154 rfl rfl ?_
  refine wgetF OGc 158 X31 B hZ hown (ow hw 23 rfl) e31 F37 d3_155 rfl fun T41 X41 e41 => ?_
  refine wiconst OGc 159 X41 B d3_158 1 rfl rfl ?_
  refine wiadd OGc 160 X41 B d3_159 rfl ?_
  show OG p e _ s below _ T41 (mkF m 160 #[.val (.ref a1), .val (.int (0 : Int32)), .val (.int (0 : Int32)), .val (.int (1 : Int32)), .unset] [(.int (1 : Int32)), (.ref a1)])
  refine wputF OGc 163 X41 B hZ hown (ow hw 23 rfl) e41 F37 F33 (Or.inl (ow hw 24 rfl)) (ow hw 1 rfl) (ty := .int) (by decide) rfl rfl d3_160 rfl fun T42 h42 X42 e42 W42 => ?_
  have N42 := Fr.snoc X42 N31 g_a1
  have K43 := K32.wr W42 (Or.inl (List.mem_of_getElem? (i := 0) rfl))
  have F44 := F33.wr W42
  have F45 := F34.other W42 (Or.inr (slot_ne (Or.inl (ow hw 11 rfl)) (Or.inl (ow hw 24 rfl)) (by decide) (t := (.array .int)) (t' := .int) (by decide) (by decide)))
  have F46 := F35.other W42 (Or.inr (slot_ne (Or.inl (ow hw 13 rfl)) (Or.inl (ow hw 24 rfl)) (by decide) (t := (.array .int)) (t' := .int) (by decide) (by decide)))
  have F47 := F36.other W42 (Or.inr (slot_ne (Or.inl (ow hw 15 rfl)) (Or.inl (ow hw 24 rfl)) (by decide) (t := (.array .int)) (t' := .int) (by decide) (by decide)))
  have F48 : Fld Z h42 a1 "com/example/fragmark/fragmark/TermTokens" "size" "I" (.int (1 : Int32)) := (F37.same W42)
  have F49 := F38.other W42 (Ne.symm ne_a1_x)
  have F50 := F39.other W42 (Ne.symm ne_a1_y)
  have F51 := F40.other W42 (Ne.symm ne_a1_z)
  refine own_ret0 X42 hx hret hlk (hb hby d3_163) (by decide) (by decide) ?_
  rw [e42]
  exact ⟨rfl, N42, K43, F44, F45, F46, F47, F48, F49, F50, F51⟩
theorem d3_7 : decode prog_45_method_2_code 7 = .ok (.iload_n 1, 1) := by decide +kernel
theorem d3_8 : decode prog_45_method_2_code 8 = .ok (.aload_n 0, 1) := by decide +kernel
theorem d3_9 : decode prog_45_method_2_code 9 = .ok (.getfield 7, 3) := by decide +kernel
theorem d3_12 : decode prog_45_method_2_code 12 = .ok (.aload_n 0, 1) := by decide +kernel
theorem d3_13 : decode prog_45_method_2_code 13 = .ok (.getfield 22, 3) := by decide +kernel
theorem d3_16 : decode prog_45_method_2_code 16 = .ok (.iconst 1, 1) := by decide +kernel
theorem d3_17 : decode prog_45_method_2_code 17 = .ok (.isub, 1) := by decide +kernel
theorem d3_18 : decode prog_45_method_2_code 18 = .ok (.iaload, 1) := by decide +kernel
theorem d3_19 : decode prog_45_method_2_code 19 = .ok (.if_icmp .ne 40, 3) := by decide +kernel
theorem ef_3_1 (m : MethodId) (a1 : Addr) : entryFrame m #[(.ref a1), (.int (1 : Int32)), (.int (1 : Int32)), (.int (2 : Int32))] 5 = (mkF m 0 #[.val (.ref a1), .val (.int (1 : Int32)), .val (.int (1 : Int32)), .val (.int (2 : Int32)), .unset] []) := by first | (simp [entryFrame, mkF, argsToLocals, Value.category]; done) | rfl
abbrev Q3_1 (Z : State) (a1 : Addr) (x : Addr) (y : Addr) (z : Addr) (h0 : Heap) (n0 : Nat) : Option Value → Heap → List Loc → Prop := (fun v h L => v = none ∧ Fr n0 L ∧ Keep h0 h [a1, x, y, z] ∧ Exa Z h a1 "com/example/fragmark/fragmark/TermTokens" ∧ Fld Z h a1 "com/example/fragmark/fragmark/TermTokens" "positions" "[I" (.ref x) ∧ Fld Z h a1 "com/example/fragmark/fragmark/TermTokens" "starts" "[I" (.ref y) ∧ Fld Z h a1 "com/example/fragmark/fragmark/TermTokens" "ends" "[I" (.ref z) ∧ Fld Z h a1 "com/example/fragmark/fragmark/TermTokens" "size" "I" (.int (2 : Int32)) ∧ OA Z h x .int [(.int (0 : Int32)), (.int (1 : Int32)), (.int (0 : Int32)), (.int (0 : Int32)), (.int (0 : Int32)), (.int (0 : Int32)), (.int (0 : Int32)), (.int (0 : Int32))] ∧ OA Z h y .int [(.int (0 : Int32)), (.int (1 : Int32)), (.int (0 : Int32)), (.int (0 : Int32)), (.int (0 : Int32)), (.int (0 : Int32)), (.int (0 : Int32)), (.int (0 : Int32))] ∧ OA Z h z .int [(.int (1 : Int32)), (.int (2 : Int32)), (.int (0 : Int32)), (.int (0 : Int32)), (.int (0 : Int32)), (.int (0 : Int32)), (.int (0 : Int32)), (.int (0 : Int32))])
set_option maxRecDepth 65536 in
set_option maxHeartbeats 40000000 in
theorem rm3_1 (l : Launch) (Z : State) (a0 : Array Value) (hw : ∀ d ∈ tables_1, d.before a0 Z = true) (ws : List Jvm.Cond) (a1 : Addr) (x : Addr) (y : Addr) (z : Addr) (h0 : Heap) (n0 : Nat) (R0 : Exa Z h0 a1 "com/example/fragmark/fragmark/TermTokens") (R1 : Fld Z h0 a1 "com/example/fragmark/fragmark/TermTokens" "positions" "[I" (.ref x)) (R2 : Fld Z h0 a1 "com/example/fragmark/fragmark/TermTokens" "starts" "[I" (.ref y)) (R3 : Fld Z h0 a1 "com/example/fragmark/fragmark/TermTokens" "ends" "[I" (.ref z)) (R4 : Fld Z h0 a1 "com/example/fragmark/fragmark/TermTokens" "size" "I" (.int (1 : Int32))) (R5 : OA Z h0 x .int [(.int (0 : Int32)), (.int (0 : Int32)), (.int (0 : Int32)), (.int (0 : Int32)), (.int (0 : Int32)), (.int (0 : Int32)), (.int (0 : Int32)), (.int (0 : Int32))]) (R6 : OA Z h0 y .int [(.int (0 : Int32)), (.int (0 : Int32)), (.int (0 : Int32)), (.int (0 : Int32)), (.int (0 : Int32)), (.int (0 : Int32)), (.int (0 : Int32)), (.int (0 : Int32))]) (R7 : OA Z h0 z .int [(.int (1 : Int32)), (.int (0 : Int32)), (.int (0 : Int32)), (.int (0 : Int32)), (.int (0 : Int32)), (.int (0 : Int32)), (.int (0 : Int32)), (.int (0 : Int32))]) (g_a1 : n0 ≤ a1) (g_x : n0 ≤ x) (g_y : n0 ≤ y) (g_z : n0 ≤ z) (ne_a1_x : a1 ≠ x) (ne_a1_y : a1 ≠ y) (ne_a1_z : a1 ≠ z) (ne_x_y : x ≠ y) (ne_x_z : x ≠ z) (ne_y_z : y ≠ z) :
    OMet l Z (⟨"com/example/fragmark/fragmark/TermTokens", "add", "(III)V"⟩ : MethodName) prog_45_method_2_code 5 none ws ({ frames := 0, cells := 0, slots := 0, locals := 0 } : Room) #[(.ref a1), (.int (1 : Int32)), (.int (1 : Int32)), (.int (2 : Int32))] h0 (Q3_1 Z a1 x y z h0 n0) := by
  refine own_enter pn_3 ?_
  intro p e s m below meth c s₁ hx hby hml0 hown hret hlk hnm hZ X0 e0
  have hml : c.maxLocals = 5 := hml0
  have B : BX p c prog_45_method_2_code := ⟨hx, hby⟩
  have N0 := Fr.nil n0
  refine own_cast (ef_3_1 m a1) ?_
  show OG p e ({ frames := 0, cells := 0, slots := 0, locals := 0 } : Room) s below (fun v h L => v = none ∧ Fr n0 L ∧ Keep h0 h [a1, x, y, z] ∧ Exa Z h a1 "com/example/fragmark/fragmark/TermTokens" ∧ Fld Z h a1 "com/example/fragmark/fragmark/TermTokens" "positions" "[I" (.ref x) ∧ Fld Z h a1 "com/example/fragmark/fragmark/TermTokens" "starts" "[I" (.ref y) ∧ Fld Z h a1 "com/example/fragmark/fragmark/TermTokens" "ends" "[I" (.ref z) ∧ Fld Z h a1 "com/example/fragmark/fragmark/TermTokens" "size" "I" (.int (2 : Int32)) ∧ OA Z h x .int [(.int (0 : Int32)), (.int (1 : Int32)), (.int (0 : Int32)), (.int (0 : Int32)), (.int (0 : Int32)), (.int (0 : Int32)), (.int (0 : Int32)), (.int (0 : Int32))] ∧ OA Z h y .int [(.int (0 : Int32)), (.int (1 : Int32)), (.int (0 : Int32)), (.int (0 : Int32)), (.int (0 : Int32)), (.int (0 : Int32)), (.int (0 : Int32)), (.int (0 : Int32))] ∧ OA Z h z .int [(.int (1 : Int32)), (.int (2 : Int32)), (.int (0 : Int32)), (.int (0 : Int32)), (.int (0 : Int32)), (.int (0 : Int32)), (.int (0 : Int32)), (.int (0 : Int32))]) s₁ (mkF m 0 #[.val (.ref a1), .val (.int (1 : Int32)), .val (.int (1 : Int32)), .val (.int (2 : Int32)), .unset] [])
  refine waloadN OGc 1 X0 B d3_0 rfl rfl rfl ?_
  refine wgetF OGc 4 X0 B hZ hown (ow hw 23 rfl) e0 R4 d3_1 rfl fun T1 X1 e1 => ?_
  refine wifNo OGc 7 X1 B d3_4 (by decide) rfl ?_
  refine wiloadN OGc 8 X1 B d3_7 rfl rfl ?_
  refine waloadN OGc 9 X1 B d3_8 rfl rfl rfl ?_
  refine wgetF OGc 12 X1 B hZ hown (ow hw 10 rfl) e1 R1 d3_9 rfl fun T2 X2 e2 => ?_
  refine waloadN OGc 13 X2 B d3_12 rfl rfl rfl ?_
  refine wgetF OGc 16 X2 B hZ hown (ow hw 23 rfl) e2 R4 d3_13 rfl fun T3 X3 e3 => ?_
  refine wiconst OGc 17 X3 B d3_16 1 rfl rfl ?_
  refine wisub OGc 18 X3 B d3_17 rfl ?_
  show OG p e _ s below _ T3 (mkF m 18 #[.val (.ref a1), .val (.int (1 : Int32)), .val (.int (1 : Int32)), .val (.int (2 : Int32)), .unset] [(.int (0 : Int32)), (.ref x), (.int (1 : Int32))])
  refine wiaload OGc 19 X3 B hZ e3 R5 (v := (.int (0 : Int32))) 0 (by decide) (by decide) rfl d3_18 rfl ?_
  refine wicmpYes OGc 59 X3 B d3_19 (by decide) rfl ?_
  refine waloadN OGc 60 X3 B d3_59 rfl rfl rfl ?_
  refine wgetF OGc 63 X3 B hZ hown (ow hw 23 rfl) e3 R4 d3_60 rfl fun T5 X5 e5 => ?_
  refine waloadN OGc 64 X5 B d3_63 rfl rfl rfl ?_
  refine wgetF OGc 67 X5 B hZ hown (ow hw 10 rfl) e5 R1 d3_64 rfl fun T6 X6 e6 => ?_
  refine warlenA OGc 68 X6 B hZ e6 R5 (8 : Int32) rfl d3_67 rfl ?_
  refine wicmpYes OGc 123 X6 B d3_68 (by decide) rfl ?_
  refine waloadN OGc 124 X6 B d3_123 rfl rfl rfl ?_
  refine wgetF OGc 127 X6 B hZ hown (ow hw 10 rfl) e6 R1 d3_124 rfl fun T8 X8 e8 => ?_
  refine waloadN OGc 128 X8 B d3_127 rfl rfl rfl ?_
  refine wgetF OGc 131 X8 B hZ hown (ow hw 23 rfl) e8 R4 d3_128 rfl fun T9 X9 e9 => ?_
  refine wiloadN OGc 132 X9 B d3_131 rfl rfl ?_
  refine wstI OGc 133 X9 B hZ e9 R5 1 (by decide) (by decide) (by decide : 1 < 8) d3_132 rfl fun T10 h10 X10 e10 W10 => ?_
  have N10 := Fr.snoc X10 N0 g_x
  have K11 := (Keep.refl h0 [a1, x, y, z]).wr W10 (Or.inl (List.mem_of_getElem? (i := 1) rfl))
  have F12 := R0.wr W10
  have F13 := R1.other W10 (Or.inl ne_a1_x)
  have F14 := R2.other W10 (Or.inl ne_a1_x)
  have F15 := R3.other W10 (Or.inl ne_a1_x)
  have F16 := R4.other W10 (Or.inl ne_a1_x)
  have F17 : OA Z h10 x .int [(.int (0 : Int32)), (.int (1 : Int32)), (.int (0 : Int32)), (.int (0 : Int32)), (.int (0 : Int32)), (.int (0 : Int32)), (.int (0 : Int32)), (.int (0 : Int32))] := (R5.set W10 (i := 1) (by decide))
  have F18 := R6.other W10 (Ne.symm ne_x_y)
  have F19 := R7.other W10 (Ne.symm ne_x_z)
  refine waloadN OGc 134 X10 B d3_133 rfl rfl rfl ?_
  refine wgetF OGc 137 X10 B hZ hown (ow hw 12 rfl) e10 F14 d3_134 rfl fun T20 X20 e20 => ?_
  refine waloadN OGc 138 X20 B d3_137 rfl rfl rfl ?_
  refine wgetF OGc 141 X20 B hZ hown (ow hw 23 rfl) e20 F16 d3_138 rfl fun T21 X21 e21 => ?_
  refine wiloadN OGc 142 X21 B d3_141 rfl rfl ?_
  refine wstI OGc 143 X21 B hZ e21 F18 1 (by decide) (by decide) (by decide : 1 < 8) d3_142 rfl fun T22 h22 X22 e22 W22 => ?_
  have N22 := Fr.snoc X22 N10 g_y
  have K23 := K11.wr W22 (Or.inl (List.mem_of_getElem? (i := 2) rfl))
  have F24 := F12.wr W22
  have F25 := F13.other W22 (Or.inl ne_a1_y)
  have F26 := F14.other W22 (Or.inl ne_a1_y)
  have F27 := F15.other W22 (Or.inl ne_a1_y)
  have F28 := F16.other W22 (Or.inl ne_a1_y)
  have F29 := F17.other W22 ne_x_y
  have F30 : OA Z h22 y .int [(.int (0 : Int32)), (.int (1 : Int32)), (.int (0 : Int32)), (.int (0 : Int32)), (.int (0 : Int32)), (.int (0 : Int32)), (.int (0 : Int32)), (.int (0 : Int32))] := (F18.set W22 (i := 1) (by decide))
  have F31 := F19.other W22 (Ne.symm ne_y_z)
  refine waloadN OGc 144 X22 B d3_143 rfl rfl rfl ?_
  refine wgetF OGc 147 X22 B hZ hown (ow hw 14 rfl) e22 F27 d3_144 rfl fun T32 X32 e32 => ?_
  refine waloadN OGc 148 X32 B d3_147 rfl rfl rfl ?_
  refine wgetF OGc 151 X32 B hZ hown (ow hw 23 rfl) e32 F28 d3_148 rfl fun T33 X33 e33 => ?_
  refine wiloadN OGc 152 X33 B d3_151 rfl rfl ?_
  refine wstI OGc 153 X33 B hZ e33 F31 1 (by decide) (by decide) (by decide : 1 < 8) d3_152 rfl fun T34 h34 X34 e34 W34 => ?_
  have N34 := Fr.snoc X34 N22 g_z
  have K35 := K23.wr W34 (Or.inl (List.mem_of_getElem? (i := 3) rfl))
  have F36 := F24.wr W34
  have F37 := F25.other W34 (Or.inl ne_a1_z)
  have F38 := F26.other W34 (Or.inl ne_a1_z)
  have F39 := F27.other W34 (Or.inl ne_a1_z)
  have F40 := F28.other W34 (Or.inl ne_a1_z)
  have F41 := F29.other W34 ne_x_z
  have F42 := F30.other W34 ne_y_z
  have F43 : OA Z h34 z .int [(.int (1 : Int32)), (.int (2 : Int32)), (.int (0 : Int32)), (.int (0 : Int32)), (.int (0 : Int32)), (.int (0 : Int32)), (.int (0 : Int32)), (.int (0 : Int32))] := (F31.set W34 (i := 1) (by decide))
  refine waloadN OGc 154 X34 B d3_153 rfl rfl rfl ?_
  refine wdup OGc 155 X34 B d3_154 rfl rfl ?_
  refine wgetF OGc 158 X34 B hZ hown (ow hw 23 rfl) e34 F40 d3_155 rfl fun T44 X44 e44 => ?_
  refine wiconst OGc 159 X44 B d3_158 1 rfl rfl ?_
  refine wiadd OGc 160 X44 B d3_159 rfl ?_
  show OG p e _ s below _ T44 (mkF m 160 #[.val (.ref a1), .val (.int (1 : Int32)), .val (.int (1 : Int32)), .val (.int (2 : Int32)), .unset] [(.int (2 : Int32)), (.ref a1)])
  refine wputF OGc 163 X44 B hZ hown (ow hw 23 rfl) e44 F40 F36 (Or.inl (ow hw 24 rfl)) (ow hw 1 rfl) (ty := .int) (by decide) rfl rfl d3_160 rfl fun T45 h45 X45 e45 W45 => ?_
  have N45 := Fr.snoc X45 N34 g_a1
  have K46 := K35.wr W45 (Or.inl (List.mem_of_getElem? (i := 0) rfl))
  have F47 := F36.wr W45
  have F48 := F37.other W45 (Or.inr (slot_ne (Or.inl (ow hw 11 rfl)) (Or.inl (ow hw 24 rfl)) (by decide) (t := (.array .int)) (t' := .int) (by decide) (by decide)))
  have F49 := F38.other W45 (Or.inr (slot_ne (Or.inl (ow hw 13 rfl)) (Or.inl (ow hw 24 rfl)) (by decide) (t := (.array .int)) (t' := .int) (by decide) (by decide)))
  have F50 := F39.other W45 (Or.inr (slot_ne (Or.inl (ow hw 15 rfl)) (Or.inl (ow hw 24 rfl)) (by decide) (t := (.array .int)) (t' := .int) (by decide) (by decide)))
  have F51 : Fld Z h45 a1 "com/example/fragmark/fragmark/TermTokens" "size" "I" (.int (2 : Int32)) := (F40.same W45)
  have F52 := F41.other W45 (Ne.symm ne_a1_x)
  have F53 := F42.other W45 (Ne.symm ne_a1_y)
  have F54 := F43.other W45 (Ne.symm ne_a1_z)
  refine own_ret0 X45 hx hret hlk (hb hby d3_163) (by decide) (by decide) ?_
  rw [e45]
  exact ⟨rfl, N45, K46, F47, F48, F49, F50, F51, F52, F53, F54⟩
theorem ef_3_2 (m : MethodId) (a1 : Addr) : entryFrame m #[(.ref a1), (.int (2 : Int32)), (.int (2 : Int32)), (.int (3 : Int32))] 5 = (mkF m 0 #[.val (.ref a1), .val (.int (2 : Int32)), .val (.int (2 : Int32)), .val (.int (3 : Int32)), .unset] []) := by first | (simp [entryFrame, mkF, argsToLocals, Value.category]; done) | rfl
abbrev Q3_2 (Z : State) (a1 : Addr) (x : Addr) (y : Addr) (z : Addr) (h0 : Heap) (n0 : Nat) : Option Value → Heap → List Loc → Prop := (fun v h L => v = none ∧ Fr n0 L ∧ Keep h0 h [a1, x, y, z] ∧ Exa Z h a1 "com/example/fragmark/fragmark/TermTokens" ∧ Fld Z h a1 "com/example/fragmark/fragmark/TermTokens" "positions" "[I" (.ref x) ∧ Fld Z h a1 "com/example/fragmark/fragmark/TermTokens" "starts" "[I" (.ref y) ∧ Fld Z h a1 "com/example/fragmark/fragmark/TermTokens" "ends" "[I" (.ref z) ∧ Fld Z h a1 "com/example/fragmark/fragmark/TermTokens" "size" "I" (.int (3 : Int32)) ∧ OA Z h x .int [(.int (0 : Int32)), (.int (1 : Int32)), (.int (2 : Int32)), (.int (0 : Int32)), (.int (0 : Int32)), (.int (0 : Int32)), (.int (0 : Int32)), (.int (0 : Int32))] ∧ OA Z h y .int [(.int (0 : Int32)), (.int (1 : Int32)), (.int (2 : Int32)), (.int (0 : Int32)), (.int (0 : Int32)), (.int (0 : Int32)), (.int (0 : Int32)), (.int (0 : Int32))] ∧ OA Z h z .int [(.int (1 : Int32)), (.int (2 : Int32)), (.int (3 : Int32)), (.int (0 : Int32)), (.int (0 : Int32)), (.int (0 : Int32)), (.int (0 : Int32)), (.int (0 : Int32))])
set_option maxRecDepth 65536 in
set_option maxHeartbeats 40000000 in
theorem rm3_2 (l : Launch) (Z : State) (a0 : Array Value) (hw : ∀ d ∈ tables_1, d.before a0 Z = true) (ws : List Jvm.Cond) (a1 : Addr) (x : Addr) (y : Addr) (z : Addr) (h0 : Heap) (n0 : Nat) (R0 : Exa Z h0 a1 "com/example/fragmark/fragmark/TermTokens") (R1 : Fld Z h0 a1 "com/example/fragmark/fragmark/TermTokens" "positions" "[I" (.ref x)) (R2 : Fld Z h0 a1 "com/example/fragmark/fragmark/TermTokens" "starts" "[I" (.ref y)) (R3 : Fld Z h0 a1 "com/example/fragmark/fragmark/TermTokens" "ends" "[I" (.ref z)) (R4 : Fld Z h0 a1 "com/example/fragmark/fragmark/TermTokens" "size" "I" (.int (2 : Int32))) (R5 : OA Z h0 x .int [(.int (0 : Int32)), (.int (1 : Int32)), (.int (0 : Int32)), (.int (0 : Int32)), (.int (0 : Int32)), (.int (0 : Int32)), (.int (0 : Int32)), (.int (0 : Int32))]) (R6 : OA Z h0 y .int [(.int (0 : Int32)), (.int (1 : Int32)), (.int (0 : Int32)), (.int (0 : Int32)), (.int (0 : Int32)), (.int (0 : Int32)), (.int (0 : Int32)), (.int (0 : Int32))]) (R7 : OA Z h0 z .int [(.int (1 : Int32)), (.int (2 : Int32)), (.int (0 : Int32)), (.int (0 : Int32)), (.int (0 : Int32)), (.int (0 : Int32)), (.int (0 : Int32)), (.int (0 : Int32))]) (g_a1 : n0 ≤ a1) (g_x : n0 ≤ x) (g_y : n0 ≤ y) (g_z : n0 ≤ z) (ne_a1_x : a1 ≠ x) (ne_a1_y : a1 ≠ y) (ne_a1_z : a1 ≠ z) (ne_x_y : x ≠ y) (ne_x_z : x ≠ z) (ne_y_z : y ≠ z) :
    OMet l Z (⟨"com/example/fragmark/fragmark/TermTokens", "add", "(III)V"⟩ : MethodName) prog_45_method_2_code 5 none ws ({ frames := 0, cells := 0, slots := 0, locals := 0 } : Room) #[(.ref a1), (.int (2 : Int32)), (.int (2 : Int32)), (.int (3 : Int32))] h0 (Q3_2 Z a1 x y z h0 n0) := by
  refine own_enter pn_3 ?_
  intro p e s m below meth c s₁ hx hby hml0 hown hret hlk hnm hZ X0 e0
  have hml : c.maxLocals = 5 := hml0
  have B : BX p c prog_45_method_2_code := ⟨hx, hby⟩
  have N0 := Fr.nil n0
  refine own_cast (ef_3_2 m a1) ?_
  show OG p e ({ frames := 0, cells := 0, slots := 0, locals := 0 } : Room) s below (fun v h L => v = none ∧ Fr n0 L ∧ Keep h0 h [a1, x, y, z] ∧ Exa Z h a1 "com/example/fragmark/fragmark/TermTokens" ∧ Fld Z h a1 "com/example/fragmark/fragmark/TermTokens" "positions" "[I" (.ref x) ∧ Fld Z h a1 "com/example/fragmark/fragmark/TermTokens" "starts" "[I" (.ref y) ∧ Fld Z h a1 "com/example/fragmark/fragmark/TermTokens" "ends" "[I" (.ref z) ∧ Fld Z h a1 "com/example/fragmark/fragmark/TermTokens" "size" "I" (.int (3 : Int32)) ∧ OA Z h x .int [(.int (0 : Int32)), (.int (1 : Int32)), (.int (2 : Int32)), (.int (0 : Int32)), (.int (0 : Int32)), (.int (0 : Int32)), (.int (0 : Int32)), (.int (0 : Int32))] ∧ OA Z h y .int [(.int (0 : Int32)), (.int (1 : Int32)), (.int (2 : Int32)), (.int (0 : Int32)), (.int (0 : Int32)), (.int (0 : Int32)), (.int (0 : Int32)), (.int (0 : Int32))] ∧ OA Z h z .int [(.int (1 : Int32)), (.int (2 : Int32)), (.int (3 : Int32)), (.int (0 : Int32)), (.int (0 : Int32)), (.int (0 : Int32)), (.int (0 : Int32)), (.int (0 : Int32))]) s₁ (mkF m 0 #[.val (.ref a1), .val (.int (2 : Int32)), .val (.int (2 : Int32)), .val (.int (3 : Int32)), .unset] [])
  refine waloadN OGc 1 X0 B d3_0 rfl rfl rfl ?_
  refine wgetF OGc 4 X0 B hZ hown (ow hw 23 rfl) e0 R4 d3_1 rfl fun T1 X1 e1 => ?_
  refine wifNo OGc 7 X1 B d3_4 (by decide) rfl ?_
  refine wiloadN OGc 8 X1 B d3_7 rfl rfl ?_
  refine waloadN OGc 9 X1 B d3_8 rfl rfl rfl ?_
  refine wgetF OGc 12 X1 B hZ hown (ow hw 10 rfl) e1 R1 d3_9 rfl fun T2 X2 e2 => ?_
  refine waloadN OGc 13 X2 B d3_12 rfl rfl rfl ?_
  refine wgetF OGc 16 X2 B hZ hown (ow hw 23 rfl) e2 R4 d3_13 rfl fun T3 X3 e3 => ?_
  refine wiconst OGc 17 X3 B d3_16 1 rfl rfl ?_
  refine wisub OGc 18 X3 B d3_17 rfl ?_
  show OG p e _ s below _ T3 (mkF m 18 #[.val (.ref a1), .val (.int (2 : Int32)), .val (.int (2 : Int32)), .val (.int (3 : Int32)), .unset] [(.int (1 : Int32)), (.ref x), (.int (2 : Int32))])
  refine wiaload OGc 19 X3 B hZ e3 R5 (v := (.int (1 : Int32))) 1 (by decide) (by decide) rfl d3_18 rfl ?_
  refine wicmpYes OGc 59 X3 B d3_19 (by decide) rfl ?_
  refine waloadN OGc 60 X3 B d3_59 rfl rfl rfl ?_
  refine wgetF OGc 63 X3 B hZ hown (ow hw 23 rfl) e3 R4 d3_60 rfl fun T5 X5 e5 => ?_
  refine waloadN OGc 64 X5 B d3_63 rfl rfl rfl ?_
  refine wgetF OGc 67 X5 B hZ hown (ow hw 10 rfl) e5 R1 d3_64 rfl fun T6 X6 e6 => ?_
  refine warlenA OGc 68 X6 B hZ e6 R5 (8 : Int32) rfl d3_67 rfl ?_
  refine wicmpYes OGc 123 X6 B d3_68 (by decide) rfl ?_
  refine waloadN OGc 124 X6 B d3_123 rfl rfl rfl ?_
  refine wgetF OGc 127 X6 B hZ hown (ow hw 10 rfl) e6 R1 d3_124 rfl fun T8 X8 e8 => ?_
  refine waloadN OGc 128 X8 B d3_127 rfl rfl rfl ?_
  refine wgetF OGc 131 X8 B hZ hown (ow hw 23 rfl) e8 R4 d3_128 rfl fun T9 X9 e9 => ?_
  refine wiloadN OGc 132 X9 B d3_131 rfl rfl ?_
  refine wstI OGc 133 X9 B hZ e9 R5 2 (by decide) (by decide) (by decide : 2 < 8) d3_132 rfl fun T10 h10 X10 e10 W10 => ?_
  have N10 := Fr.snoc X10 N0 g_x
  have K11 := (Keep.refl h0 [a1, x, y, z]).wr W10 (Or.inl (List.mem_of_getElem? (i := 1) rfl))
  have F12 := R0.wr W10
  have F13 := R1.other W10 (Or.inl ne_a1_x)
  have F14 := R2.other W10 (Or.inl ne_a1_x)
  have F15 := R3.other W10 (Or.inl ne_a1_x)
  have F16 := R4.other W10 (Or.inl ne_a1_x)
  have F17 : OA Z h10 x .int [(.int (0 : Int32)), (.int (1 : Int32)), (.int (2 : Int32)), (.int (0 : Int32)), (.int (0 : Int32)), (.int (0 : Int32)), (.int (0 : Int32)), (.int (0 : Int32))] := (R5.set W10 (i := 2) (by decide))
  have F18 := R6.other W10 (Ne.symm ne_x_y)
  have F19 := R7.other W10 (Ne.symm ne_x_z)
  refine waloadN OGc 134 X10 B d3_133 rfl rfl rfl ?_
  refine wgetF OGc 137 X10 B hZ hown (ow hw 12 rfl) e10 F14 d3_134 rfl fun T20 X20 e20 => ?_
  refine waloadN OGc 138 X20 B d3_137 rfl rfl rfl ?_
  refine wgetF OGc 141 X20 B hZ hown (ow hw 23 rfl) e20 F16 d3_138 rfl fun T21 X21 e21 => ?_
  refine wiloadN OGc 142 X21 B d3_141 rfl rfl ?_
  refine wstI OGc 143 X21 B hZ e21 F18 2 (by decide) (by decide) (by decide : 2 < 8) d3_142 rfl fun T22 h22 X22 e22 W22 => ?_
  have N22 := Fr.snoc X22 N10 g_y
  have K23 := K11.wr W22 (Or.inl (List.mem_of_getElem? (i := 2) rfl))
  have F24 := F12.wr W22
  have F25 := F13.other W22 (Or.inl ne_a1_y)
  have F26 := F14.other W22 (Or.inl ne_a1_y)
  have F27 := F15.other W22 (Or.inl ne_a1_y)
  have F28 := F16.other W22 (Or.inl ne_a1_y)
  have F29 := F17.other W22 ne_x_y
  have F30 : OA Z h22 y .int [(.int (0 : Int32)), (.int (1 : Int32)), (.int (2 : Int32)), (.int (0 : Int32)), (.int (0 : Int32)), (.int (0 : Int32)), (.int (0 : Int32)), (.int (0 : Int32))] := (F18.set W22 (i := 2) (by decide))
  have F31 := F19.other W22 (Ne.symm ne_y_z)
  refine waloadN OGc 144 X22 B d3_143 rfl rfl rfl ?_
  refine wgetF OGc 147 X22 B hZ hown (ow hw 14 rfl) e22 F27 d3_144 rfl fun T32 X32 e32 => ?_
  refine waloadN OGc 148 X32 B d3_147 rfl rfl rfl ?_
  refine wgetF OGc 151 X32 B hZ hown (ow hw 23 rfl) e32 F28 d3_148 rfl fun T33 X33 e33 => ?_
  refine wiloadN OGc 152 X33 B d3_151 rfl rfl ?_
  refine wstI OGc 153 X33 B hZ e33 F31 2 (by decide) (by decide) (by decide : 2 < 8) d3_152 rfl fun T34 h34 X34 e34 W34 => ?_
  have N34 := Fr.snoc X34 N22 g_z
  have K35 := K23.wr W34 (Or.inl (List.mem_of_getElem? (i := 3) rfl))
  have F36 := F24.wr W34
  have F37 := F25.other W34 (Or.inl ne_a1_z)
  have F38 := F26.other W34 (Or.inl ne_a1_z)
  have F39 := F27.other W34 (Or.inl ne_a1_z)
  have F40 := F28.other W34 (Or.inl ne_a1_z)
  have F41 := F29.other W34 ne_x_z
  have F42 := F30.other W34 ne_y_z
  have F43 : OA Z h34 z .int [(.int (1 : Int32)), (.int (2 : Int32)), (.int (3 : Int32)), (.int (0 : Int32)), (.int (0 : Int32)), (.int (0 : Int32)), (.int (0 : Int32)), (.int (0 : Int32))] := (F31.set W34 (i := 2) (by decide))
  refine waloadN OGc 154 X34 B d3_153 rfl rfl rfl ?_
  refine wdup OGc 155 X34 B d3_154 rfl rfl ?_
  refine wgetF OGc 158 X34 B hZ hown (ow hw 23 rfl) e34 F40 d3_155 rfl fun T44 X44 e44 => ?_
  refine wiconst OGc 159 X44 B d3_158 1 rfl rfl ?_
  refine wiadd OGc 160 X44 B d3_159 rfl ?_
  show OG p e _ s below _ T44 (mkF m 160 #[.val (.ref a1), .val (.int (2 : Int32)), .val (.int (2 : Int32)), .val (.int (3 : Int32)), .unset] [(.int (3 : Int32)), (.ref a1)])
  refine wputF OGc 163 X44 B hZ hown (ow hw 23 rfl) e44 F40 F36 (Or.inl (ow hw 24 rfl)) (ow hw 1 rfl) (ty := .int) (by decide) rfl rfl d3_160 rfl fun T45 h45 X45 e45 W45 => ?_
  have N45 := Fr.snoc X45 N34 g_a1
  have K46 := K35.wr W45 (Or.inl (List.mem_of_getElem? (i := 0) rfl))
  have F47 := F36.wr W45
  have F48 := F37.other W45 (Or.inr (slot_ne (Or.inl (ow hw 11 rfl)) (Or.inl (ow hw 24 rfl)) (by decide) (t := (.array .int)) (t' := .int) (by decide) (by decide)))
  have F49 := F38.other W45 (Or.inr (slot_ne (Or.inl (ow hw 13 rfl)) (Or.inl (ow hw 24 rfl)) (by decide) (t := (.array .int)) (t' := .int) (by decide) (by decide)))
  have F50 := F39.other W45 (Or.inr (slot_ne (Or.inl (ow hw 15 rfl)) (Or.inl (ow hw 24 rfl)) (by decide) (t := (.array .int)) (t' := .int) (by decide) (by decide)))
  have F51 : Fld Z h45 a1 "com/example/fragmark/fragmark/TermTokens" "size" "I" (.int (3 : Int32)) := (F40.same W45)
  have F52 := F41.other W45 (Ne.symm ne_a1_x)
  have F53 := F42.other W45 (Ne.symm ne_a1_y)
  have F54 := F43.other W45 (Ne.symm ne_a1_z)
  refine own_ret0 X45 hx hret hlk (hb hby d3_163) (by decide) (by decide) ?_
  rw [e45]
  exact ⟨rfl, N45, K46, F47, F48, F49, F50, F51, F52, F53, F54⟩
theorem d6_0 : decode prog_45_method_4_code 0 = .ok (.aload_n 0, 1) := by decide +kernel
theorem d6_1 : decode prog_45_method_4_code 1 = .ok (.getfield 22, 3) := by decide +kernel
theorem d6_4 : decode prog_45_method_4_code 4 = .ok (.ireturn, 1) := by decide +kernel
theorem pn_6 : plainFor (⟨"com/example/fragmark/fragmark/TermTokens", "size", "()I"⟩ : MethodName) = true := by first | exact plainFor_of_name (by first | (simp [plainName, overriddenIn]; done) | decide +kernel) | decide +kernel
theorem ef_6 (m : MethodId) (a1 : Addr) : entryFrame m #[(.ref a1)] 1 = (mkF m 0 #[.val (.ref a1)] []) := by first | (simp [entryFrame, mkF, argsToLocals, Value.category]; done) | rfl
abbrev Q6 (Z : State) (a1 : Addr) (h0 : Heap) (n0 : Nat) : Option Value → Heap → List Loc → Prop := (fun v h L => v = some (.int (3 : Int32)) ∧ Fr n0 L ∧ Keep h0 h [])
set_option maxRecDepth 65536 in
set_option maxHeartbeats 40000000 in
theorem rm6 (l : Launch) (Z : State) (a0 : Array Value) (hw : ∀ d ∈ tables_1, d.before a0 Z = true) (ws : List Jvm.Cond) (a1 : Addr) (h0 : Heap) (n0 : Nat) (R0 : Fld Z h0 a1 "com/example/fragmark/fragmark/TermTokens" "size" "I" (.int (3 : Int32))) :
    OMet l Z (⟨"com/example/fragmark/fragmark/TermTokens", "size", "()I"⟩ : MethodName) prog_45_method_4_code 1 (some .int) ws ({ frames := 0, cells := 0, slots := 0, locals := 0 } : Room) #[(.ref a1)] h0 (Q6 Z a1 h0 n0) := by
  refine own_enter pn_6 ?_
  intro p e s m below meth c s₁ hx hby hml0 hown hret hlk hnm hZ X0 e0
  have hml : c.maxLocals = 1 := hml0
  have B : BX p c prog_45_method_4_code := ⟨hx, hby⟩
  have N0 := Fr.nil n0
  refine own_cast (ef_6 m a1) ?_
  show OG p e ({ frames := 0, cells := 0, slots := 0, locals := 0 } : Room) s below (fun v h L => v = some (.int (3 : Int32)) ∧ Fr n0 L ∧ Keep h0 h []) s₁ (mkF m 0 #[.val (.ref a1)] [])
  refine waloadN OGc 1 X0 B d6_0 rfl rfl rfl ?_
  refine wgetF OGc 4 X0 B hZ hown (ow hw 23 rfl) e0 R0 d6_1 rfl fun T1 X1 e1 => ?_
  refine own_retI X1 hx hret hlk (hb hby d6_4) (by decide) (by decide) ?_
  rw [e1]
  exact ⟨rfl, N0, (Keep.refl h0 [])⟩
theorem d4_0 : decode prog_35_method_1_code 0 = .ok (.aload_n 0, 1) := by decide +kernel
theorem d4_1 : decode prog_35_method_1_code 1 = .ok (.invokespecial 1, 3) := by decide +kernel
theorem d4_4 : decode prog_35_method_1_code 4 = .ok (.aload_n 0, 1) := by decide +kernel
theorem d4_5 : decode prog_35_method_1_code 5 = .ok (.aload_n 1, 1) := by decide +kernel
theorem d4_6 : decode prog_35_method_1_code 6 = .ok (.putfield 7, 3) := by decide +kernel
theorem d4_9 : decode prog_35_method_1_code 9 = .ok (.aload_n 0, 1) := by decide +kernel
theorem d4_10 : decode prog_35_method_1_code 10 = .ok (.aload_n 2, 1) := by decide +kernel
theorem d4_11 : decode prog_35_method_1_code 11 = .ok (.putfield 13, 3) := by decide +kernel
theorem d4_14 : decode prog_35_method_1_code 14 = .ok (.aload_n 0, 1) := by decide +kernel
theorem d4_15 : decode prog_35_method_1_code 15 = .ok (.aload_n 3, 1) := by decide +kernel
theorem d4_16 : decode prog_35_method_1_code 16 = .ok (.putfield 17, 3) := by decide +kernel
theorem d4_19 : decode prog_35_method_1_code 19 = .ok (.aload_n 0, 1) := by decide +kernel
theorem d4_20 : decode prog_35_method_1_code 20 = .ok (.lload 4, 2) := by decide +kernel
theorem d4_22 : decode prog_35_method_1_code 22 = .ok (.putfield 21, 3) := by decide +kernel
theorem d4_25 : decode prog_35_method_1_code 25 = .ok (.aload_n 3, 1) := by decide +kernel
theorem d4_26 : decode prog_35_method_1_code 26 = .ok (.arraylength, 1) := by decide +kernel
theorem d4_27 : decode prog_35_method_1_code 27 = .ok (.istore 6, 2) := by decide +kernel
theorem d4_29 : decode prog_35_method_1_code 29 = .ok (.aload_n 0, 1) := by decide +kernel
theorem d4_30 : decode prog_35_method_1_code 30 = .ok (.iload 6, 2) := by decide +kernel
theorem d4_32 : decode prog_35_method_1_code 32 = .ok (.newarray .int, 2) := by decide +kernel
theorem d4_34 : decode prog_35_method_1_code 34 = .ok (.putfield 25, 3) := by decide +kernel
theorem d4_37 : decode prog_35_method_1_code 37 = .ok (.aload_n 0, 1) := by decide +kernel
theorem d4_38 : decode prog_35_method_1_code 38 = .ok (.iload 6, 2) := by decide +kernel
theorem d4_40 : decode prog_35_method_1_code 40 = .ok (.newarray .int, 2) := by decide +kernel
theorem d4_42 : decode prog_35_method_1_code 42 = .ok (.putfield 28, 3) := by decide +kernel
theorem d4_45 : decode prog_35_method_1_code 45 = .ok (.aload_n 0, 1) := by decide +kernel
theorem d4_46 : decode prog_35_method_1_code 46 = .ok (.iload 6, 2) := by decide +kernel
theorem d4_48 : decode prog_35_method_1_code 48 = .ok (.newarray .int, 2) := by decide +kernel
theorem d4_50 : decode prog_35_method_1_code 50 = .ok (.putfield 31, 3) := by decide +kernel
theorem d4_53 : decode prog_35_method_1_code 53 = .ok (.aload_n 0, 1) := by decide +kernel
theorem d4_54 : decode prog_35_method_1_code 54 = .ok (.iload 6, 2) := by decide +kernel
theorem d4_56 : decode prog_35_method_1_code 56 = .ok (.newarray .int, 2) := by decide +kernel
theorem d4_58 : decode prog_35_method_1_code 58 = .ok (.putfield 34, 3) := by decide +kernel
theorem d4_61 : decode prog_35_method_1_code 61 = .ok (.return_, 1) := by decide +kernel
theorem pn_4 : plainFor (⟨"com/example/fragmark/fragmark/PhraseTerm", "<init>", "(Ljava/lang/String;Lcom/example/fragmark/fragmark/TermTokens;[IJ)V"⟩ : MethodName) = true := by first | exact plainFor_of_name (by first | (simp [plainName, overriddenIn]; done) | decide +kernel) | decide +kernel
theorem ef_4 (m : MethodId) (a1 : Addr) (a2 : Addr) (a3 : Addr) (a4 : Addr) (q5 : Int64) : entryFrame m #[(.ref a1), (.ref a2), (.ref a3), (.ref a4), (.long q5)] 7 = (mkF m 0 #[.val (.ref a1), .val (.ref a2), .val (.ref a3), .val (.ref a4), .val (.long q5), .second, .unset] []) := by first | (simp [entryFrame, mkF, argsToLocals, Value.category]; done) | rfl
abbrev Q4 (Z : State) (a1 : Addr) (a2 : Addr) (a3 : Addr) (a4 : Addr) (q5 : Int64) (h0 : Heap) (n0 : Nat) : Option Value → Heap → List Loc → Prop := (fun v h L => v = none ∧ Fr n0 L ∧ Keep h0 h [a1] ∧ Exa Z h a1 "com/example/fragmark/fragmark/PhraseTerm" ∧ Fld Z h a1 "com/example/fragmark/fragmark/PhraseTerm" "words" "Lcom/example/fragmark/fragmark/TermTokens;" (.ref a3) ∧ Fld Z h a1 "com/example/fragmark/fragmark/PhraseTerm" "places" "[I" (.ref a4) ∧ Fld Z h a1 "com/example/fragmark/fragmark/PhraseTerm" "free" "[I" .null ∧ Fld Z h a1 "com/example/fragmark/fragmark/PhraseTerm" "from" "[I" .null)
set_option maxRecDepth 65536 in
set_option maxHeartbeats 40000000 in
theorem rm4 (l : Launch) (Z : State) (a0 : Array Value) (hw : ∀ d ∈ tables_1, d.before a0 Z = true) (ws : List Jvm.Cond) (a1 : Addr) (a2 : Addr) (a3 : Addr) (a4 : Addr) (q5 : Int64) (h0 : Heap) (n0 : Nat) (Z0 : n0 ≤ h0.size) (R0 : Exa Z h0 a1 "com/example/fragmark/fragmark/PhraseTerm") (R1 : Fld Z h0 a1 "com/example/fragmark/fragmark/PhraseTerm" "term" "Ljava/lang/String;" .null) (R2 : Fld Z h0 a1 "com/example/fragmark/fragmark/PhraseTerm" "words" "Lcom/example/fragmark/fragmark/TermTokens;" .null) (R3 : Fld Z h0 a1 "com/example/fragmark/fragmark/PhraseTerm" "slop" "J" (.long (0 : Int64))) (R4 : Fld Z h0 a1 "com/example/fragmark/fragmark/PhraseTerm" "places" "[I" .null) (R5 : Fld Z h0 a1 "com/example/fragmark/fragmark/PhraseTerm" "last" "[I" .null) (R6 : Fld Z h0 a1 "com/example/fragmark/fragmark/PhraseTerm" "taken" "[I" .null) (R7 : Fld Z h0 a1 "com/example/fragmark/fragmark/PhraseTerm" "latest" "[I" .null) (R8 : Fld Z h0 a1 "com/example/fragmark/fragmark/PhraseTerm" "marked" "[I" .null) (R9 : Fld Z h0 a1 "com/example/fragmark/fragmark/PhraseTerm" "free" "[I" .null) (R10 : Fld Z h0 a1 "com/example/fragmark/fragmark/PhraseTerm" "from" "[I" .null) (R11 : OA Z h0 a4 .int [(.int (0 : Int32))]) (g_a1 : n0 ≤ a1) (ne_a1_a4 : a1 ≠ a4) :
    OMet l Z (⟨"com/example/fragmark/fragmark/PhraseTerm", "<init>", "(Ljava/lang/String;Lcom/example/fragmark/fragmark/TermTokens;[IJ)V"⟩ : MethodName) prog_35_method_1_code 7 none ws ({ frames := 1, cells := 4, slots := 4, locals := 12 } : Room) #[(.ref a1), (.ref a2), (.ref a3), (.ref a4), (.long q5)] h0 (Q4 Z a1 a2 a3 a4 q5 h0 n0) := by
  refine own_enter pn_4 ?_
  intro p e s m below meth c s₁ hx hby hml0 hown hret hlk hnm hZ X0 e0
  have hml : c.maxLocals = 7 := hml0
  have B : BX p c prog_35_method_1_code := ⟨hx, hby⟩
  have N0 := Fr.nil n0
  refine own_cast (ef_4 m a1 a2 a3 a4 q5) ?_
  show OG p e ({ frames := 1, cells := 4, slots := 4, locals := 12 } : Room) s below (fun v h L => v = none ∧ Fr n0 L ∧ Keep h0 h [a1] ∧ Exa Z h a1 "com/example/fragmark/fragmark/PhraseTerm" ∧ Fld Z h a1 "com/example/fragmark/fragmark/PhraseTerm" "words" "Lcom/example/fragmark/fragmark/TermTokens;" (.ref a3) ∧ Fld Z h a1 "com/example/fragmark/fragmark/PhraseTerm" "places" "[I" (.ref a4) ∧ Fld Z h a1 "com/example/fragmark/fragmark/PhraseTerm" "free" "[I" .null ∧ Fld Z h a1 "com/example/fragmark/fragmark/PhraseTerm" "from" "[I" .null) s₁ (mkF m 0 #[.val (.ref a1), .val (.ref a2), .val (.ref a3), .val (.ref a4), .val (.long q5), .second, .unset] [])
  refine waloadN OGc 1 X0 B d4_0 rfl rfl rfl ?_
  obtain ⟨T1, X1, e1, st1⟩ := initO X0 hx hZ hown (ow hw 39 rfl) (ow hw 7 rfl) (ow hw 8 rfl) e0 (g := (mkF m 1 #[.val (.ref a1), .val (.ref a2), .val (.ref a3), .val (.ref a4), .val (.long q5), .second, .unset] [(.ref a1)])) rfl (by rw [hml]; rfl) rfl (hb hby d4_1) (by decide) (W := 0) (by show 2 * 0 + _ ≤ _; exact Nat.le_of_eq rfl) (by decide)
  refine own_st st1 ?_
  show OG p e _ s below _ T1 (mkF m 4 #[.val (.ref a1), .val (.ref a2), .val (.ref a3), .val (.ref a4), .val (.long q5), .second, .unset] [])
  refine waloadN OGc 5 X1 B d4_4 rfl rfl rfl ?_
  refine waloadN OGc 6 X1 B d4_5 rfl rfl rfl ?_
  refine wputF OGc 9 X1 B hZ hown (ow hw 40 rfl) e1 R1 R0 (Or.inr ⟨(ow hw 41 rfl), rfl, hnm⟩) (ow hw 26 rfl) (ty := (.object "java/lang/String")) (by decide) rfl rfl d4_6 rfl fun T2 h2 X2 e2 W2 => ?_
  have N2 := Fr.snoc X2 N0 g_a1
  have K3 := (Keep.refl h0 [a1]).wr W2 (Or.inl (List.mem_of_getElem? (i := 0) rfl))
  have F4 := R0.wr W2
  have F5 : Fld Z h2 a1 "com/example/fragmark/fragmark/PhraseTerm" "term" "Ljava/lang/String;" (.ref a2) := (R1.same W2)
  have F6 := R2.other W2 (Or.inr (slot_ne (Or.inr (ow hw 43 rfl)) (Or.inr (ow hw 41 rfl)) (by decide) (t := (.object "com/example/fragmark/fragmark/TermTokens")) (t' := (.object "java/lang/String")) (by decide) (by decide)))
  have F7 := R3.other W2 (Or.inr (slot_ne (Or.inr (ow hw 47 rfl)) (Or.inr (ow hw 41 rfl)) (by decide) (t := .long) (t' := (.object "java/lang/String")) (by decide) (by decide)))
  have F8 := R4.other W2 (Or.inr (slot_ne (Or.inr (ow hw 45 rfl)) (Or.inr (ow hw 41 rfl)) (by decide) (t := (.array .int)) (t' := (.object "java/lang/String")) (by decide) (by decide)))
  have F9 := R5.other W2 (Or.inr (slot_ne (Or.inr (ow hw 49 rfl)) (Or.inr (ow hw 41 rfl)) (by decide) (t := (.array .int)) (t' := (.object "java/lang/String")) (by decide) (by decide)))
  have F10 := R6.other W2 (Or.inr (slot_ne (Or.inr (ow hw 51 rfl)) (Or.inr (ow hw 41 rfl)) (by decide) (t := (.array .int)) (t' := (.object "java/lang/String")) (by decide) (by decide)))
  have F11 := R7.other W2 (Or.inr (slot_ne (Or.inr (ow hw 53 rfl)) (Or.inr (ow hw 41 rfl)) (by decide) (t := (.array .int)) (t' := (.object "java/lang/String")) (by decide) (by decide)))
  have F12 := R8.other W2 (Or.inr (slot_ne (Or.inr (ow hw 55 rfl)) (Or.inr (ow hw 41 rfl)) (by decide) (t := (.array .int)) (t' := (.object "java/lang/String")) (by decide) (by decide)))
  have F13 := R9.other W2 (Or.inr (slot_ne (Or.inl (ow hw 62 rfl)) (Or.inr (ow hw 41 rfl)) (by decide) (t := (.array .int)) (t' := (.object "java/lang/String")) (by decide) (by decide)))
  have F14 := R10.other W2 (Or.inr (slot_ne (Or.inl (ow hw 85 rfl)) (Or.inr (ow hw 41 rfl)) (by decide) (t := (.array .int)) (t' := (.object "java/lang/String")) (by decide) (by decide)))
  have F15 := R11.other W2 (Ne.symm ne_a1_a4)
  refine waloadN OGc 10 X2 B d4_9 rfl rfl rfl ?_
  refine waloadN OGc 11 X2 B d4_10 rfl rfl rfl ?_
  refine wputF OGc 14 X2 B hZ hown (ow hw 42 rfl) e2 F6 F4 (Or.inr ⟨(ow hw 43 rfl), rfl, hnm⟩) (ow hw 26 rfl) (ty := (.object "com/example/fragmark/fragmark/TermTokens")) (by decide) rfl rfl d4_11 rfl fun T16 h16 X16 e16 W16 => ?_
  have N16 := Fr.snoc X16 N2 g_a1
  have K17 := K3.wr W16 (Or.inl (List.mem_of_getElem? (i := 0) rfl))
  have F18 := F4.wr W16
  have F19 := F5.other W16 (Or.inr (slot_ne (Or.inr (ow hw 41 rfl)) (Or.inr (ow hw 43 rfl)) (by decide) (t := (.object "java/lang/String")) (t' := (.object "com/example/fragmark/fragmark/TermTokens")) (by decide) (by decide)))
  have F20 : Fld Z h16 a1 "com/example/fragmark/fragmark/PhraseTerm" "words" "Lcom/example/fragmark/fragmark/TermTokens;" (.ref a3) := (F6.same W16)
  have F21 := F7.other W16 (Or.inr (slot_ne (Or.inr (ow hw 47 rfl)) (Or.inr (ow hw 43 rfl)) (by decide) (t := .long) (t' := (.object "com/example/fragmark/fragmark/TermTokens")) (by decide) (by decide)))
  have F22 := F8.other W16 (Or.inr (slot_ne (Or.inr (ow hw 45 rfl)) (Or.inr (ow hw 43 rfl)) (by decide) (t := (.array .int)) (t' := (.object "com/example/fragmark/fragmark/TermTokens")) (by decide) (by decide)))
  have F23 := F9.other W16 (Or.inr (slot_ne (Or.inr (ow hw 49 rfl)) (Or.inr (ow hw 43 rfl)) (by decide) (t := (.array .int)) (t' := (.object "com/example/fragmark/fragmark/TermTokens")) (by decide) (by decide)))
  have F24 := F10.other W16 (Or.inr (slot_ne (Or.inr (ow hw 51 rfl)) (Or.inr (ow hw 43 rfl)) (by decide) (t := (.array .int)) (t' := (.object "com/example/fragmark/fragmark/TermTokens")) (by decide) (by decide)))
  have F25 := F11.other W16 (Or.inr (slot_ne (Or.inr (ow hw 53 rfl)) (Or.inr (ow hw 43 rfl)) (by decide) (t := (.array .int)) (t' := (.object "com/example/fragmark/fragmark/TermTokens")) (by decide) (by decide)))
  have F26 := F12.other W16 (Or.inr (slot_ne (Or.inr (ow hw 55 rfl)) (Or.inr (ow hw 43 rfl)) (by decide) (t := (.array .int)) (t' := (.object "com/example/fragmark/fragmark/TermTokens")) (by decide) (by decide)))
  have F27 := F13.other W16 (Or.inr (slot_ne (Or.inl (ow hw 62 rfl)) (Or.inr (ow hw 43 rfl)) (by decide) (t := (.array .int)) (t' := (.object "com/example/fragmark/fragmark/TermTokens")) (by decide) (by decide)))
  have F28 := F14.other W16 (Or.inr (slot_ne (Or.inl (ow hw 85 rfl)) (Or.inr (ow hw 43 rfl)) (by decide) (t := (.array .int)) (t' := (.object "com/example/fragmark/fragmark/TermTokens")) (by decide) (by decide)))
  have F29 := F15.other W16 (Ne.symm ne_a1_a4)
  refine waloadN OGc 15 X16 B d4_14 rfl rfl rfl ?_
  refine waloadN OGc 16 X16 B d4_15 rfl rfl rfl ?_
  refine wputF OGc 19 X16 B hZ hown (ow hw 44 rfl) e16 F22 F18 (Or.inr ⟨(ow hw 45 rfl), rfl, hnm⟩) (ow hw 26 rfl) (ty := (.array .int)) (by decide) rfl rfl d4_16 rfl fun T30 h30 X30 e30 W30 => ?_
  have N30 := Fr.snoc X30 N16 g_a1
  have K31 := K17.wr W30 (Or.inl (List.mem_of_getElem? (i := 0) rfl))
  have F32 := F18.wr W30
  have F33 := F19.other W30 (Or.inr (slot_ne (Or.inr (ow hw 41 rfl)) (Or.inr (ow hw 45 rfl)) (by decide) (t := (.object "java/lang/String")) (t' := (.array .int)) (by decide) (by decide)))
  have F34 := F20.other W30 (Or.inr (slot_ne (Or.inr (ow hw 43 rfl)) (Or.inr (ow hw 45 rfl)) (by decide) (t := (.object "com/example/fragmark/fragmark/TermTokens")) (t' := (.array .int)) (by decide) (by decide)))
  have F35 := F21.other W30 (Or.inr (slot_ne (Or.inr (ow hw 47 rfl)) (Or.inr (ow hw 45 rfl)) (by decide) (t := .long) (t' := (.array .int)) (by decide) (by decide)))
  have F36 : Fld Z h30 a1 "com/example/fragmark/fragmark/PhraseTerm" "places" "[I" (.ref a4) := (F22.same W30)
  have F37 := F23.other W30 (Or.inr (slot_ne (Or.inr (ow hw 49 rfl)) (Or.inr (ow hw 45 rfl)) (by decide) (t := (.array .int)) (t' := (.array .int)) (by decide) (by decide)))
  have F38 := F24.other W30 (Or.inr (slot_ne (Or.inr (ow hw 51 rfl)) (Or.inr (ow hw 45 rfl)) (by decide) (t := (.array .int)) (t' := (.array .int)) (by decide) (by decide)))
  have F39 := F25.other W30 (Or.inr (slot_ne (Or.inr (ow hw 53 rfl)) (Or.inr (ow hw 45 rfl)) (by decide) (t := (.array .int)) (t' := (.array .int)) (by decide) (by decide)))
  have F40 := F26.other W30 (Or.inr (slot_ne (Or.inr (ow hw 55 rfl)) (Or.inr (ow hw 45 rfl)) (by decide) (t := (.array .int)) (t' := (.array .int)) (by decide) (by decide)))
  have F41 := F27.other W30 (Or.inr (slot_ne (Or.inl (ow hw 62 rfl)) (Or.inr (ow hw 45 rfl)) (by decide) (t := (.array .int)) (t' := (.array .int)) (by decide) (by decide)))
  have F42 := F28.other W30 (Or.inr (slot_ne (Or.inl (ow hw 85 rfl)) (Or.inr (ow hw 45 rfl)) (by decide) (t := (.array .int)) (t' := (.array .int)) (by decide) (by decide)))
  have F43 := F29.other W30 (Ne.symm ne_a1_a4)
  refine waloadN OGc 20 X30 B d4_19 rfl rfl rfl ?_
  refine wlload OGc 22 X30 B d4_20 rfl rfl ?_
  refine wputF OGc 25 X30 B hZ hown (ow hw 46 rfl) e30 F35 F32 (Or.inr ⟨(ow hw 47 rfl), rfl, hnm⟩) (ow hw 26 rfl) (ty := .long) (by decide) rfl rfl d4_22 rfl fun T44 h44 X44 e44 W44 => ?_
  have N44 := Fr.snoc X44 N30 g_a1
  have K45 := K31.wr W44 (Or.inl (List.mem_of_getElem? (i := 0) rfl))
  have F46 := F32.wr W44
  have F47 := F33.other W44 (Or.inr (slot_ne (Or.inr (ow hw 41 rfl)) (Or.inr (ow hw 47 rfl)) (by decide) (t := (.object "java/lang/String")) (t' := .long) (by decide) (by decide)))
  have F48 := F34.other W44 (Or.inr (slot_ne (Or.inr (ow hw 43 rfl)) (Or.inr (ow hw 47 rfl)) (by decide) (t := (.object "com/example/fragmark/fragmark/TermTokens")) (t' := .long) (by decide) (by decide)))
  have F49 : Fld Z h44 a1 "com/example/fragmark/fragmark/PhraseTerm" "slop" "J" (.long q5) := (F35.same W44)
  have F50 := F36.other W44 (Or.inr (slot_ne (Or.inr (ow hw 45 rfl)) (Or.inr (ow hw 47 rfl)) (by decide) (t := (.array .int)) (t' := .long) (by decide) (by decide)))
  have F51 := F37.other W44 (Or.inr (slot_ne (Or.inr (ow hw 49 rfl)) (Or.inr (ow hw 47 rfl)) (by decide) (t := (.array .int)) (t' := .long) (by decide) (by decide)))
  have F52 := F38.other W44 (Or.inr (slot_ne (Or.inr (ow hw 51 rfl)) (Or.inr (ow hw 47 rfl)) (by decide) (t := (.array .int)) (t' := .long) (by decide) (by decide)))
  have F53 := F39.other W44 (Or.inr (slot_ne (Or.inr (ow hw 53 rfl)) (Or.inr (ow hw 47 rfl)) (by decide) (t := (.array .int)) (t' := .long) (by decide) (by decide)))
  have F54 := F40.other W44 (Or.inr (slot_ne (Or.inr (ow hw 55 rfl)) (Or.inr (ow hw 47 rfl)) (by decide) (t := (.array .int)) (t' := .long) (by decide) (by decide)))
  have F55 := F41.other W44 (Or.inr (slot_ne (Or.inl (ow hw 62 rfl)) (Or.inr (ow hw 47 rfl)) (by decide) (t := (.array .int)) (t' := .long) (by decide) (by decide)))
  have F56 := F42.other W44 (Or.inr (slot_ne (Or.inl (ow hw 85 rfl)) (Or.inr (ow hw 47 rfl)) (by decide) (t := (.array .int)) (t' := .long) (by decide) (by decide)))
  have F57 := F43.other W44 (Ne.symm ne_a1_a4)
  refine waloadN OGc 26 X44 B d4_25 rfl rfl rfl ?_
  refine warlenA OGc 27 X44 B hZ e44 F57 (1 : Int32) rfl d4_26 rfl ?_
  refine wistore OGc 29 X44 B d4_27 #[.val (.ref a1), .val (.ref a2), .val (.ref a3), .val (.ref a4), .val (.long q5), .second, .val (.int (1 : Int32))] rfl rfl ?_
  refine waloadN OGc 30 X44 B d4_29 rfl rfl rfl ?_
  refine wiload OGc 32 X44 B d4_30 rfl rfl ?_
  refine wnewP OGc 34 X44 B hZ (ow hw 9 rfl) e44 d4_32 1 (by decide) (by decide) rfl fun T59 h59 b59 k59 gb59 X59 e59 E59 A59 => ?_
  have ge_b59 : n0 ≤ b59 := by rw [gb59]; exact Nat.le_trans Z0 K45.1
  have sz_b59 : h0.size ≤ b59 := by rw [gb59]; exact K45.1
  have ne_a1_b59 : a1 ≠ b59 := Nat.ne_of_lt (Nat.lt_of_lt_of_eq F46.lt gb59.symm)
  have ne_a4_b59 : a4 ≠ b59 := Nat.ne_of_lt (Nat.lt_of_lt_of_eq F57.lt gb59.symm)
  have F60 := F46.ext E59
  have F61 := F47.ext E59
  have F62 := F48.ext E59
  have F63 := F49.ext E59
  have F64 := F50.ext E59
  have F65 := F51.ext E59
  have F66 := F52.ext E59
  have F67 := F53.ext E59
  have F68 := F54.ext E59
  have F69 := F55.ext E59
  have F70 := F56.ext E59
  have F71 := F57.ext E59
  have K72 := K45.ext E59
  have F73 : OA Z h59 b59 .int [(.int (0 : Int32))] := OA.new A59
  refine wputF OGc 37 X59 B hZ hown (ow hw 48 rfl) e59 F65 F60 (Or.inr ⟨(ow hw 49 rfl), rfl, hnm⟩) (ow hw 26 rfl) (ty := (.array .int)) (by decide) rfl rfl d4_34 rfl fun T74 h74 X74 e74 W74 => ?_
  have N74 := Fr.snoc X74 N44 g_a1
  have K75 := K72.wr W74 (Or.inl (List.mem_of_getElem? (i := 0) rfl))
  have F76 := F60.wr W74
  have F77 := F61.other W74 (Or.inr (slot_ne (Or.inr (ow hw 41 rfl)) (Or.inr (ow hw 49 rfl)) (by decide) (t := (.object "java/lang/String")) (t' := (.array .int)) (by decide) (by decide)))
  have F78 := F62.other W74 (Or.inr (slot_ne (Or.inr (ow hw 43 rfl)) (Or.inr (ow hw 49 rfl)) (by decide) (t := (.object "com/example/fragmark/fragmark/TermTokens")) (t' := (.array .int)) (by decide) (by decide)))
  have F79 := F63.other W74 (Or.inr (slot_ne (Or.inr (ow hw 47 rfl)) (Or.inr (ow hw 49 rfl)) (by decide) (t := .long) (t' := (.array .int)) (by decide) (by decide)))
  have F80 := F64.other W74 (Or.inr (slot_ne (Or.inr (ow hw 45 rfl)) (Or.inr (ow hw 49 rfl)) (by decide) (t := (.array .int)) (t' := (.array .int)) (by decide) (by decide)))
  have F81 : Fld Z h74 a1 "com/example/fragmark/fragmark/PhraseTerm" "last" "[I" (.ref b59) := (F65.same W74)
  have F82 := F66.other W74 (Or.inr (slot_ne (Or.inr (ow hw 51 rfl)) (Or.inr (ow hw 49 rfl)) (by decide) (t := (.array .int)) (t' := (.array .int)) (by decide) (by decide)))
  have F83 := F67.other W74 (Or.inr (slot_ne (Or.inr (ow hw 53 rfl)) (Or.inr (ow hw 49 rfl)) (by decide) (t := (.array .int)) (t' := (.array .int)) (by decide) (by decide)))
  have F84 := F68.other W74 (Or.inr (slot_ne (Or.inr (ow hw 55 rfl)) (Or.inr (ow hw 49 rfl)) (by decide) (t := (.array .int)) (t' := (.array .int)) (by decide) (by decide)))
  have F85 := F69.other W74 (Or.inr (slot_ne (Or.inl (ow hw 62 rfl)) (Or.inr (ow hw 49 rfl)) (by decide) (t := (.array .int)) (t' := (.array .int)) (by decide) (by decide)))
  have F86 := F70.other W74 (Or.inr (slot_ne (Or.inl (ow hw 85 rfl)) (Or.inr (ow hw 49 rfl)) (by decide) (t := (.array .int)) (t' := (.array .int)) (by decide) (by decide)))
  have F87 := F71.other W74 (Ne.symm ne_a1_a4)
  have F88 := F73.other W74 (Ne.symm ne_a1_b59)
  refine waloadN OGc 38 X74 B d4_37 rfl rfl rfl ?_
  refine wiload OGc 40 X74 B d4_38 rfl rfl ?_
  refine wnewP OGc 42 X74 B hZ (ow hw 9 rfl) e74 d4_40 1 (by decide) (by decide) rfl fun T89 h89 b89 k89 gb89 X89 e89 E89 A89 => ?_
  have ge_b89 : n0 ≤ b89 := by rw [gb89]; exact Nat.le_trans Z0 K75.1
  have sz_b89 : h0.size ≤ b89 := by rw [gb89]; exact K75.1
  have ne_a1_b89 : a1 ≠ b89 := Nat.ne_of_lt (Nat.lt_of_lt_of_eq F76.lt gb89.symm)
  have ne_a4_b89 : a4 ≠ b89 := Nat.ne_of_lt (Nat.lt_of_lt_of_eq F87.lt gb89.symm)
  have ne_b59_b89 : b59 ≠ b89 := Nat.ne_of_lt (Nat.lt_of_lt_of_eq F88.lt gb89.symm)
  have F90 := F76.ext E89
  have F91 := F77.ext E89
  have F92 := F78.ext E89
  have F93 := F79.ext E89
  have F94 := F80.ext E89
  have F95 := F81.ext E89
  have F96 := F82.ext E89
  have F97 := F83.ext E89
  have F98 := F84.ext E89
  have F99 := F85.ext E89
  have F100 := F86.ext E89
  have F101 := F87.ext E89
  have F102 := F88.ext E89
  have K103 := K75.ext E89
  have F104 : OA Z h89 b89 .int [(.int (0 : Int32))] := OA.new A89
  refine wputF OGc 45 X89 B hZ hown (ow hw 50 rfl) e89 F96 F90 (Or.inr ⟨(ow hw 51 rfl), rfl, hnm⟩) (ow hw 26 rfl) (ty := (.array .int)) (by decide) rfl rfl d4_42 rfl fun T105 h105 X105 e105 W105 => ?_
  have N105 := Fr.snoc X105 N74 g_a1
  have K106 := K103.wr W105 (Or.inl (List.mem_of_getElem? (i := 0) rfl))
  have F107 := F90.wr W105
  have F108 := F91.other W105 (Or.inr (slot_ne (Or.inr (ow hw 41 rfl)) (Or.inr (ow hw 51 rfl)) (by decide) (t := (.object "java/lang/String")) (t' := (.array .int)) (by decide) (by decide)))
  have F109 := F92.other W105 (Or.inr (slot_ne (Or.inr (ow hw 43 rfl)) (Or.inr (ow hw 51 rfl)) (by decide) (t := (.object "com/example/fragmark/fragmark/TermTokens")) (t' := (.array .int)) (by decide) (by decide)))
  have F110 := F93.other W105 (Or.inr (slot_ne (Or.inr (ow hw 47 rfl)) (Or.inr (ow hw 51 rfl)) (by decide) (t := .long) (t' := (.array .int)) (by decide) (by decide)))
  have F111 := F94.other W105 (Or.inr (slot_ne (Or.inr (ow hw 45 rfl)) (Or.inr (ow hw 51 rfl)) (by decide) (t := (.array .int)) (t' := (.array .int)) (by decide) (by decide)))
  have F112 := F95.other W105 (Or.inr (slot_ne (Or.inr (ow hw 49 rfl)) (Or.inr (ow hw 51 rfl)) (by decide) (t := (.array .int)) (t' := (.array .int)) (by decide) (by decide)))
  have F113 : Fld Z h105 a1 "com/example/fragmark/fragmark/PhraseTerm" "taken" "[I" (.ref b89) := (F96.same W105)
  have F114 := F97.other W105 (Or.inr (slot_ne (Or.inr (ow hw 53 rfl)) (Or.inr (ow hw 51 rfl)) (by decide) (t := (.array .int)) (t' := (.array .int)) (by decide) (by decide)))
  have F115 := F98.other W105 (Or.inr (slot_ne (Or.inr (ow hw 55 rfl)) (Or.inr (ow hw 51 rfl)) (by decide) (t := (.array .int)) (t' := (.array .int)) (by decide) (by decide)))
  have F116 := F99.other W105 (Or.inr (slot_ne (Or.inl (ow hw 62 rfl)) (Or.inr (ow hw 51 rfl)) (by decide) (t := (.array .int)) (t' := (.array .int)) (by decide) (by decide)))
  have F117 := F100.other W105 (Or.inr (slot_ne (Or.inl (ow hw 85 rfl)) (Or.inr (ow hw 51 rfl)) (by decide) (t := (.array .int)) (t' := (.array .int)) (by decide) (by decide)))
  have F118 := F101.other W105 (Ne.symm ne_a1_a4)
  have F119 := F102.other W105 (Ne.symm ne_a1_b59)
  have F120 := F104.other W105 (Ne.symm ne_a1_b89)
  refine waloadN OGc 46 X105 B d4_45 rfl rfl rfl ?_
  refine wiload OGc 48 X105 B d4_46 rfl rfl ?_
  refine wnewP OGc 50 X105 B hZ (ow hw 9 rfl) e105 d4_48 1 (by decide) (by decide) rfl fun T121 h121 b121 k121 gb121 X121 e121 E121 A121 => ?_
  have ge_b121 : n0 ≤ b121 := by rw [gb121]; exact Nat.le_trans Z0 K106.1
  have sz_b121 : h0.size ≤ b121 := by rw [gb121]; exact K106.1
  have ne_a1_b121 : a1 ≠ b121 := Nat.ne_of_lt (Nat.lt_of_lt_of_eq F107.lt gb121.symm)
  have ne_a4_b121 : a4 ≠ b121 := Nat.ne_of_lt (Nat.lt_of_lt_of_eq F118.lt gb121.symm)
  have ne_b59_b121 : b59 ≠ b121 := Nat.ne_of_lt (Nat.lt_of_lt_of_eq F119.lt gb121.symm)
  have ne_b89_b121 : b89 ≠ b121 := Nat.ne_of_lt (Nat.lt_of_lt_of_eq F120.lt gb121.symm)
  have F122 := F107.ext E121
  have F123 := F108.ext E121
  have F124 := F109.ext E121
  have F125 := F110.ext E121
  have F126 := F111.ext E121
  have F127 := F112.ext E121
  have F128 := F113.ext E121
  have F129 := F114.ext E121
  have F130 := F115.ext E121
  have F131 := F116.ext E121
  have F132 := F117.ext E121
  have F133 := F118.ext E121
  have F134 := F119.ext E121
  have F135 := F120.ext E121
  have K136 := K106.ext E121
  have F137 : OA Z h121 b121 .int [(.int (0 : Int32))] := OA.new A121
  refine wputF OGc 53 X121 B hZ hown (ow hw 52 rfl) e121 F129 F122 (Or.inr ⟨(ow hw 53 rfl), rfl, hnm⟩) (ow hw 26 rfl) (ty := (.array .int)) (by decide) rfl rfl d4_50 rfl fun T138 h138 X138 e138 W138 => ?_
  have N138 := Fr.snoc X138 N105 g_a1
  have K139 := K136.wr W138 (Or.inl (List.mem_of_getElem? (i := 0) rfl))
  have F140 := F122.wr W138
  have F141 := F123.other W138 (Or.inr (slot_ne (Or.inr (ow hw 41 rfl)) (Or.inr (ow hw 53 rfl)) (by decide) (t := (.object "java/lang/String")) (t' := (.array .int)) (by decide) (by decide)))
  have F142 := F124.other W138 (Or.inr (slot_ne (Or.inr (ow hw 43 rfl)) (Or.inr (ow hw 53 rfl)) (by decide) (t := (.object "com/example/fragmark/fragmark/TermTokens")) (t' := (.array .int)) (by decide) (by decide)))
  have F143 := F125.other W138 (Or.inr (slot_ne (Or.inr (ow hw 47 rfl)) (Or.inr (ow hw 53 rfl)) (by decide) (t := .long) (t' := (.array .int)) (by decide) (by decide)))
  have F144 := F126.other W138 (Or.inr (slot_ne (Or.inr (ow hw 45 rfl)) (Or.inr (ow hw 53 rfl)) (by decide) (t := (.array .int)) (t' := (.array .int)) (by decide) (by decide)))
  have F145 := F127.other W138 (Or.inr (slot_ne (Or.inr (ow hw 49 rfl)) (Or.inr (ow hw 53 rfl)) (by decide) (t := (.array .int)) (t' := (.array .int)) (by decide) (by decide)))
  have F146 := F128.other W138 (Or.inr (slot_ne (Or.inr (ow hw 51 rfl)) (Or.inr (ow hw 53 rfl)) (by decide) (t := (.array .int)) (t' := (.array .int)) (by decide) (by decide)))
  have F147 : Fld Z h138 a1 "com/example/fragmark/fragmark/PhraseTerm" "latest" "[I" (.ref b121) := (F129.same W138)
  have F148 := F130.other W138 (Or.inr (slot_ne (Or.inr (ow hw 55 rfl)) (Or.inr (ow hw 53 rfl)) (by decide) (t := (.array .int)) (t' := (.array .int)) (by decide) (by decide)))
  have F149 := F131.other W138 (Or.inr (slot_ne (Or.inl (ow hw 62 rfl)) (Or.inr (ow hw 53 rfl)) (by decide) (t := (.array .int)) (t' := (.array .int)) (by decide) (by decide)))
  have F150 := F132.other W138 (Or.inr (slot_ne (Or.inl (ow hw 85 rfl)) (Or.inr (ow hw 53 rfl)) (by decide) (t := (.array .int)) (t' := (.array .int)) (by decide) (by decide)))
  have F151 := F133.other W138 (Ne.symm ne_a1_a4)
  have F152 := F134.other W138 (Ne.symm ne_a1_b59)
  have F153 := F135.other W138 (Ne.symm ne_a1_b89)
  have F154 := F137.other W138 (Ne.symm ne_a1_b121)
  refine waloadN OGc 54 X138 B d4_53 rfl rfl rfl ?_
  refine wiload OGc 56 X138 B d4_54 rfl rfl ?_
  refine wnewP OGc 58 X138 B hZ (ow hw 9 rfl) e138 d4_56 1 (by decide) (by decide) rfl fun T155 h155 b155 k155 gb155 X155 e155 E155 A155 => ?_
  have ge_b155 : n0 ≤ b155 := by rw [gb155]; exact Nat.le_trans Z0 K139.1
  have sz_b155 : h0.size ≤ b155 := by rw [gb155]; exact K139.1
  have ne_a1_b155 : a1 ≠ b155 := Nat.ne_of_lt (Nat.lt_of_lt_of_eq F140.lt gb155.symm)
  have ne_a4_b155 : a4 ≠ b155 := Nat.ne_of_lt (Nat.lt_of_lt_of_eq F151.lt gb155.symm)
  have ne_b121_b155 : b121 ≠ b155 := Nat.ne_of_lt (Nat.lt_of_lt_of_eq F154.lt gb155.symm)
  have ne_b59_b155 : b59 ≠ b155 := Nat.ne_of_lt (Nat.lt_of_lt_of_eq F152.lt gb155.symm)
  have ne_b89_b155 : b89 ≠ b155 := Nat.ne_of_lt (Nat.lt_of_lt_of_eq F153.lt gb155.symm)
  have F156 := F140.ext E155
  have F157 := F141.ext E155
  have F158 := F142.ext E155
  have F159 := F143.ext E155
  have F160 := F144.ext E155
  have F161 := F145.ext E155
  have F162 := F146.ext E155
  have F163 := F147.ext E155
  have F164 := F148.ext E155
  have F165 := F149.ext E155
  have F166 := F150.ext E155
  have F167 := F151.ext E155
  have F168 := F152.ext E155
  have F169 := F153.ext E155
  have F170 := F154.ext E155
  have K171 := K139.ext E155
  have F172 : OA Z h155 b155 .int [(.int (0 : Int32))] := OA.new A155
  refine wputF OGc 61 X155 B hZ hown (ow hw 54 rfl) e155 F164 F156 (Or.inr ⟨(ow hw 55 rfl), rfl, hnm⟩) (ow hw 26 rfl) (ty := (.array .int)) (by decide) rfl rfl d4_58 rfl fun T173 h173 X173 e173 W173 => ?_
  have N173 := Fr.snoc X173 N138 g_a1
  have K174 := K171.wr W173 (Or.inl (List.mem_of_getElem? (i := 0) rfl))
  have F175 := F156.wr W173
  have F176 := F157.other W173 (Or.inr (slot_ne (Or.inr (ow hw 41 rfl)) (Or.inr (ow hw 55 rfl)) (by decide) (t := (.object "java/lang/String")) (t' := (.array .int)) (by decide) (by decide)))
  have F177 := F158.other W173 (Or.inr (slot_ne (Or.inr (ow hw 43 rfl)) (Or.inr (ow hw 55 rfl)) (by decide) (t := (.object "com/example/fragmark/fragmark/TermTokens")) (t' := (.array .int)) (by decide) (by decide)))
  have F178 := F159.other W173 (Or.inr (slot_ne (Or.inr (ow hw 47 rfl)) (Or.inr (ow hw 55 rfl)) (by decide) (t := .long) (t' := (.array .int)) (by decide) (by decide)))
  have F179 := F160.other W173 (Or.inr (slot_ne (Or.inr (ow hw 45 rfl)) (Or.inr (ow hw 55 rfl)) (by decide) (t := (.array .int)) (t' := (.array .int)) (by decide) (by decide)))
  have F180 := F161.other W173 (Or.inr (slot_ne (Or.inr (ow hw 49 rfl)) (Or.inr (ow hw 55 rfl)) (by decide) (t := (.array .int)) (t' := (.array .int)) (by decide) (by decide)))
  have F181 := F162.other W173 (Or.inr (slot_ne (Or.inr (ow hw 51 rfl)) (Or.inr (ow hw 55 rfl)) (by decide) (t := (.array .int)) (t' := (.array .int)) (by decide) (by decide)))
  have F182 := F163.other W173 (Or.inr (slot_ne (Or.inr (ow hw 53 rfl)) (Or.inr (ow hw 55 rfl)) (by decide) (t := (.array .int)) (t' := (.array .int)) (by decide) (by decide)))
  have F183 : Fld Z h173 a1 "com/example/fragmark/fragmark/PhraseTerm" "marked" "[I" (.ref b155) := (F164.same W173)
  have F184 := F165.other W173 (Or.inr (slot_ne (Or.inl (ow hw 62 rfl)) (Or.inr (ow hw 55 rfl)) (by decide) (t := (.array .int)) (t' := (.array .int)) (by decide) (by decide)))
  have F185 := F166.other W173 (Or.inr (slot_ne (Or.inl (ow hw 85 rfl)) (Or.inr (ow hw 55 rfl)) (by decide) (t := (.array .int)) (t' := (.array .int)) (by decide) (by decide)))
  have F186 := F167.other W173 (Ne.symm ne_a1_a4)
  have F187 := F168.other W173 (Ne.symm ne_a1_b59)
  have F188 := F169.other W173 (Ne.symm ne_a1_b89)
  have F189 := F170.other W173 (Ne.symm ne_a1_b121)
  have F190 := F172.other W173 (Ne.symm ne_a1_b155)
  refine own_ret0 X173 hx hret hlk (hb hby d4_61) (by decide) (by decide) ?_
  rw [e173]
  exact ⟨rfl, N173, K174, F175, F177, F179, F184, F185⟩
theorem d8_0 : decode jdk_31_method_10_code 0 = .ok (.aload_n 0, 1) := by decide +kernel
theorem d8_1 : decode jdk_31_method_10_code 1 = .ok (.ifnonnull 11, 3) := by decide +kernel
theorem d8_12 : decode jdk_31_method_10_code 12 = .ok (.aload_n 0, 1) := by decide +kernel
theorem d8_13 : decode jdk_31_method_10_code 13 = .ok (.areturn, 1) := by decide +kernel
theorem pn_8 : plainFor (⟨"java/util/Objects", "requireNonNull", "(Ljava/lang/Object;)Ljava/lang/Object;"⟩ : MethodName) = true := by first | exact plainFor_of_name (by first | (simp [plainName, overriddenIn]; done) | decide +kernel) | decide +kernel
theorem ef_8 (m : MethodId) (a1 : Addr) : entryFrame m #[(.ref a1)] 1 = (mkF m 0 #[.val (.ref a1)] []) := by first | (simp [entryFrame, mkF, argsToLocals, Value.category]; done) | rfl
abbrev Q8 (Z : State) (a1 : Addr) (h0 : Heap) (n0 : Nat) : Option Value → Heap → List Loc → Prop := (fun v h L => v = some (.ref a1) ∧ Fr n0 L ∧ Keep h0 h [])
set_option maxRecDepth 65536 in
set_option maxHeartbeats 40000000 in
theorem rm8 (l : Launch) (Z : State) (a0 : Array Value) (hw : ∀ d ∈ tables_1, d.before a0 Z = true) (ws : List Jvm.Cond) (a1 : Addr) (h0 : Heap) (n0 : Nat) :
    OMet l Z (⟨"java/util/Objects", "requireNonNull", "(Ljava/lang/Object;)Ljava/lang/Object;"⟩ : MethodName) jdk_31_method_10_code 1 (some (.object "java/lang/Object")) ws ({ frames := 0, cells := 0, slots := 0, locals := 0 } : Room) #[(.ref a1)] h0 (Q8 Z a1 h0 n0) := by
  refine own_enter pn_8 ?_
  intro p e s m below meth c s₁ hx hby hml0 hown hret hlk hnm hZ X0 e0
  have hml : c.maxLocals = 1 := hml0
  have B : BX p c jdk_31_method_10_code := ⟨hx, hby⟩
  have N0 := Fr.nil n0
  refine own_cast (ef_8 m a1) ?_
  show OG p e ({ frames := 0, cells := 0, slots := 0, locals := 0 } : Room) s below (fun v h L => v = some (.ref a1) ∧ Fr n0 L ∧ Keep h0 h []) s₁ (mkF m 0 #[.val (.ref a1)] [])
  refine waloadN OGc 1 X0 B d8_0 rfl rfl rfl ?_
  refine wifnonnullYes OGc 12 X0 B d8_1 rfl ?_
  refine waloadN OGc 13 X0 B d8_12 rfl rfl rfl ?_
  refine own_retV X0 hx hret rfl (Or.inr (Or.inr (Or.inr (Or.inr ⟨rfl, rfl, rfl⟩)))) hlk (hb hby d8_13) (by decide) (by decide) ?_
  rw [e0]
  exact ⟨rfl, N0, (Keep.refl h0 [])⟩
theorem d9_0 : decode prog_35_method_23_code 0 = .ok (.iload_n 0, 1) := by decide +kernel
theorem d9_1 : decode prog_35_method_23_code 1 = .ok (.ireturn, 1) := by decide +kernel
theorem pn_9 : plainFor (⟨"com/example/fragmark/fragmark/PhraseTerm", "lambda$startPicking$0", "(I)I"⟩ : MethodName) = true := by first | exact plainFor_of_name (by first | (simp [plainName, overriddenIn]; done) | decide +kernel) | decide +kernel
def f9 (p1 : Int32) : Int32 := p1
theorem ef_9 (m : MethodId) (p1 : Int32) : entryFrame m #[(.int p1)] 1 = (mkF m 0 #[.val (.int p1)] []) := by first | (simp [entryFrame, mkF, argsToLocals, Value.category]; done) | rfl
abbrev Q9 (Z : State) (p1 : Int32) (h0 : Heap)  : Option Value → Heap → List Loc → Prop := (fun v h L => v = some (.int (f9 p1)) ∧ L = [] ∧ h = h0)
set_option maxRecDepth 65536 in
set_option maxHeartbeats 40000000 in
theorem rm9 (l : Launch) (Z : State) (a0 : Array Value) (hw : ∀ d ∈ tables_1, d.before a0 Z = true) (ws : List Jvm.Cond) (p1 : Int32) (h0 : Heap)  :
    OMet l Z (⟨"com/example/fragmark/fragmark/PhraseTerm", "lambda$startPicking$0", "(I)I"⟩ : MethodName) prog_35_method_23_code 1 (some .int) ws ({ frames := 0, cells := 0, slots := 0, locals := 0 } : Room) #[(.int p1)] h0 (Q9 Z p1 h0) := by
  refine own_enter pn_9 ?_
  intro p e s m below meth c s₁ hx hby hml0 hown hret hlk hnm hZ X0 e0
  have hml : c.maxLocals = 1 := hml0
  have B : BX p c prog_35_method_23_code := ⟨hx, hby⟩
  refine own_cast (ef_9 m p1) ?_
  show OG p e ({ frames := 0, cells := 0, slots := 0, locals := 0 } : Room) s below (fun v h L => v = some (.int (f9 p1)) ∧ L = [] ∧ h = h0) s₁ (mkF m 0 #[.val (.int p1)] [])
  refine wiloadN OGc 1 X0 B d9_0 rfl rfl ?_
  exact own_retI X0 hx hret hlk (hb hby d9_1) (by decide) (by decide) ⟨congrArg (fun z => some (Value.int z)) (show f9 p1 = p1 from (by rw [f9])).symm, rfl, e0⟩
theorem d7_0 : decode jdk_65_method_175_code 0 = .ok (.aload_n 1, 1) := by decide +kernel
theorem d7_1 : decode jdk_65_method_175_code 1 = .ok (.invokestatic 175, 3) := by decide +kernel
theorem d7_4 : decode jdk_65_method_175_code 4 = .ok (.pop, 1) := by decide +kernel
theorem d7_5 : decode jdk_65_method_175_code 5 = .ok (.iconst 0, 1) := by decide +kernel
theorem d7_6 : decode jdk_65_method_175_code 6 = .ok (.istore_n 2, 1) := by decide +kernel
theorem d7_7 : decode jdk_65_method_175_code 7 = .ok (.iload_n 2, 1) := by decide +kernel
theorem d7_8 : decode jdk_65_method_175_code 8 = .ok (.aload_n 0, 1) := by decide +kernel
theorem d7_9 : decode jdk_65_method_175_code 9 = .ok (.arraylength, 1) := by decide +kernel
theorem d7_10 : decode jdk_65_method_175_code 10 = .ok (.if_icmp .ge 19, 3) := by decide +kernel
theorem d7_13 : decode jdk_65_method_175_code 13 = .ok (.aload_n 0, 1) := by decide +kernel
theorem d7_14 : decode jdk_65_method_175_code 14 = .ok (.iload_n 2, 1) := by decide +kernel
theorem d7_15 : decode jdk_65_method_175_code 15 = .ok (.aload_n 1, 1) := by decide +kernel
theorem d7_16 : decode jdk_65_method_175_code 16 = .ok (.iload_n 2, 1) := by decide +kernel
theorem d7_17 : decode jdk_65_method_175_code 17 = .ok (.invokeinterface 582 2, 5) := by decide +kernel
theorem d7_22 : decode jdk_65_method_175_code 22 = .ok (.iastore, 1) := by decide +kernel
theorem d7_23 : decode jdk_65_method_175_code 23 = .ok (.iinc 2 1, 3) := by decide +kernel
theorem d7_26 : decode jdk_65_method_175_code 26 = .ok (.goto (-19), 3) := by decide +kernel
theorem d7_29 : decode jdk_65_method_175_code 29 = .ok (.return_, 1) := by decide +kernel
theorem pd__Ljava_lang_Object__Ljava_lang_Object_ : parseMethodDescriptor "(Ljava/lang/Object;)Ljava/lang/Object;" = some ⟨[(.object "java/lang/Object")], some (.object "java/lang/Object")⟩ := by decide +kernel
theorem pn_7 : plainFor (⟨"java/util/Arrays", "setAll", "([ILjava/util/function/IntUnaryOperator;)V"⟩ : MethodName) = true := by first | exact plainFor_of_name (by first | (simp [plainName, overriddenIn]; done) | decide +kernel) | decide +kernel
theorem ef_7 (m : MethodId) (a1 : Addr) (a2 : Addr) : entryFrame m #[(.ref a1), (.ref a2)] 3 = (mkF m 0 #[.val (.ref a1), .val (.ref a2), .unset] []) := by first | (simp [entryFrame, mkF, argsToLocals, Value.category]; done) | rfl
abbrev Q7 (Z : State) (a1 : Addr) (a2 : Addr) (fk : ClassId) (h0 : Heap) (n0 : Nat) : Option Value → Heap → List Loc → Prop := (fun v h L => v = none ∧ Fr n0 L ∧ Keep h0 h [a1] ∧ OA Z h a1 .int [(.int (0 : Int32)), (.int (1 : Int32)), (.int (2 : Int32)), (.int (3 : Int32))])
set_option maxRecDepth 65536 in
set_option maxHeartbeats 40000000 in
theorem rm7 (l : Launch) (Z : State) (a0 : Array Value) (hw : ∀ d ∈ tables_1, d.before a0 Z = true) (ws : List Jvm.Cond) (a1 : Addr) (a2 : Addr) (fk : ClassId) (h0 : Heap) (n0 : Nat) (R0 : OA Z h0 a1 .int [(.int (0 : Int32)), (.int (0 : Int32)), (.int (0 : Int32)), (.int (0 : Int32))]) (R1 : OF Z h0 a2 fk) (g_a1 : n0 ≤ a1) (ne_a1_a2 : a1 ≠ a2) (hsite : OSite Z a2 fk) :
    OMet l Z (⟨"java/util/Arrays", "setAll", "([ILjava/util/function/IntUnaryOperator;)V"⟩ : MethodName) jdk_65_method_175_code 3 none ws ({ frames := 2, cells := 0, slots := 0, locals := 27 } : Room) #[(.ref a1), (.ref a2)] h0 (Q7 Z a1 a2 fk h0 n0) := by
  refine own_enter pn_7 ?_
  intro p e s m below meth c s₁ hx hby hml0 hown hret hlk hnm hZ X0 e0
  have hml : c.maxLocals = 3 := hml0
  have B : BX p c jdk_65_method_175_code := ⟨hx, hby⟩
  have N0 := Fr.nil n0
  refine own_cast (ef_7 m a1 a2) ?_
  show OG p e ({ frames := 2, cells := 0, slots := 0, locals := 27 } : Room) s below (fun v h L => v = none ∧ Fr n0 L ∧ Keep h0 h [a1] ∧ OA Z h a1 .int [(.int (0 : Int32)), (.int (1 : Int32)), (.int (2 : Int32)), (.int (3 : Int32))]) s₁ (mkF m 0 #[.val (.ref a1), .val (.ref a2), .unset] [])
  refine waloadN OGc 1 X0 B d7_0 rfl rfl rfl ?_
  refine wstat OGc 4 X0 B hZ hown (ow hw 75 rfl) (ow hw 76 rfl) (ow hw 78 rfl) (ow hw 77 rfl) e0 (rm8 l Z a0 hw [] a2 h0 n0) 0 (by decide) (by decide) hml rfl (lenOf pd__Ljava_lang_Object__Ljava_lang_Object_ rfl) [] rfl rfl d7_1 rfl fun _ T1 L1 X1 hQ1 => ?_
  obtain ⟨rfl, N1q, K1q⟩ := hQ1
  have N1 := Fr.app N0 N1q
  have K1 := (Keep.refl h0 [a1]).trans K1q (own_all0 )
  have F2 := R0.keep K1q (own_nin0 )
  have F3 := R1.keep K1q
  refine own_stk (S' := [(.ref a2)]) rfl ?_
  refine wpop OGc 5 X1 B d7_4 rfl rfl ?_
  refine wiconst OGc 6 X1 B d7_5 0 rfl rfl ?_
  refine wistoreN OGc 7 X1 B d7_6 #[.val (.ref a1), .val (.ref a2), .val (.int (0 : Int32))] rfl rfl ?_
  refine wiloadN OGc 8 X1 B d7_7 rfl rfl ?_
  refine waloadN OGc 9 X1 B d7_8 rfl rfl rfl ?_
  refine warlenA OGc 10 X1 B hZ rfl F2 (4 : Int32) rfl d7_9 rfl ?_
  refine wicmpNo OGc 13 X1 B d7_10 (by decide) rfl ?_
  refine waloadN OGc 14 X1 B d7_13 rfl rfl rfl ?_
  refine wiloadN OGc 15 X1 B d7_14 rfl rfl ?_
  refine waloadN OGc 16 X1 B d7_15 rfl rfl rfl ?_
  refine wiloadN OGc 17 X1 B d7_16 rfl rfl ?_
  obtain ⟨T5, X5, e5, st5⟩ := own_lam X1 hx hZ hown (ow hw 79 rfl) (ow hw 80 rfl) (ow hw 81 rfl) (ow hw 83 rfl) (ow hw 82 rfl) (ow hw 27 rfl) hsite rfl F3 (z := (0 : Int32)) (w := (0 : Int32)) (rm9 l Z a0 hw [] (0 : Int32) T1.heap) (Ls := #[.val (.ref a1), .val (.ref a2), .val (.int (0 : Int32))]) (by rw [hml]; rfl) (rest := [(.int (0 : Int32)), (.ref a1)]) (hb hby d7_17) (by decide) (W := 2) rfl (by decide) (by decide) (by decide)
  refine own_st st5 ?_
  show OG p e _ s below _ T5 (mkF m 22 #[.val (.ref a1), .val (.ref a2), .val (.int (0 : Int32))] [(.int (0 : Int32)), (.int (0 : Int32)), (.ref a1)])
  refine wstI OGc 23 X5 B hZ e5 F2 0 (by decide) (by decide) (by decide : 0 < 4) d7_22 rfl fun T6 h6 X6 e6 W6 => ?_
  have N6 := Fr.snoc X6 N1 g_a1
  have K7 := K1.wr W6 (Or.inl (List.mem_of_getElem? (i := 0) rfl))
  have F8 : OA Z h6 a1 .int [(.int (0 : Int32)), (.int (0 : Int32)), (.int (0 : Int32)), (.int (0 : Int32))] := (F2.set W6 (i := 0) (by decide))
  have F9 := OF.wr F3 W6
  refine wiinc OGc 26 X6 B d7_23 #[.val (.ref a1), .val (.ref a2), .val (.int ((0 : Int32) + (1 : Int32)))] rfl rfl rfl ?_
  show OG p e _ s below _ T6 (mkF m 26 #[.val (.ref a1), .val (.ref a2), .val (.int (1 : Int32))] [])
  refine wgoto OGc 7 X6 B d7_26 rfl ?_
  refine wiloadN OGc 8 X6 B d7_7 rfl rfl ?_
  refine waloadN OGc 9 X6 B d7_8 rfl rfl rfl ?_
  refine warlenA OGc 10 X6 B hZ e6 F8 (4 : Int32) rfl d7_9 rfl ?_
  refine wicmpNo OGc 13 X6 B d7_10 (by decide) rfl ?_
  refine waloadN OGc 14 X6 B d7_13 rfl rfl rfl ?_
  refine wiloadN OGc 15 X6 B d7_14 rfl rfl ?_
  refine waloadN OGc 16 X6 B d7_15 rfl rfl rfl ?_
  refine wiloadN OGc 17 X6 B d7_16 rfl rfl ?_
  obtain ⟨T11, X11, e11, st11⟩ := own_lam X6 hx hZ hown (ow hw 79 rfl) (ow hw 80 rfl) (ow hw 81 rfl) (ow hw 83 rfl) (ow hw 82 rfl) (ow hw 27 rfl) hsite e6 F9 (z := (1 : Int32)) (w := (1 : Int32)) (rm9 l Z a0 hw [] (1 : Int32) h6) (Ls := #[.val (.ref a1), .val (.ref a2), .val (.int (1 : Int32))]) (by rw [hml]; rfl) (rest := [(.int (1 : Int32)), (.ref a1)]) (hb hby d7_17) (by decide) (W := 2) rfl (by decide) (by decide) (by decide)
  refine own_st st11 ?_
  show OG p e _ s below _ T11 (mkF m 22 #[.val (.ref a1), .val (.ref a2), .val (.int (1 : Int32))] [(.int (1 : Int32)), (.int (1 : Int32)), (.ref a1)])
  refine wstI OGc 23 X11 B hZ e11 F8 1 (by decide) (by decide) (by decide : 1 < 4) d7_22 rfl fun T12 h12 X12 e12 W12 => ?_
  have N12 := Fr.snoc X12 N6 g_a1
  have K13 := K7.wr W12 (Or.inl (List.mem_of_getElem? (i := 0) rfl))
  have F14 : OA Z h12 a1 .int [(.int (0 : Int32)), (.int (1 : Int32)), (.int (0 : Int32)), (.int (0 : Int32))] := (F8.set W12 (i := 1) (by decide))
  have F15 := OF.wr F9 W12
  refine wiinc OGc 26 X12 B d7_23 #[.val (.ref a1), .val (.ref a2), .val (.int ((1 : Int32) + (1 : Int32)))] rfl rfl rfl ?_
  show OG p e _ s below _ T12 (mkF m 26 #[.val (.ref a1), .val (.ref a2), .val (.int (2 : Int32))] [])
  refine wgoto OGc 7 X12 B d7_26 rfl ?_
  refine wiloadN OGc 8 X12 B d7_7 rfl rfl ?_
  refine waloadN OGc 9 X12 B d7_8 rfl rfl rfl ?_
  refine warlenA OGc 10 X12 B hZ e12 F14 (4 : Int32) rfl d7_9 rfl ?_
  refine wicmpNo OGc 13 X12 B d7_10 (by decide) rfl ?_
  refine waloadN OGc 14 X12 B d7_13 rfl rfl rfl ?_
  refine wiloadN OGc 15 X12 B d7_14 rfl rfl ?_
  refine waloadN OGc 16 X12 B d7_15 rfl rfl rfl ?_
  refine wiloadN OGc 17 X12 B d7_16 rfl rfl ?_
  obtain ⟨T17, X17, e17, st17⟩ := own_lam X12 hx hZ hown (ow hw 79 rfl) (ow hw 80 rfl) (ow hw 81 rfl) (ow hw 83 rfl) (ow hw 82 rfl) (ow hw 27 rfl) hsite e12 F15 (z := (2 : Int32)) (w := (2 : Int32)) (rm9 l Z a0 hw [] (2 : Int32) h12) (Ls := #[.val (.ref a1), .val (.ref a2), .val (.int (2 : Int32))]) (by rw [hml]; rfl) (rest := [(.int (2 : Int32)), (.ref a1)]) (hb hby d7_17) (by decide) (W := 2) rfl (by decide) (by decide) (by decide)
  refine own_st st17 ?_
  show OG p e _ s below _ T17 (mkF m 22 #[.val (.ref a1), .val (.ref a2), .val (.int (2 : Int32))] [(.int (2 : Int32)), (.int (2 : Int32)), (.ref a1)])
  refine wstI OGc 23 X17 B hZ e17 F14 2 (by decide) (by decide) (by decide : 2 < 4) d7_22 rfl fun T18 h18 X18 e18 W18 => ?_
  have N18 := Fr.snoc X18 N12 g_a1
  have K19 := K13.wr W18 (Or.inl (List.mem_of_getElem? (i := 0) rfl))
  have F20 : OA Z h18 a1 .int [(.int (0 : Int32)), (.int (1 : Int32)), (.int (2 : Int32)), (.int (0 : Int32))] := (F14.set W18 (i := 2) (by decide))
  have F21 := OF.wr F15 W18
  refine wiinc OGc 26 X18 B d7_23 #[.val (.ref a1), .val (.ref a2), .val (.int ((2 : Int32) + (1 : Int32)))] rfl rfl rfl ?_
  show OG p e _ s below _ T18 (mkF m 26 #[.val (.ref a1), .val (.ref a2), .val (.int (3 : Int32))] [])
  refine wgoto OGc 7 X18 B d7_26 rfl ?_
  refine wiloadN OGc 8 X18 B d7_7 rfl rfl ?_
  refine waloadN OGc 9 X18 B d7_8 rfl rfl rfl ?_
  refine warlenA OGc 10 X18 B hZ e18 F20 (4 : Int32) rfl d7_9 rfl ?_
  refine wicmpNo OGc 13 X18 B d7_10 (by decide) rfl ?_
  refine waloadN OGc 14 X18 B d7_13 rfl rfl rfl ?_
  refine wiloadN OGc 15 X18 B d7_14 rfl rfl ?_
  refine waloadN OGc 16 X18 B d7_15 rfl rfl rfl ?_
  refine wiloadN OGc 17 X18 B d7_16 rfl rfl ?_
  obtain ⟨T23, X23, e23, st23⟩ := own_lam X18 hx hZ hown (ow hw 79 rfl) (ow hw 80 rfl) (ow hw 81 rfl) (ow hw 83 rfl) (ow hw 82 rfl) (ow hw 27 rfl) hsite e18 F21 (z := (3 : Int32)) (w := (3 : Int32)) (rm9 l Z a0 hw [] (3 : Int32) h18) (Ls := #[.val (.ref a1), .val (.ref a2), .val (.int (3 : Int32))]) (by rw [hml]; rfl) (rest := [(.int (3 : Int32)), (.ref a1)]) (hb hby d7_17) (by decide) (W := 2) rfl (by decide) (by decide) (by decide)
  refine own_st st23 ?_
  show OG p e _ s below _ T23 (mkF m 22 #[.val (.ref a1), .val (.ref a2), .val (.int (3 : Int32))] [(.int (3 : Int32)), (.int (3 : Int32)), (.ref a1)])
  refine wstI OGc 23 X23 B hZ e23 F20 3 (by decide) (by decide) (by decide : 3 < 4) d7_22 rfl fun T24 h24 X24 e24 W24 => ?_
  have N24 := Fr.snoc X24 N18 g_a1
  have K25 := K19.wr W24 (Or.inl (List.mem_of_getElem? (i := 0) rfl))
  have F26 : OA Z h24 a1 .int [(.int (0 : Int32)), (.int (1 : Int32)), (.int (2 : Int32)), (.int (3 : Int32))] := (F20.set W24 (i := 3) (by decide))
  have F27 := OF.wr F21 W24
  refine wiinc OGc 26 X24 B d7_23 #[.val (.ref a1), .val (.ref a2), .val (.int ((3 : Int32) + (1 : Int32)))] rfl rfl rfl ?_
  show OG p e _ s below _ T24 (mkF m 26 #[.val (.ref a1), .val (.ref a2), .val (.int (4 : Int32))] [])
  refine wgoto OGc 7 X24 B d7_26 rfl ?_
  refine wiloadN OGc 8 X24 B d7_7 rfl rfl ?_
  refine waloadN OGc 9 X24 B d7_8 rfl rfl rfl ?_
  refine warlenA OGc 10 X24 B hZ e24 F26 (4 : Int32) rfl d7_9 rfl ?_
  refine wicmpYes OGc 29 X24 B d7_10 (by decide) rfl ?_
  refine own_ret0 X24 hx hret hlk (hb hby d7_29) (by decide) (by decide) ?_
  rw [e24]
  exact ⟨rfl, N24, K25, F26⟩
theorem d5_0 : decode prog_35_method_14_code 0 = .ok (.aload_n 0, 1) := by decide +kernel
theorem d5_1 : decode prog_35_method_14_code 1 = .ok (.getfield 109, 3) := by decide +kernel
theorem d5_4 : decode prog_35_method_14_code 4 = .ok (.ifnonnull 18, 3) := by decide +kernel
theorem d5_7 : decode prog_35_method_14_code 7 = .ok (.aload_n 0, 1) := by decide +kernel
theorem d5_8 : decode prog_35_method_14_code 8 = .ok (.aload_n 0, 1) := by decide +kernel
theorem d5_9 : decode prog_35_method_14_code 9 = .ok (.getfield 13, 3) := by decide +kernel
theorem d5_12 : decode prog_35_method_14_code 12 = .ok (.invokevirtual 43, 3) := by decide +kernel
theorem d5_15 : decode prog_35_method_14_code 15 = .ok (.iconst 1, 1) := by decide +kernel
theorem d5_16 : decode prog_35_method_14_code 16 = .ok (.iadd, 1) := by decide +kernel
theorem d5_17 : decode prog_35_method_14_code 17 = .ok (.newarray .int, 2) := by decide +kernel
theorem d5_19 : decode prog_35_method_14_code 19 = .ok (.putfield 109, 3) := by decide +kernel
theorem d5_22 : decode prog_35_method_14_code 22 = .ok (.aload_n 0, 1) := by decide +kernel
theorem d5_23 : decode prog_35_method_14_code 23 = .ok (.getfield 109, 3) := by decide +kernel
theorem d5_26 : decode prog_35_method_14_code 26 = .ok (.invokedynamic 112, 5) := by decide +kernel
theorem d5_31 : decode prog_35_method_14_code 31 = .ok (.invokestatic 116, 3) := by decide +kernel
theorem d5_34 : decode prog_35_method_14_code 34 = .ok (.aload_n 0, 1) := by decide +kernel
theorem d5_35 : decode prog_35_method_14_code 35 = .ok (.aload_n 0, 1) := by decide +kernel
theorem d5_36 : decode prog_35_method_14_code 36 = .ok (.getfield 17, 3) := by decide +kernel
theorem d5_39 : decode prog_35_method_14_code 39 = .ok (.arraylength, 1) := by decide +kernel
theorem d5_40 : decode prog_35_method_14_code 40 = .ok (.newarray .int, 2) := by decide +kernel
theorem d5_42 : decode prog_35_method_14_code 42 = .ok (.putfield 120, 3) := by decide +kernel
theorem d5_45 : decode prog_35_method_14_code 45 = .ok (.return_, 1) := by decide +kernel
theorem pd___I : parseMethodDescriptor "()I" = some ⟨[], some .int⟩ := by decide +kernel
theorem pd___ILjava_util_function_IntUnaryOperator__V : parseMethodDescriptor "([ILjava/util/function/IntUnaryOperator;)V" = some ⟨[(.array .int), (.object "java/util/function/IntUnaryOperator")], none⟩ := by decide +kernel
theorem pn_5 : plainFor (⟨"com/example/fragmark/fragmark/PhraseTerm", "startPicking", "()V"⟩ : MethodName) = true := by first | exact plainFor_of_name (by first | (simp [plainName, overriddenIn]; done) | decide +kernel) | decide +kernel
theorem ef_5 (m : MethodId) (a1 : Addr) : entryFrame m #[(.ref a1)] 1 = (mkF m 0 #[.val (.ref a1)] []) := by first | (simp [entryFrame, mkF, argsToLocals, Value.category]; done) | rfl
abbrev Q5 (Z : State) (a1 : Addr) (w : Addr) (pl : Addr) (fa : Addr) (fk : ClassId) (h0 : Heap) (n0 : Nat) : Option Value → Heap → List Loc → Prop := (fun v h L => v = none ∧ Fr n0 L ∧ Keep h0 h [a1] ∧ ∃ b : Addr, h0.size ≤ b ∧ Exa Z h a1 "com/example/fragmark/fragmark/PhraseTerm" ∧ Fld Z h a1 "com/example/fragmark/fragmark/PhraseTerm" "free" "[I" (.ref b) ∧ OA Z h b .int [(.int (0 : Int32)), (.int (1 : Int32)), (.int (2 : Int32)), (.int (3 : Int32))])
set_option maxRecDepth 65536 in
set_option maxHeartbeats 40000000 in
theorem rm5 (l : Launch) (Z : State) (a0 : Array Value) (hw : ∀ d ∈ tables_1, d.before a0 Z = true) (ws : List Jvm.Cond) (a1 : Addr) (w : Addr) (pl : Addr) (fa : Addr) (fk : ClassId) (h0 : Heap) (n0 : Nat) (Z0 : n0 ≤ h0.size) (R0 : Exa Z h0 a1 "com/example/fragmark/fragmark/PhraseTerm") (R1 : Fld Z h0 a1 "com/example/fragmark/fragmark/PhraseTerm" "words" "Lcom/example/fragmark/fragmark/TermTokens;" (.ref w)) (R2 : Fld Z h0 a1 "com/example/fragmark/fragmark/PhraseTerm" "places" "[I" (.ref pl)) (R3 : Fld Z h0 a1 "com/example/fragmark/fragmark/PhraseTerm" "free" "[I" .null) (R4 : Fld Z h0 a1 "com/example/fragmark/fragmark/PhraseTerm" "from" "[I" .null) (R5 : Exa Z h0 w "com/example/fragmark/fragmark/TermTokens") (R6 : Fld Z h0 w "com/example/fragmark/fragmark/TermTokens" "size" "I" (.int (3 : Int32))) (R7 : OA Z h0 pl .int [(.int (0 : Int32))]) (R8 : OF Z h0 fa fk) (g_a1 : n0 ≤ a1) (ne_a1_w : a1 ≠ w) (ne_a1_pl : a1 ≠ pl) (hsite : OSite Z fa fk) :
    OMet l Z (⟨"com/example/fragmark/fragmark/PhraseTerm", "startPicking", "()V"⟩ : MethodName) prog_35_method_14_code 1 none ws ({ frames := 3, cells := 2, slots := 5, locals := 3073 } : Room) #[(.ref a1)] h0 (Q5 Z a1 w pl fa fk h0 n0) := by
  refine own_enterN pn_5 ?_
  intro p e s m below meth c s₁ hx hby hml0 hown hret hlk hnm hnamed hZ X0 e0
  have hml : c.maxLocals = 1 := hml0
  have B : BX p c prog_35_method_14_code := ⟨hx, hby⟩
  have N0 := Fr.nil n0
  refine own_cast (ef_5 m a1) ?_
  show OG p e ({ frames := 3, cells := 2, slots := 5, locals := 3073 } : Room) s below (fun v h L => v = none ∧ Fr n0 L ∧ Keep h0 h [a1] ∧ ∃ b : Addr, h0.size ≤ b ∧ Exa Z h a1 "com/example/fragmark/fragmark/PhraseTerm" ∧ Fld Z h a1 "com/example/fragmark/fragmark/PhraseTerm" "free" "[I" (.ref b) ∧ OA Z h b .int [(.int (0 : Int32)), (.int (1 : Int32)), (.int (2 : Int32)), (.int (3 : Int32))]) s₁ (mkF m 0 #[.val (.ref a1)] [])
  refine waloadN OGc 1 X0 B d5_0 rfl rfl rfl ?_
  refine wgetF OGc 4 X0 B hZ hown (ow hw 61 rfl) e0 R3 d5_1 rfl fun T1 X1 e1 => ?_
  refine wifnonnullNo OGc 7 X1 B d5_4 rfl ?_
  refine waloadN OGc 8 X1 B d5_7 rfl rfl rfl ?_
  refine waloadN OGc 9 X1 B d5_8 rfl rfl rfl ?_
  refine wgetF OGc 12 X1 B hZ hown (ow hw 42 rfl) e1 R1 d5_9 rfl fun T2 X2 e2 => ?_
  refine wvirt OGc 15 X2 B hZ hown (ow hw 63 rfl) (ow hw 64 rfl) (ow hw 66 rfl) (ow hw 65 rfl) R5 (ow hw 67 rfl) (ow hw 2 rfl) e2 (rm6 l Z a0 hw [] w h0 n0 R6) 1 (by decide) (by decide) hml rfl (lenOf pd___I rfl) [(.ref a1)] rfl rfl d5_12 rfl fun _ T3 L3 X3 hQ3 => ?_
  obtain ⟨rfl, N3q, K3q⟩ := hQ3
  have N3 := Fr.app N0 N3q
  have K3 := (Keep.refl h0 [a1]).trans K3q (own_all0 )
  have F4 := R0.keep K3q
  have F5 := R1.keep K3q (own_nin0 )
  have F6 := R2.keep K3q (own_nin0 )
  have F7 := R3.keep K3q (own_nin0 )
  have F8 := R4.keep K3q (own_nin0 )
  have F9 := R5.keep K3q
  have F10 := R6.keep K3q (own_nin0 )
  have F11 := R7.keep K3q (own_nin0 )
  have F12 := R8.keep K3q
  refine own_stk (S' := [(.int (3 : Int32)), (.ref a1)]) rfl ?_
  refine wiconst OGc 16 X3 B d5_15 1 rfl rfl ?_
  refine wiadd OGc 17 X3 B d5_16 rfl ?_
  show OG p e _ s below _ T3 (mkF m 17 #[.val (.ref a1)] [(.int (4 : Int32)), (.ref a1)])
  refine wnewP OGc 19 X3 B hZ (ow hw 9 rfl) rfl d5_17 4 (by decide) (by decide) rfl fun T13 h13 b13 k13 gb13 X13 e13 E13 A13 => ?_
  have ge_b13 : n0 ≤ b13 := by rw [gb13]; exact Nat.le_trans Z0 K3.1
  have sz_b13 : h0.size ≤ b13 := by rw [gb13]; exact K3.1
  have ne_a1_b13 : a1 ≠ b13 := Nat.ne_of_lt (Nat.lt_of_lt_of_eq F4.lt gb13.symm)
  have ne_fa_b13 : fa ≠ b13 := Nat.ne_of_lt (Nat.lt_of_lt_of_eq F12.lt gb13.symm)
  have ne_pl_b13 : pl ≠ b13 := Nat.ne_of_lt (Nat.lt_of_lt_of_eq F11.lt gb13.symm)
  have ne_w_b13 : w ≠ b13 := Nat.ne_of_lt (Nat.lt_of_lt_of_eq F9.lt gb13.symm)
  have F14 := F4.ext E13
  have F15 := F5.ext E13
  have F16 := F6.ext E13
  have F17 := F7.ext E13
  have F18 := F8.ext E13
  have F19 := F9.ext E13
  have F20 := F10.ext E13
  have F21 := F11.ext E13
  have F22 := F12.ext E13
  have K23 := K3.ext E13
  have F24 : OA Z h13 b13 .int [(.int (0 : Int32)), (.int (0 : Int32)), (.int (0 : Int32)), (.int (0 : Int32))] := OA.new A13
  refine wputF OGc 22 X13 B hZ hown (ow hw 61 rfl) e13 F17 F14 (Or.inl (ow hw 62 rfl)) (ow hw 26 rfl) (ty := (.array .int)) (by decide) rfl rfl d5_19 rfl fun T25 h25 X25 e25 W25 => ?_
  have N25 := Fr.snoc X25 N3 g_a1
  have K26 := K23.wr W25 (Or.inl (List.mem_of_getElem? (i := 0) rfl))
  have F27 := F14.wr W25
  have F28 := F15.other W25 (Or.inr (slot_ne (Or.inr (ow hw 43 rfl)) (Or.inl (ow hw 62 rfl)) (by decide) (t := (.object "com/example/fragmark/fragmark/TermTokens")) (t' := (.array .int)) (by decide) (by decide)))
  have F29 := F16.other W25 (Or.inr (slot_ne (Or.inr (ow hw 45 rfl)) (Or.inl (ow hw 62 rfl)) (by decide) (t := (.array .int)) (t' := (.array .int)) (by decide) (by decide)))
  have F30 : Fld Z h25 a1 "com/example/fragmark/fragmark/PhraseTerm" "free" "[I" (.ref b13) := (F17.same W25)
  have F31 := F18.other W25 (Or.inr (slot_ne (Or.inl (ow hw 85 rfl)) (Or.inl (ow hw 62 rfl)) (by decide) (t := (.array .int)) (t' := (.array .int)) (by decide) (by decide)))
  have F32 := F19.wr W25
  have F33 := F20.other W25 (Or.inl (Ne.symm ne_a1_w))
  have F34 := F21.other W25 (Ne.symm ne_a1_pl)
  have F35 := OF.wr F22 W25
  have F36 := F24.other W25 (Ne.symm ne_a1_b13)
  refine waloadN OGc 23 X25 B d5_22 rfl rfl rfl ?_
  refine wgetF OGc 26 X25 B hZ hown (ow hw 61 rfl) e25 F30 d5_23 rfl fun T37 X37 e37 => ?_
  refine own_st (own_indy X37 hx hZ hnamed hsite (g := (mkF m 26 #[.val (.ref a1)] [(.ref b13)])) rfl rfl (by rw [hml]; rfl) (hb hby d5_26) (by show 2 * 0 + 1 + 3072 ≤ _; decide)) ?_
  show OG p e _ s below _ T37 (mkF m 31 #[.val (.ref a1)] [(.ref fa), (.ref b13)])
  refine wstat OGc 34 X37 B hZ hown (ow hw 71 rfl) (ow hw 72 rfl) (ow hw 74 rfl) (ow hw 73 rfl) e37 (rm7 l Z a0 hw [] b13 fa fk h25 n0 F36 F35 ge_b13 (Ne.symm ne_fa_b13) hsite) 0 (by decide) (by decide) hml rfl (lenOf pd___ILjava_util_function_IntUnaryOperator__V rfl) [] rfl rfl d5_31 rfl fun _ T38 L38 X38 hQ38 => ?_
  obtain ⟨rfl, N38q, K38q, P38_0⟩ := hQ38
  have N38 := Fr.app N25 N38q
  have K38 := K26.trans K38q (own_all1 (Or.inr sz_b13))
  have F39 := F27.keep K38q
  have F40 := F28.keep K38q (own_nin1 ne_a1_b13)
  have F41 := F29.keep K38q (own_nin1 ne_a1_b13)
  have F42 := F30.keep K38q (own_nin1 ne_a1_b13)
  have F43 := F31.keep K38q (own_nin1 ne_a1_b13)
  have F44 := F32.keep K38q
  have F45 := F33.keep K38q (own_nin1 ne_w_b13)
  have F46 := F34.keep K38q (own_nin1 ne_pl_b13)
  have F47 := F35.keep K38q
  refine own_stk (S' := []) rfl ?_
  refine waloadN OGc 35 X38 B d5_34 rfl rfl rfl ?_
  refine waloadN OGc 36 X38 B d5_35 rfl rfl rfl ?_
  refine wgetF OGc 39 X38 B hZ hown (ow hw 44 rfl) rfl F41 d5_36 rfl fun T48 X48 e48 => ?_
  refine warlenA OGc 40 X48 B hZ e48 F46 (1 : Int32) rfl d5_39 rfl ?_
  refine wnewP OGc 42 X48 B hZ (ow hw 9 rfl) e48 d5_40 1 (by decide) (by decide) rfl fun T50 h50 b50 k50 gb50 X50 e50 E50 A50 => ?_
  have ge_b50 : n0 ≤ b50 := by rw [gb50]; exact Nat.le_trans Z0 K38.1
  have sz_b50 : h0.size ≤ b50 := by rw [gb50]; exact K38.1
  have ne_a1_b50 : a1 ≠ b50 := Nat.ne_of_lt (Nat.lt_of_lt_of_eq F39.lt gb50.symm)
  have ne_b13_b50 : b13 ≠ b50 := Nat.ne_of_lt (Nat.lt_of_lt_of_eq P38_0.lt gb50.symm)
  have ne_fa_b50 : fa ≠ b50 := Nat.ne_of_lt (Nat.lt_of_lt_of_eq F47.lt gb50.symm)
  have ne_pl_b50 : pl ≠ b50 := Nat.ne_of_lt (Nat.lt_of_lt_of_eq F46.lt gb50.symm)
  have ne_w_b50 : w ≠ b50 := Nat.ne_of_lt (Nat.lt_of_lt_of_eq F44.lt gb50.symm)
  have F51 := F39.ext E50
  have F52 := F40.ext E50
  have F53 := F41.ext E50
  have F54 := F42.ext E50
  have F55 := F43.ext E50
  have F56 := F44.ext E50
  have F57 := F45.ext E50
  have F58 := F46.ext E50
  have F59 := F47.ext E50
  have F60 := P38_0.ext E50
  have K61 := K38.ext E50
  have F62 : OA Z h50 b50 .int [(.int (0 : Int32))] := OA.new A50
  refine wputF OGc 45 X50 B hZ hown (ow hw 84 rfl) e50 F55 F51 (Or.inl (ow hw 85 rfl)) (ow hw 26 rfl) (ty := (.array .int)) (by decide) rfl rfl d5_42 rfl fun T63 h63 X63 e63 W63 => ?_
  have N63 := Fr.snoc X63 N38 g_a1
  have K64 := K61.wr W63 (Or.inl (List.mem_of_getElem? (i := 0) rfl))
  have F65 := F51.wr W63
  have F66 := F52.other W63 (Or.inr (slot_ne (Or.inr (ow hw 43 rfl)) (Or.inl (ow hw 85 rfl)) (by decide) (t := (.object "com/example/fragmark/fragmark/TermTokens")) (t' := (.array .int)) (by decide) (by decide)))
  have F67 := F53.other W63 (Or.inr (slot_ne (Or.inr (ow hw 45 rfl)) (Or.inl (ow hw 85 rfl)) (by decide) (t := (.array .int)) (t' := (.array .int)) (by decide) (by decide)))
  have F68 := F54.other W63 (Or.inr (slot_ne (Or.inl (ow hw 62 rfl)) (Or.inl (ow hw 85 rfl)) (by decide) (t := (.array .int)) (t' := (.array .int)) (by decide) (by decide)))
  have F69 : Fld Z h63 a1 "com/example/fragmark/fragmark/PhraseTerm" "from" "[I" (.ref b50) := (F55.same W63)
  have F70 := F56.wr W63
  have F71 := F57.other W63 (Or.inl (Ne.symm ne_a1_w))
  have F72 := F58.other W63 (Ne.symm ne_a1_pl)
  have F73 := OF.wr F59 W63
  have F74 := F60.other W63 (Ne.symm ne_a1_b13)
  have F75 := F62.other W63 (Ne.symm ne_a1_b50)
  refine own_ret0 X63 hx hret hlk (hb hby d5_45) (by decide) (by decide) ?_
  rw [e63]
  exact ⟨rfl, N63, K64, b13, sz_b13, F65, F68, F74⟩
theorem d11_0 : decode prog_35_method_18_code 0 = .ok (.aload_n 0, 1) := by decide +kernel
theorem d11_1 : decode prog_35_method_18_code 1 = .ok (.getfield 109, 3) := by decide +kernel
theorem d11_4 : decode prog_35_method_18_code 4 = .ok (.iload_n 1, 1) := by decide +kernel
theorem d11_5 : decode prog_35_method_18_code 5 = .ok (.iload_n 1, 1) := by decide +kernel
theorem d11_6 : decode prog_35_method_18_code 6 = .ok (.iconst 1, 1) := by decide +kernel
theorem d11_7 : decode prog_35_method_18_code 7 = .ok (.iadd, 1) := by decide +kernel
theorem d11_8 : decode prog_35_method_18_code 8 = .ok (.iastore, 1) := by decide +kernel
theorem d11_9 : decode prog_35_method_18_code 9 = .ok (.return_, 1) := by decide +kernel
theorem pn_11 : plainFor (⟨"com/example/fragmark/fragmark/PhraseTerm", "count", "(I)V"⟩ : MethodName) = true := by first | exact plainFor_of_name (by first | (simp [plainName, overriddenIn]; done) | decide +kernel) | decide +kernel
theorem ef_11_0 (m : MethodId) (a1 : Addr) : entryFrame m #[(.ref a1), (.int (0 : Int32))] 2 = (mkF m 0 #[.val (.ref a1), .val (.int (0 : Int32))] []) := by first | (simp [entryFrame, mkF, argsToLocals, Value.category]; done) | rfl
abbrev Q11_0 (Z : State) (a1 : Addr) (b : Addr) (x0 : Int32) (x1 : Int32) (x2 : Int32) (x3 : Int32) (h0 : Heap) (n0 : Nat) : Option Value → Heap → List Loc → Prop := (fun v h L => v = none ∧ Fr n0 L ∧ Keep h0 h [b] ∧ OA Z h b .int [(.int (1 : Int32)), (.int x1), (.int x2), (.int x3)])
set_option maxRecDepth 65536 in
set_option maxHeartbeats 40000000 in
theorem rm11_0 (l : Launch) (Z : State) (a0 : Array Value) (hw : ∀ d ∈ tables_1, d.before a0 Z = true) (ws : List Jvm.Cond) (a1 : Addr) (b : Addr) (x0 : Int32) (x1 : Int32) (x2 : Int32) (x3 : Int32) (h0 : Heap) (n0 : Nat) (R0 : Fld Z h0 a1 "com/example/fragmark/fragmark/PhraseTerm" "free" "[I" (.ref b)) (R1 : OA Z h0 b .int [(.int x0), (.int x1), (.int x2), (.int x3)]) (g_b : n0 ≤ b) (ne_a1_b : a1 ≠ b) :
    OMet l Z (⟨"com/example/fragmark/fragmark/PhraseTerm", "count", "(I)V"⟩ : MethodName) prog_35_method_18_code 2 none ws ({ frames := 0, cells := 0, slots := 0, locals := 0 } : Room) #[(.ref a1), (.int (0 : Int32))] h0 (Q11_0 Z a1 b x0 x1 x2 x3 h0 n0) := by
  refine own_enter pn_11 ?_
  intro p e s m below meth c s₁ hx hby hml0 hown hret hlk hnm hZ X0 e0
  have hml : c.maxLocals = 2 := hml0
  have B : BX p c prog_35_method_18_code := ⟨hx, hby⟩
  have N0 := Fr.nil n0
  refine own_cast (ef_11_0 m a1) ?_
  show OG p e ({ frames := 0, cells := 0, slots := 0, locals := 0 } : Room) s below (fun v h L => v = none ∧ Fr n0 L ∧ Keep h0 h [b] ∧ OA Z h b .int [(.int (1 : Int32)), (.int x1), (.int x2), (.int x3)]) s₁ (mkF m 0 #[.val (.ref a1), .val (.int (0 : Int32))] [])
  refine waloadN OGc 1 X0 B d11_0 rfl rfl rfl ?_
  refine wgetF OGc 4 X0 B hZ hown (ow hw 61 rfl) e0 R0 d11_1 rfl fun T1 X1 e1 => ?_
  refine wiloadN OGc 5 X1 B d11_4 rfl rfl ?_
  refine wiloadN OGc 6 X1 B d11_5 rfl rfl ?_
  refine wiconst OGc 7 X1 B d11_6 1 rfl rfl ?_
  refine wiadd OGc 8 X1 B d11_7 rfl ?_
  show OG p e _ s below _ T1 (mkF m 8 #[.val (.ref a1), .val (.int (0 : Int32))] [(.int (1 : Int32)), (.int (0 : Int32)), (.ref b)])
  refine wstI OGc 9 X1 B hZ e1 R1 0 (by decide) (by decide) (by decide : 0 < 4) d11_8 rfl fun T2 h2 X2 e2 W2 => ?_
  have N2 := Fr.snoc X2 N0 g_b
  have K3 := (Keep.refl h0 [b]).wr W2 (Or.inl (List.mem_of_getElem? (i := 0) rfl))
  have F4 := R0.other W2 (Or.inl ne_a1_b)
  have F5 : OA Z h2 b .int [(.int (1 : Int32)), (.int x1), (.int x2), (.int x3)] := (R1.set W2 (i := 0) (by decide))
  refine own_ret0 X2 hx hret hlk (hb hby d11_9) (by decide) (by decide) ?_
  rw [e2]
  exact ⟨rfl, N2, K3, F5⟩
theorem ef_11_1 (m : MethodId) (a1 : Addr) : entryFrame m #[(.ref a1), (.int (1 : Int32))] 2 = (mkF m 0 #[.val (.ref a1), .val (.int (1 : Int32))] []) := by first | (simp [entryFrame, mkF, argsToLocals, Value.category]; done) | rfl
abbrev Q11_1 (Z : State) (a1 : Addr) (b : Addr) (x0 : Int32) (x1 : Int32) (x2 : Int32) (x3 : Int32) (h0 : Heap) (n0 : Nat) : Option Value → Heap → List Loc → Prop := (fun v h L => v = none ∧ Fr n0 L ∧ Keep h0 h [b] ∧ OA Z h b .int [(.int x0), (.int (2 : Int32)), (.int x2), (.int x3)])
set_option maxRecDepth 65536 in
set_option maxHeartbeats 40000000 in
theorem rm11_1 (l : Launch) (Z : State) (a0 : Array Value) (hw : ∀ d ∈ tables_1, d.before a0 Z = true) (ws : List Jvm.Cond) (a1 : Addr) (b : Addr) (x0 : Int32) (x1 : Int32) (x2 : Int32) (x3 : Int32) (h0 : Heap) (n0 : Nat) (R0 : Fld Z h0 a1 "com/example/fragmark/fragmark/PhraseTerm" "free" "[I" (.ref b)) (R1 : OA Z h0 b .int [(.int x0), (.int x1), (.int x2), (.int x3)]) (g_b : n0 ≤ b) (ne_a1_b : a1 ≠ b) :
    OMet l Z (⟨"com/example/fragmark/fragmark/PhraseTerm", "count", "(I)V"⟩ : MethodName) prog_35_method_18_code 2 none ws ({ frames := 0, cells := 0, slots := 0, locals := 0 } : Room) #[(.ref a1), (.int (1 : Int32))] h0 (Q11_1 Z a1 b x0 x1 x2 x3 h0 n0) := by
  refine own_enter pn_11 ?_
  intro p e s m below meth c s₁ hx hby hml0 hown hret hlk hnm hZ X0 e0
  have hml : c.maxLocals = 2 := hml0
  have B : BX p c prog_35_method_18_code := ⟨hx, hby⟩
  have N0 := Fr.nil n0
  refine own_cast (ef_11_1 m a1) ?_
  show OG p e ({ frames := 0, cells := 0, slots := 0, locals := 0 } : Room) s below (fun v h L => v = none ∧ Fr n0 L ∧ Keep h0 h [b] ∧ OA Z h b .int [(.int x0), (.int (2 : Int32)), (.int x2), (.int x3)]) s₁ (mkF m 0 #[.val (.ref a1), .val (.int (1 : Int32))] [])
  refine waloadN OGc 1 X0 B d11_0 rfl rfl rfl ?_
  refine wgetF OGc 4 X0 B hZ hown (ow hw 61 rfl) e0 R0 d11_1 rfl fun T1 X1 e1 => ?_
  refine wiloadN OGc 5 X1 B d11_4 rfl rfl ?_
  refine wiloadN OGc 6 X1 B d11_5 rfl rfl ?_
  refine wiconst OGc 7 X1 B d11_6 1 rfl rfl ?_
  refine wiadd OGc 8 X1 B d11_7 rfl ?_
  show OG p e _ s below _ T1 (mkF m 8 #[.val (.ref a1), .val (.int (1 : Int32))] [(.int (2 : Int32)), (.int (1 : Int32)), (.ref b)])
  refine wstI OGc 9 X1 B hZ e1 R1 1 (by decide) (by decide) (by decide : 1 < 4) d11_8 rfl fun T2 h2 X2 e2 W2 => ?_
  have N2 := Fr.snoc X2 N0 g_b
  have K3 := (Keep.refl h0 [b]).wr W2 (Or.inl (List.mem_of_getElem? (i := 0) rfl))
  have F4 := R0.other W2 (Or.inl ne_a1_b)
  have F5 : OA Z h2 b .int [(.int x0), (.int (2 : Int32)), (.int x2), (.int x3)] := (R1.set W2 (i := 1) (by decide))
  refine own_ret0 X2 hx hret hlk (hb hby d11_9) (by decide) (by decide) ?_
  rw [e2]
  exact ⟨rfl, N2, K3, F5⟩
theorem ef_11_2 (m : MethodId) (a1 : Addr) : entryFrame m #[(.ref a1), (.int (2 : Int32))] 2 = (mkF m 0 #[.val (.ref a1), .val (.int (2 : Int32))] []) := by first | (simp [entryFrame, mkF, argsToLocals, Value.category]; done) | rfl
abbrev Q11_2 (Z : State) (a1 : Addr) (b : Addr) (x0 : Int32) (x1 : Int32) (x2 : Int32) (x3 : Int32) (h0 : Heap) (n0 : Nat) : Option Value → Heap → List Loc → Prop := (fun v h L => v = none ∧ Fr n0 L ∧ Keep h0 h [b] ∧ OA Z h b .int [(.int x0), (.int x1), (.int (3 : Int32)), (.int x3)])
set_option maxRecDepth 65536 in
set_option maxHeartbeats 40000000 in
theorem rm11_2 (l : Launch) (Z : State) (a0 : Array Value) (hw : ∀ d ∈ tables_1, d.before a0 Z = true) (ws : List Jvm.Cond) (a1 : Addr) (b : Addr) (x0 : Int32) (x1 : Int32) (x2 : Int32) (x3 : Int32) (h0 : Heap) (n0 : Nat) (R0 : Fld Z h0 a1 "com/example/fragmark/fragmark/PhraseTerm" "free" "[I" (.ref b)) (R1 : OA Z h0 b .int [(.int x0), (.int x1), (.int x2), (.int x3)]) (g_b : n0 ≤ b) (ne_a1_b : a1 ≠ b) :
    OMet l Z (⟨"com/example/fragmark/fragmark/PhraseTerm", "count", "(I)V"⟩ : MethodName) prog_35_method_18_code 2 none ws ({ frames := 0, cells := 0, slots := 0, locals := 0 } : Room) #[(.ref a1), (.int (2 : Int32))] h0 (Q11_2 Z a1 b x0 x1 x2 x3 h0 n0) := by
  refine own_enter pn_11 ?_
  intro p e s m below meth c s₁ hx hby hml0 hown hret hlk hnm hZ X0 e0
  have hml : c.maxLocals = 2 := hml0
  have B : BX p c prog_35_method_18_code := ⟨hx, hby⟩
  have N0 := Fr.nil n0
  refine own_cast (ef_11_2 m a1) ?_
  show OG p e ({ frames := 0, cells := 0, slots := 0, locals := 0 } : Room) s below (fun v h L => v = none ∧ Fr n0 L ∧ Keep h0 h [b] ∧ OA Z h b .int [(.int x0), (.int x1), (.int (3 : Int32)), (.int x3)]) s₁ (mkF m 0 #[.val (.ref a1), .val (.int (2 : Int32))] [])
  refine waloadN OGc 1 X0 B d11_0 rfl rfl rfl ?_
  refine wgetF OGc 4 X0 B hZ hown (ow hw 61 rfl) e0 R0 d11_1 rfl fun T1 X1 e1 => ?_
  refine wiloadN OGc 5 X1 B d11_4 rfl rfl ?_
  refine wiloadN OGc 6 X1 B d11_5 rfl rfl ?_
  refine wiconst OGc 7 X1 B d11_6 1 rfl rfl ?_
  refine wiadd OGc 8 X1 B d11_7 rfl ?_
  show OG p e _ s below _ T1 (mkF m 8 #[.val (.ref a1), .val (.int (2 : Int32))] [(.int (3 : Int32)), (.int (2 : Int32)), (.ref b)])
  refine wstI OGc 9 X1 B hZ e1 R1 2 (by decide) (by decide) (by decide : 2 < 4) d11_8 rfl fun T2 h2 X2 e2 W2 => ?_
  have N2 := Fr.snoc X2 N0 g_b
  have K3 := (Keep.refl h0 [b]).wr W2 (Or.inl (List.mem_of_getElem? (i := 0) rfl))
  have F4 := R0.other W2 (Or.inl ne_a1_b)
  have F5 : OA Z h2 b .int [(.int x0), (.int x1), (.int (3 : Int32)), (.int x3)] := (R1.set W2 (i := 2) (by decide))
  refine own_ret0 X2 hx hret hlk (hb hby d11_9) (by decide) (by decide) ?_
  rw [e2]
  exact ⟨rfl, N2, K3, F5⟩
theorem d12_0 : decode method_2_code 0 = .ok (.iload_n 3, 1) := by decide +kernel
theorem d12_1 : decode method_2_code 1 = .ok (.ifCond .gt 9, 3) := by decide +kernel
theorem d12_4 : decode method_2_code 4 = .ok (.iload_n 0, 1) := by decide +kernel
theorem d12_5 : decode method_2_code 5 = .ok (.ifCond .ne 5, 3) := by decide +kernel
theorem d12_8 : decode method_2_code 8 = .ok (.iconst 0, 1) := by decide +kernel
theorem d12_9 : decode method_2_code 9 = .ok (.ireturn, 1) := by decide +kernel
theorem d12_10 : decode method_2_code 10 = .ok (.iload_n 3, 1) := by decide +kernel
theorem d12_11 : decode method_2_code 11 = .ok (.iconst 1, 1) := by decide +kernel
theorem d12_12 : decode method_2_code 12 = .ok (.if_icmp .gt 9, 3) := by decide +kernel
theorem d12_15 : decode method_2_code 15 = .ok (.iload_n 1, 1) := by decide +kernel
theorem d12_16 : decode method_2_code 16 = .ok (.ifCond .ne 5, 3) := by decide +kernel
theorem d12_19 : decode method_2_code 19 = .ok (.iconst 1, 1) := by decide +kernel
theorem d12_20 : decode method_2_code 20 = .ok (.ireturn, 1) := by decide +kernel
theorem d12_21 : decode method_2_code 21 = .ok (.iload_n 3, 1) := by decide +kernel
theorem d12_22 : decode method_2_code 22 = .ok (.iconst 2, 1) := by decide +kernel
theorem d12_23 : decode method_2_code 23 = .ok (.if_icmp .gt 9, 3) := by decide +kernel
theorem d12_26 : decode method_2_code 26 = .ok (.iload_n 2, 1) := by decide +kernel
theorem d12_27 : decode method_2_code 27 = .ok (.ifCond .ne 5, 3) := by decide +kernel
theorem d12_30 : decode method_2_code 30 = .ok (.iconst 2, 1) := by decide +kernel
theorem d12_31 : decode method_2_code 31 = .ok (.ireturn, 1) := by decide +kernel
theorem d12_32 : decode method_2_code 32 = .ok (.iconst 3, 1) := by decide +kernel
theorem d12_33 : decode method_2_code 33 = .ok (.ireturn, 1) := by decide +kernel
theorem pn_12 : plainFor (⟨"com/example/fragmark/fragmark/PhraseTermNextFreePinLaw", "ref", "(ZZZI)I"⟩ : MethodName) = true := by first | exact plainFor_of_name (by first | (simp [plainName, overriddenIn]; done) | decide +kernel) | decide +kernel
def f12 (p1 : Int32) (p2 : Int32) (p3 : Int32) (p4 : Int32) : Int32 := (if (0 : Int32) < p4 then (if (1 : Int32) < p4 then (if (2 : Int32) < p4 then (3 : Int32) else (if p3 = (0 : Int32) then (2 : Int32) else (3 : Int32))) else (if p2 = (0 : Int32) then (1 : Int32) else (if (2 : Int32) < p4 then (3 : Int32) else (if p3 = (0 : Int32) then (2 : Int32) else (3 : Int32))))) else (if p1 = (0 : Int32) then (0 : Int32) else (if (1 : Int32) < p4 then (if (2 : Int32) < p4 then (3 : Int32) else (if p3 = (0 : Int32) then (2 : Int32) else (3 : Int32))) else (if p2 = (0 : Int32) then (1 : Int32) else (if (2 : Int32) < p4 then (3 : Int32) else (if p3 = (0 : Int32) then (2 : Int32) else (3 : Int32)))))))
theorem ef_12 (m : MethodId) (p1 : Int32) (p2 : Int32) (p3 : Int32) (p4 : Int32) : entryFrame m #[(.int p1), (.int p2), (.int p3), (.int p4)] 4 = (mkF m 0 #[.val (.int p1), .val (.int p2), .val (.int p3), .val (.int p4)] []) := by first | (simp [entryFrame, mkF, argsToLocals, Value.category]; done) | rfl
abbrev Q12 (Z : State) (p1 : Int32) (p2 : Int32) (p3 : Int32) (p4 : Int32) (h0 : Heap)  : Option Value → Heap → List Loc → Prop := (fun v h L => v = some (.int (f12 p1 p2 p3 p4)) ∧ L = [] ∧ h = h0)
set_option maxRecDepth 65536 in
set_option maxHeartbeats 40000000 in
theorem rm12 (l : Launch) (Z : State) (a0 : Array Value) (hw : ∀ d ∈ tables_1, d.before a0 Z = true) (ws : List Jvm.Cond) (p1 : Int32) (p2 : Int32) (p3 : Int32) (p4 : Int32) (h0 : Heap)  :
    OMet l Z (⟨"com/example/fragmark/fragmark/PhraseTermNextFreePinLaw", "ref", "(ZZZI)I"⟩ : MethodName) method_2_code 4 (some .int) ws ({ frames := 0, cells := 0, slots := 0, locals := 0 } : Room) #[(.int p1), (.int p2), (.int p3), (.int p4)] h0 (Q12 Z p1 p2 p3 p4 h0) := by
  refine own_enter pn_12 ?_
  intro p e s m below meth c s₁ hx hby hml0 hown hret hlk hnm hZ X0 e0
  have hml : c.maxLocals = 4 := hml0
  have B : BX p c method_2_code := ⟨hx, hby⟩
  refine own_cast (ef_12 m p1 p2 p3 p4) ?_
  show OG p e ({ frames := 0, cells := 0, slots := 0, locals := 0 } : Room) s below (fun v h L => v = some (.int (f12 p1 p2 p3 p4)) ∧ L = [] ∧ h = h0) s₁ (mkF m 0 #[.val (.int p1), .val (.int p2), .val (.int p3), .val (.int p4)] [])
  refine wiloadN OGc 1 X0 B d12_0 rfl rfl ?_
  by_cases c1 : (0 : Int32) < p4
  · refine wifYes OGc 10 X0 B d12_1 (own_if0 (tlt c1).2.2.1) rfl ?_
    refine wiloadN OGc 11 X0 B d12_10 rfl rfl ?_
    refine wiconst OGc 12 X0 B d12_11 1 rfl rfl ?_
    by_cases c2 : (1 : Int32) < p4
    · refine wicmpYes OGc 21 X0 B d12_12 (tlt c2).2.2.1 rfl ?_
      refine wiloadN OGc 22 X0 B d12_21 rfl rfl ?_
      refine wiconst OGc 23 X0 B d12_22 2 rfl rfl ?_
      by_cases c3 : (2 : Int32) < p4
      · refine wicmpYes OGc 32 X0 B d12_23 (tlt c3).2.2.1 rfl ?_
        refine wiconst OGc 33 X0 B d12_32 3 rfl rfl ?_
        exact own_retI X0 hx hret hlk (hb hby d12_33) (by decide) (by decide) ⟨congrArg (fun z => some (Value.int z)) (show f12 p1 p2 p3 p4 = (3 : Int32) from (by rw [f12, if_pos c1, if_pos c2, if_pos c3])).symm, rfl, e0⟩
      · refine wicmpNo OGc 26 X0 B d12_23 (flt c3).2.2.1 rfl ?_
        refine wiloadN OGc 27 X0 B d12_26 rfl rfl ?_
        by_cases c4 : p3 = (0 : Int32)
        · refine wifNo OGc 30 X0 B d12_27 (own_if0 (teq c4).2) rfl ?_
          refine wiconst OGc 31 X0 B d12_30 2 rfl rfl ?_
          exact own_retI X0 hx hret hlk (hb hby d12_31) (by decide) (by decide) ⟨congrArg (fun z => some (Value.int z)) (show f12 p1 p2 p3 p4 = (2 : Int32) from (by rw [f12, if_pos c1, if_pos c2, if_neg c3, if_pos c4])).symm, rfl, e0⟩
        · refine wifYes OGc 32 X0 B d12_27 (own_if0 (feq c4).2) rfl ?_
          refine wiconst OGc 33 X0 B d12_32 3 rfl rfl ?_
          exact own_retI X0 hx hret hlk (hb hby d12_33) (by decide) (by decide) ⟨congrArg (fun z => some (Value.int z)) (show f12 p1 p2 p3 p4 = (3 : Int32) from (by rw [f12, if_pos c1, if_pos c2, if_neg c3, if_neg c4])).symm, rfl, e0⟩
    · refine wicmpNo OGc 15 X0 B d12_12 (flt c2).2.2.1 rfl ?_
      refine wiloadN OGc 16 X0 B d12_15 rfl rfl ?_
      by_cases c5 : p2 = (0 : Int32)
      · refine wifNo OGc 19 X0 B d12_16 (own_if0 (teq c5).2) rfl ?_
        refine wiconst OGc 20 X0 B d12_19 1 rfl rfl ?_
        exact own_retI X0 hx hret hlk (hb hby d12_20) (by decide) (by decide) ⟨congrArg (fun z => some (Value.int z)) (show f12 p1 p2 p3 p4 = (1 : Int32) from (by rw [f12, if_pos c1, if_neg c2, if_pos c5])).symm, rfl, e0⟩
      · refine wifYes OGc 21 X0 B d12_16 (own_if0 (feq c5).2) rfl ?_
        refine wiloadN OGc 22 X0 B d12_21 rfl rfl ?_
        refine wiconst OGc 23 X0 B d12_22 2 rfl rfl ?_
        by_cases c6 : (2 : Int32) < p4
        · refine wicmpYes OGc 32 X0 B d12_23 (tlt c6).2.2.1 rfl ?_
          refine wiconst OGc 33 X0 B d12_32 3 rfl rfl ?_
          exact own_retI X0 hx hret hlk (hb hby d12_33) (by decide) (by decide) ⟨congrArg (fun z => some (Value.int z)) (show f12 p1 p2 p3 p4 = (3 : Int32) from (by rw [f12, if_pos c1, if_neg c2, if_neg c5, if_pos c6])).symm, rfl, e0⟩
        · refine wicmpNo OGc 26 X0 B d12_23 (flt c6).2.2.1 rfl ?_
          refine wiloadN OGc 27 X0 B d12_26 rfl rfl ?_
          by_cases c7 : p3 = (0 : Int32)
          · refine wifNo OGc 30 X0 B d12_27 (own_if0 (teq c7).2) rfl ?_
            refine wiconst OGc 31 X0 B d12_30 2 rfl rfl ?_
            exact own_retI X0 hx hret hlk (hb hby d12_31) (by decide) (by decide) ⟨congrArg (fun z => some (Value.int z)) (show f12 p1 p2 p3 p4 = (2 : Int32) from (by rw [f12, if_pos c1, if_neg c2, if_neg c5, if_neg c6, if_pos c7])).symm, rfl, e0⟩
          · refine wifYes OGc 32 X0 B d12_27 (own_if0 (feq c7).2) rfl ?_
            refine wiconst OGc 33 X0 B d12_32 3 rfl rfl ?_
            exact own_retI X0 hx hret hlk (hb hby d12_33) (by decide) (by decide) ⟨congrArg (fun z => some (Value.int z)) (show f12 p1 p2 p3 p4 = (3 : Int32) from (by rw [f12, if_pos c1, if_neg c2, if_neg c5, if_neg c6, if_neg c7])).symm, rfl, e0⟩
  · refine wifNo OGc 4 X0 B d12_1 (own_if0 (flt c1).2.2.1) rfl ?_
    refine wiloadN OGc 5 X0 B d12_4 rfl rfl ?_
    by_cases c8 : p1 = (0 : Int32)
    · refine wifNo OGc 8 X0 B d12_5 (own_if0 (teq c8).2) rfl ?_
      refine wiconst OGc 9 X0 B d12_8 0 rfl rfl ?_
      exact own_retI X0 hx hret hlk (hb hby d12_9) (by decide) (by decide) ⟨congrArg (fun z => some (Value.int z)) (show f12 p1 p2 p3 p4 = (0 : Int32) from (by rw [f12, if_neg c1, if_pos c8])).symm, rfl, e0⟩
    · refine wifYes OGc 10 X0 B d12_5 (own_if0 (feq c8).2) rfl ?_
      refine wiloadN OGc 11 X0 B d12_10 rfl rfl ?_
      refine wiconst OGc 12 X0 B d12_11 1 rfl rfl ?_
      by_cases c9 : (1 : Int32) < p4
      · refine wicmpYes OGc 21 X0 B d12_12 (tlt c9).2.2.1 rfl ?_
        refine wiloadN OGc 22 X0 B d12_21 rfl rfl ?_
        refine wiconst OGc 23 X0 B d12_22 2 rfl rfl ?_
        by_cases c10 : (2 : Int32) < p4
        · refine wicmpYes OGc 32 X0 B d12_23 (tlt c10).2.2.1 rfl ?_
          refine wiconst OGc 33 X0 B d12_32 3 rfl rfl ?_
          exact own_retI X0 hx hret hlk (hb hby d12_33) (by decide) (by decide) ⟨congrArg (fun z => some (Value.int z)) (show f12 p1 p2 p3 p4 = (3 : Int32) from (by rw [f12, if_neg c1, if_neg c8, if_pos c9, if_pos c10])).symm, rfl, e0⟩
        · refine wicmpNo OGc 26 X0 B d12_23 (flt c10).2.2.1 rfl ?_
          refine wiloadN OGc 27 X0 B d12_26 rfl rfl ?_
          by_cases c11 : p3 = (0 : Int32)
          · refine wifNo OGc 30 X0 B d12_27 (own_if0 (teq c11).2) rfl ?_
            refine wiconst OGc 31 X0 B d12_30 2 rfl rfl ?_
            exact own_retI X0 hx hret hlk (hb hby d12_31) (by decide) (by decide) ⟨congrArg (fun z => some (Value.int z)) (show f12 p1 p2 p3 p4 = (2 : Int32) from (by rw [f12, if_neg c1, if_neg c8, if_pos c9, if_neg c10, if_pos c11])).symm, rfl, e0⟩
          · refine wifYes OGc 32 X0 B d12_27 (own_if0 (feq c11).2) rfl ?_
            refine wiconst OGc 33 X0 B d12_32 3 rfl rfl ?_
            exact own_retI X0 hx hret hlk (hb hby d12_33) (by decide) (by decide) ⟨congrArg (fun z => some (Value.int z)) (show f12 p1 p2 p3 p4 = (3 : Int32) from (by rw [f12, if_neg c1, if_neg c8, if_pos c9, if_neg c10, if_neg c11])).symm, rfl, e0⟩
      · refine wicmpNo OGc 15 X0 B d12_12 (flt c9).2.2.1 rfl ?_
        refine wiloadN OGc 16 X0 B d12_15 rfl rfl ?_
        by_cases c12 : p2 = (0 : Int32)
        · refine wifNo OGc 19 X0 B d12_16 (own_if0 (teq c12).2) rfl ?_
          refine wiconst OGc 20 X0 B d12_19 1 rfl rfl ?_
          exact own_retI X0 hx hret hlk (hb hby d12_20) (by decide) (by decide) ⟨congrArg (fun z => some (Value.int z)) (show f12 p1 p2 p3 p4 = (1 : Int32) from (by rw [f12, if_neg c1, if_neg c8, if_neg c9, if_pos c12])).symm, rfl, e0⟩
        · refine wifYes OGc 21 X0 B d12_16 (own_if0 (feq c12).2) rfl ?_
          refine wiloadN OGc 22 X0 B d12_21 rfl rfl ?_
          refine wiconst OGc 23 X0 B d12_22 2 rfl rfl ?_
          by_cases c13 : (2 : Int32) < p4
          · refine wicmpYes OGc 32 X0 B d12_23 (tlt c13).2.2.1 rfl ?_
            refine wiconst OGc 33 X0 B d12_32 3 rfl rfl ?_
            exact own_retI X0 hx hret hlk (hb hby d12_33) (by decide) (by decide) ⟨congrArg (fun z => some (Value.int z)) (show f12 p1 p2 p3 p4 = (3 : Int32) from (by rw [f12, if_neg c1, if_neg c8, if_neg c9, if_neg c12, if_pos c13])).symm, rfl, e0⟩
          · refine wicmpNo OGc 26 X0 B d12_23 (flt c13).2.2.1 rfl ?_
            refine wiloadN OGc 27 X0 B d12_26 rfl rfl ?_
            by_cases c14 : p3 = (0 : Int32)
            · refine wifNo OGc 30 X0 B d12_27 (own_if0 (teq c14).2) rfl ?_
              refine wiconst OGc 31 X0 B d12_30 2 rfl rfl ?_
              exact own_retI X0 hx hret hlk (hb hby d12_31) (by decide) (by decide) ⟨congrArg (fun z => some (Value.int z)) (show f12 p1 p2 p3 p4 = (2 : Int32) from (by rw [f12, if_neg c1, if_neg c8, if_neg c9, if_neg c12, if_neg c13, if_pos c14])).symm, rfl, e0⟩
            · refine wifYes OGc 32 X0 B d12_27 (own_if0 (feq c14).2) rfl ?_
              refine wiconst OGc 33 X0 B d12_32 3 rfl rfl ?_
              exact own_retI X0 hx hret hlk (hb hby d12_33) (by decide) (by decide) ⟨congrArg (fun z => some (Value.int z)) (show f12 p1 p2 p3 p4 = (3 : Int32) from (by rw [f12, if_neg c1, if_neg c8, if_neg c9, if_neg c12, if_neg c13, if_neg c14])).symm, rfl, e0⟩
theorem d10_0 : decode prog_35_method_16_code 0 = .ok (.iload_n 1, 1) := by decide +kernel
theorem d10_1 : decode prog_35_method_16_code 1 = .ok (.istore_n 2, 1) := by decide +kernel
theorem d10_2 : decode prog_35_method_16_code 2 = .ok (.aload_n 0, 1) := by decide +kernel
theorem d10_3 : decode prog_35_method_16_code 3 = .ok (.getfield 109, 3) := by decide +kernel
theorem d10_6 : decode prog_35_method_16_code 6 = .ok (.iload_n 2, 1) := by decide +kernel
theorem d10_7 : decode prog_35_method_16_code 7 = .ok (.iaload, 1) := by decide +kernel
theorem d10_8 : decode prog_35_method_16_code 8 = .ok (.iload_n 2, 1) := by decide +kernel
theorem d10_9 : decode prog_35_method_16_code 9 = .ok (.if_icmp .eq 30, 3) := by decide +kernel
theorem d10_39 : decode prog_35_method_16_code 39 = .ok (.iload_n 2, 1) := by decide +kernel
theorem d10_40 : decode prog_35_method_16_code 40 = .ok (.ireturn, 1) := by decide +kernel
theorem pn_10 : plainFor (⟨"com/example/fragmark/fragmark/PhraseTerm", "nextFree", "(I)I"⟩ : MethodName) = true := by first | exact plainFor_of_name (by first | (simp [plainName, overriddenIn]; done) | decide +kernel) | decide +kernel
theorem ef_10_0_0 (m : MethodId) (a1 : Addr) : entryFrame m #[(.ref a1), (.int (0 : Int32))] 3 = (mkF m 0 #[.val (.ref a1), .val (.int (0 : Int32)), .unset] []) := by first | (simp [entryFrame, mkF, argsToLocals, Value.category]; done) | rfl
abbrev Q10_0_0 (Z : State) (a1 : Addr) (b : Addr) (h0 : Heap) (n0 : Nat) : Option Value → Heap → List Loc → Prop := (fun v h L => v = some (.int (0 : Int32)) ∧ Fr n0 L ∧ Keep h0 h [b] ∧ OA Z h b .int [(.int (0 : Int32)), (.int (1 : Int32)), (.int (2 : Int32)), (.int (3 : Int32))])
set_option maxRecDepth 65536 in
set_option maxHeartbeats 40000000 in
theorem rm10_0_0 (l : Launch) (Z : State) (a0 : Array Value) (hw : ∀ d ∈ tables_1, d.before a0 Z = true) (ws : List Jvm.Cond) (a1 : Addr) (b : Addr) (h0 : Heap) (n0 : Nat) (R0 : Fld Z h0 a1 "com/example/fragmark/fragmark/PhraseTerm" "free" "[I" (.ref b)) (R1 : OA Z h0 b .int [(.int (0 : Int32)), (.int (1 : Int32)), (.int (2 : Int32)), (.int (3 : Int32))]) (g_b : n0 ≤ b) (ne_a1_b : a1 ≠ b) :
    OMet l Z (⟨"com/example/fragmark/fragmark/PhraseTerm", "nextFree", "(I)I"⟩ : MethodName) prog_35_method_16_code 3 (some .int) ws ({ frames := 0, cells := 0, slots := 0, locals := 0 } : Room) #[(.ref a1), (.int (0 : Int32))] h0 (Q10_0_0 Z a1 b h0 n0) := by
  refine own_enter pn_10 ?_
  intro p e s m below meth c s₁ hx hby hml0 hown hret hlk hnm hZ X0 e0
  have hml : c.maxLocals = 3 := hml0
  have B : BX p c prog_35_method_16_code := ⟨hx, hby⟩
  have N0 := Fr.nil n0
  refine own_cast (ef_10_0_0 m a1) ?_
  show OG p e ({ frames := 0, cells := 0, slots := 0, locals := 0 } : Room) s below (fun v h L => v = some (.int (0 : Int32)) ∧ Fr n0 L ∧ Keep h0 h [b] ∧ OA Z h b .int [(.int (0 : Int32)), (.int (1 : Int32)), (.int (2 : Int32)), (.int (3 : Int32))]) s₁ (mkF m 0 #[.val (.ref a1), .val (.int (0 : Int32)), .unset] [])
  refine wiloadN OGc 1 X0 B d10_0 rfl rfl ?_
  refine wistoreN OGc 2 X0 B d10_1 #[.val (.ref a1), .val (.int (0 : Int32)), .val (.int (0 : Int32))] rfl rfl ?_
  refine waloadN OGc 3 X0 B d10_2 rfl rfl rfl ?_
  refine wgetF OGc 6 X0 B hZ hown (ow hw 61 rfl) e0 R0 d10_3 rfl fun T1 X1 e1 => ?_
  refine wiloadN OGc 7 X1 B d10_6 rfl rfl ?_
  refine wiaload OGc 8 X1 B hZ e1 R1 (v := (.int (0 : Int32))) 0 (by decide) (by decide) rfl d10_7 rfl ?_
  refine wiloadN OGc 9 X1 B d10_8 rfl rfl ?_
  refine wicmpYes OGc 39 X1 B d10_9 (by decide) rfl ?_
  refine wiloadN OGc 40 X1 B d10_39 rfl rfl ?_
  refine own_retI X1 hx hret hlk (hb hby d10_40) (by decide) (by decide) ?_
  rw [e1]
  exact ⟨rfl, N0, (Keep.refl h0 [b]), R1⟩
theorem ef_10_0_1 (m : MethodId) (a1 : Addr) : entryFrame m #[(.ref a1), (.int (1 : Int32))] 3 = (mkF m 0 #[.val (.ref a1), .val (.int (1 : Int32)), .unset] []) := by first | (simp [entryFrame, mkF, argsToLocals, Value.category]; done) | rfl
abbrev Q10_0_1 (Z : State) (a1 : Addr) (b : Addr) (h0 : Heap) (n0 : Nat) : Option Value → Heap → List Loc → Prop := (fun v h L => v = some (.int (1 : Int32)) ∧ Fr n0 L ∧ Keep h0 h [b] ∧ OA Z h b .int [(.int (0 : Int32)), (.int (1 : Int32)), (.int (2 : Int32)), (.int (3 : Int32))])
set_option maxRecDepth 65536 in
set_option maxHeartbeats 40000000 in
theorem rm10_0_1 (l : Launch) (Z : State) (a0 : Array Value) (hw : ∀ d ∈ tables_1, d.before a0 Z = true) (ws : List Jvm.Cond) (a1 : Addr) (b : Addr) (h0 : Heap) (n0 : Nat) (R0 : Fld Z h0 a1 "com/example/fragmark/fragmark/PhraseTerm" "free" "[I" (.ref b)) (R1 : OA Z h0 b .int [(.int (0 : Int32)), (.int (1 : Int32)), (.int (2 : Int32)), (.int (3 : Int32))]) (g_b : n0 ≤ b) (ne_a1_b : a1 ≠ b) :
    OMet l Z (⟨"com/example/fragmark/fragmark/PhraseTerm", "nextFree", "(I)I"⟩ : MethodName) prog_35_method_16_code 3 (some .int) ws ({ frames := 0, cells := 0, slots := 0, locals := 0 } : Room) #[(.ref a1), (.int (1 : Int32))] h0 (Q10_0_1 Z a1 b h0 n0) := by
  refine own_enter pn_10 ?_
  intro p e s m below meth c s₁ hx hby hml0 hown hret hlk hnm hZ X0 e0
  have hml : c.maxLocals = 3 := hml0
  have B : BX p c prog_35_method_16_code := ⟨hx, hby⟩
  have N0 := Fr.nil n0
  refine own_cast (ef_10_0_1 m a1) ?_
  show OG p e ({ frames := 0, cells := 0, slots := 0, locals := 0 } : Room) s below (fun v h L => v = some (.int (1 : Int32)) ∧ Fr n0 L ∧ Keep h0 h [b] ∧ OA Z h b .int [(.int (0 : Int32)), (.int (1 : Int32)), (.int (2 : Int32)), (.int (3 : Int32))]) s₁ (mkF m 0 #[.val (.ref a1), .val (.int (1 : Int32)), .unset] [])
  refine wiloadN OGc 1 X0 B d10_0 rfl rfl ?_
  refine wistoreN OGc 2 X0 B d10_1 #[.val (.ref a1), .val (.int (1 : Int32)), .val (.int (1 : Int32))] rfl rfl ?_
  refine waloadN OGc 3 X0 B d10_2 rfl rfl rfl ?_
  refine wgetF OGc 6 X0 B hZ hown (ow hw 61 rfl) e0 R0 d10_3 rfl fun T1 X1 e1 => ?_
  refine wiloadN OGc 7 X1 B d10_6 rfl rfl ?_
  refine wiaload OGc 8 X1 B hZ e1 R1 (v := (.int (1 : Int32))) 1 (by decide) (by decide) rfl d10_7 rfl ?_
  refine wiloadN OGc 9 X1 B d10_8 rfl rfl ?_
  refine wicmpYes OGc 39 X1 B d10_9 (by decide) rfl ?_
  refine wiloadN OGc 40 X1 B d10_39 rfl rfl ?_
  refine own_retI X1 hx hret hlk (hb hby d10_40) (by decide) (by decide) ?_
  rw [e1]
  exact ⟨rfl, N0, (Keep.refl h0 [b]), R1⟩
theorem ef_10_0_2 (m : MethodId) (a1 : Addr) : entryFrame m #[(.ref a1), (.int (2 : Int32))] 3 = (mkF m 0 #[.val (.ref a1), .val (.int (2 : Int32)), .unset] []) := by first | (simp [entryFrame, mkF, argsToLocals, Value.category]; done) | rfl
abbrev Q10_0_2 (Z : State) (a1 : Addr) (b : Addr) (h0 : Heap) (n0 : Nat) : Option Value → Heap → List Loc → Prop := (fun v h L => v = some (.int (2 : Int32)) ∧ Fr n0 L ∧ Keep h0 h [b] ∧ OA Z h b .int [(.int (0 : Int32)), (.int (1 : Int32)), (.int (2 : Int32)), (.int (3 : Int32))])
set_option maxRecDepth 65536 in
set_option maxHeartbeats 40000000 in
theorem rm10_0_2 (l : Launch) (Z : State) (a0 : Array Value) (hw : ∀ d ∈ tables_1, d.before a0 Z = true) (ws : List Jvm.Cond) (a1 : Addr) (b : Addr) (h0 : Heap) (n0 : Nat) (R0 : Fld Z h0 a1 "com/example/fragmark/fragmark/PhraseTerm" "free" "[I" (.ref b)) (R1 : OA Z h0 b .int [(.int (0 : Int32)), (.int (1 : Int32)), (.int (2 : Int32)), (.int (3 : Int32))]) (g_b : n0 ≤ b) (ne_a1_b : a1 ≠ b) :
    OMet l Z (⟨"com/example/fragmark/fragmark/PhraseTerm", "nextFree", "(I)I"⟩ : MethodName) prog_35_method_16_code 3 (some .int) ws ({ frames := 0, cells := 0, slots := 0, locals := 0 } : Room) #[(.ref a1), (.int (2 : Int32))] h0 (Q10_0_2 Z a1 b h0 n0) := by
  refine own_enter pn_10 ?_
  intro p e s m below meth c s₁ hx hby hml0 hown hret hlk hnm hZ X0 e0
  have hml : c.maxLocals = 3 := hml0
  have B : BX p c prog_35_method_16_code := ⟨hx, hby⟩
  have N0 := Fr.nil n0
  refine own_cast (ef_10_0_2 m a1) ?_
  show OG p e ({ frames := 0, cells := 0, slots := 0, locals := 0 } : Room) s below (fun v h L => v = some (.int (2 : Int32)) ∧ Fr n0 L ∧ Keep h0 h [b] ∧ OA Z h b .int [(.int (0 : Int32)), (.int (1 : Int32)), (.int (2 : Int32)), (.int (3 : Int32))]) s₁ (mkF m 0 #[.val (.ref a1), .val (.int (2 : Int32)), .unset] [])
  refine wiloadN OGc 1 X0 B d10_0 rfl rfl ?_
  refine wistoreN OGc 2 X0 B d10_1 #[.val (.ref a1), .val (.int (2 : Int32)), .val (.int (2 : Int32))] rfl rfl ?_
  refine waloadN OGc 3 X0 B d10_2 rfl rfl rfl ?_
  refine wgetF OGc 6 X0 B hZ hown (ow hw 61 rfl) e0 R0 d10_3 rfl fun T1 X1 e1 => ?_
  refine wiloadN OGc 7 X1 B d10_6 rfl rfl ?_
  refine wiaload OGc 8 X1 B hZ e1 R1 (v := (.int (2 : Int32))) 2 (by decide) (by decide) rfl d10_7 rfl ?_
  refine wiloadN OGc 9 X1 B d10_8 rfl rfl ?_
  refine wicmpYes OGc 39 X1 B d10_9 (by decide) rfl ?_
  refine wiloadN OGc 40 X1 B d10_39 rfl rfl ?_
  refine own_retI X1 hx hret hlk (hb hby d10_40) (by decide) (by decide) ?_
  rw [e1]
  exact ⟨rfl, N0, (Keep.refl h0 [b]), R1⟩
theorem ef_10_0_3 (m : MethodId) (a1 : Addr) : entryFrame m #[(.ref a1), (.int (3 : Int32))] 3 = (mkF m 0 #[.val (.ref a1), .val (.int (3 : Int32)), .unset] []) := by first | (simp [entryFrame, mkF, argsToLocals, Value.category]; done) | rfl
abbrev Q10_0_3 (Z : State) (a1 : Addr) (b : Addr) (h0 : Heap) (n0 : Nat) : Option Value → Heap → List Loc → Prop := (fun v h L => v = some (.int (3 : Int32)) ∧ Fr n0 L ∧ Keep h0 h [b] ∧ OA Z h b .int [(.int (0 : Int32)), (.int (1 : Int32)), (.int (2 : Int32)), (.int (3 : Int32))])
set_option maxRecDepth 65536 in
set_option maxHeartbeats 40000000 in
theorem rm10_0_3 (l : Launch) (Z : State) (a0 : Array Value) (hw : ∀ d ∈ tables_1, d.before a0 Z = true) (ws : List Jvm.Cond) (a1 : Addr) (b : Addr) (h0 : Heap) (n0 : Nat) (R0 : Fld Z h0 a1 "com/example/fragmark/fragmark/PhraseTerm" "free" "[I" (.ref b)) (R1 : OA Z h0 b .int [(.int (0 : Int32)), (.int (1 : Int32)), (.int (2 : Int32)), (.int (3 : Int32))]) (g_b : n0 ≤ b) (ne_a1_b : a1 ≠ b) :
    OMet l Z (⟨"com/example/fragmark/fragmark/PhraseTerm", "nextFree", "(I)I"⟩ : MethodName) prog_35_method_16_code 3 (some .int) ws ({ frames := 0, cells := 0, slots := 0, locals := 0 } : Room) #[(.ref a1), (.int (3 : Int32))] h0 (Q10_0_3 Z a1 b h0 n0) := by
  refine own_enter pn_10 ?_
  intro p e s m below meth c s₁ hx hby hml0 hown hret hlk hnm hZ X0 e0
  have hml : c.maxLocals = 3 := hml0
  have B : BX p c prog_35_method_16_code := ⟨hx, hby⟩
  have N0 := Fr.nil n0
  refine own_cast (ef_10_0_3 m a1) ?_
  show OG p e ({ frames := 0, cells := 0, slots := 0, locals := 0 } : Room) s below (fun v h L => v = some (.int (3 : Int32)) ∧ Fr n0 L ∧ Keep h0 h [b] ∧ OA Z h b .int [(.int (0 : Int32)), (.int (1 : Int32)), (.int (2 : Int32)), (.int (3 : Int32))]) s₁ (mkF m 0 #[.val (.ref a1), .val (.int (3 : Int32)), .unset] [])
  refine wiloadN OGc 1 X0 B d10_0 rfl rfl ?_
  refine wistoreN OGc 2 X0 B d10_1 #[.val (.ref a1), .val (.int (3 : Int32)), .val (.int (3 : Int32))] rfl rfl ?_
  refine waloadN OGc 3 X0 B d10_2 rfl rfl rfl ?_
  refine wgetF OGc 6 X0 B hZ hown (ow hw 61 rfl) e0 R0 d10_3 rfl fun T1 X1 e1 => ?_
  refine wiloadN OGc 7 X1 B d10_6 rfl rfl ?_
  refine wiaload OGc 8 X1 B hZ e1 R1 (v := (.int (3 : Int32))) 3 (by decide) (by decide) rfl d10_7 rfl ?_
  refine wiloadN OGc 9 X1 B d10_8 rfl rfl ?_
  refine wicmpYes OGc 39 X1 B d10_9 (by decide) rfl ?_
  refine wiloadN OGc 40 X1 B d10_39 rfl rfl ?_
  refine own_retI X1 hx hret hlk (hb hby d10_40) (by decide) (by decide) ?_
  rw [e1]
  exact ⟨rfl, N0, (Keep.refl h0 [b]), R1⟩
theorem ef_10_1_0 (m : MethodId) (a1 : Addr) : entryFrame m #[(.ref a1), (.int (0 : Int32))] 3 = (mkF m 0 #[.val (.ref a1), .val (.int (0 : Int32)), .unset] []) := by first | (simp [entryFrame, mkF, argsToLocals, Value.category]; done) | rfl
abbrev Q10_1_0 (Z : State) (a1 : Addr) (b : Addr) (h0 : Heap) (n0 : Nat) : Option Value → Heap → List Loc → Prop := (fun v h L => v = some (.int (0 : Int32)) ∧ Fr n0 L ∧ Keep h0 h [b] ∧ OA Z h b .int [(.int (0 : Int32)), (.int (1 : Int32)), (.int (3 : Int32)), (.int (3 : Int32))])
set_option maxRecDepth 65536 in
set_option maxHeartbeats 40000000 in
theorem rm10_1_0 (l : Launch) (Z : State) (a0 : Array Value) (hw : ∀ d ∈ tables_1, d.before a0 Z = true) (ws : List Jvm.Cond) (a1 : Addr) (b : Addr) (h0 : Heap) (n0 : Nat) (R0 : Fld Z h0 a1 "com/example/fragmark/fragmark/PhraseTerm" "free" "[I" (.ref b)) (R1 : OA Z h0 b .int [(.int (0 : Int32)), (.int (1 : Int32)), (.int (3 : Int32)), (.int (3 : Int32))]) (g_b : n0 ≤ b) (ne_a1_b : a1 ≠ b) :
    OMet l Z (⟨"com/example/fragmark/fragmark/PhraseTerm", "nextFree", "(I)I"⟩ : MethodName) prog_35_method_16_code 3 (some .int) ws ({ frames := 0, cells := 0, slots := 0, locals := 0 } : Room) #[(.ref a1), (.int (0 : Int32))] h0 (Q10_1_0 Z a1 b h0 n0) := by
  refine own_enter pn_10 ?_
  intro p e s m below meth c s₁ hx hby hml0 hown hret hlk hnm hZ X0 e0
  have hml : c.maxLocals = 3 := hml0
  have B : BX p c prog_35_method_16_code := ⟨hx, hby⟩
  have N0 := Fr.nil n0
  refine own_cast (ef_10_1_0 m a1) ?_
  show OG p e ({ frames := 0, cells := 0, slots := 0, locals := 0 } : Room) s below (fun v h L => v = some (.int (0 : Int32)) ∧ Fr n0 L ∧ Keep h0 h [b] ∧ OA Z h b .int [(.int (0 : Int32)), (.int (1 : Int32)), (.int (3 : Int32)), (.int (3 : Int32))]) s₁ (mkF m 0 #[.val (.ref a1), .val (.int (0 : Int32)), .unset] [])
  refine wiloadN OGc 1 X0 B d10_0 rfl rfl ?_
  refine wistoreN OGc 2 X0 B d10_1 #[.val (.ref a1), .val (.int (0 : Int32)), .val (.int (0 : Int32))] rfl rfl ?_
  refine waloadN OGc 3 X0 B d10_2 rfl rfl rfl ?_
  refine wgetF OGc 6 X0 B hZ hown (ow hw 61 rfl) e0 R0 d10_3 rfl fun T1 X1 e1 => ?_
  refine wiloadN OGc 7 X1 B d10_6 rfl rfl ?_
  refine wiaload OGc 8 X1 B hZ e1 R1 (v := (.int (0 : Int32))) 0 (by decide) (by decide) rfl d10_7 rfl ?_
  refine wiloadN OGc 9 X1 B d10_8 rfl rfl ?_
  refine wicmpYes OGc 39 X1 B d10_9 (by decide) rfl ?_
  refine wiloadN OGc 40 X1 B d10_39 rfl rfl ?_
  refine own_retI X1 hx hret hlk (hb hby d10_40) (by decide) (by decide) ?_
  rw [e1]
  exact ⟨rfl, N0, (Keep.refl h0 [b]), R1⟩
theorem ef_10_1_1 (m : MethodId) (a1 : Addr) : entryFrame m #[(.ref a1), (.int (1 : Int32))] 3 = (mkF m 0 #[.val (.ref a1), .val (.int (1 : Int32)), .unset] []) := by first | (simp [entryFrame, mkF, argsToLocals, Value.category]; done) | rfl
abbrev Q10_1_1 (Z : State) (a1 : Addr) (b : Addr) (h0 : Heap) (n0 : Nat) : Option Value → Heap → List Loc → Prop := (fun v h L => v = some (.int (1 : Int32)) ∧ Fr n0 L ∧ Keep h0 h [b] ∧ OA Z h b .int [(.int (0 : Int32)), (.int (1 : Int32)), (.int (3 : Int32)), (.int (3 : Int32))])
set_option maxRecDepth 65536 in
set_option maxHeartbeats 40000000 in
theorem rm10_1_1 (l : Launch) (Z : State) (a0 : Array Value) (hw : ∀ d ∈ tables_1, d.before a0 Z = true) (ws : List Jvm.Cond) (a1 : Addr) (b : Addr) (h0 : Heap) (n0 : Nat) (R0 : Fld Z h0 a1 "com/example/fragmark/fragmark/PhraseTerm" "free" "[I" (.ref b)) (R1 : OA Z h0 b .int [(.int (0 : Int32)), (.int (1 : Int32)), (.int (3 : Int32)), (.int (3 : Int32))]) (g_b : n0 ≤ b) (ne_a1_b : a1 ≠ b) :
    OMet l Z (⟨"com/example/fragmark/fragmark/PhraseTerm", "nextFree", "(I)I"⟩ : MethodName) prog_35_method_16_code 3 (some .int) ws ({ frames := 0, cells := 0, slots := 0, locals := 0 } : Room) #[(.ref a1), (.int (1 : Int32))] h0 (Q10_1_1 Z a1 b h0 n0) := by
  refine own_enter pn_10 ?_
  intro p e s m below meth c s₁ hx hby hml0 hown hret hlk hnm hZ X0 e0
  have hml : c.maxLocals = 3 := hml0
  have B : BX p c prog_35_method_16_code := ⟨hx, hby⟩
  have N0 := Fr.nil n0
  refine own_cast (ef_10_1_1 m a1) ?_
  show OG p e ({ frames := 0, cells := 0, slots := 0, locals := 0 } : Room) s below (fun v h L => v = some (.int (1 : Int32)) ∧ Fr n0 L ∧ Keep h0 h [b] ∧ OA Z h b .int [(.int (0 : Int32)), (.int (1 : Int32)), (.int (3 : Int32)), (.int (3 : Int32))]) s₁ (mkF m 0 #[.val (.ref a1), .val (.int (1 : Int32)), .unset] [])
  refine wiloadN OGc 1 X0 B d10_0 rfl rfl ?_
  refine wistoreN OGc 2 X0 B d10_1 #[.val (.ref a1), .val (.int (1 : Int32)), .val (.int (1 : Int32))] rfl rfl ?_
  refine waloadN OGc 3 X0 B d10_2 rfl rfl rfl ?_
  refine wgetF OGc 6 X0 B hZ hown (ow hw 61 rfl) e0 R0 d10_3 rfl fun T1 X1 e1 => ?_
  refine wiloadN OGc 7 X1 B d10_6 rfl rfl ?_
  refine wiaload OGc 8 X1 B hZ e1 R1 (v := (.int (1 : Int32))) 1 (by decide) (by decide) rfl d10_7 rfl ?_
  refine wiloadN OGc 9 X1 B d10_8 rfl rfl ?_
  refine wicmpYes OGc 39 X1 B d10_9 (by decide) rfl ?_
  refine wiloadN OGc 40 X1 B d10_39 rfl rfl ?_
  refine own_retI X1 hx hret hlk (hb hby d10_40) (by decide) (by decide) ?_
  rw [e1]
  exact ⟨rfl, N0, (Keep.refl h0 [b]), R1⟩
theorem d10_12 : decode prog_35_method_16_code 12 = .ok (.aload_n 0, 1) := by decide +kernel
theorem d10_13 : decode prog_35_method_16_code 13 = .ok (.getfield 109, 3) := by decide +kernel
theorem d10_16 : decode prog_35_method_16_code 16 = .ok (.iload_n 2, 1) := by decide +kernel
theorem d10_17 : decode prog_35_method_16_code 17 = .ok (.aload_n 0, 1) := by decide +kernel
theorem d10_18 : decode prog_35_method_16_code 18 = .ok (.getfield 109, 3) := by decide +kernel
theorem d10_21 : decode prog_35_method_16_code 21 = .ok (.aload_n 0, 1) := by decide +kernel
theorem d10_22 : decode prog_35_method_16_code 22 = .ok (.getfield 109, 3) := by decide +kernel
theorem d10_25 : decode prog_35_method_16_code 25 = .ok (.iload_n 2, 1) := by decide +kernel
theorem d10_26 : decode prog_35_method_16_code 26 = .ok (.iaload, 1) := by decide +kernel
theorem d10_27 : decode prog_35_method_16_code 27 = .ok (.iaload, 1) := by decide +kernel
theorem d10_28 : decode prog_35_method_16_code 28 = .ok (.iastore, 1) := by decide +kernel
theorem d10_29 : decode prog_35_method_16_code 29 = .ok (.aload_n 0, 1) := by decide +kernel
theorem d10_30 : decode prog_35_method_16_code 30 = .ok (.getfield 109, 3) := by decide +kernel
theorem d10_33 : decode prog_35_method_16_code 33 = .ok (.iload_n 2, 1) := by decide +kernel
theorem d10_34 : decode prog_35_method_16_code 34 = .ok (.iaload, 1) := by decide +kernel
theorem d10_35 : decode prog_35_method_16_code 35 = .ok (.istore_n 2, 1) := by decide +kernel
theorem d10_36 : decode prog_35_method_16_code 36 = .ok (.goto (-34), 3) := by decide +kernel
theorem ef_10_1_2 (m : MethodId) (a1 : Addr) : entryFrame m #[(.ref a1), (.int (2 : Int32))] 3 = (mkF m 0 #[.val (.ref a1), .val (.int (2 : Int32)), .unset] []) := by first | (simp [entryFrame, mkF, argsToLocals, Value.category]; done) | rfl
abbrev Q10_1_2 (Z : State) (a1 : Addr) (b : Addr) (h0 : Heap) (n0 : Nat) : Option Value → Heap → List Loc → Prop := (fun v h L => v = some (.int (3 : Int32)) ∧ Fr n0 L ∧ Keep h0 h [b] ∧ OA Z h b .int [(.int (0 : Int32)), (.int (1 : Int32)), (.int (3 : Int32)), (.int (3 : Int32))])
set_option maxRecDepth 65536 in
set_option maxHeartbeats 40000000 in
theorem rm10_1_2 (l : Launch) (Z : State) (a0 : Array Value) (hw : ∀ d ∈ tables_1, d.before a0 Z = true) (ws : List Jvm.Cond) (a1 : Addr) (b : Addr) (h0 : Heap) (n0 : Nat) (R0 : Fld Z h0 a1 "com/example/fragmark/fragmark/PhraseTerm" "free" "[I" (.ref b)) (R1 : OA Z h0 b .int [(.int (0 : Int32)), (.int (1 : Int32)), (.int (3 : Int32)), (.int (3 : Int32))]) (g_b : n0 ≤ b) (ne_a1_b : a1 ≠ b) :
    OMet l Z (⟨"com/example/fragmark/fragmark/PhraseTerm", "nextFree", "(I)I"⟩ : MethodName) prog_35_method_16_code 3 (some .int) ws ({ frames := 0, cells := 0, slots := 0, locals := 0 } : Room) #[(.ref a1), (.int (2 : Int32))] h0 (Q10_1_2 Z a1 b h0 n0) := by
  refine own_enter pn_10 ?_
  intro p e s m below meth c s₁ hx hby hml0 hown hret hlk hnm hZ X0 e0
  have hml : c.maxLocals = 3 := hml0
  have B : BX p c prog_35_method_16_code := ⟨hx, hby⟩
  have N0 := Fr.nil n0
  refine own_cast (ef_10_1_2 m a1) ?_
  show OG p e ({ frames := 0, cells := 0, slots := 0, locals := 0 } : Room) s below (fun v h L => v = some (.int (3 : Int32)) ∧ Fr n0 L ∧ Keep h0 h [b] ∧ OA Z h b .int [(.int (0 : Int32)), (.int (1 : Int32)), (.int (3 : Int32)), (.int (3 : Int32))]) s₁ (mkF m 0 #[.val (.ref a1), .val (.int (2 : Int32)), .unset] [])
  refine wiloadN OGc 1 X0 B d10_0 rfl rfl ?_
  refine wistoreN OGc 2 X0 B d10_1 #[.val (.ref a1), .val (.int (2 : Int32)), .val (.int (2 : Int32))] rfl rfl ?_
  refine waloadN OGc 3 X0 B d10_2 rfl rfl rfl ?_
  refine wgetF OGc 6 X0 B hZ hown (ow hw 61 rfl) e0 R0 d10_3 rfl fun T1 X1 e1 => ?_
  refine wiloadN OGc 7 X1 B d10_6 rfl rfl ?_
  refine wiaload OGc 8 X1 B hZ e1 R1 (v := (.int (3 : Int32))) 2 (by decide) (by decide) rfl d10_7 rfl ?_
  refine wiloadN OGc 9 X1 B d10_8 rfl rfl ?_
  refine wicmpNo OGc 12 X1 B d10_9 (by decide) rfl ?_
  refine waloadN OGc 13 X1 B d10_12 rfl rfl rfl ?_
  refine wgetF OGc 16 X1 B hZ hown (ow hw 61 rfl) e1 R0 d10_13 rfl fun T3 X3 e3 => ?_
  refine wiloadN OGc 17 X3 B d10_16 rfl rfl ?_
  refine waloadN OGc 18 X3 B d10_17 rfl rfl rfl ?_
  refine wgetF OGc 21 X3 B hZ hown (ow hw 61 rfl) e3 R0 d10_18 rfl fun T4 X4 e4 => ?_
  refine waloadN OGc 22 X4 B d10_21 rfl rfl rfl ?_
  refine wgetF OGc 25 X4 B hZ hown (ow hw 61 rfl) e4 R0 d10_22 rfl fun T5 X5 e5 => ?_
  refine wiloadN OGc 26 X5 B d10_25 rfl rfl ?_
  refine wiaload OGc 27 X5 B hZ e5 R1 (v := (.int (3 : Int32))) 2 (by decide) (by decide) rfl d10_26 rfl ?_
  refine wiaload OGc 28 X5 B hZ e5 R1 (v := (.int (3 : Int32))) 3 (by decide) (by decide) rfl d10_27 rfl ?_
  refine wstI OGc 29 X5 B hZ e5 R1 2 (by decide) (by decide) (by decide : 2 < 4) d10_28 rfl fun T8 h8 X8 e8 W8 => ?_
  have N8 := Fr.snoc X8 N0 g_b
  have K9 := (Keep.refl h0 [b]).wr W8 (Or.inl (List.mem_of_getElem? (i := 0) rfl))
  have F10 := R0.other W8 (Or.inl ne_a1_b)
  have F11 : OA Z h8 b .int [(.int (0 : Int32)), (.int (1 : Int32)), (.int (3 : Int32)), (.int (3 : Int32))] := (R1.set W8 (i := 2) (by decide))
  refine waloadN OGc 30 X8 B d10_29 rfl rfl rfl ?_
  refine wgetF OGc 33 X8 B hZ hown (ow hw 61 rfl) e8 F10 d10_30 rfl fun T12 X12 e12 => ?_
  refine wiloadN OGc 34 X12 B d10_33 rfl rfl ?_
  refine wiaload OGc 35 X12 B hZ e12 F11 (v := (.int (3 : Int32))) 2 (by decide) (by decide) rfl d10_34 rfl ?_
  refine wistoreN OGc 36 X12 B d10_35 #[.val (.ref a1), .val (.int (2 : Int32)), .val (.int (3 : Int32))] rfl rfl ?_
  refine wgoto OGc 2 X12 B d10_36 rfl ?_
  refine waloadN OGc 3 X12 B d10_2 rfl rfl rfl ?_
  refine wgetF OGc 6 X12 B hZ hown (ow hw 61 rfl) e12 F10 d10_3 rfl fun T14 X14 e14 => ?_
  refine wiloadN OGc 7 X14 B d10_6 rfl rfl ?_
  refine wiaload OGc 8 X14 B hZ e14 F11 (v := (.int (3 : Int32))) 3 (by decide) (by decide) rfl d10_7 rfl ?_
  refine wiloadN OGc 9 X14 B d10_8 rfl rfl ?_
  refine wicmpYes OGc 39 X14 B d10_9 (by decide) rfl ?_
  refine wiloadN OGc 40 X14 B d10_39 rfl rfl ?_
  refine own_retI X14 hx hret hlk (hb hby d10_40) (by decide) (by decide) ?_
  rw [e14]
  exact ⟨rfl, N8, K9, F11⟩
theorem ef_10_1_3 (m : MethodId) (a1 : Addr) : entryFrame m #[(.ref a1), (.int (3 : Int32))] 3 = (mkF m 0 #[.val (.ref a1), .val (.int (3 : Int32)), .unset] []) := by first | (simp [entryFrame, mkF, argsToLocals, Value.category]; done) | rfl
abbrev Q10_1_3 (Z : State) (a1 : Addr) (b : Addr) (h0 : Heap) (n0 : Nat) : Option Value → Heap → List Loc → Prop := (fun v h L => v = some (.int (3 : Int32)) ∧ Fr n0 L ∧ Keep h0 h [b] ∧ OA Z h b .int [(.int (0 : Int32)), (.int (1 : Int32)), (.int (3 : Int32)), (.int (3 : Int32))])
set_option maxRecDepth 65536 in
set_option maxHeartbeats 40000000 in
theorem rm10_1_3 (l : Launch) (Z : State) (a0 : Array Value) (hw : ∀ d ∈ tables_1, d.before a0 Z = true) (ws : List Jvm.Cond) (a1 : Addr) (b : Addr) (h0 : Heap) (n0 : Nat) (R0 : Fld Z h0 a1 "com/example/fragmark/fragmark/PhraseTerm" "free" "[I" (.ref b)) (R1 : OA Z h0 b .int [(.int (0 : Int32)), (.int (1 : Int32)), (.int (3 : Int32)), (.int (3 : Int32))]) (g_b : n0 ≤ b) (ne_a1_b : a1 ≠ b) :
    OMet l Z (⟨"com/example/fragmark/fragmark/PhraseTerm", "nextFree", "(I)I"⟩ : MethodName) prog_35_method_16_code 3 (some .int) ws ({ frames := 0, cells := 0, slots := 0, locals := 0 } : Room) #[(.ref a1), (.int (3 : Int32))] h0 (Q10_1_3 Z a1 b h0 n0) := by
  refine own_enter pn_10 ?_
  intro p e s m below meth c s₁ hx hby hml0 hown hret hlk hnm hZ X0 e0
  have hml : c.maxLocals = 3 := hml0
  have B : BX p c prog_35_method_16_code := ⟨hx, hby⟩
  have N0 := Fr.nil n0
  refine own_cast (ef_10_1_3 m a1) ?_
  show OG p e ({ frames := 0, cells := 0, slots := 0, locals := 0 } : Room) s below (fun v h L => v = some (.int (3 : Int32)) ∧ Fr n0 L ∧ Keep h0 h [b] ∧ OA Z h b .int [(.int (0 : Int32)), (.int (1 : Int32)), (.int (3 : Int32)), (.int (3 : Int32))]) s₁ (mkF m 0 #[.val (.ref a1), .val (.int (3 : Int32)), .unset] [])
  refine wiloadN OGc 1 X0 B d10_0 rfl rfl ?_
  refine wistoreN OGc 2 X0 B d10_1 #[.val (.ref a1), .val (.int (3 : Int32)), .val (.int (3 : Int32))] rfl rfl ?_
  refine waloadN OGc 3 X0 B d10_2 rfl rfl rfl ?_
  refine wgetF OGc 6 X0 B hZ hown (ow hw 61 rfl) e0 R0 d10_3 rfl fun T1 X1 e1 => ?_
  refine wiloadN OGc 7 X1 B d10_6 rfl rfl ?_
  refine wiaload OGc 8 X1 B hZ e1 R1 (v := (.int (3 : Int32))) 3 (by decide) (by decide) rfl d10_7 rfl ?_
  refine wiloadN OGc 9 X1 B d10_8 rfl rfl ?_
  refine wicmpYes OGc 39 X1 B d10_9 (by decide) rfl ?_
  refine wiloadN OGc 40 X1 B d10_39 rfl rfl ?_
  refine own_retI X1 hx hret hlk (hb hby d10_40) (by decide) (by decide) ?_
  rw [e1]
  exact ⟨rfl, N0, (Keep.refl h0 [b]), R1⟩
theorem ef_10_2_0 (m : MethodId) (a1 : Addr) : entryFrame m #[(.ref a1), (.int (0 : Int32))] 3 = (mkF m 0 #[.val (.ref a1), .val (.int (0 : Int32)), .unset] []) := by first | (simp [entryFrame, mkF, argsToLocals, Value.category]; done) | rfl
abbrev Q10_2_0 (Z : State) (a1 : Addr) (b : Addr) (h0 : Heap) (n0 : Nat) : Option Value → Heap → List Loc → Prop := (fun v h L => v = some (.int (0 : Int32)) ∧ Fr n0 L ∧ Keep h0 h [b] ∧ OA Z h b .int [(.int (0 : Int32)), (.int (2 : Int32)), (.int (2 : Int32)), (.int (3 : Int32))])
set_option maxRecDepth 65536 in
set_option maxHeartbeats 40000000 in
theorem rm10_2_0 (l : Launch) (Z : State) (a0 : Array Value) (hw : ∀ d ∈ tables_1, d.before a0 Z = true) (ws : List Jvm.Cond) (a1 : Addr) (b : Addr) (h0 : Heap) (n0 : Nat) (R0 : Fld Z h0 a1 "com/example/fragmark/fragmark/PhraseTerm" "free" "[I" (.ref b)) (R1 : OA Z h0 b .int [(.int (0 : Int32)), (.int (2 : Int32)), (.int (2 : Int32)), (.int (3 : Int32))]) (g_b : n0 ≤ b) (ne_a1_b : a1 ≠ b) :
    OMet l Z (⟨"com/example/fragmark/fragmark/PhraseTerm", "nextFree", "(I)I"⟩ : MethodName) prog_35_method_16_code 3 (some .int) ws ({ frames := 0, cells := 0, slots := 0, locals := 0 } : Room) #[(.ref a1), (.int (0 : Int32))] h0 (Q10_2_0 Z a1 b h0 n0) := by
  refine own_enter pn_10 ?_
  intro p e s m below meth c s₁ hx hby hml0 hown hret hlk hnm hZ X0 e0
  have hml : c.maxLocals = 3 := hml0
  have B : BX p c prog_35_method_16_code := ⟨hx, hby⟩
  have N0 := Fr.nil n0
  refine own_cast (ef_10_2_0 m a1) ?_
  show OG p e ({ frames := 0, cells := 0, slots := 0, locals := 0 } : Room) s below (fun v h L => v = some (.int (0 : Int32)) ∧ Fr n0 L ∧ Keep h0 h [b] ∧ OA Z h b .int [(.int (0 : Int32)), (.int (2 : Int32)), (.int (2 : Int32)), (.int (3 : Int32))]) s₁ (mkF m 0 #[.val (.ref a1), .val (.int (0 : Int32)), .unset] [])
  refine wiloadN OGc 1 X0 B d10_0 rfl rfl ?_
  refine wistoreN OGc 2 X0 B d10_1 #[.val (.ref a1), .val (.int (0 : Int32)), .val (.int (0 : Int32))] rfl rfl ?_
  refine waloadN OGc 3 X0 B d10_2 rfl rfl rfl ?_
  refine wgetF OGc 6 X0 B hZ hown (ow hw 61 rfl) e0 R0 d10_3 rfl fun T1 X1 e1 => ?_
  refine wiloadN OGc 7 X1 B d10_6 rfl rfl ?_
  refine wiaload OGc 8 X1 B hZ e1 R1 (v := (.int (0 : Int32))) 0 (by decide) (by decide) rfl d10_7 rfl ?_
  refine wiloadN OGc 9 X1 B d10_8 rfl rfl ?_
  refine wicmpYes OGc 39 X1 B d10_9 (by decide) rfl ?_
  refine wiloadN OGc 40 X1 B d10_39 rfl rfl ?_
  refine own_retI X1 hx hret hlk (hb hby d10_40) (by decide) (by decide) ?_
  rw [e1]
  exact ⟨rfl, N0, (Keep.refl h0 [b]), R1⟩
theorem ef_10_2_1 (m : MethodId) (a1 : Addr) : entryFrame m #[(.ref a1), (.int (1 : Int32))] 3 = (mkF m 0 #[.val (.ref a1), .val (.int (1 : Int32)), .unset] []) := by first | (simp [entryFrame, mkF, argsToLocals, Value.category]; done) | rfl
abbrev Q10_2_1 (Z : State) (a1 : Addr) (b : Addr) (h0 : Heap) (n0 : Nat) : Option Value → Heap → List Loc → Prop := (fun v h L => v = some (.int (2 : Int32)) ∧ Fr n0 L ∧ Keep h0 h [b] ∧ OA Z h b .int [(.int (0 : Int32)), (.int (2 : Int32)), (.int (2 : Int32)), (.int (3 : Int32))])
set_option maxRecDepth 65536 in
set_option maxHeartbeats 40000000 in
theorem rm10_2_1 (l : Launch) (Z : State) (a0 : Array Value) (hw : ∀ d ∈ tables_1, d.before a0 Z = true) (ws : List Jvm.Cond) (a1 : Addr) (b : Addr) (h0 : Heap) (n0 : Nat) (R0 : Fld Z h0 a1 "com/example/fragmark/fragmark/PhraseTerm" "free" "[I" (.ref b)) (R1 : OA Z h0 b .int [(.int (0 : Int32)), (.int (2 : Int32)), (.int (2 : Int32)), (.int (3 : Int32))]) (g_b : n0 ≤ b) (ne_a1_b : a1 ≠ b) :
    OMet l Z (⟨"com/example/fragmark/fragmark/PhraseTerm", "nextFree", "(I)I"⟩ : MethodName) prog_35_method_16_code 3 (some .int) ws ({ frames := 0, cells := 0, slots := 0, locals := 0 } : Room) #[(.ref a1), (.int (1 : Int32))] h0 (Q10_2_1 Z a1 b h0 n0) := by
  refine own_enter pn_10 ?_
  intro p e s m below meth c s₁ hx hby hml0 hown hret hlk hnm hZ X0 e0
  have hml : c.maxLocals = 3 := hml0
  have B : BX p c prog_35_method_16_code := ⟨hx, hby⟩
  have N0 := Fr.nil n0
  refine own_cast (ef_10_2_1 m a1) ?_
  show OG p e ({ frames := 0, cells := 0, slots := 0, locals := 0 } : Room) s below (fun v h L => v = some (.int (2 : Int32)) ∧ Fr n0 L ∧ Keep h0 h [b] ∧ OA Z h b .int [(.int (0 : Int32)), (.int (2 : Int32)), (.int (2 : Int32)), (.int (3 : Int32))]) s₁ (mkF m 0 #[.val (.ref a1), .val (.int (1 : Int32)), .unset] [])
  refine wiloadN OGc 1 X0 B d10_0 rfl rfl ?_
  refine wistoreN OGc 2 X0 B d10_1 #[.val (.ref a1), .val (.int (1 : Int32)), .val (.int (1 : Int32))] rfl rfl ?_
  refine waloadN OGc 3 X0 B d10_2 rfl rfl rfl ?_
  refine wgetF OGc 6 X0 B hZ hown (ow hw 61 rfl) e0 R0 d10_3 rfl fun T1 X1 e1 => ?_
  refine wiloadN OGc 7 X1 B d10_6 rfl rfl ?_
  refine wiaload OGc 8 X1 B hZ e1 R1 (v := (.int (2 : Int32))) 1 (by decide) (by decide) rfl d10_7 rfl ?_
  refine wiloadN OGc 9 X1 B d10_8 rfl rfl ?_
  refine wicmpNo OGc 12 X1 B d10_9 (by decide) rfl ?_
  refine waloadN OGc 13 X1 B d10_12 rfl rfl rfl ?_
  refine wgetF OGc 16 X1 B hZ hown (ow hw 61 rfl) e1 R0 d10_13 rfl fun T3 X3 e3 => ?_
  refine wiloadN OGc 17 X3 B d10_16 rfl rfl ?_
  refine waloadN OGc 18 X3 B d10_17 rfl rfl rfl ?_
  refine wgetF OGc 21 X3 B hZ hown (ow hw 61 rfl) e3 R0 d10_18 rfl fun T4 X4 e4 => ?_
  refine waloadN OGc 22 X4 B d10_21 rfl rfl rfl ?_
  refine wgetF OGc 25 X4 B hZ hown (ow hw 61 rfl) e4 R0 d10_22 rfl fun T5 X5 e5 => ?_
  refine wiloadN OGc 26 X5 B d10_25 rfl rfl ?_
  refine wiaload OGc 27 X5 B hZ e5 R1 (v := (.int (2 : Int32))) 1 (by decide) (by decide) rfl d10_26 rfl ?_
  refine wiaload OGc 28 X5 B hZ e5 R1 (v := (.int (2 : Int32))) 2 (by decide) (by decide) rfl d10_27 rfl ?_
  refine wstI OGc 29 X5 B hZ e5 R1 1 (by decide) (by decide) (by decide : 1 < 4) d10_28 rfl fun T8 h8 X8 e8 W8 => ?_
  have N8 := Fr.snoc X8 N0 g_b
  have K9 := (Keep.refl h0 [b]).wr W8 (Or.inl (List.mem_of_getElem? (i := 0) rfl))
  have F10 := R0.other W8 (Or.inl ne_a1_b)
  have F11 : OA Z h8 b .int [(.int (0 : Int32)), (.int (2 : Int32)), (.int (2 : Int32)), (.int (3 : Int32))] := (R1.set W8 (i := 1) (by decide))
  refine waloadN OGc 30 X8 B d10_29 rfl rfl rfl ?_
  refine wgetF OGc 33 X8 B hZ hown (ow hw 61 rfl) e8 F10 d10_30 rfl fun T12 X12 e12 => ?_
  refine wiloadN OGc 34 X12 B d10_33 rfl rfl ?_
  refine wiaload OGc 35 X12 B hZ e12 F11 (v := (.int (2 : Int32))) 1 (by decide) (by decide) rfl d10_34 rfl ?_
  refine wistoreN OGc 36 X12 B d10_35 #[.val (.ref a1), .val (.int (1 : Int32)), .val (.int (2 : Int32))] rfl rfl ?_
  refine wgoto OGc 2 X12 B d10_36 rfl ?_
  refine waloadN OGc 3 X12 B d10_2 rfl rfl rfl ?_
  refine wgetF OGc 6 X12 B hZ hown (ow hw 61 rfl) e12 F10 d10_3 rfl fun T14 X14 e14 => ?_
  refine wiloadN OGc 7 X14 B d10_6 rfl rfl ?_
  refine wiaload OGc 8 X14 B hZ e14 F11 (v := (.int (2 : Int32))) 2 (by decide) (by decide) rfl d10_7 rfl ?_
  refine wiloadN OGc 9 X14 B d10_8 rfl rfl ?_
  refine wicmpYes OGc 39 X14 B d10_9 (by decide) rfl ?_
  refine wiloadN OGc 40 X14 B d10_39 rfl rfl ?_
  refine own_retI X14 hx hret hlk (hb hby d10_40) (by decide) (by decide) ?_
  rw [e14]
  exact ⟨rfl, N8, K9, F11⟩
theorem ef_10_2_2 (m : MethodId) (a1 : Addr) : entryFrame m #[(.ref a1), (.int (2 : Int32))] 3 = (mkF m 0 #[.val (.ref a1), .val (.int (2 : Int32)), .unset] []) := by first | (simp [entryFrame, mkF, argsToLocals, Value.category]; done) | rfl
abbrev Q10_2_2 (Z : State) (a1 : Addr) (b : Addr) (h0 : Heap) (n0 : Nat) : Option Value → Heap → List Loc → Prop := (fun v h L => v = some (.int (2 : Int32)) ∧ Fr n0 L ∧ Keep h0 h [b] ∧ OA Z h b .int [(.int (0 : Int32)), (.int (2 : Int32)), (.int (2 : Int32)), (.int (3 : Int32))])
set_option maxRecDepth 65536 in
set_option maxHeartbeats 40000000 in
theorem rm10_2_2 (l : Launch) (Z : State) (a0 : Array Value) (hw : ∀ d ∈ tables_1, d.before a0 Z = true) (ws : List Jvm.Cond) (a1 : Addr) (b : Addr) (h0 : Heap) (n0 : Nat) (R0 : Fld Z h0 a1 "com/example/fragmark/fragmark/PhraseTerm" "free" "[I" (.ref b)) (R1 : OA Z h0 b .int [(.int (0 : Int32)), (.int (2 : Int32)), (.int (2 : Int32)), (.int (3 : Int32))]) (g_b : n0 ≤ b) (ne_a1_b : a1 ≠ b) :
    OMet l Z (⟨"com/example/fragmark/fragmark/PhraseTerm", "nextFree", "(I)I"⟩ : MethodName) prog_35_method_16_code 3 (some .int) ws ({ frames := 0, cells := 0, slots := 0, locals := 0 } : Room) #[(.ref a1), (.int (2 : Int32))] h0 (Q10_2_2 Z a1 b h0 n0) := by
  refine own_enter pn_10 ?_
  intro p e s m below meth c s₁ hx hby hml0 hown hret hlk hnm hZ X0 e0
  have hml : c.maxLocals = 3 := hml0
  have B : BX p c prog_35_method_16_code := ⟨hx, hby⟩
  have N0 := Fr.nil n0
  refine own_cast (ef_10_2_2 m a1) ?_
  show OG p e ({ frames := 0, cells := 0, slots := 0, locals := 0 } : Room) s below (fun v h L => v = some (.int (2 : Int32)) ∧ Fr n0 L ∧ Keep h0 h [b] ∧ OA Z h b .int [(.int (0 : Int32)), (.int (2 : Int32)), (.int (2 : Int32)), (.int (3 : Int32))]) s₁ (mkF m 0 #[.val (.ref a1), .val (.int (2 : Int32)), .unset] [])
  refine wiloadN OGc 1 X0 B d10_0 rfl rfl ?_
  refine wistoreN OGc 2 X0 B d10_1 #[.val (.ref a1), .val (.int (2 : Int32)), .val (.int (2 : Int32))] rfl rfl ?_
  refine waloadN OGc 3 X0 B d10_2 rfl rfl rfl ?_
  refine wgetF OGc 6 X0 B hZ hown (ow hw 61 rfl) e0 R0 d10_3 rfl fun T1 X1 e1 => ?_
  refine wiloadN OGc 7 X1 B d10_6 rfl rfl ?_
  refine wiaload OGc 8 X1 B hZ e1 R1 (v := (.int (2 : Int32))) 2 (by decide) (by decide) rfl d10_7 rfl ?_
  refine wiloadN OGc 9 X1 B d10_8 rfl rfl ?_
  refine wicmpYes OGc 39 X1 B d10_9 (by decide) rfl ?_
  refine wiloadN OGc 40 X1 B d10_39 rfl rfl ?_
  refine own_retI X1 hx hret hlk (hb hby d10_40) (by decide) (by decide) ?_
  rw [e1]
  exact ⟨rfl, N0, (Keep.refl h0 [b]), R1⟩
theorem ef_10_2_3 (m : MethodId) (a1 : Addr) : entryFrame m #[(.ref a1), (.int (3 : Int32))] 3 = (mkF m 0 #[.val (.ref a1), .val (.int (3 : Int32)), .unset] []) := by first | (simp [entryFrame, mkF, argsToLocals, Value.category]; done) | rfl
abbrev Q10_2_3 (Z : State) (a1 : Addr) (b : Addr) (h0 : Heap) (n0 : Nat) : Option Value → Heap → List Loc → Prop := (fun v h L => v = some (.int (3 : Int32)) ∧ Fr n0 L ∧ Keep h0 h [b] ∧ OA Z h b .int [(.int (0 : Int32)), (.int (2 : Int32)), (.int (2 : Int32)), (.int (3 : Int32))])
set_option maxRecDepth 65536 in
set_option maxHeartbeats 40000000 in
theorem rm10_2_3 (l : Launch) (Z : State) (a0 : Array Value) (hw : ∀ d ∈ tables_1, d.before a0 Z = true) (ws : List Jvm.Cond) (a1 : Addr) (b : Addr) (h0 : Heap) (n0 : Nat) (R0 : Fld Z h0 a1 "com/example/fragmark/fragmark/PhraseTerm" "free" "[I" (.ref b)) (R1 : OA Z h0 b .int [(.int (0 : Int32)), (.int (2 : Int32)), (.int (2 : Int32)), (.int (3 : Int32))]) (g_b : n0 ≤ b) (ne_a1_b : a1 ≠ b) :
    OMet l Z (⟨"com/example/fragmark/fragmark/PhraseTerm", "nextFree", "(I)I"⟩ : MethodName) prog_35_method_16_code 3 (some .int) ws ({ frames := 0, cells := 0, slots := 0, locals := 0 } : Room) #[(.ref a1), (.int (3 : Int32))] h0 (Q10_2_3 Z a1 b h0 n0) := by
  refine own_enter pn_10 ?_
  intro p e s m below meth c s₁ hx hby hml0 hown hret hlk hnm hZ X0 e0
  have hml : c.maxLocals = 3 := hml0
  have B : BX p c prog_35_method_16_code := ⟨hx, hby⟩
  have N0 := Fr.nil n0
  refine own_cast (ef_10_2_3 m a1) ?_
  show OG p e ({ frames := 0, cells := 0, slots := 0, locals := 0 } : Room) s below (fun v h L => v = some (.int (3 : Int32)) ∧ Fr n0 L ∧ Keep h0 h [b] ∧ OA Z h b .int [(.int (0 : Int32)), (.int (2 : Int32)), (.int (2 : Int32)), (.int (3 : Int32))]) s₁ (mkF m 0 #[.val (.ref a1), .val (.int (3 : Int32)), .unset] [])
  refine wiloadN OGc 1 X0 B d10_0 rfl rfl ?_
  refine wistoreN OGc 2 X0 B d10_1 #[.val (.ref a1), .val (.int (3 : Int32)), .val (.int (3 : Int32))] rfl rfl ?_
  refine waloadN OGc 3 X0 B d10_2 rfl rfl rfl ?_
  refine wgetF OGc 6 X0 B hZ hown (ow hw 61 rfl) e0 R0 d10_3 rfl fun T1 X1 e1 => ?_
  refine wiloadN OGc 7 X1 B d10_6 rfl rfl ?_
  refine wiaload OGc 8 X1 B hZ e1 R1 (v := (.int (3 : Int32))) 3 (by decide) (by decide) rfl d10_7 rfl ?_
  refine wiloadN OGc 9 X1 B d10_8 rfl rfl ?_
  refine wicmpYes OGc 39 X1 B d10_9 (by decide) rfl ?_
  refine wiloadN OGc 40 X1 B d10_39 rfl rfl ?_
  refine own_retI X1 hx hret hlk (hb hby d10_40) (by decide) (by decide) ?_
  rw [e1]
  exact ⟨rfl, N0, (Keep.refl h0 [b]), R1⟩
theorem ef_10_3_0 (m : MethodId) (a1 : Addr) : entryFrame m #[(.ref a1), (.int (0 : Int32))] 3 = (mkF m 0 #[.val (.ref a1), .val (.int (0 : Int32)), .unset] []) := by first | (simp [entryFrame, mkF, argsToLocals, Value.category]; done) | rfl
abbrev Q10_3_0 (Z : State) (a1 : Addr) (b : Addr) (h0 : Heap) (n0 : Nat) : Option Value → Heap → List Loc → Prop := (fun v h L => v = some (.int (0 : Int32)) ∧ Fr n0 L ∧ Keep h0 h [b] ∧ OA Z h b .int [(.int (0 : Int32)), (.int (2 : Int32)), (.int (3 : Int32)), (.int (3 : Int32))])
set_option maxRecDepth 65536 in
set_option maxHeartbeats 40000000 in
theorem rm10_3_0 (l : Launch) (Z : State) (a0 : Array Value) (hw : ∀ d ∈ tables_1, d.before a0 Z = true) (ws : List Jvm.Cond) (a1 : Addr) (b : Addr) (h0 : Heap) (n0 : Nat) (R0 : Fld Z h0 a1 "com/example/fragmark/fragmark/PhraseTerm" "free" "[I" (.ref b)) (R1 : OA Z h0 b .int [(.int (0 : Int32)), (.int (2 : Int32)), (.int (3 : Int32)), (.int (3 : Int32))]) (g_b : n0 ≤ b) (ne_a1_b : a1 ≠ b) :
    OMet l Z (⟨"com/example/fragmark/fragmark/PhraseTerm", "nextFree", "(I)I"⟩ : MethodName) prog_35_method_16_code 3 (some .int) ws ({ frames := 0, cells := 0, slots := 0, locals := 0 } : Room) #[(.ref a1), (.int (0 : Int32))] h0 (Q10_3_0 Z a1 b h0 n0) := by
  refine own_enter pn_10 ?_
  intro p e s m below meth c s₁ hx hby hml0 hown hret hlk hnm hZ X0 e0
  have hml : c.maxLocals = 3 := hml0
  have B : BX p c prog_35_method_16_code := ⟨hx, hby⟩
  have N0 := Fr.nil n0
  refine own_cast (ef_10_3_0 m a1) ?_
  show OG p e ({ frames := 0, cells := 0, slots := 0, locals := 0 } : Room) s below (fun v h L => v = some (.int (0 : Int32)) ∧ Fr n0 L ∧ Keep h0 h [b] ∧ OA Z h b .int [(.int (0 : Int32)), (.int (2 : Int32)), (.int (3 : Int32)), (.int (3 : Int32))]) s₁ (mkF m 0 #[.val (.ref a1), .val (.int (0 : Int32)), .unset] [])
  refine wiloadN OGc 1 X0 B d10_0 rfl rfl ?_
  refine wistoreN OGc 2 X0 B d10_1 #[.val (.ref a1), .val (.int (0 : Int32)), .val (.int (0 : Int32))] rfl rfl ?_
  refine waloadN OGc 3 X0 B d10_2 rfl rfl rfl ?_
  refine wgetF OGc 6 X0 B hZ hown (ow hw 61 rfl) e0 R0 d10_3 rfl fun T1 X1 e1 => ?_
  refine wiloadN OGc 7 X1 B d10_6 rfl rfl ?_
  refine wiaload OGc 8 X1 B hZ e1 R1 (v := (.int (0 : Int32))) 0 (by decide) (by decide) rfl d10_7 rfl ?_
  refine wiloadN OGc 9 X1 B d10_8 rfl rfl ?_
  refine wicmpYes OGc 39 X1 B d10_9 (by decide) rfl ?_
  refine wiloadN OGc 40 X1 B d10_39 rfl rfl ?_
  refine own_retI X1 hx hret hlk (hb hby d10_40) (by decide) (by decide) ?_
  rw [e1]
  exact ⟨rfl, N0, (Keep.refl h0 [b]), R1⟩
theorem ef_10_3_1 (m : MethodId) (a1 : Addr) : entryFrame m #[(.ref a1), (.int (1 : Int32))] 3 = (mkF m 0 #[.val (.ref a1), .val (.int (1 : Int32)), .unset] []) := by first | (simp [entryFrame, mkF, argsToLocals, Value.category]; done) | rfl
abbrev Q10_3_1 (Z : State) (a1 : Addr) (b : Addr) (h0 : Heap) (n0 : Nat) : Option Value → Heap → List Loc → Prop := (fun v h L => v = some (.int (3 : Int32)) ∧ Fr n0 L ∧ Keep h0 h [b] ∧ OA Z h b .int [(.int (0 : Int32)), (.int (3 : Int32)), (.int (3 : Int32)), (.int (3 : Int32))])
set_option maxRecDepth 65536 in
set_option maxHeartbeats 40000000 in
theorem rm10_3_1 (l : Launch) (Z : State) (a0 : Array Value) (hw : ∀ d ∈ tables_1, d.before a0 Z = true) (ws : List Jvm.Cond) (a1 : Addr) (b : Addr) (h0 : Heap) (n0 : Nat) (R0 : Fld Z h0 a1 "com/example/fragmark/fragmark/PhraseTerm" "free" "[I" (.ref b)) (R1 : OA Z h0 b .int [(.int (0 : Int32)), (.int (2 : Int32)), (.int (3 : Int32)), (.int (3 : Int32))]) (g_b : n0 ≤ b) (ne_a1_b : a1 ≠ b) :
    OMet l Z (⟨"com/example/fragmark/fragmark/PhraseTerm", "nextFree", "(I)I"⟩ : MethodName) prog_35_method_16_code 3 (some .int) ws ({ frames := 0, cells := 0, slots := 0, locals := 0 } : Room) #[(.ref a1), (.int (1 : Int32))] h0 (Q10_3_1 Z a1 b h0 n0) := by
  refine own_enter pn_10 ?_
  intro p e s m below meth c s₁ hx hby hml0 hown hret hlk hnm hZ X0 e0
  have hml : c.maxLocals = 3 := hml0
  have B : BX p c prog_35_method_16_code := ⟨hx, hby⟩
  have N0 := Fr.nil n0
  refine own_cast (ef_10_3_1 m a1) ?_
  show OG p e ({ frames := 0, cells := 0, slots := 0, locals := 0 } : Room) s below (fun v h L => v = some (.int (3 : Int32)) ∧ Fr n0 L ∧ Keep h0 h [b] ∧ OA Z h b .int [(.int (0 : Int32)), (.int (3 : Int32)), (.int (3 : Int32)), (.int (3 : Int32))]) s₁ (mkF m 0 #[.val (.ref a1), .val (.int (1 : Int32)), .unset] [])
  refine wiloadN OGc 1 X0 B d10_0 rfl rfl ?_
  refine wistoreN OGc 2 X0 B d10_1 #[.val (.ref a1), .val (.int (1 : Int32)), .val (.int (1 : Int32))] rfl rfl ?_
  refine waloadN OGc 3 X0 B d10_2 rfl rfl rfl ?_
  refine wgetF OGc 6 X0 B hZ hown (ow hw 61 rfl) e0 R0 d10_3 rfl fun T1 X1 e1 => ?_
  refine wiloadN OGc 7 X1 B d10_6 rfl rfl ?_
  refine wiaload OGc 8 X1 B hZ e1 R1 (v := (.int (2 : Int32))) 1 (by decide) (by decide) rfl d10_7 rfl ?_
  refine wiloadN OGc 9 X1 B d10_8 rfl rfl ?_
  refine wicmpNo OGc 12 X1 B d10_9 (by decide) rfl ?_
  refine waloadN OGc 13 X1 B d10_12 rfl rfl rfl ?_
  refine wgetF OGc 16 X1 B hZ hown (ow hw 61 rfl) e1 R0 d10_13 rfl fun T3 X3 e3 => ?_
  refine wiloadN OGc 17 X3 B d10_16 rfl rfl ?_
  refine waloadN OGc 18 X3 B d10_17 rfl rfl rfl ?_
  refine wgetF OGc 21 X3 B hZ hown (ow hw 61 rfl) e3 R0 d10_18 rfl fun T4 X4 e4 => ?_
  refine waloadN OGc 22 X4 B d10_21 rfl rfl rfl ?_
  refine wgetF OGc 25 X4 B hZ hown (ow hw 61 rfl) e4 R0 d10_22 rfl fun T5 X5 e5 => ?_
  refine wiloadN OGc 26 X5 B d10_25 rfl rfl ?_
  refine wiaload OGc 27 X5 B hZ e5 R1 (v := (.int (2 : Int32))) 1 (by decide) (by decide) rfl d10_26 rfl ?_
  refine wiaload OGc 28 X5 B hZ e5 R1 (v := (.int (3 : Int32))) 2 (by decide) (by decide) rfl d10_27 rfl ?_
  refine wstI OGc 29 X5 B hZ e5 R1 1 (by decide) (by decide) (by decide : 1 < 4) d10_28 rfl fun T8 h8 X8 e8 W8 => ?_
  have N8 := Fr.snoc X8 N0 g_b
  have K9 := (Keep.refl h0 [b]).wr W8 (Or.inl (List.mem_of_getElem? (i := 0) rfl))
  have F10 := R0.other W8 (Or.inl ne_a1_b)
  have F11 : OA Z h8 b .int [(.int (0 : Int32)), (.int (3 : Int32)), (.int (3 : Int32)), (.int (3 : Int32))] := (R1.set W8 (i := 1) (by decide))
  refine waloadN OGc 30 X8 B d10_29 rfl rfl rfl ?_
  refine wgetF OGc 33 X8 B hZ hown (ow hw 61 rfl) e8 F10 d10_30 rfl fun T12 X12 e12 => ?_
  refine wiloadN OGc 34 X12 B d10_33 rfl rfl ?_
  refine wiaload OGc 35 X12 B hZ e12 F11 (v := (.int (3 : Int32))) 1 (by decide) (by decide) rfl d10_34 rfl ?_
  refine wistoreN OGc 36 X12 B d10_35 #[.val (.ref a1), .val (.int (1 : Int32)), .val (.int (3 : Int32))] rfl rfl ?_
  refine wgoto OGc 2 X12 B d10_36 rfl ?_
  refine waloadN OGc 3 X12 B d10_2 rfl rfl rfl ?_
  refine wgetF OGc 6 X12 B hZ hown (ow hw 61 rfl) e12 F10 d10_3 rfl fun T14 X14 e14 => ?_
  refine wiloadN OGc 7 X14 B d10_6 rfl rfl ?_
  refine wiaload OGc 8 X14 B hZ e14 F11 (v := (.int (3 : Int32))) 3 (by decide) (by decide) rfl d10_7 rfl ?_
  refine wiloadN OGc 9 X14 B d10_8 rfl rfl ?_
  refine wicmpYes OGc 39 X14 B d10_9 (by decide) rfl ?_
  refine wiloadN OGc 40 X14 B d10_39 rfl rfl ?_
  refine own_retI X14 hx hret hlk (hb hby d10_40) (by decide) (by decide) ?_
  rw [e14]
  exact ⟨rfl, N8, K9, F11⟩
theorem ef_10_3_2 (m : MethodId) (a1 : Addr) : entryFrame m #[(.ref a1), (.int (2 : Int32))] 3 = (mkF m 0 #[.val (.ref a1), .val (.int (2 : Int32)), .unset] []) := by first | (simp [entryFrame, mkF, argsToLocals, Value.category]; done) | rfl
abbrev Q10_3_2 (Z : State) (a1 : Addr) (b : Addr) (h0 : Heap) (n0 : Nat) : Option Value → Heap → List Loc → Prop := (fun v h L => v = some (.int (3 : Int32)) ∧ Fr n0 L ∧ Keep h0 h [b] ∧ OA Z h b .int [(.int (0 : Int32)), (.int (2 : Int32)), (.int (3 : Int32)), (.int (3 : Int32))])
set_option maxRecDepth 65536 in
set_option maxHeartbeats 40000000 in
theorem rm10_3_2 (l : Launch) (Z : State) (a0 : Array Value) (hw : ∀ d ∈ tables_1, d.before a0 Z = true) (ws : List Jvm.Cond) (a1 : Addr) (b : Addr) (h0 : Heap) (n0 : Nat) (R0 : Fld Z h0 a1 "com/example/fragmark/fragmark/PhraseTerm" "free" "[I" (.ref b)) (R1 : OA Z h0 b .int [(.int (0 : Int32)), (.int (2 : Int32)), (.int (3 : Int32)), (.int (3 : Int32))]) (g_b : n0 ≤ b) (ne_a1_b : a1 ≠ b) :
    OMet l Z (⟨"com/example/fragmark/fragmark/PhraseTerm", "nextFree", "(I)I"⟩ : MethodName) prog_35_method_16_code 3 (some .int) ws ({ frames := 0, cells := 0, slots := 0, locals := 0 } : Room) #[(.ref a1), (.int (2 : Int32))] h0 (Q10_3_2 Z a1 b h0 n0) := by
  refine own_enter pn_10 ?_
  intro p e s m below meth c s₁ hx hby hml0 hown hret hlk hnm hZ X0 e0
  have hml : c.maxLocals = 3 := hml0
  have B : BX p c prog_35_method_16_code := ⟨hx, hby⟩
  have N0 := Fr.nil n0
  refine own_cast (ef_10_3_2 m a1) ?_
  show OG p e ({ frames := 0, cells := 0, slots := 0, locals := 0 } : Room) s below (fun v h L => v = some (.int (3 : Int32)) ∧ Fr n0 L ∧ Keep h0 h [b] ∧ OA Z h b .int [(.int (0 : Int32)), (.int (2 : Int32)), (.int (3 : Int32)), (.int (3 : Int32))]) s₁ (mkF m 0 #[.val (.ref a1), .val (.int (2 : Int32)), .unset] [])
  refine wiloadN OGc 1 X0 B d10_0 rfl rfl ?_
  refine wistoreN OGc 2 X0 B d10_1 #[.val (.ref a1), .val (.int (2 : Int32)), .val (.int (2 : Int32))] rfl rfl ?_
  refine waloadN OGc 3 X0 B d10_2 rfl rfl rfl ?_
  refine wgetF OGc 6 X0 B hZ hown (ow hw 61 rfl) e0 R0 d10_3 rfl fun T1 X1 e1 => ?_
  refine wiloadN OGc 7 X1 B d10_6 rfl rfl ?_
  refine wiaload OGc 8 X1 B hZ e1 R1 (v := (.int (3 : Int32))) 2 (by decide) (by decide) rfl d10_7 rfl ?_
  refine wiloadN OGc 9 X1 B d10_8 rfl rfl ?_
  refine wicmpNo OGc 12 X1 B d10_9 (by decide) rfl ?_
  refine waloadN OGc 13 X1 B d10_12 rfl rfl rfl ?_
  refine wgetF OGc 16 X1 B hZ hown (ow hw 61 rfl) e1 R0 d10_13 rfl fun T3 X3 e3 => ?_
  refine wiloadN OGc 17 X3 B d10_16 rfl rfl ?_
  refine waloadN OGc 18 X3 B d10_17 rfl rfl rfl ?_
  refine wgetF OGc 21 X3 B hZ hown (ow hw 61 rfl) e3 R0 d10_18 rfl fun T4 X4 e4 => ?_
  refine waloadN OGc 22 X4 B d10_21 rfl rfl rfl ?_
  refine wgetF OGc 25 X4 B hZ hown (ow hw 61 rfl) e4 R0 d10_22 rfl fun T5 X5 e5 => ?_
  refine wiloadN OGc 26 X5 B d10_25 rfl rfl ?_
  refine wiaload OGc 27 X5 B hZ e5 R1 (v := (.int (3 : Int32))) 2 (by decide) (by decide) rfl d10_26 rfl ?_
  refine wiaload OGc 28 X5 B hZ e5 R1 (v := (.int (3 : Int32))) 3 (by decide) (by decide) rfl d10_27 rfl ?_
  refine wstI OGc 29 X5 B hZ e5 R1 2 (by decide) (by decide) (by decide : 2 < 4) d10_28 rfl fun T8 h8 X8 e8 W8 => ?_
  have N8 := Fr.snoc X8 N0 g_b
  have K9 := (Keep.refl h0 [b]).wr W8 (Or.inl (List.mem_of_getElem? (i := 0) rfl))
  have F10 := R0.other W8 (Or.inl ne_a1_b)
  have F11 : OA Z h8 b .int [(.int (0 : Int32)), (.int (2 : Int32)), (.int (3 : Int32)), (.int (3 : Int32))] := (R1.set W8 (i := 2) (by decide))
  refine waloadN OGc 30 X8 B d10_29 rfl rfl rfl ?_
  refine wgetF OGc 33 X8 B hZ hown (ow hw 61 rfl) e8 F10 d10_30 rfl fun T12 X12 e12 => ?_
  refine wiloadN OGc 34 X12 B d10_33 rfl rfl ?_
  refine wiaload OGc 35 X12 B hZ e12 F11 (v := (.int (3 : Int32))) 2 (by decide) (by decide) rfl d10_34 rfl ?_
  refine wistoreN OGc 36 X12 B d10_35 #[.val (.ref a1), .val (.int (2 : Int32)), .val (.int (3 : Int32))] rfl rfl ?_
  refine wgoto OGc 2 X12 B d10_36 rfl ?_
  refine waloadN OGc 3 X12 B d10_2 rfl rfl rfl ?_
  refine wgetF OGc 6 X12 B hZ hown (ow hw 61 rfl) e12 F10 d10_3 rfl fun T14 X14 e14 => ?_
  refine wiloadN OGc 7 X14 B d10_6 rfl rfl ?_
  refine wiaload OGc 8 X14 B hZ e14 F11 (v := (.int (3 : Int32))) 3 (by decide) (by decide) rfl d10_7 rfl ?_
  refine wiloadN OGc 9 X14 B d10_8 rfl rfl ?_
  refine wicmpYes OGc 39 X14 B d10_9 (by decide) rfl ?_
  refine wiloadN OGc 40 X14 B d10_39 rfl rfl ?_
  refine own_retI X14 hx hret hlk (hb hby d10_40) (by decide) (by decide) ?_
  rw [e14]
  exact ⟨rfl, N8, K9, F11⟩
theorem ef_10_3_3 (m : MethodId) (a1 : Addr) : entryFrame m #[(.ref a1), (.int (3 : Int32))] 3 = (mkF m 0 #[.val (.ref a1), .val (.int (3 : Int32)), .unset] []) := by first | (simp [entryFrame, mkF, argsToLocals, Value.category]; done) | rfl
abbrev Q10_3_3 (Z : State) (a1 : Addr) (b : Addr) (h0 : Heap) (n0 : Nat) : Option Value → Heap → List Loc → Prop := (fun v h L => v = some (.int (3 : Int32)) ∧ Fr n0 L ∧ Keep h0 h [b] ∧ OA Z h b .int [(.int (0 : Int32)), (.int (2 : Int32)), (.int (3 : Int32)), (.int (3 : Int32))])
set_option maxRecDepth 65536 in
set_option maxHeartbeats 40000000 in
theorem rm10_3_3 (l : Launch) (Z : State) (a0 : Array Value) (hw : ∀ d ∈ tables_1, d.before a0 Z = true) (ws : List Jvm.Cond) (a1 : Addr) (b : Addr) (h0 : Heap) (n0 : Nat) (R0 : Fld Z h0 a1 "com/example/fragmark/fragmark/PhraseTerm" "free" "[I" (.ref b)) (R1 : OA Z h0 b .int [(.int (0 : Int32)), (.int (2 : Int32)), (.int (3 : Int32)), (.int (3 : Int32))]) (g_b : n0 ≤ b) (ne_a1_b : a1 ≠ b) :
    OMet l Z (⟨"com/example/fragmark/fragmark/PhraseTerm", "nextFree", "(I)I"⟩ : MethodName) prog_35_method_16_code 3 (some .int) ws ({ frames := 0, cells := 0, slots := 0, locals := 0 } : Room) #[(.ref a1), (.int (3 : Int32))] h0 (Q10_3_3 Z a1 b h0 n0) := by
  refine own_enter pn_10 ?_
  intro p e s m below meth c s₁ hx hby hml0 hown hret hlk hnm hZ X0 e0
  have hml : c.maxLocals = 3 := hml0
  have B : BX p c prog_35_method_16_code := ⟨hx, hby⟩
  have N0 := Fr.nil n0
  refine own_cast (ef_10_3_3 m a1) ?_
  show OG p e ({ frames := 0, cells := 0, slots := 0, locals := 0 } : Room) s below (fun v h L => v = some (.int (3 : Int32)) ∧ Fr n0 L ∧ Keep h0 h [b] ∧ OA Z h b .int [(.int (0 : Int32)), (.int (2 : Int32)), (.int (3 : Int32)), (.int (3 : Int32))]) s₁ (mkF m 0 #[.val (.ref a1), .val (.int (3 : Int32)), .unset] [])
  refine wiloadN OGc 1 X0 B d10_0 rfl rfl ?_
  refine wistoreN OGc 2 X0 B d10_1 #[.val (.ref a1), .val (.int (3 : Int32)), .val (.int (3 : Int32))] rfl rfl ?_
  refine waloadN OGc 3 X0 B d10_2 rfl rfl rfl ?_
  refine wgetF OGc 6 X0 B hZ hown (ow hw 61 rfl) e0 R0 d10_3 rfl fun T1 X1 e1 => ?_
  refine wiloadN OGc 7 X1 B d10_6 rfl rfl ?_
  refine wiaload OGc 8 X1 B hZ e1 R1 (v := (.int (3 : Int32))) 3 (by decide) (by decide) rfl d10_7 rfl ?_
  refine wiloadN OGc 9 X1 B d10_8 rfl rfl ?_
  refine wicmpYes OGc 39 X1 B d10_9 (by decide) rfl ?_
  refine wiloadN OGc 40 X1 B d10_39 rfl rfl ?_
  refine own_retI X1 hx hret hlk (hb hby d10_40) (by decide) (by decide) ?_
  rw [e1]
  exact ⟨rfl, N0, (Keep.refl h0 [b]), R1⟩
theorem ef_10_4_0 (m : MethodId) (a1 : Addr) : entryFrame m #[(.ref a1), (.int (0 : Int32))] 3 = (mkF m 0 #[.val (.ref a1), .val (.int (0 : Int32)), .unset] []) := by first | (simp [entryFrame, mkF, argsToLocals, Value.category]; done) | rfl
abbrev Q10_4_0 (Z : State) (a1 : Addr) (b : Addr) (h0 : Heap) (n0 : Nat) : Option Value → Heap → List Loc → Prop := (fun v h L => v = some (.int (0 : Int32)) ∧ Fr n0 L ∧ Keep h0 h [b] ∧ OA Z h b .int [(.int (0 : Int32)), (.int (3 : Int32)), (.int (3 : Int32)), (.int (3 : Int32))])
set_option maxRecDepth 65536 in
set_option maxHeartbeats 40000000 in
theorem rm10_4_0 (l : Launch) (Z : State) (a0 : Array Value) (hw : ∀ d ∈ tables_1, d.before a0 Z = true) (ws : List Jvm.Cond) (a1 : Addr) (b : Addr) (h0 : Heap) (n0 : Nat) (R0 : Fld Z h0 a1 "com/example/fragmark/fragmark/PhraseTerm" "free" "[I" (.ref b)) (R1 : OA Z h0 b .int [(.int (0 : Int32)), (.int (3 : Int32)), (.int (3 : Int32)), (.int (3 : Int32))]) (g_b : n0 ≤ b) (ne_a1_b : a1 ≠ b) :
    OMet l Z (⟨"com/example/fragmark/fragmark/PhraseTerm", "nextFree", "(I)I"⟩ : MethodName) prog_35_method_16_code 3 (some .int) ws ({ frames := 0, cells := 0, slots := 0, locals := 0 } : Room) #[(.ref a1), (.int (0 : Int32))] h0 (Q10_4_0 Z a1 b h0 n0) := by
  refine own_enter pn_10 ?_
  intro p e s m below meth c s₁ hx hby hml0 hown hret hlk hnm hZ X0 e0
  have hml : c.maxLocals = 3 := hml0
  have B : BX p c prog_35_method_16_code := ⟨hx, hby⟩
  have N0 := Fr.nil n0
  refine own_cast (ef_10_4_0 m a1) ?_
  show OG p e ({ frames := 0, cells := 0, slots := 0, locals := 0 } : Room) s below (fun v h L => v = some (.int (0 : Int32)) ∧ Fr n0 L ∧ Keep h0 h [b] ∧ OA Z h b .int [(.int (0 : Int32)), (.int (3 : Int32)), (.int (3 : Int32)), (.int (3 : Int32))]) s₁ (mkF m 0 #[.val (.ref a1), .val (.int (0 : Int32)), .unset] [])
  refine wiloadN OGc 1 X0 B d10_0 rfl rfl ?_
  refine wistoreN OGc 2 X0 B d10_1 #[.val (.ref a1), .val (.int (0 : Int32)), .val (.int (0 : Int32))] rfl rfl ?_
  refine waloadN OGc 3 X0 B d10_2 rfl rfl rfl ?_
  refine wgetF OGc 6 X0 B hZ hown (ow hw 61 rfl) e0 R0 d10_3 rfl fun T1 X1 e1 => ?_
  refine wiloadN OGc 7 X1 B d10_6 rfl rfl ?_
  refine wiaload OGc 8 X1 B hZ e1 R1 (v := (.int (0 : Int32))) 0 (by decide) (by decide) rfl d10_7 rfl ?_
  refine wiloadN OGc 9 X1 B d10_8 rfl rfl ?_
  refine wicmpYes OGc 39 X1 B d10_9 (by decide) rfl ?_
  refine wiloadN OGc 40 X1 B d10_39 rfl rfl ?_
  refine own_retI X1 hx hret hlk (hb hby d10_40) (by decide) (by decide) ?_
  rw [e1]
  exact ⟨rfl, N0, (Keep.refl h0 [b]), R1⟩
theorem ef_10_4_1 (m : MethodId) (a1 : Addr) : entryFrame m #[(.ref a1), (.int (1 : Int32))] 3 = (mkF m 0 #[.val (.ref a1), .val (.int (1 : Int32)), .unset] []) := by first | (simp [entryFrame, mkF, argsToLocals, Value.category]; done) | rfl
abbrev Q10_4_1 (Z : State) (a1 : Addr) (b : Addr) (h0 : Heap) (n0 : Nat) : Option Value → Heap → List Loc → Prop := (fun v h L => v = some (.int (3 : Int32)) ∧ Fr n0 L ∧ Keep h0 h [b] ∧ OA Z h b .int [(.int (0 : Int32)), (.int (3 : Int32)), (.int (3 : Int32)), (.int (3 : Int32))])
set_option maxRecDepth 65536 in
set_option maxHeartbeats 40000000 in
theorem rm10_4_1 (l : Launch) (Z : State) (a0 : Array Value) (hw : ∀ d ∈ tables_1, d.before a0 Z = true) (ws : List Jvm.Cond) (a1 : Addr) (b : Addr) (h0 : Heap) (n0 : Nat) (R0 : Fld Z h0 a1 "com/example/fragmark/fragmark/PhraseTerm" "free" "[I" (.ref b)) (R1 : OA Z h0 b .int [(.int (0 : Int32)), (.int (3 : Int32)), (.int (3 : Int32)), (.int (3 : Int32))]) (g_b : n0 ≤ b) (ne_a1_b : a1 ≠ b) :
    OMet l Z (⟨"com/example/fragmark/fragmark/PhraseTerm", "nextFree", "(I)I"⟩ : MethodName) prog_35_method_16_code 3 (some .int) ws ({ frames := 0, cells := 0, slots := 0, locals := 0 } : Room) #[(.ref a1), (.int (1 : Int32))] h0 (Q10_4_1 Z a1 b h0 n0) := by
  refine own_enter pn_10 ?_
  intro p e s m below meth c s₁ hx hby hml0 hown hret hlk hnm hZ X0 e0
  have hml : c.maxLocals = 3 := hml0
  have B : BX p c prog_35_method_16_code := ⟨hx, hby⟩
  have N0 := Fr.nil n0
  refine own_cast (ef_10_4_1 m a1) ?_
  show OG p e ({ frames := 0, cells := 0, slots := 0, locals := 0 } : Room) s below (fun v h L => v = some (.int (3 : Int32)) ∧ Fr n0 L ∧ Keep h0 h [b] ∧ OA Z h b .int [(.int (0 : Int32)), (.int (3 : Int32)), (.int (3 : Int32)), (.int (3 : Int32))]) s₁ (mkF m 0 #[.val (.ref a1), .val (.int (1 : Int32)), .unset] [])
  refine wiloadN OGc 1 X0 B d10_0 rfl rfl ?_
  refine wistoreN OGc 2 X0 B d10_1 #[.val (.ref a1), .val (.int (1 : Int32)), .val (.int (1 : Int32))] rfl rfl ?_
  refine waloadN OGc 3 X0 B d10_2 rfl rfl rfl ?_
  refine wgetF OGc 6 X0 B hZ hown (ow hw 61 rfl) e0 R0 d10_3 rfl fun T1 X1 e1 => ?_
  refine wiloadN OGc 7 X1 B d10_6 rfl rfl ?_
  refine wiaload OGc 8 X1 B hZ e1 R1 (v := (.int (3 : Int32))) 1 (by decide) (by decide) rfl d10_7 rfl ?_
  refine wiloadN OGc 9 X1 B d10_8 rfl rfl ?_
  refine wicmpNo OGc 12 X1 B d10_9 (by decide) rfl ?_
  refine waloadN OGc 13 X1 B d10_12 rfl rfl rfl ?_
  refine wgetF OGc 16 X1 B hZ hown (ow hw 61 rfl) e1 R0 d10_13 rfl fun T3 X3 e3 => ?_
  refine wiloadN OGc 17 X3 B d10_16 rfl rfl ?_
  refine waloadN OGc 18 X3 B d10_17 rfl rfl rfl ?_
  refine wgetF OGc 21 X3 B hZ hown (ow hw 61 rfl) e3 R0 d10_18 rfl fun T4 X4 e4 => ?_
  refine waloadN OGc 22 X4 B d10_21 rfl rfl rfl ?_
  refine wgetF OGc 25 X4 B hZ hown (ow hw 61 rfl) e4 R0 d10_22 rfl fun T5 X5 e5 => ?_
  refine wiloadN OGc 26 X5 B d10_25 rfl rfl ?_
  refine wiaload OGc 27 X5 B hZ e5 R1 (v := (.int (3 : Int32))) 1 (by decide) (by decide) rfl d10_26 rfl ?_
  refine wiaload OGc 28 X5 B hZ e5 R1 (v := (.int (3 : Int32))) 3 (by decide) (by decide) rfl d10_27 rfl ?_
  refine wstI OGc 29 X5 B hZ e5 R1 1 (by decide) (by decide) (by decide : 1 < 4) d10_28 rfl fun T8 h8 X8 e8 W8 => ?_
  have N8 := Fr.snoc X8 N0 g_b
  have K9 := (Keep.refl h0 [b]).wr W8 (Or.inl (List.mem_of_getElem? (i := 0) rfl))
  have F10 := R0.other W8 (Or.inl ne_a1_b)
  have F11 : OA Z h8 b .int [(.int (0 : Int32)), (.int (3 : Int32)), (.int (3 : Int32)), (.int (3 : Int32))] := (R1.set W8 (i := 1) (by decide))
  refine waloadN OGc 30 X8 B d10_29 rfl rfl rfl ?_
  refine wgetF OGc 33 X8 B hZ hown (ow hw 61 rfl) e8 F10 d10_30 rfl fun T12 X12 e12 => ?_
  refine wiloadN OGc 34 X12 B d10_33 rfl rfl ?_
  refine wiaload OGc 35 X12 B hZ e12 F11 (v := (.int (3 : Int32))) 1 (by decide) (by decide) rfl d10_34 rfl ?_
  refine wistoreN OGc 36 X12 B d10_35 #[.val (.ref a1), .val (.int (1 : Int32)), .val (.int (3 : Int32))] rfl rfl ?_
  refine wgoto OGc 2 X12 B d10_36 rfl ?_
  refine waloadN OGc 3 X12 B d10_2 rfl rfl rfl ?_
  refine wgetF OGc 6 X12 B hZ hown (ow hw 61 rfl) e12 F10 d10_3 rfl fun T14 X14 e14 => ?_
  refine wiloadN OGc 7 X14 B d10_6 rfl rfl ?_
  refine wiaload OGc 8 X14 B hZ e14 F11 (v := (.int (3 : Int32))) 3 (by decide) (by decide) rfl d10_7 rfl ?_
  refine wiloadN OGc 9 X14 B d10_8 rfl rfl ?_
  refine wicmpYes OGc 39 X14 B d10_9 (by decide) rfl ?_
  refine wiloadN OGc 40 X14 B d10_39 rfl rfl ?_
  refine own_retI X14 hx hret hlk (hb hby d10_40) (by decide) (by decide) ?_
  rw [e14]
  exact ⟨rfl, N8, K9, F11⟩
theorem ef_10_4_2 (m : MethodId) (a1 : Addr) : entryFrame m #[(.ref a1), (.int (2 : Int32))] 3 = (mkF m 0 #[.val (.ref a1), .val (.int (2 : Int32)), .unset] []) := by first | (simp [entryFrame, mkF, argsToLocals, Value.category]; done) | rfl
abbrev Q10_4_2 (Z : State) (a1 : Addr) (b : Addr) (h0 : Heap) (n0 : Nat) : Option Value → Heap → List Loc → Prop := (fun v h L => v = some (.int (3 : Int32)) ∧ Fr n0 L ∧ Keep h0 h [b] ∧ OA Z h b .int [(.int (0 : Int32)), (.int (3 : Int32)), (.int (3 : Int32)), (.int (3 : Int32))])
set_option maxRecDepth 65536 in
set_option maxHeartbeats 40000000 in
theorem rm10_4_2 (l : Launch) (Z : State) (a0 : Array Value) (hw : ∀ d ∈ tables_1, d.before a0 Z = true) (ws : List Jvm.Cond) (a1 : Addr) (b : Addr) (h0 : Heap) (n0 : Nat) (R0 : Fld Z h0 a1 "com/example/fragmark/fragmark/PhraseTerm" "free" "[I" (.ref b)) (R1 : OA Z h0 b .int [(.int (0 : Int32)), (.int (3 : Int32)), (.int (3 : Int32)), (.int (3 : Int32))]) (g_b : n0 ≤ b) (ne_a1_b : a1 ≠ b) :
    OMet l Z (⟨"com/example/fragmark/fragmark/PhraseTerm", "nextFree", "(I)I"⟩ : MethodName) prog_35_method_16_code 3 (some .int) ws ({ frames := 0, cells := 0, slots := 0, locals := 0 } : Room) #[(.ref a1), (.int (2 : Int32))] h0 (Q10_4_2 Z a1 b h0 n0) := by
  refine own_enter pn_10 ?_
  intro p e s m below meth c s₁ hx hby hml0 hown hret hlk hnm hZ X0 e0
  have hml : c.maxLocals = 3 := hml0
  have B : BX p c prog_35_method_16_code := ⟨hx, hby⟩
  have N0 := Fr.nil n0
  refine own_cast (ef_10_4_2 m a1) ?_
  show OG p e ({ frames := 0, cells := 0, slots := 0, locals := 0 } : Room) s below (fun v h L => v = some (.int (3 : Int32)) ∧ Fr n0 L ∧ Keep h0 h [b] ∧ OA Z h b .int [(.int (0 : Int32)), (.int (3 : Int32)), (.int (3 : Int32)), (.int (3 : Int32))]) s₁ (mkF m 0 #[.val (.ref a1), .val (.int (2 : Int32)), .unset] [])
  refine wiloadN OGc 1 X0 B d10_0 rfl rfl ?_
  refine wistoreN OGc 2 X0 B d10_1 #[.val (.ref a1), .val (.int (2 : Int32)), .val (.int (2 : Int32))] rfl rfl ?_
  refine waloadN OGc 3 X0 B d10_2 rfl rfl rfl ?_
  refine wgetF OGc 6 X0 B hZ hown (ow hw 61 rfl) e0 R0 d10_3 rfl fun T1 X1 e1 => ?_
  refine wiloadN OGc 7 X1 B d10_6 rfl rfl ?_
  refine wiaload OGc 8 X1 B hZ e1 R1 (v := (.int (3 : Int32))) 2 (by decide) (by decide) rfl d10_7 rfl ?_
  refine wiloadN OGc 9 X1 B d10_8 rfl rfl ?_
  refine wicmpNo OGc 12 X1 B d10_9 (by decide) rfl ?_
  refine waloadN OGc 13 X1 B d10_12 rfl rfl rfl ?_
  refine wgetF OGc 16 X1 B hZ hown (ow hw 61 rfl) e1 R0 d10_13 rfl fun T3 X3 e3 => ?_
  refine wiloadN OGc 17 X3 B d10_16 rfl rfl ?_
  refine waloadN OGc 18 X3 B d10_17 rfl rfl rfl ?_
  refine wgetF OGc 21 X3 B hZ hown (ow hw 61 rfl) e3 R0 d10_18 rfl fun T4 X4 e4 => ?_
  refine waloadN OGc 22 X4 B d10_21 rfl rfl rfl ?_
  refine wgetF OGc 25 X4 B hZ hown (ow hw 61 rfl) e4 R0 d10_22 rfl fun T5 X5 e5 => ?_
  refine wiloadN OGc 26 X5 B d10_25 rfl rfl ?_
  refine wiaload OGc 27 X5 B hZ e5 R1 (v := (.int (3 : Int32))) 2 (by decide) (by decide) rfl d10_26 rfl ?_
  refine wiaload OGc 28 X5 B hZ e5 R1 (v := (.int (3 : Int32))) 3 (by decide) (by decide) rfl d10_27 rfl ?_
  refine wstI OGc 29 X5 B hZ e5 R1 2 (by decide) (by decide) (by decide : 2 < 4) d10_28 rfl fun T8 h8 X8 e8 W8 => ?_
  have N8 := Fr.snoc X8 N0 g_b
  have K9 := (Keep.refl h0 [b]).wr W8 (Or.inl (List.mem_of_getElem? (i := 0) rfl))
  have F10 := R0.other W8 (Or.inl ne_a1_b)
  have F11 : OA Z h8 b .int [(.int (0 : Int32)), (.int (3 : Int32)), (.int (3 : Int32)), (.int (3 : Int32))] := (R1.set W8 (i := 2) (by decide))
  refine waloadN OGc 30 X8 B d10_29 rfl rfl rfl ?_
  refine wgetF OGc 33 X8 B hZ hown (ow hw 61 rfl) e8 F10 d10_30 rfl fun T12 X12 e12 => ?_
  refine wiloadN OGc 34 X12 B d10_33 rfl rfl ?_
  refine wiaload OGc 35 X12 B hZ e12 F11 (v := (.int (3 : Int32))) 2 (by decide) (by decide) rfl d10_34 rfl ?_
  refine wistoreN OGc 36 X12 B d10_35 #[.val (.ref a1), .val (.int (2 : Int32)), .val (.int (3 : Int32))] rfl rfl ?_
  refine wgoto OGc 2 X12 B d10_36 rfl ?_
  refine waloadN OGc 3 X12 B d10_2 rfl rfl rfl ?_
  refine wgetF OGc 6 X12 B hZ hown (ow hw 61 rfl) e12 F10 d10_3 rfl fun T14 X14 e14 => ?_
  refine wiloadN OGc 7 X14 B d10_6 rfl rfl ?_
  refine wiaload OGc 8 X14 B hZ e14 F11 (v := (.int (3 : Int32))) 3 (by decide) (by decide) rfl d10_7 rfl ?_
  refine wiloadN OGc 9 X14 B d10_8 rfl rfl ?_
  refine wicmpYes OGc 39 X14 B d10_9 (by decide) rfl ?_
  refine wiloadN OGc 40 X14 B d10_39 rfl rfl ?_
  refine own_retI X14 hx hret hlk (hb hby d10_40) (by decide) (by decide) ?_
  rw [e14]
  exact ⟨rfl, N8, K9, F11⟩
theorem ef_10_4_3 (m : MethodId) (a1 : Addr) : entryFrame m #[(.ref a1), (.int (3 : Int32))] 3 = (mkF m 0 #[.val (.ref a1), .val (.int (3 : Int32)), .unset] []) := by first | (simp [entryFrame, mkF, argsToLocals, Value.category]; done) | rfl
abbrev Q10_4_3 (Z : State) (a1 : Addr) (b : Addr) (h0 : Heap) (n0 : Nat) : Option Value → Heap → List Loc → Prop := (fun v h L => v = some (.int (3 : Int32)) ∧ Fr n0 L ∧ Keep h0 h [b] ∧ OA Z h b .int [(.int (0 : Int32)), (.int (3 : Int32)), (.int (3 : Int32)), (.int (3 : Int32))])
set_option maxRecDepth 65536 in
set_option maxHeartbeats 40000000 in
theorem rm10_4_3 (l : Launch) (Z : State) (a0 : Array Value) (hw : ∀ d ∈ tables_1, d.before a0 Z = true) (ws : List Jvm.Cond) (a1 : Addr) (b : Addr) (h0 : Heap) (n0 : Nat) (R0 : Fld Z h0 a1 "com/example/fragmark/fragmark/PhraseTerm" "free" "[I" (.ref b)) (R1 : OA Z h0 b .int [(.int (0 : Int32)), (.int (3 : Int32)), (.int (3 : Int32)), (.int (3 : Int32))]) (g_b : n0 ≤ b) (ne_a1_b : a1 ≠ b) :
    OMet l Z (⟨"com/example/fragmark/fragmark/PhraseTerm", "nextFree", "(I)I"⟩ : MethodName) prog_35_method_16_code 3 (some .int) ws ({ frames := 0, cells := 0, slots := 0, locals := 0 } : Room) #[(.ref a1), (.int (3 : Int32))] h0 (Q10_4_3 Z a1 b h0 n0) := by
  refine own_enter pn_10 ?_
  intro p e s m below meth c s₁ hx hby hml0 hown hret hlk hnm hZ X0 e0
  have hml : c.maxLocals = 3 := hml0
  have B : BX p c prog_35_method_16_code := ⟨hx, hby⟩
  have N0 := Fr.nil n0
  refine own_cast (ef_10_4_3 m a1) ?_
  show OG p e ({ frames := 0, cells := 0, slots := 0, locals := 0 } : Room) s below (fun v h L => v = some (.int (3 : Int32)) ∧ Fr n0 L ∧ Keep h0 h [b] ∧ OA Z h b .int [(.int (0 : Int32)), (.int (3 : Int32)), (.int (3 : Int32)), (.int (3 : Int32))]) s₁ (mkF m 0 #[.val (.ref a1), .val (.int (3 : Int32)), .unset] [])
  refine wiloadN OGc 1 X0 B d10_0 rfl rfl ?_
  refine wistoreN OGc 2 X0 B d10_1 #[.val (.ref a1), .val (.int (3 : Int32)), .val (.int (3 : Int32))] rfl rfl ?_
  refine waloadN OGc 3 X0 B d10_2 rfl rfl rfl ?_
  refine wgetF OGc 6 X0 B hZ hown (ow hw 61 rfl) e0 R0 d10_3 rfl fun T1 X1 e1 => ?_
  refine wiloadN OGc 7 X1 B d10_6 rfl rfl ?_
  refine wiaload OGc 8 X1 B hZ e1 R1 (v := (.int (3 : Int32))) 3 (by decide) (by decide) rfl d10_7 rfl ?_
  refine wiloadN OGc 9 X1 B d10_8 rfl rfl ?_
  refine wicmpYes OGc 39 X1 B d10_9 (by decide) rfl ?_
  refine wiloadN OGc 40 X1 B d10_39 rfl rfl ?_
  refine own_retI X1 hx hret hlk (hb hby d10_40) (by decide) (by decide) ?_
  rw [e1]
  exact ⟨rfl, N0, (Keep.refl h0 [b]), R1⟩
theorem ef_10_5_0 (m : MethodId) (a1 : Addr) : entryFrame m #[(.ref a1), (.int (0 : Int32))] 3 = (mkF m 0 #[.val (.ref a1), .val (.int (0 : Int32)), .unset] []) := by first | (simp [entryFrame, mkF, argsToLocals, Value.category]; done) | rfl
abbrev Q10_5_0 (Z : State) (a1 : Addr) (b : Addr) (h0 : Heap) (n0 : Nat) : Option Value → Heap → List Loc → Prop := (fun v h L => v = some (.int (1 : Int32)) ∧ Fr n0 L ∧ Keep h0 h [b] ∧ OA Z h b .int [(.int (1 : Int32)), (.int (1 : Int32)), (.int (2 : Int32)), (.int (3 : Int32))])
set_option maxRecDepth 65536 in
set_option maxHeartbeats 40000000 in
theorem rm10_5_0 (l : Launch) (Z : State) (a0 : Array Value) (hw : ∀ d ∈ tables_1, d.before a0 Z = true) (ws : List Jvm.Cond) (a1 : Addr) (b : Addr) (h0 : Heap) (n0 : Nat) (R0 : Fld Z h0 a1 "com/example/fragmark/fragmark/PhraseTerm" "free" "[I" (.ref b)) (R1 : OA Z h0 b .int [(.int (1 : Int32)), (.int (1 : Int32)), (.int (2 : Int32)), (.int (3 : Int32))]) (g_b : n0 ≤ b) (ne_a1_b : a1 ≠ b) :
    OMet l Z (⟨"com/example/fragmark/fragmark/PhraseTerm", "nextFree", "(I)I"⟩ : MethodName) prog_35_method_16_code 3 (some .int) ws ({ frames := 0, cells := 0, slots := 0, locals := 0 } : Room) #[(.ref a1), (.int (0 : Int32))] h0 (Q10_5_0 Z a1 b h0 n0) := by
  refine own_enter pn_10 ?_
  intro p e s m below meth c s₁ hx hby hml0 hown hret hlk hnm hZ X0 e0
  have hml : c.maxLocals = 3 := hml0
  have B : BX p c prog_35_method_16_code := ⟨hx, hby⟩
  have N0 := Fr.nil n0
  refine own_cast (ef_10_5_0 m a1) ?_
  show OG p e ({ frames := 0, cells := 0, slots := 0, locals := 0 } : Room) s below (fun v h L => v = some (.int (1 : Int32)) ∧ Fr n0 L ∧ Keep h0 h [b] ∧ OA Z h b .int [(.int (1 : Int32)), (.int (1 : Int32)), (.int (2 : Int32)), (.int (3 : Int32))]) s₁ (mkF m 0 #[.val (.ref a1), .val (.int (0 : Int32)), .unset] [])
  refine wiloadN OGc 1 X0 B d10_0 rfl rfl ?_
  refine wistoreN OGc 2 X0 B d10_1 #[.val (.ref a1), .val (.int (0 : Int32)), .val (.int (0 : Int32))] rfl rfl ?_
  refine waloadN OGc 3 X0 B d10_2 rfl rfl rfl ?_
  refine wgetF OGc 6 X0 B hZ hown (ow hw 61 rfl) e0 R0 d10_3 rfl fun T1 X1 e1 => ?_
  refine wiloadN OGc 7 X1 B d10_6 rfl rfl ?_
  refine wiaload OGc 8 X1 B hZ e1 R1 (v := (.int (1 : Int32))) 0 (by decide) (by decide) rfl d10_7 rfl ?_
  refine wiloadN OGc 9 X1 B d10_8 rfl rfl ?_
  refine wicmpNo OGc 12 X1 B d10_9 (by decide) rfl ?_
  refine waloadN OGc 13 X1 B d10_12 rfl rfl rfl ?_
  refine wgetF OGc 16 X1 B hZ hown (ow hw 61 rfl) e1 R0 d10_13 rfl fun T3 X3 e3 => ?_
  refine wiloadN OGc 17 X3 B d10_16 rfl rfl ?_
  refine waloadN OGc 18 X3 B d10_17 rfl rfl rfl ?_
  refine wgetF OGc 21 X3 B hZ hown (ow hw 61 rfl) e3 R0 d10_18 rfl fun T4 X4 e4 => ?_
  refine waloadN OGc 22 X4 B d10_21 rfl rfl rfl ?_
  refine wgetF OGc 25 X4 B hZ hown (ow hw 61 rfl) e4 R0 d10_22 rfl fun T5 X5 e5 => ?_
  refine wiloadN OGc 26 X5 B d10_25 rfl rfl ?_
  refine wiaload OGc 27 X5 B hZ e5 R1 (v := (.int (1 : Int32))) 0 (by decide) (by decide) rfl d10_26 rfl ?_
  refine wiaload OGc 28 X5 B hZ e5 R1 (v := (.int (1 : Int32))) 1 (by decide) (by decide) rfl d10_27 rfl ?_
  refine wstI OGc 29 X5 B hZ e5 R1 0 (by decide) (by decide) (by decide : 0 < 4) d10_28 rfl fun T8 h8 X8 e8 W8 => ?_
  have N8 := Fr.snoc X8 N0 g_b
  have K9 := (Keep.refl h0 [b]).wr W8 (Or.inl (List.mem_of_getElem? (i := 0) rfl))
  have F10 := R0.other W8 (Or.inl ne_a1_b)
  have F11 : OA Z h8 b .int [(.int (1 : Int32)), (.int (1 : Int32)), (.int (2 : Int32)), (.int (3 : Int32))] := (R1.set W8 (i := 0) (by decide))
  refine waloadN OGc 30 X8 B d10_29 rfl rfl rfl ?_
  refine wgetF OGc 33 X8 B hZ hown (ow hw 61 rfl) e8 F10 d10_30 rfl fun T12 X12 e12 => ?_
  refine wiloadN OGc 34 X12 B d10_33 rfl rfl ?_
  refine wiaload OGc 35 X12 B hZ e12 F11 (v := (.int (1 : Int32))) 0 (by decide) (by decide) rfl d10_34 rfl ?_
  refine wistoreN OGc 36 X12 B d10_35 #[.val (.ref a1), .val (.int (0 : Int32)), .val (.int (1 : Int32))] rfl rfl ?_
  refine wgoto OGc 2 X12 B d10_36 rfl ?_
  refine waloadN OGc 3 X12 B d10_2 rfl rfl rfl ?_
  refine wgetF OGc 6 X12 B hZ hown (ow hw 61 rfl) e12 F10 d10_3 rfl fun T14 X14 e14 => ?_
  refine wiloadN OGc 7 X14 B d10_6 rfl rfl ?_
  refine wiaload OGc 8 X14 B hZ e14 F11 (v := (.int (1 : Int32))) 1 (by decide) (by decide) rfl d10_7 rfl ?_
  refine wiloadN OGc 9 X14 B d10_8 rfl rfl ?_
  refine wicmpYes OGc 39 X14 B d10_9 (by decide) rfl ?_
  refine wiloadN OGc 40 X14 B d10_39 rfl rfl ?_
  refine own_retI X14 hx hret hlk (hb hby d10_40) (by decide) (by decide) ?_
  rw [e14]
  exact ⟨rfl, N8, K9, F11⟩
theorem ef_10_5_1 (m : MethodId) (a1 : Addr) : entryFrame m #[(.ref a1), (.int (1 : Int32))] 3 = (mkF m 0 #[.val (.ref a1), .val (.int (1 : Int32)), .unset] []) := by first | (simp [entryFrame, mkF, argsToLocals, Value.category]; done) | rfl
abbrev Q10_5_1 (Z : State) (a1 : Addr) (b : Addr) (h0 : Heap) (n0 : Nat) : Option Value → Heap → List Loc → Prop := (fun v h L => v = some (.int (1 : Int32)) ∧ Fr n0 L ∧ Keep h0 h [b] ∧ OA Z h b .int [(.int (1 : Int32)), (.int (1 : Int32)), (.int (2 : Int32)), (.int (3 : Int32))])
set_option maxRecDepth 65536 in
set_option maxHeartbeats 40000000 in
theorem rm10_5_1 (l : Launch) (Z : State) (a0 : Array Value) (hw : ∀ d ∈ tables_1, d.before a0 Z = true) (ws : List Jvm.Cond) (a1 : Addr) (b : Addr) (h0 : Heap) (n0 : Nat) (R0 : Fld Z h0 a1 "com/example/fragmark/fragmark/PhraseTerm" "free" "[I" (.ref b)) (R1 : OA Z h0 b .int [(.int (1 : Int32)), (.int (1 : Int32)), (.int (2 : Int32)), (.int (3 : Int32))]) (g_b : n0 ≤ b) (ne_a1_b : a1 ≠ b) :
    OMet l Z (⟨"com/example/fragmark/fragmark/PhraseTerm", "nextFree", "(I)I"⟩ : MethodName) prog_35_method_16_code 3 (some .int) ws ({ frames := 0, cells := 0, slots := 0, locals := 0 } : Room) #[(.ref a1), (.int (1 : Int32))] h0 (Q10_5_1 Z a1 b h0 n0) := by
  refine own_enter pn_10 ?_
  intro p e s m below meth c s₁ hx hby hml0 hown hret hlk hnm hZ X0 e0
  have hml : c.maxLocals = 3 := hml0
  have B : BX p c prog_35_method_16_code := ⟨hx, hby⟩
  have N0 := Fr.nil n0
  refine own_cast (ef_10_5_1 m a1) ?_
  show OG p e ({ frames := 0, cells := 0, slots := 0, locals := 0 } : Room) s below (fun v h L => v = some (.int (1 : Int32)) ∧ Fr n0 L ∧ Keep h0 h [b] ∧ OA Z h b .int [(.int (1 : Int32)), (.int (1 : Int32)), (.int (2 : Int32)), (.int (3 : Int32))]) s₁ (mkF m 0 #[.val (.ref a1), .val (.int (1 : Int32)), .unset] [])
  refine wiloadN OGc 1 X0 B d10_0 rfl rfl ?_
  refine wistoreN OGc 2 X0 B d10_1 #[.val (.ref a1), .val (.int (1 : Int32)), .val (.int (1 : Int32))] rfl rfl ?_
  refine waloadN OGc 3 X0 B d10_2 rfl rfl rfl ?_
  refine wgetF OGc 6 X0 B hZ hown (ow hw 61 rfl) e0 R0 d10_3 rfl fun T1 X1 e1 => ?_
  refine wiloadN OGc 7 X1 B d10_6 rfl rfl ?_
  refine wiaload OGc 8 X1 B hZ e1 R1 (v := (.int (1 : Int32))) 1 (by decide) (by decide) rfl d10_7 rfl ?_
  refine wiloadN OGc 9 X1 B d10_8 rfl rfl ?_
  refine wicmpYes OGc 39 X1 B d10_9 (by decide) rfl ?_
  refine wiloadN OGc 40 X1 B d10_39 rfl rfl ?_
  refine own_retI X1 hx hret hlk (hb hby d10_40) (by decide) (by decide) ?_
  rw [e1]
  exact ⟨rfl, N0, (Keep.refl h0 [b]), R1⟩
theorem ef_10_5_2 (m : MethodId) (a1 : Addr) : entryFrame m #[(.ref a1), (.int (2 : Int32))] 3 = (mkF m 0 #[.val (.ref a1), .val (.int (2 : Int32)), .unset] []) := by first | (simp [entryFrame, mkF, argsToLocals, Value.category]; done) | rfl
abbrev Q10_5_2 (Z : State) (a1 : Addr) (b : Addr) (h0 : Heap) (n0 : Nat) : Option Value → Heap → List Loc → Prop := (fun v h L => v = some (.int (2 : Int32)) ∧ Fr n0 L ∧ Keep h0 h [b] ∧ OA Z h b .int [(.int (1 : Int32)), (.int (1 : Int32)), (.int (2 : Int32)), (.int (3 : Int32))])
set_option maxRecDepth 65536 in
set_option maxHeartbeats 40000000 in
theorem rm10_5_2 (l : Launch) (Z : State) (a0 : Array Value) (hw : ∀ d ∈ tables_1, d.before a0 Z = true) (ws : List Jvm.Cond) (a1 : Addr) (b : Addr) (h0 : Heap) (n0 : Nat) (R0 : Fld Z h0 a1 "com/example/fragmark/fragmark/PhraseTerm" "free" "[I" (.ref b)) (R1 : OA Z h0 b .int [(.int (1 : Int32)), (.int (1 : Int32)), (.int (2 : Int32)), (.int (3 : Int32))]) (g_b : n0 ≤ b) (ne_a1_b : a1 ≠ b) :
    OMet l Z (⟨"com/example/fragmark/fragmark/PhraseTerm", "nextFree", "(I)I"⟩ : MethodName) prog_35_method_16_code 3 (some .int) ws ({ frames := 0, cells := 0, slots := 0, locals := 0 } : Room) #[(.ref a1), (.int (2 : Int32))] h0 (Q10_5_2 Z a1 b h0 n0) := by
  refine own_enter pn_10 ?_
  intro p e s m below meth c s₁ hx hby hml0 hown hret hlk hnm hZ X0 e0
  have hml : c.maxLocals = 3 := hml0
  have B : BX p c prog_35_method_16_code := ⟨hx, hby⟩
  have N0 := Fr.nil n0
  refine own_cast (ef_10_5_2 m a1) ?_
  show OG p e ({ frames := 0, cells := 0, slots := 0, locals := 0 } : Room) s below (fun v h L => v = some (.int (2 : Int32)) ∧ Fr n0 L ∧ Keep h0 h [b] ∧ OA Z h b .int [(.int (1 : Int32)), (.int (1 : Int32)), (.int (2 : Int32)), (.int (3 : Int32))]) s₁ (mkF m 0 #[.val (.ref a1), .val (.int (2 : Int32)), .unset] [])
  refine wiloadN OGc 1 X0 B d10_0 rfl rfl ?_
  refine wistoreN OGc 2 X0 B d10_1 #[.val (.ref a1), .val (.int (2 : Int32)), .val (.int (2 : Int32))] rfl rfl ?_
  refine waloadN OGc 3 X0 B d10_2 rfl rfl rfl ?_
  refine wgetF OGc 6 X0 B hZ hown (ow hw 61 rfl) e0 R0 d10_3 rfl fun T1 X1 e1 => ?_
  refine wiloadN OGc 7 X1 B d10_6 rfl rfl ?_
  refine wiaload OGc 8 X1 B hZ e1 R1 (v := (.int (2 : Int32))) 2 (by decide) (by decide) rfl d10_7 rfl ?_
  refine wiloadN OGc 9 X1 B d10_8 rfl rfl ?_
  refine wicmpYes OGc 39 X1 B d10_9 (by decide) rfl ?_
  refine wiloadN OGc 40 X1 B d10_39 rfl rfl ?_
  refine own_retI X1 hx hret hlk (hb hby d10_40) (by decide) (by decide) ?_
  rw [e1]
  exact ⟨rfl, N0, (Keep.refl h0 [b]), R1⟩
theorem ef_10_5_3 (m : MethodId) (a1 : Addr) : entryFrame m #[(.ref a1), (.int (3 : Int32))] 3 = (mkF m 0 #[.val (.ref a1), .val (.int (3 : Int32)), .unset] []) := by first | (simp [entryFrame, mkF, argsToLocals, Value.category]; done) | rfl
abbrev Q10_5_3 (Z : State) (a1 : Addr) (b : Addr) (h0 : Heap) (n0 : Nat) : Option Value → Heap → List Loc → Prop := (fun v h L => v = some (.int (3 : Int32)) ∧ Fr n0 L ∧ Keep h0 h [b] ∧ OA Z h b .int [(.int (1 : Int32)), (.int (1 : Int32)), (.int (2 : Int32)), (.int (3 : Int32))])
set_option maxRecDepth 65536 in
set_option maxHeartbeats 40000000 in
theorem rm10_5_3 (l : Launch) (Z : State) (a0 : Array Value) (hw : ∀ d ∈ tables_1, d.before a0 Z = true) (ws : List Jvm.Cond) (a1 : Addr) (b : Addr) (h0 : Heap) (n0 : Nat) (R0 : Fld Z h0 a1 "com/example/fragmark/fragmark/PhraseTerm" "free" "[I" (.ref b)) (R1 : OA Z h0 b .int [(.int (1 : Int32)), (.int (1 : Int32)), (.int (2 : Int32)), (.int (3 : Int32))]) (g_b : n0 ≤ b) (ne_a1_b : a1 ≠ b) :
    OMet l Z (⟨"com/example/fragmark/fragmark/PhraseTerm", "nextFree", "(I)I"⟩ : MethodName) prog_35_method_16_code 3 (some .int) ws ({ frames := 0, cells := 0, slots := 0, locals := 0 } : Room) #[(.ref a1), (.int (3 : Int32))] h0 (Q10_5_3 Z a1 b h0 n0) := by
  refine own_enter pn_10 ?_
  intro p e s m below meth c s₁ hx hby hml0 hown hret hlk hnm hZ X0 e0
  have hml : c.maxLocals = 3 := hml0
  have B : BX p c prog_35_method_16_code := ⟨hx, hby⟩
  have N0 := Fr.nil n0
  refine own_cast (ef_10_5_3 m a1) ?_
  show OG p e ({ frames := 0, cells := 0, slots := 0, locals := 0 } : Room) s below (fun v h L => v = some (.int (3 : Int32)) ∧ Fr n0 L ∧ Keep h0 h [b] ∧ OA Z h b .int [(.int (1 : Int32)), (.int (1 : Int32)), (.int (2 : Int32)), (.int (3 : Int32))]) s₁ (mkF m 0 #[.val (.ref a1), .val (.int (3 : Int32)), .unset] [])
  refine wiloadN OGc 1 X0 B d10_0 rfl rfl ?_
  refine wistoreN OGc 2 X0 B d10_1 #[.val (.ref a1), .val (.int (3 : Int32)), .val (.int (3 : Int32))] rfl rfl ?_
  refine waloadN OGc 3 X0 B d10_2 rfl rfl rfl ?_
  refine wgetF OGc 6 X0 B hZ hown (ow hw 61 rfl) e0 R0 d10_3 rfl fun T1 X1 e1 => ?_
  refine wiloadN OGc 7 X1 B d10_6 rfl rfl ?_
  refine wiaload OGc 8 X1 B hZ e1 R1 (v := (.int (3 : Int32))) 3 (by decide) (by decide) rfl d10_7 rfl ?_
  refine wiloadN OGc 9 X1 B d10_8 rfl rfl ?_
  refine wicmpYes OGc 39 X1 B d10_9 (by decide) rfl ?_
  refine wiloadN OGc 40 X1 B d10_39 rfl rfl ?_
  refine own_retI X1 hx hret hlk (hb hby d10_40) (by decide) (by decide) ?_
  rw [e1]
  exact ⟨rfl, N0, (Keep.refl h0 [b]), R1⟩
theorem ef_10_6_0 (m : MethodId) (a1 : Addr) : entryFrame m #[(.ref a1), (.int (0 : Int32))] 3 = (mkF m 0 #[.val (.ref a1), .val (.int (0 : Int32)), .unset] []) := by first | (simp [entryFrame, mkF, argsToLocals, Value.category]; done) | rfl
abbrev Q10_6_0 (Z : State) (a1 : Addr) (b : Addr) (h0 : Heap) (n0 : Nat) : Option Value → Heap → List Loc → Prop := (fun v h L => v = some (.int (1 : Int32)) ∧ Fr n0 L ∧ Keep h0 h [b] ∧ OA Z h b .int [(.int (1 : Int32)), (.int (1 : Int32)), (.int (3 : Int32)), (.int (3 : Int32))])
set_option maxRecDepth 65536 in
set_option maxHeartbeats 40000000 in
theorem rm10_6_0 (l : Launch) (Z : State) (a0 : Array Value) (hw : ∀ d ∈ tables_1, d.before a0 Z = true) (ws : List Jvm.Cond) (a1 : Addr) (b : Addr) (h0 : Heap) (n0 : Nat) (R0 : Fld Z h0 a1 "com/example/fragmark/fragmark/PhraseTerm" "free" "[I" (.ref b)) (R1 : OA Z h0 b .int [(.int (1 : Int32)), (.int (1 : Int32)), (.int (3 : Int32)), (.int (3 : Int32))]) (g_b : n0 ≤ b) (ne_a1_b : a1 ≠ b) :
    OMet l Z (⟨"com/example/fragmark/fragmark/PhraseTerm", "nextFree", "(I)I"⟩ : MethodName) prog_35_method_16_code 3 (some .int) ws ({ frames := 0, cells := 0, slots := 0, locals := 0 } : Room) #[(.ref a1), (.int (0 : Int32))] h0 (Q10_6_0 Z a1 b h0 n0) := by
  refine own_enter pn_10 ?_
  intro p e s m below meth c s₁ hx hby hml0 hown hret hlk hnm hZ X0 e0
  have hml : c.maxLocals = 3 := hml0
  have B : BX p c prog_35_method_16_code := ⟨hx, hby⟩
  have N0 := Fr.nil n0
  refine own_cast (ef_10_6_0 m a1) ?_
  show OG p e ({ frames := 0, cells := 0, slots := 0, locals := 0 } : Room) s below (fun v h L => v = some (.int (1 : Int32)) ∧ Fr n0 L ∧ Keep h0 h [b] ∧ OA Z h b .int [(.int (1 : Int32)), (.int (1 : Int32)), (.int (3 : Int32)), (.int (3 : Int32))]) s₁ (mkF m 0 #[.val (.ref a1), .val (.int (0 : Int32)), .unset] [])
  refine wiloadN OGc 1 X0 B d10_0 rfl rfl ?_
  refine wistoreN OGc 2 X0 B d10_1 #[.val (.ref a1), .val (.int (0 : Int32)), .val (.int (0 : Int32))] rfl rfl ?_
  refine waloadN OGc 3 X0 B d10_2 rfl rfl rfl ?_
  refine wgetF OGc 6 X0 B hZ hown (ow hw 61 rfl) e0 R0 d10_3 rfl fun T1 X1 e1 => ?_
  refine wiloadN OGc 7 X1 B d10_6 rfl rfl ?_
  refine wiaload OGc 8 X1 B hZ e1 R1 (v := (.int (1 : Int32))) 0 (by decide) (by decide) rfl d10_7 rfl ?_
  refine wiloadN OGc 9 X1 B d10_8 rfl rfl ?_
  refine wicmpNo OGc 12 X1 B d10_9 (by decide) rfl ?_
  refine waloadN OGc 13 X1 B d10_12 rfl rfl rfl ?_
  refine wgetF OGc 16 X1 B hZ hown (ow hw 61 rfl) e1 R0 d10_13 rfl fun T3 X3 e3 => ?_
  refine wiloadN OGc 17 X3 B d10_16 rfl rfl ?_
  refine waloadN OGc 18 X3 B d10_17 rfl rfl rfl ?_
  refine wgetF OGc 21 X3 B hZ hown (ow hw 61 rfl) e3 R0 d10_18 rfl fun T4 X4 e4 => ?_
  refine waloadN OGc 22 X4 B d10_21 rfl rfl rfl ?_
  refine wgetF OGc 25 X4 B hZ hown (ow hw 61 rfl) e4 R0 d10_22 rfl fun T5 X5 e5 => ?_
  refine wiloadN OGc 26 X5 B d10_25 rfl rfl ?_
  refine wiaload OGc 27 X5 B hZ e5 R1 (v := (.int (1 : Int32))) 0 (by decide) (by decide) rfl d10_26 rfl ?_
  refine wiaload OGc 28 X5 B hZ e5 R1 (v := (.int (1 : Int32))) 1 (by decide) (by decide) rfl d10_27 rfl ?_
  refine wstI OGc 29 X5 B hZ e5 R1 0 (by decide) (by decide) (by decide : 0 < 4) d10_28 rfl fun T8 h8 X8 e8 W8 => ?_
  have N8 := Fr.snoc X8 N0 g_b
  have K9 := (Keep.refl h0 [b]).wr W8 (Or.inl (List.mem_of_getElem? (i := 0) rfl))
  have F10 := R0.other W8 (Or.inl ne_a1_b)
  have F11 : OA Z h8 b .int [(.int (1 : Int32)), (.int (1 : Int32)), (.int (3 : Int32)), (.int (3 : Int32))] := (R1.set W8 (i := 0) (by decide))
  refine waloadN OGc 30 X8 B d10_29 rfl rfl rfl ?_
  refine wgetF OGc 33 X8 B hZ hown (ow hw 61 rfl) e8 F10 d10_30 rfl fun T12 X12 e12 => ?_
  refine wiloadN OGc 34 X12 B d10_33 rfl rfl ?_
  refine wiaload OGc 35 X12 B hZ e12 F11 (v := (.int (1 : Int32))) 0 (by decide) (by decide) rfl d10_34 rfl ?_
  refine wistoreN OGc 36 X12 B d10_35 #[.val (.ref a1), .val (.int (0 : Int32)), .val (.int (1 : Int32))] rfl rfl ?_
  refine wgoto OGc 2 X12 B d10_36 rfl ?_
  refine waloadN OGc 3 X12 B d10_2 rfl rfl rfl ?_
  refine wgetF OGc 6 X12 B hZ hown (ow hw 61 rfl) e12 F10 d10_3 rfl fun T14 X14 e14 => ?_
  refine wiloadN OGc 7 X14 B d10_6 rfl rfl ?_
  refine wiaload OGc 8 X14 B hZ e14 F11 (v := (.int (1 : Int32))) 1 (by decide) (by decide) rfl d10_7 rfl ?_
  refine wiloadN OGc 9 X14 B d10_8 rfl rfl ?_
  refine wicmpYes OGc 39 X14 B d10_9 (by decide) rfl ?_
  refine wiloadN OGc 40 X14 B d10_39 rfl rfl ?_
  refine own_retI X14 hx hret hlk (hb hby d10_40) (by decide) (by decide) ?_
  rw [e14]
  exact ⟨rfl, N8, K9, F11⟩
theorem ef_10_6_1 (m : MethodId) (a1 : Addr) : entryFrame m #[(.ref a1), (.int (1 : Int32))] 3 = (mkF m 0 #[.val (.ref a1), .val (.int (1 : Int32)), .unset] []) := by first | (simp [entryFrame, mkF, argsToLocals, Value.category]; done) | rfl
abbrev Q10_6_1 (Z : State) (a1 : Addr) (b : Addr) (h0 : Heap) (n0 : Nat) : Option Value → Heap → List Loc → Prop := (fun v h L => v = some (.int (1 : Int32)) ∧ Fr n0 L ∧ Keep h0 h [b] ∧ OA Z h b .int [(.int (1 : Int32)), (.int (1 : Int32)), (.int (3 : Int32)), (.int (3 : Int32))])
set_option maxRecDepth 65536 in
set_option maxHeartbeats 40000000 in
theorem rm10_6_1 (l : Launch) (Z : State) (a0 : Array Value) (hw : ∀ d ∈ tables_1, d.before a0 Z = true) (ws : List Jvm.Cond) (a1 : Addr) (b : Addr) (h0 : Heap) (n0 : Nat) (R0 : Fld Z h0 a1 "com/example/fragmark/fragmark/PhraseTerm" "free" "[I" (.ref b)) (R1 : OA Z h0 b .int [(.int (1 : Int32)), (.int (1 : Int32)), (.int (3 : Int32)), (.int (3 : Int32))]) (g_b : n0 ≤ b) (ne_a1_b : a1 ≠ b) :
    OMet l Z (⟨"com/example/fragmark/fragmark/PhraseTerm", "nextFree", "(I)I"⟩ : MethodName) prog_35_method_16_code 3 (some .int) ws ({ frames := 0, cells := 0, slots := 0, locals := 0 } : Room) #[(.ref a1), (.int (1 : Int32))] h0 (Q10_6_1 Z a1 b h0 n0) := by
  refine own_enter pn_10 ?_
  intro p e s m below meth c s₁ hx hby hml0 hown hret hlk hnm hZ X0 e0
  have hml : c.maxLocals = 3 := hml0
  have B : BX p c prog_35_method_16_code := ⟨hx, hby⟩
  have N0 := Fr.nil n0
  refine own_cast (ef_10_6_1 m a1) ?_
  show OG p e ({ frames := 0, cells := 0, slots := 0, locals := 0 } : Room) s below (fun v h L => v = some (.int (1 : Int32)) ∧ Fr n0 L ∧ Keep h0 h [b] ∧ OA Z h b .int [(.int (1 : Int32)), (.int (1 : Int32)), (.int (3 : Int32)), (.int (3 : Int32))]) s₁ (mkF m 0 #[.val (.ref a1), .val (.int (1 : Int32)), .unset] [])
  refine wiloadN OGc 1 X0 B d10_0 rfl rfl ?_
  refine wistoreN OGc 2 X0 B d10_1 #[.val (.ref a1), .val (.int (1 : Int32)), .val (.int (1 : Int32))] rfl rfl ?_
  refine waloadN OGc 3 X0 B d10_2 rfl rfl rfl ?_
  refine wgetF OGc 6 X0 B hZ hown (ow hw 61 rfl) e0 R0 d10_3 rfl fun T1 X1 e1 => ?_
  refine wiloadN OGc 7 X1 B d10_6 rfl rfl ?_
  refine wiaload OGc 8 X1 B hZ e1 R1 (v := (.int (1 : Int32))) 1 (by decide) (by decide) rfl d10_7 rfl ?_
  refine wiloadN OGc 9 X1 B d10_8 rfl rfl ?_
  refine wicmpYes OGc 39 X1 B d10_9 (by decide) rfl ?_
  refine wiloadN OGc 40 X1 B d10_39 rfl rfl ?_
  refine own_retI X1 hx hret hlk (hb hby d10_40) (by decide) (by decide) ?_
  rw [e1]
  exact ⟨rfl, N0, (Keep.refl h0 [b]), R1⟩
theorem ef_10_6_2 (m : MethodId) (a1 : Addr) : entryFrame m #[(.ref a1), (.int (2 : Int32))] 3 = (mkF m 0 #[.val (.ref a1), .val (.int (2 : Int32)), .unset] []) := by first | (simp [entryFrame, mkF, argsToLocals, Value.category]; done) | rfl
abbrev Q10_6_2 (Z : State) (a1 : Addr) (b : Addr) (h0 : Heap) (n0 : Nat) : Option Value → Heap → List Loc → Prop := (fun v h L => v = some (.int (3 : Int32)) ∧ Fr n0 L ∧ Keep h0 h [b] ∧ OA Z h b .int [(.int (1 : Int32)), (.int (1 : Int32)), (.int (3 : Int32)), (.int (3 : Int32))])
set_option maxRecDepth 65536 in
set_option maxHeartbeats 40000000 in
theorem rm10_6_2 (l : Launch) (Z : State) (a0 : Array Value) (hw : ∀ d ∈ tables_1, d.before a0 Z = true) (ws : List Jvm.Cond) (a1 : Addr) (b : Addr) (h0 : Heap) (n0 : Nat) (R0 : Fld Z h0 a1 "com/example/fragmark/fragmark/PhraseTerm" "free" "[I" (.ref b)) (R1 : OA Z h0 b .int [(.int (1 : Int32)), (.int (1 : Int32)), (.int (3 : Int32)), (.int (3 : Int32))]) (g_b : n0 ≤ b) (ne_a1_b : a1 ≠ b) :
    OMet l Z (⟨"com/example/fragmark/fragmark/PhraseTerm", "nextFree", "(I)I"⟩ : MethodName) prog_35_method_16_code 3 (some .int) ws ({ frames := 0, cells := 0, slots := 0, locals := 0 } : Room) #[(.ref a1), (.int (2 : Int32))] h0 (Q10_6_2 Z a1 b h0 n0) := by
  refine own_enter pn_10 ?_
  intro p e s m below meth c s₁ hx hby hml0 hown hret hlk hnm hZ X0 e0
  have hml : c.maxLocals = 3 := hml0
  have B : BX p c prog_35_method_16_code := ⟨hx, hby⟩
  have N0 := Fr.nil n0
  refine own_cast (ef_10_6_2 m a1) ?_
  show OG p e ({ frames := 0, cells := 0, slots := 0, locals := 0 } : Room) s below (fun v h L => v = some (.int (3 : Int32)) ∧ Fr n0 L ∧ Keep h0 h [b] ∧ OA Z h b .int [(.int (1 : Int32)), (.int (1 : Int32)), (.int (3 : Int32)), (.int (3 : Int32))]) s₁ (mkF m 0 #[.val (.ref a1), .val (.int (2 : Int32)), .unset] [])
  refine wiloadN OGc 1 X0 B d10_0 rfl rfl ?_
  refine wistoreN OGc 2 X0 B d10_1 #[.val (.ref a1), .val (.int (2 : Int32)), .val (.int (2 : Int32))] rfl rfl ?_
  refine waloadN OGc 3 X0 B d10_2 rfl rfl rfl ?_
  refine wgetF OGc 6 X0 B hZ hown (ow hw 61 rfl) e0 R0 d10_3 rfl fun T1 X1 e1 => ?_
  refine wiloadN OGc 7 X1 B d10_6 rfl rfl ?_
  refine wiaload OGc 8 X1 B hZ e1 R1 (v := (.int (3 : Int32))) 2 (by decide) (by decide) rfl d10_7 rfl ?_
  refine wiloadN OGc 9 X1 B d10_8 rfl rfl ?_
  refine wicmpNo OGc 12 X1 B d10_9 (by decide) rfl ?_
  refine waloadN OGc 13 X1 B d10_12 rfl rfl rfl ?_
  refine wgetF OGc 16 X1 B hZ hown (ow hw 61 rfl) e1 R0 d10_13 rfl fun T3 X3 e3 => ?_
  refine wiloadN OGc 17 X3 B d10_16 rfl rfl ?_
  refine waloadN OGc 18 X3 B d10_17 rfl rfl rfl ?_
  refine wgetF OGc 21 X3 B hZ hown (ow hw 61 rfl) e3 R0 d10_18 rfl fun T4 X4 e4 => ?_
  refine waloadN OGc 22 X4 B d10_21 rfl rfl rfl ?_
  refine wgetF OGc 25 X4 B hZ hown (ow hw 61 rfl) e4 R0 d10_22 rfl fun T5 X5 e5 => ?_
  refine wiloadN OGc 26 X5 B d10_25 rfl rfl ?_
  refine wiaload OGc 27 X5 B hZ e5 R1 (v := (.int (3 : Int32))) 2 (by decide) (by decide) rfl d10_26 rfl ?_
  refine wiaload OGc 28 X5 B hZ e5 R1 (v := (.int (3 : Int32))) 3 (by decide) (by decide) rfl d10_27 rfl ?_
  refine wstI OGc 29 X5 B hZ e5 R1 2 (by decide) (by decide) (by decide : 2 < 4) d10_28 rfl fun T8 h8 X8 e8 W8 => ?_
  have N8 := Fr.snoc X8 N0 g_b
  have K9 := (Keep.refl h0 [b]).wr W8 (Or.inl (List.mem_of_getElem? (i := 0) rfl))
  have F10 := R0.other W8 (Or.inl ne_a1_b)
  have F11 : OA Z h8 b .int [(.int (1 : Int32)), (.int (1 : Int32)), (.int (3 : Int32)), (.int (3 : Int32))] := (R1.set W8 (i := 2) (by decide))
  refine waloadN OGc 30 X8 B d10_29 rfl rfl rfl ?_
  refine wgetF OGc 33 X8 B hZ hown (ow hw 61 rfl) e8 F10 d10_30 rfl fun T12 X12 e12 => ?_
  refine wiloadN OGc 34 X12 B d10_33 rfl rfl ?_
  refine wiaload OGc 35 X12 B hZ e12 F11 (v := (.int (3 : Int32))) 2 (by decide) (by decide) rfl d10_34 rfl ?_
  refine wistoreN OGc 36 X12 B d10_35 #[.val (.ref a1), .val (.int (2 : Int32)), .val (.int (3 : Int32))] rfl rfl ?_
  refine wgoto OGc 2 X12 B d10_36 rfl ?_
  refine waloadN OGc 3 X12 B d10_2 rfl rfl rfl ?_
  refine wgetF OGc 6 X12 B hZ hown (ow hw 61 rfl) e12 F10 d10_3 rfl fun T14 X14 e14 => ?_
  refine wiloadN OGc 7 X14 B d10_6 rfl rfl ?_
  refine wiaload OGc 8 X14 B hZ e14 F11 (v := (.int (3 : Int32))) 3 (by decide) (by decide) rfl d10_7 rfl ?_
  refine wiloadN OGc 9 X14 B d10_8 rfl rfl ?_
  refine wicmpYes OGc 39 X14 B d10_9 (by decide) rfl ?_
  refine wiloadN OGc 40 X14 B d10_39 rfl rfl ?_
  refine own_retI X14 hx hret hlk (hb hby d10_40) (by decide) (by decide) ?_
  rw [e14]
  exact ⟨rfl, N8, K9, F11⟩
theorem ef_10_6_3 (m : MethodId) (a1 : Addr) : entryFrame m #[(.ref a1), (.int (3 : Int32))] 3 = (mkF m 0 #[.val (.ref a1), .val (.int (3 : Int32)), .unset] []) := by first | (simp [entryFrame, mkF, argsToLocals, Value.category]; done) | rfl
abbrev Q10_6_3 (Z : State) (a1 : Addr) (b : Addr) (h0 : Heap) (n0 : Nat) : Option Value → Heap → List Loc → Prop := (fun v h L => v = some (.int (3 : Int32)) ∧ Fr n0 L ∧ Keep h0 h [b] ∧ OA Z h b .int [(.int (1 : Int32)), (.int (1 : Int32)), (.int (3 : Int32)), (.int (3 : Int32))])
set_option maxRecDepth 65536 in
set_option maxHeartbeats 40000000 in
theorem rm10_6_3 (l : Launch) (Z : State) (a0 : Array Value) (hw : ∀ d ∈ tables_1, d.before a0 Z = true) (ws : List Jvm.Cond) (a1 : Addr) (b : Addr) (h0 : Heap) (n0 : Nat) (R0 : Fld Z h0 a1 "com/example/fragmark/fragmark/PhraseTerm" "free" "[I" (.ref b)) (R1 : OA Z h0 b .int [(.int (1 : Int32)), (.int (1 : Int32)), (.int (3 : Int32)), (.int (3 : Int32))]) (g_b : n0 ≤ b) (ne_a1_b : a1 ≠ b) :
    OMet l Z (⟨"com/example/fragmark/fragmark/PhraseTerm", "nextFree", "(I)I"⟩ : MethodName) prog_35_method_16_code 3 (some .int) ws ({ frames := 0, cells := 0, slots := 0, locals := 0 } : Room) #[(.ref a1), (.int (3 : Int32))] h0 (Q10_6_3 Z a1 b h0 n0) := by
  refine own_enter pn_10 ?_
  intro p e s m below meth c s₁ hx hby hml0 hown hret hlk hnm hZ X0 e0
  have hml : c.maxLocals = 3 := hml0
  have B : BX p c prog_35_method_16_code := ⟨hx, hby⟩
  have N0 := Fr.nil n0
  refine own_cast (ef_10_6_3 m a1) ?_
  show OG p e ({ frames := 0, cells := 0, slots := 0, locals := 0 } : Room) s below (fun v h L => v = some (.int (3 : Int32)) ∧ Fr n0 L ∧ Keep h0 h [b] ∧ OA Z h b .int [(.int (1 : Int32)), (.int (1 : Int32)), (.int (3 : Int32)), (.int (3 : Int32))]) s₁ (mkF m 0 #[.val (.ref a1), .val (.int (3 : Int32)), .unset] [])
  refine wiloadN OGc 1 X0 B d10_0 rfl rfl ?_
  refine wistoreN OGc 2 X0 B d10_1 #[.val (.ref a1), .val (.int (3 : Int32)), .val (.int (3 : Int32))] rfl rfl ?_
  refine waloadN OGc 3 X0 B d10_2 rfl rfl rfl ?_
  refine wgetF OGc 6 X0 B hZ hown (ow hw 61 rfl) e0 R0 d10_3 rfl fun T1 X1 e1 => ?_
  refine wiloadN OGc 7 X1 B d10_6 rfl rfl ?_
  refine wiaload OGc 8 X1 B hZ e1 R1 (v := (.int (3 : Int32))) 3 (by decide) (by decide) rfl d10_7 rfl ?_
  refine wiloadN OGc 9 X1 B d10_8 rfl rfl ?_
  refine wicmpYes OGc 39 X1 B d10_9 (by decide) rfl ?_
  refine wiloadN OGc 40 X1 B d10_39 rfl rfl ?_
  refine own_retI X1 hx hret hlk (hb hby d10_40) (by decide) (by decide) ?_
  rw [e1]
  exact ⟨rfl, N0, (Keep.refl h0 [b]), R1⟩
theorem ef_10_7_0 (m : MethodId) (a1 : Addr) : entryFrame m #[(.ref a1), (.int (0 : Int32))] 3 = (mkF m 0 #[.val (.ref a1), .val (.int (0 : Int32)), .unset] []) := by first | (simp [entryFrame, mkF, argsToLocals, Value.category]; done) | rfl
abbrev Q10_7_0 (Z : State) (a1 : Addr) (b : Addr) (h0 : Heap) (n0 : Nat) : Option Value → Heap → List Loc → Prop := (fun v h L => v = some (.int (2 : Int32)) ∧ Fr n0 L ∧ Keep h0 h [b] ∧ OA Z h b .int [(.int (2 : Int32)), (.int (2 : Int32)), (.int (2 : Int32)), (.int (3 : Int32))])
set_option maxRecDepth 65536 in
set_option maxHeartbeats 40000000 in
theorem rm10_7_0 (l : Launch) (Z : State) (a0 : Array Value) (hw : ∀ d ∈ tables_1, d.before a0 Z = true) (ws : List Jvm.Cond) (a1 : Addr) (b : Addr) (h0 : Heap) (n0 : Nat) (R0 : Fld Z h0 a1 "com/example/fragmark/fragmark/PhraseTerm" "free" "[I" (.ref b)) (R1 : OA Z h0 b .int [(.int (1 : Int32)), (.int (2 : Int32)), (.int (2 : Int32)), (.int (3 : Int32))]) (g_b : n0 ≤ b) (ne_a1_b : a1 ≠ b) :
    OMet l Z (⟨"com/example/fragmark/fragmark/PhraseTerm", "nextFree", "(I)I"⟩ : MethodName) prog_35_method_16_code 3 (some .int) ws ({ frames := 0, cells := 0, slots := 0, locals := 0 } : Room) #[(.ref a1), (.int (0 : Int32))] h0 (Q10_7_0 Z a1 b h0 n0) := by
  refine own_enter pn_10 ?_
  intro p e s m below meth c s₁ hx hby hml0 hown hret hlk hnm hZ X0 e0
  have hml : c.maxLocals = 3 := hml0
  have B : BX p c prog_35_method_16_code := ⟨hx, hby⟩
  have N0 := Fr.nil n0
  refine own_cast (ef_10_7_0 m a1) ?_
  show OG p e ({ frames := 0, cells := 0, slots := 0, locals := 0 } : Room) s below (fun v h L => v = some (.int (2 : Int32)) ∧ Fr n0 L ∧ Keep h0 h [b] ∧ OA Z h b .int [(.int (2 : Int32)), (.int (2 : Int32)), (.int (2 : Int32)), (.int (3 : Int32))]) s₁ (mkF m 0 #[.val (.ref a1), .val (.int (0 : Int32)), .unset] [])
  refine wiloadN OGc 1 X0 B d10_0 rfl rfl ?_
  refine wistoreN OGc 2 X0 B d10_1 #[.val (.ref a1), .val (.int (0 : Int32)), .val (.int (0 : Int32))] rfl rfl ?_
  refine waloadN OGc 3 X0 B d10_2 rfl rfl rfl ?_
  refine wgetF OGc 6 X0 B hZ hown (ow hw 61 rfl) e0 R0 d10_3 rfl fun T1 X1 e1 => ?_
  refine wiloadN OGc 7 X1 B d10_6 rfl rfl ?_
  refine wiaload OGc 8 X1 B hZ e1 R1 (v := (.int (1 : Int32))) 0 (by decide) (by decide) rfl d10_7 rfl ?_
  refine wiloadN OGc 9 X1 B d10_8 rfl rfl ?_
  refine wicmpNo OGc 12 X1 B d10_9 (by decide) rfl ?_
  refine waloadN OGc 13 X1 B d10_12 rfl rfl rfl ?_
  refine wgetF OGc 16 X1 B hZ hown (ow hw 61 rfl) e1 R0 d10_13 rfl fun T3 X3 e3 => ?_
  refine wiloadN OGc 17 X3 B d10_16 rfl rfl ?_
  refine waloadN OGc 18 X3 B d10_17 rfl rfl rfl ?_
  refine wgetF OGc 21 X3 B hZ hown (ow hw 61 rfl) e3 R0 d10_18 rfl fun T4 X4 e4 => ?_
  refine waloadN OGc 22 X4 B d10_21 rfl rfl rfl ?_
  refine wgetF OGc 25 X4 B hZ hown (ow hw 61 rfl) e4 R0 d10_22 rfl fun T5 X5 e5 => ?_
  refine wiloadN OGc 26 X5 B d10_25 rfl rfl ?_
  refine wiaload OGc 27 X5 B hZ e5 R1 (v := (.int (1 : Int32))) 0 (by decide) (by decide) rfl d10_26 rfl ?_
  refine wiaload OGc 28 X5 B hZ e5 R1 (v := (.int (2 : Int32))) 1 (by decide) (by decide) rfl d10_27 rfl ?_
  refine wstI OGc 29 X5 B hZ e5 R1 0 (by decide) (by decide) (by decide : 0 < 4) d10_28 rfl fun T8 h8 X8 e8 W8 => ?_
  have N8 := Fr.snoc X8 N0 g_b
  have K9 := (Keep.refl h0 [b]).wr W8 (Or.inl (List.mem_of_getElem? (i := 0) rfl))
  have F10 := R0.other W8 (Or.inl ne_a1_b)
  have F11 : OA Z h8 b .int [(.int (2 : Int32)), (.int (2 : Int32)), (.int (2 : Int32)), (.int (3 : Int32))] := (R1.set W8 (i := 0) (by decide))
  refine waloadN OGc 30 X8 B d10_29 rfl rfl rfl ?_
  refine wgetF OGc 33 X8 B hZ hown (ow hw 61 rfl) e8 F10 d10_30 rfl fun T12 X12 e12 => ?_
  refine wiloadN OGc 34 X12 B d10_33 rfl rfl ?_
  refine wiaload OGc 35 X12 B hZ e12 F11 (v := (.int (2 : Int32))) 0 (by decide) (by decide) rfl d10_34 rfl ?_
  refine wistoreN OGc 36 X12 B d10_35 #[.val (.ref a1), .val (.int (0 : Int32)), .val (.int (2 : Int32))] rfl rfl ?_
  refine wgoto OGc 2 X12 B d10_36 rfl ?_
  refine waloadN OGc 3 X12 B d10_2 rfl rfl rfl ?_
  refine wgetF OGc 6 X12 B hZ hown (ow hw 61 rfl) e12 F10 d10_3 rfl fun T14 X14 e14 => ?_
  refine wiloadN OGc 7 X14 B d10_6 rfl rfl ?_
  refine wiaload OGc 8 X14 B hZ e14 F11 (v := (.int (2 : Int32))) 2 (by decide) (by decide) rfl d10_7 rfl ?_
  refine wiloadN OGc 9 X14 B d10_8 rfl rfl ?_
  refine wicmpYes OGc 39 X14 B d10_9 (by decide) rfl ?_
  refine wiloadN OGc 40 X14 B d10_39 rfl rfl ?_
  refine own_retI X14 hx hret hlk (hb hby d10_40) (by decide) (by decide) ?_
  rw [e14]
  exact ⟨rfl, N8, K9, F11⟩
theorem ef_10_7_1 (m : MethodId) (a1 : Addr) : entryFrame m #[(.ref a1), (.int (1 : Int32))] 3 = (mkF m 0 #[.val (.ref a1), .val (.int (1 : Int32)), .unset] []) := by first | (simp [entryFrame, mkF, argsToLocals, Value.category]; done) | rfl
abbrev Q10_7_1 (Z : State) (a1 : Addr) (b : Addr) (h0 : Heap) (n0 : Nat) : Option Value → Heap → List Loc → Prop := (fun v h L => v = some (.int (2 : Int32)) ∧ Fr n0 L ∧ Keep h0 h [b] ∧ OA Z h b .int [(.int (1 : Int32)), (.int (2 : Int32)), (.int (2 : Int32)), (.int (3 : Int32))])
set_option maxRecDepth 65536 in
set_option maxHeartbeats 40000000 in
theorem rm10_7_1 (l : Launch) (Z : State) (a0 : Array Value) (hw : ∀ d ∈ tables_1, d.before a0 Z = true) (ws : List Jvm.Cond) (a1 : Addr) (b : Addr) (h0 : Heap) (n0 : Nat) (R0 : Fld Z h0 a1 "com/example/fragmark/fragmark/PhraseTerm" "free" "[I" (.ref b)) (R1 : OA Z h0 b .int [(.int (1 : Int32)), (.int (2 : Int32)), (.int (2 : Int32)), (.int (3 : Int32))]) (g_b : n0 ≤ b) (ne_a1_b : a1 ≠ b) :
    OMet l Z (⟨"com/example/fragmark/fragmark/PhraseTerm", "nextFree", "(I)I"⟩ : MethodName) prog_35_method_16_code 3 (some .int) ws ({ frames := 0, cells := 0, slots := 0, locals := 0 } : Room) #[(.ref a1), (.int (1 : Int32))] h0 (Q10_7_1 Z a1 b h0 n0) := by
  refine own_enter pn_10 ?_
  intro p e s m below meth c s₁ hx hby hml0 hown hret hlk hnm hZ X0 e0
  have hml : c.maxLocals = 3 := hml0
  have B : BX p c prog_35_method_16_code := ⟨hx, hby⟩
  have N0 := Fr.nil n0
  refine own_cast (ef_10_7_1 m a1) ?_
  show OG p e ({ frames := 0, cells := 0, slots := 0, locals := 0 } : Room) s below (fun v h L => v = some (.int (2 : Int32)) ∧ Fr n0 L ∧ Keep h0 h [b] ∧ OA Z h b .int [(.int (1 : Int32)), (.int (2 : Int32)), (.int (2 : Int32)), (.int (3 : Int32))]) s₁ (mkF m 0 #[.val (.ref a1), .val (.int (1 : Int32)), .unset] [])
  refine wiloadN OGc 1 X0 B d10_0 rfl rfl ?_
  refine wistoreN OGc 2 X0 B d10_1 #[.val (.ref a1), .val (.int (1 : Int32)), .val (.int (1 : Int32))] rfl rfl ?_
  refine waloadN OGc 3 X0 B d10_2 rfl rfl rfl ?_
  refine wgetF OGc 6 X0 B hZ hown (ow hw 61 rfl) e0 R0 d10_3 rfl fun T1 X1 e1 => ?_
  refine wiloadN OGc 7 X1 B d10_6 rfl rfl ?_
  refine wiaload OGc 8 X1 B hZ e1 R1 (v := (.int (2 : Int32))) 1 (by decide) (by decide) rfl d10_7 rfl ?_
  refine wiloadN OGc 9 X1 B d10_8 rfl rfl ?_
  refine wicmpNo OGc 12 X1 B d10_9 (by decide) rfl ?_
  refine waloadN OGc 13 X1 B d10_12 rfl rfl rfl ?_
  refine wgetF OGc 16 X1 B hZ hown (ow hw 61 rfl) e1 R0 d10_13 rfl fun T3 X3 e3 => ?_
  refine wiloadN OGc 17 X3 B d10_16 rfl rfl ?_
  refine waloadN OGc 18 X3 B d10_17 rfl rfl rfl ?_
  refine wgetF OGc 21 X3 B hZ hown (ow hw 61 rfl) e3 R0 d10_18 rfl fun T4 X4 e4 => ?_
  refine waloadN OGc 22 X4 B d10_21 rfl rfl rfl ?_
  refine wgetF OGc 25 X4 B hZ hown (ow hw 61 rfl) e4 R0 d10_22 rfl fun T5 X5 e5 => ?_
  refine wiloadN OGc 26 X5 B d10_25 rfl rfl ?_
  refine wiaload OGc 27 X5 B hZ e5 R1 (v := (.int (2 : Int32))) 1 (by decide) (by decide) rfl d10_26 rfl ?_
  refine wiaload OGc 28 X5 B hZ e5 R1 (v := (.int (2 : Int32))) 2 (by decide) (by decide) rfl d10_27 rfl ?_
  refine wstI OGc 29 X5 B hZ e5 R1 1 (by decide) (by decide) (by decide : 1 < 4) d10_28 rfl fun T8 h8 X8 e8 W8 => ?_
  have N8 := Fr.snoc X8 N0 g_b
  have K9 := (Keep.refl h0 [b]).wr W8 (Or.inl (List.mem_of_getElem? (i := 0) rfl))
  have F10 := R0.other W8 (Or.inl ne_a1_b)
  have F11 : OA Z h8 b .int [(.int (1 : Int32)), (.int (2 : Int32)), (.int (2 : Int32)), (.int (3 : Int32))] := (R1.set W8 (i := 1) (by decide))
  refine waloadN OGc 30 X8 B d10_29 rfl rfl rfl ?_
  refine wgetF OGc 33 X8 B hZ hown (ow hw 61 rfl) e8 F10 d10_30 rfl fun T12 X12 e12 => ?_
  refine wiloadN OGc 34 X12 B d10_33 rfl rfl ?_
  refine wiaload OGc 35 X12 B hZ e12 F11 (v := (.int (2 : Int32))) 1 (by decide) (by decide) rfl d10_34 rfl ?_
  refine wistoreN OGc 36 X12 B d10_35 #[.val (.ref a1), .val (.int (1 : Int32)), .val (.int (2 : Int32))] rfl rfl ?_
  refine wgoto OGc 2 X12 B d10_36 rfl ?_
  refine waloadN OGc 3 X12 B d10_2 rfl rfl rfl ?_
  refine wgetF OGc 6 X12 B hZ hown (ow hw 61 rfl) e12 F10 d10_3 rfl fun T14 X14 e14 => ?_
  refine wiloadN OGc 7 X14 B d10_6 rfl rfl ?_
  refine wiaload OGc 8 X14 B hZ e14 F11 (v := (.int (2 : Int32))) 2 (by decide) (by decide) rfl d10_7 rfl ?_
  refine wiloadN OGc 9 X14 B d10_8 rfl rfl ?_
  refine wicmpYes OGc 39 X14 B d10_9 (by decide) rfl ?_
  refine wiloadN OGc 40 X14 B d10_39 rfl rfl ?_
  refine own_retI X14 hx hret hlk (hb hby d10_40) (by decide) (by decide) ?_
  rw [e14]
  exact ⟨rfl, N8, K9, F11⟩
theorem ef_10_7_2 (m : MethodId) (a1 : Addr) : entryFrame m #[(.ref a1), (.int (2 : Int32))] 3 = (mkF m 0 #[.val (.ref a1), .val (.int (2 : Int32)), .unset] []) := by first | (simp [entryFrame, mkF, argsToLocals, Value.category]; done) | rfl
abbrev Q10_7_2 (Z : State) (a1 : Addr) (b : Addr) (h0 : Heap) (n0 : Nat) : Option Value → Heap → List Loc → Prop := (fun v h L => v = some (.int (2 : Int32)) ∧ Fr n0 L ∧ Keep h0 h [b] ∧ OA Z h b .int [(.int (1 : Int32)), (.int (2 : Int32)), (.int (2 : Int32)), (.int (3 : Int32))])
set_option maxRecDepth 65536 in
set_option maxHeartbeats 40000000 in
theorem rm10_7_2 (l : Launch) (Z : State) (a0 : Array Value) (hw : ∀ d ∈ tables_1, d.before a0 Z = true) (ws : List Jvm.Cond) (a1 : Addr) (b : Addr) (h0 : Heap) (n0 : Nat) (R0 : Fld Z h0 a1 "com/example/fragmark/fragmark/PhraseTerm" "free" "[I" (.ref b)) (R1 : OA Z h0 b .int [(.int (1 : Int32)), (.int (2 : Int32)), (.int (2 : Int32)), (.int (3 : Int32))]) (g_b : n0 ≤ b) (ne_a1_b : a1 ≠ b) :
    OMet l Z (⟨"com/example/fragmark/fragmark/PhraseTerm", "nextFree", "(I)I"⟩ : MethodName) prog_35_method_16_code 3 (some .int) ws ({ frames := 0, cells := 0, slots := 0, locals := 0 } : Room) #[(.ref a1), (.int (2 : Int32))] h0 (Q10_7_2 Z a1 b h0 n0) := by
  refine own_enter pn_10 ?_
  intro p e s m below meth c s₁ hx hby hml0 hown hret hlk hnm hZ X0 e0
  have hml : c.maxLocals = 3 := hml0
  have B : BX p c prog_35_method_16_code := ⟨hx, hby⟩
  have N0 := Fr.nil n0
  refine own_cast (ef_10_7_2 m a1) ?_
  show OG p e ({ frames := 0, cells := 0, slots := 0, locals := 0 } : Room) s below (fun v h L => v = some (.int (2 : Int32)) ∧ Fr n0 L ∧ Keep h0 h [b] ∧ OA Z h b .int [(.int (1 : Int32)), (.int (2 : Int32)), (.int (2 : Int32)), (.int (3 : Int32))]) s₁ (mkF m 0 #[.val (.ref a1), .val (.int (2 : Int32)), .unset] [])
  refine wiloadN OGc 1 X0 B d10_0 rfl rfl ?_
  refine wistoreN OGc 2 X0 B d10_1 #[.val (.ref a1), .val (.int (2 : Int32)), .val (.int (2 : Int32))] rfl rfl ?_
  refine waloadN OGc 3 X0 B d10_2 rfl rfl rfl ?_
  refine wgetF OGc 6 X0 B hZ hown (ow hw 61 rfl) e0 R0 d10_3 rfl fun T1 X1 e1 => ?_
  refine wiloadN OGc 7 X1 B d10_6 rfl rfl ?_
  refine wiaload OGc 8 X1 B hZ e1 R1 (v := (.int (2 : Int32))) 2 (by decide) (by decide) rfl d10_7 rfl ?_
  refine wiloadN OGc 9 X1 B d10_8 rfl rfl ?_
  refine wicmpYes OGc 39 X1 B d10_9 (by decide) rfl ?_
  refine wiloadN OGc 40 X1 B d10_39 rfl rfl ?_
  refine own_retI X1 hx hret hlk (hb hby d10_40) (by decide) (by decide) ?_
  rw [e1]
  exact ⟨rfl, N0, (Keep.refl h0 [b]), R1⟩
theorem ef_10_7_3 (m : MethodId) (a1 : Addr) : entryFrame m #[(.ref a1), (.int (3 : Int32))] 3 = (mkF m 0 #[.val (.ref a1), .val (.int (3 : Int32)), .unset] []) := by first | (simp [entryFrame, mkF, argsToLocals, Value.category]; done) | rfl
abbrev Q10_7_3 (Z : State) (a1 : Addr) (b : Addr) (h0 : Heap) (n0 : Nat) : Option Value → Heap → List Loc → Prop := (fun v h L => v = some (.int (3 : Int32)) ∧ Fr n0 L ∧ Keep h0 h [b] ∧ OA Z h b .int [(.int (1 : Int32)), (.int (2 : Int32)), (.int (2 : Int32)), (.int (3 : Int32))])
set_option maxRecDepth 65536 in
set_option maxHeartbeats 40000000 in
theorem rm10_7_3 (l : Launch) (Z : State) (a0 : Array Value) (hw : ∀ d ∈ tables_1, d.before a0 Z = true) (ws : List Jvm.Cond) (a1 : Addr) (b : Addr) (h0 : Heap) (n0 : Nat) (R0 : Fld Z h0 a1 "com/example/fragmark/fragmark/PhraseTerm" "free" "[I" (.ref b)) (R1 : OA Z h0 b .int [(.int (1 : Int32)), (.int (2 : Int32)), (.int (2 : Int32)), (.int (3 : Int32))]) (g_b : n0 ≤ b) (ne_a1_b : a1 ≠ b) :
    OMet l Z (⟨"com/example/fragmark/fragmark/PhraseTerm", "nextFree", "(I)I"⟩ : MethodName) prog_35_method_16_code 3 (some .int) ws ({ frames := 0, cells := 0, slots := 0, locals := 0 } : Room) #[(.ref a1), (.int (3 : Int32))] h0 (Q10_7_3 Z a1 b h0 n0) := by
  refine own_enter pn_10 ?_
  intro p e s m below meth c s₁ hx hby hml0 hown hret hlk hnm hZ X0 e0
  have hml : c.maxLocals = 3 := hml0
  have B : BX p c prog_35_method_16_code := ⟨hx, hby⟩
  have N0 := Fr.nil n0
  refine own_cast (ef_10_7_3 m a1) ?_
  show OG p e ({ frames := 0, cells := 0, slots := 0, locals := 0 } : Room) s below (fun v h L => v = some (.int (3 : Int32)) ∧ Fr n0 L ∧ Keep h0 h [b] ∧ OA Z h b .int [(.int (1 : Int32)), (.int (2 : Int32)), (.int (2 : Int32)), (.int (3 : Int32))]) s₁ (mkF m 0 #[.val (.ref a1), .val (.int (3 : Int32)), .unset] [])
  refine wiloadN OGc 1 X0 B d10_0 rfl rfl ?_
  refine wistoreN OGc 2 X0 B d10_1 #[.val (.ref a1), .val (.int (3 : Int32)), .val (.int (3 : Int32))] rfl rfl ?_
  refine waloadN OGc 3 X0 B d10_2 rfl rfl rfl ?_
  refine wgetF OGc 6 X0 B hZ hown (ow hw 61 rfl) e0 R0 d10_3 rfl fun T1 X1 e1 => ?_
  refine wiloadN OGc 7 X1 B d10_6 rfl rfl ?_
  refine wiaload OGc 8 X1 B hZ e1 R1 (v := (.int (3 : Int32))) 3 (by decide) (by decide) rfl d10_7 rfl ?_
  refine wiloadN OGc 9 X1 B d10_8 rfl rfl ?_
  refine wicmpYes OGc 39 X1 B d10_9 (by decide) rfl ?_
  refine wiloadN OGc 40 X1 B d10_39 rfl rfl ?_
  refine own_retI X1 hx hret hlk (hb hby d10_40) (by decide) (by decide) ?_
  rw [e1]
  exact ⟨rfl, N0, (Keep.refl h0 [b]), R1⟩
theorem ef_10_8_0 (m : MethodId) (a1 : Addr) : entryFrame m #[(.ref a1), (.int (0 : Int32))] 3 = (mkF m 0 #[.val (.ref a1), .val (.int (0 : Int32)), .unset] []) := by first | (simp [entryFrame, mkF, argsToLocals, Value.category]; done) | rfl
abbrev Q10_8_0 (Z : State) (a1 : Addr) (b : Addr) (h0 : Heap) (n0 : Nat) : Option Value → Heap → List Loc → Prop := (fun v h L => v = some (.int (3 : Int32)) ∧ Fr n0 L ∧ Keep h0 h [b] ∧ OA Z h b .int [(.int (2 : Int32)), (.int (2 : Int32)), (.int (3 : Int32)), (.int (3 : Int32))])
set_option maxRecDepth 65536 in
set_option maxHeartbeats 40000000 in
theorem rm10_8_0 (l : Launch) (Z : State) (a0 : Array Value) (hw : ∀ d ∈ tables_1, d.before a0 Z = true) (ws : List Jvm.Cond) (a1 : Addr) (b : Addr) (h0 : Heap) (n0 : Nat) (R0 : Fld Z h0 a1 "com/example/fragmark/fragmark/PhraseTerm" "free" "[I" (.ref b)) (R1 : OA Z h0 b .int [(.int (1 : Int32)), (.int (2 : Int32)), (.int (3 : Int32)), (.int (3 : Int32))]) (g_b : n0 ≤ b) (ne_a1_b : a1 ≠ b) :
    OMet l Z (⟨"com/example/fragmark/fragmark/PhraseTerm", "nextFree", "(I)I"⟩ : MethodName) prog_35_method_16_code 3 (some .int) ws ({ frames := 0, cells := 0, slots := 0, locals := 0 } : Room) #[(.ref a1), (.int (0 : Int32))] h0 (Q10_8_0 Z a1 b h0 n0) := by
  refine own_enter pn_10 ?_
  intro p e s m below meth c s₁ hx hby hml0 hown hret hlk hnm hZ X0 e0
  have hml : c.maxLocals = 3 := hml0
  have B : BX p c prog_35_method_16_code := ⟨hx, hby⟩
  have N0 := Fr.nil n0
  refine own_cast (ef_10_8_0 m a1) ?_
  show OG p e ({ frames := 0, cells := 0, slots := 0, locals := 0 } : Room) s below (fun v h L => v = some (.int (3 : Int32)) ∧ Fr n0 L ∧ Keep h0 h [b] ∧ OA Z h b .int [(.int (2 : Int32)), (.int (2 : Int32)), (.int (3 : Int32)), (.int (3 : Int32))]) s₁ (mkF m 0 #[.val (.ref a1), .val (.int (0 : Int32)), .unset] [])
  refine wiloadN OGc 1 X0 B d10_0 rfl rfl ?_
  refine wistoreN OGc 2 X0 B d10_1 #[.val (.ref a1), .val (.int (0 : Int32)), .val (.int (0 : Int32))] rfl rfl ?_
  refine waloadN OGc 3 X0 B d10_2 rfl rfl rfl ?_
  refine wgetF OGc 6 X0 B hZ hown (ow hw 61 rfl) e0 R0 d10_3 rfl fun T1 X1 e1 => ?_
  refine wiloadN OGc 7 X1 B d10_6 rfl rfl ?_
  refine wiaload OGc 8 X1 B hZ e1 R1 (v := (.int (1 : Int32))) 0 (by decide) (by decide) rfl d10_7 rfl ?_
  refine wiloadN OGc 9 X1 B d10_8 rfl rfl ?_
  refine wicmpNo OGc 12 X1 B d10_9 (by decide) rfl ?_
  refine waloadN OGc 13 X1 B d10_12 rfl rfl rfl ?_
  refine wgetF OGc 16 X1 B hZ hown (ow hw 61 rfl) e1 R0 d10_13 rfl fun T3 X3 e3 => ?_
  refine wiloadN OGc 17 X3 B d10_16 rfl rfl ?_
  refine waloadN OGc 18 X3 B d10_17 rfl rfl rfl ?_
  refine wgetF OGc 21 X3 B hZ hown (ow hw 61 rfl) e3 R0 d10_18 rfl fun T4 X4 e4 => ?_
  refine waloadN OGc 22 X4 B d10_21 rfl rfl rfl ?_
  refine wgetF OGc 25 X4 B hZ hown (ow hw 61 rfl) e4 R0 d10_22 rfl fun T5 X5 e5 => ?_
  refine wiloadN OGc 26 X5 B d10_25 rfl rfl ?_
  refine wiaload OGc 27 X5 B hZ e5 R1 (v := (.int (1 : Int32))) 0 (by decide) (by decide) rfl d10_26 rfl ?_
  refine wiaload OGc 28 X5 B hZ e5 R1 (v := (.int (2 : Int32))) 1 (by decide) (by decide) rfl d10_27 rfl ?_
  refine wstI OGc 29 X5 B hZ e5 R1 0 (by decide) (by decide) (by decide : 0 < 4) d10_28 rfl fun T8 h8 X8 e8 W8 => ?_
  have N8 := Fr.snoc X8 N0 g_b
  have K9 := (Keep.refl h0 [b]).wr W8 (Or.inl (List.mem_of_getElem? (i := 0) rfl))
  have F10 := R0.other W8 (Or.inl ne_a1_b)
  have F11 : OA Z h8 b .int [(.int (2 : Int32)), (.int (2 : Int32)), (.int (3 : Int32)), (.int (3 : Int32))] := (R1.set W8 (i := 0) (by decide))
  refine waloadN OGc 30 X8 B d10_29 rfl rfl rfl ?_
  refine wgetF OGc 33 X8 B hZ hown (ow hw 61 rfl) e8 F10 d10_30 rfl fun T12 X12 e12 => ?_
  refine wiloadN OGc 34 X12 B d10_33 rfl rfl ?_
  refine wiaload OGc 35 X12 B hZ e12 F11 (v := (.int (2 : Int32))) 0 (by decide) (by decide) rfl d10_34 rfl ?_
  refine wistoreN OGc 36 X12 B d10_35 #[.val (.ref a1), .val (.int (0 : Int32)), .val (.int (2 : Int32))] rfl rfl ?_
  refine wgoto OGc 2 X12 B d10_36 rfl ?_
  refine waloadN OGc 3 X12 B d10_2 rfl rfl rfl ?_
  refine wgetF OGc 6 X12 B hZ hown (ow hw 61 rfl) e12 F10 d10_3 rfl fun T14 X14 e14 => ?_
  refine wiloadN OGc 7 X14 B d10_6 rfl rfl ?_
  refine wiaload OGc 8 X14 B hZ e14 F11 (v := (.int (3 : Int32))) 2 (by decide) (by decide) rfl d10_7 rfl ?_
  refine wiloadN OGc 9 X14 B d10_8 rfl rfl ?_
  refine wicmpNo OGc 12 X14 B d10_9 (by decide) rfl ?_
  refine waloadN OGc 13 X14 B d10_12 rfl rfl rfl ?_
  refine wgetF OGc 16 X14 B hZ hown (ow hw 61 rfl) e14 F10 d10_13 rfl fun T16 X16 e16 => ?_
  refine wiloadN OGc 17 X16 B d10_16 rfl rfl ?_
  refine waloadN OGc 18 X16 B d10_17 rfl rfl rfl ?_
  refine wgetF OGc 21 X16 B hZ hown (ow hw 61 rfl) e16 F10 d10_18 rfl fun T17 X17 e17 => ?_
  refine waloadN OGc 22 X17 B d10_21 rfl rfl rfl ?_
  refine wgetF OGc 25 X17 B hZ hown (ow hw 61 rfl) e17 F10 d10_22 rfl fun T18 X18 e18 => ?_
  refine wiloadN OGc 26 X18 B d10_25 rfl rfl ?_
  refine wiaload OGc 27 X18 B hZ e18 F11 (v := (.int (3 : Int32))) 2 (by decide) (by decide) rfl d10_26 rfl ?_
  refine wiaload OGc 28 X18 B hZ e18 F11 (v := (.int (3 : Int32))) 3 (by decide) (by decide) rfl d10_27 rfl ?_
  refine wstI OGc 29 X18 B hZ e18 F11 2 (by decide) (by decide) (by decide : 2 < 4) d10_28 rfl fun T21 h21 X21 e21 W21 => ?_
  have N21 := Fr.snoc X21 N8 g_b
  have K22 := K9.wr W21 (Or.inl (List.mem_of_getElem? (i := 0) rfl))
  have F23 := F10.other W21 (Or.inl ne_a1_b)
  have F24 : OA Z h21 b .int [(.int (2 : Int32)), (.int (2 : Int32)), (.int (3 : Int32)), (.int (3 : Int32))] := (F11.set W21 (i := 2) (by decide))
  refine waloadN OGc 30 X21 B d10_29 rfl rfl rfl ?_
  refine wgetF OGc 33 X21 B hZ hown (ow hw 61 rfl) e21 F23 d10_30 rfl fun T25 X25 e25 => ?_
  refine wiloadN OGc 34 X25 B d10_33 rfl rfl ?_
  refine wiaload OGc 35 X25 B hZ e25 F24 (v := (.int (3 : Int32))) 2 (by decide) (by decide) rfl d10_34 rfl ?_
  refine wistoreN OGc 36 X25 B d10_35 #[.val (.ref a1), .val (.int (0 : Int32)), .val (.int (3 : Int32))] rfl rfl ?_
  refine wgoto OGc 2 X25 B d10_36 rfl ?_
  refine waloadN OGc 3 X25 B d10_2 rfl rfl rfl ?_
  refine wgetF OGc 6 X25 B hZ hown (ow hw 61 rfl) e25 F23 d10_3 rfl fun T27 X27 e27 => ?_
  refine wiloadN OGc 7 X27 B d10_6 rfl rfl ?_
  refine wiaload OGc 8 X27 B hZ e27 F24 (v := (.int (3 : Int32))) 3 (by decide) (by decide) rfl d10_7 rfl ?_
  refine wiloadN OGc 9 X27 B d10_8 rfl rfl ?_
  refine wicmpYes OGc 39 X27 B d10_9 (by decide) rfl ?_
  refine wiloadN OGc 40 X27 B d10_39 rfl rfl ?_
  refine own_retI X27 hx hret hlk (hb hby d10_40) (by decide) (by decide) ?_
  rw [e27]
  exact ⟨rfl, N21, K22, F24⟩
theorem ef_10_8_1 (m : MethodId) (a1 : Addr) : entryFrame m #[(.ref a1), (.int (1 : Int32))] 3 = (mkF m 0 #[.val (.ref a1), .val (.int (1 : Int32)), .unset] []) := by first | (simp [entryFrame, mkF, argsToLocals, Value.category]; done) | rfl
abbrev Q10_8_1 (Z : State) (a1 : Addr) (b : Addr) (h0 : Heap) (n0 : Nat) : Option Value → Heap → List Loc → Prop := (fun v h L => v = some (.int (3 : Int32)) ∧ Fr n0 L ∧ Keep h0 h [b] ∧ OA Z h b .int [(.int (1 : Int32)), (.int (3 : Int32)), (.int (3 : Int32)), (.int (3 : Int32))])
set_option maxRecDepth 65536 in
set_option maxHeartbeats 40000000 in
theorem rm10_8_1 (l : Launch) (Z : State) (a0 : Array Value) (hw : ∀ d ∈ tables_1, d.before a0 Z = true) (ws : List Jvm.Cond) (a1 : Addr) (b : Addr) (h0 : Heap) (n0 : Nat) (R0 : Fld Z h0 a1 "com/example/fragmark/fragmark/PhraseTerm" "free" "[I" (.ref b)) (R1 : OA Z h0 b .int [(.int (1 : Int32)), (.int (2 : Int32)), (.int (3 : Int32)), (.int (3 : Int32))]) (g_b : n0 ≤ b) (ne_a1_b : a1 ≠ b) :
    OMet l Z (⟨"com/example/fragmark/fragmark/PhraseTerm", "nextFree", "(I)I"⟩ : MethodName) prog_35_method_16_code 3 (some .int) ws ({ frames := 0, cells := 0, slots := 0, locals := 0 } : Room) #[(.ref a1), (.int (1 : Int32))] h0 (Q10_8_1 Z a1 b h0 n0) := by
  refine own_enter pn_10 ?_
  intro p e s m below meth c s₁ hx hby hml0 hown hret hlk hnm hZ X0 e0
  have hml : c.maxLocals = 3 := hml0
  have B : BX p c prog_35_method_16_code := ⟨hx, hby⟩
  have N0 := Fr.nil n0
  refine own_cast (ef_10_8_1 m a1) ?_
  show OG p e ({ frames := 0, cells := 0, slots := 0, locals := 0 } : Room) s below (fun v h L => v = some (.int (3 : Int32)) ∧ Fr n0 L ∧ Keep h0 h [b] ∧ OA Z h b .int [(.int (1 : Int32)), (.int (3 : Int32)), (.int (3 : Int32)), (.int (3 : Int32))]) s₁ (mkF m 0 #[.val (.ref a1), .val (.int (1 : Int32)), .unset] [])
  refine wiloadN OGc 1 X0 B d10_0 rfl rfl ?_
  refine wistoreN OGc 2 X0 B d10_1 #[.val (.ref a1), .val (.int (1 : Int32)), .val (.int (1 : Int32))] rfl rfl ?_
  refine waloadN OGc 3 X0 B d10_2 rfl rfl rfl ?_
  refine wgetF OGc 6 X0 B hZ hown (ow hw 61 rfl) e0 R0 d10_3 rfl fun T1 X1 e1 => ?_
  refine wiloadN OGc 7 X1 B d10_6 rfl rfl ?_
  refine wiaload OGc 8 X1 B hZ e1 R1 (v := (.int (2 : Int32))) 1 (by decide) (by decide) rfl d10_7 rfl ?_
  refine wiloadN OGc 9 X1 B d10_8 rfl rfl ?_
  refine wicmpNo OGc 12 X1 B d10_9 (by decide) rfl ?_
  refine waloadN OGc 13 X1 B d10_12 rfl rfl rfl ?_
  refine wgetF OGc 16 X1 B hZ hown (ow hw 61 rfl) e1 R0 d10_13 rfl fun T3 X3 e3 => ?_
  refine wiloadN OGc 17 X3 B d10_16 rfl rfl ?_
  refine waloadN OGc 18 X3 B d10_17 rfl rfl rfl ?_
  refine wgetF OGc 21 X3 B hZ hown (ow hw 61 rfl) e3 R0 d10_18 rfl fun T4 X4 e4 => ?_
  refine waloadN OGc 22 X4 B d10_21 rfl rfl rfl ?_
  refine wgetF OGc 25 X4 B hZ hown (ow hw 61 rfl) e4 R0 d10_22 rfl fun T5 X5 e5 => ?_
  refine wiloadN OGc 26 X5 B d10_25 rfl rfl ?_
  refine wiaload OGc 27 X5 B hZ e5 R1 (v := (.int (2 : Int32))) 1 (by decide) (by decide) rfl d10_26 rfl ?_
  refine wiaload OGc 28 X5 B hZ e5 R1 (v := (.int (3 : Int32))) 2 (by decide) (by decide) rfl d10_27 rfl ?_
  refine wstI OGc 29 X5 B hZ e5 R1 1 (by decide) (by decide) (by decide : 1 < 4) d10_28 rfl fun T8 h8 X8 e8 W8 => ?_
  have N8 := Fr.snoc X8 N0 g_b
  have K9 := (Keep.refl h0 [b]).wr W8 (Or.inl (List.mem_of_getElem? (i := 0) rfl))
  have F10 := R0.other W8 (Or.inl ne_a1_b)
  have F11 : OA Z h8 b .int [(.int (1 : Int32)), (.int (3 : Int32)), (.int (3 : Int32)), (.int (3 : Int32))] := (R1.set W8 (i := 1) (by decide))
  refine waloadN OGc 30 X8 B d10_29 rfl rfl rfl ?_
  refine wgetF OGc 33 X8 B hZ hown (ow hw 61 rfl) e8 F10 d10_30 rfl fun T12 X12 e12 => ?_
  refine wiloadN OGc 34 X12 B d10_33 rfl rfl ?_
  refine wiaload OGc 35 X12 B hZ e12 F11 (v := (.int (3 : Int32))) 1 (by decide) (by decide) rfl d10_34 rfl ?_
  refine wistoreN OGc 36 X12 B d10_35 #[.val (.ref a1), .val (.int (1 : Int32)), .val (.int (3 : Int32))] rfl rfl ?_
  refine wgoto OGc 2 X12 B d10_36 rfl ?_
  refine waloadN OGc 3 X12 B d10_2 rfl rfl rfl ?_
  refine wgetF OGc 6 X12 B hZ hown (ow hw 61 rfl) e12 F10 d10_3 rfl fun T14 X14 e14 => ?_
  refine wiloadN OGc 7 X14 B d10_6 rfl rfl ?_
  refine wiaload OGc 8 X14 B hZ e14 F11 (v := (.int (3 : Int32))) 3 (by decide) (by decide) rfl d10_7 rfl ?_
  refine wiloadN OGc 9 X14 B d10_8 rfl rfl ?_
  refine wicmpYes OGc 39 X14 B d10_9 (by decide) rfl ?_
  refine wiloadN OGc 40 X14 B d10_39 rfl rfl ?_
  refine own_retI X14 hx hret hlk (hb hby d10_40) (by decide) (by decide) ?_
  rw [e14]
  exact ⟨rfl, N8, K9, F11⟩
theorem ef_10_8_2 (m : MethodId) (a1 : Addr) : entryFrame m #[(.ref a1), (.int (2 : Int32))] 3 = (mkF m 0 #[.val (.ref a1), .val (.int (2 : Int32)), .unset] []) := by first | (simp [entryFrame, mkF, argsToLocals, Value.category]; done) | rfl
abbrev Q10_8_2 (Z : State) (a1 : Addr) (b : Addr) (h0 : Heap) (n0 : Nat) : Option Value → Heap → List Loc → Prop := (fun v h L => v = some (.int (3 : Int32)) ∧ Fr n0 L ∧ Keep h0 h [b] ∧ OA Z h b .int [(.int (1 : Int32)), (.int (2 : Int32)), (.int (3 : Int32)), (.int (3 : Int32))])
set_option maxRecDepth 65536 in
set_option maxHeartbeats 40000000 in
theorem rm10_8_2 (l : Launch) (Z : State) (a0 : Array Value) (hw : ∀ d ∈ tables_1, d.before a0 Z = true) (ws : List Jvm.Cond) (a1 : Addr) (b : Addr) (h0 : Heap) (n0 : Nat) (R0 : Fld Z h0 a1 "com/example/fragmark/fragmark/PhraseTerm" "free" "[I" (.ref b)) (R1 : OA Z h0 b .int [(.int (1 : Int32)), (.int (2 : Int32)), (.int (3 : Int32)), (.int (3 : Int32))]) (g_b : n0 ≤ b) (ne_a1_b : a1 ≠ b) :
    OMet l Z (⟨"com/example/fragmark/fragmark/PhraseTerm", "nextFree", "(I)I"⟩ : MethodName) prog_35_method_16_code 3 (some .int) ws ({ frames := 0, cells := 0, slots := 0, locals := 0 } : Room) #[(.ref a1), (.int (2 : Int32))] h0 (Q10_8_2 Z a1 b h0 n0) := by
  refine own_enter pn_10 ?_
  intro p e s m below meth c s₁ hx hby hml0 hown hret hlk hnm hZ X0 e0
  have hml : c.maxLocals = 3 := hml0
  have B : BX p c prog_35_method_16_code := ⟨hx, hby⟩
  have N0 := Fr.nil n0
  refine own_cast (ef_10_8_2 m a1) ?_
  show OG p e ({ frames := 0, cells := 0, slots := 0, locals := 0 } : Room) s below (fun v h L => v = some (.int (3 : Int32)) ∧ Fr n0 L ∧ Keep h0 h [b] ∧ OA Z h b .int [(.int (1 : Int32)), (.int (2 : Int32)), (.int (3 : Int32)), (.int (3 : Int32))]) s₁ (mkF m 0 #[.val (.ref a1), .val (.int (2 : Int32)), .unset] [])
  refine wiloadN OGc 1 X0 B d10_0 rfl rfl ?_
  refine wistoreN OGc 2 X0 B d10_1 #[.val (.ref a1), .val (.int (2 : Int32)), .val (.int (2 : Int32))] rfl rfl ?_
  refine waloadN OGc 3 X0 B d10_2 rfl rfl rfl ?_
  refine wgetF OGc 6 X0 B hZ hown (ow hw 61 rfl) e0 R0 d10_3 rfl fun T1 X1 e1 => ?_
  refine wiloadN OGc 7 X1 B d10_6 rfl rfl ?_
  refine wiaload OGc 8 X1 B hZ e1 R1 (v := (.int (3 : Int32))) 2 (by decide) (by decide) rfl d10_7 rfl ?_
  refine wiloadN OGc 9 X1 B d10_8 rfl rfl ?_
  refine wicmpNo OGc 12 X1 B d10_9 (by decide) rfl ?_
  refine waloadN OGc 13 X1 B d10_12 rfl rfl rfl ?_
  refine wgetF OGc 16 X1 B hZ hown (ow hw 61 rfl) e1 R0 d10_13 rfl fun T3 X3 e3 => ?_
  refine wiloadN OGc 17 X3 B d10_16 rfl rfl ?_
  refine waloadN OGc 18 X3 B d10_17 rfl rfl rfl ?_
  refine wgetF OGc 21 X3 B hZ hown (ow hw 61 rfl) e3 R0 d10_18 rfl fun T4 X4 e4 => ?_
  refine waloadN OGc 22 X4 B d10_21 rfl rfl rfl ?_
  refine wgetF OGc 25 X4 B hZ hown (ow hw 61 rfl) e4 R0 d10_22 rfl fun T5 X5 e5 => ?_
  refine wiloadN OGc 26 X5 B d10_25 rfl rfl ?_
  refine wiaload OGc 27 X5 B hZ e5 R1 (v := (.int (3 : Int32))) 2 (by decide) (by decide) rfl d10_26 rfl ?_
  refine wiaload OGc 28 X5 B hZ e5 R1 (v := (.int (3 : Int32))) 3 (by decide) (by decide) rfl d10_27 rfl ?_
  refine wstI OGc 29 X5 B hZ e5 R1 2 (by decide) (by decide) (by decide : 2 < 4) d10_28 rfl fun T8 h8 X8 e8 W8 => ?_
  have N8 := Fr.snoc X8 N0 g_b
  have K9 := (Keep.refl h0 [b]).wr W8 (Or.inl (List.mem_of_getElem? (i := 0) rfl))
  have F10 := R0.other W8 (Or.inl ne_a1_b)
  have F11 : OA Z h8 b .int [(.int (1 : Int32)), (.int (2 : Int32)), (.int (3 : Int32)), (.int (3 : Int32))] := (R1.set W8 (i := 2) (by decide))
  refine waloadN OGc 30 X8 B d10_29 rfl rfl rfl ?_
  refine wgetF OGc 33 X8 B hZ hown (ow hw 61 rfl) e8 F10 d10_30 rfl fun T12 X12 e12 => ?_
  refine wiloadN OGc 34 X12 B d10_33 rfl rfl ?_
  refine wiaload OGc 35 X12 B hZ e12 F11 (v := (.int (3 : Int32))) 2 (by decide) (by decide) rfl d10_34 rfl ?_
  refine wistoreN OGc 36 X12 B d10_35 #[.val (.ref a1), .val (.int (2 : Int32)), .val (.int (3 : Int32))] rfl rfl ?_
  refine wgoto OGc 2 X12 B d10_36 rfl ?_
  refine waloadN OGc 3 X12 B d10_2 rfl rfl rfl ?_
  refine wgetF OGc 6 X12 B hZ hown (ow hw 61 rfl) e12 F10 d10_3 rfl fun T14 X14 e14 => ?_
  refine wiloadN OGc 7 X14 B d10_6 rfl rfl ?_
  refine wiaload OGc 8 X14 B hZ e14 F11 (v := (.int (3 : Int32))) 3 (by decide) (by decide) rfl d10_7 rfl ?_
  refine wiloadN OGc 9 X14 B d10_8 rfl rfl ?_
  refine wicmpYes OGc 39 X14 B d10_9 (by decide) rfl ?_
  refine wiloadN OGc 40 X14 B d10_39 rfl rfl ?_
  refine own_retI X14 hx hret hlk (hb hby d10_40) (by decide) (by decide) ?_
  rw [e14]
  exact ⟨rfl, N8, K9, F11⟩
theorem ef_10_8_3 (m : MethodId) (a1 : Addr) : entryFrame m #[(.ref a1), (.int (3 : Int32))] 3 = (mkF m 0 #[.val (.ref a1), .val (.int (3 : Int32)), .unset] []) := by first | (simp [entryFrame, mkF, argsToLocals, Value.category]; done) | rfl
abbrev Q10_8_3 (Z : State) (a1 : Addr) (b : Addr) (h0 : Heap) (n0 : Nat) : Option Value → Heap → List Loc → Prop := (fun v h L => v = some (.int (3 : Int32)) ∧ Fr n0 L ∧ Keep h0 h [b] ∧ OA Z h b .int [(.int (1 : Int32)), (.int (2 : Int32)), (.int (3 : Int32)), (.int (3 : Int32))])
set_option maxRecDepth 65536 in
set_option maxHeartbeats 40000000 in
theorem rm10_8_3 (l : Launch) (Z : State) (a0 : Array Value) (hw : ∀ d ∈ tables_1, d.before a0 Z = true) (ws : List Jvm.Cond) (a1 : Addr) (b : Addr) (h0 : Heap) (n0 : Nat) (R0 : Fld Z h0 a1 "com/example/fragmark/fragmark/PhraseTerm" "free" "[I" (.ref b)) (R1 : OA Z h0 b .int [(.int (1 : Int32)), (.int (2 : Int32)), (.int (3 : Int32)), (.int (3 : Int32))]) (g_b : n0 ≤ b) (ne_a1_b : a1 ≠ b) :
    OMet l Z (⟨"com/example/fragmark/fragmark/PhraseTerm", "nextFree", "(I)I"⟩ : MethodName) prog_35_method_16_code 3 (some .int) ws ({ frames := 0, cells := 0, slots := 0, locals := 0 } : Room) #[(.ref a1), (.int (3 : Int32))] h0 (Q10_8_3 Z a1 b h0 n0) := by
  refine own_enter pn_10 ?_
  intro p e s m below meth c s₁ hx hby hml0 hown hret hlk hnm hZ X0 e0
  have hml : c.maxLocals = 3 := hml0
  have B : BX p c prog_35_method_16_code := ⟨hx, hby⟩
  have N0 := Fr.nil n0
  refine own_cast (ef_10_8_3 m a1) ?_
  show OG p e ({ frames := 0, cells := 0, slots := 0, locals := 0 } : Room) s below (fun v h L => v = some (.int (3 : Int32)) ∧ Fr n0 L ∧ Keep h0 h [b] ∧ OA Z h b .int [(.int (1 : Int32)), (.int (2 : Int32)), (.int (3 : Int32)), (.int (3 : Int32))]) s₁ (mkF m 0 #[.val (.ref a1), .val (.int (3 : Int32)), .unset] [])
  refine wiloadN OGc 1 X0 B d10_0 rfl rfl ?_
  refine wistoreN OGc 2 X0 B d10_1 #[.val (.ref a1), .val (.int (3 : Int32)), .val (.int (3 : Int32))] rfl rfl ?_
  refine waloadN OGc 3 X0 B d10_2 rfl rfl rfl ?_
  refine wgetF OGc 6 X0 B hZ hown (ow hw 61 rfl) e0 R0 d10_3 rfl fun T1 X1 e1 => ?_
  refine wiloadN OGc 7 X1 B d10_6 rfl rfl ?_
  refine wiaload OGc 8 X1 B hZ e1 R1 (v := (.int (3 : Int32))) 3 (by decide) (by decide) rfl d10_7 rfl ?_
  refine wiloadN OGc 9 X1 B d10_8 rfl rfl ?_
  refine wicmpYes OGc 39 X1 B d10_9 (by decide) rfl ?_
  refine wiloadN OGc 40 X1 B d10_39 rfl rfl ?_
  refine own_retI X1 hx hret hlk (hb hby d10_40) (by decide) (by decide) ?_
  rw [e1]
  exact ⟨rfl, N0, (Keep.refl h0 [b]), R1⟩
theorem ef_10_9_0 (m : MethodId) (a1 : Addr) : entryFrame m #[(.ref a1), (.int (0 : Int32))] 3 = (mkF m 0 #[.val (.ref a1), .val (.int (0 : Int32)), .unset] []) := by first | (simp [entryFrame, mkF, argsToLocals, Value.category]; done) | rfl
abbrev Q10_9_0 (Z : State) (a1 : Addr) (b : Addr) (h0 : Heap) (n0 : Nat) : Option Value → Heap → List Loc → Prop := (fun v h L => v = some (.int (3 : Int32)) ∧ Fr n0 L ∧ Keep h0 h [b] ∧ OA Z h b .int [(.int (3 : Int32)), (.int (3 : Int32)), (.int (3 : Int32)), (.int (3 : Int32))])
set_option maxRecDepth 65536 in
set_option maxHeartbeats 40000000 in
theorem rm10_9_0 (l : Launch) (Z : State) (a0 : Array Value) (hw : ∀ d ∈ tables_1, d.before a0 Z = true) (ws : List Jvm.Cond) (a1 : Addr) (b : Addr) (h0 : Heap) (n0 : Nat) (R0 : Fld Z h0 a1 "com/example/fragmark/fragmark/PhraseTerm" "free" "[I" (.ref b)) (R1 : OA Z h0 b .int [(.int (1 : Int32)), (.int (3 : Int32)), (.int (3 : Int32)), (.int (3 : Int32))]) (g_b : n0 ≤ b) (ne_a1_b : a1 ≠ b) :
    OMet l Z (⟨"com/example/fragmark/fragmark/PhraseTerm", "nextFree", "(I)I"⟩ : MethodName) prog_35_method_16_code 3 (some .int) ws ({ frames := 0, cells := 0, slots := 0, locals := 0 } : Room) #[(.ref a1), (.int (0 : Int32))] h0 (Q10_9_0 Z a1 b h0 n0) := by
  refine own_enter pn_10 ?_
  intro p e s m below meth c s₁ hx hby hml0 hown hret hlk hnm hZ X0 e0
  have hml : c.maxLocals = 3 := hml0
  have B : BX p c prog_35_method_16_code := ⟨hx, hby⟩
  have N0 := Fr.nil n0
  refine own_cast (ef_10_9_0 m a1) ?_
  show OG p e ({ frames := 0, cells := 0, slots := 0, locals := 0 } : Room) s below (fun v h L => v = some (.int (3 : Int32)) ∧ Fr n0 L ∧ Keep h0 h [b] ∧ OA Z h b .int [(.int (3 : Int32)), (.int (3 : Int32)), (.int (3 : Int32)), (.int (3 : Int32))]) s₁ (mkF m 0 #[.val (.ref a1), .val (.int (0 : Int32)), .unset] [])
  refine wiloadN OGc 1 X0 B d10_0 rfl rfl ?_
  refine wistoreN OGc 2 X0 B d10_1 #[.val (.ref a1), .val (.int (0 : Int32)), .val (.int (0 : Int32))] rfl rfl ?_
  refine waloadN OGc 3 X0 B d10_2 rfl rfl rfl ?_
  refine wgetF OGc 6 X0 B hZ hown (ow hw 61 rfl) e0 R0 d10_3 rfl fun T1 X1 e1 => ?_
  refine wiloadN OGc 7 X1 B d10_6 rfl rfl ?_
  refine wiaload OGc 8 X1 B hZ e1 R1 (v := (.int (1 : Int32))) 0 (by decide) (by decide) rfl d10_7 rfl ?_
  refine wiloadN OGc 9 X1 B d10_8 rfl rfl ?_
  refine wicmpNo OGc 12 X1 B d10_9 (by decide) rfl ?_
  refine waloadN OGc 13 X1 B d10_12 rfl rfl rfl ?_
  refine wgetF OGc 16 X1 B hZ hown (ow hw 61 rfl) e1 R0 d10_13 rfl fun T3 X3 e3 => ?_
  refine wiloadN OGc 17 X3 B d10_16 rfl rfl ?_
  refine waloadN OGc 18 X3 B d10_17 rfl rfl rfl ?_
  refine wgetF OGc 21 X3 B hZ hown (ow hw 61 rfl) e3 R0 d10_18 rfl fun T4 X4 e4 => ?_
  refine waloadN OGc 22 X4 B d10_21 rfl rfl rfl ?_
  refine wgetF OGc 25 X4 B hZ hown (ow hw 61 rfl) e4 R0 d10_22 rfl fun T5 X5 e5 => ?_
  refine wiloadN OGc 26 X5 B d10_25 rfl rfl ?_
  refine wiaload OGc 27 X5 B hZ e5 R1 (v := (.int (1 : Int32))) 0 (by decide) (by decide) rfl d10_26 rfl ?_
  refine wiaload OGc 28 X5 B hZ e5 R1 (v := (.int (3 : Int32))) 1 (by decide) (by decide) rfl d10_27 rfl ?_
  refine wstI OGc 29 X5 B hZ e5 R1 0 (by decide) (by decide) (by decide : 0 < 4) d10_28 rfl fun T8 h8 X8 e8 W8 => ?_
  have N8 := Fr.snoc X8 N0 g_b
  have K9 := (Keep.refl h0 [b]).wr W8 (Or.inl (List.mem_of_getElem? (i := 0) rfl))
  have F10 := R0.other W8 (Or.inl ne_a1_b)
  have F11 : OA Z h8 b .int [(.int (3 : Int32)), (.int (3 : Int32)), (.int (3 : Int32)), (.int (3 : Int32))] := (R1.set W8 (i := 0) (by decide))
  refine waloadN OGc 30 X8 B d10_29 rfl rfl rfl ?_
  refine wgetF OGc 33 X8 B hZ hown (ow hw 61 rfl) e8 F10 d10_30 rfl fun T12 X12 e12 => ?_
  refine wiloadN OGc 34 X12 B d10_33 rfl rfl ?_
  refine wiaload OGc 35 X12 B hZ e12 F11 (v := (.int (3 : Int32))) 0 (by decide) (by decide) rfl d10_34 rfl ?_
  refine wistoreN OGc 36 X12 B d10_35 #[.val (.ref a1), .val (.int (0 : Int32)), .val (.int (3 : Int32))] rfl rfl ?_
  refine wgoto OGc 2 X12 B d10_36 rfl ?_
  refine waloadN OGc 3 X12 B d10_2 rfl rfl rfl ?_
  refine wgetF OGc 6 X12 B hZ hown (ow hw 61 rfl) e12 F10 d10_3 rfl fun T14 X14 e14 => ?_
  refine wiloadN OGc 7 X14 B d10_6 rfl rfl ?_
  refine wiaload OGc 8 X14 B hZ e14 F11 (v := (.int (3 : Int32))) 3 (by decide) (by decide) rfl d10_7 rfl ?_
  refine wiloadN OGc 9 X14 B d10_8 rfl rfl ?_
  refine wicmpYes OGc 39 X14 B d10_9 (by decide) rfl ?_
  refine wiloadN OGc 40 X14 B d10_39 rfl rfl ?_
  refine own_retI X14 hx hret hlk (hb hby d10_40) (by decide) (by decide) ?_
  rw [e14]
  exact ⟨rfl, N8, K9, F11⟩
theorem ef_10_9_1 (m : MethodId) (a1 : Addr) : entryFrame m #[(.ref a1), (.int (1 : Int32))] 3 = (mkF m 0 #[.val (.ref a1), .val (.int (1 : Int32)), .unset] []) := by first | (simp [entryFrame, mkF, argsToLocals, Value.category]; done) | rfl
abbrev Q10_9_1 (Z : State) (a1 : Addr) (b : Addr) (h0 : Heap) (n0 : Nat) : Option Value → Heap → List Loc → Prop := (fun v h L => v = some (.int (3 : Int32)) ∧ Fr n0 L ∧ Keep h0 h [b] ∧ OA Z h b .int [(.int (1 : Int32)), (.int (3 : Int32)), (.int (3 : Int32)), (.int (3 : Int32))])
set_option maxRecDepth 65536 in
set_option maxHeartbeats 40000000 in
theorem rm10_9_1 (l : Launch) (Z : State) (a0 : Array Value) (hw : ∀ d ∈ tables_1, d.before a0 Z = true) (ws : List Jvm.Cond) (a1 : Addr) (b : Addr) (h0 : Heap) (n0 : Nat) (R0 : Fld Z h0 a1 "com/example/fragmark/fragmark/PhraseTerm" "free" "[I" (.ref b)) (R1 : OA Z h0 b .int [(.int (1 : Int32)), (.int (3 : Int32)), (.int (3 : Int32)), (.int (3 : Int32))]) (g_b : n0 ≤ b) (ne_a1_b : a1 ≠ b) :
    OMet l Z (⟨"com/example/fragmark/fragmark/PhraseTerm", "nextFree", "(I)I"⟩ : MethodName) prog_35_method_16_code 3 (some .int) ws ({ frames := 0, cells := 0, slots := 0, locals := 0 } : Room) #[(.ref a1), (.int (1 : Int32))] h0 (Q10_9_1 Z a1 b h0 n0) := by
  refine own_enter pn_10 ?_
  intro p e s m below meth c s₁ hx hby hml0 hown hret hlk hnm hZ X0 e0
  have hml : c.maxLocals = 3 := hml0
  have B : BX p c prog_35_method_16_code := ⟨hx, hby⟩
  have N0 := Fr.nil n0
  refine own_cast (ef_10_9_1 m a1) ?_
  show OG p e ({ frames := 0, cells := 0, slots := 0, locals := 0 } : Room) s below (fun v h L => v = some (.int (3 : Int32)) ∧ Fr n0 L ∧ Keep h0 h [b] ∧ OA Z h b .int [(.int (1 : Int32)), (.int (3 : Int32)), (.int (3 : Int32)), (.int (3 : Int32))]) s₁ (mkF m 0 #[.val (.ref a1), .val (.int (1 : Int32)), .unset] [])
  refine wiloadN OGc 1 X0 B d10_0 rfl rfl ?_
  refine wistoreN OGc 2 X0 B d10_1 #[.val (.ref a1), .val (.int (1 : Int32)), .val (.int (1 : Int32))] rfl rfl ?_
  refine waloadN OGc 3 X0 B d10_2 rfl rfl rfl ?_
  refine wgetF OGc 6 X0 B hZ hown (ow hw 61 rfl) e0 R0 d10_3 rfl fun T1 X1 e1 => ?_
  refine wiloadN OGc 7 X1 B d10_6 rfl rfl ?_
  refine wiaload OGc 8 X1 B hZ e1 R1 (v := (.int (3 : Int32))) 1 (by decide) (by decide) rfl d10_7 rfl ?_
  refine wiloadN OGc 9 X1 B d10_8 rfl rfl ?_
  refine wicmpNo OGc 12 X1 B d10_9 (by decide) rfl ?_
  refine waloadN OGc 13 X1 B d10_12 rfl rfl rfl ?_
  refine wgetF OGc 16 X1 B hZ hown (ow hw 61 rfl) e1 R0 d10_13 rfl fun T3 X3 e3 => ?_
  refine wiloadN OGc 17 X3 B d10_16 rfl rfl ?_
  refine waloadN OGc 18 X3 B d10_17 rfl rfl rfl ?_
  refine wgetF OGc 21 X3 B hZ hown (ow hw 61 rfl) e3 R0 d10_18 rfl fun T4 X4 e4 => ?_
  refine waloadN OGc 22 X4 B d10_21 rfl rfl rfl ?_
  refine wgetF OGc 25 X4 B hZ hown (ow hw 61 rfl) e4 R0 d10_22 rfl fun T5 X5 e5 => ?_
  refine wiloadN OGc 26 X5 B d10_25 rfl rfl ?_
  refine wiaload OGc 27 X5 B hZ e5 R1 (v := (.int (3 : Int32))) 1 (by decide) (by decide) rfl d10_26 rfl ?_
  refine wiaload OGc 28 X5 B hZ e5 R1 (v := (.int (3 : Int32))) 3 (by decide) (by decide) rfl d10_27 rfl ?_
  refine wstI OGc 29 X5 B hZ e5 R1 1 (by decide) (by decide) (by decide : 1 < 4) d10_28 rfl fun T8 h8 X8 e8 W8 => ?_
  have N8 := Fr.snoc X8 N0 g_b
  have K9 := (Keep.refl h0 [b]).wr W8 (Or.inl (List.mem_of_getElem? (i := 0) rfl))
  have F10 := R0.other W8 (Or.inl ne_a1_b)
  have F11 : OA Z h8 b .int [(.int (1 : Int32)), (.int (3 : Int32)), (.int (3 : Int32)), (.int (3 : Int32))] := (R1.set W8 (i := 1) (by decide))
  refine waloadN OGc 30 X8 B d10_29 rfl rfl rfl ?_
  refine wgetF OGc 33 X8 B hZ hown (ow hw 61 rfl) e8 F10 d10_30 rfl fun T12 X12 e12 => ?_
  refine wiloadN OGc 34 X12 B d10_33 rfl rfl ?_
  refine wiaload OGc 35 X12 B hZ e12 F11 (v := (.int (3 : Int32))) 1 (by decide) (by decide) rfl d10_34 rfl ?_
  refine wistoreN OGc 36 X12 B d10_35 #[.val (.ref a1), .val (.int (1 : Int32)), .val (.int (3 : Int32))] rfl rfl ?_
  refine wgoto OGc 2 X12 B d10_36 rfl ?_
  refine waloadN OGc 3 X12 B d10_2 rfl rfl rfl ?_
  refine wgetF OGc 6 X12 B hZ hown (ow hw 61 rfl) e12 F10 d10_3 rfl fun T14 X14 e14 => ?_
  refine wiloadN OGc 7 X14 B d10_6 rfl rfl ?_
  refine wiaload OGc 8 X14 B hZ e14 F11 (v := (.int (3 : Int32))) 3 (by decide) (by decide) rfl d10_7 rfl ?_
  refine wiloadN OGc 9 X14 B d10_8 rfl rfl ?_
  refine wicmpYes OGc 39 X14 B d10_9 (by decide) rfl ?_
  refine wiloadN OGc 40 X14 B d10_39 rfl rfl ?_
  refine own_retI X14 hx hret hlk (hb hby d10_40) (by decide) (by decide) ?_
  rw [e14]
  exact ⟨rfl, N8, K9, F11⟩
theorem ef_10_9_2 (m : MethodId) (a1 : Addr) : entryFrame m #[(.ref a1), (.int (2 : Int32))] 3 = (mkF m 0 #[.val (.ref a1), .val (.int (2 : Int32)), .unset] []) := by first | (simp [entryFrame, mkF, argsToLocals, Value.category]; done) | rfl
abbrev Q10_9_2 (Z : State) (a1 : Addr) (b : Addr) (h0 : Heap) (n0 : Nat) : Option Value → Heap → List Loc → Prop := (fun v h L => v = some (.int (3 : Int32)) ∧ Fr n0 L ∧ Keep h0 h [b] ∧ OA Z h b .int [(.int (1 : Int32)), (.int (3 : Int32)), (.int (3 : Int32)), (.int (3 : Int32))])
set_option maxRecDepth 65536 in
set_option maxHeartbeats 40000000 in
theorem rm10_9_2 (l : Launch) (Z : State) (a0 : Array Value) (hw : ∀ d ∈ tables_1, d.before a0 Z = true) (ws : List Jvm.Cond) (a1 : Addr) (b : Addr) (h0 : Heap) (n0 : Nat) (R0 : Fld Z h0 a1 "com/example/fragmark/fragmark/PhraseTerm" "free" "[I" (.ref b)) (R1 : OA Z h0 b .int [(.int (1 : Int32)), (.int (3 : Int32)), (.int (3 : Int32)), (.int (3 : Int32))]) (g_b : n0 ≤ b) (ne_a1_b : a1 ≠ b) :
    OMet l Z (⟨"com/example/fragmark/fragmark/PhraseTerm", "nextFree", "(I)I"⟩ : MethodName) prog_35_method_16_code 3 (some .int) ws ({ frames := 0, cells := 0, slots := 0, locals := 0 } : Room) #[(.ref a1), (.int (2 : Int32))] h0 (Q10_9_2 Z a1 b h0 n0) := by
  refine own_enter pn_10 ?_
  intro p e s m below meth c s₁ hx hby hml0 hown hret hlk hnm hZ X0 e0
  have hml : c.maxLocals = 3 := hml0
  have B : BX p c prog_35_method_16_code := ⟨hx, hby⟩
  have N0 := Fr.nil n0
  refine own_cast (ef_10_9_2 m a1) ?_
  show OG p e ({ frames := 0, cells := 0, slots := 0, locals := 0 } : Room) s below (fun v h L => v = some (.int (3 : Int32)) ∧ Fr n0 L ∧ Keep h0 h [b] ∧ OA Z h b .int [(.int (1 : Int32)), (.int (3 : Int32)), (.int (3 : Int32)), (.int (3 : Int32))]) s₁ (mkF m 0 #[.val (.ref a1), .val (.int (2 : Int32)), .unset] [])
  refine wiloadN OGc 1 X0 B d10_0 rfl rfl ?_
  refine wistoreN OGc 2 X0 B d10_1 #[.val (.ref a1), .val (.int (2 : Int32)), .val (.int (2 : Int32))] rfl rfl ?_
  refine waloadN OGc 3 X0 B d10_2 rfl rfl rfl ?_
  refine wgetF OGc 6 X0 B hZ hown (ow hw 61 rfl) e0 R0 d10_3 rfl fun T1 X1 e1 => ?_
  refine wiloadN OGc 7 X1 B d10_6 rfl rfl ?_
  refine wiaload OGc 8 X1 B hZ e1 R1 (v := (.int (3 : Int32))) 2 (by decide) (by decide) rfl d10_7 rfl ?_
  refine wiloadN OGc 9 X1 B d10_8 rfl rfl ?_
  refine wicmpNo OGc 12 X1 B d10_9 (by decide) rfl ?_
  refine waloadN OGc 13 X1 B d10_12 rfl rfl rfl ?_
  refine wgetF OGc 16 X1 B hZ hown (ow hw 61 rfl) e1 R0 d10_13 rfl fun T3 X3 e3 => ?_
  refine wiloadN OGc 17 X3 B d10_16 rfl rfl ?_
  refine waloadN OGc 18 X3 B d10_17 rfl rfl rfl ?_
  refine wgetF OGc 21 X3 B hZ hown (ow hw 61 rfl) e3 R0 d10_18 rfl fun T4 X4 e4 => ?_
  refine waloadN OGc 22 X4 B d10_21 rfl rfl rfl ?_
  refine wgetF OGc 25 X4 B hZ hown (ow hw 61 rfl) e4 R0 d10_22 rfl fun T5 X5 e5 => ?_
  refine wiloadN OGc 26 X5 B d10_25 rfl rfl ?_
  refine wiaload OGc 27 X5 B hZ e5 R1 (v := (.int (3 : Int32))) 2 (by decide) (by decide) rfl d10_26 rfl ?_
  refine wiaload OGc 28 X5 B hZ e5 R1 (v := (.int (3 : Int32))) 3 (by decide) (by decide) rfl d10_27 rfl ?_
  refine wstI OGc 29 X5 B hZ e5 R1 2 (by decide) (by decide) (by decide : 2 < 4) d10_28 rfl fun T8 h8 X8 e8 W8 => ?_
  have N8 := Fr.snoc X8 N0 g_b
  have K9 := (Keep.refl h0 [b]).wr W8 (Or.inl (List.mem_of_getElem? (i := 0) rfl))
  have F10 := R0.other W8 (Or.inl ne_a1_b)
  have F11 : OA Z h8 b .int [(.int (1 : Int32)), (.int (3 : Int32)), (.int (3 : Int32)), (.int (3 : Int32))] := (R1.set W8 (i := 2) (by decide))
  refine waloadN OGc 30 X8 B d10_29 rfl rfl rfl ?_
  refine wgetF OGc 33 X8 B hZ hown (ow hw 61 rfl) e8 F10 d10_30 rfl fun T12 X12 e12 => ?_
  refine wiloadN OGc 34 X12 B d10_33 rfl rfl ?_
  refine wiaload OGc 35 X12 B hZ e12 F11 (v := (.int (3 : Int32))) 2 (by decide) (by decide) rfl d10_34 rfl ?_
  refine wistoreN OGc 36 X12 B d10_35 #[.val (.ref a1), .val (.int (2 : Int32)), .val (.int (3 : Int32))] rfl rfl ?_
  refine wgoto OGc 2 X12 B d10_36 rfl ?_
  refine waloadN OGc 3 X12 B d10_2 rfl rfl rfl ?_
  refine wgetF OGc 6 X12 B hZ hown (ow hw 61 rfl) e12 F10 d10_3 rfl fun T14 X14 e14 => ?_
  refine wiloadN OGc 7 X14 B d10_6 rfl rfl ?_
  refine wiaload OGc 8 X14 B hZ e14 F11 (v := (.int (3 : Int32))) 3 (by decide) (by decide) rfl d10_7 rfl ?_
  refine wiloadN OGc 9 X14 B d10_8 rfl rfl ?_
  refine wicmpYes OGc 39 X14 B d10_9 (by decide) rfl ?_
  refine wiloadN OGc 40 X14 B d10_39 rfl rfl ?_
  refine own_retI X14 hx hret hlk (hb hby d10_40) (by decide) (by decide) ?_
  rw [e14]
  exact ⟨rfl, N8, K9, F11⟩
theorem ef_10_9_3 (m : MethodId) (a1 : Addr) : entryFrame m #[(.ref a1), (.int (3 : Int32))] 3 = (mkF m 0 #[.val (.ref a1), .val (.int (3 : Int32)), .unset] []) := by first | (simp [entryFrame, mkF, argsToLocals, Value.category]; done) | rfl
abbrev Q10_9_3 (Z : State) (a1 : Addr) (b : Addr) (h0 : Heap) (n0 : Nat) : Option Value → Heap → List Loc → Prop := (fun v h L => v = some (.int (3 : Int32)) ∧ Fr n0 L ∧ Keep h0 h [b] ∧ OA Z h b .int [(.int (1 : Int32)), (.int (3 : Int32)), (.int (3 : Int32)), (.int (3 : Int32))])
set_option maxRecDepth 65536 in
set_option maxHeartbeats 40000000 in
theorem rm10_9_3 (l : Launch) (Z : State) (a0 : Array Value) (hw : ∀ d ∈ tables_1, d.before a0 Z = true) (ws : List Jvm.Cond) (a1 : Addr) (b : Addr) (h0 : Heap) (n0 : Nat) (R0 : Fld Z h0 a1 "com/example/fragmark/fragmark/PhraseTerm" "free" "[I" (.ref b)) (R1 : OA Z h0 b .int [(.int (1 : Int32)), (.int (3 : Int32)), (.int (3 : Int32)), (.int (3 : Int32))]) (g_b : n0 ≤ b) (ne_a1_b : a1 ≠ b) :
    OMet l Z (⟨"com/example/fragmark/fragmark/PhraseTerm", "nextFree", "(I)I"⟩ : MethodName) prog_35_method_16_code 3 (some .int) ws ({ frames := 0, cells := 0, slots := 0, locals := 0 } : Room) #[(.ref a1), (.int (3 : Int32))] h0 (Q10_9_3 Z a1 b h0 n0) := by
  refine own_enter pn_10 ?_
  intro p e s m below meth c s₁ hx hby hml0 hown hret hlk hnm hZ X0 e0
  have hml : c.maxLocals = 3 := hml0
  have B : BX p c prog_35_method_16_code := ⟨hx, hby⟩
  have N0 := Fr.nil n0
  refine own_cast (ef_10_9_3 m a1) ?_
  show OG p e ({ frames := 0, cells := 0, slots := 0, locals := 0 } : Room) s below (fun v h L => v = some (.int (3 : Int32)) ∧ Fr n0 L ∧ Keep h0 h [b] ∧ OA Z h b .int [(.int (1 : Int32)), (.int (3 : Int32)), (.int (3 : Int32)), (.int (3 : Int32))]) s₁ (mkF m 0 #[.val (.ref a1), .val (.int (3 : Int32)), .unset] [])
  refine wiloadN OGc 1 X0 B d10_0 rfl rfl ?_
  refine wistoreN OGc 2 X0 B d10_1 #[.val (.ref a1), .val (.int (3 : Int32)), .val (.int (3 : Int32))] rfl rfl ?_
  refine waloadN OGc 3 X0 B d10_2 rfl rfl rfl ?_
  refine wgetF OGc 6 X0 B hZ hown (ow hw 61 rfl) e0 R0 d10_3 rfl fun T1 X1 e1 => ?_
  refine wiloadN OGc 7 X1 B d10_6 rfl rfl ?_
  refine wiaload OGc 8 X1 B hZ e1 R1 (v := (.int (3 : Int32))) 3 (by decide) (by decide) rfl d10_7 rfl ?_
  refine wiloadN OGc 9 X1 B d10_8 rfl rfl ?_
  refine wicmpYes OGc 39 X1 B d10_9 (by decide) rfl ?_
  refine wiloadN OGc 40 X1 B d10_39 rfl rfl ?_
  refine own_retI X1 hx hret hlk (hb hby d10_40) (by decide) (by decide) ?_
  rw [e1]
  exact ⟨rfl, N0, (Keep.refl h0 [b]), R1⟩
theorem ef_10_10_0 (m : MethodId) (a1 : Addr) : entryFrame m #[(.ref a1), (.int (0 : Int32))] 3 = (mkF m 0 #[.val (.ref a1), .val (.int (0 : Int32)), .unset] []) := by first | (simp [entryFrame, mkF, argsToLocals, Value.category]; done) | rfl
abbrev Q10_10_0 (Z : State) (a1 : Addr) (b : Addr) (h0 : Heap) (n0 : Nat) : Option Value → Heap → List Loc → Prop := (fun v h L => v = some (.int (2 : Int32)) ∧ Fr n0 L ∧ Keep h0 h [b] ∧ OA Z h b .int [(.int (2 : Int32)), (.int (2 : Int32)), (.int (2 : Int32)), (.int (3 : Int32))])
set_option maxRecDepth 65536 in
set_option maxHeartbeats 40000000 in
theorem rm10_10_0 (l : Launch) (Z : State) (a0 : Array Value) (hw : ∀ d ∈ tables_1, d.before a0 Z = true) (ws : List Jvm.Cond) (a1 : Addr) (b : Addr) (h0 : Heap) (n0 : Nat) (R0 : Fld Z h0 a1 "com/example/fragmark/fragmark/PhraseTerm" "free" "[I" (.ref b)) (R1 : OA Z h0 b .int [(.int (2 : Int32)), (.int (2 : Int32)), (.int (2 : Int32)), (.int (3 : Int32))]) (g_b : n0 ≤ b) (ne_a1_b : a1 ≠ b) :
    OMet l Z (⟨"com/example/fragmark/fragmark/PhraseTerm", "nextFree", "(I)I"⟩ : MethodName) prog_35_method_16_code 3 (some .int) ws ({ frames := 0, cells := 0, slots := 0, locals := 0 } : Room) #[(.ref a1), (.int (0 : Int32))] h0 (Q10_10_0 Z a1 b h0 n0) := by
  refine own_enter pn_10 ?_
  intro p e s m below meth c s₁ hx hby hml0 hown hret hlk hnm hZ X0 e0
  have hml : c.maxLocals = 3 := hml0
  have B : BX p c prog_35_method_16_code := ⟨hx, hby⟩
  have N0 := Fr.nil n0
  refine own_cast (ef_10_10_0 m a1) ?_
  show OG p e ({ frames := 0, cells := 0, slots := 0, locals := 0 } : Room) s below (fun v h L => v = some (.int (2 : Int32)) ∧ Fr n0 L ∧ Keep h0 h [b] ∧ OA Z h b .int [(.int (2 : Int32)), (.int (2 : Int32)), (.int (2 : Int32)), (.int (3 : Int32))]) s₁ (mkF m 0 #[.val (.ref a1), .val (.int (0 : Int32)), .unset] [])
  refine wiloadN OGc 1 X0 B d10_0 rfl rfl ?_
  refine wistoreN OGc 2 X0 B d10_1 #[.val (.ref a1), .val (.int (0 : Int32)), .val (.int (0 : Int32))] rfl rfl ?_
  refine waloadN OGc 3 X0 B d10_2 rfl rfl rfl ?_
  refine wgetF OGc 6 X0 B hZ hown (ow hw 61 rfl) e0 R0 d10_3 rfl fun T1 X1 e1 => ?_
  refine wiloadN OGc 7 X1 B d10_6 rfl rfl ?_
  refine wiaload OGc 8 X1 B hZ e1 R1 (v := (.int (2 : Int32))) 0 (by decide) (by decide) rfl d10_7 rfl ?_
  refine wiloadN OGc 9 X1 B d10_8 rfl rfl ?_
  refine wicmpNo OGc 12 X1 B d10_9 (by decide) rfl ?_
  refine waloadN OGc 13 X1 B d10_12 rfl rfl rfl ?_
  refine wgetF OGc 16 X1 B hZ hown (ow hw 61 rfl) e1 R0 d10_13 rfl fun T3 X3 e3 => ?_
  refine wiloadN OGc 17 X3 B d10_16 rfl rfl ?_
  refine waloadN OGc 18 X3 B d10_17 rfl rfl rfl ?_
  refine wgetF OGc 21 X3 B hZ hown (ow hw 61 rfl) e3 R0 d10_18 rfl fun T4 X4 e4 => ?_
  refine waloadN OGc 22 X4 B d10_21 rfl rfl rfl ?_
  refine wgetF OGc 25 X4 B hZ hown (ow hw 61 rfl) e4 R0 d10_22 rfl fun T5 X5 e5 => ?_
  refine wiloadN OGc 26 X5 B d10_25 rfl rfl ?_
  refine wiaload OGc 27 X5 B hZ e5 R1 (v := (.int (2 : Int32))) 0 (by decide) (by decide) rfl d10_26 rfl ?_
  refine wiaload OGc 28 X5 B hZ e5 R1 (v := (.int (2 : Int32))) 2 (by decide) (by decide) rfl d10_27 rfl ?_
  refine wstI OGc 29 X5 B hZ e5 R1 0 (by decide) (by decide) (by decide : 0 < 4) d10_28 rfl fun T8 h8 X8 e8 W8 => ?_
  have N8 := Fr.snoc X8 N0 g_b
  have K9 := (Keep.refl h0 [b]).wr W8 (Or.inl (List.mem_of_getElem? (i := 0) rfl))
  have F10 := R0.other W8 (Or.inl ne_a1_b)
  have F11 : OA Z h8 b .int [(.int (2 : Int32)), (.int (2 : Int32)), (.int (2 : Int32)), (.int (3 : Int32))] := (R1.set W8 (i := 0) (by decide))
  refine waloadN OGc 30 X8 B d10_29 rfl rfl rfl ?_
  refine wgetF OGc 33 X8 B hZ hown (ow hw 61 rfl) e8 F10 d10_30 rfl fun T12 X12 e12 => ?_
  refine wiloadN OGc 34 X12 B d10_33 rfl rfl ?_
  refine wiaload OGc 35 X12 B hZ e12 F11 (v := (.int (2 : Int32))) 0 (by decide) (by decide) rfl d10_34 rfl ?_
  refine wistoreN OGc 36 X12 B d10_35 #[.val (.ref a1), .val (.int (0 : Int32)), .val (.int (2 : Int32))] rfl rfl ?_
  refine wgoto OGc 2 X12 B d10_36 rfl ?_
  refine waloadN OGc 3 X12 B d10_2 rfl rfl rfl ?_
  refine wgetF OGc 6 X12 B hZ hown (ow hw 61 rfl) e12 F10 d10_3 rfl fun T14 X14 e14 => ?_
  refine wiloadN OGc 7 X14 B d10_6 rfl rfl ?_
  refine wiaload OGc 8 X14 B hZ e14 F11 (v := (.int (2 : Int32))) 2 (by decide) (by decide) rfl d10_7 rfl ?_
  refine wiloadN OGc 9 X14 B d10_8 rfl rfl ?_
  refine wicmpYes OGc 39 X14 B d10_9 (by decide) rfl ?_
  refine wiloadN OGc 40 X14 B d10_39 rfl rfl ?_
  refine own_retI X14 hx hret hlk (hb hby d10_40) (by decide) (by decide) ?_
  rw [e14]
  exact ⟨rfl, N8, K9, F11⟩
theorem ef_10_10_1 (m : MethodId) (a1 : Addr) : entryFrame m #[(.ref a1), (.int (1 : Int32))] 3 = (mkF m 0 #[.val (.ref a1), .val (.int (1 : Int32)), .unset] []) := by first | (simp [entryFrame, mkF, argsToLocals, Value.category]; done) | rfl
abbrev Q10_10_1 (Z : State) (a1 : Addr) (b : Addr) (h0 : Heap) (n0 : Nat) : Option Value → Heap → List Loc → Prop := (fun v h L => v = some (.int (2 : Int32)) ∧ Fr n0 L ∧ Keep h0 h [b] ∧ OA Z h b .int [(.int (2 : Int32)), (.int (2 : Int32)), (.int (2 : Int32)), (.int (3 : Int32))])
set_option maxRecDepth 65536 in
set_option maxHeartbeats 40000000 in
theorem rm10_10_1 (l : Launch) (Z : State) (a0 : Array Value) (hw : ∀ d ∈ tables_1, d.before a0 Z = true) (ws : List Jvm.Cond) (a1 : Addr) (b : Addr) (h0 : Heap) (n0 : Nat) (R0 : Fld Z h0 a1 "com/example/fragmark/fragmark/PhraseTerm" "free" "[I" (.ref b)) (R1 : OA Z h0 b .int [(.int (2 : Int32)), (.int (2 : Int32)), (.int (2 : Int32)), (.int (3 : Int32))]) (g_b : n0 ≤ b) (ne_a1_b : a1 ≠ b) :
    OMet l Z (⟨"com/example/fragmark/fragmark/PhraseTerm", "nextFree", "(I)I"⟩ : MethodName) prog_35_method_16_code 3 (some .int) ws ({ frames := 0, cells := 0, slots := 0, locals := 0 } : Room) #[(.ref a1), (.int (1 : Int32))] h0 (Q10_10_1 Z a1 b h0 n0) := by
  refine own_enter pn_10 ?_
  intro p e s m below meth c s₁ hx hby hml0 hown hret hlk hnm hZ X0 e0
  have hml : c.maxLocals = 3 := hml0
  have B : BX p c prog_35_method_16_code := ⟨hx, hby⟩
  have N0 := Fr.nil n0
  refine own_cast (ef_10_10_1 m a1) ?_
  show OG p e ({ frames := 0, cells := 0, slots := 0, locals := 0 } : Room) s below (fun v h L => v = some (.int (2 : Int32)) ∧ Fr n0 L ∧ Keep h0 h [b] ∧ OA Z h b .int [(.int (2 : Int32)), (.int (2 : Int32)), (.int (2 : Int32)), (.int (3 : Int32))]) s₁ (mkF m 0 #[.val (.ref a1), .val (.int (1 : Int32)), .unset] [])
  refine wiloadN OGc 1 X0 B d10_0 rfl rfl ?_
  refine wistoreN OGc 2 X0 B d10_1 #[.val (.ref a1), .val (.int (1 : Int32)), .val (.int (1 : Int32))] rfl rfl ?_
  refine waloadN OGc 3 X0 B d10_2 rfl rfl rfl ?_
  refine wgetF OGc 6 X0 B hZ hown (ow hw 61 rfl) e0 R0 d10_3 rfl fun T1 X1 e1 => ?_
  refine wiloadN OGc 7 X1 B d10_6 rfl rfl ?_
  refine wiaload OGc 8 X1 B hZ e1 R1 (v := (.int (2 : Int32))) 1 (by decide) (by decide) rfl d10_7 rfl ?_
  refine wiloadN OGc 9 X1 B d10_8 rfl rfl ?_
  refine wicmpNo OGc 12 X1 B d10_9 (by decide) rfl ?_
  refine waloadN OGc 13 X1 B d10_12 rfl rfl rfl ?_
  refine wgetF OGc 16 X1 B hZ hown (ow hw 61 rfl) e1 R0 d10_13 rfl fun T3 X3 e3 => ?_
  refine wiloadN OGc 17 X3 B d10_16 rfl rfl ?_
  refine waloadN OGc 18 X3 B d10_17 rfl rfl rfl ?_
  refine wgetF OGc 21 X3 B hZ hown (ow hw 61 rfl) e3 R0 d10_18 rfl fun T4 X4 e4 => ?_
  refine waloadN OGc 22 X4 B d10_21 rfl rfl rfl ?_
  refine wgetF OGc 25 X4 B hZ hown (ow hw 61 rfl) e4 R0 d10_22 rfl fun T5 X5 e5 => ?_
  refine wiloadN OGc 26 X5 B d10_25 rfl rfl ?_
  refine wiaload OGc 27 X5 B hZ e5 R1 (v := (.int (2 : Int32))) 1 (by decide) (by decide) rfl d10_26 rfl ?_
  refine wiaload OGc 28 X5 B hZ e5 R1 (v := (.int (2 : Int32))) 2 (by decide) (by decide) rfl d10_27 rfl ?_
  refine wstI OGc 29 X5 B hZ e5 R1 1 (by decide) (by decide) (by decide : 1 < 4) d10_28 rfl fun T8 h8 X8 e8 W8 => ?_
  have N8 := Fr.snoc X8 N0 g_b
  have K9 := (Keep.refl h0 [b]).wr W8 (Or.inl (List.mem_of_getElem? (i := 0) rfl))
  have F10 := R0.other W8 (Or.inl ne_a1_b)
  have F11 : OA Z h8 b .int [(.int (2 : Int32)), (.int (2 : Int32)), (.int (2 : Int32)), (.int (3 : Int32))] := (R1.set W8 (i := 1) (by decide))
  refine waloadN OGc 30 X8 B d10_29 rfl rfl rfl ?_
  refine wgetF OGc 33 X8 B hZ hown (ow hw 61 rfl) e8 F10 d10_30 rfl fun T12 X12 e12 => ?_
  refine wiloadN OGc 34 X12 B d10_33 rfl rfl ?_
  refine wiaload OGc 35 X12 B hZ e12 F11 (v := (.int (2 : Int32))) 1 (by decide) (by decide) rfl d10_34 rfl ?_
  refine wistoreN OGc 36 X12 B d10_35 #[.val (.ref a1), .val (.int (1 : Int32)), .val (.int (2 : Int32))] rfl rfl ?_
  refine wgoto OGc 2 X12 B d10_36 rfl ?_
  refine waloadN OGc 3 X12 B d10_2 rfl rfl rfl ?_
  refine wgetF OGc 6 X12 B hZ hown (ow hw 61 rfl) e12 F10 d10_3 rfl fun T14 X14 e14 => ?_
  refine wiloadN OGc 7 X14 B d10_6 rfl rfl ?_
  refine wiaload OGc 8 X14 B hZ e14 F11 (v := (.int (2 : Int32))) 2 (by decide) (by decide) rfl d10_7 rfl ?_
  refine wiloadN OGc 9 X14 B d10_8 rfl rfl ?_
  refine wicmpYes OGc 39 X14 B d10_9 (by decide) rfl ?_
  refine wiloadN OGc 40 X14 B d10_39 rfl rfl ?_
  refine own_retI X14 hx hret hlk (hb hby d10_40) (by decide) (by decide) ?_
  rw [e14]
  exact ⟨rfl, N8, K9, F11⟩
theorem ef_10_10_2 (m : MethodId) (a1 : Addr) : entryFrame m #[(.ref a1), (.int (2 : Int32))] 3 = (mkF m 0 #[.val (.ref a1), .val (.int (2 : Int32)), .unset] []) := by first | (simp [entryFrame, mkF, argsToLocals, Value.category]; done) | rfl
abbrev Q10_10_2 (Z : State) (a1 : Addr) (b : Addr) (h0 : Heap) (n0 : Nat) : Option Value → Heap → List Loc → Prop := (fun v h L => v = some (.int (2 : Int32)) ∧ Fr n0 L ∧ Keep h0 h [b] ∧ OA Z h b .int [(.int (2 : Int32)), (.int (2 : Int32)), (.int (2 : Int32)), (.int (3 : Int32))])
set_option maxRecDepth 65536 in
set_option maxHeartbeats 40000000 in
theorem rm10_10_2 (l : Launch) (Z : State) (a0 : Array Value) (hw : ∀ d ∈ tables_1, d.before a0 Z = true) (ws : List Jvm.Cond) (a1 : Addr) (b : Addr) (h0 : Heap) (n0 : Nat) (R0 : Fld Z h0 a1 "com/example/fragmark/fragmark/PhraseTerm" "free" "[I" (.ref b)) (R1 : OA Z h0 b .int [(.int (2 : Int32)), (.int (2 : Int32)), (.int (2 : Int32)), (.int (3 : Int32))]) (g_b : n0 ≤ b) (ne_a1_b : a1 ≠ b) :
    OMet l Z (⟨"com/example/fragmark/fragmark/PhraseTerm", "nextFree", "(I)I"⟩ : MethodName) prog_35_method_16_code 3 (some .int) ws ({ frames := 0, cells := 0, slots := 0, locals := 0 } : Room) #[(.ref a1), (.int (2 : Int32))] h0 (Q10_10_2 Z a1 b h0 n0) := by
  refine own_enter pn_10 ?_
  intro p e s m below meth c s₁ hx hby hml0 hown hret hlk hnm hZ X0 e0
  have hml : c.maxLocals = 3 := hml0
  have B : BX p c prog_35_method_16_code := ⟨hx, hby⟩
  have N0 := Fr.nil n0
  refine own_cast (ef_10_10_2 m a1) ?_
  show OG p e ({ frames := 0, cells := 0, slots := 0, locals := 0 } : Room) s below (fun v h L => v = some (.int (2 : Int32)) ∧ Fr n0 L ∧ Keep h0 h [b] ∧ OA Z h b .int [(.int (2 : Int32)), (.int (2 : Int32)), (.int (2 : Int32)), (.int (3 : Int32))]) s₁ (mkF m 0 #[.val (.ref a1), .val (.int (2 : Int32)), .unset] [])
  refine wiloadN OGc 1 X0 B d10_0 rfl rfl ?_
  refine wistoreN OGc 2 X0 B d10_1 #[.val (.ref a1), .val (.int (2 : Int32)), .val (.int (2 : Int32))] rfl rfl ?_
  refine waloadN OGc 3 X0 B d10_2 rfl rfl rfl ?_
  refine wgetF OGc 6 X0 B hZ hown (ow hw 61 rfl) e0 R0 d10_3 rfl fun T1 X1 e1 => ?_
  refine wiloadN OGc 7 X1 B d10_6 rfl rfl ?_
  refine wiaload OGc 8 X1 B hZ e1 R1 (v := (.int (2 : Int32))) 2 (by decide) (by decide) rfl d10_7 rfl ?_
  refine wiloadN OGc 9 X1 B d10_8 rfl rfl ?_
  refine wicmpYes OGc 39 X1 B d10_9 (by decide) rfl ?_
  refine wiloadN OGc 40 X1 B d10_39 rfl rfl ?_
  refine own_retI X1 hx hret hlk (hb hby d10_40) (by decide) (by decide) ?_
  rw [e1]
  exact ⟨rfl, N0, (Keep.refl h0 [b]), R1⟩
theorem ef_10_10_3 (m : MethodId) (a1 : Addr) : entryFrame m #[(.ref a1), (.int (3 : Int32))] 3 = (mkF m 0 #[.val (.ref a1), .val (.int (3 : Int32)), .unset] []) := by first | (simp [entryFrame, mkF, argsToLocals, Value.category]; done) | rfl
abbrev Q10_10_3 (Z : State) (a1 : Addr) (b : Addr) (h0 : Heap) (n0 : Nat) : Option Value → Heap → List Loc → Prop := (fun v h L => v = some (.int (3 : Int32)) ∧ Fr n0 L ∧ Keep h0 h [b] ∧ OA Z h b .int [(.int (2 : Int32)), (.int (2 : Int32)), (.int (2 : Int32)), (.int (3 : Int32))])
set_option maxRecDepth 65536 in
set_option maxHeartbeats 40000000 in
theorem rm10_10_3 (l : Launch) (Z : State) (a0 : Array Value) (hw : ∀ d ∈ tables_1, d.before a0 Z = true) (ws : List Jvm.Cond) (a1 : Addr) (b : Addr) (h0 : Heap) (n0 : Nat) (R0 : Fld Z h0 a1 "com/example/fragmark/fragmark/PhraseTerm" "free" "[I" (.ref b)) (R1 : OA Z h0 b .int [(.int (2 : Int32)), (.int (2 : Int32)), (.int (2 : Int32)), (.int (3 : Int32))]) (g_b : n0 ≤ b) (ne_a1_b : a1 ≠ b) :
    OMet l Z (⟨"com/example/fragmark/fragmark/PhraseTerm", "nextFree", "(I)I"⟩ : MethodName) prog_35_method_16_code 3 (some .int) ws ({ frames := 0, cells := 0, slots := 0, locals := 0 } : Room) #[(.ref a1), (.int (3 : Int32))] h0 (Q10_10_3 Z a1 b h0 n0) := by
  refine own_enter pn_10 ?_
  intro p e s m below meth c s₁ hx hby hml0 hown hret hlk hnm hZ X0 e0
  have hml : c.maxLocals = 3 := hml0
  have B : BX p c prog_35_method_16_code := ⟨hx, hby⟩
  have N0 := Fr.nil n0
  refine own_cast (ef_10_10_3 m a1) ?_
  show OG p e ({ frames := 0, cells := 0, slots := 0, locals := 0 } : Room) s below (fun v h L => v = some (.int (3 : Int32)) ∧ Fr n0 L ∧ Keep h0 h [b] ∧ OA Z h b .int [(.int (2 : Int32)), (.int (2 : Int32)), (.int (2 : Int32)), (.int (3 : Int32))]) s₁ (mkF m 0 #[.val (.ref a1), .val (.int (3 : Int32)), .unset] [])
  refine wiloadN OGc 1 X0 B d10_0 rfl rfl ?_
  refine wistoreN OGc 2 X0 B d10_1 #[.val (.ref a1), .val (.int (3 : Int32)), .val (.int (3 : Int32))] rfl rfl ?_
  refine waloadN OGc 3 X0 B d10_2 rfl rfl rfl ?_
  refine wgetF OGc 6 X0 B hZ hown (ow hw 61 rfl) e0 R0 d10_3 rfl fun T1 X1 e1 => ?_
  refine wiloadN OGc 7 X1 B d10_6 rfl rfl ?_
  refine wiaload OGc 8 X1 B hZ e1 R1 (v := (.int (3 : Int32))) 3 (by decide) (by decide) rfl d10_7 rfl ?_
  refine wiloadN OGc 9 X1 B d10_8 rfl rfl ?_
  refine wicmpYes OGc 39 X1 B d10_9 (by decide) rfl ?_
  refine wiloadN OGc 40 X1 B d10_39 rfl rfl ?_
  refine own_retI X1 hx hret hlk (hb hby d10_40) (by decide) (by decide) ?_
  rw [e1]
  exact ⟨rfl, N0, (Keep.refl h0 [b]), R1⟩
theorem ef_10_11_0 (m : MethodId) (a1 : Addr) : entryFrame m #[(.ref a1), (.int (0 : Int32))] 3 = (mkF m 0 #[.val (.ref a1), .val (.int (0 : Int32)), .unset] []) := by first | (simp [entryFrame, mkF, argsToLocals, Value.category]; done) | rfl
abbrev Q10_11_0 (Z : State) (a1 : Addr) (b : Addr) (h0 : Heap) (n0 : Nat) : Option Value → Heap → List Loc → Prop := (fun v h L => v = some (.int (3 : Int32)) ∧ Fr n0 L ∧ Keep h0 h [b] ∧ OA Z h b .int [(.int (3 : Int32)), (.int (2 : Int32)), (.int (3 : Int32)), (.int (3 : Int32))])
set_option maxRecDepth 65536 in
set_option maxHeartbeats 40000000 in
theorem rm10_11_0 (l : Launch) (Z : State) (a0 : Array Value) (hw : ∀ d ∈ tables_1, d.before a0 Z = true) (ws : List Jvm.Cond) (a1 : Addr) (b : Addr) (h0 : Heap) (n0 : Nat) (R0 : Fld Z h0 a1 "com/example/fragmark/fragmark/PhraseTerm" "free" "[I" (.ref b)) (R1 : OA Z h0 b .int [(.int (2 : Int32)), (.int (2 : Int32)), (.int (3 : Int32)), (.int (3 : Int32))]) (g_b : n0 ≤ b) (ne_a1_b : a1 ≠ b) :
    OMet l Z (⟨"com/example/fragmark/fragmark/PhraseTerm", "nextFree", "(I)I"⟩ : MethodName) prog_35_method_16_code 3 (some .int) ws ({ frames := 0, cells := 0, slots := 0, locals := 0 } : Room) #[(.ref a1), (.int (0 : Int32))] h0 (Q10_11_0 Z a1 b h0 n0) := by
  refine own_enter pn_10 ?_
  intro p e s m below meth c s₁ hx hby hml0 hown hret hlk hnm hZ X0 e0
  have hml : c.maxLocals = 3 := hml0
  have B : BX p c prog_35_method_16_code := ⟨hx, hby⟩
  have N0 := Fr.nil n0
  refine own_cast (ef_10_11_0 m a1) ?_
  show OG p e ({ frames := 0, cells := 0, slots := 0, locals := 0 } : Room) s below (fun v h L => v = some (.int (3 : Int32)) ∧ Fr n0 L ∧ Keep h0 h [b] ∧ OA Z h b .int [(.int (3 : Int32)), (.int (2 : Int32)), (.int (3 : Int32)), (.int (3 : Int32))]) s₁ (mkF m 0 #[.val (.ref a1), .val (.int (0 : Int32)), .unset] [])
  refine wiloadN OGc 1 X0 B d10_0 rfl rfl ?_
  refine wistoreN OGc 2 X0 B d10_1 #[.val (.ref a1), .val (.int (0 : Int32)), .val (.int (0 : Int32))] rfl rfl ?_
  refine waloadN OGc 3 X0 B d10_2 rfl rfl rfl ?_
  refine wgetF OGc 6 X0 B hZ hown (ow hw 61 rfl) e0 R0 d10_3 rfl fun T1 X1 e1 => ?_
  refine wiloadN OGc 7 X1 B d10_6 rfl rfl ?_
  refine wiaload OGc 8 X1 B hZ e1 R1 (v := (.int (2 : Int32))) 0 (by decide) (by decide) rfl d10_7 rfl ?_
  refine wiloadN OGc 9 X1 B d10_8 rfl rfl ?_
  refine wicmpNo OGc 12 X1 B d10_9 (by decide) rfl ?_
  refine waloadN OGc 13 X1 B d10_12 rfl rfl rfl ?_
  refine wgetF OGc 16 X1 B hZ hown (ow hw 61 rfl) e1 R0 d10_13 rfl fun T3 X3 e3 => ?_
  refine wiloadN OGc 17 X3 B d10_16 rfl rfl ?_
  refine waloadN OGc 18 X3 B d10_17 rfl rfl rfl ?_
  refine wgetF OGc 21 X3 B hZ hown (ow hw 61 rfl) e3 R0 d10_18 rfl fun T4 X4 e4 => ?_
  refine waloadN OGc 22 X4 B d10_21 rfl rfl rfl ?_
  refine wgetF OGc 25 X4 B hZ hown (ow hw 61 rfl) e4 R0 d10_22 rfl fun T5 X5 e5 => ?_
  refine wiloadN OGc 26 X5 B d10_25 rfl rfl ?_
  refine wiaload OGc 27 X5 B hZ e5 R1 (v := (.int (2 : Int32))) 0 (by decide) (by decide) rfl d10_26 rfl ?_
  refine wiaload OGc 28 X5 B hZ e5 R1 (v := (.int (3 : Int32))) 2 (by decide) (by decide) rfl d10_27 rfl ?_
  refine wstI OGc 29 X5 B hZ e5 R1 0 (by decide) (by decide) (by decide : 0 < 4) d10_28 rfl fun T8 h8 X8 e8 W8 => ?_
  have N8 := Fr.snoc X8 N0 g_b
  have K9 := (Keep.refl h0 [b]).wr W8 (Or.inl (List.mem_of_getElem? (i := 0) rfl))
  have F10 := R0.other W8 (Or.inl ne_a1_b)
  have F11 : OA Z h8 b .int [(.int (3 : Int32)), (.int (2 : Int32)), (.int (3 : Int32)), (.int (3 : Int32))] := (R1.set W8 (i := 0) (by decide))
  refine waloadN OGc 30 X8 B d10_29 rfl rfl rfl ?_
  refine wgetF OGc 33 X8 B hZ hown (ow hw 61 rfl) e8 F10 d10_30 rfl fun T12 X12 e12 => ?_
  refine wiloadN OGc 34 X12 B d10_33 rfl rfl ?_
  refine wiaload OGc 35 X12 B hZ e12 F11 (v := (.int (3 : Int32))) 0 (by decide) (by decide) rfl d10_34 rfl ?_
  refine wistoreN OGc 36 X12 B d10_35 #[.val (.ref a1), .val (.int (0 : Int32)), .val (.int (3 : Int32))] rfl rfl ?_
  refine wgoto OGc 2 X12 B d10_36 rfl ?_
  refine waloadN OGc 3 X12 B d10_2 rfl rfl rfl ?_
  refine wgetF OGc 6 X12 B hZ hown (ow hw 61 rfl) e12 F10 d10_3 rfl fun T14 X14 e14 => ?_
  refine wiloadN OGc 7 X14 B d10_6 rfl rfl ?_
  refine wiaload OGc 8 X14 B hZ e14 F11 (v := (.int (3 : Int32))) 3 (by decide) (by decide) rfl d10_7 rfl ?_
  refine wiloadN OGc 9 X14 B d10_8 rfl rfl ?_
  refine wicmpYes OGc 39 X14 B d10_9 (by decide) rfl ?_
  refine wiloadN OGc 40 X14 B d10_39 rfl rfl ?_
  refine own_retI X14 hx hret hlk (hb hby d10_40) (by decide) (by decide) ?_
  rw [e14]
  exact ⟨rfl, N8, K9, F11⟩
theorem ef_10_11_1 (m : MethodId) (a1 : Addr) : entryFrame m #[(.ref a1), (.int (1 : Int32))] 3 = (mkF m 0 #[.val (.ref a1), .val (.int (1 : Int32)), .unset] []) := by first | (simp [entryFrame, mkF, argsToLocals, Value.category]; done) | rfl
abbrev Q10_11_1 (Z : State) (a1 : Addr) (b : Addr) (h0 : Heap) (n0 : Nat) : Option Value → Heap → List Loc → Prop := (fun v h L => v = some (.int (3 : Int32)) ∧ Fr n0 L ∧ Keep h0 h [b] ∧ OA Z h b .int [(.int (2 : Int32)), (.int (3 : Int32)), (.int (3 : Int32)), (.int (3 : Int32))])
set_option maxRecDepth 65536 in
set_option maxHeartbeats 40000000 in
theorem rm10_11_1 (l : Launch) (Z : State) (a0 : Array Value) (hw : ∀ d ∈ tables_1, d.before a0 Z = true) (ws : List Jvm.Cond) (a1 : Addr) (b : Addr) (h0 : Heap) (n0 : Nat) (R0 : Fld Z h0 a1 "com/example/fragmark/fragmark/PhraseTerm" "free" "[I" (.ref b)) (R1 : OA Z h0 b .int [(.int (2 : Int32)), (.int (2 : Int32)), (.int (3 : Int32)), (.int (3 : Int32))]) (g_b : n0 ≤ b) (ne_a1_b : a1 ≠ b) :
    OMet l Z (⟨"com/example/fragmark/fragmark/PhraseTerm", "nextFree", "(I)I"⟩ : MethodName) prog_35_method_16_code 3 (some .int) ws ({ frames := 0, cells := 0, slots := 0, locals := 0 } : Room) #[(.ref a1), (.int (1 : Int32))] h0 (Q10_11_1 Z a1 b h0 n0) := by
  refine own_enter pn_10 ?_
  intro p e s m below meth c s₁ hx hby hml0 hown hret hlk hnm hZ X0 e0
  have hml : c.maxLocals = 3 := hml0
  have B : BX p c prog_35_method_16_code := ⟨hx, hby⟩
  have N0 := Fr.nil n0
  refine own_cast (ef_10_11_1 m a1) ?_
  show OG p e ({ frames := 0, cells := 0, slots := 0, locals := 0 } : Room) s below (fun v h L => v = some (.int (3 : Int32)) ∧ Fr n0 L ∧ Keep h0 h [b] ∧ OA Z h b .int [(.int (2 : Int32)), (.int (3 : Int32)), (.int (3 : Int32)), (.int (3 : Int32))]) s₁ (mkF m 0 #[.val (.ref a1), .val (.int (1 : Int32)), .unset] [])
  refine wiloadN OGc 1 X0 B d10_0 rfl rfl ?_
  refine wistoreN OGc 2 X0 B d10_1 #[.val (.ref a1), .val (.int (1 : Int32)), .val (.int (1 : Int32))] rfl rfl ?_
  refine waloadN OGc 3 X0 B d10_2 rfl rfl rfl ?_
  refine wgetF OGc 6 X0 B hZ hown (ow hw 61 rfl) e0 R0 d10_3 rfl fun T1 X1 e1 => ?_
  refine wiloadN OGc 7 X1 B d10_6 rfl rfl ?_
  refine wiaload OGc 8 X1 B hZ e1 R1 (v := (.int (2 : Int32))) 1 (by decide) (by decide) rfl d10_7 rfl ?_
  refine wiloadN OGc 9 X1 B d10_8 rfl rfl ?_
  refine wicmpNo OGc 12 X1 B d10_9 (by decide) rfl ?_
  refine waloadN OGc 13 X1 B d10_12 rfl rfl rfl ?_
  refine wgetF OGc 16 X1 B hZ hown (ow hw 61 rfl) e1 R0 d10_13 rfl fun T3 X3 e3 => ?_
  refine wiloadN OGc 17 X3 B d10_16 rfl rfl ?_
  refine waloadN OGc 18 X3 B d10_17 rfl rfl rfl ?_
  refine wgetF OGc 21 X3 B hZ hown (ow hw 61 rfl) e3 R0 d10_18 rfl fun T4 X4 e4 => ?_
  refine waloadN OGc 22 X4 B d10_21 rfl rfl rfl ?_
  refine wgetF OGc 25 X4 B hZ hown (ow hw 61 rfl) e4 R0 d10_22 rfl fun T5 X5 e5 => ?_
  refine wiloadN OGc 26 X5 B d10_25 rfl rfl ?_
  refine wiaload OGc 27 X5 B hZ e5 R1 (v := (.int (2 : Int32))) 1 (by decide) (by decide) rfl d10_26 rfl ?_
  refine wiaload OGc 28 X5 B hZ e5 R1 (v := (.int (3 : Int32))) 2 (by decide) (by decide) rfl d10_27 rfl ?_
  refine wstI OGc 29 X5 B hZ e5 R1 1 (by decide) (by decide) (by decide : 1 < 4) d10_28 rfl fun T8 h8 X8 e8 W8 => ?_
  have N8 := Fr.snoc X8 N0 g_b
  have K9 := (Keep.refl h0 [b]).wr W8 (Or.inl (List.mem_of_getElem? (i := 0) rfl))
  have F10 := R0.other W8 (Or.inl ne_a1_b)
  have F11 : OA Z h8 b .int [(.int (2 : Int32)), (.int (3 : Int32)), (.int (3 : Int32)), (.int (3 : Int32))] := (R1.set W8 (i := 1) (by decide))
  refine waloadN OGc 30 X8 B d10_29 rfl rfl rfl ?_
  refine wgetF OGc 33 X8 B hZ hown (ow hw 61 rfl) e8 F10 d10_30 rfl fun T12 X12 e12 => ?_
  refine wiloadN OGc 34 X12 B d10_33 rfl rfl ?_
  refine wiaload OGc 35 X12 B hZ e12 F11 (v := (.int (3 : Int32))) 1 (by decide) (by decide) rfl d10_34 rfl ?_
  refine wistoreN OGc 36 X12 B d10_35 #[.val (.ref a1), .val (.int (1 : Int32)), .val (.int (3 : Int32))] rfl rfl ?_
  refine wgoto OGc 2 X12 B d10_36 rfl ?_
  refine waloadN OGc 3 X12 B d10_2 rfl rfl rfl ?_
  refine wgetF OGc 6 X12 B hZ hown (ow hw 61 rfl) e12 F10 d10_3 rfl fun T14 X14 e14 => ?_
  refine wiloadN OGc 7 X14 B d10_6 rfl rfl ?_
  refine wiaload OGc 8 X14 B hZ e14 F11 (v := (.int (3 : Int32))) 3 (by decide) (by decide) rfl d10_7 rfl ?_
  refine wiloadN OGc 9 X14 B d10_8 rfl rfl ?_
  refine wicmpYes OGc 39 X14 B d10_9 (by decide) rfl ?_
  refine wiloadN OGc 40 X14 B d10_39 rfl rfl ?_
  refine own_retI X14 hx hret hlk (hb hby d10_40) (by decide) (by decide) ?_
  rw [e14]
  exact ⟨rfl, N8, K9, F11⟩
theorem ef_10_11_2 (m : MethodId) (a1 : Addr) : entryFrame m #[(.ref a1), (.int (2 : Int32))] 3 = (mkF m 0 #[.val (.ref a1), .val (.int (2 : Int32)), .unset] []) := by first | (simp [entryFrame, mkF, argsToLocals, Value.category]; done) | rfl
abbrev Q10_11_2 (Z : State) (a1 : Addr) (b : Addr) (h0 : Heap) (n0 : Nat) : Option Value → Heap → List Loc → Prop := (fun v h L => v = some (.int (3 : Int32)) ∧ Fr n0 L ∧ Keep h0 h [b] ∧ OA Z h b .int [(.int (2 : Int32)), (.int (2 : Int32)), (.int (3 : Int32)), (.int (3 : Int32))])
set_option maxRecDepth 65536 in
set_option maxHeartbeats 40000000 in
theorem rm10_11_2 (l : Launch) (Z : State) (a0 : Array Value) (hw : ∀ d ∈ tables_1, d.before a0 Z = true) (ws : List Jvm.Cond) (a1 : Addr) (b : Addr) (h0 : Heap) (n0 : Nat) (R0 : Fld Z h0 a1 "com/example/fragmark/fragmark/PhraseTerm" "free" "[I" (.ref b)) (R1 : OA Z h0 b .int [(.int (2 : Int32)), (.int (2 : Int32)), (.int (3 : Int32)), (.int (3 : Int32))]) (g_b : n0 ≤ b) (ne_a1_b : a1 ≠ b) :
    OMet l Z (⟨"com/example/fragmark/fragmark/PhraseTerm", "nextFree", "(I)I"⟩ : MethodName) prog_35_method_16_code 3 (some .int) ws ({ frames := 0, cells := 0, slots := 0, locals := 0 } : Room) #[(.ref a1), (.int (2 : Int32))] h0 (Q10_11_2 Z a1 b h0 n0) := by
  refine own_enter pn_10 ?_
  intro p e s m below meth c s₁ hx hby hml0 hown hret hlk hnm hZ X0 e0
  have hml : c.maxLocals = 3 := hml0
  have B : BX p c prog_35_method_16_code := ⟨hx, hby⟩
  have N0 := Fr.nil n0
  refine own_cast (ef_10_11_2 m a1) ?_
  show OG p e ({ frames := 0, cells := 0, slots := 0, locals := 0 } : Room) s below (fun v h L => v = some (.int (3 : Int32)) ∧ Fr n0 L ∧ Keep h0 h [b] ∧ OA Z h b .int [(.int (2 : Int32)), (.int (2 : Int32)), (.int (3 : Int32)), (.int (3 : Int32))]) s₁ (mkF m 0 #[.val (.ref a1), .val (.int (2 : Int32)), .unset] [])
  refine wiloadN OGc 1 X0 B d10_0 rfl rfl ?_
  refine wistoreN OGc 2 X0 B d10_1 #[.val (.ref a1), .val (.int (2 : Int32)), .val (.int (2 : Int32))] rfl rfl ?_
  refine waloadN OGc 3 X0 B d10_2 rfl rfl rfl ?_
  refine wgetF OGc 6 X0 B hZ hown (ow hw 61 rfl) e0 R0 d10_3 rfl fun T1 X1 e1 => ?_
  refine wiloadN OGc 7 X1 B d10_6 rfl rfl ?_
  refine wiaload OGc 8 X1 B hZ e1 R1 (v := (.int (3 : Int32))) 2 (by decide) (by decide) rfl d10_7 rfl ?_
  refine wiloadN OGc 9 X1 B d10_8 rfl rfl ?_
  refine wicmpNo OGc 12 X1 B d10_9 (by decide) rfl ?_
  refine waloadN OGc 13 X1 B d10_12 rfl rfl rfl ?_
  refine wgetF OGc 16 X1 B hZ hown (ow hw 61 rfl) e1 R0 d10_13 rfl fun T3 X3 e3 => ?_
  refine wiloadN OGc 17 X3 B d10_16 rfl rfl ?_
  refine waloadN OGc 18 X3 B d10_17 rfl rfl rfl ?_
  refine wgetF OGc 21 X3 B hZ hown (ow hw 61 rfl) e3 R0 d10_18 rfl fun T4 X4 e4 => ?_
  refine waloadN OGc 22 X4 B d10_21 rfl rfl rfl ?_
  refine wgetF OGc 25 X4 B hZ hown (ow hw 61 rfl) e4 R0 d10_22 rfl fun T5 X5 e5 => ?_
  refine wiloadN OGc 26 X5 B d10_25 rfl rfl ?_
  refine wiaload OGc 27 X5 B hZ e5 R1 (v := (.int (3 : Int32))) 2 (by decide) (by decide) rfl d10_26 rfl ?_
  refine wiaload OGc 28 X5 B hZ e5 R1 (v := (.int (3 : Int32))) 3 (by decide) (by decide) rfl d10_27 rfl ?_
  refine wstI OGc 29 X5 B hZ e5 R1 2 (by decide) (by decide) (by decide : 2 < 4) d10_28 rfl fun T8 h8 X8 e8 W8 => ?_
  have N8 := Fr.snoc X8 N0 g_b
  have K9 := (Keep.refl h0 [b]).wr W8 (Or.inl (List.mem_of_getElem? (i := 0) rfl))
  have F10 := R0.other W8 (Or.inl ne_a1_b)
  have F11 : OA Z h8 b .int [(.int (2 : Int32)), (.int (2 : Int32)), (.int (3 : Int32)), (.int (3 : Int32))] := (R1.set W8 (i := 2) (by decide))
  refine waloadN OGc 30 X8 B d10_29 rfl rfl rfl ?_
  refine wgetF OGc 33 X8 B hZ hown (ow hw 61 rfl) e8 F10 d10_30 rfl fun T12 X12 e12 => ?_
  refine wiloadN OGc 34 X12 B d10_33 rfl rfl ?_
  refine wiaload OGc 35 X12 B hZ e12 F11 (v := (.int (3 : Int32))) 2 (by decide) (by decide) rfl d10_34 rfl ?_
  refine wistoreN OGc 36 X12 B d10_35 #[.val (.ref a1), .val (.int (2 : Int32)), .val (.int (3 : Int32))] rfl rfl ?_
  refine wgoto OGc 2 X12 B d10_36 rfl ?_
  refine waloadN OGc 3 X12 B d10_2 rfl rfl rfl ?_
  refine wgetF OGc 6 X12 B hZ hown (ow hw 61 rfl) e12 F10 d10_3 rfl fun T14 X14 e14 => ?_
  refine wiloadN OGc 7 X14 B d10_6 rfl rfl ?_
  refine wiaload OGc 8 X14 B hZ e14 F11 (v := (.int (3 : Int32))) 3 (by decide) (by decide) rfl d10_7 rfl ?_
  refine wiloadN OGc 9 X14 B d10_8 rfl rfl ?_
  refine wicmpYes OGc 39 X14 B d10_9 (by decide) rfl ?_
  refine wiloadN OGc 40 X14 B d10_39 rfl rfl ?_
  refine own_retI X14 hx hret hlk (hb hby d10_40) (by decide) (by decide) ?_
  rw [e14]
  exact ⟨rfl, N8, K9, F11⟩
theorem ef_10_11_3 (m : MethodId) (a1 : Addr) : entryFrame m #[(.ref a1), (.int (3 : Int32))] 3 = (mkF m 0 #[.val (.ref a1), .val (.int (3 : Int32)), .unset] []) := by first | (simp [entryFrame, mkF, argsToLocals, Value.category]; done) | rfl
abbrev Q10_11_3 (Z : State) (a1 : Addr) (b : Addr) (h0 : Heap) (n0 : Nat) : Option Value → Heap → List Loc → Prop := (fun v h L => v = some (.int (3 : Int32)) ∧ Fr n0 L ∧ Keep h0 h [b] ∧ OA Z h b .int [(.int (2 : Int32)), (.int (2 : Int32)), (.int (3 : Int32)), (.int (3 : Int32))])
set_option maxRecDepth 65536 in
set_option maxHeartbeats 40000000 in
theorem rm10_11_3 (l : Launch) (Z : State) (a0 : Array Value) (hw : ∀ d ∈ tables_1, d.before a0 Z = true) (ws : List Jvm.Cond) (a1 : Addr) (b : Addr) (h0 : Heap) (n0 : Nat) (R0 : Fld Z h0 a1 "com/example/fragmark/fragmark/PhraseTerm" "free" "[I" (.ref b)) (R1 : OA Z h0 b .int [(.int (2 : Int32)), (.int (2 : Int32)), (.int (3 : Int32)), (.int (3 : Int32))]) (g_b : n0 ≤ b) (ne_a1_b : a1 ≠ b) :
    OMet l Z (⟨"com/example/fragmark/fragmark/PhraseTerm", "nextFree", "(I)I"⟩ : MethodName) prog_35_method_16_code 3 (some .int) ws ({ frames := 0, cells := 0, slots := 0, locals := 0 } : Room) #[(.ref a1), (.int (3 : Int32))] h0 (Q10_11_3 Z a1 b h0 n0) := by
  refine own_enter pn_10 ?_
  intro p e s m below meth c s₁ hx hby hml0 hown hret hlk hnm hZ X0 e0
  have hml : c.maxLocals = 3 := hml0
  have B : BX p c prog_35_method_16_code := ⟨hx, hby⟩
  have N0 := Fr.nil n0
  refine own_cast (ef_10_11_3 m a1) ?_
  show OG p e ({ frames := 0, cells := 0, slots := 0, locals := 0 } : Room) s below (fun v h L => v = some (.int (3 : Int32)) ∧ Fr n0 L ∧ Keep h0 h [b] ∧ OA Z h b .int [(.int (2 : Int32)), (.int (2 : Int32)), (.int (3 : Int32)), (.int (3 : Int32))]) s₁ (mkF m 0 #[.val (.ref a1), .val (.int (3 : Int32)), .unset] [])
  refine wiloadN OGc 1 X0 B d10_0 rfl rfl ?_
  refine wistoreN OGc 2 X0 B d10_1 #[.val (.ref a1), .val (.int (3 : Int32)), .val (.int (3 : Int32))] rfl rfl ?_
  refine waloadN OGc 3 X0 B d10_2 rfl rfl rfl ?_
  refine wgetF OGc 6 X0 B hZ hown (ow hw 61 rfl) e0 R0 d10_3 rfl fun T1 X1 e1 => ?_
  refine wiloadN OGc 7 X1 B d10_6 rfl rfl ?_
  refine wiaload OGc 8 X1 B hZ e1 R1 (v := (.int (3 : Int32))) 3 (by decide) (by decide) rfl d10_7 rfl ?_
  refine wiloadN OGc 9 X1 B d10_8 rfl rfl ?_
  refine wicmpYes OGc 39 X1 B d10_9 (by decide) rfl ?_
  refine wiloadN OGc 40 X1 B d10_39 rfl rfl ?_
  refine own_retI X1 hx hret hlk (hb hby d10_40) (by decide) (by decide) ?_
  rw [e1]
  exact ⟨rfl, N0, (Keep.refl h0 [b]), R1⟩
theorem ef_10_12_0 (m : MethodId) (a1 : Addr) : entryFrame m #[(.ref a1), (.int (0 : Int32))] 3 = (mkF m 0 #[.val (.ref a1), .val (.int (0 : Int32)), .unset] []) := by first | (simp [entryFrame, mkF, argsToLocals, Value.category]; done) | rfl
abbrev Q10_12_0 (Z : State) (a1 : Addr) (b : Addr) (h0 : Heap) (n0 : Nat) : Option Value → Heap → List Loc → Prop := (fun v h L => v = some (.int (3 : Int32)) ∧ Fr n0 L ∧ Keep h0 h [b] ∧ OA Z h b .int [(.int (3 : Int32)), (.int (3 : Int32)), (.int (3 : Int32)), (.int (3 : Int32))])
set_option maxRecDepth 65536 in
set_option maxHeartbeats 40000000 in
theorem rm10_12_0 (l : Launch) (Z : State) (a0 : Array Value) (hw : ∀ d ∈ tables_1, d.before a0 Z = true) (ws : List Jvm.Cond) (a1 : Addr) (b : Addr) (h0 : Heap) (n0 : Nat) (R0 : Fld Z h0 a1 "com/example/fragmark/fragmark/PhraseTerm" "free" "[I" (.ref b)) (R1 : OA Z h0 b .int [(.int (2 : Int32)), (.int (3 : Int32)), (.int (3 : Int32)), (.int (3 : Int32))]) (g_b : n0 ≤ b) (ne_a1_b : a1 ≠ b) :
    OMet l Z (⟨"com/example/fragmark/fragmark/PhraseTerm", "nextFree", "(I)I"⟩ : MethodName) prog_35_method_16_code 3 (some .int) ws ({ frames := 0, cells := 0, slots := 0, locals := 0 } : Room) #[(.ref a1), (.int (0 : Int32))] h0 (Q10_12_0 Z a1 b h0 n0) := by
  refine own_enter pn_10 ?_
  intro p e s m below meth c s₁ hx hby hml0 hown hret hlk hnm hZ X0 e0
  have hml : c.maxLocals = 3 := hml0
  have B : BX p c prog_35_method_16_code := ⟨hx, hby⟩
  have N0 := Fr.nil n0
  refine own_cast (ef_10_12_0 m a1) ?_
  show OG p e ({ frames := 0, cells := 0, slots := 0, locals := 0 } : Room) s below (fun v h L => v = some (.int (3 : Int32)) ∧ Fr n0 L ∧ Keep h0 h [b] ∧ OA Z h b .int [(.int (3 : Int32)), (.int (3 : Int32)), (.int (3 : Int32)), (.int (3 : Int32))]) s₁ (mkF m 0 #[.val (.ref a1), .val (.int (0 : Int32)), .unset] [])
  refine wiloadN OGc 1 X0 B d10_0 rfl rfl ?_
  refine wistoreN OGc 2 X0 B d10_1 #[.val (.ref a1), .val (.int (0 : Int32)), .val (.int (0 : Int32))] rfl rfl ?_
  refine waloadN OGc 3 X0 B d10_2 rfl rfl rfl ?_
  refine wgetF OGc 6 X0 B hZ hown (ow hw 61 rfl) e0 R0 d10_3 rfl fun T1 X1 e1 => ?_
  refine wiloadN OGc 7 X1 B d10_6 rfl rfl ?_
  refine wiaload OGc 8 X1 B hZ e1 R1 (v := (.int (2 : Int32))) 0 (by decide) (by decide) rfl d10_7 rfl ?_
  refine wiloadN OGc 9 X1 B d10_8 rfl rfl ?_
  refine wicmpNo OGc 12 X1 B d10_9 (by decide) rfl ?_
  refine waloadN OGc 13 X1 B d10_12 rfl rfl rfl ?_
  refine wgetF OGc 16 X1 B hZ hown (ow hw 61 rfl) e1 R0 d10_13 rfl fun T3 X3 e3 => ?_
  refine wiloadN OGc 17 X3 B d10_16 rfl rfl ?_
  refine waloadN OGc 18 X3 B d10_17 rfl rfl rfl ?_
  refine wgetF OGc 21 X3 B hZ hown (ow hw 61 rfl) e3 R0 d10_18 rfl fun T4 X4 e4 => ?_
  refine waloadN OGc 22 X4 B d10_21 rfl rfl rfl ?_
  refine wgetF OGc 25 X4 B hZ hown (ow hw 61 rfl) e4 R0 d10_22 rfl fun T5 X5 e5 => ?_
  refine wiloadN OGc 26 X5 B d10_25 rfl rfl ?_
  refine wiaload OGc 27 X5 B hZ e5 R1 (v := (.int (2 : Int32))) 0 (by decide) (by decide) rfl d10_26 rfl ?_
  refine wiaload OGc 28 X5 B hZ e5 R1 (v := (.int (3 : Int32))) 2 (by decide) (by decide) rfl d10_27 rfl ?_
  refine wstI OGc 29 X5 B hZ e5 R1 0 (by decide) (by decide) (by decide : 0 < 4) d10_28 rfl fun T8 h8 X8 e8 W8 => ?_
  have N8 := Fr.snoc X8 N0 g_b
  have K9 := (Keep.refl h0 [b]).wr W8 (Or.inl (List.mem_of_getElem? (i := 0) rfl))
  have F10 := R0.other W8 (Or.inl ne_a1_b)
  have F11 : OA Z h8 b .int [(.int (3 : Int32)), (.int (3 : Int32)), (.int (3 : Int32)), (.int (3 : Int32))] := (R1.set W8 (i := 0) (by decide))
  refine waloadN OGc 30 X8 B d10_29 rfl rfl rfl ?_
  refine wgetF OGc 33 X8 B hZ hown (ow hw 61 rfl) e8 F10 d10_30 rfl fun T12 X12 e12 => ?_
  refine wiloadN OGc 34 X12 B d10_33 rfl rfl ?_
  refine wiaload OGc 35 X12 B hZ e12 F11 (v := (.int (3 : Int32))) 0 (by decide) (by decide) rfl d10_34 rfl ?_
  refine wistoreN OGc 36 X12 B d10_35 #[.val (.ref a1), .val (.int (0 : Int32)), .val (.int (3 : Int32))] rfl rfl ?_
  refine wgoto OGc 2 X12 B d10_36 rfl ?_
  refine waloadN OGc 3 X12 B d10_2 rfl rfl rfl ?_
  refine wgetF OGc 6 X12 B hZ hown (ow hw 61 rfl) e12 F10 d10_3 rfl fun T14 X14 e14 => ?_
  refine wiloadN OGc 7 X14 B d10_6 rfl rfl ?_
  refine wiaload OGc 8 X14 B hZ e14 F11 (v := (.int (3 : Int32))) 3 (by decide) (by decide) rfl d10_7 rfl ?_
  refine wiloadN OGc 9 X14 B d10_8 rfl rfl ?_
  refine wicmpYes OGc 39 X14 B d10_9 (by decide) rfl ?_
  refine wiloadN OGc 40 X14 B d10_39 rfl rfl ?_
  refine own_retI X14 hx hret hlk (hb hby d10_40) (by decide) (by decide) ?_
  rw [e14]
  exact ⟨rfl, N8, K9, F11⟩
theorem ef_10_12_1 (m : MethodId) (a1 : Addr) : entryFrame m #[(.ref a1), (.int (1 : Int32))] 3 = (mkF m 0 #[.val (.ref a1), .val (.int (1 : Int32)), .unset] []) := by first | (simp [entryFrame, mkF, argsToLocals, Value.category]; done) | rfl
abbrev Q10_12_1 (Z : State) (a1 : Addr) (b : Addr) (h0 : Heap) (n0 : Nat) : Option Value → Heap → List Loc → Prop := (fun v h L => v = some (.int (3 : Int32)) ∧ Fr n0 L ∧ Keep h0 h [b] ∧ OA Z h b .int [(.int (2 : Int32)), (.int (3 : Int32)), (.int (3 : Int32)), (.int (3 : Int32))])
set_option maxRecDepth 65536 in
set_option maxHeartbeats 40000000 in
theorem rm10_12_1 (l : Launch) (Z : State) (a0 : Array Value) (hw : ∀ d ∈ tables_1, d.before a0 Z = true) (ws : List Jvm.Cond) (a1 : Addr) (b : Addr) (h0 : Heap) (n0 : Nat) (R0 : Fld Z h0 a1 "com/example/fragmark/fragmark/PhraseTerm" "free" "[I" (.ref b)) (R1 : OA Z h0 b .int [(.int (2 : Int32)), (.int (3 : Int32)), (.int (3 : Int32)), (.int (3 : Int32))]) (g_b : n0 ≤ b) (ne_a1_b : a1 ≠ b) :
    OMet l Z (⟨"com/example/fragmark/fragmark/PhraseTerm", "nextFree", "(I)I"⟩ : MethodName) prog_35_method_16_code 3 (some .int) ws ({ frames := 0, cells := 0, slots := 0, locals := 0 } : Room) #[(.ref a1), (.int (1 : Int32))] h0 (Q10_12_1 Z a1 b h0 n0) := by
  refine own_enter pn_10 ?_
  intro p e s m below meth c s₁ hx hby hml0 hown hret hlk hnm hZ X0 e0
  have hml : c.maxLocals = 3 := hml0
  have B : BX p c prog_35_method_16_code := ⟨hx, hby⟩
  have N0 := Fr.nil n0
  refine own_cast (ef_10_12_1 m a1) ?_
  show OG p e ({ frames := 0, cells := 0, slots := 0, locals := 0 } : Room) s below (fun v h L => v = some (.int (3 : Int32)) ∧ Fr n0 L ∧ Keep h0 h [b] ∧ OA Z h b .int [(.int (2 : Int32)), (.int (3 : Int32)), (.int (3 : Int32)), (.int (3 : Int32))]) s₁ (mkF m 0 #[.val (.ref a1), .val (.int (1 : Int32)), .unset] [])
  refine wiloadN OGc 1 X0 B d10_0 rfl rfl ?_
  refine wistoreN OGc 2 X0 B d10_1 #[.val (.ref a1), .val (.int (1 : Int32)), .val (.int (1 : Int32))] rfl rfl ?_
  refine waloadN OGc 3 X0 B d10_2 rfl rfl rfl ?_
  refine wgetF OGc 6 X0 B hZ hown (ow hw 61 rfl) e0 R0 d10_3 rfl fun T1 X1 e1 => ?_
  refine wiloadN OGc 7 X1 B d10_6 rfl rfl ?_
  refine wiaload OGc 8 X1 B hZ e1 R1 (v := (.int (3 : Int32))) 1 (by decide) (by decide) rfl d10_7 rfl ?_
  refine wiloadN OGc 9 X1 B d10_8 rfl rfl ?_
  refine wicmpNo OGc 12 X1 B d10_9 (by decide) rfl ?_
  refine waloadN OGc 13 X1 B d10_12 rfl rfl rfl ?_
  refine wgetF OGc 16 X1 B hZ hown (ow hw 61 rfl) e1 R0 d10_13 rfl fun T3 X3 e3 => ?_
  refine wiloadN OGc 17 X3 B d10_16 rfl rfl ?_
  refine waloadN OGc 18 X3 B d10_17 rfl rfl rfl ?_
  refine wgetF OGc 21 X3 B hZ hown (ow hw 61 rfl) e3 R0 d10_18 rfl fun T4 X4 e4 => ?_
  refine waloadN OGc 22 X4 B d10_21 rfl rfl rfl ?_
  refine wgetF OGc 25 X4 B hZ hown (ow hw 61 rfl) e4 R0 d10_22 rfl fun T5 X5 e5 => ?_
  refine wiloadN OGc 26 X5 B d10_25 rfl rfl ?_
  refine wiaload OGc 27 X5 B hZ e5 R1 (v := (.int (3 : Int32))) 1 (by decide) (by decide) rfl d10_26 rfl ?_
  refine wiaload OGc 28 X5 B hZ e5 R1 (v := (.int (3 : Int32))) 3 (by decide) (by decide) rfl d10_27 rfl ?_
  refine wstI OGc 29 X5 B hZ e5 R1 1 (by decide) (by decide) (by decide : 1 < 4) d10_28 rfl fun T8 h8 X8 e8 W8 => ?_
  have N8 := Fr.snoc X8 N0 g_b
  have K9 := (Keep.refl h0 [b]).wr W8 (Or.inl (List.mem_of_getElem? (i := 0) rfl))
  have F10 := R0.other W8 (Or.inl ne_a1_b)
  have F11 : OA Z h8 b .int [(.int (2 : Int32)), (.int (3 : Int32)), (.int (3 : Int32)), (.int (3 : Int32))] := (R1.set W8 (i := 1) (by decide))
  refine waloadN OGc 30 X8 B d10_29 rfl rfl rfl ?_
  refine wgetF OGc 33 X8 B hZ hown (ow hw 61 rfl) e8 F10 d10_30 rfl fun T12 X12 e12 => ?_
  refine wiloadN OGc 34 X12 B d10_33 rfl rfl ?_
  refine wiaload OGc 35 X12 B hZ e12 F11 (v := (.int (3 : Int32))) 1 (by decide) (by decide) rfl d10_34 rfl ?_
  refine wistoreN OGc 36 X12 B d10_35 #[.val (.ref a1), .val (.int (1 : Int32)), .val (.int (3 : Int32))] rfl rfl ?_
  refine wgoto OGc 2 X12 B d10_36 rfl ?_
  refine waloadN OGc 3 X12 B d10_2 rfl rfl rfl ?_
  refine wgetF OGc 6 X12 B hZ hown (ow hw 61 rfl) e12 F10 d10_3 rfl fun T14 X14 e14 => ?_
  refine wiloadN OGc 7 X14 B d10_6 rfl rfl ?_
  refine wiaload OGc 8 X14 B hZ e14 F11 (v := (.int (3 : Int32))) 3 (by decide) (by decide) rfl d10_7 rfl ?_
  refine wiloadN OGc 9 X14 B d10_8 rfl rfl ?_
  refine wicmpYes OGc 39 X14 B d10_9 (by decide) rfl ?_
  refine wiloadN OGc 40 X14 B d10_39 rfl rfl ?_
  refine own_retI X14 hx hret hlk (hb hby d10_40) (by decide) (by decide) ?_
  rw [e14]
  exact ⟨rfl, N8, K9, F11⟩
theorem ef_10_12_2 (m : MethodId) (a1 : Addr) : entryFrame m #[(.ref a1), (.int (2 : Int32))] 3 = (mkF m 0 #[.val (.ref a1), .val (.int (2 : Int32)), .unset] []) := by first | (simp [entryFrame, mkF, argsToLocals, Value.category]; done) | rfl
abbrev Q10_12_2 (Z : State) (a1 : Addr) (b : Addr) (h0 : Heap) (n0 : Nat) : Option Value → Heap → List Loc → Prop := (fun v h L => v = some (.int (3 : Int32)) ∧ Fr n0 L ∧ Keep h0 h [b] ∧ OA Z h b .int [(.int (2 : Int32)), (.int (3 : Int32)), (.int (3 : Int32)), (.int (3 : Int32))])
set_option maxRecDepth 65536 in
set_option maxHeartbeats 40000000 in
theorem rm10_12_2 (l : Launch) (Z : State) (a0 : Array Value) (hw : ∀ d ∈ tables_1, d.before a0 Z = true) (ws : List Jvm.Cond) (a1 : Addr) (b : Addr) (h0 : Heap) (n0 : Nat) (R0 : Fld Z h0 a1 "com/example/fragmark/fragmark/PhraseTerm" "free" "[I" (.ref b)) (R1 : OA Z h0 b .int [(.int (2 : Int32)), (.int (3 : Int32)), (.int (3 : Int32)), (.int (3 : Int32))]) (g_b : n0 ≤ b) (ne_a1_b : a1 ≠ b) :
    OMet l Z (⟨"com/example/fragmark/fragmark/PhraseTerm", "nextFree", "(I)I"⟩ : MethodName) prog_35_method_16_code 3 (some .int) ws ({ frames := 0, cells := 0, slots := 0, locals := 0 } : Room) #[(.ref a1), (.int (2 : Int32))] h0 (Q10_12_2 Z a1 b h0 n0) := by
  refine own_enter pn_10 ?_
  intro p e s m below meth c s₁ hx hby hml0 hown hret hlk hnm hZ X0 e0
  have hml : c.maxLocals = 3 := hml0
  have B : BX p c prog_35_method_16_code := ⟨hx, hby⟩
  have N0 := Fr.nil n0
  refine own_cast (ef_10_12_2 m a1) ?_
  show OG p e ({ frames := 0, cells := 0, slots := 0, locals := 0 } : Room) s below (fun v h L => v = some (.int (3 : Int32)) ∧ Fr n0 L ∧ Keep h0 h [b] ∧ OA Z h b .int [(.int (2 : Int32)), (.int (3 : Int32)), (.int (3 : Int32)), (.int (3 : Int32))]) s₁ (mkF m 0 #[.val (.ref a1), .val (.int (2 : Int32)), .unset] [])
  refine wiloadN OGc 1 X0 B d10_0 rfl rfl ?_
  refine wistoreN OGc 2 X0 B d10_1 #[.val (.ref a1), .val (.int (2 : Int32)), .val (.int (2 : Int32))] rfl rfl ?_
  refine waloadN OGc 3 X0 B d10_2 rfl rfl rfl ?_
  refine wgetF OGc 6 X0 B hZ hown (ow hw 61 rfl) e0 R0 d10_3 rfl fun T1 X1 e1 => ?_
  refine wiloadN OGc 7 X1 B d10_6 rfl rfl ?_
  refine wiaload OGc 8 X1 B hZ e1 R1 (v := (.int (3 : Int32))) 2 (by decide) (by decide) rfl d10_7 rfl ?_
  refine wiloadN OGc 9 X1 B d10_8 rfl rfl ?_
  refine wicmpNo OGc 12 X1 B d10_9 (by decide) rfl ?_
  refine waloadN OGc 13 X1 B d10_12 rfl rfl rfl ?_
  refine wgetF OGc 16 X1 B hZ hown (ow hw 61 rfl) e1 R0 d10_13 rfl fun T3 X3 e3 => ?_
  refine wiloadN OGc 17 X3 B d10_16 rfl rfl ?_
  refine waloadN OGc 18 X3 B d10_17 rfl rfl rfl ?_
  refine wgetF OGc 21 X3 B hZ hown (ow hw 61 rfl) e3 R0 d10_18 rfl fun T4 X4 e4 => ?_
  refine waloadN OGc 22 X4 B d10_21 rfl rfl rfl ?_
  refine wgetF OGc 25 X4 B hZ hown (ow hw 61 rfl) e4 R0 d10_22 rfl fun T5 X5 e5 => ?_
  refine wiloadN OGc 26 X5 B d10_25 rfl rfl ?_
  refine wiaload OGc 27 X5 B hZ e5 R1 (v := (.int (3 : Int32))) 2 (by decide) (by decide) rfl d10_26 rfl ?_
  refine wiaload OGc 28 X5 B hZ e5 R1 (v := (.int (3 : Int32))) 3 (by decide) (by decide) rfl d10_27 rfl ?_
  refine wstI OGc 29 X5 B hZ e5 R1 2 (by decide) (by decide) (by decide : 2 < 4) d10_28 rfl fun T8 h8 X8 e8 W8 => ?_
  have N8 := Fr.snoc X8 N0 g_b
  have K9 := (Keep.refl h0 [b]).wr W8 (Or.inl (List.mem_of_getElem? (i := 0) rfl))
  have F10 := R0.other W8 (Or.inl ne_a1_b)
  have F11 : OA Z h8 b .int [(.int (2 : Int32)), (.int (3 : Int32)), (.int (3 : Int32)), (.int (3 : Int32))] := (R1.set W8 (i := 2) (by decide))
  refine waloadN OGc 30 X8 B d10_29 rfl rfl rfl ?_
  refine wgetF OGc 33 X8 B hZ hown (ow hw 61 rfl) e8 F10 d10_30 rfl fun T12 X12 e12 => ?_
  refine wiloadN OGc 34 X12 B d10_33 rfl rfl ?_
  refine wiaload OGc 35 X12 B hZ e12 F11 (v := (.int (3 : Int32))) 2 (by decide) (by decide) rfl d10_34 rfl ?_
  refine wistoreN OGc 36 X12 B d10_35 #[.val (.ref a1), .val (.int (2 : Int32)), .val (.int (3 : Int32))] rfl rfl ?_
  refine wgoto OGc 2 X12 B d10_36 rfl ?_
  refine waloadN OGc 3 X12 B d10_2 rfl rfl rfl ?_
  refine wgetF OGc 6 X12 B hZ hown (ow hw 61 rfl) e12 F10 d10_3 rfl fun T14 X14 e14 => ?_
  refine wiloadN OGc 7 X14 B d10_6 rfl rfl ?_
  refine wiaload OGc 8 X14 B hZ e14 F11 (v := (.int (3 : Int32))) 3 (by decide) (by decide) rfl d10_7 rfl ?_
  refine wiloadN OGc 9 X14 B d10_8 rfl rfl ?_
  refine wicmpYes OGc 39 X14 B d10_9 (by decide) rfl ?_
  refine wiloadN OGc 40 X14 B d10_39 rfl rfl ?_
  refine own_retI X14 hx hret hlk (hb hby d10_40) (by decide) (by decide) ?_
  rw [e14]
  exact ⟨rfl, N8, K9, F11⟩
theorem ef_10_12_3 (m : MethodId) (a1 : Addr) : entryFrame m #[(.ref a1), (.int (3 : Int32))] 3 = (mkF m 0 #[.val (.ref a1), .val (.int (3 : Int32)), .unset] []) := by first | (simp [entryFrame, mkF, argsToLocals, Value.category]; done) | rfl
abbrev Q10_12_3 (Z : State) (a1 : Addr) (b : Addr) (h0 : Heap) (n0 : Nat) : Option Value → Heap → List Loc → Prop := (fun v h L => v = some (.int (3 : Int32)) ∧ Fr n0 L ∧ Keep h0 h [b] ∧ OA Z h b .int [(.int (2 : Int32)), (.int (3 : Int32)), (.int (3 : Int32)), (.int (3 : Int32))])
set_option maxRecDepth 65536 in
set_option maxHeartbeats 40000000 in
theorem rm10_12_3 (l : Launch) (Z : State) (a0 : Array Value) (hw : ∀ d ∈ tables_1, d.before a0 Z = true) (ws : List Jvm.Cond) (a1 : Addr) (b : Addr) (h0 : Heap) (n0 : Nat) (R0 : Fld Z h0 a1 "com/example/fragmark/fragmark/PhraseTerm" "free" "[I" (.ref b)) (R1 : OA Z h0 b .int [(.int (2 : Int32)), (.int (3 : Int32)), (.int (3 : Int32)), (.int (3 : Int32))]) (g_b : n0 ≤ b) (ne_a1_b : a1 ≠ b) :
    OMet l Z (⟨"com/example/fragmark/fragmark/PhraseTerm", "nextFree", "(I)I"⟩ : MethodName) prog_35_method_16_code 3 (some .int) ws ({ frames := 0, cells := 0, slots := 0, locals := 0 } : Room) #[(.ref a1), (.int (3 : Int32))] h0 (Q10_12_3 Z a1 b h0 n0) := by
  refine own_enter pn_10 ?_
  intro p e s m below meth c s₁ hx hby hml0 hown hret hlk hnm hZ X0 e0
  have hml : c.maxLocals = 3 := hml0
  have B : BX p c prog_35_method_16_code := ⟨hx, hby⟩
  have N0 := Fr.nil n0
  refine own_cast (ef_10_12_3 m a1) ?_
  show OG p e ({ frames := 0, cells := 0, slots := 0, locals := 0 } : Room) s below (fun v h L => v = some (.int (3 : Int32)) ∧ Fr n0 L ∧ Keep h0 h [b] ∧ OA Z h b .int [(.int (2 : Int32)), (.int (3 : Int32)), (.int (3 : Int32)), (.int (3 : Int32))]) s₁ (mkF m 0 #[.val (.ref a1), .val (.int (3 : Int32)), .unset] [])
  refine wiloadN OGc 1 X0 B d10_0 rfl rfl ?_
  refine wistoreN OGc 2 X0 B d10_1 #[.val (.ref a1), .val (.int (3 : Int32)), .val (.int (3 : Int32))] rfl rfl ?_
  refine waloadN OGc 3 X0 B d10_2 rfl rfl rfl ?_
  refine wgetF OGc 6 X0 B hZ hown (ow hw 61 rfl) e0 R0 d10_3 rfl fun T1 X1 e1 => ?_
  refine wiloadN OGc 7 X1 B d10_6 rfl rfl ?_
  refine wiaload OGc 8 X1 B hZ e1 R1 (v := (.int (3 : Int32))) 3 (by decide) (by decide) rfl d10_7 rfl ?_
  refine wiloadN OGc 9 X1 B d10_8 rfl rfl ?_
  refine wicmpYes OGc 39 X1 B d10_9 (by decide) rfl ?_
  refine wiloadN OGc 40 X1 B d10_39 rfl rfl ?_
  refine own_retI X1 hx hret hlk (hb hby d10_40) (by decide) (by decide) ?_
  rw [e1]
  exact ⟨rfl, N0, (Keep.refl h0 [b]), R1⟩
theorem ef_10_13_0 (m : MethodId) (a1 : Addr) : entryFrame m #[(.ref a1), (.int (0 : Int32))] 3 = (mkF m 0 #[.val (.ref a1), .val (.int (0 : Int32)), .unset] []) := by first | (simp [entryFrame, mkF, argsToLocals, Value.category]; done) | rfl
abbrev Q10_13_0 (Z : State) (a1 : Addr) (b : Addr) (h0 : Heap) (n0 : Nat) : Option Value → Heap → List Loc → Prop := (fun v h L => v = some (.int (3 : Int32)) ∧ Fr n0 L ∧ Keep h0 h [b] ∧ OA Z h b .int [(.int (3 : Int32)), (.int (2 : Int32)), (.int (3 : Int32)), (.int (3 : Int32))])
set_option maxRecDepth 65536 in
set_option maxHeartbeats 40000000 in
theorem rm10_13_0 (l : Launch) (Z : State) (a0 : Array Value) (hw : ∀ d ∈ tables_1, d.before a0 Z = true) (ws : List Jvm.Cond) (a1 : Addr) (b : Addr) (h0 : Heap) (n0 : Nat) (R0 : Fld Z h0 a1 "com/example/fragmark/fragmark/PhraseTerm" "free" "[I" (.ref b)) (R1 : OA Z h0 b .int [(.int (3 : Int32)), (.int (2 : Int32)), (.int (3 : Int32)), (.int (3 : Int32))]) (g_b : n0 ≤ b) (ne_a1_b : a1 ≠ b) :
    OMet l Z (⟨"com/example/fragmark/fragmark/PhraseTerm", "nextFree", "(I)I"⟩ : MethodName) prog_35_method_16_code 3 (some .int) ws ({ frames := 0, cells := 0, slots := 0, locals := 0 } : Room) #[(.ref a1), (.int (0 : Int32))] h0 (Q10_13_0 Z a1 b h0 n0) := by
  refine own_enter pn_10 ?_
  intro p e s m below meth c s₁ hx hby hml0 hown hret hlk hnm hZ X0 e0
  have hml : c.maxLocals = 3 := hml0
  have B : BX p c prog_35_method_16_code := ⟨hx, hby⟩
  have N0 := Fr.nil n0
  refine own_cast (ef_10_13_0 m a1) ?_
  show OG p e ({ frames := 0, cells := 0, slots := 0, locals := 0 } : Room) s below (fun v h L => v = some (.int (3 : Int32)) ∧ Fr n0 L ∧ Keep h0 h [b] ∧ OA Z h b .int [(.int (3 : Int32)), (.int (2 : Int32)), (.int (3 : Int32)), (.int (3 : Int32))]) s₁ (mkF m 0 #[.val (.ref a1), .val (.int (0 : Int32)), .unset] [])
  refine wiloadN OGc 1 X0 B d10_0 rfl rfl ?_
  refine wistoreN OGc 2 X0 B d10_1 #[.val (.ref a1), .val (.int (0 : Int32)), .val (.int (0 : Int32))] rfl rfl ?_
  refine waloadN OGc 3 X0 B d10_2 rfl rfl rfl ?_
  refine wgetF OGc 6 X0 B hZ hown (ow hw 61 rfl) e0 R0 d10_3 rfl fun T1 X1 e1 => ?_
  refine wiloadN OGc 7 X1 B d10_6 rfl rfl ?_
  refine wiaload OGc 8 X1 B hZ e1 R1 (v := (.int (3 : Int32))) 0 (by decide) (by decide) rfl d10_7 rfl ?_
  refine wiloadN OGc 9 X1 B d10_8 rfl rfl ?_
  refine wicmpNo OGc 12 X1 B d10_9 (by decide) rfl ?_
  refine waloadN OGc 13 X1 B d10_12 rfl rfl rfl ?_
  refine wgetF OGc 16 X1 B hZ hown (ow hw 61 rfl) e1 R0 d10_13 rfl fun T3 X3 e3 => ?_
  refine wiloadN OGc 17 X3 B d10_16 rfl rfl ?_
  refine waloadN OGc 18 X3 B d10_17 rfl rfl rfl ?_
  refine wgetF OGc 21 X3 B hZ hown (ow hw 61 rfl) e3 R0 d10_18 rfl fun T4 X4 e4 => ?_
  refine waloadN OGc 22 X4 B d10_21 rfl rfl rfl ?_
  refine wgetF OGc 25 X4 B hZ hown (ow hw 61 rfl) e4 R0 d10_22 rfl fun T5 X5 e5 => ?_
  refine wiloadN OGc 26 X5 B d10_25 rfl rfl ?_
  refine wiaload OGc 27 X5 B hZ e5 R1 (v := (.int (3 : Int32))) 0 (by decide) (by decide) rfl d10_26 rfl ?_
  refine wiaload OGc 28 X5 B hZ e5 R1 (v := (.int (3 : Int32))) 3 (by decide) (by decide) rfl d10_27 rfl ?_
  refine wstI OGc 29 X5 B hZ e5 R1 0 (by decide) (by decide) (by decide : 0 < 4) d10_28 rfl fun T8 h8 X8 e8 W8 => ?_
  have N8 := Fr.snoc X8 N0 g_b
  have K9 := (Keep.refl h0 [b]).wr W8 (Or.inl (List.mem_of_getElem? (i := 0) rfl))
  have F10 := R0.other W8 (Or.inl ne_a1_b)
  have F11 : OA Z h8 b .int [(.int (3 : Int32)), (.int (2 : Int32)), (.int (3 : Int32)), (.int (3 : Int32))] := (R1.set W8 (i := 0) (by decide))
  refine waloadN OGc 30 X8 B d10_29 rfl rfl rfl ?_
  refine wgetF OGc 33 X8 B hZ hown (ow hw 61 rfl) e8 F10 d10_30 rfl fun T12 X12 e12 => ?_
  refine wiloadN OGc 34 X12 B d10_33 rfl rfl ?_
  refine wiaload OGc 35 X12 B hZ e12 F11 (v := (.int (3 : Int32))) 0 (by decide) (by decide) rfl d10_34 rfl ?_
  refine wistoreN OGc 36 X12 B d10_35 #[.val (.ref a1), .val (.int (0 : Int32)), .val (.int (3 : Int32))] rfl rfl ?_
  refine wgoto OGc 2 X12 B d10_36 rfl ?_
  refine waloadN OGc 3 X12 B d10_2 rfl rfl rfl ?_
  refine wgetF OGc 6 X12 B hZ hown (ow hw 61 rfl) e12 F10 d10_3 rfl fun T14 X14 e14 => ?_
  refine wiloadN OGc 7 X14 B d10_6 rfl rfl ?_
  refine wiaload OGc 8 X14 B hZ e14 F11 (v := (.int (3 : Int32))) 3 (by decide) (by decide) rfl d10_7 rfl ?_
  refine wiloadN OGc 9 X14 B d10_8 rfl rfl ?_
  refine wicmpYes OGc 39 X14 B d10_9 (by decide) rfl ?_
  refine wiloadN OGc 40 X14 B d10_39 rfl rfl ?_
  refine own_retI X14 hx hret hlk (hb hby d10_40) (by decide) (by decide) ?_
  rw [e14]
  exact ⟨rfl, N8, K9, F11⟩
theorem ef_10_13_1 (m : MethodId) (a1 : Addr) : entryFrame m #[(.ref a1), (.int (1 : Int32))] 3 = (mkF m 0 #[.val (.ref a1), .val (.int (1 : Int32)), .unset] []) := by first | (simp [entryFrame, mkF, argsToLocals, Value.category]; done) | rfl
abbrev Q10_13_1 (Z : State) (a1 : Addr) (b : Addr) (h0 : Heap) (n0 : Nat) : Option Value → Heap → List Loc → Prop := (fun v h L => v = some (.int (3 : Int32)) ∧ Fr n0 L ∧ Keep h0 h [b] ∧ OA Z h b .int [(.int (3 : Int32)), (.int (3 : Int32)), (.int (3 : Int32)), (.int (3 : Int32))])
set_option maxRecDepth 65536 in
set_option maxHeartbeats 40000000 in
theorem rm10_13_1 (l : Launch) (Z : State) (a0 : Array Value) (hw : ∀ d ∈ tables_1, d.before a0 Z = true) (ws : List Jvm.Cond) (a1 : Addr) (b : Addr) (h0 : Heap) (n0 : Nat) (R0 : Fld Z h0 a1 "com/example/fragmark/fragmark/PhraseTerm" "free" "[I" (.ref b)) (R1 : OA Z h0 b .int [(.int (3 : Int32)), (.int (2 : Int32)), (.int (3 : Int32)), (.int (3 : Int32))]) (g_b : n0 ≤ b) (ne_a1_b : a1 ≠ b) :
    OMet l Z (⟨"com/example/fragmark/fragmark/PhraseTerm", "nextFree", "(I)I"⟩ : MethodName) prog_35_method_16_code 3 (some .int) ws ({ frames := 0, cells := 0, slots := 0, locals := 0 } : Room) #[(.ref a1), (.int (1 : Int32))] h0 (Q10_13_1 Z a1 b h0 n0) := by
  refine own_enter pn_10 ?_
  intro p e s m below meth c s₁ hx hby hml0 hown hret hlk hnm hZ X0 e0
  have hml : c.maxLocals = 3 := hml0
  have B : BX p c prog_35_method_16_code := ⟨hx, hby⟩
  have N0 := Fr.nil n0
  refine own_cast (ef_10_13_1 m a1) ?_
  show OG p e ({ frames := 0, cells := 0, slots := 0, locals := 0 } : Room) s below (fun v h L => v = some (.int (3 : Int32)) ∧ Fr n0 L ∧ Keep h0 h [b] ∧ OA Z h b .int [(.int (3 : Int32)), (.int (3 : Int32)), (.int (3 : Int32)), (.int (3 : Int32))]) s₁ (mkF m 0 #[.val (.ref a1), .val (.int (1 : Int32)), .unset] [])
  refine wiloadN OGc 1 X0 B d10_0 rfl rfl ?_
  refine wistoreN OGc 2 X0 B d10_1 #[.val (.ref a1), .val (.int (1 : Int32)), .val (.int (1 : Int32))] rfl rfl ?_
  refine waloadN OGc 3 X0 B d10_2 rfl rfl rfl ?_
  refine wgetF OGc 6 X0 B hZ hown (ow hw 61 rfl) e0 R0 d10_3 rfl fun T1 X1 e1 => ?_
  refine wiloadN OGc 7 X1 B d10_6 rfl rfl ?_
  refine wiaload OGc 8 X1 B hZ e1 R1 (v := (.int (2 : Int32))) 1 (by decide) (by decide) rfl d10_7 rfl ?_
  refine wiloadN OGc 9 X1 B d10_8 rfl rfl ?_
  refine wicmpNo OGc 12 X1 B d10_9 (by decide) rfl ?_
  refine waloadN OGc 13 X1 B d10_12 rfl rfl rfl ?_
  refine wgetF OGc 16 X1 B hZ hown (ow hw 61 rfl) e1 R0 d10_13 rfl fun T3 X3 e3 => ?_
  refine wiloadN OGc 17 X3 B d10_16 rfl rfl ?_
  refine waloadN OGc 18 X3 B d10_17 rfl rfl rfl ?_
  refine wgetF OGc 21 X3 B hZ hown (ow hw 61 rfl) e3 R0 d10_18 rfl fun T4 X4 e4 => ?_
  refine waloadN OGc 22 X4 B d10_21 rfl rfl rfl ?_
  refine wgetF OGc 25 X4 B hZ hown (ow hw 61 rfl) e4 R0 d10_22 rfl fun T5 X5 e5 => ?_
  refine wiloadN OGc 26 X5 B d10_25 rfl rfl ?_
  refine wiaload OGc 27 X5 B hZ e5 R1 (v := (.int (2 : Int32))) 1 (by decide) (by decide) rfl d10_26 rfl ?_
  refine wiaload OGc 28 X5 B hZ e5 R1 (v := (.int (3 : Int32))) 2 (by decide) (by decide) rfl d10_27 rfl ?_
  refine wstI OGc 29 X5 B hZ e5 R1 1 (by decide) (by decide) (by decide : 1 < 4) d10_28 rfl fun T8 h8 X8 e8 W8 => ?_
  have N8 := Fr.snoc X8 N0 g_b
  have K9 := (Keep.refl h0 [b]).wr W8 (Or.inl (List.mem_of_getElem? (i := 0) rfl))
  have F10 := R0.other W8 (Or.inl ne_a1_b)
  have F11 : OA Z h8 b .int [(.int (3 : Int32)), (.int (3 : Int32)), (.int (3 : Int32)), (.int (3 : Int32))] := (R1.set W8 (i := 1) (by decide))
  refine waloadN OGc 30 X8 B d10_29 rfl rfl rfl ?_
  refine wgetF OGc 33 X8 B hZ hown (ow hw 61 rfl) e8 F10 d10_30 rfl fun T12 X12 e12 => ?_
  refine wiloadN OGc 34 X12 B d10_33 rfl rfl ?_
  refine wiaload OGc 35 X12 B hZ e12 F11 (v := (.int (3 : Int32))) 1 (by decide) (by decide) rfl d10_34 rfl ?_
  refine wistoreN OGc 36 X12 B d10_35 #[.val (.ref a1), .val (.int (1 : Int32)), .val (.int (3 : Int32))] rfl rfl ?_
  refine wgoto OGc 2 X12 B d10_36 rfl ?_
  refine waloadN OGc 3 X12 B d10_2 rfl rfl rfl ?_
  refine wgetF OGc 6 X12 B hZ hown (ow hw 61 rfl) e12 F10 d10_3 rfl fun T14 X14 e14 => ?_
  refine wiloadN OGc 7 X14 B d10_6 rfl rfl ?_
  refine wiaload OGc 8 X14 B hZ e14 F11 (v := (.int (3 : Int32))) 3 (by decide) (by decide) rfl d10_7 rfl ?_
  refine wiloadN OGc 9 X14 B d10_8 rfl rfl ?_
  refine wicmpYes OGc 39 X14 B d10_9 (by decide) rfl ?_
  refine wiloadN OGc 40 X14 B d10_39 rfl rfl ?_
  refine own_retI X14 hx hret hlk (hb hby d10_40) (by decide) (by decide) ?_
  rw [e14]
  exact ⟨rfl, N8, K9, F11⟩
theorem ef_10_13_2 (m : MethodId) (a1 : Addr) : entryFrame m #[(.ref a1), (.int (2 : Int32))] 3 = (mkF m 0 #[.val (.ref a1), .val (.int (2 : Int32)), .unset] []) := by first | (simp [entryFrame, mkF, argsToLocals, Value.category]; done) | rfl
abbrev Q10_13_2 (Z : State) (a1 : Addr) (b : Addr) (h0 : Heap) (n0 : Nat) : Option Value → Heap → List Loc → Prop := (fun v h L => v = some (.int (3 : Int32)) ∧ Fr n0 L ∧ Keep h0 h [b] ∧ OA Z h b .int [(.int (3 : Int32)), (.int (2 : Int32)), (.int (3 : Int32)), (.int (3 : Int32))])
set_option maxRecDepth 65536 in
set_option maxHeartbeats 40000000 in
theorem rm10_13_2 (l : Launch) (Z : State) (a0 : Array Value) (hw : ∀ d ∈ tables_1, d.before a0 Z = true) (ws : List Jvm.Cond) (a1 : Addr) (b : Addr) (h0 : Heap) (n0 : Nat) (R0 : Fld Z h0 a1 "com/example/fragmark/fragmark/PhraseTerm" "free" "[I" (.ref b)) (R1 : OA Z h0 b .int [(.int (3 : Int32)), (.int (2 : Int32)), (.int (3 : Int32)), (.int (3 : Int32))]) (g_b : n0 ≤ b) (ne_a1_b : a1 ≠ b) :
    OMet l Z (⟨"com/example/fragmark/fragmark/PhraseTerm", "nextFree", "(I)I"⟩ : MethodName) prog_35_method_16_code 3 (some .int) ws ({ frames := 0, cells := 0, slots := 0, locals := 0 } : Room) #[(.ref a1), (.int (2 : Int32))] h0 (Q10_13_2 Z a1 b h0 n0) := by
  refine own_enter pn_10 ?_
  intro p e s m below meth c s₁ hx hby hml0 hown hret hlk hnm hZ X0 e0
  have hml : c.maxLocals = 3 := hml0
  have B : BX p c prog_35_method_16_code := ⟨hx, hby⟩
  have N0 := Fr.nil n0
  refine own_cast (ef_10_13_2 m a1) ?_
  show OG p e ({ frames := 0, cells := 0, slots := 0, locals := 0 } : Room) s below (fun v h L => v = some (.int (3 : Int32)) ∧ Fr n0 L ∧ Keep h0 h [b] ∧ OA Z h b .int [(.int (3 : Int32)), (.int (2 : Int32)), (.int (3 : Int32)), (.int (3 : Int32))]) s₁ (mkF m 0 #[.val (.ref a1), .val (.int (2 : Int32)), .unset] [])
  refine wiloadN OGc 1 X0 B d10_0 rfl rfl ?_
  refine wistoreN OGc 2 X0 B d10_1 #[.val (.ref a1), .val (.int (2 : Int32)), .val (.int (2 : Int32))] rfl rfl ?_
  refine waloadN OGc 3 X0 B d10_2 rfl rfl rfl ?_
  refine wgetF OGc 6 X0 B hZ hown (ow hw 61 rfl) e0 R0 d10_3 rfl fun T1 X1 e1 => ?_
  refine wiloadN OGc 7 X1 B d10_6 rfl rfl ?_
  refine wiaload OGc 8 X1 B hZ e1 R1 (v := (.int (3 : Int32))) 2 (by decide) (by decide) rfl d10_7 rfl ?_
  refine wiloadN OGc 9 X1 B d10_8 rfl rfl ?_
  refine wicmpNo OGc 12 X1 B d10_9 (by decide) rfl ?_
  refine waloadN OGc 13 X1 B d10_12 rfl rfl rfl ?_
  refine wgetF OGc 16 X1 B hZ hown (ow hw 61 rfl) e1 R0 d10_13 rfl fun T3 X3 e3 => ?_
  refine wiloadN OGc 17 X3 B d10_16 rfl rfl ?_
  refine waloadN OGc 18 X3 B d10_17 rfl rfl rfl ?_
  refine wgetF OGc 21 X3 B hZ hown (ow hw 61 rfl) e3 R0 d10_18 rfl fun T4 X4 e4 => ?_
  refine waloadN OGc 22 X4 B d10_21 rfl rfl rfl ?_
  refine wgetF OGc 25 X4 B hZ hown (ow hw 61 rfl) e4 R0 d10_22 rfl fun T5 X5 e5 => ?_
  refine wiloadN OGc 26 X5 B d10_25 rfl rfl ?_
  refine wiaload OGc 27 X5 B hZ e5 R1 (v := (.int (3 : Int32))) 2 (by decide) (by decide) rfl d10_26 rfl ?_
  refine wiaload OGc 28 X5 B hZ e5 R1 (v := (.int (3 : Int32))) 3 (by decide) (by decide) rfl d10_27 rfl ?_
  refine wstI OGc 29 X5 B hZ e5 R1 2 (by decide) (by decide) (by decide : 2 < 4) d10_28 rfl fun T8 h8 X8 e8 W8 => ?_
  have N8 := Fr.snoc X8 N0 g_b
  have K9 := (Keep.refl h0 [b]).wr W8 (Or.inl (List.mem_of_getElem? (i := 0) rfl))
  have F10 := R0.other W8 (Or.inl ne_a1_b)
  have F11 : OA Z h8 b .int [(.int (3 : Int32)), (.int (2 : Int32)), (.int (3 : Int32)), (.int (3 : Int32))] := (R1.set W8 (i := 2) (by decide))
  refine waloadN OGc 30 X8 B d10_29 rfl rfl rfl ?_
  refine wgetF OGc 33 X8 B hZ hown (ow hw 61 rfl) e8 F10 d10_30 rfl fun T12 X12 e12 => ?_
  refine wiloadN OGc 34 X12 B d10_33 rfl rfl ?_
  refine wiaload OGc 35 X12 B hZ e12 F11 (v := (.int (3 : Int32))) 2 (by decide) (by decide) rfl d10_34 rfl ?_
  refine wistoreN OGc 36 X12 B d10_35 #[.val (.ref a1), .val (.int (2 : Int32)), .val (.int (3 : Int32))] rfl rfl ?_
  refine wgoto OGc 2 X12 B d10_36 rfl ?_
  refine waloadN OGc 3 X12 B d10_2 rfl rfl rfl ?_
  refine wgetF OGc 6 X12 B hZ hown (ow hw 61 rfl) e12 F10 d10_3 rfl fun T14 X14 e14 => ?_
  refine wiloadN OGc 7 X14 B d10_6 rfl rfl ?_
  refine wiaload OGc 8 X14 B hZ e14 F11 (v := (.int (3 : Int32))) 3 (by decide) (by decide) rfl d10_7 rfl ?_
  refine wiloadN OGc 9 X14 B d10_8 rfl rfl ?_
  refine wicmpYes OGc 39 X14 B d10_9 (by decide) rfl ?_
  refine wiloadN OGc 40 X14 B d10_39 rfl rfl ?_
  refine own_retI X14 hx hret hlk (hb hby d10_40) (by decide) (by decide) ?_
  rw [e14]
  exact ⟨rfl, N8, K9, F11⟩
theorem ef_10_13_3 (m : MethodId) (a1 : Addr) : entryFrame m #[(.ref a1), (.int (3 : Int32))] 3 = (mkF m 0 #[.val (.ref a1), .val (.int (3 : Int32)), .unset] []) := by first | (simp [entryFrame, mkF, argsToLocals, Value.category]; done) | rfl
abbrev Q10_13_3 (Z : State) (a1 : Addr) (b : Addr) (h0 : Heap) (n0 : Nat) : Option Value → Heap → List Loc → Prop := (fun v h L => v = some (.int (3 : Int32)) ∧ Fr n0 L ∧ Keep h0 h [b] ∧ OA Z h b .int [(.int (3 : Int32)), (.int (2 : Int32)), (.int (3 : Int32)), (.int (3 : Int32))])
set_option maxRecDepth 65536 in
set_option maxHeartbeats 40000000 in
theorem rm10_13_3 (l : Launch) (Z : State) (a0 : Array Value) (hw : ∀ d ∈ tables_1, d.before a0 Z = true) (ws : List Jvm.Cond) (a1 : Addr) (b : Addr) (h0 : Heap) (n0 : Nat) (R0 : Fld Z h0 a1 "com/example/fragmark/fragmark/PhraseTerm" "free" "[I" (.ref b)) (R1 : OA Z h0 b .int [(.int (3 : Int32)), (.int (2 : Int32)), (.int (3 : Int32)), (.int (3 : Int32))]) (g_b : n0 ≤ b) (ne_a1_b : a1 ≠ b) :
    OMet l Z (⟨"com/example/fragmark/fragmark/PhraseTerm", "nextFree", "(I)I"⟩ : MethodName) prog_35_method_16_code 3 (some .int) ws ({ frames := 0, cells := 0, slots := 0, locals := 0 } : Room) #[(.ref a1), (.int (3 : Int32))] h0 (Q10_13_3 Z a1 b h0 n0) := by
  refine own_enter pn_10 ?_
  intro p e s m below meth c s₁ hx hby hml0 hown hret hlk hnm hZ X0 e0
  have hml : c.maxLocals = 3 := hml0
  have B : BX p c prog_35_method_16_code := ⟨hx, hby⟩
  have N0 := Fr.nil n0
  refine own_cast (ef_10_13_3 m a1) ?_
  show OG p e ({ frames := 0, cells := 0, slots := 0, locals := 0 } : Room) s below (fun v h L => v = some (.int (3 : Int32)) ∧ Fr n0 L ∧ Keep h0 h [b] ∧ OA Z h b .int [(.int (3 : Int32)), (.int (2 : Int32)), (.int (3 : Int32)), (.int (3 : Int32))]) s₁ (mkF m 0 #[.val (.ref a1), .val (.int (3 : Int32)), .unset] [])
  refine wiloadN OGc 1 X0 B d10_0 rfl rfl ?_
  refine wistoreN OGc 2 X0 B d10_1 #[.val (.ref a1), .val (.int (3 : Int32)), .val (.int (3 : Int32))] rfl rfl ?_
  refine waloadN OGc 3 X0 B d10_2 rfl rfl rfl ?_
  refine wgetF OGc 6 X0 B hZ hown (ow hw 61 rfl) e0 R0 d10_3 rfl fun T1 X1 e1 => ?_
  refine wiloadN OGc 7 X1 B d10_6 rfl rfl ?_
  refine wiaload OGc 8 X1 B hZ e1 R1 (v := (.int (3 : Int32))) 3 (by decide) (by decide) rfl d10_7 rfl ?_
  refine wiloadN OGc 9 X1 B d10_8 rfl rfl ?_
  refine wicmpYes OGc 39 X1 B d10_9 (by decide) rfl ?_
  refine wiloadN OGc 40 X1 B d10_39 rfl rfl ?_
  refine own_retI X1 hx hret hlk (hb hby d10_40) (by decide) (by decide) ?_
  rw [e1]
  exact ⟨rfl, N0, (Keep.refl h0 [b]), R1⟩
theorem ef_10_14_0 (m : MethodId) (a1 : Addr) : entryFrame m #[(.ref a1), (.int (0 : Int32))] 3 = (mkF m 0 #[.val (.ref a1), .val (.int (0 : Int32)), .unset] []) := by first | (simp [entryFrame, mkF, argsToLocals, Value.category]; done) | rfl
abbrev Q10_14_0 (Z : State) (a1 : Addr) (b : Addr) (h0 : Heap) (n0 : Nat) : Option Value → Heap → List Loc → Prop := (fun v h L => v = some (.int (3 : Int32)) ∧ Fr n0 L ∧ Keep h0 h [b] ∧ OA Z h b .int [(.int (3 : Int32)), (.int (3 : Int32)), (.int (3 : Int32)), (.int (3 : Int32))])
set_option maxRecDepth 65536 in
set_option maxHeartbeats 40000000 in
theorem rm10_14_0 (l : Launch) (Z : State) (a0 : Array Value) (hw : ∀ d ∈ tables_1, d.before a0 Z = true) (ws : List Jvm.Cond) (a1 : Addr) (b : Addr) (h0 : Heap) (n0 : Nat) (R0 : Fld Z h0 a1 "com/example/fragmark/fragmark/PhraseTerm" "free" "[I" (.ref b)) (R1 : OA Z h0 b .int [(.int (3 : Int32)), (.int (3 : Int32)), (.int (3 : Int32)), (.int (3 : Int32))]) (g_b : n0 ≤ b) (ne_a1_b : a1 ≠ b) :
    OMet l Z (⟨"com/example/fragmark/fragmark/PhraseTerm", "nextFree", "(I)I"⟩ : MethodName) prog_35_method_16_code 3 (some .int) ws ({ frames := 0, cells := 0, slots := 0, locals := 0 } : Room) #[(.ref a1), (.int (0 : Int32))] h0 (Q10_14_0 Z a1 b h0 n0) := by
  refine own_enter pn_10 ?_
  intro p e s m below meth c s₁ hx hby hml0 hown hret hlk hnm hZ X0 e0
  have hml : c.maxLocals = 3 := hml0
  have B : BX p c prog_35_method_16_code := ⟨hx, hby⟩
  have N0 := Fr.nil n0
  refine own_cast (ef_10_14_0 m a1) ?_
  show OG p e ({ frames := 0, cells := 0, slots := 0, locals := 0 } : Room) s below (fun v h L => v = some (.int (3 : Int32)) ∧ Fr n0 L ∧ Keep h0 h [b] ∧ OA Z h b .int [(.int (3 : Int32)), (.int (3 : Int32)), (.int (3 : Int32)), (.int (3 : Int32))]) s₁ (mkF m 0 #[.val (.ref a1), .val (.int (0 : Int32)), .unset] [])
  refine wiloadN OGc 1 X0 B d10_0 rfl rfl ?_
  refine wistoreN OGc 2 X0 B d10_1 #[.val (.ref a1), .val (.int (0 : Int32)), .val (.int (0 : Int32))] rfl rfl ?_
  refine waloadN OGc 3 X0 B d10_2 rfl rfl rfl ?_
  refine wgetF OGc 6 X0 B hZ hown (ow hw 61 rfl) e0 R0 d10_3 rfl fun T1 X1 e1 => ?_
  refine wiloadN OGc 7 X1 B d10_6 rfl rfl ?_
  refine wiaload OGc 8 X1 B hZ e1 R1 (v := (.int (3 : Int32))) 0 (by decide) (by decide) rfl d10_7 rfl ?_
  refine wiloadN OGc 9 X1 B d10_8 rfl rfl ?_
  refine wicmpNo OGc 12 X1 B d10_9 (by decide) rfl ?_
  refine waloadN OGc 13 X1 B d10_12 rfl rfl rfl ?_
  refine wgetF OGc 16 X1 B hZ hown (ow hw 61 rfl) e1 R0 d10_13 rfl fun T3 X3 e3 => ?_
  refine wiloadN OGc 17 X3 B d10_16 rfl rfl ?_
  refine waloadN OGc 18 X3 B d10_17 rfl rfl rfl ?_
  refine wgetF OGc 21 X3 B hZ hown (ow hw 61 rfl) e3 R0 d10_18 rfl fun T4 X4 e4 => ?_
  refine waloadN OGc 22 X4 B d10_21 rfl rfl rfl ?_
  refine wgetF OGc 25 X4 B hZ hown (ow hw 61 rfl) e4 R0 d10_22 rfl fun T5 X5 e5 => ?_
  refine wiloadN OGc 26 X5 B d10_25 rfl rfl ?_
  refine wiaload OGc 27 X5 B hZ e5 R1 (v := (.int (3 : Int32))) 0 (by decide) (by decide) rfl d10_26 rfl ?_
  refine wiaload OGc 28 X5 B hZ e5 R1 (v := (.int (3 : Int32))) 3 (by decide) (by decide) rfl d10_27 rfl ?_
  refine wstI OGc 29 X5 B hZ e5 R1 0 (by decide) (by decide) (by decide : 0 < 4) d10_28 rfl fun T8 h8 X8 e8 W8 => ?_
  have N8 := Fr.snoc X8 N0 g_b
  have K9 := (Keep.refl h0 [b]).wr W8 (Or.inl (List.mem_of_getElem? (i := 0) rfl))
  have F10 := R0.other W8 (Or.inl ne_a1_b)
  have F11 : OA Z h8 b .int [(.int (3 : Int32)), (.int (3 : Int32)), (.int (3 : Int32)), (.int (3 : Int32))] := (R1.set W8 (i := 0) (by decide))
  refine waloadN OGc 30 X8 B d10_29 rfl rfl rfl ?_
  refine wgetF OGc 33 X8 B hZ hown (ow hw 61 rfl) e8 F10 d10_30 rfl fun T12 X12 e12 => ?_
  refine wiloadN OGc 34 X12 B d10_33 rfl rfl ?_
  refine wiaload OGc 35 X12 B hZ e12 F11 (v := (.int (3 : Int32))) 0 (by decide) (by decide) rfl d10_34 rfl ?_
  refine wistoreN OGc 36 X12 B d10_35 #[.val (.ref a1), .val (.int (0 : Int32)), .val (.int (3 : Int32))] rfl rfl ?_
  refine wgoto OGc 2 X12 B d10_36 rfl ?_
  refine waloadN OGc 3 X12 B d10_2 rfl rfl rfl ?_
  refine wgetF OGc 6 X12 B hZ hown (ow hw 61 rfl) e12 F10 d10_3 rfl fun T14 X14 e14 => ?_
  refine wiloadN OGc 7 X14 B d10_6 rfl rfl ?_
  refine wiaload OGc 8 X14 B hZ e14 F11 (v := (.int (3 : Int32))) 3 (by decide) (by decide) rfl d10_7 rfl ?_
  refine wiloadN OGc 9 X14 B d10_8 rfl rfl ?_
  refine wicmpYes OGc 39 X14 B d10_9 (by decide) rfl ?_
  refine wiloadN OGc 40 X14 B d10_39 rfl rfl ?_
  refine own_retI X14 hx hret hlk (hb hby d10_40) (by decide) (by decide) ?_
  rw [e14]
  exact ⟨rfl, N8, K9, F11⟩
theorem ef_10_14_1 (m : MethodId) (a1 : Addr) : entryFrame m #[(.ref a1), (.int (1 : Int32))] 3 = (mkF m 0 #[.val (.ref a1), .val (.int (1 : Int32)), .unset] []) := by first | (simp [entryFrame, mkF, argsToLocals, Value.category]; done) | rfl
abbrev Q10_14_1 (Z : State) (a1 : Addr) (b : Addr) (h0 : Heap) (n0 : Nat) : Option Value → Heap → List Loc → Prop := (fun v h L => v = some (.int (3 : Int32)) ∧ Fr n0 L ∧ Keep h0 h [b] ∧ OA Z h b .int [(.int (3 : Int32)), (.int (3 : Int32)), (.int (3 : Int32)), (.int (3 : Int32))])
set_option maxRecDepth 65536 in
set_option maxHeartbeats 40000000 in
theorem rm10_14_1 (l : Launch) (Z : State) (a0 : Array Value) (hw : ∀ d ∈ tables_1, d.before a0 Z = true) (ws : List Jvm.Cond) (a1 : Addr) (b : Addr) (h0 : Heap) (n0 : Nat) (R0 : Fld Z h0 a1 "com/example/fragmark/fragmark/PhraseTerm" "free" "[I" (.ref b)) (R1 : OA Z h0 b .int [(.int (3 : Int32)), (.int (3 : Int32)), (.int (3 : Int32)), (.int (3 : Int32))]) (g_b : n0 ≤ b) (ne_a1_b : a1 ≠ b) :
    OMet l Z (⟨"com/example/fragmark/fragmark/PhraseTerm", "nextFree", "(I)I"⟩ : MethodName) prog_35_method_16_code 3 (some .int) ws ({ frames := 0, cells := 0, slots := 0, locals := 0 } : Room) #[(.ref a1), (.int (1 : Int32))] h0 (Q10_14_1 Z a1 b h0 n0) := by
  refine own_enter pn_10 ?_
  intro p e s m below meth c s₁ hx hby hml0 hown hret hlk hnm hZ X0 e0
  have hml : c.maxLocals = 3 := hml0
  have B : BX p c prog_35_method_16_code := ⟨hx, hby⟩
  have N0 := Fr.nil n0
  refine own_cast (ef_10_14_1 m a1) ?_
  show OG p e ({ frames := 0, cells := 0, slots := 0, locals := 0 } : Room) s below (fun v h L => v = some (.int (3 : Int32)) ∧ Fr n0 L ∧ Keep h0 h [b] ∧ OA Z h b .int [(.int (3 : Int32)), (.int (3 : Int32)), (.int (3 : Int32)), (.int (3 : Int32))]) s₁ (mkF m 0 #[.val (.ref a1), .val (.int (1 : Int32)), .unset] [])
  refine wiloadN OGc 1 X0 B d10_0 rfl rfl ?_
  refine wistoreN OGc 2 X0 B d10_1 #[.val (.ref a1), .val (.int (1 : Int32)), .val (.int (1 : Int32))] rfl rfl ?_
  refine waloadN OGc 3 X0 B d10_2 rfl rfl rfl ?_
  refine wgetF OGc 6 X0 B hZ hown (ow hw 61 rfl) e0 R0 d10_3 rfl fun T1 X1 e1 => ?_
  refine wiloadN OGc 7 X1 B d10_6 rfl rfl ?_
  refine wiaload OGc 8 X1 B hZ e1 R1 (v := (.int (3 : Int32))) 1 (by decide) (by decide) rfl d10_7 rfl ?_
  refine wiloadN OGc 9 X1 B d10_8 rfl rfl ?_
  refine wicmpNo OGc 12 X1 B d10_9 (by decide) rfl ?_
  refine waloadN OGc 13 X1 B d10_12 rfl rfl rfl ?_
  refine wgetF OGc 16 X1 B hZ hown (ow hw 61 rfl) e1 R0 d10_13 rfl fun T3 X3 e3 => ?_
  refine wiloadN OGc 17 X3 B d10_16 rfl rfl ?_
  refine waloadN OGc 18 X3 B d10_17 rfl rfl rfl ?_
  refine wgetF OGc 21 X3 B hZ hown (ow hw 61 rfl) e3 R0 d10_18 rfl fun T4 X4 e4 => ?_
  refine waloadN OGc 22 X4 B d10_21 rfl rfl rfl ?_
  refine wgetF OGc 25 X4 B hZ hown (ow hw 61 rfl) e4 R0 d10_22 rfl fun T5 X5 e5 => ?_
  refine wiloadN OGc 26 X5 B d10_25 rfl rfl ?_
  refine wiaload OGc 27 X5 B hZ e5 R1 (v := (.int (3 : Int32))) 1 (by decide) (by decide) rfl d10_26 rfl ?_
  refine wiaload OGc 28 X5 B hZ e5 R1 (v := (.int (3 : Int32))) 3 (by decide) (by decide) rfl d10_27 rfl ?_
  refine wstI OGc 29 X5 B hZ e5 R1 1 (by decide) (by decide) (by decide : 1 < 4) d10_28 rfl fun T8 h8 X8 e8 W8 => ?_
  have N8 := Fr.snoc X8 N0 g_b
  have K9 := (Keep.refl h0 [b]).wr W8 (Or.inl (List.mem_of_getElem? (i := 0) rfl))
  have F10 := R0.other W8 (Or.inl ne_a1_b)
  have F11 : OA Z h8 b .int [(.int (3 : Int32)), (.int (3 : Int32)), (.int (3 : Int32)), (.int (3 : Int32))] := (R1.set W8 (i := 1) (by decide))
  refine waloadN OGc 30 X8 B d10_29 rfl rfl rfl ?_
  refine wgetF OGc 33 X8 B hZ hown (ow hw 61 rfl) e8 F10 d10_30 rfl fun T12 X12 e12 => ?_
  refine wiloadN OGc 34 X12 B d10_33 rfl rfl ?_
  refine wiaload OGc 35 X12 B hZ e12 F11 (v := (.int (3 : Int32))) 1 (by decide) (by decide) rfl d10_34 rfl ?_
  refine wistoreN OGc 36 X12 B d10_35 #[.val (.ref a1), .val (.int (1 : Int32)), .val (.int (3 : Int32))] rfl rfl ?_
  refine wgoto OGc 2 X12 B d10_36 rfl ?_
  refine waloadN OGc 3 X12 B d10_2 rfl rfl rfl ?_
  refine wgetF OGc 6 X12 B hZ hown (ow hw 61 rfl) e12 F10 d10_3 rfl fun T14 X14 e14 => ?_
  refine wiloadN OGc 7 X14 B d10_6 rfl rfl ?_
  refine wiaload OGc 8 X14 B hZ e14 F11 (v := (.int (3 : Int32))) 3 (by decide) (by decide) rfl d10_7 rfl ?_
  refine wiloadN OGc 9 X14 B d10_8 rfl rfl ?_
  refine wicmpYes OGc 39 X14 B d10_9 (by decide) rfl ?_
  refine wiloadN OGc 40 X14 B d10_39 rfl rfl ?_
  refine own_retI X14 hx hret hlk (hb hby d10_40) (by decide) (by decide) ?_
  rw [e14]
  exact ⟨rfl, N8, K9, F11⟩
theorem ef_10_14_2 (m : MethodId) (a1 : Addr) : entryFrame m #[(.ref a1), (.int (2 : Int32))] 3 = (mkF m 0 #[.val (.ref a1), .val (.int (2 : Int32)), .unset] []) := by first | (simp [entryFrame, mkF, argsToLocals, Value.category]; done) | rfl
abbrev Q10_14_2 (Z : State) (a1 : Addr) (b : Addr) (h0 : Heap) (n0 : Nat) : Option Value → Heap → List Loc → Prop := (fun v h L => v = some (.int (3 : Int32)) ∧ Fr n0 L ∧ Keep h0 h [b] ∧ OA Z h b .int [(.int (3 : Int32)), (.int (3 : Int32)), (.int (3 : Int32)), (.int (3 : Int32))])
set_option maxRecDepth 65536 in
set_option maxHeartbeats 40000000 in
theorem rm10_14_2 (l : Launch) (Z : State) (a0 : Array Value) (hw : ∀ d ∈ tables_1, d.before a0 Z = true) (ws : List Jvm.Cond) (a1 : Addr) (b : Addr) (h0 : Heap) (n0 : Nat) (R0 : Fld Z h0 a1 "com/example/fragmark/fragmark/PhraseTerm" "free" "[I" (.ref b)) (R1 : OA Z h0 b .int [(.int (3 : Int32)), (.int (3 : Int32)), (.int (3 : Int32)), (.int (3 : Int32))]) (g_b : n0 ≤ b) (ne_a1_b : a1 ≠ b) :
    OMet l Z (⟨"com/example/fragmark/fragmark/PhraseTerm", "nextFree", "(I)I"⟩ : MethodName) prog_35_method_16_code 3 (some .int) ws ({ frames := 0, cells := 0, slots := 0, locals := 0 } : Room) #[(.ref a1), (.int (2 : Int32))] h0 (Q10_14_2 Z a1 b h0 n0) := by
  refine own_enter pn_10 ?_
  intro p e s m below meth c s₁ hx hby hml0 hown hret hlk hnm hZ X0 e0
  have hml : c.maxLocals = 3 := hml0
  have B : BX p c prog_35_method_16_code := ⟨hx, hby⟩
  have N0 := Fr.nil n0
  refine own_cast (ef_10_14_2 m a1) ?_
  show OG p e ({ frames := 0, cells := 0, slots := 0, locals := 0 } : Room) s below (fun v h L => v = some (.int (3 : Int32)) ∧ Fr n0 L ∧ Keep h0 h [b] ∧ OA Z h b .int [(.int (3 : Int32)), (.int (3 : Int32)), (.int (3 : Int32)), (.int (3 : Int32))]) s₁ (mkF m 0 #[.val (.ref a1), .val (.int (2 : Int32)), .unset] [])
  refine wiloadN OGc 1 X0 B d10_0 rfl rfl ?_
  refine wistoreN OGc 2 X0 B d10_1 #[.val (.ref a1), .val (.int (2 : Int32)), .val (.int (2 : Int32))] rfl rfl ?_
  refine waloadN OGc 3 X0 B d10_2 rfl rfl rfl ?_
  refine wgetF OGc 6 X0 B hZ hown (ow hw 61 rfl) e0 R0 d10_3 rfl fun T1 X1 e1 => ?_
  refine wiloadN OGc 7 X1 B d10_6 rfl rfl ?_
  refine wiaload OGc 8 X1 B hZ e1 R1 (v := (.int (3 : Int32))) 2 (by decide) (by decide) rfl d10_7 rfl ?_
  refine wiloadN OGc 9 X1 B d10_8 rfl rfl ?_
  refine wicmpNo OGc 12 X1 B d10_9 (by decide) rfl ?_
  refine waloadN OGc 13 X1 B d10_12 rfl rfl rfl ?_
  refine wgetF OGc 16 X1 B hZ hown (ow hw 61 rfl) e1 R0 d10_13 rfl fun T3 X3 e3 => ?_
  refine wiloadN OGc 17 X3 B d10_16 rfl rfl ?_
  refine waloadN OGc 18 X3 B d10_17 rfl rfl rfl ?_
  refine wgetF OGc 21 X3 B hZ hown (ow hw 61 rfl) e3 R0 d10_18 rfl fun T4 X4 e4 => ?_
  refine waloadN OGc 22 X4 B d10_21 rfl rfl rfl ?_
  refine wgetF OGc 25 X4 B hZ hown (ow hw 61 rfl) e4 R0 d10_22 rfl fun T5 X5 e5 => ?_
  refine wiloadN OGc 26 X5 B d10_25 rfl rfl ?_
  refine wiaload OGc 27 X5 B hZ e5 R1 (v := (.int (3 : Int32))) 2 (by decide) (by decide) rfl d10_26 rfl ?_
  refine wiaload OGc 28 X5 B hZ e5 R1 (v := (.int (3 : Int32))) 3 (by decide) (by decide) rfl d10_27 rfl ?_
  refine wstI OGc 29 X5 B hZ e5 R1 2 (by decide) (by decide) (by decide : 2 < 4) d10_28 rfl fun T8 h8 X8 e8 W8 => ?_
  have N8 := Fr.snoc X8 N0 g_b
  have K9 := (Keep.refl h0 [b]).wr W8 (Or.inl (List.mem_of_getElem? (i := 0) rfl))
  have F10 := R0.other W8 (Or.inl ne_a1_b)
  have F11 : OA Z h8 b .int [(.int (3 : Int32)), (.int (3 : Int32)), (.int (3 : Int32)), (.int (3 : Int32))] := (R1.set W8 (i := 2) (by decide))
  refine waloadN OGc 30 X8 B d10_29 rfl rfl rfl ?_
  refine wgetF OGc 33 X8 B hZ hown (ow hw 61 rfl) e8 F10 d10_30 rfl fun T12 X12 e12 => ?_
  refine wiloadN OGc 34 X12 B d10_33 rfl rfl ?_
  refine wiaload OGc 35 X12 B hZ e12 F11 (v := (.int (3 : Int32))) 2 (by decide) (by decide) rfl d10_34 rfl ?_
  refine wistoreN OGc 36 X12 B d10_35 #[.val (.ref a1), .val (.int (2 : Int32)), .val (.int (3 : Int32))] rfl rfl ?_
  refine wgoto OGc 2 X12 B d10_36 rfl ?_
  refine waloadN OGc 3 X12 B d10_2 rfl rfl rfl ?_
  refine wgetF OGc 6 X12 B hZ hown (ow hw 61 rfl) e12 F10 d10_3 rfl fun T14 X14 e14 => ?_
  refine wiloadN OGc 7 X14 B d10_6 rfl rfl ?_
  refine wiaload OGc 8 X14 B hZ e14 F11 (v := (.int (3 : Int32))) 3 (by decide) (by decide) rfl d10_7 rfl ?_
  refine wiloadN OGc 9 X14 B d10_8 rfl rfl ?_
  refine wicmpYes OGc 39 X14 B d10_9 (by decide) rfl ?_
  refine wiloadN OGc 40 X14 B d10_39 rfl rfl ?_
  refine own_retI X14 hx hret hlk (hb hby d10_40) (by decide) (by decide) ?_
  rw [e14]
  exact ⟨rfl, N8, K9, F11⟩
theorem ef_10_14_3 (m : MethodId) (a1 : Addr) : entryFrame m #[(.ref a1), (.int (3 : Int32))] 3 = (mkF m 0 #[.val (.ref a1), .val (.int (3 : Int32)), .unset] []) := by first | (simp [entryFrame, mkF, argsToLocals, Value.category]; done) | rfl
abbrev Q10_14_3 (Z : State) (a1 : Addr) (b : Addr) (h0 : Heap) (n0 : Nat) : Option Value → Heap → List Loc → Prop := (fun v h L => v = some (.int (3 : Int32)) ∧ Fr n0 L ∧ Keep h0 h [b] ∧ OA Z h b .int [(.int (3 : Int32)), (.int (3 : Int32)), (.int (3 : Int32)), (.int (3 : Int32))])
set_option maxRecDepth 65536 in
set_option maxHeartbeats 40000000 in
theorem rm10_14_3 (l : Launch) (Z : State) (a0 : Array Value) (hw : ∀ d ∈ tables_1, d.before a0 Z = true) (ws : List Jvm.Cond) (a1 : Addr) (b : Addr) (h0 : Heap) (n0 : Nat) (R0 : Fld Z h0 a1 "com/example/fragmark/fragmark/PhraseTerm" "free" "[I" (.ref b)) (R1 : OA Z h0 b .int [(.int (3 : Int32)), (.int (3 : Int32)), (.int (3 : Int32)), (.int (3 : Int32))]) (g_b : n0 ≤ b) (ne_a1_b : a1 ≠ b) :
    OMet l Z (⟨"com/example/fragmark/fragmark/PhraseTerm", "nextFree", "(I)I"⟩ : MethodName) prog_35_method_16_code 3 (some .int) ws ({ frames := 0, cells := 0, slots := 0, locals := 0 } : Room) #[(.ref a1), (.int (3 : Int32))] h0 (Q10_14_3 Z a1 b h0 n0) := by
  refine own_enter pn_10 ?_
  intro p e s m below meth c s₁ hx hby hml0 hown hret hlk hnm hZ X0 e0
  have hml : c.maxLocals = 3 := hml0
  have B : BX p c prog_35_method_16_code := ⟨hx, hby⟩
  have N0 := Fr.nil n0
  refine own_cast (ef_10_14_3 m a1) ?_
  show OG p e ({ frames := 0, cells := 0, slots := 0, locals := 0 } : Room) s below (fun v h L => v = some (.int (3 : Int32)) ∧ Fr n0 L ∧ Keep h0 h [b] ∧ OA Z h b .int [(.int (3 : Int32)), (.int (3 : Int32)), (.int (3 : Int32)), (.int (3 : Int32))]) s₁ (mkF m 0 #[.val (.ref a1), .val (.int (3 : Int32)), .unset] [])
  refine wiloadN OGc 1 X0 B d10_0 rfl rfl ?_
  refine wistoreN OGc 2 X0 B d10_1 #[.val (.ref a1), .val (.int (3 : Int32)), .val (.int (3 : Int32))] rfl rfl ?_
  refine waloadN OGc 3 X0 B d10_2 rfl rfl rfl ?_
  refine wgetF OGc 6 X0 B hZ hown (ow hw 61 rfl) e0 R0 d10_3 rfl fun T1 X1 e1 => ?_
  refine wiloadN OGc 7 X1 B d10_6 rfl rfl ?_
  refine wiaload OGc 8 X1 B hZ e1 R1 (v := (.int (3 : Int32))) 3 (by decide) (by decide) rfl d10_7 rfl ?_
  refine wiloadN OGc 9 X1 B d10_8 rfl rfl ?_
  refine wicmpYes OGc 39 X1 B d10_9 (by decide) rfl ?_
  refine wiloadN OGc 40 X1 B d10_39 rfl rfl ?_
  refine own_retI X1 hx hret hlk (hb hby d10_40) (by decide) (by decide) ?_
  rw [e1]
  exact ⟨rfl, N0, (Keep.refl h0 [b]), R1⟩
def GD (c0 c1 c2 x0 x1 x2 : Int32) : Prop := (c0 = 0 ∧ c1 = 0 ∧ c2 = 0 ∧ x0 = 0 ∧ x1 = 1 ∧ x2 = 2) ∨ (c0 = 0 ∧ c1 = 0 ∧ c2 = 1 ∧ x0 = 0 ∧ x1 = 1 ∧ x2 = 3) ∨ (c0 = 0 ∧ c1 = 1 ∧ c2 = 0 ∧ x0 = 0 ∧ x1 = 2 ∧ x2 = 2) ∨ (c0 = 0 ∧ c1 = 1 ∧ c2 = 1 ∧ x0 = 0 ∧ x1 = 2 ∧ x2 = 3) ∨ (c0 = 0 ∧ c1 = 1 ∧ c2 = 1 ∧ x0 = 0 ∧ x1 = 3 ∧ x2 = 3) ∨ (c0 = 1 ∧ c1 = 0 ∧ c2 = 0 ∧ x0 = 1 ∧ x1 = 1 ∧ x2 = 2) ∨ (c0 = 1 ∧ c1 = 0 ∧ c2 = 1 ∧ x0 = 1 ∧ x1 = 1 ∧ x2 = 3) ∨ (c0 = 1 ∧ c1 = 1 ∧ c2 = 0 ∧ x0 = 1 ∧ x1 = 2 ∧ x2 = 2) ∨ (c0 = 1 ∧ c1 = 1 ∧ c2 = 0 ∧ x0 = 2 ∧ x1 = 2 ∧ x2 = 2) ∨ (c0 = 1 ∧ c1 = 1 ∧ c2 = 1 ∧ x0 = 1 ∧ x1 = 2 ∧ x2 = 3) ∨ (c0 = 1 ∧ c1 = 1 ∧ c2 = 1 ∧ x0 = 1 ∧ x1 = 3 ∧ x2 = 3) ∨ (c0 = 1 ∧ c1 = 1 ∧ c2 = 1 ∧ x0 = 2 ∧ x1 = 2 ∧ x2 = 3) ∨ (c0 = 1 ∧ c1 = 1 ∧ c2 = 1 ∧ x0 = 2 ∧ x1 = 3 ∧ x2 = 3) ∨ (c0 = 1 ∧ c1 = 1 ∧ c2 = 1 ∧ x0 = 3 ∧ x1 = 2 ∧ x2 = 3) ∨ (c0 = 1 ∧ c1 = 1 ∧ c2 = 1 ∧ x0 = 3 ∧ x1 = 3 ∧ x2 = 3)
abbrev Q10 (Z : State) (a1 : Addr) (p2 : Int32) (b : Addr) (c0 c1 c2 x0 x1 x2 : Int32) (h0 : Heap) (n0 : Nat) : Option Value → Heap → List Loc → Prop := fun v h L => v = some (.int (f12 c0 c1 c2 p2)) ∧ Fr n0 L ∧ Keep h0 h [b] ∧ ∃ y0 y1 y2 : Int32, GD c0 c1 c2 y0 y1 y2 ∧ OA Z h b .int [.int y0, .int y1, .int y2, .int (3 : Int32)]
set_option maxRecDepth 65536 in
set_option maxHeartbeats 40000000 in
theorem rm10 (l : Launch) (Z : State) (a0 : Array Value) (hw : ∀ d ∈ tables_1, d.before a0 Z = true) (ws : List Jvm.Cond) (a1 : Addr) (p2 : Int32) (b : Addr) (c0 c1 c2 x0 x1 x2 : Int32) (h0 : Heap) (n0 : Nat) (R0 : Fld Z h0 a1 "com/example/fragmark/fragmark/PhraseTerm" "free" "[I" (.ref b)) (R1 : OA Z h0 b .int [(.int x0), (.int x1), (.int x2), (.int (3 : Int32))]) (g_b : n0 ≤ b) (ne_a1_b : a1 ≠ b) (hp : (p2 = (0 : Int32) ∨ p2 = (1 : Int32) ∨ p2 = (2 : Int32) ∨ p2 = (3 : Int32))) (hG : GD c0 c1 c2 x0 x1 x2) :
    OMet l Z (⟨"com/example/fragmark/fragmark/PhraseTerm", "nextFree", "(I)I"⟩ : MethodName) prog_35_method_16_code 3 (some .int) ws ({ frames := 0, cells := 0, slots := 0, locals := 0 } : Room) #[.ref a1, .int p2] h0 (Q10 Z a1 p2 b c0 c1 c2 x0 x1 x2 h0 n0) := by
  rcases hG with ⟨rfl, rfl, rfl, rfl, rfl, rfl⟩ | ⟨rfl, rfl, rfl, rfl, rfl, rfl⟩ | ⟨rfl, rfl, rfl, rfl, rfl, rfl⟩ | ⟨rfl, rfl, rfl, rfl, rfl, rfl⟩ | ⟨rfl, rfl, rfl, rfl, rfl, rfl⟩ | ⟨rfl, rfl, rfl, rfl, rfl, rfl⟩ | ⟨rfl, rfl, rfl, rfl, rfl, rfl⟩ | ⟨rfl, rfl, rfl, rfl, rfl, rfl⟩ | ⟨rfl, rfl, rfl, rfl, rfl, rfl⟩ | ⟨rfl, rfl, rfl, rfl, rfl, rfl⟩ | ⟨rfl, rfl, rfl, rfl, rfl, rfl⟩ | ⟨rfl, rfl, rfl, rfl, rfl, rfl⟩ | ⟨rfl, rfl, rfl, rfl, rfl, rfl⟩ | ⟨rfl, rfl, rfl, rfl, rfl, rfl⟩ | ⟨rfl, rfl, rfl, rfl, rfl, rfl⟩ <;> rcases hp with rfl | rfl | rfl | rfl
  · exact own_mono (rm10_0_0 l Z a0 hw ws a1 b h0 n0 R0 R1 g_b ne_a1_b) (fun v h L q => ⟨q.1.trans (congrArg (fun z => some (Value.int z)) (by decide : (0 : Int32) = f12 0 0 0 0)), q.2.1, q.2.2.1, 0, 1, 2, Or.inl ⟨rfl, rfl, rfl, rfl, rfl, rfl⟩, q.2.2.2⟩)
  · exact own_mono (rm10_0_1 l Z a0 hw ws a1 b h0 n0 R0 R1 g_b ne_a1_b) (fun v h L q => ⟨q.1.trans (congrArg (fun z => some (Value.int z)) (by decide : (1 : Int32) = f12 0 0 0 1)), q.2.1, q.2.2.1, 0, 1, 2, Or.inl ⟨rfl, rfl, rfl, rfl, rfl, rfl⟩, q.2.2.2⟩)
  · exact own_mono (rm10_0_2 l Z a0 hw ws a1 b h0 n0 R0 R1 g_b ne_a1_b) (fun v h L q => ⟨q.1.trans (congrArg (fun z => some (Value.int z)) (by decide : (2 : Int32) = f12 0 0 0 2)), q.2.1, q.2.2.1, 0, 1, 2, Or.inl ⟨rfl, rfl, rfl, rfl, rfl, rfl⟩, q.2.2.2⟩)
  · exact own_mono (rm10_0_3 l Z a0 hw ws a1 b h0 n0 R0 R1 g_b ne_a1_b) (fun v h L q => ⟨q.1.trans (congrArg (fun z => some (Value.int z)) (by decide : (3 : Int32) = f12 0 0 0 3)), q.2.1, q.2.2.1, 0, 1, 2, Or.inl ⟨rfl, rfl, rfl, rfl, rfl, rfl⟩, q.2.2.2⟩)
  · exact own_mono (rm10_1_0 l Z a0 hw ws a1 b h0 n0 R0 R1 g_b ne_a1_b) (fun v h L q => ⟨q.1.trans (congrArg (fun z => some (Value.int z)) (by decide : (0 : Int32) = f12 0 0 1 0)), q.2.1, q.2.2.1, 0, 1, 3, Or.inr (Or.inl ⟨rfl, rfl, rfl, rfl, rfl, rfl⟩), q.2.2.2⟩)
  · exact own_mono (rm10_1_1 l Z a0 hw ws a1 b h0 n0 R0 R1 g_b ne_a1_b) (fun v h L q => ⟨q.1.trans (congrArg (fun z => some (Value.int z)) (by decide : (1 : Int32) = f12 0 0 1 1)), q.2.1, q.2.2.1, 0, 1, 3, Or.inr (Or.inl ⟨rfl, rfl, rfl, rfl, rfl, rfl⟩), q.2.2.2⟩)
  · exact own_mono (rm10_1_2 l Z a0 hw ws a1 b h0 n0 R0 R1 g_b ne_a1_b) (fun v h L q => ⟨q.1.trans (congrArg (fun z => some (Value.int z)) (by decide : (3 : Int32) = f12 0 0 1 2)), q.2.1, q.2.2.1, 0, 1, 3, Or.inr (Or.inl ⟨rfl, rfl, rfl, rfl, rfl, rfl⟩), q.2.2.2⟩)
  · exact own_mono (rm10_1_3 l Z a0 hw ws a1 b h0 n0 R0 R1 g_b ne_a1_b) (fun v h L q => ⟨q.1.trans (congrArg (fun z => some (Value.int z)) (by decide : (3 : Int32) = f12 0 0 1 3)), q.2.1, q.2.2.1, 0, 1, 3, Or.inr (Or.inl ⟨rfl, rfl, rfl, rfl, rfl, rfl⟩), q.2.2.2⟩)
  · exact own_mono (rm10_2_0 l Z a0 hw ws a1 b h0 n0 R0 R1 g_b ne_a1_b) (fun v h L q => ⟨q.1.trans (congrArg (fun z => some (Value.int z)) (by decide : (0 : Int32) = f12 0 1 0 0)), q.2.1, q.2.2.1, 0, 2, 2, Or.inr (Or.inr (Or.inl ⟨rfl, rfl, rfl, rfl, rfl, rfl⟩)), q.2.2.2⟩)
  · exact own_mono (rm10_2_1 l Z a0 hw ws a1 b h0 n0 R0 R1 g_b ne_a1_b) (fun v h L q => ⟨q.1.trans (congrArg (fun z => some (Value.int z)) (by decide : (2 : Int32) = f12 0 1 0 1)), q.2.1, q.2.2.1, 0, 2, 2, Or.inr (Or.inr (Or.inl ⟨rfl, rfl, rfl, rfl, rfl, rfl⟩)), q.2.2.2⟩)
  · exact own_mono (rm10_2_2 l Z a0 hw ws a1 b h0 n0 R0 R1 g_b ne_a1_b) (fun v h L q => ⟨q.1.trans (congrArg (fun z => some (Value.int z)) (by decide : (2 : Int32) = f12 0 1 0 2)), q.2.1, q.2.2.1, 0, 2, 2, Or.inr (Or.inr (Or.inl ⟨rfl, rfl, rfl, rfl, rfl, rfl⟩)), q.2.2.2⟩)
  · exact own_mono (rm10_2_3 l Z a0 hw ws a1 b h0 n0 R0 R1 g_b ne_a1_b) (fun v h L q => ⟨q.1.trans (congrArg (fun z => some (Value.int z)) (by decide : (3 : Int32) = f12 0 1 0 3)), q.2.1, q.2.2.1, 0, 2, 2, Or.inr (Or.inr (Or.inl ⟨rfl, rfl, rfl, rfl, rfl, rfl⟩)), q.2.2.2⟩)
  · exact own_mono (rm10_3_0 l Z a0 hw ws a1 b h0 n0 R0 R1 g_b ne_a1_b) (fun v h L q => ⟨q.1.trans (congrArg (fun z => some (Value.int z)) (by decide : (0 : Int32) = f12 0 1 1 0)), q.2.1, q.2.2.1, 0, 2, 3, Or.inr (Or.inr (Or.inr (Or.inl ⟨rfl, rfl, rfl, rfl, rfl, rfl⟩))), q.2.2.2⟩)
  · exact own_mono (rm10_3_1 l Z a0 hw ws a1 b h0 n0 R0 R1 g_b ne_a1_b) (fun v h L q => ⟨q.1.trans (congrArg (fun z => some (Value.int z)) (by decide : (3 : Int32) = f12 0 1 1 1)), q.2.1, q.2.2.1, 0, 3, 3, Or.inr (Or.inr (Or.inr (Or.inr (Or.inl ⟨rfl, rfl, rfl, rfl, rfl, rfl⟩)))), q.2.2.2⟩)
  · exact own_mono (rm10_3_2 l Z a0 hw ws a1 b h0 n0 R0 R1 g_b ne_a1_b) (fun v h L q => ⟨q.1.trans (congrArg (fun z => some (Value.int z)) (by decide : (3 : Int32) = f12 0 1 1 2)), q.2.1, q.2.2.1, 0, 2, 3, Or.inr (Or.inr (Or.inr (Or.inl ⟨rfl, rfl, rfl, rfl, rfl, rfl⟩))), q.2.2.2⟩)
  · exact own_mono (rm10_3_3 l Z a0 hw ws a1 b h0 n0 R0 R1 g_b ne_a1_b) (fun v h L q => ⟨q.1.trans (congrArg (fun z => some (Value.int z)) (by decide : (3 : Int32) = f12 0 1 1 3)), q.2.1, q.2.2.1, 0, 2, 3, Or.inr (Or.inr (Or.inr (Or.inl ⟨rfl, rfl, rfl, rfl, rfl, rfl⟩))), q.2.2.2⟩)
  · exact own_mono (rm10_4_0 l Z a0 hw ws a1 b h0 n0 R0 R1 g_b ne_a1_b) (fun v h L q => ⟨q.1.trans (congrArg (fun z => some (Value.int z)) (by decide : (0 : Int32) = f12 0 1 1 0)), q.2.1, q.2.2.1, 0, 3, 3, Or.inr (Or.inr (Or.inr (Or.inr (Or.inl ⟨rfl, rfl, rfl, rfl, rfl, rfl⟩)))), q.2.2.2⟩)
  · exact own_mono (rm10_4_1 l Z a0 hw ws a1 b h0 n0 R0 R1 g_b ne_a1_b) (fun v h L q => ⟨q.1.trans (congrArg (fun z => some (Value.int z)) (by decide : (3 : Int32) = f12 0 1 1 1)), q.2.1, q.2.2.1, 0, 3, 3, Or.inr (Or.inr (Or.inr (Or.inr (Or.inl ⟨rfl, rfl, rfl, rfl, rfl, rfl⟩)))), q.2.2.2⟩)
  · exact own_mono (rm10_4_2 l Z a0 hw ws a1 b h0 n0 R0 R1 g_b ne_a1_b) (fun v h L q => ⟨q.1.trans (congrArg (fun z => some (Value.int z)) (by decide : (3 : Int32) = f12 0 1 1 2)), q.2.1, q.2.2.1, 0, 3, 3, Or.inr (Or.inr (Or.inr (Or.inr (Or.inl ⟨rfl, rfl, rfl, rfl, rfl, rfl⟩)))), q.2.2.2⟩)
  · exact own_mono (rm10_4_3 l Z a0 hw ws a1 b h0 n0 R0 R1 g_b ne_a1_b) (fun v h L q => ⟨q.1.trans (congrArg (fun z => some (Value.int z)) (by decide : (3 : Int32) = f12 0 1 1 3)), q.2.1, q.2.2.1, 0, 3, 3, Or.inr (Or.inr (Or.inr (Or.inr (Or.inl ⟨rfl, rfl, rfl, rfl, rfl, rfl⟩)))), q.2.2.2⟩)
  · exact own_mono (rm10_5_0 l Z a0 hw ws a1 b h0 n0 R0 R1 g_b ne_a1_b) (fun v h L q => ⟨q.1.trans (congrArg (fun z => some (Value.int z)) (by decide : (1 : Int32) = f12 1 0 0 0)), q.2.1, q.2.2.1, 1, 1, 2, Or.inr (Or.inr (Or.inr (Or.inr (Or.inr (Or.inl ⟨rfl, rfl, rfl, rfl, rfl, rfl⟩))))), q.2.2.2⟩)
  · exact own_mono (rm10_5_1 l Z a0 hw ws a1 b h0 n0 R0 R1 g_b ne_a1_b) (fun v h L q => ⟨q.1.trans (congrArg (fun z => some (Value.int z)) (by decide : (1 : Int32) = f12 1 0 0 1)), q.2.1, q.2.2.1, 1, 1, 2, Or.inr (Or.inr (Or.inr (Or.inr (Or.inr (Or.inl ⟨rfl, rfl, rfl, rfl, rfl, rfl⟩))))), q.2.2.2⟩)
  · exact own_mono (rm10_5_2 l Z a0 hw ws a1 b h0 n0 R0 R1 g_b ne_a1_b) (fun v h L q => ⟨q.1.trans (congrArg (fun z => some (Value.int z)) (by decide : (2 : Int32) = f12 1 0 0 2)), q.2.1, q.2.2.1, 1, 1, 2, Or.inr (Or.inr (Or.inr (Or.inr (Or.inr (Or.inl ⟨rfl, rfl, rfl, rfl, rfl, rfl⟩))))), q.2.2.2⟩)
  · exact own_mono (rm10_5_3 l Z a0 hw ws a1 b h0 n0 R0 R1 g_b ne_a1_b) (fun v h L q => ⟨q.1.trans (congrArg (fun z => some (Value.int z)) (by decide : (3 : Int32) = f12 1 0 0 3)), q.2.1, q.2.2.1, 1, 1, 2, Or.inr (Or.inr (Or.inr (Or.inr (Or.inr (Or.inl ⟨rfl, rfl, rfl, rfl, rfl, rfl⟩))))), q.2.2.2⟩)
  · exact own_mono (rm10_6_0 l Z a0 hw ws a1 b h0 n0 R0 R1 g_b ne_a1_b) (fun v h L q => ⟨q.1.trans (congrArg (fun z => some (Value.int z)) (by decide : (1 : Int32) = f12 1 0 1 0)), q.2.1, q.2.2.1, 1, 1, 3, Or.inr (Or.inr (Or.inr (Or.inr (Or.inr (Or.inr (Or.inl ⟨rfl, rfl, rfl, rfl, rfl, rfl⟩)))))), q.2.2.2⟩)
  · exact own_mono (rm10_6_1 l Z a0 hw ws a1 b h0 n0 R0 R1 g_b ne_a1_b) (fun v h L q => ⟨q.1.trans (congrArg (fun z => some (Value.int z)) (by decide : (1 : Int32) = f12 1 0 1 1)), q.2.1, q.2.2.1, 1, 1, 3, Or.inr (Or.inr (Or.inr (Or.inr (Or.inr (Or.inr (Or.inl ⟨rfl, rfl, rfl, rfl, rfl, rfl⟩)))))), q.2.2.2⟩)
  · exact own_mono (rm10_6_2 l Z a0 hw ws a1 b h0 n0 R0 R1 g_b ne_a1_b) (fun v h L q => ⟨q.1.trans (congrArg (fun z => some (Value.int z)) (by decide : (3 : Int32) = f12 1 0 1 2)), q.2.1, q.2.2.1, 1, 1, 3, Or.inr (Or.inr (Or.inr (Or.inr (Or.inr (Or.inr (Or.inl ⟨rfl, rfl, rfl, rfl, rfl, rfl⟩)))))), q.2.2.2⟩)
  · exact own_mono (rm10_6_3 l Z a0 hw ws a1 b h0 n0 R0 R1 g_b ne_a1_b) (fun v h L q => ⟨q.1.trans (congrArg (fun z => some (Value.int z)) (by decide : (3 : Int32) = f12 1 0 1 3)), q.2.1, q.2.2.1, 1, 1, 3, Or.inr (Or.inr (Or.inr (Or.inr (Or.inr (Or.inr (Or.inl ⟨rfl, rfl, rfl, rfl, rfl, rfl⟩)))))), q.2.2.2⟩)
  · exact own_mono (rm10_7_0 l Z a0 hw ws a1 b h0 n0 R0 R1 g_b ne_a1_b) (fun v h L q => ⟨q.1.trans (congrArg (fun z => some (Value.int z)) (by decide : (2 : Int32) = f12 1 1 0 0)), q.2.1, q.2.2.1, 2, 2, 2, Or.inr (Or.inr (Or.inr (Or.inr (Or.inr (Or.inr (Or.inr (Or.inr (Or.inl ⟨rfl, rfl, rfl, rfl, rfl, rfl⟩)))))))), q.2.2.2⟩)
  · exact own_mono (rm10_7_1 l Z a0 hw ws a1 b h0 n0 R0 R1 g_b ne_a1_b) (fun v h L q => ⟨q.1.trans (congrArg (fun z => some (Value.int z)) (by decide : (2 : Int32) = f12 1 1 0 1)), q.2.1, q.2.2.1, 1, 2, 2, Or.inr (Or.inr (Or.inr (Or.inr (Or.inr (Or.inr (Or.inr (Or.inl ⟨rfl, rfl, rfl, rfl, rfl, rfl⟩))))))), q.2.2.2⟩)
  · exact own_mono (rm10_7_2 l Z a0 hw ws a1 b h0 n0 R0 R1 g_b ne_a1_b) (fun v h L q => ⟨q.1.trans (congrArg (fun z => some (Value.int z)) (by decide : (2 : Int32) = f12 1 1 0 2)), q.2.1, q.2.2.1, 1, 2, 2, Or.inr (Or.inr (Or.inr (Or.inr (Or.inr (Or.inr (Or.inr (Or.inl ⟨rfl, rfl, rfl, rfl, rfl, rfl⟩))))))), q.2.2.2⟩)
  · exact own_mono (rm10_7_3 l Z a0 hw ws a1 b h0 n0 R0 R1 g_b ne_a1_b) (fun v h L q => ⟨q.1.trans (congrArg (fun z => some (Value.int z)) (by decide : (3 : Int32) = f12 1 1 0 3)), q.2.1, q.2.2.1, 1, 2, 2, Or.inr (Or.inr (Or.inr (Or.inr (Or.inr (Or.inr (Or.inr (Or.inl ⟨rfl, rfl, rfl, rfl, rfl, rfl⟩))))))), q.2.2.2⟩)
  · exact own_mono (rm10_10_0 l Z a0 hw ws a1 b h0 n0 R0 R1 g_b ne_a1_b) (fun v h L q => ⟨q.1.trans (congrArg (fun z => some (Value.int z)) (by decide : (2 : Int32) = f12 1 1 0 0)), q.2.1, q.2.2.1, 2, 2, 2, Or.inr (Or.inr (Or.inr (Or.inr (Or.inr (Or.inr (Or.inr (Or.inr (Or.inl ⟨rfl, rfl, rfl, rfl, rfl, rfl⟩)))))))), q.2.2.2⟩)
  · exact own_mono (rm10_10_1 l Z a0 hw ws a1 b h0 n0 R0 R1 g_b ne_a1_b) (fun v h L q => ⟨q.1.trans (congrArg (fun z => some (Value.int z)) (by decide : (2 : Int32) = f12 1 1 0 1)), q.2.1, q.2.2.1, 2, 2, 2, Or.inr (Or.inr (Or.inr (Or.inr (Or.inr (Or.inr (Or.inr (Or.inr (Or.inl ⟨rfl, rfl, rfl, rfl, rfl, rfl⟩)))))))), q.2.2.2⟩)
  · exact own_mono (rm10_10_2 l Z a0 hw ws a1 b h0 n0 R0 R1 g_b ne_a1_b) (fun v h L q => ⟨q.1.trans (congrArg (fun z => some (Value.int z)) (by decide : (2 : Int32) = f12 1 1 0 2)), q.2.1, q.2.2.1, 2, 2, 2, Or.inr (Or.inr (Or.inr (Or.inr (Or.inr (Or.inr (Or.inr (Or.inr (Or.inl ⟨rfl, rfl, rfl, rfl, rfl, rfl⟩)))))))), q.2.2.2⟩)
  · exact own_mono (rm10_10_3 l Z a0 hw ws a1 b h0 n0 R0 R1 g_b ne_a1_b) (fun v h L q => ⟨q.1.trans (congrArg (fun z => some (Value.int z)) (by decide : (3 : Int32) = f12 1 1 0 3)), q.2.1, q.2.2.1, 2, 2, 2, Or.inr (Or.inr (Or.inr (Or.inr (Or.inr (Or.inr (Or.inr (Or.inr (Or.inl ⟨rfl, rfl, rfl, rfl, rfl, rfl⟩)))))))), q.2.2.2⟩)
  · exact own_mono (rm10_8_0 l Z a0 hw ws a1 b h0 n0 R0 R1 g_b ne_a1_b) (fun v h L q => ⟨q.1.trans (congrArg (fun z => some (Value.int z)) (by decide : (3 : Int32) = f12 1 1 1 0)), q.2.1, q.2.2.1, 2, 2, 3, Or.inr (Or.inr (Or.inr (Or.inr (Or.inr (Or.inr (Or.inr (Or.inr (Or.inr (Or.inr (Or.inr (Or.inl ⟨rfl, rfl, rfl, rfl, rfl, rfl⟩))))))))))), q.2.2.2⟩)
  · exact own_mono (rm10_8_1 l Z a0 hw ws a1 b h0 n0 R0 R1 g_b ne_a1_b) (fun v h L q => ⟨q.1.trans (congrArg (fun z => some (Value.int z)) (by decide : (3 : Int32) = f12 1 1 1 1)), q.2.1, q.2.2.1, 1, 3, 3, Or.inr (Or.inr (Or.inr (Or.inr (Or.inr (Or.inr (Or.inr (Or.inr (Or.inr (Or.inr (Or.inl ⟨rfl, rfl, rfl, rfl, rfl, rfl⟩)))))))))), q.2.2.2⟩)
  · exact own_mono (rm10_8_2 l Z a0 hw ws a1 b h0 n0 R0 R1 g_b ne_a1_b) (fun v h L q => ⟨q.1.trans (congrArg (fun z => some (Value.int z)) (by decide : (3 : Int32) = f12 1 1 1 2)), q.2.1, q.2.2.1, 1, 2, 3, Or.inr (Or.inr (Or.inr (Or.inr (Or.inr (Or.inr (Or.inr (Or.inr (Or.inr (Or.inl ⟨rfl, rfl, rfl, rfl, rfl, rfl⟩))))))))), q.2.2.2⟩)
  · exact own_mono (rm10_8_3 l Z a0 hw ws a1 b h0 n0 R0 R1 g_b ne_a1_b) (fun v h L q => ⟨q.1.trans (congrArg (fun z => some (Value.int z)) (by decide : (3 : Int32) = f12 1 1 1 3)), q.2.1, q.2.2.1, 1, 2, 3, Or.inr (Or.inr (Or.inr (Or.inr (Or.inr (Or.inr (Or.inr (Or.inr (Or.inr (Or.inl ⟨rfl, rfl, rfl, rfl, rfl, rfl⟩))))))))), q.2.2.2⟩)
  · exact own_mono (rm10_9_0 l Z a0 hw ws a1 b h0 n0 R0 R1 g_b ne_a1_b) (fun v h L q => ⟨q.1.trans (congrArg (fun z => some (Value.int z)) (by decide : (3 : Int32) = f12 1 1 1 0)), q.2.1, q.2.2.1, 3, 3, 3, Or.inr (Or.inr (Or.inr (Or.inr (Or.inr (Or.inr (Or.inr (Or.inr (Or.inr (Or.inr (Or.inr (Or.inr (Or.inr (Or.inr (⟨rfl, rfl, rfl, rfl, rfl, rfl⟩)))))))))))))), q.2.2.2⟩)
  · exact own_mono (rm10_9_1 l Z a0 hw ws a1 b h0 n0 R0 R1 g_b ne_a1_b) (fun v h L q => ⟨q.1.trans (congrArg (fun z => some (Value.int z)) (by decide : (3 : Int32) = f12 1 1 1 1)), q.2.1, q.2.2.1, 1, 3, 3, Or.inr (Or.inr (Or.inr (Or.inr (Or.inr (Or.inr (Or.inr (Or.inr (Or.inr (Or.inr (Or.inl ⟨rfl, rfl, rfl, rfl, rfl, rfl⟩)))))))))), q.2.2.2⟩)
  · exact own_mono (rm10_9_2 l Z a0 hw ws a1 b h0 n0 R0 R1 g_b ne_a1_b) (fun v h L q => ⟨q.1.trans (congrArg (fun z => some (Value.int z)) (by decide : (3 : Int32) = f12 1 1 1 2)), q.2.1, q.2.2.1, 1, 3, 3, Or.inr (Or.inr (Or.inr (Or.inr (Or.inr (Or.inr (Or.inr (Or.inr (Or.inr (Or.inr (Or.inl ⟨rfl, rfl, rfl, rfl, rfl, rfl⟩)))))))))), q.2.2.2⟩)
  · exact own_mono (rm10_9_3 l Z a0 hw ws a1 b h0 n0 R0 R1 g_b ne_a1_b) (fun v h L q => ⟨q.1.trans (congrArg (fun z => some (Value.int z)) (by decide : (3 : Int32) = f12 1 1 1 3)), q.2.1, q.2.2.1, 1, 3, 3, Or.inr (Or.inr (Or.inr (Or.inr (Or.inr (Or.inr (Or.inr (Or.inr (Or.inr (Or.inr (Or.inl ⟨rfl, rfl, rfl, rfl, rfl, rfl⟩)))))))))), q.2.2.2⟩)
  · exact own_mono (rm10_11_0 l Z a0 hw ws a1 b h0 n0 R0 R1 g_b ne_a1_b) (fun v h L q => ⟨q.1.trans (congrArg (fun z => some (Value.int z)) (by decide : (3 : Int32) = f12 1 1 1 0)), q.2.1, q.2.2.1, 3, 2, 3, Or.inr (Or.inr (Or.inr (Or.inr (Or.inr (Or.inr (Or.inr (Or.inr (Or.inr (Or.inr (Or.inr (Or.inr (Or.inr (Or.inl ⟨rfl, rfl, rfl, rfl, rfl, rfl⟩))))))))))))), q.2.2.2⟩)
  · exact own_mono (rm10_11_1 l Z a0 hw ws a1 b h0 n0 R0 R1 g_b ne_a1_b) (fun v h L q => ⟨q.1.trans (congrArg (fun z => some (Value.int z)) (by decide : (3 : Int32) = f12 1 1 1 1)), q.2.1, q.2.2.1, 2, 3, 3, Or.inr (Or.inr (Or.inr (Or.inr (Or.inr (Or.inr (Or.inr (Or.inr (Or.inr (Or.inr (Or.inr (Or.inr (Or.inl ⟨rfl, rfl, rfl, rfl, rfl, rfl⟩)))))))))))), q.2.2.2⟩)
  · exact own_mono (rm10_11_2 l Z a0 hw ws a1 b h0 n0 R0 R1 g_b ne_a1_b) (fun v h L q => ⟨q.1.trans (congrArg (fun z => some (Value.int z)) (by decide : (3 : Int32) = f12 1 1 1 2)), q.2.1, q.2.2.1, 2, 2, 3, Or.inr (Or.inr (Or.inr (Or.inr (Or.inr (Or.inr (Or.inr (Or.inr (Or.inr (Or.inr (Or.inr (Or.inl ⟨rfl, rfl, rfl, rfl, rfl, rfl⟩))))))))))), q.2.2.2⟩)
  · exact own_mono (rm10_11_3 l Z a0 hw ws a1 b h0 n0 R0 R1 g_b ne_a1_b) (fun v h L q => ⟨q.1.trans (congrArg (fun z => some (Value.int z)) (by decide : (3 : Int32) = f12 1 1 1 3)), q.2.1, q.2.2.1, 2, 2, 3, Or.inr (Or.inr (Or.inr (Or.inr (Or.inr (Or.inr (Or.inr (Or.inr (Or.inr (Or.inr (Or.inr (Or.inl ⟨rfl, rfl, rfl, rfl, rfl, rfl⟩))))))))))), q.2.2.2⟩)
  · exact own_mono (rm10_12_0 l Z a0 hw ws a1 b h0 n0 R0 R1 g_b ne_a1_b) (fun v h L q => ⟨q.1.trans (congrArg (fun z => some (Value.int z)) (by decide : (3 : Int32) = f12 1 1 1 0)), q.2.1, q.2.2.1, 3, 3, 3, Or.inr (Or.inr (Or.inr (Or.inr (Or.inr (Or.inr (Or.inr (Or.inr (Or.inr (Or.inr (Or.inr (Or.inr (Or.inr (Or.inr (⟨rfl, rfl, rfl, rfl, rfl, rfl⟩)))))))))))))), q.2.2.2⟩)
  · exact own_mono (rm10_12_1 l Z a0 hw ws a1 b h0 n0 R0 R1 g_b ne_a1_b) (fun v h L q => ⟨q.1.trans (congrArg (fun z => some (Value.int z)) (by decide : (3 : Int32) = f12 1 1 1 1)), q.2.1, q.2.2.1, 2, 3, 3, Or.inr (Or.inr (Or.inr (Or.inr (Or.inr (Or.inr (Or.inr (Or.inr (Or.inr (Or.inr (Or.inr (Or.inr (Or.inl ⟨rfl, rfl, rfl, rfl, rfl, rfl⟩)))))))))))), q.2.2.2⟩)
  · exact own_mono (rm10_12_2 l Z a0 hw ws a1 b h0 n0 R0 R1 g_b ne_a1_b) (fun v h L q => ⟨q.1.trans (congrArg (fun z => some (Value.int z)) (by decide : (3 : Int32) = f12 1 1 1 2)), q.2.1, q.2.2.1, 2, 3, 3, Or.inr (Or.inr (Or.inr (Or.inr (Or.inr (Or.inr (Or.inr (Or.inr (Or.inr (Or.inr (Or.inr (Or.inr (Or.inl ⟨rfl, rfl, rfl, rfl, rfl, rfl⟩)))))))))))), q.2.2.2⟩)
  · exact own_mono (rm10_12_3 l Z a0 hw ws a1 b h0 n0 R0 R1 g_b ne_a1_b) (fun v h L q => ⟨q.1.trans (congrArg (fun z => some (Value.int z)) (by decide : (3 : Int32) = f12 1 1 1 3)), q.2.1, q.2.2.1, 2, 3, 3, Or.inr (Or.inr (Or.inr (Or.inr (Or.inr (Or.inr (Or.inr (Or.inr (Or.inr (Or.inr (Or.inr (Or.inr (Or.inl ⟨rfl, rfl, rfl, rfl, rfl, rfl⟩)))))))))))), q.2.2.2⟩)
  · exact own_mono (rm10_13_0 l Z a0 hw ws a1 b h0 n0 R0 R1 g_b ne_a1_b) (fun v h L q => ⟨q.1.trans (congrArg (fun z => some (Value.int z)) (by decide : (3 : Int32) = f12 1 1 1 0)), q.2.1, q.2.2.1, 3, 2, 3, Or.inr (Or.inr (Or.inr (Or.inr (Or.inr (Or.inr (Or.inr (Or.inr (Or.inr (Or.inr (Or.inr (Or.inr (Or.inr (Or.inl ⟨rfl, rfl, rfl, rfl, rfl, rfl⟩))))))))))))), q.2.2.2⟩)
  · exact own_mono (rm10_13_1 l Z a0 hw ws a1 b h0 n0 R0 R1 g_b ne_a1_b) (fun v h L q => ⟨q.1.trans (congrArg (fun z => some (Value.int z)) (by decide : (3 : Int32) = f12 1 1 1 1)), q.2.1, q.2.2.1, 3, 3, 3, Or.inr (Or.inr (Or.inr (Or.inr (Or.inr (Or.inr (Or.inr (Or.inr (Or.inr (Or.inr (Or.inr (Or.inr (Or.inr (Or.inr (⟨rfl, rfl, rfl, rfl, rfl, rfl⟩)))))))))))))), q.2.2.2⟩)
  · exact own_mono (rm10_13_2 l Z a0 hw ws a1 b h0 n0 R0 R1 g_b ne_a1_b) (fun v h L q => ⟨q.1.trans (congrArg (fun z => some (Value.int z)) (by decide : (3 : Int32) = f12 1 1 1 2)), q.2.1, q.2.2.1, 3, 2, 3, Or.inr (Or.inr (Or.inr (Or.inr (Or.inr (Or.inr (Or.inr (Or.inr (Or.inr (Or.inr (Or.inr (Or.inr (Or.inr (Or.inl ⟨rfl, rfl, rfl, rfl, rfl, rfl⟩))))))))))))), q.2.2.2⟩)
  · exact own_mono (rm10_13_3 l Z a0 hw ws a1 b h0 n0 R0 R1 g_b ne_a1_b) (fun v h L q => ⟨q.1.trans (congrArg (fun z => some (Value.int z)) (by decide : (3 : Int32) = f12 1 1 1 3)), q.2.1, q.2.2.1, 3, 2, 3, Or.inr (Or.inr (Or.inr (Or.inr (Or.inr (Or.inr (Or.inr (Or.inr (Or.inr (Or.inr (Or.inr (Or.inr (Or.inr (Or.inl ⟨rfl, rfl, rfl, rfl, rfl, rfl⟩))))))))))))), q.2.2.2⟩)
  · exact own_mono (rm10_14_0 l Z a0 hw ws a1 b h0 n0 R0 R1 g_b ne_a1_b) (fun v h L q => ⟨q.1.trans (congrArg (fun z => some (Value.int z)) (by decide : (3 : Int32) = f12 1 1 1 0)), q.2.1, q.2.2.1, 3, 3, 3, Or.inr (Or.inr (Or.inr (Or.inr (Or.inr (Or.inr (Or.inr (Or.inr (Or.inr (Or.inr (Or.inr (Or.inr (Or.inr (Or.inr (⟨rfl, rfl, rfl, rfl, rfl, rfl⟩)))))))))))))), q.2.2.2⟩)
  · exact own_mono (rm10_14_1 l Z a0 hw ws a1 b h0 n0 R0 R1 g_b ne_a1_b) (fun v h L q => ⟨q.1.trans (congrArg (fun z => some (Value.int z)) (by decide : (3 : Int32) = f12 1 1 1 1)), q.2.1, q.2.2.1, 3, 3, 3, Or.inr (Or.inr (Or.inr (Or.inr (Or.inr (Or.inr (Or.inr (Or.inr (Or.inr (Or.inr (Or.inr (Or.inr (Or.inr (Or.inr (⟨rfl, rfl, rfl, rfl, rfl, rfl⟩)))))))))))))), q.2.2.2⟩)
  · exact own_mono (rm10_14_2 l Z a0 hw ws a1 b h0 n0 R0 R1 g_b ne_a1_b) (fun v h L q => ⟨q.1.trans (congrArg (fun z => some (Value.int z)) (by decide : (3 : Int32) = f12 1 1 1 2)), q.2.1, q.2.2.1, 3, 3, 3, Or.inr (Or.inr (Or.inr (Or.inr (Or.inr (Or.inr (Or.inr (Or.inr (Or.inr (Or.inr (Or.inr (Or.inr (Or.inr (Or.inr (⟨rfl, rfl, rfl, rfl, rfl, rfl⟩)))))))))))))), q.2.2.2⟩)
  · exact own_mono (rm10_14_3 l Z a0 hw ws a1 b h0 n0 R0 R1 g_b ne_a1_b) (fun v h L q => ⟨q.1.trans (congrArg (fun z => some (Value.int z)) (by decide : (3 : Int32) = f12 1 1 1 3)), q.2.1, q.2.2.1, 3, 3, 3, Or.inr (Or.inr (Or.inr (Or.inr (Or.inr (Or.inr (Or.inr (Or.inr (Or.inr (Or.inr (Or.inr (Or.inr (Or.inr (Or.inr (⟨rfl, rfl, rfl, rfl, rfl, rfl⟩)))))))))))))), q.2.2.2⟩)
theorem own_r4 (x : Int32) : (x &&& 2147483647) % 4 = 0 ∨ (x &&& 2147483647) % 4 = 1 ∨ (x &&& 2147483647) % 4 = 2 ∨ (x &&& 2147483647) % 4 = 3 := by
  have m := c_mask x 2147483647 31 (by decide) (by decide)
  have k4 : (4 : Int32).toInt = 4 := by decide
  have k0 : (0 : Int32).toInt = 0 := by decide
  have k1 : (1 : Int32).toInt = 1 := by decide
  have k2 : (2 : Int32).toInt = 2 := by decide
  have k3 : (3 : Int32).toInt = 3 := by decide
  have r : ((x &&& 2147483647) % 4).toInt = (x &&& 2147483647).toInt.tmod 4 := by rw [Int32.toInt_mod, k4]
  simp only [← Int32.toInt_inj]
  generalize ((x &&& 2147483647) % 4).toInt = z at *
  generalize (x &&& 2147483647).toInt = y at *
  rw [Int.tmod_eq_emod_of_nonneg (by omega)] at r
  omega
theorem own_gs0 {c0 c1 c2 x0 x1 x2 : Int32} (G : GD c0 c1 c2 x0 x1 x2) : GD 1 c1 c2 1 x1 x2 := by
  rcases G with ⟨rfl, rfl, rfl, rfl, rfl, rfl⟩ | ⟨rfl, rfl, rfl, rfl, rfl, rfl⟩ | ⟨rfl, rfl, rfl, rfl, rfl, rfl⟩ | ⟨rfl, rfl, rfl, rfl, rfl, rfl⟩ | ⟨rfl, rfl, rfl, rfl, rfl, rfl⟩ | ⟨rfl, rfl, rfl, rfl, rfl, rfl⟩ | ⟨rfl, rfl, rfl, rfl, rfl, rfl⟩ | ⟨rfl, rfl, rfl, rfl, rfl, rfl⟩ | ⟨rfl, rfl, rfl, rfl, rfl, rfl⟩ | ⟨rfl, rfl, rfl, rfl, rfl, rfl⟩ | ⟨rfl, rfl, rfl, rfl, rfl, rfl⟩ | ⟨rfl, rfl, rfl, rfl, rfl, rfl⟩ | ⟨rfl, rfl, rfl, rfl, rfl, rfl⟩ | ⟨rfl, rfl, rfl, rfl, rfl, rfl⟩ | ⟨rfl, rfl, rfl, rfl, rfl, rfl⟩
  · exact Or.inr (Or.inr (Or.inr (Or.inr (Or.inr (Or.inl ⟨rfl, rfl, rfl, rfl, rfl, rfl⟩)))))
  · exact Or.inr (Or.inr (Or.inr (Or.inr (Or.inr (Or.inr (Or.inl ⟨rfl, rfl, rfl, rfl, rfl, rfl⟩))))))
  · exact Or.inr (Or.inr (Or.inr (Or.inr (Or.inr (Or.inr (Or.inr (Or.inl ⟨rfl, rfl, rfl, rfl, rfl, rfl⟩)))))))
  · exact Or.inr (Or.inr (Or.inr (Or.inr (Or.inr (Or.inr (Or.inr (Or.inr (Or.inr (Or.inl ⟨rfl, rfl, rfl, rfl, rfl, rfl⟩)))))))))
  · exact Or.inr (Or.inr (Or.inr (Or.inr (Or.inr (Or.inr (Or.inr (Or.inr (Or.inr (Or.inr (Or.inl ⟨rfl, rfl, rfl, rfl, rfl, rfl⟩))))))))))
  · exact Or.inr (Or.inr (Or.inr (Or.inr (Or.inr (Or.inl ⟨rfl, rfl, rfl, rfl, rfl, rfl⟩)))))
  · exact Or.inr (Or.inr (Or.inr (Or.inr (Or.inr (Or.inr (Or.inl ⟨rfl, rfl, rfl, rfl, rfl, rfl⟩))))))
  · exact Or.inr (Or.inr (Or.inr (Or.inr (Or.inr (Or.inr (Or.inr (Or.inl ⟨rfl, rfl, rfl, rfl, rfl, rfl⟩)))))))
  · exact Or.inr (Or.inr (Or.inr (Or.inr (Or.inr (Or.inr (Or.inr (Or.inl ⟨rfl, rfl, rfl, rfl, rfl, rfl⟩)))))))
  · exact Or.inr (Or.inr (Or.inr (Or.inr (Or.inr (Or.inr (Or.inr (Or.inr (Or.inr (Or.inl ⟨rfl, rfl, rfl, rfl, rfl, rfl⟩)))))))))
  · exact Or.inr (Or.inr (Or.inr (Or.inr (Or.inr (Or.inr (Or.inr (Or.inr (Or.inr (Or.inr (Or.inl ⟨rfl, rfl, rfl, rfl, rfl, rfl⟩))))))))))
  · exact Or.inr (Or.inr (Or.inr (Or.inr (Or.inr (Or.inr (Or.inr (Or.inr (Or.inr (Or.inl ⟨rfl, rfl, rfl, rfl, rfl, rfl⟩)))))))))
  · exact Or.inr (Or.inr (Or.inr (Or.inr (Or.inr (Or.inr (Or.inr (Or.inr (Or.inr (Or.inr (Or.inl ⟨rfl, rfl, rfl, rfl, rfl, rfl⟩))))))))))
  · exact Or.inr (Or.inr (Or.inr (Or.inr (Or.inr (Or.inr (Or.inr (Or.inr (Or.inr (Or.inl ⟨rfl, rfl, rfl, rfl, rfl, rfl⟩)))))))))
  · exact Or.inr (Or.inr (Or.inr (Or.inr (Or.inr (Or.inr (Or.inr (Or.inr (Or.inr (Or.inr (Or.inl ⟨rfl, rfl, rfl, rfl, rfl, rfl⟩))))))))))
theorem own_gs1 {c0 c1 c2 x0 x1 x2 : Int32} (G : GD c0 c1 c2 x0 x1 x2) : GD c0 1 c2 x0 2 x2 := by
  rcases G with ⟨rfl, rfl, rfl, rfl, rfl, rfl⟩ | ⟨rfl, rfl, rfl, rfl, rfl, rfl⟩ | ⟨rfl, rfl, rfl, rfl, rfl, rfl⟩ | ⟨rfl, rfl, rfl, rfl, rfl, rfl⟩ | ⟨rfl, rfl, rfl, rfl, rfl, rfl⟩ | ⟨rfl, rfl, rfl, rfl, rfl, rfl⟩ | ⟨rfl, rfl, rfl, rfl, rfl, rfl⟩ | ⟨rfl, rfl, rfl, rfl, rfl, rfl⟩ | ⟨rfl, rfl, rfl, rfl, rfl, rfl⟩ | ⟨rfl, rfl, rfl, rfl, rfl, rfl⟩ | ⟨rfl, rfl, rfl, rfl, rfl, rfl⟩ | ⟨rfl, rfl, rfl, rfl, rfl, rfl⟩ | ⟨rfl, rfl, rfl, rfl, rfl, rfl⟩ | ⟨rfl, rfl, rfl, rfl, rfl, rfl⟩ | ⟨rfl, rfl, rfl, rfl, rfl, rfl⟩
  · exact Or.inr (Or.inr (Or.inl ⟨rfl, rfl, rfl, rfl, rfl, rfl⟩))
  · exact Or.inr (Or.inr (Or.inr (Or.inl ⟨rfl, rfl, rfl, rfl, rfl, rfl⟩)))
  · exact Or.inr (Or.inr (Or.inl ⟨rfl, rfl, rfl, rfl, rfl, rfl⟩))
  · exact Or.inr (Or.inr (Or.inr (Or.inl ⟨rfl, rfl, rfl, rfl, rfl, rfl⟩)))
  · exact Or.inr (Or.inr (Or.inr (Or.inl ⟨rfl, rfl, rfl, rfl, rfl, rfl⟩)))
  · exact Or.inr (Or.inr (Or.inr (Or.inr (Or.inr (Or.inr (Or.inr (Or.inl ⟨rfl, rfl, rfl, rfl, rfl, rfl⟩)))))))
  · exact Or.inr (Or.inr (Or.inr (Or.inr (Or.inr (Or.inr (Or.inr (Or.inr (Or.inr (Or.inl ⟨rfl, rfl, rfl, rfl, rfl, rfl⟩)))))))))
  · exact Or.inr (Or.inr (Or.inr (Or.inr (Or.inr (Or.inr (Or.inr (Or.inl ⟨rfl, rfl, rfl, rfl, rfl, rfl⟩)))))))
  · exact Or.inr (Or.inr (Or.inr (Or.inr (Or.inr (Or.inr (Or.inr (Or.inr (Or.inl ⟨rfl, rfl, rfl, rfl, rfl, rfl⟩))))))))
  · exact Or.inr (Or.inr (Or.inr (Or.inr (Or.inr (Or.inr (Or.inr (Or.inr (Or.inr (Or.inl ⟨rfl, rfl, rfl, rfl, rfl, rfl⟩)))))))))
  · exact Or.inr (Or.inr (Or.inr (Or.inr (Or.inr (Or.inr (Or.inr (Or.inr (Or.inr (Or.inl ⟨rfl, rfl, rfl, rfl, rfl, rfl⟩)))))))))
  · exact Or.inr (Or.inr (Or.inr (Or.inr (Or.inr (Or.inr (Or.inr (Or.inr (Or.inr (Or.inr (Or.inr (Or.inl ⟨rfl, rfl, rfl, rfl, rfl, rfl⟩)))))))))))
  · exact Or.inr (Or.inr (Or.inr (Or.inr (Or.inr (Or.inr (Or.inr (Or.inr (Or.inr (Or.inr (Or.inr (Or.inl ⟨rfl, rfl, rfl, rfl, rfl, rfl⟩)))))))))))
  · exact Or.inr (Or.inr (Or.inr (Or.inr (Or.inr (Or.inr (Or.inr (Or.inr (Or.inr (Or.inr (Or.inr (Or.inr (Or.inr (Or.inl ⟨rfl, rfl, rfl, rfl, rfl, rfl⟩)))))))))))))
  · exact Or.inr (Or.inr (Or.inr (Or.inr (Or.inr (Or.inr (Or.inr (Or.inr (Or.inr (Or.inr (Or.inr (Or.inr (Or.inr (Or.inl ⟨rfl, rfl, rfl, rfl, rfl, rfl⟩)))))))))))))
theorem own_gs2 {c0 c1 c2 x0 x1 x2 : Int32} (G : GD c0 c1 c2 x0 x1 x2) : GD c0 c1 1 x0 x1 3 := by
  rcases G with ⟨rfl, rfl, rfl, rfl, rfl, rfl⟩ | ⟨rfl, rfl, rfl, rfl, rfl, rfl⟩ | ⟨rfl, rfl, rfl, rfl, rfl, rfl⟩ | ⟨rfl, rfl, rfl, rfl, rfl, rfl⟩ | ⟨rfl, rfl, rfl, rfl, rfl, rfl⟩ | ⟨rfl, rfl, rfl, rfl, rfl, rfl⟩ | ⟨rfl, rfl, rfl, rfl, rfl, rfl⟩ | ⟨rfl, rfl, rfl, rfl, rfl, rfl⟩ | ⟨rfl, rfl, rfl, rfl, rfl, rfl⟩ | ⟨rfl, rfl, rfl, rfl, rfl, rfl⟩ | ⟨rfl, rfl, rfl, rfl, rfl, rfl⟩ | ⟨rfl, rfl, rfl, rfl, rfl, rfl⟩ | ⟨rfl, rfl, rfl, rfl, rfl, rfl⟩ | ⟨rfl, rfl, rfl, rfl, rfl, rfl⟩ | ⟨rfl, rfl, rfl, rfl, rfl, rfl⟩
  · exact Or.inr (Or.inl ⟨rfl, rfl, rfl, rfl, rfl, rfl⟩)
  · exact Or.inr (Or.inl ⟨rfl, rfl, rfl, rfl, rfl, rfl⟩)
  · exact Or.inr (Or.inr (Or.inr (Or.inl ⟨rfl, rfl, rfl, rfl, rfl, rfl⟩)))
  · exact Or.inr (Or.inr (Or.inr (Or.inl ⟨rfl, rfl, rfl, rfl, rfl, rfl⟩)))
  · exact Or.inr (Or.inr (Or.inr (Or.inr (Or.inl ⟨rfl, rfl, rfl, rfl, rfl, rfl⟩))))
  · exact Or.inr (Or.inr (Or.inr (Or.inr (Or.inr (Or.inr (Or.inl ⟨rfl, rfl, rfl, rfl, rfl, rfl⟩))))))
  · exact Or.inr (Or.inr (Or.inr (Or.inr (Or.inr (Or.inr (Or.inl ⟨rfl, rfl, rfl, rfl, rfl, rfl⟩))))))
  · exact Or.inr (Or.inr (Or.inr (Or.inr (Or.inr (Or.inr (Or.inr (Or.inr (Or.inr (Or.inl ⟨rfl, rfl, rfl, rfl, rfl, rfl⟩)))))))))
  · exact Or.inr (Or.inr (Or.inr (Or.inr (Or.inr (Or.inr (Or.inr (Or.inr (Or.inr (Or.inr (Or.inr (Or.inl ⟨rfl, rfl, rfl, rfl, rfl, rfl⟩)))))))))))
  · exact Or.inr (Or.inr (Or.inr (Or.inr (Or.inr (Or.inr (Or.inr (Or.inr (Or.inr (Or.inl ⟨rfl, rfl, rfl, rfl, rfl, rfl⟩)))))))))
  · exact Or.inr (Or.inr (Or.inr (Or.inr (Or.inr (Or.inr (Or.inr (Or.inr (Or.inr (Or.inr (Or.inl ⟨rfl, rfl, rfl, rfl, rfl, rfl⟩))))))))))
  · exact Or.inr (Or.inr (Or.inr (Or.inr (Or.inr (Or.inr (Or.inr (Or.inr (Or.inr (Or.inr (Or.inr (Or.inl ⟨rfl, rfl, rfl, rfl, rfl, rfl⟩)))))))))))
  · exact Or.inr (Or.inr (Or.inr (Or.inr (Or.inr (Or.inr (Or.inr (Or.inr (Or.inr (Or.inr (Or.inr (Or.inr (Or.inl ⟨rfl, rfl, rfl, rfl, rfl, rfl⟩))))))))))))
  · exact Or.inr (Or.inr (Or.inr (Or.inr (Or.inr (Or.inr (Or.inr (Or.inr (Or.inr (Or.inr (Or.inr (Or.inr (Or.inr (Or.inl ⟨rfl, rfl, rfl, rfl, rfl, rfl⟩)))))))))))))
  · exact Or.inr (Or.inr (Or.inr (Or.inr (Or.inr (Or.inr (Or.inr (Or.inr (Or.inr (Or.inr (Or.inr (Or.inr (Or.inr (Or.inr (⟨rfl, rfl, rfl, rfl, rfl, rfl⟩))))))))))))))
theorem pd___V : parseMethodDescriptor "()V" = some ⟨[], none⟩ := by decide +kernel
theorem pd__I_I : parseMethodDescriptor "(I)I" = some ⟨[.int], some .int⟩ := by decide +kernel
theorem pd__I_V : parseMethodDescriptor "(I)V" = some ⟨[.int], none⟩ := by decide +kernel
theorem pd__III_V : parseMethodDescriptor "(III)V" = some ⟨[.int, .int, .int], none⟩ := by decide +kernel
theorem pd__Ljava_lang_String_Lcom_example_fragmark_fragmark_TermTokens__IJ_V : parseMethodDescriptor "(Ljava/lang/String;Lcom/example/fragmark/fragmark/TermTokens;[IJ)V" = some ⟨[(.object "java/lang/String"), (.object "com/example/fragmark/fragmark/TermTokens"), (.array .int), .long], none⟩ := by decide +kernel
theorem pd__ZZZI_I : parseMethodDescriptor "(ZZZI)I" = some ⟨[.boolean, .boolean, .boolean, .int], some .int⟩ := by decide +kernel
theorem pn_0 : plainFor (⟨"com/example/fragmark/fragmark/PhraseTermNextFreePinLaw", "law", "(IIII)Z"⟩ : MethodName) = true := by first | exact plainFor_of_name (by first | (simp [plainName, overriddenIn]; done) | decide +kernel) | decide +kernel
def g0_1 (p1 : Int32) (p2 : Int32) (p3 : Int32) (p4 : Int32) : Int32 := ((p2 &&& (2147483647 : Int32)) % (4 : Int32))
def g0_2 (p1 : Int32) (p2 : Int32) (p3 : Int32) (p4 : Int32) : Int32 := (f12 (0 : Int32) (0 : Int32) (0 : Int32) (g0_1 p1 p2 p3 p4))
def g0_3 (p1 : Int32) (p2 : Int32) (p3 : Int32) (p4 : Int32) : Int32 := ((p3 &&& (2147483647 : Int32)) % (4 : Int32))
def g0_4 (p1 : Int32) (p2 : Int32) (p3 : Int32) (p4 : Int32) : Int32 := ((p4 &&& (2147483647 : Int32)) % (4 : Int32))
def g0_5 (p1 : Int32) (p2 : Int32) (p3 : Int32) (p4 : Int32) : Int32 := (f12 (1 : Int32) (0 : Int32) (0 : Int32) (g0_4 p1 p2 p3 p4))
def g0_6 (p1 : Int32) (p2 : Int32) (p3 : Int32) (p4 : Int32) : Int32 := (f12 (0 : Int32) (1 : Int32) (0 : Int32) (g0_4 p1 p2 p3 p4))
def g0_7 (p1 : Int32) (p2 : Int32) (p3 : Int32) (p4 : Int32) : Int32 := (f12 (0 : Int32) (0 : Int32) (1 : Int32) (g0_4 p1 p2 p3 p4))
def g0_8 (p1 : Int32) (p2 : Int32) (p3 : Int32) (p4 : Int32) : Int32 := (f12 (0 : Int32) (0 : Int32) (0 : Int32) (g0_4 p1 p2 p3 p4))
def g0_9 (p1 : Int32) (p2 : Int32) (p3 : Int32) (p4 : Int32) : Int32 := (f12 (0 : Int32) (0 : Int32) (1 : Int32) (g0_1 p1 p2 p3 p4))
def g0_10 (p1 : Int32) (p2 : Int32) (p3 : Int32) (p4 : Int32) : Int32 := (f12 (1 : Int32) (0 : Int32) (1 : Int32) (g0_4 p1 p2 p3 p4))
def g0_11 (p1 : Int32) (p2 : Int32) (p3 : Int32) (p4 : Int32) : Int32 := (f12 (0 : Int32) (1 : Int32) (1 : Int32) (g0_4 p1 p2 p3 p4))
def g0_12 (p1 : Int32) (p2 : Int32) (p3 : Int32) (p4 : Int32) : Int32 := (f12 (0 : Int32) (1 : Int32) (0 : Int32) (g0_1 p1 p2 p3 p4))
def g0_13 (p1 : Int32) (p2 : Int32) (p3 : Int32) (p4 : Int32) : Int32 := (f12 (1 : Int32) (1 : Int32) (0 : Int32) (g0_4 p1 p2 p3 p4))
def g0_14 (p1 : Int32) (p2 : Int32) (p3 : Int32) (p4 : Int32) : Int32 := (f12 (0 : Int32) (1 : Int32) (1 : Int32) (g0_1 p1 p2 p3 p4))
def g0_15 (p1 : Int32) (p2 : Int32) (p3 : Int32) (p4 : Int32) : Int32 := (f12 (1 : Int32) (1 : Int32) (1 : Int32) (g0_4 p1 p2 p3 p4))
def g0_16 (p1 : Int32) (p2 : Int32) (p3 : Int32) (p4 : Int32) : Int32 := (f12 (1 : Int32) (0 : Int32) (0 : Int32) (g0_1 p1 p2 p3 p4))
def g0_17 (p1 : Int32) (p2 : Int32) (p3 : Int32) (p4 : Int32) : Int32 := (f12 (1 : Int32) (0 : Int32) (1 : Int32) (g0_1 p1 p2 p3 p4))
def g0_18 (p1 : Int32) (p2 : Int32) (p3 : Int32) (p4 : Int32) : Int32 := (f12 (1 : Int32) (1 : Int32) (0 : Int32) (g0_1 p1 p2 p3 p4))
def g0_19 (p1 : Int32) (p2 : Int32) (p3 : Int32) (p4 : Int32) : Int32 := (f12 (1 : Int32) (1 : Int32) (1 : Int32) (g0_1 p1 p2 p3 p4))
def f0 (p1 : Int32) (p2 : Int32) (p3 : Int32) (p4 : Int32) : Int32 := (if (p1 &&& (1 : Int32)) = (0 : Int32) then (if (p1 &&& (2 : Int32)) = (0 : Int32) then (if (p1 &&& (4 : Int32)) = (0 : Int32) then (if (g0_3 p1 p2 p3 p4) = (0 : Int32) then (1 : Int32) else (if (g0_3 p1 p2 p3 p4) = (1 : Int32) then (1 : Int32) else (if (g0_3 p1 p2 p3 p4) = (2 : Int32) then (1 : Int32) else (if (g0_3 p1 p2 p3 p4) = (3 : Int32) then (1 : Int32) else 0)))) else (if (g0_3 p1 p2 p3 p4) = (0 : Int32) then (1 : Int32) else (if (g0_3 p1 p2 p3 p4) = (1 : Int32) then (1 : Int32) else (if (g0_3 p1 p2 p3 p4) = (2 : Int32) then (1 : Int32) else (if (g0_3 p1 p2 p3 p4) = (3 : Int32) then (1 : Int32) else 0))))) else (if (p1 &&& (4 : Int32)) = (0 : Int32) then (if (g0_3 p1 p2 p3 p4) = (0 : Int32) then (1 : Int32) else (if (g0_3 p1 p2 p3 p4) = (1 : Int32) then (1 : Int32) else (if (g0_3 p1 p2 p3 p4) = (2 : Int32) then (1 : Int32) else (if (g0_3 p1 p2 p3 p4) = (3 : Int32) then (1 : Int32) else 0)))) else (if (g0_3 p1 p2 p3 p4) = (0 : Int32) then (1 : Int32) else (if (g0_3 p1 p2 p3 p4) = (1 : Int32) then (1 : Int32) else (if (g0_3 p1 p2 p3 p4) = (2 : Int32) then (1 : Int32) else (if (g0_3 p1 p2 p3 p4) = (3 : Int32) then (1 : Int32) else 0)))))) else (if (p1 &&& (2 : Int32)) = (0 : Int32) then (if (p1 &&& (4 : Int32)) = (0 : Int32) then (if (g0_3 p1 p2 p3 p4) = (0 : Int32) then (1 : Int32) else (if (g0_3 p1 p2 p3 p4) = (1 : Int32) then (1 : Int32) else (if (g0_3 p1 p2 p3 p4) = (2 : Int32) then (1 : Int32) else (if (g0_3 p1 p2 p3 p4) = (3 : Int32) then (1 : Int32) else 0)))) else (if (g0_3 p1 p2 p3 p4) = (0 : Int32) then (1 : Int32) else (if (g0_3 p1 p2 p3 p4) = (1 : Int32) then (1 : Int32) else (if (g0_3 p1 p2 p3 p4) = (2 : Int32) then (1 : Int32) else (if (g0_3 p1 p2 p3 p4) = (3 : Int32) then (1 : Int32) else 0))))) else (if (p1 &&& (4 : Int32)) = (0 : Int32) then (if (g0_3 p1 p2 p3 p4) = (0 : Int32) then (1 : Int32) else (if (g0_3 p1 p2 p3 p4) = (1 : Int32) then (1 : Int32) else (if (g0_3 p1 p2 p3 p4) = (2 : Int32) then (1 : Int32) else (if (g0_3 p1 p2 p3 p4) = (3 : Int32) then (1 : Int32) else 0)))) else (if (g0_3 p1 p2 p3 p4) = (0 : Int32) then (1 : Int32) else (if (g0_3 p1 p2 p3 p4) = (1 : Int32) then (1 : Int32) else (if (g0_3 p1 p2 p3 p4) = (2 : Int32) then (1 : Int32) else (if (g0_3 p1 p2 p3 p4) = (3 : Int32) then (1 : Int32) else 0)))))))
theorem own_r4n (p1 p2 p3 p4 : Int32) (c0 : ¬ (g0_3 p1 p2 p3 p4) = (0 : Int32)) (c1 : ¬ (g0_3 p1 p2 p3 p4) = (1 : Int32)) (c2 : ¬ (g0_3 p1 p2 p3 p4) = (2 : Int32)) (c3 : ¬ (g0_3 p1 p2 p3 p4) = (3 : Int32)) : False := by
  rcases own_r4 p3 with h | h | h | h
  · exact c0 h
  · exact c1 h
  · exact c2 h
  · exact c3 h
theorem ef_0 (m : MethodId) (p1 : Int32) (p2 : Int32) (p3 : Int32) (p4 : Int32) : entryFrame m #[(.int p1), (.int p2), (.int p3), (.int p4)] 17 = (mkF m 0 #[.val (.int p1), .val (.int p2), .val (.int p3), .val (.int p4), .unset, .unset, .unset, .unset, .unset, .unset, .unset, .unset, .unset, .unset, .unset, .unset, .unset] []) := by first | (simp [entryFrame, mkF, argsToLocals, Value.category]; done) | rfl
abbrev Q0 (Z : State) (p1 : Int32) (p2 : Int32) (p3 : Int32) (p4 : Int32) (fa : Addr) (fk : ClassId) (h0 : Heap) (n0 : Nat) : Option Value → Heap → List Loc → Prop := (fun v h L => v = some (.int (f0 p1 p2 p3 p4)) ∧ Fr n0 L)
set_option maxRecDepth 65536 in
set_option maxHeartbeats 40000000 in
theorem rm0 (l : Launch) (Z : State) (a0 : Array Value) (hw : ∀ d ∈ tables_1, d.before a0 Z = true) (ws : List Jvm.Cond) (p1 : Int32) (p2 : Int32) (p3 : Int32) (p4 : Int32) (fa : Addr) (fk : ClassId) (h0 : Heap) (n0 : Nat) (Z0 : n0 ≤ h0.size) (R0 : OF Z h0 fa fk) (hsite : OSite Z fa fk) :
    OMetS l Z EL0 x code maxLocals ret ws room_1 #[(.int p1), (.int p2), (.int p3), (.int p4)] h0 (Q0 Z p1 p2 p3 p4 fa fk h0 n0) := by
  refine own_enterS pn_0 ?_
  intro p e s m below meth c s₁ hx hby hml0 hown hret hlk hnm hZ X0 e0 hs0 CH0
  have hEL := own_EW hw
  have hS0 : s.Since s.vm 0 := (State.WarmedH.refl s).since 0
  have hk0 : 0 ≤ h0.size := Nat.zero_le _
  have CR0 : CHr Z EL0 s.vm h0 s.vm h0 := CHr.refl CH0
  have hml : c.maxLocals = 17 := hml0
  have B : BX p c code := ⟨hx, hby⟩
  have N0 := Fr.nil n0
  refine own_castS (ef_0 m p1 p2 p3 p4) ?_
  show OGS Z EL0 p e room_1 s below (fun v h L => v = some (.int (f0 p1 p2 p3 p4)) ∧ Fr n0 L) s₁ (mkF m 0 #[.val (.int p1), .val (.int p2), .val (.int p3), .val (.int p4), .unset, .unset, .unset, .unset, .unset, .unset, .unset, .unset, .unset, .unset, .unset, .unset, .unset] [])
  refine wnewO OSc 3 X0 B hZ hown (ow hw 0 rfl) (ow hw 1 rfl) (ow hw 2 rfl) e0 at_0 (by decide) rfl fun T1 h1 o1 gb1 X1 e1 E1 A1 D1 => ?_
  have ge_o1 : n0 ≤ o1 := by rw [gb1]; exact Nat.le_trans Z0 (Keep.refl h0 []).1
  have sz_o1 : h0.size ≤ o1 := by rw [gb1]; exact (Keep.refl h0 []).1
  have ne_fa_o1 : fa ≠ o1 := Nat.ne_of_lt (Nat.lt_of_lt_of_eq R0.lt gb1.symm)
  have F2 := R0.ext E1
  have K3 := (Keep.refl h0 []).ext E1
  have F4 : Fld Z h1 o1 "com/example/fragmark/fragmark/TermTokens" "positions" "[I" .null := D1 (Or.inl (ow hw 11 rfl)) (ty := (.array .int)) (by decide)
  have F5 : Fld Z h1 o1 "com/example/fragmark/fragmark/TermTokens" "starts" "[I" .null := D1 (Or.inl (ow hw 13 rfl)) (ty := (.array .int)) (by decide)
  have F6 : Fld Z h1 o1 "com/example/fragmark/fragmark/TermTokens" "ends" "[I" .null := D1 (Or.inl (ow hw 15 rfl)) (ty := (.array .int)) (by decide)
  have F7 : Fld Z h1 o1 "com/example/fragmark/fragmark/TermTokens" "repeats" "[I" .null := D1 (Or.inl (ow hw 17 rfl)) (ty := (.array .int)) (by decide)
  have F8 : Fld Z h1 o1 "com/example/fragmark/fragmark/TermTokens" "size" "I" (.int (0 : Int32)) := D1 (Or.inl (ow hw 24 rfl)) (ty := .int) (by decide)
  have CR9 := CHr.trans CR0 (CHr.ext E1 CH0)
  have CH9 := CHv.ext E1 CH0
  have hk9 := Nat.le_trans hk0 E1.1
  refine wdup OSc 4 X1 B at_3 rfl rfl ?_
  refine wspec OSc 7 X1 B hZ hown (ow hw 3 rfl) (ow hw 4 rfl) rfl (ow hw 5 rfl) (ow hw 2 rfl) e1 (rm1 l Z a0 hw [] o1 h1 n0 (Nat.le_trans Z0 K3.1) A1 F4 F5 F6 F7 F8 ge_o1) 1 (by decide) (by decide) hml rfl (lenOf pd___V rfl) [(.ref o1)] rfl rfl at_4 rfl fun _ T10 L10 X10 hQ10 => ?_
  obtain ⟨rfl, N10q, K10q, x_10, y_10, z_10, sz_x_10, sz_y_10, sz_z_10, nx10_0, nx10_1, nx10_2, P10_0, P10_1, P10_2, P10_3, P10_4, P10_5, P10_6, P10_7⟩ := hQ10
  have N10 := Fr.app N0 N10q
  have ge_x_10 : n0 ≤ x_10 := Nat.le_trans (Nat.le_trans Z0 K3.1) sz_x_10
  have sy_x_10 : h0.size ≤ x_10 := Nat.le_trans K3.1 sz_x_10
  have ne_fa_x_10 : fa ≠ x_10 := Nat.ne_of_lt (Nat.lt_of_lt_of_le F2.lt sz_x_10)
  have ne_o1_x_10 : o1 ≠ x_10 := Nat.ne_of_lt (Nat.lt_of_lt_of_le A1.lt sz_x_10)
  have ge_y_10 : n0 ≤ y_10 := Nat.le_trans (Nat.le_trans Z0 K3.1) sz_y_10
  have sy_y_10 : h0.size ≤ y_10 := Nat.le_trans K3.1 sz_y_10
  have ne_fa_y_10 : fa ≠ y_10 := Nat.ne_of_lt (Nat.lt_of_lt_of_le F2.lt sz_y_10)
  have ne_o1_y_10 : o1 ≠ y_10 := Nat.ne_of_lt (Nat.lt_of_lt_of_le A1.lt sz_y_10)
  have ge_z_10 : n0 ≤ z_10 := Nat.le_trans (Nat.le_trans Z0 K3.1) sz_z_10
  have sy_z_10 : h0.size ≤ z_10 := Nat.le_trans K3.1 sz_z_10
  have ne_fa_z_10 : fa ≠ z_10 := Nat.ne_of_lt (Nat.lt_of_lt_of_le F2.lt sz_z_10)
  have ne_o1_z_10 : o1 ≠ z_10 := Nat.ne_of_lt (Nat.lt_of_lt_of_le A1.lt sz_z_10)
  have K10 := K3.trans K10q (own_all1 (Or.inr sz_o1))
  have F11 := F2.keep K10q
  refine own_stk (S' := [(.ref o1)]) rfl ?_
  have CR12 := CHr.trans CR9 (CHr.keep K10q (own_all1 (Safe.exa hZ.alike A1 (by decide) (by decide))) CH9)
  have CH12 := CHv.keep K10q (own_all1 (Safe.exa hZ.alike A1 (by decide) (by decide))) CH9
  have hk12 := Nat.le_trans hk9 K10q.1
  refine wastore OSc 9 X10 B at_7 #[.val (.int p1), .val (.int p2), .val (.int p3), .val (.int p4), .val (.ref o1), .unset, .unset, .unset, .unset, .unset, .unset, .unset, .unset, .unset, .unset, .unset, .unset] rfl rfl rfl ?_
  refine waload OSc 11 X10 B at_9 rfl rfl rfl ?_
  refine wiconst OSc 12 X10 B at_11 0 rfl rfl ?_
  refine wiconst OSc 13 X10 B at_12 0 rfl rfl ?_
  refine wiconst OSc 14 X10 B at_13 1 rfl rfl ?_
  refine wvirt OSc 17 X10 B hZ hown (ow hw 18 rfl) (ow hw 19 rfl) (ow hw 21 rfl) (ow hw 20 rfl) P10_0 (ow hw 22 rfl) (ow hw 2 rfl) rfl (rm3_0 l Z a0 hw [] o1 x_10 y_10 z_10 T10.heap n0 P10_0 P10_1 P10_2 P10_3 P10_4 P10_5 P10_6 P10_7 ge_o1 ge_x_10 ge_y_10 ge_z_10 ne_o1_x_10 ne_o1_y_10 ne_o1_z_10 nx10_0 nx10_1 nx10_2) 0 (by decide) (by decide) hml rfl (lenOf pd__III_V rfl) [] rfl rfl at_14 rfl fun _ T13 L13 X13 hQ13 => ?_
  obtain ⟨rfl, N13q, K13q, P13_0, P13_1, P13_2, P13_3, P13_4, P13_5, P13_6, P13_7⟩ := hQ13
  have N13 := Fr.app N10 N13q
  have K13 := K10.trans K13q (own_all4 (Or.inr sz_o1) (Or.inr sy_x_10) (Or.inr sy_y_10) (Or.inr sy_z_10))
  have F14 := F11.keep K13q
  refine own_stk (S' := []) rfl ?_
  have CR15 := CHr.trans CR12 (CHr.keep K13q (own_all4 (Safe.exa hZ.alike P10_0 (by decide) (by decide)) (own_safeA hZ.alike P10_5 (by decide)) (own_safeA hZ.alike P10_6 (by decide)) (own_safeA hZ.alike P10_7 (by decide))) CH12)
  have CH15 := CHv.keep K13q (own_all4 (Safe.exa hZ.alike P10_0 (by decide) (by decide)) (own_safeA hZ.alike P10_5 (by decide)) (own_safeA hZ.alike P10_6 (by decide)) (own_safeA hZ.alike P10_7 (by decide))) CH12
  have hk15 := Nat.le_trans hk12 K13q.1
  refine waload OSc 19 X13 B at_17 rfl rfl rfl ?_
  refine wiconst OSc 20 X13 B at_19 1 rfl rfl ?_
  refine wiconst OSc 21 X13 B at_20 1 rfl rfl ?_
  refine wiconst OSc 22 X13 B at_21 2 rfl rfl ?_
  refine wvirt OSc 25 X13 B hZ hown (ow hw 18 rfl) (ow hw 19 rfl) (ow hw 21 rfl) (ow hw 20 rfl) P13_0 (ow hw 22 rfl) (ow hw 2 rfl) rfl (rm3_1 l Z a0 hw [] o1 x_10 y_10 z_10 T13.heap n0 P13_0 P13_1 P13_2 P13_3 P13_4 P13_5 P13_6 P13_7 ge_o1 ge_x_10 ge_y_10 ge_z_10 ne_o1_x_10 ne_o1_y_10 ne_o1_z_10 nx10_0 nx10_1 nx10_2) 0 (by decide) (by decide) hml rfl (lenOf pd__III_V rfl) [] rfl rfl at_22 rfl fun _ T16 L16 X16 hQ16 => ?_
  obtain ⟨rfl, N16q, K16q, P16_0, P16_1, P16_2, P16_3, P16_4, P16_5, P16_6, P16_7⟩ := hQ16
  have N16 := Fr.app N13 N16q
  have K16 := K13.trans K16q (own_all4 (Or.inr sz_o1) (Or.inr sy_x_10) (Or.inr sy_y_10) (Or.inr sy_z_10))
  have F17 := F14.keep K16q
  refine own_stk (S' := []) rfl ?_
  have CR18 := CHr.trans CR15 (CHr.keep K16q (own_all4 (Safe.exa hZ.alike P13_0 (by decide) (by decide)) (own_safeA hZ.alike P13_5 (by decide)) (own_safeA hZ.alike P13_6 (by decide)) (own_safeA hZ.alike P13_7 (by decide))) CH15)
  have CH18 := CHv.keep K16q (own_all4 (Safe.exa hZ.alike P13_0 (by decide) (by decide)) (own_safeA hZ.alike P13_5 (by decide)) (own_safeA hZ.alike P13_6 (by decide)) (own_safeA hZ.alike P13_7 (by decide))) CH15
  have hk18 := Nat.le_trans hk15 K16q.1
  refine waload OSc 27 X16 B at_25 rfl rfl rfl ?_
  refine wiconst OSc 28 X16 B at_27 2 rfl rfl ?_
  refine wiconst OSc 29 X16 B at_28 2 rfl rfl ?_
  refine wiconst OSc 30 X16 B at_29 3 rfl rfl ?_
  refine wvirt OSc 33 X16 B hZ hown (ow hw 18 rfl) (ow hw 19 rfl) (ow hw 21 rfl) (ow hw 20 rfl) P16_0 (ow hw 22 rfl) (ow hw 2 rfl) rfl (rm3_2 l Z a0 hw [] o1 x_10 y_10 z_10 T16.heap n0 P16_0 P16_1 P16_2 P16_3 P16_4 P16_5 P16_6 P16_7 ge_o1 ge_x_10 ge_y_10 ge_z_10 ne_o1_x_10 ne_o1_y_10 ne_o1_z_10 nx10_0 nx10_1 nx10_2) 0 (by decide) (by decide) hml rfl (lenOf pd__III_V rfl) [] rfl rfl at_30 rfl fun _ T19 L19 X19 hQ19 => ?_
  obtain ⟨rfl, N19q, K19q, P19_0, P19_1, P19_2, P19_3, P19_4, P19_5, P19_6, P19_7⟩ := hQ19
  have N19 := Fr.app N16 N19q
  have K19 := K16.trans K19q (own_all4 (Or.inr sz_o1) (Or.inr sy_x_10) (Or.inr sy_y_10) (Or.inr sy_z_10))
  have F20 := F17.keep K19q
  refine own_stk (S' := []) rfl ?_
  have CR21 := CHr.trans CR18 (CHr.keep K19q (own_all4 (Safe.exa hZ.alike P16_0 (by decide) (by decide)) (own_safeA hZ.alike P16_5 (by decide)) (own_safeA hZ.alike P16_6 (by decide)) (own_safeA hZ.alike P16_7 (by decide))) CH18)
  have CH21 := CHv.keep K19q (own_all4 (Safe.exa hZ.alike P16_0 (by decide) (by decide)) (own_safeA hZ.alike P16_5 (by decide)) (own_safeA hZ.alike P16_6 (by decide)) (own_safeA hZ.alike P16_7 (by decide))) CH18
  have hk21 := Nat.le_trans hk18 K19q.1
  refine wnewO OSc 36 X19 B hZ hown (ow hw 25 rfl) (ow hw 26 rfl) (ow hw 27 rfl) rfl at_33 (by decide) rfl fun T22 h22 o22 gb22 X22 e22 E22 A22 D22 => ?_
  have ge_o22 : n0 ≤ o22 := by rw [gb22]; exact Nat.le_trans Z0 K19.1
  have sz_o22 : h0.size ≤ o22 := by rw [gb22]; exact K19.1
  have ne_fa_o22 : fa ≠ o22 := Nat.ne_of_lt (Nat.lt_of_lt_of_eq F20.lt gb22.symm)
  have ne_o1_o22 : o1 ≠ o22 := Nat.ne_of_lt (Nat.lt_of_lt_of_eq P19_0.lt gb22.symm)
  have ne_x_10_o22 : x_10 ≠ o22 := Nat.ne_of_lt (Nat.lt_of_lt_of_eq P19_5.lt gb22.symm)
  have ne_y_10_o22 : y_10 ≠ o22 := Nat.ne_of_lt (Nat.lt_of_lt_of_eq P19_6.lt gb22.symm)
  have ne_z_10_o22 : z_10 ≠ o22 := Nat.ne_of_lt (Nat.lt_of_lt_of_eq P19_7.lt gb22.symm)
  have F23 := F20.ext E22
  have F24 := P19_0.ext E22
  have F25 := P19_1.ext E22
  have F26 := P19_2.ext E22
  have F27 := P19_3.ext E22
  have F28 := P19_4.ext E22
  have F29 := P19_5.ext E22
  have F30 := P19_6.ext E22
  have F31 := P19_7.ext E22
  have K32 := K19.ext E22
  have F33 : Fld Z h22 o22 "com/example/fragmark/fragmark/PhraseTerm" "free" "[I" .null := D22 (Or.inl (ow hw 62 rfl)) (ty := (.array .int)) (by decide)
  have F34 : Fld Z h22 o22 "com/example/fragmark/fragmark/PhraseTerm" "from" "[I" .null := D22 (Or.inl (ow hw 85 rfl)) (ty := (.array .int)) (by decide)
  have F35 : Fld Z h22 o22 "com/example/fragmark/fragmark/PhraseTerm" "term" "Ljava/lang/String;" .null := D22 (Or.inr (ow hw 41 rfl)) (ty := (.object "java/lang/String")) (by decide)
  have F36 : Fld Z h22 o22 "com/example/fragmark/fragmark/PhraseTerm" "words" "Lcom/example/fragmark/fragmark/TermTokens;" .null := D22 (Or.inr (ow hw 43 rfl)) (ty := (.object "com/example/fragmark/fragmark/TermTokens")) (by decide)
  have F37 : Fld Z h22 o22 "com/example/fragmark/fragmark/PhraseTerm" "places" "[I" .null := D22 (Or.inr (ow hw 45 rfl)) (ty := (.array .int)) (by decide)
  have F38 : Fld Z h22 o22 "com/example/fragmark/fragmark/PhraseTerm" "slop" "J" (.long (0 : Int64)) := D22 (Or.inr (ow hw 47 rfl)) (ty := .long) (by decide)
  have F39 : Fld Z h22 o22 "com/example/fragmark/fragmark/PhraseTerm" "last" "[I" .null := D22 (Or.inr (ow hw 49 rfl)) (ty := (.array .int)) (by decide)
  have F40 : Fld Z h22 o22 "com/example/fragmark/fragmark/PhraseTerm" "taken" "[I" .null := D22 (Or.inr (ow hw 51 rfl)) (ty := (.array .int)) (by decide)
  have F41 : Fld Z h22 o22 "com/example/fragmark/fragmark/PhraseTerm" "latest" "[I" .null := D22 (Or.inr (ow hw 53 rfl)) (ty := (.array .int)) (by decide)
  have F42 : Fld Z h22 o22 "com/example/fragmark/fragmark/PhraseTerm" "marked" "[I" .null := D22 (Or.inr (ow hw 55 rfl)) (ty := (.array .int)) (by decide)
  have CR43 := CHr.trans CR21 (CHr.ext E22 CH21)
  have CH43 := CHv.ext E22 CH21
  have hk43 := Nat.le_trans hk21 E22.1
  refine wdup OSc 37 X22 B at_36 rfl rfl ?_
  obtain ⟨o44, T44, h44, k44, X44, e44, E44, hS44, hk44, hZ44, hown44, Cq44, -, st44⟩ := ldcOH (EL := EL0) (n := 4) X22 hx hZ hown (ow hw 28 rfl) (own_wS hw) e22 hS0 hk43 hEL CH43 (g := (mkF m 37 #[.val (.int p1), .val (.int p2), .val (.int p3), .val (.int p4), .val (.ref o1), .unset, .unset, .unset, .unset, .unset, .unset, .unset, .unset, .unset, .unset, .unset, .unset] [(.ref o22), (.ref o22)])) rfl (hb hby at_37) (by decide) (by decide) (by decide) (by decide)
  refine own_stS st44 ?_
  have CR44 := CHr.trans CR43 Cq44
  have F45 := F23.ext E44
  have F46 := F24.ext E44
  have F47 := F25.ext E44
  have F48 := F26.ext E44
  have F49 := F27.ext E44
  have F50 := F28.ext E44
  have F51 := F29.ext E44
  have F52 := F30.ext E44
  have F53 := F31.ext E44
  have F54 := A22.ext E44
  have F55 := F33.ext E44
  have F56 := F34.ext E44
  have F57 := F35.ext E44
  have F58 := F36.ext E44
  have F59 := F37.ext E44
  have F60 := F38.ext E44
  have F61 := F39.ext E44
  have F62 := F40.ext E44
  have F63 := F41.ext E44
  have F64 := F42.ext E44
  have K65 := K32.ext E44
  show OGS _ _ p e _ s below _ T44 (mkF m 39 #[.val (.int p1), .val (.int p2), .val (.int p3), .val (.int p4), .val (.ref o1), .unset, .unset, .unset, .unset, .unset, .unset, .unset, .unset, .unset, .unset, .unset, .unset] [(.ref o44), (.ref o22), (.ref o22)])
  refine waload OSc 41 X44 B at_39 rfl rfl rfl ?_
  refine wiconst OSc 42 X44 B at_41 1 rfl rfl ?_
  refine wnewP OSc 44 X44 B hZ44 (ow hw 9 rfl) e44 at_42 1 (by decide) (by decide) rfl fun T66 h66 b66 k66 gb66 X66 e66 E66 A66 => ?_
  have ge_b66 : n0 ≤ b66 := by rw [gb66]; exact Nat.le_trans Z0 K65.1
  have sz_b66 : h0.size ≤ b66 := by rw [gb66]; exact K65.1
  have ne_fa_b66 : fa ≠ b66 := Nat.ne_of_lt (Nat.lt_of_lt_of_eq F45.lt gb66.symm)
  have ne_o1_b66 : o1 ≠ b66 := Nat.ne_of_lt (Nat.lt_of_lt_of_eq F46.lt gb66.symm)
  have ne_o22_b66 : o22 ≠ b66 := Nat.ne_of_lt (Nat.lt_of_lt_of_eq F54.lt gb66.symm)
  have ne_x_10_b66 : x_10 ≠ b66 := Nat.ne_of_lt (Nat.lt_of_lt_of_eq F51.lt gb66.symm)
  have ne_y_10_b66 : y_10 ≠ b66 := Nat.ne_of_lt (Nat.lt_of_lt_of_eq F52.lt gb66.symm)
  have ne_z_10_b66 : z_10 ≠ b66 := Nat.ne_of_lt (Nat.lt_of_lt_of_eq F53.lt gb66.symm)
  have F67 := F45.ext E66
  have F68 := F46.ext E66
  have F69 := F47.ext E66
  have F70 := F48.ext E66
  have F71 := F49.ext E66
  have F72 := F50.ext E66
  have F73 := F51.ext E66
  have F74 := F52.ext E66
  have F75 := F53.ext E66
  have F76 := F54.ext E66
  have F77 := F55.ext E66
  have F78 := F56.ext E66
  have F79 := F57.ext E66
  have F80 := F58.ext E66
  have F81 := F59.ext E66
  have F82 := F60.ext E66
  have F83 := F61.ext E66
  have F84 := F62.ext E66
  have F85 := F63.ext E66
  have F86 := F64.ext E66
  have K87 := K65.ext E66
  have F88 : OA Z h66 b66 .int [(.int (0 : Int32))] := OA.new A66
  have CR89 := CHr.trans CR44 (CHr.ext E66 Cq44.1)
  have CH89 := CHv.ext E66 Cq44.1
  have hk89 := Nat.le_trans hk44 E66.1
  refine wdup OSc 45 X66 B at_44 rfl rfl ?_
  refine wiconst OSc 46 X66 B at_45 0 rfl rfl ?_
  refine wiconst OSc 47 X66 B at_46 0 rfl rfl ?_
  refine wstI OSc 48 X66 B hZ44 e66 F88 0 (by decide) (by decide) (by decide : 0 < 1) at_47 rfl fun T90 h90 X90 e90 W90 => ?_
  have N90 := Fr.snoc X90 N19 ge_b66
  have K91 := K87.wr W90 (Or.inr sz_b66)
  have F92 := OF.wr F67 W90
  have F93 := F68.wr W90
  have F94 := F69.other W90 (Or.inl ne_o1_b66)
  have F95 := F70.other W90 (Or.inl ne_o1_b66)
  have F96 := F71.other W90 (Or.inl ne_o1_b66)
  have F97 := F72.other W90 (Or.inl ne_o1_b66)
  have F98 := F73.other W90 ne_x_10_b66
  have F99 := F74.other W90 ne_y_10_b66
  have F100 := F75.other W90 ne_z_10_b66
  have F101 := F76.wr W90
  have F102 := F77.other W90 (Or.inl ne_o22_b66)
  have F103 := F78.other W90 (Or.inl ne_o22_b66)
  have F104 := F79.other W90 (Or.inl ne_o22_b66)
  have F105 := F80.other W90 (Or.inl ne_o22_b66)
  have F106 := F81.other W90 (Or.inl ne_o22_b66)
  have F107 := F82.other W90 (Or.inl ne_o22_b66)
  have F108 := F83.other W90 (Or.inl ne_o22_b66)
  have F109 := F84.other W90 (Or.inl ne_o22_b66)
  have F110 := F85.other W90 (Or.inl ne_o22_b66)
  have F111 := F86.other W90 (Or.inl ne_o22_b66)
  have F112 : OA Z h90 b66 .int [(.int (0 : Int32))] := (F88.set W90 (i := 0) (by decide))
  have CR113 := CHr.trans CR89 (CHr.wr W90 (own_safeA hZ44.alike F88 (by decide)) CH89)
  have CH113 := CHv.wr W90 (own_safeA hZ44.alike F88 (by decide)) CH89
  have hk113 := Nat.le_trans hk89 (Keep.of_wr W90).1
  refine wlconst OSc 49 X90 B at_48 0 rfl rfl ?_
  refine wspec OSc 52 X90 B hZ44 hown44 (ow hw 36 rfl) (ow hw 37 rfl) rfl (ow hw 38 rfl) (ow hw 27 rfl) e90 (rm4 l Z a0 hw [] o22 o44 o1 b66 (0 : Int64) h90 n0 (Nat.le_trans Z0 K91.1) F101 F104 F105 F107 F106 F108 F109 F110 F111 F102 F103 F112 ge_o22 ne_o22_b66) 1 (by decide) (by decide) hml rfl (lenOf pd__Ljava_lang_String_Lcom_example_fragmark_fragmark_TermTokens__IJ_V rfl) [(.ref o22)] rfl rfl at_49 rfl fun _ T114 L114 X114 hQ114 => ?_
  obtain ⟨rfl, N114q, K114q, P114_0, P114_1, P114_2, P114_3, P114_4⟩ := hQ114
  have N114 := Fr.app N90 N114q
  have K114 := K91.trans K114q (own_all1 (Or.inr sz_o22))
  have F115 := F92.keep K114q
  have F116 := F93.keep K114q
  have F117 := F94.keep K114q (own_nin1 ne_o1_o22)
  have F118 := F95.keep K114q (own_nin1 ne_o1_o22)
  have F119 := F96.keep K114q (own_nin1 ne_o1_o22)
  have F120 := F97.keep K114q (own_nin1 ne_o1_o22)
  have F121 := F98.keep K114q (own_nin1 ne_x_10_o22)
  have F122 := F99.keep K114q (own_nin1 ne_y_10_o22)
  have F123 := F100.keep K114q (own_nin1 ne_z_10_o22)
  have F124 := F112.keep K114q (own_nin1 (Ne.symm ne_o22_b66))
  refine own_stk (S' := [(.ref o22)]) rfl ?_
  have CR125 := CHr.trans CR113 (CHr.keep K114q (own_all1 (Safe.exa hZ44.alike F101 (by decide) (by decide))) CH113)
  have CH125 := CHv.keep K114q (own_all1 (Safe.exa hZ44.alike F101 (by decide) (by decide))) CH113
  have hk125 := Nat.le_trans hk113 K114q.1
  refine wastore OSc 54 X114 B at_52 #[.val (.int p1), .val (.int p2), .val (.int p3), .val (.int p4), .val (.ref o1), .val (.ref o22), .unset, .unset, .unset, .unset, .unset, .unset, .unset, .unset, .unset, .unset, .unset] rfl rfl rfl ?_
  refine waload OSc 56 X114 B at_54 rfl rfl rfl ?_
  refine wvirt OSc 59 X114 B hZ44 hown44 (ow hw 56 rfl) (ow hw 57 rfl) (ow hw 59 rfl) (ow hw 58 rfl) P114_0 (ow hw 60 rfl) (ow hw 27 rfl) rfl (rm5 l Z a0 hw [] o22 o1 b66 fa fk T114.heap n0 (Nat.le_trans Z0 K114.1) P114_0 P114_1 P114_2 P114_3 P114_4 F116 F120 F124 F115 ge_o22 (Ne.symm ne_o1_o22) ne_o22_b66 hsite) 0 (by decide) (by decide) hml rfl (lenOf pd___V rfl) [] rfl rfl at_56 rfl fun _ T126 L126 X126 hQ126 => ?_
  obtain ⟨rfl, N126q, K126q, b_126, sz_b_126, P126_0, P126_1, P126_2⟩ := hQ126
  have N126 := Fr.app N114 N126q
  have ge_b_126 : n0 ≤ b_126 := Nat.le_trans (Nat.le_trans Z0 K114.1) sz_b_126
  have sy_b_126 : h0.size ≤ b_126 := Nat.le_trans K114.1 sz_b_126
  have ne_b66_b_126 : b66 ≠ b_126 := Nat.ne_of_lt (Nat.lt_of_lt_of_le F124.lt sz_b_126)
  have ne_fa_b_126 : fa ≠ b_126 := Nat.ne_of_lt (Nat.lt_of_lt_of_le F115.lt sz_b_126)
  have ne_o1_b_126 : o1 ≠ b_126 := Nat.ne_of_lt (Nat.lt_of_lt_of_le F116.lt sz_b_126)
  have ne_o22_b_126 : o22 ≠ b_126 := Nat.ne_of_lt (Nat.lt_of_lt_of_le P114_0.lt sz_b_126)
  have ne_x_10_b_126 : x_10 ≠ b_126 := Nat.ne_of_lt (Nat.lt_of_lt_of_le F121.lt sz_b_126)
  have ne_y_10_b_126 : y_10 ≠ b_126 := Nat.ne_of_lt (Nat.lt_of_lt_of_le F122.lt sz_b_126)
  have ne_z_10_b_126 : z_10 ≠ b_126 := Nat.ne_of_lt (Nat.lt_of_lt_of_le F123.lt sz_b_126)
  have K126 := K114.trans K126q (own_all1 (Or.inr sz_o22))
  have F127 := F115.keep K126q
  have F128 := F116.keep K126q
  have F129 := F117.keep K126q (own_nin1 ne_o1_o22)
  have F130 := F118.keep K126q (own_nin1 ne_o1_o22)
  have F131 := F119.keep K126q (own_nin1 ne_o1_o22)
  have F132 := F120.keep K126q (own_nin1 ne_o1_o22)
  have F133 := F121.keep K126q (own_nin1 ne_x_10_o22)
  have F134 := F122.keep K126q (own_nin1 ne_y_10_o22)
  have F135 := F123.keep K126q (own_nin1 ne_z_10_o22)
  have F136 := F124.keep K126q (own_nin1 (Ne.symm ne_o22_b66))
  refine own_stk (S' := []) rfl ?_
  have CR137 := CHr.trans CR125 (CHr.keep K126q (own_all1 (Safe.exa hZ44.alike P114_0 (by decide) (by decide))) CH125)
  have CH137 := CHv.keep K126q (own_all1 (Safe.exa hZ44.alike P114_0 (by decide) (by decide))) CH125
  have hk137 := Nat.le_trans hk125 K126q.1
  refine wiloadN OSc 60 X126 B at_59 rfl rfl ?_
  refine wiconst OSc 61 X126 B at_60 1 rfl rfl ?_
  refine wiand OSc 62 X126 B at_61 rfl ?_
  by_cases c138 : (p1 &&& (1 : Int32)) = (0 : Int32)
  · refine wifYes OSc 69 X126 B at_62 (own_if0 (teq c138).1) rfl ?_
    refine wiconst OSc 70 X126 B at_69 0 rfl rfl ?_
    refine wistore OSc 72 X126 B at_70 #[.val (.int p1), .val (.int p2), .val (.int p3), .val (.int p4), .val (.ref o1), .val (.ref o22), .val (.int (0 : Int32)), .unset, .unset, .unset, .unset, .unset, .unset, .unset, .unset, .unset, .unset] rfl rfl ?_
    refine wiloadN OSc 73 X126 B at_72 rfl rfl ?_
    refine wiconst OSc 74 X126 B at_73 2 rfl rfl ?_
    refine wiand OSc 75 X126 B at_74 rfl ?_
    by_cases c139 : (p1 &&& (2 : Int32)) = (0 : Int32)
    · refine wifYes OSc 82 X126 B at_75 (own_if0 (teq c139).1) rfl ?_
      refine wiconst OSc 83 X126 B at_82 0 rfl rfl ?_
      refine wistore OSc 85 X126 B at_83 #[.val (.int p1), .val (.int p2), .val (.int p3), .val (.int p4), .val (.ref o1), .val (.ref o22), .val (.int (0 : Int32)), .val (.int (0 : Int32)), .unset, .unset, .unset, .unset, .unset, .unset, .unset, .unset, .unset] rfl rfl ?_
      refine wiloadN OSc 86 X126 B at_85 rfl rfl ?_
      refine wiconst OSc 87 X126 B at_86 4 rfl rfl ?_
      refine wiand OSc 88 X126 B at_87 rfl ?_
      by_cases c140 : (p1 &&& (4 : Int32)) = (0 : Int32)
      · refine wifYes OSc 95 X126 B at_88 (own_if0 (teq c140).1) rfl ?_
        refine wiconst OSc 96 X126 B at_95 0 rfl rfl ?_
        refine wistore OSc 98 X126 B at_96 #[.val (.int p1), .val (.int p2), .val (.int p3), .val (.int p4), .val (.ref o1), .val (.ref o22), .val (.int (0 : Int32)), .val (.int (0 : Int32)), .val (.int (0 : Int32)), .unset, .unset, .unset, .unset, .unset, .unset, .unset, .unset] rfl rfl ?_
        refine wiload OSc 100 X126 B at_98 rfl rfl ?_
        refine wifYes OSc 109 X126 B at_100 (by decide) rfl ?_
        refine wiload OSc 111 X126 B at_109 rfl rfl ?_
        refine wifYes OSc 120 X126 B at_111 (by decide) rfl ?_
        refine wiload OSc 122 X126 B at_120 rfl rfl ?_
        refine wifYes OSc 131 X126 B at_122 (by decide) rfl ?_
        refine wiloadN OSc 132 X126 B at_131 rfl rfl ?_
        refine own_stS (fun t k => X126.ldcInt hx hown44 (mvT hZ44 (ow hw 86 rfl)) (g := (mkF m 132 #[.val (.int p1), .val (.int p2), .val (.int p3), .val (.int p4), .val (.ref o1), .val (.ref o22), .val (.int (0 : Int32)), .val (.int (0 : Int32)), .val (.int (0 : Int32)), .unset, .unset, .unset, .unset, .unset, .unset, .unset, .unset] [(.int p2)])) rfl (hb hby at_132) _ k) ?_
        show OGS _ _ p e _ s below _ T126 (mkF m 134 #[.val (.int p1), .val (.int p2), .val (.int p3), .val (.int p4), .val (.ref o1), .val (.ref o22), .val (.int (0 : Int32)), .val (.int (0 : Int32)), .val (.int (0 : Int32)), .unset, .unset, .unset, .unset, .unset, .unset, .unset, .unset] [(.int (2147483647 : Int32)), (.int p2)])
        refine wiand OSc 135 X126 B at_134 rfl ?_
        refine wiconst OSc 136 X126 B at_135 4 rfl rfl ?_
        refine own_stS (fun t k => iremM X126 hx rfl (hb hby at_136) rfl (by decide) k) ?_
        show OGS _ _ p e _ s below _ T126 (mkF m 137 #[.val (.int p1), .val (.int p2), .val (.int p3), .val (.int p4), .val (.ref o1), .val (.ref o22), .val (.int (0 : Int32)), .val (.int (0 : Int32)), .val (.int (0 : Int32)), .unset, .unset, .unset, .unset, .unset, .unset, .unset, .unset] [(.int ((p2 &&& (2147483647 : Int32)) % (4 : Int32)))])
        refine wistore OSc 139 X126 B at_137 #[.val (.int p1), .val (.int p2), .val (.int p3), .val (.int p4), .val (.ref o1), .val (.ref o22), .val (.int (0 : Int32)), .val (.int (0 : Int32)), .val (.int (0 : Int32)), .val (.int (g0_1 p1 p2 p3 p4)), .unset, .unset, .unset, .unset, .unset, .unset, .unset] rfl rfl ?_
        refine waload OSc 141 X126 B at_139 rfl rfl rfl ?_
        refine wiload OSc 143 X126 B at_141 rfl rfl ?_
        refine wvirt OSc 146 X126 B hZ44 hown44 (ow hw 87 rfl) (ow hw 88 rfl) (ow hw 90 rfl) (ow hw 89 rfl) P126_0 (ow hw 91 rfl) (ow hw 27 rfl) rfl (rm10 l Z a0 hw [] o22 (g0_1 p1 p2 p3 p4) b_126 (0 : Int32) (0 : Int32) (0 : Int32) (0 : Int32) (1 : Int32) (2 : Int32) T126.heap n0 P126_1 P126_2 ge_b_126 ne_o22_b_126 (own_r4 p2) (Or.inl ⟨rfl, rfl, rfl, rfl, rfl, rfl⟩)) 0 (by decide) (by decide) hml rfl (lenOf pd__I_I rfl) [] rfl rfl at_143 rfl fun _ T141 L141 X141 hQ141 => ?_
        obtain ⟨rfl, N141q, K141q, y0_141, y1_141, y2_141, xh141_0, P141_0⟩ := hQ141
        have N141 := Fr.app N126 N141q
        have K141 := K126.trans K141q (own_all1 (Or.inr sy_b_126))
        have F142 := P126_0.keep K141q
        have F143 := P126_1.keep K141q (own_nin1 ne_o22_b_126)
        refine own_stk (S' := [(.int (f12 (0 : Int32) (0 : Int32) (0 : Int32) (g0_1 p1 p2 p3 p4)))]) rfl ?_
        have CR144 := CHr.trans CR137 (CHr.keep K141q (own_all1 (own_safeA hZ44.alike P126_2 (by decide))) CH137)
        have CH144 := CHv.keep K141q (own_all1 (own_safeA hZ44.alike P126_2 (by decide))) CH137
        have hk144 := Nat.le_trans hk137 K141q.1
        refine wistore OSc 148 X141 B at_146 #[.val (.int p1), .val (.int p2), .val (.int p3), .val (.int p4), .val (.ref o1), .val (.ref o22), .val (.int (0 : Int32)), .val (.int (0 : Int32)), .val (.int (0 : Int32)), .val (.int (g0_1 p1 p2 p3 p4)), .val (.int (g0_2 p1 p2 p3 p4)), .unset, .unset, .unset, .unset, .unset, .unset] rfl rfl ?_
        refine wiloadN OSc 149 X141 B at_148 rfl rfl ?_
        refine own_stS (fun t k => X141.ldcInt hx hown44 (mvT hZ44 (ow hw 86 rfl)) (g := (mkF m 149 #[.val (.int p1), .val (.int p2), .val (.int p3), .val (.int p4), .val (.ref o1), .val (.ref o22), .val (.int (0 : Int32)), .val (.int (0 : Int32)), .val (.int (0 : Int32)), .val (.int (g0_1 p1 p2 p3 p4)), .val (.int (g0_2 p1 p2 p3 p4)), .unset, .unset, .unset, .unset, .unset, .unset] [(.int p3)])) rfl (hb hby at_149) _ k) ?_
        show OGS _ _ p e _ s below _ T141 (mkF m 151 #[.val (.int p1), .val (.int p2), .val (.int p3), .val (.int p4), .val (.ref o1), .val (.ref o22), .val (.int (0 : Int32)), .val (.int (0 : Int32)), .val (.int (0 : Int32)), .val (.int (g0_1 p1 p2 p3 p4)), .val (.int (g0_2 p1 p2 p3 p4)), .unset, .unset, .unset, .unset, .unset, .unset] [(.int (2147483647 : Int32)), (.int p3)])
        refine wiand OSc 152 X141 B at_151 rfl ?_
        refine wiconst OSc 153 X141 B at_152 4 rfl rfl ?_
        refine own_stS (fun t k => iremM X141 hx rfl (hb hby at_153) rfl (by decide) k) ?_
        show OGS _ _ p e _ s below _ T141 (mkF m 154 #[.val (.int p1), .val (.int p2), .val (.int p3), .val (.int p4), .val (.ref o1), .val (.ref o22), .val (.int (0 : Int32)), .val (.int (0 : Int32)), .val (.int (0 : Int32)), .val (.int (g0_1 p1 p2 p3 p4)), .val (.int (g0_2 p1 p2 p3 p4)), .unset, .unset, .unset, .unset, .unset, .unset] [(.int ((p3 &&& (2147483647 : Int32)) % (4 : Int32)))])
        refine wistore OSc 156 X141 B at_154 #[.val (.int p1), .val (.int p2), .val (.int p3), .val (.int p4), .val (.ref o1), .val (.ref o22), .val (.int (0 : Int32)), .val (.int (0 : Int32)), .val (.int (0 : Int32)), .val (.int (g0_1 p1 p2 p3 p4)), .val (.int (g0_2 p1 p2 p3 p4)), .val (.int (g0_3 p1 p2 p3 p4)), .unset, .unset, .unset, .unset, .unset] rfl rfl ?_
        by_cases c145 : (g0_3 p1 p2 p3 p4) = (0 : Int32)
        · rw [c145]
          show OGS _ _ p e _ s below _ T141 (mkF m 156 #[.val (.int p1), .val (.int p2), .val (.int p3), .val (.int p4), .val (.ref o1), .val (.ref o22), .val (.int (0 : Int32)), .val (.int (0 : Int32)), .val (.int (0 : Int32)), .val (.int (g0_1 p1 p2 p3 p4)), .val (.int (g0_2 p1 p2 p3 p4)), .val (.int (0 : Int32)), .unset, .unset, .unset, .unset, .unset] [])
          refine wiload OSc 158 X141 B at_156 rfl rfl ?_
          refine wiconst OSc 159 X141 B at_158 3 rfl rfl ?_
          refine wicmpNo OSc 162 X141 B at_159 (by decide) rfl ?_
          refine waload OSc 164 X141 B at_162 rfl rfl rfl ?_
          refine wiload OSc 166 X141 B at_164 rfl rfl ?_
          refine wvirt OSc 169 X141 B hZ44 hown44 (ow hw 92 rfl) (ow hw 93 rfl) (ow hw 95 rfl) (ow hw 94 rfl) F142 (ow hw 96 rfl) (ow hw 27 rfl) rfl (rm11_0 l Z a0 hw [] o22 b_126 y0_141 y1_141 y2_141 (3 : Int32) T141.heap n0 F143 P141_0 ge_b_126 ne_o22_b_126) 0 (by decide) (by decide) hml rfl (lenOf pd__I_V rfl) [] rfl rfl at_166 rfl fun _ T146 L146 X146 hQ146 => ?_
          obtain ⟨rfl, N146q, K146q, P146_0⟩ := hQ146
          have N146 := Fr.app N141 N146q
          have K146 := K141.trans K146q (own_all1 (Or.inr sy_b_126))
          have F147 := F142.keep K146q
          have F148 := F143.keep K146q (own_nin1 ne_o22_b_126)
          refine own_stk (S' := []) rfl ?_
          have CR149 := CHr.trans CR144 (CHr.keep K146q (own_all1 (own_safeA hZ44.alike P141_0 (by decide))) CH144)
          have CH149 := CHv.keep K146q (own_all1 (own_safeA hZ44.alike P141_0 (by decide))) CH144
          have hk149 := Nat.le_trans hk144 K146q.1
          refine wiload OSc 171 X146 B at_169 rfl rfl ?_
          refine wifNo OSc 174 X146 B at_171 (by decide) rfl ?_
          refine wiload OSc 176 X146 B at_174 rfl rfl ?_
          refine wifNo OSc 179 X146 B at_176 (by decide) rfl ?_
          refine wiconst OSc 180 X146 B at_179 1 rfl rfl ?_
          refine wgoto OSc 184 X146 B at_180 rfl ?_
          refine wistore OSc 186 X146 B at_184 #[.val (.int p1), .val (.int p2), .val (.int p3), .val (.int p4), .val (.ref o1), .val (.ref o22), .val (.int (0 : Int32)), .val (.int (0 : Int32)), .val (.int (0 : Int32)), .val (.int (g0_1 p1 p2 p3 p4)), .val (.int (g0_2 p1 p2 p3 p4)), .val (.int (0 : Int32)), .val (.int (1 : Int32)), .unset, .unset, .unset, .unset] rfl rfl ?_
          refine wiload OSc 188 X146 B at_186 rfl rfl ?_
          refine wifNo OSc 191 X146 B at_188 (by decide) rfl ?_
          refine wiload OSc 193 X146 B at_191 rfl rfl ?_
          refine wiconst OSc 194 X146 B at_193 1 rfl rfl ?_
          refine wicmpYes OSc 201 X146 B at_194 (by decide) rfl ?_
          refine wiconst OSc 202 X146 B at_201 0 rfl rfl ?_
          refine wistore OSc 204 X146 B at_202 #[.val (.int p1), .val (.int p2), .val (.int p3), .val (.int p4), .val (.ref o1), .val (.ref o22), .val (.int (0 : Int32)), .val (.int (0 : Int32)), .val (.int (0 : Int32)), .val (.int (g0_1 p1 p2 p3 p4)), .val (.int (g0_2 p1 p2 p3 p4)), .val (.int (0 : Int32)), .val (.int (1 : Int32)), .val (.int (0 : Int32)), .unset, .unset, .unset] rfl rfl ?_
          refine wiload OSc 206 X146 B at_204 rfl rfl ?_
          refine wifNo OSc 209 X146 B at_206 (by decide) rfl ?_
          refine wiload OSc 211 X146 B at_209 rfl rfl ?_
          refine wiconst OSc 212 X146 B at_211 2 rfl rfl ?_
          refine wicmpYes OSc 219 X146 B at_212 (by decide) rfl ?_
          refine wiconst OSc 220 X146 B at_219 0 rfl rfl ?_
          refine wistore OSc 222 X146 B at_220 #[.val (.int p1), .val (.int p2), .val (.int p3), .val (.int p4), .val (.ref o1), .val (.ref o22), .val (.int (0 : Int32)), .val (.int (0 : Int32)), .val (.int (0 : Int32)), .val (.int (g0_1 p1 p2 p3 p4)), .val (.int (g0_2 p1 p2 p3 p4)), .val (.int (0 : Int32)), .val (.int (1 : Int32)), .val (.int (0 : Int32)), .val (.int (0 : Int32)), .unset, .unset] rfl rfl ?_
          refine wiloadN OSc 223 X146 B at_222 rfl rfl ?_
          refine own_stS (fun t k => X146.ldcInt hx hown44 (mvT hZ44 (ow hw 86 rfl)) (g := (mkF m 223 #[.val (.int p1), .val (.int p2), .val (.int p3), .val (.int p4), .val (.ref o1), .val (.ref o22), .val (.int (0 : Int32)), .val (.int (0 : Int32)), .val (.int (0 : Int32)), .val (.int (g0_1 p1 p2 p3 p4)), .val (.int (g0_2 p1 p2 p3 p4)), .val (.int (0 : Int32)), .val (.int (1 : Int32)), .val (.int (0 : Int32)), .val (.int (0 : Int32)), .unset, .unset] [(.int p4)])) rfl (hb hby at_223) _ k) ?_
          show OGS _ _ p e _ s below _ T146 (mkF m 225 #[.val (.int p1), .val (.int p2), .val (.int p3), .val (.int p4), .val (.ref o1), .val (.ref o22), .val (.int (0 : Int32)), .val (.int (0 : Int32)), .val (.int (0 : Int32)), .val (.int (g0_1 p1 p2 p3 p4)), .val (.int (g0_2 p1 p2 p3 p4)), .val (.int (0 : Int32)), .val (.int (1 : Int32)), .val (.int (0 : Int32)), .val (.int (0 : Int32)), .unset, .unset] [(.int (2147483647 : Int32)), (.int p4)])
          refine wiand OSc 226 X146 B at_225 rfl ?_
          refine wiconst OSc 227 X146 B at_226 4 rfl rfl ?_
          refine own_stS (fun t k => iremM X146 hx rfl (hb hby at_227) rfl (by decide) k) ?_
          show OGS _ _ p e _ s below _ T146 (mkF m 228 #[.val (.int p1), .val (.int p2), .val (.int p3), .val (.int p4), .val (.ref o1), .val (.ref o22), .val (.int (0 : Int32)), .val (.int (0 : Int32)), .val (.int (0 : Int32)), .val (.int (g0_1 p1 p2 p3 p4)), .val (.int (g0_2 p1 p2 p3 p4)), .val (.int (0 : Int32)), .val (.int (1 : Int32)), .val (.int (0 : Int32)), .val (.int (0 : Int32)), .unset, .unset] [(.int ((p4 &&& (2147483647 : Int32)) % (4 : Int32)))])
          refine wistore OSc 230 X146 B at_228 #[.val (.int p1), .val (.int p2), .val (.int p3), .val (.int p4), .val (.ref o1), .val (.ref o22), .val (.int (0 : Int32)), .val (.int (0 : Int32)), .val (.int (0 : Int32)), .val (.int (g0_1 p1 p2 p3 p4)), .val (.int (g0_2 p1 p2 p3 p4)), .val (.int (0 : Int32)), .val (.int (1 : Int32)), .val (.int (0 : Int32)), .val (.int (0 : Int32)), .val (.int (g0_4 p1 p2 p3 p4)), .unset] rfl rfl ?_
          refine waload OSc 232 X146 B at_230 rfl rfl rfl ?_
          refine wiload OSc 234 X146 B at_232 rfl rfl ?_
          refine wvirt OSc 237 X146 B hZ44 hown44 (ow hw 87 rfl) (ow hw 88 rfl) (ow hw 90 rfl) (ow hw 89 rfl) F147 (ow hw 91 rfl) (ow hw 27 rfl) rfl (rm10 l Z a0 hw [] o22 (g0_4 p1 p2 p3 p4) b_126 (1 : Int32) (0 : Int32) (0 : Int32) (1 : Int32) y1_141 y2_141 T146.heap n0 F148 P146_0 ge_b_126 ne_o22_b_126 (own_r4 p4) (own_gs0 xh141_0)) 0 (by decide) (by decide) hml rfl (lenOf pd__I_I rfl) [] rfl rfl at_234 rfl fun _ T150 L150 X150 hQ150 => ?_
          obtain ⟨rfl, N150q, K150q, y0_150, y1_150, y2_150, xh150_0, P150_0⟩ := hQ150
          have N150 := Fr.app N146 N150q
          have K150 := K146.trans K150q (own_all1 (Or.inr sy_b_126))
          have F151 := F147.keep K150q
          have F152 := F148.keep K150q (own_nin1 ne_o22_b_126)
          refine own_stk (S' := [(.int (f12 (1 : Int32) (0 : Int32) (0 : Int32) (g0_4 p1 p2 p3 p4)))]) rfl ?_
          have CR153 := CHr.trans CR149 (CHr.keep K150q (own_all1 (own_safeA hZ44.alike P146_0 (by decide))) CH149)
          have CH153 := CHv.keep K150q (own_all1 (own_safeA hZ44.alike P146_0 (by decide))) CH149
          have hk153 := Nat.le_trans hk149 K150q.1
          refine wistore OSc 239 X150 B at_237 #[.val (.int p1), .val (.int p2), .val (.int p3), .val (.int p4), .val (.ref o1), .val (.ref o22), .val (.int (0 : Int32)), .val (.int (0 : Int32)), .val (.int (0 : Int32)), .val (.int (g0_1 p1 p2 p3 p4)), .val (.int (g0_2 p1 p2 p3 p4)), .val (.int (0 : Int32)), .val (.int (1 : Int32)), .val (.int (0 : Int32)), .val (.int (0 : Int32)), .val (.int (g0_4 p1 p2 p3 p4)), .val (.int (g0_5 p1 p2 p3 p4))] rfl rfl ?_
          refine wiload OSc 241 X150 B at_239 rfl rfl ?_
          refine wiload OSc 243 X150 B at_241 rfl rfl ?_
          refine wiload OSc 245 X150 B at_243 rfl rfl ?_
          refine wiload OSc 247 X150 B at_245 rfl rfl ?_
          refine wiload OSc 249 X150 B at_247 rfl rfl ?_
          refine wstat OSc 252 X150 B hZ44 hown44 (ow hw 97 rfl) (ow hw 98 rfl) (ow hw 100 rfl) (ow hw 99 rfl) rfl (rm12 l Z a0 hw [] (0 : Int32) (0 : Int32) (0 : Int32) (g0_1 p1 p2 p3 p4) T150.heap) 1 (by decide) (by decide) hml rfl (lenOf pd__ZZZI_I rfl) [(.int (g0_2 p1 p2 p3 p4))] rfl rfl at_249 rfl fun _ T154 L154 X154 hQ154 => ?_
          obtain ⟨rfl, rfl, e154⟩ := hQ154
          have N154 := Fr.app N150 (Fr.nil n0)
          refine own_stk (S' := [(.int (f12 (0 : Int32) (0 : Int32) (0 : Int32) (g0_1 p1 p2 p3 p4))), (.int (g0_2 p1 p2 p3 p4))]) rfl ?_
          refine wicmpNo OSc 255 X154 B at_252 (teq rfl).2 rfl ?_
          refine wiload OSc 257 X154 B at_255 rfl rfl ?_
          refine wiload OSc 259 X154 B at_257 rfl rfl ?_
          refine wiload OSc 261 X154 B at_259 rfl rfl ?_
          refine wiload OSc 263 X154 B at_261 rfl rfl ?_
          refine wiload OSc 265 X154 B at_263 rfl rfl ?_
          refine wstat OSc 268 X154 B hZ44 hown44 (ow hw 97 rfl) (ow hw 98 rfl) (ow hw 100 rfl) (ow hw 99 rfl) e154 (rm12 l Z a0 hw [] (1 : Int32) (0 : Int32) (0 : Int32) (g0_4 p1 p2 p3 p4) T150.heap) 1 (by decide) (by decide) hml rfl (lenOf pd__ZZZI_I rfl) [(.int (g0_5 p1 p2 p3 p4))] rfl rfl at_265 rfl fun _ T155 L155 X155 hQ155 => ?_
          obtain ⟨rfl, rfl, e155⟩ := hQ155
          have N155 := Fr.app N154 (Fr.nil n0)
          refine own_stk (S' := [(.int (f12 (1 : Int32) (0 : Int32) (0 : Int32) (g0_4 p1 p2 p3 p4))), (.int (g0_5 p1 p2 p3 p4))]) rfl ?_
          refine wicmpNo OSc 271 X155 B at_268 (teq rfl).2 rfl ?_
          refine wiconst OSc 272 X155 B at_271 1 rfl rfl ?_
          refine wgoto OSc 276 X155 B at_272 rfl ?_
          refine own_endS X155 hlk hZ44 hEL e155 hs0 hS44 hk153 CH153 CR153 (v := some (.int (nar .boolean (1 : Int32)))) (fun h => by rw [hret] at h; cases h) (by decide) (by decide) ?_ (fun fs hr => retN X155 hx (t := .boolean) hret (by simp) (hb hby at_276) hr)
          exact ⟨congrArg (fun z => some (Value.int z)) (show f0 p1 p2 p3 p4 = (1 : Int32) from (by rw [f0, if_pos c138, if_pos c139, if_pos c140, if_pos c145])).symm, N155⟩
        · skip
          by_cases c156 : (g0_3 p1 p2 p3 p4) = (1 : Int32)
          · rw [c156]
            show OGS _ _ p e _ s below _ T141 (mkF m 156 #[.val (.int p1), .val (.int p2), .val (.int p3), .val (.int p4), .val (.ref o1), .val (.ref o22), .val (.int (0 : Int32)), .val (.int (0 : Int32)), .val (.int (0 : Int32)), .val (.int (g0_1 p1 p2 p3 p4)), .val (.int (g0_2 p1 p2 p3 p4)), .val (.int (1 : Int32)), .unset, .unset, .unset, .unset, .unset] [])
            refine wiload OSc 158 X141 B at_156 rfl rfl ?_
            refine wiconst OSc 159 X141 B at_158 3 rfl rfl ?_
            refine wicmpNo OSc 162 X141 B at_159 (by decide) rfl ?_
            refine waload OSc 164 X141 B at_162 rfl rfl rfl ?_
            refine wiload OSc 166 X141 B at_164 rfl rfl ?_
            refine wvirt OSc 169 X141 B hZ44 hown44 (ow hw 92 rfl) (ow hw 93 rfl) (ow hw 95 rfl) (ow hw 94 rfl) F142 (ow hw 96 rfl) (ow hw 27 rfl) rfl (rm11_1 l Z a0 hw [] o22 b_126 y0_141 y1_141 y2_141 (3 : Int32) T141.heap n0 F143 P141_0 ge_b_126 ne_o22_b_126) 0 (by decide) (by decide) hml rfl (lenOf pd__I_V rfl) [] rfl rfl at_166 rfl fun _ T157 L157 X157 hQ157 => ?_
            obtain ⟨rfl, N157q, K157q, P157_0⟩ := hQ157
            have N157 := Fr.app N141 N157q
            have K157 := K141.trans K157q (own_all1 (Or.inr sy_b_126))
            have F158 := F142.keep K157q
            have F159 := F143.keep K157q (own_nin1 ne_o22_b_126)
            refine own_stk (S' := []) rfl ?_
            have CR160 := CHr.trans CR144 (CHr.keep K157q (own_all1 (own_safeA hZ44.alike P141_0 (by decide))) CH144)
            have CH160 := CHv.keep K157q (own_all1 (own_safeA hZ44.alike P141_0 (by decide))) CH144
            have hk160 := Nat.le_trans hk144 K157q.1
            refine wiload OSc 171 X157 B at_169 rfl rfl ?_
            refine wifNo OSc 174 X157 B at_171 (by decide) rfl ?_
            refine wiload OSc 176 X157 B at_174 rfl rfl ?_
            refine wifYes OSc 183 X157 B at_176 (by decide) rfl ?_
            refine wiconst OSc 184 X157 B at_183 0 rfl rfl ?_
            refine wistore OSc 186 X157 B at_184 #[.val (.int p1), .val (.int p2), .val (.int p3), .val (.int p4), .val (.ref o1), .val (.ref o22), .val (.int (0 : Int32)), .val (.int (0 : Int32)), .val (.int (0 : Int32)), .val (.int (g0_1 p1 p2 p3 p4)), .val (.int (g0_2 p1 p2 p3 p4)), .val (.int (1 : Int32)), .val (.int (0 : Int32)), .unset, .unset, .unset, .unset] rfl rfl ?_
            refine wiload OSc 188 X157 B at_186 rfl rfl ?_
            refine wifNo OSc 191 X157 B at_188 (by decide) rfl ?_
            refine wiload OSc 193 X157 B at_191 rfl rfl ?_
            refine wiconst OSc 194 X157 B at_193 1 rfl rfl ?_
            refine wicmpNo OSc 197 X157 B at_194 (by decide) rfl ?_
            refine wiconst OSc 198 X157 B at_197 1 rfl rfl ?_
            refine wgoto OSc 202 X157 B at_198 rfl ?_
            refine wistore OSc 204 X157 B at_202 #[.val (.int p1), .val (.int p2), .val (.int p3), .val (.int p4), .val (.ref o1), .val (.ref o22), .val (.int (0 : Int32)), .val (.int (0 : Int32)), .val (.int (0 : Int32)), .val (.int (g0_1 p1 p2 p3 p4)), .val (.int (g0_2 p1 p2 p3 p4)), .val (.int (1 : Int32)), .val (.int (0 : Int32)), .val (.int (1 : Int32)), .unset, .unset, .unset] rfl rfl ?_
            refine wiload OSc 206 X157 B at_204 rfl rfl ?_
            refine wifNo OSc 209 X157 B at_206 (by decide) rfl ?_
            refine wiload OSc 211 X157 B at_209 rfl rfl ?_
            refine wiconst OSc 212 X157 B at_211 2 rfl rfl ?_
            refine wicmpYes OSc 219 X157 B at_212 (by decide) rfl ?_
            refine wiconst OSc 220 X157 B at_219 0 rfl rfl ?_
            refine wistore OSc 222 X157 B at_220 #[.val (.int p1), .val (.int p2), .val (.int p3), .val (.int p4), .val (.ref o1), .val (.ref o22), .val (.int (0 : Int32)), .val (.int (0 : Int32)), .val (.int (0 : Int32)), .val (.int (g0_1 p1 p2 p3 p4)), .val (.int (g0_2 p1 p2 p3 p4)), .val (.int (1 : Int32)), .val (.int (0 : Int32)), .val (.int (1 : Int32)), .val (.int (0 : Int32)), .unset, .unset] rfl rfl ?_
            refine wiloadN OSc 223 X157 B at_222 rfl rfl ?_
            refine own_stS (fun t k => X157.ldcInt hx hown44 (mvT hZ44 (ow hw 86 rfl)) (g := (mkF m 223 #[.val (.int p1), .val (.int p2), .val (.int p3), .val (.int p4), .val (.ref o1), .val (.ref o22), .val (.int (0 : Int32)), .val (.int (0 : Int32)), .val (.int (0 : Int32)), .val (.int (g0_1 p1 p2 p3 p4)), .val (.int (g0_2 p1 p2 p3 p4)), .val (.int (1 : Int32)), .val (.int (0 : Int32)), .val (.int (1 : Int32)), .val (.int (0 : Int32)), .unset, .unset] [(.int p4)])) rfl (hb hby at_223) _ k) ?_
            show OGS _ _ p e _ s below _ T157 (mkF m 225 #[.val (.int p1), .val (.int p2), .val (.int p3), .val (.int p4), .val (.ref o1), .val (.ref o22), .val (.int (0 : Int32)), .val (.int (0 : Int32)), .val (.int (0 : Int32)), .val (.int (g0_1 p1 p2 p3 p4)), .val (.int (g0_2 p1 p2 p3 p4)), .val (.int (1 : Int32)), .val (.int (0 : Int32)), .val (.int (1 : Int32)), .val (.int (0 : Int32)), .unset, .unset] [(.int (2147483647 : Int32)), (.int p4)])
            refine wiand OSc 226 X157 B at_225 rfl ?_
            refine wiconst OSc 227 X157 B at_226 4 rfl rfl ?_
            refine own_stS (fun t k => iremM X157 hx rfl (hb hby at_227) rfl (by decide) k) ?_
            show OGS _ _ p e _ s below _ T157 (mkF m 228 #[.val (.int p1), .val (.int p2), .val (.int p3), .val (.int p4), .val (.ref o1), .val (.ref o22), .val (.int (0 : Int32)), .val (.int (0 : Int32)), .val (.int (0 : Int32)), .val (.int (g0_1 p1 p2 p3 p4)), .val (.int (g0_2 p1 p2 p3 p4)), .val (.int (1 : Int32)), .val (.int (0 : Int32)), .val (.int (1 : Int32)), .val (.int (0 : Int32)), .unset, .unset] [(.int ((p4 &&& (2147483647 : Int32)) % (4 : Int32)))])
            refine wistore OSc 230 X157 B at_228 #[.val (.int p1), .val (.int p2), .val (.int p3), .val (.int p4), .val (.ref o1), .val (.ref o22), .val (.int (0 : Int32)), .val (.int (0 : Int32)), .val (.int (0 : Int32)), .val (.int (g0_1 p1 p2 p3 p4)), .val (.int (g0_2 p1 p2 p3 p4)), .val (.int (1 : Int32)), .val (.int (0 : Int32)), .val (.int (1 : Int32)), .val (.int (0 : Int32)), .val (.int (g0_4 p1 p2 p3 p4)), .unset] rfl rfl ?_
            refine waload OSc 232 X157 B at_230 rfl rfl rfl ?_
            refine wiload OSc 234 X157 B at_232 rfl rfl ?_
            refine wvirt OSc 237 X157 B hZ44 hown44 (ow hw 87 rfl) (ow hw 88 rfl) (ow hw 90 rfl) (ow hw 89 rfl) F158 (ow hw 91 rfl) (ow hw 27 rfl) rfl (rm10 l Z a0 hw [] o22 (g0_4 p1 p2 p3 p4) b_126 (0 : Int32) (1 : Int32) (0 : Int32) y0_141 (2 : Int32) y2_141 T157.heap n0 F159 P157_0 ge_b_126 ne_o22_b_126 (own_r4 p4) (own_gs1 xh141_0)) 0 (by decide) (by decide) hml rfl (lenOf pd__I_I rfl) [] rfl rfl at_234 rfl fun _ T161 L161 X161 hQ161 => ?_
            obtain ⟨rfl, N161q, K161q, y0_161, y1_161, y2_161, xh161_0, P161_0⟩ := hQ161
            have N161 := Fr.app N157 N161q
            have K161 := K157.trans K161q (own_all1 (Or.inr sy_b_126))
            have F162 := F158.keep K161q
            have F163 := F159.keep K161q (own_nin1 ne_o22_b_126)
            refine own_stk (S' := [(.int (f12 (0 : Int32) (1 : Int32) (0 : Int32) (g0_4 p1 p2 p3 p4)))]) rfl ?_
            have CR164 := CHr.trans CR160 (CHr.keep K161q (own_all1 (own_safeA hZ44.alike P157_0 (by decide))) CH160)
            have CH164 := CHv.keep K161q (own_all1 (own_safeA hZ44.alike P157_0 (by decide))) CH160
            have hk164 := Nat.le_trans hk160 K161q.1
            refine wistore OSc 239 X161 B at_237 #[.val (.int p1), .val (.int p2), .val (.int p3), .val (.int p4), .val (.ref o1), .val (.ref o22), .val (.int (0 : Int32)), .val (.int (0 : Int32)), .val (.int (0 : Int32)), .val (.int (g0_1 p1 p2 p3 p4)), .val (.int (g0_2 p1 p2 p3 p4)), .val (.int (1 : Int32)), .val (.int (0 : Int32)), .val (.int (1 : Int32)), .val (.int (0 : Int32)), .val (.int (g0_4 p1 p2 p3 p4)), .val (.int (g0_6 p1 p2 p3 p4))] rfl rfl ?_
            refine wiload OSc 241 X161 B at_239 rfl rfl ?_
            refine wiload OSc 243 X161 B at_241 rfl rfl ?_
            refine wiload OSc 245 X161 B at_243 rfl rfl ?_
            refine wiload OSc 247 X161 B at_245 rfl rfl ?_
            refine wiload OSc 249 X161 B at_247 rfl rfl ?_
            refine wstat OSc 252 X161 B hZ44 hown44 (ow hw 97 rfl) (ow hw 98 rfl) (ow hw 100 rfl) (ow hw 99 rfl) rfl (rm12 l Z a0 hw [] (0 : Int32) (0 : Int32) (0 : Int32) (g0_1 p1 p2 p3 p4) T161.heap) 1 (by decide) (by decide) hml rfl (lenOf pd__ZZZI_I rfl) [(.int (g0_2 p1 p2 p3 p4))] rfl rfl at_249 rfl fun _ T165 L165 X165 hQ165 => ?_
            obtain ⟨rfl, rfl, e165⟩ := hQ165
            have N165 := Fr.app N161 (Fr.nil n0)
            refine own_stk (S' := [(.int (f12 (0 : Int32) (0 : Int32) (0 : Int32) (g0_1 p1 p2 p3 p4))), (.int (g0_2 p1 p2 p3 p4))]) rfl ?_
            refine wicmpNo OSc 255 X165 B at_252 (teq rfl).2 rfl ?_
            refine wiload OSc 257 X165 B at_255 rfl rfl ?_
            refine wiload OSc 259 X165 B at_257 rfl rfl ?_
            refine wiload OSc 261 X165 B at_259 rfl rfl ?_
            refine wiload OSc 263 X165 B at_261 rfl rfl ?_
            refine wiload OSc 265 X165 B at_263 rfl rfl ?_
            refine wstat OSc 268 X165 B hZ44 hown44 (ow hw 97 rfl) (ow hw 98 rfl) (ow hw 100 rfl) (ow hw 99 rfl) e165 (rm12 l Z a0 hw [] (0 : Int32) (1 : Int32) (0 : Int32) (g0_4 p1 p2 p3 p4) T161.heap) 1 (by decide) (by decide) hml rfl (lenOf pd__ZZZI_I rfl) [(.int (g0_6 p1 p2 p3 p4))] rfl rfl at_265 rfl fun _ T166 L166 X166 hQ166 => ?_
            obtain ⟨rfl, rfl, e166⟩ := hQ166
            have N166 := Fr.app N165 (Fr.nil n0)
            refine own_stk (S' := [(.int (f12 (0 : Int32) (1 : Int32) (0 : Int32) (g0_4 p1 p2 p3 p4))), (.int (g0_6 p1 p2 p3 p4))]) rfl ?_
            refine wicmpNo OSc 271 X166 B at_268 (teq rfl).2 rfl ?_
            refine wiconst OSc 272 X166 B at_271 1 rfl rfl ?_
            refine wgoto OSc 276 X166 B at_272 rfl ?_
            refine own_endS X166 hlk hZ44 hEL e166 hs0 hS44 hk164 CH164 CR164 (v := some (.int (nar .boolean (1 : Int32)))) (fun h => by rw [hret] at h; cases h) (by decide) (by decide) ?_ (fun fs hr => retN X166 hx (t := .boolean) hret (by simp) (hb hby at_276) hr)
            exact ⟨congrArg (fun z => some (Value.int z)) (show f0 p1 p2 p3 p4 = (1 : Int32) from (by rw [f0, if_pos c138, if_pos c139, if_pos c140, if_neg c145, if_pos c156])).symm, N166⟩
          · skip
            by_cases c167 : (g0_3 p1 p2 p3 p4) = (2 : Int32)
            · rw [c167]
              show OGS _ _ p e _ s below _ T141 (mkF m 156 #[.val (.int p1), .val (.int p2), .val (.int p3), .val (.int p4), .val (.ref o1), .val (.ref o22), .val (.int (0 : Int32)), .val (.int (0 : Int32)), .val (.int (0 : Int32)), .val (.int (g0_1 p1 p2 p3 p4)), .val (.int (g0_2 p1 p2 p3 p4)), .val (.int (2 : Int32)), .unset, .unset, .unset, .unset, .unset] [])
              refine wiload OSc 158 X141 B at_156 rfl rfl ?_
              refine wiconst OSc 159 X141 B at_158 3 rfl rfl ?_
              refine wicmpNo OSc 162 X141 B at_159 (by decide) rfl ?_
              refine waload OSc 164 X141 B at_162 rfl rfl rfl ?_
              refine wiload OSc 166 X141 B at_164 rfl rfl ?_
              refine wvirt OSc 169 X141 B hZ44 hown44 (ow hw 92 rfl) (ow hw 93 rfl) (ow hw 95 rfl) (ow hw 94 rfl) F142 (ow hw 96 rfl) (ow hw 27 rfl) rfl (rm11_2 l Z a0 hw [] o22 b_126 y0_141 y1_141 y2_141 (3 : Int32) T141.heap n0 F143 P141_0 ge_b_126 ne_o22_b_126) 0 (by decide) (by decide) hml rfl (lenOf pd__I_V rfl) [] rfl rfl at_166 rfl fun _ T168 L168 X168 hQ168 => ?_
              obtain ⟨rfl, N168q, K168q, P168_0⟩ := hQ168
              have N168 := Fr.app N141 N168q
              have K168 := K141.trans K168q (own_all1 (Or.inr sy_b_126))
              have F169 := F142.keep K168q
              have F170 := F143.keep K168q (own_nin1 ne_o22_b_126)
              refine own_stk (S' := []) rfl ?_
              have CR171 := CHr.trans CR144 (CHr.keep K168q (own_all1 (own_safeA hZ44.alike P141_0 (by decide))) CH144)
              have CH171 := CHv.keep K168q (own_all1 (own_safeA hZ44.alike P141_0 (by decide))) CH144
              have hk171 := Nat.le_trans hk144 K168q.1
              refine wiload OSc 171 X168 B at_169 rfl rfl ?_
              refine wifNo OSc 174 X168 B at_171 (by decide) rfl ?_
              refine wiload OSc 176 X168 B at_174 rfl rfl ?_
              refine wifYes OSc 183 X168 B at_176 (by decide) rfl ?_
              refine wiconst OSc 184 X168 B at_183 0 rfl rfl ?_
              refine wistore OSc 186 X168 B at_184 #[.val (.int p1), .val (.int p2), .val (.int p3), .val (.int p4), .val (.ref o1), .val (.ref o22), .val (.int (0 : Int32)), .val (.int (0 : Int32)), .val (.int (0 : Int32)), .val (.int (g0_1 p1 p2 p3 p4)), .val (.int (g0_2 p1 p2 p3 p4)), .val (.int (2 : Int32)), .val (.int (0 : Int32)), .unset, .unset, .unset, .unset] rfl rfl ?_
              refine wiload OSc 188 X168 B at_186 rfl rfl ?_
              refine wifNo OSc 191 X168 B at_188 (by decide) rfl ?_
              refine wiload OSc 193 X168 B at_191 rfl rfl ?_
              refine wiconst OSc 194 X168 B at_193 1 rfl rfl ?_
              refine wicmpYes OSc 201 X168 B at_194 (by decide) rfl ?_
              refine wiconst OSc 202 X168 B at_201 0 rfl rfl ?_
              refine wistore OSc 204 X168 B at_202 #[.val (.int p1), .val (.int p2), .val (.int p3), .val (.int p4), .val (.ref o1), .val (.ref o22), .val (.int (0 : Int32)), .val (.int (0 : Int32)), .val (.int (0 : Int32)), .val (.int (g0_1 p1 p2 p3 p4)), .val (.int (g0_2 p1 p2 p3 p4)), .val (.int (2 : Int32)), .val (.int (0 : Int32)), .val (.int (0 : Int32)), .unset, .unset, .unset] rfl rfl ?_
              refine wiload OSc 206 X168 B at_204 rfl rfl ?_
              refine wifNo OSc 209 X168 B at_206 (by decide) rfl ?_
              refine wiload OSc 211 X168 B at_209 rfl rfl ?_
              refine wiconst OSc 212 X168 B at_211 2 rfl rfl ?_
              refine wicmpNo OSc 215 X168 B at_212 (by decide) rfl ?_
              refine wiconst OSc 216 X168 B at_215 1 rfl rfl ?_
              refine wgoto OSc 220 X168 B at_216 rfl ?_
              refine wistore OSc 222 X168 B at_220 #[.val (.int p1), .val (.int p2), .val (.int p3), .val (.int p4), .val (.ref o1), .val (.ref o22), .val (.int (0 : Int32)), .val (.int (0 : Int32)), .val (.int (0 : Int32)), .val (.int (g0_1 p1 p2 p3 p4)), .val (.int (g0_2 p1 p2 p3 p4)), .val (.int (2 : Int32)), .val (.int (0 : Int32)), .val (.int (0 : Int32)), .val (.int (1 : Int32)), .unset, .unset] rfl rfl ?_
              refine wiloadN OSc 223 X168 B at_222 rfl rfl ?_
              refine own_stS (fun t k => X168.ldcInt hx hown44 (mvT hZ44 (ow hw 86 rfl)) (g := (mkF m 223 #[.val (.int p1), .val (.int p2), .val (.int p3), .val (.int p4), .val (.ref o1), .val (.ref o22), .val (.int (0 : Int32)), .val (.int (0 : Int32)), .val (.int (0 : Int32)), .val (.int (g0_1 p1 p2 p3 p4)), .val (.int (g0_2 p1 p2 p3 p4)), .val (.int (2 : Int32)), .val (.int (0 : Int32)), .val (.int (0 : Int32)), .val (.int (1 : Int32)), .unset, .unset] [(.int p4)])) rfl (hb hby at_223) _ k) ?_
              show OGS _ _ p e _ s below _ T168 (mkF m 225 #[.val (.int p1), .val (.int p2), .val (.int p3), .val (.int p4), .val (.ref o1), .val (.ref o22), .val (.int (0 : Int32)), .val (.int (0 : Int32)), .val (.int (0 : Int32)), .val (.int (g0_1 p1 p2 p3 p4)), .val (.int (g0_2 p1 p2 p3 p4)), .val (.int (2 : Int32)), .val (.int (0 : Int32)), .val (.int (0 : Int32)), .val (.int (1 : Int32)), .unset, .unset] [(.int (2147483647 : Int32)), (.int p4)])
              refine wiand OSc 226 X168 B at_225 rfl ?_
              refine wiconst OSc 227 X168 B at_226 4 rfl rfl ?_
              refine own_stS (fun t k => iremM X168 hx rfl (hb hby at_227) rfl (by decide) k) ?_
              show OGS _ _ p e _ s below _ T168 (mkF m 228 #[.val (.int p1), .val (.int p2), .val (.int p3), .val (.int p4), .val (.ref o1), .val (.ref o22), .val (.int (0 : Int32)), .val (.int (0 : Int32)), .val (.int (0 : Int32)), .val (.int (g0_1 p1 p2 p3 p4)), .val (.int (g0_2 p1 p2 p3 p4)), .val (.int (2 : Int32)), .val (.int (0 : Int32)), .val (.int (0 : Int32)), .val (.int (1 : Int32)), .unset, .unset] [(.int ((p4 &&& (2147483647 : Int32)) % (4 : Int32)))])
              refine wistore OSc 230 X168 B at_228 #[.val (.int p1), .val (.int p2), .val (.int p3), .val (.int p4), .val (.ref o1), .val (.ref o22), .val (.int (0 : Int32)), .val (.int (0 : Int32)), .val (.int (0 : Int32)), .val (.int (g0_1 p1 p2 p3 p4)), .val (.int (g0_2 p1 p2 p3 p4)), .val (.int (2 : Int32)), .val (.int (0 : Int32)), .val (.int (0 : Int32)), .val (.int (1 : Int32)), .val (.int (g0_4 p1 p2 p3 p4)), .unset] rfl rfl ?_
              refine waload OSc 232 X168 B at_230 rfl rfl rfl ?_
              refine wiload OSc 234 X168 B at_232 rfl rfl ?_
              refine wvirt OSc 237 X168 B hZ44 hown44 (ow hw 87 rfl) (ow hw 88 rfl) (ow hw 90 rfl) (ow hw 89 rfl) F169 (ow hw 91 rfl) (ow hw 27 rfl) rfl (rm10 l Z a0 hw [] o22 (g0_4 p1 p2 p3 p4) b_126 (0 : Int32) (0 : Int32) (1 : Int32) y0_141 y1_141 (3 : Int32) T168.heap n0 F170 P168_0 ge_b_126 ne_o22_b_126 (own_r4 p4) (own_gs2 xh141_0)) 0 (by decide) (by decide) hml rfl (lenOf pd__I_I rfl) [] rfl rfl at_234 rfl fun _ T172 L172 X172 hQ172 => ?_
              obtain ⟨rfl, N172q, K172q, y0_172, y1_172, y2_172, xh172_0, P172_0⟩ := hQ172
              have N172 := Fr.app N168 N172q
              have K172 := K168.trans K172q (own_all1 (Or.inr sy_b_126))
              have F173 := F169.keep K172q
              have F174 := F170.keep K172q (own_nin1 ne_o22_b_126)
              refine own_stk (S' := [(.int (f12 (0 : Int32) (0 : Int32) (1 : Int32) (g0_4 p1 p2 p3 p4)))]) rfl ?_
              have CR175 := CHr.trans CR171 (CHr.keep K172q (own_all1 (own_safeA hZ44.alike P168_0 (by decide))) CH171)
              have CH175 := CHv.keep K172q (own_all1 (own_safeA hZ44.alike P168_0 (by decide))) CH171
              have hk175 := Nat.le_trans hk171 K172q.1
              refine wistore OSc 239 X172 B at_237 #[.val (.int p1), .val (.int p2), .val (.int p3), .val (.int p4), .val (.ref o1), .val (.ref o22), .val (.int (0 : Int32)), .val (.int (0 : Int32)), .val (.int (0 : Int32)), .val (.int (g0_1 p1 p2 p3 p4)), .val (.int (g0_2 p1 p2 p3 p4)), .val (.int (2 : Int32)), .val (.int (0 : Int32)), .val (.int (0 : Int32)), .val (.int (1 : Int32)), .val (.int (g0_4 p1 p2 p3 p4)), .val (.int (g0_7 p1 p2 p3 p4))] rfl rfl ?_
              refine wiload OSc 241 X172 B at_239 rfl rfl ?_
              refine wiload OSc 243 X172 B at_241 rfl rfl ?_
              refine wiload OSc 245 X172 B at_243 rfl rfl ?_
              refine wiload OSc 247 X172 B at_245 rfl rfl ?_
              refine wiload OSc 249 X172 B at_247 rfl rfl ?_
              refine wstat OSc 252 X172 B hZ44 hown44 (ow hw 97 rfl) (ow hw 98 rfl) (ow hw 100 rfl) (ow hw 99 rfl) rfl (rm12 l Z a0 hw [] (0 : Int32) (0 : Int32) (0 : Int32) (g0_1 p1 p2 p3 p4) T172.heap) 1 (by decide) (by decide) hml rfl (lenOf pd__ZZZI_I rfl) [(.int (g0_2 p1 p2 p3 p4))] rfl rfl at_249 rfl fun _ T176 L176 X176 hQ176 => ?_
              obtain ⟨rfl, rfl, e176⟩ := hQ176
              have N176 := Fr.app N172 (Fr.nil n0)
              refine own_stk (S' := [(.int (f12 (0 : Int32) (0 : Int32) (0 : Int32) (g0_1 p1 p2 p3 p4))), (.int (g0_2 p1 p2 p3 p4))]) rfl ?_
              refine wicmpNo OSc 255 X176 B at_252 (teq rfl).2 rfl ?_
              refine wiload OSc 257 X176 B at_255 rfl rfl ?_
              refine wiload OSc 259 X176 B at_257 rfl rfl ?_
              refine wiload OSc 261 X176 B at_259 rfl rfl ?_
              refine wiload OSc 263 X176 B at_261 rfl rfl ?_
              refine wiload OSc 265 X176 B at_263 rfl rfl ?_
              refine wstat OSc 268 X176 B hZ44 hown44 (ow hw 97 rfl) (ow hw 98 rfl) (ow hw 100 rfl) (ow hw 99 rfl) e176 (rm12 l Z a0 hw [] (0 : Int32) (0 : Int32) (1 : Int32) (g0_4 p1 p2 p3 p4) T172.heap) 1 (by decide) (by decide) hml rfl (lenOf pd__ZZZI_I rfl) [(.int (g0_7 p1 p2 p3 p4))] rfl rfl at_265 rfl fun _ T177 L177 X177 hQ177 => ?_
              obtain ⟨rfl, rfl, e177⟩ := hQ177
              have N177 := Fr.app N176 (Fr.nil n0)
              refine own_stk (S' := [(.int (f12 (0 : Int32) (0 : Int32) (1 : Int32) (g0_4 p1 p2 p3 p4))), (.int (g0_7 p1 p2 p3 p4))]) rfl ?_
              refine wicmpNo OSc 271 X177 B at_268 (teq rfl).2 rfl ?_
              refine wiconst OSc 272 X177 B at_271 1 rfl rfl ?_
              refine wgoto OSc 276 X177 B at_272 rfl ?_
              refine own_endS X177 hlk hZ44 hEL e177 hs0 hS44 hk175 CH175 CR175 (v := some (.int (nar .boolean (1 : Int32)))) (fun h => by rw [hret] at h; cases h) (by decide) (by decide) ?_ (fun fs hr => retN X177 hx (t := .boolean) hret (by simp) (hb hby at_276) hr)
              exact ⟨congrArg (fun z => some (Value.int z)) (show f0 p1 p2 p3 p4 = (1 : Int32) from (by rw [f0, if_pos c138, if_pos c139, if_pos c140, if_neg c145, if_neg c156, if_pos c167])).symm, N177⟩
            · skip
              by_cases c178 : (g0_3 p1 p2 p3 p4) = (3 : Int32)
              · rw [c178]
                show OGS _ _ p e _ s below _ T141 (mkF m 156 #[.val (.int p1), .val (.int p2), .val (.int p3), .val (.int p4), .val (.ref o1), .val (.ref o22), .val (.int (0 : Int32)), .val (.int (0 : Int32)), .val (.int (0 : Int32)), .val (.int (g0_1 p1 p2 p3 p4)), .val (.int (g0_2 p1 p2 p3 p4)), .val (.int (3 : Int32)), .unset, .unset, .unset, .unset, .unset] [])
                refine wiload OSc 158 X141 B at_156 rfl rfl ?_
                refine wiconst OSc 159 X141 B at_158 3 rfl rfl ?_
                refine wicmpYes OSc 169 X141 B at_159 (by decide) rfl ?_
                refine wiload OSc 171 X141 B at_169 rfl rfl ?_
                refine wifNo OSc 174 X141 B at_171 (by decide) rfl ?_
                refine wiload OSc 176 X141 B at_174 rfl rfl ?_
                refine wifYes OSc 183 X141 B at_176 (by decide) rfl ?_
                refine wiconst OSc 184 X141 B at_183 0 rfl rfl ?_
                refine wistore OSc 186 X141 B at_184 #[.val (.int p1), .val (.int p2), .val (.int p3), .val (.int p4), .val (.ref o1), .val (.ref o22), .val (.int (0 : Int32)), .val (.int (0 : Int32)), .val (.int (0 : Int32)), .val (.int (g0_1 p1 p2 p3 p4)), .val (.int (g0_2 p1 p2 p3 p4)), .val (.int (3 : Int32)), .val (.int (0 : Int32)), .unset, .unset, .unset, .unset] rfl rfl ?_
                refine wiload OSc 188 X141 B at_186 rfl rfl ?_
                refine wifNo OSc 191 X141 B at_188 (by decide) rfl ?_
                refine wiload OSc 193 X141 B at_191 rfl rfl ?_
                refine wiconst OSc 194 X141 B at_193 1 rfl rfl ?_
                refine wicmpYes OSc 201 X141 B at_194 (by decide) rfl ?_
                refine wiconst OSc 202 X141 B at_201 0 rfl rfl ?_
                refine wistore OSc 204 X141 B at_202 #[.val (.int p1), .val (.int p2), .val (.int p3), .val (.int p4), .val (.ref o1), .val (.ref o22), .val (.int (0 : Int32)), .val (.int (0 : Int32)), .val (.int (0 : Int32)), .val (.int (g0_1 p1 p2 p3 p4)), .val (.int (g0_2 p1 p2 p3 p4)), .val (.int (3 : Int32)), .val (.int (0 : Int32)), .val (.int (0 : Int32)), .unset, .unset, .unset] rfl rfl ?_
                refine wiload OSc 206 X141 B at_204 rfl rfl ?_
                refine wifNo OSc 209 X141 B at_206 (by decide) rfl ?_
                refine wiload OSc 211 X141 B at_209 rfl rfl ?_
                refine wiconst OSc 212 X141 B at_211 2 rfl rfl ?_
                refine wicmpYes OSc 219 X141 B at_212 (by decide) rfl ?_
                refine wiconst OSc 220 X141 B at_219 0 rfl rfl ?_
                refine wistore OSc 222 X141 B at_220 #[.val (.int p1), .val (.int p2), .val (.int p3), .val (.int p4), .val (.ref o1), .val (.ref o22), .val (.int (0 : Int32)), .val (.int (0 : Int32)), .val (.int (0 : Int32)), .val (.int (g0_1 p1 p2 p3 p4)), .val (.int (g0_2 p1 p2 p3 p4)), .val (.int (3 : Int32)), .val (.int (0 : Int32)), .val (.int (0 : Int32)), .val (.int (0 : Int32)), .unset, .unset] rfl rfl ?_
                refine wiloadN OSc 223 X141 B at_222 rfl rfl ?_
                refine own_stS (fun t k => X141.ldcInt hx hown44 (mvT hZ44 (ow hw 86 rfl)) (g := (mkF m 223 #[.val (.int p1), .val (.int p2), .val (.int p3), .val (.int p4), .val (.ref o1), .val (.ref o22), .val (.int (0 : Int32)), .val (.int (0 : Int32)), .val (.int (0 : Int32)), .val (.int (g0_1 p1 p2 p3 p4)), .val (.int (g0_2 p1 p2 p3 p4)), .val (.int (3 : Int32)), .val (.int (0 : Int32)), .val (.int (0 : Int32)), .val (.int (0 : Int32)), .unset, .unset] [(.int p4)])) rfl (hb hby at_223) _ k) ?_
                show OGS _ _ p e _ s below _ T141 (mkF m 225 #[.val (.int p1), .val (.int p2), .val (.int p3), .val (.int p4), .val (.ref o1), .val (.ref o22), .val (.int (0 : Int32)), .val (.int (0 : Int32)), .val (.int (0 : Int32)), .val (.int (g0_1 p1 p2 p3 p4)), .val (.int (g0_2 p1 p2 p3 p4)), .val (.int (3 : Int32)), .val (.int (0 : Int32)), .val (.int (0 : Int32)), .val (.int (0 : Int32)), .unset, .unset] [(.int (2147483647 : Int32)), (.int p4)])
                refine wiand OSc 226 X141 B at_225 rfl ?_
                refine wiconst OSc 227 X141 B at_226 4 rfl rfl ?_
                refine own_stS (fun t k => iremM X141 hx rfl (hb hby at_227) rfl (by decide) k) ?_
                show OGS _ _ p e _ s below _ T141 (mkF m 228 #[.val (.int p1), .val (.int p2), .val (.int p3), .val (.int p4), .val (.ref o1), .val (.ref o22), .val (.int (0 : Int32)), .val (.int (0 : Int32)), .val (.int (0 : Int32)), .val (.int (g0_1 p1 p2 p3 p4)), .val (.int (g0_2 p1 p2 p3 p4)), .val (.int (3 : Int32)), .val (.int (0 : Int32)), .val (.int (0 : Int32)), .val (.int (0 : Int32)), .unset, .unset] [(.int ((p4 &&& (2147483647 : Int32)) % (4 : Int32)))])
                refine wistore OSc 230 X141 B at_228 #[.val (.int p1), .val (.int p2), .val (.int p3), .val (.int p4), .val (.ref o1), .val (.ref o22), .val (.int (0 : Int32)), .val (.int (0 : Int32)), .val (.int (0 : Int32)), .val (.int (g0_1 p1 p2 p3 p4)), .val (.int (g0_2 p1 p2 p3 p4)), .val (.int (3 : Int32)), .val (.int (0 : Int32)), .val (.int (0 : Int32)), .val (.int (0 : Int32)), .val (.int (g0_4 p1 p2 p3 p4)), .unset] rfl rfl ?_
                refine waload OSc 232 X141 B at_230 rfl rfl rfl ?_
                refine wiload OSc 234 X141 B at_232 rfl rfl ?_
                refine wvirt OSc 237 X141 B hZ44 hown44 (ow hw 87 rfl) (ow hw 88 rfl) (ow hw 90 rfl) (ow hw 89 rfl) F142 (ow hw 91 rfl) (ow hw 27 rfl) rfl (rm10 l Z a0 hw [] o22 (g0_4 p1 p2 p3 p4) b_126 (0 : Int32) (0 : Int32) (0 : Int32) y0_141 y1_141 y2_141 T141.heap n0 F143 P141_0 ge_b_126 ne_o22_b_126 (own_r4 p4) xh141_0) 0 (by decide) (by decide) hml rfl (lenOf pd__I_I rfl) [] rfl rfl at_234 rfl fun _ T179 L179 X179 hQ179 => ?_
                obtain ⟨rfl, N179q, K179q, y0_179, y1_179, y2_179, xh179_0, P179_0⟩ := hQ179
                have N179 := Fr.app N141 N179q
                have K179 := K141.trans K179q (own_all1 (Or.inr sy_b_126))
                have F180 := F142.keep K179q
                have F181 := F143.keep K179q (own_nin1 ne_o22_b_126)
                refine own_stk (S' := [(.int (f12 (0 : Int32) (0 : Int32) (0 : Int32) (g0_4 p1 p2 p3 p4)))]) rfl ?_
                have CR182 := CHr.trans CR144 (CHr.keep K179q (own_all1 (own_safeA hZ44.alike P141_0 (by decide))) CH144)
                have CH182 := CHv.keep K179q (own_all1 (own_safeA hZ44.alike P141_0 (by decide))) CH144
                have hk182 := Nat.le_trans hk144 K179q.1
                refine wistore OSc 239 X179 B at_237 #[.val (.int p1), .val (.int p2), .val (.int p3), .val (.int p4), .val (.ref o1), .val (.ref o22), .val (.int (0 : Int32)), .val (.int (0 : Int32)), .val (.int (0 : Int32)), .val (.int (g0_1 p1 p2 p3 p4)), .val (.int (g0_2 p1 p2 p3 p4)), .val (.int (3 : Int32)), .val (.int (0 : Int32)), .val (.int (0 : Int32)), .val (.int (0 : Int32)), .val (.int (g0_4 p1 p2 p3 p4)), .val (.int (g0_8 p1 p2 p3 p4))] rfl rfl ?_
                refine wiload OSc 241 X179 B at_239 rfl rfl ?_
                refine wiload OSc 243 X179 B at_241 rfl rfl ?_
                refine wiload OSc 245 X179 B at_243 rfl rfl ?_
                refine wiload OSc 247 X179 B at_245 rfl rfl ?_
                refine wiload OSc 249 X179 B at_247 rfl rfl ?_
                refine wstat OSc 252 X179 B hZ44 hown44 (ow hw 97 rfl) (ow hw 98 rfl) (ow hw 100 rfl) (ow hw 99 rfl) rfl (rm12 l Z a0 hw [] (0 : Int32) (0 : Int32) (0 : Int32) (g0_1 p1 p2 p3 p4) T179.heap) 1 (by decide) (by decide) hml rfl (lenOf pd__ZZZI_I rfl) [(.int (g0_2 p1 p2 p3 p4))] rfl rfl at_249 rfl fun _ T183 L183 X183 hQ183 => ?_
                obtain ⟨rfl, rfl, e183⟩ := hQ183
                have N183 := Fr.app N179 (Fr.nil n0)
                refine own_stk (S' := [(.int (f12 (0 : Int32) (0 : Int32) (0 : Int32) (g0_1 p1 p2 p3 p4))), (.int (g0_2 p1 p2 p3 p4))]) rfl ?_
                refine wicmpNo OSc 255 X183 B at_252 (teq rfl).2 rfl ?_
                refine wiload OSc 257 X183 B at_255 rfl rfl ?_
                refine wiload OSc 259 X183 B at_257 rfl rfl ?_
                refine wiload OSc 261 X183 B at_259 rfl rfl ?_
                refine wiload OSc 263 X183 B at_261 rfl rfl ?_
                refine wiload OSc 265 X183 B at_263 rfl rfl ?_
                refine wstat OSc 268 X183 B hZ44 hown44 (ow hw 97 rfl) (ow hw 98 rfl) (ow hw 100 rfl) (ow hw 99 rfl) e183 (rm12 l Z a0 hw [] (0 : Int32) (0 : Int32) (0 : Int32) (g0_4 p1 p2 p3 p4) T179.heap) 1 (by decide) (by decide) hml rfl (lenOf pd__ZZZI_I rfl) [(.int (g0_8 p1 p2 p3 p4))] rfl rfl at_265 rfl fun _ T184 L184 X184 hQ184 => ?_
                obtain ⟨rfl, rfl, e184⟩ := hQ184
                have N184 := Fr.app N183 (Fr.nil n0)
                refine own_stk (S' := [(.int (f12 (0 : Int32) (0 : Int32) (0 : Int32) (g0_4 p1 p2 p3 p4))), (.int (g0_8 p1 p2 p3 p4))]) rfl ?_
                refine wicmpNo OSc 271 X184 B at_268 (teq rfl).2 rfl ?_
                refine wiconst OSc 272 X184 B at_271 1 rfl rfl ?_
                refine wgoto OSc 276 X184 B at_272 rfl ?_
                refine own_endS X184 hlk hZ44 hEL e184 hs0 hS44 hk182 CH182 CR182 (v := some (.int (nar .boolean (1 : Int32)))) (fun h => by rw [hret] at h; cases h) (by decide) (by decide) ?_ (fun fs hr => retN X184 hx (t := .boolean) hret (by simp) (hb hby at_276) hr)
                exact ⟨congrArg (fun z => some (Value.int z)) (show f0 p1 p2 p3 p4 = (1 : Int32) from (by rw [f0, if_pos c138, if_pos c139, if_pos c140, if_neg c145, if_neg c156, if_neg c167, if_pos c178])).symm, N184⟩
              · skip
                exact (own_r4n p1 p2 p3 p4 c145 c156 c167 c178).elim
      · refine wifNo OSc 91 X126 B at_88 (own_if0 (feq c140).1) rfl ?_
        refine wiconst OSc 92 X126 B at_91 1 rfl rfl ?_
        refine wgoto OSc 96 X126 B at_92 rfl ?_
        refine wistore OSc 98 X126 B at_96 #[.val (.int p1), .val (.int p2), .val (.int p3), .val (.int p4), .val (.ref o1), .val (.ref o22), .val (.int (0 : Int32)), .val (.int (0 : Int32)), .val (.int (1 : Int32)), .unset, .unset, .unset, .unset, .unset, .unset, .unset, .unset] rfl rfl ?_
        refine wiload OSc 100 X126 B at_98 rfl rfl ?_
        refine wifYes OSc 109 X126 B at_100 (by decide) rfl ?_
        refine wiload OSc 111 X126 B at_109 rfl rfl ?_
        refine wifYes OSc 120 X126 B at_111 (by decide) rfl ?_
        refine wiload OSc 122 X126 B at_120 rfl rfl ?_
        refine wifNo OSc 125 X126 B at_122 (by decide) rfl ?_
        refine waload OSc 127 X126 B at_125 rfl rfl rfl ?_
        refine wiconst OSc 128 X126 B at_127 2 rfl rfl ?_
        refine wvirt OSc 131 X126 B hZ44 hown44 (ow hw 92 rfl) (ow hw 93 rfl) (ow hw 95 rfl) (ow hw 94 rfl) P126_0 (ow hw 96 rfl) (ow hw 27 rfl) rfl (rm11_2 l Z a0 hw [] o22 b_126 (0 : Int32) (1 : Int32) (2 : Int32) (3 : Int32) T126.heap n0 P126_1 P126_2 ge_b_126 ne_o22_b_126) 0 (by decide) (by decide) hml rfl (lenOf pd__I_V rfl) [] rfl rfl at_128 rfl fun _ T185 L185 X185 hQ185 => ?_
        obtain ⟨rfl, N185q, K185q, P185_0⟩ := hQ185
        have N185 := Fr.app N126 N185q
        have K185 := K126.trans K185q (own_all1 (Or.inr sy_b_126))
        have F186 := P126_0.keep K185q
        have F187 := P126_1.keep K185q (own_nin1 ne_o22_b_126)
        refine own_stk (S' := []) rfl ?_
        have CR188 := CHr.trans CR137 (CHr.keep K185q (own_all1 (own_safeA hZ44.alike P126_2 (by decide))) CH137)
        have CH188 := CHv.keep K185q (own_all1 (own_safeA hZ44.alike P126_2 (by decide))) CH137
        have hk188 := Nat.le_trans hk137 K185q.1
        refine wiloadN OSc 132 X185 B at_131 rfl rfl ?_
        refine own_stS (fun t k => X185.ldcInt hx hown44 (mvT hZ44 (ow hw 86 rfl)) (g := (mkF m 132 #[.val (.int p1), .val (.int p2), .val (.int p3), .val (.int p4), .val (.ref o1), .val (.ref o22), .val (.int (0 : Int32)), .val (.int (0 : Int32)), .val (.int (1 : Int32)), .unset, .unset, .unset, .unset, .unset, .unset, .unset, .unset] [(.int p2)])) rfl (hb hby at_132) _ k) ?_
        show OGS _ _ p e _ s below _ T185 (mkF m 134 #[.val (.int p1), .val (.int p2), .val (.int p3), .val (.int p4), .val (.ref o1), .val (.ref o22), .val (.int (0 : Int32)), .val (.int (0 : Int32)), .val (.int (1 : Int32)), .unset, .unset, .unset, .unset, .unset, .unset, .unset, .unset] [(.int (2147483647 : Int32)), (.int p2)])
        refine wiand OSc 135 X185 B at_134 rfl ?_
        refine wiconst OSc 136 X185 B at_135 4 rfl rfl ?_
        refine own_stS (fun t k => iremM X185 hx rfl (hb hby at_136) rfl (by decide) k) ?_
        show OGS _ _ p e _ s below _ T185 (mkF m 137 #[.val (.int p1), .val (.int p2), .val (.int p3), .val (.int p4), .val (.ref o1), .val (.ref o22), .val (.int (0 : Int32)), .val (.int (0 : Int32)), .val (.int (1 : Int32)), .unset, .unset, .unset, .unset, .unset, .unset, .unset, .unset] [(.int ((p2 &&& (2147483647 : Int32)) % (4 : Int32)))])
        refine wistore OSc 139 X185 B at_137 #[.val (.int p1), .val (.int p2), .val (.int p3), .val (.int p4), .val (.ref o1), .val (.ref o22), .val (.int (0 : Int32)), .val (.int (0 : Int32)), .val (.int (1 : Int32)), .val (.int (g0_1 p1 p2 p3 p4)), .unset, .unset, .unset, .unset, .unset, .unset, .unset] rfl rfl ?_
        refine waload OSc 141 X185 B at_139 rfl rfl rfl ?_
        refine wiload OSc 143 X185 B at_141 rfl rfl ?_
        refine wvirt OSc 146 X185 B hZ44 hown44 (ow hw 87 rfl) (ow hw 88 rfl) (ow hw 90 rfl) (ow hw 89 rfl) F186 (ow hw 91 rfl) (ow hw 27 rfl) rfl (rm10 l Z a0 hw [] o22 (g0_1 p1 p2 p3 p4) b_126 (0 : Int32) (0 : Int32) (1 : Int32) (0 : Int32) (1 : Int32) (3 : Int32) T185.heap n0 F187 P185_0 ge_b_126 ne_o22_b_126 (own_r4 p2) (Or.inr (Or.inl ⟨rfl, rfl, rfl, rfl, rfl, rfl⟩))) 0 (by decide) (by decide) hml rfl (lenOf pd__I_I rfl) [] rfl rfl at_143 rfl fun _ T189 L189 X189 hQ189 => ?_
        obtain ⟨rfl, N189q, K189q, y0_189, y1_189, y2_189, xh189_0, P189_0⟩ := hQ189
        have N189 := Fr.app N185 N189q
        have K189 := K185.trans K189q (own_all1 (Or.inr sy_b_126))
        have F190 := F186.keep K189q
        have F191 := F187.keep K189q (own_nin1 ne_o22_b_126)
        refine own_stk (S' := [(.int (f12 (0 : Int32) (0 : Int32) (1 : Int32) (g0_1 p1 p2 p3 p4)))]) rfl ?_
        have CR192 := CHr.trans CR188 (CHr.keep K189q (own_all1 (own_safeA hZ44.alike P185_0 (by decide))) CH188)
        have CH192 := CHv.keep K189q (own_all1 (own_safeA hZ44.alike P185_0 (by decide))) CH188
        have hk192 := Nat.le_trans hk188 K189q.1
        refine wistore OSc 148 X189 B at_146 #[.val (.int p1), .val (.int p2), .val (.int p3), .val (.int p4), .val (.ref o1), .val (.ref o22), .val (.int (0 : Int32)), .val (.int (0 : Int32)), .val (.int (1 : Int32)), .val (.int (g0_1 p1 p2 p3 p4)), .val (.int (g0_9 p1 p2 p3 p4)), .unset, .unset, .unset, .unset, .unset, .unset] rfl rfl ?_
        refine wiloadN OSc 149 X189 B at_148 rfl rfl ?_
        refine own_stS (fun t k => X189.ldcInt hx hown44 (mvT hZ44 (ow hw 86 rfl)) (g := (mkF m 149 #[.val (.int p1), .val (.int p2), .val (.int p3), .val (.int p4), .val (.ref o1), .val (.ref o22), .val (.int (0 : Int32)), .val (.int (0 : Int32)), .val (.int (1 : Int32)), .val (.int (g0_1 p1 p2 p3 p4)), .val (.int (g0_9 p1 p2 p3 p4)), .unset, .unset, .unset, .unset, .unset, .unset] [(.int p3)])) rfl (hb hby at_149) _ k) ?_
        show OGS _ _ p e _ s below _ T189 (mkF m 151 #[.val (.int p1), .val (.int p2), .val (.int p3), .val (.int p4), .val (.ref o1), .val (.ref o22), .val (.int (0 : Int32)), .val (.int (0 : Int32)), .val (.int (1 : Int32)), .val (.int (g0_1 p1 p2 p3 p4)), .val (.int (g0_9 p1 p2 p3 p4)), .unset, .unset, .unset, .unset, .unset, .unset] [(.int (2147483647 : Int32)), (.int p3)])
        refine wiand OSc 152 X189 B at_151 rfl ?_
        refine wiconst OSc 153 X189 B at_152 4 rfl rfl ?_
        refine own_stS (fun t k => iremM X189 hx rfl (hb hby at_153) rfl (by decide) k) ?_
        show OGS _ _ p e _ s below _ T189 (mkF m 154 #[.val (.int p1), .val (.int p2), .val (.int p3), .val (.int p4), .val (.ref o1), .val (.ref o22), .val (.int (0 : Int32)), .val (.int (0 : Int32)), .val (.int (1 : Int32)), .val (.int (g0_1 p1 p2 p3 p4)), .val (.int (g0_9 p1 p2 p3 p4)), .unset, .unset, .unset, .unset, .unset, .unset] [(.int ((p3 &&& (2147483647 : Int32)) % (4 : Int32)))])
        refine wistore OSc 156 X189 B at_154 #[.val (.int p1), .val (.int p2), .val (.int p3), .val (.int p4), .val (.ref o1), .val (.ref o22), .val (.int (0 : Int32)), .val (.int (0 : Int32)), .val (.int (1 : Int32)), .val (.int (g0_1 p1 p2 p3 p4)), .val (.int (g0_9 p1 p2 p3 p4)), .val (.int (g0_3 p1 p2 p3 p4)), .unset, .unset, .unset, .unset, .unset] rfl rfl ?_
        by_cases c193 : (g0_3 p1 p2 p3 p4) = (0 : Int32)
        · rw [c193]
          show OGS _ _ p e _ s below _ T189 (mkF m 156 #[.val (.int p1), .val (.int p2), .val (.int p3), .val (.int p4), .val (.ref o1), .val (.ref o22), .val (.int (0 : Int32)), .val (.int (0 : Int32)), .val (.int (1 : Int32)), .val (.int (g0_1 p1 p2 p3 p4)), .val (.int (g0_9 p1 p2 p3 p4)), .val (.int (0 : Int32)), .unset, .unset, .unset, .unset, .unset] [])
          refine wiload OSc 158 X189 B at_156 rfl rfl ?_
          refine wiconst OSc 159 X189 B at_158 3 rfl rfl ?_
          refine wicmpNo OSc 162 X189 B at_159 (by decide) rfl ?_
          refine waload OSc 164 X189 B at_162 rfl rfl rfl ?_
          refine wiload OSc 166 X189 B at_164 rfl rfl ?_
          refine wvirt OSc 169 X189 B hZ44 hown44 (ow hw 92 rfl) (ow hw 93 rfl) (ow hw 95 rfl) (ow hw 94 rfl) F190 (ow hw 96 rfl) (ow hw 27 rfl) rfl (rm11_0 l Z a0 hw [] o22 b_126 y0_189 y1_189 y2_189 (3 : Int32) T189.heap n0 F191 P189_0 ge_b_126 ne_o22_b_126) 0 (by decide) (by decide) hml rfl (lenOf pd__I_V rfl) [] rfl rfl at_166 rfl fun _ T194 L194 X194 hQ194 => ?_
          obtain ⟨rfl, N194q, K194q, P194_0⟩ := hQ194
          have N194 := Fr.app N189 N194q
          have K194 := K189.trans K194q (own_all1 (Or.inr sy_b_126))
          have F195 := F190.keep K194q
          have F196 := F191.keep K194q (own_nin1 ne_o22_b_126)
          refine own_stk (S' := []) rfl ?_
          have CR197 := CHr.trans CR192 (CHr.keep K194q (own_all1 (own_safeA hZ44.alike P189_0 (by decide))) CH192)
          have CH197 := CHv.keep K194q (own_all1 (own_safeA hZ44.alike P189_0 (by decide))) CH192
          have hk197 := Nat.le_trans hk192 K194q.1
          refine wiload OSc 171 X194 B at_169 rfl rfl ?_
          refine wifNo OSc 174 X194 B at_171 (by decide) rfl ?_
          refine wiload OSc 176 X194 B at_174 rfl rfl ?_
          refine wifNo OSc 179 X194 B at_176 (by decide) rfl ?_
          refine wiconst OSc 180 X194 B at_179 1 rfl rfl ?_
          refine wgoto OSc 184 X194 B at_180 rfl ?_
          refine wistore OSc 186 X194 B at_184 #[.val (.int p1), .val (.int p2), .val (.int p3), .val (.int p4), .val (.ref o1), .val (.ref o22), .val (.int (0 : Int32)), .val (.int (0 : Int32)), .val (.int (1 : Int32)), .val (.int (g0_1 p1 p2 p3 p4)), .val (.int (g0_9 p1 p2 p3 p4)), .val (.int (0 : Int32)), .val (.int (1 : Int32)), .unset, .unset, .unset, .unset] rfl rfl ?_
          refine wiload OSc 188 X194 B at_186 rfl rfl ?_
          refine wifNo OSc 191 X194 B at_188 (by decide) rfl ?_
          refine wiload OSc 193 X194 B at_191 rfl rfl ?_
          refine wiconst OSc 194 X194 B at_193 1 rfl rfl ?_
          refine wicmpYes OSc 201 X194 B at_194 (by decide) rfl ?_
          refine wiconst OSc 202 X194 B at_201 0 rfl rfl ?_
          refine wistore OSc 204 X194 B at_202 #[.val (.int p1), .val (.int p2), .val (.int p3), .val (.int p4), .val (.ref o1), .val (.ref o22), .val (.int (0 : Int32)), .val (.int (0 : Int32)), .val (.int (1 : Int32)), .val (.int (g0_1 p1 p2 p3 p4)), .val (.int (g0_9 p1 p2 p3 p4)), .val (.int (0 : Int32)), .val (.int (1 : Int32)), .val (.int (0 : Int32)), .unset, .unset, .unset] rfl rfl ?_
          refine wiload OSc 206 X194 B at_204 rfl rfl ?_
          refine wifYes OSc 215 X194 B at_206 (by decide) rfl ?_
          refine wiconst OSc 216 X194 B at_215 1 rfl rfl ?_
          refine wgoto OSc 220 X194 B at_216 rfl ?_
          refine wistore OSc 222 X194 B at_220 #[.val (.int p1), .val (.int p2), .val (.int p3), .val (.int p4), .val (.ref o1), .val (.ref o22), .val (.int (0 : Int32)), .val (.int (0 : Int32)), .val (.int (1 : Int32)), .val (.int (g0_1 p1 p2 p3 p4)), .val (.int (g0_9 p1 p2 p3 p4)), .val (.int (0 : Int32)), .val (.int (1 : Int32)), .val (.int (0 : Int32)), .val (.int (1 : Int32)), .unset, .unset] rfl rfl ?_
          refine wiloadN OSc 223 X194 B at_222 rfl rfl ?_
          refine own_stS (fun t k => X194.ldcInt hx hown44 (mvT hZ44 (ow hw 86 rfl)) (g := (mkF m 223 #[.val (.int p1), .val (.int p2), .val (.int p3), .val (.int p4), .val (.ref o1), .val (.ref o22), .val (.int (0 : Int32)), .val (.int (0 : Int32)), .val (.int (1 : Int32)), .val (.int (g0_1 p1 p2 p3 p4)), .val (.int (g0_9 p1 p2 p3 p4)), .val (.int (0 : Int32)), .val (.int (1 : Int32)), .val (.int (0 : Int32)), .val (.int (1 : Int32)), .unset, .unset] [(.int p4)])) rfl (hb hby at_223) _ k) ?_
          show OGS _ _ p e _ s below _ T194 (mkF m 225 #[.val (.int p1), .val (.int p2), .val (.int p3), .val (.int p4), .val (.ref o1), .val (.ref o22), .val (.int (0 : Int32)), .val (.int (0 : Int32)), .val (.int (1 : Int32)), .val (.int (g0_1 p1 p2 p3 p4)), .val (.int (g0_9 p1 p2 p3 p4)), .val (.int (0 : Int32)), .val (.int (1 : Int32)), .val (.int (0 : Int32)), .val (.int (1 : Int32)), .unset, .unset] [(.int (2147483647 : Int32)), (.int p4)])
          refine wiand OSc 226 X194 B at_225 rfl ?_
          refine wiconst OSc 227 X194 B at_226 4 rfl rfl ?_
          refine own_stS (fun t k => iremM X194 hx rfl (hb hby at_227) rfl (by decide) k) ?_
          show OGS _ _ p e _ s below _ T194 (mkF m 228 #[.val (.int p1), .val (.int p2), .val (.int p3), .val (.int p4), .val (.ref o1), .val (.ref o22), .val (.int (0 : Int32)), .val (.int (0 : Int32)), .val (.int (1 : Int32)), .val (.int (g0_1 p1 p2 p3 p4)), .val (.int (g0_9 p1 p2 p3 p4)), .val (.int (0 : Int32)), .val (.int (1 : Int32)), .val (.int (0 : Int32)), .val (.int (1 : Int32)), .unset, .unset] [(.int ((p4 &&& (2147483647 : Int32)) % (4 : Int32)))])
          refine wistore OSc 230 X194 B at_228 #[.val (.int p1), .val (.int p2), .val (.int p3), .val (.int p4), .val (.ref o1), .val (.ref o22), .val (.int (0 : Int32)), .val (.int (0 : Int32)), .val (.int (1 : Int32)), .val (.int (g0_1 p1 p2 p3 p4)), .val (.int (g0_9 p1 p2 p3 p4)), .val (.int (0 : Int32)), .val (.int (1 : Int32)), .val (.int (0 : Int32)), .val (.int (1 : Int32)), .val (.int (g0_4 p1 p2 p3 p4)), .unset] rfl rfl ?_
          refine waload OSc 232 X194 B at_230 rfl rfl rfl ?_
          refine wiload OSc 234 X194 B at_232 rfl rfl ?_
          refine wvirt OSc 237 X194 B hZ44 hown44 (ow hw 87 rfl) (ow hw 88 rfl) (ow hw 90 rfl) (ow hw 89 rfl) F195 (ow hw 91 rfl) (ow hw 27 rfl) rfl (rm10 l Z a0 hw [] o22 (g0_4 p1 p2 p3 p4) b_126 (1 : Int32) (0 : Int32) (1 : Int32) (1 : Int32) y1_189 y2_189 T194.heap n0 F196 P194_0 ge_b_126 ne_o22_b_126 (own_r4 p4) (own_gs0 xh189_0)) 0 (by decide) (by decide) hml rfl (lenOf pd__I_I rfl) [] rfl rfl at_234 rfl fun _ T198 L198 X198 hQ198 => ?_
          obtain ⟨rfl, N198q, K198q, y0_198, y1_198, y2_198, xh198_0, P198_0⟩ := hQ198
          have N198 := Fr.app N194 N198q
          have K198 := K194.trans K198q (own_all1 (Or.inr sy_b_126))
          have F199 := F195.keep K198q
          have F200 := F196.keep K198q (own_nin1 ne_o22_b_126)
          refine own_stk (S' := [(.int (f12 (1 : Int32) (0 : Int32) (1 : Int32) (g0_4 p1 p2 p3 p4)))]) rfl ?_
          have CR201 := CHr.trans CR197 (CHr.keep K198q (own_all1 (own_safeA hZ44.alike P194_0 (by decide))) CH197)
          have CH201 := CHv.keep K198q (own_all1 (own_safeA hZ44.alike P194_0 (by decide))) CH197
          have hk201 := Nat.le_trans hk197 K198q.1
          refine wistore OSc 239 X198 B at_237 #[.val (.int p1), .val (.int p2), .val (.int p3), .val (.int p4), .val (.ref o1), .val (.ref o22), .val (.int (0 : Int32)), .val (.int (0 : Int32)), .val (.int (1 : Int32)), .val (.int (g0_1 p1 p2 p3 p4)), .val (.int (g0_9 p1 p2 p3 p4)), .val (.int (0 : Int32)), .val (.int (1 : Int32)), .val (.int (0 : Int32)), .val (.int (1 : Int32)), .val (.int (g0_4 p1 p2 p3 p4)), .val (.int (g0_10 p1 p2 p3 p4))] rfl rfl ?_
          refine wiload OSc 241 X198 B at_239 rfl rfl ?_
          refine wiload OSc 243 X198 B at_241 rfl rfl ?_
          refine wiload OSc 245 X198 B at_243 rfl rfl ?_
          refine wiload OSc 247 X198 B at_245 rfl rfl ?_
          refine wiload OSc 249 X198 B at_247 rfl rfl ?_
          refine wstat OSc 252 X198 B hZ44 hown44 (ow hw 97 rfl) (ow hw 98 rfl) (ow hw 100 rfl) (ow hw 99 rfl) rfl (rm12 l Z a0 hw [] (0 : Int32) (0 : Int32) (1 : Int32) (g0_1 p1 p2 p3 p4) T198.heap) 1 (by decide) (by decide) hml rfl (lenOf pd__ZZZI_I rfl) [(.int (g0_9 p1 p2 p3 p4))] rfl rfl at_249 rfl fun _ T202 L202 X202 hQ202 => ?_
          obtain ⟨rfl, rfl, e202⟩ := hQ202
          have N202 := Fr.app N198 (Fr.nil n0)
          refine own_stk (S' := [(.int (f12 (0 : Int32) (0 : Int32) (1 : Int32) (g0_1 p1 p2 p3 p4))), (.int (g0_9 p1 p2 p3 p4))]) rfl ?_
          refine wicmpNo OSc 255 X202 B at_252 (teq rfl).2 rfl ?_
          refine wiload OSc 257 X202 B at_255 rfl rfl ?_
          refine wiload OSc 259 X202 B at_257 rfl rfl ?_
          refine wiload OSc 261 X202 B at_259 rfl rfl ?_
          refine wiload OSc 263 X202 B at_261 rfl rfl ?_
          refine wiload OSc 265 X202 B at_263 rfl rfl ?_
          refine wstat OSc 268 X202 B hZ44 hown44 (ow hw 97 rfl) (ow hw 98 rfl) (ow hw 100 rfl) (ow hw 99 rfl) e202 (rm12 l Z a0 hw [] (1 : Int32) (0 : Int32) (1 : Int32) (g0_4 p1 p2 p3 p4) T198.heap) 1 (by decide) (by decide) hml rfl (lenOf pd__ZZZI_I rfl) [(.int (g0_10 p1 p2 p3 p4))] rfl rfl at_265 rfl fun _ T203 L203 X203 hQ203 => ?_
          obtain ⟨rfl, rfl, e203⟩ := hQ203
          have N203 := Fr.app N202 (Fr.nil n0)
          refine own_stk (S' := [(.int (f12 (1 : Int32) (0 : Int32) (1 : Int32) (g0_4 p1 p2 p3 p4))), (.int (g0_10 p1 p2 p3 p4))]) rfl ?_
          refine wicmpNo OSc 271 X203 B at_268 (teq rfl).2 rfl ?_
          refine wiconst OSc 272 X203 B at_271 1 rfl rfl ?_
          refine wgoto OSc 276 X203 B at_272 rfl ?_
          refine own_endS X203 hlk hZ44 hEL e203 hs0 hS44 hk201 CH201 CR201 (v := some (.int (nar .boolean (1 : Int32)))) (fun h => by rw [hret] at h; cases h) (by decide) (by decide) ?_ (fun fs hr => retN X203 hx (t := .boolean) hret (by simp) (hb hby at_276) hr)
          exact ⟨congrArg (fun z => some (Value.int z)) (show f0 p1 p2 p3 p4 = (1 : Int32) from (by rw [f0, if_pos c138, if_pos c139, if_neg c140, if_pos c193])).symm, N203⟩
        · skip
          by_cases c204 : (g0_3 p1 p2 p3 p4) = (1 : Int32)
          · rw [c204]
            show OGS _ _ p e _ s below _ T189 (mkF m 156 #[.val (.int p1), .val (.int p2), .val (.int p3), .val (.int p4), .val (.ref o1), .val (.ref o22), .val (.int (0 : Int32)), .val (.int (0 : Int32)), .val (.int (1 : Int32)), .val (.int (g0_1 p1 p2 p3 p4)), .val (.int (g0_9 p1 p2 p3 p4)), .val (.int (1 : Int32)), .unset, .unset, .unset, .unset, .unset] [])
            refine wiload OSc 158 X189 B at_156 rfl rfl ?_
            refine wiconst OSc 159 X189 B at_158 3 rfl rfl ?_
            refine wicmpNo OSc 162 X189 B at_159 (by decide) rfl ?_
            refine waload OSc 164 X189 B at_162 rfl rfl rfl ?_
            refine wiload OSc 166 X189 B at_164 rfl rfl ?_
            refine wvirt OSc 169 X189 B hZ44 hown44 (ow hw 92 rfl) (ow hw 93 rfl) (ow hw 95 rfl) (ow hw 94 rfl) F190 (ow hw 96 rfl) (ow hw 27 rfl) rfl (rm11_1 l Z a0 hw [] o22 b_126 y0_189 y1_189 y2_189 (3 : Int32) T189.heap n0 F191 P189_0 ge_b_126 ne_o22_b_126) 0 (by decide) (by decide) hml rfl (lenOf pd__I_V rfl) [] rfl rfl at_166 rfl fun _ T205 L205 X205 hQ205 => ?_
            obtain ⟨rfl, N205q, K205q, P205_0⟩ := hQ205
            have N205 := Fr.app N189 N205q
            have K205 := K189.trans K205q (own_all1 (Or.inr sy_b_126))
            have F206 := F190.keep K205q
            have F207 := F191.keep K205q (own_nin1 ne_o22_b_126)
            refine own_stk (S' := []) rfl ?_
            have CR208 := CHr.trans CR192 (CHr.keep K205q (own_all1 (own_safeA hZ44.alike P189_0 (by decide))) CH192)
            have CH208 := CHv.keep K205q (own_all1 (own_safeA hZ44.alike P189_0 (by decide))) CH192
            have hk208 := Nat.le_trans hk192 K205q.1
            refine wiload OSc 171 X205 B at_169 rfl rfl ?_
            refine wifNo OSc 174 X205 B at_171 (by decide) rfl ?_
            refine wiload OSc 176 X205 B at_174 rfl rfl ?_
            refine wifYes OSc 183 X205 B at_176 (by decide) rfl ?_
            refine wiconst OSc 184 X205 B at_183 0 rfl rfl ?_
            refine wistore OSc 186 X205 B at_184 #[.val (.int p1), .val (.int p2), .val (.int p3), .val (.int p4), .val (.ref o1), .val (.ref o22), .val (.int (0 : Int32)), .val (.int (0 : Int32)), .val (.int (1 : Int32)), .val (.int (g0_1 p1 p2 p3 p4)), .val (.int (g0_9 p1 p2 p3 p4)), .val (.int (1 : Int32)), .val (.int (0 : Int32)), .unset, .unset, .unset, .unset] rfl rfl ?_
            refine wiload OSc 188 X205 B at_186 rfl rfl ?_
            refine wifNo OSc 191 X205 B at_188 (by decide) rfl ?_
            refine wiload OSc 193 X205 B at_191 rfl rfl ?_
            refine wiconst OSc 194 X205 B at_193 1 rfl rfl ?_
            refine wicmpNo OSc 197 X205 B at_194 (by decide) rfl ?_
            refine wiconst OSc 198 X205 B at_197 1 rfl rfl ?_
            refine wgoto OSc 202 X205 B at_198 rfl ?_
            refine wistore OSc 204 X205 B at_202 #[.val (.int p1), .val (.int p2), .val (.int p3), .val (.int p4), .val (.ref o1), .val (.ref o22), .val (.int (0 : Int32)), .val (.int (0 : Int32)), .val (.int (1 : Int32)), .val (.int (g0_1 p1 p2 p3 p4)), .val (.int (g0_9 p1 p2 p3 p4)), .val (.int (1 : Int32)), .val (.int (0 : Int32)), .val (.int (1 : Int32)), .unset, .unset, .unset] rfl rfl ?_
            refine wiload OSc 206 X205 B at_204 rfl rfl ?_
            refine wifYes OSc 215 X205 B at_206 (by decide) rfl ?_
            refine wiconst OSc 216 X205 B at_215 1 rfl rfl ?_
            refine wgoto OSc 220 X205 B at_216 rfl ?_
            refine wistore OSc 222 X205 B at_220 #[.val (.int p1), .val (.int p2), .val (.int p3), .val (.int p4), .val (.ref o1), .val (.ref o22), .val (.int (0 : Int32)), .val (.int (0 : Int32)), .val (.int (1 : Int32)), .val (.int (g0_1 p1 p2 p3 p4)), .val (.int (g0_9 p1 p2 p3 p4)), .val (.int (1 : Int32)), .val (.int (0 : Int32)), .val (.int (1 : Int32)), .val (.int (1 : Int32)), .unset, .unset] rfl rfl ?_
            refine wiloadN OSc 223 X205 B at_222 rfl rfl ?_
            refine own_stS (fun t k => X205.ldcInt hx hown44 (mvT hZ44 (ow hw 86 rfl)) (g := (mkF m 223 #[.val (.int p1), .val (.int p2), .val (.int p3), .val (.int p4), .val (.ref o1), .val (.ref o22), .val (.int (0 : Int32)), .val (.int (0 : Int32)), .val (.int (1 : Int32)), .val (.int (g0_1 p1 p2 p3 p4)), .val (.int (g0_9 p1 p2 p3 p4)), .val (.int (1 : Int32)), .val (.int (0 : Int32)), .val (.int (1 : Int32)), .val (.int (1 : Int32)), .unset, .unset] [(.int p4)])) rfl (hb hby at_223) _ k) ?_
            show OGS _ _ p e _ s below _ T205 (mkF m 225 #[.val (.int p1), .val (.int p2), .val (.int p3), .val (.int p4), .val (.ref o1), .val (.ref o22), .val (.int (0 : Int32)), .val (.int (0 : Int32)), .val (.int (1 : Int32)), .val (.int (g0_1 p1 p2 p3 p4)), .val (.int (g0_9 p1 p2 p3 p4)), .val (.int (1 : Int32)), .val (.int (0 : Int32)), .val (.int (1 : Int32)), .val (.int (1 : Int32)), .unset, .unset] [(.int (2147483647 : Int32)), (.int p4)])
            refine wiand OSc 226 X205 B at_225 rfl ?_
            refine wiconst OSc 227 X205 B at_226 4 rfl rfl ?_
            refine own_stS (fun t k => iremM X205 hx rfl (hb hby at_227) rfl (by decide) k) ?_
            show OGS _ _ p e _ s below _ T205 (mkF m 228 #[.val (.int p1), .val (.int p2), .val (.int p3), .val (.int p4), .val (.ref o1), .val (.ref o22), .val (.int (0 : Int32)), .val (.int (0 : Int32)), .val (.int (1 : Int32)), .val (.int (g0_1 p1 p2 p3 p4)), .val (.int (g0_9 p1 p2 p3 p4)), .val (.int (1 : Int32)), .val (.int (0 : Int32)), .val (.int (1 : Int32)), .val (.int (1 : Int32)), .unset, .unset] [(.int ((p4 &&& (2147483647 : Int32)) % (4 : Int32)))])
            refine wistore OSc 230 X205 B at_228 #[.val (.int p1), .val (.int p2), .val (.int p3), .val (.int p4), .val (.ref o1), .val (.ref o22), .val (.int (0 : Int32)), .val (.int (0 : Int32)), .val (.int (1 : Int32)), .val (.int (g0_1 p1 p2 p3 p4)), .val (.int (g0_9 p1 p2 p3 p4)), .val (.int (1 : Int32)), .val (.int (0 : Int32)), .val (.int (1 : Int32)), .val (.int (1 : Int32)), .val (.int (g0_4 p1 p2 p3 p4)), .unset] rfl rfl ?_
            refine waload OSc 232 X205 B at_230 rfl rfl rfl ?_
            refine wiload OSc 234 X205 B at_232 rfl rfl ?_
            refine wvirt OSc 237 X205 B hZ44 hown44 (ow hw 87 rfl) (ow hw 88 rfl) (ow hw 90 rfl) (ow hw 89 rfl) F206 (ow hw 91 rfl) (ow hw 27 rfl) rfl (rm10 l Z a0 hw [] o22 (g0_4 p1 p2 p3 p4) b_126 (0 : Int32) (1 : Int32) (1 : Int32) y0_189 (2 : Int32) y2_189 T205.heap n0 F207 P205_0 ge_b_126 ne_o22_b_126 (own_r4 p4) (own_gs1 xh189_0)) 0 (by decide) (by decide) hml rfl (lenOf pd__I_I rfl) [] rfl rfl at_234 rfl fun _ T209 L209 X209 hQ209 => ?_
            obtain ⟨rfl, N209q, K209q, y0_209, y1_209, y2_209, xh209_0, P209_0⟩ := hQ209
            have N209 := Fr.app N205 N209q
            have K209 := K205.trans K209q (own_all1 (Or.inr sy_b_126))
            have F210 := F206.keep K209q
            have F211 := F207.keep K209q (own_nin1 ne_o22_b_126)
            refine own_stk (S' := [(.int (f12 (0 : Int32) (1 : Int32) (1 : Int32) (g0_4 p1 p2 p3 p4)))]) rfl ?_
            have CR212 := CHr.trans CR208 (CHr.keep K209q (own_all1 (own_safeA hZ44.alike P205_0 (by decide))) CH208)
            have CH212 := CHv.keep K209q (own_all1 (own_safeA hZ44.alike P205_0 (by decide))) CH208
            have hk212 := Nat.le_trans hk208 K209q.1
            refine wistore OSc 239 X209 B at_237 #[.val (.int p1), .val (.int p2), .val (.int p3), .val (.int p4), .val (.ref o1), .val (.ref o22), .val (.int (0 : Int32)), .val (.int (0 : Int32)), .val (.int (1 : Int32)), .val (.int (g0_1 p1 p2 p3 p4)), .val (.int (g0_9 p1 p2 p3 p4)), .val (.int (1 : Int32)), .val (.int (0 : Int32)), .val (.int (1 : Int32)), .val (.int (1 : Int32)), .val (.int (g0_4 p1 p2 p3 p4)), .val (.int (g0_11 p1 p2 p3 p4))] rfl rfl ?_
            refine wiload OSc 241 X209 B at_239 rfl rfl ?_
            refine wiload OSc 243 X209 B at_241 rfl rfl ?_
            refine wiload OSc 245 X209 B at_243 rfl rfl ?_
            refine wiload OSc 247 X209 B at_245 rfl rfl ?_
            refine wiload OSc 249 X209 B at_247 rfl rfl ?_
            refine wstat OSc 252 X209 B hZ44 hown44 (ow hw 97 rfl) (ow hw 98 rfl) (ow hw 100 rfl) (ow hw 99 rfl) rfl (rm12 l Z a0 hw [] (0 : Int32) (0 : Int32) (1 : Int32) (g0_1 p1 p2 p3 p4) T209.heap) 1 (by decide) (by decide) hml rfl (lenOf pd__ZZZI_I rfl) [(.int (g0_9 p1 p2 p3 p4))] rfl rfl at_249 rfl fun _ T213 L213 X213 hQ213 => ?_
            obtain ⟨rfl, rfl, e213⟩ := hQ213
            have N213 := Fr.app N209 (Fr.nil n0)
            refine own_stk (S' := [(.int (f12 (0 : Int32) (0 : Int32) (1 : Int32) (g0_1 p1 p2 p3 p4))), (.int (g0_9 p1 p2 p3 p4))]) rfl ?_
            refine wicmpNo OSc 255 X213 B at_252 (teq rfl).2 rfl ?_
            refine wiload OSc 257 X213 B at_255 rfl rfl ?_
            refine wiload OSc 259 X213 B at_257 rfl rfl ?_
            refine wiload OSc 261 X213 B at_259 rfl rfl ?_
            refine wiload OSc 263 X213 B at_261 rfl rfl ?_
            refine wiload OSc 265 X213 B at_263 rfl rfl ?_
            refine wstat OSc 268 X213 B hZ44 hown44 (ow hw 97 rfl) (ow hw 98 rfl) (ow hw 100 rfl) (ow hw 99 rfl) e213 (rm12 l Z a0 hw [] (0 : Int32) (1 : Int32) (1 : Int32) (g0_4 p1 p2 p3 p4) T209.heap) 1 (by decide) (by decide) hml rfl (lenOf pd__ZZZI_I rfl) [(.int (g0_11 p1 p2 p3 p4))] rfl rfl at_265 rfl fun _ T214 L214 X214 hQ214 => ?_
            obtain ⟨rfl, rfl, e214⟩ := hQ214
            have N214 := Fr.app N213 (Fr.nil n0)
            refine own_stk (S' := [(.int (f12 (0 : Int32) (1 : Int32) (1 : Int32) (g0_4 p1 p2 p3 p4))), (.int (g0_11 p1 p2 p3 p4))]) rfl ?_
            refine wicmpNo OSc 271 X214 B at_268 (teq rfl).2 rfl ?_
            refine wiconst OSc 272 X214 B at_271 1 rfl rfl ?_
            refine wgoto OSc 276 X214 B at_272 rfl ?_
            refine own_endS X214 hlk hZ44 hEL e214 hs0 hS44 hk212 CH212 CR212 (v := some (.int (nar .boolean (1 : Int32)))) (fun h => by rw [hret] at h; cases h) (by decide) (by decide) ?_ (fun fs hr => retN X214 hx (t := .boolean) hret (by simp) (hb hby at_276) hr)
            exact ⟨congrArg (fun z => some (Value.int z)) (show f0 p1 p2 p3 p4 = (1 : Int32) from (by rw [f0, if_pos c138, if_pos c139, if_neg c140, if_neg c193, if_pos c204])).symm, N214⟩
          · skip
            by_cases c215 : (g0_3 p1 p2 p3 p4) = (2 : Int32)
            · rw [c215]
              show OGS _ _ p e _ s below _ T189 (mkF m 156 #[.val (.int p1), .val (.int p2), .val (.int p3), .val (.int p4), .val (.ref o1), .val (.ref o22), .val (.int (0 : Int32)), .val (.int (0 : Int32)), .val (.int (1 : Int32)), .val (.int (g0_1 p1 p2 p3 p4)), .val (.int (g0_9 p1 p2 p3 p4)), .val (.int (2 : Int32)), .unset, .unset, .unset, .unset, .unset] [])
              refine wiload OSc 158 X189 B at_156 rfl rfl ?_
              refine wiconst OSc 159 X189 B at_158 3 rfl rfl ?_
              refine wicmpNo OSc 162 X189 B at_159 (by decide) rfl ?_
              refine waload OSc 164 X189 B at_162 rfl rfl rfl ?_
              refine wiload OSc 166 X189 B at_164 rfl rfl ?_
              refine wvirt OSc 169 X189 B hZ44 hown44 (ow hw 92 rfl) (ow hw 93 rfl) (ow hw 95 rfl) (ow hw 94 rfl) F190 (ow hw 96 rfl) (ow hw 27 rfl) rfl (rm11_2 l Z a0 hw [] o22 b_126 y0_189 y1_189 y2_189 (3 : Int32) T189.heap n0 F191 P189_0 ge_b_126 ne_o22_b_126) 0 (by decide) (by decide) hml rfl (lenOf pd__I_V rfl) [] rfl rfl at_166 rfl fun _ T216 L216 X216 hQ216 => ?_
              obtain ⟨rfl, N216q, K216q, P216_0⟩ := hQ216
              have N216 := Fr.app N189 N216q
              have K216 := K189.trans K216q (own_all1 (Or.inr sy_b_126))
              have F217 := F190.keep K216q
              have F218 := F191.keep K216q (own_nin1 ne_o22_b_126)
              refine own_stk (S' := []) rfl ?_
              have CR219 := CHr.trans CR192 (CHr.keep K216q (own_all1 (own_safeA hZ44.alike P189_0 (by decide))) CH192)
              have CH219 := CHv.keep K216q (own_all1 (own_safeA hZ44.alike P189_0 (by decide))) CH192
              have hk219 := Nat.le_trans hk192 K216q.1
              refine wiload OSc 171 X216 B at_169 rfl rfl ?_
              refine wifNo OSc 174 X216 B at_171 (by decide) rfl ?_
              refine wiload OSc 176 X216 B at_174 rfl rfl ?_
              refine wifYes OSc 183 X216 B at_176 (by decide) rfl ?_
              refine wiconst OSc 184 X216 B at_183 0 rfl rfl ?_
              refine wistore OSc 186 X216 B at_184 #[.val (.int p1), .val (.int p2), .val (.int p3), .val (.int p4), .val (.ref o1), .val (.ref o22), .val (.int (0 : Int32)), .val (.int (0 : Int32)), .val (.int (1 : Int32)), .val (.int (g0_1 p1 p2 p3 p4)), .val (.int (g0_9 p1 p2 p3 p4)), .val (.int (2 : Int32)), .val (.int (0 : Int32)), .unset, .unset, .unset, .unset] rfl rfl ?_
              refine wiload OSc 188 X216 B at_186 rfl rfl ?_
              refine wifNo OSc 191 X216 B at_188 (by decide) rfl ?_
              refine wiload OSc 193 X216 B at_191 rfl rfl ?_
              refine wiconst OSc 194 X216 B at_193 1 rfl rfl ?_
              refine wicmpYes OSc 201 X216 B at_194 (by decide) rfl ?_
              refine wiconst OSc 202 X216 B at_201 0 rfl rfl ?_
              refine wistore OSc 204 X216 B at_202 #[.val (.int p1), .val (.int p2), .val (.int p3), .val (.int p4), .val (.ref o1), .val (.ref o22), .val (.int (0 : Int32)), .val (.int (0 : Int32)), .val (.int (1 : Int32)), .val (.int (g0_1 p1 p2 p3 p4)), .val (.int (g0_9 p1 p2 p3 p4)), .val (.int (2 : Int32)), .val (.int (0 : Int32)), .val (.int (0 : Int32)), .unset, .unset, .unset] rfl rfl ?_
              refine wiload OSc 206 X216 B at_204 rfl rfl ?_
              refine wifYes OSc 215 X216 B at_206 (by decide) rfl ?_
              refine wiconst OSc 216 X216 B at_215 1 rfl rfl ?_
              refine wgoto OSc 220 X216 B at_216 rfl ?_
              refine wistore OSc 222 X216 B at_220 #[.val (.int p1), .val (.int p2), .val (.int p3), .val (.int p4), .val (.ref o1), .val (.ref o22), .val (.int (0 : Int32)), .val (.int (0 : Int32)), .val (.int (1 : Int32)), .val (.int (g0_1 p1 p2 p3 p4)), .val (.int (g0_9 p1 p2 p3 p4)), .val (.int (2 : Int32)), .val (.int (0 : Int32)), .val (.int (0 : Int32)), .val (.int (1 : Int32)), .unset, .unset] rfl rfl ?_
              refine wiloadN OSc 223 X216 B at_222 rfl rfl ?_
              refine own_stS (fun t k => X216.ldcInt hx hown44 (mvT hZ44 (ow hw 86 rfl)) (g := (mkF m 223 #[.val (.int p1), .val (.int p2), .val (.int p3), .val (.int p4), .val (.ref o1), .val (.ref o22), .val (.int (0 : Int32)), .val (.int (0 : Int32)), .val (.int (1 : Int32)), .val (.int (g0_1 p1 p2 p3 p4)), .val (.int (g0_9 p1 p2 p3 p4)), .val (.int (2 : Int32)), .val (.int (0 : Int32)), .val (.int (0 : Int32)), .val (.int (1 : Int32)), .unset, .unset] [(.int p4)])) rfl (hb hby at_223) _ k) ?_
              show OGS _ _ p e _ s below _ T216 (mkF m 225 #[.val (.int p1), .val (.int p2), .val (.int p3), .val (.int p4), .val (.ref o1), .val (.ref o22), .val (.int (0 : Int32)), .val (.int (0 : Int32)), .val (.int (1 : Int32)), .val (.int (g0_1 p1 p2 p3 p4)), .val (.int (g0_9 p1 p2 p3 p4)), .val (.int (2 : Int32)), .val (.int (0 : Int32)), .val (.int (0 : Int32)), .val (.int (1 : Int32)), .unset, .unset] [(.int (2147483647 : Int32)), (.int p4)])
              refine wiand OSc 226 X216 B at_225 rfl ?_
              refine wiconst OSc 227 X216 B at_226 4 rfl rfl ?_
              refine own_stS (fun t k => iremM X216 hx rfl (hb hby at_227) rfl (by decide) k) ?_
              show OGS _ _ p e _ s below _ T216 (mkF m 228 #[.val (.int p1), .val (.int p2), .val (.int p3), .val (.int p4), .val (.ref o1), .val (.ref o22), .val (.int (0 : Int32)), .val (.int (0 : Int32)), .val (.int (1 : Int32)), .val (.int (g0_1 p1 p2 p3 p4)), .val (.int (g0_9 p1 p2 p3 p4)), .val (.int (2 : Int32)), .val (.int (0 : Int32)), .val (.int (0 : Int32)), .val (.int (1 : Int32)), .unset, .unset] [(.int ((p4 &&& (2147483647 : Int32)) % (4 : Int32)))])
              refine wistore OSc 230 X216 B at_228 #[.val (.int p1), .val (.int p2), .val (.int p3), .val (.int p4), .val (.ref o1), .val (.ref o22), .val (.int (0 : Int32)), .val (.int (0 : Int32)), .val (.int (1 : Int32)), .val (.int (g0_1 p1 p2 p3 p4)), .val (.int (g0_9 p1 p2 p3 p4)), .val (.int (2 : Int32)), .val (.int (0 : Int32)), .val (.int (0 : Int32)), .val (.int (1 : Int32)), .val (.int (g0_4 p1 p2 p3 p4)), .unset] rfl rfl ?_
              refine waload OSc 232 X216 B at_230 rfl rfl rfl ?_
              refine wiload OSc 234 X216 B at_232 rfl rfl ?_
              refine wvirt OSc 237 X216 B hZ44 hown44 (ow hw 87 rfl) (ow hw 88 rfl) (ow hw 90 rfl) (ow hw 89 rfl) F217 (ow hw 91 rfl) (ow hw 27 rfl) rfl (rm10 l Z a0 hw [] o22 (g0_4 p1 p2 p3 p4) b_126 (0 : Int32) (0 : Int32) (1 : Int32) y0_189 y1_189 (3 : Int32) T216.heap n0 F218 P216_0 ge_b_126 ne_o22_b_126 (own_r4 p4) (own_gs2 xh189_0)) 0 (by decide) (by decide) hml rfl (lenOf pd__I_I rfl) [] rfl rfl at_234 rfl fun _ T220 L220 X220 hQ220 => ?_
              obtain ⟨rfl, N220q, K220q, y0_220, y1_220, y2_220, xh220_0, P220_0⟩ := hQ220
              have N220 := Fr.app N216 N220q
              have K220 := K216.trans K220q (own_all1 (Or.inr sy_b_126))
              have F221 := F217.keep K220q
              have F222 := F218.keep K220q (own_nin1 ne_o22_b_126)
              refine own_stk (S' := [(.int (f12 (0 : Int32) (0 : Int32) (1 : Int32) (g0_4 p1 p2 p3 p4)))]) rfl ?_
              have CR223 := CHr.trans CR219 (CHr.keep K220q (own_all1 (own_safeA hZ44.alike P216_0 (by decide))) CH219)
              have CH223 := CHv.keep K220q (own_all1 (own_safeA hZ44.alike P216_0 (by decide))) CH219
              have hk223 := Nat.le_trans hk219 K220q.1
              refine wistore OSc 239 X220 B at_237 #[.val (.int p1), .val (.int p2), .val (.int p3), .val (.int p4), .val (.ref o1), .val (.ref o22), .val (.int (0 : Int32)), .val (.int (0 : Int32)), .val (.int (1 : Int32)), .val (.int (g0_1 p1 p2 p3 p4)), .val (.int (g0_9 p1 p2 p3 p4)), .val (.int (2 : Int32)), .val (.int (0 : Int32)), .val (.int (0 : Int32)), .val (.int (1 : Int32)), .val (.int (g0_4 p1 p2 p3 p4)), .val (.int (g0_7 p1 p2 p3 p4))] rfl rfl ?_
              refine wiload OSc 241 X220 B at_239 rfl rfl ?_
              refine wiload OSc 243 X220 B at_241 rfl rfl ?_
              refine wiload OSc 245 X220 B at_243 rfl rfl ?_
              refine wiload OSc 247 X220 B at_245 rfl rfl ?_
              refine wiload OSc 249 X220 B at_247 rfl rfl ?_
              refine wstat OSc 252 X220 B hZ44 hown44 (ow hw 97 rfl) (ow hw 98 rfl) (ow hw 100 rfl) (ow hw 99 rfl) rfl (rm12 l Z a0 hw [] (0 : Int32) (0 : Int32) (1 : Int32) (g0_1 p1 p2 p3 p4) T220.heap) 1 (by decide) (by decide) hml rfl (lenOf pd__ZZZI_I rfl) [(.int (g0_9 p1 p2 p3 p4))] rfl rfl at_249 rfl fun _ T224 L224 X224 hQ224 => ?_
              obtain ⟨rfl, rfl, e224⟩ := hQ224
              have N224 := Fr.app N220 (Fr.nil n0)
              refine own_stk (S' := [(.int (f12 (0 : Int32) (0 : Int32) (1 : Int32) (g0_1 p1 p2 p3 p4))), (.int (g0_9 p1 p2 p3 p4))]) rfl ?_
              refine wicmpNo OSc 255 X224 B at_252 (teq rfl).2 rfl ?_
              refine wiload OSc 257 X224 B at_255 rfl rfl ?_
              refine wiload OSc 259 X224 B at_257 rfl rfl ?_
              refine wiload OSc 261 X224 B at_259 rfl rfl ?_
              refine wiload OSc 263 X224 B at_261 rfl rfl ?_
              refine wiload OSc 265 X224 B at_263 rfl rfl ?_
              refine wstat OSc 268 X224 B hZ44 hown44 (ow hw 97 rfl) (ow hw 98 rfl) (ow hw 100 rfl) (ow hw 99 rfl) e224 (rm12 l Z a0 hw [] (0 : Int32) (0 : Int32) (1 : Int32) (g0_4 p1 p2 p3 p4) T220.heap) 1 (by decide) (by decide) hml rfl (lenOf pd__ZZZI_I rfl) [(.int (g0_7 p1 p2 p3 p4))] rfl rfl at_265 rfl fun _ T225 L225 X225 hQ225 => ?_
              obtain ⟨rfl, rfl, e225⟩ := hQ225
              have N225 := Fr.app N224 (Fr.nil n0)
              refine own_stk (S' := [(.int (f12 (0 : Int32) (0 : Int32) (1 : Int32) (g0_4 p1 p2 p3 p4))), (.int (g0_7 p1 p2 p3 p4))]) rfl ?_
              refine wicmpNo OSc 271 X225 B at_268 (teq rfl).2 rfl ?_
              refine wiconst OSc 272 X225 B at_271 1 rfl rfl ?_
              refine wgoto OSc 276 X225 B at_272 rfl ?_
              refine own_endS X225 hlk hZ44 hEL e225 hs0 hS44 hk223 CH223 CR223 (v := some (.int (nar .boolean (1 : Int32)))) (fun h => by rw [hret] at h; cases h) (by decide) (by decide) ?_ (fun fs hr => retN X225 hx (t := .boolean) hret (by simp) (hb hby at_276) hr)
              exact ⟨congrArg (fun z => some (Value.int z)) (show f0 p1 p2 p3 p4 = (1 : Int32) from (by rw [f0, if_pos c138, if_pos c139, if_neg c140, if_neg c193, if_neg c204, if_pos c215])).symm, N225⟩
            · skip
              by_cases c226 : (g0_3 p1 p2 p3 p4) = (3 : Int32)
              · rw [c226]
                show OGS _ _ p e _ s below _ T189 (mkF m 156 #[.val (.int p1), .val (.int p2), .val (.int p3), .val (.int p4), .val (.ref o1), .val (.ref o22), .val (.int (0 : Int32)), .val (.int (0 : Int32)), .val (.int (1 : Int32)), .val (.int (g0_1 p1 p2 p3 p4)), .val (.int (g0_9 p1 p2 p3 p4)), .val (.int (3 : Int32)), .unset, .unset, .unset, .unset, .unset] [])
                refine wiload OSc 158 X189 B at_156 rfl rfl ?_
                refine wiconst OSc 159 X189 B at_158 3 rfl rfl ?_
                refine wicmpYes OSc 169 X189 B at_159 (by decide) rfl ?_
                refine wiload OSc 171 X189 B at_169 rfl rfl ?_
                refine wifNo OSc 174 X189 B at_171 (by decide) rfl ?_
                refine wiload OSc 176 X189 B at_174 rfl rfl ?_
                refine wifYes OSc 183 X189 B at_176 (by decide) rfl ?_
                refine wiconst OSc 184 X189 B at_183 0 rfl rfl ?_
                refine wistore OSc 186 X189 B at_184 #[.val (.int p1), .val (.int p2), .val (.int p3), .val (.int p4), .val (.ref o1), .val (.ref o22), .val (.int (0 : Int32)), .val (.int (0 : Int32)), .val (.int (1 : Int32)), .val (.int (g0_1 p1 p2 p3 p4)), .val (.int (g0_9 p1 p2 p3 p4)), .val (.int (3 : Int32)), .val (.int (0 : Int32)), .unset, .unset, .unset, .unset] rfl rfl ?_
                refine wiload OSc 188 X189 B at_186 rfl rfl ?_
                refine wifNo OSc 191 X189 B at_188 (by decide) rfl ?_
                refine wiload OSc 193 X189 B at_191 rfl rfl ?_
                refine wiconst OSc 194 X189 B at_193 1 rfl rfl ?_
                refine wicmpYes OSc 201 X189 B at_194 (by decide) rfl ?_
                refine wiconst OSc 202 X189 B at_201 0 rfl rfl ?_
                refine wistore OSc 204 X189 B at_202 #[.val (.int p1), .val (.int p2), .val (.int p3), .val (.int p4), .val (.ref o1), .val (.ref o22), .val (.int (0 : Int32)), .val (.int (0 : Int32)), .val (.int (1 : Int32)), .val (.int (g0_1 p1 p2 p3 p4)), .val (.int (g0_9 p1 p2 p3 p4)), .val (.int (3 : Int32)), .val (.int (0 : Int32)), .val (.int (0 : Int32)), .unset, .unset, .unset] rfl rfl ?_
                refine wiload OSc 206 X189 B at_204 rfl rfl ?_
                refine wifYes OSc 215 X189 B at_206 (by decide) rfl ?_
                refine wiconst OSc 216 X189 B at_215 1 rfl rfl ?_
                refine wgoto OSc 220 X189 B at_216 rfl ?_
                refine wistore OSc 222 X189 B at_220 #[.val (.int p1), .val (.int p2), .val (.int p3), .val (.int p4), .val (.ref o1), .val (.ref o22), .val (.int (0 : Int32)), .val (.int (0 : Int32)), .val (.int (1 : Int32)), .val (.int (g0_1 p1 p2 p3 p4)), .val (.int (g0_9 p1 p2 p3 p4)), .val (.int (3 : Int32)), .val (.int (0 : Int32)), .val (.int (0 : Int32)), .val (.int (1 : Int32)), .unset, .unset] rfl rfl ?_
                refine wiloadN OSc 223 X189 B at_222 rfl rfl ?_
                refine own_stS (fun t k => X189.ldcInt hx hown44 (mvT hZ44 (ow hw 86 rfl)) (g := (mkF m 223 #[.val (.int p1), .val (.int p2), .val (.int p3), .val (.int p4), .val (.ref o1), .val (.ref o22), .val (.int (0 : Int32)), .val (.int (0 : Int32)), .val (.int (1 : Int32)), .val (.int (g0_1 p1 p2 p3 p4)), .val (.int (g0_9 p1 p2 p3 p4)), .val (.int (3 : Int32)), .val (.int (0 : Int32)), .val (.int (0 : Int32)), .val (.int (1 : Int32)), .unset, .unset] [(.int p4)])) rfl (hb hby at_223) _ k) ?_
                show OGS _ _ p e _ s below _ T189 (mkF m 225 #[.val (.int p1), .val (.int p2), .val (.int p3), .val (.int p4), .val (.ref o1), .val (.ref o22), .val (.int (0 : Int32)), .val (.int (0 : Int32)), .val (.int (1 : Int32)), .val (.int (g0_1 p1 p2 p3 p4)), .val (.int (g0_9 p1 p2 p3 p4)), .val (.int (3 : Int32)), .val (.int (0 : Int32)), .val (.int (0 : Int32)), .val (.int (1 : Int32)), .unset, .unset] [(.int (2147483647 : Int32)), (.int p4)])
                refine wiand OSc 226 X189 B at_225 rfl ?_
                refine wiconst OSc 227 X189 B at_226 4 rfl rfl ?_
                refine own_stS (fun t k => iremM X189 hx rfl (hb hby at_227) rfl (by decide) k) ?_
                show OGS _ _ p e _ s below _ T189 (mkF m 228 #[.val (.int p1), .val (.int p2), .val (.int p3), .val (.int p4), .val (.ref o1), .val (.ref o22), .val (.int (0 : Int32)), .val (.int (0 : Int32)), .val (.int (1 : Int32)), .val (.int (g0_1 p1 p2 p3 p4)), .val (.int (g0_9 p1 p2 p3 p4)), .val (.int (3 : Int32)), .val (.int (0 : Int32)), .val (.int (0 : Int32)), .val (.int (1 : Int32)), .unset, .unset] [(.int ((p4 &&& (2147483647 : Int32)) % (4 : Int32)))])
                refine wistore OSc 230 X189 B at_228 #[.val (.int p1), .val (.int p2), .val (.int p3), .val (.int p4), .val (.ref o1), .val (.ref o22), .val (.int (0 : Int32)), .val (.int (0 : Int32)), .val (.int (1 : Int32)), .val (.int (g0_1 p1 p2 p3 p4)), .val (.int (g0_9 p1 p2 p3 p4)), .val (.int (3 : Int32)), .val (.int (0 : Int32)), .val (.int (0 : Int32)), .val (.int (1 : Int32)), .val (.int (g0_4 p1 p2 p3 p4)), .unset] rfl rfl ?_
                refine waload OSc 232 X189 B at_230 rfl rfl rfl ?_
                refine wiload OSc 234 X189 B at_232 rfl rfl ?_
                refine wvirt OSc 237 X189 B hZ44 hown44 (ow hw 87 rfl) (ow hw 88 rfl) (ow hw 90 rfl) (ow hw 89 rfl) F190 (ow hw 91 rfl) (ow hw 27 rfl) rfl (rm10 l Z a0 hw [] o22 (g0_4 p1 p2 p3 p4) b_126 (0 : Int32) (0 : Int32) (1 : Int32) y0_189 y1_189 y2_189 T189.heap n0 F191 P189_0 ge_b_126 ne_o22_b_126 (own_r4 p4) xh189_0) 0 (by decide) (by decide) hml rfl (lenOf pd__I_I rfl) [] rfl rfl at_234 rfl fun _ T227 L227 X227 hQ227 => ?_
                obtain ⟨rfl, N227q, K227q, y0_227, y1_227, y2_227, xh227_0, P227_0⟩ := hQ227
                have N227 := Fr.app N189 N227q
                have K227 := K189.trans K227q (own_all1 (Or.inr sy_b_126))
                have F228 := F190.keep K227q
                have F229 := F191.keep K227q (own_nin1 ne_o22_b_126)
                refine own_stk (S' := [(.int (f12 (0 : Int32) (0 : Int32) (1 : Int32) (g0_4 p1 p2 p3 p4)))]) rfl ?_
                have CR230 := CHr.trans CR192 (CHr.keep K227q (own_all1 (own_safeA hZ44.alike P189_0 (by decide))) CH192)
                have CH230 := CHv.keep K227q (own_all1 (own_safeA hZ44.alike P189_0 (by decide))) CH192
                have hk230 := Nat.le_trans hk192 K227q.1
                refine wistore OSc 239 X227 B at_237 #[.val (.int p1), .val (.int p2), .val (.int p3), .val (.int p4), .val (.ref o1), .val (.ref o22), .val (.int (0 : Int32)), .val (.int (0 : Int32)), .val (.int (1 : Int32)), .val (.int (g0_1 p1 p2 p3 p4)), .val (.int (g0_9 p1 p2 p3 p4)), .val (.int (3 : Int32)), .val (.int (0 : Int32)), .val (.int (0 : Int32)), .val (.int (1 : Int32)), .val (.int (g0_4 p1 p2 p3 p4)), .val (.int (g0_7 p1 p2 p3 p4))] rfl rfl ?_
                refine wiload OSc 241 X227 B at_239 rfl rfl ?_
                refine wiload OSc 243 X227 B at_241 rfl rfl ?_
                refine wiload OSc 245 X227 B at_243 rfl rfl ?_
                refine wiload OSc 247 X227 B at_245 rfl rfl ?_
                refine wiload OSc 249 X227 B at_247 rfl rfl ?_
                refine wstat OSc 252 X227 B hZ44 hown44 (ow hw 97 rfl) (ow hw 98 rfl) (ow hw 100 rfl) (ow hw 99 rfl) rfl (rm12 l Z a0 hw [] (0 : Int32) (0 : Int32) (1 : Int32) (g0_1 p1 p2 p3 p4) T227.heap) 1 (by decide) (by decide) hml rfl (lenOf pd__ZZZI_I rfl) [(.int (g0_9 p1 p2 p3 p4))] rfl rfl at_249 rfl fun _ T231 L231 X231 hQ231 => ?_
                obtain ⟨rfl, rfl, e231⟩ := hQ231
                have N231 := Fr.app N227 (Fr.nil n0)
                refine own_stk (S' := [(.int (f12 (0 : Int32) (0 : Int32) (1 : Int32) (g0_1 p1 p2 p3 p4))), (.int (g0_9 p1 p2 p3 p4))]) rfl ?_
                refine wicmpNo OSc 255 X231 B at_252 (teq rfl).2 rfl ?_
                refine wiload OSc 257 X231 B at_255 rfl rfl ?_
                refine wiload OSc 259 X231 B at_257 rfl rfl ?_
                refine wiload OSc 261 X231 B at_259 rfl rfl ?_
                refine wiload OSc 263 X231 B at_261 rfl rfl ?_
                refine wiload OSc 265 X231 B at_263 rfl rfl ?_
                refine wstat OSc 268 X231 B hZ44 hown44 (ow hw 97 rfl) (ow hw 98 rfl) (ow hw 100 rfl) (ow hw 99 rfl) e231 (rm12 l Z a0 hw [] (0 : Int32) (0 : Int32) (1 : Int32) (g0_4 p1 p2 p3 p4) T227.heap) 1 (by decide) (by decide) hml rfl (lenOf pd__ZZZI_I rfl) [(.int (g0_7 p1 p2 p3 p4))] rfl rfl at_265 rfl fun _ T232 L232 X232 hQ232 => ?_
                obtain ⟨rfl, rfl, e232⟩ := hQ232
                have N232 := Fr.app N231 (Fr.nil n0)
                refine own_stk (S' := [(.int (f12 (0 : Int32) (0 : Int32) (1 : Int32) (g0_4 p1 p2 p3 p4))), (.int (g0_7 p1 p2 p3 p4))]) rfl ?_
                refine wicmpNo OSc 271 X232 B at_268 (teq rfl).2 rfl ?_
                refine wiconst OSc 272 X232 B at_271 1 rfl rfl ?_
                refine wgoto OSc 276 X232 B at_272 rfl ?_
                refine own_endS X232 hlk hZ44 hEL e232 hs0 hS44 hk230 CH230 CR230 (v := some (.int (nar .boolean (1 : Int32)))) (fun h => by rw [hret] at h; cases h) (by decide) (by decide) ?_ (fun fs hr => retN X232 hx (t := .boolean) hret (by simp) (hb hby at_276) hr)
                exact ⟨congrArg (fun z => some (Value.int z)) (show f0 p1 p2 p3 p4 = (1 : Int32) from (by rw [f0, if_pos c138, if_pos c139, if_neg c140, if_neg c193, if_neg c204, if_neg c215, if_pos c226])).symm, N232⟩
              · skip
                exact (own_r4n p1 p2 p3 p4 c193 c204 c215 c226).elim
    · refine wifNo OSc 78 X126 B at_75 (own_if0 (feq c139).1) rfl ?_
      refine wiconst OSc 79 X126 B at_78 1 rfl rfl ?_
      refine wgoto OSc 83 X126 B at_79 rfl ?_
      refine wistore OSc 85 X126 B at_83 #[.val (.int p1), .val (.int p2), .val (.int p3), .val (.int p4), .val (.ref o1), .val (.ref o22), .val (.int (0 : Int32)), .val (.int (1 : Int32)), .unset, .unset, .unset, .unset, .unset, .unset, .unset, .unset, .unset] rfl rfl ?_
      refine wiloadN OSc 86 X126 B at_85 rfl rfl ?_
      refine wiconst OSc 87 X126 B at_86 4 rfl rfl ?_
      refine wiand OSc 88 X126 B at_87 rfl ?_
      by_cases c233 : (p1 &&& (4 : Int32)) = (0 : Int32)
      · refine wifYes OSc 95 X126 B at_88 (own_if0 (teq c233).1) rfl ?_
        refine wiconst OSc 96 X126 B at_95 0 rfl rfl ?_
        refine wistore OSc 98 X126 B at_96 #[.val (.int p1), .val (.int p2), .val (.int p3), .val (.int p4), .val (.ref o1), .val (.ref o22), .val (.int (0 : Int32)), .val (.int (1 : Int32)), .val (.int (0 : Int32)), .unset, .unset, .unset, .unset, .unset, .unset, .unset, .unset] rfl rfl ?_
        refine wiload OSc 100 X126 B at_98 rfl rfl ?_
        refine wifYes OSc 109 X126 B at_100 (by decide) rfl ?_
        refine wiload OSc 111 X126 B at_109 rfl rfl ?_
        refine wifNo OSc 114 X126 B at_111 (by decide) rfl ?_
        refine waload OSc 116 X126 B at_114 rfl rfl rfl ?_
        refine wiconst OSc 117 X126 B at_116 1 rfl rfl ?_
        refine wvirt OSc 120 X126 B hZ44 hown44 (ow hw 92 rfl) (ow hw 93 rfl) (ow hw 95 rfl) (ow hw 94 rfl) P126_0 (ow hw 96 rfl) (ow hw 27 rfl) rfl (rm11_1 l Z a0 hw [] o22 b_126 (0 : Int32) (1 : Int32) (2 : Int32) (3 : Int32) T126.heap n0 P126_1 P126_2 ge_b_126 ne_o22_b_126) 0 (by decide) (by decide) hml rfl (lenOf pd__I_V rfl) [] rfl rfl at_117 rfl fun _ T234 L234 X234 hQ234 => ?_
        obtain ⟨rfl, N234q, K234q, P234_0⟩ := hQ234
        have N234 := Fr.app N126 N234q
        have K234 := K126.trans K234q (own_all1 (Or.inr sy_b_126))
        have F235 := P126_0.keep K234q
        have F236 := P126_1.keep K234q (own_nin1 ne_o22_b_126)
        refine own_stk (S' := []) rfl ?_
        have CR237 := CHr.trans CR137 (CHr.keep K234q (own_all1 (own_safeA hZ44.alike P126_2 (by decide))) CH137)
        have CH237 := CHv.keep K234q (own_all1 (own_safeA hZ44.alike P126_2 (by decide))) CH137
        have hk237 := Nat.le_trans hk137 K234q.1
        refine wiload OSc 122 X234 B at_120 rfl rfl ?_
        refine wifYes OSc 131 X234 B at_122 (by decide) rfl ?_
        refine wiloadN OSc 132 X234 B at_131 rfl rfl ?_
        refine own_stS (fun t k => X234.ldcInt hx hown44 (mvT hZ44 (ow hw 86 rfl)) (g := (mkF m 132 #[.val (.int p1), .val (.int p2), .val (.int p3), .val (.int p4), .val (.ref o1), .val (.ref o22), .val (.int (0 : Int32)), .val (.int (1 : Int32)), .val (.int (0 : Int32)), .unset, .unset, .unset, .unset, .unset, .unset, .unset, .unset] [(.int p2)])) rfl (hb hby at_132) _ k) ?_
        show OGS _ _ p e _ s below _ T234 (mkF m 134 #[.val (.int p1), .val (.int p2), .val (.int p3), .val (.int p4), .val (.ref o1), .val (.ref o22), .val (.int (0 : Int32)), .val (.int (1 : Int32)), .val (.int (0 : Int32)), .unset, .unset, .unset, .unset, .unset, .unset, .unset, .unset] [(.int (2147483647 : Int32)), (.int p2)])
        refine wiand OSc 135 X234 B at_134 rfl ?_
        refine wiconst OSc 136 X234 B at_135 4 rfl rfl ?_
        refine own_stS (fun t k => iremM X234 hx rfl (hb hby at_136) rfl (by decide) k) ?_
        show OGS _ _ p e _ s below _ T234 (mkF m 137 #[.val (.int p1), .val (.int p2), .val (.int p3), .val (.int p4), .val (.ref o1), .val (.ref o22), .val (.int (0 : Int32)), .val (.int (1 : Int32)), .val (.int (0 : Int32)), .unset, .unset, .unset, .unset, .unset, .unset, .unset, .unset] [(.int ((p2 &&& (2147483647 : Int32)) % (4 : Int32)))])
        refine wistore OSc 139 X234 B at_137 #[.val (.int p1), .val (.int p2), .val (.int p3), .val (.int p4), .val (.ref o1), .val (.ref o22), .val (.int (0 : Int32)), .val (.int (1 : Int32)), .val (.int (0 : Int32)), .val (.int (g0_1 p1 p2 p3 p4)), .unset, .unset, .unset, .unset, .unset, .unset, .unset] rfl rfl ?_
        refine waload OSc 141 X234 B at_139 rfl rfl rfl ?_
        refine wiload OSc 143 X234 B at_141 rfl rfl ?_
        refine wvirt OSc 146 X234 B hZ44 hown44 (ow hw 87 rfl) (ow hw 88 rfl) (ow hw 90 rfl) (ow hw 89 rfl) F235 (ow hw 91 rfl) (ow hw 27 rfl) rfl (rm10 l Z a0 hw [] o22 (g0_1 p1 p2 p3 p4) b_126 (0 : Int32) (1 : Int32) (0 : Int32) (0 : Int32) (2 : Int32) (2 : Int32) T234.heap n0 F236 P234_0 ge_b_126 ne_o22_b_126 (own_r4 p2) (Or.inr (Or.inr (Or.inl ⟨rfl, rfl, rfl, rfl, rfl, rfl⟩)))) 0 (by decide) (by decide) hml rfl (lenOf pd__I_I rfl) [] rfl rfl at_143 rfl fun _ T238 L238 X238 hQ238 => ?_
        obtain ⟨rfl, N238q, K238q, y0_238, y1_238, y2_238, xh238_0, P238_0⟩ := hQ238
        have N238 := Fr.app N234 N238q
        have K238 := K234.trans K238q (own_all1 (Or.inr sy_b_126))
        have F239 := F235.keep K238q
        have F240 := F236.keep K238q (own_nin1 ne_o22_b_126)
        refine own_stk (S' := [(.int (f12 (0 : Int32) (1 : Int32) (0 : Int32) (g0_1 p1 p2 p3 p4)))]) rfl ?_
        have CR241 := CHr.trans CR237 (CHr.keep K238q (own_all1 (own_safeA hZ44.alike P234_0 (by decide))) CH237)
        have CH241 := CHv.keep K238q (own_all1 (own_safeA hZ44.alike P234_0 (by decide))) CH237
        have hk241 := Nat.le_trans hk237 K238q.1
        refine wistore OSc 148 X238 B at_146 #[.val (.int p1), .val (.int p2), .val (.int p3), .val (.int p4), .val (.ref o1), .val (.ref o22), .val (.int (0 : Int32)), .val (.int (1 : Int32)), .val (.int (0 : Int32)), .val (.int (g0_1 p1 p2 p3 p4)), .val (.int (g0_12 p1 p2 p3 p4)), .unset, .unset, .unset, .unset, .unset, .unset] rfl rfl ?_
        refine wiloadN OSc 149 X238 B at_148 rfl rfl ?_
        refine own_stS (fun t k => X238.ldcInt hx hown44 (mvT hZ44 (ow hw 86 rfl)) (g := (mkF m 149 #[.val (.int p1), .val (.int p2), .val (.int p3), .val (.int p4), .val (.ref o1), .val (.ref o22), .val (.int (0 : Int32)), .val (.int (1 : Int32)), .val (.int (0 : Int32)), .val (.int (g0_1 p1 p2 p3 p4)), .val (.int (g0_12 p1 p2 p3 p4)), .unset, .unset, .unset, .unset, .unset, .unset] [(.int p3)])) rfl (hb hby at_149) _ k) ?_
        show OGS _ _ p e _ s below _ T238 (mkF m 151 #[.val (.int p1), .val (.int p2), .val (.int p3), .val (.int p4), .val (.ref o1), .val (.ref o22), .val (.int (0 : Int32)), .val (.int (1 : Int32)), .val (.int (0 : Int32)), .val (.int (g0_1 p1 p2 p3 p4)), .val (.int (g0_12 p1 p2 p3 p4)), .unset, .unset, .unset, .unset, .unset, .unset] [(.int (2147483647 : Int32)), (.int p3)])
        refine wiand OSc 152 X238 B at_151 rfl ?_
        refine wiconst OSc 153 X238 B at_152 4 rfl rfl ?_
        refine own_stS (fun t k => iremM X238 hx rfl (hb hby at_153) rfl (by decide) k) ?_
        show OGS _ _ p e _ s below _ T238 (mkF m 154 #[.val (.int p1), .val (.int p2), .val (.int p3), .val (.int p4), .val (.ref o1), .val (.ref o22), .val (.int (0 : Int32)), .val (.int (1 : Int32)), .val (.int (0 : Int32)), .val (.int (g0_1 p1 p2 p3 p4)), .val (.int (g0_12 p1 p2 p3 p4)), .unset, .unset, .unset, .unset, .unset, .unset] [(.int ((p3 &&& (2147483647 : Int32)) % (4 : Int32)))])
        refine wistore OSc 156 X238 B at_154 #[.val (.int p1), .val (.int p2), .val (.int p3), .val (.int p4), .val (.ref o1), .val (.ref o22), .val (.int (0 : Int32)), .val (.int (1 : Int32)), .val (.int (0 : Int32)), .val (.int (g0_1 p1 p2 p3 p4)), .val (.int (g0_12 p1 p2 p3 p4)), .val (.int (g0_3 p1 p2 p3 p4)), .unset, .unset, .unset, .unset, .unset] rfl rfl ?_
        by_cases c242 : (g0_3 p1 p2 p3 p4) = (0 : Int32)
        · rw [c242]
          show OGS _ _ p e _ s below _ T238 (mkF m 156 #[.val (.int p1), .val (.int p2), .val (.int p3), .val (.int p4), .val (.ref o1), .val (.ref o22), .val (.int (0 : Int32)), .val (.int (1 : Int32)), .val (.int (0 : Int32)), .val (.int (g0_1 p1 p2 p3 p4)), .val (.int (g0_12 p1 p2 p3 p4)), .val (.int (0 : Int32)), .unset, .unset, .unset, .unset, .unset] [])
          refine wiload OSc 158 X238 B at_156 rfl rfl ?_
          refine wiconst OSc 159 X238 B at_158 3 rfl rfl ?_
          refine wicmpNo OSc 162 X238 B at_159 (by decide) rfl ?_
          refine waload OSc 164 X238 B at_162 rfl rfl rfl ?_
          refine wiload OSc 166 X238 B at_164 rfl rfl ?_
          refine wvirt OSc 169 X238 B hZ44 hown44 (ow hw 92 rfl) (ow hw 93 rfl) (ow hw 95 rfl) (ow hw 94 rfl) F239 (ow hw 96 rfl) (ow hw 27 rfl) rfl (rm11_0 l Z a0 hw [] o22 b_126 y0_238 y1_238 y2_238 (3 : Int32) T238.heap n0 F240 P238_0 ge_b_126 ne_o22_b_126) 0 (by decide) (by decide) hml rfl (lenOf pd__I_V rfl) [] rfl rfl at_166 rfl fun _ T243 L243 X243 hQ243 => ?_
          obtain ⟨rfl, N243q, K243q, P243_0⟩ := hQ243
          have N243 := Fr.app N238 N243q
          have K243 := K238.trans K243q (own_all1 (Or.inr sy_b_126))
          have F244 := F239.keep K243q
          have F245 := F240.keep K243q (own_nin1 ne_o22_b_126)
          refine own_stk (S' := []) rfl ?_
          have CR246 := CHr.trans CR241 (CHr.keep K243q (own_all1 (own_safeA hZ44.alike P238_0 (by decide))) CH241)
          have CH246 := CHv.keep K243q (own_all1 (own_safeA hZ44.alike P238_0 (by decide))) CH241
          have hk246 := Nat.le_trans hk241 K243q.1
          refine wiload OSc 171 X243 B at_169 rfl rfl ?_
          refine wifNo OSc 174 X243 B at_171 (by decide) rfl ?_
          refine wiload OSc 176 X243 B at_174 rfl rfl ?_
          refine wifNo OSc 179 X243 B at_176 (by decide) rfl ?_
          refine wiconst OSc 180 X243 B at_179 1 rfl rfl ?_
          refine wgoto OSc 184 X243 B at_180 rfl ?_
          refine wistore OSc 186 X243 B at_184 #[.val (.int p1), .val (.int p2), .val (.int p3), .val (.int p4), .val (.ref o1), .val (.ref o22), .val (.int (0 : Int32)), .val (.int (1 : Int32)), .val (.int (0 : Int32)), .val (.int (g0_1 p1 p2 p3 p4)), .val (.int (g0_12 p1 p2 p3 p4)), .val (.int (0 : Int32)), .val (.int (1 : Int32)), .unset, .unset, .unset, .unset] rfl rfl ?_
          refine wiload OSc 188 X243 B at_186 rfl rfl ?_
          refine wifYes OSc 197 X243 B at_188 (by decide) rfl ?_
          refine wiconst OSc 198 X243 B at_197 1 rfl rfl ?_
          refine wgoto OSc 202 X243 B at_198 rfl ?_
          refine wistore OSc 204 X243 B at_202 #[.val (.int p1), .val (.int p2), .val (.int p3), .val (.int p4), .val (.ref o1), .val (.ref o22), .val (.int (0 : Int32)), .val (.int (1 : Int32)), .val (.int (0 : Int32)), .val (.int (g0_1 p1 p2 p3 p4)), .val (.int (g0_12 p1 p2 p3 p4)), .val (.int (0 : Int32)), .val (.int (1 : Int32)), .val (.int (1 : Int32)), .unset, .unset, .unset] rfl rfl ?_
          refine wiload OSc 206 X243 B at_204 rfl rfl ?_
          refine wifNo OSc 209 X243 B at_206 (by decide) rfl ?_
          refine wiload OSc 211 X243 B at_209 rfl rfl ?_
          refine wiconst OSc 212 X243 B at_211 2 rfl rfl ?_
          refine wicmpYes OSc 219 X243 B at_212 (by decide) rfl ?_
          refine wiconst OSc 220 X243 B at_219 0 rfl rfl ?_
          refine wistore OSc 222 X243 B at_220 #[.val (.int p1), .val (.int p2), .val (.int p3), .val (.int p4), .val (.ref o1), .val (.ref o22), .val (.int (0 : Int32)), .val (.int (1 : Int32)), .val (.int (0 : Int32)), .val (.int (g0_1 p1 p2 p3 p4)), .val (.int (g0_12 p1 p2 p3 p4)), .val (.int (0 : Int32)), .val (.int (1 : Int32)), .val (.int (1 : Int32)), .val (.int (0 : Int32)), .unset, .unset] rfl rfl ?_
          refine wiloadN OSc 223 X243 B at_222 rfl rfl ?_
          refine own_stS (fun t k => X243.ldcInt hx hown44 (mvT hZ44 (ow hw 86 rfl)) (g := (mkF m 223 #[.val (.int p1), .val (.int p2), .val (.int p3), .val (.int p4), .val (.ref o1), .val (.ref o22), .val (.int (0 : Int32)), .val (.int (1 : Int32)), .val (.int (0 : Int32)), .val (.int (g0_1 p1 p2 p3 p4)), .val (.int (g0_12 p1 p2 p3 p4)), .val (.int (0 : Int32)), .val (.int (1 : Int32)), .val (.int (1 : Int32)), .val (.int (0 : Int32)), .unset, .unset] [(.int p4)])) rfl (hb hby at_223) _ k) ?_
          show OGS _ _ p e _ s below _ T243 (mkF m 225 #[.val (.int p1), .val (.int p2), .val (.int p3), .val (.int p4), .val (.ref o1), .val (.ref o22), .val (.int (0 : Int32)), .val (.int (1 : Int32)), .val (.int (0 : Int32)), .val (.int (g0_1 p1 p2 p3 p4)), .val (.int (g0_12 p1 p2 p3 p4)), .val (.int (0 : Int32)), .val (.int (1 : Int32)), .val (.int (1 : Int32)), .val (.int (0 : Int32)), .unset, .unset] [(.int (2147483647 : Int32)), (.int p4)])
          refine wiand OSc 226 X243 B at_225 rfl ?_
          refine wiconst OSc 227 X243 B at_226 4 rfl rfl ?_
          refine own_stS (fun t k => iremM X243 hx rfl (hb hby at_227) rfl (by decide) k) ?_
          show OGS _ _ p e _ s below _ T243 (mkF m 228 #[.val (.int p1), .val (.int p2), .val (.int p3), .val (.int p4), .val (.ref o1), .val (.ref o22), .val (.int (0 : Int32)), .val (.int (1 : Int32)), .val (.int (0 : Int32)), .val (.int (g0_1 p1 p2 p3 p4)), .val (.int (g0_12 p1 p2 p3 p4)), .val (.int (0 : Int32)), .val (.int (1 : Int32)), .val (.int (1 : Int32)), .val (.int (0 : Int32)), .unset, .unset] [(.int ((p4 &&& (2147483647 : Int32)) % (4 : Int32)))])
          refine wistore OSc 230 X243 B at_228 #[.val (.int p1), .val (.int p2), .val (.int p3), .val (.int p4), .val (.ref o1), .val (.ref o22), .val (.int (0 : Int32)), .val (.int (1 : Int32)), .val (.int (0 : Int32)), .val (.int (g0_1 p1 p2 p3 p4)), .val (.int (g0_12 p1 p2 p3 p4)), .val (.int (0 : Int32)), .val (.int (1 : Int32)), .val (.int (1 : Int32)), .val (.int (0 : Int32)), .val (.int (g0_4 p1 p2 p3 p4)), .unset] rfl rfl ?_
          refine waload OSc 232 X243 B at_230 rfl rfl rfl ?_
          refine wiload OSc 234 X243 B at_232 rfl rfl ?_
          refine wvirt OSc 237 X243 B hZ44 hown44 (ow hw 87 rfl) (ow hw 88 rfl) (ow hw 90 rfl) (ow hw 89 rfl) F244 (ow hw 91 rfl) (ow hw 27 rfl) rfl (rm10 l Z a0 hw [] o22 (g0_4 p1 p2 p3 p4) b_126 (1 : Int32) (1 : Int32) (0 : Int32) (1 : Int32) y1_238 y2_238 T243.heap n0 F245 P243_0 ge_b_126 ne_o22_b_126 (own_r4 p4) (own_gs0 xh238_0)) 0 (by decide) (by decide) hml rfl (lenOf pd__I_I rfl) [] rfl rfl at_234 rfl fun _ T247 L247 X247 hQ247 => ?_
          obtain ⟨rfl, N247q, K247q, y0_247, y1_247, y2_247, xh247_0, P247_0⟩ := hQ247
          have N247 := Fr.app N243 N247q
          have K247 := K243.trans K247q (own_all1 (Or.inr sy_b_126))
          have F248 := F244.keep K247q
          have F249 := F245.keep K247q (own_nin1 ne_o22_b_126)
          refine own_stk (S' := [(.int (f12 (1 : Int32) (1 : Int32) (0 : Int32) (g0_4 p1 p2 p3 p4)))]) rfl ?_
          have CR250 := CHr.trans CR246 (CHr.keep K247q (own_all1 (own_safeA hZ44.alike P243_0 (by decide))) CH246)
          have CH250 := CHv.keep K247q (own_all1 (own_safeA hZ44.alike P243_0 (by decide))) CH246
          have hk250 := Nat.le_trans hk246 K247q.1
          refine wistore OSc 239 X247 B at_237 #[.val (.int p1), .val (.int p2), .val (.int p3), .val (.int p4), .val (.ref o1), .val (.ref o22), .val (.int (0 : Int32)), .val (.int (1 : Int32)), .val (.int (0 : Int32)), .val (.int (g0_1 p1 p2 p3 p4)), .val (.int (g0_12 p1 p2 p3 p4)), .val (.int (0 : Int32)), .val (.int (1 : Int32)), .val (.int (1 : Int32)), .val (.int (0 : Int32)), .val (.int (g0_4 p1 p2 p3 p4)), .val (.int (g0_13 p1 p2 p3 p4))] rfl rfl ?_
          refine wiload OSc 241 X247 B at_239 rfl rfl ?_
          refine wiload OSc 243 X247 B at_241 rfl rfl ?_
          refine wiload OSc 245 X247 B at_243 rfl rfl ?_
          refine wiload OSc 247 X247 B at_245 rfl rfl ?_
          refine wiload OSc 249 X247 B at_247 rfl rfl ?_
          refine wstat OSc 252 X247 B hZ44 hown44 (ow hw 97 rfl) (ow hw 98 rfl) (ow hw 100 rfl) (ow hw 99 rfl) rfl (rm12 l Z a0 hw [] (0 : Int32) (1 : Int32) (0 : Int32) (g0_1 p1 p2 p3 p4) T247.heap) 1 (by decide) (by decide) hml rfl (lenOf pd__ZZZI_I rfl) [(.int (g0_12 p1 p2 p3 p4))] rfl rfl at_249 rfl fun _ T251 L251 X251 hQ251 => ?_
          obtain ⟨rfl, rfl, e251⟩ := hQ251
          have N251 := Fr.app N247 (Fr.nil n0)
          refine own_stk (S' := [(.int (f12 (0 : Int32) (1 : Int32) (0 : Int32) (g0_1 p1 p2 p3 p4))), (.int (g0_12 p1 p2 p3 p4))]) rfl ?_
          refine wicmpNo OSc 255 X251 B at_252 (teq rfl).2 rfl ?_
          refine wiload OSc 257 X251 B at_255 rfl rfl ?_
          refine wiload OSc 259 X251 B at_257 rfl rfl ?_
          refine wiload OSc 261 X251 B at_259 rfl rfl ?_
          refine wiload OSc 263 X251 B at_261 rfl rfl ?_
          refine wiload OSc 265 X251 B at_263 rfl rfl ?_
          refine wstat OSc 268 X251 B hZ44 hown44 (ow hw 97 rfl) (ow hw 98 rfl) (ow hw 100 rfl) (ow hw 99 rfl) e251 (rm12 l Z a0 hw [] (1 : Int32) (1 : Int32) (0 : Int32) (g0_4 p1 p2 p3 p4) T247.heap) 1 (by decide) (by decide) hml rfl (lenOf pd__ZZZI_I rfl) [(.int (g0_13 p1 p2 p3 p4))] rfl rfl at_265 rfl fun _ T252 L252 X252 hQ252 => ?_
          obtain ⟨rfl, rfl, e252⟩ := hQ252
          have N252 := Fr.app N251 (Fr.nil n0)
          refine own_stk (S' := [(.int (f12 (1 : Int32) (1 : Int32) (0 : Int32) (g0_4 p1 p2 p3 p4))), (.int (g0_13 p1 p2 p3 p4))]) rfl ?_
          refine wicmpNo OSc 271 X252 B at_268 (teq rfl).2 rfl ?_
          refine wiconst OSc 272 X252 B at_271 1 rfl rfl ?_
          refine wgoto OSc 276 X252 B at_272 rfl ?_
          refine own_endS X252 hlk hZ44 hEL e252 hs0 hS44 hk250 CH250 CR250 (v := some (.int (nar .boolean (1 : Int32)))) (fun h => by rw [hret] at h; cases h) (by decide) (by decide) ?_ (fun fs hr => retN X252 hx (t := .boolean) hret (by simp) (hb hby at_276) hr)
          exact ⟨congrArg (fun z => some (Value.int z)) (show f0 p1 p2 p3 p4 = (1 : Int32) from (by rw [f0, if_pos c138, if_neg c139, if_pos c233, if_pos c242])).symm, N252⟩
        · skip
          by_cases c253 : (g0_3 p1 p2 p3 p4) = (1 : Int32)
          · rw [c253]
            show OGS _ _ p e _ s below _ T238 (mkF m 156 #[.val (.int p1), .val (.int p2), .val (.int p3), .val (.int p4), .val (.ref o1), .val (.ref o22), .val (.int (0 : Int32)), .val (.int (1 : Int32)), .val (.int (0 : Int32)), .val (.int (g0_1 p1 p2 p3 p4)), .val (.int (g0_12 p1 p2 p3 p4)), .val (.int (1 : Int32)), .unset, .unset, .unset, .unset, .unset] [])
            refine wiload OSc 158 X238 B at_156 rfl rfl ?_
            refine wiconst OSc 159 X238 B at_158 3 rfl rfl ?_
            refine wicmpNo OSc 162 X238 B at_159 (by decide) rfl ?_
            refine waload OSc 164 X238 B at_162 rfl rfl rfl ?_
            refine wiload OSc 166 X238 B at_164 rfl rfl ?_
            refine wvirt OSc 169 X238 B hZ44 hown44 (ow hw 92 rfl) (ow hw 93 rfl) (ow hw 95 rfl) (ow hw 94 rfl) F239 (ow hw 96 rfl) (ow hw 27 rfl) rfl (rm11_1 l Z a0 hw [] o22 b_126 y0_238 y1_238 y2_238 (3 : Int32) T238.heap n0 F240 P238_0 ge_b_126 ne_o22_b_126) 0 (by decide) (by decide) hml rfl (lenOf pd__I_V rfl) [] rfl rfl at_166 rfl fun _ T254 L254 X254 hQ254 => ?_
            obtain ⟨rfl, N254q, K254q, P254_0⟩ := hQ254
            have N254 := Fr.app N238 N254q
            have K254 := K238.trans K254q (own_all1 (Or.inr sy_b_126))
            have F255 := F239.keep K254q
            have F256 := F240.keep K254q (own_nin1 ne_o22_b_126)
            refine own_stk (S' := []) rfl ?_
            have CR257 := CHr.trans CR241 (CHr.keep K254q (own_all1 (own_safeA hZ44.alike P238_0 (by decide))) CH241)
            have CH257 := CHv.keep K254q (own_all1 (own_safeA hZ44.alike P238_0 (by decide))) CH241
            have hk257 := Nat.le_trans hk241 K254q.1
            refine wiload OSc 171 X254 B at_169 rfl rfl ?_
            refine wifNo OSc 174 X254 B at_171 (by decide) rfl ?_
            refine wiload OSc 176 X254 B at_174 rfl rfl ?_
            refine wifYes OSc 183 X254 B at_176 (by decide) rfl ?_
            refine wiconst OSc 184 X254 B at_183 0 rfl rfl ?_
            refine wistore OSc 186 X254 B at_184 #[.val (.int p1), .val (.int p2), .val (.int p3), .val (.int p4), .val (.ref o1), .val (.ref o22), .val (.int (0 : Int32)), .val (.int (1 : Int32)), .val (.int (0 : Int32)), .val (.int (g0_1 p1 p2 p3 p4)), .val (.int (g0_12 p1 p2 p3 p4)), .val (.int (1 : Int32)), .val (.int (0 : Int32)), .unset, .unset, .unset, .unset] rfl rfl ?_
            refine wiload OSc 188 X254 B at_186 rfl rfl ?_
            refine wifYes OSc 197 X254 B at_188 (by decide) rfl ?_
            refine wiconst OSc 198 X254 B at_197 1 rfl rfl ?_
            refine wgoto OSc 202 X254 B at_198 rfl ?_
            refine wistore OSc 204 X254 B at_202 #[.val (.int p1), .val (.int p2), .val (.int p3), .val (.int p4), .val (.ref o1), .val (.ref o22), .val (.int (0 : Int32)), .val (.int (1 : Int32)), .val (.int (0 : Int32)), .val (.int (g0_1 p1 p2 p3 p4)), .val (.int (g0_12 p1 p2 p3 p4)), .val (.int (1 : Int32)), .val (.int (0 : Int32)), .val (.int (1 : Int32)), .unset, .unset, .unset] rfl rfl ?_
            refine wiload OSc 206 X254 B at_204 rfl rfl ?_
            refine wifNo OSc 209 X254 B at_206 (by decide) rfl ?_
            refine wiload OSc 211 X254 B at_209 rfl rfl ?_
            refine wiconst OSc 212 X254 B at_211 2 rfl rfl ?_
            refine wicmpYes OSc 219 X254 B at_212 (by decide) rfl ?_
            refine wiconst OSc 220 X254 B at_219 0 rfl rfl ?_
            refine wistore OSc 222 X254 B at_220 #[.val (.int p1), .val (.int p2), .val (.int p3), .val (.int p4), .val (.ref o1), .val (.ref o22), .val (.int (0 : Int32)), .val (.int (1 : Int32)), .val (.int (0 : Int32)), .val (.int (g0_1 p1 p2 p3 p4)), .val (.int (g0_12 p1 p2 p3 p4)), .val (.int (1 : Int32)), .val (.int (0 : Int32)), .val (.int (1 : Int32)), .val (.int (0 : Int32)), .unset, .unset] rfl rfl ?_
            refine wiloadN OSc 223 X254 B at_222 rfl rfl ?_
            refine own_stS (fun t k => X254.ldcInt hx hown44 (mvT hZ44 (ow hw 86 rfl)) (g := (mkF m 223 #[.val (.int p1), .val (.int p2), .val (.int p3), .val (.int p4), .val (.ref o1), .val (.ref o22), .val (.int (0 : Int32)), .val (.int (1 : Int32)), .val (.int (0 : Int32)), .val (.int (g0_1 p1 p2 p3 p4)), .val (.int (g0_12 p1 p2 p3 p4)), .val (.int (1 : Int32)), .val (.int (0 : Int32)), .val (.int (1 : Int32)), .val (.int (0 : Int32)), .unset, .unset] [(.int p4)])) rfl (hb hby at_223) _ k) ?_
            show OGS _ _ p e _ s below _ T254 (mkF m 225 #[.val (.int p1), .val (.int p2), .val (.int p3), .val (.int p4), .val (.ref o1), .val (.ref o22), .val (.int (0 : Int32)), .val (.int (1 : Int32)), .val (.int (0 : Int32)), .val (.int (g0_1 p1 p2 p3 p4)), .val (.int (g0_12 p1 p2 p3 p4)), .val (.int (1 : Int32)), .val (.int (0 : Int32)), .val (.int (1 : Int32)), .val (.int (0 : Int32)), .unset, .unset] [(.int (2147483647 : Int32)), (.int p4)])
            refine wiand OSc 226 X254 B at_225 rfl ?_
            refine wiconst OSc 227 X254 B at_226 4 rfl rfl ?_
            refine own_stS (fun t k => iremM X254 hx rfl (hb hby at_227) rfl (by decide) k) ?_
            show OGS _ _ p e _ s below _ T254 (mkF m 228 #[.val (.int p1), .val (.int p2), .val (.int p3), .val (.int p4), .val (.ref o1), .val (.ref o22), .val (.int (0 : Int32)), .val (.int (1 : Int32)), .val (.int (0 : Int32)), .val (.int (g0_1 p1 p2 p3 p4)), .val (.int (g0_12 p1 p2 p3 p4)), .val (.int (1 : Int32)), .val (.int (0 : Int32)), .val (.int (1 : Int32)), .val (.int (0 : Int32)), .unset, .unset] [(.int ((p4 &&& (2147483647 : Int32)) % (4 : Int32)))])
            refine wistore OSc 230 X254 B at_228 #[.val (.int p1), .val (.int p2), .val (.int p3), .val (.int p4), .val (.ref o1), .val (.ref o22), .val (.int (0 : Int32)), .val (.int (1 : Int32)), .val (.int (0 : Int32)), .val (.int (g0_1 p1 p2 p3 p4)), .val (.int (g0_12 p1 p2 p3 p4)), .val (.int (1 : Int32)), .val (.int (0 : Int32)), .val (.int (1 : Int32)), .val (.int (0 : Int32)), .val (.int (g0_4 p1 p2 p3 p4)), .unset] rfl rfl ?_
            refine waload OSc 232 X254 B at_230 rfl rfl rfl ?_
            refine wiload OSc 234 X254 B at_232 rfl rfl ?_
            refine wvirt OSc 237 X254 B hZ44 hown44 (ow hw 87 rfl) (ow hw 88 rfl) (ow hw 90 rfl) (ow hw 89 rfl) F255 (ow hw 91 rfl) (ow hw 27 rfl) rfl (rm10 l Z a0 hw [] o22 (g0_4 p1 p2 p3 p4) b_126 (0 : Int32) (1 : Int32) (0 : Int32) y0_238 (2 : Int32) y2_238 T254.heap n0 F256 P254_0 ge_b_126 ne_o22_b_126 (own_r4 p4) (own_gs1 xh238_0)) 0 (by decide) (by decide) hml rfl (lenOf pd__I_I rfl) [] rfl rfl at_234 rfl fun _ T258 L258 X258 hQ258 => ?_
            obtain ⟨rfl, N258q, K258q, y0_258, y1_258, y2_258, xh258_0, P258_0⟩ := hQ258
            have N258 := Fr.app N254 N258q
            have K258 := K254.trans K258q (own_all1 (Or.inr sy_b_126))
            have F259 := F255.keep K258q
            have F260 := F256.keep K258q (own_nin1 ne_o22_b_126)
            refine own_stk (S' := [(.int (f12 (0 : Int32) (1 : Int32) (0 : Int32) (g0_4 p1 p2 p3 p4)))]) rfl ?_
            have CR261 := CHr.trans CR257 (CHr.keep K258q (own_all1 (own_safeA hZ44.alike P254_0 (by decide))) CH257)
            have CH261 := CHv.keep K258q (own_all1 (own_safeA hZ44.alike P254_0 (by decide))) CH257
            have hk261 := Nat.le_trans hk257 K258q.1
            refine wistore OSc 239 X258 B at_237 #[.val (.int p1), .val (.int p2), .val (.int p3), .val (.int p4), .val (.ref o1), .val (.ref o22), .val (.int (0 : Int32)), .val (.int (1 : Int32)), .val (.int (0 : Int32)), .val (.int (g0_1 p1 p2 p3 p4)), .val (.int (g0_12 p1 p2 p3 p4)), .val (.int (1 : Int32)), .val (.int (0 : Int32)), .val (.int (1 : Int32)), .val (.int (0 : Int32)), .val (.int (g0_4 p1 p2 p3 p4)), .val (.int (g0_6 p1 p2 p3 p4))] rfl rfl ?_
            refine wiload OSc 241 X258 B at_239 rfl rfl ?_
            refine wiload OSc 243 X258 B at_241 rfl rfl ?_
            refine wiload OSc 245 X258 B at_243 rfl rfl ?_
            refine wiload OSc 247 X258 B at_245 rfl rfl ?_
            refine wiload OSc 249 X258 B at_247 rfl rfl ?_
            refine wstat OSc 252 X258 B hZ44 hown44 (ow hw 97 rfl) (ow hw 98 rfl) (ow hw 100 rfl) (ow hw 99 rfl) rfl (rm12 l Z a0 hw [] (0 : Int32) (1 : Int32) (0 : Int32) (g0_1 p1 p2 p3 p4) T258.heap) 1 (by decide) (by decide) hml rfl (lenOf pd__ZZZI_I rfl) [(.int (g0_12 p1 p2 p3 p4))] rfl rfl at_249 rfl fun _ T262 L262 X262 hQ262 => ?_
            obtain ⟨rfl, rfl, e262⟩ := hQ262
            have N262 := Fr.app N258 (Fr.nil n0)
            refine own_stk (S' := [(.int (f12 (0 : Int32) (1 : Int32) (0 : Int32) (g0_1 p1 p2 p3 p4))), (.int (g0_12 p1 p2 p3 p4))]) rfl ?_
            refine wicmpNo OSc 255 X262 B at_252 (teq rfl).2 rfl ?_
            refine wiload OSc 257 X262 B at_255 rfl rfl ?_
            refine wiload OSc 259 X262 B at_257 rfl rfl ?_
            refine wiload OSc 261 X262 B at_259 rfl rfl ?_
            refine wiload OSc 263 X262 B at_261 rfl rfl ?_
            refine wiload OSc 265 X262 B at_263 rfl rfl ?_
            refine wstat OSc 268 X262 B hZ44 hown44 (ow hw 97 rfl) (ow hw 98 rfl) (ow hw 100 rfl) (ow hw 99 rfl) e262 (rm12 l Z a0 hw [] (0 : Int32) (1 : Int32) (0 : Int32) (g0_4 p1 p2 p3 p4) T258.heap) 1 (by decide) (by decide) hml rfl (lenOf pd__ZZZI_I rfl) [(.int (g0_6 p1 p2 p3 p4))] rfl rfl at_265 rfl fun _ T263 L263 X263 hQ263 => ?_
            obtain ⟨rfl, rfl, e263⟩ := hQ263
            have N263 := Fr.app N262 (Fr.nil n0)
            refine own_stk (S' := [(.int (f12 (0 : Int32) (1 : Int32) (0 : Int32) (g0_4 p1 p2 p3 p4))), (.int (g0_6 p1 p2 p3 p4))]) rfl ?_
            refine wicmpNo OSc 271 X263 B at_268 (teq rfl).2 rfl ?_
            refine wiconst OSc 272 X263 B at_271 1 rfl rfl ?_
            refine wgoto OSc 276 X263 B at_272 rfl ?_
            refine own_endS X263 hlk hZ44 hEL e263 hs0 hS44 hk261 CH261 CR261 (v := some (.int (nar .boolean (1 : Int32)))) (fun h => by rw [hret] at h; cases h) (by decide) (by decide) ?_ (fun fs hr => retN X263 hx (t := .boolean) hret (by simp) (hb hby at_276) hr)
            exact ⟨congrArg (fun z => some (Value.int z)) (show f0 p1 p2 p3 p4 = (1 : Int32) from (by rw [f0, if_pos c138, if_neg c139, if_pos c233, if_neg c242, if_pos c253])).symm, N263⟩
          · skip
            by_cases c264 : (g0_3 p1 p2 p3 p4) = (2 : Int32)
            · rw [c264]
              show OGS _ _ p e _ s below _ T238 (mkF m 156 #[.val (.int p1), .val (.int p2), .val (.int p3), .val (.int p4), .val (.ref o1), .val (.ref o22), .val (.int (0 : Int32)), .val (.int (1 : Int32)), .val (.int (0 : Int32)), .val (.int (g0_1 p1 p2 p3 p4)), .val (.int (g0_12 p1 p2 p3 p4)), .val (.int (2 : Int32)), .unset, .unset, .unset, .unset, .unset] [])
              refine wiload OSc 158 X238 B at_156 rfl rfl ?_
              refine wiconst OSc 159 X238 B at_158 3 rfl rfl ?_
              refine wicmpNo OSc 162 X238 B at_159 (by decide) rfl ?_
              refine waload OSc 164 X238 B at_162 rfl rfl rfl ?_
              refine wiload OSc 166 X238 B at_164 rfl rfl ?_
              refine wvirt OSc 169 X238 B hZ44 hown44 (ow hw 92 rfl) (ow hw 93 rfl) (ow hw 95 rfl) (ow hw 94 rfl) F239 (ow hw 96 rfl) (ow hw 27 rfl) rfl (rm11_2 l Z a0 hw [] o22 b_126 y0_238 y1_238 y2_238 (3 : Int32) T238.heap n0 F240 P238_0 ge_b_126 ne_o22_b_126) 0 (by decide) (by decide) hml rfl (lenOf pd__I_V rfl) [] rfl rfl at_166 rfl fun _ T265 L265 X265 hQ265 => ?_
              obtain ⟨rfl, N265q, K265q, P265_0⟩ := hQ265
              have N265 := Fr.app N238 N265q
              have K265 := K238.trans K265q (own_all1 (Or.inr sy_b_126))
              have F266 := F239.keep K265q
              have F267 := F240.keep K265q (own_nin1 ne_o22_b_126)
              refine own_stk (S' := []) rfl ?_
              have CR268 := CHr.trans CR241 (CHr.keep K265q (own_all1 (own_safeA hZ44.alike P238_0 (by decide))) CH241)
              have CH268 := CHv.keep K265q (own_all1 (own_safeA hZ44.alike P238_0 (by decide))) CH241
              have hk268 := Nat.le_trans hk241 K265q.1
              refine wiload OSc 171 X265 B at_169 rfl rfl ?_
              refine wifNo OSc 174 X265 B at_171 (by decide) rfl ?_
              refine wiload OSc 176 X265 B at_174 rfl rfl ?_
              refine wifYes OSc 183 X265 B at_176 (by decide) rfl ?_
              refine wiconst OSc 184 X265 B at_183 0 rfl rfl ?_
              refine wistore OSc 186 X265 B at_184 #[.val (.int p1), .val (.int p2), .val (.int p3), .val (.int p4), .val (.ref o1), .val (.ref o22), .val (.int (0 : Int32)), .val (.int (1 : Int32)), .val (.int (0 : Int32)), .val (.int (g0_1 p1 p2 p3 p4)), .val (.int (g0_12 p1 p2 p3 p4)), .val (.int (2 : Int32)), .val (.int (0 : Int32)), .unset, .unset, .unset, .unset] rfl rfl ?_
              refine wiload OSc 188 X265 B at_186 rfl rfl ?_
              refine wifYes OSc 197 X265 B at_188 (by decide) rfl ?_
              refine wiconst OSc 198 X265 B at_197 1 rfl rfl ?_
              refine wgoto OSc 202 X265 B at_198 rfl ?_
              refine wistore OSc 204 X265 B at_202 #[.val (.int p1), .val (.int p2), .val (.int p3), .val (.int p4), .val (.ref o1), .val (.ref o22), .val (.int (0 : Int32)), .val (.int (1 : Int32)), .val (.int (0 : Int32)), .val (.int (g0_1 p1 p2 p3 p4)), .val (.int (g0_12 p1 p2 p3 p4)), .val (.int (2 : Int32)), .val (.int (0 : Int32)), .val (.int (1 : Int32)), .unset, .unset, .unset] rfl rfl ?_
              refine wiload OSc 206 X265 B at_204 rfl rfl ?_
              refine wifNo OSc 209 X265 B at_206 (by decide) rfl ?_
              refine wiload OSc 211 X265 B at_209 rfl rfl ?_
              refine wiconst OSc 212 X265 B at_211 2 rfl rfl ?_
              refine wicmpNo OSc 215 X265 B at_212 (by decide) rfl ?_
              refine wiconst OSc 216 X265 B at_215 1 rfl rfl ?_
              refine wgoto OSc 220 X265 B at_216 rfl ?_
              refine wistore OSc 222 X265 B at_220 #[.val (.int p1), .val (.int p2), .val (.int p3), .val (.int p4), .val (.ref o1), .val (.ref o22), .val (.int (0 : Int32)), .val (.int (1 : Int32)), .val (.int (0 : Int32)), .val (.int (g0_1 p1 p2 p3 p4)), .val (.int (g0_12 p1 p2 p3 p4)), .val (.int (2 : Int32)), .val (.int (0 : Int32)), .val (.int (1 : Int32)), .val (.int (1 : Int32)), .unset, .unset] rfl rfl ?_
              refine wiloadN OSc 223 X265 B at_222 rfl rfl ?_
              refine own_stS (fun t k => X265.ldcInt hx hown44 (mvT hZ44 (ow hw 86 rfl)) (g := (mkF m 223 #[.val (.int p1), .val (.int p2), .val (.int p3), .val (.int p4), .val (.ref o1), .val (.ref o22), .val (.int (0 : Int32)), .val (.int (1 : Int32)), .val (.int (0 : Int32)), .val (.int (g0_1 p1 p2 p3 p4)), .val (.int (g0_12 p1 p2 p3 p4)), .val (.int (2 : Int32)), .val (.int (0 : Int32)), .val (.int (1 : Int32)), .val (.int (1 : Int32)), .unset, .unset] [(.int p4)])) rfl (hb hby at_223) _ k) ?_
              show OGS _ _ p e _ s below _ T265 (mkF m 225 #[.val (.int p1), .val (.int p2), .val (.int p3), .val (.int p4), .val (.ref o1), .val (.ref o22), .val (.int (0 : Int32)), .val (.int (1 : Int32)), .val (.int (0 : Int32)), .val (.int (g0_1 p1 p2 p3 p4)), .val (.int (g0_12 p1 p2 p3 p4)), .val (.int (2 : Int32)), .val (.int (0 : Int32)), .val (.int (1 : Int32)), .val (.int (1 : Int32)), .unset, .unset] [(.int (2147483647 : Int32)), (.int p4)])
              refine wiand OSc 226 X265 B at_225 rfl ?_
              refine wiconst OSc 227 X265 B at_226 4 rfl rfl ?_
              refine own_stS (fun t k => iremM X265 hx rfl (hb hby at_227) rfl (by decide) k) ?_
              show OGS _ _ p e _ s below _ T265 (mkF m 228 #[.val (.int p1), .val (.int p2), .val (.int p3), .val (.int p4), .val (.ref o1), .val (.ref o22), .val (.int (0 : Int32)), .val (.int (1 : Int32)), .val (.int (0 : Int32)), .val (.int (g0_1 p1 p2 p3 p4)), .val (.int (g0_12 p1 p2 p3 p4)), .val (.int (2 : Int32)), .val (.int (0 : Int32)), .val (.int (1 : Int32)), .val (.int (1 : Int32)), .unset, .unset] [(.int ((p4 &&& (2147483647 : Int32)) % (4 : Int32)))])
              refine wistore OSc 230 X265 B at_228 #[.val (.int p1), .val (.int p2), .val (.int p3), .val (.int p4), .val (.ref o1), .val (.ref o22), .val (.int (0 : Int32)), .val (.int (1 : Int32)), .val (.int (0 : Int32)), .val (.int (g0_1 p1 p2 p3 p4)), .val (.int (g0_12 p1 p2 p3 p4)), .val (.int (2 : Int32)), .val (.int (0 : Int32)), .val (.int (1 : Int32)), .val (.int (1 : Int32)), .val (.int (g0_4 p1 p2 p3 p4)), .unset] rfl rfl ?_
              refine waload OSc 232 X265 B at_230 rfl rfl rfl ?_
              refine wiload OSc 234 X265 B at_232 rfl rfl ?_
              refine wvirt OSc 237 X265 B hZ44 hown44 (ow hw 87 rfl) (ow hw 88 rfl) (ow hw 90 rfl) (ow hw 89 rfl) F266 (ow hw 91 rfl) (ow hw 27 rfl) rfl (rm10 l Z a0 hw [] o22 (g0_4 p1 p2 p3 p4) b_126 (0 : Int32) (1 : Int32) (1 : Int32) y0_238 y1_238 (3 : Int32) T265.heap n0 F267 P265_0 ge_b_126 ne_o22_b_126 (own_r4 p4) (own_gs2 xh238_0)) 0 (by decide) (by decide) hml rfl (lenOf pd__I_I rfl) [] rfl rfl at_234 rfl fun _ T269 L269 X269 hQ269 => ?_
              obtain ⟨rfl, N269q, K269q, y0_269, y1_269, y2_269, xh269_0, P269_0⟩ := hQ269
              have N269 := Fr.app N265 N269q
              have K269 := K265.trans K269q (own_all1 (Or.inr sy_b_126))
              have F270 := F266.keep K269q
              have F271 := F267.keep K269q (own_nin1 ne_o22_b_126)
              refine own_stk (S' := [(.int (f12 (0 : Int32) (1 : Int32) (1 : Int32) (g0_4 p1 p2 p3 p4)))]) rfl ?_
              have CR272 := CHr.trans CR268 (CHr.keep K269q (own_all1 (own_safeA hZ44.alike P265_0 (by decide))) CH268)
              have CH272 := CHv.keep K269q (own_all1 (own_safeA hZ44.alike P265_0 (by decide))) CH268
              have hk272 := Nat.le_trans hk268 K269q.1
              refine wistore OSc 239 X269 B at_237 #[.val (.int p1), .val (.int p2), .val (.int p3), .val (.int p4), .val (.ref o1), .val (.ref o22), .val (.int (0 : Int32)), .val (.int (1 : Int32)), .val (.int (0 : Int32)), .val (.int (g0_1 p1 p2 p3 p4)), .val (.int (g0_12 p1 p2 p3 p4)), .val (.int (2 : Int32)), .val (.int (0 : Int32)), .val (.int (1 : Int32)), .val (.int (1 : Int32)), .val (.int (g0_4 p1 p2 p3 p4)), .val (.int (g0_11 p1 p2 p3 p4))] rfl rfl ?_
              refine wiload OSc 241 X269 B at_239 rfl rfl ?_
              refine wiload OSc 243 X269 B at_241 rfl rfl ?_
              refine wiload OSc 245 X269 B at_243 rfl rfl ?_
              refine wiload OSc 247 X269 B at_245 rfl rfl ?_
              refine wiload OSc 249 X269 B at_247 rfl rfl ?_
              refine wstat OSc 252 X269 B hZ44 hown44 (ow hw 97 rfl) (ow hw 98 rfl) (ow hw 100 rfl) (ow hw 99 rfl) rfl (rm12 l Z a0 hw [] (0 : Int32) (1 : Int32) (0 : Int32) (g0_1 p1 p2 p3 p4) T269.heap) 1 (by decide) (by decide) hml rfl (lenOf pd__ZZZI_I rfl) [(.int (g0_12 p1 p2 p3 p4))] rfl rfl at_249 rfl fun _ T273 L273 X273 hQ273 => ?_
              obtain ⟨rfl, rfl, e273⟩ := hQ273
              have N273 := Fr.app N269 (Fr.nil n0)
              refine own_stk (S' := [(.int (f12 (0 : Int32) (1 : Int32) (0 : Int32) (g0_1 p1 p2 p3 p4))), (.int (g0_12 p1 p2 p3 p4))]) rfl ?_
              refine wicmpNo OSc 255 X273 B at_252 (teq rfl).2 rfl ?_
              refine wiload OSc 257 X273 B at_255 rfl rfl ?_
              refine wiload OSc 259 X273 B at_257 rfl rfl ?_
              refine wiload OSc 261 X273 B at_259 rfl rfl ?_
              refine wiload OSc 263 X273 B at_261 rfl rfl ?_
              refine wiload OSc 265 X273 B at_263 rfl rfl ?_
              refine wstat OSc 268 X273 B hZ44 hown44 (ow hw 97 rfl) (ow hw 98 rfl) (ow hw 100 rfl) (ow hw 99 rfl) e273 (rm12 l Z a0 hw [] (0 : Int32) (1 : Int32) (1 : Int32) (g0_4 p1 p2 p3 p4) T269.heap) 1 (by decide) (by decide) hml rfl (lenOf pd__ZZZI_I rfl) [(.int (g0_11 p1 p2 p3 p4))] rfl rfl at_265 rfl fun _ T274 L274 X274 hQ274 => ?_
              obtain ⟨rfl, rfl, e274⟩ := hQ274
              have N274 := Fr.app N273 (Fr.nil n0)
              refine own_stk (S' := [(.int (f12 (0 : Int32) (1 : Int32) (1 : Int32) (g0_4 p1 p2 p3 p4))), (.int (g0_11 p1 p2 p3 p4))]) rfl ?_
              refine wicmpNo OSc 271 X274 B at_268 (teq rfl).2 rfl ?_
              refine wiconst OSc 272 X274 B at_271 1 rfl rfl ?_
              refine wgoto OSc 276 X274 B at_272 rfl ?_
              refine own_endS X274 hlk hZ44 hEL e274 hs0 hS44 hk272 CH272 CR272 (v := some (.int (nar .boolean (1 : Int32)))) (fun h => by rw [hret] at h; cases h) (by decide) (by decide) ?_ (fun fs hr => retN X274 hx (t := .boolean) hret (by simp) (hb hby at_276) hr)
              exact ⟨congrArg (fun z => some (Value.int z)) (show f0 p1 p2 p3 p4 = (1 : Int32) from (by rw [f0, if_pos c138, if_neg c139, if_pos c233, if_neg c242, if_neg c253, if_pos c264])).symm, N274⟩
            · skip
              by_cases c275 : (g0_3 p1 p2 p3 p4) = (3 : Int32)
              · rw [c275]
                show OGS _ _ p e _ s below _ T238 (mkF m 156 #[.val (.int p1), .val (.int p2), .val (.int p3), .val (.int p4), .val (.ref o1), .val (.ref o22), .val (.int (0 : Int32)), .val (.int (1 : Int32)), .val (.int (0 : Int32)), .val (.int (g0_1 p1 p2 p3 p4)), .val (.int (g0_12 p1 p2 p3 p4)), .val (.int (3 : Int32)), .unset, .unset, .unset, .unset, .unset] [])
                refine wiload OSc 158 X238 B at_156 rfl rfl ?_
                refine wiconst OSc 159 X238 B at_158 3 rfl rfl ?_
                refine wicmpYes OSc 169 X238 B at_159 (by decide) rfl ?_
                refine wiload OSc 171 X238 B at_169 rfl rfl ?_
                refine wifNo OSc 174 X238 B at_171 (by decide) rfl ?_
                refine wiload OSc 176 X238 B at_174 rfl rfl ?_
                refine wifYes OSc 183 X238 B at_176 (by decide) rfl ?_
                refine wiconst OSc 184 X238 B at_183 0 rfl rfl ?_
                refine wistore OSc 186 X238 B at_184 #[.val (.int p1), .val (.int p2), .val (.int p3), .val (.int p4), .val (.ref o1), .val (.ref o22), .val (.int (0 : Int32)), .val (.int (1 : Int32)), .val (.int (0 : Int32)), .val (.int (g0_1 p1 p2 p3 p4)), .val (.int (g0_12 p1 p2 p3 p4)), .val (.int (3 : Int32)), .val (.int (0 : Int32)), .unset, .unset, .unset, .unset] rfl rfl ?_
                refine wiload OSc 188 X238 B at_186 rfl rfl ?_
                refine wifYes OSc 197 X238 B at_188 (by decide) rfl ?_
                refine wiconst OSc 198 X238 B at_197 1 rfl rfl ?_
                refine wgoto OSc 202 X238 B at_198 rfl ?_
                refine wistore OSc 204 X238 B at_202 #[.val (.int p1), .val (.int p2), .val (.int p3), .val (.int p4), .val (.ref o1), .val (.ref o22), .val (.int (0 : Int32)), .val (.int (1 : Int32)), .val (.int (0 : Int32)), .val (.int (g0_1 p1 p2 p3 p4)), .val (.int (g0_12 p1 p2 p3 p4)), .val (.int (3 : Int32)), .val (.int (0 : Int32)), .val (.int (1 : Int32)), .unset, .unset, .unset] rfl rfl ?_
                refine wiload OSc 206 X238 B at_204 rfl rfl ?_
                refine wifNo OSc 209 X238 B at_206 (by decide) rfl ?_
                refine wiload OSc 211 X238 B at_209 rfl rfl ?_
                refine wiconst OSc 212 X238 B at_211 2 rfl rfl ?_
                refine wicmpYes OSc 219 X238 B at_212 (by decide) rfl ?_
                refine wiconst OSc 220 X238 B at_219 0 rfl rfl ?_
                refine wistore OSc 222 X238 B at_220 #[.val (.int p1), .val (.int p2), .val (.int p3), .val (.int p4), .val (.ref o1), .val (.ref o22), .val (.int (0 : Int32)), .val (.int (1 : Int32)), .val (.int (0 : Int32)), .val (.int (g0_1 p1 p2 p3 p4)), .val (.int (g0_12 p1 p2 p3 p4)), .val (.int (3 : Int32)), .val (.int (0 : Int32)), .val (.int (1 : Int32)), .val (.int (0 : Int32)), .unset, .unset] rfl rfl ?_
                refine wiloadN OSc 223 X238 B at_222 rfl rfl ?_
                refine own_stS (fun t k => X238.ldcInt hx hown44 (mvT hZ44 (ow hw 86 rfl)) (g := (mkF m 223 #[.val (.int p1), .val (.int p2), .val (.int p3), .val (.int p4), .val (.ref o1), .val (.ref o22), .val (.int (0 : Int32)), .val (.int (1 : Int32)), .val (.int (0 : Int32)), .val (.int (g0_1 p1 p2 p3 p4)), .val (.int (g0_12 p1 p2 p3 p4)), .val (.int (3 : Int32)), .val (.int (0 : Int32)), .val (.int (1 : Int32)), .val (.int (0 : Int32)), .unset, .unset] [(.int p4)])) rfl (hb hby at_223) _ k) ?_
                show OGS _ _ p e _ s below _ T238 (mkF m 225 #[.val (.int p1), .val (.int p2), .val (.int p3), .val (.int p4), .val (.ref o1), .val (.ref o22), .val (.int (0 : Int32)), .val (.int (1 : Int32)), .val (.int (0 : Int32)), .val (.int (g0_1 p1 p2 p3 p4)), .val (.int (g0_12 p1 p2 p3 p4)), .val (.int (3 : Int32)), .val (.int (0 : Int32)), .val (.int (1 : Int32)), .val (.int (0 : Int32)), .unset, .unset] [(.int (2147483647 : Int32)), (.int p4)])
                refine wiand OSc 226 X238 B at_225 rfl ?_
                refine wiconst OSc 227 X238 B at_226 4 rfl rfl ?_
                refine own_stS (fun t k => iremM X238 hx rfl (hb hby at_227) rfl (by decide) k) ?_
                show OGS _ _ p e _ s below _ T238 (mkF m 228 #[.val (.int p1), .val (.int p2), .val (.int p3), .val (.int p4), .val (.ref o1), .val (.ref o22), .val (.int (0 : Int32)), .val (.int (1 : Int32)), .val (.int (0 : Int32)), .val (.int (g0_1 p1 p2 p3 p4)), .val (.int (g0_12 p1 p2 p3 p4)), .val (.int (3 : Int32)), .val (.int (0 : Int32)), .val (.int (1 : Int32)), .val (.int (0 : Int32)), .unset, .unset] [(.int ((p4 &&& (2147483647 : Int32)) % (4 : Int32)))])
                refine wistore OSc 230 X238 B at_228 #[.val (.int p1), .val (.int p2), .val (.int p3), .val (.int p4), .val (.ref o1), .val (.ref o22), .val (.int (0 : Int32)), .val (.int (1 : Int32)), .val (.int (0 : Int32)), .val (.int (g0_1 p1 p2 p3 p4)), .val (.int (g0_12 p1 p2 p3 p4)), .val (.int (3 : Int32)), .val (.int (0 : Int32)), .val (.int (1 : Int32)), .val (.int (0 : Int32)), .val (.int (g0_4 p1 p2 p3 p4)), .unset] rfl rfl ?_
                refine waload OSc 232 X238 B at_230 rfl rfl rfl ?_
                refine wiload OSc 234 X238 B at_232 rfl rfl ?_
                refine wvirt OSc 237 X238 B hZ44 hown44 (ow hw 87 rfl) (ow hw 88 rfl) (ow hw 90 rfl) (ow hw 89 rfl) F239 (ow hw 91 rfl) (ow hw 27 rfl) rfl (rm10 l Z a0 hw [] o22 (g0_4 p1 p2 p3 p4) b_126 (0 : Int32) (1 : Int32) (0 : Int32) y0_238 y1_238 y2_238 T238.heap n0 F240 P238_0 ge_b_126 ne_o22_b_126 (own_r4 p4) xh238_0) 0 (by decide) (by decide) hml rfl (lenOf pd__I_I rfl) [] rfl rfl at_234 rfl fun _ T276 L276 X276 hQ276 => ?_
                obtain ⟨rfl, N276q, K276q, y0_276, y1_276, y2_276, xh276_0, P276_0⟩ := hQ276
                have N276 := Fr.app N238 N276q
                have K276 := K238.trans K276q (own_all1 (Or.inr sy_b_126))
                have F277 := F239.keep K276q
                have F278 := F240.keep K276q (own_nin1 ne_o22_b_126)
                refine own_stk (S' := [(.int (f12 (0 : Int32) (1 : Int32) (0 : Int32) (g0_4 p1 p2 p3 p4)))]) rfl ?_
                have CR279 := CHr.trans CR241 (CHr.keep K276q (own_all1 (own_safeA hZ44.alike P238_0 (by decide))) CH241)
                have CH279 := CHv.keep K276q (own_all1 (own_safeA hZ44.alike P238_0 (by decide))) CH241
                have hk279 := Nat.le_trans hk241 K276q.1
                refine wistore OSc 239 X276 B at_237 #[.val (.int p1), .val (.int p2), .val (.int p3), .val (.int p4), .val (.ref o1), .val (.ref o22), .val (.int (0 : Int32)), .val (.int (1 : Int32)), .val (.int (0 : Int32)), .val (.int (g0_1 p1 p2 p3 p4)), .val (.int (g0_12 p1 p2 p3 p4)), .val (.int (3 : Int32)), .val (.int (0 : Int32)), .val (.int (1 : Int32)), .val (.int (0 : Int32)), .val (.int (g0_4 p1 p2 p3 p4)), .val (.int (g0_6 p1 p2 p3 p4))] rfl rfl ?_
                refine wiload OSc 241 X276 B at_239 rfl rfl ?_
                refine wiload OSc 243 X276 B at_241 rfl rfl ?_
                refine wiload OSc 245 X276 B at_243 rfl rfl ?_
                refine wiload OSc 247 X276 B at_245 rfl rfl ?_
                refine wiload OSc 249 X276 B at_247 rfl rfl ?_
                refine wstat OSc 252 X276 B hZ44 hown44 (ow hw 97 rfl) (ow hw 98 rfl) (ow hw 100 rfl) (ow hw 99 rfl) rfl (rm12 l Z a0 hw [] (0 : Int32) (1 : Int32) (0 : Int32) (g0_1 p1 p2 p3 p4) T276.heap) 1 (by decide) (by decide) hml rfl (lenOf pd__ZZZI_I rfl) [(.int (g0_12 p1 p2 p3 p4))] rfl rfl at_249 rfl fun _ T280 L280 X280 hQ280 => ?_
                obtain ⟨rfl, rfl, e280⟩ := hQ280
                have N280 := Fr.app N276 (Fr.nil n0)
                refine own_stk (S' := [(.int (f12 (0 : Int32) (1 : Int32) (0 : Int32) (g0_1 p1 p2 p3 p4))), (.int (g0_12 p1 p2 p3 p4))]) rfl ?_
                refine wicmpNo OSc 255 X280 B at_252 (teq rfl).2 rfl ?_
                refine wiload OSc 257 X280 B at_255 rfl rfl ?_
                refine wiload OSc 259 X280 B at_257 rfl rfl ?_
                refine wiload OSc 261 X280 B at_259 rfl rfl ?_
                refine wiload OSc 263 X280 B at_261 rfl rfl ?_
                refine wiload OSc 265 X280 B at_263 rfl rfl ?_
                refine wstat OSc 268 X280 B hZ44 hown44 (ow hw 97 rfl) (ow hw 98 rfl) (ow hw 100 rfl) (ow hw 99 rfl) e280 (rm12 l Z a0 hw [] (0 : Int32) (1 : Int32) (0 : Int32) (g0_4 p1 p2 p3 p4) T276.heap) 1 (by decide) (by decide) hml rfl (lenOf pd__ZZZI_I rfl) [(.int (g0_6 p1 p2 p3 p4))] rfl rfl at_265 rfl fun _ T281 L281 X281 hQ281 => ?_
                obtain ⟨rfl, rfl, e281⟩ := hQ281
                have N281 := Fr.app N280 (Fr.nil n0)
                refine own_stk (S' := [(.int (f12 (0 : Int32) (1 : Int32) (0 : Int32) (g0_4 p1 p2 p3 p4))), (.int (g0_6 p1 p2 p3 p4))]) rfl ?_
                refine wicmpNo OSc 271 X281 B at_268 (teq rfl).2 rfl ?_
                refine wiconst OSc 272 X281 B at_271 1 rfl rfl ?_
                refine wgoto OSc 276 X281 B at_272 rfl ?_
                refine own_endS X281 hlk hZ44 hEL e281 hs0 hS44 hk279 CH279 CR279 (v := some (.int (nar .boolean (1 : Int32)))) (fun h => by rw [hret] at h; cases h) (by decide) (by decide) ?_ (fun fs hr => retN X281 hx (t := .boolean) hret (by simp) (hb hby at_276) hr)
                exact ⟨congrArg (fun z => some (Value.int z)) (show f0 p1 p2 p3 p4 = (1 : Int32) from (by rw [f0, if_pos c138, if_neg c139, if_pos c233, if_neg c242, if_neg c253, if_neg c264, if_pos c275])).symm, N281⟩
              · skip
                exact (own_r4n p1 p2 p3 p4 c242 c253 c264 c275).elim
      · refine wifNo OSc 91 X126 B at_88 (own_if0 (feq c233).1) rfl ?_
        refine wiconst OSc 92 X126 B at_91 1 rfl rfl ?_
        refine wgoto OSc 96 X126 B at_92 rfl ?_
        refine wistore OSc 98 X126 B at_96 #[.val (.int p1), .val (.int p2), .val (.int p3), .val (.int p4), .val (.ref o1), .val (.ref o22), .val (.int (0 : Int32)), .val (.int (1 : Int32)), .val (.int (1 : Int32)), .unset, .unset, .unset, .unset, .unset, .unset, .unset, .unset] rfl rfl ?_
        refine wiload OSc 100 X126 B at_98 rfl rfl ?_
        refine wifYes OSc 109 X126 B at_100 (by decide) rfl ?_
        refine wiload OSc 111 X126 B at_109 rfl rfl ?_
        refine wifNo OSc 114 X126 B at_111 (by decide) rfl ?_
        refine waload OSc 116 X126 B at_114 rfl rfl rfl ?_
        refine wiconst OSc 117 X126 B at_116 1 rfl rfl ?_
        refine wvirt OSc 120 X126 B hZ44 hown44 (ow hw 92 rfl) (ow hw 93 rfl) (ow hw 95 rfl) (ow hw 94 rfl) P126_0 (ow hw 96 rfl) (ow hw 27 rfl) rfl (rm11_1 l Z a0 hw [] o22 b_126 (0 : Int32) (1 : Int32) (2 : Int32) (3 : Int32) T126.heap n0 P126_1 P126_2 ge_b_126 ne_o22_b_126) 0 (by decide) (by decide) hml rfl (lenOf pd__I_V rfl) [] rfl rfl at_117 rfl fun _ T282 L282 X282 hQ282 => ?_
        obtain ⟨rfl, N282q, K282q, P282_0⟩ := hQ282
        have N282 := Fr.app N126 N282q
        have K282 := K126.trans K282q (own_all1 (Or.inr sy_b_126))
        have F283 := P126_0.keep K282q
        have F284 := P126_1.keep K282q (own_nin1 ne_o22_b_126)
        refine own_stk (S' := []) rfl ?_
        have CR285 := CHr.trans CR137 (CHr.keep K282q (own_all1 (own_safeA hZ44.alike P126_2 (by decide))) CH137)
        have CH285 := CHv.keep K282q (own_all1 (own_safeA hZ44.alike P126_2 (by decide))) CH137
        have hk285 := Nat.le_trans hk137 K282q.1
        refine wiload OSc 122 X282 B at_120 rfl rfl ?_
        refine wifNo OSc 125 X282 B at_122 (by decide) rfl ?_
        refine waload OSc 127 X282 B at_125 rfl rfl rfl ?_
        refine wiconst OSc 128 X282 B at_127 2 rfl rfl ?_
        refine wvirt OSc 131 X282 B hZ44 hown44 (ow hw 92 rfl) (ow hw 93 rfl) (ow hw 95 rfl) (ow hw 94 rfl) F283 (ow hw 96 rfl) (ow hw 27 rfl) rfl (rm11_2 l Z a0 hw [] o22 b_126 (0 : Int32) (2 : Int32) (2 : Int32) (3 : Int32) T282.heap n0 F284 P282_0 ge_b_126 ne_o22_b_126) 0 (by decide) (by decide) hml rfl (lenOf pd__I_V rfl) [] rfl rfl at_128 rfl fun _ T286 L286 X286 hQ286 => ?_
        obtain ⟨rfl, N286q, K286q, P286_0⟩ := hQ286
        have N286 := Fr.app N282 N286q
        have K286 := K282.trans K286q (own_all1 (Or.inr sy_b_126))
        have F287 := F283.keep K286q
        have F288 := F284.keep K286q (own_nin1 ne_o22_b_126)
        refine own_stk (S' := []) rfl ?_
        have CR289 := CHr.trans CR285 (CHr.keep K286q (own_all1 (own_safeA hZ44.alike P282_0 (by decide))) CH285)
        have CH289 := CHv.keep K286q (own_all1 (own_safeA hZ44.alike P282_0 (by decide))) CH285
        have hk289 := Nat.le_trans hk285 K286q.1
        refine wiloadN OSc 132 X286 B at_131 rfl rfl ?_
        refine own_stS (fun t k => X286.ldcInt hx hown44 (mvT hZ44 (ow hw 86 rfl)) (g := (mkF m 132 #[.val (.int p1), .val (.int p2), .val (.int p3), .val (.int p4), .val (.ref o1), .val (.ref o22), .val (.int (0 : Int32)), .val (.int (1 : Int32)), .val (.int (1 : Int32)), .unset, .unset, .unset, .unset, .unset, .unset, .unset, .unset] [(.int p2)])) rfl (hb hby at_132) _ k) ?_
        show OGS _ _ p e _ s below _ T286 (mkF m 134 #[.val (.int p1), .val (.int p2), .val (.int p3), .val (.int p4), .val (.ref o1), .val (.ref o22), .val (.int (0 : Int32)), .val (.int (1 : Int32)), .val (.int (1 : Int32)), .unset, .unset, .unset, .unset, .unset, .unset, .unset, .unset] [(.int (2147483647 : Int32)), (.int p2)])
        refine wiand OSc 135 X286 B at_134 rfl ?_
        refine wiconst OSc 136 X286 B at_135 4 rfl rfl ?_
        refine own_stS (fun t k => iremM X286 hx rfl (hb hby at_136) rfl (by decide) k) ?_
        show OGS _ _ p e _ s below _ T286 (mkF m 137 #[.val (.int p1), .val (.int p2), .val (.int p3), .val (.int p4), .val (.ref o1), .val (.ref o22), .val (.int (0 : Int32)), .val (.int (1 : Int32)), .val (.int (1 : Int32)), .unset, .unset, .unset, .unset, .unset, .unset, .unset, .unset] [(.int ((p2 &&& (2147483647 : Int32)) % (4 : Int32)))])
        refine wistore OSc 139 X286 B at_137 #[.val (.int p1), .val (.int p2), .val (.int p3), .val (.int p4), .val (.ref o1), .val (.ref o22), .val (.int (0 : Int32)), .val (.int (1 : Int32)), .val (.int (1 : Int32)), .val (.int (g0_1 p1 p2 p3 p4)), .unset, .unset, .unset, .unset, .unset, .unset, .unset] rfl rfl ?_
        refine waload OSc 141 X286 B at_139 rfl rfl rfl ?_
        refine wiload OSc 143 X286 B at_141 rfl rfl ?_
        refine wvirt OSc 146 X286 B hZ44 hown44 (ow hw 87 rfl) (ow hw 88 rfl) (ow hw 90 rfl) (ow hw 89 rfl) F287 (ow hw 91 rfl) (ow hw 27 rfl) rfl (rm10 l Z a0 hw [] o22 (g0_1 p1 p2 p3 p4) b_126 (0 : Int32) (1 : Int32) (1 : Int32) (0 : Int32) (2 : Int32) (3 : Int32) T286.heap n0 F288 P286_0 ge_b_126 ne_o22_b_126 (own_r4 p2) (Or.inr (Or.inr (Or.inr (Or.inl ⟨rfl, rfl, rfl, rfl, rfl, rfl⟩))))) 0 (by decide) (by decide) hml rfl (lenOf pd__I_I rfl) [] rfl rfl at_143 rfl fun _ T290 L290 X290 hQ290 => ?_
        obtain ⟨rfl, N290q, K290q, y0_290, y1_290, y2_290, xh290_0, P290_0⟩ := hQ290
        have N290 := Fr.app N286 N290q
        have K290 := K286.trans K290q (own_all1 (Or.inr sy_b_126))
        have F291 := F287.keep K290q
        have F292 := F288.keep K290q (own_nin1 ne_o22_b_126)
        refine own_stk (S' := [(.int (f12 (0 : Int32) (1 : Int32) (1 : Int32) (g0_1 p1 p2 p3 p4)))]) rfl ?_
        have CR293 := CHr.trans CR289 (CHr.keep K290q (own_all1 (own_safeA hZ44.alike P286_0 (by decide))) CH289)
        have CH293 := CHv.keep K290q (own_all1 (own_safeA hZ44.alike P286_0 (by decide))) CH289
        have hk293 := Nat.le_trans hk289 K290q.1
        refine wistore OSc 148 X290 B at_146 #[.val (.int p1), .val (.int p2), .val (.int p3), .val (.int p4), .val (.ref o1), .val (.ref o22), .val (.int (0 : Int32)), .val (.int (1 : Int32)), .val (.int (1 : Int32)), .val (.int (g0_1 p1 p2 p3 p4)), .val (.int (g0_14 p1 p2 p3 p4)), .unset, .unset, .unset, .unset, .unset, .unset] rfl rfl ?_
        refine wiloadN OSc 149 X290 B at_148 rfl rfl ?_
        refine own_stS (fun t k => X290.ldcInt hx hown44 (mvT hZ44 (ow hw 86 rfl)) (g := (mkF m 149 #[.val (.int p1), .val (.int p2), .val (.int p3), .val (.int p4), .val (.ref o1), .val (.ref o22), .val (.int (0 : Int32)), .val (.int (1 : Int32)), .val (.int (1 : Int32)), .val (.int (g0_1 p1 p2 p3 p4)), .val (.int (g0_14 p1 p2 p3 p4)), .unset, .unset, .unset, .unset, .unset, .unset] [(.int p3)])) rfl (hb hby at_149) _ k) ?_
        show OGS _ _ p e _ s below _ T290 (mkF m 151 #[.val (.int p1), .val (.int p2), .val (.int p3), .val (.int p4), .val (.ref o1), .val (.ref o22), .val (.int (0 : Int32)), .val (.int (1 : Int32)), .val (.int (1 : Int32)), .val (.int (g0_1 p1 p2 p3 p4)), .val (.int (g0_14 p1 p2 p3 p4)), .unset, .unset, .unset, .unset, .unset, .unset] [(.int (2147483647 : Int32)), (.int p3)])
        refine wiand OSc 152 X290 B at_151 rfl ?_
        refine wiconst OSc 153 X290 B at_152 4 rfl rfl ?_
        refine own_stS (fun t k => iremM X290 hx rfl (hb hby at_153) rfl (by decide) k) ?_
        show OGS _ _ p e _ s below _ T290 (mkF m 154 #[.val (.int p1), .val (.int p2), .val (.int p3), .val (.int p4), .val (.ref o1), .val (.ref o22), .val (.int (0 : Int32)), .val (.int (1 : Int32)), .val (.int (1 : Int32)), .val (.int (g0_1 p1 p2 p3 p4)), .val (.int (g0_14 p1 p2 p3 p4)), .unset, .unset, .unset, .unset, .unset, .unset] [(.int ((p3 &&& (2147483647 : Int32)) % (4 : Int32)))])
        refine wistore OSc 156 X290 B at_154 #[.val (.int p1), .val (.int p2), .val (.int p3), .val (.int p4), .val (.ref o1), .val (.ref o22), .val (.int (0 : Int32)), .val (.int (1 : Int32)), .val (.int (1 : Int32)), .val (.int (g0_1 p1 p2 p3 p4)), .val (.int (g0_14 p1 p2 p3 p4)), .val (.int (g0_3 p1 p2 p3 p4)), .unset, .unset, .unset, .unset, .unset] rfl rfl ?_
        by_cases c294 : (g0_3 p1 p2 p3 p4) = (0 : Int32)
        · rw [c294]
          show OGS _ _ p e _ s below _ T290 (mkF m 156 #[.val (.int p1), .val (.int p2), .val (.int p3), .val (.int p4), .val (.ref o1), .val (.ref o22), .val (.int (0 : Int32)), .val (.int (1 : Int32)), .val (.int (1 : Int32)), .val (.int (g0_1 p1 p2 p3 p4)), .val (.int (g0_14 p1 p2 p3 p4)), .val (.int (0 : Int32)), .unset, .unset, .unset, .unset, .unset] [])
          refine wiload OSc 158 X290 B at_156 rfl rfl ?_
          refine wiconst OSc 159 X290 B at_158 3 rfl rfl ?_
          refine wicmpNo OSc 162 X290 B at_159 (by decide) rfl ?_
          refine waload OSc 164 X290 B at_162 rfl rfl rfl ?_
          refine wiload OSc 166 X290 B at_164 rfl rfl ?_
          refine wvirt OSc 169 X290 B hZ44 hown44 (ow hw 92 rfl) (ow hw 93 rfl) (ow hw 95 rfl) (ow hw 94 rfl) F291 (ow hw 96 rfl) (ow hw 27 rfl) rfl (rm11_0 l Z a0 hw [] o22 b_126 y0_290 y1_290 y2_290 (3 : Int32) T290.heap n0 F292 P290_0 ge_b_126 ne_o22_b_126) 0 (by decide) (by decide) hml rfl (lenOf pd__I_V rfl) [] rfl rfl at_166 rfl fun _ T295 L295 X295 hQ295 => ?_
          obtain ⟨rfl, N295q, K295q, P295_0⟩ := hQ295
          have N295 := Fr.app N290 N295q
          have K295 := K290.trans K295q (own_all1 (Or.inr sy_b_126))
          have F296 := F291.keep K295q
          have F297 := F292.keep K295q (own_nin1 ne_o22_b_126)
          refine own_stk (S' := []) rfl ?_
          have CR298 := CHr.trans CR293 (CHr.keep K295q (own_all1 (own_safeA hZ44.alike P290_0 (by decide))) CH293)
          have CH298 := CHv.keep K295q (own_all1 (own_safeA hZ44.alike P290_0 (by decide))) CH293
          have hk298 := Nat.le_trans hk293 K295q.1
          refine wiload OSc 171 X295 B at_169 rfl rfl ?_
          refine wifNo OSc 174 X295 B at_171 (by decide) rfl ?_
          refine wiload OSc 176 X295 B at_174 rfl rfl ?_
          refine wifNo OSc 179 X295 B at_176 (by decide) rfl ?_
          refine wiconst OSc 180 X295 B at_179 1 rfl rfl ?_
          refine wgoto OSc 184 X295 B at_180 rfl ?_
          refine wistore OSc 186 X295 B at_184 #[.val (.int p1), .val (.int p2), .val (.int p3), .val (.int p4), .val (.ref o1), .val (.ref o22), .val (.int (0 : Int32)), .val (.int (1 : Int32)), .val (.int (1 : Int32)), .val (.int (g0_1 p1 p2 p3 p4)), .val (.int (g0_14 p1 p2 p3 p4)), .val (.int (0 : Int32)), .val (.int (1 : Int32)), .unset, .unset, .unset, .unset] rfl rfl ?_
          refine wiload OSc 188 X295 B at_186 rfl rfl ?_
          refine wifYes OSc 197 X295 B at_188 (by decide) rfl ?_
          refine wiconst OSc 198 X295 B at_197 1 rfl rfl ?_
          refine wgoto OSc 202 X295 B at_198 rfl ?_
          refine wistore OSc 204 X295 B at_202 #[.val (.int p1), .val (.int p2), .val (.int p3), .val (.int p4), .val (.ref o1), .val (.ref o22), .val (.int (0 : Int32)), .val (.int (1 : Int32)), .val (.int (1 : Int32)), .val (.int (g0_1 p1 p2 p3 p4)), .val (.int (g0_14 p1 p2 p3 p4)), .val (.int (0 : Int32)), .val (.int (1 : Int32)), .val (.int (1 : Int32)), .unset, .unset, .unset] rfl rfl ?_
          refine wiload OSc 206 X295 B at_204 rfl rfl ?_
          refine wifYes OSc 215 X295 B at_206 (by decide) rfl ?_
          refine wiconst OSc 216 X295 B at_215 1 rfl rfl ?_
          refine wgoto OSc 220 X295 B at_216 rfl ?_
          refine wistore OSc 222 X295 B at_220 #[.val (.int p1), .val (.int p2), .val (.int p3), .val (.int p4), .val (.ref o1), .val (.ref o22), .val (.int (0 : Int32)), .val (.int (1 : Int32)), .val (.int (1 : Int32)), .val (.int (g0_1 p1 p2 p3 p4)), .val (.int (g0_14 p1 p2 p3 p4)), .val (.int (0 : Int32)), .val (.int (1 : Int32)), .val (.int (1 : Int32)), .val (.int (1 : Int32)), .unset, .unset] rfl rfl ?_
          refine wiloadN OSc 223 X295 B at_222 rfl rfl ?_
          refine own_stS (fun t k => X295.ldcInt hx hown44 (mvT hZ44 (ow hw 86 rfl)) (g := (mkF m 223 #[.val (.int p1), .val (.int p2), .val (.int p3), .val (.int p4), .val (.ref o1), .val (.ref o22), .val (.int (0 : Int32)), .val (.int (1 : Int32)), .val (.int (1 : Int32)), .val (.int (g0_1 p1 p2 p3 p4)), .val (.int (g0_14 p1 p2 p3 p4)), .val (.int (0 : Int32)), .val (.int (1 : Int32)), .val (.int (1 : Int32)), .val (.int (1 : Int32)), .unset, .unset] [(.int p4)])) rfl (hb hby at_223) _ k) ?_
          show OGS _ _ p e _ s below _ T295 (mkF m 225 #[.val (.int p1), .val (.int p2), .val (.int p3), .val (.int p4), .val (.ref o1), .val (.ref o22), .val (.int (0 : Int32)), .val (.int (1 : Int32)), .val (.int (1 : Int32)), .val (.int (g0_1 p1 p2 p3 p4)), .val (.int (g0_14 p1 p2 p3 p4)), .val (.int (0 : Int32)), .val (.int (1 : Int32)), .val (.int (1 : Int32)), .val (.int (1 : Int32)), .unset, .unset] [(.int (2147483647 : Int32)), (.int p4)])
          refine wiand OSc 226 X295 B at_225 rfl ?_
          refine wiconst OSc 227 X295 B at_226 4 rfl rfl ?_
          refine own_stS (fun t k => iremM X295 hx rfl (hb hby at_227) rfl (by decide) k) ?_
          show OGS _ _ p e _ s below _ T295 (mkF m 228 #[.val (.int p1), .val (.int p2), .val (.int p3), .val (.int p4), .val (.ref o1), .val (.ref o22), .val (.int (0 : Int32)), .val (.int (1 : Int32)), .val (.int (1 : Int32)), .val (.int (g0_1 p1 p2 p3 p4)), .val (.int (g0_14 p1 p2 p3 p4)), .val (.int (0 : Int32)), .val (.int (1 : Int32)), .val (.int (1 : Int32)), .val (.int (1 : Int32)), .unset, .unset] [(.int ((p4 &&& (2147483647 : Int32)) % (4 : Int32)))])
          refine wistore OSc 230 X295 B at_228 #[.val (.int p1), .val (.int p2), .val (.int p3), .val (.int p4), .val (.ref o1), .val (.ref o22), .val (.int (0 : Int32)), .val (.int (1 : Int32)), .val (.int (1 : Int32)), .val (.int (g0_1 p1 p2 p3 p4)), .val (.int (g0_14 p1 p2 p3 p4)), .val (.int (0 : Int32)), .val (.int (1 : Int32)), .val (.int (1 : Int32)), .val (.int (1 : Int32)), .val (.int (g0_4 p1 p2 p3 p4)), .unset] rfl rfl ?_
          refine waload OSc 232 X295 B at_230 rfl rfl rfl ?_
          refine wiload OSc 234 X295 B at_232 rfl rfl ?_
          refine wvirt OSc 237 X295 B hZ44 hown44 (ow hw 87 rfl) (ow hw 88 rfl) (ow hw 90 rfl) (ow hw 89 rfl) F296 (ow hw 91 rfl) (ow hw 27 rfl) rfl (rm10 l Z a0 hw [] o22 (g0_4 p1 p2 p3 p4) b_126 (1 : Int32) (1 : Int32) (1 : Int32) (1 : Int32) y1_290 y2_290 T295.heap n0 F297 P295_0 ge_b_126 ne_o22_b_126 (own_r4 p4) (own_gs0 xh290_0)) 0 (by decide) (by decide) hml rfl (lenOf pd__I_I rfl) [] rfl rfl at_234 rfl fun _ T299 L299 X299 hQ299 => ?_
          obtain ⟨rfl, N299q, K299q, y0_299, y1_299, y2_299, xh299_0, P299_0⟩ := hQ299
          have N299 := Fr.app N295 N299q
          have K299 := K295.trans K299q (own_all1 (Or.inr sy_b_126))
          have F300 := F296.keep K299q
          have F301 := F297.keep K299q (own_nin1 ne_o22_b_126)
          refine own_stk (S' := [(.int (f12 (1 : Int32) (1 : Int32) (1 : Int32) (g0_4 p1 p2 p3 p4)))]) rfl ?_
          have CR302 := CHr.trans CR298 (CHr.keep K299q (own_all1 (own_safeA hZ44.alike P295_0 (by decide))) CH298)
          have CH302 := CHv.keep K299q (own_all1 (own_safeA hZ44.alike P295_0 (by decide))) CH298
          have hk302 := Nat.le_trans hk298 K299q.1
          refine wistore OSc 239 X299 B at_237 #[.val (.int p1), .val (.int p2), .val (.int p3), .val (.int p4), .val (.ref o1), .val (.ref o22), .val (.int (0 : Int32)), .val (.int (1 : Int32)), .val (.int (1 : Int32)), .val (.int (g0_1 p1 p2 p3 p4)), .val (.int (g0_14 p1 p2 p3 p4)), .val (.int (0 : Int32)), .val (.int (1 : Int32)), .val (.int (1 : Int32)), .val (.int (1 : Int32)), .val (.int (g0_4 p1 p2 p3 p4)), .val (.int (g0_15 p1 p2 p3 p4))] rfl rfl ?_
          refine wiload OSc 241 X299 B at_239 rfl rfl ?_
          refine wiload OSc 243 X299 B at_241 rfl rfl ?_
          refine wiload OSc 245 X299 B at_243 rfl rfl ?_
          refine wiload OSc 247 X299 B at_245 rfl rfl ?_
          refine wiload OSc 249 X299 B at_247 rfl rfl ?_
          refine wstat OSc 252 X299 B hZ44 hown44 (ow hw 97 rfl) (ow hw 98 rfl) (ow hw 100 rfl) (ow hw 99 rfl) rfl (rm12 l Z a0 hw [] (0 : Int32) (1 : Int32) (1 : Int32) (g0_1 p1 p2 p3 p4) T299.heap) 1 (by decide) (by decide) hml rfl (lenOf pd__ZZZI_I rfl) [(.int (g0_14 p1 p2 p3 p4))] rfl rfl at_249 rfl fun _ T303 L303 X303 hQ303 => ?_
          obtain ⟨rfl, rfl, e303⟩ := hQ303
          have N303 := Fr.app N299 (Fr.nil n0)
          refine own_stk (S' := [(.int (f12 (0 : Int32) (1 : Int32) (1 : Int32) (g0_1 p1 p2 p3 p4))), (.int (g0_14 p1 p2 p3 p4))]) rfl ?_
          refine wicmpNo OSc 255 X303 B at_252 (teq rfl).2 rfl ?_
          refine wiload OSc 257 X303 B at_255 rfl rfl ?_
          refine wiload OSc 259 X303 B at_257 rfl rfl ?_
          refine wiload OSc 261 X303 B at_259 rfl rfl ?_
          refine wiload OSc 263 X303 B at_261 rfl rfl ?_
          refine wiload OSc 265 X303 B at_263 rfl rfl ?_
          refine wstat OSc 268 X303 B hZ44 hown44 (ow hw 97 rfl) (ow hw 98 rfl) (ow hw 100 rfl) (ow hw 99 rfl) e303 (rm12 l Z a0 hw [] (1 : Int32) (1 : Int32) (1 : Int32) (g0_4 p1 p2 p3 p4) T299.heap) 1 (by decide) (by decide) hml rfl (lenOf pd__ZZZI_I rfl) [(.int (g0_15 p1 p2 p3 p4))] rfl rfl at_265 rfl fun _ T304 L304 X304 hQ304 => ?_
          obtain ⟨rfl, rfl, e304⟩ := hQ304
          have N304 := Fr.app N303 (Fr.nil n0)
          refine own_stk (S' := [(.int (f12 (1 : Int32) (1 : Int32) (1 : Int32) (g0_4 p1 p2 p3 p4))), (.int (g0_15 p1 p2 p3 p4))]) rfl ?_
          refine wicmpNo OSc 271 X304 B at_268 (teq rfl).2 rfl ?_
          refine wiconst OSc 272 X304 B at_271 1 rfl rfl ?_
          refine wgoto OSc 276 X304 B at_272 rfl ?_
          refine own_endS X304 hlk hZ44 hEL e304 hs0 hS44 hk302 CH302 CR302 (v := some (.int (nar .boolean (1 : Int32)))) (fun h => by rw [hret] at h; cases h) (by decide) (by decide) ?_ (fun fs hr => retN X304 hx (t := .boolean) hret (by simp) (hb hby at_276) hr)
          exact ⟨congrArg (fun z => some (Value.int z)) (show f0 p1 p2 p3 p4 = (1 : Int32) from (by rw [f0, if_pos c138, if_neg c139, if_neg c233, if_pos c294])).symm, N304⟩
        · skip
          by_cases c305 : (g0_3 p1 p2 p3 p4) = (1 : Int32)
          · rw [c305]
            show OGS _ _ p e _ s below _ T290 (mkF m 156 #[.val (.int p1), .val (.int p2), .val (.int p3), .val (.int p4), .val (.ref o1), .val (.ref o22), .val (.int (0 : Int32)), .val (.int (1 : Int32)), .val (.int (1 : Int32)), .val (.int (g0_1 p1 p2 p3 p4)), .val (.int (g0_14 p1 p2 p3 p4)), .val (.int (1 : Int32)), .unset, .unset, .unset, .unset, .unset] [])
            refine wiload OSc 158 X290 B at_156 rfl rfl ?_
            refine wiconst OSc 159 X290 B at_158 3 rfl rfl ?_
            refine wicmpNo OSc 162 X290 B at_159 (by decide) rfl ?_
            refine waload OSc 164 X290 B at_162 rfl rfl rfl ?_
            refine wiload OSc 166 X290 B at_164 rfl rfl ?_
            refine wvirt OSc 169 X290 B hZ44 hown44 (ow hw 92 rfl) (ow hw 93 rfl) (ow hw 95 rfl) (ow hw 94 rfl) F291 (ow hw 96 rfl) (ow hw 27 rfl) rfl (rm11_1 l Z a0 hw [] o22 b_126 y0_290 y1_290 y2_290 (3 : Int32) T290.heap n0 F292 P290_0 ge_b_126 ne_o22_b_126) 0 (by decide) (by decide) hml rfl (lenOf pd__I_V rfl) [] rfl rfl at_166 rfl fun _ T306 L306 X306 hQ306 => ?_
            obtain ⟨rfl, N306q, K306q, P306_0⟩ := hQ306
            have N306 := Fr.app N290 N306q
            have K306 := K290.trans K306q (own_all1 (Or.inr sy_b_126))
            have F307 := F291.keep K306q
            have F308 := F292.keep K306q (own_nin1 ne_o22_b_126)
            refine own_stk (S' := []) rfl ?_
            have CR309 := CHr.trans CR293 (CHr.keep K306q (own_all1 (own_safeA hZ44.alike P290_0 (by decide))) CH293)
            have CH309 := CHv.keep K306q (own_all1 (own_safeA hZ44.alike P290_0 (by decide))) CH293
            have hk309 := Nat.le_trans hk293 K306q.1
            refine wiload OSc 171 X306 B at_169 rfl rfl ?_
            refine wifNo OSc 174 X306 B at_171 (by decide) rfl ?_
            refine wiload OSc 176 X306 B at_174 rfl rfl ?_
            refine wifYes OSc 183 X306 B at_176 (by decide) rfl ?_
            refine wiconst OSc 184 X306 B at_183 0 rfl rfl ?_
            refine wistore OSc 186 X306 B at_184 #[.val (.int p1), .val (.int p2), .val (.int p3), .val (.int p4), .val (.ref o1), .val (.ref o22), .val (.int (0 : Int32)), .val (.int (1 : Int32)), .val (.int (1 : Int32)), .val (.int (g0_1 p1 p2 p3 p4)), .val (.int (g0_14 p1 p2 p3 p4)), .val (.int (1 : Int32)), .val (.int (0 : Int32)), .unset, .unset, .unset, .unset] rfl rfl ?_
            refine wiload OSc 188 X306 B at_186 rfl rfl ?_
            refine wifYes OSc 197 X306 B at_188 (by decide) rfl ?_
            refine wiconst OSc 198 X306 B at_197 1 rfl rfl ?_
            refine wgoto OSc 202 X306 B at_198 rfl ?_
            refine wistore OSc 204 X306 B at_202 #[.val (.int p1), .val (.int p2), .val (.int p3), .val (.int p4), .val (.ref o1), .val (.ref o22), .val (.int (0 : Int32)), .val (.int (1 : Int32)), .val (.int (1 : Int32)), .val (.int (g0_1 p1 p2 p3 p4)), .val (.int (g0_14 p1 p2 p3 p4)), .val (.int (1 : Int32)), .val (.int (0 : Int32)), .val (.int (1 : Int32)), .unset, .unset, .unset] rfl rfl ?_
            refine wiload OSc 206 X306 B at_204 rfl rfl ?_
            refine wifYes OSc 215 X306 B at_206 (by decide) rfl ?_
            refine wiconst OSc 216 X306 B at_215 1 rfl rfl ?_
            refine wgoto OSc 220 X306 B at_216 rfl ?_
            refine wistore OSc 222 X306 B at_220 #[.val (.int p1), .val (.int p2), .val (.int p3), .val (.int p4), .val (.ref o1), .val (.ref o22), .val (.int (0 : Int32)), .val (.int (1 : Int32)), .val (.int (1 : Int32)), .val (.int (g0_1 p1 p2 p3 p4)), .val (.int (g0_14 p1 p2 p3 p4)), .val (.int (1 : Int32)), .val (.int (0 : Int32)), .val (.int (1 : Int32)), .val (.int (1 : Int32)), .unset, .unset] rfl rfl ?_
            refine wiloadN OSc 223 X306 B at_222 rfl rfl ?_
            refine own_stS (fun t k => X306.ldcInt hx hown44 (mvT hZ44 (ow hw 86 rfl)) (g := (mkF m 223 #[.val (.int p1), .val (.int p2), .val (.int p3), .val (.int p4), .val (.ref o1), .val (.ref o22), .val (.int (0 : Int32)), .val (.int (1 : Int32)), .val (.int (1 : Int32)), .val (.int (g0_1 p1 p2 p3 p4)), .val (.int (g0_14 p1 p2 p3 p4)), .val (.int (1 : Int32)), .val (.int (0 : Int32)), .val (.int (1 : Int32)), .val (.int (1 : Int32)), .unset, .unset] [(.int p4)])) rfl (hb hby at_223) _ k) ?_
            show OGS _ _ p e _ s below _ T306 (mkF m 225 #[.val (.int p1), .val (.int p2), .val (.int p3), .val (.int p4), .val (.ref o1), .val (.ref o22), .val (.int (0 : Int32)), .val (.int (1 : Int32)), .val (.int (1 : Int32)), .val (.int (g0_1 p1 p2 p3 p4)), .val (.int (g0_14 p1 p2 p3 p4)), .val (.int (1 : Int32)), .val (.int (0 : Int32)), .val (.int (1 : Int32)), .val (.int (1 : Int32)), .unset, .unset] [(.int (2147483647 : Int32)), (.int p4)])
            refine wiand OSc 226 X306 B at_225 rfl ?_
            refine wiconst OSc 227 X306 B at_226 4 rfl rfl ?_
            refine own_stS (fun t k => iremM X306 hx rfl (hb hby at_227) rfl (by decide) k) ?_
            show OGS _ _ p e _ s below _ T306 (mkF m 228 #[.val (.int p1), .val (.int p2), .val (.int p3), .val (.int p4), .val (.ref o1), .val (.ref o22), .val (.int (0 : Int32)), .val (.int (1 : Int32)), .val (.int (1 : Int32)), .val (.int (g0_1 p1 p2 p3 p4)), .val (.int (g0_14 p1 p2 p3 p4)), .val (.int (1 : Int32)), .val (.int (0 : Int32)), .val (.int (1 : Int32)), .val (.int (1 : Int32)), .unset, .unset] [(.int ((p4 &&& (2147483647 : Int32)) % (4 : Int32)))])
            refine wistore OSc 230 X306 B at_228 #[.val (.int p1), .val (.int p2), .val (.int p3), .val (.int p4), .val (.ref o1), .val (.ref o22), .val (.int (0 : Int32)), .val (.int (1 : Int32)), .val (.int (1 : Int32)), .val (.int (g0_1 p1 p2 p3 p4)), .val (.int (g0_14 p1 p2 p3 p4)), .val (.int (1 : Int32)), .val (.int (0 : Int32)), .val (.int (1 : Int32)), .val (.int (1 : Int32)), .val (.int (g0_4 p1 p2 p3 p4)), .unset] rfl rfl ?_
            refine waload OSc 232 X306 B at_230 rfl rfl rfl ?_
            refine wiload OSc 234 X306 B at_232 rfl rfl ?_
            refine wvirt OSc 237 X306 B hZ44 hown44 (ow hw 87 rfl) (ow hw 88 rfl) (ow hw 90 rfl) (ow hw 89 rfl) F307 (ow hw 91 rfl) (ow hw 27 rfl) rfl (rm10 l Z a0 hw [] o22 (g0_4 p1 p2 p3 p4) b_126 (0 : Int32) (1 : Int32) (1 : Int32) y0_290 (2 : Int32) y2_290 T306.heap n0 F308 P306_0 ge_b_126 ne_o22_b_126 (own_r4 p4) (own_gs1 xh290_0)) 0 (by decide) (by decide) hml rfl (lenOf pd__I_I rfl) [] rfl rfl at_234 rfl fun _ T310 L310 X310 hQ310 => ?_
            obtain ⟨rfl, N310q, K310q, y0_310, y1_310, y2_310, xh310_0, P310_0⟩ := hQ310
            have N310 := Fr.app N306 N310q
            have K310 := K306.trans K310q (own_all1 (Or.inr sy_b_126))
            have F311 := F307.keep K310q
            have F312 := F308.keep K310q (own_nin1 ne_o22_b_126)
            refine own_stk (S' := [(.int (f12 (0 : Int32) (1 : Int32) (1 : Int32) (g0_4 p1 p2 p3 p4)))]) rfl ?_
            have CR313 := CHr.trans CR309 (CHr.keep K310q (own_all1 (own_safeA hZ44.alike P306_0 (by decide))) CH309)
            have CH313 := CHv.keep K310q (own_all1 (own_safeA hZ44.alike P306_0 (by decide))) CH309
            have hk313 := Nat.le_trans hk309 K310q.1
            refine wistore OSc 239 X310 B at_237 #[.val (.int p1), .val (.int p2), .val (.int p3), .val (.int p4), .val (.ref o1), .val (.ref o22), .val (.int (0 : Int32)), .val (.int (1 : Int32)), .val (.int (1 : Int32)), .val (.int (g0_1 p1 p2 p3 p4)), .val (.int (g0_14 p1 p2 p3 p4)), .val (.int (1 : Int32)), .val (.int (0 : Int32)), .val (.int (1 : Int32)), .val (.int (1 : Int32)), .val (.int (g0_4 p1 p2 p3 p4)), .val (.int (g0_11 p1 p2 p3 p4))] rfl rfl ?_
            refine wiload OSc 241 X310 B at_239 rfl rfl ?_
            refine wiload OSc 243 X310 B at_241 rfl rfl ?_
            refine wiload OSc 245 X310 B at_243 rfl rfl ?_
            refine wiload OSc 247 X310 B at_245 rfl rfl ?_
            refine wiload OSc 249 X310 B at_247 rfl rfl ?_
            refine wstat OSc 252 X310 B hZ44 hown44 (ow hw 97 rfl) (ow hw 98 rfl) (ow hw 100 rfl) (ow hw 99 rfl) rfl (rm12 l Z a0 hw [] (0 : Int32) (1 : Int32) (1 : Int32) (g0_1 p1 p2 p3 p4) T310.heap) 1 (by decide) (by decide) hml rfl (lenOf pd__ZZZI_I rfl) [(.int (g0_14 p1 p2 p3 p4))] rfl rfl at_249 rfl fun _ T314 L314 X314 hQ314 => ?_
            obtain ⟨rfl, rfl, e314⟩ := hQ314
            have N314 := Fr.app N310 (Fr.nil n0)
            refine own_stk (S' := [(.int (f12 (0 : Int32) (1 : Int32) (1 : Int32) (g0_1 p1 p2 p3 p4))), (.int (g0_14 p1 p2 p3 p4))]) rfl ?_
            refine wicmpNo OSc 255 X314 B at_252 (teq rfl).2 rfl ?_
            refine wiload OSc 257 X314 B at_255 rfl rfl ?_
            refine wiload OSc 259 X314 B at_257 rfl rfl ?_
            refine wiload OSc 261 X314 B at_259 rfl rfl ?_
            refine wiload OSc 263 X314 B at_261 rfl rfl ?_
            refine wiload OSc 265 X314 B at_263 rfl rfl ?_
            refine wstat OSc 268 X314 B hZ44 hown44 (ow hw 97 rfl) (ow hw 98 rfl) (ow hw 100 rfl) (ow hw 99 rfl) e314 (rm12 l Z a0 hw [] (0 : Int32) (1 : Int32) (1 : Int32) (g0_4 p1 p2 p3 p4) T310.heap) 1 (by decide) (by decide) hml rfl (lenOf pd__ZZZI_I rfl) [(.int (g0_11 p1 p2 p3 p4))] rfl rfl at_265 rfl fun _ T315 L315 X315 hQ315 => ?_
            obtain ⟨rfl, rfl, e315⟩ := hQ315
            have N315 := Fr.app N314 (Fr.nil n0)
            refine own_stk (S' := [(.int (f12 (0 : Int32) (1 : Int32) (1 : Int32) (g0_4 p1 p2 p3 p4))), (.int (g0_11 p1 p2 p3 p4))]) rfl ?_
            refine wicmpNo OSc 271 X315 B at_268 (teq rfl).2 rfl ?_
            refine wiconst OSc 272 X315 B at_271 1 rfl rfl ?_
            refine wgoto OSc 276 X315 B at_272 rfl ?_
            refine own_endS X315 hlk hZ44 hEL e315 hs0 hS44 hk313 CH313 CR313 (v := some (.int (nar .boolean (1 : Int32)))) (fun h => by rw [hret] at h; cases h) (by decide) (by decide) ?_ (fun fs hr => retN X315 hx (t := .boolean) hret (by simp) (hb hby at_276) hr)
            exact ⟨congrArg (fun z => some (Value.int z)) (show f0 p1 p2 p3 p4 = (1 : Int32) from (by rw [f0, if_pos c138, if_neg c139, if_neg c233, if_neg c294, if_pos c305])).symm, N315⟩
          · skip
            by_cases c316 : (g0_3 p1 p2 p3 p4) = (2 : Int32)
            · rw [c316]
              show OGS _ _ p e _ s below _ T290 (mkF m 156 #[.val (.int p1), .val (.int p2), .val (.int p3), .val (.int p4), .val (.ref o1), .val (.ref o22), .val (.int (0 : Int32)), .val (.int (1 : Int32)), .val (.int (1 : Int32)), .val (.int (g0_1 p1 p2 p3 p4)), .val (.int (g0_14 p1 p2 p3 p4)), .val (.int (2 : Int32)), .unset, .unset, .unset, .unset, .unset] [])
              refine wiload OSc 158 X290 B at_156 rfl rfl ?_
              refine wiconst OSc 159 X290 B at_158 3 rfl rfl ?_
              refine wicmpNo OSc 162 X290 B at_159 (by decide) rfl ?_
              refine waload OSc 164 X290 B at_162 rfl rfl rfl ?_
              refine wiload OSc 166 X290 B at_164 rfl rfl ?_
              refine wvirt OSc 169 X290 B hZ44 hown44 (ow hw 92 rfl) (ow hw 93 rfl) (ow hw 95 rfl) (ow hw 94 rfl) F291 (ow hw 96 rfl) (ow hw 27 rfl) rfl (rm11_2 l Z a0 hw [] o22 b_126 y0_290 y1_290 y2_290 (3 : Int32) T290.heap n0 F292 P290_0 ge_b_126 ne_o22_b_126) 0 (by decide) (by decide) hml rfl (lenOf pd__I_V rfl) [] rfl rfl at_166 rfl fun _ T317 L317 X317 hQ317 => ?_
              obtain ⟨rfl, N317q, K317q, P317_0⟩ := hQ317
              have N317 := Fr.app N290 N317q
              have K317 := K290.trans K317q (own_all1 (Or.inr sy_b_126))
              have F318 := F291.keep K317q
              have F319 := F292.keep K317q (own_nin1 ne_o22_b_126)
              refine own_stk (S' := []) rfl ?_
              have CR320 := CHr.trans CR293 (CHr.keep K317q (own_all1 (own_safeA hZ44.alike P290_0 (by decide))) CH293)
              have CH320 := CHv.keep K317q (own_all1 (own_safeA hZ44.alike P290_0 (by decide))) CH293
              have hk320 := Nat.le_trans hk293 K317q.1
              refine wiload OSc 171 X317 B at_169 rfl rfl ?_
              refine wifNo OSc 174 X317 B at_171 (by decide) rfl ?_
              refine wiload OSc 176 X317 B at_174 rfl rfl ?_
              refine wifYes OSc 183 X317 B at_176 (by decide) rfl ?_
              refine wiconst OSc 184 X317 B at_183 0 rfl rfl ?_
              refine wistore OSc 186 X317 B at_184 #[.val (.int p1), .val (.int p2), .val (.int p3), .val (.int p4), .val (.ref o1), .val (.ref o22), .val (.int (0 : Int32)), .val (.int (1 : Int32)), .val (.int (1 : Int32)), .val (.int (g0_1 p1 p2 p3 p4)), .val (.int (g0_14 p1 p2 p3 p4)), .val (.int (2 : Int32)), .val (.int (0 : Int32)), .unset, .unset, .unset, .unset] rfl rfl ?_
              refine wiload OSc 188 X317 B at_186 rfl rfl ?_
              refine wifYes OSc 197 X317 B at_188 (by decide) rfl ?_
              refine wiconst OSc 198 X317 B at_197 1 rfl rfl ?_
              refine wgoto OSc 202 X317 B at_198 rfl ?_
              refine wistore OSc 204 X317 B at_202 #[.val (.int p1), .val (.int p2), .val (.int p3), .val (.int p4), .val (.ref o1), .val (.ref o22), .val (.int (0 : Int32)), .val (.int (1 : Int32)), .val (.int (1 : Int32)), .val (.int (g0_1 p1 p2 p3 p4)), .val (.int (g0_14 p1 p2 p3 p4)), .val (.int (2 : Int32)), .val (.int (0 : Int32)), .val (.int (1 : Int32)), .unset, .unset, .unset] rfl rfl ?_
              refine wiload OSc 206 X317 B at_204 rfl rfl ?_
              refine wifYes OSc 215 X317 B at_206 (by decide) rfl ?_
              refine wiconst OSc 216 X317 B at_215 1 rfl rfl ?_
              refine wgoto OSc 220 X317 B at_216 rfl ?_
              refine wistore OSc 222 X317 B at_220 #[.val (.int p1), .val (.int p2), .val (.int p3), .val (.int p4), .val (.ref o1), .val (.ref o22), .val (.int (0 : Int32)), .val (.int (1 : Int32)), .val (.int (1 : Int32)), .val (.int (g0_1 p1 p2 p3 p4)), .val (.int (g0_14 p1 p2 p3 p4)), .val (.int (2 : Int32)), .val (.int (0 : Int32)), .val (.int (1 : Int32)), .val (.int (1 : Int32)), .unset, .unset] rfl rfl ?_
              refine wiloadN OSc 223 X317 B at_222 rfl rfl ?_
              refine own_stS (fun t k => X317.ldcInt hx hown44 (mvT hZ44 (ow hw 86 rfl)) (g := (mkF m 223 #[.val (.int p1), .val (.int p2), .val (.int p3), .val (.int p4), .val (.ref o1), .val (.ref o22), .val (.int (0 : Int32)), .val (.int (1 : Int32)), .val (.int (1 : Int32)), .val (.int (g0_1 p1 p2 p3 p4)), .val (.int (g0_14 p1 p2 p3 p4)), .val (.int (2 : Int32)), .val (.int (0 : Int32)), .val (.int (1 : Int32)), .val (.int (1 : Int32)), .unset, .unset] [(.int p4)])) rfl (hb hby at_223) _ k) ?_
              show OGS _ _ p e _ s below _ T317 (mkF m 225 #[.val (.int p1), .val (.int p2), .val (.int p3), .val (.int p4), .val (.ref o1), .val (.ref o22), .val (.int (0 : Int32)), .val (.int (1 : Int32)), .val (.int (1 : Int32)), .val (.int (g0_1 p1 p2 p3 p4)), .val (.int (g0_14 p1 p2 p3 p4)), .val (.int (2 : Int32)), .val (.int (0 : Int32)), .val (.int (1 : Int32)), .val (.int (1 : Int32)), .unset, .unset] [(.int (2147483647 : Int32)), (.int p4)])
              refine wiand OSc 226 X317 B at_225 rfl ?_
              refine wiconst OSc 227 X317 B at_226 4 rfl rfl ?_
              refine own_stS (fun t k => iremM X317 hx rfl (hb hby at_227) rfl (by decide) k) ?_
              show OGS _ _ p e _ s below _ T317 (mkF m 228 #[.val (.int p1), .val (.int p2), .val (.int p3), .val (.int p4), .val (.ref o1), .val (.ref o22), .val (.int (0 : Int32)), .val (.int (1 : Int32)), .val (.int (1 : Int32)), .val (.int (g0_1 p1 p2 p3 p4)), .val (.int (g0_14 p1 p2 p3 p4)), .val (.int (2 : Int32)), .val (.int (0 : Int32)), .val (.int (1 : Int32)), .val (.int (1 : Int32)), .unset, .unset] [(.int ((p4 &&& (2147483647 : Int32)) % (4 : Int32)))])
              refine wistore OSc 230 X317 B at_228 #[.val (.int p1), .val (.int p2), .val (.int p3), .val (.int p4), .val (.ref o1), .val (.ref o22), .val (.int (0 : Int32)), .val (.int (1 : Int32)), .val (.int (1 : Int32)), .val (.int (g0_1 p1 p2 p3 p4)), .val (.int (g0_14 p1 p2 p3 p4)), .val (.int (2 : Int32)), .val (.int (0 : Int32)), .val (.int (1 : Int32)), .val (.int (1 : Int32)), .val (.int (g0_4 p1 p2 p3 p4)), .unset] rfl rfl ?_
              refine waload OSc 232 X317 B at_230 rfl rfl rfl ?_
              refine wiload OSc 234 X317 B at_232 rfl rfl ?_
              refine wvirt OSc 237 X317 B hZ44 hown44 (ow hw 87 rfl) (ow hw 88 rfl) (ow hw 90 rfl) (ow hw 89 rfl) F318 (ow hw 91 rfl) (ow hw 27 rfl) rfl (rm10 l Z a0 hw [] o22 (g0_4 p1 p2 p3 p4) b_126 (0 : Int32) (1 : Int32) (1 : Int32) y0_290 y1_290 (3 : Int32) T317.heap n0 F319 P317_0 ge_b_126 ne_o22_b_126 (own_r4 p4) (own_gs2 xh290_0)) 0 (by decide) (by decide) hml rfl (lenOf pd__I_I rfl) [] rfl rfl at_234 rfl fun _ T321 L321 X321 hQ321 => ?_
              obtain ⟨rfl, N321q, K321q, y0_321, y1_321, y2_321, xh321_0, P321_0⟩ := hQ321
              have N321 := Fr.app N317 N321q
              have K321 := K317.trans K321q (own_all1 (Or.inr sy_b_126))
              have F322 := F318.keep K321q
              have F323 := F319.keep K321q (own_nin1 ne_o22_b_126)
              refine own_stk (S' := [(.int (f12 (0 : Int32) (1 : Int32) (1 : Int32) (g0_4 p1 p2 p3 p4)))]) rfl ?_
              have CR324 := CHr.trans CR320 (CHr.keep K321q (own_all1 (own_safeA hZ44.alike P317_0 (by decide))) CH320)
              have CH324 := CHv.keep K321q (own_all1 (own_safeA hZ44.alike P317_0 (by decide))) CH320
              have hk324 := Nat.le_trans hk320 K321q.1
              refine wistore OSc 239 X321 B at_237 #[.val (.int p1), .val (.int p2), .val (.int p3), .val (.int p4), .val (.ref o1), .val (.ref o22), .val (.int (0 : Int32)), .val (.int (1 : Int32)), .val (.int (1 : Int32)), .val (.int (g0_1 p1 p2 p3 p4)), .val (.int (g0_14 p1 p2 p3 p4)), .val (.int (2 : Int32)), .val (.int (0 : Int32)), .val (.int (1 : Int32)), .val (.int (1 : Int32)), .val (.int (g0_4 p1 p2 p3 p4)), .val (.int (g0_11 p1 p2 p3 p4))] rfl rfl ?_
              refine wiload OSc 241 X321 B at_239 rfl rfl ?_
              refine wiload OSc 243 X321 B at_241 rfl rfl ?_
              refine wiload OSc 245 X321 B at_243 rfl rfl ?_
              refine wiload OSc 247 X321 B at_245 rfl rfl ?_
              refine wiload OSc 249 X321 B at_247 rfl rfl ?_
              refine wstat OSc 252 X321 B hZ44 hown44 (ow hw 97 rfl) (ow hw 98 rfl) (ow hw 100 rfl) (ow hw 99 rfl) rfl (rm12 l Z a0 hw [] (0 : Int32) (1 : Int32) (1 : Int32) (g0_1 p1 p2 p3 p4) T321.heap) 1 (by decide) (by decide) hml rfl (lenOf pd__ZZZI_I rfl) [(.int (g0_14 p1 p2 p3 p4))] rfl rfl at_249 rfl fun _ T325 L325 X325 hQ325 => ?_
              obtain ⟨rfl, rfl, e325⟩ := hQ325
              have N325 := Fr.app N321 (Fr.nil n0)
              refine own_stk (S' := [(.int (f12 (0 : Int32) (1 : Int32) (1 : Int32) (g0_1 p1 p2 p3 p4))), (.int (g0_14 p1 p2 p3 p4))]) rfl ?_
              refine wicmpNo OSc 255 X325 B at_252 (teq rfl).2 rfl ?_
              refine wiload OSc 257 X325 B at_255 rfl rfl ?_
              refine wiload OSc 259 X325 B at_257 rfl rfl ?_
              refine wiload OSc 261 X325 B at_259 rfl rfl ?_
              refine wiload OSc 263 X325 B at_261 rfl rfl ?_
              refine wiload OSc 265 X325 B at_263 rfl rfl ?_
              refine wstat OSc 268 X325 B hZ44 hown44 (ow hw 97 rfl) (ow hw 98 rfl) (ow hw 100 rfl) (ow hw 99 rfl) e325 (rm12 l Z a0 hw [] (0 : Int32) (1 : Int32) (1 : Int32) (g0_4 p1 p2 p3 p4) T321.heap) 1 (by decide) (by decide) hml rfl (lenOf pd__ZZZI_I rfl) [(.int (g0_11 p1 p2 p3 p4))] rfl rfl at_265 rfl fun _ T326 L326 X326 hQ326 => ?_
              obtain ⟨rfl, rfl, e326⟩ := hQ326
              have N326 := Fr.app N325 (Fr.nil n0)
              refine own_stk (S' := [(.int (f12 (0 : Int32) (1 : Int32) (1 : Int32) (g0_4 p1 p2 p3 p4))), (.int (g0_11 p1 p2 p3 p4))]) rfl ?_
              refine wicmpNo OSc 271 X326 B at_268 (teq rfl).2 rfl ?_
              refine wiconst OSc 272 X326 B at_271 1 rfl rfl ?_
              refine wgoto OSc 276 X326 B at_272 rfl ?_
              refine own_endS X326 hlk hZ44 hEL e326 hs0 hS44 hk324 CH324 CR324 (v := some (.int (nar .boolean (1 : Int32)))) (fun h => by rw [hret] at h; cases h) (by decide) (by decide) ?_ (fun fs hr => retN X326 hx (t := .boolean) hret (by simp) (hb hby at_276) hr)
              exact ⟨congrArg (fun z => some (Value.int z)) (show f0 p1 p2 p3 p4 = (1 : Int32) from (by rw [f0, if_pos c138, if_neg c139, if_neg c233, if_neg c294, if_neg c305, if_pos c316])).symm, N326⟩
            · skip
              by_cases c327 : (g0_3 p1 p2 p3 p4) = (3 : Int32)
              · rw [c327]
                show OGS _ _ p e _ s below _ T290 (mkF m 156 #[.val (.int p1), .val (.int p2), .val (.int p3), .val (.int p4), .val (.ref o1), .val (.ref o22), .val (.int (0 : Int32)), .val (.int (1 : Int32)), .val (.int (1 : Int32)), .val (.int (g0_1 p1 p2 p3 p4)), .val (.int (g0_14 p1 p2 p3 p4)), .val (.int (3 : Int32)), .unset, .unset, .unset, .unset, .unset] [])
                refine wiload OSc 158 X290 B at_156 rfl rfl ?_
                refine wiconst OSc 159 X290 B at_158 3 rfl rfl ?_
                refine wicmpYes OSc 169 X290 B at_159 (by decide) rfl ?_
                refine wiload OSc 171 X290 B at_169 rfl rfl ?_
                refine wifNo OSc 174 X290 B at_171 (by decide) rfl ?_
                refine wiload OSc 176 X290 B at_174 rfl rfl ?_
                refine wifYes OSc 183 X290 B at_176 (by decide) rfl ?_
                refine wiconst OSc 184 X290 B at_183 0 rfl rfl ?_
                refine wistore OSc 186 X290 B at_184 #[.val (.int p1), .val (.int p2), .val (.int p3), .val (.int p4), .val (.ref o1), .val (.ref o22), .val (.int (0 : Int32)), .val (.int (1 : Int32)), .val (.int (1 : Int32)), .val (.int (g0_1 p1 p2 p3 p4)), .val (.int (g0_14 p1 p2 p3 p4)), .val (.int (3 : Int32)), .val (.int (0 : Int32)), .unset, .unset, .unset, .unset] rfl rfl ?_
                refine wiload OSc 188 X290 B at_186 rfl rfl ?_
                refine wifYes OSc 197 X290 B at_188 (by decide) rfl ?_
                refine wiconst OSc 198 X290 B at_197 1 rfl rfl ?_
                refine wgoto OSc 202 X290 B at_198 rfl ?_
                refine wistore OSc 204 X290 B at_202 #[.val (.int p1), .val (.int p2), .val (.int p3), .val (.int p4), .val (.ref o1), .val (.ref o22), .val (.int (0 : Int32)), .val (.int (1 : Int32)), .val (.int (1 : Int32)), .val (.int (g0_1 p1 p2 p3 p4)), .val (.int (g0_14 p1 p2 p3 p4)), .val (.int (3 : Int32)), .val (.int (0 : Int32)), .val (.int (1 : Int32)), .unset, .unset, .unset] rfl rfl ?_
                refine wiload OSc 206 X290 B at_204 rfl rfl ?_
                refine wifYes OSc 215 X290 B at_206 (by decide) rfl ?_
                refine wiconst OSc 216 X290 B at_215 1 rfl rfl ?_
                refine wgoto OSc 220 X290 B at_216 rfl ?_
                refine wistore OSc 222 X290 B at_220 #[.val (.int p1), .val (.int p2), .val (.int p3), .val (.int p4), .val (.ref o1), .val (.ref o22), .val (.int (0 : Int32)), .val (.int (1 : Int32)), .val (.int (1 : Int32)), .val (.int (g0_1 p1 p2 p3 p4)), .val (.int (g0_14 p1 p2 p3 p4)), .val (.int (3 : Int32)), .val (.int (0 : Int32)), .val (.int (1 : Int32)), .val (.int (1 : Int32)), .unset, .unset] rfl rfl ?_
                refine wiloadN OSc 223 X290 B at_222 rfl rfl ?_
                refine own_stS (fun t k => X290.ldcInt hx hown44 (mvT hZ44 (ow hw 86 rfl)) (g := (mkF m 223 #[.val (.int p1), .val (.int p2), .val (.int p3), .val (.int p4), .val (.ref o1), .val (.ref o22), .val (.int (0 : Int32)), .val (.int (1 : Int32)), .val (.int (1 : Int32)), .val (.int (g0_1 p1 p2 p3 p4)), .val (.int (g0_14 p1 p2 p3 p4)), .val (.int (3 : Int32)), .val (.int (0 : Int32)), .val (.int (1 : Int32)), .val (.int (1 : Int32)), .unset, .unset] [(.int p4)])) rfl (hb hby at_223) _ k) ?_
                show OGS _ _ p e _ s below _ T290 (mkF m 225 #[.val (.int p1), .val (.int p2), .val (.int p3), .val (.int p4), .val (.ref o1), .val (.ref o22), .val (.int (0 : Int32)), .val (.int (1 : Int32)), .val (.int (1 : Int32)), .val (.int (g0_1 p1 p2 p3 p4)), .val (.int (g0_14 p1 p2 p3 p4)), .val (.int (3 : Int32)), .val (.int (0 : Int32)), .val (.int (1 : Int32)), .val (.int (1 : Int32)), .unset, .unset] [(.int (2147483647 : Int32)), (.int p4)])
                refine wiand OSc 226 X290 B at_225 rfl ?_
                refine wiconst OSc 227 X290 B at_226 4 rfl rfl ?_
                refine own_stS (fun t k => iremM X290 hx rfl (hb hby at_227) rfl (by decide) k) ?_
                show OGS _ _ p e _ s below _ T290 (mkF m 228 #[.val (.int p1), .val (.int p2), .val (.int p3), .val (.int p4), .val (.ref o1), .val (.ref o22), .val (.int (0 : Int32)), .val (.int (1 : Int32)), .val (.int (1 : Int32)), .val (.int (g0_1 p1 p2 p3 p4)), .val (.int (g0_14 p1 p2 p3 p4)), .val (.int (3 : Int32)), .val (.int (0 : Int32)), .val (.int (1 : Int32)), .val (.int (1 : Int32)), .unset, .unset] [(.int ((p4 &&& (2147483647 : Int32)) % (4 : Int32)))])
                refine wistore OSc 230 X290 B at_228 #[.val (.int p1), .val (.int p2), .val (.int p3), .val (.int p4), .val (.ref o1), .val (.ref o22), .val (.int (0 : Int32)), .val (.int (1 : Int32)), .val (.int (1 : Int32)), .val (.int (g0_1 p1 p2 p3 p4)), .val (.int (g0_14 p1 p2 p3 p4)), .val (.int (3 : Int32)), .val (.int (0 : Int32)), .val (.int (1 : Int32)), .val (.int (1 : Int32)), .val (.int (g0_4 p1 p2 p3 p4)), .unset] rfl rfl ?_
                refine waload OSc 232 X290 B at_230 rfl rfl rfl ?_
                refine wiload OSc 234 X290 B at_232 rfl rfl ?_
                refine wvirt OSc 237 X290 B hZ44 hown44 (ow hw 87 rfl) (ow hw 88 rfl) (ow hw 90 rfl) (ow hw 89 rfl) F291 (ow hw 91 rfl) (ow hw 27 rfl) rfl (rm10 l Z a0 hw [] o22 (g0_4 p1 p2 p3 p4) b_126 (0 : Int32) (1 : Int32) (1 : Int32) y0_290 y1_290 y2_290 T290.heap n0 F292 P290_0 ge_b_126 ne_o22_b_126 (own_r4 p4) xh290_0) 0 (by decide) (by decide) hml rfl (lenOf pd__I_I rfl) [] rfl rfl at_234 rfl fun _ T328 L328 X328 hQ328 => ?_
                obtain ⟨rfl, N328q, K328q, y0_328, y1_328, y2_328, xh328_0, P328_0⟩ := hQ328
                have N328 := Fr.app N290 N328q
                have K328 := K290.trans K328q (own_all1 (Or.inr sy_b_126))
                have F329 := F291.keep K328q
                have F330 := F292.keep K328q (own_nin1 ne_o22_b_126)
                refine own_stk (S' := [(.int (f12 (0 : Int32) (1 : Int32) (1 : Int32) (g0_4 p1 p2 p3 p4)))]) rfl ?_
                have CR331 := CHr.trans CR293 (CHr.keep K328q (own_all1 (own_safeA hZ44.alike P290_0 (by decide))) CH293)
                have CH331 := CHv.keep K328q (own_all1 (own_safeA hZ44.alike P290_0 (by decide))) CH293
                have hk331 := Nat.le_trans hk293 K328q.1
                refine wistore OSc 239 X328 B at_237 #[.val (.int p1), .val (.int p2), .val (.int p3), .val (.int p4), .val (.ref o1), .val (.ref o22), .val (.int (0 : Int32)), .val (.int (1 : Int32)), .val (.int (1 : Int32)), .val (.int (g0_1 p1 p2 p3 p4)), .val (.int (g0_14 p1 p2 p3 p4)), .val (.int (3 : Int32)), .val (.int (0 : Int32)), .val (.int (1 : Int32)), .val (.int (1 : Int32)), .val (.int (g0_4 p1 p2 p3 p4)), .val (.int (g0_11 p1 p2 p3 p4))] rfl rfl ?_
                refine wiload OSc 241 X328 B at_239 rfl rfl ?_
                refine wiload OSc 243 X328 B at_241 rfl rfl ?_
                refine wiload OSc 245 X328 B at_243 rfl rfl ?_
                refine wiload OSc 247 X328 B at_245 rfl rfl ?_
                refine wiload OSc 249 X328 B at_247 rfl rfl ?_
                refine wstat OSc 252 X328 B hZ44 hown44 (ow hw 97 rfl) (ow hw 98 rfl) (ow hw 100 rfl) (ow hw 99 rfl) rfl (rm12 l Z a0 hw [] (0 : Int32) (1 : Int32) (1 : Int32) (g0_1 p1 p2 p3 p4) T328.heap) 1 (by decide) (by decide) hml rfl (lenOf pd__ZZZI_I rfl) [(.int (g0_14 p1 p2 p3 p4))] rfl rfl at_249 rfl fun _ T332 L332 X332 hQ332 => ?_
                obtain ⟨rfl, rfl, e332⟩ := hQ332
                have N332 := Fr.app N328 (Fr.nil n0)
                refine own_stk (S' := [(.int (f12 (0 : Int32) (1 : Int32) (1 : Int32) (g0_1 p1 p2 p3 p4))), (.int (g0_14 p1 p2 p3 p4))]) rfl ?_
                refine wicmpNo OSc 255 X332 B at_252 (teq rfl).2 rfl ?_
                refine wiload OSc 257 X332 B at_255 rfl rfl ?_
                refine wiload OSc 259 X332 B at_257 rfl rfl ?_
                refine wiload OSc 261 X332 B at_259 rfl rfl ?_
                refine wiload OSc 263 X332 B at_261 rfl rfl ?_
                refine wiload OSc 265 X332 B at_263 rfl rfl ?_
                refine wstat OSc 268 X332 B hZ44 hown44 (ow hw 97 rfl) (ow hw 98 rfl) (ow hw 100 rfl) (ow hw 99 rfl) e332 (rm12 l Z a0 hw [] (0 : Int32) (1 : Int32) (1 : Int32) (g0_4 p1 p2 p3 p4) T328.heap) 1 (by decide) (by decide) hml rfl (lenOf pd__ZZZI_I rfl) [(.int (g0_11 p1 p2 p3 p4))] rfl rfl at_265 rfl fun _ T333 L333 X333 hQ333 => ?_
                obtain ⟨rfl, rfl, e333⟩ := hQ333
                have N333 := Fr.app N332 (Fr.nil n0)
                refine own_stk (S' := [(.int (f12 (0 : Int32) (1 : Int32) (1 : Int32) (g0_4 p1 p2 p3 p4))), (.int (g0_11 p1 p2 p3 p4))]) rfl ?_
                refine wicmpNo OSc 271 X333 B at_268 (teq rfl).2 rfl ?_
                refine wiconst OSc 272 X333 B at_271 1 rfl rfl ?_
                refine wgoto OSc 276 X333 B at_272 rfl ?_
                refine own_endS X333 hlk hZ44 hEL e333 hs0 hS44 hk331 CH331 CR331 (v := some (.int (nar .boolean (1 : Int32)))) (fun h => by rw [hret] at h; cases h) (by decide) (by decide) ?_ (fun fs hr => retN X333 hx (t := .boolean) hret (by simp) (hb hby at_276) hr)
                exact ⟨congrArg (fun z => some (Value.int z)) (show f0 p1 p2 p3 p4 = (1 : Int32) from (by rw [f0, if_pos c138, if_neg c139, if_neg c233, if_neg c294, if_neg c305, if_neg c316, if_pos c327])).symm, N333⟩
              · skip
                exact (own_r4n p1 p2 p3 p4 c294 c305 c316 c327).elim
  · refine wifNo OSc 65 X126 B at_62 (own_if0 (feq c138).1) rfl ?_
    refine wiconst OSc 66 X126 B at_65 1 rfl rfl ?_
    refine wgoto OSc 70 X126 B at_66 rfl ?_
    refine wistore OSc 72 X126 B at_70 #[.val (.int p1), .val (.int p2), .val (.int p3), .val (.int p4), .val (.ref o1), .val (.ref o22), .val (.int (1 : Int32)), .unset, .unset, .unset, .unset, .unset, .unset, .unset, .unset, .unset, .unset] rfl rfl ?_
    refine wiloadN OSc 73 X126 B at_72 rfl rfl ?_
    refine wiconst OSc 74 X126 B at_73 2 rfl rfl ?_
    refine wiand OSc 75 X126 B at_74 rfl ?_
    by_cases c334 : (p1 &&& (2 : Int32)) = (0 : Int32)
    · refine wifYes OSc 82 X126 B at_75 (own_if0 (teq c334).1) rfl ?_
      refine wiconst OSc 83 X126 B at_82 0 rfl rfl ?_
      refine wistore OSc 85 X126 B at_83 #[.val (.int p1), .val (.int p2), .val (.int p3), .val (.int p4), .val (.ref o1), .val (.ref o22), .val (.int (1 : Int32)), .val (.int (0 : Int32)), .unset, .unset, .unset, .unset, .unset, .unset, .unset, .unset, .unset] rfl rfl ?_
      refine wiloadN OSc 86 X126 B at_85 rfl rfl ?_
      refine wiconst OSc 87 X126 B at_86 4 rfl rfl ?_
      refine wiand OSc 88 X126 B at_87 rfl ?_
      by_cases c335 : (p1 &&& (4 : Int32)) = (0 : Int32)
      · refine wifYes OSc 95 X126 B at_88 (own_if0 (teq c335).1) rfl ?_
        refine wiconst OSc 96 X126 B at_95 0 rfl rfl ?_
        refine wistore OSc 98 X126 B at_96 #[.val (.int p1), .val (.int p2), .val (.int p3), .val (.int p4), .val (.ref o1), .val (.ref o22), .val (.int (1 : Int32)), .val (.int (0 : Int32)), .val (.int (0 : Int32)), .unset, .unset, .unset, .unset, .unset, .unset, .unset, .unset] rfl rfl ?_
        refine wiload OSc 100 X126 B at_98 rfl rfl ?_
        refine wifNo OSc 103 X126 B at_100 (by decide) rfl ?_
        refine waload OSc 105 X126 B at_103 rfl rfl rfl ?_
        refine wiconst OSc 106 X126 B at_105 0 rfl rfl ?_
        refine wvirt OSc 109 X126 B hZ44 hown44 (ow hw 92 rfl) (ow hw 93 rfl) (ow hw 95 rfl) (ow hw 94 rfl) P126_0 (ow hw 96 rfl) (ow hw 27 rfl) rfl (rm11_0 l Z a0 hw [] o22 b_126 (0 : Int32) (1 : Int32) (2 : Int32) (3 : Int32) T126.heap n0 P126_1 P126_2 ge_b_126 ne_o22_b_126) 0 (by decide) (by decide) hml rfl (lenOf pd__I_V rfl) [] rfl rfl at_106 rfl fun _ T336 L336 X336 hQ336 => ?_
        obtain ⟨rfl, N336q, K336q, P336_0⟩ := hQ336
        have N336 := Fr.app N126 N336q
        have K336 := K126.trans K336q (own_all1 (Or.inr sy_b_126))
        have F337 := P126_0.keep K336q
        have F338 := P126_1.keep K336q (own_nin1 ne_o22_b_126)
        refine own_stk (S' := []) rfl ?_
        have CR339 := CHr.trans CR137 (CHr.keep K336q (own_all1 (own_safeA hZ44.alike P126_2 (by decide))) CH137)
        have CH339 := CHv.keep K336q (own_all1 (own_safeA hZ44.alike P126_2 (by decide))) CH137
        have hk339 := Nat.le_trans hk137 K336q.1
        refine wiload OSc 111 X336 B at_109 rfl rfl ?_
        refine wifYes OSc 120 X336 B at_111 (by decide) rfl ?_
        refine wiload OSc 122 X336 B at_120 rfl rfl ?_
        refine wifYes OSc 131 X336 B at_122 (by decide) rfl ?_
        refine wiloadN OSc 132 X336 B at_131 rfl rfl ?_
        refine own_stS (fun t k => X336.ldcInt hx hown44 (mvT hZ44 (ow hw 86 rfl)) (g := (mkF m 132 #[.val (.int p1), .val (.int p2), .val (.int p3), .val (.int p4), .val (.ref o1), .val (.ref o22), .val (.int (1 : Int32)), .val (.int (0 : Int32)), .val (.int (0 : Int32)), .unset, .unset, .unset, .unset, .unset, .unset, .unset, .unset] [(.int p2)])) rfl (hb hby at_132) _ k) ?_
        show OGS _ _ p e _ s below _ T336 (mkF m 134 #[.val (.int p1), .val (.int p2), .val (.int p3), .val (.int p4), .val (.ref o1), .val (.ref o22), .val (.int (1 : Int32)), .val (.int (0 : Int32)), .val (.int (0 : Int32)), .unset, .unset, .unset, .unset, .unset, .unset, .unset, .unset] [(.int (2147483647 : Int32)), (.int p2)])
        refine wiand OSc 135 X336 B at_134 rfl ?_
        refine wiconst OSc 136 X336 B at_135 4 rfl rfl ?_
        refine own_stS (fun t k => iremM X336 hx rfl (hb hby at_136) rfl (by decide) k) ?_
        show OGS _ _ p e _ s below _ T336 (mkF m 137 #[.val (.int p1), .val (.int p2), .val (.int p3), .val (.int p4), .val (.ref o1), .val (.ref o22), .val (.int (1 : Int32)), .val (.int (0 : Int32)), .val (.int (0 : Int32)), .unset, .unset, .unset, .unset, .unset, .unset, .unset, .unset] [(.int ((p2 &&& (2147483647 : Int32)) % (4 : Int32)))])
        refine wistore OSc 139 X336 B at_137 #[.val (.int p1), .val (.int p2), .val (.int p3), .val (.int p4), .val (.ref o1), .val (.ref o22), .val (.int (1 : Int32)), .val (.int (0 : Int32)), .val (.int (0 : Int32)), .val (.int (g0_1 p1 p2 p3 p4)), .unset, .unset, .unset, .unset, .unset, .unset, .unset] rfl rfl ?_
        refine waload OSc 141 X336 B at_139 rfl rfl rfl ?_
        refine wiload OSc 143 X336 B at_141 rfl rfl ?_
        refine wvirt OSc 146 X336 B hZ44 hown44 (ow hw 87 rfl) (ow hw 88 rfl) (ow hw 90 rfl) (ow hw 89 rfl) F337 (ow hw 91 rfl) (ow hw 27 rfl) rfl (rm10 l Z a0 hw [] o22 (g0_1 p1 p2 p3 p4) b_126 (1 : Int32) (0 : Int32) (0 : Int32) (1 : Int32) (1 : Int32) (2 : Int32) T336.heap n0 F338 P336_0 ge_b_126 ne_o22_b_126 (own_r4 p2) (Or.inr (Or.inr (Or.inr (Or.inr (Or.inr (Or.inl ⟨rfl, rfl, rfl, rfl, rfl, rfl⟩))))))) 0 (by decide) (by decide) hml rfl (lenOf pd__I_I rfl) [] rfl rfl at_143 rfl fun _ T340 L340 X340 hQ340 => ?_
        obtain ⟨rfl, N340q, K340q, y0_340, y1_340, y2_340, xh340_0, P340_0⟩ := hQ340
        have N340 := Fr.app N336 N340q
        have K340 := K336.trans K340q (own_all1 (Or.inr sy_b_126))
        have F341 := F337.keep K340q
        have F342 := F338.keep K340q (own_nin1 ne_o22_b_126)
        refine own_stk (S' := [(.int (f12 (1 : Int32) (0 : Int32) (0 : Int32) (g0_1 p1 p2 p3 p4)))]) rfl ?_
        have CR343 := CHr.trans CR339 (CHr.keep K340q (own_all1 (own_safeA hZ44.alike P336_0 (by decide))) CH339)
        have CH343 := CHv.keep K340q (own_all1 (own_safeA hZ44.alike P336_0 (by decide))) CH339
        have hk343 := Nat.le_trans hk339 K340q.1
        refine wistore OSc 148 X340 B at_146 #[.val (.int p1), .val (.int p2), .val (.int p3), .val (.int p4), .val (.ref o1), .val (.ref o22), .val (.int (1 : Int32)), .val (.int (0 : Int32)), .val (.int (0 : Int32)), .val (.int (g0_1 p1 p2 p3 p4)), .val (.int (g0_16 p1 p2 p3 p4)), .unset, .unset, .unset, .unset, .unset, .unset] rfl rfl ?_
        refine wiloadN OSc 149 X340 B at_148 rfl rfl ?_
        refine own_stS (fun t k => X340.ldcInt hx hown44 (mvT hZ44 (ow hw 86 rfl)) (g := (mkF m 149 #[.val (.int p1), .val (.int p2), .val (.int p3), .val (.int p4), .val (.ref o1), .val (.ref o22), .val (.int (1 : Int32)), .val (.int (0 : Int32)), .val (.int (0 : Int32)), .val (.int (g0_1 p1 p2 p3 p4)), .val (.int (g0_16 p1 p2 p3 p4)), .unset, .unset, .unset, .unset, .unset, .unset] [(.int p3)])) rfl (hb hby at_149) _ k) ?_
        show OGS _ _ p e _ s below _ T340 (mkF m 151 #[.val (.int p1), .val (.int p2), .val (.int p3), .val (.int p4), .val (.ref o1), .val (.ref o22), .val (.int (1 : Int32)), .val (.int (0 : Int32)), .val (.int (0 : Int32)), .val (.int (g0_1 p1 p2 p3 p4)), .val (.int (g0_16 p1 p2 p3 p4)), .unset, .unset, .unset, .unset, .unset, .unset] [(.int (2147483647 : Int32)), (.int p3)])
        refine wiand OSc 152 X340 B at_151 rfl ?_
        refine wiconst OSc 153 X340 B at_152 4 rfl rfl ?_
        refine own_stS (fun t k => iremM X340 hx rfl (hb hby at_153) rfl (by decide) k) ?_
        show OGS _ _ p e _ s below _ T340 (mkF m 154 #[.val (.int p1), .val (.int p2), .val (.int p3), .val (.int p4), .val (.ref o1), .val (.ref o22), .val (.int (1 : Int32)), .val (.int (0 : Int32)), .val (.int (0 : Int32)), .val (.int (g0_1 p1 p2 p3 p4)), .val (.int (g0_16 p1 p2 p3 p4)), .unset, .unset, .unset, .unset, .unset, .unset] [(.int ((p3 &&& (2147483647 : Int32)) % (4 : Int32)))])
        refine wistore OSc 156 X340 B at_154 #[.val (.int p1), .val (.int p2), .val (.int p3), .val (.int p4), .val (.ref o1), .val (.ref o22), .val (.int (1 : Int32)), .val (.int (0 : Int32)), .val (.int (0 : Int32)), .val (.int (g0_1 p1 p2 p3 p4)), .val (.int (g0_16 p1 p2 p3 p4)), .val (.int (g0_3 p1 p2 p3 p4)), .unset, .unset, .unset, .unset, .unset] rfl rfl ?_
        by_cases c344 : (g0_3 p1 p2 p3 p4) = (0 : Int32)
        · rw [c344]
          show OGS _ _ p e _ s below _ T340 (mkF m 156 #[.val (.int p1), .val (.int p2), .val (.int p3), .val (.int p4), .val (.ref o1), .val (.ref o22), .val (.int (1 : Int32)), .val (.int (0 : Int32)), .val (.int (0 : Int32)), .val (.int (g0_1 p1 p2 p3 p4)), .val (.int (g0_16 p1 p2 p3 p4)), .val (.int (0 : Int32)), .unset, .unset, .unset, .unset, .unset] [])
          refine wiload OSc 158 X340 B at_156 rfl rfl ?_
          refine wiconst OSc 159 X340 B at_158 3 rfl rfl ?_
          refine wicmpNo OSc 162 X340 B at_159 (by decide) rfl ?_
          refine waload OSc 164 X340 B at_162 rfl rfl rfl ?_
          refine wiload OSc 166 X340 B at_164 rfl rfl ?_
          refine wvirt OSc 169 X340 B hZ44 hown44 (ow hw 92 rfl) (ow hw 93 rfl) (ow hw 95 rfl) (ow hw 94 rfl) F341 (ow hw 96 rfl) (ow hw 27 rfl) rfl (rm11_0 l Z a0 hw [] o22 b_126 y0_340 y1_340 y2_340 (3 : Int32) T340.heap n0 F342 P340_0 ge_b_126 ne_o22_b_126) 0 (by decide) (by decide) hml rfl (lenOf pd__I_V rfl) [] rfl rfl at_166 rfl fun _ T345 L345 X345 hQ345 => ?_
          obtain ⟨rfl, N345q, K345q, P345_0⟩ := hQ345
          have N345 := Fr.app N340 N345q
          have K345 := K340.trans K345q (own_all1 (Or.inr sy_b_126))
          have F346 := F341.keep K345q
          have F347 := F342.keep K345q (own_nin1 ne_o22_b_126)
          refine own_stk (S' := []) rfl ?_
          have CR348 := CHr.trans CR343 (CHr.keep K345q (own_all1 (own_safeA hZ44.alike P340_0 (by decide))) CH343)
          have CH348 := CHv.keep K345q (own_all1 (own_safeA hZ44.alike P340_0 (by decide))) CH343
          have hk348 := Nat.le_trans hk343 K345q.1
          refine wiload OSc 171 X345 B at_169 rfl rfl ?_
          refine wifYes OSc 179 X345 B at_171 (by decide) rfl ?_
          refine wiconst OSc 180 X345 B at_179 1 rfl rfl ?_
          refine wgoto OSc 184 X345 B at_180 rfl ?_
          refine wistore OSc 186 X345 B at_184 #[.val (.int p1), .val (.int p2), .val (.int p3), .val (.int p4), .val (.ref o1), .val (.ref o22), .val (.int (1 : Int32)), .val (.int (0 : Int32)), .val (.int (0 : Int32)), .val (.int (g0_1 p1 p2 p3 p4)), .val (.int (g0_16 p1 p2 p3 p4)), .val (.int (0 : Int32)), .val (.int (1 : Int32)), .unset, .unset, .unset, .unset] rfl rfl ?_
          refine wiload OSc 188 X345 B at_186 rfl rfl ?_
          refine wifNo OSc 191 X345 B at_188 (by decide) rfl ?_
          refine wiload OSc 193 X345 B at_191 rfl rfl ?_
          refine wiconst OSc 194 X345 B at_193 1 rfl rfl ?_
          refine wicmpYes OSc 201 X345 B at_194 (by decide) rfl ?_
          refine wiconst OSc 202 X345 B at_201 0 rfl rfl ?_
          refine wistore OSc 204 X345 B at_202 #[.val (.int p1), .val (.int p2), .val (.int p3), .val (.int p4), .val (.ref o1), .val (.ref o22), .val (.int (1 : Int32)), .val (.int (0 : Int32)), .val (.int (0 : Int32)), .val (.int (g0_1 p1 p2 p3 p4)), .val (.int (g0_16 p1 p2 p3 p4)), .val (.int (0 : Int32)), .val (.int (1 : Int32)), .val (.int (0 : Int32)), .unset, .unset, .unset] rfl rfl ?_
          refine wiload OSc 206 X345 B at_204 rfl rfl ?_
          refine wifNo OSc 209 X345 B at_206 (by decide) rfl ?_
          refine wiload OSc 211 X345 B at_209 rfl rfl ?_
          refine wiconst OSc 212 X345 B at_211 2 rfl rfl ?_
          refine wicmpYes OSc 219 X345 B at_212 (by decide) rfl ?_
          refine wiconst OSc 220 X345 B at_219 0 rfl rfl ?_
          refine wistore OSc 222 X345 B at_220 #[.val (.int p1), .val (.int p2), .val (.int p3), .val (.int p4), .val (.ref o1), .val (.ref o22), .val (.int (1 : Int32)), .val (.int (0 : Int32)), .val (.int (0 : Int32)), .val (.int (g0_1 p1 p2 p3 p4)), .val (.int (g0_16 p1 p2 p3 p4)), .val (.int (0 : Int32)), .val (.int (1 : Int32)), .val (.int (0 : Int32)), .val (.int (0 : Int32)), .unset, .unset] rfl rfl ?_
          refine wiloadN OSc 223 X345 B at_222 rfl rfl ?_
          refine own_stS (fun t k => X345.ldcInt hx hown44 (mvT hZ44 (ow hw 86 rfl)) (g := (mkF m 223 #[.val (.int p1), .val (.int p2), .val (.int p3), .val (.int p4), .val (.ref o1), .val (.ref o22), .val (.int (1 : Int32)), .val (.int (0 : Int32)), .val (.int (0 : Int32)), .val (.int (g0_1 p1 p2 p3 p4)), .val (.int (g0_16 p1 p2 p3 p4)), .val (.int (0 : Int32)), .val (.int (1 : Int32)), .val (.int (0 : Int32)), .val (.int (0 : Int32)), .unset, .unset] [(.int p4)])) rfl (hb hby at_223) _ k) ?_
          show OGS _ _ p e _ s below _ T345 (mkF m 225 #[.val (.int p1), .val (.int p2), .val (.int p3), .val (.int p4), .val (.ref o1), .val (.ref o22), .val (.int (1 : Int32)), .val (.int (0 : Int32)), .val (.int (0 : Int32)), .val (.int (g0_1 p1 p2 p3 p4)), .val (.int (g0_16 p1 p2 p3 p4)), .val (.int (0 : Int32)), .val (.int (1 : Int32)), .val (.int (0 : Int32)), .val (.int (0 : Int32)), .unset, .unset] [(.int (2147483647 : Int32)), (.int p4)])
          refine wiand OSc 226 X345 B at_225 rfl ?_
          refine wiconst OSc 227 X345 B at_226 4 rfl rfl ?_
          refine own_stS (fun t k => iremM X345 hx rfl (hb hby at_227) rfl (by decide) k) ?_
          show OGS _ _ p e _ s below _ T345 (mkF m 228 #[.val (.int p1), .val (.int p2), .val (.int p3), .val (.int p4), .val (.ref o1), .val (.ref o22), .val (.int (1 : Int32)), .val (.int (0 : Int32)), .val (.int (0 : Int32)), .val (.int (g0_1 p1 p2 p3 p4)), .val (.int (g0_16 p1 p2 p3 p4)), .val (.int (0 : Int32)), .val (.int (1 : Int32)), .val (.int (0 : Int32)), .val (.int (0 : Int32)), .unset, .unset] [(.int ((p4 &&& (2147483647 : Int32)) % (4 : Int32)))])
          refine wistore OSc 230 X345 B at_228 #[.val (.int p1), .val (.int p2), .val (.int p3), .val (.int p4), .val (.ref o1), .val (.ref o22), .val (.int (1 : Int32)), .val (.int (0 : Int32)), .val (.int (0 : Int32)), .val (.int (g0_1 p1 p2 p3 p4)), .val (.int (g0_16 p1 p2 p3 p4)), .val (.int (0 : Int32)), .val (.int (1 : Int32)), .val (.int (0 : Int32)), .val (.int (0 : Int32)), .val (.int (g0_4 p1 p2 p3 p4)), .unset] rfl rfl ?_
          refine waload OSc 232 X345 B at_230 rfl rfl rfl ?_
          refine wiload OSc 234 X345 B at_232 rfl rfl ?_
          refine wvirt OSc 237 X345 B hZ44 hown44 (ow hw 87 rfl) (ow hw 88 rfl) (ow hw 90 rfl) (ow hw 89 rfl) F346 (ow hw 91 rfl) (ow hw 27 rfl) rfl (rm10 l Z a0 hw [] o22 (g0_4 p1 p2 p3 p4) b_126 (1 : Int32) (0 : Int32) (0 : Int32) (1 : Int32) y1_340 y2_340 T345.heap n0 F347 P345_0 ge_b_126 ne_o22_b_126 (own_r4 p4) (own_gs0 xh340_0)) 0 (by decide) (by decide) hml rfl (lenOf pd__I_I rfl) [] rfl rfl at_234 rfl fun _ T349 L349 X349 hQ349 => ?_
          obtain ⟨rfl, N349q, K349q, y0_349, y1_349, y2_349, xh349_0, P349_0⟩ := hQ349
          have N349 := Fr.app N345 N349q
          have K349 := K345.trans K349q (own_all1 (Or.inr sy_b_126))
          have F350 := F346.keep K349q
          have F351 := F347.keep K349q (own_nin1 ne_o22_b_126)
          refine own_stk (S' := [(.int (f12 (1 : Int32) (0 : Int32) (0 : Int32) (g0_4 p1 p2 p3 p4)))]) rfl ?_
          have CR352 := CHr.trans CR348 (CHr.keep K349q (own_all1 (own_safeA hZ44.alike P345_0 (by decide))) CH348)
          have CH352 := CHv.keep K349q (own_all1 (own_safeA hZ44.alike P345_0 (by decide))) CH348
          have hk352 := Nat.le_trans hk348 K349q.1
          refine wistore OSc 239 X349 B at_237 #[.val (.int p1), .val (.int p2), .val (.int p3), .val (.int p4), .val (.ref o1), .val (.ref o22), .val (.int (1 : Int32)), .val (.int (0 : Int32)), .val (.int (0 : Int32)), .val (.int (g0_1 p1 p2 p3 p4)), .val (.int (g0_16 p1 p2 p3 p4)), .val (.int (0 : Int32)), .val (.int (1 : Int32)), .val (.int (0 : Int32)), .val (.int (0 : Int32)), .val (.int (g0_4 p1 p2 p3 p4)), .val (.int (g0_5 p1 p2 p3 p4))] rfl rfl ?_
          refine wiload OSc 241 X349 B at_239 rfl rfl ?_
          refine wiload OSc 243 X349 B at_241 rfl rfl ?_
          refine wiload OSc 245 X349 B at_243 rfl rfl ?_
          refine wiload OSc 247 X349 B at_245 rfl rfl ?_
          refine wiload OSc 249 X349 B at_247 rfl rfl ?_
          refine wstat OSc 252 X349 B hZ44 hown44 (ow hw 97 rfl) (ow hw 98 rfl) (ow hw 100 rfl) (ow hw 99 rfl) rfl (rm12 l Z a0 hw [] (1 : Int32) (0 : Int32) (0 : Int32) (g0_1 p1 p2 p3 p4) T349.heap) 1 (by decide) (by decide) hml rfl (lenOf pd__ZZZI_I rfl) [(.int (g0_16 p1 p2 p3 p4))] rfl rfl at_249 rfl fun _ T353 L353 X353 hQ353 => ?_
          obtain ⟨rfl, rfl, e353⟩ := hQ353
          have N353 := Fr.app N349 (Fr.nil n0)
          refine own_stk (S' := [(.int (f12 (1 : Int32) (0 : Int32) (0 : Int32) (g0_1 p1 p2 p3 p4))), (.int (g0_16 p1 p2 p3 p4))]) rfl ?_
          refine wicmpNo OSc 255 X353 B at_252 (teq rfl).2 rfl ?_
          refine wiload OSc 257 X353 B at_255 rfl rfl ?_
          refine wiload OSc 259 X353 B at_257 rfl rfl ?_
          refine wiload OSc 261 X353 B at_259 rfl rfl ?_
          refine wiload OSc 263 X353 B at_261 rfl rfl ?_
          refine wiload OSc 265 X353 B at_263 rfl rfl ?_
          refine wstat OSc 268 X353 B hZ44 hown44 (ow hw 97 rfl) (ow hw 98 rfl) (ow hw 100 rfl) (ow hw 99 rfl) e353 (rm12 l Z a0 hw [] (1 : Int32) (0 : Int32) (0 : Int32) (g0_4 p1 p2 p3 p4) T349.heap) 1 (by decide) (by decide) hml rfl (lenOf pd__ZZZI_I rfl) [(.int (g0_5 p1 p2 p3 p4))] rfl rfl at_265 rfl fun _ T354 L354 X354 hQ354 => ?_
          obtain ⟨rfl, rfl, e354⟩ := hQ354
          have N354 := Fr.app N353 (Fr.nil n0)
          refine own_stk (S' := [(.int (f12 (1 : Int32) (0 : Int32) (0 : Int32) (g0_4 p1 p2 p3 p4))), (.int (g0_5 p1 p2 p3 p4))]) rfl ?_
          refine wicmpNo OSc 271 X354 B at_268 (teq rfl).2 rfl ?_
          refine wiconst OSc 272 X354 B at_271 1 rfl rfl ?_
          refine wgoto OSc 276 X354 B at_272 rfl ?_
          refine own_endS X354 hlk hZ44 hEL e354 hs0 hS44 hk352 CH352 CR352 (v := some (.int (nar .boolean (1 : Int32)))) (fun h => by rw [hret] at h; cases h) (by decide) (by decide) ?_ (fun fs hr => retN X354 hx (t := .boolean) hret (by simp) (hb hby at_276) hr)
          exact ⟨congrArg (fun z => some (Value.int z)) (show f0 p1 p2 p3 p4 = (1 : Int32) from (by rw [f0, if_neg c138, if_pos c334, if_pos c335, if_pos c344])).symm, N354⟩
        · skip
          by_cases c355 : (g0_3 p1 p2 p3 p4) = (1 : Int32)
          · rw [c355]
            show OGS _ _ p e _ s below _ T340 (mkF m 156 #[.val (.int p1), .val (.int p2), .val (.int p3), .val (.int p4), .val (.ref o1), .val (.ref o22), .val (.int (1 : Int32)), .val (.int (0 : Int32)), .val (.int (0 : Int32)), .val (.int (g0_1 p1 p2 p3 p4)), .val (.int (g0_16 p1 p2 p3 p4)), .val (.int (1 : Int32)), .unset, .unset, .unset, .unset, .unset] [])
            refine wiload OSc 158 X340 B at_156 rfl rfl ?_
            refine wiconst OSc 159 X340 B at_158 3 rfl rfl ?_
            refine wicmpNo OSc 162 X340 B at_159 (by decide) rfl ?_
            refine waload OSc 164 X340 B at_162 rfl rfl rfl ?_
            refine wiload OSc 166 X340 B at_164 rfl rfl ?_
            refine wvirt OSc 169 X340 B hZ44 hown44 (ow hw 92 rfl) (ow hw 93 rfl) (ow hw 95 rfl) (ow hw 94 rfl) F341 (ow hw 96 rfl) (ow hw 27 rfl) rfl (rm11_1 l Z a0 hw [] o22 b_126 y0_340 y1_340 y2_340 (3 : Int32) T340.heap n0 F342 P340_0 ge_b_126 ne_o22_b_126) 0 (by decide) (by decide) hml rfl (lenOf pd__I_V rfl) [] rfl rfl at_166 rfl fun _ T356 L356 X356 hQ356 => ?_
            obtain ⟨rfl, N356q, K356q, P356_0⟩ := hQ356
            have N356 := Fr.app N340 N356q
            have K356 := K340.trans K356q (own_all1 (Or.inr sy_b_126))
            have F357 := F341.keep K356q
            have F358 := F342.keep K356q (own_nin1 ne_o22_b_126)
            refine own_stk (S' := []) rfl ?_
            have CR359 := CHr.trans CR343 (CHr.keep K356q (own_all1 (own_safeA hZ44.alike P340_0 (by decide))) CH343)
            have CH359 := CHv.keep K356q (own_all1 (own_safeA hZ44.alike P340_0 (by decide))) CH343
            have hk359 := Nat.le_trans hk343 K356q.1
            refine wiload OSc 171 X356 B at_169 rfl rfl ?_
            refine wifYes OSc 179 X356 B at_171 (by decide) rfl ?_
            refine wiconst OSc 180 X356 B at_179 1 rfl rfl ?_
            refine wgoto OSc 184 X356 B at_180 rfl ?_
            refine wistore OSc 186 X356 B at_184 #[.val (.int p1), .val (.int p2), .val (.int p3), .val (.int p4), .val (.ref o1), .val (.ref o22), .val (.int (1 : Int32)), .val (.int (0 : Int32)), .val (.int (0 : Int32)), .val (.int (g0_1 p1 p2 p3 p4)), .val (.int (g0_16 p1 p2 p3 p4)), .val (.int (1 : Int32)), .val (.int (1 : Int32)), .unset, .unset, .unset, .unset] rfl rfl ?_
            refine wiload OSc 188 X356 B at_186 rfl rfl ?_
            refine wifNo OSc 191 X356 B at_188 (by decide) rfl ?_
            refine wiload OSc 193 X356 B at_191 rfl rfl ?_
            refine wiconst OSc 194 X356 B at_193 1 rfl rfl ?_
            refine wicmpNo OSc 197 X356 B at_194 (by decide) rfl ?_
            refine wiconst OSc 198 X356 B at_197 1 rfl rfl ?_
            refine wgoto OSc 202 X356 B at_198 rfl ?_
            refine wistore OSc 204 X356 B at_202 #[.val (.int p1), .val (.int p2), .val (.int p3), .val (.int p4), .val (.ref o1), .val (.ref o22), .val (.int (1 : Int32)), .val (.int (0 : Int32)), .val (.int (0 : Int32)), .val (.int (g0_1 p1 p2 p3 p4)), .val (.int (g0_16 p1 p2 p3 p4)), .val (.int (1 : Int32)), .val (.int (1 : Int32)), .val (.int (1 : Int32)), .unset, .unset, .unset] rfl rfl ?_
            refine wiload OSc 206 X356 B at_204 rfl rfl ?_
            refine wifNo OSc 209 X356 B at_206 (by decide) rfl ?_
            refine wiload OSc 211 X356 B at_209 rfl rfl ?_
            refine wiconst OSc 212 X356 B at_211 2 rfl rfl ?_
            refine wicmpYes OSc 219 X356 B at_212 (by decide) rfl ?_
            refine wiconst OSc 220 X356 B at_219 0 rfl rfl ?_
            refine wistore OSc 222 X356 B at_220 #[.val (.int p1), .val (.int p2), .val (.int p3), .val (.int p4), .val (.ref o1), .val (.ref o22), .val (.int (1 : Int32)), .val (.int (0 : Int32)), .val (.int (0 : Int32)), .val (.int (g0_1 p1 p2 p3 p4)), .val (.int (g0_16 p1 p2 p3 p4)), .val (.int (1 : Int32)), .val (.int (1 : Int32)), .val (.int (1 : Int32)), .val (.int (0 : Int32)), .unset, .unset] rfl rfl ?_
            refine wiloadN OSc 223 X356 B at_222 rfl rfl ?_
            refine own_stS (fun t k => X356.ldcInt hx hown44 (mvT hZ44 (ow hw 86 rfl)) (g := (mkF m 223 #[.val (.int p1), .val (.int p2), .val (.int p3), .val (.int p4), .val (.ref o1), .val (.ref o22), .val (.int (1 : Int32)), .val (.int (0 : Int32)), .val (.int (0 : Int32)), .val (.int (g0_1 p1 p2 p3 p4)), .val (.int (g0_16 p1 p2 p3 p4)), .val (.int (1 : Int32)), .val (.int (1 : Int32)), .val (.int (1 : Int32)), .val (.int (0 : Int32)), .unset, .unset] [(.int p4)])) rfl (hb hby at_223) _ k) ?_
            show OGS _ _ p e _ s below _ T356 (mkF m 225 #[.val (.int p1), .val (.int p2), .val (.int p3), .val (.int p4), .val (.ref o1), .val (.ref o22), .val (.int (1 : Int32)), .val (.int (0 : Int32)), .val (.int (0 : Int32)), .val (.int (g0_1 p1 p2 p3 p4)), .val (.int (g0_16 p1 p2 p3 p4)), .val (.int (1 : Int32)), .val (.int (1 : Int32)), .val (.int (1 : Int32)), .val (.int (0 : Int32)), .unset, .unset] [(.int (2147483647 : Int32)), (.int p4)])
            refine wiand OSc 226 X356 B at_225 rfl ?_
            refine wiconst OSc 227 X356 B at_226 4 rfl rfl ?_
            refine own_stS (fun t k => iremM X356 hx rfl (hb hby at_227) rfl (by decide) k) ?_
            show OGS _ _ p e _ s below _ T356 (mkF m 228 #[.val (.int p1), .val (.int p2), .val (.int p3), .val (.int p4), .val (.ref o1), .val (.ref o22), .val (.int (1 : Int32)), .val (.int (0 : Int32)), .val (.int (0 : Int32)), .val (.int (g0_1 p1 p2 p3 p4)), .val (.int (g0_16 p1 p2 p3 p4)), .val (.int (1 : Int32)), .val (.int (1 : Int32)), .val (.int (1 : Int32)), .val (.int (0 : Int32)), .unset, .unset] [(.int ((p4 &&& (2147483647 : Int32)) % (4 : Int32)))])
            refine wistore OSc 230 X356 B at_228 #[.val (.int p1), .val (.int p2), .val (.int p3), .val (.int p4), .val (.ref o1), .val (.ref o22), .val (.int (1 : Int32)), .val (.int (0 : Int32)), .val (.int (0 : Int32)), .val (.int (g0_1 p1 p2 p3 p4)), .val (.int (g0_16 p1 p2 p3 p4)), .val (.int (1 : Int32)), .val (.int (1 : Int32)), .val (.int (1 : Int32)), .val (.int (0 : Int32)), .val (.int (g0_4 p1 p2 p3 p4)), .unset] rfl rfl ?_
            refine waload OSc 232 X356 B at_230 rfl rfl rfl ?_
            refine wiload OSc 234 X356 B at_232 rfl rfl ?_
            refine wvirt OSc 237 X356 B hZ44 hown44 (ow hw 87 rfl) (ow hw 88 rfl) (ow hw 90 rfl) (ow hw 89 rfl) F357 (ow hw 91 rfl) (ow hw 27 rfl) rfl (rm10 l Z a0 hw [] o22 (g0_4 p1 p2 p3 p4) b_126 (1 : Int32) (1 : Int32) (0 : Int32) y0_340 (2 : Int32) y2_340 T356.heap n0 F358 P356_0 ge_b_126 ne_o22_b_126 (own_r4 p4) (own_gs1 xh340_0)) 0 (by decide) (by decide) hml rfl (lenOf pd__I_I rfl) [] rfl rfl at_234 rfl fun _ T360 L360 X360 hQ360 => ?_
            obtain ⟨rfl, N360q, K360q, y0_360, y1_360, y2_360, xh360_0, P360_0⟩ := hQ360
            have N360 := Fr.app N356 N360q
            have K360 := K356.trans K360q (own_all1 (Or.inr sy_b_126))
            have F361 := F357.keep K360q
            have F362 := F358.keep K360q (own_nin1 ne_o22_b_126)
            refine own_stk (S' := [(.int (f12 (1 : Int32) (1 : Int32) (0 : Int32) (g0_4 p1 p2 p3 p4)))]) rfl ?_
            have CR363 := CHr.trans CR359 (CHr.keep K360q (own_all1 (own_safeA hZ44.alike P356_0 (by decide))) CH359)
            have CH363 := CHv.keep K360q (own_all1 (own_safeA hZ44.alike P356_0 (by decide))) CH359
            have hk363 := Nat.le_trans hk359 K360q.1
            refine wistore OSc 239 X360 B at_237 #[.val (.int p1), .val (.int p2), .val (.int p3), .val (.int p4), .val (.ref o1), .val (.ref o22), .val (.int (1 : Int32)), .val (.int (0 : Int32)), .val (.int (0 : Int32)), .val (.int (g0_1 p1 p2 p3 p4)), .val (.int (g0_16 p1 p2 p3 p4)), .val (.int (1 : Int32)), .val (.int (1 : Int32)), .val (.int (1 : Int32)), .val (.int (0 : Int32)), .val (.int (g0_4 p1 p2 p3 p4)), .val (.int (g0_13 p1 p2 p3 p4))] rfl rfl ?_
            refine wiload OSc 241 X360 B at_239 rfl rfl ?_
            refine wiload OSc 243 X360 B at_241 rfl rfl ?_
            refine wiload OSc 245 X360 B at_243 rfl rfl ?_
            refine wiload OSc 247 X360 B at_245 rfl rfl ?_
            refine wiload OSc 249 X360 B at_247 rfl rfl ?_
            refine wstat OSc 252 X360 B hZ44 hown44 (ow hw 97 rfl) (ow hw 98 rfl) (ow hw 100 rfl) (ow hw 99 rfl) rfl (rm12 l Z a0 hw [] (1 : Int32) (0 : Int32) (0 : Int32) (g0_1 p1 p2 p3 p4) T360.heap) 1 (by decide) (by decide) hml rfl (lenOf pd__ZZZI_I rfl) [(.int (g0_16 p1 p2 p3 p4))] rfl rfl at_249 rfl fun _ T364 L364 X364 hQ364 => ?_
            obtain ⟨rfl, rfl, e364⟩ := hQ364
            have N364 := Fr.app N360 (Fr.nil n0)
            refine own_stk (S' := [(.int (f12 (1 : Int32) (0 : Int32) (0 : Int32) (g0_1 p1 p2 p3 p4))), (.int (g0_16 p1 p2 p3 p4))]) rfl ?_
            refine wicmpNo OSc 255 X364 B at_252 (teq rfl).2 rfl ?_
            refine wiload OSc 257 X364 B at_255 rfl rfl ?_
            refine wiload OSc 259 X364 B at_257 rfl rfl ?_
            refine wiload OSc 261 X364 B at_259 rfl rfl ?_
            refine wiload OSc 263 X364 B at_261 rfl rfl ?_
            refine wiload OSc 265 X364 B at_263 rfl rfl ?_
            refine wstat OSc 268 X364 B hZ44 hown44 (ow hw 97 rfl) (ow hw 98 rfl) (ow hw 100 rfl) (ow hw 99 rfl) e364 (rm12 l Z a0 hw [] (1 : Int32) (1 : Int32) (0 : Int32) (g0_4 p1 p2 p3 p4) T360.heap) 1 (by decide) (by decide) hml rfl (lenOf pd__ZZZI_I rfl) [(.int (g0_13 p1 p2 p3 p4))] rfl rfl at_265 rfl fun _ T365 L365 X365 hQ365 => ?_
            obtain ⟨rfl, rfl, e365⟩ := hQ365
            have N365 := Fr.app N364 (Fr.nil n0)
            refine own_stk (S' := [(.int (f12 (1 : Int32) (1 : Int32) (0 : Int32) (g0_4 p1 p2 p3 p4))), (.int (g0_13 p1 p2 p3 p4))]) rfl ?_
            refine wicmpNo OSc 271 X365 B at_268 (teq rfl).2 rfl ?_
            refine wiconst OSc 272 X365 B at_271 1 rfl rfl ?_
            refine wgoto OSc 276 X365 B at_272 rfl ?_
            refine own_endS X365 hlk hZ44 hEL e365 hs0 hS44 hk363 CH363 CR363 (v := some (.int (nar .boolean (1 : Int32)))) (fun h => by rw [hret] at h; cases h) (by decide) (by decide) ?_ (fun fs hr => retN X365 hx (t := .boolean) hret (by simp) (hb hby at_276) hr)
            exact ⟨congrArg (fun z => some (Value.int z)) (show f0 p1 p2 p3 p4 = (1 : Int32) from (by rw [f0, if_neg c138, if_pos c334, if_pos c335, if_neg c344, if_pos c355])).symm, N365⟩
          · skip
            by_cases c366 : (g0_3 p1 p2 p3 p4) = (2 : Int32)
            · rw [c366]
              show OGS _ _ p e _ s below _ T340 (mkF m 156 #[.val (.int p1), .val (.int p2), .val (.int p3), .val (.int p4), .val (.ref o1), .val (.ref o22), .val (.int (1 : Int32)), .val (.int (0 : Int32)), .val (.int (0 : Int32)), .val (.int (g0_1 p1 p2 p3 p4)), .val (.int (g0_16 p1 p2 p3 p4)), .val (.int (2 : Int32)), .unset, .unset, .unset, .unset, .unset] [])
              refine wiload OSc 158 X340 B at_156 rfl rfl ?_
              refine wiconst OSc 159 X340 B at_158 3 rfl rfl ?_
              refine wicmpNo OSc 162 X340 B at_159 (by decide) rfl ?_
              refine waload OSc 164 X340 B at_162 rfl rfl rfl ?_
              refine wiload OSc 166 X340 B at_164 rfl rfl ?_
              refine wvirt OSc 169 X340 B hZ44 hown44 (ow hw 92 rfl) (ow hw 93 rfl) (ow hw 95 rfl) (ow hw 94 rfl) F341 (ow hw 96 rfl) (ow hw 27 rfl) rfl (rm11_2 l Z a0 hw [] o22 b_126 y0_340 y1_340 y2_340 (3 : Int32) T340.heap n0 F342 P340_0 ge_b_126 ne_o22_b_126) 0 (by decide) (by decide) hml rfl (lenOf pd__I_V rfl) [] rfl rfl at_166 rfl fun _ T367 L367 X367 hQ367 => ?_
              obtain ⟨rfl, N367q, K367q, P367_0⟩ := hQ367
              have N367 := Fr.app N340 N367q
              have K367 := K340.trans K367q (own_all1 (Or.inr sy_b_126))
              have F368 := F341.keep K367q
              have F369 := F342.keep K367q (own_nin1 ne_o22_b_126)
              refine own_stk (S' := []) rfl ?_
              have CR370 := CHr.trans CR343 (CHr.keep K367q (own_all1 (own_safeA hZ44.alike P340_0 (by decide))) CH343)
              have CH370 := CHv.keep K367q (own_all1 (own_safeA hZ44.alike P340_0 (by decide))) CH343
              have hk370 := Nat.le_trans hk343 K367q.1
              refine wiload OSc 171 X367 B at_169 rfl rfl ?_
              refine wifYes OSc 179 X367 B at_171 (by decide) rfl ?_
              refine wiconst OSc 180 X367 B at_179 1 rfl rfl ?_
              refine wgoto OSc 184 X367 B at_180 rfl ?_
              refine wistore OSc 186 X367 B at_184 #[.val (.int p1), .val (.int p2), .val (.int p3), .val (.int p4), .val (.ref o1), .val (.ref o22), .val (.int (1 : Int32)), .val (.int (0 : Int32)), .val (.int (0 : Int32)), .val (.int (g0_1 p1 p2 p3 p4)), .val (.int (g0_16 p1 p2 p3 p4)), .val (.int (2 : Int32)), .val (.int (1 : Int32)), .unset, .unset, .unset, .unset] rfl rfl ?_
              refine wiload OSc 188 X367 B at_186 rfl rfl ?_
              refine wifNo OSc 191 X367 B at_188 (by decide) rfl ?_
              refine wiload OSc 193 X367 B at_191 rfl rfl ?_
              refine wiconst OSc 194 X367 B at_193 1 rfl rfl ?_
              refine wicmpYes OSc 201 X367 B at_194 (by decide) rfl ?_
              refine wiconst OSc 202 X367 B at_201 0 rfl rfl ?_
              refine wistore OSc 204 X367 B at_202 #[.val (.int p1), .val (.int p2), .val (.int p3), .val (.int p4), .val (.ref o1), .val (.ref o22), .val (.int (1 : Int32)), .val (.int (0 : Int32)), .val (.int (0 : Int32)), .val (.int (g0_1 p1 p2 p3 p4)), .val (.int (g0_16 p1 p2 p3 p4)), .val (.int (2 : Int32)), .val (.int (1 : Int32)), .val (.int (0 : Int32)), .unset, .unset, .unset] rfl rfl ?_
              refine wiload OSc 206 X367 B at_204 rfl rfl ?_
              refine wifNo OSc 209 X367 B at_206 (by decide) rfl ?_
              refine wiload OSc 211 X367 B at_209 rfl rfl ?_
              refine wiconst OSc 212 X367 B at_211 2 rfl rfl ?_
              refine wicmpNo OSc 215 X367 B at_212 (by decide) rfl ?_
              refine wiconst OSc 216 X367 B at_215 1 rfl rfl ?_
              refine wgoto OSc 220 X367 B at_216 rfl ?_
              refine wistore OSc 222 X367 B at_220 #[.val (.int p1), .val (.int p2), .val (.int p3), .val (.int p4), .val (.ref o1), .val (.ref o22), .val (.int (1 : Int32)), .val (.int (0 : Int32)), .val (.int (0 : Int32)), .val (.int (g0_1 p1 p2 p3 p4)), .val (.int (g0_16 p1 p2 p3 p4)), .val (.int (2 : Int32)), .val (.int (1 : Int32)), .val (.int (0 : Int32)), .val (.int (1 : Int32)), .unset, .unset] rfl rfl ?_
              refine wiloadN OSc 223 X367 B at_222 rfl rfl ?_
              refine own_stS (fun t k => X367.ldcInt hx hown44 (mvT hZ44 (ow hw 86 rfl)) (g := (mkF m 223 #[.val (.int p1), .val (.int p2), .val (.int p3), .val (.int p4), .val (.ref o1), .val (.ref o22), .val (.int (1 : Int32)), .val (.int (0 : Int32)), .val (.int (0 : Int32)), .val (.int (g0_1 p1 p2 p3 p4)), .val (.int (g0_16 p1 p2 p3 p4)), .val (.int (2 : Int32)), .val (.int (1 : Int32)), .val (.int (0 : Int32)), .val (.int (1 : Int32)), .unset, .unset] [(.int p4)])) rfl (hb hby at_223) _ k) ?_
              show OGS _ _ p e _ s below _ T367 (mkF m 225 #[.val (.int p1), .val (.int p2), .val (.int p3), .val (.int p4), .val (.ref o1), .val (.ref o22), .val (.int (1 : Int32)), .val (.int (0 : Int32)), .val (.int (0 : Int32)), .val (.int (g0_1 p1 p2 p3 p4)), .val (.int (g0_16 p1 p2 p3 p4)), .val (.int (2 : Int32)), .val (.int (1 : Int32)), .val (.int (0 : Int32)), .val (.int (1 : Int32)), .unset, .unset] [(.int (2147483647 : Int32)), (.int p4)])
              refine wiand OSc 226 X367 B at_225 rfl ?_
              refine wiconst OSc 227 X367 B at_226 4 rfl rfl ?_
              refine own_stS (fun t k => iremM X367 hx rfl (hb hby at_227) rfl (by decide) k) ?_
              show OGS _ _ p e _ s below _ T367 (mkF m 228 #[.val (.int p1), .val (.int p2), .val (.int p3), .val (.int p4), .val (.ref o1), .val (.ref o22), .val (.int (1 : Int32)), .val (.int (0 : Int32)), .val (.int (0 : Int32)), .val (.int (g0_1 p1 p2 p3 p4)), .val (.int (g0_16 p1 p2 p3 p4)), .val (.int (2 : Int32)), .val (.int (1 : Int32)), .val (.int (0 : Int32)), .val (.int (1 : Int32)), .unset, .unset] [(.int ((p4 &&& (2147483647 : Int32)) % (4 : Int32)))])
              refine wistore OSc 230 X367 B at_228 #[.val (.int p1), .val (.int p2), .val (.int p3), .val (.int p4), .val (.ref o1), .val (.ref o22), .val (.int (1 : Int32)), .val (.int (0 : Int32)), .val (.int (0 : Int32)), .val (.int (g0_1 p1 p2 p3 p4)), .val (.int (g0_16 p1 p2 p3 p4)), .val (.int (2 : Int32)), .val (.int (1 : Int32)), .val (.int (0 : Int32)), .val (.int (1 : Int32)), .val (.int (g0_4 p1 p2 p3 p4)), .unset] rfl rfl ?_
              refine waload OSc 232 X367 B at_230 rfl rfl rfl ?_
              refine wiload OSc 234 X367 B at_232 rfl rfl ?_
              refine wvirt OSc 237 X367 B hZ44 hown44 (ow hw 87 rfl) (ow hw 88 rfl) (ow hw 90 rfl) (ow hw 89 rfl) F368 (ow hw 91 rfl) (ow hw 27 rfl) rfl (rm10 l Z a0 hw [] o22 (g0_4 p1 p2 p3 p4) b_126 (1 : Int32) (0 : Int32) (1 : Int32) y0_340 y1_340 (3 : Int32) T367.heap n0 F369 P367_0 ge_b_126 ne_o22_b_126 (own_r4 p4) (own_gs2 xh340_0)) 0 (by decide) (by decide) hml rfl (lenOf pd__I_I rfl) [] rfl rfl at_234 rfl fun _ T371 L371 X371 hQ371 => ?_
              obtain ⟨rfl, N371q, K371q, y0_371, y1_371, y2_371, xh371_0, P371_0⟩ := hQ371
              have N371 := Fr.app N367 N371q
              have K371 := K367.trans K371q (own_all1 (Or.inr sy_b_126))
              have F372 := F368.keep K371q
              have F373 := F369.keep K371q (own_nin1 ne_o22_b_126)
              refine own_stk (S' := [(.int (f12 (1 : Int32) (0 : Int32) (1 : Int32) (g0_4 p1 p2 p3 p4)))]) rfl ?_
              have CR374 := CHr.trans CR370 (CHr.keep K371q (own_all1 (own_safeA hZ44.alike P367_0 (by decide))) CH370)
              have CH374 := CHv.keep K371q (own_all1 (own_safeA hZ44.alike P367_0 (by decide))) CH370
              have hk374 := Nat.le_trans hk370 K371q.1
              refine wistore OSc 239 X371 B at_237 #[.val (.int p1), .val (.int p2), .val (.int p3), .val (.int p4), .val (.ref o1), .val (.ref o22), .val (.int (1 : Int32)), .val (.int (0 : Int32)), .val (.int (0 : Int32)), .val (.int (g0_1 p1 p2 p3 p4)), .val (.int (g0_16 p1 p2 p3 p4)), .val (.int (2 : Int32)), .val (.int (1 : Int32)), .val (.int (0 : Int32)), .val (.int (1 : Int32)), .val (.int (g0_4 p1 p2 p3 p4)), .val (.int (g0_10 p1 p2 p3 p4))] rfl rfl ?_
              refine wiload OSc 241 X371 B at_239 rfl rfl ?_
              refine wiload OSc 243 X371 B at_241 rfl rfl ?_
              refine wiload OSc 245 X371 B at_243 rfl rfl ?_
              refine wiload OSc 247 X371 B at_245 rfl rfl ?_
              refine wiload OSc 249 X371 B at_247 rfl rfl ?_
              refine wstat OSc 252 X371 B hZ44 hown44 (ow hw 97 rfl) (ow hw 98 rfl) (ow hw 100 rfl) (ow hw 99 rfl) rfl (rm12 l Z a0 hw [] (1 : Int32) (0 : Int32) (0 : Int32) (g0_1 p1 p2 p3 p4) T371.heap) 1 (by decide) (by decide) hml rfl (lenOf pd__ZZZI_I rfl) [(.int (g0_16 p1 p2 p3 p4))] rfl rfl at_249 rfl fun _ T375 L375 X375 hQ375 => ?_
              obtain ⟨rfl, rfl, e375⟩ := hQ375
              have N375 := Fr.app N371 (Fr.nil n0)
              refine own_stk (S' := [(.int (f12 (1 : Int32) (0 : Int32) (0 : Int32) (g0_1 p1 p2 p3 p4))), (.int (g0_16 p1 p2 p3 p4))]) rfl ?_
              refine wicmpNo OSc 255 X375 B at_252 (teq rfl).2 rfl ?_
              refine wiload OSc 257 X375 B at_255 rfl rfl ?_
              refine wiload OSc 259 X375 B at_257 rfl rfl ?_
              refine wiload OSc 261 X375 B at_259 rfl rfl ?_
              refine wiload OSc 263 X375 B at_261 rfl rfl ?_
              refine wiload OSc 265 X375 B at_263 rfl rfl ?_
              refine wstat OSc 268 X375 B hZ44 hown44 (ow hw 97 rfl) (ow hw 98 rfl) (ow hw 100 rfl) (ow hw 99 rfl) e375 (rm12 l Z a0 hw [] (1 : Int32) (0 : Int32) (1 : Int32) (g0_4 p1 p2 p3 p4) T371.heap) 1 (by decide) (by decide) hml rfl (lenOf pd__ZZZI_I rfl) [(.int (g0_10 p1 p2 p3 p4))] rfl rfl at_265 rfl fun _ T376 L376 X376 hQ376 => ?_
              obtain ⟨rfl, rfl, e376⟩ := hQ376
              have N376 := Fr.app N375 (Fr.nil n0)
              refine own_stk (S' := [(.int (f12 (1 : Int32) (0 : Int32) (1 : Int32) (g0_4 p1 p2 p3 p4))), (.int (g0_10 p1 p2 p3 p4))]) rfl ?_
              refine wicmpNo OSc 271 X376 B at_268 (teq rfl).2 rfl ?_
              refine wiconst OSc 272 X376 B at_271 1 rfl rfl ?_
              refine wgoto OSc 276 X376 B at_272 rfl ?_
              refine own_endS X376 hlk hZ44 hEL e376 hs0 hS44 hk374 CH374 CR374 (v := some (.int (nar .boolean (1 : Int32)))) (fun h => by rw [hret] at h; cases h) (by decide) (by decide) ?_ (fun fs hr => retN X376 hx (t := .boolean) hret (by simp) (hb hby at_276) hr)
              exact ⟨congrArg (fun z => some (Value.int z)) (show f0 p1 p2 p3 p4 = (1 : Int32) from (by rw [f0, if_neg c138, if_pos c334, if_pos c335, if_neg c344, if_neg c355, if_pos c366])).symm, N376⟩
            · skip
              by_cases c377 : (g0_3 p1 p2 p3 p4) = (3 : Int32)
              · rw [c377]
                show OGS _ _ p e _ s below _ T340 (mkF m 156 #[.val (.int p1), .val (.int p2), .val (.int p3), .val (.int p4), .val (.ref o1), .val (.ref o22), .val (.int (1 : Int32)), .val (.int (0 : Int32)), .val (.int (0 : Int32)), .val (.int (g0_1 p1 p2 p3 p4)), .val (.int (g0_16 p1 p2 p3 p4)), .val (.int (3 : Int32)), .unset, .unset, .unset, .unset, .unset] [])
                refine wiload OSc 158 X340 B at_156 rfl rfl ?_
                refine wiconst OSc 159 X340 B at_158 3 rfl rfl ?_
                refine wicmpYes OSc 169 X340 B at_159 (by decide) rfl ?_
                refine wiload OSc 171 X340 B at_169 rfl rfl ?_
                refine wifYes OSc 179 X340 B at_171 (by decide) rfl ?_
                refine wiconst OSc 180 X340 B at_179 1 rfl rfl ?_
                refine wgoto OSc 184 X340 B at_180 rfl ?_
                refine wistore OSc 186 X340 B at_184 #[.val (.int p1), .val (.int p2), .val (.int p3), .val (.int p4), .val (.ref o1), .val (.ref o22), .val (.int (1 : Int32)), .val (.int (0 : Int32)), .val (.int (0 : Int32)), .val (.int (g0_1 p1 p2 p3 p4)), .val (.int (g0_16 p1 p2 p3 p4)), .val (.int (3 : Int32)), .val (.int (1 : Int32)), .unset, .unset, .unset, .unset] rfl rfl ?_
                refine wiload OSc 188 X340 B at_186 rfl rfl ?_
                refine wifNo OSc 191 X340 B at_188 (by decide) rfl ?_
                refine wiload OSc 193 X340 B at_191 rfl rfl ?_
                refine wiconst OSc 194 X340 B at_193 1 rfl rfl ?_
                refine wicmpYes OSc 201 X340 B at_194 (by decide) rfl ?_
                refine wiconst OSc 202 X340 B at_201 0 rfl rfl ?_
                refine wistore OSc 204 X340 B at_202 #[.val (.int p1), .val (.int p2), .val (.int p3), .val (.int p4), .val (.ref o1), .val (.ref o22), .val (.int (1 : Int32)), .val (.int (0 : Int32)), .val (.int (0 : Int32)), .val (.int (g0_1 p1 p2 p3 p4)), .val (.int (g0_16 p1 p2 p3 p4)), .val (.int (3 : Int32)), .val (.int (1 : Int32)), .val (.int (0 : Int32)), .unset, .unset, .unset] rfl rfl ?_
                refine wiload OSc 206 X340 B at_204 rfl rfl ?_
                refine wifNo OSc 209 X340 B at_206 (by decide) rfl ?_
                refine wiload OSc 211 X340 B at_209 rfl rfl ?_
                refine wiconst OSc 212 X340 B at_211 2 rfl rfl ?_
                refine wicmpYes OSc 219 X340 B at_212 (by decide) rfl ?_
                refine wiconst OSc 220 X340 B at_219 0 rfl rfl ?_
                refine wistore OSc 222 X340 B at_220 #[.val (.int p1), .val (.int p2), .val (.int p3), .val (.int p4), .val (.ref o1), .val (.ref o22), .val (.int (1 : Int32)), .val (.int (0 : Int32)), .val (.int (0 : Int32)), .val (.int (g0_1 p1 p2 p3 p4)), .val (.int (g0_16 p1 p2 p3 p4)), .val (.int (3 : Int32)), .val (.int (1 : Int32)), .val (.int (0 : Int32)), .val (.int (0 : Int32)), .unset, .unset] rfl rfl ?_
                refine wiloadN OSc 223 X340 B at_222 rfl rfl ?_
                refine own_stS (fun t k => X340.ldcInt hx hown44 (mvT hZ44 (ow hw 86 rfl)) (g := (mkF m 223 #[.val (.int p1), .val (.int p2), .val (.int p3), .val (.int p4), .val (.ref o1), .val (.ref o22), .val (.int (1 : Int32)), .val (.int (0 : Int32)), .val (.int (0 : Int32)), .val (.int (g0_1 p1 p2 p3 p4)), .val (.int (g0_16 p1 p2 p3 p4)), .val (.int (3 : Int32)), .val (.int (1 : Int32)), .val (.int (0 : Int32)), .val (.int (0 : Int32)), .unset, .unset] [(.int p4)])) rfl (hb hby at_223) _ k) ?_
                show OGS _ _ p e _ s below _ T340 (mkF m 225 #[.val (.int p1), .val (.int p2), .val (.int p3), .val (.int p4), .val (.ref o1), .val (.ref o22), .val (.int (1 : Int32)), .val (.int (0 : Int32)), .val (.int (0 : Int32)), .val (.int (g0_1 p1 p2 p3 p4)), .val (.int (g0_16 p1 p2 p3 p4)), .val (.int (3 : Int32)), .val (.int (1 : Int32)), .val (.int (0 : Int32)), .val (.int (0 : Int32)), .unset, .unset] [(.int (2147483647 : Int32)), (.int p4)])
                refine wiand OSc 226 X340 B at_225 rfl ?_
                refine wiconst OSc 227 X340 B at_226 4 rfl rfl ?_
                refine own_stS (fun t k => iremM X340 hx rfl (hb hby at_227) rfl (by decide) k) ?_
                show OGS _ _ p e _ s below _ T340 (mkF m 228 #[.val (.int p1), .val (.int p2), .val (.int p3), .val (.int p4), .val (.ref o1), .val (.ref o22), .val (.int (1 : Int32)), .val (.int (0 : Int32)), .val (.int (0 : Int32)), .val (.int (g0_1 p1 p2 p3 p4)), .val (.int (g0_16 p1 p2 p3 p4)), .val (.int (3 : Int32)), .val (.int (1 : Int32)), .val (.int (0 : Int32)), .val (.int (0 : Int32)), .unset, .unset] [(.int ((p4 &&& (2147483647 : Int32)) % (4 : Int32)))])
                refine wistore OSc 230 X340 B at_228 #[.val (.int p1), .val (.int p2), .val (.int p3), .val (.int p4), .val (.ref o1), .val (.ref o22), .val (.int (1 : Int32)), .val (.int (0 : Int32)), .val (.int (0 : Int32)), .val (.int (g0_1 p1 p2 p3 p4)), .val (.int (g0_16 p1 p2 p3 p4)), .val (.int (3 : Int32)), .val (.int (1 : Int32)), .val (.int (0 : Int32)), .val (.int (0 : Int32)), .val (.int (g0_4 p1 p2 p3 p4)), .unset] rfl rfl ?_
                refine waload OSc 232 X340 B at_230 rfl rfl rfl ?_
                refine wiload OSc 234 X340 B at_232 rfl rfl ?_
                refine wvirt OSc 237 X340 B hZ44 hown44 (ow hw 87 rfl) (ow hw 88 rfl) (ow hw 90 rfl) (ow hw 89 rfl) F341 (ow hw 91 rfl) (ow hw 27 rfl) rfl (rm10 l Z a0 hw [] o22 (g0_4 p1 p2 p3 p4) b_126 (1 : Int32) (0 : Int32) (0 : Int32) y0_340 y1_340 y2_340 T340.heap n0 F342 P340_0 ge_b_126 ne_o22_b_126 (own_r4 p4) xh340_0) 0 (by decide) (by decide) hml rfl (lenOf pd__I_I rfl) [] rfl rfl at_234 rfl fun _ T378 L378 X378 hQ378 => ?_
                obtain ⟨rfl, N378q, K378q, y0_378, y1_378, y2_378, xh378_0, P378_0⟩ := hQ378
                have N378 := Fr.app N340 N378q
                have K378 := K340.trans K378q (own_all1 (Or.inr sy_b_126))
                have F379 := F341.keep K378q
                have F380 := F342.keep K378q (own_nin1 ne_o22_b_126)
                refine own_stk (S' := [(.int (f12 (1 : Int32) (0 : Int32) (0 : Int32) (g0_4 p1 p2 p3 p4)))]) rfl ?_
                have CR381 := CHr.trans CR343 (CHr.keep K378q (own_all1 (own_safeA hZ44.alike P340_0 (by decide))) CH343)
                have CH381 := CHv.keep K378q (own_all1 (own_safeA hZ44.alike P340_0 (by decide))) CH343
                have hk381 := Nat.le_trans hk343 K378q.1
                refine wistore OSc 239 X378 B at_237 #[.val (.int p1), .val (.int p2), .val (.int p3), .val (.int p4), .val (.ref o1), .val (.ref o22), .val (.int (1 : Int32)), .val (.int (0 : Int32)), .val (.int (0 : Int32)), .val (.int (g0_1 p1 p2 p3 p4)), .val (.int (g0_16 p1 p2 p3 p4)), .val (.int (3 : Int32)), .val (.int (1 : Int32)), .val (.int (0 : Int32)), .val (.int (0 : Int32)), .val (.int (g0_4 p1 p2 p3 p4)), .val (.int (g0_5 p1 p2 p3 p4))] rfl rfl ?_
                refine wiload OSc 241 X378 B at_239 rfl rfl ?_
                refine wiload OSc 243 X378 B at_241 rfl rfl ?_
                refine wiload OSc 245 X378 B at_243 rfl rfl ?_
                refine wiload OSc 247 X378 B at_245 rfl rfl ?_
                refine wiload OSc 249 X378 B at_247 rfl rfl ?_
                refine wstat OSc 252 X378 B hZ44 hown44 (ow hw 97 rfl) (ow hw 98 rfl) (ow hw 100 rfl) (ow hw 99 rfl) rfl (rm12 l Z a0 hw [] (1 : Int32) (0 : Int32) (0 : Int32) (g0_1 p1 p2 p3 p4) T378.heap) 1 (by decide) (by decide) hml rfl (lenOf pd__ZZZI_I rfl) [(.int (g0_16 p1 p2 p3 p4))] rfl rfl at_249 rfl fun _ T382 L382 X382 hQ382 => ?_
                obtain ⟨rfl, rfl, e382⟩ := hQ382
                have N382 := Fr.app N378 (Fr.nil n0)
                refine own_stk (S' := [(.int (f12 (1 : Int32) (0 : Int32) (0 : Int32) (g0_1 p1 p2 p3 p4))), (.int (g0_16 p1 p2 p3 p4))]) rfl ?_
                refine wicmpNo OSc 255 X382 B at_252 (teq rfl).2 rfl ?_
                refine wiload OSc 257 X382 B at_255 rfl rfl ?_
                refine wiload OSc 259 X382 B at_257 rfl rfl ?_
                refine wiload OSc 261 X382 B at_259 rfl rfl ?_
                refine wiload OSc 263 X382 B at_261 rfl rfl ?_
                refine wiload OSc 265 X382 B at_263 rfl rfl ?_
                refine wstat OSc 268 X382 B hZ44 hown44 (ow hw 97 rfl) (ow hw 98 rfl) (ow hw 100 rfl) (ow hw 99 rfl) e382 (rm12 l Z a0 hw [] (1 : Int32) (0 : Int32) (0 : Int32) (g0_4 p1 p2 p3 p4) T378.heap) 1 (by decide) (by decide) hml rfl (lenOf pd__ZZZI_I rfl) [(.int (g0_5 p1 p2 p3 p4))] rfl rfl at_265 rfl fun _ T383 L383 X383 hQ383 => ?_
                obtain ⟨rfl, rfl, e383⟩ := hQ383
                have N383 := Fr.app N382 (Fr.nil n0)
                refine own_stk (S' := [(.int (f12 (1 : Int32) (0 : Int32) (0 : Int32) (g0_4 p1 p2 p3 p4))), (.int (g0_5 p1 p2 p3 p4))]) rfl ?_
                refine wicmpNo OSc 271 X383 B at_268 (teq rfl).2 rfl ?_
                refine wiconst OSc 272 X383 B at_271 1 rfl rfl ?_
                refine wgoto OSc 276 X383 B at_272 rfl ?_
                refine own_endS X383 hlk hZ44 hEL e383 hs0 hS44 hk381 CH381 CR381 (v := some (.int (nar .boolean (1 : Int32)))) (fun h => by rw [hret] at h; cases h) (by decide) (by decide) ?_ (fun fs hr => retN X383 hx (t := .boolean) hret (by simp) (hb hby at_276) hr)
                exact ⟨congrArg (fun z => some (Value.int z)) (show f0 p1 p2 p3 p4 = (1 : Int32) from (by rw [f0, if_neg c138, if_pos c334, if_pos c335, if_neg c344, if_neg c355, if_neg c366, if_pos c377])).symm, N383⟩
              · skip
                exact (own_r4n p1 p2 p3 p4 c344 c355 c366 c377).elim
      · refine wifNo OSc 91 X126 B at_88 (own_if0 (feq c335).1) rfl ?_
        refine wiconst OSc 92 X126 B at_91 1 rfl rfl ?_
        refine wgoto OSc 96 X126 B at_92 rfl ?_
        refine wistore OSc 98 X126 B at_96 #[.val (.int p1), .val (.int p2), .val (.int p3), .val (.int p4), .val (.ref o1), .val (.ref o22), .val (.int (1 : Int32)), .val (.int (0 : Int32)), .val (.int (1 : Int32)), .unset, .unset, .unset, .unset, .unset, .unset, .unset, .unset] rfl rfl ?_
        refine wiload OSc 100 X126 B at_98 rfl rfl ?_
        refine wifNo OSc 103 X126 B at_100 (by decide) rfl ?_
        refine waload OSc 105 X126 B at_103 rfl rfl rfl ?_
        refine wiconst OSc 106 X126 B at_105 0 rfl rfl ?_
        refine wvirt OSc 109 X126 B hZ44 hown44 (ow hw 92 rfl) (ow hw 93 rfl) (ow hw 95 rfl) (ow hw 94 rfl) P126_0 (ow hw 96 rfl) (ow hw 27 rfl) rfl (rm11_0 l Z a0 hw [] o22 b_126 (0 : Int32) (1 : Int32) (2 : Int32) (3 : Int32) T126.heap n0 P126_1 P126_2 ge_b_126 ne_o22_b_126) 0 (by decide) (by decide) hml rfl (lenOf pd__I_V rfl) [] rfl rfl at_106 rfl fun _ T384 L384 X384 hQ384 => ?_
        obtain ⟨rfl, N384q, K384q, P384_0⟩ := hQ384
        have N384 := Fr.app N126 N384q
        have K384 := K126.trans K384q (own_all1 (Or.inr sy_b_126))
        have F385 := P126_0.keep K384q
        have F386 := P126_1.keep K384q (own_nin1 ne_o22_b_126)
        refine own_stk (S' := []) rfl ?_
        have CR387 := CHr.trans CR137 (CHr.keep K384q (own_all1 (own_safeA hZ44.alike P126_2 (by decide))) CH137)
        have CH387 := CHv.keep K384q (own_all1 (own_safeA hZ44.alike P126_2 (by decide))) CH137
        have hk387 := Nat.le_trans hk137 K384q.1
        refine wiload OSc 111 X384 B at_109 rfl rfl ?_
        refine wifYes OSc 120 X384 B at_111 (by decide) rfl ?_
        refine wiload OSc 122 X384 B at_120 rfl rfl ?_
        refine wifNo OSc 125 X384 B at_122 (by decide) rfl ?_
        refine waload OSc 127 X384 B at_125 rfl rfl rfl ?_
        refine wiconst OSc 128 X384 B at_127 2 rfl rfl ?_
        refine wvirt OSc 131 X384 B hZ44 hown44 (ow hw 92 rfl) (ow hw 93 rfl) (ow hw 95 rfl) (ow hw 94 rfl) F385 (ow hw 96 rfl) (ow hw 27 rfl) rfl (rm11_2 l Z a0 hw [] o22 b_126 (1 : Int32) (1 : Int32) (2 : Int32) (3 : Int32) T384.heap n0 F386 P384_0 ge_b_126 ne_o22_b_126) 0 (by decide) (by decide) hml rfl (lenOf pd__I_V rfl) [] rfl rfl at_128 rfl fun _ T388 L388 X388 hQ388 => ?_
        obtain ⟨rfl, N388q, K388q, P388_0⟩ := hQ388
        have N388 := Fr.app N384 N388q
        have K388 := K384.trans K388q (own_all1 (Or.inr sy_b_126))
        have F389 := F385.keep K388q
        have F390 := F386.keep K388q (own_nin1 ne_o22_b_126)
        refine own_stk (S' := []) rfl ?_
        have CR391 := CHr.trans CR387 (CHr.keep K388q (own_all1 (own_safeA hZ44.alike P384_0 (by decide))) CH387)
        have CH391 := CHv.keep K388q (own_all1 (own_safeA hZ44.alike P384_0 (by decide))) CH387
        have hk391 := Nat.le_trans hk387 K388q.1
        refine wiloadN OSc 132 X388 B at_131 rfl rfl ?_
        refine own_stS (fun t k => X388.ldcInt hx hown44 (mvT hZ44 (ow hw 86 rfl)) (g := (mkF m 132 #[.val (.int p1), .val (.int p2), .val (.int p3), .val (.int p4), .val (.ref o1), .val (.ref o22), .val (.int (1 : Int32)), .val (.int (0 : Int32)), .val (.int (1 : Int32)), .unset, .unset, .unset, .unset, .unset, .unset, .unset, .unset] [(.int p2)])) rfl (hb hby at_132) _ k) ?_
        show OGS _ _ p e _ s below _ T388 (mkF m 134 #[.val (.int p1), .val (.int p2), .val (.int p3), .val (.int p4), .val (.ref o1), .val (.ref o22), .val (.int (1 : Int32)), .val (.int (0 : Int32)), .val (.int (1 : Int32)), .unset, .unset, .unset, .unset, .unset, .unset, .unset, .unset] [(.int (2147483647 : Int32)), (.int p2)])
        refine wiand OSc 135 X388 B at_134 rfl ?_
        refine wiconst OSc 136 X388 B at_135 4 rfl rfl ?_
        refine own_stS (fun t k => iremM X388 hx rfl (hb hby at_136) rfl (by decide) k) ?_
        show OGS _ _ p e _ s below _ T388 (mkF m 137 #[.val (.int p1), .val (.int p2), .val (.int p3), .val (.int p4), .val (.ref o1), .val (.ref o22), .val (.int (1 : Int32)), .val (.int (0 : Int32)), .val (.int (1 : Int32)), .unset, .unset, .unset, .unset, .unset, .unset, .unset, .unset] [(.int ((p2 &&& (2147483647 : Int32)) % (4 : Int32)))])
        refine wistore OSc 139 X388 B at_137 #[.val (.int p1), .val (.int p2), .val (.int p3), .val (.int p4), .val (.ref o1), .val (.ref o22), .val (.int (1 : Int32)), .val (.int (0 : Int32)), .val (.int (1 : Int32)), .val (.int (g0_1 p1 p2 p3 p4)), .unset, .unset, .unset, .unset, .unset, .unset, .unset] rfl rfl ?_
        refine waload OSc 141 X388 B at_139 rfl rfl rfl ?_
        refine wiload OSc 143 X388 B at_141 rfl rfl ?_
        refine wvirt OSc 146 X388 B hZ44 hown44 (ow hw 87 rfl) (ow hw 88 rfl) (ow hw 90 rfl) (ow hw 89 rfl) F389 (ow hw 91 rfl) (ow hw 27 rfl) rfl (rm10 l Z a0 hw [] o22 (g0_1 p1 p2 p3 p4) b_126 (1 : Int32) (0 : Int32) (1 : Int32) (1 : Int32) (1 : Int32) (3 : Int32) T388.heap n0 F390 P388_0 ge_b_126 ne_o22_b_126 (own_r4 p2) (Or.inr (Or.inr (Or.inr (Or.inr (Or.inr (Or.inr (Or.inl ⟨rfl, rfl, rfl, rfl, rfl, rfl⟩)))))))) 0 (by decide) (by decide) hml rfl (lenOf pd__I_I rfl) [] rfl rfl at_143 rfl fun _ T392 L392 X392 hQ392 => ?_
        obtain ⟨rfl, N392q, K392q, y0_392, y1_392, y2_392, xh392_0, P392_0⟩ := hQ392
        have N392 := Fr.app N388 N392q
        have K392 := K388.trans K392q (own_all1 (Or.inr sy_b_126))
        have F393 := F389.keep K392q
        have F394 := F390.keep K392q (own_nin1 ne_o22_b_126)
        refine own_stk (S' := [(.int (f12 (1 : Int32) (0 : Int32) (1 : Int32) (g0_1 p1 p2 p3 p4)))]) rfl ?_
        have CR395 := CHr.trans CR391 (CHr.keep K392q (own_all1 (own_safeA hZ44.alike P388_0 (by decide))) CH391)
        have CH395 := CHv.keep K392q (own_all1 (own_safeA hZ44.alike P388_0 (by decide))) CH391
        have hk395 := Nat.le_trans hk391 K392q.1
        refine wistore OSc 148 X392 B at_146 #[.val (.int p1), .val (.int p2), .val (.int p3), .val (.int p4), .val (.ref o1), .val (.ref o22), .val (.int (1 : Int32)), .val (.int (0 : Int32)), .val (.int (1 : Int32)), .val (.int (g0_1 p1 p2 p3 p4)), .val (.int (g0_17 p1 p2 p3 p4)), .unset, .unset, .unset, .unset, .unset, .unset] rfl rfl ?_
        refine wiloadN OSc 149 X392 B at_148 rfl rfl ?_
        refine own_stS (fun t k => X392.ldcInt hx hown44 (mvT hZ44 (ow hw 86 rfl)) (g := (mkF m 149 #[.val (.int p1), .val (.int p2), .val (.int p3), .val (.int p4), .val (.ref o1), .val (.ref o22), .val (.int (1 : Int32)), .val (.int (0 : Int32)), .val (.int (1 : Int32)), .val (.int (g0_1 p1 p2 p3 p4)), .val (.int (g0_17 p1 p2 p3 p4)), .unset, .unset, .unset, .unset, .unset, .unset] [(.int p3)])) rfl (hb hby at_149) _ k) ?_
        show OGS _ _ p e _ s below _ T392 (mkF m 151 #[.val (.int p1), .val (.int p2), .val (.int p3), .val (.int p4), .val (.ref o1), .val (.ref o22), .val (.int (1 : Int32)), .val (.int (0 : Int32)), .val (.int (1 : Int32)), .val (.int (g0_1 p1 p2 p3 p4)), .val (.int (g0_17 p1 p2 p3 p4)), .unset, .unset, .unset, .unset, .unset, .unset] [(.int (2147483647 : Int32)), (.int p3)])
        refine wiand OSc 152 X392 B at_151 rfl ?_
        refine wiconst OSc 153 X392 B at_152 4 rfl rfl ?_
        refine own_stS (fun t k => iremM X392 hx rfl (hb hby at_153) rfl (by decide) k) ?_
        show OGS _ _ p e _ s below _ T392 (mkF m 154 #[.val (.int p1), .val (.int p2), .val (.int p3), .val (.int p4), .val (.ref o1), .val (.ref o22), .val (.int (1 : Int32)), .val (.int (0 : Int32)), .val (.int (1 : Int32)), .val (.int (g0_1 p1 p2 p3 p4)), .val (.int (g0_17 p1 p2 p3 p4)), .unset, .unset, .unset, .unset, .unset, .unset] [(.int ((p3 &&& (2147483647 : Int32)) % (4 : Int32)))])
        refine wistore OSc 156 X392 B at_154 #[.val (.int p1), .val (.int p2), .val (.int p3), .val (.int p4), .val (.ref o1), .val (.ref o22), .val (.int (1 : Int32)), .val (.int (0 : Int32)), .val (.int (1 : Int32)), .val (.int (g0_1 p1 p2 p3 p4)), .val (.int (g0_17 p1 p2 p3 p4)), .val (.int (g0_3 p1 p2 p3 p4)), .unset, .unset, .unset, .unset, .unset] rfl rfl ?_
        by_cases c396 : (g0_3 p1 p2 p3 p4) = (0 : Int32)
        · rw [c396]
          show OGS _ _ p e _ s below _ T392 (mkF m 156 #[.val (.int p1), .val (.int p2), .val (.int p3), .val (.int p4), .val (.ref o1), .val (.ref o22), .val (.int (1 : Int32)), .val (.int (0 : Int32)), .val (.int (1 : Int32)), .val (.int (g0_1 p1 p2 p3 p4)), .val (.int (g0_17 p1 p2 p3 p4)), .val (.int (0 : Int32)), .unset, .unset, .unset, .unset, .unset] [])
          refine wiload OSc 158 X392 B at_156 rfl rfl ?_
          refine wiconst OSc 159 X392 B at_158 3 rfl rfl ?_
          refine wicmpNo OSc 162 X392 B at_159 (by decide) rfl ?_
          refine waload OSc 164 X392 B at_162 rfl rfl rfl ?_
          refine wiload OSc 166 X392 B at_164 rfl rfl ?_
          refine wvirt OSc 169 X392 B hZ44 hown44 (ow hw 92 rfl) (ow hw 93 rfl) (ow hw 95 rfl) (ow hw 94 rfl) F393 (ow hw 96 rfl) (ow hw 27 rfl) rfl (rm11_0 l Z a0 hw [] o22 b_126 y0_392 y1_392 y2_392 (3 : Int32) T392.heap n0 F394 P392_0 ge_b_126 ne_o22_b_126) 0 (by decide) (by decide) hml rfl (lenOf pd__I_V rfl) [] rfl rfl at_166 rfl fun _ T397 L397 X397 hQ397 => ?_
          obtain ⟨rfl, N397q, K397q, P397_0⟩ := hQ397
          have N397 := Fr.app N392 N397q
          have K397 := K392.trans K397q (own_all1 (Or.inr sy_b_126))
          have F398 := F393.keep K397q
          have F399 := F394.keep K397q (own_nin1 ne_o22_b_126)
          refine own_stk (S' := []) rfl ?_
          have CR400 := CHr.trans CR395 (CHr.keep K397q (own_all1 (own_safeA hZ44.alike P392_0 (by decide))) CH395)
          have CH400 := CHv.keep K397q (own_all1 (own_safeA hZ44.alike P392_0 (by decide))) CH395
          have hk400 := Nat.le_trans hk395 K397q.1
          refine wiload OSc 171 X397 B at_169 rfl rfl ?_
          refine wifYes OSc 179 X397 B at_171 (by decide) rfl ?_
          refine wiconst OSc 180 X397 B at_179 1 rfl rfl ?_
          refine wgoto OSc 184 X397 B at_180 rfl ?_
          refine wistore OSc 186 X397 B at_184 #[.val (.int p1), .val (.int p2), .val (.int p3), .val (.int p4), .val (.ref o1), .val (.ref o22), .val (.int (1 : Int32)), .val (.int (0 : Int32)), .val (.int (1 : Int32)), .val (.int (g0_1 p1 p2 p3 p4)), .val (.int (g0_17 p1 p2 p3 p4)), .val (.int (0 : Int32)), .val (.int (1 : Int32)), .unset, .unset, .unset, .unset] rfl rfl ?_
          refine wiload OSc 188 X397 B at_186 rfl rfl ?_
          refine wifNo OSc 191 X397 B at_188 (by decide) rfl ?_
          refine wiload OSc 193 X397 B at_191 rfl rfl ?_
          refine wiconst OSc 194 X397 B at_193 1 rfl rfl ?_
          refine wicmpYes OSc 201 X397 B at_194 (by decide) rfl ?_
          refine wiconst OSc 202 X397 B at_201 0 rfl rfl ?_
          refine wistore OSc 204 X397 B at_202 #[.val (.int p1), .val (.int p2), .val (.int p3), .val (.int p4), .val (.ref o1), .val (.ref o22), .val (.int (1 : Int32)), .val (.int (0 : Int32)), .val (.int (1 : Int32)), .val (.int (g0_1 p1 p2 p3 p4)), .val (.int (g0_17 p1 p2 p3 p4)), .val (.int (0 : Int32)), .val (.int (1 : Int32)), .val (.int (0 : Int32)), .unset, .unset, .unset] rfl rfl ?_
          refine wiload OSc 206 X397 B at_204 rfl rfl ?_
          refine wifYes OSc 215 X397 B at_206 (by decide) rfl ?_
          refine wiconst OSc 216 X397 B at_215 1 rfl rfl ?_
          refine wgoto OSc 220 X397 B at_216 rfl ?_
          refine wistore OSc 222 X397 B at_220 #[.val (.int p1), .val (.int p2), .val (.int p3), .val (.int p4), .val (.ref o1), .val (.ref o22), .val (.int (1 : Int32)), .val (.int (0 : Int32)), .val (.int (1 : Int32)), .val (.int (g0_1 p1 p2 p3 p4)), .val (.int (g0_17 p1 p2 p3 p4)), .val (.int (0 : Int32)), .val (.int (1 : Int32)), .val (.int (0 : Int32)), .val (.int (1 : Int32)), .unset, .unset] rfl rfl ?_
          refine wiloadN OSc 223 X397 B at_222 rfl rfl ?_
          refine own_stS (fun t k => X397.ldcInt hx hown44 (mvT hZ44 (ow hw 86 rfl)) (g := (mkF m 223 #[.val (.int p1), .val (.int p2), .val (.int p3), .val (.int p4), .val (.ref o1), .val (.ref o22), .val (.int (1 : Int32)), .val (.int (0 : Int32)), .val (.int (1 : Int32)), .val (.int (g0_1 p1 p2 p3 p4)), .val (.int (g0_17 p1 p2 p3 p4)), .val (.int (0 : Int32)), .val (.int (1 : Int32)), .val (.int (0 : Int32)), .val (.int (1 : Int32)), .unset, .unset] [(.int p4)])) rfl (hb hby at_223) _ k) ?_
          show OGS _ _ p e _ s below _ T397 (mkF m 225 #[.val (.int p1), .val (.int p2), .val (.int p3), .val (.int p4), .val (.ref o1), .val (.ref o22), .val (.int (1 : Int32)), .val (.int (0 : Int32)), .val (.int (1 : Int32)), .val (.int (g0_1 p1 p2 p3 p4)), .val (.int (g0_17 p1 p2 p3 p4)), .val (.int (0 : Int32)), .val (.int (1 : Int32)), .val (.int (0 : Int32)), .val (.int (1 : Int32)), .unset, .unset] [(.int (2147483647 : Int32)), (.int p4)])
          refine wiand OSc 226 X397 B at_225 rfl ?_
          refine wiconst OSc 227 X397 B at_226 4 rfl rfl ?_
          refine own_stS (fun t k => iremM X397 hx rfl (hb hby at_227) rfl (by decide) k) ?_
          show OGS _ _ p e _ s below _ T397 (mkF m 228 #[.val (.int p1), .val (.int p2), .val (.int p3), .val (.int p4), .val (.ref o1), .val (.ref o22), .val (.int (1 : Int32)), .val (.int (0 : Int32)), .val (.int (1 : Int32)), .val (.int (g0_1 p1 p2 p3 p4)), .val (.int (g0_17 p1 p2 p3 p4)), .val (.int (0 : Int32)), .val (.int (1 : Int32)), .val (.int (0 : Int32)), .val (.int (1 : Int32)), .unset, .unset] [(.int ((p4 &&& (2147483647 : Int32)) % (4 : Int32)))])
          refine wistore OSc 230 X397 B at_228 #[.val (.int p1), .val (.int p2), .val (.int p3), .val (.int p4), .val (.ref o1), .val (.ref o22), .val (.int (1 : Int32)), .val (.int (0 : Int32)), .val (.int (1 : Int32)), .val (.int (g0_1 p1 p2 p3 p4)), .val (.int (g0_17 p1 p2 p3 p4)), .val (.int (0 : Int32)), .val (.int (1 : Int32)), .val (.int (0 : Int32)), .val (.int (1 : Int32)), .val (.int (g0_4 p1 p2 p3 p4)), .unset] rfl rfl ?_
          refine waload OSc 232 X397 B at_230 rfl rfl rfl ?_
          refine wiload OSc 234 X397 B at_232 rfl rfl ?_
          refine wvirt OSc 237 X397 B hZ44 hown44 (ow hw 87 rfl) (ow hw 88 rfl) (ow hw 90 rfl) (ow hw 89 rfl) F398 (ow hw 91 rfl) (ow hw 27 rfl) rfl (rm10 l Z a0 hw [] o22 (g0_4 p1 p2 p3 p4) b_126 (1 : Int32) (0 : Int32) (1 : Int32) (1 : Int32) y1_392 y2_392 T397.heap n0 F399 P397_0 ge_b_126 ne_o22_b_126 (own_r4 p4) (own_gs0 xh392_0)) 0 (by decide) (by decide) hml rfl (lenOf pd__I_I rfl) [] rfl rfl at_234 rfl fun _ T401 L401 X401 hQ401 => ?_
          obtain ⟨rfl, N401q, K401q, y0_401, y1_401, y2_401, xh401_0, P401_0⟩ := hQ401
          have N401 := Fr.app N397 N401q
          have K401 := K397.trans K401q (own_all1 (Or.inr sy_b_126))
          have F402 := F398.keep K401q
          have F403 := F399.keep K401q (own_nin1 ne_o22_b_126)
          refine own_stk (S' := [(.int (f12 (1 : Int32) (0 : Int32) (1 : Int32) (g0_4 p1 p2 p3 p4)))]) rfl ?_
          have CR404 := CHr.trans CR400 (CHr.keep K401q (own_all1 (own_safeA hZ44.alike P397_0 (by decide))) CH400)
          have CH404 := CHv.keep K401q (own_all1 (own_safeA hZ44.alike P397_0 (by decide))) CH400
          have hk404 := Nat.le_trans hk400 K401q.1
          refine wistore OSc 239 X401 B at_237 #[.val (.int p1), .val (.int p2), .val (.int p3), .val (.int p4), .val (.ref o1), .val (.ref o22), .val (.int (1 : Int32)), .val (.int (0 : Int32)), .val (.int (1 : Int32)), .val (.int (g0_1 p1 p2 p3 p4)), .val (.int (g0_17 p1 p2 p3 p4)), .val (.int (0 : Int32)), .val (.int (1 : Int32)), .val (.int (0 : Int32)), .val (.int (1 : Int32)), .val (.int (g0_4 p1 p2 p3 p4)), .val (.int (g0_10 p1 p2 p3 p4))] rfl rfl ?_
          refine wiload OSc 241 X401 B at_239 rfl rfl ?_
          refine wiload OSc 243 X401 B at_241 rfl rfl ?_
          refine wiload OSc 245 X401 B at_243 rfl rfl ?_
          refine wiload OSc 247 X401 B at_245 rfl rfl ?_
          refine wiload OSc 249 X401 B at_247 rfl rfl ?_
          refine wstat OSc 252 X401 B hZ44 hown44 (ow hw 97 rfl) (ow hw 98 rfl) (ow hw 100 rfl) (ow hw 99 rfl) rfl (rm12 l Z a0 hw [] (1 : Int32) (0 : Int32) (1 : Int32) (g0_1 p1 p2 p3 p4) T401.heap) 1 (by decide) (by decide) hml rfl (lenOf pd__ZZZI_I rfl) [(.int (g0_17 p1 p2 p3 p4))] rfl rfl at_249 rfl fun _ T405 L405 X405 hQ405 => ?_
          obtain ⟨rfl, rfl, e405⟩ := hQ405
          have N405 := Fr.app N401 (Fr.nil n0)
          refine own_stk (S' := [(.int (f12 (1 : Int32) (0 : Int32) (1 : Int32) (g0_1 p1 p2 p3 p4))), (.int (g0_17 p1 p2 p3 p4))]) rfl ?_
          refine wicmpNo OSc 255 X405 B at_252 (teq rfl).2 rfl ?_
          refine wiload OSc 257 X405 B at_255 rfl rfl ?_
          refine wiload OSc 259 X405 B at_257 rfl rfl ?_
          refine wiload OSc 261 X405 B at_259 rfl rfl ?_
          refine wiload OSc 263 X405 B at_261 rfl rfl ?_
          refine wiload OSc 265 X405 B at_263 rfl rfl ?_
          refine wstat OSc 268 X405 B hZ44 hown44 (ow hw 97 rfl) (ow hw 98 rfl) (ow hw 100 rfl) (ow hw 99 rfl) e405 (rm12 l Z a0 hw [] (1 : Int32) (0 : Int32) (1 : Int32) (g0_4 p1 p2 p3 p4) T401.heap) 1 (by decide) (by decide) hml rfl (lenOf pd__ZZZI_I rfl) [(.int (g0_10 p1 p2 p3 p4))] rfl rfl at_265 rfl fun _ T406 L406 X406 hQ406 => ?_
          obtain ⟨rfl, rfl, e406⟩ := hQ406
          have N406 := Fr.app N405 (Fr.nil n0)
          refine own_stk (S' := [(.int (f12 (1 : Int32) (0 : Int32) (1 : Int32) (g0_4 p1 p2 p3 p4))), (.int (g0_10 p1 p2 p3 p4))]) rfl ?_
          refine wicmpNo OSc 271 X406 B at_268 (teq rfl).2 rfl ?_
          refine wiconst OSc 272 X406 B at_271 1 rfl rfl ?_
          refine wgoto OSc 276 X406 B at_272 rfl ?_
          refine own_endS X406 hlk hZ44 hEL e406 hs0 hS44 hk404 CH404 CR404 (v := some (.int (nar .boolean (1 : Int32)))) (fun h => by rw [hret] at h; cases h) (by decide) (by decide) ?_ (fun fs hr => retN X406 hx (t := .boolean) hret (by simp) (hb hby at_276) hr)
          exact ⟨congrArg (fun z => some (Value.int z)) (show f0 p1 p2 p3 p4 = (1 : Int32) from (by rw [f0, if_neg c138, if_pos c334, if_neg c335, if_pos c396])).symm, N406⟩
        · skip
          by_cases c407 : (g0_3 p1 p2 p3 p4) = (1 : Int32)
          · rw [c407]
            show OGS _ _ p e _ s below _ T392 (mkF m 156 #[.val (.int p1), .val (.int p2), .val (.int p3), .val (.int p4), .val (.ref o1), .val (.ref o22), .val (.int (1 : Int32)), .val (.int (0 : Int32)), .val (.int (1 : Int32)), .val (.int (g0_1 p1 p2 p3 p4)), .val (.int (g0_17 p1 p2 p3 p4)), .val (.int (1 : Int32)), .unset, .unset, .unset, .unset, .unset] [])
            refine wiload OSc 158 X392 B at_156 rfl rfl ?_
            refine wiconst OSc 159 X392 B at_158 3 rfl rfl ?_
            refine wicmpNo OSc 162 X392 B at_159 (by decide) rfl ?_
            refine waload OSc 164 X392 B at_162 rfl rfl rfl ?_
            refine wiload OSc 166 X392 B at_164 rfl rfl ?_
            refine wvirt OSc 169 X392 B hZ44 hown44 (ow hw 92 rfl) (ow hw 93 rfl) (ow hw 95 rfl) (ow hw 94 rfl) F393 (ow hw 96 rfl) (ow hw 27 rfl) rfl (rm11_1 l Z a0 hw [] o22 b_126 y0_392 y1_392 y2_392 (3 : Int32) T392.heap n0 F394 P392_0 ge_b_126 ne_o22_b_126) 0 (by decide) (by decide) hml rfl (lenOf pd__I_V rfl) [] rfl rfl at_166 rfl fun _ T408 L408 X408 hQ408 => ?_
            obtain ⟨rfl, N408q, K408q, P408_0⟩ := hQ408
            have N408 := Fr.app N392 N408q
            have K408 := K392.trans K408q (own_all1 (Or.inr sy_b_126))
            have F409 := F393.keep K408q
            have F410 := F394.keep K408q (own_nin1 ne_o22_b_126)
            refine own_stk (S' := []) rfl ?_
            have CR411 := CHr.trans CR395 (CHr.keep K408q (own_all1 (own_safeA hZ44.alike P392_0 (by decide))) CH395)
            have CH411 := CHv.keep K408q (own_all1 (own_safeA hZ44.alike P392_0 (by decide))) CH395
            have hk411 := Nat.le_trans hk395 K408q.1
            refine wiload OSc 171 X408 B at_169 rfl rfl ?_
            refine wifYes OSc 179 X408 B at_171 (by decide) rfl ?_
            refine wiconst OSc 180 X408 B at_179 1 rfl rfl ?_
            refine wgoto OSc 184 X408 B at_180 rfl ?_
            refine wistore OSc 186 X408 B at_184 #[.val (.int p1), .val (.int p2), .val (.int p3), .val (.int p4), .val (.ref o1), .val (.ref o22), .val (.int (1 : Int32)), .val (.int (0 : Int32)), .val (.int (1 : Int32)), .val (.int (g0_1 p1 p2 p3 p4)), .val (.int (g0_17 p1 p2 p3 p4)), .val (.int (1 : Int32)), .val (.int (1 : Int32)), .unset, .unset, .unset, .unset] rfl rfl ?_
            refine wiload OSc 188 X408 B at_186 rfl rfl ?_
            refine wifNo OSc 191 X408 B at_188 (by decide) rfl ?_
            refine wiload OSc 193 X408 B at_191 rfl rfl ?_
            refine wiconst OSc 194 X408 B at_193 1 rfl rfl ?_
            refine wicmpNo OSc 197 X408 B at_194 (by decide) rfl ?_
            refine wiconst OSc 198 X408 B at_197 1 rfl rfl ?_
            refine wgoto OSc 202 X408 B at_198 rfl ?_
            refine wistore OSc 204 X408 B at_202 #[.val (.int p1), .val (.int p2), .val (.int p3), .val (.int p4), .val (.ref o1), .val (.ref o22), .val (.int (1 : Int32)), .val (.int (0 : Int32)), .val (.int (1 : Int32)), .val (.int (g0_1 p1 p2 p3 p4)), .val (.int (g0_17 p1 p2 p3 p4)), .val (.int (1 : Int32)), .val (.int (1 : Int32)), .val (.int (1 : Int32)), .unset, .unset, .unset] rfl rfl ?_
            refine wiload OSc 206 X408 B at_204 rfl rfl ?_
            refine wifYes OSc 215 X408 B at_206 (by decide) rfl ?_
            refine wiconst OSc 216 X408 B at_215 1 rfl rfl ?_
            refine wgoto OSc 220 X408 B at_216 rfl ?_
            refine wistore OSc 222 X408 B at_220 #[.val (.int p1), .val (.int p2), .val (.int p3), .val (.int p4), .val (.ref o1), .val (.ref o22), .val (.int (1 : Int32)), .val (.int (0 : Int32)), .val (.int (1 : Int32)), .val (.int (g0_1 p1 p2 p3 p4)), .val (.int (g0_17 p1 p2 p3 p4)), .val (.int (1 : Int32)), .val (.int (1 : Int32)), .val (.int (1 : Int32)), .val (.int (1 : Int32)), .unset, .unset] rfl rfl ?_
            refine wiloadN OSc 223 X408 B at_222 rfl rfl ?_
            refine own_stS (fun t k => X408.ldcInt hx hown44 (mvT hZ44 (ow hw 86 rfl)) (g := (mkF m 223 #[.val (.int p1), .val (.int p2), .val (.int p3), .val (.int p4), .val (.ref o1), .val (.ref o22), .val (.int (1 : Int32)), .val (.int (0 : Int32)), .val (.int (1 : Int32)), .val (.int (g0_1 p1 p2 p3 p4)), .val (.int (g0_17 p1 p2 p3 p4)), .val (.int (1 : Int32)), .val (.int (1 : Int32)), .val (.int (1 : Int32)), .val (.int (1 : Int32)), .unset, .unset] [(.int p4)])) rfl (hb hby at_223) _ k) ?_
            show OGS _ _ p e _ s below _ T408 (mkF m 225 #[.val (.int p1), .val (.int p2), .val (.int p3), .val (.int p4), .val (.ref o1), .val (.ref o22), .val (.int (1 : Int32)), .val (.int (0 : Int32)), .val (.int (1 : Int32)), .val (.int (g0_1 p1 p2 p3 p4)), .val (.int (g0_17 p1 p2 p3 p4)), .val (.int (1 : Int32)), .val (.int (1 : Int32)), .val (.int (1 : Int32)), .val (.int (1 : Int32)), .unset, .unset] [(.int (2147483647 : Int32)), (.int p4)])
            refine wiand OSc 226 X408 B at_225 rfl ?_
            refine wiconst OSc 227 X408 B at_226 4 rfl rfl ?_
            refine own_stS (fun t k => iremM X408 hx rfl (hb hby at_227) rfl (by decide) k) ?_
            show OGS _ _ p e _ s below _ T408 (mkF m 228 #[.val (.int p1), .val (.int p2), .val (.int p3), .val (.int p4), .val (.ref o1), .val (.ref o22), .val (.int (1 : Int32)), .val (.int (0 : Int32)), .val (.int (1 : Int32)), .val (.int (g0_1 p1 p2 p3 p4)), .val (.int (g0_17 p1 p2 p3 p4)), .val (.int (1 : Int32)), .val (.int (1 : Int32)), .val (.int (1 : Int32)), .val (.int (1 : Int32)), .unset, .unset] [(.int ((p4 &&& (2147483647 : Int32)) % (4 : Int32)))])
            refine wistore OSc 230 X408 B at_228 #[.val (.int p1), .val (.int p2), .val (.int p3), .val (.int p4), .val (.ref o1), .val (.ref o22), .val (.int (1 : Int32)), .val (.int (0 : Int32)), .val (.int (1 : Int32)), .val (.int (g0_1 p1 p2 p3 p4)), .val (.int (g0_17 p1 p2 p3 p4)), .val (.int (1 : Int32)), .val (.int (1 : Int32)), .val (.int (1 : Int32)), .val (.int (1 : Int32)), .val (.int (g0_4 p1 p2 p3 p4)), .unset] rfl rfl ?_
            refine waload OSc 232 X408 B at_230 rfl rfl rfl ?_
            refine wiload OSc 234 X408 B at_232 rfl rfl ?_
            refine wvirt OSc 237 X408 B hZ44 hown44 (ow hw 87 rfl) (ow hw 88 rfl) (ow hw 90 rfl) (ow hw 89 rfl) F409 (ow hw 91 rfl) (ow hw 27 rfl) rfl (rm10 l Z a0 hw [] o22 (g0_4 p1 p2 p3 p4) b_126 (1 : Int32) (1 : Int32) (1 : Int32) y0_392 (2 : Int32) y2_392 T408.heap n0 F410 P408_0 ge_b_126 ne_o22_b_126 (own_r4 p4) (own_gs1 xh392_0)) 0 (by decide) (by decide) hml rfl (lenOf pd__I_I rfl) [] rfl rfl at_234 rfl fun _ T412 L412 X412 hQ412 => ?_
            obtain ⟨rfl, N412q, K412q, y0_412, y1_412, y2_412, xh412_0, P412_0⟩ := hQ412
            have N412 := Fr.app N408 N412q
            have K412 := K408.trans K412q (own_all1 (Or.inr sy_b_126))
            have F413 := F409.keep K412q
            have F414 := F410.keep K412q (own_nin1 ne_o22_b_126)
            refine own_stk (S' := [(.int (f12 (1 : Int32) (1 : Int32) (1 : Int32) (g0_4 p1 p2 p3 p4)))]) rfl ?_
            have CR415 := CHr.trans CR411 (CHr.keep K412q (own_all1 (own_safeA hZ44.alike P408_0 (by decide))) CH411)
            have CH415 := CHv.keep K412q (own_all1 (own_safeA hZ44.alike P408_0 (by decide))) CH411
            have hk415 := Nat.le_trans hk411 K412q.1
            refine wistore OSc 239 X412 B at_237 #[.val (.int p1), .val (.int p2), .val (.int p3), .val (.int p4), .val (.ref o1), .val (.ref o22), .val (.int (1 : Int32)), .val (.int (0 : Int32)), .val (.int (1 : Int32)), .val (.int (g0_1 p1 p2 p3 p4)), .val (.int (g0_17 p1 p2 p3 p4)), .val (.int (1 : Int32)), .val (.int (1 : Int32)), .val (.int (1 : Int32)), .val (.int (1 : Int32)), .val (.int (g0_4 p1 p2 p3 p4)), .val (.int (g0_15 p1 p2 p3 p4))] rfl rfl ?_
            refine wiload OSc 241 X412 B at_239 rfl rfl ?_
            refine wiload OSc 243 X412 B at_241 rfl rfl ?_
            refine wiload OSc 245 X412 B at_243 rfl rfl ?_
            refine wiload OSc 247 X412 B at_245 rfl rfl ?_
            refine wiload OSc 249 X412 B at_247 rfl rfl ?_
            refine wstat OSc 252 X412 B hZ44 hown44 (ow hw 97 rfl) (ow hw 98 rfl) (ow hw 100 rfl) (ow hw 99 rfl) rfl (rm12 l Z a0 hw [] (1 : Int32) (0 : Int32) (1 : Int32) (g0_1 p1 p2 p3 p4) T412.heap) 1 (by decide) (by decide) hml rfl (lenOf pd__ZZZI_I rfl) [(.int (g0_17 p1 p2 p3 p4))] rfl rfl at_249 rfl fun _ T416 L416 X416 hQ416 => ?_
            obtain ⟨rfl, rfl, e416⟩ := hQ416
            have N416 := Fr.app N412 (Fr.nil n0)
            refine own_stk (S' := [(.int (f12 (1 : Int32) (0 : Int32) (1 : Int32) (g0_1 p1 p2 p3 p4))), (.int (g0_17 p1 p2 p3 p4))]) rfl ?_
            refine wicmpNo OSc 255 X416 B at_252 (teq rfl).2 rfl ?_
            refine wiload OSc 257 X416 B at_255 rfl rfl ?_
            refine wiload OSc 259 X416 B at_257 rfl rfl ?_
            refine wiload OSc 261 X416 B at_259 rfl rfl ?_
            refine wiload OSc 263 X416 B at_261 rfl rfl ?_
            refine wiload OSc 265 X416 B at_263 rfl rfl ?_
            refine wstat OSc 268 X416 B hZ44 hown44 (ow hw 97 rfl) (ow hw 98 rfl) (ow hw 100 rfl) (ow hw 99 rfl) e416 (rm12 l Z a0 hw [] (1 : Int32) (1 : Int32) (1 : Int32) (g0_4 p1 p2 p3 p4) T412.heap) 1 (by decide) (by decide) hml rfl (lenOf pd__ZZZI_I rfl) [(.int (g0_15 p1 p2 p3 p4))] rfl rfl at_265 rfl fun _ T417 L417 X417 hQ417 => ?_
            obtain ⟨rfl, rfl, e417⟩ := hQ417
            have N417 := Fr.app N416 (Fr.nil n0)
            refine own_stk (S' := [(.int (f12 (1 : Int32) (1 : Int32) (1 : Int32) (g0_4 p1 p2 p3 p4))), (.int (g0_15 p1 p2 p3 p4))]) rfl ?_
            refine wicmpNo OSc 271 X417 B at_268 (teq rfl).2 rfl ?_
            refine wiconst OSc 272 X417 B at_271 1 rfl rfl ?_
            refine wgoto OSc 276 X417 B at_272 rfl ?_
            refine own_endS X417 hlk hZ44 hEL e417 hs0 hS44 hk415 CH415 CR415 (v := some (.int (nar .boolean (1 : Int32)))) (fun h => by rw [hret] at h; cases h) (by decide) (by decide) ?_ (fun fs hr => retN X417 hx (t := .boolean) hret (by simp) (hb hby at_276) hr)
            exact ⟨congrArg (fun z => some (Value.int z)) (show f0 p1 p2 p3 p4 = (1 : Int32) from (by rw [f0, if_neg c138, if_pos c334, if_neg c335, if_neg c396, if_pos c407])).symm, N417⟩
          · skip
            by_cases c418 : (g0_3 p1 p2 p3 p4) = (2 : Int32)
            · rw [c418]
              show OGS _ _ p e _ s below _ T392 (mkF m 156 #[.val (.int p1), .val (.int p2), .val (.int p3), .val (.int p4), .val (.ref o1), .val (.ref o22), .val (.int (1 : Int32)), .val (.int (0 : Int32)), .val (.int (1 : Int32)), .val (.int (g0_1 p1 p2 p3 p4)), .val (.int (g0_17 p1 p2 p3 p4)), .val (.int (2 : Int32)), .unset, .unset, .unset, .unset, .unset] [])
              refine wiload OSc 158 X392 B at_156 rfl rfl ?_
              refine wiconst OSc 159 X392 B at_158 3 rfl rfl ?_
              refine wicmpNo OSc 162 X392 B at_159 (by decide) rfl ?_
              refine waload OSc 164 X392 B at_162 rfl rfl rfl ?_
              refine wiload OSc 166 X392 B at_164 rfl rfl ?_
              refine wvirt OSc 169 X392 B hZ44 hown44 (ow hw 92 rfl) (ow hw 93 rfl) (ow hw 95 rfl) (ow hw 94 rfl) F393 (ow hw 96 rfl) (ow hw 27 rfl) rfl (rm11_2 l Z a0 hw [] o22 b_126 y0_392 y1_392 y2_392 (3 : Int32) T392.heap n0 F394 P392_0 ge_b_126 ne_o22_b_126) 0 (by decide) (by decide) hml rfl (lenOf pd__I_V rfl) [] rfl rfl at_166 rfl fun _ T419 L419 X419 hQ419 => ?_
              obtain ⟨rfl, N419q, K419q, P419_0⟩ := hQ419
              have N419 := Fr.app N392 N419q
              have K419 := K392.trans K419q (own_all1 (Or.inr sy_b_126))
              have F420 := F393.keep K419q
              have F421 := F394.keep K419q (own_nin1 ne_o22_b_126)
              refine own_stk (S' := []) rfl ?_
              have CR422 := CHr.trans CR395 (CHr.keep K419q (own_all1 (own_safeA hZ44.alike P392_0 (by decide))) CH395)
              have CH422 := CHv.keep K419q (own_all1 (own_safeA hZ44.alike P392_0 (by decide))) CH395
              have hk422 := Nat.le_trans hk395 K419q.1
              refine wiload OSc 171 X419 B at_169 rfl rfl ?_
              refine wifYes OSc 179 X419 B at_171 (by decide) rfl ?_
              refine wiconst OSc 180 X419 B at_179 1 rfl rfl ?_
              refine wgoto OSc 184 X419 B at_180 rfl ?_
              refine wistore OSc 186 X419 B at_184 #[.val (.int p1), .val (.int p2), .val (.int p3), .val (.int p4), .val (.ref o1), .val (.ref o22), .val (.int (1 : Int32)), .val (.int (0 : Int32)), .val (.int (1 : Int32)), .val (.int (g0_1 p1 p2 p3 p4)), .val (.int (g0_17 p1 p2 p3 p4)), .val (.int (2 : Int32)), .val (.int (1 : Int32)), .unset, .unset, .unset, .unset] rfl rfl ?_
              refine wiload OSc 188 X419 B at_186 rfl rfl ?_
              refine wifNo OSc 191 X419 B at_188 (by decide) rfl ?_
              refine wiload OSc 193 X419 B at_191 rfl rfl ?_
              refine wiconst OSc 194 X419 B at_193 1 rfl rfl ?_
              refine wicmpYes OSc 201 X419 B at_194 (by decide) rfl ?_
              refine wiconst OSc 202 X419 B at_201 0 rfl rfl ?_
              refine wistore OSc 204 X419 B at_202 #[.val (.int p1), .val (.int p2), .val (.int p3), .val (.int p4), .val (.ref o1), .val (.ref o22), .val (.int (1 : Int32)), .val (.int (0 : Int32)), .val (.int (1 : Int32)), .val (.int (g0_1 p1 p2 p3 p4)), .val (.int (g0_17 p1 p2 p3 p4)), .val (.int (2 : Int32)), .val (.int (1 : Int32)), .val (.int (0 : Int32)), .unset, .unset, .unset] rfl rfl ?_
              refine wiload OSc 206 X419 B at_204 rfl rfl ?_
              refine wifYes OSc 215 X419 B at_206 (by decide) rfl ?_
              refine wiconst OSc 216 X419 B at_215 1 rfl rfl ?_
              refine wgoto OSc 220 X419 B at_216 rfl ?_
              refine wistore OSc 222 X419 B at_220 #[.val (.int p1), .val (.int p2), .val (.int p3), .val (.int p4), .val (.ref o1), .val (.ref o22), .val (.int (1 : Int32)), .val (.int (0 : Int32)), .val (.int (1 : Int32)), .val (.int (g0_1 p1 p2 p3 p4)), .val (.int (g0_17 p1 p2 p3 p4)), .val (.int (2 : Int32)), .val (.int (1 : Int32)), .val (.int (0 : Int32)), .val (.int (1 : Int32)), .unset, .unset] rfl rfl ?_
              refine wiloadN OSc 223 X419 B at_222 rfl rfl ?_
              refine own_stS (fun t k => X419.ldcInt hx hown44 (mvT hZ44 (ow hw 86 rfl)) (g := (mkF m 223 #[.val (.int p1), .val (.int p2), .val (.int p3), .val (.int p4), .val (.ref o1), .val (.ref o22), .val (.int (1 : Int32)), .val (.int (0 : Int32)), .val (.int (1 : Int32)), .val (.int (g0_1 p1 p2 p3 p4)), .val (.int (g0_17 p1 p2 p3 p4)), .val (.int (2 : Int32)), .val (.int (1 : Int32)), .val (.int (0 : Int32)), .val (.int (1 : Int32)), .unset, .unset] [(.int p4)])) rfl (hb hby at_223) _ k) ?_
              show OGS _ _ p e _ s below _ T419 (mkF m 225 #[.val (.int p1), .val (.int p2), .val (.int p3), .val (.int p4), .val (.ref o1), .val (.ref o22), .val (.int (1 : Int32)), .val (.int (0 : Int32)), .val (.int (1 : Int32)), .val (.int (g0_1 p1 p2 p3 p4)), .val (.int (g0_17 p1 p2 p3 p4)), .val (.int (2 : Int32)), .val (.int (1 : Int32)), .val (.int (0 : Int32)), .val (.int (1 : Int32)), .unset, .unset] [(.int (2147483647 : Int32)), (.int p4)])
              refine wiand OSc 226 X419 B at_225 rfl ?_
              refine wiconst OSc 227 X419 B at_226 4 rfl rfl ?_
              refine own_stS (fun t k => iremM X419 hx rfl (hb hby at_227) rfl (by decide) k) ?_
              show OGS _ _ p e _ s below _ T419 (mkF m 228 #[.val (.int p1), .val (.int p2), .val (.int p3), .val (.int p4), .val (.ref o1), .val (.ref o22), .val (.int (1 : Int32)), .val (.int (0 : Int32)), .val (.int (1 : Int32)), .val (.int (g0_1 p1 p2 p3 p4)), .val (.int (g0_17 p1 p2 p3 p4)), .val (.int (2 : Int32)), .val (.int (1 : Int32)), .val (.int (0 : Int32)), .val (.int (1 : Int32)), .unset, .unset] [(.int ((p4 &&& (2147483647 : Int32)) % (4 : Int32)))])
              refine wistore OSc 230 X419 B at_228 #[.val (.int p1), .val (.int p2), .val (.int p3), .val (.int p4), .val (.ref o1), .val (.ref o22), .val (.int (1 : Int32)), .val (.int (0 : Int32)), .val (.int (1 : Int32)), .val (.int (g0_1 p1 p2 p3 p4)), .val (.int (g0_17 p1 p2 p3 p4)), .val (.int (2 : Int32)), .val (.int (1 : Int32)), .val (.int (0 : Int32)), .val (.int (1 : Int32)), .val (.int (g0_4 p1 p2 p3 p4)), .unset] rfl rfl ?_
              refine waload OSc 232 X419 B at_230 rfl rfl rfl ?_
              refine wiload OSc 234 X419 B at_232 rfl rfl ?_
              refine wvirt OSc 237 X419 B hZ44 hown44 (ow hw 87 rfl) (ow hw 88 rfl) (ow hw 90 rfl) (ow hw 89 rfl) F420 (ow hw 91 rfl) (ow hw 27 rfl) rfl (rm10 l Z a0 hw [] o22 (g0_4 p1 p2 p3 p4) b_126 (1 : Int32) (0 : Int32) (1 : Int32) y0_392 y1_392 (3 : Int32) T419.heap n0 F421 P419_0 ge_b_126 ne_o22_b_126 (own_r4 p4) (own_gs2 xh392_0)) 0 (by decide) (by decide) hml rfl (lenOf pd__I_I rfl) [] rfl rfl at_234 rfl fun _ T423 L423 X423 hQ423 => ?_
              obtain ⟨rfl, N423q, K423q, y0_423, y1_423, y2_423, xh423_0, P423_0⟩ := hQ423
              have N423 := Fr.app N419 N423q
              have K423 := K419.trans K423q (own_all1 (Or.inr sy_b_126))
              have F424 := F420.keep K423q
              have F425 := F421.keep K423q (own_nin1 ne_o22_b_126)
              refine own_stk (S' := [(.int (f12 (1 : Int32) (0 : Int32) (1 : Int32) (g0_4 p1 p2 p3 p4)))]) rfl ?_
              have CR426 := CHr.trans CR422 (CHr.keep K423q (own_all1 (own_safeA hZ44.alike P419_0 (by decide))) CH422)
              have CH426 := CHv.keep K423q (own_all1 (own_safeA hZ44.alike P419_0 (by decide))) CH422
              have hk426 := Nat.le_trans hk422 K423q.1
              refine wistore OSc 239 X423 B at_237 #[.val (.int p1), .val (.int p2), .val (.int p3), .val (.int p4), .val (.ref o1), .val (.ref o22), .val (.int (1 : Int32)), .val (.int (0 : Int32)), .val (.int (1 : Int32)), .val (.int (g0_1 p1 p2 p3 p4)), .val (.int (g0_17 p1 p2 p3 p4)), .val (.int (2 : Int32)), .val (.int (1 : Int32)), .val (.int (0 : Int32)), .val (.int (1 : Int32)), .val (.int (g0_4 p1 p2 p3 p4)), .val (.int (g0_10 p1 p2 p3 p4))] rfl rfl ?_
              refine wiload OSc 241 X423 B at_239 rfl rfl ?_
              refine wiload OSc 243 X423 B at_241 rfl rfl ?_
              refine wiload OSc 245 X423 B at_243 rfl rfl ?_
              refine wiload OSc 247 X423 B at_245 rfl rfl ?_
              refine wiload OSc 249 X423 B at_247 rfl rfl ?_
              refine wstat OSc 252 X423 B hZ44 hown44 (ow hw 97 rfl) (ow hw 98 rfl) (ow hw 100 rfl) (ow hw 99 rfl) rfl (rm12 l Z a0 hw [] (1 : Int32) (0 : Int32) (1 : Int32) (g0_1 p1 p2 p3 p4) T423.heap) 1 (by decide) (by decide) hml rfl (lenOf pd__ZZZI_I rfl) [(.int (g0_17 p1 p2 p3 p4))] rfl rfl at_249 rfl fun _ T427 L427 X427 hQ427 => ?_
              obtain ⟨rfl, rfl, e427⟩ := hQ427
              have N427 := Fr.app N423 (Fr.nil n0)
              refine own_stk (S' := [(.int (f12 (1 : Int32) (0 : Int32) (1 : Int32) (g0_1 p1 p2 p3 p4))), (.int (g0_17 p1 p2 p3 p4))]) rfl ?_
              refine wicmpNo OSc 255 X427 B at_252 (teq rfl).2 rfl ?_
              refine wiload OSc 257 X427 B at_255 rfl rfl ?_
              refine wiload OSc 259 X427 B at_257 rfl rfl ?_
              refine wiload OSc 261 X427 B at_259 rfl rfl ?_
              refine wiload OSc 263 X427 B at_261 rfl rfl ?_
              refine wiload OSc 265 X427 B at_263 rfl rfl ?_
              refine wstat OSc 268 X427 B hZ44 hown44 (ow hw 97 rfl) (ow hw 98 rfl) (ow hw 100 rfl) (ow hw 99 rfl) e427 (rm12 l Z a0 hw [] (1 : Int32) (0 : Int32) (1 : Int32) (g0_4 p1 p2 p3 p4) T423.heap) 1 (by decide) (by decide) hml rfl (lenOf pd__ZZZI_I rfl) [(.int (g0_10 p1 p2 p3 p4))] rfl rfl at_265 rfl fun _ T428 L428 X428 hQ428 => ?_
              obtain ⟨rfl, rfl, e428⟩ := hQ428
              have N428 := Fr.app N427 (Fr.nil n0)
              refine own_stk (S' := [(.int (f12 (1 : Int32) (0 : Int32) (1 : Int32) (g0_4 p1 p2 p3 p4))), (.int (g0_10 p1 p2 p3 p4))]) rfl ?_
              refine wicmpNo OSc 271 X428 B at_268 (teq rfl).2 rfl ?_
              refine wiconst OSc 272 X428 B at_271 1 rfl rfl ?_
              refine wgoto OSc 276 X428 B at_272 rfl ?_
              refine own_endS X428 hlk hZ44 hEL e428 hs0 hS44 hk426 CH426 CR426 (v := some (.int (nar .boolean (1 : Int32)))) (fun h => by rw [hret] at h; cases h) (by decide) (by decide) ?_ (fun fs hr => retN X428 hx (t := .boolean) hret (by simp) (hb hby at_276) hr)
              exact ⟨congrArg (fun z => some (Value.int z)) (show f0 p1 p2 p3 p4 = (1 : Int32) from (by rw [f0, if_neg c138, if_pos c334, if_neg c335, if_neg c396, if_neg c407, if_pos c418])).symm, N428⟩
            · skip
              by_cases c429 : (g0_3 p1 p2 p3 p4) = (3 : Int32)
              · rw [c429]
                show OGS _ _ p e _ s below _ T392 (mkF m 156 #[.val (.int p1), .val (.int p2), .val (.int p3), .val (.int p4), .val (.ref o1), .val (.ref o22), .val (.int (1 : Int32)), .val (.int (0 : Int32)), .val (.int (1 : Int32)), .val (.int (g0_1 p1 p2 p3 p4)), .val (.int (g0_17 p1 p2 p3 p4)), .val (.int (3 : Int32)), .unset, .unset, .unset, .unset, .unset] [])
                refine wiload OSc 158 X392 B at_156 rfl rfl ?_
                refine wiconst OSc 159 X392 B at_158 3 rfl rfl ?_
                refine wicmpYes OSc 169 X392 B at_159 (by decide) rfl ?_
                refine wiload OSc 171 X392 B at_169 rfl rfl ?_
                refine wifYes OSc 179 X392 B at_171 (by decide) rfl ?_
                refine wiconst OSc 180 X392 B at_179 1 rfl rfl ?_
                refine wgoto OSc 184 X392 B at_180 rfl ?_
                refine wistore OSc 186 X392 B at_184 #[.val (.int p1), .val (.int p2), .val (.int p3), .val (.int p4), .val (.ref o1), .val (.ref o22), .val (.int (1 : Int32)), .val (.int (0 : Int32)), .val (.int (1 : Int32)), .val (.int (g0_1 p1 p2 p3 p4)), .val (.int (g0_17 p1 p2 p3 p4)), .val (.int (3 : Int32)), .val (.int (1 : Int32)), .unset, .unset, .unset, .unset] rfl rfl ?_
                refine wiload OSc 188 X392 B at_186 rfl rfl ?_
                refine wifNo OSc 191 X392 B at_188 (by decide) rfl ?_
                refine wiload OSc 193 X392 B at_191 rfl rfl ?_
                refine wiconst OSc 194 X392 B at_193 1 rfl rfl ?_
                refine wicmpYes OSc 201 X392 B at_194 (by decide) rfl ?_
                refine wiconst OSc 202 X392 B at_201 0 rfl rfl ?_
                refine wistore OSc 204 X392 B at_202 #[.val (.int p1), .val (.int p2), .val (.int p3), .val (.int p4), .val (.ref o1), .val (.ref o22), .val (.int (1 : Int32)), .val (.int (0 : Int32)), .val (.int (1 : Int32)), .val (.int (g0_1 p1 p2 p3 p4)), .val (.int (g0_17 p1 p2 p3 p4)), .val (.int (3 : Int32)), .val (.int (1 : Int32)), .val (.int (0 : Int32)), .unset, .unset, .unset] rfl rfl ?_
                refine wiload OSc 206 X392 B at_204 rfl rfl ?_
                refine wifYes OSc 215 X392 B at_206 (by decide) rfl ?_
                refine wiconst OSc 216 X392 B at_215 1 rfl rfl ?_
                refine wgoto OSc 220 X392 B at_216 rfl ?_
                refine wistore OSc 222 X392 B at_220 #[.val (.int p1), .val (.int p2), .val (.int p3), .val (.int p4), .val (.ref o1), .val (.ref o22), .val (.int (1 : Int32)), .val (.int (0 : Int32)), .val (.int (1 : Int32)), .val (.int (g0_1 p1 p2 p3 p4)), .val (.int (g0_17 p1 p2 p3 p4)), .val (.int (3 : Int32)), .val (.int (1 : Int32)), .val (.int (0 : Int32)), .val (.int (1 : Int32)), .unset, .unset] rfl rfl ?_
                refine wiloadN OSc 223 X392 B at_222 rfl rfl ?_
                refine own_stS (fun t k => X392.ldcInt hx hown44 (mvT hZ44 (ow hw 86 rfl)) (g := (mkF m 223 #[.val (.int p1), .val (.int p2), .val (.int p3), .val (.int p4), .val (.ref o1), .val (.ref o22), .val (.int (1 : Int32)), .val (.int (0 : Int32)), .val (.int (1 : Int32)), .val (.int (g0_1 p1 p2 p3 p4)), .val (.int (g0_17 p1 p2 p3 p4)), .val (.int (3 : Int32)), .val (.int (1 : Int32)), .val (.int (0 : Int32)), .val (.int (1 : Int32)), .unset, .unset] [(.int p4)])) rfl (hb hby at_223) _ k) ?_
                show OGS _ _ p e _ s below _ T392 (mkF m 225 #[.val (.int p1), .val (.int p2), .val (.int p3), .val (.int p4), .val (.ref o1), .val (.ref o22), .val (.int (1 : Int32)), .val (.int (0 : Int32)), .val (.int (1 : Int32)), .val (.int (g0_1 p1 p2 p3 p4)), .val (.int (g0_17 p1 p2 p3 p4)), .val (.int (3 : Int32)), .val (.int (1 : Int32)), .val (.int (0 : Int32)), .val (.int (1 : Int32)), .unset, .unset] [(.int (2147483647 : Int32)), (.int p4)])
                refine wiand OSc 226 X392 B at_225 rfl ?_
                refine wiconst OSc 227 X392 B at_226 4 rfl rfl ?_
                refine own_stS (fun t k => iremM X392 hx rfl (hb hby at_227) rfl (by decide) k) ?_
                show OGS _ _ p e _ s below _ T392 (mkF m 228 #[.val (.int p1), .val (.int p2), .val (.int p3), .val (.int p4), .val (.ref o1), .val (.ref o22), .val (.int (1 : Int32)), .val (.int (0 : Int32)), .val (.int (1 : Int32)), .val (.int (g0_1 p1 p2 p3 p4)), .val (.int (g0_17 p1 p2 p3 p4)), .val (.int (3 : Int32)), .val (.int (1 : Int32)), .val (.int (0 : Int32)), .val (.int (1 : Int32)), .unset, .unset] [(.int ((p4 &&& (2147483647 : Int32)) % (4 : Int32)))])
                refine wistore OSc 230 X392 B at_228 #[.val (.int p1), .val (.int p2), .val (.int p3), .val (.int p4), .val (.ref o1), .val (.ref o22), .val (.int (1 : Int32)), .val (.int (0 : Int32)), .val (.int (1 : Int32)), .val (.int (g0_1 p1 p2 p3 p4)), .val (.int (g0_17 p1 p2 p3 p4)), .val (.int (3 : Int32)), .val (.int (1 : Int32)), .val (.int (0 : Int32)), .val (.int (1 : Int32)), .val (.int (g0_4 p1 p2 p3 p4)), .unset] rfl rfl ?_
                refine waload OSc 232 X392 B at_230 rfl rfl rfl ?_
                refine wiload OSc 234 X392 B at_232 rfl rfl ?_
                refine wvirt OSc 237 X392 B hZ44 hown44 (ow hw 87 rfl) (ow hw 88 rfl) (ow hw 90 rfl) (ow hw 89 rfl) F393 (ow hw 91 rfl) (ow hw 27 rfl) rfl (rm10 l Z a0 hw [] o22 (g0_4 p1 p2 p3 p4) b_126 (1 : Int32) (0 : Int32) (1 : Int32) y0_392 y1_392 y2_392 T392.heap n0 F394 P392_0 ge_b_126 ne_o22_b_126 (own_r4 p4) xh392_0) 0 (by decide) (by decide) hml rfl (lenOf pd__I_I rfl) [] rfl rfl at_234 rfl fun _ T430 L430 X430 hQ430 => ?_
                obtain ⟨rfl, N430q, K430q, y0_430, y1_430, y2_430, xh430_0, P430_0⟩ := hQ430
                have N430 := Fr.app N392 N430q
                have K430 := K392.trans K430q (own_all1 (Or.inr sy_b_126))
                have F431 := F393.keep K430q
                have F432 := F394.keep K430q (own_nin1 ne_o22_b_126)
                refine own_stk (S' := [(.int (f12 (1 : Int32) (0 : Int32) (1 : Int32) (g0_4 p1 p2 p3 p4)))]) rfl ?_
                have CR433 := CHr.trans CR395 (CHr.keep K430q (own_all1 (own_safeA hZ44.alike P392_0 (by decide))) CH395)
                have CH433 := CHv.keep K430q (own_all1 (own_safeA hZ44.alike P392_0 (by decide))) CH395
                have hk433 := Nat.le_trans hk395 K430q.1
                refine wistore OSc 239 X430 B at_237 #[.val (.int p1), .val (.int p2), .val (.int p3), .val (.int p4), .val (.ref o1), .val (.ref o22), .val (.int (1 : Int32)), .val (.int (0 : Int32)), .val (.int (1 : Int32)), .val (.int (g0_1 p1 p2 p3 p4)), .val (.int (g0_17 p1 p2 p3 p4)), .val (.int (3 : Int32)), .val (.int (1 : Int32)), .val (.int (0 : Int32)), .val (.int (1 : Int32)), .val (.int (g0_4 p1 p2 p3 p4)), .val (.int (g0_10 p1 p2 p3 p4))] rfl rfl ?_
                refine wiload OSc 241 X430 B at_239 rfl rfl ?_
                refine wiload OSc 243 X430 B at_241 rfl rfl ?_
                refine wiload OSc 245 X430 B at_243 rfl rfl ?_
                refine wiload OSc 247 X430 B at_245 rfl rfl ?_
                refine wiload OSc 249 X430 B at_247 rfl rfl ?_
                refine wstat OSc 252 X430 B hZ44 hown44 (ow hw 97 rfl) (ow hw 98 rfl) (ow hw 100 rfl) (ow hw 99 rfl) rfl (rm12 l Z a0 hw [] (1 : Int32) (0 : Int32) (1 : Int32) (g0_1 p1 p2 p3 p4) T430.heap) 1 (by decide) (by decide) hml rfl (lenOf pd__ZZZI_I rfl) [(.int (g0_17 p1 p2 p3 p4))] rfl rfl at_249 rfl fun _ T434 L434 X434 hQ434 => ?_
                obtain ⟨rfl, rfl, e434⟩ := hQ434
                have N434 := Fr.app N430 (Fr.nil n0)
                refine own_stk (S' := [(.int (f12 (1 : Int32) (0 : Int32) (1 : Int32) (g0_1 p1 p2 p3 p4))), (.int (g0_17 p1 p2 p3 p4))]) rfl ?_
                refine wicmpNo OSc 255 X434 B at_252 (teq rfl).2 rfl ?_
                refine wiload OSc 257 X434 B at_255 rfl rfl ?_
                refine wiload OSc 259 X434 B at_257 rfl rfl ?_
                refine wiload OSc 261 X434 B at_259 rfl rfl ?_
                refine wiload OSc 263 X434 B at_261 rfl rfl ?_
                refine wiload OSc 265 X434 B at_263 rfl rfl ?_
                refine wstat OSc 268 X434 B hZ44 hown44 (ow hw 97 rfl) (ow hw 98 rfl) (ow hw 100 rfl) (ow hw 99 rfl) e434 (rm12 l Z a0 hw [] (1 : Int32) (0 : Int32) (1 : Int32) (g0_4 p1 p2 p3 p4) T430.heap) 1 (by decide) (by decide) hml rfl (lenOf pd__ZZZI_I rfl) [(.int (g0_10 p1 p2 p3 p4))] rfl rfl at_265 rfl fun _ T435 L435 X435 hQ435 => ?_
                obtain ⟨rfl, rfl, e435⟩ := hQ435
                have N435 := Fr.app N434 (Fr.nil n0)
                refine own_stk (S' := [(.int (f12 (1 : Int32) (0 : Int32) (1 : Int32) (g0_4 p1 p2 p3 p4))), (.int (g0_10 p1 p2 p3 p4))]) rfl ?_
                refine wicmpNo OSc 271 X435 B at_268 (teq rfl).2 rfl ?_
                refine wiconst OSc 272 X435 B at_271 1 rfl rfl ?_
                refine wgoto OSc 276 X435 B at_272 rfl ?_
                refine own_endS X435 hlk hZ44 hEL e435 hs0 hS44 hk433 CH433 CR433 (v := some (.int (nar .boolean (1 : Int32)))) (fun h => by rw [hret] at h; cases h) (by decide) (by decide) ?_ (fun fs hr => retN X435 hx (t := .boolean) hret (by simp) (hb hby at_276) hr)
                exact ⟨congrArg (fun z => some (Value.int z)) (show f0 p1 p2 p3 p4 = (1 : Int32) from (by rw [f0, if_neg c138, if_pos c334, if_neg c335, if_neg c396, if_neg c407, if_neg c418, if_pos c429])).symm, N435⟩
              · skip
                exact (own_r4n p1 p2 p3 p4 c396 c407 c418 c429).elim
    · refine wifNo OSc 78 X126 B at_75 (own_if0 (feq c334).1) rfl ?_
      refine wiconst OSc 79 X126 B at_78 1 rfl rfl ?_
      refine wgoto OSc 83 X126 B at_79 rfl ?_
      refine wistore OSc 85 X126 B at_83 #[.val (.int p1), .val (.int p2), .val (.int p3), .val (.int p4), .val (.ref o1), .val (.ref o22), .val (.int (1 : Int32)), .val (.int (1 : Int32)), .unset, .unset, .unset, .unset, .unset, .unset, .unset, .unset, .unset] rfl rfl ?_
      refine wiloadN OSc 86 X126 B at_85 rfl rfl ?_
      refine wiconst OSc 87 X126 B at_86 4 rfl rfl ?_
      refine wiand OSc 88 X126 B at_87 rfl ?_
      by_cases c436 : (p1 &&& (4 : Int32)) = (0 : Int32)
      · refine wifYes OSc 95 X126 B at_88 (own_if0 (teq c436).1) rfl ?_
        refine wiconst OSc 96 X126 B at_95 0 rfl rfl ?_
        refine wistore OSc 98 X126 B at_96 #[.val (.int p1), .val (.int p2), .val (.int p3), .val (.int p4), .val (.ref o1), .val (.ref o22), .val (.int (1 : Int32)), .val (.int (1 : Int32)), .val (.int (0 : Int32)), .unset, .unset, .unset, .unset, .unset, .unset, .unset, .unset] rfl rfl ?_
        refine wiload OSc 100 X126 B at_98 rfl rfl ?_
        refine wifNo OSc 103 X126 B at_100 (by decide) rfl ?_
        refine waload OSc 105 X126 B at_103 rfl rfl rfl ?_
        refine wiconst OSc 106 X126 B at_105 0 rfl rfl ?_
        refine wvirt OSc 109 X126 B hZ44 hown44 (ow hw 92 rfl) (ow hw 93 rfl) (ow hw 95 rfl) (ow hw 94 rfl) P126_0 (ow hw 96 rfl) (ow hw 27 rfl) rfl (rm11_0 l Z a0 hw [] o22 b_126 (0 : Int32) (1 : Int32) (2 : Int32) (3 : Int32) T126.heap n0 P126_1 P126_2 ge_b_126 ne_o22_b_126) 0 (by decide) (by decide) hml rfl (lenOf pd__I_V rfl) [] rfl rfl at_106 rfl fun _ T437 L437 X437 hQ437 => ?_
        obtain ⟨rfl, N437q, K437q, P437_0⟩ := hQ437
        have N437 := Fr.app N126 N437q
        have K437 := K126.trans K437q (own_all1 (Or.inr sy_b_126))
        have F438 := P126_0.keep K437q
        have F439 := P126_1.keep K437q (own_nin1 ne_o22_b_126)
        refine own_stk (S' := []) rfl ?_
        have CR440 := CHr.trans CR137 (CHr.keep K437q (own_all1 (own_safeA hZ44.alike P126_2 (by decide))) CH137)
        have CH440 := CHv.keep K437q (own_all1 (own_safeA hZ44.alike P126_2 (by decide))) CH137
        have hk440 := Nat.le_trans hk137 K437q.1
        refine wiload OSc 111 X437 B at_109 rfl rfl ?_
        refine wifNo OSc 114 X437 B at_111 (by decide) rfl ?_
        refine waload OSc 116 X437 B at_114 rfl rfl rfl ?_
        refine wiconst OSc 117 X437 B at_116 1 rfl rfl ?_
        refine wvirt OSc 120 X437 B hZ44 hown44 (ow hw 92 rfl) (ow hw 93 rfl) (ow hw 95 rfl) (ow hw 94 rfl) F438 (ow hw 96 rfl) (ow hw 27 rfl) rfl (rm11_1 l Z a0 hw [] o22 b_126 (1 : Int32) (1 : Int32) (2 : Int32) (3 : Int32) T437.heap n0 F439 P437_0 ge_b_126 ne_o22_b_126) 0 (by decide) (by decide) hml rfl (lenOf pd__I_V rfl) [] rfl rfl at_117 rfl fun _ T441 L441 X441 hQ441 => ?_
        obtain ⟨rfl, N441q, K441q, P441_0⟩ := hQ441
        have N441 := Fr.app N437 N441q
        have K441 := K437.trans K441q (own_all1 (Or.inr sy_b_126))
        have F442 := F438.keep K441q
        have F443 := F439.keep K441q (own_nin1 ne_o22_b_126)
        refine own_stk (S' := []) rfl ?_
        have CR444 := CHr.trans CR440 (CHr.keep K441q (own_all1 (own_safeA hZ44.alike P437_0 (by decide))) CH440)
        have CH444 := CHv.keep K441q (own_all1 (own_safeA hZ44.alike P437_0 (by decide))) CH440
        have hk444 := Nat.le_trans hk440 K441q.1
        refine wiload OSc 122 X441 B at_120 rfl rfl ?_
        refine wifYes OSc 131 X441 B at_122 (by decide) rfl ?_
        refine wiloadN OSc 132 X441 B at_131 rfl rfl ?_
        refine own_stS (fun t k => X441.ldcInt hx hown44 (mvT hZ44 (ow hw 86 rfl)) (g := (mkF m 132 #[.val (.int p1), .val (.int p2), .val (.int p3), .val (.int p4), .val (.ref o1), .val (.ref o22), .val (.int (1 : Int32)), .val (.int (1 : Int32)), .val (.int (0 : Int32)), .unset, .unset, .unset, .unset, .unset, .unset, .unset, .unset] [(.int p2)])) rfl (hb hby at_132) _ k) ?_
        show OGS _ _ p e _ s below _ T441 (mkF m 134 #[.val (.int p1), .val (.int p2), .val (.int p3), .val (.int p4), .val (.ref o1), .val (.ref o22), .val (.int (1 : Int32)), .val (.int (1 : Int32)), .val (.int (0 : Int32)), .unset, .unset, .unset, .unset, .unset, .unset, .unset, .unset] [(.int (2147483647 : Int32)), (.int p2)])
        refine wiand OSc 135 X441 B at_134 rfl ?_
        refine wiconst OSc 136 X441 B at_135 4 rfl rfl ?_
        refine own_stS (fun t k => iremM X441 hx rfl (hb hby at_136) rfl (by decide) k) ?_
        show OGS _ _ p e _ s below _ T441 (mkF m 137 #[.val (.int p1), .val (.int p2), .val (.int p3), .val (.int p4), .val (.ref o1), .val (.ref o22), .val (.int (1 : Int32)), .val (.int (1 : Int32)), .val (.int (0 : Int32)), .unset, .unset, .unset, .unset, .unset, .unset, .unset, .unset] [(.int ((p2 &&& (2147483647 : Int32)) % (4 : Int32)))])
        refine wistore OSc 139 X441 B at_137 #[.val (.int p1), .val (.int p2), .val (.int p3), .val (.int p4), .val (.ref o1), .val (.ref o22), .val (.int (1 : Int32)), .val (.int (1 : Int32)), .val (.int (0 : Int32)), .val (.int (g0_1 p1 p2 p3 p4)), .unset, .unset, .unset, .unset, .unset, .unset, .unset] rfl rfl ?_
        refine waload OSc 141 X441 B at_139 rfl rfl rfl ?_
        refine wiload OSc 143 X441 B at_141 rfl rfl ?_
        refine wvirt OSc 146 X441 B hZ44 hown44 (ow hw 87 rfl) (ow hw 88 rfl) (ow hw 90 rfl) (ow hw 89 rfl) F442 (ow hw 91 rfl) (ow hw 27 rfl) rfl (rm10 l Z a0 hw [] o22 (g0_1 p1 p2 p3 p4) b_126 (1 : Int32) (1 : Int32) (0 : Int32) (1 : Int32) (2 : Int32) (2 : Int32) T441.heap n0 F443 P441_0 ge_b_126 ne_o22_b_126 (own_r4 p2) (Or.inr (Or.inr (Or.inr (Or.inr (Or.inr (Or.inr (Or.inr (Or.inl ⟨rfl, rfl, rfl, rfl, rfl, rfl⟩))))))))) 0 (by decide) (by decide) hml rfl (lenOf pd__I_I rfl) [] rfl rfl at_143 rfl fun _ T445 L445 X445 hQ445 => ?_
        obtain ⟨rfl, N445q, K445q, y0_445, y1_445, y2_445, xh445_0, P445_0⟩ := hQ445
        have N445 := Fr.app N441 N445q
        have K445 := K441.trans K445q (own_all1 (Or.inr sy_b_126))
        have F446 := F442.keep K445q
        have F447 := F443.keep K445q (own_nin1 ne_o22_b_126)
        refine own_stk (S' := [(.int (f12 (1 : Int32) (1 : Int32) (0 : Int32) (g0_1 p1 p2 p3 p4)))]) rfl ?_
        have CR448 := CHr.trans CR444 (CHr.keep K445q (own_all1 (own_safeA hZ44.alike P441_0 (by decide))) CH444)
        have CH448 := CHv.keep K445q (own_all1 (own_safeA hZ44.alike P441_0 (by decide))) CH444
        have hk448 := Nat.le_trans hk444 K445q.1
        refine wistore OSc 148 X445 B at_146 #[.val (.int p1), .val (.int p2), .val (.int p3), .val (.int p4), .val (.ref o1), .val (.ref o22), .val (.int (1 : Int32)), .val (.int (1 : Int32)), .val (.int (0 : Int32)), .val (.int (g0_1 p1 p2 p3 p4)), .val (.int (g0_18 p1 p2 p3 p4)), .unset, .unset, .unset, .unset, .unset, .unset] rfl rfl ?_
        refine wiloadN OSc 149 X445 B at_148 rfl rfl ?_
        refine own_stS (fun t k => X445.ldcInt hx hown44 (mvT hZ44 (ow hw 86 rfl)) (g := (mkF m 149 #[.val (.int p1), .val (.int p2), .val (.int p3), .val (.int p4), .val (.ref o1), .val (.ref o22), .val (.int (1 : Int32)), .val (.int (1 : Int32)), .val (.int (0 : Int32)), .val (.int (g0_1 p1 p2 p3 p4)), .val (.int (g0_18 p1 p2 p3 p4)), .unset, .unset, .unset, .unset, .unset, .unset] [(.int p3)])) rfl (hb hby at_149) _ k) ?_
        show OGS _ _ p e _ s below _ T445 (mkF m 151 #[.val (.int p1), .val (.int p2), .val (.int p3), .val (.int p4), .val (.ref o1), .val (.ref o22), .val (.int (1 : Int32)), .val (.int (1 : Int32)), .val (.int (0 : Int32)), .val (.int (g0_1 p1 p2 p3 p4)), .val (.int (g0_18 p1 p2 p3 p4)), .unset, .unset, .unset, .unset, .unset, .unset] [(.int (2147483647 : Int32)), (.int p3)])
        refine wiand OSc 152 X445 B at_151 rfl ?_
        refine wiconst OSc 153 X445 B at_152 4 rfl rfl ?_
        refine own_stS (fun t k => iremM X445 hx rfl (hb hby at_153) rfl (by decide) k) ?_
        show OGS _ _ p e _ s below _ T445 (mkF m 154 #[.val (.int p1), .val (.int p2), .val (.int p3), .val (.int p4), .val (.ref o1), .val (.ref o22), .val (.int (1 : Int32)), .val (.int (1 : Int32)), .val (.int (0 : Int32)), .val (.int (g0_1 p1 p2 p3 p4)), .val (.int (g0_18 p1 p2 p3 p4)), .unset, .unset, .unset, .unset, .unset, .unset] [(.int ((p3 &&& (2147483647 : Int32)) % (4 : Int32)))])
        refine wistore OSc 156 X445 B at_154 #[.val (.int p1), .val (.int p2), .val (.int p3), .val (.int p4), .val (.ref o1), .val (.ref o22), .val (.int (1 : Int32)), .val (.int (1 : Int32)), .val (.int (0 : Int32)), .val (.int (g0_1 p1 p2 p3 p4)), .val (.int (g0_18 p1 p2 p3 p4)), .val (.int (g0_3 p1 p2 p3 p4)), .unset, .unset, .unset, .unset, .unset] rfl rfl ?_
        by_cases c449 : (g0_3 p1 p2 p3 p4) = (0 : Int32)
        · rw [c449]
          show OGS _ _ p e _ s below _ T445 (mkF m 156 #[.val (.int p1), .val (.int p2), .val (.int p3), .val (.int p4), .val (.ref o1), .val (.ref o22), .val (.int (1 : Int32)), .val (.int (1 : Int32)), .val (.int (0 : Int32)), .val (.int (g0_1 p1 p2 p3 p4)), .val (.int (g0_18 p1 p2 p3 p4)), .val (.int (0 : Int32)), .unset, .unset, .unset, .unset, .unset] [])
          refine wiload OSc 158 X445 B at_156 rfl rfl ?_
          refine wiconst OSc 159 X445 B at_158 3 rfl rfl ?_
          refine wicmpNo OSc 162 X445 B at_159 (by decide) rfl ?_
          refine waload OSc 164 X445 B at_162 rfl rfl rfl ?_
          refine wiload OSc 166 X445 B at_164 rfl rfl ?_
          refine wvirt OSc 169 X445 B hZ44 hown44 (ow hw 92 rfl) (ow hw 93 rfl) (ow hw 95 rfl) (ow hw 94 rfl) F446 (ow hw 96 rfl) (ow hw 27 rfl) rfl (rm11_0 l Z a0 hw [] o22 b_126 y0_445 y1_445 y2_445 (3 : Int32) T445.heap n0 F447 P445_0 ge_b_126 ne_o22_b_126) 0 (by decide) (by decide) hml rfl (lenOf pd__I_V rfl) [] rfl rfl at_166 rfl fun _ T450 L450 X450 hQ450 => ?_
          obtain ⟨rfl, N450q, K450q, P450_0⟩ := hQ450
          have N450 := Fr.app N445 N450q
          have K450 := K445.trans K450q (own_all1 (Or.inr sy_b_126))
          have F451 := F446.keep K450q
          have F452 := F447.keep K450q (own_nin1 ne_o22_b_126)
          refine own_stk (S' := []) rfl ?_
          have CR453 := CHr.trans CR448 (CHr.keep K450q (own_all1 (own_safeA hZ44.alike P445_0 (by decide))) CH448)
          have CH453 := CHv.keep K450q (own_all1 (own_safeA hZ44.alike P445_0 (by decide))) CH448
          have hk453 := Nat.le_trans hk448 K450q.1
          refine wiload OSc 171 X450 B at_169 rfl rfl ?_
          refine wifYes OSc 179 X450 B at_171 (by decide) rfl ?_
          refine wiconst OSc 180 X450 B at_179 1 rfl rfl ?_
          refine wgoto OSc 184 X450 B at_180 rfl ?_
          refine wistore OSc 186 X450 B at_184 #[.val (.int p1), .val (.int p2), .val (.int p3), .val (.int p4), .val (.ref o1), .val (.ref o22), .val (.int (1 : Int32)), .val (.int (1 : Int32)), .val (.int (0 : Int32)), .val (.int (g0_1 p1 p2 p3 p4)), .val (.int (g0_18 p1 p2 p3 p4)), .val (.int (0 : Int32)), .val (.int (1 : Int32)), .unset, .unset, .unset, .unset] rfl rfl ?_
          refine wiload OSc 188 X450 B at_186 rfl rfl ?_
          refine wifYes OSc 197 X450 B at_188 (by decide) rfl ?_
          refine wiconst OSc 198 X450 B at_197 1 rfl rfl ?_
          refine wgoto OSc 202 X450 B at_198 rfl ?_
          refine wistore OSc 204 X450 B at_202 #[.val (.int p1), .val (.int p2), .val (.int p3), .val (.int p4), .val (.ref o1), .val (.ref o22), .val (.int (1 : Int32)), .val (.int (1 : Int32)), .val (.int (0 : Int32)), .val (.int (g0_1 p1 p2 p3 p4)), .val (.int (g0_18 p1 p2 p3 p4)), .val (.int (0 : Int32)), .val (.int (1 : Int32)), .val (.int (1 : Int32)), .unset, .unset, .unset] rfl rfl ?_
          refine wiload OSc 206 X450 B at_204 rfl rfl ?_
          refine wifNo OSc 209 X450 B at_206 (by decide) rfl ?_
          refine wiload OSc 211 X450 B at_209 rfl rfl ?_
          refine wiconst OSc 212 X450 B at_211 2 rfl rfl ?_
          refine wicmpYes OSc 219 X450 B at_212 (by decide) rfl ?_
          refine wiconst OSc 220 X450 B at_219 0 rfl rfl ?_
          refine wistore OSc 222 X450 B at_220 #[.val (.int p1), .val (.int p2), .val (.int p3), .val (.int p4), .val (.ref o1), .val (.ref o22), .val (.int (1 : Int32)), .val (.int (1 : Int32)), .val (.int (0 : Int32)), .val (.int (g0_1 p1 p2 p3 p4)), .val (.int (g0_18 p1 p2 p3 p4)), .val (.int (0 : Int32)), .val (.int (1 : Int32)), .val (.int (1 : Int32)), .val (.int (0 : Int32)), .unset, .unset] rfl rfl ?_
          refine wiloadN OSc 223 X450 B at_222 rfl rfl ?_
          refine own_stS (fun t k => X450.ldcInt hx hown44 (mvT hZ44 (ow hw 86 rfl)) (g := (mkF m 223 #[.val (.int p1), .val (.int p2), .val (.int p3), .val (.int p4), .val (.ref o1), .val (.ref o22), .val (.int (1 : Int32)), .val (.int (1 : Int32)), .val (.int (0 : Int32)), .val (.int (g0_1 p1 p2 p3 p4)), .val (.int (g0_18 p1 p2 p3 p4)), .val (.int (0 : Int32)), .val (.int (1 : Int32)), .val (.int (1 : Int32)), .val (.int (0 : Int32)), .unset, .unset] [(.int p4)])) rfl (hb hby at_223) _ k) ?_
          show OGS _ _ p e _ s below _ T450 (mkF m 225 #[.val (.int p1), .val (.int p2), .val (.int p3), .val (.int p4), .val (.ref o1), .val (.ref o22), .val (.int (1 : Int32)), .val (.int (1 : Int32)), .val (.int (0 : Int32)), .val (.int (g0_1 p1 p2 p3 p4)), .val (.int (g0_18 p1 p2 p3 p4)), .val (.int (0 : Int32)), .val (.int (1 : Int32)), .val (.int (1 : Int32)), .val (.int (0 : Int32)), .unset, .unset] [(.int (2147483647 : Int32)), (.int p4)])
          refine wiand OSc 226 X450 B at_225 rfl ?_
          refine wiconst OSc 227 X450 B at_226 4 rfl rfl ?_
          refine own_stS (fun t k => iremM X450 hx rfl (hb hby at_227) rfl (by decide) k) ?_
          show OGS _ _ p e _ s below _ T450 (mkF m 228 #[.val (.int p1), .val (.int p2), .val (.int p3), .val (.int p4), .val (.ref o1), .val (.ref o22), .val (.int (1 : Int32)), .val (.int (1 : Int32)), .val (.int (0 : Int32)), .val (.int (g0_1 p1 p2 p3 p4)), .val (.int (g0_18 p1 p2 p3 p4)), .val (.int (0 : Int32)), .val (.int (1 : Int32)), .val (.int (1 : Int32)), .val (.int (0 : Int32)), .unset, .unset] [(.int ((p4 &&& (2147483647 : Int32)) % (4 : Int32)))])
          refine wistore OSc 230 X450 B at_228 #[.val (.int p1), .val (.int p2), .val (.int p3), .val (.int p4), .val (.ref o1), .val (.ref o22), .val (.int (1 : Int32)), .val (.int (1 : Int32)), .val (.int (0 : Int32)), .val (.int (g0_1 p1 p2 p3 p4)), .val (.int (g0_18 p1 p2 p3 p4)), .val (.int (0 : Int32)), .val (.int (1 : Int32)), .val (.int (1 : Int32)), .val (.int (0 : Int32)), .val (.int (g0_4 p1 p2 p3 p4)), .unset] rfl rfl ?_
          refine waload OSc 232 X450 B at_230 rfl rfl rfl ?_
          refine wiload OSc 234 X450 B at_232 rfl rfl ?_
          refine wvirt OSc 237 X450 B hZ44 hown44 (ow hw 87 rfl) (ow hw 88 rfl) (ow hw 90 rfl) (ow hw 89 rfl) F451 (ow hw 91 rfl) (ow hw 27 rfl) rfl (rm10 l Z a0 hw [] o22 (g0_4 p1 p2 p3 p4) b_126 (1 : Int32) (1 : Int32) (0 : Int32) (1 : Int32) y1_445 y2_445 T450.heap n0 F452 P450_0 ge_b_126 ne_o22_b_126 (own_r4 p4) (own_gs0 xh445_0)) 0 (by decide) (by decide) hml rfl (lenOf pd__I_I rfl) [] rfl rfl at_234 rfl fun _ T454 L454 X454 hQ454 => ?_
          obtain ⟨rfl, N454q, K454q, y0_454, y1_454, y2_454, xh454_0, P454_0⟩ := hQ454
          have N454 := Fr.app N450 N454q
          have K454 := K450.trans K454q (own_all1 (Or.inr sy_b_126))
          have F455 := F451.keep K454q
          have F456 := F452.keep K454q (own_nin1 ne_o22_b_126)
          refine own_stk (S' := [(.int (f12 (1 : Int32) (1 : Int32) (0 : Int32) (g0_4 p1 p2 p3 p4)))]) rfl ?_
          have CR457 := CHr.trans CR453 (CHr.keep K454q (own_all1 (own_safeA hZ44.alike P450_0 (by decide))) CH453)
          have CH457 := CHv.keep K454q (own_all1 (own_safeA hZ44.alike P450_0 (by decide))) CH453
          have hk457 := Nat.le_trans hk453 K454q.1
          refine wistore OSc 239 X454 B at_237 #[.val (.int p1), .val (.int p2), .val (.int p3), .val (.int p4), .val (.ref o1), .val (.ref o22), .val (.int (1 : Int32)), .val (.int (1 : Int32)), .val (.int (0 : Int32)), .val (.int (g0_1 p1 p2 p3 p4)), .val (.int (g0_18 p1 p2 p3 p4)), .val (.int (0 : Int32)), .val (.int (1 : Int32)), .val (.int (1 : Int32)), .val (.int (0 : Int32)), .val (.int (g0_4 p1 p2 p3 p4)), .val (.int (g0_13 p1 p2 p3 p4))] rfl rfl ?_
          refine wiload OSc 241 X454 B at_239 rfl rfl ?_
          refine wiload OSc 243 X454 B at_241 rfl rfl ?_
          refine wiload OSc 245 X454 B at_243 rfl rfl ?_
          refine wiload OSc 247 X454 B at_245 rfl rfl ?_
          refine wiload OSc 249 X454 B at_247 rfl rfl ?_
          refine wstat OSc 252 X454 B hZ44 hown44 (ow hw 97 rfl) (ow hw 98 rfl) (ow hw 100 rfl) (ow hw 99 rfl) rfl (rm12 l Z a0 hw [] (1 : Int32) (1 : Int32) (0 : Int32) (g0_1 p1 p2 p3 p4) T454.heap) 1 (by decide) (by decide) hml rfl (lenOf pd__ZZZI_I rfl) [(.int (g0_18 p1 p2 p3 p4))] rfl rfl at_249 rfl fun _ T458 L458 X458 hQ458 => ?_
          obtain ⟨rfl, rfl, e458⟩ := hQ458
          have N458 := Fr.app N454 (Fr.nil n0)
          refine own_stk (S' := [(.int (f12 (1 : Int32) (1 : Int32) (0 : Int32) (g0_1 p1 p2 p3 p4))), (.int (g0_18 p1 p2 p3 p4))]) rfl ?_
          refine wicmpNo OSc 255 X458 B at_252 (teq rfl).2 rfl ?_
          refine wiload OSc 257 X458 B at_255 rfl rfl ?_
          refine wiload OSc 259 X458 B at_257 rfl rfl ?_
          refine wiload OSc 261 X458 B at_259 rfl rfl ?_
          refine wiload OSc 263 X458 B at_261 rfl rfl ?_
          refine wiload OSc 265 X458 B at_263 rfl rfl ?_
          refine wstat OSc 268 X458 B hZ44 hown44 (ow hw 97 rfl) (ow hw 98 rfl) (ow hw 100 rfl) (ow hw 99 rfl) e458 (rm12 l Z a0 hw [] (1 : Int32) (1 : Int32) (0 : Int32) (g0_4 p1 p2 p3 p4) T454.heap) 1 (by decide) (by decide) hml rfl (lenOf pd__ZZZI_I rfl) [(.int (g0_13 p1 p2 p3 p4))] rfl rfl at_265 rfl fun _ T459 L459 X459 hQ459 => ?_
          obtain ⟨rfl, rfl, e459⟩ := hQ459
          have N459 := Fr.app N458 (Fr.nil n0)
          refine own_stk (S' := [(.int (f12 (1 : Int32) (1 : Int32) (0 : Int32) (g0_4 p1 p2 p3 p4))), (.int (g0_13 p1 p2 p3 p4))]) rfl ?_
          refine wicmpNo OSc 271 X459 B at_268 (teq rfl).2 rfl ?_
          refine wiconst OSc 272 X459 B at_271 1 rfl rfl ?_
          refine wgoto OSc 276 X459 B at_272 rfl ?_
          refine own_endS X459 hlk hZ44 hEL e459 hs0 hS44 hk457 CH457 CR457 (v := some (.int (nar .boolean (1 : Int32)))) (fun h => by rw [hret] at h; cases h) (by decide) (by decide) ?_ (fun fs hr => retN X459 hx (t := .boolean) hret (by simp) (hb hby at_276) hr)
          exact ⟨congrArg (fun z => some (Value.int z)) (show f0 p1 p2 p3 p4 = (1 : Int32) from (by rw [f0, if_neg c138, if_neg c334, if_pos c436, if_pos c449])).symm, N459⟩
        · skip
          by_cases c460 : (g0_3 p1 p2 p3 p4) = (1 : Int32)
          · rw [c460]
            show OGS _ _ p e _ s below _ T445 (mkF m 156 #[.val (.int p1), .val (.int p2), .val (.int p3), .val (.int p4), .val (.ref o1), .val (.ref o22), .val (.int (1 : Int32)), .val (.int (1 : Int32)), .val (.int (0 : Int32)), .val (.int (g0_1 p1 p2 p3 p4)), .val (.int (g0_18 p1 p2 p3 p4)), .val (.int (1 : Int32)), .unset, .unset, .unset, .unset, .unset] [])
            refine wiload OSc 158 X445 B at_156 rfl rfl ?_
            refine wiconst OSc 159 X445 B at_158 3 rfl rfl ?_
            refine wicmpNo OSc 162 X445 B at_159 (by decide) rfl ?_
            refine waload OSc 164 X445 B at_162 rfl rfl rfl ?_
            refine wiload OSc 166 X445 B at_164 rfl rfl ?_
            refine wvirt OSc 169 X445 B hZ44 hown44 (ow hw 92 rfl) (ow hw 93 rfl) (ow hw 95 rfl) (ow hw 94 rfl) F446 (ow hw 96 rfl) (ow hw 27 rfl) rfl (rm11_1 l Z a0 hw [] o22 b_126 y0_445 y1_445 y2_445 (3 : Int32) T445.heap n0 F447 P445_0 ge_b_126 ne_o22_b_126) 0 (by decide) (by decide) hml rfl (lenOf pd__I_V rfl) [] rfl rfl at_166 rfl fun _ T461 L461 X461 hQ461 => ?_
            obtain ⟨rfl, N461q, K461q, P461_0⟩ := hQ461
            have N461 := Fr.app N445 N461q
            have K461 := K445.trans K461q (own_all1 (Or.inr sy_b_126))
            have F462 := F446.keep K461q
            have F463 := F447.keep K461q (own_nin1 ne_o22_b_126)
            refine own_stk (S' := []) rfl ?_
            have CR464 := CHr.trans CR448 (CHr.keep K461q (own_all1 (own_safeA hZ44.alike P445_0 (by decide))) CH448)
            have CH464 := CHv.keep K461q (own_all1 (own_safeA hZ44.alike P445_0 (by decide))) CH448
            have hk464 := Nat.le_trans hk448 K461q.1
            refine wiload OSc 171 X461 B at_169 rfl rfl ?_
            refine wifYes OSc 179 X461 B at_171 (by decide) rfl ?_
            refine wiconst OSc 180 X461 B at_179 1 rfl rfl ?_
            refine wgoto OSc 184 X461 B at_180 rfl ?_
            refine wistore OSc 186 X461 B at_184 #[.val (.int p1), .val (.int p2), .val (.int p3), .val (.int p4), .val (.ref o1), .val (.ref o22), .val (.int (1 : Int32)), .val (.int (1 : Int32)), .val (.int (0 : Int32)), .val (.int (g0_1 p1 p2 p3 p4)), .val (.int (g0_18 p1 p2 p3 p4)), .val (.int (1 : Int32)), .val (.int (1 : Int32)), .unset, .unset, .unset, .unset] rfl rfl ?_
            refine wiload OSc 188 X461 B at_186 rfl rfl ?_
            refine wifYes OSc 197 X461 B at_188 (by decide) rfl ?_
            refine wiconst OSc 198 X461 B at_197 1 rfl rfl ?_
            refine wgoto OSc 202 X461 B at_198 rfl ?_
            refine wistore OSc 204 X461 B at_202 #[.val (.int p1), .val (.int p2), .val (.int p3), .val (.int p4), .val (.ref o1), .val (.ref o22), .val (.int (1 : Int32)), .val (.int (1 : Int32)), .val (.int (0 : Int32)), .val (.int (g0_1 p1 p2 p3 p4)), .val (.int (g0_18 p1 p2 p3 p4)), .val (.int (1 : Int32)), .val (.int (1 : Int32)), .val (.int (1 : Int32)), .unset, .unset, .unset] rfl rfl ?_
            refine wiload OSc 206 X461 B at_204 rfl rfl ?_
            refine wifNo OSc 209 X461 B at_206 (by decide) rfl ?_
            refine wiload OSc 211 X461 B at_209 rfl rfl ?_
            refine wiconst OSc 212 X461 B at_211 2 rfl rfl ?_
            refine wicmpYes OSc 219 X461 B at_212 (by decide) rfl ?_
            refine wiconst OSc 220 X461 B at_219 0 rfl rfl ?_
            refine wistore OSc 222 X461 B at_220 #[.val (.int p1), .val (.int p2), .val (.int p3), .val (.int p4), .val (.ref o1), .val (.ref o22), .val (.int (1 : Int32)), .val (.int (1 : Int32)), .val (.int (0 : Int32)), .val (.int (g0_1 p1 p2 p3 p4)), .val (.int (g0_18 p1 p2 p3 p4)), .val (.int (1 : Int32)), .val (.int (1 : Int32)), .val (.int (1 : Int32)), .val (.int (0 : Int32)), .unset, .unset] rfl rfl ?_
            refine wiloadN OSc 223 X461 B at_222 rfl rfl ?_
            refine own_stS (fun t k => X461.ldcInt hx hown44 (mvT hZ44 (ow hw 86 rfl)) (g := (mkF m 223 #[.val (.int p1), .val (.int p2), .val (.int p3), .val (.int p4), .val (.ref o1), .val (.ref o22), .val (.int (1 : Int32)), .val (.int (1 : Int32)), .val (.int (0 : Int32)), .val (.int (g0_1 p1 p2 p3 p4)), .val (.int (g0_18 p1 p2 p3 p4)), .val (.int (1 : Int32)), .val (.int (1 : Int32)), .val (.int (1 : Int32)), .val (.int (0 : Int32)), .unset, .unset] [(.int p4)])) rfl (hb hby at_223) _ k) ?_
            show OGS _ _ p e _ s below _ T461 (mkF m 225 #[.val (.int p1), .val (.int p2), .val (.int p3), .val (.int p4), .val (.ref o1), .val (.ref o22), .val (.int (1 : Int32)), .val (.int (1 : Int32)), .val (.int (0 : Int32)), .val (.int (g0_1 p1 p2 p3 p4)), .val (.int (g0_18 p1 p2 p3 p4)), .val (.int (1 : Int32)), .val (.int (1 : Int32)), .val (.int (1 : Int32)), .val (.int (0 : Int32)), .unset, .unset] [(.int (2147483647 : Int32)), (.int p4)])
            refine wiand OSc 226 X461 B at_225 rfl ?_
            refine wiconst OSc 227 X461 B at_226 4 rfl rfl ?_
            refine own_stS (fun t k => iremM X461 hx rfl (hb hby at_227) rfl (by decide) k) ?_
            show OGS _ _ p e _ s below _ T461 (mkF m 228 #[.val (.int p1), .val (.int p2), .val (.int p3), .val (.int p4), .val (.ref o1), .val (.ref o22), .val (.int (1 : Int32)), .val (.int (1 : Int32)), .val (.int (0 : Int32)), .val (.int (g0_1 p1 p2 p3 p4)), .val (.int (g0_18 p1 p2 p3 p4)), .val (.int (1 : Int32)), .val (.int (1 : Int32)), .val (.int (1 : Int32)), .val (.int (0 : Int32)), .unset, .unset] [(.int ((p4 &&& (2147483647 : Int32)) % (4 : Int32)))])
            refine wistore OSc 230 X461 B at_228 #[.val (.int p1), .val (.int p2), .val (.int p3), .val (.int p4), .val (.ref o1), .val (.ref o22), .val (.int (1 : Int32)), .val (.int (1 : Int32)), .val (.int (0 : Int32)), .val (.int (g0_1 p1 p2 p3 p4)), .val (.int (g0_18 p1 p2 p3 p4)), .val (.int (1 : Int32)), .val (.int (1 : Int32)), .val (.int (1 : Int32)), .val (.int (0 : Int32)), .val (.int (g0_4 p1 p2 p3 p4)), .unset] rfl rfl ?_
            refine waload OSc 232 X461 B at_230 rfl rfl rfl ?_
            refine wiload OSc 234 X461 B at_232 rfl rfl ?_
            refine wvirt OSc 237 X461 B hZ44 hown44 (ow hw 87 rfl) (ow hw 88 rfl) (ow hw 90 rfl) (ow hw 89 rfl) F462 (ow hw 91 rfl) (ow hw 27 rfl) rfl (rm10 l Z a0 hw [] o22 (g0_4 p1 p2 p3 p4) b_126 (1 : Int32) (1 : Int32) (0 : Int32) y0_445 (2 : Int32) y2_445 T461.heap n0 F463 P461_0 ge_b_126 ne_o22_b_126 (own_r4 p4) (own_gs1 xh445_0)) 0 (by decide) (by decide) hml rfl (lenOf pd__I_I rfl) [] rfl rfl at_234 rfl fun _ T465 L465 X465 hQ465 => ?_
            obtain ⟨rfl, N465q, K465q, y0_465, y1_465, y2_465, xh465_0, P465_0⟩ := hQ465
            have N465 := Fr.app N461 N465q
            have K465 := K461.trans K465q (own_all1 (Or.inr sy_b_126))
            have F466 := F462.keep K465q
            have F467 := F463.keep K465q (own_nin1 ne_o22_b_126)
            refine own_stk (S' := [(.int (f12 (1 : Int32) (1 : Int32) (0 : Int32) (g0_4 p1 p2 p3 p4)))]) rfl ?_
            have CR468 := CHr.trans CR464 (CHr.keep K465q (own_all1 (own_safeA hZ44.alike P461_0 (by decide))) CH464)
            have CH468 := CHv.keep K465q (own_all1 (own_safeA hZ44.alike P461_0 (by decide))) CH464
            have hk468 := Nat.le_trans hk464 K465q.1
            refine wistore OSc 239 X465 B at_237 #[.val (.int p1), .val (.int p2), .val (.int p3), .val (.int p4), .val (.ref o1), .val (.ref o22), .val (.int (1 : Int32)), .val (.int (1 : Int32)), .val (.int (0 : Int32)), .val (.int (g0_1 p1 p2 p3 p4)), .val (.int (g0_18 p1 p2 p3 p4)), .val (.int (1 : Int32)), .val (.int (1 : Int32)), .val (.int (1 : Int32)), .val (.int (0 : Int32)), .val (.int (g0_4 p1 p2 p3 p4)), .val (.int (g0_13 p1 p2 p3 p4))] rfl rfl ?_
            refine wiload OSc 241 X465 B at_239 rfl rfl ?_
            refine wiload OSc 243 X465 B at_241 rfl rfl ?_
            refine wiload OSc 245 X465 B at_243 rfl rfl ?_
            refine wiload OSc 247 X465 B at_245 rfl rfl ?_
            refine wiload OSc 249 X465 B at_247 rfl rfl ?_
            refine wstat OSc 252 X465 B hZ44 hown44 (ow hw 97 rfl) (ow hw 98 rfl) (ow hw 100 rfl) (ow hw 99 rfl) rfl (rm12 l Z a0 hw [] (1 : Int32) (1 : Int32) (0 : Int32) (g0_1 p1 p2 p3 p4) T465.heap) 1 (by decide) (by decide) hml rfl (lenOf pd__ZZZI_I rfl) [(.int (g0_18 p1 p2 p3 p4))] rfl rfl at_249 rfl fun _ T469 L469 X469 hQ469 => ?_
            obtain ⟨rfl, rfl, e469⟩ := hQ469
            have N469 := Fr.app N465 (Fr.nil n0)
            refine own_stk (S' := [(.int (f12 (1 : Int32) (1 : Int32) (0 : Int32) (g0_1 p1 p2 p3 p4))), (.int (g0_18 p1 p2 p3 p4))]) rfl ?_
            refine wicmpNo OSc 255 X469 B at_252 (teq rfl).2 rfl ?_
            refine wiload OSc 257 X469 B at_255 rfl rfl ?_
            refine wiload OSc 259 X469 B at_257 rfl rfl ?_
            refine wiload OSc 261 X469 B at_259 rfl rfl ?_
            refine wiload OSc 263 X469 B at_261 rfl rfl ?_
            refine wiload OSc 265 X469 B at_263 rfl rfl ?_
            refine wstat OSc 268 X469 B hZ44 hown44 (ow hw 97 rfl) (ow hw 98 rfl) (ow hw 100 rfl) (ow hw 99 rfl) e469 (rm12 l Z a0 hw [] (1 : Int32) (1 : Int32) (0 : Int32) (g0_4 p1 p2 p3 p4) T465.heap) 1 (by decide) (by decide) hml rfl (lenOf pd__ZZZI_I rfl) [(.int (g0_13 p1 p2 p3 p4))] rfl rfl at_265 rfl fun _ T470 L470 X470 hQ470 => ?_
            obtain ⟨rfl, rfl, e470⟩ := hQ470
            have N470 := Fr.app N469 (Fr.nil n0)
            refine own_stk (S' := [(.int (f12 (1 : Int32) (1 : Int32) (0 : Int32) (g0_4 p1 p2 p3 p4))), (.int (g0_13 p1 p2 p3 p4))]) rfl ?_
            refine wicmpNo OSc 271 X470 B at_268 (teq rfl).2 rfl ?_
            refine wiconst OSc 272 X470 B at_271 1 rfl rfl ?_
            refine wgoto OSc 276 X470 B at_272 rfl ?_
            refine own_endS X470 hlk hZ44 hEL e470 hs0 hS44 hk468 CH468 CR468 (v := some (.int (nar .boolean (1 : Int32)))) (fun h => by rw [hret] at h; cases h) (by decide) (by decide) ?_ (fun fs hr => retN X470 hx (t := .boolean) hret (by simp) (hb hby at_276) hr)
            exact ⟨congrArg (fun z => some (Value.int z)) (show f0 p1 p2 p3 p4 = (1 : Int32) from (by rw [f0, if_neg c138, if_neg c334, if_pos c436, if_neg c449, if_pos c460])).symm, N470⟩
          · skip
            by_cases c471 : (g0_3 p1 p2 p3 p4) = (2 : Int32)
            · rw [c471]
              show OGS _ _ p e _ s below _ T445 (mkF m 156 #[.val (.int p1), .val (.int p2), .val (.int p3), .val (.int p4), .val (.ref o1), .val (.ref o22), .val (.int (1 : Int32)), .val (.int (1 : Int32)), .val (.int (0 : Int32)), .val (.int (g0_1 p1 p2 p3 p4)), .val (.int (g0_18 p1 p2 p3 p4)), .val (.int (2 : Int32)), .unset, .unset, .unset, .unset, .unset] [])
              refine wiload OSc 158 X445 B at_156 rfl rfl ?_
              refine wiconst OSc 159 X445 B at_158 3 rfl rfl ?_
              refine wicmpNo OSc 162 X445 B at_159 (by decide) rfl ?_
              refine waload OSc 164 X445 B at_162 rfl rfl rfl ?_
              refine wiload OSc 166 X445 B at_164 rfl rfl ?_
              refine wvirt OSc 169 X445 B hZ44 hown44 (ow hw 92 rfl) (ow hw 93 rfl) (ow hw 95 rfl) (ow hw 94 rfl) F446 (ow hw 96 rfl) (ow hw 27 rfl) rfl (rm11_2 l Z a0 hw [] o22 b_126 y0_445 y1_445 y2_445 (3 : Int32) T445.heap n0 F447 P445_0 ge_b_126 ne_o22_b_126) 0 (by decide) (by decide) hml rfl (lenOf pd__I_V rfl) [] rfl rfl at_166 rfl fun _ T472 L472 X472 hQ472 => ?_
              obtain ⟨rfl, N472q, K472q, P472_0⟩ := hQ472
              have N472 := Fr.app N445 N472q
              have K472 := K445.trans K472q (own_all1 (Or.inr sy_b_126))
              have F473 := F446.keep K472q
              have F474 := F447.keep K472q (own_nin1 ne_o22_b_126)
              refine own_stk (S' := []) rfl ?_
              have CR475 := CHr.trans CR448 (CHr.keep K472q (own_all1 (own_safeA hZ44.alike P445_0 (by decide))) CH448)
              have CH475 := CHv.keep K472q (own_all1 (own_safeA hZ44.alike P445_0 (by decide))) CH448
              have hk475 := Nat.le_trans hk448 K472q.1
              refine wiload OSc 171 X472 B at_169 rfl rfl ?_
              refine wifYes OSc 179 X472 B at_171 (by decide) rfl ?_
              refine wiconst OSc 180 X472 B at_179 1 rfl rfl ?_
              refine wgoto OSc 184 X472 B at_180 rfl ?_
              refine wistore OSc 186 X472 B at_184 #[.val (.int p1), .val (.int p2), .val (.int p3), .val (.int p4), .val (.ref o1), .val (.ref o22), .val (.int (1 : Int32)), .val (.int (1 : Int32)), .val (.int (0 : Int32)), .val (.int (g0_1 p1 p2 p3 p4)), .val (.int (g0_18 p1 p2 p3 p4)), .val (.int (2 : Int32)), .val (.int (1 : Int32)), .unset, .unset, .unset, .unset] rfl rfl ?_
              refine wiload OSc 188 X472 B at_186 rfl rfl ?_
              refine wifYes OSc 197 X472 B at_188 (by decide) rfl ?_
              refine wiconst OSc 198 X472 B at_197 1 rfl rfl ?_
              refine wgoto OSc 202 X472 B at_198 rfl ?_
              refine wistore OSc 204 X472 B at_202 #[.val (.int p1), .val (.int p2), .val (.int p3), .val (.int p4), .val (.ref o1), .val (.ref o22), .val (.int (1 : Int32)), .val (.int (1 : Int32)), .val (.int (0 : Int32)), .val (.int (g0_1 p1 p2 p3 p4)), .val (.int (g0_18 p1 p2 p3 p4)), .val (.int (2 : Int32)), .val (.int (1 : Int32)), .val (.int (1 : Int32)), .unset, .unset, .unset] rfl rfl ?_
              refine wiload OSc 206 X472 B at_204 rfl rfl ?_
              refine wifNo OSc 209 X472 B at_206 (by decide) rfl ?_
              refine wiload OSc 211 X472 B at_209 rfl rfl ?_
              refine wiconst OSc 212 X472 B at_211 2 rfl rfl ?_
              refine wicmpNo OSc 215 X472 B at_212 (by decide) rfl ?_
              refine wiconst OSc 216 X472 B at_215 1 rfl rfl ?_
              refine wgoto OSc 220 X472 B at_216 rfl ?_
              refine wistore OSc 222 X472 B at_220 #[.val (.int p1), .val (.int p2), .val (.int p3), .val (.int p4), .val (.ref o1), .val (.ref o22), .val (.int (1 : Int32)), .val (.int (1 : Int32)), .val (.int (0 : Int32)), .val (.int (g0_1 p1 p2 p3 p4)), .val (.int (g0_18 p1 p2 p3 p4)), .val (.int (2 : Int32)), .val (.int (1 : Int32)), .val (.int (1 : Int32)), .val (.int (1 : Int32)), .unset, .unset] rfl rfl ?_
              refine wiloadN OSc 223 X472 B at_222 rfl rfl ?_
              refine own_stS (fun t k => X472.ldcInt hx hown44 (mvT hZ44 (ow hw 86 rfl)) (g := (mkF m 223 #[.val (.int p1), .val (.int p2), .val (.int p3), .val (.int p4), .val (.ref o1), .val (.ref o22), .val (.int (1 : Int32)), .val (.int (1 : Int32)), .val (.int (0 : Int32)), .val (.int (g0_1 p1 p2 p3 p4)), .val (.int (g0_18 p1 p2 p3 p4)), .val (.int (2 : Int32)), .val (.int (1 : Int32)), .val (.int (1 : Int32)), .val (.int (1 : Int32)), .unset, .unset] [(.int p4)])) rfl (hb hby at_223) _ k) ?_
              show OGS _ _ p e _ s below _ T472 (mkF m 225 #[.val (.int p1), .val (.int p2), .val (.int p3), .val (.int p4), .val (.ref o1), .val (.ref o22), .val (.int (1 : Int32)), .val (.int (1 : Int32)), .val (.int (0 : Int32)), .val (.int (g0_1 p1 p2 p3 p4)), .val (.int (g0_18 p1 p2 p3 p4)), .val (.int (2 : Int32)), .val (.int (1 : Int32)), .val (.int (1 : Int32)), .val (.int (1 : Int32)), .unset, .unset] [(.int (2147483647 : Int32)), (.int p4)])
              refine wiand OSc 226 X472 B at_225 rfl ?_
              refine wiconst OSc 227 X472 B at_226 4 rfl rfl ?_
              refine own_stS (fun t k => iremM X472 hx rfl (hb hby at_227) rfl (by decide) k) ?_
              show OGS _ _ p e _ s below _ T472 (mkF m 228 #[.val (.int p1), .val (.int p2), .val (.int p3), .val (.int p4), .val (.ref o1), .val (.ref o22), .val (.int (1 : Int32)), .val (.int (1 : Int32)), .val (.int (0 : Int32)), .val (.int (g0_1 p1 p2 p3 p4)), .val (.int (g0_18 p1 p2 p3 p4)), .val (.int (2 : Int32)), .val (.int (1 : Int32)), .val (.int (1 : Int32)), .val (.int (1 : Int32)), .unset, .unset] [(.int ((p4 &&& (2147483647 : Int32)) % (4 : Int32)))])
              refine wistore OSc 230 X472 B at_228 #[.val (.int p1), .val (.int p2), .val (.int p3), .val (.int p4), .val (.ref o1), .val (.ref o22), .val (.int (1 : Int32)), .val (.int (1 : Int32)), .val (.int (0 : Int32)), .val (.int (g0_1 p1 p2 p3 p4)), .val (.int (g0_18 p1 p2 p3 p4)), .val (.int (2 : Int32)), .val (.int (1 : Int32)), .val (.int (1 : Int32)), .val (.int (1 : Int32)), .val (.int (g0_4 p1 p2 p3 p4)), .unset] rfl rfl ?_
              refine waload OSc 232 X472 B at_230 rfl rfl rfl ?_
              refine wiload OSc 234 X472 B at_232 rfl rfl ?_
              refine wvirt OSc 237 X472 B hZ44 hown44 (ow hw 87 rfl) (ow hw 88 rfl) (ow hw 90 rfl) (ow hw 89 rfl) F473 (ow hw 91 rfl) (ow hw 27 rfl) rfl (rm10 l Z a0 hw [] o22 (g0_4 p1 p2 p3 p4) b_126 (1 : Int32) (1 : Int32) (1 : Int32) y0_445 y1_445 (3 : Int32) T472.heap n0 F474 P472_0 ge_b_126 ne_o22_b_126 (own_r4 p4) (own_gs2 xh445_0)) 0 (by decide) (by decide) hml rfl (lenOf pd__I_I rfl) [] rfl rfl at_234 rfl fun _ T476 L476 X476 hQ476 => ?_
              obtain ⟨rfl, N476q, K476q, y0_476, y1_476, y2_476, xh476_0, P476_0⟩ := hQ476
              have N476 := Fr.app N472 N476q
              have K476 := K472.trans K476q (own_all1 (Or.inr sy_b_126))
              have F477 := F473.keep K476q
              have F478 := F474.keep K476q (own_nin1 ne_o22_b_126)
              refine own_stk (S' := [(.int (f12 (1 : Int32) (1 : Int32) (1 : Int32) (g0_4 p1 p2 p3 p4)))]) rfl ?_
              have CR479 := CHr.trans CR475 (CHr.keep K476q (own_all1 (own_safeA hZ44.alike P472_0 (by decide))) CH475)
              have CH479 := CHv.keep K476q (own_all1 (own_safeA hZ44.alike P472_0 (by decide))) CH475
              have hk479 := Nat.le_trans hk475 K476q.1
              refine wistore OSc 239 X476 B at_237 #[.val (.int p1), .val (.int p2), .val (.int p3), .val (.int p4), .val (.ref o1), .val (.ref o22), .val (.int (1 : Int32)), .val (.int (1 : Int32)), .val (.int (0 : Int32)), .val (.int (g0_1 p1 p2 p3 p4)), .val (.int (g0_18 p1 p2 p3 p4)), .val (.int (2 : Int32)), .val (.int (1 : Int32)), .val (.int (1 : Int32)), .val (.int (1 : Int32)), .val (.int (g0_4 p1 p2 p3 p4)), .val (.int (g0_15 p1 p2 p3 p4))] rfl rfl ?_
              refine wiload OSc 241 X476 B at_239 rfl rfl ?_
              refine wiload OSc 243 X476 B at_241 rfl rfl ?_
              refine wiload OSc 245 X476 B at_243 rfl rfl ?_
              refine wiload OSc 247 X476 B at_245 rfl rfl ?_
              refine wiload OSc 249 X476 B at_247 rfl rfl ?_
              refine wstat OSc 252 X476 B hZ44 hown44 (ow hw 97 rfl) (ow hw 98 rfl) (ow hw 100 rfl) (ow hw 99 rfl) rfl (rm12 l Z a0 hw [] (1 : Int32) (1 : Int32) (0 : Int32) (g0_1 p1 p2 p3 p4) T476.heap) 1 (by decide) (by decide) hml rfl (lenOf pd__ZZZI_I rfl) [(.int (g0_18 p1 p2 p3 p4))] rfl rfl at_249 rfl fun _ T480 L480 X480 hQ480 => ?_
              obtain ⟨rfl, rfl, e480⟩ := hQ480
              have N480 := Fr.app N476 (Fr.nil n0)
              refine own_stk (S' := [(.int (f12 (1 : Int32) (1 : Int32) (0 : Int32) (g0_1 p1 p2 p3 p4))), (.int (g0_18 p1 p2 p3 p4))]) rfl ?_
              refine wicmpNo OSc 255 X480 B at_252 (teq rfl).2 rfl ?_
              refine wiload OSc 257 X480 B at_255 rfl rfl ?_
              refine wiload OSc 259 X480 B at_257 rfl rfl ?_
              refine wiload OSc 261 X480 B at_259 rfl rfl ?_
              refine wiload OSc 263 X480 B at_261 rfl rfl ?_
              refine wiload OSc 265 X480 B at_263 rfl rfl ?_
              refine wstat OSc 268 X480 B hZ44 hown44 (ow hw 97 rfl) (ow hw 98 rfl) (ow hw 100 rfl) (ow hw 99 rfl) e480 (rm12 l Z a0 hw [] (1 : Int32) (1 : Int32) (1 : Int32) (g0_4 p1 p2 p3 p4) T476.heap) 1 (by decide) (by decide) hml rfl (lenOf pd__ZZZI_I rfl) [(.int (g0_15 p1 p2 p3 p4))] rfl rfl at_265 rfl fun _ T481 L481 X481 hQ481 => ?_
              obtain ⟨rfl, rfl, e481⟩ := hQ481
              have N481 := Fr.app N480 (Fr.nil n0)
              refine own_stk (S' := [(.int (f12 (1 : Int32) (1 : Int32) (1 : Int32) (g0_4 p1 p2 p3 p4))), (.int (g0_15 p1 p2 p3 p4))]) rfl ?_
              refine wicmpNo OSc 271 X481 B at_268 (teq rfl).2 rfl ?_
              refine wiconst OSc 272 X481 B at_271 1 rfl rfl ?_
              refine wgoto OSc 276 X481 B at_272 rfl ?_
              refine own_endS X481 hlk hZ44 hEL e481 hs0 hS44 hk479 CH479 CR479 (v := some (.int (nar .boolean (1 : Int32)))) (fun h => by rw [hret] at h; cases h) (by decide) (by decide) ?_ (fun fs hr => retN X481 hx (t := .boolean) hret (by simp) (hb hby at_276) hr)
              exact ⟨congrArg (fun z => some (Value.int z)) (show f0 p1 p2 p3 p4 = (1 : Int32) from (by rw [f0, if_neg c138, if_neg c334, if_pos c436, if_neg c449, if_neg c460, if_pos c471])).symm, N481⟩
            · skip
              by_cases c482 : (g0_3 p1 p2 p3 p4) = (3 : Int32)
              · rw [c482]
                show OGS _ _ p e _ s below _ T445 (mkF m 156 #[.val (.int p1), .val (.int p2), .val (.int p3), .val (.int p4), .val (.ref o1), .val (.ref o22), .val (.int (1 : Int32)), .val (.int (1 : Int32)), .val (.int (0 : Int32)), .val (.int (g0_1 p1 p2 p3 p4)), .val (.int (g0_18 p1 p2 p3 p4)), .val (.int (3 : Int32)), .unset, .unset, .unset, .unset, .unset] [])
                refine wiload OSc 158 X445 B at_156 rfl rfl ?_
                refine wiconst OSc 159 X445 B at_158 3 rfl rfl ?_
                refine wicmpYes OSc 169 X445 B at_159 (by decide) rfl ?_
                refine wiload OSc 171 X445 B at_169 rfl rfl ?_
                refine wifYes OSc 179 X445 B at_171 (by decide) rfl ?_
                refine wiconst OSc 180 X445 B at_179 1 rfl rfl ?_
                refine wgoto OSc 184 X445 B at_180 rfl ?_
                refine wistore OSc 186 X445 B at_184 #[.val (.int p1), .val (.int p2), .val (.int p3), .val (.int p4), .val (.ref o1), .val (.ref o22), .val (.int (1 : Int32)), .val (.int (1 : Int32)), .val (.int (0 : Int32)), .val (.int (g0_1 p1 p2 p3 p4)), .val (.int (g0_18 p1 p2 p3 p4)), .val (.int (3 : Int32)), .val (.int (1 : Int32)), .unset, .unset, .unset, .unset] rfl rfl ?_
                refine wiload OSc 188 X445 B at_186 rfl rfl ?_
                refine wifYes OSc 197 X445 B at_188 (by decide) rfl ?_
                refine wiconst OSc 198 X445 B at_197 1 rfl rfl ?_
                refine wgoto OSc 202 X445 B at_198 rfl ?_
                refine wistore OSc 204 X445 B at_202 #[.val (.int p1), .val (.int p2), .val (.int p3), .val (.int p4), .val (.ref o1), .val (.ref o22), .val (.int (1 : Int32)), .val (.int (1 : Int32)), .val (.int (0 : Int32)), .val (.int (g0_1 p1 p2 p3 p4)), .val (.int (g0_18 p1 p2 p3 p4)), .val (.int (3 : Int32)), .val (.int (1 : Int32)), .val (.int (1 : Int32)), .unset, .unset, .unset] rfl rfl ?_
                refine wiload OSc 206 X445 B at_204 rfl rfl ?_
                refine wifNo OSc 209 X445 B at_206 (by decide) rfl ?_
                refine wiload OSc 211 X445 B at_209 rfl rfl ?_
                refine wiconst OSc 212 X445 B at_211 2 rfl rfl ?_
                refine wicmpYes OSc 219 X445 B at_212 (by decide) rfl ?_
                refine wiconst OSc 220 X445 B at_219 0 rfl rfl ?_
                refine wistore OSc 222 X445 B at_220 #[.val (.int p1), .val (.int p2), .val (.int p3), .val (.int p4), .val (.ref o1), .val (.ref o22), .val (.int (1 : Int32)), .val (.int (1 : Int32)), .val (.int (0 : Int32)), .val (.int (g0_1 p1 p2 p3 p4)), .val (.int (g0_18 p1 p2 p3 p4)), .val (.int (3 : Int32)), .val (.int (1 : Int32)), .val (.int (1 : Int32)), .val (.int (0 : Int32)), .unset, .unset] rfl rfl ?_
                refine wiloadN OSc 223 X445 B at_222 rfl rfl ?_
                refine own_stS (fun t k => X445.ldcInt hx hown44 (mvT hZ44 (ow hw 86 rfl)) (g := (mkF m 223 #[.val (.int p1), .val (.int p2), .val (.int p3), .val (.int p4), .val (.ref o1), .val (.ref o22), .val (.int (1 : Int32)), .val (.int (1 : Int32)), .val (.int (0 : Int32)), .val (.int (g0_1 p1 p2 p3 p4)), .val (.int (g0_18 p1 p2 p3 p4)), .val (.int (3 : Int32)), .val (.int (1 : Int32)), .val (.int (1 : Int32)), .val (.int (0 : Int32)), .unset, .unset] [(.int p4)])) rfl (hb hby at_223) _ k) ?_
                show OGS _ _ p e _ s below _ T445 (mkF m 225 #[.val (.int p1), .val (.int p2), .val (.int p3), .val (.int p4), .val (.ref o1), .val (.ref o22), .val (.int (1 : Int32)), .val (.int (1 : Int32)), .val (.int (0 : Int32)), .val (.int (g0_1 p1 p2 p3 p4)), .val (.int (g0_18 p1 p2 p3 p4)), .val (.int (3 : Int32)), .val (.int (1 : Int32)), .val (.int (1 : Int32)), .val (.int (0 : Int32)), .unset, .unset] [(.int (2147483647 : Int32)), (.int p4)])
                refine wiand OSc 226 X445 B at_225 rfl ?_
                refine wiconst OSc 227 X445 B at_226 4 rfl rfl ?_
                refine own_stS (fun t k => iremM X445 hx rfl (hb hby at_227) rfl (by decide) k) ?_
                show OGS _ _ p e _ s below _ T445 (mkF m 228 #[.val (.int p1), .val (.int p2), .val (.int p3), .val (.int p4), .val (.ref o1), .val (.ref o22), .val (.int (1 : Int32)), .val (.int (1 : Int32)), .val (.int (0 : Int32)), .val (.int (g0_1 p1 p2 p3 p4)), .val (.int (g0_18 p1 p2 p3 p4)), .val (.int (3 : Int32)), .val (.int (1 : Int32)), .val (.int (1 : Int32)), .val (.int (0 : Int32)), .unset, .unset] [(.int ((p4 &&& (2147483647 : Int32)) % (4 : Int32)))])
                refine wistore OSc 230 X445 B at_228 #[.val (.int p1), .val (.int p2), .val (.int p3), .val (.int p4), .val (.ref o1), .val (.ref o22), .val (.int (1 : Int32)), .val (.int (1 : Int32)), .val (.int (0 : Int32)), .val (.int (g0_1 p1 p2 p3 p4)), .val (.int (g0_18 p1 p2 p3 p4)), .val (.int (3 : Int32)), .val (.int (1 : Int32)), .val (.int (1 : Int32)), .val (.int (0 : Int32)), .val (.int (g0_4 p1 p2 p3 p4)), .unset] rfl rfl ?_
                refine waload OSc 232 X445 B at_230 rfl rfl rfl ?_
                refine wiload OSc 234 X445 B at_232 rfl rfl ?_
                refine wvirt OSc 237 X445 B hZ44 hown44 (ow hw 87 rfl) (ow hw 88 rfl) (ow hw 90 rfl) (ow hw 89 rfl) F446 (ow hw 91 rfl) (ow hw 27 rfl) rfl (rm10 l Z a0 hw [] o22 (g0_4 p1 p2 p3 p4) b_126 (1 : Int32) (1 : Int32) (0 : Int32) y0_445 y1_445 y2_445 T445.heap n0 F447 P445_0 ge_b_126 ne_o22_b_126 (own_r4 p4) xh445_0) 0 (by decide) (by decide) hml rfl (lenOf pd__I_I rfl) [] rfl rfl at_234 rfl fun _ T483 L483 X483 hQ483 => ?_
                obtain ⟨rfl, N483q, K483q, y0_483, y1_483, y2_483, xh483_0, P483_0⟩ := hQ483
                have N483 := Fr.app N445 N483q
                have K483 := K445.trans K483q (own_all1 (Or.inr sy_b_126))
                have F484 := F446.keep K483q
                have F485 := F447.keep K483q (own_nin1 ne_o22_b_126)
                refine own_stk (S' := [(.int (f12 (1 : Int32) (1 : Int32) (0 : Int32) (g0_4 p1 p2 p3 p4)))]) rfl ?_
                have CR486 := CHr.trans CR448 (CHr.keep K483q (own_all1 (own_safeA hZ44.alike P445_0 (by decide))) CH448)
                have CH486 := CHv.keep K483q (own_all1 (own_safeA hZ44.alike P445_0 (by decide))) CH448
                have hk486 := Nat.le_trans hk448 K483q.1
                refine wistore OSc 239 X483 B at_237 #[.val (.int p1), .val (.int p2), .val (.int p3), .val (.int p4), .val (.ref o1), .val (.ref o22), .val (.int (1 : Int32)), .val (.int (1 : Int32)), .val (.int (0 : Int32)), .val (.int (g0_1 p1 p2 p3 p4)), .val (.int (g0_18 p1 p2 p3 p4)), .val (.int (3 : Int32)), .val (.int (1 : Int32)), .val (.int (1 : Int32)), .val (.int (0 : Int32)), .val (.int (g0_4 p1 p2 p3 p4)), .val (.int (g0_13 p1 p2 p3 p4))] rfl rfl ?_
                refine wiload OSc 241 X483 B at_239 rfl rfl ?_
                refine wiload OSc 243 X483 B at_241 rfl rfl ?_
                refine wiload OSc 245 X483 B at_243 rfl rfl ?_
                refine wiload OSc 247 X483 B at_245 rfl rfl ?_
                refine wiload OSc 249 X483 B at_247 rfl rfl ?_
                refine wstat OSc 252 X483 B hZ44 hown44 (ow hw 97 rfl) (ow hw 98 rfl) (ow hw 100 rfl) (ow hw 99 rfl) rfl (rm12 l Z a0 hw [] (1 : Int32) (1 : Int32) (0 : Int32) (g0_1 p1 p2 p3 p4) T483.heap) 1 (by decide) (by decide) hml rfl (lenOf pd__ZZZI_I rfl) [(.int (g0_18 p1 p2 p3 p4))] rfl rfl at_249 rfl fun _ T487 L487 X487 hQ487 => ?_
                obtain ⟨rfl, rfl, e487⟩ := hQ487
                have N487 := Fr.app N483 (Fr.nil n0)
                refine own_stk (S' := [(.int (f12 (1 : Int32) (1 : Int32) (0 : Int32) (g0_1 p1 p2 p3 p4))), (.int (g0_18 p1 p2 p3 p4))]) rfl ?_
                refine wicmpNo OSc 255 X487 B at_252 (teq rfl).2 rfl ?_
                refine wiload OSc 257 X487 B at_255 rfl rfl ?_
                refine wiload OSc 259 X487 B at_257 rfl rfl ?_
                refine wiload OSc 261 X487 B at_259 rfl rfl ?_
                refine wiload OSc 263 X487 B at_261 rfl rfl ?_
                refine wiload OSc 265 X487 B at_263 rfl rfl ?_
                refine wstat OSc 268 X487 B hZ44 hown44 (ow hw 97 rfl) (ow hw 98 rfl) (ow hw 100 rfl) (ow hw 99 rfl) e487 (rm12 l Z a0 hw [] (1 : Int32) (1 : Int32) (0 : Int32) (g0_4 p1 p2 p3 p4) T483.heap) 1 (by decide) (by decide) hml rfl (lenOf pd__ZZZI_I rfl) [(.int (g0_13 p1 p2 p3 p4))] rfl rfl at_265 rfl fun _ T488 L488 X488 hQ488 => ?_
                obtain ⟨rfl, rfl, e488⟩ := hQ488
                have N488 := Fr.app N487 (Fr.nil n0)
                refine own_stk (S' := [(.int (f12 (1 : Int32) (1 : Int32) (0 : Int32) (g0_4 p1 p2 p3 p4))), (.int (g0_13 p1 p2 p3 p4))]) rfl ?_
                refine wicmpNo OSc 271 X488 B at_268 (teq rfl).2 rfl ?_
                refine wiconst OSc 272 X488 B at_271 1 rfl rfl ?_
                refine wgoto OSc 276 X488 B at_272 rfl ?_
                refine own_endS X488 hlk hZ44 hEL e488 hs0 hS44 hk486 CH486 CR486 (v := some (.int (nar .boolean (1 : Int32)))) (fun h => by rw [hret] at h; cases h) (by decide) (by decide) ?_ (fun fs hr => retN X488 hx (t := .boolean) hret (by simp) (hb hby at_276) hr)
                exact ⟨congrArg (fun z => some (Value.int z)) (show f0 p1 p2 p3 p4 = (1 : Int32) from (by rw [f0, if_neg c138, if_neg c334, if_pos c436, if_neg c449, if_neg c460, if_neg c471, if_pos c482])).symm, N488⟩
              · skip
                exact (own_r4n p1 p2 p3 p4 c449 c460 c471 c482).elim
      · refine wifNo OSc 91 X126 B at_88 (own_if0 (feq c436).1) rfl ?_
        refine wiconst OSc 92 X126 B at_91 1 rfl rfl ?_
        refine wgoto OSc 96 X126 B at_92 rfl ?_
        refine wistore OSc 98 X126 B at_96 #[.val (.int p1), .val (.int p2), .val (.int p3), .val (.int p4), .val (.ref o1), .val (.ref o22), .val (.int (1 : Int32)), .val (.int (1 : Int32)), .val (.int (1 : Int32)), .unset, .unset, .unset, .unset, .unset, .unset, .unset, .unset] rfl rfl ?_
        refine wiload OSc 100 X126 B at_98 rfl rfl ?_
        refine wifNo OSc 103 X126 B at_100 (by decide) rfl ?_
        refine waload OSc 105 X126 B at_103 rfl rfl rfl ?_
        refine wiconst OSc 106 X126 B at_105 0 rfl rfl ?_
        refine wvirt OSc 109 X126 B hZ44 hown44 (ow hw 92 rfl) (ow hw 93 rfl) (ow hw 95 rfl) (ow hw 94 rfl) P126_0 (ow hw 96 rfl) (ow hw 27 rfl) rfl (rm11_0 l Z a0 hw [] o22 b_126 (0 : Int32) (1 : Int32) (2 : Int32) (3 : Int32) T126.heap n0 P126_1 P126_2 ge_b_126 ne_o22_b_126) 0 (by decide) (by decide) hml rfl (lenOf pd__I_V rfl) [] rfl rfl at_106 rfl fun _ T489 L489 X489 hQ489 => ?_
        obtain ⟨rfl, N489q, K489q, P489_0⟩ := hQ489
        have N489 := Fr.app N126 N489q
        have K489 := K126.trans K489q (own_all1 (Or.inr sy_b_126))
        have F490 := P126_0.keep K489q
        have F491 := P126_1.keep K489q (own_nin1 ne_o22_b_126)
        refine own_stk (S' := []) rfl ?_
        have CR492 := CHr.trans CR137 (CHr.keep K489q (own_all1 (own_safeA hZ44.alike P126_2 (by decide))) CH137)
        have CH492 := CHv.keep K489q (own_all1 (own_safeA hZ44.alike P126_2 (by decide))) CH137
        have hk492 := Nat.le_trans hk137 K489q.1
        refine wiload OSc 111 X489 B at_109 rfl rfl ?_
        refine wifNo OSc 114 X489 B at_111 (by decide) rfl ?_
        refine waload OSc 116 X489 B at_114 rfl rfl rfl ?_
        refine wiconst OSc 117 X489 B at_116 1 rfl rfl ?_
        refine wvirt OSc 120 X489 B hZ44 hown44 (ow hw 92 rfl) (ow hw 93 rfl) (ow hw 95 rfl) (ow hw 94 rfl) F490 (ow hw 96 rfl) (ow hw 27 rfl) rfl (rm11_1 l Z a0 hw [] o22 b_126 (1 : Int32) (1 : Int32) (2 : Int32) (3 : Int32) T489.heap n0 F491 P489_0 ge_b_126 ne_o22_b_126) 0 (by decide) (by decide) hml rfl (lenOf pd__I_V rfl) [] rfl rfl at_117 rfl fun _ T493 L493 X493 hQ493 => ?_
        obtain ⟨rfl, N493q, K493q, P493_0⟩ := hQ493
        have N493 := Fr.app N489 N493q
        have K493 := K489.trans K493q (own_all1 (Or.inr sy_b_126))
        have F494 := F490.keep K493q
        have F495 := F491.keep K493q (own_nin1 ne_o22_b_126)
        refine own_stk (S' := []) rfl ?_
        have CR496 := CHr.trans CR492 (CHr.keep K493q (own_all1 (own_safeA hZ44.alike P489_0 (by decide))) CH492)
        have CH496 := CHv.keep K493q (own_all1 (own_safeA hZ44.alike P489_0 (by decide))) CH492
        have hk496 := Nat.le_trans hk492 K493q.1
        refine wiload OSc 122 X493 B at_120 rfl rfl ?_
        refine wifNo OSc 125 X493 B at_122 (by decide) rfl ?_
        refine waload OSc 127 X493 B at_125 rfl rfl rfl ?_
        refine wiconst OSc 128 X493 B at_127 2 rfl rfl ?_
        refine wvirt OSc 131 X493 B hZ44 hown44 (ow hw 92 rfl) (ow hw 93 rfl) (ow hw 95 rfl) (ow hw 94 rfl) F494 (ow hw 96 rfl) (ow hw 27 rfl) rfl (rm11_2 l Z a0 hw [] o22 b_126 (1 : Int32) (2 : Int32) (2 : Int32) (3 : Int32) T493.heap n0 F495 P493_0 ge_b_126 ne_o22_b_126) 0 (by decide) (by decide) hml rfl (lenOf pd__I_V rfl) [] rfl rfl at_128 rfl fun _ T497 L497 X497 hQ497 => ?_
        obtain ⟨rfl, N497q, K497q, P497_0⟩ := hQ497
        have N497 := Fr.app N493 N497q
        have K497 := K493.trans K497q (own_all1 (Or.inr sy_b_126))
        have F498 := F494.keep K497q
        have F499 := F495.keep K497q (own_nin1 ne_o22_b_126)
        refine own_stk (S' := []) rfl ?_
        have CR500 := CHr.trans CR496 (CHr.keep K497q (own_all1 (own_safeA hZ44.alike P493_0 (by decide))) CH496)
        have CH500 := CHv.keep K497q (own_all1 (own_safeA hZ44.alike P493_0 (by decide))) CH496
        have hk500 := Nat.le_trans hk496 K497q.1
        refine wiloadN OSc 132 X497 B at_131 rfl rfl ?_
        refine own_stS (fun t k => X497.ldcInt hx hown44 (mvT hZ44 (ow hw 86 rfl)) (g := (mkF m 132 #[.val (.int p1), .val (.int p2), .val (.int p3), .val (.int p4), .val (.ref o1), .val (.ref o22), .val (.int (1 : Int32)), .val (.int (1 : Int32)), .val (.int (1 : Int32)), .unset, .unset, .unset, .unset, .unset, .unset, .unset, .unset] [(.int p2)])) rfl (hb hby at_132) _ k) ?_
        show OGS _ _ p e _ s below _ T497 (mkF m 134 #[.val (.int p1), .val (.int p2), .val (.int p3), .val (.int p4), .val (.ref o1), .val (.ref o22), .val (.int (1 : Int32)), .val (.int (1 : Int32)), .val (.int (1 : Int32)), .unset, .unset, .unset, .unset, .unset, .unset, .unset, .unset] [(.int (2147483647 : Int32)), (.int p2)])
        refine wiand OSc 135 X497 B at_134 rfl ?_
        refine wiconst OSc 136 X497 B at_135 4 rfl rfl ?_
        refine own_stS (fun t k => iremM X497 hx rfl (hb hby at_136) rfl (by decide) k) ?_
        show OGS _ _ p e _ s below _ T497 (mkF m 137 #[.val (.int p1), .val (.int p2), .val (.int p3), .val (.int p4), .val (.ref o1), .val (.ref o22), .val (.int (1 : Int32)), .val (.int (1 : Int32)), .val (.int (1 : Int32)), .unset, .unset, .unset, .unset, .unset, .unset, .unset, .unset] [(.int ((p2 &&& (2147483647 : Int32)) % (4 : Int32)))])
        refine wistore OSc 139 X497 B at_137 #[.val (.int p1), .val (.int p2), .val (.int p3), .val (.int p4), .val (.ref o1), .val (.ref o22), .val (.int (1 : Int32)), .val (.int (1 : Int32)), .val (.int (1 : Int32)), .val (.int (g0_1 p1 p2 p3 p4)), .unset, .unset, .unset, .unset, .unset, .unset, .unset] rfl rfl ?_
        refine waload OSc 141 X497 B at_139 rfl rfl rfl ?_
        refine wiload OSc 143 X497 B at_141 rfl rfl ?_
        refine wvirt OSc 146 X497 B hZ44 hown44 (ow hw 87 rfl) (ow hw 88 rfl) (ow hw 90 rfl) (ow hw 89 rfl) F498 (ow hw 91 rfl) (ow hw 27 rfl) rfl (rm10 l Z a0 hw [] o22 (g0_1 p1 p2 p3 p4) b_126 (1 : Int32) (1 : Int32) (1 : Int32) (1 : Int32) (2 : Int32) (3 : Int32) T497.heap n0 F499 P497_0 ge_b_126 ne_o22_b_126 (own_r4 p2) (Or.inr (Or.inr (Or.inr (Or.inr (Or.inr (Or.inr (Or.inr (Or.inr (Or.inr (Or.inl ⟨rfl, rfl, rfl, rfl, rfl, rfl⟩))))))))))) 0 (by decide) (by decide) hml rfl (lenOf pd__I_I rfl) [] rfl rfl at_143 rfl fun _ T501 L501 X501 hQ501 => ?_
        obtain ⟨rfl, N501q, K501q, y0_501, y1_501, y2_501, xh501_0, P501_0⟩ := hQ501
        have N501 := Fr.app N497 N501q
        have K501 := K497.trans K501q (own_all1 (Or.inr sy_b_126))
        have F502 := F498.keep K501q
        have F503 := F499.keep K501q (own_nin1 ne_o22_b_126)
        refine own_stk (S' := [(.int (f12 (1 : Int32) (1 : Int32) (1 : Int32) (g0_1 p1 p2 p3 p4)))]) rfl ?_
        have CR504 := CHr.trans CR500 (CHr.keep K501q (own_all1 (own_safeA hZ44.alike P497_0 (by decide))) CH500)
        have CH504 := CHv.keep K501q (own_all1 (own_safeA hZ44.alike P497_0 (by decide))) CH500
        have hk504 := Nat.le_trans hk500 K501q.1
        refine wistore OSc 148 X501 B at_146 #[.val (.int p1), .val (.int p2), .val (.int p3), .val (.int p4), .val (.ref o1), .val (.ref o22), .val (.int (1 : Int32)), .val (.int (1 : Int32)), .val (.int (1 : Int32)), .val (.int (g0_1 p1 p2 p3 p4)), .val (.int (g0_19 p1 p2 p3 p4)), .unset, .unset, .unset, .unset, .unset, .unset] rfl rfl ?_
        refine wiloadN OSc 149 X501 B at_148 rfl rfl ?_
        refine own_stS (fun t k => X501.ldcInt hx hown44 (mvT hZ44 (ow hw 86 rfl)) (g := (mkF m 149 #[.val (.int p1), .val (.int p2), .val (.int p3), .val (.int p4), .val (.ref o1), .val (.ref o22), .val (.int (1 : Int32)), .val (.int (1 : Int32)), .val (.int (1 : Int32)), .val (.int (g0_1 p1 p2 p3 p4)), .val (.int (g0_19 p1 p2 p3 p4)), .unset, .unset, .unset, .unset, .unset, .unset] [(.int p3)])) rfl (hb hby at_149) _ k) ?_
        show OGS _ _ p e _ s below _ T501 (mkF m 151 #[.val (.int p1), .val (.int p2), .val (.int p3), .val (.int p4), .val (.ref o1), .val (.ref o22), .val (.int (1 : Int32)), .val (.int (1 : Int32)), .val (.int (1 : Int32)), .val (.int (g0_1 p1 p2 p3 p4)), .val (.int (g0_19 p1 p2 p3 p4)), .unset, .unset, .unset, .unset, .unset, .unset] [(.int (2147483647 : Int32)), (.int p3)])
        refine wiand OSc 152 X501 B at_151 rfl ?_
        refine wiconst OSc 153 X501 B at_152 4 rfl rfl ?_
        refine own_stS (fun t k => iremM X501 hx rfl (hb hby at_153) rfl (by decide) k) ?_
        show OGS _ _ p e _ s below _ T501 (mkF m 154 #[.val (.int p1), .val (.int p2), .val (.int p3), .val (.int p4), .val (.ref o1), .val (.ref o22), .val (.int (1 : Int32)), .val (.int (1 : Int32)), .val (.int (1 : Int32)), .val (.int (g0_1 p1 p2 p3 p4)), .val (.int (g0_19 p1 p2 p3 p4)), .unset, .unset, .unset, .unset, .unset, .unset] [(.int ((p3 &&& (2147483647 : Int32)) % (4 : Int32)))])
        refine wistore OSc 156 X501 B at_154 #[.val (.int p1), .val (.int p2), .val (.int p3), .val (.int p4), .val (.ref o1), .val (.ref o22), .val (.int (1 : Int32)), .val (.int (1 : Int32)), .val (.int (1 : Int32)), .val (.int (g0_1 p1 p2 p3 p4)), .val (.int (g0_19 p1 p2 p3 p4)), .val (.int (g0_3 p1 p2 p3 p4)), .unset, .unset, .unset, .unset, .unset] rfl rfl ?_
        by_cases c505 : (g0_3 p1 p2 p3 p4) = (0 : Int32)
        · rw [c505]
          show OGS _ _ p e _ s below _ T501 (mkF m 156 #[.val (.int p1), .val (.int p2), .val (.int p3), .val (.int p4), .val (.ref o1), .val (.ref o22), .val (.int (1 : Int32)), .val (.int (1 : Int32)), .val (.int (1 : Int32)), .val (.int (g0_1 p1 p2 p3 p4)), .val (.int (g0_19 p1 p2 p3 p4)), .val (.int (0 : Int32)), .unset, .unset, .unset, .unset, .unset] [])
          refine wiload OSc 158 X501 B at_156 rfl rfl ?_
          refine wiconst OSc 159 X501 B at_158 3 rfl rfl ?_
          refine wicmpNo OSc 162 X501 B at_159 (by decide) rfl ?_
          refine waload OSc 164 X501 B at_162 rfl rfl rfl ?_
          refine wiload OSc 166 X501 B at_164 rfl rfl ?_
          refine wvirt OSc 169 X501 B hZ44 hown44 (ow hw 92 rfl) (ow hw 93 rfl) (ow hw 95 rfl) (ow hw 94 rfl) F502 (ow hw 96 rfl) (ow hw 27 rfl) rfl (rm11_0 l Z a0 hw [] o22 b_126 y0_501 y1_501 y2_501 (3 : Int32) T501.heap n0 F503 P501_0 ge_b_126 ne_o22_b_126) 0 (by decide) (by decide) hml rfl (lenOf pd__I_V rfl) [] rfl rfl at_166 rfl fun _ T506 L506 X506 hQ506 => ?_
          obtain ⟨rfl, N506q, K506q, P506_0⟩ := hQ506
          have N506 := Fr.app N501 N506q
          have K506 := K501.trans K506q (own_all1 (Or.inr sy_b_126))
          have F507 := F502.keep K506q
          have F508 := F503.keep K506q (own_nin1 ne_o22_b_126)
          refine own_stk (S' := []) rfl ?_
          have CR509 := CHr.trans CR504 (CHr.keep K506q (own_all1 (own_safeA hZ44.alike P501_0 (by decide))) CH504)
          have CH509 := CHv.keep K506q (own_all1 (own_safeA hZ44.alike P501_0 (by decide))) CH504
          have hk509 := Nat.le_trans hk504 K506q.1
          refine wiload OSc 171 X506 B at_169 rfl rfl ?_
          refine wifYes OSc 179 X506 B at_171 (by decide) rfl ?_
          refine wiconst OSc 180 X506 B at_179 1 rfl rfl ?_
          refine wgoto OSc 184 X506 B at_180 rfl ?_
          refine wistore OSc 186 X506 B at_184 #[.val (.int p1), .val (.int p2), .val (.int p3), .val (.int p4), .val (.ref o1), .val (.ref o22), .val (.int (1 : Int32)), .val (.int (1 : Int32)), .val (.int (1 : Int32)), .val (.int (g0_1 p1 p2 p3 p4)), .val (.int (g0_19 p1 p2 p3 p4)), .val (.int (0 : Int32)), .val (.int (1 : Int32)), .unset, .unset, .unset, .unset] rfl rfl ?_
          refine wiload OSc 188 X506 B at_186 rfl rfl ?_
          refine wifYes OSc 197 X506 B at_188 (by decide) rfl ?_
          refine wiconst OSc 198 X506 B at_197 1 rfl rfl ?_
          refine wgoto OSc 202 X506 B at_198 rfl ?_
          refine wistore OSc 204 X506 B at_202 #[.val (.int p1), .val (.int p2), .val (.int p3), .val (.int p4), .val (.ref o1), .val (.ref o22), .val (.int (1 : Int32)), .val (.int (1 : Int32)), .val (.int (1 : Int32)), .val (.int (g0_1 p1 p2 p3 p4)), .val (.int (g0_19 p1 p2 p3 p4)), .val (.int (0 : Int32)), .val (.int (1 : Int32)), .val (.int (1 : Int32)), .unset, .unset, .unset] rfl rfl ?_
          refine wiload OSc 206 X506 B at_204 rfl rfl ?_
          refine wifYes OSc 215 X506 B at_206 (by decide) rfl ?_
          refine wiconst OSc 216 X506 B at_215 1 rfl rfl ?_
          refine wgoto OSc 220 X506 B at_216 rfl ?_
          refine wistore OSc 222 X506 B at_220 #[.val (.int p1), .val (.int p2), .val (.int p3), .val (.int p4), .val (.ref o1), .val (.ref o22), .val (.int (1 : Int32)), .val (.int (1 : Int32)), .val (.int (1 : Int32)), .val (.int (g0_1 p1 p2 p3 p4)), .val (.int (g0_19 p1 p2 p3 p4)), .val (.int (0 : Int32)), .val (.int (1 : Int32)), .val (.int (1 : Int32)), .val (.int (1 : Int32)), .unset, .unset] rfl rfl ?_
          refine wiloadN OSc 223 X506 B at_222 rfl rfl ?_
          refine own_stS (fun t k => X506.ldcInt hx hown44 (mvT hZ44 (ow hw 86 rfl)) (g := (mkF m 223 #[.val (.int p1), .val (.int p2), .val (.int p3), .val (.int p4), .val (.ref o1), .val (.ref o22), .val (.int (1 : Int32)), .val (.int (1 : Int32)), .val (.int (1 : Int32)), .val (.int (g0_1 p1 p2 p3 p4)), .val (.int (g0_19 p1 p2 p3 p4)), .val (.int (0 : Int32)), .val (.int (1 : Int32)), .val (.int (1 : Int32)), .val (.int (1 : Int32)), .unset, .unset] [(.int p4)])) rfl (hb hby at_223) _ k) ?_
          show OGS _ _ p e _ s below _ T506 (mkF m 225 #[.val (.int p1), .val (.int p2), .val (.int p3), .val (.int p4), .val (.ref o1), .val (.ref o22), .val (.int (1 : Int32)), .val (.int (1 : Int32)), .val (.int (1 : Int32)), .val (.int (g0_1 p1 p2 p3 p4)), .val (.int (g0_19 p1 p2 p3 p4)), .val (.int (0 : Int32)), .val (.int (1 : Int32)), .val (.int (1 : Int32)), .val (.int (1 : Int32)), .unset, .unset] [(.int (2147483647 : Int32)), (.int p4)])
          refine wiand OSc 226 X506 B at_225 rfl ?_
          refine wiconst OSc 227 X506 B at_226 4 rfl rfl ?_
          refine own_stS (fun t k => iremM X506 hx rfl (hb hby at_227) rfl (by decide) k) ?_
          show OGS _ _ p e _ s below _ T506 (mkF m 228 #[.val (.int p1), .val (.int p2), .val (.int p3), .val (.int p4), .val (.ref o1), .val (.ref o22), .val (.int (1 : Int32)), .val (.int (1 : Int32)), .val (.int (1 : Int32)), .val (.int (g0_1 p1 p2 p3 p4)), .val (.int (g0_19 p1 p2 p3 p4)), .val (.int (0 : Int32)), .val (.int (1 : Int32)), .val (.int (1 : Int32)), .val (.int (1 : Int32)), .unset, .unset] [(.int ((p4 &&& (2147483647 : Int32)) % (4 : Int32)))])
          refine wistore OSc 230 X506 B at_228 #[.val (.int p1), .val (.int p2), .val (.int p3), .val (.int p4), .val (.ref o1), .val (.ref o22), .val (.int (1 : Int32)), .val (.int (1 : Int32)), .val (.int (1 : Int32)), .val (.int (g0_1 p1 p2 p3 p4)), .val (.int (g0_19 p1 p2 p3 p4)), .val (.int (0 : Int32)), .val (.int (1 : Int32)), .val (.int (1 : Int32)), .val (.int (1 : Int32)), .val (.int (g0_4 p1 p2 p3 p4)), .unset] rfl rfl ?_
          refine waload OSc 232 X506 B at_230 rfl rfl rfl ?_
          refine wiload OSc 234 X506 B at_232 rfl rfl ?_
          refine wvirt OSc 237 X506 B hZ44 hown44 (ow hw 87 rfl) (ow hw 88 rfl) (ow hw 90 rfl) (ow hw 89 rfl) F507 (ow hw 91 rfl) (ow hw 27 rfl) rfl (rm10 l Z a0 hw [] o22 (g0_4 p1 p2 p3 p4) b_126 (1 : Int32) (1 : Int32) (1 : Int32) (1 : Int32) y1_501 y2_501 T506.heap n0 F508 P506_0 ge_b_126 ne_o22_b_126 (own_r4 p4) (own_gs0 xh501_0)) 0 (by decide) (by decide) hml rfl (lenOf pd__I_I rfl) [] rfl rfl at_234 rfl fun _ T510 L510 X510 hQ510 => ?_
          obtain ⟨rfl, N510q, K510q, y0_510, y1_510, y2_510, xh510_0, P510_0⟩ := hQ510
          have N510 := Fr.app N506 N510q
          have K510 := K506.trans K510q (own_all1 (Or.inr sy_b_126))
          have F511 := F507.keep K510q
          have F512 := F508.keep K510q (own_nin1 ne_o22_b_126)
          refine own_stk (S' := [(.int (f12 (1 : Int32) (1 : Int32) (1 : Int32) (g0_4 p1 p2 p3 p4)))]) rfl ?_
          have CR513 := CHr.trans CR509 (CHr.keep K510q (own_all1 (own_safeA hZ44.alike P506_0 (by decide))) CH509)
          have CH513 := CHv.keep K510q (own_all1 (own_safeA hZ44.alike P506_0 (by decide))) CH509
          have hk513 := Nat.le_trans hk509 K510q.1
          refine wistore OSc 239 X510 B at_237 #[.val (.int p1), .val (.int p2), .val (.int p3), .val (.int p4), .val (.ref o1), .val (.ref o22), .val (.int (1 : Int32)), .val (.int (1 : Int32)), .val (.int (1 : Int32)), .val (.int (g0_1 p1 p2 p3 p4)), .val (.int (g0_19 p1 p2 p3 p4)), .val (.int (0 : Int32)), .val (.int (1 : Int32)), .val (.int (1 : Int32)), .val (.int (1 : Int32)), .val (.int (g0_4 p1 p2 p3 p4)), .val (.int (g0_15 p1 p2 p3 p4))] rfl rfl ?_
          refine wiload OSc 241 X510 B at_239 rfl rfl ?_
          refine wiload OSc 243 X510 B at_241 rfl rfl ?_
          refine wiload OSc 245 X510 B at_243 rfl rfl ?_
          refine wiload OSc 247 X510 B at_245 rfl rfl ?_
          refine wiload OSc 249 X510 B at_247 rfl rfl ?_
          refine wstat OSc 252 X510 B hZ44 hown44 (ow hw 97 rfl) (ow hw 98 rfl) (ow hw 100 rfl) (ow hw 99 rfl) rfl (rm12 l Z a0 hw [] (1 : Int32) (1 : Int32) (1 : Int32) (g0_1 p1 p2 p3 p4) T510.heap) 1 (by decide) (by decide) hml rfl (lenOf pd__ZZZI_I rfl) [(.int (g0_19 p1 p2 p3 p4))] rfl rfl at_249 rfl fun _ T514 L514 X514 hQ514 => ?_
          obtain ⟨rfl, rfl, e514⟩ := hQ514
          have N514 := Fr.app N510 (Fr.nil n0)
          refine own_stk (S' := [(.int (f12 (1 : Int32) (1 : Int32) (1 : Int32) (g0_1 p1 p2 p3 p4))), (.int (g0_19 p1 p2 p3 p4))]) rfl ?_
          refine wicmpNo OSc 255 X514 B at_252 (teq rfl).2 rfl ?_
          refine wiload OSc 257 X514 B at_255 rfl rfl ?_
          refine wiload OSc 259 X514 B at_257 rfl rfl ?_
          refine wiload OSc 261 X514 B at_259 rfl rfl ?_
          refine wiload OSc 263 X514 B at_261 rfl rfl ?_
          refine wiload OSc 265 X514 B at_263 rfl rfl ?_
          refine wstat OSc 268 X514 B hZ44 hown44 (ow hw 97 rfl) (ow hw 98 rfl) (ow hw 100 rfl) (ow hw 99 rfl) e514 (rm12 l Z a0 hw [] (1 : Int32) (1 : Int32) (1 : Int32) (g0_4 p1 p2 p3 p4) T510.heap) 1 (by decide) (by decide) hml rfl (lenOf pd__ZZZI_I rfl) [(.int (g0_15 p1 p2 p3 p4))] rfl rfl at_265 rfl fun _ T515 L515 X515 hQ515 => ?_
          obtain ⟨rfl, rfl, e515⟩ := hQ515
          have N515 := Fr.app N514 (Fr.nil n0)
          refine own_stk (S' := [(.int (f12 (1 : Int32) (1 : Int32) (1 : Int32) (g0_4 p1 p2 p3 p4))), (.int (g0_15 p1 p2 p3 p4))]) rfl ?_
          refine wicmpNo OSc 271 X515 B at_268 (teq rfl).2 rfl ?_
          refine wiconst OSc 272 X515 B at_271 1 rfl rfl ?_
          refine wgoto OSc 276 X515 B at_272 rfl ?_
          refine own_endS X515 hlk hZ44 hEL e515 hs0 hS44 hk513 CH513 CR513 (v := some (.int (nar .boolean (1 : Int32)))) (fun h => by rw [hret] at h; cases h) (by decide) (by decide) ?_ (fun fs hr => retN X515 hx (t := .boolean) hret (by simp) (hb hby at_276) hr)
          exact ⟨congrArg (fun z => some (Value.int z)) (show f0 p1 p2 p3 p4 = (1 : Int32) from (by rw [f0, if_neg c138, if_neg c334, if_neg c436, if_pos c505])).symm, N515⟩
        · skip
          by_cases c516 : (g0_3 p1 p2 p3 p4) = (1 : Int32)
          · rw [c516]
            show OGS _ _ p e _ s below _ T501 (mkF m 156 #[.val (.int p1), .val (.int p2), .val (.int p3), .val (.int p4), .val (.ref o1), .val (.ref o22), .val (.int (1 : Int32)), .val (.int (1 : Int32)), .val (.int (1 : Int32)), .val (.int (g0_1 p1 p2 p3 p4)), .val (.int (g0_19 p1 p2 p3 p4)), .val (.int (1 : Int32)), .unset, .unset, .unset, .unset, .unset] [])
            refine wiload OSc 158 X501 B at_156 rfl rfl ?_
            refine wiconst OSc 159 X501 B at_158 3 rfl rfl ?_
            refine wicmpNo OSc 162 X501 B at_159 (by decide) rfl ?_
            refine waload OSc 164 X501 B at_162 rfl rfl rfl ?_
            refine wiload OSc 166 X501 B at_164 rfl rfl ?_
            refine wvirt OSc 169 X501 B hZ44 hown44 (ow hw 92 rfl) (ow hw 93 rfl) (ow hw 95 rfl) (ow hw 94 rfl) F502 (ow hw 96 rfl) (ow hw 27 rfl) rfl (rm11_1 l Z a0 hw [] o22 b_126 y0_501 y1_501 y2_501 (3 : Int32) T501.heap n0 F503 P501_0 ge_b_126 ne_o22_b_126) 0 (by decide) (by decide) hml rfl (lenOf pd__I_V rfl) [] rfl rfl at_166 rfl fun _ T517 L517 X517 hQ517 => ?_
            obtain ⟨rfl, N517q, K517q, P517_0⟩ := hQ517
            have N517 := Fr.app N501 N517q
            have K517 := K501.trans K517q (own_all1 (Or.inr sy_b_126))
            have F518 := F502.keep K517q
            have F519 := F503.keep K517q (own_nin1 ne_o22_b_126)
            refine own_stk (S' := []) rfl ?_
            have CR520 := CHr.trans CR504 (CHr.keep K517q (own_all1 (own_safeA hZ44.alike P501_0 (by decide))) CH504)
            have CH520 := CHv.keep K517q (own_all1 (own_safeA hZ44.alike P501_0 (by decide))) CH504
            have hk520 := Nat.le_trans hk504 K517q.1
            refine wiload OSc 171 X517 B at_169 rfl rfl ?_
            refine wifYes OSc 179 X517 B at_171 (by decide) rfl ?_
            refine wiconst OSc 180 X517 B at_179 1 rfl rfl ?_
            refine wgoto OSc 184 X517 B at_180 rfl ?_
            refine wistore OSc 186 X517 B at_184 #[.val (.int p1), .val (.int p2), .val (.int p3), .val (.int p4), .val (.ref o1), .val (.ref o22), .val (.int (1 : Int32)), .val (.int (1 : Int32)), .val (.int (1 : Int32)), .val (.int (g0_1 p1 p2 p3 p4)), .val (.int (g0_19 p1 p2 p3 p4)), .val (.int (1 : Int32)), .val (.int (1 : Int32)), .unset, .unset, .unset, .unset] rfl rfl ?_
            refine wiload OSc 188 X517 B at_186 rfl rfl ?_
            refine wifYes OSc 197 X517 B at_188 (by decide) rfl ?_
            refine wiconst OSc 198 X517 B at_197 1 rfl rfl ?_
            refine wgoto OSc 202 X517 B at_198 rfl ?_
            refine wistore OSc 204 X517 B at_202 #[.val (.int p1), .val (.int p2), .val (.int p3), .val (.int p4), .val (.ref o1), .val (.ref o22), .val (.int (1 : Int32)), .val (.int (1 : Int32)), .val (.int (1 : Int32)), .val (.int (g0_1 p1 p2 p3 p4)), .val (.int (g0_19 p1 p2 p3 p4)), .val (.int (1 : Int32)), .val (.int (1 : Int32)), .val (.int (1 : Int32)), .unset, .unset, .unset] rfl rfl ?_
            refine wiload OSc 206 X517 B at_204 rfl rfl ?_
            refine wifYes OSc 215 X517 B at_206 (by decide) rfl ?_
            refine wiconst OSc 216 X517 B at_215 1 rfl rfl ?_
            refine wgoto OSc 220 X517 B at_216 rfl ?_
            refine wistore OSc 222 X517 B at_220 #[.val (.int p1), .val (.int p2), .val (.int p3), .val (.int p4), .val (.ref o1), .val (.ref o22), .val (.int (1 : Int32)), .val (.int (1 : Int32)), .val (.int (1 : Int32)), .val (.int (g0_1 p1 p2 p3 p4)), .val (.int (g0_19 p1 p2 p3 p4)), .val (.int (1 : Int32)), .val (.int (1 : Int32)), .val (.int (1 : Int32)), .val (.int (1 : Int32)), .unset, .unset] rfl rfl ?_
            refine wiloadN OSc 223 X517 B at_222 rfl rfl ?_
            refine own_stS (fun t k => X517.ldcInt hx hown44 (mvT hZ44 (ow hw 86 rfl)) (g := (mkF m 223 #[.val (.int p1), .val (.int p2), .val (.int p3), .val (.int p4), .val (.ref o1), .val (.ref o22), .val (.int (1 : Int32)), .val (.int (1 : Int32)), .val (.int (1 : Int32)), .val (.int (g0_1 p1 p2 p3 p4)), .val (.int (g0_19 p1 p2 p3 p4)), .val (.int (1 : Int32)), .val (.int (1 : Int32)), .val (.int (1 : Int32)), .val (.int (1 : Int32)), .unset, .unset] [(.int p4)])) rfl (hb hby at_223) _ k) ?_
            show OGS _ _ p e _ s below _ T517 (mkF m 225 #[.val (.int p1), .val (.int p2), .val (.int p3), .val (.int p4), .val (.ref o1), .val (.ref o22), .val (.int (1 : Int32)), .val (.int (1 : Int32)), .val (.int (1 : Int32)), .val (.int (g0_1 p1 p2 p3 p4)), .val (.int (g0_19 p1 p2 p3 p4)), .val (.int (1 : Int32)), .val (.int (1 : Int32)), .val (.int (1 : Int32)), .val (.int (1 : Int32)), .unset, .unset] [(.int (2147483647 : Int32)), (.int p4)])
            refine wiand OSc 226 X517 B at_225 rfl ?_
            refine wiconst OSc 227 X517 B at_226 4 rfl rfl ?_
            refine own_stS (fun t k => iremM X517 hx rfl (hb hby at_227) rfl (by decide) k) ?_
            show OGS _ _ p e _ s below _ T517 (mkF m 228 #[.val (.int p1), .val (.int p2), .val (.int p3), .val (.int p4), .val (.ref o1), .val (.ref o22), .val (.int (1 : Int32)), .val (.int (1 : Int32)), .val (.int (1 : Int32)), .val (.int (g0_1 p1 p2 p3 p4)), .val (.int (g0_19 p1 p2 p3 p4)), .val (.int (1 : Int32)), .val (.int (1 : Int32)), .val (.int (1 : Int32)), .val (.int (1 : Int32)), .unset, .unset] [(.int ((p4 &&& (2147483647 : Int32)) % (4 : Int32)))])
            refine wistore OSc 230 X517 B at_228 #[.val (.int p1), .val (.int p2), .val (.int p3), .val (.int p4), .val (.ref o1), .val (.ref o22), .val (.int (1 : Int32)), .val (.int (1 : Int32)), .val (.int (1 : Int32)), .val (.int (g0_1 p1 p2 p3 p4)), .val (.int (g0_19 p1 p2 p3 p4)), .val (.int (1 : Int32)), .val (.int (1 : Int32)), .val (.int (1 : Int32)), .val (.int (1 : Int32)), .val (.int (g0_4 p1 p2 p3 p4)), .unset] rfl rfl ?_
            refine waload OSc 232 X517 B at_230 rfl rfl rfl ?_
            refine wiload OSc 234 X517 B at_232 rfl rfl ?_
            refine wvirt OSc 237 X517 B hZ44 hown44 (ow hw 87 rfl) (ow hw 88 rfl) (ow hw 90 rfl) (ow hw 89 rfl) F518 (ow hw 91 rfl) (ow hw 27 rfl) rfl (rm10 l Z a0 hw [] o22 (g0_4 p1 p2 p3 p4) b_126 (1 : Int32) (1 : Int32) (1 : Int32) y0_501 (2 : Int32) y2_501 T517.heap n0 F519 P517_0 ge_b_126 ne_o22_b_126 (own_r4 p4) (own_gs1 xh501_0)) 0 (by decide) (by decide) hml rfl (lenOf pd__I_I rfl) [] rfl rfl at_234 rfl fun _ T521 L521 X521 hQ521 => ?_
            obtain ⟨rfl, N521q, K521q, y0_521, y1_521, y2_521, xh521_0, P521_0⟩ := hQ521
            have N521 := Fr.app N517 N521q
            have K521 := K517.trans K521q (own_all1 (Or.inr sy_b_126))
            have F522 := F518.keep K521q
            have F523 := F519.keep K521q (own_nin1 ne_o22_b_126)
            refine own_stk (S' := [(.int (f12 (1 : Int32) (1 : Int32) (1 : Int32) (g0_4 p1 p2 p3 p4)))]) rfl ?_
            have CR524 := CHr.trans CR520 (CHr.keep K521q (own_all1 (own_safeA hZ44.alike P517_0 (by decide))) CH520)
            have CH524 := CHv.keep K521q (own_all1 (own_safeA hZ44.alike P517_0 (by decide))) CH520
            have hk524 := Nat.le_trans hk520 K521q.1
            refine wistore OSc 239 X521 B at_237 #[.val (.int p1), .val (.int p2), .val (.int p3), .val (.int p4), .val (.ref o1), .val (.ref o22), .val (.int (1 : Int32)), .val (.int (1 : Int32)), .val (.int (1 : Int32)), .val (.int (g0_1 p1 p2 p3 p4)), .val (.int (g0_19 p1 p2 p3 p4)), .val (.int (1 : Int32)), .val (.int (1 : Int32)), .val (.int (1 : Int32)), .val (.int (1 : Int32)), .val (.int (g0_4 p1 p2 p3 p4)), .val (.int (g0_15 p1 p2 p3 p4))] rfl rfl ?_
            refine wiload OSc 241 X521 B at_239 rfl rfl ?_
            refine wiload OSc 243 X521 B at_241 rfl rfl ?_
            refine wiload OSc 245 X521 B at_243 rfl rfl ?_
            refine wiload OSc 247 X521 B at_245 rfl rfl ?_
            refine wiload OSc 249 X521 B at_247 rfl rfl ?_
            refine wstat OSc 252 X521 B hZ44 hown44 (ow hw 97 rfl) (ow hw 98 rfl) (ow hw 100 rfl) (ow hw 99 rfl) rfl (rm12 l Z a0 hw [] (1 : Int32) (1 : Int32) (1 : Int32) (g0_1 p1 p2 p3 p4) T521.heap) 1 (by decide) (by decide) hml rfl (lenOf pd__ZZZI_I rfl) [(.int (g0_19 p1 p2 p3 p4))] rfl rfl at_249 rfl fun _ T525 L525 X525 hQ525 => ?_
            obtain ⟨rfl, rfl, e525⟩ := hQ525
            have N525 := Fr.app N521 (Fr.nil n0)
            refine own_stk (S' := [(.int (f12 (1 : Int32) (1 : Int32) (1 : Int32) (g0_1 p1 p2 p3 p4))), (.int (g0_19 p1 p2 p3 p4))]) rfl ?_
            refine wicmpNo OSc 255 X525 B at_252 (teq rfl).2 rfl ?_
            refine wiload OSc 257 X525 B at_255 rfl rfl ?_
            refine wiload OSc 259 X525 B at_257 rfl rfl ?_
            refine wiload OSc 261 X525 B at_259 rfl rfl ?_
            refine wiload OSc 263 X525 B at_261 rfl rfl ?_
            refine wiload OSc 265 X525 B at_263 rfl rfl ?_
            refine wstat OSc 268 X525 B hZ44 hown44 (ow hw 97 rfl) (ow hw 98 rfl) (ow hw 100 rfl) (ow hw 99 rfl) e525 (rm12 l Z a0 hw [] (1 : Int32) (1 : Int32) (1 : Int32) (g0_4 p1 p2 p3 p4) T521.heap) 1 (by decide) (by decide) hml rfl (lenOf pd__ZZZI_I rfl) [(.int (g0_15 p1 p2 p3 p4))] rfl rfl at_265 rfl fun _ T526 L526 X526 hQ526 => ?_
            obtain ⟨rfl, rfl, e526⟩ := hQ526
            have N526 := Fr.app N525 (Fr.nil n0)
            refine own_stk (S' := [(.int (f12 (1 : Int32) (1 : Int32) (1 : Int32) (g0_4 p1 p2 p3 p4))), (.int (g0_15 p1 p2 p3 p4))]) rfl ?_
            refine wicmpNo OSc 271 X526 B at_268 (teq rfl).2 rfl ?_
            refine wiconst OSc 272 X526 B at_271 1 rfl rfl ?_
            refine wgoto OSc 276 X526 B at_272 rfl ?_
            refine own_endS X526 hlk hZ44 hEL e526 hs0 hS44 hk524 CH524 CR524 (v := some (.int (nar .boolean (1 : Int32)))) (fun h => by rw [hret] at h; cases h) (by decide) (by decide) ?_ (fun fs hr => retN X526 hx (t := .boolean) hret (by simp) (hb hby at_276) hr)
            exact ⟨congrArg (fun z => some (Value.int z)) (show f0 p1 p2 p3 p4 = (1 : Int32) from (by rw [f0, if_neg c138, if_neg c334, if_neg c436, if_neg c505, if_pos c516])).symm, N526⟩
          · skip
            by_cases c527 : (g0_3 p1 p2 p3 p4) = (2 : Int32)
            · rw [c527]
              show OGS _ _ p e _ s below _ T501 (mkF m 156 #[.val (.int p1), .val (.int p2), .val (.int p3), .val (.int p4), .val (.ref o1), .val (.ref o22), .val (.int (1 : Int32)), .val (.int (1 : Int32)), .val (.int (1 : Int32)), .val (.int (g0_1 p1 p2 p3 p4)), .val (.int (g0_19 p1 p2 p3 p4)), .val (.int (2 : Int32)), .unset, .unset, .unset, .unset, .unset] [])
              refine wiload OSc 158 X501 B at_156 rfl rfl ?_
              refine wiconst OSc 159 X501 B at_158 3 rfl rfl ?_
              refine wicmpNo OSc 162 X501 B at_159 (by decide) rfl ?_
              refine waload OSc 164 X501 B at_162 rfl rfl rfl ?_
              refine wiload OSc 166 X501 B at_164 rfl rfl ?_
              refine wvirt OSc 169 X501 B hZ44 hown44 (ow hw 92 rfl) (ow hw 93 rfl) (ow hw 95 rfl) (ow hw 94 rfl) F502 (ow hw 96 rfl) (ow hw 27 rfl) rfl (rm11_2 l Z a0 hw [] o22 b_126 y0_501 y1_501 y2_501 (3 : Int32) T501.heap n0 F503 P501_0 ge_b_126 ne_o22_b_126) 0 (by decide) (by decide) hml rfl (lenOf pd__I_V rfl) [] rfl rfl at_166 rfl fun _ T528 L528 X528 hQ528 => ?_
              obtain ⟨rfl, N528q, K528q, P528_0⟩ := hQ528
              have N528 := Fr.app N501 N528q
              have K528 := K501.trans K528q (own_all1 (Or.inr sy_b_126))
              have F529 := F502.keep K528q
              have F530 := F503.keep K528q (own_nin1 ne_o22_b_126)
              refine own_stk (S' := []) rfl ?_
              have CR531 := CHr.trans CR504 (CHr.keep K528q (own_all1 (own_safeA hZ44.alike P501_0 (by decide))) CH504)
              have CH531 := CHv.keep K528q (own_all1 (own_safeA hZ44.alike P501_0 (by decide))) CH504
              have hk531 := Nat.le_trans hk504 K528q.1
              refine wiload OSc 171 X528 B at_169 rfl rfl ?_
              refine wifYes OSc 179 X528 B at_171 (by decide) rfl ?_
              refine wiconst OSc 180 X528 B at_179 1 rfl rfl ?_
              refine wgoto OSc 184 X528 B at_180 rfl ?_
              refine wistore OSc 186 X528 B at_184 #[.val (.int p1), .val (.int p2), .val (.int p3), .val (.int p4), .val (.ref o1), .val (.ref o22), .val (.int (1 : Int32)), .val (.int (1 : Int32)), .val (.int (1 : Int32)), .val (.int (g0_1 p1 p2 p3 p4)), .val (.int (g0_19 p1 p2 p3 p4)), .val (.int (2 : Int32)), .val (.int (1 : Int32)), .unset, .unset, .unset, .unset] rfl rfl ?_
              refine wiload OSc 188 X528 B at_186 rfl rfl ?_
              refine wifYes OSc 197 X528 B at_188 (by decide) rfl ?_
              refine wiconst OSc 198 X528 B at_197 1 rfl rfl ?_
              refine wgoto OSc 202 X528 B at_198 rfl ?_
              refine wistore OSc 204 X528 B at_202 #[.val (.int p1), .val (.int p2), .val (.int p3), .val (.int p4), .val (.ref o1), .val (.ref o22), .val (.int (1 : Int32)), .val (.int (1 : Int32)), .val (.int (1 : Int32)), .val (.int (g0_1 p1 p2 p3 p4)), .val (.int (g0_19 p1 p2 p3 p4)), .val (.int (2 : Int32)), .val (.int (1 : Int32)), .val (.int (1 : Int32)), .unset, .unset, .unset] rfl rfl ?_
              refine wiload OSc 206 X528 B at_204 rfl rfl ?_
              refine wifYes OSc 215 X528 B at_206 (by decide) rfl ?_
              refine wiconst OSc 216 X528 B at_215 1 rfl rfl ?_
              refine wgoto OSc 220 X528 B at_216 rfl ?_
              refine wistore OSc 222 X528 B at_220 #[.val (.int p1), .val (.int p2), .val (.int p3), .val (.int p4), .val (.ref o1), .val (.ref o22), .val (.int (1 : Int32)), .val (.int (1 : Int32)), .val (.int (1 : Int32)), .val (.int (g0_1 p1 p2 p3 p4)), .val (.int (g0_19 p1 p2 p3 p4)), .val (.int (2 : Int32)), .val (.int (1 : Int32)), .val (.int (1 : Int32)), .val (.int (1 : Int32)), .unset, .unset] rfl rfl ?_
              refine wiloadN OSc 223 X528 B at_222 rfl rfl ?_
              refine own_stS (fun t k => X528.ldcInt hx hown44 (mvT hZ44 (ow hw 86 rfl)) (g := (mkF m 223 #[.val (.int p1), .val (.int p2), .val (.int p3), .val (.int p4), .val (.ref o1), .val (.ref o22), .val (.int (1 : Int32)), .val (.int (1 : Int32)), .val (.int (1 : Int32)), .val (.int (g0_1 p1 p2 p3 p4)), .val (.int (g0_19 p1 p2 p3 p4)), .val (.int (2 : Int32)), .val (.int (1 : Int32)), .val (.int (1 : Int32)), .val (.int (1 : Int32)), .unset, .unset] [(.int p4)])) rfl (hb hby at_223) _ k) ?_
              show OGS _ _ p e _ s below _ T528 (mkF m 225 #[.val (.int p1), .val (.int p2), .val (.int p3), .val (.int p4), .val (.ref o1), .val (.ref o22), .val (.int (1 : Int32)), .val (.int (1 : Int32)), .val (.int (1 : Int32)), .val (.int (g0_1 p1 p2 p3 p4)), .val (.int (g0_19 p1 p2 p3 p4)), .val (.int (2 : Int32)), .val (.int (1 : Int32)), .val (.int (1 : Int32)), .val (.int (1 : Int32)), .unset, .unset] [(.int (2147483647 : Int32)), (.int p4)])
              refine wiand OSc 226 X528 B at_225 rfl ?_
              refine wiconst OSc 227 X528 B at_226 4 rfl rfl ?_
              refine own_stS (fun t k => iremM X528 hx rfl (hb hby at_227) rfl (by decide) k) ?_
              show OGS _ _ p e _ s below _ T528 (mkF m 228 #[.val (.int p1), .val (.int p2), .val (.int p3), .val (.int p4), .val (.ref o1), .val (.ref o22), .val (.int (1 : Int32)), .val (.int (1 : Int32)), .val (.int (1 : Int32)), .val (.int (g0_1 p1 p2 p3 p4)), .val (.int (g0_19 p1 p2 p3 p4)), .val (.int (2 : Int32)), .val (.int (1 : Int32)), .val (.int (1 : Int32)), .val (.int (1 : Int32)), .unset, .unset] [(.int ((p4 &&& (2147483647 : Int32)) % (4 : Int32)))])
              refine wistore OSc 230 X528 B at_228 #[.val (.int p1), .val (.int p2), .val (.int p3), .val (.int p4), .val (.ref o1), .val (.ref o22), .val (.int (1 : Int32)), .val (.int (1 : Int32)), .val (.int (1 : Int32)), .val (.int (g0_1 p1 p2 p3 p4)), .val (.int (g0_19 p1 p2 p3 p4)), .val (.int (2 : Int32)), .val (.int (1 : Int32)), .val (.int (1 : Int32)), .val (.int (1 : Int32)), .val (.int (g0_4 p1 p2 p3 p4)), .unset] rfl rfl ?_
              refine waload OSc 232 X528 B at_230 rfl rfl rfl ?_
              refine wiload OSc 234 X528 B at_232 rfl rfl ?_
              refine wvirt OSc 237 X528 B hZ44 hown44 (ow hw 87 rfl) (ow hw 88 rfl) (ow hw 90 rfl) (ow hw 89 rfl) F529 (ow hw 91 rfl) (ow hw 27 rfl) rfl (rm10 l Z a0 hw [] o22 (g0_4 p1 p2 p3 p4) b_126 (1 : Int32) (1 : Int32) (1 : Int32) y0_501 y1_501 (3 : Int32) T528.heap n0 F530 P528_0 ge_b_126 ne_o22_b_126 (own_r4 p4) (own_gs2 xh501_0)) 0 (by decide) (by decide) hml rfl (lenOf pd__I_I rfl) [] rfl rfl at_234 rfl fun _ T532 L532 X532 hQ532 => ?_
              obtain ⟨rfl, N532q, K532q, y0_532, y1_532, y2_532, xh532_0, P532_0⟩ := hQ532
              have N532 := Fr.app N528 N532q
              have K532 := K528.trans K532q (own_all1 (Or.inr sy_b_126))
              have F533 := F529.keep K532q
              have F534 := F530.keep K532q (own_nin1 ne_o22_b_126)
              refine own_stk (S' := [(.int (f12 (1 : Int32) (1 : Int32) (1 : Int32) (g0_4 p1 p2 p3 p4)))]) rfl ?_
              have CR535 := CHr.trans CR531 (CHr.keep K532q (own_all1 (own_safeA hZ44.alike P528_0 (by decide))) CH531)
              have CH535 := CHv.keep K532q (own_all1 (own_safeA hZ44.alike P528_0 (by decide))) CH531
              have hk535 := Nat.le_trans hk531 K532q.1
              refine wistore OSc 239 X532 B at_237 #[.val (.int p1), .val (.int p2), .val (.int p3), .val (.int p4), .val (.ref o1), .val (.ref o22), .val (.int (1 : Int32)), .val (.int (1 : Int32)), .val (.int (1 : Int32)), .val (.int (g0_1 p1 p2 p3 p4)), .val (.int (g0_19 p1 p2 p3 p4)), .val (.int (2 : Int32)), .val (.int (1 : Int32)), .val (.int (1 : Int32)), .val (.int (1 : Int32)), .val (.int (g0_4 p1 p2 p3 p4)), .val (.int (g0_15 p1 p2 p3 p4))] rfl rfl ?_
              refine wiload OSc 241 X532 B at_239 rfl rfl ?_
              refine wiload OSc 243 X532 B at_241 rfl rfl ?_
              refine wiload OSc 245 X532 B at_243 rfl rfl ?_
              refine wiload OSc 247 X532 B at_245 rfl rfl ?_
              refine wiload OSc 249 X532 B at_247 rfl rfl ?_
              refine wstat OSc 252 X532 B hZ44 hown44 (ow hw 97 rfl) (ow hw 98 rfl) (ow hw 100 rfl) (ow hw 99 rfl) rfl (rm12 l Z a0 hw [] (1 : Int32) (1 : Int32) (1 : Int32) (g0_1 p1 p2 p3 p4) T532.heap) 1 (by decide) (by decide) hml rfl (lenOf pd__ZZZI_I rfl) [(.int (g0_19 p1 p2 p3 p4))] rfl rfl at_249 rfl fun _ T536 L536 X536 hQ536 => ?_
              obtain ⟨rfl, rfl, e536⟩ := hQ536
              have N536 := Fr.app N532 (Fr.nil n0)
              refine own_stk (S' := [(.int (f12 (1 : Int32) (1 : Int32) (1 : Int32) (g0_1 p1 p2 p3 p4))), (.int (g0_19 p1 p2 p3 p4))]) rfl ?_
              refine wicmpNo OSc 255 X536 B at_252 (teq rfl).2 rfl ?_
              refine wiload OSc 257 X536 B at_255 rfl rfl ?_
              refine wiload OSc 259 X536 B at_257 rfl rfl ?_
              refine wiload OSc 261 X536 B at_259 rfl rfl ?_
              refine wiload OSc 263 X536 B at_261 rfl rfl ?_
              refine wiload OSc 265 X536 B at_263 rfl rfl ?_
              refine wstat OSc 268 X536 B hZ44 hown44 (ow hw 97 rfl) (ow hw 98 rfl) (ow hw 100 rfl) (ow hw 99 rfl) e536 (rm12 l Z a0 hw [] (1 : Int32) (1 : Int32) (1 : Int32) (g0_4 p1 p2 p3 p4) T532.heap) 1 (by decide) (by decide) hml rfl (lenOf pd__ZZZI_I rfl) [(.int (g0_15 p1 p2 p3 p4))] rfl rfl at_265 rfl fun _ T537 L537 X537 hQ537 => ?_
              obtain ⟨rfl, rfl, e537⟩ := hQ537
              have N537 := Fr.app N536 (Fr.nil n0)
              refine own_stk (S' := [(.int (f12 (1 : Int32) (1 : Int32) (1 : Int32) (g0_4 p1 p2 p3 p4))), (.int (g0_15 p1 p2 p3 p4))]) rfl ?_
              refine wicmpNo OSc 271 X537 B at_268 (teq rfl).2 rfl ?_
              refine wiconst OSc 272 X537 B at_271 1 rfl rfl ?_
              refine wgoto OSc 276 X537 B at_272 rfl ?_
              refine own_endS X537 hlk hZ44 hEL e537 hs0 hS44 hk535 CH535 CR535 (v := some (.int (nar .boolean (1 : Int32)))) (fun h => by rw [hret] at h; cases h) (by decide) (by decide) ?_ (fun fs hr => retN X537 hx (t := .boolean) hret (by simp) (hb hby at_276) hr)
              exact ⟨congrArg (fun z => some (Value.int z)) (show f0 p1 p2 p3 p4 = (1 : Int32) from (by rw [f0, if_neg c138, if_neg c334, if_neg c436, if_neg c505, if_neg c516, if_pos c527])).symm, N537⟩
            · skip
              by_cases c538 : (g0_3 p1 p2 p3 p4) = (3 : Int32)
              · rw [c538]
                show OGS _ _ p e _ s below _ T501 (mkF m 156 #[.val (.int p1), .val (.int p2), .val (.int p3), .val (.int p4), .val (.ref o1), .val (.ref o22), .val (.int (1 : Int32)), .val (.int (1 : Int32)), .val (.int (1 : Int32)), .val (.int (g0_1 p1 p2 p3 p4)), .val (.int (g0_19 p1 p2 p3 p4)), .val (.int (3 : Int32)), .unset, .unset, .unset, .unset, .unset] [])
                refine wiload OSc 158 X501 B at_156 rfl rfl ?_
                refine wiconst OSc 159 X501 B at_158 3 rfl rfl ?_
                refine wicmpYes OSc 169 X501 B at_159 (by decide) rfl ?_
                refine wiload OSc 171 X501 B at_169 rfl rfl ?_
                refine wifYes OSc 179 X501 B at_171 (by decide) rfl ?_
                refine wiconst OSc 180 X501 B at_179 1 rfl rfl ?_
                refine wgoto OSc 184 X501 B at_180 rfl ?_
                refine wistore OSc 186 X501 B at_184 #[.val (.int p1), .val (.int p2), .val (.int p3), .val (.int p4), .val (.ref o1), .val (.ref o22), .val (.int (1 : Int32)), .val (.int (1 : Int32)), .val (.int (1 : Int32)), .val (.int (g0_1 p1 p2 p3 p4)), .val (.int (g0_19 p1 p2 p3 p4)), .val (.int (3 : Int32)), .val (.int (1 : Int32)), .unset, .unset, .unset, .unset] rfl rfl ?_
                refine wiload OSc 188 X501 B at_186 rfl rfl ?_
                refine wifYes OSc 197 X501 B at_188 (by decide) rfl ?_
                refine wiconst OSc 198 X501 B at_197 1 rfl rfl ?_
                refine wgoto OSc 202 X501 B at_198 rfl ?_
                refine wistore OSc 204 X501 B at_202 #[.val (.int p1), .val (.int p2), .val (.int p3), .val (.int p4), .val (.ref o1), .val (.ref o22), .val (.int (1 : Int32)), .val (.int (1 : Int32)), .val (.int (1 : Int32)), .val (.int (g0_1 p1 p2 p3 p4)), .val (.int (g0_19 p1 p2 p3 p4)), .val (.int (3 : Int32)), .val (.int (1 : Int32)), .val (.int (1 : Int32)), .unset, .unset, .unset] rfl rfl ?_
                refine wiload OSc 206 X501 B at_204 rfl rfl ?_
                refine wifYes OSc 215 X501 B at_206 (by decide) rfl ?_
                refine wiconst OSc 216 X501 B at_215 1 rfl rfl ?_
                refine wgoto OSc 220 X501 B at_216 rfl ?_
                refine wistore OSc 222 X501 B at_220 #[.val (.int p1), .val (.int p2), .val (.int p3), .val (.int p4), .val (.ref o1), .val (.ref o22), .val (.int (1 : Int32)), .val (.int (1 : Int32)), .val (.int (1 : Int32)), .val (.int (g0_1 p1 p2 p3 p4)), .val (.int (g0_19 p1 p2 p3 p4)), .val (.int (3 : Int32)), .val (.int (1 : Int32)), .val (.int (1 : Int32)), .val (.int (1 : Int32)), .unset, .unset] rfl rfl ?_
                refine wiloadN OSc 223 X501 B at_222 rfl rfl ?_
                refine own_stS (fun t k => X501.ldcInt hx hown44 (mvT hZ44 (ow hw 86 rfl)) (g := (mkF m 223 #[.val (.int p1), .val (.int p2), .val (.int p3), .val (.int p4), .val (.ref o1), .val (.ref o22), .val (.int (1 : Int32)), .val (.int (1 : Int32)), .val (.int (1 : Int32)), .val (.int (g0_1 p1 p2 p3 p4)), .val (.int (g0_19 p1 p2 p3 p4)), .val (.int (3 : Int32)), .val (.int (1 : Int32)), .val (.int (1 : Int32)), .val (.int (1 : Int32)), .unset, .unset] [(.int p4)])) rfl (hb hby at_223) _ k) ?_
                show OGS _ _ p e _ s below _ T501 (mkF m 225 #[.val (.int p1), .val (.int p2), .val (.int p3), .val (.int p4), .val (.ref o1), .val (.ref o22), .val (.int (1 : Int32)), .val (.int (1 : Int32)), .val (.int (1 : Int32)), .val (.int (g0_1 p1 p2 p3 p4)), .val (.int (g0_19 p1 p2 p3 p4)), .val (.int (3 : Int32)), .val (.int (1 : Int32)), .val (.int (1 : Int32)), .val (.int (1 : Int32)), .unset, .unset] [(.int (2147483647 : Int32)), (.int p4)])
                refine wiand OSc 226 X501 B at_225 rfl ?_
                refine wiconst OSc 227 X501 B at_226 4 rfl rfl ?_
                refine own_stS (fun t k => iremM X501 hx rfl (hb hby at_227) rfl (by decide) k) ?_
                show OGS _ _ p e _ s below _ T501 (mkF m 228 #[.val (.int p1), .val (.int p2), .val (.int p3), .val (.int p4), .val (.ref o1), .val (.ref o22), .val (.int (1 : Int32)), .val (.int (1 : Int32)), .val (.int (1 : Int32)), .val (.int (g0_1 p1 p2 p3 p4)), .val (.int (g0_19 p1 p2 p3 p4)), .val (.int (3 : Int32)), .val (.int (1 : Int32)), .val (.int (1 : Int32)), .val (.int (1 : Int32)), .unset, .unset] [(.int ((p4 &&& (2147483647 : Int32)) % (4 : Int32)))])
                refine wistore OSc 230 X501 B at_228 #[.val (.int p1), .val (.int p2), .val (.int p3), .val (.int p4), .val (.ref o1), .val (.ref o22), .val (.int (1 : Int32)), .val (.int (1 : Int32)), .val (.int (1 : Int32)), .val (.int (g0_1 p1 p2 p3 p4)), .val (.int (g0_19 p1 p2 p3 p4)), .val (.int (3 : Int32)), .val (.int (1 : Int32)), .val (.int (1 : Int32)), .val (.int (1 : Int32)), .val (.int (g0_4 p1 p2 p3 p4)), .unset] rfl rfl ?_
                refine waload OSc 232 X501 B at_230 rfl rfl rfl ?_
                refine wiload OSc 234 X501 B at_232 rfl rfl ?_
                refine wvirt OSc 237 X501 B hZ44 hown44 (ow hw 87 rfl) (ow hw 88 rfl) (ow hw 90 rfl) (ow hw 89 rfl) F502 (ow hw 91 rfl) (ow hw 27 rfl) rfl (rm10 l Z a0 hw [] o22 (g0_4 p1 p2 p3 p4) b_126 (1 : Int32) (1 : Int32) (1 : Int32) y0_501 y1_501 y2_501 T501.heap n0 F503 P501_0 ge_b_126 ne_o22_b_126 (own_r4 p4) xh501_0) 0 (by decide) (by decide) hml rfl (lenOf pd__I_I rfl) [] rfl rfl at_234 rfl fun _ T539 L539 X539 hQ539 => ?_
                obtain ⟨rfl, N539q, K539q, y0_539, y1_539, y2_539, xh539_0, P539_0⟩ := hQ539
                have N539 := Fr.app N501 N539q
                have K539 := K501.trans K539q (own_all1 (Or.inr sy_b_126))
                have F540 := F502.keep K539q
                have F541 := F503.keep K539q (own_nin1 ne_o22_b_126)
                refine own_stk (S' := [(.int (f12 (1 : Int32) (1 : Int32) (1 : Int32) (g0_4 p1 p2 p3 p4)))]) rfl ?_
                have CR542 := CHr.trans CR504 (CHr.keep K539q (own_all1 (own_safeA hZ44.alike P501_0 (by decide))) CH504)
                have CH542 := CHv.keep K539q (own_all1 (own_safeA hZ44.alike P501_0 (by decide))) CH504
                have hk542 := Nat.le_trans hk504 K539q.1
                refine wistore OSc 239 X539 B at_237 #[.val (.int p1), .val (.int p2), .val (.int p3), .val (.int p4), .val (.ref o1), .val (.ref o22), .val (.int (1 : Int32)), .val (.int (1 : Int32)), .val (.int (1 : Int32)), .val (.int (g0_1 p1 p2 p3 p4)), .val (.int (g0_19 p1 p2 p3 p4)), .val (.int (3 : Int32)), .val (.int (1 : Int32)), .val (.int (1 : Int32)), .val (.int (1 : Int32)), .val (.int (g0_4 p1 p2 p3 p4)), .val (.int (g0_15 p1 p2 p3 p4))] rfl rfl ?_
                refine wiload OSc 241 X539 B at_239 rfl rfl ?_
                refine wiload OSc 243 X539 B at_241 rfl rfl ?_
                refine wiload OSc 245 X539 B at_243 rfl rfl ?_
                refine wiload OSc 247 X539 B at_245 rfl rfl ?_
                refine wiload OSc 249 X539 B at_247 rfl rfl ?_
                refine wstat OSc 252 X539 B hZ44 hown44 (ow hw 97 rfl) (ow hw 98 rfl) (ow hw 100 rfl) (ow hw 99 rfl) rfl (rm12 l Z a0 hw [] (1 : Int32) (1 : Int32) (1 : Int32) (g0_1 p1 p2 p3 p4) T539.heap) 1 (by decide) (by decide) hml rfl (lenOf pd__ZZZI_I rfl) [(.int (g0_19 p1 p2 p3 p4))] rfl rfl at_249 rfl fun _ T543 L543 X543 hQ543 => ?_
                obtain ⟨rfl, rfl, e543⟩ := hQ543
                have N543 := Fr.app N539 (Fr.nil n0)
                refine own_stk (S' := [(.int (f12 (1 : Int32) (1 : Int32) (1 : Int32) (g0_1 p1 p2 p3 p4))), (.int (g0_19 p1 p2 p3 p4))]) rfl ?_
                refine wicmpNo OSc 255 X543 B at_252 (teq rfl).2 rfl ?_
                refine wiload OSc 257 X543 B at_255 rfl rfl ?_
                refine wiload OSc 259 X543 B at_257 rfl rfl ?_
                refine wiload OSc 261 X543 B at_259 rfl rfl ?_
                refine wiload OSc 263 X543 B at_261 rfl rfl ?_
                refine wiload OSc 265 X543 B at_263 rfl rfl ?_
                refine wstat OSc 268 X543 B hZ44 hown44 (ow hw 97 rfl) (ow hw 98 rfl) (ow hw 100 rfl) (ow hw 99 rfl) e543 (rm12 l Z a0 hw [] (1 : Int32) (1 : Int32) (1 : Int32) (g0_4 p1 p2 p3 p4) T539.heap) 1 (by decide) (by decide) hml rfl (lenOf pd__ZZZI_I rfl) [(.int (g0_15 p1 p2 p3 p4))] rfl rfl at_265 rfl fun _ T544 L544 X544 hQ544 => ?_
                obtain ⟨rfl, rfl, e544⟩ := hQ544
                have N544 := Fr.app N543 (Fr.nil n0)
                refine own_stk (S' := [(.int (f12 (1 : Int32) (1 : Int32) (1 : Int32) (g0_4 p1 p2 p3 p4))), (.int (g0_15 p1 p2 p3 p4))]) rfl ?_
                refine wicmpNo OSc 271 X544 B at_268 (teq rfl).2 rfl ?_
                refine wiconst OSc 272 X544 B at_271 1 rfl rfl ?_
                refine wgoto OSc 276 X544 B at_272 rfl ?_
                refine own_endS X544 hlk hZ44 hEL e544 hs0 hS44 hk542 CH542 CR542 (v := some (.int (nar .boolean (1 : Int32)))) (fun h => by rw [hret] at h; cases h) (by decide) (by decide) ?_ (fun fs hr => retN X544 hx (t := .boolean) hret (by simp) (hb hby at_276) hr)
                exact ⟨congrArg (fun z => some (Value.int z)) (show f0 p1 p2 p3 p4 = (1 : Int32) from (by rw [f0, if_neg c138, if_neg c334, if_neg c436, if_neg c505, if_neg c516, if_neg c527, if_pos c538])).symm, N544⟩
              · skip
                exact (own_r4n p1 p2 p3 p4 c505 c516 c527 c538).elim
theorem own_law (p1 p2 p3 p4 : Int32) : f0 p1 p2 p3 p4 = 1 := by
  unfold f0
  rcases own_r4 p3 with h | h | h | h
  · have h' : g0_3 p1 p2 p3 p4 = 0 := h
    simp [h']
  · have h' : g0_3 p1 p2 p3 p4 = 1 := h
    simp [h']
  · have h' : g0_3 p1 p2 p3 p4 = 2 := h
    simp [h']
  · have h' : g0_3 p1 p2 p3 p4 = 3 := h
    simp [h']

theorem own_met (l : Launch) (Z : State) (a0 : Array Value) (hw : ∀ d ∈ tables_1, d.before a0 Z = true) (ws : List Jvm.Cond) (p1 p2 p3 p4 : Int32) (fa : Addr) (fk : ClassId) (h0 : Heap) (R0 : OF Z h0 fa fk) (hsite : OSite Z fa fk) :
    OMetS l Z EL0 x code maxLocals ret ws room_1 #[.int p1, .int p2, .int p3, .int p4] h0 (fun v h L => v = some (.int 1) ∧ Fr h0.size L) := by
  intro p e ha hc hk s m args below hf happ hP hK
  obtain ⟨n, o, h1, h2, h3, v, L, ho, ⟨hv, hL⟩, hCR, hq⟩ := rm0 l Z a0 hw ws p1 p2 p3 p4 fa fk h0 h0.size (Nat.le_refl _) R0 hsite p e ha hc hk s m args below hf happ hP hK
  rw [own_law] at hv
  exact ⟨n, o, h1, h2, h3, v, L, ho, ⟨hv, hL⟩, hCR, hq⟩
set_option maxRecDepth 65536 in
set_option maxHeartbeats 40000000 in
theorem comes_1 {Post : Tables → Env → Array Value → State → Outcome → State → Prop} (hpost : ∀ tb e args s v u, (limb_1_1.after args s (.returned v) u = true ∧ limb_1_2.after args s (.returned v) u = true ∧ True) → ReturnedEndW s (.returned v) u (Jvm.fieldLocs frame_1_writes args s ++ Jvm.arrayLocs frame_1_arrays args s ++ Jvm.staticLocs frame_1_statics s) 40 1216 → Post tb e args s (.returned v) u) :
    ArmFor flags0 classFile x code maxLocals ret World_1 tables_1 room_1 Calls_1 rest_1 Pre_1 Post := by
  intro l hfl _ _ p e ha hc hk s m args below hf hA hF happ hP
  obtain ⟨hcalls, hrest, hpre⟩ := hP
  obtain ⟨-, -, -, hnamed, -, -, -, hat⟩ := (Spec.applies_iff hf).mp happ
  obtain ⟨hg, hn⟩ := and_e (Cond.before_iff.mp (show (Jvm.Cond.and given_1 narrow_1).before args s = true from hpre))
  obtain ⟨h1, g0⟩ := and_e hg
  obtain ⟨w0, w1, w2, w3, rfl⟩ : ∃ w0 w1 w2 w3 : Value, args = #[w0, w1, w2, w3] := by
    have hs : args.size = 4 := by simpa [Cond.value, given_1] using h1
    obtain ⟨L⟩ := args
    match L, hs with
    | [w0, w1, w2, w3], _ => exact ⟨w0, w1, w2, w3, rfl⟩
  have hw := fun d (hd : d ∈ tables_1) => atoms_spec (ws := Jvm.Cond.code x code maxLocals ret :: tables_1) hat d (List.mem_cons_of_mem _ hd)
  obtain ⟨b0, g1⟩ := and_e g0
  obtain ⟨i0, e0⟩ := is_v b0
  obtain rfl : w0 = (.int i0) := Option.some.inj e0
  obtain ⟨b1, g2⟩ := and_e g1
  obtain ⟨i1, e1⟩ := is_v b1
  obtain rfl : w1 = (.int i1) := Option.some.inj e1
  obtain ⟨b2, g3⟩ := and_e g2
  obtain ⟨i2, e2⟩ := is_v b2
  obtain rfl : w2 = (.int i2) := Option.some.inj e2
  obtain ⟨i3, e3⟩ := is_v g3
  obtain rfl : w3 = (.int i3) := Option.some.inj e3
  obtain ⟨fa, fk, hsite, hF⟩ := own_site (ow hw 68 rfl)
  have CH : CHv s EL0 s.vm s.heap := fun p hp => by cases hp
  obtain ⟨n, o, h1, h2, h3, _, L, rfl, ⟨rfl, N⟩, hCR, hq⟩ := own_met l s _ hw tables_1 i0 i1 i2 i3 fa fk s.heap hF hsite p e ha hc hk s m _ below hf ((Spec.applies_iff_loose hf).mp happ).1 ⟨rfl, State.Warmed39.refl s, rfl, CH⟩ trivial
  refine ⟨n, _, h1, h2, h3, hpost _ _ _ _ _ _ ⟨Cond.after_iff.mpr rfl, Cond.after_iff.mpr (eq_i res_at (Term.int_eval (1)) rfl), trivial⟩ ⟨hq.1, hq.2.1, hq.2.2.1, (hq.2.2.2.sift fun y hy => Or.inr (N y hy)).mono (by decide) (by decide)⟩⟩
theorem main_1_1 : Claimed_1_1 := comes_1 fun _ _ _ _ _ _ h hF => ⟨h.1, hF⟩
theorem main_1_2 : Claimed_1_2 := comes_1 fun _ _ _ _ _ _ h hF => ⟨h.2.1, hF⟩
end Jvm.Pilot.@@N@@
namespace Jvm.Pilot.@@N@@
open Jvm Jvm.ClassFile Sem Op Lib Jvm.Free Jvm.Stand Jvm.Pilot.@@N@@.Jvm.D
/-! MADE BY PROGRAM (witnessworld.py) out of the Statement's table words and the real class files: 20 classes; the members and pool entries that the words name. The judged class is class 1, her method 2. -/
namespace start1
open Jvm.ClassFile
def u (s : String) : CpInfo := .utf8 (stringToUtf16 s)
/-- a pool by its gaps: so many unusable entries, then the entry; so many at the end -/
def gap : Nat → List CpInfo → List CpInfo
  | 0, r => r
  | n + 1, r => .unusable :: gap n r
def poolList (es : List (Nat × CpInfo)) (last : Nat) : List CpInfo := es.foldr (fun e r => gap e.1 (e.2 :: r)) (gap last [])
def pool (es : List (Nat × CpInfo)) (last : Nat) : Array CpInfo := ⟨poolList es last⟩
def fileOf (pool : Array CpInfo) (this : Nat) (attrs : Array Attribute := #[]) (ms : Array MethodInfo := #[]) (fl : Nat := 33) (sup : Nat := 0) (ifs : Array Nat := #[]) (fds : Array FieldInfo := #[]) : ClassFile where
  minorVersion := 0
  majorVersion := 65
  constantPool := pool
  accessFlags := fl
  thisClass := this
  superClass := sup
  interfaces := ifs
  fields := fds
  methods := ms
  attributes := attrs
def plain (name : String) (sup : Option ClassId) : Class where
  name := name
  kind := .ordinary
  loader := none
  accessFlags := 33
  super := sup
  interfaces := #[]
  cf := none
  fields := #[]
  methods := #[]
  instanceTypes := #[]
  staticTypes := #[]
  resolved := #[]
  callSites := []
  init := .initialized
  statics := none
  mirror := none

def pool0 : Array CpInfo := pool [(5, u "<init>"), (0, u "()V"), (1, .class_ 10), (1, u "java/lang/Object")] 113

def k0c0 : Code := { maxStack := 0, maxLocals := 1, code := object_method_1_code, exceptionTable := #[], attributes := #[] }
def k0m0 : Method := { name := "<init>", desc := "()V", sig := { parameters := [], returnType := none }, accessFlags := 1, code := some k0c0 }
/-- java/lang/Object -/
def k0 : Class := { plain "java/lang/Object" none with
  accessFlags := 33
  interfaces := #[]
  cf := some (fileOf pool0 8 #[] #[{ accessFlags := 1, nameIndex := 5, descriptorIndex := 6, attributes := #[] }] 33 0 #[] #[])
  fields := #[]
  methods := #[k0m0]
  instanceTypes := #[]
  staticTypes := #[]
  resolved := Array.replicate 124 none
  statics := none }

def pool1 : Array CpInfo := pool [(2, .class_ 4), (0, .nameAndType 5 6), (0, u "java/lang/Object"), (0, u "<init>"), (0, u "()V"), (0, .class_ 8), (0, u "com/example/fragmark/fragmark/TermTokens"), (0, .methodref 7 3), (0, .methodref 7 11), (0, .nameAndType 12 13), (0, u "add"), (0, u "(III)V"), (0, .class_ 15), (0, u "com/example/fragmark/fragmark/PhraseTerm"), (0, .string 17), (0, u "t"), (0, .methodref 14 19), (0, .nameAndType 5 20), (0, u "(Ljava/lang/String;Lcom/example/fragmark/fragmark/TermTokens;[IJ)V"), (0, .methodref 14 22), (0, .nameAndType 23 6), (0, u "startPicking"), (0, .methodref 14 25), (0, .nameAndType 26 27), (0, u "count"), (0, u "(I)V"), (0, .integer 2147483647), (0, .methodref 14 30), (0, .nameAndType 31 32), (0, u "nextFree"), (0, u "(I)I"), (0, .methodref 34 35), (0, .class_ 36), (0, .nameAndType 37 38), (0, u "com/example/fragmark/fragmark/PhraseTermNextFreePinLaw"), (0, u "ref"), (0, u "(ZZZI)I"), (3, u "law"), (0, u "(IIII)Z")] 2

def k1m0 : Method := { name := "<init>", desc := "()V", sig := { parameters := [], returnType := none }, accessFlags := 1, code := none }
def k1c1 : Code := { maxStack := 2, maxLocals := 4, code := method_2_code, exceptionTable := #[], attributes := #[] }
def k1m1 : Method := { name := "ref", desc := "(ZZZI)I", sig := { parameters := [.boolean, .boolean, .boolean, .int], returnType := some .int }, accessFlags := 10, code := some k1c1 }
def k1c2 : Code := { maxStack := 8, maxLocals := 17, code := code, exceptionTable := #[], attributes := #[] }
def k1m2 : Method := { name := "law", desc := "(IIII)Z", sig := { parameters := [.int, .int, .int, .int], returnType := some .boolean }, accessFlags := 9, code := some k1c2 }
/-- com/example/fragmark/fragmark/PhraseTermNextFreePinLaw -/
def k1 : Class := { plain "com/example/fragmark/fragmark/PhraseTermNextFreePinLaw" (some 0) with
  accessFlags := 49
  interfaces := #[]
  cf := some (fileOf pool1 34 #[] #[{ accessFlags := 1, nameIndex := 5, descriptorIndex := 6, attributes := #[] }, { accessFlags := 10, nameIndex := 37, descriptorIndex := 38, attributes := #[] }, { accessFlags := 9, nameIndex := 42, descriptorIndex := 43, attributes := #[] }] 49 2 #[] #[])
  fields := #[]
  methods := #[k1m0, k1m1, k1m2]
  instanceTypes := #[]
  staticTypes := #[]
  resolved := Array.replicate 46 none
  statics := none }

def pool2 : Array CpInfo := pool [(1, .methodref 2 3), (0, .class_ 4), (0, .nameAndType 5 6), (0, u "java/lang/Object"), (0, u "<init>"), (0, u "()V"), (0, .fieldref 8 9), (0, .class_ 10), (0, .nameAndType 11 12), (0, u "com/example/fragmark/fragmark/TermTokens"), (0, u "positions"), (0, u "[I"), (0, .fieldref 8 14), (0, .nameAndType 15 12), (0, u "starts"), (0, .fieldref 8 17), (0, .nameAndType 18 12), (0, u "ends"), (0, .fieldref 8 20), (0, .nameAndType 21 12), (0, u "repeats"), (0, .fieldref 8 23), (0, .nameAndType 24 25), (0, u "size"), (0, u "I"), (12, u "repeatsSize"), (20, u "add"), (0, u "(III)V"), (1, u "()I")] 11

def k2c0 : Code := { maxStack := 2, maxLocals := 1, code := prog_45_method_1_code, exceptionTable := #[], attributes := #[] }
def k2m0 : Method := { name := "<init>", desc := "()V", sig := { parameters := [], returnType := none }, accessFlags := 0, code := some k2c0 }
def k2c1 : Code := { maxStack := 4, maxLocals := 5, code := prog_45_method_2_code, exceptionTable := #[], attributes := #[] }
def k2m1 : Method := { name := "add", desc := "(III)V", sig := { parameters := [.int, .int, .int], returnType := none }, accessFlags := 0, code := some k2c1 }
def k2c2 : Code := { maxStack := 1, maxLocals := 1, code := prog_45_method_4_code, exceptionTable := #[], attributes := #[] }
def k2m2 : Method := { name := "size", desc := "()I", sig := { parameters := [], returnType := some .int }, accessFlags := 0, code := some k2c2 }
/-- com/example/fragmark/fragmark/TermTokens -/
def k2 : Class := { plain "com/example/fragmark/fragmark/TermTokens" (some 0) with
  accessFlags := 48
  interfaces := #[]
  cf := some (fileOf pool2 8 #[] #[{ accessFlags := 0, nameIndex := 5, descriptorIndex := 6, attributes := #[] }, { accessFlags := 0, nameIndex := 59, descriptorIndex := 60, attributes := #[] }, { accessFlags := 0, nameIndex := 24, descriptorIndex := 62, attributes := #[] }] 48 2 #[] #[{ accessFlags := 2, nameIndex := 11, descriptorIndex := 12, attributes := #[] }, { accessFlags := 2, nameIndex := 15, descriptorIndex := 12, attributes := #[] }, { accessFlags := 2, nameIndex := 18, descriptorIndex := 12, attributes := #[] }, { accessFlags := 2, nameIndex := 24, descriptorIndex := 25, attributes := #[] }, { accessFlags := 2, nameIndex := 21, descriptorIndex := 12, attributes := #[] }, { accessFlags := 2, nameIndex := 38, descriptorIndex := 25, attributes := #[] }])
  fields := #[{ name := "positions", type := (.array .int), accessFlags := 2, slot := 0, constantValue := 0 }, { name := "starts", type := (.array .int), accessFlags := 2, slot := 1, constantValue := 0 }, { name := "ends", type := (.array .int), accessFlags := 2, slot := 2, constantValue := 0 }, { name := "size", type := .int, accessFlags := 2, slot := 3, constantValue := 0 }, { name := "repeats", type := (.array .int), accessFlags := 2, slot := 4, constantValue := 0 }, { name := "repeatsSize", type := .int, accessFlags := 2, slot := 5, constantValue := 0 }]
  methods := #[k2m0, k2m1, k2m2]
  instanceTypes := #[(.array .int), (.array .int), (.array .int), .int, (.array .int), .int]
  staticTypes := #[]
  resolved := Array.replicate 74 none
  statics := none }

def pool3 : Array CpInfo := pool [(3, .class_ 4), (0, u "com/example/fragmark/fragmark/PhrasePart"), (0, .class_ 6), (0, u "java/lang/Object"), (0, u "NONE"), (0, u "J"), (3, u "FIRST")] 23

/-- com/example/fragmark/fragmark/PhrasePart -/
def k3 : Class := { plain "com/example/fragmark/fragmark/PhrasePart" (some 0) with
  accessFlags := 1536
  interfaces := #[]
  cf := some (fileOf pool3 3 #[] #[] 1536 5 #[] #[{ accessFlags := 25, nameIndex := 7, descriptorIndex := 8, attributes := #[] }, { accessFlags := 25, nameIndex := 12, descriptorIndex := 8, attributes := #[] }])
  fields := #[{ name := "NONE", type := .long, accessFlags := 25, slot := 0, constantValue := 0 }, { name := "FIRST", type := .long, accessFlags := 25, slot := 1, constantValue := 0 }]
  methods := #[]
  instanceTypes := #[]
  staticTypes := #[.long, .long]
  resolved := Array.replicate 36 none
  statics := none }

def pool4 : Array CpInfo := pool [(1, .methodref 2 3), (0, .class_ 4), (0, .nameAndType 5 6), (0, u "java/lang/Object"), (0, u "<init>"), (0, u "()V"), (0, .fieldref 8 9), (0, .class_ 10), (0, .nameAndType 11 12), (0, u "com/example/fragmark/fragmark/PhraseTerm"), (0, u "term"), (0, u "Ljava/lang/String;"), (0, .fieldref 8 14), (0, .nameAndType 15 16), (0, u "words"), (0, u "Lcom/example/fragmark/fragmark/TermTokens;"), (0, .fieldref 8 18), (0, .nameAndType 19 20), (0, u "places"), (0, u "[I"), (0, .fieldref 8 22), (0, .nameAndType 23 24), (0, u "slop"), (0, u "J"), (0, .fieldref 8 26), (0, .nameAndType 27 20), (0, u "last"), (0, .fieldref 8 29), (0, .nameAndType 30 20), (0, u "taken"), (0, .fieldref 8 32), (0, .nameAndType 33 20), (0, u "latest"), (0, .fieldref 8 35), (0, .nameAndType 36 20), (0, u "marked"), (1, .class_ 40), (1, u "java/util/Arrays"), (2, .methodref 44 45), (0, .class_ 46), (0, .nameAndType 47 48), (0, u "com/example/fragmark/fragmark/TermTokens"), (0, u "size"), (0, u "()I"), (2, u "marks"), (2, u "startPicking"), (4, .class_ 60), (0, u "com/example/fragmark/fragmark/PhrasePart"), (4, u "stretch"), (24, u "(I)I"), (18, .fieldref 8 110), (0, .nameAndType 111 20), (0, u "free"), (0, .invokeDynamic 0 113), (0, .nameAndType 114 115), (0, u "applyAsInt"), (0, u "()Ljava/util/function/IntUnaryOperator;"), (0, .methodref 38 117), (0, .nameAndType 118 119), (0, u "setAll"), (0, u "([ILjava/util/function/IntUnaryOperator;)V"), (0, .fieldref 8 121), (0, .nameAndType 122 20), (0, u "from"), (2, u "nextFree"), (9, u "count"), (0, u "(I)V"), (0, u "(Ljava/lang/String;Lcom/example/fragmark/fragmark/TermTokens;[IJ)V"), (21, u "lambda$startPicking$0"), (3, .methodType 90), (0, .methodHandle 6 165), (0, .methodref 8 166), (0, .nameAndType 159 90), (0, .methodHandle 6 168), (0, .methodref 169 170), (0, .class_ 171), (0, .nameAndType 172 173), (0, u "java/lang/invoke/LambdaMetafactory"), (0, u "metafactory"), (0, u "(Ljava/lang/invoke/MethodHandles$Lookup;Ljava/lang/String;Ljava/lang/invoke/MethodType;Ljava/lang/invoke/MethodType;Ljava/lang/invoke/MethodHandle;Ljava/lang/invoke/MethodType;)Ljava/lang/invoke/CallSite;")] 6

def k4c0 : Code := { maxStack := 3, maxLocals := 7, code := prog_35_method_1_code, exceptionTable := #[], attributes := #[] }
def k4m0 : Method := { name := "<init>", desc := "(Ljava/lang/String;Lcom/example/fragmark/fragmark/TermTokens;[IJ)V", sig := { parameters := [(.object "java/lang/String"), (.object "com/example/fragmark/fragmark/TermTokens"), (.array .int), .long], returnType := none }, accessFlags := 0, code := some k4c0 }
def k4c1 : Code := { maxStack := 3, maxLocals := 1, code := prog_35_method_14_code, exceptionTable := #[], attributes := #[] }
def k4m1 : Method := { name := "startPicking", desc := "()V", sig := { parameters := [], returnType := none }, accessFlags := 1, code := some k4c1 }
def k4c2 : Code := { maxStack := 5, maxLocals := 3, code := prog_35_method_16_code, exceptionTable := #[], attributes := #[] }
def k4m2 : Method := { name := "nextFree", desc := "(I)I", sig := { parameters := [.int], returnType := some .int }, accessFlags := 0, code := some k4c2 }
def k4c3 : Code := { maxStack := 4, maxLocals := 2, code := prog_35_method_18_code, exceptionTable := #[], attributes := #[] }
def k4m3 : Method := { name := "count", desc := "(I)V", sig := { parameters := [.int], returnType := none }, accessFlags := 0, code := some k4c3 }
def k4c4 : Code := { maxStack := 1, maxLocals := 1, code := prog_35_method_23_code, exceptionTable := #[], attributes := #[] }
def k4m4 : Method := { name := "lambda$startPicking$0", desc := "(I)I", sig := { parameters := [.int], returnType := some .int }, accessFlags := 4106, code := some k4c4 }
/-- com/example/fragmark/fragmark/PhraseTerm -/
def k4 : Class := { plain "com/example/fragmark/fragmark/PhraseTerm" (some 0) with
  accessFlags := 48
  interfaces := #[3]
  cf := some (fileOf pool4 8 #[.bootstrapMethods #[⟨167, #[163, 164, 163]⟩]] #[{ accessFlags := 0, nameIndex := 5, descriptorIndex := 137, attributes := #[] }, { accessFlags := 1, nameIndex := 54, descriptorIndex := 6, attributes := #[] }, { accessFlags := 0, nameIndex := 125, descriptorIndex := 90, attributes := #[] }, { accessFlags := 0, nameIndex := 135, descriptorIndex := 136, attributes := #[] }, { accessFlags := 4106, nameIndex := 159, descriptorIndex := 90, attributes := #[] }] 48 2 #[59] #[{ accessFlags := 18, nameIndex := 11, descriptorIndex := 12, attributes := #[] }, { accessFlags := 18, nameIndex := 15, descriptorIndex := 16, attributes := #[] }, { accessFlags := 18, nameIndex := 19, descriptorIndex := 20, attributes := #[] }, { accessFlags := 18, nameIndex := 23, descriptorIndex := 24, attributes := #[] }, { accessFlags := 18, nameIndex := 27, descriptorIndex := 20, attributes := #[] }, { accessFlags := 2, nameIndex := 51, descriptorIndex := 20, attributes := #[] }, { accessFlags := 18, nameIndex := 30, descriptorIndex := 20, attributes := #[] }, { accessFlags := 2, nameIndex := 111, descriptorIndex := 20, attributes := #[] }, { accessFlags := 2, nameIndex := 122, descriptorIndex := 20, attributes := #[] }, { accessFlags := 18, nameIndex := 33, descriptorIndex := 20, attributes := #[] }, { accessFlags := 2, nameIndex := 65, descriptorIndex := 24, attributes := #[] }, { accessFlags := 18, nameIndex := 36, descriptorIndex := 20, attributes := #[] }])
  fields := #[{ name := "term", type := (.object "java/lang/String"), accessFlags := 18, slot := 0, constantValue := 0 }, { name := "words", type := (.object "com/example/fragmark/fragmark/TermTokens"), accessFlags := 18, slot := 1, constantValue := 0 }, { name := "places", type := (.array .int), accessFlags := 18, slot := 2, constantValue := 0 }, { name := "slop", type := .long, accessFlags := 18, slot := 3, constantValue := 0 }, { name := "last", type := (.array .int), accessFlags := 18, slot := 4, constantValue := 0 }, { name := "marks", type := (.array .int), accessFlags := 2, slot := 5, constantValue := 0 }, { name := "taken", type := (.array .int), accessFlags := 18, slot := 6, constantValue := 0 }, { name := "free", type := (.array .int), accessFlags := 2, slot := 7, constantValue := 0 }, { name := "from", type := (.array .int), accessFlags := 2, slot := 8, constantValue := 0 }, { name := "latest", type := (.array .int), accessFlags := 18, slot := 9, constantValue := 0 }, { name := "stretch", type := .long, accessFlags := 2, slot := 10, constantValue := 0 }, { name := "marked", type := (.array .int), accessFlags := 18, slot := 11, constantValue := 0 }]
  methods := #[k4m0, k4m1, k4m2, k4m3, k4m4]
  instanceTypes := #[(.object "java/lang/String"), (.object "com/example/fragmark/fragmark/TermTokens"), (.array .int), .long, (.array .int), (.array .int), (.array .int), (.array .int), (.array .int), (.array .int), .long, (.array .int)]
  staticTypes := #[]
  resolved := Array.replicate 180 none
  callSites := [(1, 26, .constant 0)]
  statics := none }

def pool5 : Array CpInfo := pool [(1, .class_ 2), (0, u "java/io/Serializable"), (0, .class_ 4), (0, u "java/lang/Object")] 2

/-- java/io/Serializable -/
def k5 : Class := { plain "java/io/Serializable" (some 0) with
  accessFlags := 1537
  interfaces := #[]
  cf := some (fileOf pool5 1 #[] #[] 1537 3 #[] #[])
  fields := #[]
  methods := #[]
  instanceTypes := #[]
  staticTypes := #[]
  resolved := Array.replicate 7 none
  statics := none }

def pool6 : Array CpInfo := pool [(1, .class_ 2), (0, u "java/lang/Comparable"), (0, .class_ 4), (0, u "java/lang/Object")] 7

/-- java/lang/Comparable -/
def k6 : Class := { plain "java/lang/Comparable" (some 0) with
  accessFlags := 1537
  interfaces := #[]
  cf := some (fileOf pool6 1 #[] #[] 1537 3 #[] #[])
  fields := #[]
  methods := #[]
  instanceTypes := #[]
  staticTypes := #[]
  resolved := Array.replicate 12 none
  statics := none }

def pool7 : Array CpInfo := pool [(2, .class_ 4), (1, u "java/lang/CharSequence"), (42, .class_ 48), (0, u "java/lang/CharSequence$1CodePointIterator"), (10, .class_ 60), (0, u "java/lang/CharSequence$1CharIterator"), (5, .class_ 67), (0, u "java/lang/Object")] 63

/-- java/lang/CharSequence -/
def k7 : Class := { plain "java/lang/CharSequence" (some 0) with
  accessFlags := 1537
  interfaces := #[]
  cf := some (fileOf pool7 2 #[.nestMembers #[47, 59]] #[] 1537 66 #[] #[])
  fields := #[]
  methods := #[]
  instanceTypes := #[]
  staticTypes := #[]
  resolved := Array.replicate 131 none
  statics := none }

def pool8 : Array CpInfo := pool [(1, .class_ 2), (0, u "java/lang/constant/Constable"), (0, .class_ 4), (0, u "java/lang/Object")] 6

/-- java/lang/constant/Constable -/
def k8 : Class := { plain "java/lang/constant/Constable" (some 0) with
  accessFlags := 1537
  interfaces := #[]
  cf := some (fileOf pool8 1 #[] #[] 1537 3 #[] #[])
  fields := #[]
  methods := #[]
  instanceTypes := #[]
  staticTypes := #[]
  resolved := Array.replicate 11 none
  statics := none }

def pool9 : Array CpInfo := pool [(1, .class_ 2), (0, u "java/lang/constant/ConstantDesc"), (0, .class_ 4), (0, u "java/lang/Object")] 32

/-- java/lang/constant/ConstantDesc -/
def k9 : Class := { plain "java/lang/constant/ConstantDesc" (some 0) with
  accessFlags := 1537
  interfaces := #[]
  cf := some (fileOf pool9 1 #[] #[] 1537 3 #[] #[])
  fields := #[]
  methods := #[]
  instanceTypes := #[]
  staticTypes := #[]
  resolved := Array.replicate 37 none
  statics := none }

def pool10 : Array CpInfo := pool [(2, .class_ 4), (1, u "java/lang/Object"), (0, u "<init>"), (0, u "()V"), (3, .class_ 12), (1, u "java/lang/String"), (0, u "value"), (0, u "[B"), (2, u "coder"), (0, u "B"), (2, u "hash"), (0, u "I"), (2, u "hashIsZero"), (0, u "Z"), (13, u "COMPACT_STRINGS"), (534, .class_ 576), (0, u "java/lang/CharSequence"), (22, u "CASE_INSENSITIVE_ORDER"), (0, u "Ljava/util/Comparator;"), (500, u "serialPersistentFields"), (0, u "[Ljava/io/ObjectStreamField;"), (0, .class_ 1104), (0, u "java/lang/String$CaseInsensitiveComparator"), (1, .class_ 1107), (0, u "java/io/Serializable"), (0, .class_ 1109), (0, u "java/lang/Comparable"), (0, .class_ 1111), (0, u "java/lang/constant/Constable"), (0, .class_ 1113), (0, u "java/lang/constant/ConstantDesc"), (2, u "serialVersionUID"), (0, u "J"), (3, u "REPL"), (0, u "C"), (2, u "LATIN1"), (1, u "UTF16")] 323

def k10m0 : Method := { name := "<init>", desc := "()V", sig := { parameters := [], returnType := none }, accessFlags := 1, code := none }
/-- java/lang/String -/
def k10 : Class := { plain "java/lang/String" (some 0) with
  accessFlags := 49
  interfaces := #[5, 6, 7, 8, 9]
  cf := some (fileOf pool10 10 #[.nestMembers #[1103]] #[{ accessFlags := 1, nameIndex := 5, descriptorIndex := 6, attributes := #[] }] 49 2 #[1106, 1108, 575, 1110, 1112] #[{ accessFlags := 18, nameIndex := 13, descriptorIndex := 14, attributes := #[] }, { accessFlags := 18, nameIndex := 17, descriptorIndex := 18, attributes := #[] }, { accessFlags := 2, nameIndex := 21, descriptorIndex := 22, attributes := #[] }, { accessFlags := 2, nameIndex := 25, descriptorIndex := 26, attributes := #[] }, { accessFlags := 26, nameIndex := 1116, descriptorIndex := 1117, attributes := #[] }, { accessFlags := 24, nameIndex := 40, descriptorIndex := 26, attributes := #[] }, { accessFlags := 26, nameIndex := 1101, descriptorIndex := 1102, attributes := #[] }, { accessFlags := 26, nameIndex := 1121, descriptorIndex := 1122, attributes := #[] }, { accessFlags := 25, nameIndex := 599, descriptorIndex := 600, attributes := #[] }, { accessFlags := 24, nameIndex := 1125, descriptorIndex := 18, attributes := #[] }, { accessFlags := 24, nameIndex := 1127, descriptorIndex := 18, attributes := #[] }])
  fields := #[{ name := "value", type := (.array .byte), accessFlags := 18, slot := 0, constantValue := 0 }, { name := "coder", type := .byte, accessFlags := 18, slot := 1, constantValue := 0 }, { name := "hash", type := .int, accessFlags := 2, slot := 2, constantValue := 0 }, { name := "hashIsZero", type := .boolean, accessFlags := 2, slot := 3, constantValue := 0 }, { name := "serialVersionUID", type := .long, accessFlags := 26, slot := 0, constantValue := 0 }, { name := "COMPACT_STRINGS", type := .boolean, accessFlags := 24, slot := 1, constantValue := 0 }, { name := "serialPersistentFields", type := (.array (.object "java/io/ObjectStreamField")), accessFlags := 26, slot := 2, constantValue := 0 }, { name := "REPL", type := .char, accessFlags := 26, slot := 3, constantValue := 0 }, { name := "CASE_INSENSITIVE_ORDER", type := (.object "java/util/Comparator"), accessFlags := 25, slot := 4, constantValue := 0 }, { name := "LATIN1", type := .byte, accessFlags := 24, slot := 5, constantValue := 0 }, { name := "UTF16", type := .byte, accessFlags := 24, slot := 6, constantValue := 0 }]
  methods := #[k10m0]
  instanceTypes := #[(.array .byte), .byte, .int, .boolean]
  staticTypes := #[.long, .boolean, (.array (.object "java/io/ObjectStreamField")), .char, (.object "java/util/Comparator"), .byte, .byte]
  resolved := Array.replicate 1451 none
  statics := none }

def pool11 : Array CpInfo := pool [(9, u "applyAsInt"), (6, .class_ 18), (1, u "java/util/function/IntUnaryOperator"), (0, u "(I)I"), (0, .class_ 21), (0, u "java/lang/Object")] 46

def k11m0 : Method := { name := "applyAsInt", desc := "(I)I", sig := { parameters := [.int], returnType := some .int }, accessFlags := 1025, code := none }
/-- java/util/function/IntUnaryOperator -/
def k11 : Class := { plain "java/util/function/IntUnaryOperator" (some 0) with
  accessFlags := 1537
  interfaces := #[]
  cf := some (fileOf pool11 16 #[] #[{ accessFlags := 1025, nameIndex := 9, descriptorIndex := 19, attributes := #[] }] 1537 20 #[] #[])
  fields := #[]
  methods := #[k11m0]
  instanceTypes := #[]
  staticTypes := #[]
  resolved := Array.replicate 68 none
  statics := none }

def pool12 : Array CpInfo := pool [(2, .class_ 4), (1, u "java/lang/Object"), (0, u "<init>"), (0, u "()V"), (7, .class_ 16), (1, u "java/util/Arrays"), (57, .class_ 76), (1, u "java/util/Arrays$NaturalOrder"), (36, .class_ 115), (1, u "java/util/Arrays$LegacyMergeSort"), (1, u "Z"), (57, .methodref 176 177), (0, .class_ 178), (0, .nameAndType 179 180), (0, u "java/util/Objects"), (0, u "requireNonNull"), (0, u "(Ljava/lang/Object;)Ljava/lang/Object;"), (194, .class_ 376), (0, u "java/util/Arrays$ArrayList"), (68, u "$assertionsDisabled"), (136, .interfaceMethodref 583 584), (0, .class_ 585), (0, .nameAndType 586 587), (0, u "java/util/function/IntUnaryOperator"), (0, u "applyAsInt"), (0, u "(I)I"), (127, u "MIN_ARRAY_SORT_GRAN"), (0, u "I"), (2, u "INSERTIONSORT_THRESHOLD"), (187, u "setAll"), (6, u "([ILjava/util/function/IntUnaryOperator;)V"), (60, .class_ 976), (0, u "java/util/Arrays$ArrayItr")] 52

def k12m0 : Method := { name := "<init>", desc := "()V", sig := { parameters := [], returnType := none }, accessFlags := 2, code := none }
def k12c1 : Code := { maxStack := 4, maxLocals := 3, code := jdk_65_method_175_code, exceptionTable := #[], attributes := #[] }
def k12m1 : Method := { name := "setAll", desc := "([ILjava/util/function/IntUnaryOperator;)V", sig := { parameters := [(.array .int), (.object "java/util/function/IntUnaryOperator")], returnType := none }, accessFlags := 9, code := some k12c1 }
/-- java/util/Arrays -/
def k12 : Class := { plain "java/util/Arrays" (some 0) with
  accessFlags := 49
  interfaces := #[]
  cf := some (fileOf pool12 14 #[.nestMembers #[975, 375, 113, 74]] #[{ accessFlags := 2, nameIndex := 5, descriptorIndex := 6, attributes := #[] }, { accessFlags := 9, nameIndex := 907, descriptorIndex := 914, attributes := #[] }] 49 2 #[] #[{ accessFlags := 26, nameIndex := 715, descriptorIndex := 716, attributes := #[] }, { accessFlags := 26, nameIndex := 719, descriptorIndex := 716, attributes := #[] }, { accessFlags := 4120, nameIndex := 445, descriptorIndex := 117, attributes := #[] }])
  fields := #[{ name := "MIN_ARRAY_SORT_GRAN", type := .int, accessFlags := 26, slot := 0, constantValue := 0 }, { name := "INSERTIONSORT_THRESHOLD", type := .int, accessFlags := 26, slot := 1, constantValue := 0 }, { name := "$assertionsDisabled", type := .boolean, accessFlags := 4120, slot := 2, constantValue := 0 }]
  methods := #[k12m0, k12m1]
  instanceTypes := #[]
  staticTypes := #[.int, .int, .boolean]
  resolved := Array.replicate 1029 none
  statics := none }

def pool13 : Array CpInfo := pool [(2, .class_ 4), (1, u "java/lang/Object"), (0, u "<init>"), (0, u "()V"), (35, .class_ 44), (1, u "java/util/Objects"), (0, u "requireNonNull"), (0, u "(Ljava/lang/Object;)Ljava/lang/Object;")] 137

def k13m0 : Method := { name := "<init>", desc := "()V", sig := { parameters := [], returnType := none }, accessFlags := 2, code := none }
def k13c1 : Code := { maxStack := 2, maxLocals := 1, code := jdk_31_method_10_code, exceptionTable := #[], attributes := #[] }
def k13m1 : Method := { name := "requireNonNull", desc := "(Ljava/lang/Object;)Ljava/lang/Object;", sig := { parameters := [(.object "java/lang/Object")], returnType := some (.object "java/lang/Object") }, accessFlags := 9, code := some k13c1 }
/-- java/util/Objects -/
def k13 : Class := { plain "java/util/Objects" (some 0) with
  accessFlags := 49
  interfaces := #[]
  cf := some (fileOf pool13 42 #[] #[{ accessFlags := 2, nameIndex := 5, descriptorIndex := 6, attributes := #[] }, { accessFlags := 9, nameIndex := 45, descriptorIndex := 46, attributes := #[] }] 49 2 #[] #[])
  fields := #[]
  methods := #[k13m0, k13m1]
  instanceTypes := #[]
  staticTypes := #[]
  resolved := Array.replicate 184 none
  statics := none }

def pool14 : Array CpInfo := pool [(1, u "java/lang/Cloneable"), (0, .class_ 1), (0, u "java/lang/Object"), (0, .class_ 3)] 3

/-- java/lang/Cloneable -/
def k14 : Class := { plain "java/lang/Cloneable" (some 0) with
  accessFlags := 1537
  interfaces := #[]
  cf := some (fileOf pool14 2 #[] #[] 1537 4 #[] #[])
  fields := #[]
  methods := #[]
  instanceTypes := #[]
  staticTypes := #[]
  resolved := Array.replicate 8 none
  statics := none }

/-- the primitive byte -/
def k15 : Class := { plain "byte" none with kind := .primitive 'B', accessFlags := 0x411 }
/-- [B -/
def k16 : Class := { plain "[B" (some 0) with kind := .array 15 .byte, interfaces := #[14, 5], accessFlags := 1041 }

/-- the primitive int -/
def k17 : Class := { plain "int" none with kind := .primitive 'I', accessFlags := 0x411 }
/-- [I -/
def k18 : Class := { plain "[I" (some 0) with kind := .array 17 .int, interfaces := #[14, 5], accessFlags := 1041 }

def classes0 : Array Class := #[k0, k1, k2, k3, k4, k5, k6, k7, k8, k9, k10, k11, k12, k13, k14, k15, k16, k17, k18]
/-- the class that the rule has made for the site at 26 of com/example/fragmark/fragmark/PhraseTerm.startPicking -/
def k19 : Class := Jvm.LamKit.madeRec { classes := classes0 } "com/example/fragmark/fragmark/PhraseTerm" (Jvm.Lambda.Shape.mk "java/util/function/IntUnaryOperator" "applyAsInt" (Jvm.ClassFile.MethodDescriptor.mk ([Jvm.ClassFile.FieldType.int] : List Jvm.ClassFile.FieldType) (Option.some Jvm.ClassFile.FieldType.int)) ([] : List Jvm.ClassFile.FieldType) (6 : Nat) "com/example/fragmark/fragmark/PhraseTerm" "lambda$startPicking$0" (Jvm.ClassFile.MethodDescriptor.mk ([Jvm.ClassFile.FieldType.int] : List Jvm.ClassFile.FieldType) (Option.some Jvm.ClassFile.FieldType.int)) false (Jvm.ClassFile.MethodDescriptor.mk ([Jvm.ClassFile.FieldType.int] : List Jvm.ClassFile.FieldType) (Option.some Jvm.ClassFile.FieldType.int))) 19

def heap : Heap := #[{ cls := 19, slots := #[], vm := .none }]
def classes : Array Class := #[k0, k1, k2, k3, k4, k5, k6, k7, k8, k9, k10, k11, k12, k13, k14, k15, k16, k17, k18, k19]
def interned : List (Array UInt16 × Addr) := []
def slotsUsed : Nat := 0
def theMethod : MethodId := ⟨1, 2⟩
def args0 : Array Value := #[.int 5, .int 1, .int 2, .int 3]
def aboutOver (below : List Frame) : State where
  vm := { classes := classes, interned := interned.toArray }
  heap := heap
  slotsUsed := slotsUsed
  threads := #[{ frames := .invoking theMethod args0 :: below }]
def below0 : List Frame := [.native { method := ⟨0, 0⟩, args := #[] }]
def about1 : State := aboutOver below0
def p0 : Program := .bare "" "" ""
def e0 : Env := launch0.env 0 0 0
theorem w_frames : about1.frames = Frame.invoking theMethod args0 :: below0 := rfl
set_option maxRecDepth 65536 in
theorem w_args : argsFit about1.vm theMethod args0 = true := by decide +kernel
set_option maxRecDepth 65536 in
theorem w_heap : heapFits about1 = true := by decide +kernel
set_option maxRecDepth 65536 in
theorem w_runnable : about1.curStatus? = some .runnable := by decide +kernel
set_option maxRecDepth 65536 in
theorem w_alone : about1.alone = true := by decide +kernel
set_option maxRecDepth 65536 in
theorem w_named : about1.methodNamed? x = some theMethod := by decide +kernel
set_option maxRecDepth 65536 in
theorem w_hears : about1.hears theMethod below0 = true := by decide +kernel
set_option maxRecDepth 65536 in
theorem w_ripe : about1.ripe theMethod args0 below0 = true := by decide +kernel
theorem w_running : about1.status = .running := rfl
set_option maxRecDepth 65536 in
theorem w_room : about1.hasRoom e0.platform room_1 = true :=
  launch0.hasRoom_least _ room_1 (by decide +kernel) (by decide +kernel) (by decide +kernel) (by decide +kernel) (by decide +kernel) (by decide +kernel)
theorem allAtoms_all (ts : List Jvm.Cond) (a : Array Jvm.Value) (st : Jvm.State) : (allAtoms ts).before a st = ts.all (fun c => c.before a st) := by
  induction ts with
  | nil => rfl
  | cons c t ih =>
    show (Jvm.Cond.and c (allAtoms t)).before a st = _
    rw [Jvm.Cond.before_and, ih, List.all_cons]
def words1 : List Jvm.Cond := Jvm.Cond.code x code maxLocals ret :: tables_1
/-- a 'code' word, met by the world's own term for the bytes: nothing is compared byte by byte -/
theorem code_word {y : MethodName} {bytes : ByteArray} {mx : Nat} {rt : Option FieldType} {a : Array Value} {s : State} {m : MethodId} {meth : Method} {c : Code} (h1 : s.methodNamed? y = some m) (h2 : s.vm.method? m = some meth) (h3 : meth.code = some c) (h4 : c.code = bytes)
    (h5 : (c.maxLocals == mx && c.exceptionTable.isEmpty && decide (c.maxStack ≤ mostOperands) && decide (meth.sig.returnType = rt) && !meth.locks && decide (parseMethodDescriptor y.desc = some meth.sig)) = true) : (Jvm.Cond.code y bytes mx rt).before a s = true := by
  simp only [Bool.and_eq_true, beq_iff_eq, Bool.not_eq_true', decide_eq_true_eq] at h5
  obtain ⟨⟨⟨⟨⟨g1, g2⟩, g3⟩, g4⟩, g5⟩, g6⟩ := h5
  simp [Cond.before, Cond.holds, Cond.value, h1, h2, h3, h4, g1, g2, g3, g4, g5, g6]
def isCode : Jvm.Cond → Bool
  | .code _ _ _ _ => true
  | _ => false
theorem all_split {L : List Jvm.Cond} {P : Jvm.Cond → Bool} (h1 : L.all (fun c => isCode c || P c) = true) (h2 : ∀ c ∈ L.filter isCode, P c = true) : L.all P = true := by
  refine List.all_eq_true.mpr fun c hc => ?_
  have h := List.all_eq_true.mp h1 c hc
  rcases Bool.eq_false_or_eq_true (isCode c) with hi | hi
  · exact h2 c (List.mem_filter.mpr ⟨hc, hi⟩)
  · simpa [hi] using h
set_option maxRecDepth 65536 in
theorem w_c0 : (Jvm.Cond.code x code maxLocals ret).before args0 about1 = true := code_word (m := ⟨1, 2⟩) (meth := k1m2) (c := k1c2) (by decide +kernel) rfl rfl rfl (by decide +kernel)
set_option maxRecDepth 65536 in
theorem w_c1 : (Jvm.Cond.code ({ cls := "com/example/fragmark/fragmark/TermTokens", name := "<init>", desc := "()V" } : Jvm.MethodName) prog_45_method_1_code (1 : Nat) (Option.none : Option Jvm.ClassFile.FieldType)).before args0 about1 = true := code_word (m := ⟨2, 0⟩) (meth := k2m0) (c := k2c0) (by decide +kernel) rfl rfl rfl (by decide +kernel)
set_option maxRecDepth 65536 in
theorem w_c2 : (Jvm.Cond.code ({ cls := "java/lang/Object", name := "<init>", desc := "()V" } : Jvm.MethodName) object_method_1_code (1 : Nat) (Option.none : Option Jvm.ClassFile.FieldType)).before args0 about1 = true := code_word (m := ⟨0, 0⟩) (meth := k0m0) (c := k0c0) (by decide +kernel) rfl rfl rfl (by decide +kernel)
set_option maxRecDepth 65536 in
theorem w_c3 : (Jvm.Cond.code ({ cls := "com/example/fragmark/fragmark/TermTokens", name := "add", desc := "(III)V" } : Jvm.MethodName) prog_45_method_2_code (5 : Nat) (Option.none : Option Jvm.ClassFile.FieldType)).before args0 about1 = true := code_word (m := ⟨2, 1⟩) (meth := k2m1) (c := k2c1) (by decide +kernel) rfl rfl rfl (by decide +kernel)
set_option maxRecDepth 65536 in
theorem w_c4 : (Jvm.Cond.code ({ cls := "com/example/fragmark/fragmark/PhraseTerm", name := "<init>", desc := "(Ljava/lang/String;Lcom/example/fragmark/fragmark/TermTokens;[IJ)V" } : Jvm.MethodName) prog_35_method_1_code (7 : Nat) (Option.none : Option Jvm.ClassFile.FieldType)).before args0 about1 = true := code_word (m := ⟨4, 0⟩) (meth := k4m0) (c := k4c0) (by decide +kernel) rfl rfl rfl (by decide +kernel)
set_option maxRecDepth 65536 in
theorem w_c5 : (Jvm.Cond.code ({ cls := "com/example/fragmark/fragmark/PhraseTerm", name := "startPicking", desc := "()V" } : Jvm.MethodName) prog_35_method_14_code (1 : Nat) (Option.none : Option Jvm.ClassFile.FieldType)).before args0 about1 = true := code_word (m := ⟨4, 1⟩) (meth := k4m1) (c := k4c1) (by decide +kernel) rfl rfl rfl (by decide +kernel)
set_option maxRecDepth 65536 in
theorem w_c6 : (Jvm.Cond.code ({ cls := "com/example/fragmark/fragmark/TermTokens", name := "size", desc := "()I" } : Jvm.MethodName) prog_45_method_4_code (1 : Nat) (Option.some Jvm.ClassFile.FieldType.int)).before args0 about1 = true := code_word (m := ⟨2, 2⟩) (meth := k2m2) (c := k2c2) (by decide +kernel) rfl rfl rfl (by decide +kernel)
set_option maxRecDepth 65536 in
theorem w_c7 : (Jvm.Cond.code ({ cls := "java/util/Arrays", name := "setAll", desc := "([ILjava/util/function/IntUnaryOperator;)V" } : Jvm.MethodName) jdk_65_method_175_code (3 : Nat) (Option.none : Option Jvm.ClassFile.FieldType)).before args0 about1 = true := code_word (m := ⟨12, 1⟩) (meth := k12m1) (c := k12c1) (by decide +kernel) rfl rfl rfl (by decide +kernel)
set_option maxRecDepth 65536 in
theorem w_c8 : (Jvm.Cond.code ({ cls := "java/util/Objects", name := "requireNonNull", desc := "(Ljava/lang/Object;)Ljava/lang/Object;" } : Jvm.MethodName) jdk_31_method_10_code (1 : Nat) (Option.some (Jvm.ClassFile.FieldType.object "java/lang/Object"))).before args0 about1 = true := code_word (m := ⟨13, 1⟩) (meth := k13m1) (c := k13c1) (by decide +kernel) rfl rfl rfl (by decide +kernel)
set_option maxRecDepth 65536 in
theorem w_c9 : (Jvm.Cond.code ({ cls := "com/example/fragmark/fragmark/PhraseTerm", name := "lambda$startPicking$0", desc := "(I)I" } : Jvm.MethodName) prog_35_method_23_code (1 : Nat) (Option.some Jvm.ClassFile.FieldType.int)).before args0 about1 = true := code_word (m := ⟨4, 4⟩) (meth := k4m4) (c := k4c4) (by decide +kernel) rfl rfl rfl (by decide +kernel)
set_option maxRecDepth 65536 in
theorem w_c10 : (Jvm.Cond.code ({ cls := "com/example/fragmark/fragmark/PhraseTerm", name := "nextFree", desc := "(I)I" } : Jvm.MethodName) prog_35_method_16_code (3 : Nat) (Option.some Jvm.ClassFile.FieldType.int)).before args0 about1 = true := code_word (m := ⟨4, 2⟩) (meth := k4m2) (c := k4c2) (by decide +kernel) rfl rfl rfl (by decide +kernel)
set_option maxRecDepth 65536 in
theorem w_c11 : (Jvm.Cond.code ({ cls := "com/example/fragmark/fragmark/PhraseTerm", name := "count", desc := "(I)V" } : Jvm.MethodName) prog_35_method_18_code (2 : Nat) (Option.none : Option Jvm.ClassFile.FieldType)).before args0 about1 = true := code_word (m := ⟨4, 3⟩) (meth := k4m3) (c := k4c3) (by decide +kernel) rfl rfl rfl (by decide +kernel)
set_option maxRecDepth 65536 in
theorem w_c12 : (Jvm.Cond.code ({ cls := "com/example/fragmark/fragmark/PhraseTermNextFreePinLaw", name := "ref", desc := "(ZZZI)I" } : Jvm.MethodName) method_2_code (4 : Nat) (Option.some Jvm.ClassFile.FieldType.int)).before args0 about1 = true := code_word (m := ⟨1, 1⟩) (meth := k1m1) (c := k1c1) (by decide +kernel) rfl rfl rfl (by decide +kernel)
def codes1 : List Jvm.Cond := [Jvm.Cond.code x code maxLocals ret, Jvm.Cond.code ({ cls := "com/example/fragmark/fragmark/TermTokens", name := "<init>", desc := "()V" } : Jvm.MethodName) prog_45_method_1_code (1 : Nat) (Option.none : Option Jvm.ClassFile.FieldType), Jvm.Cond.code ({ cls := "java/lang/Object", name := "<init>", desc := "()V" } : Jvm.MethodName) object_method_1_code (1 : Nat) (Option.none : Option Jvm.ClassFile.FieldType), Jvm.Cond.code ({ cls := "com/example/fragmark/fragmark/TermTokens", name := "add", desc := "(III)V" } : Jvm.MethodName) prog_45_method_2_code (5 : Nat) (Option.none : Option Jvm.ClassFile.FieldType), Jvm.Cond.code ({ cls := "com/example/fragmark/fragmark/PhraseTerm", name := "<init>", desc := "(Ljava/lang/String;Lcom/example/fragmark/fragmark/TermTokens;[IJ)V" } : Jvm.MethodName) prog_35_method_1_code (7 : Nat) (Option.none : Option Jvm.ClassFile.FieldType), Jvm.Cond.code ({ cls := "com/example/fragmark/fragmark/PhraseTerm", name := "startPicking", desc := "()V" } : Jvm.MethodName) prog_35_method_14_code (1 : Nat) (Option.none : Option Jvm.ClassFile.FieldType), Jvm.Cond.code ({ cls := "com/example/fragmark/fragmark/TermTokens", name := "size", desc := "()I" } : Jvm.MethodName) prog_45_method_4_code (1 : Nat) (Option.some Jvm.ClassFile.FieldType.int), Jvm.Cond.code ({ cls := "java/util/Arrays", name := "setAll", desc := "([ILjava/util/function/IntUnaryOperator;)V" } : Jvm.MethodName) jdk_65_method_175_code (3 : Nat) (Option.none : Option Jvm.ClassFile.FieldType), Jvm.Cond.code ({ cls := "java/util/Objects", name := "requireNonNull", desc := "(Ljava/lang/Object;)Ljava/lang/Object;" } : Jvm.MethodName) jdk_31_method_10_code (1 : Nat) (Option.some (Jvm.ClassFile.FieldType.object "java/lang/Object")), Jvm.Cond.code ({ cls := "com/example/fragmark/fragmark/PhraseTerm", name := "lambda$startPicking$0", desc := "(I)I" } : Jvm.MethodName) prog_35_method_23_code (1 : Nat) (Option.some Jvm.ClassFile.FieldType.int), Jvm.Cond.code ({ cls := "com/example/fragmark/fragmark/PhraseTerm", name := "nextFree", desc := "(I)I" } : Jvm.MethodName) prog_35_method_16_code (3 : Nat) (Option.some Jvm.ClassFile.FieldType.int), Jvm.Cond.code ({ cls := "com/example/fragmark/fragmark/PhraseTerm", name := "count", desc := "(I)V" } : Jvm.MethodName) prog_35_method_18_code (2 : Nat) (Option.none : Option Jvm.ClassFile.FieldType), Jvm.Cond.code ({ cls := "com/example/fragmark/fragmark/PhraseTermNextFreePinLaw", name := "ref", desc := "(ZZZI)I" } : Jvm.MethodName) method_2_code (4 : Nat) (Option.some Jvm.ClassFile.FieldType.int)]
set_option maxRecDepth 65536 in
theorem codes_eq : words1.filter isCode = codes1 := rfl
theorem w_codes : ∀ c ∈ words1.filter isCode, c.before args0 about1 = true := by
  rw [codes_eq]
  intro c hc
  simp only [codes1, List.mem_cons, List.not_mem_nil, or_false] at hc
  rcases hc with rfl | rfl | rfl | rfl | rfl | rfl | rfl | rfl | rfl | rfl | rfl | rfl | rfl
  · exact w_c0
  · exact w_c1
  · exact w_c2
  · exact w_c3
  · exact w_c4
  · exact w_c5
  · exact w_c6
  · exact w_c7
  · exact w_c8
  · exact w_c9
  · exact w_c10
  · exact w_c11
  · exact w_c12
set_option maxRecDepth 65536 in
theorem w_t1 : (words1.take 24).all (fun c => isCode c || c.before args0 about1) = true := by decide +kernel
set_option maxRecDepth 65536 in
theorem w_t2 : ((words1.drop 24).take 24).all (fun c => isCode c || c.before args0 about1) = true := by decide +kernel
set_option maxRecDepth 65536 in
theorem w_t3 : (((words1.drop 24).drop 24).take 24).all (fun c => isCode c || c.before args0 about1) = true := by decide +kernel
set_option maxRecDepth 65536 in
theorem w_t4 : ((((words1.drop 24).drop 24).drop 24).take 24).all (fun c => isCode c || c.before args0 about1) = true := by decide +kernel
set_option maxRecDepth 65536 in
theorem w_t5 : ((((words1.drop 24).drop 24).drop 24).drop 24).all (fun c => isCode c || c.before args0 about1) = true := by decide +kernel
theorem w_tables : (allAtoms (Jvm.Cond.code x code maxLocals ret :: tables_1)).before args0 about1 = true := by
  rw [allAtoms_all]
  show words1.all (fun c => c.before args0 about1) = true
  refine all_split ?_ w_codes
  rw [← List.take_append_drop 24 words1, List.all_append, w_t1, ← List.take_append_drop 24 (words1.drop 24), List.all_append, w_t2, ← List.take_append_drop 24 ((words1.drop 24).drop 24), List.all_append, w_t3, ← List.take_append_drop 24 (((words1.drop 24).drop 24).drop 24), List.all_append, w_t4, w_t5]
  rfl
set_option maxRecDepth 65536 in
theorem w_case : (Jvm.Cond.and given_1 narrow_1).before args0 about1 = true := by decide +kernel
theorem w_applies : (headSpec (Jvm.Cond.code x code maxLocals ret :: tables_1) room_1).applies x e0.platform about1 = true :=
  (Spec.applies_iff w_frames).mpr ⟨w_running, w_runnable, w_alone, w_named, w_hears, w_ripe, w_room, w_tables⟩
theorem atStart : AtStart classFile x code maxLocals ret World_1 tables_1 room_1 Calls_1 rest_1 Pre_1 launch0 p0 e0 about1 theMethod args0 below0 :=
  ⟨lists_1, trivial, launch0.admits_env _ _ _, launch0.least_env, fairChoices_fair.cas, fairChoices_fair.clock, w_frames, w_args, w_heap, w_applies, trivial, trivial, w_case⟩
end start1
theorem witness_1 : WitnessClaimed_1 := ⟨start1.p0, start1.e0, start1.about1, start1.theMethod, start1.args0, start1.below0, start1.atStart⟩
end Jvm.Pilot.@@N@@
