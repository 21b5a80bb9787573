import JvmDerived
import JvmDerived.Pilot.@@N@@Statement
import JvmDerived.Pilot.@@N@@Code
set_option linter.unusedVariables false
set_option linter.unusedSimpArgs false

namespace Jvm.Pilot.@@N@@
open Jvm Jvm.ClassFile Sem Op Lib Jvm.Free Jvm.Stand Jvm.LawKit Jvm.RoadKit Bundle Jvm.Pilot.@@N@@.Jvm.D
section OwnKit
variable {p : Program} {l : Launch} {e : Env} {R : Room} {s : State} {m : MethodId} {args : Array Value} {below : List Frame} {meth : Method} {c : Code} {T : State} {locs : List Loc} {cells slots : Nat} {Z : State} {a0 : Array Value} {h : Heap}
/-- the run goes on from T with the frame f on top to an end that K says -/
def own_G (p : Program) (e : Env) (below : List Frame) (K : Outcome → State → Prop) (T : State) (f : JFrame) : Prop := ∃ s₂ o, Steps p.tables e below (T.setTop f) s₂ ∧ s₂.status = .running ∧ Ended s₂ below o ∧ K o s₂
theorem own_go {K : Outcome → State → Prop} {T' : State} {f f' : JFrame} (st : ∀ t, Steps p.tables e below (T'.setTop f') t → Steps p.tables e below (T.setTop f) t) (h : own_G p e below K T' f') : own_G p e below K T f := by
  obtain ⟨s₂, o, h1, h2⟩ := h
  exact ⟨s₂, o, st _ h1, h2⟩
theorem own_cast {K : Outcome → State → Prop} {f f' : JFrame} (q : f = f') (h : own_G p e below K T f') : own_G p e below K T f := q ▸ h
def own_K (Q : Option Value → Heap → List Loc → Prop) (s : State) (C S : Nat) : Outcome → State → Prop := fun o U => ∃ v L, o = .returned v ∧ Q v U.heap L ∧ FrameEnd s o U L C S
def own_Met (l : Launch) (Z : State) (y : MethodName) (bytes : ByteArray) (maxL : Nat) (ret : Option FieldType) (ws : List Jvm.Cond) (rm : Room) (as' : Array Value) (h0 : Heap) (Q : Option Value → Heap → List Loc → Prop) : Prop :=
  MetFree l y (head1 (Jvm.Cond.code y bytes maxL ret :: ws) rm) (fun a U => a = as' ∧ Z.Warmed39 U.vm ∧ U.heap = h0) (fun _ _ _ _ _ => True) (fun _ U o U' => own_K Q U rm.cells rm.slots o U')
theorem own_met {y : MethodName} {bytes : ByteArray} {maxL : Nat} {ret : Option FieldType} {ws : List Jvm.Cond} {rm : Room} {as' : Array Value} {h0 : Heap} {Q : Option Value → Heap → List Loc → Prop} (hpl : plainFor y = true)
    (body : ∀ (p : Program) (e : Env) (s : State) (m : MethodId) (below : List Frame) (meth : Method) (c : Code) (s₁ : State), p.tables.exec = Jvm.exec → c.code = bytes → c.maxLocals = maxL → s.vm.findClass y.cls = some m.cls → meth.name = y.name → meth.sig.returnType = ret → meth.locks = false →
      Z.Warmed39 s.vm → Stand p l e rm s m as' below meth c s₁ [] 0 0 → s₁.heap = h0 → own_G p e below (own_K Q s rm.cells rm.slots) s₁ (entryFrame m as' maxL)) :
    own_Met l Z y bytes maxL ret ws rm as' h0 Q := by
  refine MetFree.of_bodySF hpl hisR ?_
  intro p e s m args below meth c s₁ Bd hml hP hK
  obtain ⟨rfl, hZ, hh⟩ := hP
  have e0 : s₁.heap = h0 := by rw [← hh, Bd.state]; rfl
  have q := body p e s m below meth c s₁ Bd.exec Bd.bytes hml (findClass_of_methodNamed Bd.named) (name_of_methodNamed Bd.named Bd.method).1 Bd.returns (BodyLoose.notSynchronized Bd) hZ (Stand.of_body Bd) e0
  obtain ⟨s₂, o, h1, h2, h3, h4⟩ := q
  exact ⟨s₂, o, h1, h2, h3, h4⟩
theorem own_end (X : Stand p l e R s m args below meth c T locs cells slots) (hlk : meth.locks = false) {v : Option Value} {f : JFrame} {Q : Option Value → Heap → List Loc → Prop} {C S : Nat} (hv : meth.sig.returnType = none → v = none) (hc : cells ≤ C) (hs : slots ≤ S)
    (st : ∀ fs, (∀ (f : JFrame) (acts : List Action), f.method = m → f.locked = none → f.entered = [] → (doReturn e (T.setTop f) acts v).1 = T.setFrames fs) → Steps p.tables e below (T.setTop f) (T.setFrames fs)) (hq : Q v T.heap locs) : own_G p e below (own_K Q s C S) T f := by
  obtain ⟨fs, hr, hrun, hended, hW, hsame⟩ := X.leave (v := v) hv
  exact ⟨_, _, st fs hr, hrun, hended, v, locs, rfl, hq, ⟨_, rfl⟩, hW, hsame.mono hc hs⟩
theorem own_retZ (X : Stand p l e R s m args below meth c T locs cells slots) (hx : p.tables.exec = Jvm.exec) (hlk : meth.locks = false) {t : FieldType} (hret : meth.sig.returnType = some t) (ht : t = .boolean ∨ t = .byte ∨ t = .char ∨ t = .short) {pc : Nat} {Ls : Array Slot} {z : Int32} {rest : List Value} {Q : Option Value → Heap → List Loc → Prop} {C S : Nat}
    (eT : T.heap = h) {w : Int32} (hz : nar t z = w) (hd : decode c.code pc = .ok (.ireturn, 1)) (hc : cells ≤ C) (hs : slots ≤ S) (hq : Q (some (.int w)) h locs) : own_G p e below (own_K Q s C S) T (mkF m pc Ls (.int z :: rest)) := by
  subst eT hz
  exact own_end X hlk (fun q => by rw [hret] at q; cases q) hc hs (fun fs hr => retN X hx hret ht hd hr) hq
theorem own_retI (X : Stand p l e R s m args below meth c T locs cells slots) (hx : p.tables.exec = Jvm.exec) (hlk : meth.locks = false) (hret : meth.sig.returnType = some .int) {pc : Nat} {Ls : Array Slot} {z : Int32} {rest : List Value} {Q : Option Value → Heap → List Loc → Prop} {C S : Nat}
    (eT : T.heap = h) (hd : decode c.code pc = .ok (.ireturn, 1)) (hc : cells ≤ C) (hs : slots ≤ S) (hq : Q (some (.int z)) h locs) : own_G p e below (own_K Q s C S) T (mkF m pc Ls (.int z :: rest)) := by
  subst eT
  exact own_end X hlk (fun q => by rw [hret] at q; cases q) hc hs (fun fs hr => retOut X hx hret rfl (Or.inl ⟨rfl, Or.inl rfl, z, rfl⟩) hd hr) hq
theorem own_retJ (X : Stand p l e R s m args below meth c T locs cells slots) (hx : p.tables.exec = Jvm.exec) (hlk : meth.locks = false) (hret : meth.sig.returnType = some .long) {pc : Nat} {Ls : Array Slot} {z : Int64} {rest : List Value} {Q : Option Value → Heap → List Loc → Prop} {C S : Nat}
    (eT : T.heap = h) (hd : decode c.code pc = .ok (.lreturn, 1)) (hc : cells ≤ C) (hs : slots ≤ S) (hq : Q (some (.long z)) h locs) : own_G p e below (own_K Q s C S) T (mkF m pc Ls (.long z :: rest)) := by
  subst eT
  exact own_end X hlk (fun q => by rw [hret] at q; cases q) hc hs (fun fs hr => retOut X hx hret rfl (Or.inr (Or.inl ⟨rfl, rfl, z, rfl⟩)) hd hr) hq
theorem own_retV (X : Stand p l e R s m args below meth c T locs cells slots) (hx : p.tables.exec = Jvm.exec) (hlk : meth.locks = false) (hret : meth.sig.returnType = none) {pc : Nat} {Ls : Array Slot} {Q : Option Value → Heap → List Loc → Prop} {C S : Nat}
    (eT : T.heap = h) (hd : decode c.code pc = .ok (.return_, 1)) (hc : cells ≤ C) (hs : slots ≤ S) (hq : Q none h locs) : own_G p e below (own_K Q s C S) T (mkF m pc Ls []) := by
  subst eT
  exact own_end X hlk (fun _ => rfl) hc hs (fun fs hr => X.returnOut hx hret hd hr) hq
/-- a constructor's call by its contract -/
theorem own_callI {own : String} {index maxL : Nat} {y : MethodName} {bytes : ByteArray} {rm : Room} {Q : Option Value → Heap → List Loc → Prop} {argsL rest stk : List Value} {pc : Nat} {Ls : Array Slot} {a : Addr} (hy1 : y.name = "<init>")
    (X : Stand p l e R s m args below meth c T locs cells slots) (hx : p.tables.exec = Jvm.exec) (hZ : Z.Warmed39 s.vm) (hown : s.vm.findClass own = some m.cls) (hM : own_Met l Z y bytes maxL none [] rm (.ref a :: argsL).toArray h Q)
    (w1 : (Jvm.Cond.methodLink own index y).before a0 Z = true) (w2 : (Jvm.Cond.instanceMethod y).before a0 Z = true) (w3 : (Jvm.Cond.initialized y.cls).before a0 Z = true) (w4 : (Jvm.Cond.code y bytes maxL none).before a0 Z = true) (hy : y.cls ≠ "java/lang/invoke/MethodHandle" ∧ y.cls ≠ "java/lang/invoke/VarHandle")
    (eT : T.heap = h) (hsz : Ls.size = c.maxLocals) (hlen : ∀ sig, parseMethodDescriptor y.desc = some sig → argsL.length = sig.parameters.length) (hstk : stk = argsL.reverse ++ .ref a :: rest) (hd : decode c.code pc = .ok (.invokespecial index, 3))
    (hf : rm.frames + 1 ≤ R.frames) (hl : (rest.map fun v => v.category).sum + (maxL + 11) + rm.locals ≤ R.locals) (hc : cells + rm.cells ≤ R.cells) (hs : slots + rm.slots ≤ R.slots) :
    ∃ (v : Option Value) (T' : State) (L : List Loc), Stand p l e R s m args below meth c T' (locs ++ L) (cells + rm.cells) (slots + rm.slots) ∧ Q v T'.heap L ∧ ∀ t, Steps p.tables e below (T'.setTop (mkF m (pc + 3) Ls (v.toList ++ rest))) t → Steps p.tables e below (T.setTop (mkF m pc Ls stk)) t := by
  obtain ⟨v, _, ⟨T', L', k', n'⟩, -, X', ⟨L, hQ, l1, y1, z1⟩, st⟩ := X.specialBack hx (y := y) hy1 hown (mvT hZ w1) (mvT hZ w2) (mvT hZ w4) hy (backOf (Q := Q) hM hZ w4 w3 hf hl) (g := mkF m pc Ls stk) rfl hsz (Steps.refl _) (a := a) (argsL := argsL) (rest := rest) hlen hstk (by show 2 * 0 + _ ≤ _; exact Nat.le_of_eq (Nat.zero_add _)) hd (fun _ _ => ⟨rfl, eT, hc, hs⟩)
  dsimp only [Pt.U, Pt.locs, Pt.cells, Pt.slots] at X' l1 y1 z1 st hQ
  subst l1 y1 z1
  exact ⟨v, T', L, X', hQ, fun t k => st.trans k⟩
/-- an instance method's call by the contract of the body that the receiver's class selects -/
theorem own_callV {own C : String} {index maxL : Nat} {y z : MethodName} {bytes : ByteArray} {ret : Option FieldType} {rm : Room} {Q : Option Value → Heap → List Loc → Prop} {argsL rest stk : List Value} {pc : Nat} {Ls : Array Slot} {a : Addr}
    (X : Stand p l e R s m args below meth c T locs cells slots) (hx : p.tables.exec = Jvm.exec) (hZ : Z.Warmed39 s.vm) (hown : s.vm.findClass own = some m.cls) (hM : own_Met l Z z bytes maxL ret [] rm (.ref a :: argsL).toArray h Q)
    (w1 : (Jvm.Cond.methodLink own index y).before a0 Z = true) (w2 : (Jvm.Cond.declares y).before a0 Z = true) (nf : NotFace s y) (w5 : (Jvm.Cond.selects C y z).before a0 Z = true) (w6 : (Jvm.Cond.instanceMethod z).before a0 Z = true) (w3 : (Jvm.Cond.initialized z.cls).before a0 Z = true) (w4 : (Jvm.Cond.code z bytes maxL ret).before a0 Z = true) (hy : y.cls ≠ "java/lang/invoke/MethodHandle" ∧ y.cls ≠ "java/lang/invoke/VarHandle")
    (eT : T.heap = h) (E : Exa Z h a C) (hsz : Ls.size = c.maxLocals) (hlen : ∀ sig, parseMethodDescriptor y.desc = some sig → argsL.length = sig.parameters.length) (hstk : stk = argsL.reverse ++ .ref a :: rest) (hd : decode c.code pc = .ok (.invokevirtual index, 3))
    (hf : rm.frames + 1 ≤ R.frames) (hl : (rest.map fun v => v.category).sum + (maxL + 11) + rm.locals ≤ R.locals) (hc : cells + rm.cells ≤ R.cells) (hs : slots + rm.slots ≤ R.slots) :
    ∃ (v : Option Value) (T' : State) (L : List Loc), Stand p l e R s m args below meth c T' (locs ++ L) (cells + rm.cells) (slots + rm.slots) ∧ Q v T'.heap L ∧ ∀ t, Steps p.tables e below (T'.setTop (mkF m (pc + 3) Ls (v.toList ++ rest))) t → Steps p.tables e below (T.setTop (mkF m pc Ls stk)) t := by
  obtain ⟨cB, kB, q1, q2, q3⟩ := isOf hZ eT E
  obtain ⟨v, _, ⟨T', L', k', n'⟩, -, X', ⟨L, hQ, l1, y1, z1⟩, st⟩ := X.virtualBack hx (y := y) (z := z) hown (mvT hZ w1) (mvT hZ w2) nf (mvT hZ w5) (mvT hZ w6) hy (backOf (Q := Q) hM hZ w4 w3 hf hl) q1 q3 (g := mkF m pc Ls stk) rfl hsz (Steps.refl _) (argsL := argsL) (rest := rest) hlen hstk (by show 2 * 0 + _ ≤ _; exact Nat.le_of_eq (Nat.zero_add _)) hd (fun _ _ => ⟨rfl, eT, hc, hs⟩)
  dsimp only [Pt.U, Pt.locs, Pt.cells, Pt.slots] at X' l1 y1 z1 st hQ
  subst l1 y1 z1
  exact ⟨v, T', L, X', hQ, fun t k => st.trans k⟩
/-! arrays by Arv -/
theorem own_alen {a : Addr} {k : ClassId} {ty : FieldType} {n : Int32} {vs : List Value} {dv : Value} (X : Stand p l e R s m args below meth c T locs cells slots) (hx : p.tables.exec = Jvm.exec) (hZ : Z.Warmed39 s.vm) (eT : T.heap = h) (V : Arv Z h a k ty n vs dv) {pc : Nat} {Ls : Array Slot} {rest : List Value} (hd : decode c.code pc = .ok (.arraylength, 1)) :
    ∀ t, Steps p.tables e below (T.setTop (mkF m (pc + 1) Ls (.int n :: rest))) t → Steps p.tables e below (T.setTop (mkF m pc Ls (.ref a :: rest))) t := fun t kt => by
  obtain ⟨cl, A, -, S, q, -, -⟩ := V
  refine X.arraylength hx (by rw [eT]; exact A.1) (State.isArrayOf_alike hZ.alike A.2.1) (g := mkF m pc Ls (.ref a :: rest)) rfl rfl hd _ ?_
  rw [len_of S q]
  exact kt
theorem own_open {a : Addr} {k : ClassId} {ty : FieldType} {n j : Int32} {vs : List Value} {dv v : Value} (V : Arv Z h a k ty n vs dv) (hj : ¬ j < 0 ∧ j < n) (hv : vs.getD j.toNatClampNeg dv = v) : ∃ cl : Cell, Arr Z h a cl ty ∧ ¬ (j < 0 ∨ cl.slots.size ≤ j.toNatClampNeg) ∧ cl.slots[j.toNatClampNeg]? = some v ∧ fits ty v = true := by
  obtain ⟨cl, A, -, S, q, H, G⟩ := V
  have hi := inb_of S hj
  have hlt : j.toNatClampNeg < cl.slots.size := Nat.lt_of_not_le fun x => hi (Or.inr x)
  exact ⟨cl, A, hi, by rw [H _ hlt, hv], by rw [← hv]; exact G _ hlt⟩
theorem own_laload {a : Addr} {k : ClassId} {n j : Int32} {vs : List Value} {dv v : Value} (X : Stand p l e R s m args below meth c T locs cells slots) (hx : p.tables.exec = Jvm.exec) (hZ : Z.Warmed39 s.vm) (eT : T.heap = h) (V : Arv Z h a k .long n vs dv) (hj : ¬ j < 0 ∧ j < n) (hv : vs.getD j.toNatClampNeg dv = v) {pc : Nat} {Ls : Array Slot} {rest : List Value} (hd : decode c.code pc = .ok (.laload, 1)) :
    ∀ t, Steps p.tables e below (T.setTop (mkF m (pc + 1) Ls (v :: rest))) t → Steps p.tables e below (T.setTop (mkF m pc Ls (.int j :: .ref a :: rest))) t := fun t kt => by
  obtain ⟨cl, A, hi, hat, -⟩ := own_open V hj hv
  exact X.laload hx (by rw [eT]; exact A.1) (State.isArrayOf_alike hZ.alike A.2.1) A.2.2 hi hat (g := mkF m pc Ls (.int j :: .ref a :: rest)) rfl rfl hd _ kt
theorem own_aaload {a : Addr} {k : ClassId} {ty : FieldType} {n j : Int32} {vs : List Value} {dv v : Value} (X : Stand p l e R s m args below meth c T locs cells slots) (hx : p.tables.exec = Jvm.exec) (hZ : Z.Warmed39 s.vm) (eT : T.heap = h) (V : Arv Z h a k ty n vs dv) (hty : ty.isReference = true) (hj : ¬ j < 0 ∧ j < n) (hv : vs.getD j.toNatClampNeg dv = v) {pc : Nat} {Ls : Array Slot} {rest : List Value} (hd : decode c.code pc = .ok (.aaload, 1)) :
    ∀ t, Steps p.tables e below (T.setTop (mkF m (pc + 1) Ls (v :: rest))) t → Steps p.tables e below (T.setTop (mkF m pc Ls (.int j :: .ref a :: rest))) t := fun t kt => by
  obtain ⟨cl, A, hi, hat, -⟩ := own_open V hj hv
  exact X.aaload hx (by rw [eT]; exact A.1) (State.isArrayOf_alike hZ.alike A.2.1) hty A.2.2 hi hat (g := mkF m pc Ls (.int j :: .ref a :: rest)) rfl rfl hd _ kt
theorem own_lastore {a : Addr} {k : ClassId} {n j : Int32} {x : Int64} {vs : List Value} {dv : Value} (X : Stand p l e R s m args below meth c T locs cells slots) (hx : p.tables.exec = Jvm.exec) (hZ : Z.Warmed39 s.vm) (eT : T.heap = h) (V : Arv Z h a k .long n vs dv) (hj : ¬ j < 0 ∧ j < n) (i : Nat) (hi : j.toNatClampNeg = i) (hl : i < vs.length) {pc : Nat} {Ls : Array Slot} {rest : List Value} (hd : decode c.code pc = .ok (.lastore, 1)) :
    ∃ T' h', Stand p l e R s m args below meth c T' (locs ++ [⟨a, j.toNatClampNeg⟩]) cells slots ∧ T'.heap = h' ∧ Wr h h' a j.toNatClampNeg (.long x) ∧ Arv Z h' a k .long n (vs.set i (.long x)) dv ∧ ∀ t, Steps p.tables e below (T'.setTop (mkF m (pc + 1) Ls rest)) t → Steps p.tables e below (T.setTop (mkF m pc Ls (.long x :: .int j :: .ref a :: rest))) t := by
  obtain ⟨cl, A, q1, S, q, H, G⟩ := V
  obtain ⟨T', h', X', e', W, st⟩ := stJ X hx hZ eT A (j := j) (x := x) (inb_of S hj) (g := mkF m pc Ls (.long x :: .int j :: .ref a :: rest)) rfl rfl hd
  exact ⟨T', h', X', e', W, Arv.set A q1 S q H G rfl W i hi hl, st⟩
/-- newarray of a primitive kind; the class found by its name is said too -/
theorem own_newP (X : Stand p l e R s m args below meth c T locs cells slots) (hx : p.tables.exec = Jvm.exec) (hZ : Z.Warmed39 s.vm) {aty : ArrayType} {nm : String} (hnm : "[" ++ (newarray.typeOf aty).toString = nm) (w : (Jvm.Cond.arrayClass (newarray.typeOf aty)).before a0 Z = true) (eT : T.heap = h) {pc : Nat} {Ls : Array Slot} (hd : decode c.code pc = .ok (.newarray aty, 2)) {n : Int32} {rest : List Value}
    (hn : ¬ n < 0) {cap : Nat} (hcap : n.toNatClampNeg ≤ cap) (hb : cap * 8 ≤ 536870912) (hc : cells + 1 ≤ R.cells) (hl : slots + cap ≤ R.slots) :
    ∃ T' h' cA, Stand p l e R s m args below meth c T' locs (cells + 1) (slots + cap) ∧ T'.heap = h' ∧ Ext h h' ∧ Arr Z h' h.size (newA cA (newarray.typeOf aty) n) (newarray.typeOf aty) ∧ Exa Z h' h.size nm ∧
      ∀ t, Steps p.tables e below (T'.setTop (mkF m (pc + 2) Ls (.ref h.size :: rest))) t → Steps p.tables e below (T.setTop (mkF m pc Ls (.int n :: rest))) t := by
  have hcb : componentBytes (newarray.typeOf aty) ≤ 8 := by cases aty <;> decide
  obtain ⟨cA, kA, comp, f1, f2, f3, X', st⟩ := X.newarrayPrim hx (mvA hZ w) (g := mkF m pc Ls (.int n :: rest)) rfl hd rfl hn (Nat.le_trans (Nat.mul_le_mul hcap hcb) hb) hc (by omega)
  subst eT hnm
  have fZ : Z.vm.findClass ("[" ++ (newarray.typeOf aty).toString) = some cA := by rw [← hZ.alike.findClass]; exact f1
  obtain ⟨kZ, z1, -⟩ := Vm.findClass_spec fZ
  obtain ⟨k', z2, z3⟩ := hZ.alike.2.2 _ _ z1
  cases f2.symm.trans z2
  have kk : kZ.kind = .array comp (newarray.typeOf aty) := by rw [← f3, z3]
  have at' : (T.heap.push (newA cA (newarray.typeOf aty) n))[T.heap.size]? = some (newA cA (newarray.typeOf aty) n) := by simp
  refine ⟨_, T.heap.push (newA cA (newarray.typeOf aty) n), cA, X'.more (Nat.le_refl _) (by omega), rfl, ⟨by simp, fun a cc q => ?_⟩, ⟨at', ⟨by simp [newA], kZ, z1, comp, kk⟩, by simp [newA]⟩, ⟨_, kZ, at', fZ, z1, rfl, fun q => ?_⟩, st⟩
  · rw [Array.getElem?_push_lt (Array.getElem?_eq_some_iff.mp q).1]; exact (Array.getElem?_eq_getElem _).symm.trans q
  · rw [kk] at q; cases q
theorem own_pop2L {tb : Tables} [Ours tb] {target : State} {g : JFrame} (h : At T m c below) (hx : tb.exec = Jvm.exec) (hg : g.method = m) {v : Int64} {rest : List Value} (hd : decode c.code g.pc = .ok (.pop2, 1)) (hs : g.stack = .long v :: rest)
    (hr : Steps tb e below (T.setTop { g with pc := g.pc + 1, stack := rest }) target) : Steps tb e below (T.setTop g) target := by
  subst hg
  jvm_step h [h.top, hx, hd, hs, Value.category]
  exact hr
theorem own_aastoreA {a y : Addr} {k : ClassId} {ty : FieldType} {C : String} {n j : Int32} {vs : List Value} {dv : Value} (X : Stand p l e R s m args below meth c T locs cells slots) (hx : p.tables.exec = Jvm.exec) (hZ : Z.Warmed39 s.vm) (eT : T.heap = h) (V : Arv Z h a k (.array ty) n vs dv) (O : OvrA Z k ty C) (I : Ins Z h y C true) (hj : ¬ j < 0 ∧ j < n) (i : Nat) (hi : j.toNatClampNeg = i) (hl : i < vs.length) {pc : Nat} {Ls : Array Slot} {rest : List Value} (hd : decode c.code pc = .ok (.aastore, 1)) :
    ∃ T' h', Stand p l e R s m args below meth c T' (locs ++ [⟨a, j.toNatClampNeg⟩]) cells slots ∧ T'.heap = h' ∧ Wr h h' a j.toNatClampNeg (.ref y) ∧ Arv Z h' a k (.array ty) n (vs.set i (.ref y)) dv ∧ ∀ t, Steps p.tables e below (T'.setTop (mkF m (pc + 1) Ls rest)) t → Steps p.tables e below (T.setTop (mkF m pc Ls (.ref y :: .int j :: .ref a :: rest))) t := by
  obtain ⟨cl, A, q1, S, q, H, G⟩ := V
  obtain ⟨T', h', X', e', W, st⟩ := stR X hx hZ eT A (j := j) (v := .ref y) (inb_of S hj) rfl (Sto.ofVA A q1 O I) (g := mkF m pc Ls (.ref y :: .int j :: .ref a :: rest)) rfl rfl hd
  exact ⟨T', h', X', e', W, Arv.set A q1 S q H G rfl W i hi hl, st⟩
end OwnKit
section OwnSteps
variable {p : Program} {l : Launch} {e : Env} {R : Room} {s : State} {m : MethodId} {args : Array Value} {below : List Frame} {meth : Method} {c : Code} {T : State} {locs : List Loc} {cells slots : Nat} {Z : State} {a0 : Array Value} {h0 : Heap}
theorem own_iloadN {K : Outcome → State → Prop} {pc n : Nat} {Ls : Array Slot} {S : List Value} (X : Stand p l e R s m args below meth c T locs cells slots) (hx : p.tables.exec = Jvm.exec) {k : Fin 4} {v : Int32} (hd : decode c.code pc = .ok (.iload_n k, 1)) (hl : Ls[k.val]? = some (.val (.int v))) (hn : pc + 1 = n)
    (h : own_G p e below K T (mkF m n Ls (.int v :: S))) : own_G p e below K T (mkF m pc Ls S) := by
  subst hn
  exact own_go (fun t k => XS.iloadN X.here hx rfl hd hl k) h
theorem own_iload {K : Outcome → State → Prop} {pc n : Nat} {Ls : Array Slot} {S : List Value} (X : Stand p l e R s m args below meth c T locs cells slots) (hx : p.tables.exec = Jvm.exec) {k : Nat} {v : Int32} (hd : decode c.code pc = .ok (.iload k, 2)) (hl : Ls[k]? = some (.val (.int v))) (hn : pc + 2 = n)
    (h : own_G p e below K T (mkF m n Ls (.int v :: S))) : own_G p e below K T (mkF m pc Ls S) := by
  subst hn
  exact own_go (fun t k => XS.iload X.here hx rfl hd hl k) h
theorem own_lloadN {K : Outcome → State → Prop} {pc n : Nat} {Ls : Array Slot} {S : List Value} (X : Stand p l e R s m args below meth c T locs cells slots) (hx : p.tables.exec = Jvm.exec) {k : Fin 4} {v : Int64} (hd : decode c.code pc = .ok (.lload_n k, 1)) (hl : Ls[k.val]? = some (.val (.long v))) (hn : pc + 1 = n)
    (h : own_G p e below K T (mkF m n Ls (.long v :: S))) : own_G p e below K T (mkF m pc Ls S) := by
  subst hn
  exact own_go (fun t k => XS.lloadN X.here hx rfl hd hl k) h
theorem own_lload {K : Outcome → State → Prop} {pc n : Nat} {Ls : Array Slot} {S : List Value} (X : Stand p l e R s m args below meth c T locs cells slots) (hx : p.tables.exec = Jvm.exec) {k : Nat} {v : Int64} (hd : decode c.code pc = .ok (.lload k, 2)) (hl : Ls[k]? = some (.val (.long v))) (hn : pc + 2 = n)
    (h : own_G p e below K T (mkF m n Ls (.long v :: S))) : own_G p e below K T (mkF m pc Ls S) := by
  subst hn
  exact own_go (fun t k => XS.lload X.here hx rfl hd hl k) h
theorem own_aloadN {K : Outcome → State → Prop} {pc n : Nat} {Ls : Array Slot} {S : List Value} (X : Stand p l e R s m args below meth c T locs cells slots) (hx : p.tables.exec = Jvm.exec) {k : Fin 4} {v : Value} (hd : decode c.code pc = .ok (.aload_n k, 1)) (hl : Ls[k.val]? = some (.val v)) (hv : v.isRef = true) (hn : pc + 1 = n)
    (h : own_G p e below K T (mkF m n Ls (v :: S))) : own_G p e below K T (mkF m pc Ls S) := by
  subst hn
  exact own_go (fun t k => XS.aloadN X.here hx rfl hd hl hv k) h
theorem own_aload {K : Outcome → State → Prop} {pc n : Nat} {Ls : Array Slot} {S : List Value} (X : Stand p l e R s m args below meth c T locs cells slots) (hx : p.tables.exec = Jvm.exec) {k : Nat} {v : Value} (hd : decode c.code pc = .ok (.aload k, 2)) (hl : Ls[k]? = some (.val v)) (hv : v.isRef = true) (hn : pc + 2 = n)
    (h : own_G p e below K T (mkF m n Ls (v :: S))) : own_G p e below K T (mkF m pc Ls S) := by
  subst hn
  exact own_go (fun t k => XS.aload X.here hx rfl hd hl hv k) h
theorem own_istoreN {K : Outcome → State → Prop} {pc n : Nat} {Ls : Array Slot} {S : List Value} (X : Stand p l e R s m args below meth c T locs cells slots) (hx : p.tables.exec = Jvm.exec) {k : Fin 4} {v : Int32} {l' : Array Slot} (hd : decode c.code pc = .ok (.istore_n k, 1)) (hl : storeLocals Ls k.val (.int v) = some l') (hn : pc + 1 = n)
    (h : own_G p e below K T (mkF m n l' S)) : own_G p e below K T (mkF m pc Ls (.int v :: S)) := by
  subst hn
  exact own_go (fun t k => XS.istoreN X.here hx rfl hd rfl hl k) h
theorem own_istore {K : Outcome → State → Prop} {pc n : Nat} {Ls : Array Slot} {S : List Value} (X : Stand p l e R s m args below meth c T locs cells slots) (hx : p.tables.exec = Jvm.exec) {k : Nat} {v : Int32} {l' : Array Slot} (hd : decode c.code pc = .ok (.istore k, 2)) (hl : storeLocals Ls k (.int v) = some l') (hn : pc + 2 = n)
    (h : own_G p e below K T (mkF m n l' S)) : own_G p e below K T (mkF m pc Ls (.int v :: S)) := by
  subst hn
  exact own_go (fun t k => XS.istore X.here hx rfl hd rfl hl k) h
theorem own_astore {K : Outcome → State → Prop} {pc n : Nat} {Ls : Array Slot} {S : List Value} (X : Stand p l e R s m args below meth c T locs cells slots) (hx : p.tables.exec = Jvm.exec) {k : Nat} {v : Value} {l' : Array Slot} (hd : decode c.code pc = .ok (.astore k, 2)) (hv : v.isRef = true) (hl : storeLocals Ls k v = some l') (hn : pc + 2 = n)
    (h : own_G p e below K T (mkF m n l' S)) : own_G p e below K T (mkF m pc Ls (v :: S)) := by
  subst hn
  exact own_go (fun t k => XS.astore X.here hx rfl hd rfl hv hl k) h
theorem own_iconst {K : Outcome → State → Prop} {pc n : Nat} {Ls : Array Slot} {S : List Value} (X : Stand p l e R s m args below meth c T locs cells slots) (hx : p.tables.exec = Jvm.exec) {i : Int} {z : Int32} (hd : decode c.code pc = .ok (.iconst i, 1)) (hz : Int32.ofInt i = z) (hn : pc + 1 = n)
    (h : own_G p e below K T (mkF m n Ls (.int z :: S))) : own_G p e below K T (mkF m pc Ls S) := by
  subst hz hn
  exact own_go (fun t k => XS.iconst X.here hx rfl hd k) h
theorem own_bipush {K : Outcome → State → Prop} {pc n : Nat} {Ls : Array Slot} {S : List Value} (X : Stand p l e R s m args below meth c T locs cells slots) (hx : p.tables.exec = Jvm.exec) {i : Int} {z : Int32} (hd : decode c.code pc = .ok (.bipush i, 2)) (hz : (Int8.ofInt i).toInt32 = z) (hn : pc + 2 = n)
    (h : own_G p e below K T (mkF m n Ls (.int z :: S))) : own_G p e below K T (mkF m pc Ls S) := by
  subst hz hn
  exact own_go (fun t k => XS.bipush X.here hx rfl hd k) h
theorem own_sipush {K : Outcome → State → Prop} {pc n : Nat} {Ls : Array Slot} {S : List Value} (X : Stand p l e R s m args below meth c T locs cells slots) (hx : p.tables.exec = Jvm.exec) {i : Int} {z : Int32} (hd : decode c.code pc = .ok (.sipush i, 3)) (hz : (Int16.ofInt i).toInt32 = z) (hn : pc + 3 = n)
    (h : own_G p e below K T (mkF m n Ls (.int z :: S))) : own_G p e below K T (mkF m pc Ls S) := by
  subst hz hn
  exact own_go (fun t k => XS.sipush X.here hx rfl hd k) h
theorem own_iadd {K : Outcome → State → Prop} {pc n : Nat} {Ls : Array Slot} {S : List Value} (X : Stand p l e R s m args below meth c T locs cells slots) (hx : p.tables.exec = Jvm.exec) {x y z : Int32} (hd : decode c.code pc = .ok (.iadd, 1)) (hz : x + y = z) (hn : pc + 1 = n)
    (h : own_G p e below K T (mkF m n Ls (.int z :: S))) : own_G p e below K T (mkF m pc Ls (.int y :: .int x :: S)) := by
  subst hz hn
  exact own_go (fun t k => XS.iadd X.here hx rfl hd rfl k) h
theorem own_isub {K : Outcome → State → Prop} {pc n : Nat} {Ls : Array Slot} {S : List Value} (X : Stand p l e R s m args below meth c T locs cells slots) (hx : p.tables.exec = Jvm.exec) {x y z : Int32} (hd : decode c.code pc = .ok (.isub, 1)) (hz : x - y = z) (hn : pc + 1 = n)
    (h : own_G p e below K T (mkF m n Ls (.int z :: S))) : own_G p e below K T (mkF m pc Ls (.int y :: .int x :: S)) := by
  subst hz hn
  exact own_go (fun t k => XS.isub X.here hx rfl hd rfl k) h
theorem own_iand {K : Outcome → State → Prop} {pc n : Nat} {Ls : Array Slot} {S : List Value} (X : Stand p l e R s m args below meth c T locs cells slots) (hx : p.tables.exec = Jvm.exec) {x y z : Int32} (hd : decode c.code pc = .ok (.iand, 1)) (hz : x &&& y = z) (hn : pc + 1 = n)
    (h : own_G p e below K T (mkF m n Ls (.int z :: S))) : own_G p e below K T (mkF m pc Ls (.int y :: .int x :: S)) := by
  subst hz hn
  exact own_go (fun t k => XS.iand X.here hx rfl hd rfl k) h
theorem own_iushr {K : Outcome → State → Prop} {pc n : Nat} {Ls : Array Slot} {S : List Value} (X : Stand p l e R s m args below meth c T locs cells slots) (hx : p.tables.exec = Jvm.exec) {x : Int32} {y : Int32} {z : Int32} (hd : decode c.code pc = .ok (.iushr, 1)) (hz : (x.toUInt32 >>> (y &&& 31).toUInt32).toInt32 = z) (hn : pc + 1 = n)
    (h : own_G p e below K T (mkF m n Ls (.int z :: S))) : own_G p e below K T (mkF m pc Ls (.int y :: .int x :: S)) := by
  subst hz hn
  exact own_go (fun t k => XS.iushr X.here hx rfl hd rfl k) h
theorem own_irem {K : Outcome → State → Prop} {pc n : Nat} {Ls : Array Slot} {S : List Value} (X : Stand p l e R s m args below meth c T locs cells slots) (hx : p.tables.exec = Jvm.exec) {x y : Int32} (hd : decode c.code pc = .ok (.irem, 1)) (hy : y ≠ 0) (hn : pc + 1 = n)
    (h : own_G p e below K T (mkF m n Ls (.int (x % y) :: S))) : own_G p e below K T (mkF m pc Ls (.int y :: .int x :: S)) := by
  subst hn
  exact own_go (fun t k => iremM (g := mkF m pc Ls (.int y :: .int x :: S)) X hx rfl hd rfl hy k) h
theorem own_dup {K : Outcome → State → Prop} {pc n : Nat} {Ls : Array Slot} {S : List Value} (X : Stand p l e R s m args below meth c T locs cells slots) (hx : p.tables.exec = Jvm.exec) {v : Value} (hd : decode c.code pc = .ok (.dup, 1)) (hc : v.category = 1) (hn : pc + 1 = n)
    (h : own_G p e below K T (mkF m n Ls (v :: v :: S))) : own_G p e below K T (mkF m pc Ls (v :: S)) := by
  subst hn
  exact own_go (fun t k => XS.dup X.here hx rfl hd rfl hc k) h
theorem own_pop2 {K : Outcome → State → Prop} {pc n : Nat} {Ls : Array Slot} {S : List Value} (X : Stand p l e R s m args below meth c T locs cells slots) (hx : p.tables.exec = Jvm.exec) {v : Int64} (hd : decode c.code pc = .ok (.pop2, 1)) (hn : pc + 1 = n)
    (h : own_G p e below K T (mkF m n Ls S)) : own_G p e below K T (mkF m pc Ls (.long v :: S)) := by
  subst hn
  exact own_go (fun t k => own_pop2L X.here hx rfl hd rfl k) h
theorem own_goto {K : Outcome → State → Prop} {pc n : Nat} {Ls : Array Slot} {S : List Value} (X : Stand p l e R s m args below meth c T locs cells slots) (hx : p.tables.exec = Jvm.exec) {o : Int} (hd : decode c.code pc = .ok (.goto o, 3)) (ho : 0 ≤ (pc : Int) + o) (hp : ((pc : Int) + o).toNat = n)
    (h : own_G p e below K T (mkF m n Ls S)) : own_G p e below K T (mkF m pc Ls S) := by
  subst hp
  exact own_go (fun t k => XS.goto X.here hx rfl (pc0 := pc) rfl hd ho rfl k) h
theorem own_ifYes {K : Outcome → State → Prop} {pc n : Nat} {Ls : Array Slot} {S : List Value} (X : Stand p l e R s m args below meth c T locs cells slots) (hx : p.tables.exec = Jvm.exec) {cd : ClassFile.Cond} {x : Int32} {o : Int} (hd : decode c.code pc = .ok (.ifCond cd o, 3)) (hc : if_icmp.holds cd x 0 = true) (ho : 0 ≤ (pc : Int) + o) (hp : ((pc : Int) + o).toNat = n)
    (h : own_G p e below K T (mkF m n Ls S)) : own_G p e below K T (mkF m pc Ls (.int x :: S)) := by
  subst hp
  exact own_go (fun t k => XS.ifYes X.here hx rfl (pc0 := pc) rfl hd rfl ((if0 _ _).trans hc) ho rfl k) h
theorem own_ifNo {K : Outcome → State → Prop} {pc n : Nat} {Ls : Array Slot} {S : List Value} (X : Stand p l e R s m args below meth c T locs cells slots) (hx : p.tables.exec = Jvm.exec) {cd : ClassFile.Cond} {x : Int32} {o : Int} (hd : decode c.code pc = .ok (.ifCond cd o, 3)) (hc : if_icmp.holds cd x 0 = false) (hn : pc + 3 = n)
    (h : own_G p e below K T (mkF m n Ls S)) : own_G p e below K T (mkF m pc Ls (.int x :: S)) := by
  subst hn
  exact own_go (fun t k => XS.ifNo X.here hx rfl hd rfl ((if0 _ _).trans hc) k) h
theorem own_icmpYes {K : Outcome → State → Prop} {pc n : Nat} {Ls : Array Slot} {S : List Value} (X : Stand p l e R s m args below meth c T locs cells slots) (hx : p.tables.exec = Jvm.exec) {cd : ClassFile.Cond} {x y : Int32} {o : Int} (hd : decode c.code pc = .ok (.if_icmp cd o, 3)) (hc : if_icmp.holds cd x y = true) (ho : 0 ≤ (pc : Int) + o) (hp : ((pc : Int) + o).toNat = n)
    (h : own_G p e below K T (mkF m n Ls S)) : own_G p e below K T (mkF m pc Ls (.int y :: .int x :: S)) := by
  subst hp
  exact own_go (fun t k => XS.icmpYes X.here hx rfl (pc0 := pc) rfl hd rfl hc ho rfl k) h
theorem own_icmpNo {K : Outcome → State → Prop} {pc n : Nat} {Ls : Array Slot} {S : List Value} (X : Stand p l e R s m args below meth c T locs cells slots) (hx : p.tables.exec = Jvm.exec) {cd : ClassFile.Cond} {x y : Int32} {o : Int} (hd : decode c.code pc = .ok (.if_icmp cd o, 3)) (hc : if_icmp.holds cd x y = false) (hn : pc + 3 = n)
    (h : own_G p e below K T (mkF m n Ls S)) : own_G p e below K T (mkF m pc Ls (.int y :: .int x :: S)) := by
  subst hn
  exact own_go (fun t k => XS.icmpNo X.here hx rfl hd rfl hc k) h
theorem own_ifnonnullYes {K : Outcome → State → Prop} {pc n : Nat} {Ls : Array Slot} {S : List Value} (X : Stand p l e R s m args below meth c T locs cells slots) (hx : p.tables.exec = Jvm.exec) {a : Addr} {o : Int} (hd : decode c.code pc = .ok (.ifnonnull o, 3)) (ho : 0 ≤ (pc : Int) + o) (hp : ((pc : Int) + o).toNat = n)
    (h : own_G p e below K T (mkF m n Ls S)) : own_G p e below K T (mkF m pc Ls ((.ref a) :: S)) := by
  subst hp
  exact own_go (fun t k => XS.ifnonnullYes X.here hx rfl (pc0 := pc) rfl hd rfl ho rfl k) h
theorem own_getF {K : Outcome → State → Prop} {pc n : Nat} {Ls : Array Slot} {S : List Value} {h : Heap} (X : Stand p l e R s m args below meth c T locs cells slots) (hx : p.tables.exec = Jvm.exec) (hZ : Z.Warmed39 s.vm) {own R0 O nm d host : String} {index : Nat} (hown : s.vm.findClass own = some m.cls) (w : (Jvm.Cond.fieldLink own index R0 nm d).before a0 Z = true ∨ (Jvm.Cond.fieldLinkNest own index R0 nm d host).before a0 Z = true) (via : Via Z R0 O nm d) (eT : T.heap = h) {a : Addr} {v : Value} (F : Fld Z h a O nm d v) (hd : decode c.code pc = .ok (.getfield index, 3)) (hn : pc + 3 = n)
    (kk : ∀ T' : State, Stand p l e R s m args below meth c T' locs cells slots → T'.heap = h → own_G p e below K T' (mkF m n Ls (v :: S))) : own_G p e below K T (mkF m pc Ls (.ref a :: S)) := by
  subst hn
  obtain ⟨T', X', e', st⟩ := Jvm.RoadKit.getF X hx hZ hown w via eT F (g := mkF m pc Ls (.ref a :: S)) rfl rfl hd
  exact own_go st (kk T' X' e')
theorem own_putF {K : Outcome → State → Prop} {pc n : Nat} {Ls : Array Slot} {S : List Value} {h : Heap} (X : Stand p l e R s m args below meth c T locs cells slots) (hx : p.tables.exec = Jvm.exec) (hZ : Z.Warmed39 s.vm) {own R0 O nm d host C : String} {index kk' : Nat} {ty : FieldType} (hown : s.vm.findClass own = some m.cls) (w : (Jvm.Cond.fieldLink own index R0 nm d).before a0 Z = true ∨ (Jvm.Cond.fieldLinkNest own index R0 nm d host).before a0 Z = true) (via : Via Z R0 O nm d) (eT : T.heap = h) {a : Addr} {v old : Value} (F : Fld Z h a O nm d old) (E : Exa Z h a C) (L : (Jvm.Cond.lays C O nm d).before a0 Z = true ∨ ((Jvm.Cond.laysFinal C O nm d).before a0 Z = true ∧ own = O ∧ meth.name = "<init>")) (wi : (Jvm.Cond.instantiable C kk').before a0 Z = true) (hty : parseFieldDescriptor d = some ty) (hnr : narrow ty v = v) (hf : fits ty v = true) (hd : decode c.code pc = .ok (.putfield index, 3)) (hn : pc + 3 = n)
    (kk : ∀ (T' : State) (h' : Heap), Stand p l e R s m args below meth c T' (locs ++ [⟨a, Jvm.RoadKit.slotOf Z O nm d⟩]) cells slots → T'.heap = h' → Wr h h' a (Jvm.RoadKit.slotOf Z O nm d) v → own_G p e below K T' (mkF m n Ls S)) : own_G p e below K T (mkF m pc Ls (v :: .ref a :: S)) := by
  subst hn
  obtain ⟨T', h', X', e', W, st⟩ := Jvm.RoadKit.putF X hx hZ hown w via eT F E L wi hty hnr hf (g := mkF m pc Ls (v :: .ref a :: S)) rfl rfl hd
  exact own_go st (kk T' h' X' e' W)
theorem own_new {K : Outcome → State → Prop} {pc n : Nat} {Ls : Array Slot} {S : List Value} {h : Heap} (X : Stand p l e R s m args below meth c T locs cells slots) (hx : p.tables.exec = Jvm.exec) (hZ : Z.Warmed39 s.vm) {own C : String} {index k : Nat} (hown : s.vm.findClass own = some m.cls) (w : (Jvm.Cond.classLink own index C).before a0 Z = true) (wi : (Jvm.Cond.instantiable C k).before a0 Z = true) (wz : (Jvm.Cond.initialized C).before a0 Z = true) (eT : T.heap = h) (hd : decode c.code pc = .ok (.new index, 3)) (hc : cells + 1 ≤ R.cells) (hl : slots + k ≤ R.slots) (hn : pc + 3 = n)
    (kk : ∀ (T' : State) (h' : Heap) (b : Addr), b = h.size → Stand p l e R s m args below meth c T' locs (cells + 1) (slots + k) → T'.heap = h' → Ext h h' → Exa Z h' b C → (∀ {O nm d : String} {ty : FieldType}, Laid Z a0 C O nm d → parseFieldDescriptor d = some ty → Fld Z h' b O nm d (defaultValue ty)) → own_G p e below K T' (mkF m n Ls (.ref b :: S))) : own_G p e below K T (mkF m pc Ls S) := by
  subst hn
  obtain ⟨T', h', X', e', E, A, D, -, st⟩ := newO X hx hZ hown w wi wz eT (g := mkF m pc Ls S) rfl hd hc hl
  exact own_go st (kk T' h' _ rfl X' e' E A D)
theorem own_newA {K : Outcome → State → Prop} {pc n : Nat} {Ls : Array Slot} {S : List Value} {h : Heap} (X : Stand p l e R s m args below meth c T locs cells slots) (hx : p.tables.exec = Jvm.exec) (hZ : Z.Warmed39 s.vm) {aty : ArrayType} {nm : String} (hnm : "[" ++ (newarray.typeOf aty).toString = nm) (w : (Jvm.Cond.arrayClass (newarray.typeOf aty)).before a0 Z = true) (eT : T.heap = h) (hd : decode c.code pc = .ok (.newarray aty, 2)) {k : Int32} (hk : ¬ k < 0) {cap : Nat} (hcap : k.toNatClampNeg ≤ cap) (hb : cap * 8 ≤ 536870912) (hc : cells + 1 ≤ R.cells) (hl : slots + cap ≤ R.slots) (hn : pc + 2 = n)
    (kk : ∀ (T' : State) (h' : Heap) (cA : ClassId) (b : Addr), b = h.size → Stand p l e R s m args below meth c T' locs (cells + 1) (slots + cap) → T'.heap = h' → Ext h h' → Arr Z h' b (newA cA (newarray.typeOf aty) k) (newarray.typeOf aty) → Exa Z h' b nm → own_G p e below K T' (mkF m n Ls (.ref b :: S))) : own_G p e below K T (mkF m pc Ls (.int k :: S)) := by
  subst hn
  obtain ⟨T', h', cA, X', e', E, A, B, st⟩ := own_newP X hx hZ hnm w eT (pc := pc) (Ls := Ls) (rest := S) hd hk hcap hb hc hl
  exact own_go st (kk T' h' cA _ rfl X' e' E A B)
theorem own_newRA {K : Outcome → State → Prop} {pc n : Nat} {Ls : Array Slot} {S : List Value} {h : Heap} (X : Stand p l e R s m args below meth c T locs cells slots) (hx : p.tables.exec = Jvm.exec) (hZ : Z.Warmed39 s.vm) {own C : String} {ty : FieldType} {index : Nat} (hown : s.vm.findClass own = some m.cls) (hC : (FieldType.array ty).toString = C) (w1 : (Jvm.Cond.classLink own index C).before a0 Z = true) (w2 : (Jvm.Cond.arrayOver (.array ty)).before a0 Z = true) (eT : T.heap = h) (hd : decode c.code pc = .ok (.anewarray index, 3)) {k : Int32} (hk : ¬ k < 0) {cap : Nat} (hcap : k.toNatClampNeg ≤ cap) (hb : cap * 8 ≤ 536870912) (hc : cells + 1 ≤ R.cells) (hl : slots + cap ≤ R.slots) {ad : String} (had : "[" ++ C = ad) (hn : pc + 3 = n)
    (kk : ∀ (T' : State) (h' : Heap) (cA : ClassId) (b : Addr), b = h.size → Stand p l e R s m args below meth c T' locs (cells + 1) (slots + cap) → T'.heap = h' → Ext h h' → Arr Z h' b (newA cA (.array ty) k) (.array ty) → Exa Z h' b ad → OvrA Z cA ty C → own_G p e below K T' (mkF m n Ls (.ref b :: S))) : own_G p e below K T (mkF m pc Ls (.int k :: S)) := by
  subst hn
  obtain ⟨T', h', cA, X', e', E, A, B, O, st⟩ := Jvm.RoadKit.newRA X hx hZ hown hC w1 w2 eT (g := mkF m pc Ls (.int k :: S)) rfl hd rfl hk hcap hb hc hl had
  exact own_go st (kk T' h' cA _ rfl X' e' E A B O)
theorem own_st_lastore {K : Outcome → State → Prop} {pc n : Nat} {Ls : Array Slot} {S : List Value} {h : Heap} (X : Stand p l e R s m args below meth c T locs cells slots) (hx : p.tables.exec = Jvm.exec) (hZ : Z.Warmed39 s.vm) {a : Addr} {k : ClassId} {z j : Int32} {x : Int64} {vs : List Value} {dv : Value} (eT : T.heap = h) (V : Arv Z h a k .long z vs dv) (hj : ¬ j < 0 ∧ j < z) (i : Nat) (hi : j.toNatClampNeg = i) (hl : i < vs.length) (hd : decode c.code pc = .ok (.lastore, 1)) (hn : pc + 1 = n)
    (kk : ∀ (T' : State) (h' : Heap), Stand p l e R s m args below meth c T' (locs ++ [⟨a, j.toNatClampNeg⟩]) cells slots → T'.heap = h' → Wr h h' a j.toNatClampNeg (.long x) → Arv Z h' a k .long z (vs.set i (.long x)) dv → own_G p e below K T' (mkF m n Ls S)) : own_G p e below K T (mkF m pc Ls (.long x :: .int j :: .ref a :: S)) := by
  subst hn
  obtain ⟨T', h', X', e', W, V', st⟩ := own_lastore X hx hZ eT V hj i hi hl (pc := pc) (Ls := Ls) (rest := S) hd
  exact own_go st (kk T' h' X' e' W V')
theorem own_st_aastore {K : Outcome → State → Prop} {pc n : Nat} {Ls : Array Slot} {S : List Value} {h : Heap} (X : Stand p l e R s m args below meth c T locs cells slots) (hx : p.tables.exec = Jvm.exec) (hZ : Z.Warmed39 s.vm) {a y : Addr} {k : ClassId} {ty : FieldType} {C : String} {z j : Int32} {vs : List Value} {dv : Value} (eT : T.heap = h) (V : Arv Z h a k (.array ty) z vs dv) (O : OvrA Z k ty C) (I : Ins Z h y C true) (hj : ¬ j < 0 ∧ j < z) (i : Nat) (hi : j.toNatClampNeg = i) (hl : i < vs.length) (hd : decode c.code pc = .ok (.aastore, 1)) (hn : pc + 1 = n)
    (kk : ∀ (T' : State) (h' : Heap), Stand p l e R s m args below meth c T' (locs ++ [⟨a, j.toNatClampNeg⟩]) cells slots → T'.heap = h' → Wr h h' a j.toNatClampNeg (.ref y) → Arv Z h' a k (.array ty) z (vs.set i (.ref y)) dv → own_G p e below K T' (mkF m n Ls S)) : own_G p e below K T (mkF m pc Ls (.ref y :: .int j :: .ref a :: S)) := by
  subst hn
  obtain ⟨T', h', X', e', W, V', st⟩ := own_aastoreA X hx hZ eT V O I hj i hi hl (pc := pc) (Ls := Ls) (rest := S) hd
  exact own_go st (kk T' h' X' e' W V')
theorem own_ld_laload {K : Outcome → State → Prop} {pc n : Nat} {Ls : Array Slot} {S : List Value} {h : Heap} (X : Stand p l e R s m args below meth c T locs cells slots) (hx : p.tables.exec = Jvm.exec) (hZ : Z.Warmed39 s.vm) {a : Addr} {k : ClassId} {z j : Int32} {vs : List Value} {dv v : Value} (eT : T.heap = h) (V : Arv Z h a k .long z vs dv) (hj : ¬ j < 0 ∧ j < z) (hv : vs.getD j.toNatClampNeg dv = v) (hd : decode c.code pc = .ok (.laload, 1)) (hn : pc + 1 = n) (kk : own_G p e below K T (mkF m n Ls (v :: S))) : own_G p e below K T (mkF m pc Ls (.int j :: .ref a :: S)) := by
  subst hn
  exact own_go (own_laload X hx hZ eT V hj hv hd) kk
theorem own_ld_aaload {K : Outcome → State → Prop} {pc n : Nat} {Ls : Array Slot} {S : List Value} {h : Heap} (X : Stand p l e R s m args below meth c T locs cells slots) (hx : p.tables.exec = Jvm.exec) (hZ : Z.Warmed39 s.vm) {a : Addr} {k : ClassId} {ty : FieldType} {z j : Int32} {vs : List Value} {dv v : Value} (eT : T.heap = h) (V : Arv Z h a k ty z vs dv) (hty : ty.isReference = true) (hj : ¬ j < 0 ∧ j < z) (hv : vs.getD j.toNatClampNeg dv = v) (hd : decode c.code pc = .ok (.aaload, 1)) (hn : pc + 1 = n) (kk : own_G p e below K T (mkF m n Ls (v :: S))) : own_G p e below K T (mkF m pc Ls (.int j :: .ref a :: S)) := by
  subst hn
  exact own_go (own_aaload X hx hZ eT V hty hj hv hd) kk
theorem own_len {K : Outcome → State → Prop} {pc n : Nat} {Ls : Array Slot} {S : List Value} {h : Heap} (X : Stand p l e R s m args below meth c T locs cells slots) (hx : p.tables.exec = Jvm.exec) (hZ : Z.Warmed39 s.vm) {a : Addr} {k : ClassId} {ty : FieldType} {z : Int32} {vs : List Value} {dv : Value} (eT : T.heap = h) (V : Arv Z h a k ty z vs dv) (hd : decode c.code pc = .ok (.arraylength, 1)) (hn : pc + 1 = n) (kk : own_G p e below K T (mkF m n Ls (.int z :: S))) : own_G p e below K T (mkF m pc Ls (.ref a :: S)) := by
  subst hn
  exact own_go (own_alen X hx hZ eT V hd) kk
theorem own_ldc {K : Outcome → State → Prop} {pc n : Nat} {Ls : Array Slot} {S : List Value} (X : Stand p l e R s m args below meth c T locs cells slots) (hx : p.tables.exec = Jvm.exec) (hZ : Z.Warmed39 s.vm) {own : String} {index : Nat} {v : Int32} (hown : s.vm.findClass own = some m.cls) (w : (Jvm.Cond.constant own index v).before a0 Z = true) (hd : decode c.code pc = .ok (.ldc index, 2)) (hn : pc + 2 = n) (kk : own_G p e below K T (mkF m n Ls (.int v :: S))) : own_G p e below K T (mkF m pc Ls S) := by
  subst hn
  exact own_go (fun t k => X.ldcInt hx hown (mvT hZ w) (g := mkF m pc Ls S) rfl hd t k) kk
theorem own_initO {K : Outcome → State → Prop} {pc n : Nat} {Ls : Array Slot} {S : List Value} {h : Heap} (X : Stand p l e R s m args below meth c T locs cells slots) (hx : p.tables.exec = Jvm.exec) (hZ : Z.Warmed39 s.vm) {own : String} {index : Nat} (hown : s.vm.findClass own = some m.cls) (w1 : (Jvm.Cond.methodLink own index Lib.objectInit).before a0 Z = true) (w2 : (Jvm.Cond.instanceMethod Lib.objectInit).before a0 Z = true) (w3 : (Jvm.Cond.code Lib.objectInit ⟨#[0xb1]⟩ 1 none).before a0 Z = true) (eT : T.heap = h) (hsz : Ls.size = c.maxLocals) {a : Addr} (hd : decode c.code pc = .ok (.invokespecial index, 3)) (hf : 1 ≤ R.frames) (hl : (S.map fun v => v.category).sum + 12 ≤ R.locals) (hn : pc + 3 = n)
    (kk : ∀ T' : State, Stand p l e R s m args below meth c T' locs cells slots → T'.heap = h → own_G p e below K T' (mkF m n Ls (S))) : own_G p e below K T (mkF m pc Ls (.ref a :: S)) := by
  subst hn
  obtain ⟨T', X', e', st⟩ := Jvm.RoadKit.initO X hx hZ hown w1 w2 w3 eT (g := mkF m pc Ls (.ref a :: S)) rfl hsz rfl hd hf (W := (S.map fun v => v.category).sum) (by show 2 * 0 + _ ≤ _; exact Nat.le_of_eq (Nat.zero_add _)) hl
  exact own_go st (kk T' X' e')
theorem own_I {K : Outcome → State → Prop} {pc n : Nat} {Ls : Array Slot} {h : Heap} {own : String} {index maxL : Nat} {y : MethodName} {bytes : ByteArray} {rm : Room} {Q : Option Value → Heap → List Loc → Prop} {argsL rest stk : List Value} {a : Addr} (hy1 : y.name = "<init>") (X : Stand p l e R s m args below meth c T locs cells slots) (hx : p.tables.exec = Jvm.exec) (hZ : Z.Warmed39 s.vm) (hown : s.vm.findClass own = some m.cls) (hM : own_Met l Z y bytes maxL none [] rm (.ref a :: argsL).toArray h Q) (w1 : (Jvm.Cond.methodLink own index y).before a0 Z = true) (w2 : (Jvm.Cond.instanceMethod y).before a0 Z = true) (w3 : (Jvm.Cond.initialized y.cls).before a0 Z = true) (w4 : (Jvm.Cond.code y bytes maxL none).before a0 Z = true) (hy : y.cls ≠ "java/lang/invoke/MethodHandle" ∧ y.cls ≠ "java/lang/invoke/VarHandle") (eT : T.heap = h) (hsz : Ls.size = c.maxLocals) (hlen : ∀ sig, parseMethodDescriptor y.desc = some sig → argsL.length = sig.parameters.length) (hstk : stk = argsL.reverse ++ .ref a :: rest) (hd : decode c.code pc = .ok (.invokespecial index, 3)) (hf : rm.frames + 1 ≤ R.frames) (hl : (rest.map fun v => v.category).sum + (maxL + 11) + rm.locals ≤ R.locals) (hc : cells + rm.cells ≤ R.cells) (hs : slots + rm.slots ≤ R.slots) (hn : pc + 3 = n)
    (kk : ∀ (v : Option Value) (T' : State) (L : List Loc), Stand p l e R s m args below meth c T' (locs ++ L) (cells + rm.cells) (slots + rm.slots) → Q v T'.heap L → own_G p e below K T' (mkF m n Ls (v.toList ++ rest))) : own_G p e below K T (mkF m pc Ls stk) := by
  subst hn
  obtain ⟨v, T', L, X', hQ, st⟩ := own_callI hy1 X hx hZ hown hM w1 w2 w3 w4 hy eT hsz hlen hstk hd hf hl hc hs
  exact own_go st (kk v T' L X' hQ)
theorem own_V {K : Outcome → State → Prop} {pc n : Nat} {Ls : Array Slot} {h : Heap} {own : String} {index maxL : Nat} {y : MethodName} {bytes : ByteArray} {rm : Room} {Q : Option Value → Heap → List Loc → Prop} {argsL rest stk : List Value} {ret : Option FieldType} {C : String} {z : MethodName} {a : Addr} (X : Stand p l e R s m args below meth c T locs cells slots) (hx : p.tables.exec = Jvm.exec) (hZ : Z.Warmed39 s.vm) (hown : s.vm.findClass own = some m.cls) (hM : own_Met l Z z bytes maxL ret [] rm (.ref a :: argsL).toArray h Q) (w1 : (Jvm.Cond.methodLink own index y).before a0 Z = true) (w2 : (Jvm.Cond.declares y).before a0 Z = true) (nf : NotFace s y) (w5 : (Jvm.Cond.selects C y z).before a0 Z = true) (w6 : (Jvm.Cond.instanceMethod z).before a0 Z = true) (w3 : (Jvm.Cond.initialized z.cls).before a0 Z = true) (w4 : (Jvm.Cond.code z bytes maxL ret).before a0 Z = true) (hy : y.cls ≠ "java/lang/invoke/MethodHandle" ∧ y.cls ≠ "java/lang/invoke/VarHandle") (eT : T.heap = h) (E : Exa Z h a C) (hsz : Ls.size = c.maxLocals) (hlen : ∀ sig, parseMethodDescriptor y.desc = some sig → argsL.length = sig.parameters.length) (hstk : stk = argsL.reverse ++ .ref a :: rest) (hd : decode c.code pc = .ok (.invokevirtual index, 3)) (hf : rm.frames + 1 ≤ R.frames) (hl : (rest.map fun v => v.category).sum + (maxL + 11) + rm.locals ≤ R.locals) (hc : cells + rm.cells ≤ R.cells) (hs : slots + rm.slots ≤ R.slots) (hn : pc + 3 = n)
    (kk : ∀ (v : Option Value) (T' : State) (L : List Loc), Stand p l e R s m args below meth c T' (locs ++ L) (cells + rm.cells) (slots + rm.slots) → Q v T'.heap L → own_G p e below K T' (mkF m n Ls (v.toList ++ rest))) : own_G p e below K T (mkF m pc Ls stk) := by
  subst hn
  obtain ⟨v, T', L, X', hQ, st⟩ := own_callV X hx hZ hown hM w1 w2 nf w5 w6 w3 w4 hy eT E hsz hlen hstk hd hf hl hc hs
  exact own_go st (kk v T' L X' hQ)
end OwnSteps

theorem own_an_int : "[" ++ (newarray.typeOf .int).toString = "[I" := by decide +kernel
theorem own_an_long : "[" ++ (newarray.typeOf .long).toString = "[J" := by decide +kernel
theorem own_an_byte : "[" ++ (newarray.typeOf .byte).toString = "[B" := by decide +kernel
theorem own_an_char : "[" ++ (newarray.typeOf .char).toString = "[C" := by decide +kernel
theorem own_an_J : (FieldType.array .long).toString = "[J" := by decide +kernel
theorem own_an_JJ : "[" ++ "[J" = "[[J" := by decide +kernel
theorem own_ne {b z : Addr} {h : Heap} (hb : b < h.size) (g : z = h.size) : b ≠ z := Nat.ne_of_lt (Nat.lt_of_lt_of_le hb (Nat.le_of_eq g.symm))
theorem own_neEA {Z : State} {h : Heap} {a b : Addr} {C : String} {a0 : Array Value} {kk : Nat} {k : ClassId} {ty : FieldType} {n : Int32} {vs : List Value} {dv : Value} (E : Exa Z h a C) (w : (Jvm.Cond.instantiable C kk).before a0 Z = true) (V : Arv Z h b k ty n vs dv) : a ≠ b := by
  obtain ⟨c, A, -⟩ := V
  exact ne_arr E w A
theorem ww0 {Z : State} {a0 : Array Value} (hw : ∀ d ∈ tables_1, d.before a0 Z = true) : (Jvm.Cond.classLink "com/example/preorders_from_tests/preordersfromtests/lts/LongListIsEmptyPinLaw" (7 : Nat) "com/example/preorders_from_tests/preordersfromtests/lts/LongList").before a0 Z = true := hw _ (List.mem_of_getElem? (i := 0) rfl)
theorem ww1 {Z : State} {a0 : Array Value} (hw : ∀ d ∈ tables_1, d.before a0 Z = true) : (Jvm.Cond.instantiable "com/example/preorders_from_tests/preordersfromtests/lts/LongList" (2 : Nat)).before a0 Z = true := hw _ (List.mem_of_getElem? (i := 1) rfl)
theorem ww2 {Z : State} {a0 : Array Value} (hw : ∀ d ∈ tables_1, d.before a0 Z = true) : (Jvm.Cond.initialized "com/example/preorders_from_tests/preordersfromtests/lts/LongList").before a0 Z = true := hw _ (List.mem_of_getElem? (i := 2) rfl)
theorem ww3 {Z : State} {a0 : Array Value} (hw : ∀ d ∈ tables_1, d.before a0 Z = true) : (Jvm.Cond.methodLink "com/example/preorders_from_tests/preordersfromtests/lts/LongListIsEmptyPinLaw" (9 : Nat) ({ cls := "com/example/preorders_from_tests/preordersfromtests/lts/LongList", name := "<init>", desc := "()V" } : Jvm.MethodName)).before a0 Z = true := hw _ (List.mem_of_getElem? (i := 3) rfl)
theorem ww4 {Z : State} {a0 : Array Value} (hw : ∀ d ∈ tables_1, d.before a0 Z = true) : (Jvm.Cond.instanceMethod ({ cls := "com/example/preorders_from_tests/preordersfromtests/lts/LongList", name := "<init>", desc := "()V" } : Jvm.MethodName)).before a0 Z = true := hw _ (List.mem_of_getElem? (i := 4) rfl)
theorem ww5 {Z : State} {a0 : Array Value} (hw : ∀ d ∈ tables_1, d.before a0 Z = true) : (Jvm.Cond.code ({ cls := "com/example/preorders_from_tests/preordersfromtests/lts/LongList", name := "<init>", desc := "()V" } : Jvm.MethodName) prog_31_method_1_code (1 : Nat) (Option.none : Option Jvm.ClassFile.FieldType)).before a0 Z = true := hw _ (List.mem_of_getElem? (i := 5) rfl)
theorem ww6 {Z : State} {a0 : Array Value} (hw : ∀ d ∈ tables_1, d.before a0 Z = true) : (Jvm.Cond.methodLink "com/example/preorders_from_tests/preordersfromtests/lts/LongList" (3 : Nat) ({ cls := "java/lang/Object", name := "<init>", desc := "()V" } : Jvm.MethodName)).before a0 Z = true := hw _ (List.mem_of_getElem? (i := 6) rfl)
theorem ww7 {Z : State} {a0 : Array Value} (hw : ∀ d ∈ tables_1, d.before a0 Z = true) : (Jvm.Cond.instanceMethod ({ cls := "java/lang/Object", name := "<init>", desc := "()V" } : Jvm.MethodName)).before a0 Z = true := hw _ (List.mem_of_getElem? (i := 7) rfl)
theorem ww8 {Z : State} {a0 : Array Value} (hw : ∀ d ∈ tables_1, d.before a0 Z = true) : (Jvm.Cond.code ({ cls := "java/lang/Object", name := "<init>", desc := "()V" } : Jvm.MethodName) object_method_1_code (1 : Nat) (Option.none : Option Jvm.ClassFile.FieldType)).before a0 Z = true := hw _ (List.mem_of_getElem? (i := 8) rfl)
theorem ww9 {Z : State} {a0 : Array Value} (hw : ∀ d ∈ tables_1, d.before a0 Z = true) : (Jvm.Cond.classLink "com/example/preorders_from_tests/preordersfromtests/lts/LongList" (9 : Nat) "[J").before a0 Z = true := hw _ (List.mem_of_getElem? (i := 9) rfl)
theorem ww10 {Z : State} {a0 : Array Value} (hw : ∀ d ∈ tables_1, d.before a0 Z = true) : (Jvm.Cond.arrayOver (Jvm.ClassFile.FieldType.array Jvm.ClassFile.FieldType.long)).before a0 Z = true := hw _ (List.mem_of_getElem? (i := 10) rfl)
theorem ww11 {Z : State} {a0 : Array Value} (hw : ∀ d ∈ tables_1, d.before a0 Z = true) : (Jvm.Cond.arrayClass Jvm.ClassFile.FieldType.long).before a0 Z = true := hw _ (List.mem_of_getElem? (i := 11) rfl)
theorem ww13 {Z : State} {a0 : Array Value} (hw : ∀ d ∈ tables_1, d.before a0 Z = true) : (Jvm.Cond.fieldLink "com/example/preorders_from_tests/preordersfromtests/lts/LongList" (11 : Nat) "com/example/preorders_from_tests/preordersfromtests/lts/LongList" "chunks" "[[J").before a0 Z = true := hw _ (List.mem_of_getElem? (i := 13) rfl)
theorem ww14 {Z : State} {a0 : Array Value} (hw : ∀ d ∈ tables_1, d.before a0 Z = true) : (Jvm.Cond.lays "com/example/preorders_from_tests/preordersfromtests/lts/LongList" "com/example/preorders_from_tests/preordersfromtests/lts/LongList" "chunks" "[[J").before a0 Z = true := hw _ (List.mem_of_getElem? (i := 14) rfl)
theorem ww15 {Z : State} {a0 : Array Value} (hw : ∀ d ∈ tables_1, d.before a0 Z = true) : (Jvm.Cond.methodLink "com/example/preorders_from_tests/preordersfromtests/lts/LongListIsEmptyPinLaw" (10 : Nat) ({ cls := "com/example/preorders_from_tests/preordersfromtests/lts/LongList", name := "isEmpty", desc := "()Z" } : Jvm.MethodName)).before a0 Z = true := hw _ (List.mem_of_getElem? (i := 15) rfl)
theorem ww16 {Z : State} {a0 : Array Value} (hw : ∀ d ∈ tables_1, d.before a0 Z = true) : (Jvm.Cond.declares ({ cls := "com/example/preorders_from_tests/preordersfromtests/lts/LongList", name := "isEmpty", desc := "()Z" } : Jvm.MethodName)).before a0 Z = true := hw _ (List.mem_of_getElem? (i := 16) rfl)
theorem ww17 {Z : State} {a0 : Array Value} (hw : ∀ d ∈ tables_1, d.before a0 Z = true) : (Jvm.Cond.instanceMethod ({ cls := "com/example/preorders_from_tests/preordersfromtests/lts/LongList", name := "isEmpty", desc := "()Z" } : Jvm.MethodName)).before a0 Z = true := hw _ (List.mem_of_getElem? (i := 17) rfl)
theorem ww18 {Z : State} {a0 : Array Value} (hw : ∀ d ∈ tables_1, d.before a0 Z = true) : (Jvm.Cond.selects "com/example/preorders_from_tests/preordersfromtests/lts/LongList" ({ cls := "com/example/preorders_from_tests/preordersfromtests/lts/LongList", name := "isEmpty", desc := "()Z" } : Jvm.MethodName) ({ cls := "com/example/preorders_from_tests/preordersfromtests/lts/LongList", name := "isEmpty", desc := "()Z" } : Jvm.MethodName)).before a0 Z = true := hw _ (List.mem_of_getElem? (i := 18) rfl)
theorem ww19 {Z : State} {a0 : Array Value} (hw : ∀ d ∈ tables_1, d.before a0 Z = true) : (Jvm.Cond.code ({ cls := "com/example/preorders_from_tests/preordersfromtests/lts/LongList", name := "isEmpty", desc := "()Z" } : Jvm.MethodName) prog_31_method_7_code (1 : Nat) (Option.some Jvm.ClassFile.FieldType.boolean)).before a0 Z = true := hw _ (List.mem_of_getElem? (i := 19) rfl)
theorem ww20 {Z : State} {a0 : Array Value} (hw : ∀ d ∈ tables_1, d.before a0 Z = true) : (Jvm.Cond.fieldLink "com/example/preorders_from_tests/preordersfromtests/lts/LongList" (15 : Nat) "com/example/preorders_from_tests/preordersfromtests/lts/LongList" "size" "I").before a0 Z = true := hw _ (List.mem_of_getElem? (i := 20) rfl)
theorem ww21 {Z : State} {a0 : Array Value} (hw : ∀ d ∈ tables_1, d.before a0 Z = true) : (Jvm.Cond.lays "com/example/preorders_from_tests/preordersfromtests/lts/LongList" "com/example/preorders_from_tests/preordersfromtests/lts/LongList" "size" "I").before a0 Z = true := hw _ (List.mem_of_getElem? (i := 21) rfl)
theorem ww22 {Z : State} {a0 : Array Value} (hw : ∀ d ∈ tables_1, d.before a0 Z = true) : (Jvm.Cond.methodLink "com/example/preorders_from_tests/preordersfromtests/lts/LongListIsEmptyPinLaw" (14 : Nat) ({ cls := "com/example/preorders_from_tests/preordersfromtests/lts/LongList", name := "add", desc := "(J)V" } : Jvm.MethodName)).before a0 Z = true := hw _ (List.mem_of_getElem? (i := 22) rfl)
theorem ww23 {Z : State} {a0 : Array Value} (hw : ∀ d ∈ tables_1, d.before a0 Z = true) : (Jvm.Cond.declares ({ cls := "com/example/preorders_from_tests/preordersfromtests/lts/LongList", name := "add", desc := "(J)V" } : Jvm.MethodName)).before a0 Z = true := hw _ (List.mem_of_getElem? (i := 23) rfl)
theorem ww24 {Z : State} {a0 : Array Value} (hw : ∀ d ∈ tables_1, d.before a0 Z = true) : (Jvm.Cond.instanceMethod ({ cls := "com/example/preorders_from_tests/preordersfromtests/lts/LongList", name := "add", desc := "(J)V" } : Jvm.MethodName)).before a0 Z = true := hw _ (List.mem_of_getElem? (i := 24) rfl)
theorem ww25 {Z : State} {a0 : Array Value} (hw : ∀ d ∈ tables_1, d.before a0 Z = true) : (Jvm.Cond.selects "com/example/preorders_from_tests/preordersfromtests/lts/LongList" ({ cls := "com/example/preorders_from_tests/preordersfromtests/lts/LongList", name := "add", desc := "(J)V" } : Jvm.MethodName) ({ cls := "com/example/preorders_from_tests/preordersfromtests/lts/LongList", name := "add", desc := "(J)V" } : Jvm.MethodName)).before a0 Z = true := hw _ (List.mem_of_getElem? (i := 25) rfl)
theorem ww26 {Z : State} {a0 : Array Value} (hw : ∀ d ∈ tables_1, d.before a0 Z = true) : (Jvm.Cond.code ({ cls := "com/example/preorders_from_tests/preordersfromtests/lts/LongList", name := "add", desc := "(J)V" } : Jvm.MethodName) prog_31_method_2_code (5 : Nat) (Option.none : Option Jvm.ClassFile.FieldType)).before a0 Z = true := hw _ (List.mem_of_getElem? (i := 26) rfl)
theorem ww27 {Z : State} {a0 : Array Value} (hw : ∀ d ∈ tables_1, d.before a0 Z = true) : (Jvm.Cond.constant "com/example/preorders_from_tests/preordersfromtests/lts/LongList" (21 : Nat) (2147483647 : Int32)).before a0 Z = true := hw _ (List.mem_of_getElem? (i := 27) rfl)
theorem ww28 {Z : State} {a0 : Array Value} (hw : ∀ d ∈ tables_1, d.before a0 Z = true) : (Jvm.Cond.methodLink "com/example/preorders_from_tests/preordersfromtests/lts/LongListIsEmptyPinLaw" (22 : Nat) ({ cls := "com/example/preorders_from_tests/preordersfromtests/lts/LongList", name := "size", desc := "()I" } : Jvm.MethodName)).before a0 Z = true := hw _ (List.mem_of_getElem? (i := 28) rfl)
theorem ww29 {Z : State} {a0 : Array Value} (hw : ∀ d ∈ tables_1, d.before a0 Z = true) : (Jvm.Cond.declares ({ cls := "com/example/preorders_from_tests/preordersfromtests/lts/LongList", name := "size", desc := "()I" } : Jvm.MethodName)).before a0 Z = true := hw _ (List.mem_of_getElem? (i := 29) rfl)
theorem ww30 {Z : State} {a0 : Array Value} (hw : ∀ d ∈ tables_1, d.before a0 Z = true) : (Jvm.Cond.instanceMethod ({ cls := "com/example/preorders_from_tests/preordersfromtests/lts/LongList", name := "size", desc := "()I" } : Jvm.MethodName)).before a0 Z = true := hw _ (List.mem_of_getElem? (i := 30) rfl)
theorem ww31 {Z : State} {a0 : Array Value} (hw : ∀ d ∈ tables_1, d.before a0 Z = true) : (Jvm.Cond.selects "com/example/preorders_from_tests/preordersfromtests/lts/LongList" ({ cls := "com/example/preorders_from_tests/preordersfromtests/lts/LongList", name := "size", desc := "()I" } : Jvm.MethodName) ({ cls := "com/example/preorders_from_tests/preordersfromtests/lts/LongList", name := "size", desc := "()I" } : Jvm.MethodName)).before a0 Z = true := hw _ (List.mem_of_getElem? (i := 31) rfl)
theorem ww32 {Z : State} {a0 : Array Value} (hw : ∀ d ∈ tables_1, d.before a0 Z = true) : (Jvm.Cond.code ({ cls := "com/example/preorders_from_tests/preordersfromtests/lts/LongList", name := "size", desc := "()I" } : Jvm.MethodName) prog_31_method_5_code (1 : Nat) (Option.some Jvm.ClassFile.FieldType.int)).before a0 Z = true := hw _ (List.mem_of_getElem? (i := 32) rfl)
theorem ww33 {Z : State} {a0 : Array Value} (hw : ∀ d ∈ tables_1, d.before a0 Z = true) : (Jvm.Cond.methodLink "com/example/preorders_from_tests/preordersfromtests/lts/LongListIsEmptyPinLaw" (18 : Nat) ({ cls := "com/example/preorders_from_tests/preordersfromtests/lts/LongList", name := "removeLast", desc := "()J" } : Jvm.MethodName)).before a0 Z = true := hw _ (List.mem_of_getElem? (i := 33) rfl)
theorem ww34 {Z : State} {a0 : Array Value} (hw : ∀ d ∈ tables_1, d.before a0 Z = true) : (Jvm.Cond.declares ({ cls := "com/example/preorders_from_tests/preordersfromtests/lts/LongList", name := "removeLast", desc := "()J" } : Jvm.MethodName)).before a0 Z = true := hw _ (List.mem_of_getElem? (i := 34) rfl)
theorem ww35 {Z : State} {a0 : Array Value} (hw : ∀ d ∈ tables_1, d.before a0 Z = true) : (Jvm.Cond.instanceMethod ({ cls := "com/example/preorders_from_tests/preordersfromtests/lts/LongList", name := "removeLast", desc := "()J" } : Jvm.MethodName)).before a0 Z = true := hw _ (List.mem_of_getElem? (i := 35) rfl)
theorem ww36 {Z : State} {a0 : Array Value} (hw : ∀ d ∈ tables_1, d.before a0 Z = true) : (Jvm.Cond.selects "com/example/preorders_from_tests/preordersfromtests/lts/LongList" ({ cls := "com/example/preorders_from_tests/preordersfromtests/lts/LongList", name := "removeLast", desc := "()J" } : Jvm.MethodName) ({ cls := "com/example/preorders_from_tests/preordersfromtests/lts/LongList", name := "removeLast", desc := "()J" } : Jvm.MethodName)).before a0 Z = true := hw _ (List.mem_of_getElem? (i := 36) rfl)
theorem ww37 {Z : State} {a0 : Array Value} (hw : ∀ d ∈ tables_1, d.before a0 Z = true) : (Jvm.Cond.code ({ cls := "com/example/preorders_from_tests/preordersfromtests/lts/LongList", name := "removeLast", desc := "()J" } : Jvm.MethodName) prog_31_method_6_code (1 : Nat) (Option.some Jvm.ClassFile.FieldType.long)).before a0 Z = true := hw _ (List.mem_of_getElem? (i := 37) rfl)
theorem own_and3 (y : Int32) : y &&& (3 : Int32) = (0 : Int32) ∨ y &&& (3 : Int32) = (1 : Int32) ∨ y &&& (3 : Int32) = (2 : Int32) ∨ y &&& (3 : Int32) = (3 : Int32) := by
  have a := c_and y 3 (by decide)
  have e0 : (0 : Int32).toInt = 0 := rfl
  have e1 : (1 : Int32).toInt = 1 := rfl
  have e2 : (2 : Int32).toInt = 2 := rfl
  have e3 : (3 : Int32).toInt = 3 := rfl
  simp only [← Int32.toInt_inj]
  omega
theorem own_rem1 (y : Int32) : (y &&& (3 : Int32)) % (1 : Int32) = (0 : Int32) := by rcases own_and3 y with q | q | q | q <;> rw [q] <;> decide
theorem own_rem2 (y : Int32) : (y &&& (3 : Int32)) % (2 : Int32) = (0 : Int32) ∨ (y &&& (3 : Int32)) % (2 : Int32) = (1 : Int32) := by rcases own_and3 y with q | q | q | q <;> rw [q] <;> decide
theorem own_rem3 (y : Int32) : (y &&& (3 : Int32)) % (3 : Int32) = (0 : Int32) ∨ (y &&& (3 : Int32)) % (3 : Int32) = (1 : Int32) ∨ (y &&& (3 : Int32)) % (3 : Int32) = (2 : Int32) := by rcases own_and3 y with q | q | q | q <;> rw [q] <;> decide
theorem own_rem4 (y : Int32) : (y &&& (3 : Int32)) % (4 : Int32) = (0 : Int32) ∨ (y &&& (3 : Int32)) % (4 : Int32) = (1 : Int32) ∨ (y &&& (3 : Int32)) % (4 : Int32) = (2 : Int32) ∨ (y &&& (3 : Int32)) % (4 : Int32) = (3 : Int32) := by rcases own_and3 y with q | q | q | q <;> rw [q] <;> decide
theorem own_pn1 : plainFor (⟨"com/example/preorders_from_tests/preordersfromtests/lts/LongList", "<init>", "()V"⟩ : MethodName) = true := plainFor_of_name (by first | (simp [plainName, overriddenIn]; done) | decide +kernel)
theorem d1_0 : decode prog_31_method_1_code 0 = .ok (.aload_n 0, 1) := by decide +kernel
theorem d1_1 : decode prog_31_method_1_code 1 = .ok (.invokespecial 3, 3) := by decide +kernel
theorem d1_4 : decode prog_31_method_1_code 4 = .ok (.aload_n 0, 1) := by decide +kernel
theorem d1_5 : decode prog_31_method_1_code 5 = .ok (.iconst 1, 1) := by decide +kernel
theorem d1_6 : decode prog_31_method_1_code 6 = .ok (.anewarray 9, 3) := by decide +kernel
theorem d1_9 : decode prog_31_method_1_code 9 = .ok (.dup, 1) := by decide +kernel
theorem d1_10 : decode prog_31_method_1_code 10 = .ok (.iconst 0, 1) := by decide +kernel
theorem d1_11 : decode prog_31_method_1_code 11 = .ok (.bipush 8, 2) := by decide +kernel
theorem d1_13 : decode prog_31_method_1_code 13 = .ok (.newarray .long, 2) := by decide +kernel
theorem d1_15 : decode prog_31_method_1_code 15 = .ok (.aastore, 1) := by decide +kernel
theorem d1_16 : decode prog_31_method_1_code 16 = .ok (.putfield 11, 3) := by decide +kernel
theorem d1_19 : decode prog_31_method_1_code 19 = .ok (.return_, 1) := by decide +kernel
theorem own_ef1_own_rmI (m : MethodId) (y0 : Addr) : entryFrame m #[(.ref y0)] 1 = mkF m 0 #[.val (.ref y0)] [] := by first | (simp [entryFrame, mkF, argsToLocals, Value.category]; done) | rfl
set_option maxRecDepth 65536 in
set_option maxHeartbeats 40000000 in
theorem own_rmI (l : Launch) (Z : State) (a0 : Array Value) (hw : ∀ d ∈ tables_1, d.before a0 Z = true) (a : Addr) (h0 : Heap) (n0 : Nat) (Z0 : n0 ≤ h0.size) (E0 : Exa Z h0 a "com/example/preorders_from_tests/preordersfromtests/lts/LongList") (F1 : Fld Z h0 a "com/example/preorders_from_tests/preordersfromtests/lts/LongList" "chunks" "[[J" .null) (F2 : Fld Z h0 a "com/example/preorders_from_tests/preordersfromtests/lts/LongList" "size" "I" (.int (0 : Int32))) (g_a : n0 ≤ a) :
    own_Met l Z (⟨"com/example/preorders_from_tests/preordersfromtests/lts/LongList", "<init>", "()V"⟩ : MethodName) prog_31_method_1_code 1 none [] ({ frames := 1, cells := 2, slots := 9, locals := 12 } : Room) #[(.ref a)] h0 (fun v h L => ∃ (b d : Addr) (kb kd : ClassId), v = none ∧ Fr n0 L ∧ Keep h0 h [a] ∧ Exa Z h a "com/example/preorders_from_tests/preordersfromtests/lts/LongList" ∧ Fld Z h a "com/example/preorders_from_tests/preordersfromtests/lts/LongList" "chunks" "[[J" (.ref b) ∧ Fld Z h a "com/example/preorders_from_tests/preordersfromtests/lts/LongList" "size" "I" (.int (0 : Int32)) ∧ Arv Z h b kb (.array .long) (1 : Int32) [(.ref d)] .null ∧ Arv Z h d kd .long (8 : Int32) [(.long (0 : Int64)), (.long (0 : Int64)), (.long (0 : Int64)), (.long (0 : Int64)), (.long (0 : Int64)), (.long (0 : Int64)), (.long (0 : Int64)), (.long (0 : Int64))] (.long (0 : Int64)) ∧ b ≠ d ∧ n0 ≤ d) := by
  refine own_met own_pn1 ?_
  intro p e s m below meth c s₁ hx hby hml hown hnm hret hlk hZ X0 e0
  have N0 := Fr.nil n0
  refine own_cast (own_ef1_own_rmI m a) ?_
  refine own_aloadN (n := 1) X0 hx (hb hby d1_0) rfl rfl rfl ?_
  refine own_initO (n := 4) X0 hx hZ hown (ww6 hw) (ww7 hw) (ww8 hw) e0 (by rw [hml]; rfl) (hb hby d1_1) (Nat.le_of_ble_eq_true rfl) (Nat.le_of_ble_eq_true rfl) rfl ?_
  intro T1 X1 e1
  refine own_aloadN (n := 5) X1 hx (hb hby d1_4) rfl rfl rfl ?_
  refine own_iconst (n := 6) (z := (1 : Int32)) X1 hx (hb hby d1_5) rfl rfl ?_
  refine own_newRA (n := 9) X1 hx hZ (C := "[J") (ty := .long) hown own_an_J (ww9 hw) (ww10 hw) e1 (hb hby d1_6) (by decide) (cap := 1) (by decide) (by decide) (by decide) (by decide) (ad := "[[J") own_an_JJ rfl ?_
  intro T2 h2 k2 b2 g2 X2 e2 E2 A2 B2 O2
  have g_b2 : n0 ≤ b2 := Nat.le_trans Z0 (Nat.le_of_eq g2.symm)
  have sz_b2 : h0.size ≤ b2 := Nat.le_trans (Keep.refl h0 [a]).1 (Nat.le_of_eq g2.symm)
  have ne_a_b2 : a ≠ b2 := own_ne E0.lt g2
  have E_3 := E0.ext E2
  have F_4 := F1.ext E2
  have F_5 := F2.ext E2
  have K_6 := (Keep.refl h0 [a]).ext E2
  have Z_7 : n0 ≤ h2.size := Nat.le_trans Z0 E2.1
  have V2 : Arv Z h2 b2 k2 (.array .long) (1 : Int32) [.null] .null := (Arv.new A2 (by decide)).pad (pad_rep [] .null 1)
  refine own_dup (n := 10) X2 hx (hb hby d1_9) rfl rfl ?_
  refine own_iconst (n := 11) (z := (0 : Int32)) X2 hx (hb hby d1_10) rfl rfl ?_
  refine own_bipush (n := 13) (z := (8 : Int32)) X2 hx (hb hby d1_11) rfl rfl ?_
  refine own_newA (n := 15) X2 hx hZ own_an_long (ww11 hw) e2 (hb hby d1_13) (by decide) (cap := 8) (by decide) (by decide) (by decide) (by decide) rfl ?_
  intro T8 h8 k8 b8 g8 X8 e8 E8 A8 B8
  have g_b8 : n0 ≤ b8 := Nat.le_trans Z_7 (Nat.le_of_eq g8.symm)
  have sz_b8 : h0.size ≤ b8 := Nat.le_trans K_6.1 (Nat.le_of_eq g8.symm)
  have ne_a_b8 : a ≠ b8 := own_ne E_3.lt g8
  have ne_b2_b8 : b2 ≠ b8 := own_ne V2.lt g8
  have E_9 := E_3.ext E8
  have F_10 := F_4.ext E8
  have F_11 := F_5.ext E8
  have K_12 := K_6.ext E8
  have A_13 := V2.ext E8
  have Z_14 : n0 ≤ h8.size := Nat.le_trans Z_7 E8.1
  have V8 : Arv Z h8 b8 k8 .long (8 : Int32) [(.long (0 : Int64)), (.long (0 : Int64)), (.long (0 : Int64)), (.long (0 : Int64)), (.long (0 : Int64)), (.long (0 : Int64)), (.long (0 : Int64)), (.long (0 : Int64))] (.long (0 : Int64)) := (Arv.new A8 (by decide)).pad (pad_rep [] (.long (0 : Int64)) 8)
  refine own_st_aastore (n := 16) X8 hx hZ e8 A_13 O2 (Ins.self B8) ⟨by decide, by decide⟩ 0 rfl (by decide) (hb hby d1_15) rfl ?_
  intro T15 h15 X15 e15 W15 V15q
  have V15 : Arv Z h15 b2 k2 (.array .long) (1 : Int32) [(.ref b8)] .null := V15q
  have N15 := Fr.snoc X15 N0 g_b2
  have E_16 := E_9.wr W15
  have F_17 := F_10.other W15 (Or.inl ne_a_b2)
  have F_18 := F_11.other W15 (Or.inl ne_a_b2)
  have K_19 := K_12.wr W15 (Or.inr sz_b2)
  have E_20 := B8.wr W15
  have A_21 := V8.other W15 (Ne.symm ne_b2_b8)
  have Z_22 : n0 ≤ h15.size := by rw [W15.size]; exact Z_14
  refine own_putF (n := 19) X15 hx hZ hown (host := "") (Or.inl (ww13 hw)) Via.refl e15 F_17 E_16 (Or.inl (ww14 hw)) (ww1 hw) (ty := (.array (.array .long))) (by decide) rfl rfl (hb hby d1_16) rfl ?_
  intro T23 h23 X23 e23 W23
  have F_24 := F_17.same W23
  have N23 := Fr.snoc X23 N15 g_a
  have E_25 := E_16.wr W23
  have F_26 := F_18.other W23 (Or.inr (slot_ne (Or.inl (ww21 hw)) (Or.inl (ww14 hw)) (by decide) (t := .int) (t' := (.array (.array .long))) (by decide) (by decide)))
  have K_27 := K_19.wr W23 (Or.inl (by simp))
  have E_28 := E_20.wr W23
  have A_29 := A_21.other W23 (Ne.symm ne_a_b8)
  have A_30 := V15.other W23 (Ne.symm ne_a_b2)
  have Z_31 : n0 ≤ h23.size := by rw [W23.size]; exact Z_22
  refine own_retV X23 hx hlk hret e23 (hb hby d1_19) (by decide) (by decide) ?_
  exact ⟨b2, b8, k2, k8, rfl, N23, K_27, E_25, F_24, F_26, A_30, A_29, ne_b2_b8, g_b8⟩
theorem own_pn0 : plainFor x = true := plainFor_of_name (by first | (simp [plainName, overriddenIn]; done) | decide +kernel)
theorem own_pd0 : parseMethodDescriptor "()V" = some ⟨[], none⟩ := by decide +kernel
theorem own_pn3 : plainFor (⟨"com/example/preorders_from_tests/preordersfromtests/lts/LongList", "isEmpty", "()Z"⟩ : MethodName) = true := plainFor_of_name (by first | (simp [plainName, overriddenIn]; done) | decide +kernel)
theorem d3_0 : decode prog_31_method_7_code 0 = .ok (.aload_n 0, 1) := by decide +kernel
theorem d3_1 : decode prog_31_method_7_code 1 = .ok (.getfield 15, 3) := by decide +kernel
theorem d3_4 : decode prog_31_method_7_code 4 = .ok (.ifCond .ne 7, 3) := by decide +kernel
theorem d3_7 : decode prog_31_method_7_code 7 = .ok (.iconst 1, 1) := by decide +kernel
theorem d3_8 : decode prog_31_method_7_code 8 = .ok (.goto 4, 3) := by decide +kernel
theorem d3_12 : decode prog_31_method_7_code 12 = .ok (.ireturn, 1) := by decide +kernel
theorem own_ef3_own_rm_isEmpty0 (m : MethodId) (y0 : Addr) : entryFrame m #[(.ref y0)] 1 = mkF m 0 #[.val (.ref y0)] [] := by first | (simp [entryFrame, mkF, argsToLocals, Value.category]; done) | rfl
set_option maxRecDepth 65536 in
set_option maxHeartbeats 40000000 in
theorem own_rm_isEmpty0 (l : Launch) (Z : State) (a0 : Array Value) (hw : ∀ d ∈ tables_1, d.before a0 Z = true) (a : Addr) (h0 : Heap) (n0 : Nat) (Z0 : n0 ≤ h0.size) (F1 : Fld Z h0 a "com/example/preorders_from_tests/preordersfromtests/lts/LongList" "size" "I" (.int (0 : Int32))) :
    own_Met l Z (⟨"com/example/preorders_from_tests/preordersfromtests/lts/LongList", "isEmpty", "()Z"⟩ : MethodName) prog_31_method_7_code 1 (some .boolean) [] ({ frames := 0, cells := 0, slots := 0, locals := 0 } : Room) #[(.ref a)] h0 (fun v h L => v = some (.int (1 : Int32)) ∧ Fr n0 L ∧ h = h0) := by
  refine own_met own_pn3 ?_
  intro p e s m below meth c s₁ hx hby hml hown hnm hret hlk hZ X0 e0
  have N0 := Fr.nil n0
  refine own_cast (own_ef3_own_rm_isEmpty0 m a) ?_
  refine own_aloadN (n := 1) X0 hx (hb hby d3_0) rfl rfl rfl ?_
  refine own_getF (n := 4) X0 hx hZ hown (host := "") (Or.inl (ww20 hw)) Via.refl e0 F1 (hb hby d3_1) rfl ?_
  intro T1 X1 e1
  refine own_ifNo (n := 7) X1 hx (hb hby d3_4) (teq (by decide : (0 : Int32) = (0 : Int32))).2 rfl ?_
  refine own_iconst (n := 8) (z := (1 : Int32)) X1 hx (hb hby d3_7) rfl rfl ?_
  refine own_goto (n := 12) X1 hx (hb hby d3_8) (by decide) (by decide) ?_
  refine own_retZ X1 hx hlk hret (by simp) e1 (w := (1 : Int32)) rfl (hb hby d3_12) (by decide) (by decide) ?_
  exact ⟨rfl, N0, rfl⟩
theorem own_pd1 : parseMethodDescriptor "()Z" = some ⟨[], some .boolean⟩ := by decide +kernel
theorem own_pn5 : plainFor (⟨"com/example/preorders_from_tests/preordersfromtests/lts/LongList", "size", "()I"⟩ : MethodName) = true := plainFor_of_name (by first | (simp [plainName, overriddenIn]; done) | decide +kernel)
theorem d5_0 : decode prog_31_method_5_code 0 = .ok (.aload_n 0, 1) := by decide +kernel
theorem d5_1 : decode prog_31_method_5_code 1 = .ok (.getfield 15, 3) := by decide +kernel
theorem d5_4 : decode prog_31_method_5_code 4 = .ok (.ireturn, 1) := by decide +kernel
theorem own_ef5_own_rm_size0 (m : MethodId) (y0 : Addr) : entryFrame m #[(.ref y0)] 1 = mkF m 0 #[.val (.ref y0)] [] := by first | (simp [entryFrame, mkF, argsToLocals, Value.category]; done) | rfl
set_option maxRecDepth 65536 in
set_option maxHeartbeats 40000000 in
theorem own_rm_size0 (l : Launch) (Z : State) (a0 : Array Value) (hw : ∀ d ∈ tables_1, d.before a0 Z = true) (a : Addr) (h0 : Heap) (n0 : Nat) (Z0 : n0 ≤ h0.size) (F1 : Fld Z h0 a "com/example/preorders_from_tests/preordersfromtests/lts/LongList" "size" "I" (.int (0 : Int32))) :
    own_Met l Z (⟨"com/example/preorders_from_tests/preordersfromtests/lts/LongList", "size", "()I"⟩ : MethodName) prog_31_method_5_code 1 (some .int) [] ({ frames := 0, cells := 0, slots := 0, locals := 0 } : Room) #[(.ref a)] h0 (fun v h L => v = some (.int (0 : Int32)) ∧ Fr n0 L ∧ h = h0) := by
  refine own_met own_pn5 ?_
  intro p e s m below meth c s₁ hx hby hml hown hnm hret hlk hZ X0 e0
  have N0 := Fr.nil n0
  refine own_cast (own_ef5_own_rm_size0 m a) ?_
  refine own_aloadN (n := 1) X0 hx (hb hby d5_0) rfl rfl rfl ?_
  refine own_getF (n := 4) X0 hx hZ hown (host := "") (Or.inl (ww20 hw)) Via.refl e0 F1 (hb hby d5_1) rfl ?_
  intro T1 X1 e1
  refine own_retI X1 hx hlk hret e1 (hb hby d5_4) (by decide) (by decide) ?_
  exact ⟨rfl, N0, rfl⟩
theorem own_pd2 : parseMethodDescriptor "()I" = some ⟨[], some .int⟩ := by decide +kernel
theorem own_pn4 : plainFor (⟨"com/example/preorders_from_tests/preordersfromtests/lts/LongList", "add", "(J)V"⟩ : MethodName) = true := plainFor_of_name (by first | (simp [plainName, overriddenIn]; done) | decide +kernel)
theorem d4_0 : decode prog_31_method_2_code 0 = .ok (.aload_n 0, 1) := by decide +kernel
theorem d4_1 : decode prog_31_method_2_code 1 = .ok (.getfield 15, 3) := by decide +kernel
theorem d4_4 : decode prog_31_method_2_code 4 = .ok (.ldc 21, 2) := by decide +kernel
theorem d4_6 : decode prog_31_method_2_code 6 = .ok (.if_icmp .ne 13, 3) := by decide +kernel
theorem d4_19 : decode prog_31_method_2_code 19 = .ok (.aload_n 0, 1) := by decide +kernel
theorem d4_20 : decode prog_31_method_2_code 20 = .ok (.getfield 15, 3) := by decide +kernel
theorem d4_23 : decode prog_31_method_2_code 23 = .ok (.bipush 15, 2) := by decide +kernel
theorem d4_25 : decode prog_31_method_2_code 25 = .ok (.iushr, 1) := by decide +kernel
theorem d4_26 : decode prog_31_method_2_code 26 = .ok (.istore_n 3, 1) := by decide +kernel
theorem d4_27 : decode prog_31_method_2_code 27 = .ok (.aload_n 0, 1) := by decide +kernel
theorem d4_28 : decode prog_31_method_2_code 28 = .ok (.getfield 15, 3) := by decide +kernel
theorem d4_31 : decode prog_31_method_2_code 31 = .ok (.sipush 32767, 3) := by decide +kernel
theorem d4_34 : decode prog_31_method_2_code 34 = .ok (.iand, 1) := by decide +kernel
theorem d4_35 : decode prog_31_method_2_code 35 = .ok (.istore 4, 2) := by decide +kernel
theorem d4_37 : decode prog_31_method_2_code 37 = .ok (.iload_n 3, 1) := by decide +kernel
theorem d4_38 : decode prog_31_method_2_code 38 = .ok (.aload_n 0, 1) := by decide +kernel
theorem d4_39 : decode prog_31_method_2_code 39 = .ok (.getfield 11, 3) := by decide +kernel
theorem d4_42 : decode prog_31_method_2_code 42 = .ok (.arraylength, 1) := by decide +kernel
theorem d4_43 : decode prog_31_method_2_code 43 = .ok (.if_icmp .ne 20, 3) := by decide +kernel
theorem d4_63 : decode prog_31_method_2_code 63 = .ok (.aload_n 0, 1) := by decide +kernel
theorem d4_64 : decode prog_31_method_2_code 64 = .ok (.getfield 11, 3) := by decide +kernel
theorem d4_67 : decode prog_31_method_2_code 67 = .ok (.iload_n 3, 1) := by decide +kernel
theorem d4_68 : decode prog_31_method_2_code 68 = .ok (.aaload, 1) := by decide +kernel
theorem d4_69 : decode prog_31_method_2_code 69 = .ok (.ifnonnull 16, 3) := by decide +kernel
theorem d4_85 : decode prog_31_method_2_code 85 = .ok (.iload 4, 2) := by decide +kernel
theorem d4_87 : decode prog_31_method_2_code 87 = .ok (.aload_n 0, 1) := by decide +kernel
theorem d4_88 : decode prog_31_method_2_code 88 = .ok (.getfield 11, 3) := by decide +kernel
theorem d4_91 : decode prog_31_method_2_code 91 = .ok (.iload_n 3, 1) := by decide +kernel
theorem d4_92 : decode prog_31_method_2_code 92 = .ok (.aaload, 1) := by decide +kernel
theorem d4_93 : decode prog_31_method_2_code 93 = .ok (.arraylength, 1) := by decide +kernel
theorem d4_94 : decode prog_31_method_2_code 94 = .ok (.if_icmp .ne 22, 3) := by decide +kernel
theorem d4_116 : decode prog_31_method_2_code 116 = .ok (.aload_n 0, 1) := by decide +kernel
theorem d4_117 : decode prog_31_method_2_code 117 = .ok (.getfield 11, 3) := by decide +kernel
theorem d4_120 : decode prog_31_method_2_code 120 = .ok (.iload_n 3, 1) := by decide +kernel
theorem d4_121 : decode prog_31_method_2_code 121 = .ok (.aaload, 1) := by decide +kernel
theorem d4_122 : decode prog_31_method_2_code 122 = .ok (.iload 4, 2) := by decide +kernel
theorem d4_124 : decode prog_31_method_2_code 124 = .ok (.lload_n 1, 1) := by decide +kernel
theorem d4_125 : decode prog_31_method_2_code 125 = .ok (.lastore, 1) := by decide +kernel
theorem d4_126 : decode prog_31_method_2_code 126 = .ok (.aload_n 0, 1) := by decide +kernel
theorem d4_127 : decode prog_31_method_2_code 127 = .ok (.dup, 1) := by decide +kernel
theorem d4_128 : decode prog_31_method_2_code 128 = .ok (.getfield 15, 3) := by decide +kernel
theorem d4_131 : decode prog_31_method_2_code 131 = .ok (.iconst 1, 1) := by decide +kernel
theorem d4_132 : decode prog_31_method_2_code 132 = .ok (.iadd, 1) := by decide +kernel
theorem d4_133 : decode prog_31_method_2_code 133 = .ok (.putfield 15, 3) := by decide +kernel
theorem d4_136 : decode prog_31_method_2_code 136 = .ok (.return_, 1) := by decide +kernel
theorem own_ef4_own_rm_add0 (m : MethodId) (y0 : Addr) (y1 : Int64) : entryFrame m #[(.ref y0), (.long y1)] 5 = mkF m 0 #[.val (.ref y0), .val (.long y1), .second, .unset, .unset] [] := by first | (simp [entryFrame, mkF, argsToLocals, Value.category]; done) | rfl
set_option maxRecDepth 65536 in
set_option maxHeartbeats 40000000 in
theorem own_rm_add0 (l : Launch) (Z : State) (a0 : Array Value) (hw : ∀ d ∈ tables_1, d.before a0 Z = true) (a b d : Addr) (kb kd : ClassId) (x0 x1 x2 x3 x4 x5 x6 x7 p1 : Int64) (h0 : Heap) (n0 : Nat) (Z0 : n0 ≤ h0.size) (E0 : Exa Z h0 a "com/example/preorders_from_tests/preordersfromtests/lts/LongList") (F1 : Fld Z h0 a "com/example/preorders_from_tests/preordersfromtests/lts/LongList" "chunks" "[[J" (.ref b)) (F2 : Fld Z h0 a "com/example/preorders_from_tests/preordersfromtests/lts/LongList" "size" "I" (.int (0 : Int32))) (VB : Arv Z h0 b kb (.array .long) (1 : Int32) [(.ref d)] .null) (VD : Arv Z h0 d kd .long (8 : Int32) [(.long x0), (.long x1), (.long x2), (.long x3), (.long x4), (.long x5), (.long x6), (.long x7)] (.long (0 : Int64))) (hbd : b ≠ d) (g_a : n0 ≤ a) (g_d : n0 ≤ d) :
    own_Met l Z (⟨"com/example/preorders_from_tests/preordersfromtests/lts/LongList", "add", "(J)V"⟩ : MethodName) prog_31_method_2_code 5 none [] ({ frames := 0, cells := 0, slots := 0, locals := 0 } : Room) #[(.ref a), (.long p1)] h0 (fun v h L => v = none ∧ Fr n0 L ∧ Keep h0 h [a, d] ∧ Exa Z h a "com/example/preorders_from_tests/preordersfromtests/lts/LongList" ∧ Fld Z h a "com/example/preorders_from_tests/preordersfromtests/lts/LongList" "chunks" "[[J" (.ref b) ∧ Fld Z h a "com/example/preorders_from_tests/preordersfromtests/lts/LongList" "size" "I" (.int (1 : Int32)) ∧ Arv Z h d kd .long (8 : Int32) [(.long p1), (.long x1), (.long x2), (.long x3), (.long x4), (.long x5), (.long x6), (.long x7)] (.long (0 : Int64))) := by
  refine own_met own_pn4 ?_
  intro p e s m below meth c s₁ hx hby hml hown hnm hret hlk hZ X0 e0
  have N0 := Fr.nil n0
  refine own_cast (own_ef4_own_rm_add0 m a p1) ?_
  refine own_aloadN (n := 1) X0 hx (hb hby d4_0) rfl rfl rfl ?_
  refine own_getF (n := 4) X0 hx hZ hown (host := "") (Or.inl (ww20 hw)) Via.refl e0 F2 (hb hby d4_1) rfl ?_
  intro T1 X1 e1
  refine own_ldc (n := 6) (v := (2147483647 : Int32)) X1 hx hZ hown (ww27 hw) (hb hby d4_4) rfl ?_
  refine own_icmpYes (n := 19) X1 hx (hb hby d4_6) (feq (by decide : ¬ ((0 : Int32) = (2147483647 : Int32)))).2 (by decide) (by decide) ?_
  refine own_aloadN (n := 20) X1 hx (hb hby d4_19) rfl rfl rfl ?_
  refine own_getF (n := 23) X1 hx hZ hown (host := "") (Or.inl (ww20 hw)) Via.refl e1 F2 (hb hby d4_20) rfl ?_
  intro T2 X2 e2
  refine own_bipush (n := 25) (z := (15 : Int32)) X2 hx (hb hby d4_23) rfl rfl ?_
  refine own_iushr (n := 26) (z := (0 : Int32)) X2 hx (hb hby d4_25) rfl rfl ?_
  refine own_istoreN (n := 27) (l' := #[.val (.ref a), .val (.long p1), .second, .val (.int (0 : Int32)), .unset]) X2 hx (hb hby d4_26) rfl rfl ?_
  refine own_aloadN (n := 28) X2 hx (hb hby d4_27) rfl rfl rfl ?_
  refine own_getF (n := 31) X2 hx hZ hown (host := "") (Or.inl (ww20 hw)) Via.refl e2 F2 (hb hby d4_28) rfl ?_
  intro T3 X3 e3
  refine own_sipush (n := 34) (z := (32767 : Int32)) X3 hx (hb hby d4_31) rfl rfl ?_
  refine own_iand (n := 35) (z := (0 : Int32)) X3 hx (hb hby d4_34) rfl rfl ?_
  refine own_istore (n := 37) (l' := #[.val (.ref a), .val (.long p1), .second, .val (.int (0 : Int32)), .val (.int (0 : Int32))]) X3 hx (hb hby d4_35) rfl rfl ?_
  refine own_iloadN (n := 38) X3 hx (hb hby d4_37) rfl rfl ?_
  refine own_aloadN (n := 39) X3 hx (hb hby d4_38) rfl rfl rfl ?_
  refine own_getF (n := 42) X3 hx hZ hown (host := "") (Or.inl (ww13 hw)) Via.refl e3 F1 (hb hby d4_39) rfl ?_
  intro T4 X4 e4
  refine own_len (n := 43) X4 hx hZ e4 VB (hb hby d4_42) rfl ?_
  refine own_icmpYes (n := 63) X4 hx (hb hby d4_43) (feq (by decide : ¬ ((0 : Int32) = (1 : Int32)))).2 (by decide) (by decide) ?_
  refine own_aloadN (n := 64) X4 hx (hb hby d4_63) rfl rfl rfl ?_
  refine own_getF (n := 67) X4 hx hZ hown (host := "") (Or.inl (ww13 hw)) Via.refl e4 F1 (hb hby d4_64) rfl ?_
  intro T5 X5 e5
  refine own_iloadN (n := 68) X5 hx (hb hby d4_67) rfl rfl ?_
  refine own_ld_aaload (n := 69) (v := (.ref d)) X5 hx hZ e5 VB rfl ⟨by decide, by decide⟩ rfl (hb hby d4_68) rfl ?_
  refine own_ifnonnullYes (n := 85) X5 hx (hb hby d4_69) (by decide) (by decide) ?_
  refine own_iload (n := 87) X5 hx (hb hby d4_85) rfl rfl ?_
  refine own_aloadN (n := 88) X5 hx (hb hby d4_87) rfl rfl rfl ?_
  refine own_getF (n := 91) X5 hx hZ hown (host := "") (Or.inl (ww13 hw)) Via.refl e5 F1 (hb hby d4_88) rfl ?_
  intro T6 X6 e6
  refine own_iloadN (n := 92) X6 hx (hb hby d4_91) rfl rfl ?_
  refine own_ld_aaload (n := 93) (v := (.ref d)) X6 hx hZ e6 VB rfl ⟨by decide, by decide⟩ rfl (hb hby d4_92) rfl ?_
  refine own_len (n := 94) X6 hx hZ e6 VD (hb hby d4_93) rfl ?_
  refine own_icmpYes (n := 116) X6 hx (hb hby d4_94) (feq (by decide : ¬ ((0 : Int32) = (8 : Int32)))).2 (by decide) (by decide) ?_
  refine own_aloadN (n := 117) X6 hx (hb hby d4_116) rfl rfl rfl ?_
  refine own_getF (n := 120) X6 hx hZ hown (host := "") (Or.inl (ww13 hw)) Via.refl e6 F1 (hb hby d4_117) rfl ?_
  intro T7 X7 e7
  refine own_iloadN (n := 121) X7 hx (hb hby d4_120) rfl rfl ?_
  refine own_ld_aaload (n := 122) (v := (.ref d)) X7 hx hZ e7 VB rfl ⟨by decide, by decide⟩ rfl (hb hby d4_121) rfl ?_
  refine own_iload (n := 124) X7 hx (hb hby d4_122) rfl rfl ?_
  refine own_lloadN (n := 125) X7 hx (hb hby d4_124) rfl rfl ?_
  refine own_st_lastore (n := 126) X7 hx hZ e7 VD ⟨by decide, by decide⟩ 0 rfl (Nat.le_of_ble_eq_true rfl) (hb hby d4_125) rfl ?_
  intro T8 h8 X8 e8 W8 V8q
  have V8 : Arv Z h8 d kd .long (8 : Int32) [(.long p1), (.long x1), (.long x2), (.long x3), (.long x4), (.long x5), (.long x6), (.long x7)] (.long (0 : Int64)) := V8q
  have N8 := Fr.snoc X8 N0 g_d
  have E_9 := E0.wr W8
  have F_10 := F1.other W8 (Or.inl (own_neEA E0 (ww1 hw) VD))
  have F_11 := F2.other W8 (Or.inl (own_neEA E0 (ww1 hw) VD))
  have A_12 := VB.other W8 hbd
  have K_13 := (Keep.refl h0 [a, d]).wr W8 (Or.inl (by simp))
  have Z_14 : n0 ≤ h8.size := by rw [W8.size]; exact Z0
  refine own_aloadN (n := 127) X8 hx (hb hby d4_126) rfl rfl rfl ?_
  refine own_dup (n := 128) X8 hx (hb hby d4_127) rfl rfl ?_
  refine own_getF (n := 131) X8 hx hZ hown (host := "") (Or.inl (ww20 hw)) Via.refl e8 F_11 (hb hby d4_128) rfl ?_
  intro T15 X15 e15
  refine own_iconst (n := 132) (z := (1 : Int32)) X15 hx (hb hby d4_131) rfl rfl ?_
  refine own_iadd (n := 133) (z := (1 : Int32)) X15 hx (hb hby d4_132) rfl rfl ?_
  refine own_putF (n := 136) X15 hx hZ hown (host := "") (Or.inl (ww20 hw)) Via.refl e15 F_11 E_9 (Or.inl (ww21 hw)) (ww1 hw) (ty := .int) (by decide) rfl rfl (hb hby d4_133) rfl ?_
  intro T16 h16 X16 e16 W16
  have F_17 := F_11.same W16
  have N16 := Fr.snoc X16 N8 g_a
  have E_18 := E_9.wr W16
  have F_19 := F_10.other W16 (Or.inr (slot_ne (Or.inl (ww14 hw)) (Or.inl (ww21 hw)) (by decide) (t := (.array (.array .long))) (t' := .int) (by decide) (by decide)))
  have A_20 := A_12.other W16 (Ne.symm (own_neEA E_9 (ww1 hw) A_12))
  have K_21 := K_13.wr W16 (Or.inl (by simp))
  have A_22 := V8.other W16 (Ne.symm (own_neEA E_9 (ww1 hw) V8))
  have Z_23 : n0 ≤ h16.size := by rw [W16.size]; exact Z_14
  refine own_retV X16 hx hlk hret e16 (hb hby d4_136) (by decide) (by decide) ?_
  exact ⟨rfl, N16, K_21, E_18, F_19, F_17, A_22⟩
theorem own_pd3 : parseMethodDescriptor "(J)V" = some ⟨[.long], none⟩ := by decide +kernel
theorem d3_11 : decode prog_31_method_7_code 11 = .ok (.iconst 0, 1) := by decide +kernel
theorem own_ef3_own_rm_isEmpty1 (m : MethodId) (y0 : Addr) : entryFrame m #[(.ref y0)] 1 = mkF m 0 #[.val (.ref y0)] [] := by first | (simp [entryFrame, mkF, argsToLocals, Value.category]; done) | rfl
set_option maxRecDepth 65536 in
set_option maxHeartbeats 40000000 in
theorem own_rm_isEmpty1 (l : Launch) (Z : State) (a0 : Array Value) (hw : ∀ d ∈ tables_1, d.before a0 Z = true) (a : Addr) (h0 : Heap) (n0 : Nat) (Z0 : n0 ≤ h0.size) (F1 : Fld Z h0 a "com/example/preorders_from_tests/preordersfromtests/lts/LongList" "size" "I" (.int (1 : Int32))) :
    own_Met l Z (⟨"com/example/preorders_from_tests/preordersfromtests/lts/LongList", "isEmpty", "()Z"⟩ : MethodName) prog_31_method_7_code 1 (some .boolean) [] ({ frames := 0, cells := 0, slots := 0, locals := 0 } : Room) #[(.ref a)] h0 (fun v h L => v = some (.int (0 : Int32)) ∧ Fr n0 L ∧ h = h0) := by
  refine own_met own_pn3 ?_
  intro p e s m below meth c s₁ hx hby hml hown hnm hret hlk hZ X0 e0
  have N0 := Fr.nil n0
  refine own_cast (own_ef3_own_rm_isEmpty1 m a) ?_
  refine own_aloadN (n := 1) X0 hx (hb hby d3_0) rfl rfl rfl ?_
  refine own_getF (n := 4) X0 hx hZ hown (host := "") (Or.inl (ww20 hw)) Via.refl e0 F1 (hb hby d3_1) rfl ?_
  intro T1 X1 e1
  refine own_ifYes (n := 11) X1 hx (hb hby d3_4) (feq (by decide : ¬ ((1 : Int32) = (0 : Int32)))).2 (by decide) (by decide) ?_
  refine own_iconst (n := 12) (z := (0 : Int32)) X1 hx (hb hby d3_11) rfl rfl ?_
  refine own_retZ X1 hx hlk hret (by simp) e1 (w := (0 : Int32)) rfl (hb hby d3_12) (by decide) (by decide) ?_
  exact ⟨rfl, N0, rfl⟩
theorem own_ef5_own_rm_size1 (m : MethodId) (y0 : Addr) : entryFrame m #[(.ref y0)] 1 = mkF m 0 #[.val (.ref y0)] [] := by first | (simp [entryFrame, mkF, argsToLocals, Value.category]; done) | rfl
set_option maxRecDepth 65536 in
set_option maxHeartbeats 40000000 in
theorem own_rm_size1 (l : Launch) (Z : State) (a0 : Array Value) (hw : ∀ d ∈ tables_1, d.before a0 Z = true) (a : Addr) (h0 : Heap) (n0 : Nat) (Z0 : n0 ≤ h0.size) (F1 : Fld Z h0 a "com/example/preorders_from_tests/preordersfromtests/lts/LongList" "size" "I" (.int (1 : Int32))) :
    own_Met l Z (⟨"com/example/preorders_from_tests/preordersfromtests/lts/LongList", "size", "()I"⟩ : MethodName) prog_31_method_5_code 1 (some .int) [] ({ frames := 0, cells := 0, slots := 0, locals := 0 } : Room) #[(.ref a)] h0 (fun v h L => v = some (.int (1 : Int32)) ∧ Fr n0 L ∧ h = h0) := by
  refine own_met own_pn5 ?_
  intro p e s m below meth c s₁ hx hby hml hown hnm hret hlk hZ X0 e0
  have N0 := Fr.nil n0
  refine own_cast (own_ef5_own_rm_size1 m a) ?_
  refine own_aloadN (n := 1) X0 hx (hb hby d5_0) rfl rfl rfl ?_
  refine own_getF (n := 4) X0 hx hZ hown (host := "") (Or.inl (ww20 hw)) Via.refl e0 F1 (hb hby d5_1) rfl ?_
  intro T1 X1 e1
  refine own_retI X1 hx hlk hret e1 (hb hby d5_4) (by decide) (by decide) ?_
  exact ⟨rfl, N0, rfl⟩
theorem own_pn6 : plainFor (⟨"com/example/preorders_from_tests/preordersfromtests/lts/LongList", "removeLast", "()J"⟩ : MethodName) = true := plainFor_of_name (by first | (simp [plainName, overriddenIn]; done) | decide +kernel)
theorem d6_0 : decode prog_31_method_6_code 0 = .ok (.aload_n 0, 1) := by decide +kernel
theorem d6_1 : decode prog_31_method_6_code 1 = .ok (.getfield 15, 3) := by decide +kernel
theorem d6_4 : decode prog_31_method_6_code 4 = .ok (.ifCond .ne 13, 3) := by decide +kernel
theorem d6_17 : decode prog_31_method_6_code 17 = .ok (.aload_n 0, 1) := by decide +kernel
theorem d6_18 : decode prog_31_method_6_code 18 = .ok (.dup, 1) := by decide +kernel
theorem d6_19 : decode prog_31_method_6_code 19 = .ok (.getfield 15, 3) := by decide +kernel
theorem d6_22 : decode prog_31_method_6_code 22 = .ok (.iconst 1, 1) := by decide +kernel
theorem d6_23 : decode prog_31_method_6_code 23 = .ok (.isub, 1) := by decide +kernel
theorem d6_24 : decode prog_31_method_6_code 24 = .ok (.putfield 15, 3) := by decide +kernel
theorem d6_27 : decode prog_31_method_6_code 27 = .ok (.aload_n 0, 1) := by decide +kernel
theorem d6_28 : decode prog_31_method_6_code 28 = .ok (.getfield 11, 3) := by decide +kernel
theorem d6_31 : decode prog_31_method_6_code 31 = .ok (.aload_n 0, 1) := by decide +kernel
theorem d6_32 : decode prog_31_method_6_code 32 = .ok (.getfield 15, 3) := by decide +kernel
theorem d6_35 : decode prog_31_method_6_code 35 = .ok (.bipush 15, 2) := by decide +kernel
theorem d6_37 : decode prog_31_method_6_code 37 = .ok (.iushr, 1) := by decide +kernel
theorem d6_38 : decode prog_31_method_6_code 38 = .ok (.aaload, 1) := by decide +kernel
theorem d6_39 : decode prog_31_method_6_code 39 = .ok (.aload_n 0, 1) := by decide +kernel
theorem d6_40 : decode prog_31_method_6_code 40 = .ok (.getfield 15, 3) := by decide +kernel
theorem d6_43 : decode prog_31_method_6_code 43 = .ok (.sipush 32767, 3) := by decide +kernel
theorem d6_46 : decode prog_31_method_6_code 46 = .ok (.iand, 1) := by decide +kernel
theorem d6_47 : decode prog_31_method_6_code 47 = .ok (.laload, 1) := by decide +kernel
theorem d6_48 : decode prog_31_method_6_code 48 = .ok (.lreturn, 1) := by decide +kernel
theorem own_ef6_own_rm_rem1 (m : MethodId) (y0 : Addr) : entryFrame m #[(.ref y0)] 1 = mkF m 0 #[.val (.ref y0)] [] := by first | (simp [entryFrame, mkF, argsToLocals, Value.category]; done) | rfl
set_option maxRecDepth 65536 in
set_option maxHeartbeats 40000000 in
theorem own_rm_rem1 (l : Launch) (Z : State) (a0 : Array Value) (hw : ∀ d ∈ tables_1, d.before a0 Z = true) (a b d : Addr) (kb kd : ClassId) (x0 x1 x2 x3 x4 x5 x6 x7 : Int64) (h0 : Heap) (n0 : Nat) (Z0 : n0 ≤ h0.size) (E0 : Exa Z h0 a "com/example/preorders_from_tests/preordersfromtests/lts/LongList") (F1 : Fld Z h0 a "com/example/preorders_from_tests/preordersfromtests/lts/LongList" "chunks" "[[J" (.ref b)) (F2 : Fld Z h0 a "com/example/preorders_from_tests/preordersfromtests/lts/LongList" "size" "I" (.int (1 : Int32))) (VB : Arv Z h0 b kb (.array .long) (1 : Int32) [(.ref d)] .null) (VD : Arv Z h0 d kd .long (8 : Int32) [(.long x0), (.long x1), (.long x2), (.long x3), (.long x4), (.long x5), (.long x6), (.long x7)] (.long (0 : Int64))) (hbd : b ≠ d) (g_a : n0 ≤ a) :
    own_Met l Z (⟨"com/example/preorders_from_tests/preordersfromtests/lts/LongList", "removeLast", "()J"⟩ : MethodName) prog_31_method_6_code 1 (some .long) [] ({ frames := 0, cells := 0, slots := 0, locals := 0 } : Room) #[(.ref a)] h0 (fun v h L => v = some (.long x0) ∧ Fr n0 L ∧ Keep h0 h [a] ∧ Exa Z h a "com/example/preorders_from_tests/preordersfromtests/lts/LongList" ∧ Fld Z h a "com/example/preorders_from_tests/preordersfromtests/lts/LongList" "chunks" "[[J" (.ref b) ∧ Fld Z h a "com/example/preorders_from_tests/preordersfromtests/lts/LongList" "size" "I" (.int (0 : Int32))) := by
  refine own_met own_pn6 ?_
  intro p e s m below meth c s₁ hx hby hml hown hnm hret hlk hZ X0 e0
  have N0 := Fr.nil n0
  refine own_cast (own_ef6_own_rm_rem1 m a) ?_
  refine own_aloadN (n := 1) X0 hx (hb hby d6_0) rfl rfl rfl ?_
  refine own_getF (n := 4) X0 hx hZ hown (host := "") (Or.inl (ww20 hw)) Via.refl e0 F2 (hb hby d6_1) rfl ?_
  intro T1 X1 e1
  refine own_ifYes (n := 17) X1 hx (hb hby d6_4) (feq (by decide : ¬ ((1 : Int32) = (0 : Int32)))).2 (by decide) (by decide) ?_
  refine own_aloadN (n := 18) X1 hx (hb hby d6_17) rfl rfl rfl ?_
  refine own_dup (n := 19) X1 hx (hb hby d6_18) rfl rfl ?_
  refine own_getF (n := 22) X1 hx hZ hown (host := "") (Or.inl (ww20 hw)) Via.refl e1 F2 (hb hby d6_19) rfl ?_
  intro T2 X2 e2
  refine own_iconst (n := 23) (z := (1 : Int32)) X2 hx (hb hby d6_22) rfl rfl ?_
  refine own_isub (n := 24) (z := (0 : Int32)) X2 hx (hb hby d6_23) rfl rfl ?_
  refine own_putF (n := 27) X2 hx hZ hown (host := "") (Or.inl (ww20 hw)) Via.refl e2 F2 E0 (Or.inl (ww21 hw)) (ww1 hw) (ty := .int) (by decide) rfl rfl (hb hby d6_24) rfl ?_
  intro T3 h3 X3 e3 W3
  have F_4 := F2.same W3
  have N3 := Fr.snoc X3 N0 g_a
  have E_5 := E0.wr W3
  have F_6 := F1.other W3 (Or.inr (slot_ne (Or.inl (ww14 hw)) (Or.inl (ww21 hw)) (by decide) (t := (.array (.array .long))) (t' := .int) (by decide) (by decide)))
  have A_7 := VB.other W3 (Ne.symm (own_neEA E0 (ww1 hw) VB))
  have A_8 := VD.other W3 (Ne.symm (own_neEA E0 (ww1 hw) VD))
  have K_9 := (Keep.refl h0 [a]).wr W3 (Or.inl (by simp))
  have Z_10 : n0 ≤ h3.size := by rw [W3.size]; exact Z0
  refine own_aloadN (n := 28) X3 hx (hb hby d6_27) rfl rfl rfl ?_
  refine own_getF (n := 31) X3 hx hZ hown (host := "") (Or.inl (ww13 hw)) Via.refl e3 F_6 (hb hby d6_28) rfl ?_
  intro T11 X11 e11
  refine own_aloadN (n := 32) X11 hx (hb hby d6_31) rfl rfl rfl ?_
  refine own_getF (n := 35) X11 hx hZ hown (host := "") (Or.inl (ww20 hw)) Via.refl e11 F_4 (hb hby d6_32) rfl ?_
  intro T12 X12 e12
  refine own_bipush (n := 37) (z := (15 : Int32)) X12 hx (hb hby d6_35) rfl rfl ?_
  refine own_iushr (n := 38) (z := (0 : Int32)) X12 hx (hb hby d6_37) rfl rfl ?_
  refine own_ld_aaload (n := 39) (v := (.ref d)) X12 hx hZ e12 A_7 rfl ⟨by decide, by decide⟩ rfl (hb hby d6_38) rfl ?_
  refine own_aloadN (n := 40) X12 hx (hb hby d6_39) rfl rfl rfl ?_
  refine own_getF (n := 43) X12 hx hZ hown (host := "") (Or.inl (ww20 hw)) Via.refl e12 F_4 (hb hby d6_40) rfl ?_
  intro T13 X13 e13
  refine own_sipush (n := 46) (z := (32767 : Int32)) X13 hx (hb hby d6_43) rfl rfl ?_
  refine own_iand (n := 47) (z := (0 : Int32)) X13 hx (hb hby d6_46) rfl rfl ?_
  refine own_ld_laload (n := 48) (v := (.long x0)) X13 hx hZ e13 A_8 ⟨by decide, by decide⟩ rfl (hb hby d6_47) rfl ?_
  refine own_retJ X13 hx hlk hret e13 (hb hby d6_48) (by decide) (by decide) ?_
  exact ⟨rfl, N3, K_9, E_5, F_6, F_4⟩
theorem own_pd4 : parseMethodDescriptor "()J" = some ⟨[], some .long⟩ := by decide +kernel
theorem own_ef4_own_rm_add1 (m : MethodId) (y0 : Addr) (y1 : Int64) : entryFrame m #[(.ref y0), (.long y1)] 5 = mkF m 0 #[.val (.ref y0), .val (.long y1), .second, .unset, .unset] [] := by first | (simp [entryFrame, mkF, argsToLocals, Value.category]; done) | rfl
set_option maxRecDepth 65536 in
set_option maxHeartbeats 40000000 in
theorem own_rm_add1 (l : Launch) (Z : State) (a0 : Array Value) (hw : ∀ d ∈ tables_1, d.before a0 Z = true) (a b d : Addr) (kb kd : ClassId) (x0 x1 x2 x3 x4 x5 x6 x7 p1 : Int64) (h0 : Heap) (n0 : Nat) (Z0 : n0 ≤ h0.size) (E0 : Exa Z h0 a "com/example/preorders_from_tests/preordersfromtests/lts/LongList") (F1 : Fld Z h0 a "com/example/preorders_from_tests/preordersfromtests/lts/LongList" "chunks" "[[J" (.ref b)) (F2 : Fld Z h0 a "com/example/preorders_from_tests/preordersfromtests/lts/LongList" "size" "I" (.int (1 : Int32))) (VB : Arv Z h0 b kb (.array .long) (1 : Int32) [(.ref d)] .null) (VD : Arv Z h0 d kd .long (8 : Int32) [(.long x0), (.long x1), (.long x2), (.long x3), (.long x4), (.long x5), (.long x6), (.long x7)] (.long (0 : Int64))) (hbd : b ≠ d) (g_a : n0 ≤ a) (g_d : n0 ≤ d) :
    own_Met l Z (⟨"com/example/preorders_from_tests/preordersfromtests/lts/LongList", "add", "(J)V"⟩ : MethodName) prog_31_method_2_code 5 none [] ({ frames := 0, cells := 0, slots := 0, locals := 0 } : Room) #[(.ref a), (.long p1)] h0 (fun v h L => v = none ∧ Fr n0 L ∧ Keep h0 h [a, d] ∧ Exa Z h a "com/example/preorders_from_tests/preordersfromtests/lts/LongList" ∧ Fld Z h a "com/example/preorders_from_tests/preordersfromtests/lts/LongList" "chunks" "[[J" (.ref b) ∧ Fld Z h a "com/example/preorders_from_tests/preordersfromtests/lts/LongList" "size" "I" (.int (2 : Int32)) ∧ Arv Z h d kd .long (8 : Int32) [(.long x0), (.long p1), (.long x2), (.long x3), (.long x4), (.long x5), (.long x6), (.long x7)] (.long (0 : Int64))) := by
  refine own_met own_pn4 ?_
  intro p e s m below meth c s₁ hx hby hml hown hnm hret hlk hZ X0 e0
  have N0 := Fr.nil n0
  refine own_cast (own_ef4_own_rm_add1 m a p1) ?_
  refine own_aloadN (n := 1) X0 hx (hb hby d4_0) rfl rfl rfl ?_
  refine own_getF (n := 4) X0 hx hZ hown (host := "") (Or.inl (ww20 hw)) Via.refl e0 F2 (hb hby d4_1) rfl ?_
  intro T1 X1 e1
  refine own_ldc (n := 6) (v := (2147483647 : Int32)) X1 hx hZ hown (ww27 hw) (hb hby d4_4) rfl ?_
  refine own_icmpYes (n := 19) X1 hx (hb hby d4_6) (feq (by decide : ¬ ((1 : Int32) = (2147483647 : Int32)))).2 (by decide) (by decide) ?_
  refine own_aloadN (n := 20) X1 hx (hb hby d4_19) rfl rfl rfl ?_
  refine own_getF (n := 23) X1 hx hZ hown (host := "") (Or.inl (ww20 hw)) Via.refl e1 F2 (hb hby d4_20) rfl ?_
  intro T2 X2 e2
  refine own_bipush (n := 25) (z := (15 : Int32)) X2 hx (hb hby d4_23) rfl rfl ?_
  refine own_iushr (n := 26) (z := (0 : Int32)) X2 hx (hb hby d4_25) rfl rfl ?_
  refine own_istoreN (n := 27) (l' := #[.val (.ref a), .val (.long p1), .second, .val (.int (0 : Int32)), .unset]) X2 hx (hb hby d4_26) rfl rfl ?_
  refine own_aloadN (n := 28) X2 hx (hb hby d4_27) rfl rfl rfl ?_
  refine own_getF (n := 31) X2 hx hZ hown (host := "") (Or.inl (ww20 hw)) Via.refl e2 F2 (hb hby d4_28) rfl ?_
  intro T3 X3 e3
  refine own_sipush (n := 34) (z := (32767 : Int32)) X3 hx (hb hby d4_31) rfl rfl ?_
  refine own_iand (n := 35) (z := (1 : Int32)) X3 hx (hb hby d4_34) rfl rfl ?_
  refine own_istore (n := 37) (l' := #[.val (.ref a), .val (.long p1), .second, .val (.int (0 : Int32)), .val (.int (1 : Int32))]) X3 hx (hb hby d4_35) rfl rfl ?_
  refine own_iloadN (n := 38) X3 hx (hb hby d4_37) rfl rfl ?_
  refine own_aloadN (n := 39) X3 hx (hb hby d4_38) rfl rfl rfl ?_
  refine own_getF (n := 42) X3 hx hZ hown (host := "") (Or.inl (ww13 hw)) Via.refl e3 F1 (hb hby d4_39) rfl ?_
  intro T4 X4 e4
  refine own_len (n := 43) X4 hx hZ e4 VB (hb hby d4_42) rfl ?_
  refine own_icmpYes (n := 63) X4 hx (hb hby d4_43) (feq (by decide : ¬ ((0 : Int32) = (1 : Int32)))).2 (by decide) (by decide) ?_
  refine own_aloadN (n := 64) X4 hx (hb hby d4_63) rfl rfl rfl ?_
  refine own_getF (n := 67) X4 hx hZ hown (host := "") (Or.inl (ww13 hw)) Via.refl e4 F1 (hb hby d4_64) rfl ?_
  intro T5 X5 e5
  refine own_iloadN (n := 68) X5 hx (hb hby d4_67) rfl rfl ?_
  refine own_ld_aaload (n := 69) (v := (.ref d)) X5 hx hZ e5 VB rfl ⟨by decide, by decide⟩ rfl (hb hby d4_68) rfl ?_
  refine own_ifnonnullYes (n := 85) X5 hx (hb hby d4_69) (by decide) (by decide) ?_
  refine own_iload (n := 87) X5 hx (hb hby d4_85) rfl rfl ?_
  refine own_aloadN (n := 88) X5 hx (hb hby d4_87) rfl rfl rfl ?_
  refine own_getF (n := 91) X5 hx hZ hown (host := "") (Or.inl (ww13 hw)) Via.refl e5 F1 (hb hby d4_88) rfl ?_
  intro T6 X6 e6
  refine own_iloadN (n := 92) X6 hx (hb hby d4_91) rfl rfl ?_
  refine own_ld_aaload (n := 93) (v := (.ref d)) X6 hx hZ e6 VB rfl ⟨by decide, by decide⟩ rfl (hb hby d4_92) rfl ?_
  refine own_len (n := 94) X6 hx hZ e6 VD (hb hby d4_93) rfl ?_
  refine own_icmpYes (n := 116) X6 hx (hb hby d4_94) (feq (by decide : ¬ ((1 : Int32) = (8 : Int32)))).2 (by decide) (by decide) ?_
  refine own_aloadN (n := 117) X6 hx (hb hby d4_116) rfl rfl rfl ?_
  refine own_getF (n := 120) X6 hx hZ hown (host := "") (Or.inl (ww13 hw)) Via.refl e6 F1 (hb hby d4_117) rfl ?_
  intro T7 X7 e7
  refine own_iloadN (n := 121) X7 hx (hb hby d4_120) rfl rfl ?_
  refine own_ld_aaload (n := 122) (v := (.ref d)) X7 hx hZ e7 VB rfl ⟨by decide, by decide⟩ rfl (hb hby d4_121) rfl ?_
  refine own_iload (n := 124) X7 hx (hb hby d4_122) rfl rfl ?_
  refine own_lloadN (n := 125) X7 hx (hb hby d4_124) rfl rfl ?_
  refine own_st_lastore (n := 126) X7 hx hZ e7 VD ⟨by decide, by decide⟩ 1 rfl (Nat.le_of_ble_eq_true rfl) (hb hby d4_125) rfl ?_
  intro T8 h8 X8 e8 W8 V8q
  have V8 : Arv Z h8 d kd .long (8 : Int32) [(.long x0), (.long p1), (.long x2), (.long x3), (.long x4), (.long x5), (.long x6), (.long x7)] (.long (0 : Int64)) := V8q
  have N8 := Fr.snoc X8 N0 g_d
  have E_9 := E0.wr W8
  have F_10 := F1.other W8 (Or.inl (own_neEA E0 (ww1 hw) VD))
  have F_11 := F2.other W8 (Or.inl (own_neEA E0 (ww1 hw) VD))
  have A_12 := VB.other W8 hbd
  have K_13 := (Keep.refl h0 [a, d]).wr W8 (Or.inl (by simp))
  have Z_14 : n0 ≤ h8.size := by rw [W8.size]; exact Z0
  refine own_aloadN (n := 127) X8 hx (hb hby d4_126) rfl rfl rfl ?_
  refine own_dup (n := 128) X8 hx (hb hby d4_127) rfl rfl ?_
  refine own_getF (n := 131) X8 hx hZ hown (host := "") (Or.inl (ww20 hw)) Via.refl e8 F_11 (hb hby d4_128) rfl ?_
  intro T15 X15 e15
  refine own_iconst (n := 132) (z := (1 : Int32)) X15 hx (hb hby d4_131) rfl rfl ?_
  refine own_iadd (n := 133) (z := (2 : Int32)) X15 hx (hb hby d4_132) rfl rfl ?_
  refine own_putF (n := 136) X15 hx hZ hown (host := "") (Or.inl (ww20 hw)) Via.refl e15 F_11 E_9 (Or.inl (ww21 hw)) (ww1 hw) (ty := .int) (by decide) rfl rfl (hb hby d4_133) rfl ?_
  intro T16 h16 X16 e16 W16
  have F_17 := F_11.same W16
  have N16 := Fr.snoc X16 N8 g_a
  have E_18 := E_9.wr W16
  have F_19 := F_10.other W16 (Or.inr (slot_ne (Or.inl (ww14 hw)) (Or.inl (ww21 hw)) (by decide) (t := (.array (.array .long))) (t' := .int) (by decide) (by decide)))
  have A_20 := A_12.other W16 (Ne.symm (own_neEA E_9 (ww1 hw) A_12))
  have K_21 := K_13.wr W16 (Or.inl (by simp))
  have A_22 := V8.other W16 (Ne.symm (own_neEA E_9 (ww1 hw) V8))
  have Z_23 : n0 ≤ h16.size := by rw [W16.size]; exact Z_14
  refine own_retV X16 hx hlk hret e16 (hb hby d4_136) (by decide) (by decide) ?_
  exact ⟨rfl, N16, K_21, E_18, F_19, F_17, A_22⟩
theorem own_ef3_own_rm_isEmpty2 (m : MethodId) (y0 : Addr) : entryFrame m #[(.ref y0)] 1 = mkF m 0 #[.val (.ref y0)] [] := by first | (simp [entryFrame, mkF, argsToLocals, Value.category]; done) | rfl
set_option maxRecDepth 65536 in
set_option maxHeartbeats 40000000 in
theorem own_rm_isEmpty2 (l : Launch) (Z : State) (a0 : Array Value) (hw : ∀ d ∈ tables_1, d.before a0 Z = true) (a : Addr) (h0 : Heap) (n0 : Nat) (Z0 : n0 ≤ h0.size) (F1 : Fld Z h0 a "com/example/preorders_from_tests/preordersfromtests/lts/LongList" "size" "I" (.int (2 : Int32))) :
    own_Met l Z (⟨"com/example/preorders_from_tests/preordersfromtests/lts/LongList", "isEmpty", "()Z"⟩ : MethodName) prog_31_method_7_code 1 (some .boolean) [] ({ frames := 0, cells := 0, slots := 0, locals := 0 } : Room) #[(.ref a)] h0 (fun v h L => v = some (.int (0 : Int32)) ∧ Fr n0 L ∧ h = h0) := by
  refine own_met own_pn3 ?_
  intro p e s m below meth c s₁ hx hby hml hown hnm hret hlk hZ X0 e0
  have N0 := Fr.nil n0
  refine own_cast (own_ef3_own_rm_isEmpty2 m a) ?_
  refine own_aloadN (n := 1) X0 hx (hb hby d3_0) rfl rfl rfl ?_
  refine own_getF (n := 4) X0 hx hZ hown (host := "") (Or.inl (ww20 hw)) Via.refl e0 F1 (hb hby d3_1) rfl ?_
  intro T1 X1 e1
  refine own_ifYes (n := 11) X1 hx (hb hby d3_4) (feq (by decide : ¬ ((2 : Int32) = (0 : Int32)))).2 (by decide) (by decide) ?_
  refine own_iconst (n := 12) (z := (0 : Int32)) X1 hx (hb hby d3_11) rfl rfl ?_
  refine own_retZ X1 hx hlk hret (by simp) e1 (w := (0 : Int32)) rfl (hb hby d3_12) (by decide) (by decide) ?_
  exact ⟨rfl, N0, rfl⟩
theorem own_ef5_own_rm_size2 (m : MethodId) (y0 : Addr) : entryFrame m #[(.ref y0)] 1 = mkF m 0 #[.val (.ref y0)] [] := by first | (simp [entryFrame, mkF, argsToLocals, Value.category]; done) | rfl
set_option maxRecDepth 65536 in
set_option maxHeartbeats 40000000 in
theorem own_rm_size2 (l : Launch) (Z : State) (a0 : Array Value) (hw : ∀ d ∈ tables_1, d.before a0 Z = true) (a : Addr) (h0 : Heap) (n0 : Nat) (Z0 : n0 ≤ h0.size) (F1 : Fld Z h0 a "com/example/preorders_from_tests/preordersfromtests/lts/LongList" "size" "I" (.int (2 : Int32))) :
    own_Met l Z (⟨"com/example/preorders_from_tests/preordersfromtests/lts/LongList", "size", "()I"⟩ : MethodName) prog_31_method_5_code 1 (some .int) [] ({ frames := 0, cells := 0, slots := 0, locals := 0 } : Room) #[(.ref a)] h0 (fun v h L => v = some (.int (2 : Int32)) ∧ Fr n0 L ∧ h = h0) := by
  refine own_met own_pn5 ?_
  intro p e s m below meth c s₁ hx hby hml hown hnm hret hlk hZ X0 e0
  have N0 := Fr.nil n0
  refine own_cast (own_ef5_own_rm_size2 m a) ?_
  refine own_aloadN (n := 1) X0 hx (hb hby d5_0) rfl rfl rfl ?_
  refine own_getF (n := 4) X0 hx hZ hown (host := "") (Or.inl (ww20 hw)) Via.refl e0 F1 (hb hby d5_1) rfl ?_
  intro T1 X1 e1
  refine own_retI X1 hx hlk hret e1 (hb hby d5_4) (by decide) (by decide) ?_
  exact ⟨rfl, N0, rfl⟩
theorem own_ef6_own_rm_rem2 (m : MethodId) (y0 : Addr) : entryFrame m #[(.ref y0)] 1 = mkF m 0 #[.val (.ref y0)] [] := by first | (simp [entryFrame, mkF, argsToLocals, Value.category]; done) | rfl
set_option maxRecDepth 65536 in
set_option maxHeartbeats 40000000 in
theorem own_rm_rem2 (l : Launch) (Z : State) (a0 : Array Value) (hw : ∀ d ∈ tables_1, d.before a0 Z = true) (a b d : Addr) (kb kd : ClassId) (x0 x1 x2 x3 x4 x5 x6 x7 : Int64) (h0 : Heap) (n0 : Nat) (Z0 : n0 ≤ h0.size) (E0 : Exa Z h0 a "com/example/preorders_from_tests/preordersfromtests/lts/LongList") (F1 : Fld Z h0 a "com/example/preorders_from_tests/preordersfromtests/lts/LongList" "chunks" "[[J" (.ref b)) (F2 : Fld Z h0 a "com/example/preorders_from_tests/preordersfromtests/lts/LongList" "size" "I" (.int (2 : Int32))) (VB : Arv Z h0 b kb (.array .long) (1 : Int32) [(.ref d)] .null) (VD : Arv Z h0 d kd .long (8 : Int32) [(.long x0), (.long x1), (.long x2), (.long x3), (.long x4), (.long x5), (.long x6), (.long x7)] (.long (0 : Int64))) (hbd : b ≠ d) (g_a : n0 ≤ a) :
    own_Met l Z (⟨"com/example/preorders_from_tests/preordersfromtests/lts/LongList", "removeLast", "()J"⟩ : MethodName) prog_31_method_6_code 1 (some .long) [] ({ frames := 0, cells := 0, slots := 0, locals := 0 } : Room) #[(.ref a)] h0 (fun v h L => v = some (.long x1) ∧ Fr n0 L ∧ Keep h0 h [a] ∧ Exa Z h a "com/example/preorders_from_tests/preordersfromtests/lts/LongList" ∧ Fld Z h a "com/example/preorders_from_tests/preordersfromtests/lts/LongList" "chunks" "[[J" (.ref b) ∧ Fld Z h a "com/example/preorders_from_tests/preordersfromtests/lts/LongList" "size" "I" (.int (1 : Int32))) := by
  refine own_met own_pn6 ?_
  intro p e s m below meth c s₁ hx hby hml hown hnm hret hlk hZ X0 e0
  have N0 := Fr.nil n0
  refine own_cast (own_ef6_own_rm_rem2 m a) ?_
  refine own_aloadN (n := 1) X0 hx (hb hby d6_0) rfl rfl rfl ?_
  refine own_getF (n := 4) X0 hx hZ hown (host := "") (Or.inl (ww20 hw)) Via.refl e0 F2 (hb hby d6_1) rfl ?_
  intro T1 X1 e1
  refine own_ifYes (n := 17) X1 hx (hb hby d6_4) (feq (by decide : ¬ ((2 : Int32) = (0 : Int32)))).2 (by decide) (by decide) ?_
  refine own_aloadN (n := 18) X1 hx (hb hby d6_17) rfl rfl rfl ?_
  refine own_dup (n := 19) X1 hx (hb hby d6_18) rfl rfl ?_
  refine own_getF (n := 22) X1 hx hZ hown (host := "") (Or.inl (ww20 hw)) Via.refl e1 F2 (hb hby d6_19) rfl ?_
  intro T2 X2 e2
  refine own_iconst (n := 23) (z := (1 : Int32)) X2 hx (hb hby d6_22) rfl rfl ?_
  refine own_isub (n := 24) (z := (1 : Int32)) X2 hx (hb hby d6_23) rfl rfl ?_
  refine own_putF (n := 27) X2 hx hZ hown (host := "") (Or.inl (ww20 hw)) Via.refl e2 F2 E0 (Or.inl (ww21 hw)) (ww1 hw) (ty := .int) (by decide) rfl rfl (hb hby d6_24) rfl ?_
  intro T3 h3 X3 e3 W3
  have F_4 := F2.same W3
  have N3 := Fr.snoc X3 N0 g_a
  have E_5 := E0.wr W3
  have F_6 := F1.other W3 (Or.inr (slot_ne (Or.inl (ww14 hw)) (Or.inl (ww21 hw)) (by decide) (t := (.array (.array .long))) (t' := .int) (by decide) (by decide)))
  have A_7 := VB.other W3 (Ne.symm (own_neEA E0 (ww1 hw) VB))
  have A_8 := VD.other W3 (Ne.symm (own_neEA E0 (ww1 hw) VD))
  have K_9 := (Keep.refl h0 [a]).wr W3 (Or.inl (by simp))
  have Z_10 : n0 ≤ h3.size := by rw [W3.size]; exact Z0
  refine own_aloadN (n := 28) X3 hx (hb hby d6_27) rfl rfl rfl ?_
  refine own_getF (n := 31) X3 hx hZ hown (host := "") (Or.inl (ww13 hw)) Via.refl e3 F_6 (hb hby d6_28) rfl ?_
  intro T11 X11 e11
  refine own_aloadN (n := 32) X11 hx (hb hby d6_31) rfl rfl rfl ?_
  refine own_getF (n := 35) X11 hx hZ hown (host := "") (Or.inl (ww20 hw)) Via.refl e11 F_4 (hb hby d6_32) rfl ?_
  intro T12 X12 e12
  refine own_bipush (n := 37) (z := (15 : Int32)) X12 hx (hb hby d6_35) rfl rfl ?_
  refine own_iushr (n := 38) (z := (0 : Int32)) X12 hx (hb hby d6_37) rfl rfl ?_
  refine own_ld_aaload (n := 39) (v := (.ref d)) X12 hx hZ e12 A_7 rfl ⟨by decide, by decide⟩ rfl (hb hby d6_38) rfl ?_
  refine own_aloadN (n := 40) X12 hx (hb hby d6_39) rfl rfl rfl ?_
  refine own_getF (n := 43) X12 hx hZ hown (host := "") (Or.inl (ww20 hw)) Via.refl e12 F_4 (hb hby d6_40) rfl ?_
  intro T13 X13 e13
  refine own_sipush (n := 46) (z := (32767 : Int32)) X13 hx (hb hby d6_43) rfl rfl ?_
  refine own_iand (n := 47) (z := (1 : Int32)) X13 hx (hb hby d6_46) rfl rfl ?_
  refine own_ld_laload (n := 48) (v := (.long x1)) X13 hx hZ e13 A_8 ⟨by decide, by decide⟩ rfl (hb hby d6_47) rfl ?_
  refine own_retJ X13 hx hlk hret e13 (hb hby d6_48) (by decide) (by decide) ?_
  exact ⟨rfl, N3, K_9, E_5, F_6, F_4⟩
theorem own_ef4_own_rm_add2 (m : MethodId) (y0 : Addr) (y1 : Int64) : entryFrame m #[(.ref y0), (.long y1)] 5 = mkF m 0 #[.val (.ref y0), .val (.long y1), .second, .unset, .unset] [] := by first | (simp [entryFrame, mkF, argsToLocals, Value.category]; done) | rfl
set_option maxRecDepth 65536 in
set_option maxHeartbeats 40000000 in
theorem own_rm_add2 (l : Launch) (Z : State) (a0 : Array Value) (hw : ∀ d ∈ tables_1, d.before a0 Z = true) (a b d : Addr) (kb kd : ClassId) (x0 x1 x2 x3 x4 x5 x6 x7 p1 : Int64) (h0 : Heap) (n0 : Nat) (Z0 : n0 ≤ h0.size) (E0 : Exa Z h0 a "com/example/preorders_from_tests/preordersfromtests/lts/LongList") (F1 : Fld Z h0 a "com/example/preorders_from_tests/preordersfromtests/lts/LongList" "chunks" "[[J" (.ref b)) (F2 : Fld Z h0 a "com/example/preorders_from_tests/preordersfromtests/lts/LongList" "size" "I" (.int (2 : Int32))) (VB : Arv Z h0 b kb (.array .long) (1 : Int32) [(.ref d)] .null) (VD : Arv Z h0 d kd .long (8 : Int32) [(.long x0), (.long x1), (.long x2), (.long x3), (.long x4), (.long x5), (.long x6), (.long x7)] (.long (0 : Int64))) (hbd : b ≠ d) (g_a : n0 ≤ a) (g_d : n0 ≤ d) :
    own_Met l Z (⟨"com/example/preorders_from_tests/preordersfromtests/lts/LongList", "add", "(J)V"⟩ : MethodName) prog_31_method_2_code 5 none [] ({ frames := 0, cells := 0, slots := 0, locals := 0 } : Room) #[(.ref a), (.long p1)] h0 (fun v h L => v = none ∧ Fr n0 L ∧ Keep h0 h [a, d] ∧ Exa Z h a "com/example/preorders_from_tests/preordersfromtests/lts/LongList" ∧ Fld Z h a "com/example/preorders_from_tests/preordersfromtests/lts/LongList" "chunks" "[[J" (.ref b) ∧ Fld Z h a "com/example/preorders_from_tests/preordersfromtests/lts/LongList" "size" "I" (.int (3 : Int32)) ∧ Arv Z h d kd .long (8 : Int32) [(.long x0), (.long x1), (.long p1), (.long x3), (.long x4), (.long x5), (.long x6), (.long x7)] (.long (0 : Int64))) := by
  refine own_met own_pn4 ?_
  intro p e s m below meth c s₁ hx hby hml hown hnm hret hlk hZ X0 e0
  have N0 := Fr.nil n0
  refine own_cast (own_ef4_own_rm_add2 m a p1) ?_
  refine own_aloadN (n := 1) X0 hx (hb hby d4_0) rfl rfl rfl ?_
  refine own_getF (n := 4) X0 hx hZ hown (host := "") (Or.inl (ww20 hw)) Via.refl e0 F2 (hb hby d4_1) rfl ?_
  intro T1 X1 e1
  refine own_ldc (n := 6) (v := (2147483647 : Int32)) X1 hx hZ hown (ww27 hw) (hb hby d4_4) rfl ?_
  refine own_icmpYes (n := 19) X1 hx (hb hby d4_6) (feq (by decide : ¬ ((2 : Int32) = (2147483647 : Int32)))).2 (by decide) (by decide) ?_
  refine own_aloadN (n := 20) X1 hx (hb hby d4_19) rfl rfl rfl ?_
  refine own_getF (n := 23) X1 hx hZ hown (host := "") (Or.inl (ww20 hw)) Via.refl e1 F2 (hb hby d4_20) rfl ?_
  intro T2 X2 e2
  refine own_bipush (n := 25) (z := (15 : Int32)) X2 hx (hb hby d4_23) rfl rfl ?_
  refine own_iushr (n := 26) (z := (0 : Int32)) X2 hx (hb hby d4_25) rfl rfl ?_
  refine own_istoreN (n := 27) (l' := #[.val (.ref a), .val (.long p1), .second, .val (.int (0 : Int32)), .unset]) X2 hx (hb hby d4_26) rfl rfl ?_
  refine own_aloadN (n := 28) X2 hx (hb hby d4_27) rfl rfl rfl ?_
  refine own_getF (n := 31) X2 hx hZ hown (host := "") (Or.inl (ww20 hw)) Via.refl e2 F2 (hb hby d4_28) rfl ?_
  intro T3 X3 e3
  refine own_sipush (n := 34) (z := (32767 : Int32)) X3 hx (hb hby d4_31) rfl rfl ?_
  refine own_iand (n := 35) (z := (2 : Int32)) X3 hx (hb hby d4_34) rfl rfl ?_
  refine own_istore (n := 37) (l' := #[.val (.ref a), .val (.long p1), .second, .val (.int (0 : Int32)), .val (.int (2 : Int32))]) X3 hx (hb hby d4_35) rfl rfl ?_
  refine own_iloadN (n := 38) X3 hx (hb hby d4_37) rfl rfl ?_
  refine own_aloadN (n := 39) X3 hx (hb hby d4_38) rfl rfl rfl ?_
  refine own_getF (n := 42) X3 hx hZ hown (host := "") (Or.inl (ww13 hw)) Via.refl e3 F1 (hb hby d4_39) rfl ?_
  intro T4 X4 e4
  refine own_len (n := 43) X4 hx hZ e4 VB (hb hby d4_42) rfl ?_
  refine own_icmpYes (n := 63) X4 hx (hb hby d4_43) (feq (by decide : ¬ ((0 : Int32) = (1 : Int32)))).2 (by decide) (by decide) ?_
  refine own_aloadN (n := 64) X4 hx (hb hby d4_63) rfl rfl rfl ?_
  refine own_getF (n := 67) X4 hx hZ hown (host := "") (Or.inl (ww13 hw)) Via.refl e4 F1 (hb hby d4_64) rfl ?_
  intro T5 X5 e5
  refine own_iloadN (n := 68) X5 hx (hb hby d4_67) rfl rfl ?_
  refine own_ld_aaload (n := 69) (v := (.ref d)) X5 hx hZ e5 VB rfl ⟨by decide, by decide⟩ rfl (hb hby d4_68) rfl ?_
  refine own_ifnonnullYes (n := 85) X5 hx (hb hby d4_69) (by decide) (by decide) ?_
  refine own_iload (n := 87) X5 hx (hb hby d4_85) rfl rfl ?_
  refine own_aloadN (n := 88) X5 hx (hb hby d4_87) rfl rfl rfl ?_
  refine own_getF (n := 91) X5 hx hZ hown (host := "") (Or.inl (ww13 hw)) Via.refl e5 F1 (hb hby d4_88) rfl ?_
  intro T6 X6 e6
  refine own_iloadN (n := 92) X6 hx (hb hby d4_91) rfl rfl ?_
  refine own_ld_aaload (n := 93) (v := (.ref d)) X6 hx hZ e6 VB rfl ⟨by decide, by decide⟩ rfl (hb hby d4_92) rfl ?_
  refine own_len (n := 94) X6 hx hZ e6 VD (hb hby d4_93) rfl ?_
  refine own_icmpYes (n := 116) X6 hx (hb hby d4_94) (feq (by decide : ¬ ((2 : Int32) = (8 : Int32)))).2 (by decide) (by decide) ?_
  refine own_aloadN (n := 117) X6 hx (hb hby d4_116) rfl rfl rfl ?_
  refine own_getF (n := 120) X6 hx hZ hown (host := "") (Or.inl (ww13 hw)) Via.refl e6 F1 (hb hby d4_117) rfl ?_
  intro T7 X7 e7
  refine own_iloadN (n := 121) X7 hx (hb hby d4_120) rfl rfl ?_
  refine own_ld_aaload (n := 122) (v := (.ref d)) X7 hx hZ e7 VB rfl ⟨by decide, by decide⟩ rfl (hb hby d4_121) rfl ?_
  refine own_iload (n := 124) X7 hx (hb hby d4_122) rfl rfl ?_
  refine own_lloadN (n := 125) X7 hx (hb hby d4_124) rfl rfl ?_
  refine own_st_lastore (n := 126) X7 hx hZ e7 VD ⟨by decide, by decide⟩ 2 rfl (Nat.le_of_ble_eq_true rfl) (hb hby d4_125) rfl ?_
  intro T8 h8 X8 e8 W8 V8q
  have V8 : Arv Z h8 d kd .long (8 : Int32) [(.long x0), (.long x1), (.long p1), (.long x3), (.long x4), (.long x5), (.long x6), (.long x7)] (.long (0 : Int64)) := V8q
  have N8 := Fr.snoc X8 N0 g_d
  have E_9 := E0.wr W8
  have F_10 := F1.other W8 (Or.inl (own_neEA E0 (ww1 hw) VD))
  have F_11 := F2.other W8 (Or.inl (own_neEA E0 (ww1 hw) VD))
  have A_12 := VB.other W8 hbd
  have K_13 := (Keep.refl h0 [a, d]).wr W8 (Or.inl (by simp))
  have Z_14 : n0 ≤ h8.size := by rw [W8.size]; exact Z0
  refine own_aloadN (n := 127) X8 hx (hb hby d4_126) rfl rfl rfl ?_
  refine own_dup (n := 128) X8 hx (hb hby d4_127) rfl rfl ?_
  refine own_getF (n := 131) X8 hx hZ hown (host := "") (Or.inl (ww20 hw)) Via.refl e8 F_11 (hb hby d4_128) rfl ?_
  intro T15 X15 e15
  refine own_iconst (n := 132) (z := (1 : Int32)) X15 hx (hb hby d4_131) rfl rfl ?_
  refine own_iadd (n := 133) (z := (3 : Int32)) X15 hx (hb hby d4_132) rfl rfl ?_
  refine own_putF (n := 136) X15 hx hZ hown (host := "") (Or.inl (ww20 hw)) Via.refl e15 F_11 E_9 (Or.inl (ww21 hw)) (ww1 hw) (ty := .int) (by decide) rfl rfl (hb hby d4_133) rfl ?_
  intro T16 h16 X16 e16 W16
  have F_17 := F_11.same W16
  have N16 := Fr.snoc X16 N8 g_a
  have E_18 := E_9.wr W16
  have F_19 := F_10.other W16 (Or.inr (slot_ne (Or.inl (ww14 hw)) (Or.inl (ww21 hw)) (by decide) (t := (.array (.array .long))) (t' := .int) (by decide) (by decide)))
  have A_20 := A_12.other W16 (Ne.symm (own_neEA E_9 (ww1 hw) A_12))
  have K_21 := K_13.wr W16 (Or.inl (by simp))
  have A_22 := V8.other W16 (Ne.symm (own_neEA E_9 (ww1 hw) V8))
  have Z_23 : n0 ≤ h16.size := by rw [W16.size]; exact Z_14
  refine own_retV X16 hx hlk hret e16 (hb hby d4_136) (by decide) (by decide) ?_
  exact ⟨rfl, N16, K_21, E_18, F_19, F_17, A_22⟩
theorem own_ef3_own_rm_isEmpty3 (m : MethodId) (y0 : Addr) : entryFrame m #[(.ref y0)] 1 = mkF m 0 #[.val (.ref y0)] [] := by first | (simp [entryFrame, mkF, argsToLocals, Value.category]; done) | rfl
set_option maxRecDepth 65536 in
set_option maxHeartbeats 40000000 in
theorem own_rm_isEmpty3 (l : Launch) (Z : State) (a0 : Array Value) (hw : ∀ d ∈ tables_1, d.before a0 Z = true) (a : Addr) (h0 : Heap) (n0 : Nat) (Z0 : n0 ≤ h0.size) (F1 : Fld Z h0 a "com/example/preorders_from_tests/preordersfromtests/lts/LongList" "size" "I" (.int (3 : Int32))) :
    own_Met l Z (⟨"com/example/preorders_from_tests/preordersfromtests/lts/LongList", "isEmpty", "()Z"⟩ : MethodName) prog_31_method_7_code 1 (some .boolean) [] ({ frames := 0, cells := 0, slots := 0, locals := 0 } : Room) #[(.ref a)] h0 (fun v h L => v = some (.int (0 : Int32)) ∧ Fr n0 L ∧ h = h0) := by
  refine own_met own_pn3 ?_
  intro p e s m below meth c s₁ hx hby hml hown hnm hret hlk hZ X0 e0
  have N0 := Fr.nil n0
  refine own_cast (own_ef3_own_rm_isEmpty3 m a) ?_
  refine own_aloadN (n := 1) X0 hx (hb hby d3_0) rfl rfl rfl ?_
  refine own_getF (n := 4) X0 hx hZ hown (host := "") (Or.inl (ww20 hw)) Via.refl e0 F1 (hb hby d3_1) rfl ?_
  intro T1 X1 e1
  refine own_ifYes (n := 11) X1 hx (hb hby d3_4) (feq (by decide : ¬ ((3 : Int32) = (0 : Int32)))).2 (by decide) (by decide) ?_
  refine own_iconst (n := 12) (z := (0 : Int32)) X1 hx (hb hby d3_11) rfl rfl ?_
  refine own_retZ X1 hx hlk hret (by simp) e1 (w := (0 : Int32)) rfl (hb hby d3_12) (by decide) (by decide) ?_
  exact ⟨rfl, N0, rfl⟩
theorem own_ef5_own_rm_size3 (m : MethodId) (y0 : Addr) : entryFrame m #[(.ref y0)] 1 = mkF m 0 #[.val (.ref y0)] [] := by first | (simp [entryFrame, mkF, argsToLocals, Value.category]; done) | rfl
set_option maxRecDepth 65536 in
set_option maxHeartbeats 40000000 in
theorem own_rm_size3 (l : Launch) (Z : State) (a0 : Array Value) (hw : ∀ d ∈ tables_1, d.before a0 Z = true) (a : Addr) (h0 : Heap) (n0 : Nat) (Z0 : n0 ≤ h0.size) (F1 : Fld Z h0 a "com/example/preorders_from_tests/preordersfromtests/lts/LongList" "size" "I" (.int (3 : Int32))) :
    own_Met l Z (⟨"com/example/preorders_from_tests/preordersfromtests/lts/LongList", "size", "()I"⟩ : MethodName) prog_31_method_5_code 1 (some .int) [] ({ frames := 0, cells := 0, slots := 0, locals := 0 } : Room) #[(.ref a)] h0 (fun v h L => v = some (.int (3 : Int32)) ∧ Fr n0 L ∧ h = h0) := by
  refine own_met own_pn5 ?_
  intro p e s m below meth c s₁ hx hby hml hown hnm hret hlk hZ X0 e0
  have N0 := Fr.nil n0
  refine own_cast (own_ef5_own_rm_size3 m a) ?_
  refine own_aloadN (n := 1) X0 hx (hb hby d5_0) rfl rfl rfl ?_
  refine own_getF (n := 4) X0 hx hZ hown (host := "") (Or.inl (ww20 hw)) Via.refl e0 F1 (hb hby d5_1) rfl ?_
  intro T1 X1 e1
  refine own_retI X1 hx hlk hret e1 (hb hby d5_4) (by decide) (by decide) ?_
  exact ⟨rfl, N0, rfl⟩
theorem own_ef6_own_rm_rem3 (m : MethodId) (y0 : Addr) : entryFrame m #[(.ref y0)] 1 = mkF m 0 #[.val (.ref y0)] [] := by first | (simp [entryFrame, mkF, argsToLocals, Value.category]; done) | rfl
set_option maxRecDepth 65536 in
set_option maxHeartbeats 40000000 in
theorem own_rm_rem3 (l : Launch) (Z : State) (a0 : Array Value) (hw : ∀ d ∈ tables_1, d.before a0 Z = true) (a b d : Addr) (kb kd : ClassId) (x0 x1 x2 x3 x4 x5 x6 x7 : Int64) (h0 : Heap) (n0 : Nat) (Z0 : n0 ≤ h0.size) (E0 : Exa Z h0 a "com/example/preorders_from_tests/preordersfromtests/lts/LongList") (F1 : Fld Z h0 a "com/example/preorders_from_tests/preordersfromtests/lts/LongList" "chunks" "[[J" (.ref b)) (F2 : Fld Z h0 a "com/example/preorders_from_tests/preordersfromtests/lts/LongList" "size" "I" (.int (3 : Int32))) (VB : Arv Z h0 b kb (.array .long) (1 : Int32) [(.ref d)] .null) (VD : Arv Z h0 d kd .long (8 : Int32) [(.long x0), (.long x1), (.long x2), (.long x3), (.long x4), (.long x5), (.long x6), (.long x7)] (.long (0 : Int64))) (hbd : b ≠ d) (g_a : n0 ≤ a) :
    own_Met l Z (⟨"com/example/preorders_from_tests/preordersfromtests/lts/LongList", "removeLast", "()J"⟩ : MethodName) prog_31_method_6_code 1 (some .long) [] ({ frames := 0, cells := 0, slots := 0, locals := 0 } : Room) #[(.ref a)] h0 (fun v h L => v = some (.long x2) ∧ Fr n0 L ∧ Keep h0 h [a] ∧ Exa Z h a "com/example/preorders_from_tests/preordersfromtests/lts/LongList" ∧ Fld Z h a "com/example/preorders_from_tests/preordersfromtests/lts/LongList" "chunks" "[[J" (.ref b) ∧ Fld Z h a "com/example/preorders_from_tests/preordersfromtests/lts/LongList" "size" "I" (.int (2 : Int32))) := by
  refine own_met own_pn6 ?_
  intro p e s m below meth c s₁ hx hby hml hown hnm hret hlk hZ X0 e0
  have N0 := Fr.nil n0
  refine own_cast (own_ef6_own_rm_rem3 m a) ?_
  refine own_aloadN (n := 1) X0 hx (hb hby d6_0) rfl rfl rfl ?_
  refine own_getF (n := 4) X0 hx hZ hown (host := "") (Or.inl (ww20 hw)) Via.refl e0 F2 (hb hby d6_1) rfl ?_
  intro T1 X1 e1
  refine own_ifYes (n := 17) X1 hx (hb hby d6_4) (feq (by decide : ¬ ((3 : Int32) = (0 : Int32)))).2 (by decide) (by decide) ?_
  refine own_aloadN (n := 18) X1 hx (hb hby d6_17) rfl rfl rfl ?_
  refine own_dup (n := 19) X1 hx (hb hby d6_18) rfl rfl ?_
  refine own_getF (n := 22) X1 hx hZ hown (host := "") (Or.inl (ww20 hw)) Via.refl e1 F2 (hb hby d6_19) rfl ?_
  intro T2 X2 e2
  refine own_iconst (n := 23) (z := (1 : Int32)) X2 hx (hb hby d6_22) rfl rfl ?_
  refine own_isub (n := 24) (z := (2 : Int32)) X2 hx (hb hby d6_23) rfl rfl ?_
  refine own_putF (n := 27) X2 hx hZ hown (host := "") (Or.inl (ww20 hw)) Via.refl e2 F2 E0 (Or.inl (ww21 hw)) (ww1 hw) (ty := .int) (by decide) rfl rfl (hb hby d6_24) rfl ?_
  intro T3 h3 X3 e3 W3
  have F_4 := F2.same W3
  have N3 := Fr.snoc X3 N0 g_a
  have E_5 := E0.wr W3
  have F_6 := F1.other W3 (Or.inr (slot_ne (Or.inl (ww14 hw)) (Or.inl (ww21 hw)) (by decide) (t := (.array (.array .long))) (t' := .int) (by decide) (by decide)))
  have A_7 := VB.other W3 (Ne.symm (own_neEA E0 (ww1 hw) VB))
  have A_8 := VD.other W3 (Ne.symm (own_neEA E0 (ww1 hw) VD))
  have K_9 := (Keep.refl h0 [a]).wr W3 (Or.inl (by simp))
  have Z_10 : n0 ≤ h3.size := by rw [W3.size]; exact Z0
  refine own_aloadN (n := 28) X3 hx (hb hby d6_27) rfl rfl rfl ?_
  refine own_getF (n := 31) X3 hx hZ hown (host := "") (Or.inl (ww13 hw)) Via.refl e3 F_6 (hb hby d6_28) rfl ?_
  intro T11 X11 e11
  refine own_aloadN (n := 32) X11 hx (hb hby d6_31) rfl rfl rfl ?_
  refine own_getF (n := 35) X11 hx hZ hown (host := "") (Or.inl (ww20 hw)) Via.refl e11 F_4 (hb hby d6_32) rfl ?_
  intro T12 X12 e12
  refine own_bipush (n := 37) (z := (15 : Int32)) X12 hx (hb hby d6_35) rfl rfl ?_
  refine own_iushr (n := 38) (z := (0 : Int32)) X12 hx (hb hby d6_37) rfl rfl ?_
  refine own_ld_aaload (n := 39) (v := (.ref d)) X12 hx hZ e12 A_7 rfl ⟨by decide, by decide⟩ rfl (hb hby d6_38) rfl ?_
  refine own_aloadN (n := 40) X12 hx (hb hby d6_39) rfl rfl rfl ?_
  refine own_getF (n := 43) X12 hx hZ hown (host := "") (Or.inl (ww20 hw)) Via.refl e12 F_4 (hb hby d6_40) rfl ?_
  intro T13 X13 e13
  refine own_sipush (n := 46) (z := (32767 : Int32)) X13 hx (hb hby d6_43) rfl rfl ?_
  refine own_iand (n := 47) (z := (2 : Int32)) X13 hx (hb hby d6_46) rfl rfl ?_
  refine own_ld_laload (n := 48) (v := (.long x2)) X13 hx hZ e13 A_8 ⟨by decide, by decide⟩ rfl (hb hby d6_47) rfl ?_
  refine own_retJ X13 hx hlk hret e13 (hb hby d6_48) (by decide) (by decide) ?_
  exact ⟨rfl, N3, K_9, E_5, F_6, F_4⟩
theorem own_ef0_own_rm0 (m : MethodId) (y0 : Int64) (y1 : Int64) (y2 : Int64) (y3 : Int32) : entryFrame m #[(.long y0), (.long y1), (.long y2), (.int y3)] maxLocals = mkF m 0 #[.val (.long y0), .second, .val (.long y1), .second, .val (.long y2), .second, .val (.int y3), .unset, .unset, .unset, .unset, .unset, .unset] [] := by first | (simp [entryFrame, mkF, argsToLocals, Value.category, maxLocals]; done) | rfl
set_option maxRecDepth 65536 in
set_option maxHeartbeats 40000000 in
theorem own_rm0 (l : Launch) (Z : State) (a0 : Array Value) (hw : ∀ d ∈ tables_1, d.before a0 Z = true) (q0 q1 q2 : Int64) (p3 : Int32) (h0 : Heap) (n0 : Nat) (Z0 : n0 ≤ h0.size)  :
    own_Met l Z x code maxLocals ret tables_1 room_1 #[(.long q0), (.long q1), (.long q2), (.int p3)] h0 (fun v h L => v = some (.int 1) ∧ Fr n0 L) := by
  refine own_met own_pn0 ?_
  intro p e s m below meth c s₁ hx hby hml hown hnm hret hlk hZ X0 e0
  have N0 := Fr.nil n0
  refine own_cast (own_ef0_own_rm0 m q0 q1 q2 p3) ?_
  refine own_iload (n := 2) X0 hx (hb hby at_0) rfl rfl ?_
  refine own_iconst (n := 3) (z := (3 : Int32)) X0 hx (hb hby at_2) rfl rfl ?_
  refine own_iand (n := 4) X0 hx (hb hby at_3) rfl rfl ?_
  refine own_istore (n := 6) (l' := #[.val (.long q0), .second, .val (.long q1), .second, .val (.long q2), .second, .val (.int p3), .val (.int (p3 &&& (3 : Int32))), .unset, .unset, .unset, .unset, .unset]) X0 hx (hb hby at_4) rfl rfl ?_
  rcases own_and3 p3 with hs | hs | hs | hs
  · rw [hs]
    refine own_iload (n := 8) X0 hx (hb hby at_6) rfl rfl ?_
    refine own_iconst (n := 9) (z := (2 : Int32)) X0 hx (hb hby at_8) rfl rfl ?_
    refine own_iushr (n := 10) X0 hx (hb hby at_9) rfl rfl ?_
    refine own_iconst (n := 11) (z := (3 : Int32)) X0 hx (hb hby at_10) rfl rfl ?_
    refine own_iand (n := 12) X0 hx (hb hby at_11) rfl rfl ?_
    refine own_iload (n := 14) X0 hx (hb hby at_12) rfl rfl ?_
    refine own_iconst (n := 15) (z := (1 : Int32)) X0 hx (hb hby at_14) rfl rfl ?_
    refine own_iadd (n := 16) (z := (1 : Int32)) X0 hx (hb hby at_15) rfl rfl ?_
    refine own_irem (n := 17) X0 hx (hb hby at_16) (by decide) rfl ?_
    refine own_istore (n := 19) (l' := #[.val (.long q0), .second, .val (.long q1), .second, .val (.long q2), .second, .val (.int p3), .val (.int (0 : Int32)), .val (.int ((((p3).toUInt32 >>> ((2 : Int32) &&& 31).toUInt32).toInt32 &&& (3 : Int32)) % (1 : Int32))), .unset, .unset, .unset, .unset]) X0 hx (hb hby at_17) rfl rfl ?_
    rw [own_rem1]
    refine own_new (n := 22) X0 hx hZ hown (ww0 hw) (ww1 hw) (ww2 hw) e0 (hb hby at_19) (by decide) (by decide) rfl ?_
    intro T1 h1 b1 g1 X1 e1 E1 A1 D1
    have g_b1 : n0 ≤ b1 := Nat.le_trans Z0 (Nat.le_of_eq g1.symm)
    have Z_2 : n0 ≤ h1.size := Nat.le_trans Z0 E1.1
    have F_3 : Fld Z h1 b1 "com/example/preorders_from_tests/preordersfromtests/lts/LongList" "chunks" "[[J" .null := D1 (Or.inl (ww14 hw)) (ty := (.array (.array .long))) (by decide)
    have F_4 : Fld Z h1 b1 "com/example/preorders_from_tests/preordersfromtests/lts/LongList" "size" "I" (.int (0 : Int32)) := D1 (Or.inl (ww21 hw)) (ty := .int) (by decide)
    refine own_dup (n := 23) X1 hx (hb hby at_22) rfl rfl ?_
    refine own_I (n := 26) (argsL := []) (rest := [(.ref b1)]) (a := b1) (by rfl) X1 hx hZ hown (own_rmI l Z a0 hw b1 h1 n0 Z_2 A1 F_3 F_4 g_b1) (ww3 hw) (ww4 hw) (ww2 hw) (ww5 hw) (by decide) e1 (by rw [hml]; rfl) (lenOf own_pd0 rfl) rfl (hb hby at_23) (Nat.le_of_ble_eq_true rfl) (Nat.le_of_ble_eq_true rfl) (Nat.le_of_ble_eq_true rfl) (Nat.le_of_ble_eq_true rfl) rfl ?_
    rintro v5 T5 L5 X5 ⟨b5c, b5d, kb5, kd5, rfl, Nq5, K5, Eq5, Fc5, Fz5, Vb5, Vd5, nbd5, gd5⟩
    have N5 := Fr.app N0 Nq5
    have E_6 := A1.keep K5
    have Z_7 : n0 ≤ T5.heap.size := Nat.le_trans Z_2 K5.1
    change own_G p e below _ _ (mkF m 26 _ [(.ref b1)])
    refine own_astore (n := 28) (l' := #[.val (.long q0), .second, .val (.long q1), .second, .val (.long q2), .second, .val (.int p3), .val (.int (0 : Int32)), .val (.int (0 : Int32)), .val (.ref b1), .unset, .unset, .unset]) X5 hx (hb hby at_26) rfl rfl rfl ?_
    refine own_aload (n := 30) X5 hx (hb hby at_28) rfl rfl rfl ?_
    refine own_V (n := 33) (argsL := []) (rest := []) (a := b1) X5 hx hZ hown (own_rm_isEmpty0 l Z a0 hw b1 T5.heap n0 Z_7 Fz5) (ww15 hw) (ww16 hw) (notFace_of_selects (args := #[]) (mvT hZ (ww18 hw))) (ww18 hw) (ww17 hw) (ww2 hw) (ww19 hw) (by decide) rfl E_6 (by rw [hml]; rfl) (lenOf own_pd1 rfl) rfl (hb hby at_30) (Nat.le_of_ble_eq_true rfl) (Nat.le_of_ble_eq_true rfl) (Nat.le_of_ble_eq_true rfl) (Nat.le_of_ble_eq_true rfl) rfl ?_
    rintro v8 T8 L8 X8 ⟨rfl, Nq8, eq8⟩
    have N8 := Fr.app N5 Nq8
    change own_G p e below _ _ (mkF m 33 _ [(.int (1 : Int32))])
    refine own_istore (n := 35) (l' := #[.val (.long q0), .second, .val (.long q1), .second, .val (.long q2), .second, .val (.int p3), .val (.int (0 : Int32)), .val (.int (0 : Int32)), .val (.ref b1), .val (.int (1 : Int32)), .unset, .unset]) X8 hx (hb hby at_33) rfl rfl ?_
    refine own_iload (n := 37) X8 hx (hb hby at_35) rfl rfl ?_
    refine own_ifYes (n := 46) X8 hx (hb hby at_37) (flt (by decide : ¬ ((0 : Int32) < (0 : Int32)))).2.2.2 (by decide) (by decide) ?_
    refine own_iload (n := 48) X8 hx (hb hby at_46) rfl rfl ?_
    refine own_iconst (n := 49) (z := (1 : Int32)) X8 hx (hb hby at_48) rfl rfl ?_
    refine own_icmpYes (n := 58) X8 hx (hb hby at_49) (flt (by decide : ¬ ((1 : Int32) < (0 : Int32)))).2.2.2 (by decide) (by decide) ?_
    refine own_iload (n := 60) X8 hx (hb hby at_58) rfl rfl ?_
    refine own_iconst (n := 61) (z := (2 : Int32)) X8 hx (hb hby at_60) rfl rfl ?_
    refine own_icmpYes (n := 71) X8 hx (hb hby at_61) (flt (by decide : ¬ ((2 : Int32) < (0 : Int32)))).2.2.2 (by decide) (by decide) ?_
    refine own_iload (n := 73) X8 hx (hb hby at_71) rfl rfl ?_
    refine own_ifYes (n := 82) X8 hx (hb hby at_73) (flt (by decide : ¬ ((0 : Int32) < (0 : Int32)))).2.2.2 (by decide) (by decide) ?_
    refine own_iload (n := 84) X8 hx (hb hby at_82) rfl rfl ?_
    refine own_iconst (n := 85) (z := (1 : Int32)) X8 hx (hb hby at_84) rfl rfl ?_
    refine own_icmpYes (n := 94) X8 hx (hb hby at_85) (flt (by decide : ¬ ((1 : Int32) < (0 : Int32)))).2.2.2 (by decide) (by decide) ?_
    refine own_iload (n := 96) X8 hx (hb hby at_94) rfl rfl ?_
    refine own_iconst (n := 97) (z := (2 : Int32)) X8 hx (hb hby at_96) rfl rfl ?_
    refine own_icmpYes (n := 106) X8 hx (hb hby at_97) (flt (by decide : ¬ ((2 : Int32) < (0 : Int32)))).2.2.2 (by decide) (by decide) ?_
    refine own_aload (n := 108) X8 hx (hb hby at_106) rfl rfl rfl ?_
    refine own_V (n := 111) (argsL := []) (rest := []) (a := b1) X8 hx hZ hown (own_rm_isEmpty0 l Z a0 hw b1 T5.heap n0 Z_7 Fz5) (ww15 hw) (ww16 hw) (notFace_of_selects (args := #[]) (mvT hZ (ww18 hw))) (ww18 hw) (ww17 hw) (ww2 hw) (ww19 hw) (by decide) eq8 E_6 (by rw [hml]; rfl) (lenOf own_pd1 rfl) rfl (hb hby at_108) (Nat.le_of_ble_eq_true rfl) (Nat.le_of_ble_eq_true rfl) (Nat.le_of_ble_eq_true rfl) (Nat.le_of_ble_eq_true rfl) rfl ?_
    rintro v9 T9 L9 X9 ⟨rfl, Nq9, eq9⟩
    have N9 := Fr.app N8 Nq9
    change own_G p e below _ _ (mkF m 111 _ [(.int (1 : Int32))])
    refine own_istore (n := 113) (l' := #[.val (.long q0), .second, .val (.long q1), .second, .val (.long q2), .second, .val (.int p3), .val (.int (0 : Int32)), .val (.int (0 : Int32)), .val (.ref b1), .val (.int (1 : Int32)), .val (.int (1 : Int32)), .unset]) X9 hx (hb hby at_111) rfl rfl ?_
    refine own_iload (n := 115) X9 hx (hb hby at_113) rfl rfl ?_
    refine own_iload (n := 117) X9 hx (hb hby at_115) rfl rfl ?_
    refine own_isub (n := 118) (z := (0 : Int32)) X9 hx (hb hby at_117) rfl rfl ?_
    refine own_ifNo (n := 121) X9 hx (hb hby at_118) (teq (by decide : (0 : Int32) = (0 : Int32))).2 rfl ?_
    refine own_iconst (n := 122) (z := (1 : Int32)) X9 hx (hb hby at_121) rfl rfl ?_
    refine own_goto (n := 126) X9 hx (hb hby at_122) (by decide) (by decide) ?_
    refine own_istore (n := 128) (l' := #[.val (.long q0), .second, .val (.long q1), .second, .val (.long q2), .second, .val (.int p3), .val (.int (0 : Int32)), .val (.int (0 : Int32)), .val (.ref b1), .val (.int (1 : Int32)), .val (.int (1 : Int32)), .val (.int (1 : Int32))]) X9 hx (hb hby at_126) rfl rfl ?_
    refine own_iload (n := 130) X9 hx (hb hby at_128) rfl rfl ?_
    refine own_ifNo (n := 133) X9 hx (hb hby at_130) (feq (by decide : ¬ ((1 : Int32) = (0 : Int32)))).1 rfl ?_
    refine own_iload (n := 135) X9 hx (hb hby at_133) rfl rfl ?_
    refine own_iload (n := 137) X9 hx (hb hby at_135) rfl rfl ?_
    refine own_icmpNo (n := 140) X9 hx (hb hby at_137) (teq (by decide : (1 : Int32) = (1 : Int32))).2 rfl ?_
    refine own_iload (n := 142) X9 hx (hb hby at_140) rfl rfl ?_
    refine own_aload (n := 144) X9 hx (hb hby at_142) rfl rfl rfl ?_
    refine own_V (n := 147) (argsL := []) (rest := [(.int (1 : Int32))]) (a := b1) X9 hx hZ hown (own_rm_size0 l Z a0 hw b1 T5.heap n0 Z_7 Fz5) (ww28 hw) (ww29 hw) (notFace_of_selects (args := #[]) (mvT hZ (ww31 hw))) (ww31 hw) (ww30 hw) (ww2 hw) (ww32 hw) (by decide) eq9 E_6 (by rw [hml]; rfl) (lenOf own_pd2 rfl) rfl (hb hby at_144) (Nat.le_of_ble_eq_true rfl) (Nat.le_of_ble_eq_true rfl) (Nat.le_of_ble_eq_true rfl) (Nat.le_of_ble_eq_true rfl) rfl ?_
    rintro v10 T10 L10 X10 ⟨rfl, Nq10, eq10⟩
    have N10 := Fr.app N9 Nq10
    change own_G p e below _ _ (mkF m 147 _ [(.int (0 : Int32)), (.int (1 : Int32))])
    refine own_ifNo (n := 150) X10 hx (hb hby at_147) (teq (by decide : (0 : Int32) = (0 : Int32))).2 rfl ?_
    refine own_iconst (n := 151) (z := (1 : Int32)) X10 hx (hb hby at_150) rfl rfl ?_
    refine own_goto (n := 155) X10 hx (hb hby at_151) (by decide) (by decide) ?_
    refine own_icmpNo (n := 158) X10 hx (hb hby at_155) (teq (by decide : (1 : Int32) = (1 : Int32))).2 rfl ?_
    refine own_iconst (n := 159) (z := (1 : Int32)) X10 hx (hb hby at_158) rfl rfl ?_
    refine own_goto (n := 163) X10 hx (hb hby at_159) (by decide) (by decide) ?_
    refine own_retZ X10 hx hlk hret (by simp) eq10 (w := (1 : Int32)) rfl (hb hby at_163) (by decide) (by decide) ?_
    exact ⟨rfl, N10⟩
  · rw [hs]
    refine own_iload (n := 8) X0 hx (hb hby at_6) rfl rfl ?_
    refine own_iconst (n := 9) (z := (2 : Int32)) X0 hx (hb hby at_8) rfl rfl ?_
    refine own_iushr (n := 10) X0 hx (hb hby at_9) rfl rfl ?_
    refine own_iconst (n := 11) (z := (3 : Int32)) X0 hx (hb hby at_10) rfl rfl ?_
    refine own_iand (n := 12) X0 hx (hb hby at_11) rfl rfl ?_
    refine own_iload (n := 14) X0 hx (hb hby at_12) rfl rfl ?_
    refine own_iconst (n := 15) (z := (1 : Int32)) X0 hx (hb hby at_14) rfl rfl ?_
    refine own_iadd (n := 16) (z := (2 : Int32)) X0 hx (hb hby at_15) rfl rfl ?_
    refine own_irem (n := 17) X0 hx (hb hby at_16) (by decide) rfl ?_
    refine own_istore (n := 19) (l' := #[.val (.long q0), .second, .val (.long q1), .second, .val (.long q2), .second, .val (.int p3), .val (.int (1 : Int32)), .val (.int ((((p3).toUInt32 >>> ((2 : Int32) &&& 31).toUInt32).toInt32 &&& (3 : Int32)) % (2 : Int32))), .unset, .unset, .unset, .unset]) X0 hx (hb hby at_17) rfl rfl ?_
    rcases own_rem2 (((p3).toUInt32 >>> ((2 : Int32) &&& 31).toUInt32).toInt32) with hr | hr
    · rw [hr]
      refine own_new (n := 22) X0 hx hZ hown (ww0 hw) (ww1 hw) (ww2 hw) e0 (hb hby at_19) (by decide) (by decide) rfl ?_
      intro T11 h11 b11 g11 X11 e11 E11 A11 D11
      have g_b11 : n0 ≤ b11 := Nat.le_trans Z0 (Nat.le_of_eq g11.symm)
      have Z_12 : n0 ≤ h11.size := Nat.le_trans Z0 E11.1
      have F_13 : Fld Z h11 b11 "com/example/preorders_from_tests/preordersfromtests/lts/LongList" "chunks" "[[J" .null := D11 (Or.inl (ww14 hw)) (ty := (.array (.array .long))) (by decide)
      have F_14 : Fld Z h11 b11 "com/example/preorders_from_tests/preordersfromtests/lts/LongList" "size" "I" (.int (0 : Int32)) := D11 (Or.inl (ww21 hw)) (ty := .int) (by decide)
      refine own_dup (n := 23) X11 hx (hb hby at_22) rfl rfl ?_
      refine own_I (n := 26) (argsL := []) (rest := [(.ref b11)]) (a := b11) (by rfl) X11 hx hZ hown (own_rmI l Z a0 hw b11 h11 n0 Z_12 A11 F_13 F_14 g_b11) (ww3 hw) (ww4 hw) (ww2 hw) (ww5 hw) (by decide) e11 (by rw [hml]; rfl) (lenOf own_pd0 rfl) rfl (hb hby at_23) (Nat.le_of_ble_eq_true rfl) (Nat.le_of_ble_eq_true rfl) (Nat.le_of_ble_eq_true rfl) (Nat.le_of_ble_eq_true rfl) rfl ?_
      rintro v15 T15 L15 X15 ⟨b15c, b15d, kb15, kd15, rfl, Nq15, K15, Eq15, Fc15, Fz15, Vb15, Vd15, nbd15, gd15⟩
      have N15 := Fr.app N0 Nq15
      have E_16 := A11.keep K15
      have Z_17 : n0 ≤ T15.heap.size := Nat.le_trans Z_12 K15.1
      change own_G p e below _ _ (mkF m 26 _ [(.ref b11)])
      refine own_astore (n := 28) (l' := #[.val (.long q0), .second, .val (.long q1), .second, .val (.long q2), .second, .val (.int p3), .val (.int (1 : Int32)), .val (.int (0 : Int32)), .val (.ref b11), .unset, .unset, .unset]) X15 hx (hb hby at_26) rfl rfl rfl ?_
      refine own_aload (n := 30) X15 hx (hb hby at_28) rfl rfl rfl ?_
      refine own_V (n := 33) (argsL := []) (rest := []) (a := b11) X15 hx hZ hown (own_rm_isEmpty0 l Z a0 hw b11 T15.heap n0 Z_17 Fz15) (ww15 hw) (ww16 hw) (notFace_of_selects (args := #[]) (mvT hZ (ww18 hw))) (ww18 hw) (ww17 hw) (ww2 hw) (ww19 hw) (by decide) rfl E_16 (by rw [hml]; rfl) (lenOf own_pd1 rfl) rfl (hb hby at_30) (Nat.le_of_ble_eq_true rfl) (Nat.le_of_ble_eq_true rfl) (Nat.le_of_ble_eq_true rfl) (Nat.le_of_ble_eq_true rfl) rfl ?_
      rintro v18 T18 L18 X18 ⟨rfl, Nq18, eq18⟩
      have N18 := Fr.app N15 Nq18
      change own_G p e below _ _ (mkF m 33 _ [(.int (1 : Int32))])
      refine own_istore (n := 35) (l' := #[.val (.long q0), .second, .val (.long q1), .second, .val (.long q2), .second, .val (.int p3), .val (.int (1 : Int32)), .val (.int (0 : Int32)), .val (.ref b11), .val (.int (1 : Int32)), .unset, .unset]) X18 hx (hb hby at_33) rfl rfl ?_
      refine own_iload (n := 37) X18 hx (hb hby at_35) rfl rfl ?_
      refine own_ifNo (n := 40) X18 hx (hb hby at_37) (tlt (by decide : (0 : Int32) < (1 : Int32))).2.2.2 rfl ?_
      refine own_aload (n := 42) X18 hx (hb hby at_40) rfl rfl rfl ?_
      refine own_lloadN (n := 43) X18 hx (hb hby at_42) rfl rfl ?_
      refine own_V (n := 46) (argsL := [(.long q0)]) (rest := []) (a := b11) X18 hx hZ hown (own_rm_add0 l Z a0 hw b11 b15c b15d kb15 kd15 (0 : Int64) (0 : Int64) (0 : Int64) (0 : Int64) (0 : Int64) (0 : Int64) (0 : Int64) (0 : Int64) q0 T15.heap n0 Z_17 E_16 Fc15 Fz15 Vb15 Vd15 nbd15 g_b11 gd15) (ww22 hw) (ww23 hw) (notFace_of_selects (args := #[]) (mvT hZ (ww25 hw))) (ww25 hw) (ww24 hw) (ww2 hw) (ww26 hw) (by decide) eq18 E_16 (by rw [hml]; rfl) (lenOf own_pd3 rfl) rfl (hb hby at_43) (Nat.le_of_ble_eq_true rfl) (Nat.le_of_ble_eq_true rfl) (Nat.le_of_ble_eq_true rfl) (Nat.le_of_ble_eq_true rfl) rfl ?_
      rintro v19 T19 L19 X19 ⟨rfl, Nq19, K19, Eq19, Fc19, Fz19, Vd19⟩
      have N19 := Fr.app N18 Nq19
      have E_20 := E_16.keep K19
      have A_21 := Vb15.keep K19 (by simp [(Ne.symm (own_neEA E_16 (ww1 hw) Vb15)), nbd15])
      have Z_22 : n0 ≤ T19.heap.size := Nat.le_trans Z_17 K19.1
      change own_G p e below _ _ (mkF m 46 _ [])
      refine own_iload (n := 48) X19 hx (hb hby at_46) rfl rfl ?_
      refine own_iconst (n := 49) (z := (1 : Int32)) X19 hx (hb hby at_48) rfl rfl ?_
      refine own_icmpYes (n := 58) X19 hx (hb hby at_49) (flt (by decide : ¬ ((1 : Int32) < (1 : Int32)))).2.2.2 (by decide) (by decide) ?_
      refine own_iload (n := 60) X19 hx (hb hby at_58) rfl rfl ?_
      refine own_iconst (n := 61) (z := (2 : Int32)) X19 hx (hb hby at_60) rfl rfl ?_
      refine own_icmpYes (n := 71) X19 hx (hb hby at_61) (flt (by decide : ¬ ((2 : Int32) < (1 : Int32)))).2.2.2 (by decide) (by decide) ?_
      refine own_iload (n := 73) X19 hx (hb hby at_71) rfl rfl ?_
      refine own_ifYes (n := 82) X19 hx (hb hby at_73) (flt (by decide : ¬ ((0 : Int32) < (0 : Int32)))).2.2.2 (by decide) (by decide) ?_
      refine own_iload (n := 84) X19 hx (hb hby at_82) rfl rfl ?_
      refine own_iconst (n := 85) (z := (1 : Int32)) X19 hx (hb hby at_84) rfl rfl ?_
      refine own_icmpYes (n := 94) X19 hx (hb hby at_85) (flt (by decide : ¬ ((1 : Int32) < (0 : Int32)))).2.2.2 (by decide) (by decide) ?_
      refine own_iload (n := 96) X19 hx (hb hby at_94) rfl rfl ?_
      refine own_iconst (n := 97) (z := (2 : Int32)) X19 hx (hb hby at_96) rfl rfl ?_
      refine own_icmpYes (n := 106) X19 hx (hb hby at_97) (flt (by decide : ¬ ((2 : Int32) < (0 : Int32)))).2.2.2 (by decide) (by decide) ?_
      refine own_aload (n := 108) X19 hx (hb hby at_106) rfl rfl rfl ?_
      refine own_V (n := 111) (argsL := []) (rest := []) (a := b11) X19 hx hZ hown (own_rm_isEmpty1 l Z a0 hw b11 T19.heap n0 Z_22 Fz19) (ww15 hw) (ww16 hw) (notFace_of_selects (args := #[]) (mvT hZ (ww18 hw))) (ww18 hw) (ww17 hw) (ww2 hw) (ww19 hw) (by decide) rfl E_20 (by rw [hml]; rfl) (lenOf own_pd1 rfl) rfl (hb hby at_108) (Nat.le_of_ble_eq_true rfl) (Nat.le_of_ble_eq_true rfl) (Nat.le_of_ble_eq_true rfl) (Nat.le_of_ble_eq_true rfl) rfl ?_
      rintro v23 T23 L23 X23 ⟨rfl, Nq23, eq23⟩
      have N23 := Fr.app N19 Nq23
      change own_G p e below _ _ (mkF m 111 _ [(.int (0 : Int32))])
      refine own_istore (n := 113) (l' := #[.val (.long q0), .second, .val (.long q1), .second, .val (.long q2), .second, .val (.int p3), .val (.int (1 : Int32)), .val (.int (0 : Int32)), .val (.ref b11), .val (.int (1 : Int32)), .val (.int (0 : Int32)), .unset]) X23 hx (hb hby at_111) rfl rfl ?_
      refine own_iload (n := 115) X23 hx (hb hby at_113) rfl rfl ?_
      refine own_iload (n := 117) X23 hx (hb hby at_115) rfl rfl ?_
      refine own_isub (n := 118) (z := (1 : Int32)) X23 hx (hb hby at_117) rfl rfl ?_
      refine own_ifYes (n := 125) X23 hx (hb hby at_118) (feq (by decide : ¬ ((1 : Int32) = (0 : Int32)))).2 (by decide) (by decide) ?_
      refine own_iconst (n := 126) (z := (0 : Int32)) X23 hx (hb hby at_125) rfl rfl ?_
      refine own_istore (n := 128) (l' := #[.val (.long q0), .second, .val (.long q1), .second, .val (.long q2), .second, .val (.int p3), .val (.int (1 : Int32)), .val (.int (0 : Int32)), .val (.ref b11), .val (.int (1 : Int32)), .val (.int (0 : Int32)), .val (.int (0 : Int32))]) X23 hx (hb hby at_126) rfl rfl ?_
      refine own_iload (n := 130) X23 hx (hb hby at_128) rfl rfl ?_
      refine own_ifNo (n := 133) X23 hx (hb hby at_130) (feq (by decide : ¬ ((1 : Int32) = (0 : Int32)))).1 rfl ?_
      refine own_iload (n := 135) X23 hx (hb hby at_133) rfl rfl ?_
      refine own_iload (n := 137) X23 hx (hb hby at_135) rfl rfl ?_
      refine own_icmpNo (n := 140) X23 hx (hb hby at_137) (teq (by decide : (0 : Int32) = (0 : Int32))).2 rfl ?_
      refine own_iload (n := 142) X23 hx (hb hby at_140) rfl rfl ?_
      refine own_aload (n := 144) X23 hx (hb hby at_142) rfl rfl rfl ?_
      refine own_V (n := 147) (argsL := []) (rest := [(.int (0 : Int32))]) (a := b11) X23 hx hZ hown (own_rm_size1 l Z a0 hw b11 T19.heap n0 Z_22 Fz19) (ww28 hw) (ww29 hw) (notFace_of_selects (args := #[]) (mvT hZ (ww31 hw))) (ww31 hw) (ww30 hw) (ww2 hw) (ww32 hw) (by decide) eq23 E_20 (by rw [hml]; rfl) (lenOf own_pd2 rfl) rfl (hb hby at_144) (Nat.le_of_ble_eq_true rfl) (Nat.le_of_ble_eq_true rfl) (Nat.le_of_ble_eq_true rfl) (Nat.le_of_ble_eq_true rfl) rfl ?_
      rintro v24 T24 L24 X24 ⟨rfl, Nq24, eq24⟩
      have N24 := Fr.app N23 Nq24
      change own_G p e below _ _ (mkF m 147 _ [(.int (1 : Int32)), (.int (0 : Int32))])
      refine own_ifYes (n := 154) X24 hx (hb hby at_147) (feq (by decide : ¬ ((1 : Int32) = (0 : Int32)))).2 (by decide) (by decide) ?_
      refine own_iconst (n := 155) (z := (0 : Int32)) X24 hx (hb hby at_154) rfl rfl ?_
      refine own_icmpNo (n := 158) X24 hx (hb hby at_155) (teq (by decide : (0 : Int32) = (0 : Int32))).2 rfl ?_
      refine own_iconst (n := 159) (z := (1 : Int32)) X24 hx (hb hby at_158) rfl rfl ?_
      refine own_goto (n := 163) X24 hx (hb hby at_159) (by decide) (by decide) ?_
      refine own_retZ X24 hx hlk hret (by simp) eq24 (w := (1 : Int32)) rfl (hb hby at_163) (by decide) (by decide) ?_
      exact ⟨rfl, N24⟩
    · rw [hr]
      refine own_new (n := 22) X0 hx hZ hown (ww0 hw) (ww1 hw) (ww2 hw) e0 (hb hby at_19) (by decide) (by decide) rfl ?_
      intro T25 h25 b25 g25 X25 e25 E25 A25 D25
      have g_b25 : n0 ≤ b25 := Nat.le_trans Z0 (Nat.le_of_eq g25.symm)
      have Z_26 : n0 ≤ h25.size := Nat.le_trans Z0 E25.1
      have F_27 : Fld Z h25 b25 "com/example/preorders_from_tests/preordersfromtests/lts/LongList" "chunks" "[[J" .null := D25 (Or.inl (ww14 hw)) (ty := (.array (.array .long))) (by decide)
      have F_28 : Fld Z h25 b25 "com/example/preorders_from_tests/preordersfromtests/lts/LongList" "size" "I" (.int (0 : Int32)) := D25 (Or.inl (ww21 hw)) (ty := .int) (by decide)
      refine own_dup (n := 23) X25 hx (hb hby at_22) rfl rfl ?_
      refine own_I (n := 26) (argsL := []) (rest := [(.ref b25)]) (a := b25) (by rfl) X25 hx hZ hown (own_rmI l Z a0 hw b25 h25 n0 Z_26 A25 F_27 F_28 g_b25) (ww3 hw) (ww4 hw) (ww2 hw) (ww5 hw) (by decide) e25 (by rw [hml]; rfl) (lenOf own_pd0 rfl) rfl (hb hby at_23) (Nat.le_of_ble_eq_true rfl) (Nat.le_of_ble_eq_true rfl) (Nat.le_of_ble_eq_true rfl) (Nat.le_of_ble_eq_true rfl) rfl ?_
      rintro v29 T29 L29 X29 ⟨b29c, b29d, kb29, kd29, rfl, Nq29, K29, Eq29, Fc29, Fz29, Vb29, Vd29, nbd29, gd29⟩
      have N29 := Fr.app N0 Nq29
      have E_30 := A25.keep K29
      have Z_31 : n0 ≤ T29.heap.size := Nat.le_trans Z_26 K29.1
      change own_G p e below _ _ (mkF m 26 _ [(.ref b25)])
      refine own_astore (n := 28) (l' := #[.val (.long q0), .second, .val (.long q1), .second, .val (.long q2), .second, .val (.int p3), .val (.int (1 : Int32)), .val (.int (1 : Int32)), .val (.ref b25), .unset, .unset, .unset]) X29 hx (hb hby at_26) rfl rfl rfl ?_
      refine own_aload (n := 30) X29 hx (hb hby at_28) rfl rfl rfl ?_
      refine own_V (n := 33) (argsL := []) (rest := []) (a := b25) X29 hx hZ hown (own_rm_isEmpty0 l Z a0 hw b25 T29.heap n0 Z_31 Fz29) (ww15 hw) (ww16 hw) (notFace_of_selects (args := #[]) (mvT hZ (ww18 hw))) (ww18 hw) (ww17 hw) (ww2 hw) (ww19 hw) (by decide) rfl E_30 (by rw [hml]; rfl) (lenOf own_pd1 rfl) rfl (hb hby at_30) (Nat.le_of_ble_eq_true rfl) (Nat.le_of_ble_eq_true rfl) (Nat.le_of_ble_eq_true rfl) (Nat.le_of_ble_eq_true rfl) rfl ?_
      rintro v32 T32 L32 X32 ⟨rfl, Nq32, eq32⟩
      have N32 := Fr.app N29 Nq32
      change own_G p e below _ _ (mkF m 33 _ [(.int (1 : Int32))])
      refine own_istore (n := 35) (l' := #[.val (.long q0), .second, .val (.long q1), .second, .val (.long q2), .second, .val (.int p3), .val (.int (1 : Int32)), .val (.int (1 : Int32)), .val (.ref b25), .val (.int (1 : Int32)), .unset, .unset]) X32 hx (hb hby at_33) rfl rfl ?_
      refine own_iload (n := 37) X32 hx (hb hby at_35) rfl rfl ?_
      refine own_ifNo (n := 40) X32 hx (hb hby at_37) (tlt (by decide : (0 : Int32) < (1 : Int32))).2.2.2 rfl ?_
      refine own_aload (n := 42) X32 hx (hb hby at_40) rfl rfl rfl ?_
      refine own_lloadN (n := 43) X32 hx (hb hby at_42) rfl rfl ?_
      refine own_V (n := 46) (argsL := [(.long q0)]) (rest := []) (a := b25) X32 hx hZ hown (own_rm_add0 l Z a0 hw b25 b29c b29d kb29 kd29 (0 : Int64) (0 : Int64) (0 : Int64) (0 : Int64) (0 : Int64) (0 : Int64) (0 : Int64) (0 : Int64) q0 T29.heap n0 Z_31 E_30 Fc29 Fz29 Vb29 Vd29 nbd29 g_b25 gd29) (ww22 hw) (ww23 hw) (notFace_of_selects (args := #[]) (mvT hZ (ww25 hw))) (ww25 hw) (ww24 hw) (ww2 hw) (ww26 hw) (by decide) eq32 E_30 (by rw [hml]; rfl) (lenOf own_pd3 rfl) rfl (hb hby at_43) (Nat.le_of_ble_eq_true rfl) (Nat.le_of_ble_eq_true rfl) (Nat.le_of_ble_eq_true rfl) (Nat.le_of_ble_eq_true rfl) rfl ?_
      rintro v33 T33 L33 X33 ⟨rfl, Nq33, K33, Eq33, Fc33, Fz33, Vd33⟩
      have N33 := Fr.app N32 Nq33
      have E_34 := E_30.keep K33
      have A_35 := Vb29.keep K33 (by simp [(Ne.symm (own_neEA E_30 (ww1 hw) Vb29)), nbd29])
      have Z_36 : n0 ≤ T33.heap.size := Nat.le_trans Z_31 K33.1
      change own_G p e below _ _ (mkF m 46 _ [])
      refine own_iload (n := 48) X33 hx (hb hby at_46) rfl rfl ?_
      refine own_iconst (n := 49) (z := (1 : Int32)) X33 hx (hb hby at_48) rfl rfl ?_
      refine own_icmpYes (n := 58) X33 hx (hb hby at_49) (flt (by decide : ¬ ((1 : Int32) < (1 : Int32)))).2.2.2 (by decide) (by decide) ?_
      refine own_iload (n := 60) X33 hx (hb hby at_58) rfl rfl ?_
      refine own_iconst (n := 61) (z := (2 : Int32)) X33 hx (hb hby at_60) rfl rfl ?_
      refine own_icmpYes (n := 71) X33 hx (hb hby at_61) (flt (by decide : ¬ ((2 : Int32) < (1 : Int32)))).2.2.2 (by decide) (by decide) ?_
      refine own_iload (n := 73) X33 hx (hb hby at_71) rfl rfl ?_
      refine own_ifNo (n := 76) X33 hx (hb hby at_73) (tlt (by decide : (0 : Int32) < (1 : Int32))).2.2.2 rfl ?_
      refine own_aload (n := 78) X33 hx (hb hby at_76) rfl rfl rfl ?_
      refine own_V (n := 81) (argsL := []) (rest := []) (a := b25) X33 hx hZ hown (own_rm_rem1 l Z a0 hw b25 b29c b29d kb29 kd29 q0 (0 : Int64) (0 : Int64) (0 : Int64) (0 : Int64) (0 : Int64) (0 : Int64) (0 : Int64) T33.heap n0 Z_36 E_34 Fc33 Fz33 A_35 Vd33 nbd29 g_b25) (ww33 hw) (ww34 hw) (notFace_of_selects (args := #[]) (mvT hZ (ww36 hw))) (ww36 hw) (ww35 hw) (ww2 hw) (ww37 hw) (by decide) rfl E_34 (by rw [hml]; rfl) (lenOf own_pd4 rfl) rfl (hb hby at_78) (Nat.le_of_ble_eq_true rfl) (Nat.le_of_ble_eq_true rfl) (Nat.le_of_ble_eq_true rfl) (Nat.le_of_ble_eq_true rfl) rfl ?_
      rintro v37 T37 L37 X37 ⟨rfl, Nq37, K37, Eq37, Fc37, Fz37⟩
      have N37 := Fr.app N33 Nq37
      have E_38 := E_34.keep K37
      have A_39 := A_35.keep K37 (by simp [(Ne.symm (own_neEA E_34 (ww1 hw) A_35))])
      have A_40 := Vd33.keep K37 (by simp [(Ne.symm (own_neEA E_34 (ww1 hw) Vd33))])
      have Z_41 : n0 ≤ T37.heap.size := Nat.le_trans Z_36 K37.1
      change own_G p e below _ _ (mkF m 81 _ [(.long q0)])
      refine own_pop2 (n := 82) X37 hx (hb hby at_81) rfl ?_
      refine own_iload (n := 84) X37 hx (hb hby at_82) rfl rfl ?_
      refine own_iconst (n := 85) (z := (1 : Int32)) X37 hx (hb hby at_84) rfl rfl ?_
      refine own_icmpYes (n := 94) X37 hx (hb hby at_85) (flt (by decide : ¬ ((1 : Int32) < (1 : Int32)))).2.2.2 (by decide) (by decide) ?_
      refine own_iload (n := 96) X37 hx (hb hby at_94) rfl rfl ?_
      refine own_iconst (n := 97) (z := (2 : Int32)) X37 hx (hb hby at_96) rfl rfl ?_
      refine own_icmpYes (n := 106) X37 hx (hb hby at_97) (flt (by decide : ¬ ((2 : Int32) < (1 : Int32)))).2.2.2 (by decide) (by decide) ?_
      refine own_aload (n := 108) X37 hx (hb hby at_106) rfl rfl rfl ?_
      refine own_V (n := 111) (argsL := []) (rest := []) (a := b25) X37 hx hZ hown (own_rm_isEmpty0 l Z a0 hw b25 T37.heap n0 Z_41 Fz37) (ww15 hw) (ww16 hw) (notFace_of_selects (args := #[]) (mvT hZ (ww18 hw))) (ww18 hw) (ww17 hw) (ww2 hw) (ww19 hw) (by decide) rfl E_38 (by rw [hml]; rfl) (lenOf own_pd1 rfl) rfl (hb hby at_108) (Nat.le_of_ble_eq_true rfl) (Nat.le_of_ble_eq_true rfl) (Nat.le_of_ble_eq_true rfl) (Nat.le_of_ble_eq_true rfl) rfl ?_
      rintro v42 T42 L42 X42 ⟨rfl, Nq42, eq42⟩
      have N42 := Fr.app N37 Nq42
      change own_G p e below _ _ (mkF m 111 _ [(.int (1 : Int32))])
      refine own_istore (n := 113) (l' := #[.val (.long q0), .second, .val (.long q1), .second, .val (.long q2), .second, .val (.int p3), .val (.int (1 : Int32)), .val (.int (1 : Int32)), .val (.ref b25), .val (.int (1 : Int32)), .val (.int (1 : Int32)), .unset]) X42 hx (hb hby at_111) rfl rfl ?_
      refine own_iload (n := 115) X42 hx (hb hby at_113) rfl rfl ?_
      refine own_iload (n := 117) X42 hx (hb hby at_115) rfl rfl ?_
      refine own_isub (n := 118) (z := (0 : Int32)) X42 hx (hb hby at_117) rfl rfl ?_
      refine own_ifNo (n := 121) X42 hx (hb hby at_118) (teq (by decide : (0 : Int32) = (0 : Int32))).2 rfl ?_
      refine own_iconst (n := 122) (z := (1 : Int32)) X42 hx (hb hby at_121) rfl rfl ?_
      refine own_goto (n := 126) X42 hx (hb hby at_122) (by decide) (by decide) ?_
      refine own_istore (n := 128) (l' := #[.val (.long q0), .second, .val (.long q1), .second, .val (.long q2), .second, .val (.int p3), .val (.int (1 : Int32)), .val (.int (1 : Int32)), .val (.ref b25), .val (.int (1 : Int32)), .val (.int (1 : Int32)), .val (.int (1 : Int32))]) X42 hx (hb hby at_126) rfl rfl ?_
      refine own_iload (n := 130) X42 hx (hb hby at_128) rfl rfl ?_
      refine own_ifNo (n := 133) X42 hx (hb hby at_130) (feq (by decide : ¬ ((1 : Int32) = (0 : Int32)))).1 rfl ?_
      refine own_iload (n := 135) X42 hx (hb hby at_133) rfl rfl ?_
      refine own_iload (n := 137) X42 hx (hb hby at_135) rfl rfl ?_
      refine own_icmpNo (n := 140) X42 hx (hb hby at_137) (teq (by decide : (1 : Int32) = (1 : Int32))).2 rfl ?_
      refine own_iload (n := 142) X42 hx (hb hby at_140) rfl rfl ?_
      refine own_aload (n := 144) X42 hx (hb hby at_142) rfl rfl rfl ?_
      refine own_V (n := 147) (argsL := []) (rest := [(.int (1 : Int32))]) (a := b25) X42 hx hZ hown (own_rm_size0 l Z a0 hw b25 T37.heap n0 Z_41 Fz37) (ww28 hw) (ww29 hw) (notFace_of_selects (args := #[]) (mvT hZ (ww31 hw))) (ww31 hw) (ww30 hw) (ww2 hw) (ww32 hw) (by decide) eq42 E_38 (by rw [hml]; rfl) (lenOf own_pd2 rfl) rfl (hb hby at_144) (Nat.le_of_ble_eq_true rfl) (Nat.le_of_ble_eq_true rfl) (Nat.le_of_ble_eq_true rfl) (Nat.le_of_ble_eq_true rfl) rfl ?_
      rintro v43 T43 L43 X43 ⟨rfl, Nq43, eq43⟩
      have N43 := Fr.app N42 Nq43
      change own_G p e below _ _ (mkF m 147 _ [(.int (0 : Int32)), (.int (1 : Int32))])
      refine own_ifNo (n := 150) X43 hx (hb hby at_147) (teq (by decide : (0 : Int32) = (0 : Int32))).2 rfl ?_
      refine own_iconst (n := 151) (z := (1 : Int32)) X43 hx (hb hby at_150) rfl rfl ?_
      refine own_goto (n := 155) X43 hx (hb hby at_151) (by decide) (by decide) ?_
      refine own_icmpNo (n := 158) X43 hx (hb hby at_155) (teq (by decide : (1 : Int32) = (1 : Int32))).2 rfl ?_
      refine own_iconst (n := 159) (z := (1 : Int32)) X43 hx (hb hby at_158) rfl rfl ?_
      refine own_goto (n := 163) X43 hx (hb hby at_159) (by decide) (by decide) ?_
      refine own_retZ X43 hx hlk hret (by simp) eq43 (w := (1 : Int32)) rfl (hb hby at_163) (by decide) (by decide) ?_
      exact ⟨rfl, N43⟩
  · rw [hs]
    refine own_iload (n := 8) X0 hx (hb hby at_6) rfl rfl ?_
    refine own_iconst (n := 9) (z := (2 : Int32)) X0 hx (hb hby at_8) rfl rfl ?_
    refine own_iushr (n := 10) X0 hx (hb hby at_9) rfl rfl ?_
    refine own_iconst (n := 11) (z := (3 : Int32)) X0 hx (hb hby at_10) rfl rfl ?_
    refine own_iand (n := 12) X0 hx (hb hby at_11) rfl rfl ?_
    refine own_iload (n := 14) X0 hx (hb hby at_12) rfl rfl ?_
    refine own_iconst (n := 15) (z := (1 : Int32)) X0 hx (hb hby at_14) rfl rfl ?_
    refine own_iadd (n := 16) (z := (3 : Int32)) X0 hx (hb hby at_15) rfl rfl ?_
    refine own_irem (n := 17) X0 hx (hb hby at_16) (by decide) rfl ?_
    refine own_istore (n := 19) (l' := #[.val (.long q0), .second, .val (.long q1), .second, .val (.long q2), .second, .val (.int p3), .val (.int (2 : Int32)), .val (.int ((((p3).toUInt32 >>> ((2 : Int32) &&& 31).toUInt32).toInt32 &&& (3 : Int32)) % (3 : Int32))), .unset, .unset, .unset, .unset]) X0 hx (hb hby at_17) rfl rfl ?_
    rcases own_rem3 (((p3).toUInt32 >>> ((2 : Int32) &&& 31).toUInt32).toInt32) with hr | hr | hr
    · rw [hr]
      refine own_new (n := 22) X0 hx hZ hown (ww0 hw) (ww1 hw) (ww2 hw) e0 (hb hby at_19) (by decide) (by decide) rfl ?_
      intro T44 h44 b44 g44 X44 e44 E44 A44 D44
      have g_b44 : n0 ≤ b44 := Nat.le_trans Z0 (Nat.le_of_eq g44.symm)
      have Z_45 : n0 ≤ h44.size := Nat.le_trans Z0 E44.1
      have F_46 : Fld Z h44 b44 "com/example/preorders_from_tests/preordersfromtests/lts/LongList" "chunks" "[[J" .null := D44 (Or.inl (ww14 hw)) (ty := (.array (.array .long))) (by decide)
      have F_47 : Fld Z h44 b44 "com/example/preorders_from_tests/preordersfromtests/lts/LongList" "size" "I" (.int (0 : Int32)) := D44 (Or.inl (ww21 hw)) (ty := .int) (by decide)
      refine own_dup (n := 23) X44 hx (hb hby at_22) rfl rfl ?_
      refine own_I (n := 26) (argsL := []) (rest := [(.ref b44)]) (a := b44) (by rfl) X44 hx hZ hown (own_rmI l Z a0 hw b44 h44 n0 Z_45 A44 F_46 F_47 g_b44) (ww3 hw) (ww4 hw) (ww2 hw) (ww5 hw) (by decide) e44 (by rw [hml]; rfl) (lenOf own_pd0 rfl) rfl (hb hby at_23) (Nat.le_of_ble_eq_true rfl) (Nat.le_of_ble_eq_true rfl) (Nat.le_of_ble_eq_true rfl) (Nat.le_of_ble_eq_true rfl) rfl ?_
      rintro v48 T48 L48 X48 ⟨b48c, b48d, kb48, kd48, rfl, Nq48, K48, Eq48, Fc48, Fz48, Vb48, Vd48, nbd48, gd48⟩
      have N48 := Fr.app N0 Nq48
      have E_49 := A44.keep K48
      have Z_50 : n0 ≤ T48.heap.size := Nat.le_trans Z_45 K48.1
      change own_G p e below _ _ (mkF m 26 _ [(.ref b44)])
      refine own_astore (n := 28) (l' := #[.val (.long q0), .second, .val (.long q1), .second, .val (.long q2), .second, .val (.int p3), .val (.int (2 : Int32)), .val (.int (0 : Int32)), .val (.ref b44), .unset, .unset, .unset]) X48 hx (hb hby at_26) rfl rfl rfl ?_
      refine own_aload (n := 30) X48 hx (hb hby at_28) rfl rfl rfl ?_
      refine own_V (n := 33) (argsL := []) (rest := []) (a := b44) X48 hx hZ hown (own_rm_isEmpty0 l Z a0 hw b44 T48.heap n0 Z_50 Fz48) (ww15 hw) (ww16 hw) (notFace_of_selects (args := #[]) (mvT hZ (ww18 hw))) (ww18 hw) (ww17 hw) (ww2 hw) (ww19 hw) (by decide) rfl E_49 (by rw [hml]; rfl) (lenOf own_pd1 rfl) rfl (hb hby at_30) (Nat.le_of_ble_eq_true rfl) (Nat.le_of_ble_eq_true rfl) (Nat.le_of_ble_eq_true rfl) (Nat.le_of_ble_eq_true rfl) rfl ?_
      rintro v51 T51 L51 X51 ⟨rfl, Nq51, eq51⟩
      have N51 := Fr.app N48 Nq51
      change own_G p e below _ _ (mkF m 33 _ [(.int (1 : Int32))])
      refine own_istore (n := 35) (l' := #[.val (.long q0), .second, .val (.long q1), .second, .val (.long q2), .second, .val (.int p3), .val (.int (2 : Int32)), .val (.int (0 : Int32)), .val (.ref b44), .val (.int (1 : Int32)), .unset, .unset]) X51 hx (hb hby at_33) rfl rfl ?_
      refine own_iload (n := 37) X51 hx (hb hby at_35) rfl rfl ?_
      refine own_ifNo (n := 40) X51 hx (hb hby at_37) (tlt (by decide : (0 : Int32) < (2 : Int32))).2.2.2 rfl ?_
      refine own_aload (n := 42) X51 hx (hb hby at_40) rfl rfl rfl ?_
      refine own_lloadN (n := 43) X51 hx (hb hby at_42) rfl rfl ?_
      refine own_V (n := 46) (argsL := [(.long q0)]) (rest := []) (a := b44) X51 hx hZ hown (own_rm_add0 l Z a0 hw b44 b48c b48d kb48 kd48 (0 : Int64) (0 : Int64) (0 : Int64) (0 : Int64) (0 : Int64) (0 : Int64) (0 : Int64) (0 : Int64) q0 T48.heap n0 Z_50 E_49 Fc48 Fz48 Vb48 Vd48 nbd48 g_b44 gd48) (ww22 hw) (ww23 hw) (notFace_of_selects (args := #[]) (mvT hZ (ww25 hw))) (ww25 hw) (ww24 hw) (ww2 hw) (ww26 hw) (by decide) eq51 E_49 (by rw [hml]; rfl) (lenOf own_pd3 rfl) rfl (hb hby at_43) (Nat.le_of_ble_eq_true rfl) (Nat.le_of_ble_eq_true rfl) (Nat.le_of_ble_eq_true rfl) (Nat.le_of_ble_eq_true rfl) rfl ?_
      rintro v52 T52 L52 X52 ⟨rfl, Nq52, K52, Eq52, Fc52, Fz52, Vd52⟩
      have N52 := Fr.app N51 Nq52
      have E_53 := E_49.keep K52
      have A_54 := Vb48.keep K52 (by simp [(Ne.symm (own_neEA E_49 (ww1 hw) Vb48)), nbd48])
      have Z_55 : n0 ≤ T52.heap.size := Nat.le_trans Z_50 K52.1
      change own_G p e below _ _ (mkF m 46 _ [])
      refine own_iload (n := 48) X52 hx (hb hby at_46) rfl rfl ?_
      refine own_iconst (n := 49) (z := (1 : Int32)) X52 hx (hb hby at_48) rfl rfl ?_
      refine own_icmpNo (n := 52) X52 hx (hb hby at_49) (tlt (by decide : (1 : Int32) < (2 : Int32))).2.2.2 rfl ?_
      refine own_aload (n := 54) X52 hx (hb hby at_52) rfl rfl rfl ?_
      refine own_lloadN (n := 55) X52 hx (hb hby at_54) rfl rfl ?_
      refine own_V (n := 58) (argsL := [(.long q1)]) (rest := []) (a := b44) X52 hx hZ hown (own_rm_add1 l Z a0 hw b44 b48c b48d kb48 kd48 q0 (0 : Int64) (0 : Int64) (0 : Int64) (0 : Int64) (0 : Int64) (0 : Int64) (0 : Int64) q1 T52.heap n0 Z_55 E_53 Fc52 Fz52 A_54 Vd52 nbd48 g_b44 gd48) (ww22 hw) (ww23 hw) (notFace_of_selects (args := #[]) (mvT hZ (ww25 hw))) (ww25 hw) (ww24 hw) (ww2 hw) (ww26 hw) (by decide) rfl E_53 (by rw [hml]; rfl) (lenOf own_pd3 rfl) rfl (hb hby at_55) (Nat.le_of_ble_eq_true rfl) (Nat.le_of_ble_eq_true rfl) (Nat.le_of_ble_eq_true rfl) (Nat.le_of_ble_eq_true rfl) rfl ?_
      rintro v56 T56 L56 X56 ⟨rfl, Nq56, K56, Eq56, Fc56, Fz56, Vd56⟩
      have N56 := Fr.app N52 Nq56
      have E_57 := E_53.keep K56
      have A_58 := A_54.keep K56 (by simp [(Ne.symm (own_neEA E_53 (ww1 hw) A_54)), nbd48])
      have Z_59 : n0 ≤ T56.heap.size := Nat.le_trans Z_55 K56.1
      change own_G p e below _ _ (mkF m 58 _ [])
      refine own_iload (n := 60) X56 hx (hb hby at_58) rfl rfl ?_
      refine own_iconst (n := 61) (z := (2 : Int32)) X56 hx (hb hby at_60) rfl rfl ?_
      refine own_icmpYes (n := 71) X56 hx (hb hby at_61) (flt (by decide : ¬ ((2 : Int32) < (2 : Int32)))).2.2.2 (by decide) (by decide) ?_
      refine own_iload (n := 73) X56 hx (hb hby at_71) rfl rfl ?_
      refine own_ifYes (n := 82) X56 hx (hb hby at_73) (flt (by decide : ¬ ((0 : Int32) < (0 : Int32)))).2.2.2 (by decide) (by decide) ?_
      refine own_iload (n := 84) X56 hx (hb hby at_82) rfl rfl ?_
      refine own_iconst (n := 85) (z := (1 : Int32)) X56 hx (hb hby at_84) rfl rfl ?_
      refine own_icmpYes (n := 94) X56 hx (hb hby at_85) (flt (by decide : ¬ ((1 : Int32) < (0 : Int32)))).2.2.2 (by decide) (by decide) ?_
      refine own_iload (n := 96) X56 hx (hb hby at_94) rfl rfl ?_
      refine own_iconst (n := 97) (z := (2 : Int32)) X56 hx (hb hby at_96) rfl rfl ?_
      refine own_icmpYes (n := 106) X56 hx (hb hby at_97) (flt (by decide : ¬ ((2 : Int32) < (0 : Int32)))).2.2.2 (by decide) (by decide) ?_
      refine own_aload (n := 108) X56 hx (hb hby at_106) rfl rfl rfl ?_
      refine own_V (n := 111) (argsL := []) (rest := []) (a := b44) X56 hx hZ hown (own_rm_isEmpty2 l Z a0 hw b44 T56.heap n0 Z_59 Fz56) (ww15 hw) (ww16 hw) (notFace_of_selects (args := #[]) (mvT hZ (ww18 hw))) (ww18 hw) (ww17 hw) (ww2 hw) (ww19 hw) (by decide) rfl E_57 (by rw [hml]; rfl) (lenOf own_pd1 rfl) rfl (hb hby at_108) (Nat.le_of_ble_eq_true rfl) (Nat.le_of_ble_eq_true rfl) (Nat.le_of_ble_eq_true rfl) (Nat.le_of_ble_eq_true rfl) rfl ?_
      rintro v60 T60 L60 X60 ⟨rfl, Nq60, eq60⟩
      have N60 := Fr.app N56 Nq60
      change own_G p e below _ _ (mkF m 111 _ [(.int (0 : Int32))])
      refine own_istore (n := 113) (l' := #[.val (.long q0), .second, .val (.long q1), .second, .val (.long q2), .second, .val (.int p3), .val (.int (2 : Int32)), .val (.int (0 : Int32)), .val (.ref b44), .val (.int (1 : Int32)), .val (.int (0 : Int32)), .unset]) X60 hx (hb hby at_111) rfl rfl ?_
      refine own_iload (n := 115) X60 hx (hb hby at_113) rfl rfl ?_
      refine own_iload (n := 117) X60 hx (hb hby at_115) rfl rfl ?_
      refine own_isub (n := 118) (z := (2 : Int32)) X60 hx (hb hby at_117) rfl rfl ?_
      refine own_ifYes (n := 125) X60 hx (hb hby at_118) (feq (by decide : ¬ ((2 : Int32) = (0 : Int32)))).2 (by decide) (by decide) ?_
      refine own_iconst (n := 126) (z := (0 : Int32)) X60 hx (hb hby at_125) rfl rfl ?_
      refine own_istore (n := 128) (l' := #[.val (.long q0), .second, .val (.long q1), .second, .val (.long q2), .second, .val (.int p3), .val (.int (2 : Int32)), .val (.int (0 : Int32)), .val (.ref b44), .val (.int (1 : Int32)), .val (.int (0 : Int32)), .val (.int (0 : Int32))]) X60 hx (hb hby at_126) rfl rfl ?_
      refine own_iload (n := 130) X60 hx (hb hby at_128) rfl rfl ?_
      refine own_ifNo (n := 133) X60 hx (hb hby at_130) (feq (by decide : ¬ ((1 : Int32) = (0 : Int32)))).1 rfl ?_
      refine own_iload (n := 135) X60 hx (hb hby at_133) rfl rfl ?_
      refine own_iload (n := 137) X60 hx (hb hby at_135) rfl rfl ?_
      refine own_icmpNo (n := 140) X60 hx (hb hby at_137) (teq (by decide : (0 : Int32) = (0 : Int32))).2 rfl ?_
      refine own_iload (n := 142) X60 hx (hb hby at_140) rfl rfl ?_
      refine own_aload (n := 144) X60 hx (hb hby at_142) rfl rfl rfl ?_
      refine own_V (n := 147) (argsL := []) (rest := [(.int (0 : Int32))]) (a := b44) X60 hx hZ hown (own_rm_size2 l Z a0 hw b44 T56.heap n0 Z_59 Fz56) (ww28 hw) (ww29 hw) (notFace_of_selects (args := #[]) (mvT hZ (ww31 hw))) (ww31 hw) (ww30 hw) (ww2 hw) (ww32 hw) (by decide) eq60 E_57 (by rw [hml]; rfl) (lenOf own_pd2 rfl) rfl (hb hby at_144) (Nat.le_of_ble_eq_true rfl) (Nat.le_of_ble_eq_true rfl) (Nat.le_of_ble_eq_true rfl) (Nat.le_of_ble_eq_true rfl) rfl ?_
      rintro v61 T61 L61 X61 ⟨rfl, Nq61, eq61⟩
      have N61 := Fr.app N60 Nq61
      change own_G p e below _ _ (mkF m 147 _ [(.int (2 : Int32)), (.int (0 : Int32))])
      refine own_ifYes (n := 154) X61 hx (hb hby at_147) (feq (by decide : ¬ ((2 : Int32) = (0 : Int32)))).2 (by decide) (by decide) ?_
      refine own_iconst (n := 155) (z := (0 : Int32)) X61 hx (hb hby at_154) rfl rfl ?_
      refine own_icmpNo (n := 158) X61 hx (hb hby at_155) (teq (by decide : (0 : Int32) = (0 : Int32))).2 rfl ?_
      refine own_iconst (n := 159) (z := (1 : Int32)) X61 hx (hb hby at_158) rfl rfl ?_
      refine own_goto (n := 163) X61 hx (hb hby at_159) (by decide) (by decide) ?_
      refine own_retZ X61 hx hlk hret (by simp) eq61 (w := (1 : Int32)) rfl (hb hby at_163) (by decide) (by decide) ?_
      exact ⟨rfl, N61⟩
    · rw [hr]
      refine own_new (n := 22) X0 hx hZ hown (ww0 hw) (ww1 hw) (ww2 hw) e0 (hb hby at_19) (by decide) (by decide) rfl ?_
      intro T62 h62 b62 g62 X62 e62 E62 A62 D62
      have g_b62 : n0 ≤ b62 := Nat.le_trans Z0 (Nat.le_of_eq g62.symm)
      have Z_63 : n0 ≤ h62.size := Nat.le_trans Z0 E62.1
      have F_64 : Fld Z h62 b62 "com/example/preorders_from_tests/preordersfromtests/lts/LongList" "chunks" "[[J" .null := D62 (Or.inl (ww14 hw)) (ty := (.array (.array .long))) (by decide)
      have F_65 : Fld Z h62 b62 "com/example/preorders_from_tests/preordersfromtests/lts/LongList" "size" "I" (.int (0 : Int32)) := D62 (Or.inl (ww21 hw)) (ty := .int) (by decide)
      refine own_dup (n := 23) X62 hx (hb hby at_22) rfl rfl ?_
      refine own_I (n := 26) (argsL := []) (rest := [(.ref b62)]) (a := b62) (by rfl) X62 hx hZ hown (own_rmI l Z a0 hw b62 h62 n0 Z_63 A62 F_64 F_65 g_b62) (ww3 hw) (ww4 hw) (ww2 hw) (ww5 hw) (by decide) e62 (by rw [hml]; rfl) (lenOf own_pd0 rfl) rfl (hb hby at_23) (Nat.le_of_ble_eq_true rfl) (Nat.le_of_ble_eq_true rfl) (Nat.le_of_ble_eq_true rfl) (Nat.le_of_ble_eq_true rfl) rfl ?_
      rintro v66 T66 L66 X66 ⟨b66c, b66d, kb66, kd66, rfl, Nq66, K66, Eq66, Fc66, Fz66, Vb66, Vd66, nbd66, gd66⟩
      have N66 := Fr.app N0 Nq66
      have E_67 := A62.keep K66
      have Z_68 : n0 ≤ T66.heap.size := Nat.le_trans Z_63 K66.1
      change own_G p e below _ _ (mkF m 26 _ [(.ref b62)])
      refine own_astore (n := 28) (l' := #[.val (.long q0), .second, .val (.long q1), .second, .val (.long q2), .second, .val (.int p3), .val (.int (2 : Int32)), .val (.int (1 : Int32)), .val (.ref b62), .unset, .unset, .unset]) X66 hx (hb hby at_26) rfl rfl rfl ?_
      refine own_aload (n := 30) X66 hx (hb hby at_28) rfl rfl rfl ?_
      refine own_V (n := 33) (argsL := []) (rest := []) (a := b62) X66 hx hZ hown (own_rm_isEmpty0 l Z a0 hw b62 T66.heap n0 Z_68 Fz66) (ww15 hw) (ww16 hw) (notFace_of_selects (args := #[]) (mvT hZ (ww18 hw))) (ww18 hw) (ww17 hw) (ww2 hw) (ww19 hw) (by decide) rfl E_67 (by rw [hml]; rfl) (lenOf own_pd1 rfl) rfl (hb hby at_30) (Nat.le_of_ble_eq_true rfl) (Nat.le_of_ble_eq_true rfl) (Nat.le_of_ble_eq_true rfl) (Nat.le_of_ble_eq_true rfl) rfl ?_
      rintro v69 T69 L69 X69 ⟨rfl, Nq69, eq69⟩
      have N69 := Fr.app N66 Nq69
      change own_G p e below _ _ (mkF m 33 _ [(.int (1 : Int32))])
      refine own_istore (n := 35) (l' := #[.val (.long q0), .second, .val (.long q1), .second, .val (.long q2), .second, .val (.int p3), .val (.int (2 : Int32)), .val (.int (1 : Int32)), .val (.ref b62), .val (.int (1 : Int32)), .unset, .unset]) X69 hx (hb hby at_33) rfl rfl ?_
      refine own_iload (n := 37) X69 hx (hb hby at_35) rfl rfl ?_
      refine own_ifNo (n := 40) X69 hx (hb hby at_37) (tlt (by decide : (0 : Int32) < (2 : Int32))).2.2.2 rfl ?_
      refine own_aload (n := 42) X69 hx (hb hby at_40) rfl rfl rfl ?_
      refine own_lloadN (n := 43) X69 hx (hb hby at_42) rfl rfl ?_
      refine own_V (n := 46) (argsL := [(.long q0)]) (rest := []) (a := b62) X69 hx hZ hown (own_rm_add0 l Z a0 hw b62 b66c b66d kb66 kd66 (0 : Int64) (0 : Int64) (0 : Int64) (0 : Int64) (0 : Int64) (0 : Int64) (0 : Int64) (0 : Int64) q0 T66.heap n0 Z_68 E_67 Fc66 Fz66 Vb66 Vd66 nbd66 g_b62 gd66) (ww22 hw) (ww23 hw) (notFace_of_selects (args := #[]) (mvT hZ (ww25 hw))) (ww25 hw) (ww24 hw) (ww2 hw) (ww26 hw) (by decide) eq69 E_67 (by rw [hml]; rfl) (lenOf own_pd3 rfl) rfl (hb hby at_43) (Nat.le_of_ble_eq_true rfl) (Nat.le_of_ble_eq_true rfl) (Nat.le_of_ble_eq_true rfl) (Nat.le_of_ble_eq_true rfl) rfl ?_
      rintro v70 T70 L70 X70 ⟨rfl, Nq70, K70, Eq70, Fc70, Fz70, Vd70⟩
      have N70 := Fr.app N69 Nq70
      have E_71 := E_67.keep K70
      have A_72 := Vb66.keep K70 (by simp [(Ne.symm (own_neEA E_67 (ww1 hw) Vb66)), nbd66])
      have Z_73 : n0 ≤ T70.heap.size := Nat.le_trans Z_68 K70.1
      change own_G p e below _ _ (mkF m 46 _ [])
      refine own_iload (n := 48) X70 hx (hb hby at_46) rfl rfl ?_
      refine own_iconst (n := 49) (z := (1 : Int32)) X70 hx (hb hby at_48) rfl rfl ?_
      refine own_icmpNo (n := 52) X70 hx (hb hby at_49) (tlt (by decide : (1 : Int32) < (2 : Int32))).2.2.2 rfl ?_
      refine own_aload (n := 54) X70 hx (hb hby at_52) rfl rfl rfl ?_
      refine own_lloadN (n := 55) X70 hx (hb hby at_54) rfl rfl ?_
      refine own_V (n := 58) (argsL := [(.long q1)]) (rest := []) (a := b62) X70 hx hZ hown (own_rm_add1 l Z a0 hw b62 b66c b66d kb66 kd66 q0 (0 : Int64) (0 : Int64) (0 : Int64) (0 : Int64) (0 : Int64) (0 : Int64) (0 : Int64) q1 T70.heap n0 Z_73 E_71 Fc70 Fz70 A_72 Vd70 nbd66 g_b62 gd66) (ww22 hw) (ww23 hw) (notFace_of_selects (args := #[]) (mvT hZ (ww25 hw))) (ww25 hw) (ww24 hw) (ww2 hw) (ww26 hw) (by decide) rfl E_71 (by rw [hml]; rfl) (lenOf own_pd3 rfl) rfl (hb hby at_55) (Nat.le_of_ble_eq_true rfl) (Nat.le_of_ble_eq_true rfl) (Nat.le_of_ble_eq_true rfl) (Nat.le_of_ble_eq_true rfl) rfl ?_
      rintro v74 T74 L74 X74 ⟨rfl, Nq74, K74, Eq74, Fc74, Fz74, Vd74⟩
      have N74 := Fr.app N70 Nq74
      have E_75 := E_71.keep K74
      have A_76 := A_72.keep K74 (by simp [(Ne.symm (own_neEA E_71 (ww1 hw) A_72)), nbd66])
      have Z_77 : n0 ≤ T74.heap.size := Nat.le_trans Z_73 K74.1
      change own_G p e below _ _ (mkF m 58 _ [])
      refine own_iload (n := 60) X74 hx (hb hby at_58) rfl rfl ?_
      refine own_iconst (n := 61) (z := (2 : Int32)) X74 hx (hb hby at_60) rfl rfl ?_
      refine own_icmpYes (n := 71) X74 hx (hb hby at_61) (flt (by decide : ¬ ((2 : Int32) < (2 : Int32)))).2.2.2 (by decide) (by decide) ?_
      refine own_iload (n := 73) X74 hx (hb hby at_71) rfl rfl ?_
      refine own_ifNo (n := 76) X74 hx (hb hby at_73) (tlt (by decide : (0 : Int32) < (1 : Int32))).2.2.2 rfl ?_
      refine own_aload (n := 78) X74 hx (hb hby at_76) rfl rfl rfl ?_
      refine own_V (n := 81) (argsL := []) (rest := []) (a := b62) X74 hx hZ hown (own_rm_rem2 l Z a0 hw b62 b66c b66d kb66 kd66 q0 q1 (0 : Int64) (0 : Int64) (0 : Int64) (0 : Int64) (0 : Int64) (0 : Int64) T74.heap n0 Z_77 E_75 Fc74 Fz74 A_76 Vd74 nbd66 g_b62) (ww33 hw) (ww34 hw) (notFace_of_selects (args := #[]) (mvT hZ (ww36 hw))) (ww36 hw) (ww35 hw) (ww2 hw) (ww37 hw) (by decide) rfl E_75 (by rw [hml]; rfl) (lenOf own_pd4 rfl) rfl (hb hby at_78) (Nat.le_of_ble_eq_true rfl) (Nat.le_of_ble_eq_true rfl) (Nat.le_of_ble_eq_true rfl) (Nat.le_of_ble_eq_true rfl) rfl ?_
      rintro v78 T78 L78 X78 ⟨rfl, Nq78, K78, Eq78, Fc78, Fz78⟩
      have N78 := Fr.app N74 Nq78
      have E_79 := E_75.keep K78
      have A_80 := A_76.keep K78 (by simp [(Ne.symm (own_neEA E_75 (ww1 hw) A_76))])
      have A_81 := Vd74.keep K78 (by simp [(Ne.symm (own_neEA E_75 (ww1 hw) Vd74))])
      have Z_82 : n0 ≤ T78.heap.size := Nat.le_trans Z_77 K78.1
      change own_G p e below _ _ (mkF m 81 _ [(.long q1)])
      refine own_pop2 (n := 82) X78 hx (hb hby at_81) rfl ?_
      refine own_iload (n := 84) X78 hx (hb hby at_82) rfl rfl ?_
      refine own_iconst (n := 85) (z := (1 : Int32)) X78 hx (hb hby at_84) rfl rfl ?_
      refine own_icmpYes (n := 94) X78 hx (hb hby at_85) (flt (by decide : ¬ ((1 : Int32) < (1 : Int32)))).2.2.2 (by decide) (by decide) ?_
      refine own_iload (n := 96) X78 hx (hb hby at_94) rfl rfl ?_
      refine own_iconst (n := 97) (z := (2 : Int32)) X78 hx (hb hby at_96) rfl rfl ?_
      refine own_icmpYes (n := 106) X78 hx (hb hby at_97) (flt (by decide : ¬ ((2 : Int32) < (1 : Int32)))).2.2.2 (by decide) (by decide) ?_
      refine own_aload (n := 108) X78 hx (hb hby at_106) rfl rfl rfl ?_
      refine own_V (n := 111) (argsL := []) (rest := []) (a := b62) X78 hx hZ hown (own_rm_isEmpty1 l Z a0 hw b62 T78.heap n0 Z_82 Fz78) (ww15 hw) (ww16 hw) (notFace_of_selects (args := #[]) (mvT hZ (ww18 hw))) (ww18 hw) (ww17 hw) (ww2 hw) (ww19 hw) (by decide) rfl E_79 (by rw [hml]; rfl) (lenOf own_pd1 rfl) rfl (hb hby at_108) (Nat.le_of_ble_eq_true rfl) (Nat.le_of_ble_eq_true rfl) (Nat.le_of_ble_eq_true rfl) (Nat.le_of_ble_eq_true rfl) rfl ?_
      rintro v83 T83 L83 X83 ⟨rfl, Nq83, eq83⟩
      have N83 := Fr.app N78 Nq83
      change own_G p e below _ _ (mkF m 111 _ [(.int (0 : Int32))])
      refine own_istore (n := 113) (l' := #[.val (.long q0), .second, .val (.long q1), .second, .val (.long q2), .second, .val (.int p3), .val (.int (2 : Int32)), .val (.int (1 : Int32)), .val (.ref b62), .val (.int (1 : Int32)), .val (.int (0 : Int32)), .unset]) X83 hx (hb hby at_111) rfl rfl ?_
      refine own_iload (n := 115) X83 hx (hb hby at_113) rfl rfl ?_
      refine own_iload (n := 117) X83 hx (hb hby at_115) rfl rfl ?_
      refine own_isub (n := 118) (z := (1 : Int32)) X83 hx (hb hby at_117) rfl rfl ?_
      refine own_ifYes (n := 125) X83 hx (hb hby at_118) (feq (by decide : ¬ ((1 : Int32) = (0 : Int32)))).2 (by decide) (by decide) ?_
      refine own_iconst (n := 126) (z := (0 : Int32)) X83 hx (hb hby at_125) rfl rfl ?_
      refine own_istore (n := 128) (l' := #[.val (.long q0), .second, .val (.long q1), .second, .val (.long q2), .second, .val (.int p3), .val (.int (2 : Int32)), .val (.int (1 : Int32)), .val (.ref b62), .val (.int (1 : Int32)), .val (.int (0 : Int32)), .val (.int (0 : Int32))]) X83 hx (hb hby at_126) rfl rfl ?_
      refine own_iload (n := 130) X83 hx (hb hby at_128) rfl rfl ?_
      refine own_ifNo (n := 133) X83 hx (hb hby at_130) (feq (by decide : ¬ ((1 : Int32) = (0 : Int32)))).1 rfl ?_
      refine own_iload (n := 135) X83 hx (hb hby at_133) rfl rfl ?_
      refine own_iload (n := 137) X83 hx (hb hby at_135) rfl rfl ?_
      refine own_icmpNo (n := 140) X83 hx (hb hby at_137) (teq (by decide : (0 : Int32) = (0 : Int32))).2 rfl ?_
      refine own_iload (n := 142) X83 hx (hb hby at_140) rfl rfl ?_
      refine own_aload (n := 144) X83 hx (hb hby at_142) rfl rfl rfl ?_
      refine own_V (n := 147) (argsL := []) (rest := [(.int (0 : Int32))]) (a := b62) X83 hx hZ hown (own_rm_size1 l Z a0 hw b62 T78.heap n0 Z_82 Fz78) (ww28 hw) (ww29 hw) (notFace_of_selects (args := #[]) (mvT hZ (ww31 hw))) (ww31 hw) (ww30 hw) (ww2 hw) (ww32 hw) (by decide) eq83 E_79 (by rw [hml]; rfl) (lenOf own_pd2 rfl) rfl (hb hby at_144) (Nat.le_of_ble_eq_true rfl) (Nat.le_of_ble_eq_true rfl) (Nat.le_of_ble_eq_true rfl) (Nat.le_of_ble_eq_true rfl) rfl ?_
      rintro v84 T84 L84 X84 ⟨rfl, Nq84, eq84⟩
      have N84 := Fr.app N83 Nq84
      change own_G p e below _ _ (mkF m 147 _ [(.int (1 : Int32)), (.int (0 : Int32))])
      refine own_ifYes (n := 154) X84 hx (hb hby at_147) (feq (by decide : ¬ ((1 : Int32) = (0 : Int32)))).2 (by decide) (by decide) ?_
      refine own_iconst (n := 155) (z := (0 : Int32)) X84 hx (hb hby at_154) rfl rfl ?_
      refine own_icmpNo (n := 158) X84 hx (hb hby at_155) (teq (by decide : (0 : Int32) = (0 : Int32))).2 rfl ?_
      refine own_iconst (n := 159) (z := (1 : Int32)) X84 hx (hb hby at_158) rfl rfl ?_
      refine own_goto (n := 163) X84 hx (hb hby at_159) (by decide) (by decide) ?_
      refine own_retZ X84 hx hlk hret (by simp) eq84 (w := (1 : Int32)) rfl (hb hby at_163) (by decide) (by decide) ?_
      exact ⟨rfl, N84⟩
    · rw [hr]
      refine own_new (n := 22) X0 hx hZ hown (ww0 hw) (ww1 hw) (ww2 hw) e0 (hb hby at_19) (by decide) (by decide) rfl ?_
      intro T85 h85 b85 g85 X85 e85 E85 A85 D85
      have g_b85 : n0 ≤ b85 := Nat.le_trans Z0 (Nat.le_of_eq g85.symm)
      have Z_86 : n0 ≤ h85.size := Nat.le_trans Z0 E85.1
      have F_87 : Fld Z h85 b85 "com/example/preorders_from_tests/preordersfromtests/lts/LongList" "chunks" "[[J" .null := D85 (Or.inl (ww14 hw)) (ty := (.array (.array .long))) (by decide)
      have F_88 : Fld Z h85 b85 "com/example/preorders_from_tests/preordersfromtests/lts/LongList" "size" "I" (.int (0 : Int32)) := D85 (Or.inl (ww21 hw)) (ty := .int) (by decide)
      refine own_dup (n := 23) X85 hx (hb hby at_22) rfl rfl ?_
      refine own_I (n := 26) (argsL := []) (rest := [(.ref b85)]) (a := b85) (by rfl) X85 hx hZ hown (own_rmI l Z a0 hw b85 h85 n0 Z_86 A85 F_87 F_88 g_b85) (ww3 hw) (ww4 hw) (ww2 hw) (ww5 hw) (by decide) e85 (by rw [hml]; rfl) (lenOf own_pd0 rfl) rfl (hb hby at_23) (Nat.le_of_ble_eq_true rfl) (Nat.le_of_ble_eq_true rfl) (Nat.le_of_ble_eq_true rfl) (Nat.le_of_ble_eq_true rfl) rfl ?_
      rintro v89 T89 L89 X89 ⟨b89c, b89d, kb89, kd89, rfl, Nq89, K89, Eq89, Fc89, Fz89, Vb89, Vd89, nbd89, gd89⟩
      have N89 := Fr.app N0 Nq89
      have E_90 := A85.keep K89
      have Z_91 : n0 ≤ T89.heap.size := Nat.le_trans Z_86 K89.1
      change own_G p e below _ _ (mkF m 26 _ [(.ref b85)])
      refine own_astore (n := 28) (l' := #[.val (.long q0), .second, .val (.long q1), .second, .val (.long q2), .second, .val (.int p3), .val (.int (2 : Int32)), .val (.int (2 : Int32)), .val (.ref b85), .unset, .unset, .unset]) X89 hx (hb hby at_26) rfl rfl rfl ?_
      refine own_aload (n := 30) X89 hx (hb hby at_28) rfl rfl rfl ?_
      refine own_V (n := 33) (argsL := []) (rest := []) (a := b85) X89 hx hZ hown (own_rm_isEmpty0 l Z a0 hw b85 T89.heap n0 Z_91 Fz89) (ww15 hw) (ww16 hw) (notFace_of_selects (args := #[]) (mvT hZ (ww18 hw))) (ww18 hw) (ww17 hw) (ww2 hw) (ww19 hw) (by decide) rfl E_90 (by rw [hml]; rfl) (lenOf own_pd1 rfl) rfl (hb hby at_30) (Nat.le_of_ble_eq_true rfl) (Nat.le_of_ble_eq_true rfl) (Nat.le_of_ble_eq_true rfl) (Nat.le_of_ble_eq_true rfl) rfl ?_
      rintro v92 T92 L92 X92 ⟨rfl, Nq92, eq92⟩
      have N92 := Fr.app N89 Nq92
      change own_G p e below _ _ (mkF m 33 _ [(.int (1 : Int32))])
      refine own_istore (n := 35) (l' := #[.val (.long q0), .second, .val (.long q1), .second, .val (.long q2), .second, .val (.int p3), .val (.int (2 : Int32)), .val (.int (2 : Int32)), .val (.ref b85), .val (.int (1 : Int32)), .unset, .unset]) X92 hx (hb hby at_33) rfl rfl ?_
      refine own_iload (n := 37) X92 hx (hb hby at_35) rfl rfl ?_
      refine own_ifNo (n := 40) X92 hx (hb hby at_37) (tlt (by decide : (0 : Int32) < (2 : Int32))).2.2.2 rfl ?_
      refine own_aload (n := 42) X92 hx (hb hby at_40) rfl rfl rfl ?_
      refine own_lloadN (n := 43) X92 hx (hb hby at_42) rfl rfl ?_
      refine own_V (n := 46) (argsL := [(.long q0)]) (rest := []) (a := b85) X92 hx hZ hown (own_rm_add0 l Z a0 hw b85 b89c b89d kb89 kd89 (0 : Int64) (0 : Int64) (0 : Int64) (0 : Int64) (0 : Int64) (0 : Int64) (0 : Int64) (0 : Int64) q0 T89.heap n0 Z_91 E_90 Fc89 Fz89 Vb89 Vd89 nbd89 g_b85 gd89) (ww22 hw) (ww23 hw) (notFace_of_selects (args := #[]) (mvT hZ (ww25 hw))) (ww25 hw) (ww24 hw) (ww2 hw) (ww26 hw) (by decide) eq92 E_90 (by rw [hml]; rfl) (lenOf own_pd3 rfl) rfl (hb hby at_43) (Nat.le_of_ble_eq_true rfl) (Nat.le_of_ble_eq_true rfl) (Nat.le_of_ble_eq_true rfl) (Nat.le_of_ble_eq_true rfl) rfl ?_
      rintro v93 T93 L93 X93 ⟨rfl, Nq93, K93, Eq93, Fc93, Fz93, Vd93⟩
      have N93 := Fr.app N92 Nq93
      have E_94 := E_90.keep K93
      have A_95 := Vb89.keep K93 (by simp [(Ne.symm (own_neEA E_90 (ww1 hw) Vb89)), nbd89])
      have Z_96 : n0 ≤ T93.heap.size := Nat.le_trans Z_91 K93.1
      change own_G p e below _ _ (mkF m 46 _ [])
      refine own_iload (n := 48) X93 hx (hb hby at_46) rfl rfl ?_
      refine own_iconst (n := 49) (z := (1 : Int32)) X93 hx (hb hby at_48) rfl rfl ?_
      refine own_icmpNo (n := 52) X93 hx (hb hby at_49) (tlt (by decide : (1 : Int32) < (2 : Int32))).2.2.2 rfl ?_
      refine own_aload (n := 54) X93 hx (hb hby at_52) rfl rfl rfl ?_
      refine own_lloadN (n := 55) X93 hx (hb hby at_54) rfl rfl ?_
      refine own_V (n := 58) (argsL := [(.long q1)]) (rest := []) (a := b85) X93 hx hZ hown (own_rm_add1 l Z a0 hw b85 b89c b89d kb89 kd89 q0 (0 : Int64) (0 : Int64) (0 : Int64) (0 : Int64) (0 : Int64) (0 : Int64) (0 : Int64) q1 T93.heap n0 Z_96 E_94 Fc93 Fz93 A_95 Vd93 nbd89 g_b85 gd89) (ww22 hw) (ww23 hw) (notFace_of_selects (args := #[]) (mvT hZ (ww25 hw))) (ww25 hw) (ww24 hw) (ww2 hw) (ww26 hw) (by decide) rfl E_94 (by rw [hml]; rfl) (lenOf own_pd3 rfl) rfl (hb hby at_55) (Nat.le_of_ble_eq_true rfl) (Nat.le_of_ble_eq_true rfl) (Nat.le_of_ble_eq_true rfl) (Nat.le_of_ble_eq_true rfl) rfl ?_
      rintro v97 T97 L97 X97 ⟨rfl, Nq97, K97, Eq97, Fc97, Fz97, Vd97⟩
      have N97 := Fr.app N93 Nq97
      have E_98 := E_94.keep K97
      have A_99 := A_95.keep K97 (by simp [(Ne.symm (own_neEA E_94 (ww1 hw) A_95)), nbd89])
      have Z_100 : n0 ≤ T97.heap.size := Nat.le_trans Z_96 K97.1
      change own_G p e below _ _ (mkF m 58 _ [])
      refine own_iload (n := 60) X97 hx (hb hby at_58) rfl rfl ?_
      refine own_iconst (n := 61) (z := (2 : Int32)) X97 hx (hb hby at_60) rfl rfl ?_
      refine own_icmpYes (n := 71) X97 hx (hb hby at_61) (flt (by decide : ¬ ((2 : Int32) < (2 : Int32)))).2.2.2 (by decide) (by decide) ?_
      refine own_iload (n := 73) X97 hx (hb hby at_71) rfl rfl ?_
      refine own_ifNo (n := 76) X97 hx (hb hby at_73) (tlt (by decide : (0 : Int32) < (2 : Int32))).2.2.2 rfl ?_
      refine own_aload (n := 78) X97 hx (hb hby at_76) rfl rfl rfl ?_
      refine own_V (n := 81) (argsL := []) (rest := []) (a := b85) X97 hx hZ hown (own_rm_rem2 l Z a0 hw b85 b89c b89d kb89 kd89 q0 q1 (0 : Int64) (0 : Int64) (0 : Int64) (0 : Int64) (0 : Int64) (0 : Int64) T97.heap n0 Z_100 E_98 Fc97 Fz97 A_99 Vd97 nbd89 g_b85) (ww33 hw) (ww34 hw) (notFace_of_selects (args := #[]) (mvT hZ (ww36 hw))) (ww36 hw) (ww35 hw) (ww2 hw) (ww37 hw) (by decide) rfl E_98 (by rw [hml]; rfl) (lenOf own_pd4 rfl) rfl (hb hby at_78) (Nat.le_of_ble_eq_true rfl) (Nat.le_of_ble_eq_true rfl) (Nat.le_of_ble_eq_true rfl) (Nat.le_of_ble_eq_true rfl) rfl ?_
      rintro v101 T101 L101 X101 ⟨rfl, Nq101, K101, Eq101, Fc101, Fz101⟩
      have N101 := Fr.app N97 Nq101
      have E_102 := E_98.keep K101
      have A_103 := A_99.keep K101 (by simp [(Ne.symm (own_neEA E_98 (ww1 hw) A_99))])
      have A_104 := Vd97.keep K101 (by simp [(Ne.symm (own_neEA E_98 (ww1 hw) Vd97))])
      have Z_105 : n0 ≤ T101.heap.size := Nat.le_trans Z_100 K101.1
      change own_G p e below _ _ (mkF m 81 _ [(.long q1)])
      refine own_pop2 (n := 82) X101 hx (hb hby at_81) rfl ?_
      refine own_iload (n := 84) X101 hx (hb hby at_82) rfl rfl ?_
      refine own_iconst (n := 85) (z := (1 : Int32)) X101 hx (hb hby at_84) rfl rfl ?_
      refine own_icmpNo (n := 88) X101 hx (hb hby at_85) (tlt (by decide : (1 : Int32) < (2 : Int32))).2.2.2 rfl ?_
      refine own_aload (n := 90) X101 hx (hb hby at_88) rfl rfl rfl ?_
      refine own_V (n := 93) (argsL := []) (rest := []) (a := b85) X101 hx hZ hown (own_rm_rem1 l Z a0 hw b85 b89c b89d kb89 kd89 q0 q1 (0 : Int64) (0 : Int64) (0 : Int64) (0 : Int64) (0 : Int64) (0 : Int64) T101.heap n0 Z_105 E_102 Fc101 Fz101 A_103 A_104 nbd89 g_b85) (ww33 hw) (ww34 hw) (notFace_of_selects (args := #[]) (mvT hZ (ww36 hw))) (ww36 hw) (ww35 hw) (ww2 hw) (ww37 hw) (by decide) rfl E_102 (by rw [hml]; rfl) (lenOf own_pd4 rfl) rfl (hb hby at_90) (Nat.le_of_ble_eq_true rfl) (Nat.le_of_ble_eq_true rfl) (Nat.le_of_ble_eq_true rfl) (Nat.le_of_ble_eq_true rfl) rfl ?_
      rintro v106 T106 L106 X106 ⟨rfl, Nq106, K106, Eq106, Fc106, Fz106⟩
      have N106 := Fr.app N101 Nq106
      have E_107 := E_102.keep K106
      have A_108 := A_103.keep K106 (by simp [(Ne.symm (own_neEA E_102 (ww1 hw) A_103))])
      have A_109 := A_104.keep K106 (by simp [(Ne.symm (own_neEA E_102 (ww1 hw) A_104))])
      have Z_110 : n0 ≤ T106.heap.size := Nat.le_trans Z_105 K106.1
      change own_G p e below _ _ (mkF m 93 _ [(.long q0)])
      refine own_pop2 (n := 94) X106 hx (hb hby at_93) rfl ?_
      refine own_iload (n := 96) X106 hx (hb hby at_94) rfl rfl ?_
      refine own_iconst (n := 97) (z := (2 : Int32)) X106 hx (hb hby at_96) rfl rfl ?_
      refine own_icmpYes (n := 106) X106 hx (hb hby at_97) (flt (by decide : ¬ ((2 : Int32) < (2 : Int32)))).2.2.2 (by decide) (by decide) ?_
      refine own_aload (n := 108) X106 hx (hb hby at_106) rfl rfl rfl ?_
      refine own_V (n := 111) (argsL := []) (rest := []) (a := b85) X106 hx hZ hown (own_rm_isEmpty0 l Z a0 hw b85 T106.heap n0 Z_110 Fz106) (ww15 hw) (ww16 hw) (notFace_of_selects (args := #[]) (mvT hZ (ww18 hw))) (ww18 hw) (ww17 hw) (ww2 hw) (ww19 hw) (by decide) rfl E_107 (by rw [hml]; rfl) (lenOf own_pd1 rfl) rfl (hb hby at_108) (Nat.le_of_ble_eq_true rfl) (Nat.le_of_ble_eq_true rfl) (Nat.le_of_ble_eq_true rfl) (Nat.le_of_ble_eq_true rfl) rfl ?_
      rintro v111 T111 L111 X111 ⟨rfl, Nq111, eq111⟩
      have N111 := Fr.app N106 Nq111
      change own_G p e below _ _ (mkF m 111 _ [(.int (1 : Int32))])
      refine own_istore (n := 113) (l' := #[.val (.long q0), .second, .val (.long q1), .second, .val (.long q2), .second, .val (.int p3), .val (.int (2 : Int32)), .val (.int (2 : Int32)), .val (.ref b85), .val (.int (1 : Int32)), .val (.int (1 : Int32)), .unset]) X111 hx (hb hby at_111) rfl rfl ?_
      refine own_iload (n := 115) X111 hx (hb hby at_113) rfl rfl ?_
      refine own_iload (n := 117) X111 hx (hb hby at_115) rfl rfl ?_
      refine own_isub (n := 118) (z := (0 : Int32)) X111 hx (hb hby at_117) rfl rfl ?_
      refine own_ifNo (n := 121) X111 hx (hb hby at_118) (teq (by decide : (0 : Int32) = (0 : Int32))).2 rfl ?_
      refine own_iconst (n := 122) (z := (1 : Int32)) X111 hx (hb hby at_121) rfl rfl ?_
      refine own_goto (n := 126) X111 hx (hb hby at_122) (by decide) (by decide) ?_
      refine own_istore (n := 128) (l' := #[.val (.long q0), .second, .val (.long q1), .second, .val (.long q2), .second, .val (.int p3), .val (.int (2 : Int32)), .val (.int (2 : Int32)), .val (.ref b85), .val (.int (1 : Int32)), .val (.int (1 : Int32)), .val (.int (1 : Int32))]) X111 hx (hb hby at_126) rfl rfl ?_
      refine own_iload (n := 130) X111 hx (hb hby at_128) rfl rfl ?_
      refine own_ifNo (n := 133) X111 hx (hb hby at_130) (feq (by decide : ¬ ((1 : Int32) = (0 : Int32)))).1 rfl ?_
      refine own_iload (n := 135) X111 hx (hb hby at_133) rfl rfl ?_
      refine own_iload (n := 137) X111 hx (hb hby at_135) rfl rfl ?_
      refine own_icmpNo (n := 140) X111 hx (hb hby at_137) (teq (by decide : (1 : Int32) = (1 : Int32))).2 rfl ?_
      refine own_iload (n := 142) X111 hx (hb hby at_140) rfl rfl ?_
      refine own_aload (n := 144) X111 hx (hb hby at_142) rfl rfl rfl ?_
      refine own_V (n := 147) (argsL := []) (rest := [(.int (1 : Int32))]) (a := b85) X111 hx hZ hown (own_rm_size0 l Z a0 hw b85 T106.heap n0 Z_110 Fz106) (ww28 hw) (ww29 hw) (notFace_of_selects (args := #[]) (mvT hZ (ww31 hw))) (ww31 hw) (ww30 hw) (ww2 hw) (ww32 hw) (by decide) eq111 E_107 (by rw [hml]; rfl) (lenOf own_pd2 rfl) rfl (hb hby at_144) (Nat.le_of_ble_eq_true rfl) (Nat.le_of_ble_eq_true rfl) (Nat.le_of_ble_eq_true rfl) (Nat.le_of_ble_eq_true rfl) rfl ?_
      rintro v112 T112 L112 X112 ⟨rfl, Nq112, eq112⟩
      have N112 := Fr.app N111 Nq112
      change own_G p e below _ _ (mkF m 147 _ [(.int (0 : Int32)), (.int (1 : Int32))])
      refine own_ifNo (n := 150) X112 hx (hb hby at_147) (teq (by decide : (0 : Int32) = (0 : Int32))).2 rfl ?_
      refine own_iconst (n := 151) (z := (1 : Int32)) X112 hx (hb hby at_150) rfl rfl ?_
      refine own_goto (n := 155) X112 hx (hb hby at_151) (by decide) (by decide) ?_
      refine own_icmpNo (n := 158) X112 hx (hb hby at_155) (teq (by decide : (1 : Int32) = (1 : Int32))).2 rfl ?_
      refine own_iconst (n := 159) (z := (1 : Int32)) X112 hx (hb hby at_158) rfl rfl ?_
      refine own_goto (n := 163) X112 hx (hb hby at_159) (by decide) (by decide) ?_
      refine own_retZ X112 hx hlk hret (by simp) eq112 (w := (1 : Int32)) rfl (hb hby at_163) (by decide) (by decide) ?_
      exact ⟨rfl, N112⟩
  · rw [hs]
    refine own_iload (n := 8) X0 hx (hb hby at_6) rfl rfl ?_
    refine own_iconst (n := 9) (z := (2 : Int32)) X0 hx (hb hby at_8) rfl rfl ?_
    refine own_iushr (n := 10) X0 hx (hb hby at_9) rfl rfl ?_
    refine own_iconst (n := 11) (z := (3 : Int32)) X0 hx (hb hby at_10) rfl rfl ?_
    refine own_iand (n := 12) X0 hx (hb hby at_11) rfl rfl ?_
    refine own_iload (n := 14) X0 hx (hb hby at_12) rfl rfl ?_
    refine own_iconst (n := 15) (z := (1 : Int32)) X0 hx (hb hby at_14) rfl rfl ?_
    refine own_iadd (n := 16) (z := (4 : Int32)) X0 hx (hb hby at_15) rfl rfl ?_
    refine own_irem (n := 17) X0 hx (hb hby at_16) (by decide) rfl ?_
    refine own_istore (n := 19) (l' := #[.val (.long q0), .second, .val (.long q1), .second, .val (.long q2), .second, .val (.int p3), .val (.int (3 : Int32)), .val (.int ((((p3).toUInt32 >>> ((2 : Int32) &&& 31).toUInt32).toInt32 &&& (3 : Int32)) % (4 : Int32))), .unset, .unset, .unset, .unset]) X0 hx (hb hby at_17) rfl rfl ?_
    rcases own_rem4 (((p3).toUInt32 >>> ((2 : Int32) &&& 31).toUInt32).toInt32) with hr | hr | hr | hr
    · rw [hr]
      refine own_new (n := 22) X0 hx hZ hown (ww0 hw) (ww1 hw) (ww2 hw) e0 (hb hby at_19) (by decide) (by decide) rfl ?_
      intro T113 h113 b113 g113 X113 e113 E113 A113 D113
      have g_b113 : n0 ≤ b113 := Nat.le_trans Z0 (Nat.le_of_eq g113.symm)
      have Z_114 : n0 ≤ h113.size := Nat.le_trans Z0 E113.1
      have F_115 : Fld Z h113 b113 "com/example/preorders_from_tests/preordersfromtests/lts/LongList" "chunks" "[[J" .null := D113 (Or.inl (ww14 hw)) (ty := (.array (.array .long))) (by decide)
      have F_116 : Fld Z h113 b113 "com/example/preorders_from_tests/preordersfromtests/lts/LongList" "size" "I" (.int (0 : Int32)) := D113 (Or.inl (ww21 hw)) (ty := .int) (by decide)
      refine own_dup (n := 23) X113 hx (hb hby at_22) rfl rfl ?_
      refine own_I (n := 26) (argsL := []) (rest := [(.ref b113)]) (a := b113) (by rfl) X113 hx hZ hown (own_rmI l Z a0 hw b113 h113 n0 Z_114 A113 F_115 F_116 g_b113) (ww3 hw) (ww4 hw) (ww2 hw) (ww5 hw) (by decide) e113 (by rw [hml]; rfl) (lenOf own_pd0 rfl) rfl (hb hby at_23) (Nat.le_of_ble_eq_true rfl) (Nat.le_of_ble_eq_true rfl) (Nat.le_of_ble_eq_true rfl) (Nat.le_of_ble_eq_true rfl) rfl ?_
      rintro v117 T117 L117 X117 ⟨b117c, b117d, kb117, kd117, rfl, Nq117, K117, Eq117, Fc117, Fz117, Vb117, Vd117, nbd117, gd117⟩
      have N117 := Fr.app N0 Nq117
      have E_118 := A113.keep K117
      have Z_119 : n0 ≤ T117.heap.size := Nat.le_trans Z_114 K117.1
      change own_G p e below _ _ (mkF m 26 _ [(.ref b113)])
      refine own_astore (n := 28) (l' := #[.val (.long q0), .second, .val (.long q1), .second, .val (.long q2), .second, .val (.int p3), .val (.int (3 : Int32)), .val (.int (0 : Int32)), .val (.ref b113), .unset, .unset, .unset]) X117 hx (hb hby at_26) rfl rfl rfl ?_
      refine own_aload (n := 30) X117 hx (hb hby at_28) rfl rfl rfl ?_
      refine own_V (n := 33) (argsL := []) (rest := []) (a := b113) X117 hx hZ hown (own_rm_isEmpty0 l Z a0 hw b113 T117.heap n0 Z_119 Fz117) (ww15 hw) (ww16 hw) (notFace_of_selects (args := #[]) (mvT hZ (ww18 hw))) (ww18 hw) (ww17 hw) (ww2 hw) (ww19 hw) (by decide) rfl E_118 (by rw [hml]; rfl) (lenOf own_pd1 rfl) rfl (hb hby at_30) (Nat.le_of_ble_eq_true rfl) (Nat.le_of_ble_eq_true rfl) (Nat.le_of_ble_eq_true rfl) (Nat.le_of_ble_eq_true rfl) rfl ?_
      rintro v120 T120 L120 X120 ⟨rfl, Nq120, eq120⟩
      have N120 := Fr.app N117 Nq120
      change own_G p e below _ _ (mkF m 33 _ [(.int (1 : Int32))])
      refine own_istore (n := 35) (l' := #[.val (.long q0), .second, .val (.long q1), .second, .val (.long q2), .second, .val (.int p3), .val (.int (3 : Int32)), .val (.int (0 : Int32)), .val (.ref b113), .val (.int (1 : Int32)), .unset, .unset]) X120 hx (hb hby at_33) rfl rfl ?_
      refine own_iload (n := 37) X120 hx (hb hby at_35) rfl rfl ?_
      refine own_ifNo (n := 40) X120 hx (hb hby at_37) (tlt (by decide : (0 : Int32) < (3 : Int32))).2.2.2 rfl ?_
      refine own_aload (n := 42) X120 hx (hb hby at_40) rfl rfl rfl ?_
      refine own_lloadN (n := 43) X120 hx (hb hby at_42) rfl rfl ?_
      refine own_V (n := 46) (argsL := [(.long q0)]) (rest := []) (a := b113) X120 hx hZ hown (own_rm_add0 l Z a0 hw b113 b117c b117d kb117 kd117 (0 : Int64) (0 : Int64) (0 : Int64) (0 : Int64) (0 : Int64) (0 : Int64) (0 : Int64) (0 : Int64) q0 T117.heap n0 Z_119 E_118 Fc117 Fz117 Vb117 Vd117 nbd117 g_b113 gd117) (ww22 hw) (ww23 hw) (notFace_of_selects (args := #[]) (mvT hZ (ww25 hw))) (ww25 hw) (ww24 hw) (ww2 hw) (ww26 hw) (by decide) eq120 E_118 (by rw [hml]; rfl) (lenOf own_pd3 rfl) rfl (hb hby at_43) (Nat.le_of_ble_eq_true rfl) (Nat.le_of_ble_eq_true rfl) (Nat.le_of_ble_eq_true rfl) (Nat.le_of_ble_eq_true rfl) rfl ?_
      rintro v121 T121 L121 X121 ⟨rfl, Nq121, K121, Eq121, Fc121, Fz121, Vd121⟩
      have N121 := Fr.app N120 Nq121
      have E_122 := E_118.keep K121
      have A_123 := Vb117.keep K121 (by simp [(Ne.symm (own_neEA E_118 (ww1 hw) Vb117)), nbd117])
      have Z_124 : n0 ≤ T121.heap.size := Nat.le_trans Z_119 K121.1
      change own_G p e below _ _ (mkF m 46 _ [])
      refine own_iload (n := 48) X121 hx (hb hby at_46) rfl rfl ?_
      refine own_iconst (n := 49) (z := (1 : Int32)) X121 hx (hb hby at_48) rfl rfl ?_
      refine own_icmpNo (n := 52) X121 hx (hb hby at_49) (tlt (by decide : (1 : Int32) < (3 : Int32))).2.2.2 rfl ?_
      refine own_aload (n := 54) X121 hx (hb hby at_52) rfl rfl rfl ?_
      refine own_lloadN (n := 55) X121 hx (hb hby at_54) rfl rfl ?_
      refine own_V (n := 58) (argsL := [(.long q1)]) (rest := []) (a := b113) X121 hx hZ hown (own_rm_add1 l Z a0 hw b113 b117c b117d kb117 kd117 q0 (0 : Int64) (0 : Int64) (0 : Int64) (0 : Int64) (0 : Int64) (0 : Int64) (0 : Int64) q1 T121.heap n0 Z_124 E_122 Fc121 Fz121 A_123 Vd121 nbd117 g_b113 gd117) (ww22 hw) (ww23 hw) (notFace_of_selects (args := #[]) (mvT hZ (ww25 hw))) (ww25 hw) (ww24 hw) (ww2 hw) (ww26 hw) (by decide) rfl E_122 (by rw [hml]; rfl) (lenOf own_pd3 rfl) rfl (hb hby at_55) (Nat.le_of_ble_eq_true rfl) (Nat.le_of_ble_eq_true rfl) (Nat.le_of_ble_eq_true rfl) (Nat.le_of_ble_eq_true rfl) rfl ?_
      rintro v125 T125 L125 X125 ⟨rfl, Nq125, K125, Eq125, Fc125, Fz125, Vd125⟩
      have N125 := Fr.app N121 Nq125
      have E_126 := E_122.keep K125
      have A_127 := A_123.keep K125 (by simp [(Ne.symm (own_neEA E_122 (ww1 hw) A_123)), nbd117])
      have Z_128 : n0 ≤ T125.heap.size := Nat.le_trans Z_124 K125.1
      change own_G p e below _ _ (mkF m 58 _ [])
      refine own_iload (n := 60) X125 hx (hb hby at_58) rfl rfl ?_
      refine own_iconst (n := 61) (z := (2 : Int32)) X125 hx (hb hby at_60) rfl rfl ?_
      refine own_icmpNo (n := 64) X125 hx (hb hby at_61) (tlt (by decide : (2 : Int32) < (3 : Int32))).2.2.2 rfl ?_
      refine own_aload (n := 66) X125 hx (hb hby at_64) rfl rfl rfl ?_
      refine own_lload (n := 68) X125 hx (hb hby at_66) rfl rfl ?_
      refine own_V (n := 71) (argsL := [(.long q2)]) (rest := []) (a := b113) X125 hx hZ hown (own_rm_add2 l Z a0 hw b113 b117c b117d kb117 kd117 q0 q1 (0 : Int64) (0 : Int64) (0 : Int64) (0 : Int64) (0 : Int64) (0 : Int64) q2 T125.heap n0 Z_128 E_126 Fc125 Fz125 A_127 Vd125 nbd117 g_b113 gd117) (ww22 hw) (ww23 hw) (notFace_of_selects (args := #[]) (mvT hZ (ww25 hw))) (ww25 hw) (ww24 hw) (ww2 hw) (ww26 hw) (by decide) rfl E_126 (by rw [hml]; rfl) (lenOf own_pd3 rfl) rfl (hb hby at_68) (Nat.le_of_ble_eq_true rfl) (Nat.le_of_ble_eq_true rfl) (Nat.le_of_ble_eq_true rfl) (Nat.le_of_ble_eq_true rfl) rfl ?_
      rintro v129 T129 L129 X129 ⟨rfl, Nq129, K129, Eq129, Fc129, Fz129, Vd129⟩
      have N129 := Fr.app N125 Nq129
      have E_130 := E_126.keep K129
      have A_131 := A_127.keep K129 (by simp [(Ne.symm (own_neEA E_126 (ww1 hw) A_127)), nbd117])
      have Z_132 : n0 ≤ T129.heap.size := Nat.le_trans Z_128 K129.1
      change own_G p e below _ _ (mkF m 71 _ [])
      refine own_iload (n := 73) X129 hx (hb hby at_71) rfl rfl ?_
      refine own_ifYes (n := 82) X129 hx (hb hby at_73) (flt (by decide : ¬ ((0 : Int32) < (0 : Int32)))).2.2.2 (by decide) (by decide) ?_
      refine own_iload (n := 84) X129 hx (hb hby at_82) rfl rfl ?_
      refine own_iconst (n := 85) (z := (1 : Int32)) X129 hx (hb hby at_84) rfl rfl ?_
      refine own_icmpYes (n := 94) X129 hx (hb hby at_85) (flt (by decide : ¬ ((1 : Int32) < (0 : Int32)))).2.2.2 (by decide) (by decide) ?_
      refine own_iload (n := 96) X129 hx (hb hby at_94) rfl rfl ?_
      refine own_iconst (n := 97) (z := (2 : Int32)) X129 hx (hb hby at_96) rfl rfl ?_
      refine own_icmpYes (n := 106) X129 hx (hb hby at_97) (flt (by decide : ¬ ((2 : Int32) < (0 : Int32)))).2.2.2 (by decide) (by decide) ?_
      refine own_aload (n := 108) X129 hx (hb hby at_106) rfl rfl rfl ?_
      refine own_V (n := 111) (argsL := []) (rest := []) (a := b113) X129 hx hZ hown (own_rm_isEmpty3 l Z a0 hw b113 T129.heap n0 Z_132 Fz129) (ww15 hw) (ww16 hw) (notFace_of_selects (args := #[]) (mvT hZ (ww18 hw))) (ww18 hw) (ww17 hw) (ww2 hw) (ww19 hw) (by decide) rfl E_130 (by rw [hml]; rfl) (lenOf own_pd1 rfl) rfl (hb hby at_108) (Nat.le_of_ble_eq_true rfl) (Nat.le_of_ble_eq_true rfl) (Nat.le_of_ble_eq_true rfl) (Nat.le_of_ble_eq_true rfl) rfl ?_
      rintro v133 T133 L133 X133 ⟨rfl, Nq133, eq133⟩
      have N133 := Fr.app N129 Nq133
      change own_G p e below _ _ (mkF m 111 _ [(.int (0 : Int32))])
      refine own_istore (n := 113) (l' := #[.val (.long q0), .second, .val (.long q1), .second, .val (.long q2), .second, .val (.int p3), .val (.int (3 : Int32)), .val (.int (0 : Int32)), .val (.ref b113), .val (.int (1 : Int32)), .val (.int (0 : Int32)), .unset]) X133 hx (hb hby at_111) rfl rfl ?_
      refine own_iload (n := 115) X133 hx (hb hby at_113) rfl rfl ?_
      refine own_iload (n := 117) X133 hx (hb hby at_115) rfl rfl ?_
      refine own_isub (n := 118) (z := (3 : Int32)) X133 hx (hb hby at_117) rfl rfl ?_
      refine own_ifYes (n := 125) X133 hx (hb hby at_118) (feq (by decide : ¬ ((3 : Int32) = (0 : Int32)))).2 (by decide) (by decide) ?_
      refine own_iconst (n := 126) (z := (0 : Int32)) X133 hx (hb hby at_125) rfl rfl ?_
      refine own_istore (n := 128) (l' := #[.val (.long q0), .second, .val (.long q1), .second, .val (.long q2), .second, .val (.int p3), .val (.int (3 : Int32)), .val (.int (0 : Int32)), .val (.ref b113), .val (.int (1 : Int32)), .val (.int (0 : Int32)), .val (.int (0 : Int32))]) X133 hx (hb hby at_126) rfl rfl ?_
      refine own_iload (n := 130) X133 hx (hb hby at_128) rfl rfl ?_
      refine own_ifNo (n := 133) X133 hx (hb hby at_130) (feq (by decide : ¬ ((1 : Int32) = (0 : Int32)))).1 rfl ?_
      refine own_iload (n := 135) X133 hx (hb hby at_133) rfl rfl ?_
      refine own_iload (n := 137) X133 hx (hb hby at_135) rfl rfl ?_
      refine own_icmpNo (n := 140) X133 hx (hb hby at_137) (teq (by decide : (0 : Int32) = (0 : Int32))).2 rfl ?_
      refine own_iload (n := 142) X133 hx (hb hby at_140) rfl rfl ?_
      refine own_aload (n := 144) X133 hx (hb hby at_142) rfl rfl rfl ?_
      refine own_V (n := 147) (argsL := []) (rest := [(.int (0 : Int32))]) (a := b113) X133 hx hZ hown (own_rm_size3 l Z a0 hw b113 T129.heap n0 Z_132 Fz129) (ww28 hw) (ww29 hw) (notFace_of_selects (args := #[]) (mvT hZ (ww31 hw))) (ww31 hw) (ww30 hw) (ww2 hw) (ww32 hw) (by decide) eq133 E_130 (by rw [hml]; rfl) (lenOf own_pd2 rfl) rfl (hb hby at_144) (Nat.le_of_ble_eq_true rfl) (Nat.le_of_ble_eq_true rfl) (Nat.le_of_ble_eq_true rfl) (Nat.le_of_ble_eq_true rfl) rfl ?_
      rintro v134 T134 L134 X134 ⟨rfl, Nq134, eq134⟩
      have N134 := Fr.app N133 Nq134
      change own_G p e below _ _ (mkF m 147 _ [(.int (3 : Int32)), (.int (0 : Int32))])
      refine own_ifYes (n := 154) X134 hx (hb hby at_147) (feq (by decide : ¬ ((3 : Int32) = (0 : Int32)))).2 (by decide) (by decide) ?_
      refine own_iconst (n := 155) (z := (0 : Int32)) X134 hx (hb hby at_154) rfl rfl ?_
      refine own_icmpNo (n := 158) X134 hx (hb hby at_155) (teq (by decide : (0 : Int32) = (0 : Int32))).2 rfl ?_
      refine own_iconst (n := 159) (z := (1 : Int32)) X134 hx (hb hby at_158) rfl rfl ?_
      refine own_goto (n := 163) X134 hx (hb hby at_159) (by decide) (by decide) ?_
      refine own_retZ X134 hx hlk hret (by simp) eq134 (w := (1 : Int32)) rfl (hb hby at_163) (by decide) (by decide) ?_
      exact ⟨rfl, N134⟩
    · rw [hr]
      refine own_new (n := 22) X0 hx hZ hown (ww0 hw) (ww1 hw) (ww2 hw) e0 (hb hby at_19) (by decide) (by decide) rfl ?_
      intro T135 h135 b135 g135 X135 e135 E135 A135 D135
      have g_b135 : n0 ≤ b135 := Nat.le_trans Z0 (Nat.le_of_eq g135.symm)
      have Z_136 : n0 ≤ h135.size := Nat.le_trans Z0 E135.1
      have F_137 : Fld Z h135 b135 "com/example/preorders_from_tests/preordersfromtests/lts/LongList" "chunks" "[[J" .null := D135 (Or.inl (ww14 hw)) (ty := (.array (.array .long))) (by decide)
      have F_138 : Fld Z h135 b135 "com/example/preorders_from_tests/preordersfromtests/lts/LongList" "size" "I" (.int (0 : Int32)) := D135 (Or.inl (ww21 hw)) (ty := .int) (by decide)
      refine own_dup (n := 23) X135 hx (hb hby at_22) rfl rfl ?_
      refine own_I (n := 26) (argsL := []) (rest := [(.ref b135)]) (a := b135) (by rfl) X135 hx hZ hown (own_rmI l Z a0 hw b135 h135 n0 Z_136 A135 F_137 F_138 g_b135) (ww3 hw) (ww4 hw) (ww2 hw) (ww5 hw) (by decide) e135 (by rw [hml]; rfl) (lenOf own_pd0 rfl) rfl (hb hby at_23) (Nat.le_of_ble_eq_true rfl) (Nat.le_of_ble_eq_true rfl) (Nat.le_of_ble_eq_true rfl) (Nat.le_of_ble_eq_true rfl) rfl ?_
      rintro v139 T139 L139 X139 ⟨b139c, b139d, kb139, kd139, rfl, Nq139, K139, Eq139, Fc139, Fz139, Vb139, Vd139, nbd139, gd139⟩
      have N139 := Fr.app N0 Nq139
      have E_140 := A135.keep K139
      have Z_141 : n0 ≤ T139.heap.size := Nat.le_trans Z_136 K139.1
      change own_G p e below _ _ (mkF m 26 _ [(.ref b135)])
      refine own_astore (n := 28) (l' := #[.val (.long q0), .second, .val (.long q1), .second, .val (.long q2), .second, .val (.int p3), .val (.int (3 : Int32)), .val (.int (1 : Int32)), .val (.ref b135), .unset, .unset, .unset]) X139 hx (hb hby at_26) rfl rfl rfl ?_
      refine own_aload (n := 30) X139 hx (hb hby at_28) rfl rfl rfl ?_
      refine own_V (n := 33) (argsL := []) (rest := []) (a := b135) X139 hx hZ hown (own_rm_isEmpty0 l Z a0 hw b135 T139.heap n0 Z_141 Fz139) (ww15 hw) (ww16 hw) (notFace_of_selects (args := #[]) (mvT hZ (ww18 hw))) (ww18 hw) (ww17 hw) (ww2 hw) (ww19 hw) (by decide) rfl E_140 (by rw [hml]; rfl) (lenOf own_pd1 rfl) rfl (hb hby at_30) (Nat.le_of_ble_eq_true rfl) (Nat.le_of_ble_eq_true rfl) (Nat.le_of_ble_eq_true rfl) (Nat.le_of_ble_eq_true rfl) rfl ?_
      rintro v142 T142 L142 X142 ⟨rfl, Nq142, eq142⟩
      have N142 := Fr.app N139 Nq142
      change own_G p e below _ _ (mkF m 33 _ [(.int (1 : Int32))])
      refine own_istore (n := 35) (l' := #[.val (.long q0), .second, .val (.long q1), .second, .val (.long q2), .second, .val (.int p3), .val (.int (3 : Int32)), .val (.int (1 : Int32)), .val (.ref b135), .val (.int (1 : Int32)), .unset, .unset]) X142 hx (hb hby at_33) rfl rfl ?_
      refine own_iload (n := 37) X142 hx (hb hby at_35) rfl rfl ?_
      refine own_ifNo (n := 40) X142 hx (hb hby at_37) (tlt (by decide : (0 : Int32) < (3 : Int32))).2.2.2 rfl ?_
      refine own_aload (n := 42) X142 hx (hb hby at_40) rfl rfl rfl ?_
      refine own_lloadN (n := 43) X142 hx (hb hby at_42) rfl rfl ?_
      refine own_V (n := 46) (argsL := [(.long q0)]) (rest := []) (a := b135) X142 hx hZ hown (own_rm_add0 l Z a0 hw b135 b139c b139d kb139 kd139 (0 : Int64) (0 : Int64) (0 : Int64) (0 : Int64) (0 : Int64) (0 : Int64) (0 : Int64) (0 : Int64) q0 T139.heap n0 Z_141 E_140 Fc139 Fz139 Vb139 Vd139 nbd139 g_b135 gd139) (ww22 hw) (ww23 hw) (notFace_of_selects (args := #[]) (mvT hZ (ww25 hw))) (ww25 hw) (ww24 hw) (ww2 hw) (ww26 hw) (by decide) eq142 E_140 (by rw [hml]; rfl) (lenOf own_pd3 rfl) rfl (hb hby at_43) (Nat.le_of_ble_eq_true rfl) (Nat.le_of_ble_eq_true rfl) (Nat.le_of_ble_eq_true rfl) (Nat.le_of_ble_eq_true rfl) rfl ?_
      rintro v143 T143 L143 X143 ⟨rfl, Nq143, K143, Eq143, Fc143, Fz143, Vd143⟩
      have N143 := Fr.app N142 Nq143
      have E_144 := E_140.keep K143
      have A_145 := Vb139.keep K143 (by simp [(Ne.symm (own_neEA E_140 (ww1 hw) Vb139)), nbd139])
      have Z_146 : n0 ≤ T143.heap.size := Nat.le_trans Z_141 K143.1
      change own_G p e below _ _ (mkF m 46 _ [])
      refine own_iload (n := 48) X143 hx (hb hby at_46) rfl rfl ?_
      refine own_iconst (n := 49) (z := (1 : Int32)) X143 hx (hb hby at_48) rfl rfl ?_
      refine own_icmpNo (n := 52) X143 hx (hb hby at_49) (tlt (by decide : (1 : Int32) < (3 : Int32))).2.2.2 rfl ?_
      refine own_aload (n := 54) X143 hx (hb hby at_52) rfl rfl rfl ?_
      refine own_lloadN (n := 55) X143 hx (hb hby at_54) rfl rfl ?_
      refine own_V (n := 58) (argsL := [(.long q1)]) (rest := []) (a := b135) X143 hx hZ hown (own_rm_add1 l Z a0 hw b135 b139c b139d kb139 kd139 q0 (0 : Int64) (0 : Int64) (0 : Int64) (0 : Int64) (0 : Int64) (0 : Int64) (0 : Int64) q1 T143.heap n0 Z_146 E_144 Fc143 Fz143 A_145 Vd143 nbd139 g_b135 gd139) (ww22 hw) (ww23 hw) (notFace_of_selects (args := #[]) (mvT hZ (ww25 hw))) (ww25 hw) (ww24 hw) (ww2 hw) (ww26 hw) (by decide) rfl E_144 (by rw [hml]; rfl) (lenOf own_pd3 rfl) rfl (hb hby at_55) (Nat.le_of_ble_eq_true rfl) (Nat.le_of_ble_eq_true rfl) (Nat.le_of_ble_eq_true rfl) (Nat.le_of_ble_eq_true rfl) rfl ?_
      rintro v147 T147 L147 X147 ⟨rfl, Nq147, K147, Eq147, Fc147, Fz147, Vd147⟩
      have N147 := Fr.app N143 Nq147
      have E_148 := E_144.keep K147
      have A_149 := A_145.keep K147 (by simp [(Ne.symm (own_neEA E_144 (ww1 hw) A_145)), nbd139])
      have Z_150 : n0 ≤ T147.heap.size := Nat.le_trans Z_146 K147.1
      change own_G p e below _ _ (mkF m 58 _ [])
      refine own_iload (n := 60) X147 hx (hb hby at_58) rfl rfl ?_
      refine own_iconst (n := 61) (z := (2 : Int32)) X147 hx (hb hby at_60) rfl rfl ?_
      refine own_icmpNo (n := 64) X147 hx (hb hby at_61) (tlt (by decide : (2 : Int32) < (3 : Int32))).2.2.2 rfl ?_
      refine own_aload (n := 66) X147 hx (hb hby at_64) rfl rfl rfl ?_
      refine own_lload (n := 68) X147 hx (hb hby at_66) rfl rfl ?_
      refine own_V (n := 71) (argsL := [(.long q2)]) (rest := []) (a := b135) X147 hx hZ hown (own_rm_add2 l Z a0 hw b135 b139c b139d kb139 kd139 q0 q1 (0 : Int64) (0 : Int64) (0 : Int64) (0 : Int64) (0 : Int64) (0 : Int64) q2 T147.heap n0 Z_150 E_148 Fc147 Fz147 A_149 Vd147 nbd139 g_b135 gd139) (ww22 hw) (ww23 hw) (notFace_of_selects (args := #[]) (mvT hZ (ww25 hw))) (ww25 hw) (ww24 hw) (ww2 hw) (ww26 hw) (by decide) rfl E_148 (by rw [hml]; rfl) (lenOf own_pd3 rfl) rfl (hb hby at_68) (Nat.le_of_ble_eq_true rfl) (Nat.le_of_ble_eq_true rfl) (Nat.le_of_ble_eq_true rfl) (Nat.le_of_ble_eq_true rfl) rfl ?_
      rintro v151 T151 L151 X151 ⟨rfl, Nq151, K151, Eq151, Fc151, Fz151, Vd151⟩
      have N151 := Fr.app N147 Nq151
      have E_152 := E_148.keep K151
      have A_153 := A_149.keep K151 (by simp [(Ne.symm (own_neEA E_148 (ww1 hw) A_149)), nbd139])
      have Z_154 : n0 ≤ T151.heap.size := Nat.le_trans Z_150 K151.1
      change own_G p e below _ _ (mkF m 71 _ [])
      refine own_iload (n := 73) X151 hx (hb hby at_71) rfl rfl ?_
      refine own_ifNo (n := 76) X151 hx (hb hby at_73) (tlt (by decide : (0 : Int32) < (1 : Int32))).2.2.2 rfl ?_
      refine own_aload (n := 78) X151 hx (hb hby at_76) rfl rfl rfl ?_
      refine own_V (n := 81) (argsL := []) (rest := []) (a := b135) X151 hx hZ hown (own_rm_rem3 l Z a0 hw b135 b139c b139d kb139 kd139 q0 q1 q2 (0 : Int64) (0 : Int64) (0 : Int64) (0 : Int64) (0 : Int64) T151.heap n0 Z_154 E_152 Fc151 Fz151 A_153 Vd151 nbd139 g_b135) (ww33 hw) (ww34 hw) (notFace_of_selects (args := #[]) (mvT hZ (ww36 hw))) (ww36 hw) (ww35 hw) (ww2 hw) (ww37 hw) (by decide) rfl E_152 (by rw [hml]; rfl) (lenOf own_pd4 rfl) rfl (hb hby at_78) (Nat.le_of_ble_eq_true rfl) (Nat.le_of_ble_eq_true rfl) (Nat.le_of_ble_eq_true rfl) (Nat.le_of_ble_eq_true rfl) rfl ?_
      rintro v155 T155 L155 X155 ⟨rfl, Nq155, K155, Eq155, Fc155, Fz155⟩
      have N155 := Fr.app N151 Nq155
      have E_156 := E_152.keep K155
      have A_157 := A_153.keep K155 (by simp [(Ne.symm (own_neEA E_152 (ww1 hw) A_153))])
      have A_158 := Vd151.keep K155 (by simp [(Ne.symm (own_neEA E_152 (ww1 hw) Vd151))])
      have Z_159 : n0 ≤ T155.heap.size := Nat.le_trans Z_154 K155.1
      change own_G p e below _ _ (mkF m 81 _ [(.long q2)])
      refine own_pop2 (n := 82) X155 hx (hb hby at_81) rfl ?_
      refine own_iload (n := 84) X155 hx (hb hby at_82) rfl rfl ?_
      refine own_iconst (n := 85) (z := (1 : Int32)) X155 hx (hb hby at_84) rfl rfl ?_
      refine own_icmpYes (n := 94) X155 hx (hb hby at_85) (flt (by decide : ¬ ((1 : Int32) < (1 : Int32)))).2.2.2 (by decide) (by decide) ?_
      refine own_iload (n := 96) X155 hx (hb hby at_94) rfl rfl ?_
      refine own_iconst (n := 97) (z := (2 : Int32)) X155 hx (hb hby at_96) rfl rfl ?_
      refine own_icmpYes (n := 106) X155 hx (hb hby at_97) (flt (by decide : ¬ ((2 : Int32) < (1 : Int32)))).2.2.2 (by decide) (by decide) ?_
      refine own_aload (n := 108) X155 hx (hb hby at_106) rfl rfl rfl ?_
      refine own_V (n := 111) (argsL := []) (rest := []) (a := b135) X155 hx hZ hown (own_rm_isEmpty2 l Z a0 hw b135 T155.heap n0 Z_159 Fz155) (ww15 hw) (ww16 hw) (notFace_of_selects (args := #[]) (mvT hZ (ww18 hw))) (ww18 hw) (ww17 hw) (ww2 hw) (ww19 hw) (by decide) rfl E_156 (by rw [hml]; rfl) (lenOf own_pd1 rfl) rfl (hb hby at_108) (Nat.le_of_ble_eq_true rfl) (Nat.le_of_ble_eq_true rfl) (Nat.le_of_ble_eq_true rfl) (Nat.le_of_ble_eq_true rfl) rfl ?_
      rintro v160 T160 L160 X160 ⟨rfl, Nq160, eq160⟩
      have N160 := Fr.app N155 Nq160
      change own_G p e below _ _ (mkF m 111 _ [(.int (0 : Int32))])
      refine own_istore (n := 113) (l' := #[.val (.long q0), .second, .val (.long q1), .second, .val (.long q2), .second, .val (.int p3), .val (.int (3 : Int32)), .val (.int (1 : Int32)), .val (.ref b135), .val (.int (1 : Int32)), .val (.int (0 : Int32)), .unset]) X160 hx (hb hby at_111) rfl rfl ?_
      refine own_iload (n := 115) X160 hx (hb hby at_113) rfl rfl ?_
      refine own_iload (n := 117) X160 hx (hb hby at_115) rfl rfl ?_
      refine own_isub (n := 118) (z := (2 : Int32)) X160 hx (hb hby at_117) rfl rfl ?_
      refine own_ifYes (n := 125) X160 hx (hb hby at_118) (feq (by decide : ¬ ((2 : Int32) = (0 : Int32)))).2 (by decide) (by decide) ?_
      refine own_iconst (n := 126) (z := (0 : Int32)) X160 hx (hb hby at_125) rfl rfl ?_
      refine own_istore (n := 128) (l' := #[.val (.long q0), .second, .val (.long q1), .second, .val (.long q2), .second, .val (.int p3), .val (.int (3 : Int32)), .val (.int (1 : Int32)), .val (.ref b135), .val (.int (1 : Int32)), .val (.int (0 : Int32)), .val (.int (0 : Int32))]) X160 hx (hb hby at_126) rfl rfl ?_
      refine own_iload (n := 130) X160 hx (hb hby at_128) rfl rfl ?_
      refine own_ifNo (n := 133) X160 hx (hb hby at_130) (feq (by decide : ¬ ((1 : Int32) = (0 : Int32)))).1 rfl ?_
      refine own_iload (n := 135) X160 hx (hb hby at_133) rfl rfl ?_
      refine own_iload (n := 137) X160 hx (hb hby at_135) rfl rfl ?_
      refine own_icmpNo (n := 140) X160 hx (hb hby at_137) (teq (by decide : (0 : Int32) = (0 : Int32))).2 rfl ?_
      refine own_iload (n := 142) X160 hx (hb hby at_140) rfl rfl ?_
      refine own_aload (n := 144) X160 hx (hb hby at_142) rfl rfl rfl ?_
      refine own_V (n := 147) (argsL := []) (rest := [(.int (0 : Int32))]) (a := b135) X160 hx hZ hown (own_rm_size2 l Z a0 hw b135 T155.heap n0 Z_159 Fz155) (ww28 hw) (ww29 hw) (notFace_of_selects (args := #[]) (mvT hZ (ww31 hw))) (ww31 hw) (ww30 hw) (ww2 hw) (ww32 hw) (by decide) eq160 E_156 (by rw [hml]; rfl) (lenOf own_pd2 rfl) rfl (hb hby at_144) (Nat.le_of_ble_eq_true rfl) (Nat.le_of_ble_eq_true rfl) (Nat.le_of_ble_eq_true rfl) (Nat.le_of_ble_eq_true rfl) rfl ?_
      rintro v161 T161 L161 X161 ⟨rfl, Nq161, eq161⟩
      have N161 := Fr.app N160 Nq161
      change own_G p e below _ _ (mkF m 147 _ [(.int (2 : Int32)), (.int (0 : Int32))])
      refine own_ifYes (n := 154) X161 hx (hb hby at_147) (feq (by decide : ¬ ((2 : Int32) = (0 : Int32)))).2 (by decide) (by decide) ?_
      refine own_iconst (n := 155) (z := (0 : Int32)) X161 hx (hb hby at_154) rfl rfl ?_
      refine own_icmpNo (n := 158) X161 hx (hb hby at_155) (teq (by decide : (0 : Int32) = (0 : Int32))).2 rfl ?_
      refine own_iconst (n := 159) (z := (1 : Int32)) X161 hx (hb hby at_158) rfl rfl ?_
      refine own_goto (n := 163) X161 hx (hb hby at_159) (by decide) (by decide) ?_
      refine own_retZ X161 hx hlk hret (by simp) eq161 (w := (1 : Int32)) rfl (hb hby at_163) (by decide) (by decide) ?_
      exact ⟨rfl, N161⟩
    · rw [hr]
      refine own_new (n := 22) X0 hx hZ hown (ww0 hw) (ww1 hw) (ww2 hw) e0 (hb hby at_19) (by decide) (by decide) rfl ?_
      intro T162 h162 b162 g162 X162 e162 E162 A162 D162
      have g_b162 : n0 ≤ b162 := Nat.le_trans Z0 (Nat.le_of_eq g162.symm)
      have Z_163 : n0 ≤ h162.size := Nat.le_trans Z0 E162.1
      have F_164 : Fld Z h162 b162 "com/example/preorders_from_tests/preordersfromtests/lts/LongList" "chunks" "[[J" .null := D162 (Or.inl (ww14 hw)) (ty := (.array (.array .long))) (by decide)
      have F_165 : Fld Z h162 b162 "com/example/preorders_from_tests/preordersfromtests/lts/LongList" "size" "I" (.int (0 : Int32)) := D162 (Or.inl (ww21 hw)) (ty := .int) (by decide)
      refine own_dup (n := 23) X162 hx (hb hby at_22) rfl rfl ?_
      refine own_I (n := 26) (argsL := []) (rest := [(.ref b162)]) (a := b162) (by rfl) X162 hx hZ hown (own_rmI l Z a0 hw b162 h162 n0 Z_163 A162 F_164 F_165 g_b162) (ww3 hw) (ww4 hw) (ww2 hw) (ww5 hw) (by decide) e162 (by rw [hml]; rfl) (lenOf own_pd0 rfl) rfl (hb hby at_23) (Nat.le_of_ble_eq_true rfl) (Nat.le_of_ble_eq_true rfl) (Nat.le_of_ble_eq_true rfl) (Nat.le_of_ble_eq_true rfl) rfl ?_
      rintro v166 T166 L166 X166 ⟨b166c, b166d, kb166, kd166, rfl, Nq166, K166, Eq166, Fc166, Fz166, Vb166, Vd166, nbd166, gd166⟩
      have N166 := Fr.app N0 Nq166
      have E_167 := A162.keep K166
      have Z_168 : n0 ≤ T166.heap.size := Nat.le_trans Z_163 K166.1
      change own_G p e below _ _ (mkF m 26 _ [(.ref b162)])
      refine own_astore (n := 28) (l' := #[.val (.long q0), .second, .val (.long q1), .second, .val (.long q2), .second, .val (.int p3), .val (.int (3 : Int32)), .val (.int (2 : Int32)), .val (.ref b162), .unset, .unset, .unset]) X166 hx (hb hby at_26) rfl rfl rfl ?_
      refine own_aload (n := 30) X166 hx (hb hby at_28) rfl rfl rfl ?_
      refine own_V (n := 33) (argsL := []) (rest := []) (a := b162) X166 hx hZ hown (own_rm_isEmpty0 l Z a0 hw b162 T166.heap n0 Z_168 Fz166) (ww15 hw) (ww16 hw) (notFace_of_selects (args := #[]) (mvT hZ (ww18 hw))) (ww18 hw) (ww17 hw) (ww2 hw) (ww19 hw) (by decide) rfl E_167 (by rw [hml]; rfl) (lenOf own_pd1 rfl) rfl (hb hby at_30) (Nat.le_of_ble_eq_true rfl) (Nat.le_of_ble_eq_true rfl) (Nat.le_of_ble_eq_true rfl) (Nat.le_of_ble_eq_true rfl) rfl ?_
      rintro v169 T169 L169 X169 ⟨rfl, Nq169, eq169⟩
      have N169 := Fr.app N166 Nq169
      change own_G p e below _ _ (mkF m 33 _ [(.int (1 : Int32))])
      refine own_istore (n := 35) (l' := #[.val (.long q0), .second, .val (.long q1), .second, .val (.long q2), .second, .val (.int p3), .val (.int (3 : Int32)), .val (.int (2 : Int32)), .val (.ref b162), .val (.int (1 : Int32)), .unset, .unset]) X169 hx (hb hby at_33) rfl rfl ?_
      refine own_iload (n := 37) X169 hx (hb hby at_35) rfl rfl ?_
      refine own_ifNo (n := 40) X169 hx (hb hby at_37) (tlt (by decide : (0 : Int32) < (3 : Int32))).2.2.2 rfl ?_
      refine own_aload (n := 42) X169 hx (hb hby at_40) rfl rfl rfl ?_
      refine own_lloadN (n := 43) X169 hx (hb hby at_42) rfl rfl ?_
      refine own_V (n := 46) (argsL := [(.long q0)]) (rest := []) (a := b162) X169 hx hZ hown (own_rm_add0 l Z a0 hw b162 b166c b166d kb166 kd166 (0 : Int64) (0 : Int64) (0 : Int64) (0 : Int64) (0 : Int64) (0 : Int64) (0 : Int64) (0 : Int64) q0 T166.heap n0 Z_168 E_167 Fc166 Fz166 Vb166 Vd166 nbd166 g_b162 gd166) (ww22 hw) (ww23 hw) (notFace_of_selects (args := #[]) (mvT hZ (ww25 hw))) (ww25 hw) (ww24 hw) (ww2 hw) (ww26 hw) (by decide) eq169 E_167 (by rw [hml]; rfl) (lenOf own_pd3 rfl) rfl (hb hby at_43) (Nat.le_of_ble_eq_true rfl) (Nat.le_of_ble_eq_true rfl) (Nat.le_of_ble_eq_true rfl) (Nat.le_of_ble_eq_true rfl) rfl ?_
      rintro v170 T170 L170 X170 ⟨rfl, Nq170, K170, Eq170, Fc170, Fz170, Vd170⟩
      have N170 := Fr.app N169 Nq170
      have E_171 := E_167.keep K170
      have A_172 := Vb166.keep K170 (by simp [(Ne.symm (own_neEA E_167 (ww1 hw) Vb166)), nbd166])
      have Z_173 : n0 ≤ T170.heap.size := Nat.le_trans Z_168 K170.1
      change own_G p e below _ _ (mkF m 46 _ [])
      refine own_iload (n := 48) X170 hx (hb hby at_46) rfl rfl ?_
      refine own_iconst (n := 49) (z := (1 : Int32)) X170 hx (hb hby at_48) rfl rfl ?_
      refine own_icmpNo (n := 52) X170 hx (hb hby at_49) (tlt (by decide : (1 : Int32) < (3 : Int32))).2.2.2 rfl ?_
      refine own_aload (n := 54) X170 hx (hb hby at_52) rfl rfl rfl ?_
      refine own_lloadN (n := 55) X170 hx (hb hby at_54) rfl rfl ?_
      refine own_V (n := 58) (argsL := [(.long q1)]) (rest := []) (a := b162) X170 hx hZ hown (own_rm_add1 l Z a0 hw b162 b166c b166d kb166 kd166 q0 (0 : Int64) (0 : Int64) (0 : Int64) (0 : Int64) (0 : Int64) (0 : Int64) (0 : Int64) q1 T170.heap n0 Z_173 E_171 Fc170 Fz170 A_172 Vd170 nbd166 g_b162 gd166) (ww22 hw) (ww23 hw) (notFace_of_selects (args := #[]) (mvT hZ (ww25 hw))) (ww25 hw) (ww24 hw) (ww2 hw) (ww26 hw) (by decide) rfl E_171 (by rw [hml]; rfl) (lenOf own_pd3 rfl) rfl (hb hby at_55) (Nat.le_of_ble_eq_true rfl) (Nat.le_of_ble_eq_true rfl) (Nat.le_of_ble_eq_true rfl) (Nat.le_of_ble_eq_true rfl) rfl ?_
      rintro v174 T174 L174 X174 ⟨rfl, Nq174, K174, Eq174, Fc174, Fz174, Vd174⟩
      have N174 := Fr.app N170 Nq174
      have E_175 := E_171.keep K174
      have A_176 := A_172.keep K174 (by simp [(Ne.symm (own_neEA E_171 (ww1 hw) A_172)), nbd166])
      have Z_177 : n0 ≤ T174.heap.size := Nat.le_trans Z_173 K174.1
      change own_G p e below _ _ (mkF m 58 _ [])
      refine own_iload (n := 60) X174 hx (hb hby at_58) rfl rfl ?_
      refine own_iconst (n := 61) (z := (2 : Int32)) X174 hx (hb hby at_60) rfl rfl ?_
      refine own_icmpNo (n := 64) X174 hx (hb hby at_61) (tlt (by decide : (2 : Int32) < (3 : Int32))).2.2.2 rfl ?_
      refine own_aload (n := 66) X174 hx (hb hby at_64) rfl rfl rfl ?_
      refine own_lload (n := 68) X174 hx (hb hby at_66) rfl rfl ?_
      refine own_V (n := 71) (argsL := [(.long q2)]) (rest := []) (a := b162) X174 hx hZ hown (own_rm_add2 l Z a0 hw b162 b166c b166d kb166 kd166 q0 q1 (0 : Int64) (0 : Int64) (0 : Int64) (0 : Int64) (0 : Int64) (0 : Int64) q2 T174.heap n0 Z_177 E_175 Fc174 Fz174 A_176 Vd174 nbd166 g_b162 gd166) (ww22 hw) (ww23 hw) (notFace_of_selects (args := #[]) (mvT hZ (ww25 hw))) (ww25 hw) (ww24 hw) (ww2 hw) (ww26 hw) (by decide) rfl E_175 (by rw [hml]; rfl) (lenOf own_pd3 rfl) rfl (hb hby at_68) (Nat.le_of_ble_eq_true rfl) (Nat.le_of_ble_eq_true rfl) (Nat.le_of_ble_eq_true rfl) (Nat.le_of_ble_eq_true rfl) rfl ?_
      rintro v178 T178 L178 X178 ⟨rfl, Nq178, K178, Eq178, Fc178, Fz178, Vd178⟩
      have N178 := Fr.app N174 Nq178
      have E_179 := E_175.keep K178
      have A_180 := A_176.keep K178 (by simp [(Ne.symm (own_neEA E_175 (ww1 hw) A_176)), nbd166])
      have Z_181 : n0 ≤ T178.heap.size := Nat.le_trans Z_177 K178.1
      change own_G p e below _ _ (mkF m 71 _ [])
      refine own_iload (n := 73) X178 hx (hb hby at_71) rfl rfl ?_
      refine own_ifNo (n := 76) X178 hx (hb hby at_73) (tlt (by decide : (0 : Int32) < (2 : Int32))).2.2.2 rfl ?_
      refine own_aload (n := 78) X178 hx (hb hby at_76) rfl rfl rfl ?_
      refine own_V (n := 81) (argsL := []) (rest := []) (a := b162) X178 hx hZ hown (own_rm_rem3 l Z a0 hw b162 b166c b166d kb166 kd166 q0 q1 q2 (0 : Int64) (0 : Int64) (0 : Int64) (0 : Int64) (0 : Int64) T178.heap n0 Z_181 E_179 Fc178 Fz178 A_180 Vd178 nbd166 g_b162) (ww33 hw) (ww34 hw) (notFace_of_selects (args := #[]) (mvT hZ (ww36 hw))) (ww36 hw) (ww35 hw) (ww2 hw) (ww37 hw) (by decide) rfl E_179 (by rw [hml]; rfl) (lenOf own_pd4 rfl) rfl (hb hby at_78) (Nat.le_of_ble_eq_true rfl) (Nat.le_of_ble_eq_true rfl) (Nat.le_of_ble_eq_true rfl) (Nat.le_of_ble_eq_true rfl) rfl ?_
      rintro v182 T182 L182 X182 ⟨rfl, Nq182, K182, Eq182, Fc182, Fz182⟩
      have N182 := Fr.app N178 Nq182
      have E_183 := E_179.keep K182
      have A_184 := A_180.keep K182 (by simp [(Ne.symm (own_neEA E_179 (ww1 hw) A_180))])
      have A_185 := Vd178.keep K182 (by simp [(Ne.symm (own_neEA E_179 (ww1 hw) Vd178))])
      have Z_186 : n0 ≤ T182.heap.size := Nat.le_trans Z_181 K182.1
      change own_G p e below _ _ (mkF m 81 _ [(.long q2)])
      refine own_pop2 (n := 82) X182 hx (hb hby at_81) rfl ?_
      refine own_iload (n := 84) X182 hx (hb hby at_82) rfl rfl ?_
      refine own_iconst (n := 85) (z := (1 : Int32)) X182 hx (hb hby at_84) rfl rfl ?_
      refine own_icmpNo (n := 88) X182 hx (hb hby at_85) (tlt (by decide : (1 : Int32) < (2 : Int32))).2.2.2 rfl ?_
      refine own_aload (n := 90) X182 hx (hb hby at_88) rfl rfl rfl ?_
      refine own_V (n := 93) (argsL := []) (rest := []) (a := b162) X182 hx hZ hown (own_rm_rem2 l Z a0 hw b162 b166c b166d kb166 kd166 q0 q1 q2 (0 : Int64) (0 : Int64) (0 : Int64) (0 : Int64) (0 : Int64) T182.heap n0 Z_186 E_183 Fc182 Fz182 A_184 A_185 nbd166 g_b162) (ww33 hw) (ww34 hw) (notFace_of_selects (args := #[]) (mvT hZ (ww36 hw))) (ww36 hw) (ww35 hw) (ww2 hw) (ww37 hw) (by decide) rfl E_183 (by rw [hml]; rfl) (lenOf own_pd4 rfl) rfl (hb hby at_90) (Nat.le_of_ble_eq_true rfl) (Nat.le_of_ble_eq_true rfl) (Nat.le_of_ble_eq_true rfl) (Nat.le_of_ble_eq_true rfl) rfl ?_
      rintro v187 T187 L187 X187 ⟨rfl, Nq187, K187, Eq187, Fc187, Fz187⟩
      have N187 := Fr.app N182 Nq187
      have E_188 := E_183.keep K187
      have A_189 := A_184.keep K187 (by simp [(Ne.symm (own_neEA E_183 (ww1 hw) A_184))])
      have A_190 := A_185.keep K187 (by simp [(Ne.symm (own_neEA E_183 (ww1 hw) A_185))])
      have Z_191 : n0 ≤ T187.heap.size := Nat.le_trans Z_186 K187.1
      change own_G p e below _ _ (mkF m 93 _ [(.long q1)])
      refine own_pop2 (n := 94) X187 hx (hb hby at_93) rfl ?_
      refine own_iload (n := 96) X187 hx (hb hby at_94) rfl rfl ?_
      refine own_iconst (n := 97) (z := (2 : Int32)) X187 hx (hb hby at_96) rfl rfl ?_
      refine own_icmpYes (n := 106) X187 hx (hb hby at_97) (flt (by decide : ¬ ((2 : Int32) < (2 : Int32)))).2.2.2 (by decide) (by decide) ?_
      refine own_aload (n := 108) X187 hx (hb hby at_106) rfl rfl rfl ?_
      refine own_V (n := 111) (argsL := []) (rest := []) (a := b162) X187 hx hZ hown (own_rm_isEmpty1 l Z a0 hw b162 T187.heap n0 Z_191 Fz187) (ww15 hw) (ww16 hw) (notFace_of_selects (args := #[]) (mvT hZ (ww18 hw))) (ww18 hw) (ww17 hw) (ww2 hw) (ww19 hw) (by decide) rfl E_188 (by rw [hml]; rfl) (lenOf own_pd1 rfl) rfl (hb hby at_108) (Nat.le_of_ble_eq_true rfl) (Nat.le_of_ble_eq_true rfl) (Nat.le_of_ble_eq_true rfl) (Nat.le_of_ble_eq_true rfl) rfl ?_
      rintro v192 T192 L192 X192 ⟨rfl, Nq192, eq192⟩
      have N192 := Fr.app N187 Nq192
      change own_G p e below _ _ (mkF m 111 _ [(.int (0 : Int32))])
      refine own_istore (n := 113) (l' := #[.val (.long q0), .second, .val (.long q1), .second, .val (.long q2), .second, .val (.int p3), .val (.int (3 : Int32)), .val (.int (2 : Int32)), .val (.ref b162), .val (.int (1 : Int32)), .val (.int (0 : Int32)), .unset]) X192 hx (hb hby at_111) rfl rfl ?_
      refine own_iload (n := 115) X192 hx (hb hby at_113) rfl rfl ?_
      refine own_iload (n := 117) X192 hx (hb hby at_115) rfl rfl ?_
      refine own_isub (n := 118) (z := (1 : Int32)) X192 hx (hb hby at_117) rfl rfl ?_
      refine own_ifYes (n := 125) X192 hx (hb hby at_118) (feq (by decide : ¬ ((1 : Int32) = (0 : Int32)))).2 (by decide) (by decide) ?_
      refine own_iconst (n := 126) (z := (0 : Int32)) X192 hx (hb hby at_125) rfl rfl ?_
      refine own_istore (n := 128) (l' := #[.val (.long q0), .second, .val (.long q1), .second, .val (.long q2), .second, .val (.int p3), .val (.int (3 : Int32)), .val (.int (2 : Int32)), .val (.ref b162), .val (.int (1 : Int32)), .val (.int (0 : Int32)), .val (.int (0 : Int32))]) X192 hx (hb hby at_126) rfl rfl ?_
      refine own_iload (n := 130) X192 hx (hb hby at_128) rfl rfl ?_
      refine own_ifNo (n := 133) X192 hx (hb hby at_130) (feq (by decide : ¬ ((1 : Int32) = (0 : Int32)))).1 rfl ?_
      refine own_iload (n := 135) X192 hx (hb hby at_133) rfl rfl ?_
      refine own_iload (n := 137) X192 hx (hb hby at_135) rfl rfl ?_
      refine own_icmpNo (n := 140) X192 hx (hb hby at_137) (teq (by decide : (0 : Int32) = (0 : Int32))).2 rfl ?_
      refine own_iload (n := 142) X192 hx (hb hby at_140) rfl rfl ?_
      refine own_aload (n := 144) X192 hx (hb hby at_142) rfl rfl rfl ?_
      refine own_V (n := 147) (argsL := []) (rest := [(.int (0 : Int32))]) (a := b162) X192 hx hZ hown (own_rm_size1 l Z a0 hw b162 T187.heap n0 Z_191 Fz187) (ww28 hw) (ww29 hw) (notFace_of_selects (args := #[]) (mvT hZ (ww31 hw))) (ww31 hw) (ww30 hw) (ww2 hw) (ww32 hw) (by decide) eq192 E_188 (by rw [hml]; rfl) (lenOf own_pd2 rfl) rfl (hb hby at_144) (Nat.le_of_ble_eq_true rfl) (Nat.le_of_ble_eq_true rfl) (Nat.le_of_ble_eq_true rfl) (Nat.le_of_ble_eq_true rfl) rfl ?_
      rintro v193 T193 L193 X193 ⟨rfl, Nq193, eq193⟩
      have N193 := Fr.app N192 Nq193
      change own_G p e below _ _ (mkF m 147 _ [(.int (1 : Int32)), (.int (0 : Int32))])
      refine own_ifYes (n := 154) X193 hx (hb hby at_147) (feq (by decide : ¬ ((1 : Int32) = (0 : Int32)))).2 (by decide) (by decide) ?_
      refine own_iconst (n := 155) (z := (0 : Int32)) X193 hx (hb hby at_154) rfl rfl ?_
      refine own_icmpNo (n := 158) X193 hx (hb hby at_155) (teq (by decide : (0 : Int32) = (0 : Int32))).2 rfl ?_
      refine own_iconst (n := 159) (z := (1 : Int32)) X193 hx (hb hby at_158) rfl rfl ?_
      refine own_goto (n := 163) X193 hx (hb hby at_159) (by decide) (by decide) ?_
      refine own_retZ X193 hx hlk hret (by simp) eq193 (w := (1 : Int32)) rfl (hb hby at_163) (by decide) (by decide) ?_
      exact ⟨rfl, N193⟩
    · rw [hr]
      refine own_new (n := 22) X0 hx hZ hown (ww0 hw) (ww1 hw) (ww2 hw) e0 (hb hby at_19) (by decide) (by decide) rfl ?_
      intro T194 h194 b194 g194 X194 e194 E194 A194 D194
      have g_b194 : n0 ≤ b194 := Nat.le_trans Z0 (Nat.le_of_eq g194.symm)
      have Z_195 : n0 ≤ h194.size := Nat.le_trans Z0 E194.1
      have F_196 : Fld Z h194 b194 "com/example/preorders_from_tests/preordersfromtests/lts/LongList" "chunks" "[[J" .null := D194 (Or.inl (ww14 hw)) (ty := (.array (.array .long))) (by decide)
      have F_197 : Fld Z h194 b194 "com/example/preorders_from_tests/preordersfromtests/lts/LongList" "size" "I" (.int (0 : Int32)) := D194 (Or.inl (ww21 hw)) (ty := .int) (by decide)
      refine own_dup (n := 23) X194 hx (hb hby at_22) rfl rfl ?_
      refine own_I (n := 26) (argsL := []) (rest := [(.ref b194)]) (a := b194) (by rfl) X194 hx hZ hown (own_rmI l Z a0 hw b194 h194 n0 Z_195 A194 F_196 F_197 g_b194) (ww3 hw) (ww4 hw) (ww2 hw) (ww5 hw) (by decide) e194 (by rw [hml]; rfl) (lenOf own_pd0 rfl) rfl (hb hby at_23) (Nat.le_of_ble_eq_true rfl) (Nat.le_of_ble_eq_true rfl) (Nat.le_of_ble_eq_true rfl) (Nat.le_of_ble_eq_true rfl) rfl ?_
      rintro v198 T198 L198 X198 ⟨b198c, b198d, kb198, kd198, rfl, Nq198, K198, Eq198, Fc198, Fz198, Vb198, Vd198, nbd198, gd198⟩
      have N198 := Fr.app N0 Nq198
      have E_199 := A194.keep K198
      have Z_200 : n0 ≤ T198.heap.size := Nat.le_trans Z_195 K198.1
      change own_G p e below _ _ (mkF m 26 _ [(.ref b194)])
      refine own_astore (n := 28) (l' := #[.val (.long q0), .second, .val (.long q1), .second, .val (.long q2), .second, .val (.int p3), .val (.int (3 : Int32)), .val (.int (3 : Int32)), .val (.ref b194), .unset, .unset, .unset]) X198 hx (hb hby at_26) rfl rfl rfl ?_
      refine own_aload (n := 30) X198 hx (hb hby at_28) rfl rfl rfl ?_
      refine own_V (n := 33) (argsL := []) (rest := []) (a := b194) X198 hx hZ hown (own_rm_isEmpty0 l Z a0 hw b194 T198.heap n0 Z_200 Fz198) (ww15 hw) (ww16 hw) (notFace_of_selects (args := #[]) (mvT hZ (ww18 hw))) (ww18 hw) (ww17 hw) (ww2 hw) (ww19 hw) (by decide) rfl E_199 (by rw [hml]; rfl) (lenOf own_pd1 rfl) rfl (hb hby at_30) (Nat.le_of_ble_eq_true rfl) (Nat.le_of_ble_eq_true rfl) (Nat.le_of_ble_eq_true rfl) (Nat.le_of_ble_eq_true rfl) rfl ?_
      rintro v201 T201 L201 X201 ⟨rfl, Nq201, eq201⟩
      have N201 := Fr.app N198 Nq201
      change own_G p e below _ _ (mkF m 33 _ [(.int (1 : Int32))])
      refine own_istore (n := 35) (l' := #[.val (.long q0), .second, .val (.long q1), .second, .val (.long q2), .second, .val (.int p3), .val (.int (3 : Int32)), .val (.int (3 : Int32)), .val (.ref b194), .val (.int (1 : Int32)), .unset, .unset]) X201 hx (hb hby at_33) rfl rfl ?_
      refine own_iload (n := 37) X201 hx (hb hby at_35) rfl rfl ?_
      refine own_ifNo (n := 40) X201 hx (hb hby at_37) (tlt (by decide : (0 : Int32) < (3 : Int32))).2.2.2 rfl ?_
      refine own_aload (n := 42) X201 hx (hb hby at_40) rfl rfl rfl ?_
      refine own_lloadN (n := 43) X201 hx (hb hby at_42) rfl rfl ?_
      refine own_V (n := 46) (argsL := [(.long q0)]) (rest := []) (a := b194) X201 hx hZ hown (own_rm_add0 l Z a0 hw b194 b198c b198d kb198 kd198 (0 : Int64) (0 : Int64) (0 : Int64) (0 : Int64) (0 : Int64) (0 : Int64) (0 : Int64) (0 : Int64) q0 T198.heap n0 Z_200 E_199 Fc198 Fz198 Vb198 Vd198 nbd198 g_b194 gd198) (ww22 hw) (ww23 hw) (notFace_of_selects (args := #[]) (mvT hZ (ww25 hw))) (ww25 hw) (ww24 hw) (ww2 hw) (ww26 hw) (by decide) eq201 E_199 (by rw [hml]; rfl) (lenOf own_pd3 rfl) rfl (hb hby at_43) (Nat.le_of_ble_eq_true rfl) (Nat.le_of_ble_eq_true rfl) (Nat.le_of_ble_eq_true rfl) (Nat.le_of_ble_eq_true rfl) rfl ?_
      rintro v202 T202 L202 X202 ⟨rfl, Nq202, K202, Eq202, Fc202, Fz202, Vd202⟩
      have N202 := Fr.app N201 Nq202
      have E_203 := E_199.keep K202
      have A_204 := Vb198.keep K202 (by simp [(Ne.symm (own_neEA E_199 (ww1 hw) Vb198)), nbd198])
      have Z_205 : n0 ≤ T202.heap.size := Nat.le_trans Z_200 K202.1
      change own_G p e below _ _ (mkF m 46 _ [])
      refine own_iload (n := 48) X202 hx (hb hby at_46) rfl rfl ?_
      refine own_iconst (n := 49) (z := (1 : Int32)) X202 hx (hb hby at_48) rfl rfl ?_
      refine own_icmpNo (n := 52) X202 hx (hb hby at_49) (tlt (by decide : (1 : Int32) < (3 : Int32))).2.2.2 rfl ?_
      refine own_aload (n := 54) X202 hx (hb hby at_52) rfl rfl rfl ?_
      refine own_lloadN (n := 55) X202 hx (hb hby at_54) rfl rfl ?_
      refine own_V (n := 58) (argsL := [(.long q1)]) (rest := []) (a := b194) X202 hx hZ hown (own_rm_add1 l Z a0 hw b194 b198c b198d kb198 kd198 q0 (0 : Int64) (0 : Int64) (0 : Int64) (0 : Int64) (0 : Int64) (0 : Int64) (0 : Int64) q1 T202.heap n0 Z_205 E_203 Fc202 Fz202 A_204 Vd202 nbd198 g_b194 gd198) (ww22 hw) (ww23 hw) (notFace_of_selects (args := #[]) (mvT hZ (ww25 hw))) (ww25 hw) (ww24 hw) (ww2 hw) (ww26 hw) (by decide) rfl E_203 (by rw [hml]; rfl) (lenOf own_pd3 rfl) rfl (hb hby at_55) (Nat.le_of_ble_eq_true rfl) (Nat.le_of_ble_eq_true rfl) (Nat.le_of_ble_eq_true rfl) (Nat.le_of_ble_eq_true rfl) rfl ?_
      rintro v206 T206 L206 X206 ⟨rfl, Nq206, K206, Eq206, Fc206, Fz206, Vd206⟩
      have N206 := Fr.app N202 Nq206
      have E_207 := E_203.keep K206
      have A_208 := A_204.keep K206 (by simp [(Ne.symm (own_neEA E_203 (ww1 hw) A_204)), nbd198])
      have Z_209 : n0 ≤ T206.heap.size := Nat.le_trans Z_205 K206.1
      change own_G p e below _ _ (mkF m 58 _ [])
      refine own_iload (n := 60) X206 hx (hb hby at_58) rfl rfl ?_
      refine own_iconst (n := 61) (z := (2 : Int32)) X206 hx (hb hby at_60) rfl rfl ?_
      refine own_icmpNo (n := 64) X206 hx (hb hby at_61) (tlt (by decide : (2 : Int32) < (3 : Int32))).2.2.2 rfl ?_
      refine own_aload (n := 66) X206 hx (hb hby at_64) rfl rfl rfl ?_
      refine own_lload (n := 68) X206 hx (hb hby at_66) rfl rfl ?_
      refine own_V (n := 71) (argsL := [(.long q2)]) (rest := []) (a := b194) X206 hx hZ hown (own_rm_add2 l Z a0 hw b194 b198c b198d kb198 kd198 q0 q1 (0 : Int64) (0 : Int64) (0 : Int64) (0 : Int64) (0 : Int64) (0 : Int64) q2 T206.heap n0 Z_209 E_207 Fc206 Fz206 A_208 Vd206 nbd198 g_b194 gd198) (ww22 hw) (ww23 hw) (notFace_of_selects (args := #[]) (mvT hZ (ww25 hw))) (ww25 hw) (ww24 hw) (ww2 hw) (ww26 hw) (by decide) rfl E_207 (by rw [hml]; rfl) (lenOf own_pd3 rfl) rfl (hb hby at_68) (Nat.le_of_ble_eq_true rfl) (Nat.le_of_ble_eq_true rfl) (Nat.le_of_ble_eq_true rfl) (Nat.le_of_ble_eq_true rfl) rfl ?_
      rintro v210 T210 L210 X210 ⟨rfl, Nq210, K210, Eq210, Fc210, Fz210, Vd210⟩
      have N210 := Fr.app N206 Nq210
      have E_211 := E_207.keep K210
      have A_212 := A_208.keep K210 (by simp [(Ne.symm (own_neEA E_207 (ww1 hw) A_208)), nbd198])
      have Z_213 : n0 ≤ T210.heap.size := Nat.le_trans Z_209 K210.1
      change own_G p e below _ _ (mkF m 71 _ [])
      refine own_iload (n := 73) X210 hx (hb hby at_71) rfl rfl ?_
      refine own_ifNo (n := 76) X210 hx (hb hby at_73) (tlt (by decide : (0 : Int32) < (3 : Int32))).2.2.2 rfl ?_
      refine own_aload (n := 78) X210 hx (hb hby at_76) rfl rfl rfl ?_
      refine own_V (n := 81) (argsL := []) (rest := []) (a := b194) X210 hx hZ hown (own_rm_rem3 l Z a0 hw b194 b198c b198d kb198 kd198 q0 q1 q2 (0 : Int64) (0 : Int64) (0 : Int64) (0 : Int64) (0 : Int64) T210.heap n0 Z_213 E_211 Fc210 Fz210 A_212 Vd210 nbd198 g_b194) (ww33 hw) (ww34 hw) (notFace_of_selects (args := #[]) (mvT hZ (ww36 hw))) (ww36 hw) (ww35 hw) (ww2 hw) (ww37 hw) (by decide) rfl E_211 (by rw [hml]; rfl) (lenOf own_pd4 rfl) rfl (hb hby at_78) (Nat.le_of_ble_eq_true rfl) (Nat.le_of_ble_eq_true rfl) (Nat.le_of_ble_eq_true rfl) (Nat.le_of_ble_eq_true rfl) rfl ?_
      rintro v214 T214 L214 X214 ⟨rfl, Nq214, K214, Eq214, Fc214, Fz214⟩
      have N214 := Fr.app N210 Nq214
      have E_215 := E_211.keep K214
      have A_216 := A_212.keep K214 (by simp [(Ne.symm (own_neEA E_211 (ww1 hw) A_212))])
      have A_217 := Vd210.keep K214 (by simp [(Ne.symm (own_neEA E_211 (ww1 hw) Vd210))])
      have Z_218 : n0 ≤ T214.heap.size := Nat.le_trans Z_213 K214.1
      change own_G p e below _ _ (mkF m 81 _ [(.long q2)])
      refine own_pop2 (n := 82) X214 hx (hb hby at_81) rfl ?_
      refine own_iload (n := 84) X214 hx (hb hby at_82) rfl rfl ?_
      refine own_iconst (n := 85) (z := (1 : Int32)) X214 hx (hb hby at_84) rfl rfl ?_
      refine own_icmpNo (n := 88) X214 hx (hb hby at_85) (tlt (by decide : (1 : Int32) < (3 : Int32))).2.2.2 rfl ?_
      refine own_aload (n := 90) X214 hx (hb hby at_88) rfl rfl rfl ?_
      refine own_V (n := 93) (argsL := []) (rest := []) (a := b194) X214 hx hZ hown (own_rm_rem2 l Z a0 hw b194 b198c b198d kb198 kd198 q0 q1 q2 (0 : Int64) (0 : Int64) (0 : Int64) (0 : Int64) (0 : Int64) T214.heap n0 Z_218 E_215 Fc214 Fz214 A_216 A_217 nbd198 g_b194) (ww33 hw) (ww34 hw) (notFace_of_selects (args := #[]) (mvT hZ (ww36 hw))) (ww36 hw) (ww35 hw) (ww2 hw) (ww37 hw) (by decide) rfl E_215 (by rw [hml]; rfl) (lenOf own_pd4 rfl) rfl (hb hby at_90) (Nat.le_of_ble_eq_true rfl) (Nat.le_of_ble_eq_true rfl) (Nat.le_of_ble_eq_true rfl) (Nat.le_of_ble_eq_true rfl) rfl ?_
      rintro v219 T219 L219 X219 ⟨rfl, Nq219, K219, Eq219, Fc219, Fz219⟩
      have N219 := Fr.app N214 Nq219
      have E_220 := E_215.keep K219
      have A_221 := A_216.keep K219 (by simp [(Ne.symm (own_neEA E_215 (ww1 hw) A_216))])
      have A_222 := A_217.keep K219 (by simp [(Ne.symm (own_neEA E_215 (ww1 hw) A_217))])
      have Z_223 : n0 ≤ T219.heap.size := Nat.le_trans Z_218 K219.1
      change own_G p e below _ _ (mkF m 93 _ [(.long q1)])
      refine own_pop2 (n := 94) X219 hx (hb hby at_93) rfl ?_
      refine own_iload (n := 96) X219 hx (hb hby at_94) rfl rfl ?_
      refine own_iconst (n := 97) (z := (2 : Int32)) X219 hx (hb hby at_96) rfl rfl ?_
      refine own_icmpNo (n := 100) X219 hx (hb hby at_97) (tlt (by decide : (2 : Int32) < (3 : Int32))).2.2.2 rfl ?_
      refine own_aload (n := 102) X219 hx (hb hby at_100) rfl rfl rfl ?_
      refine own_V (n := 105) (argsL := []) (rest := []) (a := b194) X219 hx hZ hown (own_rm_rem1 l Z a0 hw b194 b198c b198d kb198 kd198 q0 q1 q2 (0 : Int64) (0 : Int64) (0 : Int64) (0 : Int64) (0 : Int64) T219.heap n0 Z_223 E_220 Fc219 Fz219 A_221 A_222 nbd198 g_b194) (ww33 hw) (ww34 hw) (notFace_of_selects (args := #[]) (mvT hZ (ww36 hw))) (ww36 hw) (ww35 hw) (ww2 hw) (ww37 hw) (by decide) rfl E_220 (by rw [hml]; rfl) (lenOf own_pd4 rfl) rfl (hb hby at_102) (Nat.le_of_ble_eq_true rfl) (Nat.le_of_ble_eq_true rfl) (Nat.le_of_ble_eq_true rfl) (Nat.le_of_ble_eq_true rfl) rfl ?_
      rintro v224 T224 L224 X224 ⟨rfl, Nq224, K224, Eq224, Fc224, Fz224⟩
      have N224 := Fr.app N219 Nq224
      have E_225 := E_220.keep K224
      have A_226 := A_221.keep K224 (by simp [(Ne.symm (own_neEA E_220 (ww1 hw) A_221))])
      have A_227 := A_222.keep K224 (by simp [(Ne.symm (own_neEA E_220 (ww1 hw) A_222))])
      have Z_228 : n0 ≤ T224.heap.size := Nat.le_trans Z_223 K224.1
      change own_G p e below _ _ (mkF m 105 _ [(.long q0)])
      refine own_pop2 (n := 106) X224 hx (hb hby at_105) rfl ?_
      refine own_aload (n := 108) X224 hx (hb hby at_106) rfl rfl rfl ?_
      refine own_V (n := 111) (argsL := []) (rest := []) (a := b194) X224 hx hZ hown (own_rm_isEmpty0 l Z a0 hw b194 T224.heap n0 Z_228 Fz224) (ww15 hw) (ww16 hw) (notFace_of_selects (args := #[]) (mvT hZ (ww18 hw))) (ww18 hw) (ww17 hw) (ww2 hw) (ww19 hw) (by decide) rfl E_225 (by rw [hml]; rfl) (lenOf own_pd1 rfl) rfl (hb hby at_108) (Nat.le_of_ble_eq_true rfl) (Nat.le_of_ble_eq_true rfl) (Nat.le_of_ble_eq_true rfl) (Nat.le_of_ble_eq_true rfl) rfl ?_
      rintro v229 T229 L229 X229 ⟨rfl, Nq229, eq229⟩
      have N229 := Fr.app N224 Nq229
      change own_G p e below _ _ (mkF m 111 _ [(.int (1 : Int32))])
      refine own_istore (n := 113) (l' := #[.val (.long q0), .second, .val (.long q1), .second, .val (.long q2), .second, .val (.int p3), .val (.int (3 : Int32)), .val (.int (3 : Int32)), .val (.ref b194), .val (.int (1 : Int32)), .val (.int (1 : Int32)), .unset]) X229 hx (hb hby at_111) rfl rfl ?_
      refine own_iload (n := 115) X229 hx (hb hby at_113) rfl rfl ?_
      refine own_iload (n := 117) X229 hx (hb hby at_115) rfl rfl ?_
      refine own_isub (n := 118) (z := (0 : Int32)) X229 hx (hb hby at_117) rfl rfl ?_
      refine own_ifNo (n := 121) X229 hx (hb hby at_118) (teq (by decide : (0 : Int32) = (0 : Int32))).2 rfl ?_
      refine own_iconst (n := 122) (z := (1 : Int32)) X229 hx (hb hby at_121) rfl rfl ?_
      refine own_goto (n := 126) X229 hx (hb hby at_122) (by decide) (by decide) ?_
      refine own_istore (n := 128) (l' := #[.val (.long q0), .second, .val (.long q1), .second, .val (.long q2), .second, .val (.int p3), .val (.int (3 : Int32)), .val (.int (3 : Int32)), .val (.ref b194), .val (.int (1 : Int32)), .val (.int (1 : Int32)), .val (.int (1 : Int32))]) X229 hx (hb hby at_126) rfl rfl ?_
      refine own_iload (n := 130) X229 hx (hb hby at_128) rfl rfl ?_
      refine own_ifNo (n := 133) X229 hx (hb hby at_130) (feq (by decide : ¬ ((1 : Int32) = (0 : Int32)))).1 rfl ?_
      refine own_iload (n := 135) X229 hx (hb hby at_133) rfl rfl ?_
      refine own_iload (n := 137) X229 hx (hb hby at_135) rfl rfl ?_
      refine own_icmpNo (n := 140) X229 hx (hb hby at_137) (teq (by decide : (1 : Int32) = (1 : Int32))).2 rfl ?_
      refine own_iload (n := 142) X229 hx (hb hby at_140) rfl rfl ?_
      refine own_aload (n := 144) X229 hx (hb hby at_142) rfl rfl rfl ?_
      refine own_V (n := 147) (argsL := []) (rest := [(.int (1 : Int32))]) (a := b194) X229 hx hZ hown (own_rm_size0 l Z a0 hw b194 T224.heap n0 Z_228 Fz224) (ww28 hw) (ww29 hw) (notFace_of_selects (args := #[]) (mvT hZ (ww31 hw))) (ww31 hw) (ww30 hw) (ww2 hw) (ww32 hw) (by decide) eq229 E_225 (by rw [hml]; rfl) (lenOf own_pd2 rfl) rfl (hb hby at_144) (Nat.le_of_ble_eq_true rfl) (Nat.le_of_ble_eq_true rfl) (Nat.le_of_ble_eq_true rfl) (Nat.le_of_ble_eq_true rfl) rfl ?_
      rintro v230 T230 L230 X230 ⟨rfl, Nq230, eq230⟩
      have N230 := Fr.app N229 Nq230
      change own_G p e below _ _ (mkF m 147 _ [(.int (0 : Int32)), (.int (1 : Int32))])
      refine own_ifNo (n := 150) X230 hx (hb hby at_147) (teq (by decide : (0 : Int32) = (0 : Int32))).2 rfl ?_
      refine own_iconst (n := 151) (z := (1 : Int32)) X230 hx (hb hby at_150) rfl rfl ?_
      refine own_goto (n := 155) X230 hx (hb hby at_151) (by decide) (by decide) ?_
      refine own_icmpNo (n := 158) X230 hx (hb hby at_155) (teq (by decide : (1 : Int32) = (1 : Int32))).2 rfl ?_
      refine own_iconst (n := 159) (z := (1 : Int32)) X230 hx (hb hby at_158) rfl rfl ?_
      refine own_goto (n := 163) X230 hx (hb hby at_159) (by decide) (by decide) ?_
      refine own_retZ X230 hx hlk hret (by simp) eq230 (w := (1 : Int32)) rfl (hb hby at_163) (by decide) (by decide) ?_
      exact ⟨rfl, N230⟩
set_option maxRecDepth 65536 in
set_option maxHeartbeats 40000000 in
theorem comes_1 {Post : Tables → Env → Array Value → State → Outcome → State → Prop} (hpost : ∀ tb e args s v u, (limb_1_1.after args s (.returned v) u = true ∧ limb_1_2.after args s (.returned v) u = true ∧ True) → FrameEnd s (.returned v) u (Jvm.fieldLocs frame_1_writes args s ++ Jvm.arrayLocs frame_1_arrays args s ++ Jvm.staticLocs frame_1_statics s) 16 128 → Post tb e args s (.returned v) u) :
    ArmFor flags0 classFile x code maxLocals ret World_1 tables_1 room_1 Calls_1 rest_1 Pre_1 Post := by
  intro l hfl _ _ p e ha hc hk s m args below hf hA hF happ hP
  obtain ⟨hcalls, hrest, hpre⟩ := hP
  obtain ⟨-, -, -, hnamed, -, -, -, hat⟩ := (Spec.applies_iff hf).mp happ
  obtain ⟨hg, hn⟩ := and_e (Cond.before_iff.mp (show (Jvm.Cond.and given_1 narrow_1).before args s = true from hpre))
  obtain ⟨hcount, hr0⟩ := and_e hg
  obtain ⟨ha0, hr1⟩ := and_e hr0
  obtain ⟨ha1, hr2⟩ := and_e hr1
  obtain ⟨ha2, hr3⟩ := and_e hr2
  obtain ⟨w0, w1, w2, w3, rfl⟩ : ∃ w0 w1 w2 w3 : Value, args = #[w0, w1, w2, w3] := by
    have hs : args.size = 4 := by simpa [Cond.value, given_1] using hcount
    obtain ⟨L⟩ := args
    match L, hs with
    | [w0, w1, w2, w3], _ => exact ⟨w0, w1, w2, w3, rfl⟩
  have hw := fun d (hd : d ∈ tables_1) => atoms_spec (ws := Jvm.Cond.code x code maxLocals ret :: tables_1) hat d (List.mem_cons_of_mem _ hd)
  have hfit : Fit s := fun {y c} hc i hi => by
    obtain ⟨ha, rfl⟩ := Array.getElem?_eq_some_iff.mp hc
    have q := List.all_eq_true.mp ((Array.all_eq_true_iff_forall_mem.mp hF) _ (Array.getElem_mem ha)) i (List.mem_range.mpr hi)
    simpa [Array.getElem?_eq_getElem hi] using q
  obtain ⟨i0, ev0⟩ := isL_v ha0
  obtain rfl : w0 = (.long i0) := Option.some.inj ev0
  obtain ⟨i1, ev1⟩ := isL_v ha1
  obtain rfl : w1 = (.long i1) := Option.some.inj ev1
  obtain ⟨i2, ev2⟩ := isL_v ha2
  obtain rfl : w2 = (.long i2) := Option.some.inj ev2
  obtain ⟨i3, ev3⟩ := is_v hr3
  obtain rfl : w3 = (.int i3) := Option.some.inj ev3
  obtain ⟨n, o, h1, h2, h3, _, L, rfl, ⟨rfl, N⟩, hq⟩ := own_rm0 l s _ hw i0 i1 i2 i3 s.heap s.heap.size (Nat.le_refl _) p e ha hc hk s m _ below hf ((Spec.applies_iff_loose hf).mp happ).1 ⟨rfl, State.Warmed39.refl s, rfl⟩ trivial
  refine ⟨n, _, h1, h2, h3, hpost _ _ _ _ _ _ ⟨Cond.after_iff.mpr rfl, Cond.after_iff.mpr (eq_i res_at (Term.int_eval (1)) rfl), trivial⟩ ⟨hq.1, hq.2.1, (hq.2.2.sift fun y hy => Or.inr (N y hy)).mono (by decide) (by decide)⟩⟩
theorem main_1_1 : Claimed_1_1 := comes_1 fun _ _ _ _ _ _ h hF => ⟨h.1, hF⟩
theorem main_1_2 : Claimed_1_2 := comes_1 fun _ _ _ _ _ _ h hF => ⟨h.2.1, hF⟩
end Jvm.Pilot.@@N@@
namespace Jvm.Pilot.@@N@@
open Jvm Jvm.ClassFile Sem Op Lib Jvm.Free Jvm.Stand Jvm.Pilot.@@N@@.Jvm.D
/-! MADE BY PROGRAM (witnessworld.py) out of the Statement's table words and the real class files: 11 classes; the members and pool entries that the words name. The judged class is class 1, her method 1. -/
namespace start1
open Jvm.ClassFile
def u (s : String) : CpInfo := .utf8 (stringToUtf16 s)
/-- a pool by its gaps: so many unusable entries, then the entry; so many at the end -/
def gap : Nat → List CpInfo → List CpInfo
  | 0, r => r
  | n + 1, r => .unusable :: gap n r
def poolList (es : List (Nat × CpInfo)) (last : Nat) : List CpInfo := es.foldr (fun e r => gap e.1 (e.2 :: r)) (gap last [])
def pool (es : List (Nat × CpInfo)) (last : Nat) : Array CpInfo := ⟨poolList es last⟩
def fileOf (pool : Array CpInfo) (this : Nat) (attrs : Array Attribute := #[]) (ms : Array MethodInfo := #[]) (fl : Nat := 33) (sup : Nat := 0) (ifs : Array Nat := #[]) (fds : Array FieldInfo := #[]) : ClassFile where
  minorVersion := 0
  majorVersion := 65
  constantPool := pool
  accessFlags := fl
  thisClass := this
  superClass := sup
  interfaces := ifs
  fields := fds
  methods := ms
  attributes := attrs
def plain (name : String) (sup : Option ClassId) : Class where
  name := name
  kind := .ordinary
  loader := none
  accessFlags := 33
  super := sup
  interfaces := #[]
  cf := none
  fields := #[]
  methods := #[]
  instanceTypes := #[]
  staticTypes := #[]
  resolved := #[]
  callSites := []
  init := .initialized
  statics := none
  mirror := none

def pool0 : Array CpInfo := pool [(5, u "<init>"), (0, u "()V"), (1, .class_ 10), (1, u "java/lang/Object")] 113

def k0c0 : Code := { maxStack := 0, maxLocals := 1, code := object_method_1_code, exceptionTable := #[], attributes := #[] }
def k0m0 : Method := { name := "<init>", desc := "()V", sig := { parameters := [], returnType := none }, accessFlags := 1, code := some k0c0 }
/-- java/lang/Object -/
def k0 : Class := { plain "java/lang/Object" none with
  accessFlags := 33
  interfaces := #[]
  cf := some (fileOf pool0 8 #[] #[{ accessFlags := 1, nameIndex := 5, descriptorIndex := 6, attributes := #[] }] 33 0 #[] #[])
  fields := #[]
  methods := #[k0m0]
  instanceTypes := #[]
  staticTypes := #[]
  resolved := Array.replicate 124 none
  statics := none }

def pool1 : Array CpInfo := pool [(2, .class_ 4), (0, .nameAndType 5 6), (0, u "java/lang/Object"), (0, u "<init>"), (0, u "()V"), (0, .class_ 8), (0, u "com/example/preorders_from_tests/preordersfromtests/lts/LongList"), (0, .methodref 7 3), (0, .methodref 7 11), (0, .nameAndType 12 13), (0, u "isEmpty"), (0, u "()Z"), (0, .methodref 7 15), (0, .nameAndType 16 17), (0, u "add"), (0, u "(J)V"), (0, .methodref 7 19), (0, .nameAndType 20 21), (0, u "removeLast"), (0, u "()J"), (0, .methodref 7 23), (0, .nameAndType 24 25), (0, u "size"), (0, u "()I"), (0, .class_ 27), (0, u "com/example/preorders_from_tests/preordersfromtests/lts/LongListIsEmptyPinLaw"), (2, u "law"), (0, u "(JJJI)Z")] 3

def k1m0 : Method := { name := "<init>", desc := "()V", sig := { parameters := [], returnType := none }, accessFlags := 1, code := none }
def k1c1 : Code := { maxStack := 3, maxLocals := 13, code := code, exceptionTable := #[], attributes := #[] }
def k1m1 : Method := { name := "law", desc := "(JJJI)Z", sig := { parameters := [.long, .long, .long, .int], returnType := some .boolean }, accessFlags := 9, code := some k1c1 }
/-- com/example/preorders_from_tests/preordersfromtests/lts/LongListIsEmptyPinLaw -/
def k1 : Class := { plain "com/example/preorders_from_tests/preordersfromtests/lts/LongListIsEmptyPinLaw" (some 0) with
  accessFlags := 49
  interfaces := #[]
  cf := some (fileOf pool1 26 #[] #[{ accessFlags := 1, nameIndex := 5, descriptorIndex := 6, attributes := #[] }, { accessFlags := 9, nameIndex := 30, descriptorIndex := 31, attributes := #[] }] 49 2 #[] #[])
  fields := #[]
  methods := #[k1m0, k1m1]
  instanceTypes := #[]
  staticTypes := #[]
  resolved := Array.replicate 35 none
  statics := none }

def pool2 : Array CpInfo := pool [(1, .class_ 2), (0, u "com/example/preorders_from_tests/preordersfromtests/lts/LongList"), (0, .methodref 4 5), (0, .class_ 6), (0, .nameAndType 7 8), (0, u "java/lang/Object"), (0, u "<init>"), (0, u "()V"), (0, .class_ 10), (0, u "[J"), (0, .fieldref 1 12), (0, .nameAndType 13 14), (0, u "chunks"), (0, u "[[J"), (0, .fieldref 1 16), (0, .nameAndType 17 18), (0, u "size"), (0, u "I"), (2, .integer 2147483647), (14, .integer 32768), (11, u "CHUNK_BITS"), (2, u "CHUNK_SIZE"), (0, u "INITIAL_SIZE"), (3, u "add"), (0, u "(J)V"), (5, u "()I"), (0, u "removeLast"), (0, u "()J"), (0, u "isEmpty"), (0, u "()Z")] 2

def k2c0 : Code := { maxStack := 5, maxLocals := 1, code := prog_31_method_1_code, exceptionTable := #[], attributes := #[] }
def k2m0 : Method := { name := "<init>", desc := "()V", sig := { parameters := [], returnType := none }, accessFlags := 0, code := some k2c0 }
def k2c1 : Code := { maxStack := 5, maxLocals := 5, code := prog_31_method_2_code, exceptionTable := #[], attributes := #[] }
def k2m1 : Method := { name := "add", desc := "(J)V", sig := { parameters := [.long], returnType := none }, accessFlags := 0, code := some k2c1 }
def k2c2 : Code := { maxStack := 1, maxLocals := 1, code := prog_31_method_5_code, exceptionTable := #[], attributes := #[] }
def k2m2 : Method := { name := "size", desc := "()I", sig := { parameters := [], returnType := some .int }, accessFlags := 0, code := some k2c2 }
def k2c3 : Code := { maxStack := 3, maxLocals := 1, code := prog_31_method_6_code, exceptionTable := #[], attributes := #[] }
def k2m3 : Method := { name := "removeLast", desc := "()J", sig := { parameters := [], returnType := some .long }, accessFlags := 0, code := some k2c3 }
def k2c4 : Code := { maxStack := 1, maxLocals := 1, code := prog_31_method_7_code, exceptionTable := #[], attributes := #[] }
def k2m4 : Method := { name := "isEmpty", desc := "()Z", sig := { parameters := [], returnType := some .boolean }, accessFlags := 0, code := some k2c4 }
/-- com/example/preorders_from_tests/preordersfromtests/lts/LongList -/
def k2 : Class := { plain "com/example/preorders_from_tests/preordersfromtests/lts/LongList" (some 0) with
  accessFlags := 48
  interfaces := #[]
  cf := some (fileOf pool2 1 #[] #[{ accessFlags := 0, nameIndex := 7, descriptorIndex := 8, attributes := #[] }, { accessFlags := 0, nameIndex := 56, descriptorIndex := 57, attributes := #[] }, { accessFlags := 0, nameIndex := 17, descriptorIndex := 63, attributes := #[] }, { accessFlags := 0, nameIndex := 64, descriptorIndex := 65, attributes := #[] }, { accessFlags := 0, nameIndex := 66, descriptorIndex := 67, attributes := #[] }] 48 4 #[] #[{ accessFlags := 26, nameIndex := 48, descriptorIndex := 18, attributes := #[] }, { accessFlags := 26, nameIndex := 51, descriptorIndex := 18, attributes := #[] }, { accessFlags := 26, nameIndex := 52, descriptorIndex := 18, attributes := #[] }, { accessFlags := 2, nameIndex := 13, descriptorIndex := 14, attributes := #[] }, { accessFlags := 2, nameIndex := 17, descriptorIndex := 18, attributes := #[] }])
  fields := #[{ name := "CHUNK_BITS", type := .int, accessFlags := 26, slot := 0, constantValue := 0 }, { name := "CHUNK_SIZE", type := .int, accessFlags := 26, slot := 1, constantValue := 0 }, { name := "INITIAL_SIZE", type := .int, accessFlags := 26, slot := 2, constantValue := 0 }, { name := "chunks", type := (.array (.array .long)), accessFlags := 2, slot := 0, constantValue := 0 }, { name := "size", type := .int, accessFlags := 2, slot := 1, constantValue := 0 }]
  methods := #[k2m0, k2m1, k2m2, k2m3, k2m4]
  instanceTypes := #[(.array (.array .long)), .int]
  staticTypes := #[.int, .int, .int]
  resolved := Array.replicate 70 none
  statics := none }

def pool3 : Array CpInfo := pool [(1, u "java/lang/Cloneable"), (0, .class_ 1), (0, u "java/lang/Object"), (0, .class_ 3)] 3

/-- java/lang/Cloneable -/
def k3 : Class := { plain "java/lang/Cloneable" (some 0) with
  accessFlags := 1537
  interfaces := #[]
  cf := some (fileOf pool3 2 #[] #[] 1537 4 #[] #[])
  fields := #[]
  methods := #[]
  instanceTypes := #[]
  staticTypes := #[]
  resolved := Array.replicate 8 none
  statics := none }

def pool4 : Array CpInfo := pool [(1, u "java/io/Serializable"), (0, .class_ 1), (0, u "java/lang/Object"), (0, .class_ 3)] 3

/-- java/io/Serializable -/
def k4 : Class := { plain "java/io/Serializable" (some 0) with
  accessFlags := 1537
  interfaces := #[]
  cf := some (fileOf pool4 2 #[] #[] 1537 4 #[] #[])
  fields := #[]
  methods := #[]
  instanceTypes := #[]
  staticTypes := #[]
  resolved := Array.replicate 8 none
  statics := none }

/-- the primitive byte -/
def k5 : Class := { plain "byte" none with kind := .primitive 'B', accessFlags := 0x411 }
/-- [B -/
def k6 : Class := { plain "[B" (some 0) with kind := .array 5 .byte, interfaces := #[3, 4], accessFlags := 1041 }

/-- the primitive int -/
def k7 : Class := { plain "int" none with kind := .primitive 'I', accessFlags := 0x411 }
/-- [I -/
def k8 : Class := { plain "[I" (some 0) with kind := .array 7 .int, interfaces := #[3, 4], accessFlags := 1041 }

/-- the primitive long -/
def k9 : Class := { plain "long" none with kind := .primitive 'J', accessFlags := 0x411 }
/-- [J -/
def k10 : Class := { plain "[J" (some 0) with kind := .array 9 .long, interfaces := #[3, 4], accessFlags := 1041 }

/-- [[J -/
def k11 : Class := { plain "[[J" (some 0) with kind := .array 10 (.array .long), interfaces := #[3, 4], accessFlags := 1041 }

def heap : Heap := #[]
def classes : Array Class := #[k0, k1, k2, k3, k4, k5, k6, k7, k8, k9, k10, k11]
def interned : List (Array UInt16 × Addr) := []
def slotsUsed : Nat := 0
def theMethod : MethodId := ⟨1, 1⟩
def args0 : Array Value := #[.long 5, .long 300, .long 7, .int 8]
def aboutOver (below : List Frame) : State where
  vm := { classes := classes, interned := interned.toArray }
  heap := heap
  slotsUsed := slotsUsed
  threads := #[{ frames := .invoking theMethod args0 :: below }]
def below0 : List Frame := [.native { method := ⟨0, 0⟩, args := #[] }]
def about1 : State := aboutOver below0
def p0 : Program := .bare "" "" ""
def e0 : Env := launch0.env 0 0 0
theorem w_frames : about1.frames = Frame.invoking theMethod args0 :: below0 := rfl
set_option maxRecDepth 65536 in
theorem w_args : argsFit about1.vm theMethod args0 = true := by decide +kernel
set_option maxRecDepth 65536 in
theorem w_heap : heapFits about1 = true := by decide +kernel
set_option maxRecDepth 65536 in
theorem w_runnable : about1.curStatus? = some .runnable := by decide +kernel
set_option maxRecDepth 65536 in
theorem w_alone : about1.alone = true := by decide +kernel
set_option maxRecDepth 65536 in
theorem w_named : about1.methodNamed? x = some theMethod := by decide +kernel
set_option maxRecDepth 65536 in
theorem w_hears : about1.hears theMethod below0 = true := by decide +kernel
set_option maxRecDepth 65536 in
theorem w_ripe : about1.ripe theMethod args0 below0 = true := by decide +kernel
theorem w_running : about1.status = .running := rfl
set_option maxRecDepth 65536 in
theorem w_room : about1.hasRoom e0.platform room_1 = true :=
  launch0.hasRoom_least _ room_1 (by decide +kernel) (by decide +kernel) (by decide +kernel) (by decide +kernel) (by decide +kernel) (by decide +kernel)
theorem allAtoms_all (ts : List Jvm.Cond) (a : Array Jvm.Value) (st : Jvm.State) : (allAtoms ts).before a st = ts.all (fun c => c.before a st) := by
  induction ts with
  | nil => rfl
  | cons c t ih =>
    show (Jvm.Cond.and c (allAtoms t)).before a st = _
    rw [Jvm.Cond.before_and, ih, List.all_cons]
def words1 : List Jvm.Cond := Jvm.Cond.code x code maxLocals ret :: tables_1
/-- a 'code' word, met by the world's own term for the bytes: nothing is compared byte by byte -/
theorem code_word {y : MethodName} {bytes : ByteArray} {mx : Nat} {rt : Option FieldType} {a : Array Value} {s : State} {m : MethodId} {meth : Method} {c : Code} (h1 : s.methodNamed? y = some m) (h2 : s.vm.method? m = some meth) (h3 : meth.code = some c) (h4 : c.code = bytes)
    (h5 : (c.maxLocals == mx && c.exceptionTable.isEmpty && decide (c.maxStack ≤ mostOperands) && decide (meth.sig.returnType = rt) && !meth.locks && decide (parseMethodDescriptor y.desc = some meth.sig)) = true) : (Jvm.Cond.code y bytes mx rt).before a s = true := by
  simp only [Bool.and_eq_true, beq_iff_eq, Bool.not_eq_true', decide_eq_true_eq] at h5
  obtain ⟨⟨⟨⟨⟨g1, g2⟩, g3⟩, g4⟩, g5⟩, g6⟩ := h5
  simp [Cond.before, Cond.holds, Cond.value, h1, h2, h3, h4, g1, g2, g3, g4, g5, g6]
def isCode : Jvm.Cond → Bool
  | .code _ _ _ _ => true
  | _ => false
theorem all_split {L : List Jvm.Cond} {P : Jvm.Cond → Bool} (h1 : L.all (fun c => isCode c || P c) = true) (h2 : ∀ c ∈ L.filter isCode, P c = true) : L.all P = true := by
  refine List.all_eq_true.mpr fun c hc => ?_
  have h := List.all_eq_true.mp h1 c hc
  rcases Bool.eq_false_or_eq_true (isCode c) with hi | hi
  · exact h2 c (List.mem_filter.mpr ⟨hc, hi⟩)
  · simpa [hi] using h
set_option maxRecDepth 65536 in
theorem w_c0 : (Jvm.Cond.code x code maxLocals ret).before args0 about1 = true := code_word (m := ⟨1, 1⟩) (meth := k1m1) (c := k1c1) (by decide +kernel) rfl rfl rfl (by decide +kernel)
set_option maxRecDepth 65536 in
theorem w_c1 : (Jvm.Cond.code ({ cls := "com/example/preorders_from_tests/preordersfromtests/lts/LongList", name := "<init>", desc := "()V" } : Jvm.MethodName) prog_31_method_1_code (1 : Nat) (Option.none : Option Jvm.ClassFile.FieldType)).before args0 about1 = true := code_word (m := ⟨2, 0⟩) (meth := k2m0) (c := k2c0) (by decide +kernel) rfl rfl rfl (by decide +kernel)
set_option maxRecDepth 65536 in
theorem w_c2 : (Jvm.Cond.code ({ cls := "java/lang/Object", name := "<init>", desc := "()V" } : Jvm.MethodName) object_method_1_code (1 : Nat) (Option.none : Option Jvm.ClassFile.FieldType)).before args0 about1 = true := code_word (m := ⟨0, 0⟩) (meth := k0m0) (c := k0c0) (by decide +kernel) rfl rfl rfl (by decide +kernel)
set_option maxRecDepth 65536 in
theorem w_c3 : (Jvm.Cond.code ({ cls := "com/example/preorders_from_tests/preordersfromtests/lts/LongList", name := "isEmpty", desc := "()Z" } : Jvm.MethodName) prog_31_method_7_code (1 : Nat) (Option.some Jvm.ClassFile.FieldType.boolean)).before args0 about1 = true := code_word (m := ⟨2, 4⟩) (meth := k2m4) (c := k2c4) (by decide +kernel) rfl rfl rfl (by decide +kernel)
set_option maxRecDepth 65536 in
theorem w_c4 : (Jvm.Cond.code ({ cls := "com/example/preorders_from_tests/preordersfromtests/lts/LongList", name := "add", desc := "(J)V" } : Jvm.MethodName) prog_31_method_2_code (5 : Nat) (Option.none : Option Jvm.ClassFile.FieldType)).before args0 about1 = true := code_word (m := ⟨2, 1⟩) (meth := k2m1) (c := k2c1) (by decide +kernel) rfl rfl rfl (by decide +kernel)
set_option maxRecDepth 65536 in
theorem w_c5 : (Jvm.Cond.code ({ cls := "com/example/preorders_from_tests/preordersfromtests/lts/LongList", name := "size", desc := "()I" } : Jvm.MethodName) prog_31_method_5_code (1 : Nat) (Option.some Jvm.ClassFile.FieldType.int)).before args0 about1 = true := code_word (m := ⟨2, 2⟩) (meth := k2m2) (c := k2c2) (by decide +kernel) rfl rfl rfl (by decide +kernel)
set_option maxRecDepth 65536 in
theorem w_c6 : (Jvm.Cond.code ({ cls := "com/example/preorders_from_tests/preordersfromtests/lts/LongList", name := "removeLast", desc := "()J" } : Jvm.MethodName) prog_31_method_6_code (1 : Nat) (Option.some Jvm.ClassFile.FieldType.long)).before args0 about1 = true := code_word (m := ⟨2, 3⟩) (meth := k2m3) (c := k2c3) (by decide +kernel) rfl rfl rfl (by decide +kernel)
def codes1 : List Jvm.Cond := [Jvm.Cond.code x code maxLocals ret, Jvm.Cond.code ({ cls := "com/example/preorders_from_tests/preordersfromtests/lts/LongList", name := "<init>", desc := "()V" } : Jvm.MethodName) prog_31_method_1_code (1 : Nat) (Option.none : Option Jvm.ClassFile.FieldType), Jvm.Cond.code ({ cls := "java/lang/Object", name := "<init>", desc := "()V" } : Jvm.MethodName) object_method_1_code (1 : Nat) (Option.none : Option Jvm.ClassFile.FieldType), Jvm.Cond.code ({ cls := "com/example/preorders_from_tests/preordersfromtests/lts/LongList", name := "isEmpty", desc := "()Z" } : Jvm.MethodName) prog_31_method_7_code (1 : Nat) (Option.some Jvm.ClassFile.FieldType.boolean), Jvm.Cond.code ({ cls := "com/example/preorders_from_tests/preordersfromtests/lts/LongList", name := "add", desc := "(J)V" } : Jvm.MethodName) prog_31_method_2_code (5 : Nat) (Option.none : Option Jvm.ClassFile.FieldType), Jvm.Cond.code ({ cls := "com/example/preorders_from_tests/preordersfromtests/lts/LongList", name := "size", desc := "()I" } : Jvm.MethodName) prog_31_method_5_code (1 : Nat) (Option.some Jvm.ClassFile.FieldType.int), Jvm.Cond.code ({ cls := "com/example/preorders_from_tests/preordersfromtests/lts/LongList", name := "removeLast", desc := "()J" } : Jvm.MethodName) prog_31_method_6_code (1 : Nat) (Option.some Jvm.ClassFile.FieldType.long)]
set_option maxRecDepth 65536 in
theorem codes_eq : words1.filter isCode = codes1 := rfl
theorem w_codes : ∀ c ∈ words1.filter isCode, c.before args0 about1 = true := by
  rw [codes_eq]
  intro c hc
  simp only [codes1, List.mem_cons, List.not_mem_nil, or_false] at hc
  rcases hc with rfl | rfl | rfl | rfl | rfl | rfl | rfl
  · exact w_c0
  · exact w_c1
  · exact w_c2
  · exact w_c3
  · exact w_c4
  · exact w_c5
  · exact w_c6
set_option maxRecDepth 65536 in
theorem w_t1 : (words1.take 24).all (fun c => isCode c || c.before args0 about1) = true := by decide +kernel
set_option maxRecDepth 65536 in
theorem w_t2 : (words1.drop 24).all (fun c => isCode c || c.before args0 about1) = true := by decide +kernel
theorem w_tables : (allAtoms (Jvm.Cond.code x code maxLocals ret :: tables_1)).before args0 about1 = true := by
  rw [allAtoms_all]
  show words1.all (fun c => c.before args0 about1) = true
  refine all_split ?_ w_codes
  rw [← List.take_append_drop 24 words1, List.all_append, w_t1, w_t2]
  rfl
set_option maxRecDepth 65536 in
theorem w_case : (Jvm.Cond.and given_1 narrow_1).before args0 about1 = true := by decide +kernel
theorem w_applies : (headSpec (Jvm.Cond.code x code maxLocals ret :: tables_1) room_1).applies x e0.platform about1 = true :=
  (Spec.applies_iff w_frames).mpr ⟨w_running, w_runnable, w_alone, w_named, w_hears, w_ripe, w_room, w_tables⟩
theorem atStart : AtStart classFile x code maxLocals ret World_1 tables_1 room_1 Calls_1 rest_1 Pre_1 launch0 p0 e0 about1 theMethod args0 below0 :=
  ⟨lists_1, trivial, launch0.admits_env _ _ _, launch0.least_env, fairChoices_fair.cas, fairChoices_fair.clock, w_frames, w_args, w_heap, w_applies, trivial, trivial, w_case⟩
end start1
theorem witness_1 : WitnessClaimed_1 := ⟨start1.p0, start1.e0, start1.about1, start1.theMethod, start1.args0, start1.below0, start1.atStart⟩
end Jvm.Pilot.@@N@@
