import JvmDerived
import JvmDerived.Pilot.@@N@@Statement
import JvmDerived.Pilot.@@N@@Code
set_option linter.unusedVariables false
set_option linter.unusedSimpArgs false

namespace Jvm.Pilot.@@N@@
open Jvm Jvm.ClassFile Sem Op Lib Jvm.Free Jvm.Stand Jvm.LawKit Jvm.RoadKit Bundle Jvm.Pilot.@@N@@.Jvm.D
section OwnKit
variable {p : Program} {l : Launch} {e : Env} {R : Room} {s : State} {m : MethodId} {args : Array Value} {below : List Frame} {meth : Method} {c : Code} {T : State} {locs : List Loc} {cells slots : Nat} {Z : State} {a0 : Array Value} {h : Heap}
/-- the run goes on from T with the frame f on top to an end that K says -/
def own_G (p : Program) (e : Env) (below : List Frame) (K : Outcome → State → Prop) (T : State) (f : JFrame) : Prop := ∃ s₂ o, Steps p.tables e below (T.setTop f) s₂ ∧ s₂.status = .running ∧ Ended s₂ below o ∧ K o s₂
theorem own_go {K : Outcome → State → Prop} {T' : State} {f f' : JFrame} (st : ∀ t, Steps p.tables e below (T'.setTop f') t → Steps p.tables e below (T.setTop f) t) (h : own_G p e below K T' f') : own_G p e below K T f := by
  obtain ⟨s₂, o, h1, h2⟩ := h
  exact ⟨s₂, o, st _ h1, h2⟩
theorem own_cast {K : Outcome → State → Prop} {f f' : JFrame} (q : f = f') (h : own_G p e below K T f') : own_G p e below K T f := q ▸ h
def own_K (Q : Option Value → Heap → List Loc → Prop) (s : State) (C S : Nat) : Outcome → State → Prop := fun o U => ∃ v L, o = .returned v ∧ Q v U.heap L ∧ FrameEnd s o U L C S
def own_Met (l : Launch) (Z : State) (y : MethodName) (bytes : ByteArray) (maxL : Nat) (ret : Option FieldType) (ws : List Jvm.Cond) (rm : Room) (as' : Array Value) (h0 : Heap) (Q : Option Value → Heap → List Loc → Prop) : Prop :=
  MetFree l y (head1 (Jvm.Cond.code y bytes maxL ret :: ws) rm) (fun a U => a = as' ∧ Z.Warmed39 U.vm ∧ U.heap = h0) (fun _ _ _ _ _ => True) (fun _ U o U' => own_K Q U rm.cells rm.slots o U')
theorem own_met {y : MethodName} {bytes : ByteArray} {maxL : Nat} {ret : Option FieldType} {ws : List Jvm.Cond} {rm : Room} {as' : Array Value} {h0 : Heap} {Q : Option Value → Heap → List Loc → Prop} (hpl : plainFor y = true)
    (body : ∀ (p : Program) (e : Env) (s : State) (m : MethodId) (below : List Frame) (meth : Method) (c : Code) (s₁ : State), p.tables.exec = Jvm.exec → c.code = bytes → c.maxLocals = maxL → s.vm.findClass y.cls = some m.cls → meth.name = y.name → meth.sig.returnType = ret → meth.locks = false →
      Z.Warmed39 s.vm → Stand p l e rm s m as' below meth c s₁ [] 0 0 → s₁.heap = h0 → own_G p e below (own_K Q s rm.cells rm.slots) s₁ (entryFrame m as' maxL)) :
    own_Met l Z y bytes maxL ret ws rm as' h0 Q := by
  refine MetFree.of_bodySF hpl hisR ?_
  intro p e s m args below meth c s₁ Bd hml hP hK
  obtain ⟨rfl, hZ, hh⟩ := hP
  have e0 : s₁.heap = h0 := by rw [← hh, Bd.state]; rfl
  have q := body p e s m below meth c s₁ Bd.exec Bd.bytes hml (findClass_of_methodNamed Bd.named) (name_of_methodNamed Bd.named Bd.method).1 Bd.returns (BodyLoose.notSynchronized Bd) hZ (Stand.of_body Bd) e0
  obtain ⟨s₂, o, h1, h2, h3, h4⟩ := q
  exact ⟨s₂, o, h1, h2, h3, h4⟩
theorem own_end (X : Stand p l e R s m args below meth c T locs cells slots) (hlk : meth.locks = false) {v : Option Value} {f : JFrame} {Q : Option Value → Heap → List Loc → Prop} {C S : Nat} (hv : meth.sig.returnType = none → v = none) (hc : cells ≤ C) (hs : slots ≤ S)
    (st : ∀ fs, (∀ (f : JFrame) (acts : List Action), f.method = m → f.locked = none → f.entered = [] → (doReturn e (T.setTop f) acts v).1 = T.setFrames fs) → Steps p.tables e below (T.setTop f) (T.setFrames fs)) (hq : Q v T.heap locs) : own_G p e below (own_K Q s C S) T f := by
  obtain ⟨fs, hr, hrun, hended, hW, hsame⟩ := X.leave (v := v) hv
  exact ⟨_, _, st fs hr, hrun, hended, v, locs, rfl, hq, ⟨_, rfl⟩, hW, hsame.mono hc hs⟩
theorem own_retZ (X : Stand p l e R s m args below meth c T locs cells slots) (hx : p.tables.exec = Jvm.exec) (hlk : meth.locks = false) {t : FieldType} (hret : meth.sig.returnType = some t) (ht : t = .boolean ∨ t = .byte ∨ t = .char ∨ t = .short) {pc : Nat} {Ls : Array Slot} {z : Int32} {rest : List Value} {Q : Option Value → Heap → List Loc → Prop} {C S : Nat}
    (eT : T.heap = h) {w : Int32} (hz : nar t z = w) (hd : decode c.code pc = .ok (.ireturn, 1)) (hc : cells ≤ C) (hs : slots ≤ S) (hq : Q (some (.int w)) h locs) : own_G p e below (own_K Q s C S) T (mkF m pc Ls (.int z :: rest)) := by
  subst eT hz
  exact own_end X hlk (fun q => by rw [hret] at q; cases q) hc hs (fun fs hr => retN X hx hret ht hd hr) hq
theorem own_retI (X : Stand p l e R s m args below meth c T locs cells slots) (hx : p.tables.exec = Jvm.exec) (hlk : meth.locks = false) (hret : meth.sig.returnType = some .int) {pc : Nat} {Ls : Array Slot} {z : Int32} {rest : List Value} {Q : Option Value → Heap → List Loc → Prop} {C S : Nat}
    (eT : T.heap = h) (hd : decode c.code pc = .ok (.ireturn, 1)) (hc : cells ≤ C) (hs : slots ≤ S) (hq : Q (some (.int z)) h locs) : own_G p e below (own_K Q s C S) T (mkF m pc Ls (.int z :: rest)) := by
  subst eT
  exact own_end X hlk (fun q => by rw [hret] at q; cases q) hc hs (fun fs hr => retOut X hx hret rfl (Or.inl ⟨rfl, Or.inl rfl, z, rfl⟩) hd hr) hq
theorem own_retV (X : Stand p l e R s m args below meth c T locs cells slots) (hx : p.tables.exec = Jvm.exec) (hlk : meth.locks = false) (hret : meth.sig.returnType = none) {pc : Nat} {Ls : Array Slot} {Q : Option Value → Heap → List Loc → Prop} {C S : Nat}
    (eT : T.heap = h) (hd : decode c.code pc = .ok (.return_, 1)) (hc : cells ≤ C) (hs : slots ≤ S) (hq : Q none h locs) : own_G p e below (own_K Q s C S) T (mkF m pc Ls []) := by
  subst eT
  exact own_end X hlk (fun _ => rfl) hc hs (fun fs hr => X.returnOut hx hret hd hr) hq
/-- a static call by the callee's contract -/
theorem own_callS {own : String} {index maxL : Nat} {y : MethodName} {bytes : ByteArray} {ret : Option FieldType} {rm : Room} {Q : Option Value → Heap → List Loc → Prop} {argsL rest stk : List Value} {pc : Nat} {Ls : Array Slot}
    (X : Stand p l e R s m args below meth c T locs cells slots) (hx : p.tables.exec = Jvm.exec) (hZ : Z.Warmed39 s.vm) (hown : s.vm.findClass own = some m.cls) (hM : own_Met l Z y bytes maxL ret [] rm argsL.toArray h Q)
    (w1 : (Jvm.Cond.methodLink own index y).before a0 Z = true) (w2 : (Jvm.Cond.static y).before a0 Z = true) (w3 : (Jvm.Cond.initialized y.cls).before a0 Z = true) (w4 : (Jvm.Cond.code y bytes maxL ret).before a0 Z = true) (hy : y.cls ≠ "java/lang/invoke/MethodHandle" ∧ y.cls ≠ "java/lang/invoke/VarHandle")
    (eT : T.heap = h) (hsz : Ls.size = c.maxLocals) (hlen : ∀ sig, parseMethodDescriptor y.desc = some sig → argsL.length = sig.parameters.length) (hstk : stk = argsL.reverse ++ rest) (hd : decode c.code pc = .ok (.invokestatic index, 3))
    (hf : rm.frames + 1 ≤ R.frames) (hl : (rest.map fun v => v.category).sum + (maxL + 11) + rm.locals ≤ R.locals) (hc : cells + rm.cells ≤ R.cells) (hs : slots + rm.slots ≤ R.slots) :
    ∃ (v : Option Value) (T' : State) (L : List Loc), Stand p l e R s m args below meth c T' (locs ++ L) (cells + rm.cells) (slots + rm.slots) ∧ Q v T'.heap L ∧ ∀ t, Steps p.tables e below (T'.setTop (mkF m (pc + 3) Ls (v.toList ++ rest))) t → Steps p.tables e below (T.setTop (mkF m pc Ls stk)) t := by
  obtain ⟨v, _, ⟨T', L', k', n'⟩, -, X', ⟨L, hQ, l1, y1, z1⟩, st⟩ := Jvm.LawKit.callS X hx (y := y) hown (mvT hZ w1) (mvT hZ w2) (mvT hZ w3) (mvT hZ w4) hy (backOf (Q := Q) hM hZ w4 w3 hf hl) (g := mkF m pc Ls stk) rfl hsz (argsL := argsL) (rest := rest) hlen hstk (by show 2 * 0 + _ ≤ _; exact Nat.le_of_eq (Nat.zero_add _)) hd (fun _ _ => ⟨rfl, eT, hc, hs⟩)
  dsimp only [Pt.U, Pt.locs, Pt.cells, Pt.slots] at X' l1 y1 z1 st hQ
  subst l1 y1 z1
  exact ⟨v, T', L, X', hQ, st⟩
/-- a constructor's call by its contract -/
theorem own_callI {own : String} {index maxL : Nat} {y : MethodName} {bytes : ByteArray} {rm : Room} {Q : Option Value → Heap → List Loc → Prop} {argsL rest stk : List Value} {pc : Nat} {Ls : Array Slot} {a : Addr} (hy1 : y.name = "<init>")
    (X : Stand p l e R s m args below meth c T locs cells slots) (hx : p.tables.exec = Jvm.exec) (hZ : Z.Warmed39 s.vm) (hown : s.vm.findClass own = some m.cls) (hM : own_Met l Z y bytes maxL none [] rm (.ref a :: argsL).toArray h Q)
    (w1 : (Jvm.Cond.methodLink own index y).before a0 Z = true) (w2 : (Jvm.Cond.instanceMethod y).before a0 Z = true) (w3 : (Jvm.Cond.initialized y.cls).before a0 Z = true) (w4 : (Jvm.Cond.code y bytes maxL none).before a0 Z = true) (hy : y.cls ≠ "java/lang/invoke/MethodHandle" ∧ y.cls ≠ "java/lang/invoke/VarHandle")
    (eT : T.heap = h) (hsz : Ls.size = c.maxLocals) (hlen : ∀ sig, parseMethodDescriptor y.desc = some sig → argsL.length = sig.parameters.length) (hstk : stk = argsL.reverse ++ .ref a :: rest) (hd : decode c.code pc = .ok (.invokespecial index, 3))
    (hf : rm.frames + 1 ≤ R.frames) (hl : (rest.map fun v => v.category).sum + (maxL + 11) + rm.locals ≤ R.locals) (hc : cells + rm.cells ≤ R.cells) (hs : slots + rm.slots ≤ R.slots) :
    ∃ (v : Option Value) (T' : State) (L : List Loc), Stand p l e R s m args below meth c T' (locs ++ L) (cells + rm.cells) (slots + rm.slots) ∧ Q v T'.heap L ∧ ∀ t, Steps p.tables e below (T'.setTop (mkF m (pc + 3) Ls (v.toList ++ rest))) t → Steps p.tables e below (T.setTop (mkF m pc Ls stk)) t := by
  obtain ⟨v, _, ⟨T', L', k', n'⟩, -, X', ⟨L, hQ, l1, y1, z1⟩, st⟩ := X.specialBack hx (y := y) hy1 hown (mvT hZ w1) (mvT hZ w2) (mvT hZ w4) hy (backOf (Q := Q) hM hZ w4 w3 hf hl) (g := mkF m pc Ls stk) rfl hsz (Steps.refl _) (a := a) (argsL := argsL) (rest := rest) hlen hstk (by show 2 * 0 + _ ≤ _; exact Nat.le_of_eq (Nat.zero_add _)) hd (fun _ _ => ⟨rfl, eT, hc, hs⟩)
  dsimp only [Pt.U, Pt.locs, Pt.cells, Pt.slots] at X' l1 y1 z1 st hQ
  subst l1 y1 z1
  exact ⟨v, T', L, X', hQ, fun t k => st.trans k⟩
/-- an instance method's call by the contract of the body that the receiver's class selects -/
theorem own_callV {own C : String} {index maxL : Nat} {y z : MethodName} {bytes : ByteArray} {ret : Option FieldType} {rm : Room} {Q : Option Value → Heap → List Loc → Prop} {argsL rest stk : List Value} {pc : Nat} {Ls : Array Slot} {a : Addr}
    (X : Stand p l e R s m args below meth c T locs cells slots) (hx : p.tables.exec = Jvm.exec) (hZ : Z.Warmed39 s.vm) (hown : s.vm.findClass own = some m.cls) (hM : own_Met l Z z bytes maxL ret [] rm (.ref a :: argsL).toArray h Q)
    (w1 : (Jvm.Cond.methodLink own index y).before a0 Z = true) (w2 : (Jvm.Cond.declares y).before a0 Z = true) (nf : NotFace s y) (w5 : (Jvm.Cond.selects C y z).before a0 Z = true) (w6 : (Jvm.Cond.instanceMethod z).before a0 Z = true) (w3 : (Jvm.Cond.initialized z.cls).before a0 Z = true) (w4 : (Jvm.Cond.code z bytes maxL ret).before a0 Z = true) (hy : y.cls ≠ "java/lang/invoke/MethodHandle" ∧ y.cls ≠ "java/lang/invoke/VarHandle")
    (eT : T.heap = h) (E : Exa Z h a C) (hsz : Ls.size = c.maxLocals) (hlen : ∀ sig, parseMethodDescriptor y.desc = some sig → argsL.length = sig.parameters.length) (hstk : stk = argsL.reverse ++ .ref a :: rest) (hd : decode c.code pc = .ok (.invokevirtual index, 3))
    (hf : rm.frames + 1 ≤ R.frames) (hl : (rest.map fun v => v.category).sum + (maxL + 11) + rm.locals ≤ R.locals) (hc : cells + rm.cells ≤ R.cells) (hs : slots + rm.slots ≤ R.slots) :
    ∃ (v : Option Value) (T' : State) (L : List Loc), Stand p l e R s m args below meth c T' (locs ++ L) (cells + rm.cells) (slots + rm.slots) ∧ Q v T'.heap L ∧ ∀ t, Steps p.tables e below (T'.setTop (mkF m (pc + 3) Ls (v.toList ++ rest))) t → Steps p.tables e below (T.setTop (mkF m pc Ls stk)) t := by
  obtain ⟨cB, kB, q1, q2, q3⟩ := isOf hZ eT E
  obtain ⟨v, _, ⟨T', L', k', n'⟩, -, X', ⟨L, hQ, l1, y1, z1⟩, st⟩ := X.virtualBack hx (y := y) (z := z) hown (mvT hZ w1) (mvT hZ w2) nf (mvT hZ w5) (mvT hZ w6) hy (backOf (Q := Q) hM hZ w4 w3 hf hl) q1 q3 (g := mkF m pc Ls stk) rfl hsz (Steps.refl _) (argsL := argsL) (rest := rest) hlen hstk (by show 2 * 0 + _ ≤ _; exact Nat.le_of_eq (Nat.zero_add _)) hd (fun _ _ => ⟨rfl, eT, hc, hs⟩)
  dsimp only [Pt.U, Pt.locs, Pt.cells, Pt.slots] at X' l1 y1 z1 st hQ
  subst l1 y1 z1
  exact ⟨v, T', L, X', hQ, fun t k => st.trans k⟩
/-! arrays by Arv -/
theorem own_alen {a : Addr} {k : ClassId} {ty : FieldType} {n : Int32} {vs : List Value} {dv : Value} (X : Stand p l e R s m args below meth c T locs cells slots) (hx : p.tables.exec = Jvm.exec) (hZ : Z.Warmed39 s.vm) (eT : T.heap = h) (V : Arv Z h a k ty n vs dv) {pc : Nat} {Ls : Array Slot} {rest : List Value} (hd : decode c.code pc = .ok (.arraylength, 1)) :
    ∀ t, Steps p.tables e below (T.setTop (mkF m (pc + 1) Ls (.int n :: rest))) t → Steps p.tables e below (T.setTop (mkF m pc Ls (.ref a :: rest))) t := fun t kt => by
  obtain ⟨cl, A, -, S, q, -, -⟩ := V
  refine X.arraylength hx (by rw [eT]; exact A.1) (State.isArrayOf_alike hZ.alike A.2.1) (g := mkF m pc Ls (.ref a :: rest)) rfl rfl hd _ ?_
  rw [len_of S q]
  exact kt
theorem own_open {a : Addr} {k : ClassId} {ty : FieldType} {n j : Int32} {vs : List Value} {dv v : Value} (V : Arv Z h a k ty n vs dv) (hj : ¬ j < 0 ∧ j < n) (hv : vs.getD j.toNatClampNeg dv = v) : ∃ cl : Cell, Arr Z h a cl ty ∧ ¬ (j < 0 ∨ cl.slots.size ≤ j.toNatClampNeg) ∧ cl.slots[j.toNatClampNeg]? = some v ∧ fits ty v = true := by
  obtain ⟨cl, A, -, S, q, H, G⟩ := V
  have hi := inb_of S hj
  have hlt : j.toNatClampNeg < cl.slots.size := Nat.lt_of_not_le fun x => hi (Or.inr x)
  exact ⟨cl, A, hi, by rw [H _ hlt, hv], by rw [← hv]; exact G _ hlt⟩
theorem own_iaload {a : Addr} {k : ClassId} {n j : Int32} {vs : List Value} {dv v : Value} (X : Stand p l e R s m args below meth c T locs cells slots) (hx : p.tables.exec = Jvm.exec) (hZ : Z.Warmed39 s.vm) (eT : T.heap = h) (V : Arv Z h a k .int n vs dv) (hj : ¬ j < 0 ∧ j < n) (hv : vs.getD j.toNatClampNeg dv = v) {pc : Nat} {Ls : Array Slot} {rest : List Value} (hd : decode c.code pc = .ok (.iaload, 1)) :
    ∀ t, Steps p.tables e below (T.setTop (mkF m (pc + 1) Ls (v :: rest))) t → Steps p.tables e below (T.setTop (mkF m pc Ls (.int j :: .ref a :: rest))) t := fun t kt => by
  obtain ⟨cl, A, hi, hat, -⟩ := own_open V hj hv
  exact X.iaload hx (by rw [eT]; exact A.1) (State.isArrayOf_alike hZ.alike A.2.1) A.2.2 hi hat (g := mkF m pc Ls (.int j :: .ref a :: rest)) rfl rfl hd _ kt
theorem own_iastore {a : Addr} {k : ClassId} {n j x : Int32} {vs : List Value} {dv : Value} (X : Stand p l e R s m args below meth c T locs cells slots) (hx : p.tables.exec = Jvm.exec) (hZ : Z.Warmed39 s.vm) (eT : T.heap = h) (V : Arv Z h a k .int n vs dv) (hj : ¬ j < 0 ∧ j < n) (i : Nat) (hi : j.toNatClampNeg = i) (hl : i < vs.length) {pc : Nat} {Ls : Array Slot} {rest : List Value} (hd : decode c.code pc = .ok (.iastore, 1)) :
    ∃ T' h', Stand p l e R s m args below meth c T' (locs ++ [⟨a, j.toNatClampNeg⟩]) cells slots ∧ T'.heap = h' ∧ Wr h h' a j.toNatClampNeg (.int x) ∧ Arv Z h' a k .int n (vs.set i (.int x)) dv ∧ ∀ t, Steps p.tables e below (T'.setTop (mkF m (pc + 1) Ls rest)) t → Steps p.tables e below (T.setTop (mkF m pc Ls (.int x :: .int j :: .ref a :: rest))) t := by
  obtain ⟨cl, A, q1, S, q, H, G⟩ := V
  obtain ⟨T', h', X', e', W, st⟩ := stI X hx hZ eT A (j := j) (x := x) (inb_of S hj) (g := mkF m pc Ls (.int x :: .int j :: .ref a :: rest)) rfl rfl hd
  exact ⟨T', h', X', e', W, Arv.set A q1 S q H G rfl W i hi hl, st⟩
/-- newarray of a primitive kind; the class found by its name is said too -/
theorem own_newP (X : Stand p l e R s m args below meth c T locs cells slots) (hx : p.tables.exec = Jvm.exec) (hZ : Z.Warmed39 s.vm) {aty : ArrayType} {nm : String} (hnm : "[" ++ (newarray.typeOf aty).toString = nm) (w : (Jvm.Cond.arrayClass (newarray.typeOf aty)).before a0 Z = true) (eT : T.heap = h) {pc : Nat} {Ls : Array Slot} (hd : decode c.code pc = .ok (.newarray aty, 2)) {n : Int32} {rest : List Value}
    (hn : ¬ n < 0) {cap : Nat} (hcap : n.toNatClampNeg ≤ cap) (hb : cap * 8 ≤ 536870912) (hc : cells + 1 ≤ R.cells) (hl : slots + cap ≤ R.slots) :
    ∃ T' h' cA, Stand p l e R s m args below meth c T' locs (cells + 1) (slots + cap) ∧ T'.heap = h' ∧ Ext h h' ∧ Arr Z h' h.size (newA cA (newarray.typeOf aty) n) (newarray.typeOf aty) ∧ Exa Z h' h.size nm ∧
      ∀ t, Steps p.tables e below (T'.setTop (mkF m (pc + 2) Ls (.ref h.size :: rest))) t → Steps p.tables e below (T.setTop (mkF m pc Ls (.int n :: rest))) t := by
  have hcb : componentBytes (newarray.typeOf aty) ≤ 8 := by cases aty <;> decide
  obtain ⟨cA, kA, comp, f1, f2, f3, X', st⟩ := X.newarrayPrim hx (mvA hZ w) (g := mkF m pc Ls (.int n :: rest)) rfl hd rfl hn (Nat.le_trans (Nat.mul_le_mul hcap hcb) hb) hc (by omega)
  subst eT hnm
  have fZ : Z.vm.findClass ("[" ++ (newarray.typeOf aty).toString) = some cA := by rw [← hZ.alike.findClass]; exact f1
  obtain ⟨kZ, z1, -⟩ := Vm.findClass_spec fZ
  obtain ⟨k', z2, z3⟩ := hZ.alike.2.2 _ _ z1
  cases f2.symm.trans z2
  have kk : kZ.kind = .array comp (newarray.typeOf aty) := by rw [← f3, z3]
  have at' : (T.heap.push (newA cA (newarray.typeOf aty) n))[T.heap.size]? = some (newA cA (newarray.typeOf aty) n) := by simp
  refine ⟨_, T.heap.push (newA cA (newarray.typeOf aty) n), cA, X'.more (Nat.le_refl _) (by omega), rfl, ⟨by simp, fun a cc q => ?_⟩, ⟨at', ⟨by simp [newA], kZ, z1, comp, kk⟩, by simp [newA]⟩, ⟨_, kZ, at', fZ, z1, rfl, fun q => ?_⟩, st⟩
  · rw [Array.getElem?_push_lt (Array.getElem?_eq_some_iff.mp q).1]; exact (Array.getElem?_eq_getElem _).symm.trans q
  · rw [kk] at q; cases q
end OwnKit
section OwnSteps
variable {p : Program} {l : Launch} {e : Env} {R : Room} {s : State} {m : MethodId} {args : Array Value} {below : List Frame} {meth : Method} {c : Code} {T : State} {locs : List Loc} {cells slots : Nat} {Z : State} {a0 : Array Value} {h0 : Heap}
theorem own_iloadN {K : Outcome → State → Prop} {pc n : Nat} {Ls : Array Slot} {S : List Value} (X : Stand p l e R s m args below meth c T locs cells slots) (hx : p.tables.exec = Jvm.exec) {k : Fin 4} {v : Int32} (hd : decode c.code pc = .ok (.iload_n k, 1)) (hl : Ls[k.val]? = some (.val (.int v))) (hn : pc + 1 = n)
    (h : own_G p e below K T (mkF m n Ls (.int v :: S))) : own_G p e below K T (mkF m pc Ls S) := by
  subst hn
  exact own_go (fun t k => XS.iloadN X.here hx rfl hd hl k) h
theorem own_iload {K : Outcome → State → Prop} {pc n : Nat} {Ls : Array Slot} {S : List Value} (X : Stand p l e R s m args below meth c T locs cells slots) (hx : p.tables.exec = Jvm.exec) {k : Nat} {v : Int32} (hd : decode c.code pc = .ok (.iload k, 2)) (hl : Ls[k]? = some (.val (.int v))) (hn : pc + 2 = n)
    (h : own_G p e below K T (mkF m n Ls (.int v :: S))) : own_G p e below K T (mkF m pc Ls S) := by
  subst hn
  exact own_go (fun t k => XS.iload X.here hx rfl hd hl k) h
theorem own_aloadN {K : Outcome → State → Prop} {pc n : Nat} {Ls : Array Slot} {S : List Value} (X : Stand p l e R s m args below meth c T locs cells slots) (hx : p.tables.exec = Jvm.exec) {k : Fin 4} {v : Value} (hd : decode c.code pc = .ok (.aload_n k, 1)) (hl : Ls[k.val]? = some (.val v)) (hv : v.isRef = true) (hn : pc + 1 = n)
    (h : own_G p e below K T (mkF m n Ls (v :: S))) : own_G p e below K T (mkF m pc Ls S) := by
  subst hn
  exact own_go (fun t k => XS.aloadN X.here hx rfl hd hl hv k) h
theorem own_aload {K : Outcome → State → Prop} {pc n : Nat} {Ls : Array Slot} {S : List Value} (X : Stand p l e R s m args below meth c T locs cells slots) (hx : p.tables.exec = Jvm.exec) {k : Nat} {v : Value} (hd : decode c.code pc = .ok (.aload k, 2)) (hl : Ls[k]? = some (.val v)) (hv : v.isRef = true) (hn : pc + 2 = n)
    (h : own_G p e below K T (mkF m n Ls (v :: S))) : own_G p e below K T (mkF m pc Ls S) := by
  subst hn
  exact own_go (fun t k => XS.aload X.here hx rfl hd hl hv k) h
theorem own_istoreN {K : Outcome → State → Prop} {pc n : Nat} {Ls : Array Slot} {S : List Value} (X : Stand p l e R s m args below meth c T locs cells slots) (hx : p.tables.exec = Jvm.exec) {k : Fin 4} {v : Int32} {l' : Array Slot} (hd : decode c.code pc = .ok (.istore_n k, 1)) (hl : storeLocals Ls k.val (.int v) = some l') (hn : pc + 1 = n)
    (h : own_G p e below K T (mkF m n l' S)) : own_G p e below K T (mkF m pc Ls (.int v :: S)) := by
  subst hn
  exact own_go (fun t k => XS.istoreN X.here hx rfl hd rfl hl k) h
theorem own_istore {K : Outcome → State → Prop} {pc n : Nat} {Ls : Array Slot} {S : List Value} (X : Stand p l e R s m args below meth c T locs cells slots) (hx : p.tables.exec = Jvm.exec) {k : Nat} {v : Int32} {l' : Array Slot} (hd : decode c.code pc = .ok (.istore k, 2)) (hl : storeLocals Ls k (.int v) = some l') (hn : pc + 2 = n)
    (h : own_G p e below K T (mkF m n l' S)) : own_G p e below K T (mkF m pc Ls (.int v :: S)) := by
  subst hn
  exact own_go (fun t k => XS.istore X.here hx rfl hd rfl hl k) h
theorem own_astore {K : Outcome → State → Prop} {pc n : Nat} {Ls : Array Slot} {S : List Value} (X : Stand p l e R s m args below meth c T locs cells slots) (hx : p.tables.exec = Jvm.exec) {k : Nat} {v : Value} {l' : Array Slot} (hd : decode c.code pc = .ok (.astore k, 2)) (hv : v.isRef = true) (hl : storeLocals Ls k v = some l') (hn : pc + 2 = n)
    (h : own_G p e below K T (mkF m n l' S)) : own_G p e below K T (mkF m pc Ls (v :: S)) := by
  subst hn
  exact own_go (fun t k => XS.astore X.here hx rfl hd rfl hv hl k) h
theorem own_iconst {K : Outcome → State → Prop} {pc n : Nat} {Ls : Array Slot} {S : List Value} (X : Stand p l e R s m args below meth c T locs cells slots) (hx : p.tables.exec = Jvm.exec) {i : Int} {z : Int32} (hd : decode c.code pc = .ok (.iconst i, 1)) (hz : Int32.ofInt i = z) (hn : pc + 1 = n)
    (h : own_G p e below K T (mkF m n Ls (.int z :: S))) : own_G p e below K T (mkF m pc Ls S) := by
  subst hz hn
  exact own_go (fun t k => XS.iconst X.here hx rfl hd k) h
theorem own_bipush {K : Outcome → State → Prop} {pc n : Nat} {Ls : Array Slot} {S : List Value} (X : Stand p l e R s m args below meth c T locs cells slots) (hx : p.tables.exec = Jvm.exec) {i : Int} {z : Int32} (hd : decode c.code pc = .ok (.bipush i, 2)) (hz : (Int8.ofInt i).toInt32 = z) (hn : pc + 2 = n)
    (h : own_G p e below K T (mkF m n Ls (.int z :: S))) : own_G p e below K T (mkF m pc Ls S) := by
  subst hz hn
  exact own_go (fun t k => XS.bipush X.here hx rfl hd k) h
theorem own_iadd {K : Outcome → State → Prop} {pc n : Nat} {Ls : Array Slot} {S : List Value} (X : Stand p l e R s m args below meth c T locs cells slots) (hx : p.tables.exec = Jvm.exec) {x y z : Int32} (hd : decode c.code pc = .ok (.iadd, 1)) (hz : x + y = z) (hn : pc + 1 = n)
    (h : own_G p e below K T (mkF m n Ls (.int z :: S))) : own_G p e below K T (mkF m pc Ls (.int y :: .int x :: S)) := by
  subst hz hn
  exact own_go (fun t k => XS.iadd X.here hx rfl hd rfl k) h
theorem own_imul {K : Outcome → State → Prop} {pc n : Nat} {Ls : Array Slot} {S : List Value} (X : Stand p l e R s m args below meth c T locs cells slots) (hx : p.tables.exec = Jvm.exec) {x y z : Int32} (hd : decode c.code pc = .ok (.imul, 1)) (hz : x * y = z) (hn : pc + 1 = n)
    (h : own_G p e below K T (mkF m n Ls (.int z :: S))) : own_G p e below K T (mkF m pc Ls (.int y :: .int x :: S)) := by
  subst hz hn
  exact own_go (fun t k => XS.imul X.here hx rfl hd rfl k) h
theorem own_iand {K : Outcome → State → Prop} {pc n : Nat} {Ls : Array Slot} {S : List Value} (X : Stand p l e R s m args below meth c T locs cells slots) (hx : p.tables.exec = Jvm.exec) {x y z : Int32} (hd : decode c.code pc = .ok (.iand, 1)) (hz : x &&& y = z) (hn : pc + 1 = n)
    (h : own_G p e below K T (mkF m n Ls (.int z :: S))) : own_G p e below K T (mkF m pc Ls (.int y :: .int x :: S)) := by
  subst hz hn
  exact own_go (fun t k => XS.iand X.here hx rfl hd rfl k) h
theorem own_ishr {K : Outcome → State → Prop} {pc n : Nat} {Ls : Array Slot} {S : List Value} (X : Stand p l e R s m args below meth c T locs cells slots) (hx : p.tables.exec = Jvm.exec) {x : Int32} {y : Int32} {z : Int32} (hd : decode c.code pc = .ok (.ishr, 1)) (hz : x >>> (y &&& 31) = z) (hn : pc + 1 = n)
    (h : own_G p e below K T (mkF m n Ls (.int z :: S))) : own_G p e below K T (mkF m pc Ls (.int y :: .int x :: S)) := by
  subst hz hn
  exact own_go (fun t k => XS.ishr X.here hx rfl hd rfl k) h
theorem own_iinc {K : Outcome → State → Prop} {pc n : Nat} {Ls : Array Slot} {S : List Value} (X : Stand p l e R s m args below meth c T locs cells slots) (hx : p.tables.exec = Jvm.exec) {k : Nat} {cst : Int} {x z : Int32} {l' : Array Slot} (hd : decode c.code pc = .ok (.iinc k cst, 3)) (hl : Ls[k]? = some (.val (.int x))) (hz : x + Int32.ofInt cst = z) (hl' : storeLocals Ls k (.int z) = some l') (hn : pc + 3 = n)
    (h : own_G p e below K T (mkF m n l' S)) : own_G p e below K T (mkF m pc Ls S) := by
  subst hz hn
  exact own_go (fun t k => XS.iinc X.here hx rfl hd hl hl' k) h
theorem own_dup {K : Outcome → State → Prop} {pc n : Nat} {Ls : Array Slot} {S : List Value} (X : Stand p l e R s m args below meth c T locs cells slots) (hx : p.tables.exec = Jvm.exec) {v : Value} (hd : decode c.code pc = .ok (.dup, 1)) (hc : v.category = 1) (hn : pc + 1 = n)
    (h : own_G p e below K T (mkF m n Ls (v :: v :: S))) : own_G p e below K T (mkF m pc Ls (v :: S)) := by
  subst hn
  exact own_go (fun t k => XS.dup X.here hx rfl hd rfl hc k) h
theorem own_goto {K : Outcome → State → Prop} {pc n : Nat} {Ls : Array Slot} {S : List Value} (X : Stand p l e R s m args below meth c T locs cells slots) (hx : p.tables.exec = Jvm.exec) {o : Int} (hd : decode c.code pc = .ok (.goto o, 3)) (ho : 0 ≤ (pc : Int) + o) (hp : ((pc : Int) + o).toNat = n)
    (h : own_G p e below K T (mkF m n Ls S)) : own_G p e below K T (mkF m pc Ls S) := by
  subst hp
  exact own_go (fun t k => XS.goto X.here hx rfl (pc0 := pc) rfl hd ho rfl k) h
theorem own_ifYes {K : Outcome → State → Prop} {pc n : Nat} {Ls : Array Slot} {S : List Value} (X : Stand p l e R s m args below meth c T locs cells slots) (hx : p.tables.exec = Jvm.exec) {cd : ClassFile.Cond} {x : Int32} {o : Int} (hd : decode c.code pc = .ok (.ifCond cd o, 3)) (hc : if_icmp.holds cd x 0 = true) (ho : 0 ≤ (pc : Int) + o) (hp : ((pc : Int) + o).toNat = n)
    (h : own_G p e below K T (mkF m n Ls S)) : own_G p e below K T (mkF m pc Ls (.int x :: S)) := by
  subst hp
  exact own_go (fun t k => XS.ifYes X.here hx rfl (pc0 := pc) rfl hd rfl ((if0 _ _).trans hc) ho rfl k) h
theorem own_ifNo {K : Outcome → State → Prop} {pc n : Nat} {Ls : Array Slot} {S : List Value} (X : Stand p l e R s m args below meth c T locs cells slots) (hx : p.tables.exec = Jvm.exec) {cd : ClassFile.Cond} {x : Int32} {o : Int} (hd : decode c.code pc = .ok (.ifCond cd o, 3)) (hc : if_icmp.holds cd x 0 = false) (hn : pc + 3 = n)
    (h : own_G p e below K T (mkF m n Ls S)) : own_G p e below K T (mkF m pc Ls (.int x :: S)) := by
  subst hn
  exact own_go (fun t k => XS.ifNo X.here hx rfl hd rfl ((if0 _ _).trans hc) k) h
theorem own_icmpYes {K : Outcome → State → Prop} {pc n : Nat} {Ls : Array Slot} {S : List Value} (X : Stand p l e R s m args below meth c T locs cells slots) (hx : p.tables.exec = Jvm.exec) {cd : ClassFile.Cond} {x y : Int32} {o : Int} (hd : decode c.code pc = .ok (.if_icmp cd o, 3)) (hc : if_icmp.holds cd x y = true) (ho : 0 ≤ (pc : Int) + o) (hp : ((pc : Int) + o).toNat = n)
    (h : own_G p e below K T (mkF m n Ls S)) : own_G p e below K T (mkF m pc Ls (.int y :: .int x :: S)) := by
  subst hp
  exact own_go (fun t k => XS.icmpYes X.here hx rfl (pc0 := pc) rfl hd rfl hc ho rfl k) h
theorem own_icmpNo {K : Outcome → State → Prop} {pc n : Nat} {Ls : Array Slot} {S : List Value} (X : Stand p l e R s m args below meth c T locs cells slots) (hx : p.tables.exec = Jvm.exec) {cd : ClassFile.Cond} {x y : Int32} {o : Int} (hd : decode c.code pc = .ok (.if_icmp cd o, 3)) (hc : if_icmp.holds cd x y = false) (hn : pc + 3 = n)
    (h : own_G p e below K T (mkF m n Ls S)) : own_G p e below K T (mkF m pc Ls (.int y :: .int x :: S)) := by
  subst hn
  exact own_go (fun t k => XS.icmpNo X.here hx rfl hd rfl hc k) h
theorem own_ifnonnullYes {K : Outcome → State → Prop} {pc n : Nat} {Ls : Array Slot} {S : List Value} (X : Stand p l e R s m args below meth c T locs cells slots) (hx : p.tables.exec = Jvm.exec) {a : Addr} {o : Int} (hd : decode c.code pc = .ok (.ifnonnull o, 3)) (ho : 0 ≤ (pc : Int) + o) (hp : ((pc : Int) + o).toNat = n)
    (h : own_G p e below K T (mkF m n Ls S)) : own_G p e below K T (mkF m pc Ls ((.ref a) :: S)) := by
  subst hp
  exact own_go (fun t k => XS.ifnonnullYes X.here hx rfl (pc0 := pc) rfl hd rfl ho rfl k) h
theorem own_getF {K : Outcome → State → Prop} {pc n : Nat} {Ls : Array Slot} {S : List Value} {h : Heap} (X : Stand p l e R s m args below meth c T locs cells slots) (hx : p.tables.exec = Jvm.exec) (hZ : Z.Warmed39 s.vm) {own R0 O nm d host : String} {index : Nat} (hown : s.vm.findClass own = some m.cls) (w : (Jvm.Cond.fieldLink own index R0 nm d).before a0 Z = true ∨ (Jvm.Cond.fieldLinkNest own index R0 nm d host).before a0 Z = true) (via : Via Z R0 O nm d) (eT : T.heap = h) {a : Addr} {v : Value} (F : Fld Z h a O nm d v) (hd : decode c.code pc = .ok (.getfield index, 3)) (hn : pc + 3 = n)
    (kk : ∀ T' : State, Stand p l e R s m args below meth c T' locs cells slots → T'.heap = h → own_G p e below K T' (mkF m n Ls (v :: S))) : own_G p e below K T (mkF m pc Ls (.ref a :: S)) := by
  subst hn
  obtain ⟨T', X', e', st⟩ := Jvm.RoadKit.getF X hx hZ hown w via eT F (g := mkF m pc Ls (.ref a :: S)) rfl rfl hd
  exact own_go st (kk T' X' e')
theorem own_putF {K : Outcome → State → Prop} {pc n : Nat} {Ls : Array Slot} {S : List Value} {h : Heap} (X : Stand p l e R s m args below meth c T locs cells slots) (hx : p.tables.exec = Jvm.exec) (hZ : Z.Warmed39 s.vm) {own R0 O nm d host C : String} {index kk' : Nat} {ty : FieldType} (hown : s.vm.findClass own = some m.cls) (w : (Jvm.Cond.fieldLink own index R0 nm d).before a0 Z = true ∨ (Jvm.Cond.fieldLinkNest own index R0 nm d host).before a0 Z = true) (via : Via Z R0 O nm d) (eT : T.heap = h) {a : Addr} {v old : Value} (F : Fld Z h a O nm d old) (E : Exa Z h a C) (L : (Jvm.Cond.lays C O nm d).before a0 Z = true ∨ ((Jvm.Cond.laysFinal C O nm d).before a0 Z = true ∧ own = O ∧ meth.name = "<init>")) (wi : (Jvm.Cond.instantiable C kk').before a0 Z = true) (hty : parseFieldDescriptor d = some ty) (hnr : narrow ty v = v) (hf : fits ty v = true) (hd : decode c.code pc = .ok (.putfield index, 3)) (hn : pc + 3 = n)
    (kk : ∀ (T' : State) (h' : Heap), Stand p l e R s m args below meth c T' (locs ++ [⟨a, Jvm.RoadKit.slotOf Z O nm d⟩]) cells slots → T'.heap = h' → Wr h h' a (Jvm.RoadKit.slotOf Z O nm d) v → own_G p e below K T' (mkF m n Ls S)) : own_G p e below K T (mkF m pc Ls (v :: .ref a :: S)) := by
  subst hn
  obtain ⟨T', h', X', e', W, st⟩ := Jvm.RoadKit.putF X hx hZ hown w via eT F E L wi hty hnr hf (g := mkF m pc Ls (v :: .ref a :: S)) rfl rfl hd
  exact own_go st (kk T' h' X' e' W)
theorem own_new {K : Outcome → State → Prop} {pc n : Nat} {Ls : Array Slot} {S : List Value} {h : Heap} (X : Stand p l e R s m args below meth c T locs cells slots) (hx : p.tables.exec = Jvm.exec) (hZ : Z.Warmed39 s.vm) {own C : String} {index k : Nat} (hown : s.vm.findClass own = some m.cls) (w : (Jvm.Cond.classLink own index C).before a0 Z = true) (wi : (Jvm.Cond.instantiable C k).before a0 Z = true) (wz : (Jvm.Cond.initialized C).before a0 Z = true) (eT : T.heap = h) (hd : decode c.code pc = .ok (.new index, 3)) (hc : cells + 1 ≤ R.cells) (hl : slots + k ≤ R.slots) (hn : pc + 3 = n)
    (kk : ∀ (T' : State) (h' : Heap) (b : Addr), b = h.size → Stand p l e R s m args below meth c T' locs (cells + 1) (slots + k) → T'.heap = h' → Ext h h' → Exa Z h' b C → (∀ {O nm d : String} {ty : FieldType}, Laid Z a0 C O nm d → parseFieldDescriptor d = some ty → Fld Z h' b O nm d (defaultValue ty)) → own_G p e below K T' (mkF m n Ls (.ref b :: S))) : own_G p e below K T (mkF m pc Ls S) := by
  subst hn
  obtain ⟨T', h', X', e', E, A, D, -, st⟩ := newO X hx hZ hown w wi wz eT (g := mkF m pc Ls S) rfl hd hc hl
  exact own_go st (kk T' h' _ rfl X' e' E A D)
theorem own_newA {K : Outcome → State → Prop} {pc n : Nat} {Ls : Array Slot} {S : List Value} {h : Heap} (X : Stand p l e R s m args below meth c T locs cells slots) (hx : p.tables.exec = Jvm.exec) (hZ : Z.Warmed39 s.vm) {aty : ArrayType} {nm : String} (hnm : "[" ++ (newarray.typeOf aty).toString = nm) (w : (Jvm.Cond.arrayClass (newarray.typeOf aty)).before a0 Z = true) (eT : T.heap = h) (hd : decode c.code pc = .ok (.newarray aty, 2)) {k : Int32} (hk : ¬ k < 0) {cap : Nat} (hcap : k.toNatClampNeg ≤ cap) (hb : cap * 8 ≤ 536870912) (hc : cells + 1 ≤ R.cells) (hl : slots + cap ≤ R.slots) (hn : pc + 2 = n)
    (kk : ∀ (T' : State) (h' : Heap) (cA : ClassId) (b : Addr), b = h.size → Stand p l e R s m args below meth c T' locs (cells + 1) (slots + cap) → T'.heap = h' → Ext h h' → Arr Z h' b (newA cA (newarray.typeOf aty) k) (newarray.typeOf aty) → Exa Z h' b nm → own_G p e below K T' (mkF m n Ls (.ref b :: S))) : own_G p e below K T (mkF m pc Ls (.int k :: S)) := by
  subst hn
  obtain ⟨T', h', cA, X', e', E, A, B, st⟩ := own_newP X hx hZ hnm w eT (pc := pc) (Ls := Ls) (rest := S) hd hk hcap hb hc hl
  exact own_go st (kk T' h' cA _ rfl X' e' E A B)
theorem own_st_iastore {K : Outcome → State → Prop} {pc n : Nat} {Ls : Array Slot} {S : List Value} {h : Heap} (X : Stand p l e R s m args below meth c T locs cells slots) (hx : p.tables.exec = Jvm.exec) (hZ : Z.Warmed39 s.vm) {a : Addr} {k : ClassId} {z j : Int32} {x : Int32} {vs : List Value} {dv : Value} (eT : T.heap = h) (V : Arv Z h a k .int z vs dv) (hj : ¬ j < 0 ∧ j < z) (i : Nat) (hi : j.toNatClampNeg = i) (hl : i < vs.length) (hd : decode c.code pc = .ok (.iastore, 1)) (hn : pc + 1 = n)
    (kk : ∀ (T' : State) (h' : Heap), Stand p l e R s m args below meth c T' (locs ++ [⟨a, j.toNatClampNeg⟩]) cells slots → T'.heap = h' → Wr h h' a j.toNatClampNeg (.int x) → Arv Z h' a k .int z (vs.set i (.int x)) dv → own_G p e below K T' (mkF m n Ls S)) : own_G p e below K T (mkF m pc Ls (.int x :: .int j :: .ref a :: S)) := by
  subst hn
  obtain ⟨T', h', X', e', W, V', st⟩ := own_iastore X hx hZ eT V hj i hi hl (pc := pc) (Ls := Ls) (rest := S) hd
  exact own_go st (kk T' h' X' e' W V')
theorem own_ld_iaload {K : Outcome → State → Prop} {pc n : Nat} {Ls : Array Slot} {S : List Value} {h : Heap} (X : Stand p l e R s m args below meth c T locs cells slots) (hx : p.tables.exec = Jvm.exec) (hZ : Z.Warmed39 s.vm) {a : Addr} {k : ClassId} {z j : Int32} {vs : List Value} {dv v : Value} (eT : T.heap = h) (V : Arv Z h a k .int z vs dv) (hj : ¬ j < 0 ∧ j < z) (hv : vs.getD j.toNatClampNeg dv = v) (hd : decode c.code pc = .ok (.iaload, 1)) (hn : pc + 1 = n) (kk : own_G p e below K T (mkF m n Ls (v :: S))) : own_G p e below K T (mkF m pc Ls (.int j :: .ref a :: S)) := by
  subst hn
  exact own_go (own_iaload X hx hZ eT V hj hv hd) kk
theorem own_len {K : Outcome → State → Prop} {pc n : Nat} {Ls : Array Slot} {S : List Value} {h : Heap} (X : Stand p l e R s m args below meth c T locs cells slots) (hx : p.tables.exec = Jvm.exec) (hZ : Z.Warmed39 s.vm) {a : Addr} {k : ClassId} {ty : FieldType} {z : Int32} {vs : List Value} {dv : Value} (eT : T.heap = h) (V : Arv Z h a k ty z vs dv) (hd : decode c.code pc = .ok (.arraylength, 1)) (hn : pc + 1 = n) (kk : own_G p e below K T (mkF m n Ls (.int z :: S))) : own_G p e below K T (mkF m pc Ls (.ref a :: S)) := by
  subst hn
  exact own_go (own_alen X hx hZ eT V hd) kk
theorem own_ldc {K : Outcome → State → Prop} {pc n : Nat} {Ls : Array Slot} {S : List Value} (X : Stand p l e R s m args below meth c T locs cells slots) (hx : p.tables.exec = Jvm.exec) (hZ : Z.Warmed39 s.vm) {own : String} {index : Nat} {v : Int32} (hown : s.vm.findClass own = some m.cls) (w : (Jvm.Cond.constant own index v).before a0 Z = true) (hd : decode c.code pc = .ok (.ldc index, 2)) (hn : pc + 2 = n) (kk : own_G p e below K T (mkF m n Ls (.int v :: S))) : own_G p e below K T (mkF m pc Ls S) := by
  subst hn
  exact own_go (fun t k => X.ldcInt hx hown (mvT hZ w) (g := mkF m pc Ls S) rfl hd t k) kk
theorem own_ccast {K : Outcome → State → Prop} {pc n : Nat} {Ls : Array Slot} {S : List Value} {h : Heap} (X : Stand p l e R s m args below meth c T locs cells slots) (hx : p.tables.exec = Jvm.exec) (hZ : Z.Warmed39 s.vm) {own C : String} {index : Nat} (hown : s.vm.findClass own = some m.cls) (w : (Jvm.Cond.classLink own index C).before a0 Z = true) (eT : T.heap = h) {a : Addr} (F : Ins Z h a C true) (hd : decode c.code pc = .ok (.checkcast index, 3)) (hn : pc + 3 = n)
    (kk : ∀ T' : State, Stand p l e R s m args below meth c T' locs cells slots → T'.heap = h → own_G p e below K T' (mkF m n Ls (.ref a :: S))) : own_G p e below K T (mkF m pc Ls (.ref a :: S)) := by
  subst hn
  obtain ⟨T', X', e', st⟩ := castY X hx hZ hown w eT F (g := mkF m pc Ls (.ref a :: S)) rfl rfl hd
  exact own_go st (kk T' X' e')
theorem own_initO {K : Outcome → State → Prop} {pc n : Nat} {Ls : Array Slot} {S : List Value} {h : Heap} (X : Stand p l e R s m args below meth c T locs cells slots) (hx : p.tables.exec = Jvm.exec) (hZ : Z.Warmed39 s.vm) {own : String} {index : Nat} (hown : s.vm.findClass own = some m.cls) (w1 : (Jvm.Cond.methodLink own index Lib.objectInit).before a0 Z = true) (w2 : (Jvm.Cond.instanceMethod Lib.objectInit).before a0 Z = true) (w3 : (Jvm.Cond.code Lib.objectInit ⟨#[0xb1]⟩ 1 none).before a0 Z = true) (eT : T.heap = h) (hsz : Ls.size = c.maxLocals) {a : Addr} (hd : decode c.code pc = .ok (.invokespecial index, 3)) (hf : 1 ≤ R.frames) (hl : (S.map fun v => v.category).sum + 12 ≤ R.locals) (hn : pc + 3 = n)
    (kk : ∀ T' : State, Stand p l e R s m args below meth c T' locs cells slots → T'.heap = h → own_G p e below K T' (mkF m n Ls (S))) : own_G p e below K T (mkF m pc Ls (.ref a :: S)) := by
  subst hn
  obtain ⟨T', X', e', st⟩ := Jvm.RoadKit.initO X hx hZ hown w1 w2 w3 eT (g := mkF m pc Ls (.ref a :: S)) rfl hsz rfl hd hf (W := (S.map fun v => v.category).sum) (by show 2 * 0 + _ ≤ _; exact Nat.le_of_eq (Nat.zero_add _)) hl
  exact own_go st (kk T' X' e')
theorem own_S {K : Outcome → State → Prop} {pc n : Nat} {Ls : Array Slot} {h : Heap} {own : String} {index maxL : Nat} {y : MethodName} {bytes : ByteArray} {rm : Room} {Q : Option Value → Heap → List Loc → Prop} {argsL rest stk : List Value} {ret : Option FieldType} (X : Stand p l e R s m args below meth c T locs cells slots) (hx : p.tables.exec = Jvm.exec) (hZ : Z.Warmed39 s.vm) (hown : s.vm.findClass own = some m.cls) (hM : own_Met l Z y bytes maxL ret [] rm argsL.toArray h Q) (w1 : (Jvm.Cond.methodLink own index y).before a0 Z = true) (w2 : (Jvm.Cond.static y).before a0 Z = true) (w3 : (Jvm.Cond.initialized y.cls).before a0 Z = true) (w4 : (Jvm.Cond.code y bytes maxL ret).before a0 Z = true) (hy : y.cls ≠ "java/lang/invoke/MethodHandle" ∧ y.cls ≠ "java/lang/invoke/VarHandle") (eT : T.heap = h) (hsz : Ls.size = c.maxLocals) (hlen : ∀ sig, parseMethodDescriptor y.desc = some sig → argsL.length = sig.parameters.length) (hstk : stk = argsL.reverse ++ rest) (hd : decode c.code pc = .ok (.invokestatic index, 3)) (hf : rm.frames + 1 ≤ R.frames) (hl : (rest.map fun v => v.category).sum + (maxL + 11) + rm.locals ≤ R.locals) (hc : cells + rm.cells ≤ R.cells) (hs : slots + rm.slots ≤ R.slots) (hn : pc + 3 = n)
    (kk : ∀ (v : Option Value) (T' : State) (L : List Loc), Stand p l e R s m args below meth c T' (locs ++ L) (cells + rm.cells) (slots + rm.slots) → Q v T'.heap L → own_G p e below K T' (mkF m n Ls (v.toList ++ rest))) : own_G p e below K T (mkF m pc Ls stk) := by
  subst hn
  obtain ⟨v, T', L, X', hQ, st⟩ := own_callS X hx hZ hown hM w1 w2 w3 w4 hy eT hsz hlen hstk hd hf hl hc hs
  exact own_go st (kk v T' L X' hQ)
theorem own_I {K : Outcome → State → Prop} {pc n : Nat} {Ls : Array Slot} {h : Heap} {own : String} {index maxL : Nat} {y : MethodName} {bytes : ByteArray} {rm : Room} {Q : Option Value → Heap → List Loc → Prop} {argsL rest stk : List Value} {a : Addr} (hy1 : y.name = "<init>") (X : Stand p l e R s m args below meth c T locs cells slots) (hx : p.tables.exec = Jvm.exec) (hZ : Z.Warmed39 s.vm) (hown : s.vm.findClass own = some m.cls) (hM : own_Met l Z y bytes maxL none [] rm (.ref a :: argsL).toArray h Q) (w1 : (Jvm.Cond.methodLink own index y).before a0 Z = true) (w2 : (Jvm.Cond.instanceMethod y).before a0 Z = true) (w3 : (Jvm.Cond.initialized y.cls).before a0 Z = true) (w4 : (Jvm.Cond.code y bytes maxL none).before a0 Z = true) (hy : y.cls ≠ "java/lang/invoke/MethodHandle" ∧ y.cls ≠ "java/lang/invoke/VarHandle") (eT : T.heap = h) (hsz : Ls.size = c.maxLocals) (hlen : ∀ sig, parseMethodDescriptor y.desc = some sig → argsL.length = sig.parameters.length) (hstk : stk = argsL.reverse ++ .ref a :: rest) (hd : decode c.code pc = .ok (.invokespecial index, 3)) (hf : rm.frames + 1 ≤ R.frames) (hl : (rest.map fun v => v.category).sum + (maxL + 11) + rm.locals ≤ R.locals) (hc : cells + rm.cells ≤ R.cells) (hs : slots + rm.slots ≤ R.slots) (hn : pc + 3 = n)
    (kk : ∀ (v : Option Value) (T' : State) (L : List Loc), Stand p l e R s m args below meth c T' (locs ++ L) (cells + rm.cells) (slots + rm.slots) → Q v T'.heap L → own_G p e below K T' (mkF m n Ls (v.toList ++ rest))) : own_G p e below K T (mkF m pc Ls stk) := by
  subst hn
  obtain ⟨v, T', L, X', hQ, st⟩ := own_callI hy1 X hx hZ hown hM w1 w2 w3 w4 hy eT hsz hlen hstk hd hf hl hc hs
  exact own_go st (kk v T' L X' hQ)
theorem own_V {K : Outcome → State → Prop} {pc n : Nat} {Ls : Array Slot} {h : Heap} {own : String} {index maxL : Nat} {y : MethodName} {bytes : ByteArray} {rm : Room} {Q : Option Value → Heap → List Loc → Prop} {argsL rest stk : List Value} {ret : Option FieldType} {C : String} {z : MethodName} {a : Addr} (X : Stand p l e R s m args below meth c T locs cells slots) (hx : p.tables.exec = Jvm.exec) (hZ : Z.Warmed39 s.vm) (hown : s.vm.findClass own = some m.cls) (hM : own_Met l Z z bytes maxL ret [] rm (.ref a :: argsL).toArray h Q) (w1 : (Jvm.Cond.methodLink own index y).before a0 Z = true) (w2 : (Jvm.Cond.declares y).before a0 Z = true) (nf : NotFace s y) (w5 : (Jvm.Cond.selects C y z).before a0 Z = true) (w6 : (Jvm.Cond.instanceMethod z).before a0 Z = true) (w3 : (Jvm.Cond.initialized z.cls).before a0 Z = true) (w4 : (Jvm.Cond.code z bytes maxL ret).before a0 Z = true) (hy : y.cls ≠ "java/lang/invoke/MethodHandle" ∧ y.cls ≠ "java/lang/invoke/VarHandle") (eT : T.heap = h) (E : Exa Z h a C) (hsz : Ls.size = c.maxLocals) (hlen : ∀ sig, parseMethodDescriptor y.desc = some sig → argsL.length = sig.parameters.length) (hstk : stk = argsL.reverse ++ .ref a :: rest) (hd : decode c.code pc = .ok (.invokevirtual index, 3)) (hf : rm.frames + 1 ≤ R.frames) (hl : (rest.map fun v => v.category).sum + (maxL + 11) + rm.locals ≤ R.locals) (hc : cells + rm.cells ≤ R.cells) (hs : slots + rm.slots ≤ R.slots) (hn : pc + 3 = n)
    (kk : ∀ (v : Option Value) (T' : State) (L : List Loc), Stand p l e R s m args below meth c T' (locs ++ L) (cells + rm.cells) (slots + rm.slots) → Q v T'.heap L → own_G p e below K T' (mkF m n Ls (v.toList ++ rest))) : own_G p e below K T (mkF m pc Ls stk) := by
  subst hn
  obtain ⟨v, T', L, X', hQ, st⟩ := own_callV X hx hZ hown hM w1 w2 nf w5 w6 w3 w4 hy eT E hsz hlen hstk hd hf hl hc hs
  exact own_go st (kk v T' L X' hQ)
end OwnSteps

theorem own_an_int : "[" ++ (newarray.typeOf .int).toString = "[I" := by decide +kernel
theorem own_an_long : "[" ++ (newarray.typeOf .long).toString = "[J" := by decide +kernel
theorem own_an_byte : "[" ++ (newarray.typeOf .byte).toString = "[B" := by decide +kernel
theorem own_an_char : "[" ++ (newarray.typeOf .char).toString = "[C" := by decide +kernel
theorem own_an_J : (FieldType.array .long).toString = "[J" := by decide +kernel
theorem own_an_JJ : "[" ++ "[J" = "[[J" := by decide +kernel
theorem own_ne {b z : Addr} {h : Heap} (hb : b < h.size) (g : z = h.size) : b ≠ z := Nat.ne_of_lt (Nat.lt_of_lt_of_le hb (Nat.le_of_eq g.symm))
theorem own_neEA {Z : State} {h : Heap} {a b : Addr} {C : String} {a0 : Array Value} {kk : Nat} {k : ClassId} {ty : FieldType} {n : Int32} {vs : List Value} {dv : Value} (E : Exa Z h a C) (w : (Jvm.Cond.instantiable C kk).before a0 Z = true) (V : Arv Z h b k ty n vs dv) : a ≠ b := by
  obtain ⟨c, A, -⟩ := V
  exact ne_arr E w A
theorem ww0 {Z : State} {a0 : Array Value} (hw : ∀ d ∈ tables_1, d.before a0 Z = true) : (Jvm.Cond.constant "com/example/preorders_from_tests/preordersfromtests/lts/StateSetIsEmptyPinLaw" (7 : Nat) (65535 : Int32)).before a0 Z = true := hw _ (List.mem_of_getElem? (i := 0) rfl)
theorem ww1 {Z : State} {a0 : Array Value} (hw : ∀ d ∈ tables_1, d.before a0 Z = true) : (Jvm.Cond.arrayClass Jvm.ClassFile.FieldType.int).before a0 Z = true := hw _ (List.mem_of_getElem? (i := 1) rfl)
theorem ww2 {Z : State} {a0 : Array Value} (hw : ∀ d ∈ tables_1, d.before a0 Z = true) : (Jvm.Cond.classLink "com/example/preorders_from_tests/preordersfromtests/lts/StateSetIsEmptyPinLaw" (8 : Nat) "com/example/preorders_from_tests/preordersfromtests/lts/StateSet").before a0 Z = true := hw _ (List.mem_of_getElem? (i := 2) rfl)
theorem ww3 {Z : State} {a0 : Array Value} (hw : ∀ d ∈ tables_1, d.before a0 Z = true) : (Jvm.Cond.instantiable "com/example/preorders_from_tests/preordersfromtests/lts/StateSet" (2 : Nat)).before a0 Z = true := hw _ (List.mem_of_getElem? (i := 3) rfl)
theorem ww4 {Z : State} {a0 : Array Value} (hw : ∀ d ∈ tables_1, d.before a0 Z = true) : (Jvm.Cond.initialized "com/example/preorders_from_tests/preordersfromtests/lts/StateSet").before a0 Z = true := hw _ (List.mem_of_getElem? (i := 4) rfl)
theorem ww5 {Z : State} {a0 : Array Value} (hw : ∀ d ∈ tables_1, d.before a0 Z = true) : (Jvm.Cond.methodLink "com/example/preorders_from_tests/preordersfromtests/lts/StateSetIsEmptyPinLaw" (10 : Nat) ({ cls := "com/example/preorders_from_tests/preordersfromtests/lts/StateSet", name := "<init>", desc := "([I)V" } : Jvm.MethodName)).before a0 Z = true := hw _ (List.mem_of_getElem? (i := 5) rfl)
theorem ww6 {Z : State} {a0 : Array Value} (hw : ∀ d ∈ tables_1, d.before a0 Z = true) : (Jvm.Cond.instanceMethod ({ cls := "com/example/preorders_from_tests/preordersfromtests/lts/StateSet", name := "<init>", desc := "([I)V" } : Jvm.MethodName)).before a0 Z = true := hw _ (List.mem_of_getElem? (i := 6) rfl)
theorem ww7 {Z : State} {a0 : Array Value} (hw : ∀ d ∈ tables_1, d.before a0 Z = true) : (Jvm.Cond.code ({ cls := "com/example/preorders_from_tests/preordersfromtests/lts/StateSet", name := "<init>", desc := "([I)V" } : Jvm.MethodName) prog_37_method_1_code (2 : Nat) (Option.none : Option Jvm.ClassFile.FieldType)).before a0 Z = true := hw _ (List.mem_of_getElem? (i := 7) rfl)
theorem ww8 {Z : State} {a0 : Array Value} (hw : ∀ d ∈ tables_1, d.before a0 Z = true) : (Jvm.Cond.methodLink "com/example/preorders_from_tests/preordersfromtests/lts/StateSet" (1 : Nat) ({ cls := "java/lang/Object", name := "<init>", desc := "()V" } : Jvm.MethodName)).before a0 Z = true := hw _ (List.mem_of_getElem? (i := 8) rfl)
theorem ww9 {Z : State} {a0 : Array Value} (hw : ∀ d ∈ tables_1, d.before a0 Z = true) : (Jvm.Cond.instanceMethod ({ cls := "java/lang/Object", name := "<init>", desc := "()V" } : Jvm.MethodName)).before a0 Z = true := hw _ (List.mem_of_getElem? (i := 9) rfl)
theorem ww10 {Z : State} {a0 : Array Value} (hw : ∀ d ∈ tables_1, d.before a0 Z = true) : (Jvm.Cond.code ({ cls := "java/lang/Object", name := "<init>", desc := "()V" } : Jvm.MethodName) object_method_1_code (1 : Nat) (Option.none : Option Jvm.ClassFile.FieldType)).before a0 Z = true := hw _ (List.mem_of_getElem? (i := 10) rfl)
theorem ww11 {Z : State} {a0 : Array Value} (hw : ∀ d ∈ tables_1, d.before a0 Z = true) : (Jvm.Cond.fieldLink "com/example/preorders_from_tests/preordersfromtests/lts/StateSet" (7 : Nat) "com/example/preorders_from_tests/preordersfromtests/lts/StateSet" "states" "[I").before a0 Z = true := hw _ (List.mem_of_getElem? (i := 11) rfl)
theorem ww12 {Z : State} {a0 : Array Value} (hw : ∀ d ∈ tables_1, d.before a0 Z = true) : (Jvm.Cond.laysFinal "com/example/preorders_from_tests/preordersfromtests/lts/StateSet" "com/example/preorders_from_tests/preordersfromtests/lts/StateSet" "states" "[I").before a0 Z = true := hw _ (List.mem_of_getElem? (i := 12) rfl)
theorem ww13 {Z : State} {a0 : Array Value} (hw : ∀ d ∈ tables_1, d.before a0 Z = true) : (Jvm.Cond.methodLink "com/example/preorders_from_tests/preordersfromtests/lts/StateSet" (13 : Nat) ({ cls := "java/util/Arrays", name := "hashCode", desc := "([I)I" } : Jvm.MethodName)).before a0 Z = true := hw _ (List.mem_of_getElem? (i := 13) rfl)
theorem ww14 {Z : State} {a0 : Array Value} (hw : ∀ d ∈ tables_1, d.before a0 Z = true) : (Jvm.Cond.static ({ cls := "java/util/Arrays", name := "hashCode", desc := "([I)I" } : Jvm.MethodName)).before a0 Z = true := hw _ (List.mem_of_getElem? (i := 14) rfl)
theorem ww15 {Z : State} {a0 : Array Value} (hw : ∀ d ∈ tables_1, d.before a0 Z = true) : (Jvm.Cond.initialized "java/util/Arrays").before a0 Z = true := hw _ (List.mem_of_getElem? (i := 15) rfl)
theorem ww16 {Z : State} {a0 : Array Value} (hw : ∀ d ∈ tables_1, d.before a0 Z = true) : (Jvm.Cond.code ({ cls := "java/util/Arrays", name := "hashCode", desc := "([I)I" } : Jvm.MethodName) jdk_65_method_150_code (1 : Nat) (Option.some Jvm.ClassFile.FieldType.int)).before a0 Z = true := hw _ (List.mem_of_getElem? (i := 16) rfl)
theorem ww17 {Z : State} {a0 : Array Value} (hw : ∀ d ∈ tables_1, d.before a0 Z = true) : (Jvm.Cond.fieldLink "com/example/preorders_from_tests/preordersfromtests/lts/StateSet" (19 : Nat) "com/example/preorders_from_tests/preordersfromtests/lts/StateSet" "hash" "I").before a0 Z = true := hw _ (List.mem_of_getElem? (i := 17) rfl)
theorem ww18 {Z : State} {a0 : Array Value} (hw : ∀ d ∈ tables_1, d.before a0 Z = true) : (Jvm.Cond.laysFinal "com/example/preorders_from_tests/preordersfromtests/lts/StateSet" "com/example/preorders_from_tests/preordersfromtests/lts/StateSet" "hash" "I").before a0 Z = true := hw _ (List.mem_of_getElem? (i := 18) rfl)
theorem ww19 {Z : State} {a0 : Array Value} (hw : ∀ d ∈ tables_1, d.before a0 Z = true) : (Jvm.Cond.methodLink "com/example/preorders_from_tests/preordersfromtests/lts/StateSetIsEmptyPinLaw" (13 : Nat) ({ cls := "com/example/preorders_from_tests/preordersfromtests/lts/StateSet", name := "isEmpty", desc := "()Z" } : Jvm.MethodName)).before a0 Z = true := hw _ (List.mem_of_getElem? (i := 19) rfl)
theorem ww20 {Z : State} {a0 : Array Value} (hw : ∀ d ∈ tables_1, d.before a0 Z = true) : (Jvm.Cond.declares ({ cls := "com/example/preorders_from_tests/preordersfromtests/lts/StateSet", name := "isEmpty", desc := "()Z" } : Jvm.MethodName)).before a0 Z = true := hw _ (List.mem_of_getElem? (i := 20) rfl)
theorem ww21 {Z : State} {a0 : Array Value} (hw : ∀ d ∈ tables_1, d.before a0 Z = true) : (Jvm.Cond.instanceMethod ({ cls := "com/example/preorders_from_tests/preordersfromtests/lts/StateSet", name := "isEmpty", desc := "()Z" } : Jvm.MethodName)).before a0 Z = true := hw _ (List.mem_of_getElem? (i := 21) rfl)
theorem ww22 {Z : State} {a0 : Array Value} (hw : ∀ d ∈ tables_1, d.before a0 Z = true) : (Jvm.Cond.selects "com/example/preorders_from_tests/preordersfromtests/lts/StateSet" ({ cls := "com/example/preorders_from_tests/preordersfromtests/lts/StateSet", name := "isEmpty", desc := "()Z" } : Jvm.MethodName) ({ cls := "com/example/preorders_from_tests/preordersfromtests/lts/StateSet", name := "isEmpty", desc := "()Z" } : Jvm.MethodName)).before a0 Z = true := hw _ (List.mem_of_getElem? (i := 22) rfl)
theorem ww23 {Z : State} {a0 : Array Value} (hw : ∀ d ∈ tables_1, d.before a0 Z = true) : (Jvm.Cond.code ({ cls := "com/example/preorders_from_tests/preordersfromtests/lts/StateSet", name := "isEmpty", desc := "()Z" } : Jvm.MethodName) prog_37_method_3_code (1 : Nat) (Option.some Jvm.ClassFile.FieldType.boolean)).before a0 Z = true := hw _ (List.mem_of_getElem? (i := 23) rfl)
theorem ww24 {Z : State} {a0 : Array Value} (hw : ∀ d ∈ tables_1, d.before a0 Z = true) : (Jvm.Cond.methodLink "com/example/preorders_from_tests/preordersfromtests/lts/StateSetIsEmptyPinLaw" (17 : Nat) ({ cls := "com/example/preorders_from_tests/preordersfromtests/lts/StateSet", name := "size", desc := "()I" } : Jvm.MethodName)).before a0 Z = true := hw _ (List.mem_of_getElem? (i := 24) rfl)
theorem ww25 {Z : State} {a0 : Array Value} (hw : ∀ d ∈ tables_1, d.before a0 Z = true) : (Jvm.Cond.declares ({ cls := "com/example/preorders_from_tests/preordersfromtests/lts/StateSet", name := "size", desc := "()I" } : Jvm.MethodName)).before a0 Z = true := hw _ (List.mem_of_getElem? (i := 25) rfl)
theorem ww26 {Z : State} {a0 : Array Value} (hw : ∀ d ∈ tables_1, d.before a0 Z = true) : (Jvm.Cond.instanceMethod ({ cls := "com/example/preorders_from_tests/preordersfromtests/lts/StateSet", name := "size", desc := "()I" } : Jvm.MethodName)).before a0 Z = true := hw _ (List.mem_of_getElem? (i := 26) rfl)
theorem ww27 {Z : State} {a0 : Array Value} (hw : ∀ d ∈ tables_1, d.before a0 Z = true) : (Jvm.Cond.selects "com/example/preorders_from_tests/preordersfromtests/lts/StateSet" ({ cls := "com/example/preorders_from_tests/preordersfromtests/lts/StateSet", name := "size", desc := "()I" } : Jvm.MethodName) ({ cls := "com/example/preorders_from_tests/preordersfromtests/lts/StateSet", name := "size", desc := "()I" } : Jvm.MethodName)).before a0 Z = true := hw _ (List.mem_of_getElem? (i := 27) rfl)
theorem ww28 {Z : State} {a0 : Array Value} (hw : ∀ d ∈ tables_1, d.before a0 Z = true) : (Jvm.Cond.code ({ cls := "com/example/preorders_from_tests/preordersfromtests/lts/StateSet", name := "size", desc := "()I" } : Jvm.MethodName) prog_37_method_2_code (1 : Nat) (Option.some Jvm.ClassFile.FieldType.int)).before a0 Z = true := hw _ (List.mem_of_getElem? (i := 28) rfl)
theorem ww29 {Z : State} {a0 : Array Value} (hw : ∀ d ∈ tables_1, d.before a0 Z = true) : (Jvm.Cond.methodLink "java/util/Arrays" (379 : Nat) ({ cls := "jdk/internal/util/ArraysSupport", name := "vectorizedHashCode", desc := "(Ljava/lang/Object;IIII)I" } : Jvm.MethodName)).before a0 Z = true := hw _ (List.mem_of_getElem? (i := 29) rfl)
theorem ww30 {Z : State} {a0 : Array Value} (hw : ∀ d ∈ tables_1, d.before a0 Z = true) : (Jvm.Cond.static ({ cls := "jdk/internal/util/ArraysSupport", name := "vectorizedHashCode", desc := "(Ljava/lang/Object;IIII)I" } : Jvm.MethodName)).before a0 Z = true := hw _ (List.mem_of_getElem? (i := 30) rfl)
theorem ww31 {Z : State} {a0 : Array Value} (hw : ∀ d ∈ tables_1, d.before a0 Z = true) : (Jvm.Cond.initialized "jdk/internal/util/ArraysSupport").before a0 Z = true := hw _ (List.mem_of_getElem? (i := 31) rfl)
theorem ww32 {Z : State} {a0 : Array Value} (hw : ∀ d ∈ tables_1, d.before a0 Z = true) : (Jvm.Cond.code ({ cls := "jdk/internal/util/ArraysSupport", name := "vectorizedHashCode", desc := "(Ljava/lang/Object;IIII)I" } : Jvm.MethodName) jdk_48_method_4_code (5 : Nat) (Option.some Jvm.ClassFile.FieldType.int)).before a0 Z = true := hw _ (List.mem_of_getElem? (i := 32) rfl)
theorem ww33 {Z : State} {a0 : Array Value} (hw : ∀ d ∈ tables_1, d.before a0 Z = true) : (Jvm.Cond.classLink "jdk/internal/util/ArraysSupport" (82 : Nat) "[I").before a0 Z = true := hw _ (List.mem_of_getElem? (i := 33) rfl)
theorem ww35 {Z : State} {a0 : Array Value} (hw : ∀ d ∈ tables_1, d.before a0 Z = true) : (Jvm.Cond.methodLink "jdk/internal/util/ArraysSupport" (84 : Nat) ({ cls := "jdk/internal/util/ArraysSupport", name := "hashCode", desc := "(I[III)I" } : Jvm.MethodName)).before a0 Z = true := hw _ (List.mem_of_getElem? (i := 35) rfl)
theorem ww36 {Z : State} {a0 : Array Value} (hw : ∀ d ∈ tables_1, d.before a0 Z = true) : (Jvm.Cond.static ({ cls := "jdk/internal/util/ArraysSupport", name := "hashCode", desc := "(I[III)I" } : Jvm.MethodName)).before a0 Z = true := hw _ (List.mem_of_getElem? (i := 36) rfl)
theorem ww37 {Z : State} {a0 : Array Value} (hw : ∀ d ∈ tables_1, d.before a0 Z = true) : (Jvm.Cond.code ({ cls := "jdk/internal/util/ArraysSupport", name := "hashCode", desc := "(I[III)I" } : Jvm.MethodName) jdk_48_method_9_code (6 : Nat) (Option.some Jvm.ClassFile.FieldType.int)).before a0 Z = true := hw _ (List.mem_of_getElem? (i := 37) rfl)
theorem own_and3 (y : Int32) : y &&& (3 : Int32) = (0 : Int32) ∨ y &&& (3 : Int32) = (1 : Int32) ∨ y &&& (3 : Int32) = (2 : Int32) ∨ y &&& (3 : Int32) = (3 : Int32) := by
  have a := c_and y 3 (by decide)
  have e0 : (0 : Int32).toInt = 0 := rfl
  have e1 : (1 : Int32).toInt = 1 := rfl
  have e2 : (2 : Int32).toInt = 2 := rfl
  have e3 : (3 : Int32).toInt = 3 := rfl
  simp only [← Int32.toInt_inj]
  omega
theorem own_pn0 : plainFor x = true := plainFor_of_name (by first | (simp [plainName, overriddenIn]; done) | decide +kernel)
theorem own_pn1 : plainFor (⟨"com/example/preorders_from_tests/preordersfromtests/lts/StateSet", "<init>", "([I)V"⟩ : MethodName) = true := plainFor_of_name (by first | (simp [plainName, overriddenIn]; done) | decide +kernel)
theorem d1_0 : decode prog_37_method_1_code 0 = .ok (.aload_n 0, 1) := by decide +kernel
theorem d1_1 : decode prog_37_method_1_code 1 = .ok (.invokespecial 1, 3) := by decide +kernel
theorem d1_4 : decode prog_37_method_1_code 4 = .ok (.aload_n 0, 1) := by decide +kernel
theorem d1_5 : decode prog_37_method_1_code 5 = .ok (.aload_n 1, 1) := by decide +kernel
theorem d1_6 : decode prog_37_method_1_code 6 = .ok (.putfield 7, 3) := by decide +kernel
theorem d1_9 : decode prog_37_method_1_code 9 = .ok (.aload_n 0, 1) := by decide +kernel
theorem d1_10 : decode prog_37_method_1_code 10 = .ok (.aload_n 1, 1) := by decide +kernel
theorem d1_11 : decode prog_37_method_1_code 11 = .ok (.invokestatic 13, 3) := by decide +kernel
theorem own_pn3 : plainFor (⟨"java/util/Arrays", "hashCode", "([I)I"⟩ : MethodName) = true := plainFor_of_name (by first | (simp [plainName, overriddenIn]; done) | decide +kernel)
theorem d3_0 : decode jdk_65_method_150_code 0 = .ok (.aload_n 0, 1) := by decide +kernel
theorem d3_1 : decode jdk_65_method_150_code 1 = .ok (.ifnonnull 5, 3) := by decide +kernel
theorem d3_6 : decode jdk_65_method_150_code 6 = .ok (.aload_n 0, 1) := by decide +kernel
theorem d3_7 : decode jdk_65_method_150_code 7 = .ok (.arraylength, 1) := by decide +kernel
theorem d3_8 : decode jdk_65_method_150_code 8 = .ok (.lookupswitch 41 #[(0, 28), (1, 32)], 28) := by decide +kernel
theorem d3_36 : decode jdk_65_method_150_code 36 = .ok (.iconst 1, 1) := by decide +kernel
theorem d3_37 : decode jdk_65_method_150_code 37 = .ok (.goto 22, 3) := by decide +kernel
theorem d3_59 : decode jdk_65_method_150_code 59 = .ok (.ireturn, 1) := by decide +kernel
theorem own_ef3_own_rmA0 (m : MethodId) (y0 : Addr) : entryFrame m #[(.ref y0)] 1 = mkF m 0 #[.val (.ref y0)] [] := by first | (simp [entryFrame, mkF, argsToLocals, Value.category]; done) | rfl
set_option maxRecDepth 65536 in
set_option maxHeartbeats 40000000 in
theorem own_rmA0 (l : Launch) (Z : State) (a0 : Array Value) (hw : ∀ d ∈ tables_1, d.before a0 Z = true) (a : Addr) (kk : ClassId) (h0 : Heap) (n0 : Nat) (Z0 : n0 ≤ h0.size) (V0 : Arv Z h0 a kk .int (0 : Int32) [] (.int (0 : Int32))) (E0 : Exa Z h0 a "[I") :
    own_Met l Z (⟨"java/util/Arrays", "hashCode", "([I)I"⟩ : MethodName) jdk_65_method_150_code 1 (some .int) [] ({ frames := 0, cells := 0, slots := 0, locals := 0 } : Room) #[(.ref a)] h0 (fun v h L => ∃ z : Int32, v = some (.int z) ∧ Fr n0 L ∧ h = h0) := by
  refine own_met own_pn3 ?_
  intro p e s m below meth c s₁ hx hby hml hown hnm hret hlk hZ X0 e0
  have N0 := Fr.nil n0
  refine own_cast (own_ef3_own_rmA0 m a) ?_
  refine own_aloadN (n := 1) X0 hx (hb hby d3_0) rfl rfl rfl ?_
  refine own_ifnonnullYes (n := 6) X0 hx (hb hby d3_1) (by decide) (by decide) ?_
  refine own_aloadN (n := 7) X0 hx (hb hby d3_6) rfl rfl rfl ?_
  refine own_len (n := 8) X0 hx hZ e0 V0 (hb hby d3_7) rfl ?_
  refine own_go (T' := s₁) (f' := (mkF m 36 #[.val (.ref a)] [])) (fun t k => X0.lookupswitchHit hx (g := (mkF m 8 #[.val (.ref a)] [(.int (0 : Int32))])) rfl (k := (0 : Int32)) (rest := []) rfl (hb hby d3_8) (by decide) (a := 0) (off := 28) (by decide) (by show (0 : Int) ≤ ((8 : Nat) : Int) + 28; decide) t k) ?_
  refine own_iconst (n := 37) (z := (1 : Int32)) X0 hx (hb hby d3_36) rfl rfl ?_
  refine own_goto (n := 59) X0 hx (hb hby d3_37) (by decide) (by decide) ?_
  refine own_retI X0 hx hlk hret e0 (hb hby d3_59) (by decide) (by decide) ?_
  exact ⟨_, rfl, N0, rfl⟩
theorem own_pd0 : parseMethodDescriptor "([I)I" = some ⟨[(.array .int)], some .int⟩ := by decide +kernel
theorem d1_14 : decode prog_37_method_1_code 14 = .ok (.putfield 19, 3) := by decide +kernel
theorem d1_17 : decode prog_37_method_1_code 17 = .ok (.return_, 1) := by decide +kernel
theorem own_ef1_own_rmI0 (m : MethodId) (y0 : Addr) (y1 : Addr) : entryFrame m #[(.ref y0), (.ref y1)] 2 = mkF m 0 #[.val (.ref y0), .val (.ref y1)] [] := by first | (simp [entryFrame, mkF, argsToLocals, Value.category]; done) | rfl
set_option maxRecDepth 65536 in
set_option maxHeartbeats 40000000 in
theorem own_rmI0 (l : Launch) (Z : State) (a0 : Array Value) (hw : ∀ d ∈ tables_1, d.before a0 Z = true) (a b : Addr) (kk : ClassId) (h0 : Heap) (n0 : Nat) (Z0 : n0 ≤ h0.size) (E1 : Exa Z h0 a "com/example/preorders_from_tests/preordersfromtests/lts/StateSet") (F1 : Fld Z h0 a "com/example/preorders_from_tests/preordersfromtests/lts/StateSet" "states" "[I" .null) (F2 : Fld Z h0 a "com/example/preorders_from_tests/preordersfromtests/lts/StateSet" "hash" "I" (.int (0 : Int32))) (V0 : Arv Z h0 b kk .int (0 : Int32) [] (.int (0 : Int32))) (E0 : Exa Z h0 b "[I") (g_a : n0 ≤ a) :
    own_Met l Z (⟨"com/example/preorders_from_tests/preordersfromtests/lts/StateSet", "<init>", "([I)V"⟩ : MethodName) prog_37_method_1_code 2 none [] ({ frames := 1, cells := 0, slots := 0, locals := 13 } : Room) #[(.ref a), (.ref b)] h0 (fun v h L => v = none ∧ Fr n0 L ∧ Keep h0 h [a] ∧ Exa Z h a "com/example/preorders_from_tests/preordersfromtests/lts/StateSet" ∧ Fld Z h a "com/example/preorders_from_tests/preordersfromtests/lts/StateSet" "states" "[I" (.ref b)) := by
  refine own_met own_pn1 ?_
  intro p e s m below meth c s₁ hx hby hml hown hnm hret hlk hZ X0 e0
  have N0 := Fr.nil n0
  refine own_cast (own_ef1_own_rmI0 m a b) ?_
  refine own_aloadN (n := 1) X0 hx (hb hby d1_0) rfl rfl rfl ?_
  refine own_initO (n := 4) X0 hx hZ hown (ww8 hw) (ww9 hw) (ww10 hw) e0 (by rw [hml]; rfl) (hb hby d1_1) (Nat.le_of_ble_eq_true rfl) (Nat.le_of_ble_eq_true rfl) rfl ?_
  intro T1 X1 e1
  refine own_aloadN (n := 5) X1 hx (hb hby d1_4) rfl rfl rfl ?_
  refine own_aloadN (n := 6) X1 hx (hb hby d1_5) rfl rfl rfl ?_
  refine own_putF (n := 9) X1 hx hZ hown (host := "") (Or.inl (ww11 hw)) Via.refl e1 F1 E1 (Or.inr ⟨(ww12 hw), rfl, hnm⟩) (ww3 hw) (ty := (.array .int)) (by decide) rfl rfl (hb hby d1_6) rfl ?_
  intro T2 h2 X2 e2 W2
  have F_3 := F1.same W2
  have N2 := Fr.snoc X2 N0 g_a
  have E_4 := E1.wr W2
  have F_5 := F2.other W2 (Or.inr (slot_ne (Or.inr (ww18 hw)) (Or.inr (ww12 hw)) (by decide) (t := .int) (t' := (.array .int)) (by decide) (by decide)))
  have A_6 := V0.other W2 (Ne.symm (own_neEA E1 (ww3 hw) V0))
  have E_7 := E0.wr W2
  have K_8 := (Keep.refl h0 [a]).wr W2 (Or.inl (by simp))
  have Z_9 : n0 ≤ h2.size := by rw [W2.size]; exact Z0
  refine own_aloadN (n := 10) X2 hx (hb hby d1_9) rfl rfl rfl ?_
  refine own_aloadN (n := 11) X2 hx (hb hby d1_10) rfl rfl rfl ?_
  refine own_S (n := 14) (argsL := [(.ref b)]) (rest := [(.ref a)]) X2 hx hZ hown (own_rmA0 l Z a0 hw b kk  h2 n0 Z_9 A_6 E_7) (ww13 hw) (ww14 hw) (ww15 hw) (ww16 hw) (by decide) e2 (by rw [hml]; rfl) (lenOf own_pd0 rfl) rfl (hb hby d1_11) (Nat.le_of_ble_eq_true rfl) (Nat.le_of_ble_eq_true rfl) (Nat.le_of_ble_eq_true rfl) (Nat.le_of_ble_eq_true rfl) rfl ?_
  rintro v10 T10 L10 X10 ⟨z10, rfl, Nq10, eq10⟩
  have N10 := Fr.app N2 Nq10
  change own_G p e below _ _ (mkF m 14 _ [(.int z10), (.ref a)])
  refine own_putF (n := 17) X10 hx hZ hown (host := "") (Or.inl (ww17 hw)) Via.refl eq10 F_5 E_4 (Or.inr ⟨(ww18 hw), rfl, hnm⟩) (ww3 hw) (ty := .int) (by decide) rfl rfl (hb hby d1_14) rfl ?_
  intro T11 h11 X11 e11 W11
  have F_12 := F_5.same W11
  have N11 := Fr.snoc X11 N10 g_a
  have E_13 := E_4.wr W11
  have A_14 := A_6.other W11 (Ne.symm (own_neEA E_4 (ww3 hw) A_6))
  have E_15 := E_7.wr W11
  have K_16 := K_8.wr W11 (Or.inl (by simp))
  have F_17 := F_3.other W11 (Or.inr (slot_ne (Or.inr (ww12 hw)) (Or.inr (ww18 hw)) (by decide) (t := (.array .int)) (t' := .int) (by decide) (by decide)))
  have Z_18 : n0 ≤ h11.size := by rw [W11.size]; exact Z_9
  refine own_retV X11 hx hlk hret e11 (hb hby d1_17) (by decide) (by decide) ?_
  exact ⟨rfl, N11, K_16, E_13, F_17⟩
theorem own_pd1 : parseMethodDescriptor "([I)V" = some ⟨[(.array .int)], none⟩ := by decide +kernel
theorem own_pn4 : plainFor (⟨"com/example/preorders_from_tests/preordersfromtests/lts/StateSet", "isEmpty", "()Z"⟩ : MethodName) = true := plainFor_of_name (by first | (simp [plainName, overriddenIn]; done) | decide +kernel)
theorem d4_0 : decode prog_37_method_3_code 0 = .ok (.aload_n 0, 1) := by decide +kernel
theorem d4_1 : decode prog_37_method_3_code 1 = .ok (.getfield 7, 3) := by decide +kernel
theorem d4_4 : decode prog_37_method_3_code 4 = .ok (.arraylength, 1) := by decide +kernel
theorem d4_5 : decode prog_37_method_3_code 5 = .ok (.ifCond .ne 7, 3) := by decide +kernel
theorem d4_8 : decode prog_37_method_3_code 8 = .ok (.iconst 1, 1) := by decide +kernel
theorem d4_9 : decode prog_37_method_3_code 9 = .ok (.goto 4, 3) := by decide +kernel
theorem d4_13 : decode prog_37_method_3_code 13 = .ok (.ireturn, 1) := by decide +kernel
theorem own_ef4_own_rm_isEmpty0 (m : MethodId) (y0 : Addr) : entryFrame m #[(.ref y0)] 1 = mkF m 0 #[.val (.ref y0)] [] := by first | (simp [entryFrame, mkF, argsToLocals, Value.category]; done) | rfl
set_option maxRecDepth 65536 in
set_option maxHeartbeats 40000000 in
theorem own_rm_isEmpty0 (l : Launch) (Z : State) (a0 : Array Value) (hw : ∀ d ∈ tables_1, d.before a0 Z = true) (a b : Addr) (kk : ClassId) (h0 : Heap) (n0 : Nat) (Z0 : n0 ≤ h0.size) (F1 : Fld Z h0 a "com/example/preorders_from_tests/preordersfromtests/lts/StateSet" "states" "[I" (.ref b)) (V0 : Arv Z h0 b kk .int (0 : Int32) [] (.int (0 : Int32))) :
    own_Met l Z (⟨"com/example/preorders_from_tests/preordersfromtests/lts/StateSet", "isEmpty", "()Z"⟩ : MethodName) prog_37_method_3_code 1 (some .boolean) [] ({ frames := 0, cells := 0, slots := 0, locals := 0 } : Room) #[(.ref a)] h0 (fun v h L => v = some (.int (1 : Int32)) ∧ Fr n0 L ∧ h = h0) := by
  refine own_met own_pn4 ?_
  intro p e s m below meth c s₁ hx hby hml hown hnm hret hlk hZ X0 e0
  have N0 := Fr.nil n0
  refine own_cast (own_ef4_own_rm_isEmpty0 m a) ?_
  refine own_aloadN (n := 1) X0 hx (hb hby d4_0) rfl rfl rfl ?_
  refine own_getF (n := 4) X0 hx hZ hown (host := "") (Or.inl (ww11 hw)) Via.refl e0 F1 (hb hby d4_1) rfl ?_
  intro T1 X1 e1
  refine own_len (n := 5) X1 hx hZ e1 V0 (hb hby d4_4) rfl ?_
  refine own_ifNo (n := 8) X1 hx (hb hby d4_5) (teq (by decide : (0 : Int32) = (0 : Int32))).2 rfl ?_
  refine own_iconst (n := 9) (z := (1 : Int32)) X1 hx (hb hby d4_8) rfl rfl ?_
  refine own_goto (n := 13) X1 hx (hb hby d4_9) (by decide) (by decide) ?_
  refine own_retZ X1 hx hlk hret (by simp) e1 (w := (1 : Int32)) rfl (hb hby d4_13) (by decide) (by decide) ?_
  exact ⟨rfl, N0, rfl⟩
theorem own_pd2 : parseMethodDescriptor "()Z" = some ⟨[], some .boolean⟩ := by decide +kernel
theorem own_pn5 : plainFor (⟨"com/example/preorders_from_tests/preordersfromtests/lts/StateSet", "size", "()I"⟩ : MethodName) = true := plainFor_of_name (by first | (simp [plainName, overriddenIn]; done) | decide +kernel)
theorem d5_0 : decode prog_37_method_2_code 0 = .ok (.aload_n 0, 1) := by decide +kernel
theorem d5_1 : decode prog_37_method_2_code 1 = .ok (.getfield 7, 3) := by decide +kernel
theorem d5_4 : decode prog_37_method_2_code 4 = .ok (.arraylength, 1) := by decide +kernel
theorem d5_5 : decode prog_37_method_2_code 5 = .ok (.ireturn, 1) := by decide +kernel
theorem own_ef5_own_rm_size0 (m : MethodId) (y0 : Addr) : entryFrame m #[(.ref y0)] 1 = mkF m 0 #[.val (.ref y0)] [] := by first | (simp [entryFrame, mkF, argsToLocals, Value.category]; done) | rfl
set_option maxRecDepth 65536 in
set_option maxHeartbeats 40000000 in
theorem own_rm_size0 (l : Launch) (Z : State) (a0 : Array Value) (hw : ∀ d ∈ tables_1, d.before a0 Z = true) (a b : Addr) (kk : ClassId) (h0 : Heap) (n0 : Nat) (Z0 : n0 ≤ h0.size) (F1 : Fld Z h0 a "com/example/preorders_from_tests/preordersfromtests/lts/StateSet" "states" "[I" (.ref b)) (V0 : Arv Z h0 b kk .int (0 : Int32) [] (.int (0 : Int32))) :
    own_Met l Z (⟨"com/example/preorders_from_tests/preordersfromtests/lts/StateSet", "size", "()I"⟩ : MethodName) prog_37_method_2_code 1 (some .int) [] ({ frames := 0, cells := 0, slots := 0, locals := 0 } : Room) #[(.ref a)] h0 (fun v h L => v = some (.int (0 : Int32)) ∧ Fr n0 L ∧ h = h0) := by
  refine own_met own_pn5 ?_
  intro p e s m below meth c s₁ hx hby hml hown hnm hret hlk hZ X0 e0
  have N0 := Fr.nil n0
  refine own_cast (own_ef5_own_rm_size0 m a) ?_
  refine own_aloadN (n := 1) X0 hx (hb hby d5_0) rfl rfl rfl ?_
  refine own_getF (n := 4) X0 hx hZ hown (host := "") (Or.inl (ww11 hw)) Via.refl e0 F1 (hb hby d5_1) rfl ?_
  intro T1 X1 e1
  refine own_len (n := 5) X1 hx hZ e1 V0 (hb hby d5_4) rfl ?_
  refine own_retI X1 hx hlk hret e1 (hb hby d5_5) (by decide) (by decide) ?_
  exact ⟨rfl, N0, rfl⟩
theorem own_pd3 : parseMethodDescriptor "()I" = some ⟨[], some .int⟩ := by decide +kernel
theorem d3_40 : decode jdk_65_method_150_code 40 = .ok (.bipush 31, 2) := by decide +kernel
theorem d3_42 : decode jdk_65_method_150_code 42 = .ok (.aload_n 0, 1) := by decide +kernel
theorem d3_43 : decode jdk_65_method_150_code 43 = .ok (.iconst 0, 1) := by decide +kernel
theorem d3_44 : decode jdk_65_method_150_code 44 = .ok (.iaload, 1) := by decide +kernel
theorem d3_45 : decode jdk_65_method_150_code 45 = .ok (.iadd, 1) := by decide +kernel
theorem d3_46 : decode jdk_65_method_150_code 46 = .ok (.goto 13, 3) := by decide +kernel
theorem own_ef3_own_rmA1 (m : MethodId) (y0 : Addr) : entryFrame m #[(.ref y0)] 1 = mkF m 0 #[.val (.ref y0)] [] := by first | (simp [entryFrame, mkF, argsToLocals, Value.category]; done) | rfl
set_option maxRecDepth 65536 in
set_option maxHeartbeats 40000000 in
theorem own_rmA1 (l : Launch) (Z : State) (a0 : Array Value) (hw : ∀ d ∈ tables_1, d.before a0 Z = true) (a : Addr) (kk : ClassId)(c0 : Int32) (h0 : Heap) (n0 : Nat) (Z0 : n0 ≤ h0.size) (V0 : Arv Z h0 a kk .int (1 : Int32) [(.int c0)] (.int (0 : Int32))) (E0 : Exa Z h0 a "[I") :
    own_Met l Z (⟨"java/util/Arrays", "hashCode", "([I)I"⟩ : MethodName) jdk_65_method_150_code 1 (some .int) [] ({ frames := 0, cells := 0, slots := 0, locals := 0 } : Room) #[(.ref a)] h0 (fun v h L => ∃ z : Int32, v = some (.int z) ∧ Fr n0 L ∧ h = h0) := by
  refine own_met own_pn3 ?_
  intro p e s m below meth c s₁ hx hby hml hown hnm hret hlk hZ X0 e0
  have N0 := Fr.nil n0
  refine own_cast (own_ef3_own_rmA1 m a) ?_
  refine own_aloadN (n := 1) X0 hx (hb hby d3_0) rfl rfl rfl ?_
  refine own_ifnonnullYes (n := 6) X0 hx (hb hby d3_1) (by decide) (by decide) ?_
  refine own_aloadN (n := 7) X0 hx (hb hby d3_6) rfl rfl rfl ?_
  refine own_len (n := 8) X0 hx hZ e0 V0 (hb hby d3_7) rfl ?_
  refine own_go (T' := s₁) (f' := (mkF m 40 #[.val (.ref a)] [])) (fun t k => X0.lookupswitchHit hx (g := (mkF m 8 #[.val (.ref a)] [(.int (1 : Int32))])) rfl (k := (1 : Int32)) (rest := []) rfl (hb hby d3_8) (by decide) (a := 1) (off := 32) (by decide) (by show (0 : Int) ≤ ((8 : Nat) : Int) + 32; decide) t k) ?_
  refine own_bipush (n := 42) (z := (31 : Int32)) X0 hx (hb hby d3_40) rfl rfl ?_
  refine own_aloadN (n := 43) X0 hx (hb hby d3_42) rfl rfl rfl ?_
  refine own_iconst (n := 44) (z := (0 : Int32)) X0 hx (hb hby d3_43) rfl rfl ?_
  refine own_ld_iaload (n := 45) (v := (.int c0)) X0 hx hZ e0 V0 ⟨by decide, by decide⟩ rfl (hb hby d3_44) rfl ?_
  refine own_iadd (n := 46) X0 hx (hb hby d3_45) rfl rfl ?_
  refine own_goto (n := 59) X0 hx (hb hby d3_46) (by decide) (by decide) ?_
  refine own_retI X0 hx hlk hret e0 (hb hby d3_59) (by decide) (by decide) ?_
  exact ⟨_, rfl, N0, rfl⟩
theorem own_ef1_own_rmI1 (m : MethodId) (y0 : Addr) (y1 : Addr) : entryFrame m #[(.ref y0), (.ref y1)] 2 = mkF m 0 #[.val (.ref y0), .val (.ref y1)] [] := by first | (simp [entryFrame, mkF, argsToLocals, Value.category]; done) | rfl
set_option maxRecDepth 65536 in
set_option maxHeartbeats 40000000 in
theorem own_rmI1 (l : Launch) (Z : State) (a0 : Array Value) (hw : ∀ d ∈ tables_1, d.before a0 Z = true) (a b : Addr) (kk : ClassId)(c0 : Int32) (h0 : Heap) (n0 : Nat) (Z0 : n0 ≤ h0.size) (E1 : Exa Z h0 a "com/example/preorders_from_tests/preordersfromtests/lts/StateSet") (F1 : Fld Z h0 a "com/example/preorders_from_tests/preordersfromtests/lts/StateSet" "states" "[I" .null) (F2 : Fld Z h0 a "com/example/preorders_from_tests/preordersfromtests/lts/StateSet" "hash" "I" (.int (0 : Int32))) (V0 : Arv Z h0 b kk .int (1 : Int32) [(.int c0)] (.int (0 : Int32))) (E0 : Exa Z h0 b "[I") (g_a : n0 ≤ a) :
    own_Met l Z (⟨"com/example/preorders_from_tests/preordersfromtests/lts/StateSet", "<init>", "([I)V"⟩ : MethodName) prog_37_method_1_code 2 none [] ({ frames := 1, cells := 0, slots := 0, locals := 13 } : Room) #[(.ref a), (.ref b)] h0 (fun v h L => v = none ∧ Fr n0 L ∧ Keep h0 h [a] ∧ Exa Z h a "com/example/preorders_from_tests/preordersfromtests/lts/StateSet" ∧ Fld Z h a "com/example/preorders_from_tests/preordersfromtests/lts/StateSet" "states" "[I" (.ref b)) := by
  refine own_met own_pn1 ?_
  intro p e s m below meth c s₁ hx hby hml hown hnm hret hlk hZ X0 e0
  have N0 := Fr.nil n0
  refine own_cast (own_ef1_own_rmI1 m a b) ?_
  refine own_aloadN (n := 1) X0 hx (hb hby d1_0) rfl rfl rfl ?_
  refine own_initO (n := 4) X0 hx hZ hown (ww8 hw) (ww9 hw) (ww10 hw) e0 (by rw [hml]; rfl) (hb hby d1_1) (Nat.le_of_ble_eq_true rfl) (Nat.le_of_ble_eq_true rfl) rfl ?_
  intro T1 X1 e1
  refine own_aloadN (n := 5) X1 hx (hb hby d1_4) rfl rfl rfl ?_
  refine own_aloadN (n := 6) X1 hx (hb hby d1_5) rfl rfl rfl ?_
  refine own_putF (n := 9) X1 hx hZ hown (host := "") (Or.inl (ww11 hw)) Via.refl e1 F1 E1 (Or.inr ⟨(ww12 hw), rfl, hnm⟩) (ww3 hw) (ty := (.array .int)) (by decide) rfl rfl (hb hby d1_6) rfl ?_
  intro T2 h2 X2 e2 W2
  have F_3 := F1.same W2
  have N2 := Fr.snoc X2 N0 g_a
  have E_4 := E1.wr W2
  have F_5 := F2.other W2 (Or.inr (slot_ne (Or.inr (ww18 hw)) (Or.inr (ww12 hw)) (by decide) (t := .int) (t' := (.array .int)) (by decide) (by decide)))
  have A_6 := V0.other W2 (Ne.symm (own_neEA E1 (ww3 hw) V0))
  have E_7 := E0.wr W2
  have K_8 := (Keep.refl h0 [a]).wr W2 (Or.inl (by simp))
  have Z_9 : n0 ≤ h2.size := by rw [W2.size]; exact Z0
  refine own_aloadN (n := 10) X2 hx (hb hby d1_9) rfl rfl rfl ?_
  refine own_aloadN (n := 11) X2 hx (hb hby d1_10) rfl rfl rfl ?_
  refine own_S (n := 14) (argsL := [(.ref b)]) (rest := [(.ref a)]) X2 hx hZ hown (own_rmA1 l Z a0 hw b kk c0 h2 n0 Z_9 A_6 E_7) (ww13 hw) (ww14 hw) (ww15 hw) (ww16 hw) (by decide) e2 (by rw [hml]; rfl) (lenOf own_pd0 rfl) rfl (hb hby d1_11) (Nat.le_of_ble_eq_true rfl) (Nat.le_of_ble_eq_true rfl) (Nat.le_of_ble_eq_true rfl) (Nat.le_of_ble_eq_true rfl) rfl ?_
  rintro v10 T10 L10 X10 ⟨z10, rfl, Nq10, eq10⟩
  have N10 := Fr.app N2 Nq10
  change own_G p e below _ _ (mkF m 14 _ [(.int z10), (.ref a)])
  refine own_putF (n := 17) X10 hx hZ hown (host := "") (Or.inl (ww17 hw)) Via.refl eq10 F_5 E_4 (Or.inr ⟨(ww18 hw), rfl, hnm⟩) (ww3 hw) (ty := .int) (by decide) rfl rfl (hb hby d1_14) rfl ?_
  intro T11 h11 X11 e11 W11
  have F_12 := F_5.same W11
  have N11 := Fr.snoc X11 N10 g_a
  have E_13 := E_4.wr W11
  have A_14 := A_6.other W11 (Ne.symm (own_neEA E_4 (ww3 hw) A_6))
  have E_15 := E_7.wr W11
  have K_16 := K_8.wr W11 (Or.inl (by simp))
  have F_17 := F_3.other W11 (Or.inr (slot_ne (Or.inr (ww12 hw)) (Or.inr (ww18 hw)) (by decide) (t := (.array .int)) (t' := .int) (by decide) (by decide)))
  have Z_18 : n0 ≤ h11.size := by rw [W11.size]; exact Z_9
  refine own_retV X11 hx hlk hret e11 (hb hby d1_17) (by decide) (by decide) ?_
  exact ⟨rfl, N11, K_16, E_13, F_17⟩
theorem d4_12 : decode prog_37_method_3_code 12 = .ok (.iconst 0, 1) := by decide +kernel
theorem own_ef4_own_rm_isEmpty1 (m : MethodId) (y0 : Addr) : entryFrame m #[(.ref y0)] 1 = mkF m 0 #[.val (.ref y0)] [] := by first | (simp [entryFrame, mkF, argsToLocals, Value.category]; done) | rfl
set_option maxRecDepth 65536 in
set_option maxHeartbeats 40000000 in
theorem own_rm_isEmpty1 (l : Launch) (Z : State) (a0 : Array Value) (hw : ∀ d ∈ tables_1, d.before a0 Z = true) (a b : Addr) (kk : ClassId)(c0 : Int32) (h0 : Heap) (n0 : Nat) (Z0 : n0 ≤ h0.size) (F1 : Fld Z h0 a "com/example/preorders_from_tests/preordersfromtests/lts/StateSet" "states" "[I" (.ref b)) (V0 : Arv Z h0 b kk .int (1 : Int32) [(.int c0)] (.int (0 : Int32))) :
    own_Met l Z (⟨"com/example/preorders_from_tests/preordersfromtests/lts/StateSet", "isEmpty", "()Z"⟩ : MethodName) prog_37_method_3_code 1 (some .boolean) [] ({ frames := 0, cells := 0, slots := 0, locals := 0 } : Room) #[(.ref a)] h0 (fun v h L => v = some (.int (0 : Int32)) ∧ Fr n0 L ∧ h = h0) := by
  refine own_met own_pn4 ?_
  intro p e s m below meth c s₁ hx hby hml hown hnm hret hlk hZ X0 e0
  have N0 := Fr.nil n0
  refine own_cast (own_ef4_own_rm_isEmpty1 m a) ?_
  refine own_aloadN (n := 1) X0 hx (hb hby d4_0) rfl rfl rfl ?_
  refine own_getF (n := 4) X0 hx hZ hown (host := "") (Or.inl (ww11 hw)) Via.refl e0 F1 (hb hby d4_1) rfl ?_
  intro T1 X1 e1
  refine own_len (n := 5) X1 hx hZ e1 V0 (hb hby d4_4) rfl ?_
  refine own_ifYes (n := 12) X1 hx (hb hby d4_5) (feq (by decide : ¬ ((1 : Int32) = (0 : Int32)))).2 (by decide) (by decide) ?_
  refine own_iconst (n := 13) (z := (0 : Int32)) X1 hx (hb hby d4_12) rfl rfl ?_
  refine own_retZ X1 hx hlk hret (by simp) e1 (w := (0 : Int32)) rfl (hb hby d4_13) (by decide) (by decide) ?_
  exact ⟨rfl, N0, rfl⟩
theorem own_ef5_own_rm_size1 (m : MethodId) (y0 : Addr) : entryFrame m #[(.ref y0)] 1 = mkF m 0 #[.val (.ref y0)] [] := by first | (simp [entryFrame, mkF, argsToLocals, Value.category]; done) | rfl
set_option maxRecDepth 65536 in
set_option maxHeartbeats 40000000 in
theorem own_rm_size1 (l : Launch) (Z : State) (a0 : Array Value) (hw : ∀ d ∈ tables_1, d.before a0 Z = true) (a b : Addr) (kk : ClassId)(c0 : Int32) (h0 : Heap) (n0 : Nat) (Z0 : n0 ≤ h0.size) (F1 : Fld Z h0 a "com/example/preorders_from_tests/preordersfromtests/lts/StateSet" "states" "[I" (.ref b)) (V0 : Arv Z h0 b kk .int (1 : Int32) [(.int c0)] (.int (0 : Int32))) :
    own_Met l Z (⟨"com/example/preorders_from_tests/preordersfromtests/lts/StateSet", "size", "()I"⟩ : MethodName) prog_37_method_2_code 1 (some .int) [] ({ frames := 0, cells := 0, slots := 0, locals := 0 } : Room) #[(.ref a)] h0 (fun v h L => v = some (.int (1 : Int32)) ∧ Fr n0 L ∧ h = h0) := by
  refine own_met own_pn5 ?_
  intro p e s m below meth c s₁ hx hby hml hown hnm hret hlk hZ X0 e0
  have N0 := Fr.nil n0
  refine own_cast (own_ef5_own_rm_size1 m a) ?_
  refine own_aloadN (n := 1) X0 hx (hb hby d5_0) rfl rfl rfl ?_
  refine own_getF (n := 4) X0 hx hZ hown (host := "") (Or.inl (ww11 hw)) Via.refl e0 F1 (hb hby d5_1) rfl ?_
  intro T1 X1 e1
  refine own_len (n := 5) X1 hx hZ e1 V0 (hb hby d5_4) rfl ?_
  refine own_retI X1 hx hlk hret e1 (hb hby d5_5) (by decide) (by decide) ?_
  exact ⟨rfl, N0, rfl⟩
theorem d3_49 : decode jdk_65_method_150_code 49 = .ok (.aload_n 0, 1) := by decide +kernel
theorem d3_50 : decode jdk_65_method_150_code 50 = .ok (.iconst 0, 1) := by decide +kernel
theorem d3_51 : decode jdk_65_method_150_code 51 = .ok (.aload_n 0, 1) := by decide +kernel
theorem d3_52 : decode jdk_65_method_150_code 52 = .ok (.arraylength, 1) := by decide +kernel
theorem d3_53 : decode jdk_65_method_150_code 53 = .ok (.iconst 1, 1) := by decide +kernel
theorem d3_54 : decode jdk_65_method_150_code 54 = .ok (.bipush 10, 2) := by decide +kernel
theorem d3_56 : decode jdk_65_method_150_code 56 = .ok (.invokestatic 379, 3) := by decide +kernel
theorem own_pn6 : plainFor (⟨"jdk/internal/util/ArraysSupport", "vectorizedHashCode", "(Ljava/lang/Object;IIII)I"⟩ : MethodName) = true := plainFor_of_name (by first | (simp [plainName, overriddenIn]; done) | decide +kernel)
theorem d6_0 : decode jdk_48_method_4_code 0 = .ok (.iload 4, 2) := by decide +kernel
theorem d6_2 : decode jdk_48_method_4_code 2 = .ok (.tableswitch 127 4 10 #[42, 55, 127, 127, 88, 101, 114], 42) := by decide +kernel
theorem d6_116 : decode jdk_48_method_4_code 116 = .ok (.iload_n 3, 1) := by decide +kernel
theorem d6_117 : decode jdk_48_method_4_code 117 = .ok (.aload_n 0, 1) := by decide +kernel
theorem d6_118 : decode jdk_48_method_4_code 118 = .ok (.checkcast 82, 3) := by decide +kernel
theorem d6_121 : decode jdk_48_method_4_code 121 = .ok (.iload_n 1, 1) := by decide +kernel
theorem d6_122 : decode jdk_48_method_4_code 122 = .ok (.iload_n 2, 1) := by decide +kernel
theorem d6_123 : decode jdk_48_method_4_code 123 = .ok (.invokestatic 84, 3) := by decide +kernel
theorem own_pn7 : plainFor (⟨"jdk/internal/util/ArraysSupport", "hashCode", "(I[III)I"⟩ : MethodName) = true := plainFor_of_name (by first | (simp [plainName, overriddenIn]; done) | decide +kernel)
theorem d7_0 : decode jdk_48_method_9_code 0 = .ok (.iload_n 2, 1) := by decide +kernel
theorem d7_1 : decode jdk_48_method_9_code 1 = .ok (.iload_n 3, 1) := by decide +kernel
theorem d7_2 : decode jdk_48_method_9_code 2 = .ok (.iadd, 1) := by decide +kernel
theorem d7_3 : decode jdk_48_method_9_code 3 = .ok (.istore 4, 2) := by decide +kernel
theorem d7_5 : decode jdk_48_method_9_code 5 = .ok (.iload_n 2, 1) := by decide +kernel
theorem d7_6 : decode jdk_48_method_9_code 6 = .ok (.istore 5, 2) := by decide +kernel
theorem d7_8 : decode jdk_48_method_9_code 8 = .ok (.iload 5, 2) := by decide +kernel
theorem d7_10 : decode jdk_48_method_9_code 10 = .ok (.iload 4, 2) := by decide +kernel
theorem d7_12 : decode jdk_48_method_9_code 12 = .ok (.if_icmp .ge 19, 3) := by decide +kernel
theorem d7_15 : decode jdk_48_method_9_code 15 = .ok (.bipush 31, 2) := by decide +kernel
theorem d7_17 : decode jdk_48_method_9_code 17 = .ok (.iload_n 0, 1) := by decide +kernel
theorem d7_18 : decode jdk_48_method_9_code 18 = .ok (.imul, 1) := by decide +kernel
theorem d7_19 : decode jdk_48_method_9_code 19 = .ok (.aload_n 1, 1) := by decide +kernel
theorem d7_20 : decode jdk_48_method_9_code 20 = .ok (.iload 5, 2) := by decide +kernel
theorem d7_22 : decode jdk_48_method_9_code 22 = .ok (.iaload, 1) := by decide +kernel
theorem d7_23 : decode jdk_48_method_9_code 23 = .ok (.iadd, 1) := by decide +kernel
theorem d7_24 : decode jdk_48_method_9_code 24 = .ok (.istore_n 0, 1) := by decide +kernel
theorem d7_25 : decode jdk_48_method_9_code 25 = .ok (.iinc 5 1, 3) := by decide +kernel
theorem d7_28 : decode jdk_48_method_9_code 28 = .ok (.goto (-20), 3) := by decide +kernel
theorem d7_31 : decode jdk_48_method_9_code 31 = .ok (.iload_n 0, 1) := by decide +kernel
theorem d7_32 : decode jdk_48_method_9_code 32 = .ok (.ireturn, 1) := by decide +kernel
theorem own_ef7_own_rmH2 (m : MethodId) (y0 : Int32) (y1 : Addr) (y2 : Int32) (y3 : Int32) : entryFrame m #[(.int y0), (.ref y1), (.int y2), (.int y3)] 6 = mkF m 0 #[.val (.int y0), .val (.ref y1), .val (.int y2), .val (.int y3), .unset, .unset] [] := by first | (simp [entryFrame, mkF, argsToLocals, Value.category]; done) | rfl
set_option maxRecDepth 65536 in
set_option maxHeartbeats 40000000 in
theorem own_rmH2 (l : Launch) (Z : State) (a0 : Array Value) (hw : ∀ d ∈ tables_1, d.before a0 Z = true) (a : Addr) (kk : ClassId)(c0 c1 : Int32) (h0 : Heap) (n0 : Nat) (Z0 : n0 ≤ h0.size) (V0 : Arv Z h0 a kk .int (2 : Int32) [(.int c0), (.int c1)] (.int (0 : Int32))) :
    own_Met l Z (⟨"jdk/internal/util/ArraysSupport", "hashCode", "(I[III)I"⟩ : MethodName) jdk_48_method_9_code 6 (some .int) [] ({ frames := 0, cells := 0, slots := 0, locals := 0 } : Room) #[(.int (1 : Int32)), (.ref a), (.int (0 : Int32)), (.int (2 : Int32))] h0 (fun v h L => ∃ z : Int32, v = some (.int z) ∧ Fr n0 L ∧ h = h0) := by
  refine own_met own_pn7 ?_
  intro p e s m below meth c s₁ hx hby hml hown hnm hret hlk hZ X0 e0
  have N0 := Fr.nil n0
  refine own_cast (own_ef7_own_rmH2 m (1 : Int32) a (0 : Int32) (2 : Int32)) ?_
  refine own_iloadN (n := 1) X0 hx (hb hby d7_0) rfl rfl ?_
  refine own_iloadN (n := 2) X0 hx (hb hby d7_1) rfl rfl ?_
  refine own_iadd (n := 3) (z := (2 : Int32)) X0 hx (hb hby d7_2) rfl rfl ?_
  refine own_istore (n := 5) (l' := #[.val (.int (1 : Int32)), .val (.ref a), .val (.int (0 : Int32)), .val (.int (2 : Int32)), .val (.int (2 : Int32)), .unset]) X0 hx (hb hby d7_3) rfl rfl ?_
  refine own_iloadN (n := 6) X0 hx (hb hby d7_5) rfl rfl ?_
  refine own_istore (n := 8) (l' := #[.val (.int (1 : Int32)), .val (.ref a), .val (.int (0 : Int32)), .val (.int (2 : Int32)), .val (.int (2 : Int32)), .val (.int (0 : Int32))]) X0 hx (hb hby d7_6) rfl rfl ?_
  refine own_iload (n := 10) X0 hx (hb hby d7_8) rfl rfl ?_
  refine own_iload (n := 12) X0 hx (hb hby d7_10) rfl rfl ?_
  refine own_icmpNo (n := 15) X0 hx (hb hby d7_12) (tlt (by decide : (0 : Int32) < (2 : Int32))).2.1 rfl ?_
  refine own_bipush (n := 17) (z := (31 : Int32)) X0 hx (hb hby d7_15) rfl rfl ?_
  refine own_iloadN (n := 18) X0 hx (hb hby d7_17) rfl rfl ?_
  refine own_imul (n := 19) (z := (31 : Int32)) X0 hx (hb hby d7_18) rfl rfl ?_
  refine own_aloadN (n := 20) X0 hx (hb hby d7_19) rfl rfl rfl ?_
  refine own_iload (n := 22) X0 hx (hb hby d7_20) rfl rfl ?_
  refine own_ld_iaload (n := 23) (v := (.int c0)) X0 hx hZ e0 V0 ⟨by decide, by decide⟩ rfl (hb hby d7_22) rfl ?_
  refine own_iadd (n := 24) X0 hx (hb hby d7_23) rfl rfl ?_
  refine own_istoreN (n := 25) (l' := #[.val (.int ((31 : Int32) + c0)), .val (.ref a), .val (.int (0 : Int32)), .val (.int (2 : Int32)), .val (.int (2 : Int32)), .val (.int (0 : Int32))]) X0 hx (hb hby d7_24) rfl rfl ?_
  refine own_iinc (n := 28) (z := (1 : Int32)) (l' := #[.val (.int ((31 : Int32) + c0)), .val (.ref a), .val (.int (0 : Int32)), .val (.int (2 : Int32)), .val (.int (2 : Int32)), .val (.int (1 : Int32))]) X0 hx (hb hby d7_25) rfl rfl rfl rfl ?_
  refine own_goto (n := 8) X0 hx (hb hby d7_28) (by decide) (by decide) ?_
  refine own_iload (n := 10) X0 hx (hb hby d7_8) rfl rfl ?_
  refine own_iload (n := 12) X0 hx (hb hby d7_10) rfl rfl ?_
  refine own_icmpNo (n := 15) X0 hx (hb hby d7_12) (tlt (by decide : (1 : Int32) < (2 : Int32))).2.1 rfl ?_
  refine own_bipush (n := 17) (z := (31 : Int32)) X0 hx (hb hby d7_15) rfl rfl ?_
  refine own_iloadN (n := 18) X0 hx (hb hby d7_17) rfl rfl ?_
  refine own_imul (n := 19) X0 hx (hb hby d7_18) rfl rfl ?_
  refine own_aloadN (n := 20) X0 hx (hb hby d7_19) rfl rfl rfl ?_
  refine own_iload (n := 22) X0 hx (hb hby d7_20) rfl rfl ?_
  refine own_ld_iaload (n := 23) (v := (.int c1)) X0 hx hZ e0 V0 ⟨by decide, by decide⟩ rfl (hb hby d7_22) rfl ?_
  refine own_iadd (n := 24) X0 hx (hb hby d7_23) rfl rfl ?_
  refine own_istoreN (n := 25) (l' := #[.val (.int (((31 : Int32) * ((31 : Int32) + c0)) + c1)), .val (.ref a), .val (.int (0 : Int32)), .val (.int (2 : Int32)), .val (.int (2 : Int32)), .val (.int (1 : Int32))]) X0 hx (hb hby d7_24) rfl rfl ?_
  refine own_iinc (n := 28) (z := (2 : Int32)) (l' := #[.val (.int (((31 : Int32) * ((31 : Int32) + c0)) + c1)), .val (.ref a), .val (.int (0 : Int32)), .val (.int (2 : Int32)), .val (.int (2 : Int32)), .val (.int (2 : Int32))]) X0 hx (hb hby d7_25) rfl rfl rfl rfl ?_
  refine own_goto (n := 8) X0 hx (hb hby d7_28) (by decide) (by decide) ?_
  refine own_iload (n := 10) X0 hx (hb hby d7_8) rfl rfl ?_
  refine own_iload (n := 12) X0 hx (hb hby d7_10) rfl rfl ?_
  refine own_icmpYes (n := 31) X0 hx (hb hby d7_12) (flt (by decide : ¬ ((2 : Int32) < (2 : Int32)))).2.1 (by decide) (by decide) ?_
  refine own_iloadN (n := 32) X0 hx (hb hby d7_31) rfl rfl ?_
  refine own_retI X0 hx hlk hret e0 (hb hby d7_32) (by decide) (by decide) ?_
  exact ⟨_, rfl, N0, rfl⟩
theorem own_pd4 : parseMethodDescriptor "(I[III)I" = some ⟨[.int, (.array .int), .int, .int], some .int⟩ := by decide +kernel
theorem d6_126 : decode jdk_48_method_4_code 126 = .ok (.goto 31, 3) := by decide +kernel
theorem d6_157 : decode jdk_48_method_4_code 157 = .ok (.ireturn, 1) := by decide +kernel
theorem own_ef6_own_rmV2 (m : MethodId) (y0 : Addr) (y1 : Int32) (y2 : Int32) (y3 : Int32) (y4 : Int32) : entryFrame m #[(.ref y0), (.int y1), (.int y2), (.int y3), (.int y4)] 5 = mkF m 0 #[.val (.ref y0), .val (.int y1), .val (.int y2), .val (.int y3), .val (.int y4)] [] := by first | (simp [entryFrame, mkF, argsToLocals, Value.category]; done) | rfl
set_option maxRecDepth 65536 in
set_option maxHeartbeats 40000000 in
theorem own_rmV2 (l : Launch) (Z : State) (a0 : Array Value) (hw : ∀ d ∈ tables_1, d.before a0 Z = true) (a : Addr) (kk : ClassId)(c0 c1 : Int32) (h0 : Heap) (n0 : Nat) (Z0 : n0 ≤ h0.size) (V0 : Arv Z h0 a kk .int (2 : Int32) [(.int c0), (.int c1)] (.int (0 : Int32))) (E0 : Exa Z h0 a "[I") :
    own_Met l Z (⟨"jdk/internal/util/ArraysSupport", "vectorizedHashCode", "(Ljava/lang/Object;IIII)I"⟩ : MethodName) jdk_48_method_4_code 5 (some .int) [] ({ frames := 1, cells := 0, slots := 0, locals := 17 } : Room) #[(.ref a), (.int (0 : Int32)), (.int (2 : Int32)), (.int (1 : Int32)), (.int (10 : Int32))] h0 (fun v h L => ∃ z : Int32, v = some (.int z) ∧ Fr n0 L ∧ h = h0) := by
  refine own_met own_pn6 ?_
  intro p e s m below meth c s₁ hx hby hml hown hnm hret hlk hZ X0 e0
  have N0 := Fr.nil n0
  refine own_cast (own_ef6_own_rmV2 m a (0 : Int32) (2 : Int32) (1 : Int32) (10 : Int32)) ?_
  refine own_iload (n := 2) X0 hx (hb hby d6_0) rfl rfl ?_
  refine own_go (T' := s₁) (f' := (mkF m 116 #[.val (.ref a), .val (.int (0 : Int32)), .val (.int (2 : Int32)), .val (.int (1 : Int32)), .val (.int (10 : Int32))] [])) (fun t k => X0.tableswitchIn hx (g := (mkF m 2 #[.val (.ref a), .val (.int (0 : Int32)), .val (.int (2 : Int32)), .val (.int (1 : Int32)), .val (.int (10 : Int32))] [(.int (10 : Int32))])) rfl (k := (10 : Int32)) (rest := []) rfl (hb hby d6_2) (by decide) (off := 114) (by decide) (by show (0 : Int) ≤ ((2 : Nat) : Int) + 114; decide) t k) ?_
  refine own_iloadN (n := 117) X0 hx (hb hby d6_116) rfl rfl ?_
  refine own_aloadN (n := 118) X0 hx (hb hby d6_117) rfl rfl rfl ?_
  refine own_ccast (n := 121) X0 hx hZ hown (ww33 hw) e0 (Ins.self E0) (hb hby d6_118) rfl ?_
  intro T1 X1 e1
  refine own_iloadN (n := 122) X1 hx (hb hby d6_121) rfl rfl ?_
  refine own_iloadN (n := 123) X1 hx (hb hby d6_122) rfl rfl ?_
  refine own_S (n := 126) (argsL := [(.int (1 : Int32)), (.ref a), (.int (0 : Int32)), (.int (2 : Int32))]) (rest := []) X1 hx hZ hown (own_rmH2 l Z a0 hw a kk c0 c1 h0 n0 Z0 V0) (ww35 hw) (ww36 hw) (ww31 hw) (ww37 hw) (by decide) e1 (by rw [hml]; rfl) (lenOf own_pd4 rfl) rfl (hb hby d6_123) (Nat.le_of_ble_eq_true rfl) (Nat.le_of_ble_eq_true rfl) (Nat.le_of_ble_eq_true rfl) (Nat.le_of_ble_eq_true rfl) rfl ?_
  rintro v2 T2 L2 X2 ⟨z2, rfl, Nq2, eq2⟩
  have N2 := Fr.app N0 Nq2
  change own_G p e below _ _ (mkF m 126 _ [(.int z2)])
  refine own_goto (n := 157) X2 hx (hb hby d6_126) (by decide) (by decide) ?_
  refine own_retI X2 hx hlk hret eq2 (hb hby d6_157) (by decide) (by decide) ?_
  exact ⟨_, rfl, N2, rfl⟩
theorem own_pd5 : parseMethodDescriptor "(Ljava/lang/Object;IIII)I" = some ⟨[(.object "java/lang/Object"), .int, .int, .int, .int], some .int⟩ := by decide +kernel
theorem own_ef3_own_rmA2 (m : MethodId) (y0 : Addr) : entryFrame m #[(.ref y0)] 1 = mkF m 0 #[.val (.ref y0)] [] := by first | (simp [entryFrame, mkF, argsToLocals, Value.category]; done) | rfl
set_option maxRecDepth 65536 in
set_option maxHeartbeats 40000000 in
theorem own_rmA2 (l : Launch) (Z : State) (a0 : Array Value) (hw : ∀ d ∈ tables_1, d.before a0 Z = true) (a : Addr) (kk : ClassId)(c0 c1 : Int32) (h0 : Heap) (n0 : Nat) (Z0 : n0 ≤ h0.size) (V0 : Arv Z h0 a kk .int (2 : Int32) [(.int c0), (.int c1)] (.int (0 : Int32))) (E0 : Exa Z h0 a "[I") :
    own_Met l Z (⟨"java/util/Arrays", "hashCode", "([I)I"⟩ : MethodName) jdk_65_method_150_code 1 (some .int) [] ({ frames := 2, cells := 0, slots := 0, locals := 33 } : Room) #[(.ref a)] h0 (fun v h L => ∃ z : Int32, v = some (.int z) ∧ Fr n0 L ∧ h = h0) := by
  refine own_met own_pn3 ?_
  intro p e s m below meth c s₁ hx hby hml hown hnm hret hlk hZ X0 e0
  have N0 := Fr.nil n0
  refine own_cast (own_ef3_own_rmA2 m a) ?_
  refine own_aloadN (n := 1) X0 hx (hb hby d3_0) rfl rfl rfl ?_
  refine own_ifnonnullYes (n := 6) X0 hx (hb hby d3_1) (by decide) (by decide) ?_
  refine own_aloadN (n := 7) X0 hx (hb hby d3_6) rfl rfl rfl ?_
  refine own_len (n := 8) X0 hx hZ e0 V0 (hb hby d3_7) rfl ?_
  refine own_go (T' := s₁) (f' := (mkF m 49 #[.val (.ref a)] [])) (fun t k => X0.lookupswitchMiss hx (g := (mkF m 8 #[.val (.ref a)] [(.int (2 : Int32))])) rfl (k := (2 : Int32)) (rest := []) rfl (hb hby d3_8) (by decide) (by decide) (by show (0 : Int) ≤ ((8 : Nat) : Int) + 41; decide) t k) ?_
  refine own_aloadN (n := 50) X0 hx (hb hby d3_49) rfl rfl rfl ?_
  refine own_iconst (n := 51) (z := (0 : Int32)) X0 hx (hb hby d3_50) rfl rfl ?_
  refine own_aloadN (n := 52) X0 hx (hb hby d3_51) rfl rfl rfl ?_
  refine own_len (n := 53) X0 hx hZ e0 V0 (hb hby d3_52) rfl ?_
  refine own_iconst (n := 54) (z := (1 : Int32)) X0 hx (hb hby d3_53) rfl rfl ?_
  refine own_bipush (n := 56) (z := (10 : Int32)) X0 hx (hb hby d3_54) rfl rfl ?_
  refine own_S (n := 59) (argsL := [(.ref a), (.int (0 : Int32)), (.int (2 : Int32)), (.int (1 : Int32)), (.int (10 : Int32))]) (rest := []) X0 hx hZ hown (own_rmV2 l Z a0 hw a kk c0 c1 h0 n0 Z0 V0 E0) (ww29 hw) (ww30 hw) (ww31 hw) (ww32 hw) (by decide) e0 (by rw [hml]; rfl) (lenOf own_pd5 rfl) rfl (hb hby d3_56) (Nat.le_of_ble_eq_true rfl) (Nat.le_of_ble_eq_true rfl) (Nat.le_of_ble_eq_true rfl) (Nat.le_of_ble_eq_true rfl) rfl ?_
  rintro v1 T1 L1 X1 ⟨z1, rfl, Nq1, eq1⟩
  have N1 := Fr.app N0 Nq1
  change own_G p e below _ _ (mkF m 59 _ [(.int z1)])
  refine own_retI X1 hx hlk hret eq1 (hb hby d3_59) (by decide) (by decide) ?_
  exact ⟨_, rfl, N1, rfl⟩
theorem own_ef1_own_rmI2 (m : MethodId) (y0 : Addr) (y1 : Addr) : entryFrame m #[(.ref y0), (.ref y1)] 2 = mkF m 0 #[.val (.ref y0), .val (.ref y1)] [] := by first | (simp [entryFrame, mkF, argsToLocals, Value.category]; done) | rfl
set_option maxRecDepth 65536 in
set_option maxHeartbeats 40000000 in
theorem own_rmI2 (l : Launch) (Z : State) (a0 : Array Value) (hw : ∀ d ∈ tables_1, d.before a0 Z = true) (a b : Addr) (kk : ClassId)(c0 c1 : Int32) (h0 : Heap) (n0 : Nat) (Z0 : n0 ≤ h0.size) (E1 : Exa Z h0 a "com/example/preorders_from_tests/preordersfromtests/lts/StateSet") (F1 : Fld Z h0 a "com/example/preorders_from_tests/preordersfromtests/lts/StateSet" "states" "[I" .null) (F2 : Fld Z h0 a "com/example/preorders_from_tests/preordersfromtests/lts/StateSet" "hash" "I" (.int (0 : Int32))) (V0 : Arv Z h0 b kk .int (2 : Int32) [(.int c0), (.int c1)] (.int (0 : Int32))) (E0 : Exa Z h0 b "[I") (g_a : n0 ≤ a) :
    own_Met l Z (⟨"com/example/preorders_from_tests/preordersfromtests/lts/StateSet", "<init>", "([I)V"⟩ : MethodName) prog_37_method_1_code 2 none [] ({ frames := 3, cells := 0, slots := 0, locals := 46 } : Room) #[(.ref a), (.ref b)] h0 (fun v h L => v = none ∧ Fr n0 L ∧ Keep h0 h [a] ∧ Exa Z h a "com/example/preorders_from_tests/preordersfromtests/lts/StateSet" ∧ Fld Z h a "com/example/preorders_from_tests/preordersfromtests/lts/StateSet" "states" "[I" (.ref b)) := by
  refine own_met own_pn1 ?_
  intro p e s m below meth c s₁ hx hby hml hown hnm hret hlk hZ X0 e0
  have N0 := Fr.nil n0
  refine own_cast (own_ef1_own_rmI2 m a b) ?_
  refine own_aloadN (n := 1) X0 hx (hb hby d1_0) rfl rfl rfl ?_
  refine own_initO (n := 4) X0 hx hZ hown (ww8 hw) (ww9 hw) (ww10 hw) e0 (by rw [hml]; rfl) (hb hby d1_1) (Nat.le_of_ble_eq_true rfl) (Nat.le_of_ble_eq_true rfl) rfl ?_
  intro T1 X1 e1
  refine own_aloadN (n := 5) X1 hx (hb hby d1_4) rfl rfl rfl ?_
  refine own_aloadN (n := 6) X1 hx (hb hby d1_5) rfl rfl rfl ?_
  refine own_putF (n := 9) X1 hx hZ hown (host := "") (Or.inl (ww11 hw)) Via.refl e1 F1 E1 (Or.inr ⟨(ww12 hw), rfl, hnm⟩) (ww3 hw) (ty := (.array .int)) (by decide) rfl rfl (hb hby d1_6) rfl ?_
  intro T2 h2 X2 e2 W2
  have F_3 := F1.same W2
  have N2 := Fr.snoc X2 N0 g_a
  have E_4 := E1.wr W2
  have F_5 := F2.other W2 (Or.inr (slot_ne (Or.inr (ww18 hw)) (Or.inr (ww12 hw)) (by decide) (t := .int) (t' := (.array .int)) (by decide) (by decide)))
  have A_6 := V0.other W2 (Ne.symm (own_neEA E1 (ww3 hw) V0))
  have E_7 := E0.wr W2
  have K_8 := (Keep.refl h0 [a]).wr W2 (Or.inl (by simp))
  have Z_9 : n0 ≤ h2.size := by rw [W2.size]; exact Z0
  refine own_aloadN (n := 10) X2 hx (hb hby d1_9) rfl rfl rfl ?_
  refine own_aloadN (n := 11) X2 hx (hb hby d1_10) rfl rfl rfl ?_
  refine own_S (n := 14) (argsL := [(.ref b)]) (rest := [(.ref a)]) X2 hx hZ hown (own_rmA2 l Z a0 hw b kk c0 c1 h2 n0 Z_9 A_6 E_7) (ww13 hw) (ww14 hw) (ww15 hw) (ww16 hw) (by decide) e2 (by rw [hml]; rfl) (lenOf own_pd0 rfl) rfl (hb hby d1_11) (Nat.le_of_ble_eq_true rfl) (Nat.le_of_ble_eq_true rfl) (Nat.le_of_ble_eq_true rfl) (Nat.le_of_ble_eq_true rfl) rfl ?_
  rintro v10 T10 L10 X10 ⟨z10, rfl, Nq10, eq10⟩
  have N10 := Fr.app N2 Nq10
  change own_G p e below _ _ (mkF m 14 _ [(.int z10), (.ref a)])
  refine own_putF (n := 17) X10 hx hZ hown (host := "") (Or.inl (ww17 hw)) Via.refl eq10 F_5 E_4 (Or.inr ⟨(ww18 hw), rfl, hnm⟩) (ww3 hw) (ty := .int) (by decide) rfl rfl (hb hby d1_14) rfl ?_
  intro T11 h11 X11 e11 W11
  have F_12 := F_5.same W11
  have N11 := Fr.snoc X11 N10 g_a
  have E_13 := E_4.wr W11
  have A_14 := A_6.other W11 (Ne.symm (own_neEA E_4 (ww3 hw) A_6))
  have E_15 := E_7.wr W11
  have K_16 := K_8.wr W11 (Or.inl (by simp))
  have F_17 := F_3.other W11 (Or.inr (slot_ne (Or.inr (ww12 hw)) (Or.inr (ww18 hw)) (by decide) (t := (.array .int)) (t' := .int) (by decide) (by decide)))
  have Z_18 : n0 ≤ h11.size := by rw [W11.size]; exact Z_9
  refine own_retV X11 hx hlk hret e11 (hb hby d1_17) (by decide) (by decide) ?_
  exact ⟨rfl, N11, K_16, E_13, F_17⟩
theorem own_ef4_own_rm_isEmpty2 (m : MethodId) (y0 : Addr) : entryFrame m #[(.ref y0)] 1 = mkF m 0 #[.val (.ref y0)] [] := by first | (simp [entryFrame, mkF, argsToLocals, Value.category]; done) | rfl
set_option maxRecDepth 65536 in
set_option maxHeartbeats 40000000 in
theorem own_rm_isEmpty2 (l : Launch) (Z : State) (a0 : Array Value) (hw : ∀ d ∈ tables_1, d.before a0 Z = true) (a b : Addr) (kk : ClassId)(c0 c1 : Int32) (h0 : Heap) (n0 : Nat) (Z0 : n0 ≤ h0.size) (F1 : Fld Z h0 a "com/example/preorders_from_tests/preordersfromtests/lts/StateSet" "states" "[I" (.ref b)) (V0 : Arv Z h0 b kk .int (2 : Int32) [(.int c0), (.int c1)] (.int (0 : Int32))) :
    own_Met l Z (⟨"com/example/preorders_from_tests/preordersfromtests/lts/StateSet", "isEmpty", "()Z"⟩ : MethodName) prog_37_method_3_code 1 (some .boolean) [] ({ frames := 0, cells := 0, slots := 0, locals := 0 } : Room) #[(.ref a)] h0 (fun v h L => v = some (.int (0 : Int32)) ∧ Fr n0 L ∧ h = h0) := by
  refine own_met own_pn4 ?_
  intro p e s m below meth c s₁ hx hby hml hown hnm hret hlk hZ X0 e0
  have N0 := Fr.nil n0
  refine own_cast (own_ef4_own_rm_isEmpty2 m a) ?_
  refine own_aloadN (n := 1) X0 hx (hb hby d4_0) rfl rfl rfl ?_
  refine own_getF (n := 4) X0 hx hZ hown (host := "") (Or.inl (ww11 hw)) Via.refl e0 F1 (hb hby d4_1) rfl ?_
  intro T1 X1 e1
  refine own_len (n := 5) X1 hx hZ e1 V0 (hb hby d4_4) rfl ?_
  refine own_ifYes (n := 12) X1 hx (hb hby d4_5) (feq (by decide : ¬ ((2 : Int32) = (0 : Int32)))).2 (by decide) (by decide) ?_
  refine own_iconst (n := 13) (z := (0 : Int32)) X1 hx (hb hby d4_12) rfl rfl ?_
  refine own_retZ X1 hx hlk hret (by simp) e1 (w := (0 : Int32)) rfl (hb hby d4_13) (by decide) (by decide) ?_
  exact ⟨rfl, N0, rfl⟩
theorem own_ef5_own_rm_size2 (m : MethodId) (y0 : Addr) : entryFrame m #[(.ref y0)] 1 = mkF m 0 #[.val (.ref y0)] [] := by first | (simp [entryFrame, mkF, argsToLocals, Value.category]; done) | rfl
set_option maxRecDepth 65536 in
set_option maxHeartbeats 40000000 in
theorem own_rm_size2 (l : Launch) (Z : State) (a0 : Array Value) (hw : ∀ d ∈ tables_1, d.before a0 Z = true) (a b : Addr) (kk : ClassId)(c0 c1 : Int32) (h0 : Heap) (n0 : Nat) (Z0 : n0 ≤ h0.size) (F1 : Fld Z h0 a "com/example/preorders_from_tests/preordersfromtests/lts/StateSet" "states" "[I" (.ref b)) (V0 : Arv Z h0 b kk .int (2 : Int32) [(.int c0), (.int c1)] (.int (0 : Int32))) :
    own_Met l Z (⟨"com/example/preorders_from_tests/preordersfromtests/lts/StateSet", "size", "()I"⟩ : MethodName) prog_37_method_2_code 1 (some .int) [] ({ frames := 0, cells := 0, slots := 0, locals := 0 } : Room) #[(.ref a)] h0 (fun v h L => v = some (.int (2 : Int32)) ∧ Fr n0 L ∧ h = h0) := by
  refine own_met own_pn5 ?_
  intro p e s m below meth c s₁ hx hby hml hown hnm hret hlk hZ X0 e0
  have N0 := Fr.nil n0
  refine own_cast (own_ef5_own_rm_size2 m a) ?_
  refine own_aloadN (n := 1) X0 hx (hb hby d5_0) rfl rfl rfl ?_
  refine own_getF (n := 4) X0 hx hZ hown (host := "") (Or.inl (ww11 hw)) Via.refl e0 F1 (hb hby d5_1) rfl ?_
  intro T1 X1 e1
  refine own_len (n := 5) X1 hx hZ e1 V0 (hb hby d5_4) rfl ?_
  refine own_retI X1 hx hlk hret e1 (hb hby d5_5) (by decide) (by decide) ?_
  exact ⟨rfl, N0, rfl⟩
theorem own_ef7_own_rmH3 (m : MethodId) (y0 : Int32) (y1 : Addr) (y2 : Int32) (y3 : Int32) : entryFrame m #[(.int y0), (.ref y1), (.int y2), (.int y3)] 6 = mkF m 0 #[.val (.int y0), .val (.ref y1), .val (.int y2), .val (.int y3), .unset, .unset] [] := by first | (simp [entryFrame, mkF, argsToLocals, Value.category]; done) | rfl
set_option maxRecDepth 65536 in
set_option maxHeartbeats 40000000 in
theorem own_rmH3 (l : Launch) (Z : State) (a0 : Array Value) (hw : ∀ d ∈ tables_1, d.before a0 Z = true) (a : Addr) (kk : ClassId)(c0 c1 c2 : Int32) (h0 : Heap) (n0 : Nat) (Z0 : n0 ≤ h0.size) (V0 : Arv Z h0 a kk .int (3 : Int32) [(.int c0), (.int c1), (.int c2)] (.int (0 : Int32))) :
    own_Met l Z (⟨"jdk/internal/util/ArraysSupport", "hashCode", "(I[III)I"⟩ : MethodName) jdk_48_method_9_code 6 (some .int) [] ({ frames := 0, cells := 0, slots := 0, locals := 0 } : Room) #[(.int (1 : Int32)), (.ref a), (.int (0 : Int32)), (.int (3 : Int32))] h0 (fun v h L => ∃ z : Int32, v = some (.int z) ∧ Fr n0 L ∧ h = h0) := by
  refine own_met own_pn7 ?_
  intro p e s m below meth c s₁ hx hby hml hown hnm hret hlk hZ X0 e0
  have N0 := Fr.nil n0
  refine own_cast (own_ef7_own_rmH3 m (1 : Int32) a (0 : Int32) (3 : Int32)) ?_
  refine own_iloadN (n := 1) X0 hx (hb hby d7_0) rfl rfl ?_
  refine own_iloadN (n := 2) X0 hx (hb hby d7_1) rfl rfl ?_
  refine own_iadd (n := 3) (z := (3 : Int32)) X0 hx (hb hby d7_2) rfl rfl ?_
  refine own_istore (n := 5) (l' := #[.val (.int (1 : Int32)), .val (.ref a), .val (.int (0 : Int32)), .val (.int (3 : Int32)), .val (.int (3 : Int32)), .unset]) X0 hx (hb hby d7_3) rfl rfl ?_
  refine own_iloadN (n := 6) X0 hx (hb hby d7_5) rfl rfl ?_
  refine own_istore (n := 8) (l' := #[.val (.int (1 : Int32)), .val (.ref a), .val (.int (0 : Int32)), .val (.int (3 : Int32)), .val (.int (3 : Int32)), .val (.int (0 : Int32))]) X0 hx (hb hby d7_6) rfl rfl ?_
  refine own_iload (n := 10) X0 hx (hb hby d7_8) rfl rfl ?_
  refine own_iload (n := 12) X0 hx (hb hby d7_10) rfl rfl ?_
  refine own_icmpNo (n := 15) X0 hx (hb hby d7_12) (tlt (by decide : (0 : Int32) < (3 : Int32))).2.1 rfl ?_
  refine own_bipush (n := 17) (z := (31 : Int32)) X0 hx (hb hby d7_15) rfl rfl ?_
  refine own_iloadN (n := 18) X0 hx (hb hby d7_17) rfl rfl ?_
  refine own_imul (n := 19) (z := (31 : Int32)) X0 hx (hb hby d7_18) rfl rfl ?_
  refine own_aloadN (n := 20) X0 hx (hb hby d7_19) rfl rfl rfl ?_
  refine own_iload (n := 22) X0 hx (hb hby d7_20) rfl rfl ?_
  refine own_ld_iaload (n := 23) (v := (.int c0)) X0 hx hZ e0 V0 ⟨by decide, by decide⟩ rfl (hb hby d7_22) rfl ?_
  refine own_iadd (n := 24) X0 hx (hb hby d7_23) rfl rfl ?_
  refine own_istoreN (n := 25) (l' := #[.val (.int ((31 : Int32) + c0)), .val (.ref a), .val (.int (0 : Int32)), .val (.int (3 : Int32)), .val (.int (3 : Int32)), .val (.int (0 : Int32))]) X0 hx (hb hby d7_24) rfl rfl ?_
  refine own_iinc (n := 28) (z := (1 : Int32)) (l' := #[.val (.int ((31 : Int32) + c0)), .val (.ref a), .val (.int (0 : Int32)), .val (.int (3 : Int32)), .val (.int (3 : Int32)), .val (.int (1 : Int32))]) X0 hx (hb hby d7_25) rfl rfl rfl rfl ?_
  refine own_goto (n := 8) X0 hx (hb hby d7_28) (by decide) (by decide) ?_
  refine own_iload (n := 10) X0 hx (hb hby d7_8) rfl rfl ?_
  refine own_iload (n := 12) X0 hx (hb hby d7_10) rfl rfl ?_
  refine own_icmpNo (n := 15) X0 hx (hb hby d7_12) (tlt (by decide : (1 : Int32) < (3 : Int32))).2.1 rfl ?_
  refine own_bipush (n := 17) (z := (31 : Int32)) X0 hx (hb hby d7_15) rfl rfl ?_
  refine own_iloadN (n := 18) X0 hx (hb hby d7_17) rfl rfl ?_
  refine own_imul (n := 19) X0 hx (hb hby d7_18) rfl rfl ?_
  refine own_aloadN (n := 20) X0 hx (hb hby d7_19) rfl rfl rfl ?_
  refine own_iload (n := 22) X0 hx (hb hby d7_20) rfl rfl ?_
  refine own_ld_iaload (n := 23) (v := (.int c1)) X0 hx hZ e0 V0 ⟨by decide, by decide⟩ rfl (hb hby d7_22) rfl ?_
  refine own_iadd (n := 24) X0 hx (hb hby d7_23) rfl rfl ?_
  refine own_istoreN (n := 25) (l' := #[.val (.int (((31 : Int32) * ((31 : Int32) + c0)) + c1)), .val (.ref a), .val (.int (0 : Int32)), .val (.int (3 : Int32)), .val (.int (3 : Int32)), .val (.int (1 : Int32))]) X0 hx (hb hby d7_24) rfl rfl ?_
  refine own_iinc (n := 28) (z := (2 : Int32)) (l' := #[.val (.int (((31 : Int32) * ((31 : Int32) + c0)) + c1)), .val (.ref a), .val (.int (0 : Int32)), .val (.int (3 : Int32)), .val (.int (3 : Int32)), .val (.int (2 : Int32))]) X0 hx (hb hby d7_25) rfl rfl rfl rfl ?_
  refine own_goto (n := 8) X0 hx (hb hby d7_28) (by decide) (by decide) ?_
  refine own_iload (n := 10) X0 hx (hb hby d7_8) rfl rfl ?_
  refine own_iload (n := 12) X0 hx (hb hby d7_10) rfl rfl ?_
  refine own_icmpNo (n := 15) X0 hx (hb hby d7_12) (tlt (by decide : (2 : Int32) < (3 : Int32))).2.1 rfl ?_
  refine own_bipush (n := 17) (z := (31 : Int32)) X0 hx (hb hby d7_15) rfl rfl ?_
  refine own_iloadN (n := 18) X0 hx (hb hby d7_17) rfl rfl ?_
  refine own_imul (n := 19) X0 hx (hb hby d7_18) rfl rfl ?_
  refine own_aloadN (n := 20) X0 hx (hb hby d7_19) rfl rfl rfl ?_
  refine own_iload (n := 22) X0 hx (hb hby d7_20) rfl rfl ?_
  refine own_ld_iaload (n := 23) (v := (.int c2)) X0 hx hZ e0 V0 ⟨by decide, by decide⟩ rfl (hb hby d7_22) rfl ?_
  refine own_iadd (n := 24) X0 hx (hb hby d7_23) rfl rfl ?_
  refine own_istoreN (n := 25) (l' := #[.val (.int (((31 : Int32) * (((31 : Int32) * ((31 : Int32) + c0)) + c1)) + c2)), .val (.ref a), .val (.int (0 : Int32)), .val (.int (3 : Int32)), .val (.int (3 : Int32)), .val (.int (2 : Int32))]) X0 hx (hb hby d7_24) rfl rfl ?_
  refine own_iinc (n := 28) (z := (3 : Int32)) (l' := #[.val (.int (((31 : Int32) * (((31 : Int32) * ((31 : Int32) + c0)) + c1)) + c2)), .val (.ref a), .val (.int (0 : Int32)), .val (.int (3 : Int32)), .val (.int (3 : Int32)), .val (.int (3 : Int32))]) X0 hx (hb hby d7_25) rfl rfl rfl rfl ?_
  refine own_goto (n := 8) X0 hx (hb hby d7_28) (by decide) (by decide) ?_
  refine own_iload (n := 10) X0 hx (hb hby d7_8) rfl rfl ?_
  refine own_iload (n := 12) X0 hx (hb hby d7_10) rfl rfl ?_
  refine own_icmpYes (n := 31) X0 hx (hb hby d7_12) (flt (by decide : ¬ ((3 : Int32) < (3 : Int32)))).2.1 (by decide) (by decide) ?_
  refine own_iloadN (n := 32) X0 hx (hb hby d7_31) rfl rfl ?_
  refine own_retI X0 hx hlk hret e0 (hb hby d7_32) (by decide) (by decide) ?_
  exact ⟨_, rfl, N0, rfl⟩
theorem own_ef6_own_rmV3 (m : MethodId) (y0 : Addr) (y1 : Int32) (y2 : Int32) (y3 : Int32) (y4 : Int32) : entryFrame m #[(.ref y0), (.int y1), (.int y2), (.int y3), (.int y4)] 5 = mkF m 0 #[.val (.ref y0), .val (.int y1), .val (.int y2), .val (.int y3), .val (.int y4)] [] := by first | (simp [entryFrame, mkF, argsToLocals, Value.category]; done) | rfl
set_option maxRecDepth 65536 in
set_option maxHeartbeats 40000000 in
theorem own_rmV3 (l : Launch) (Z : State) (a0 : Array Value) (hw : ∀ d ∈ tables_1, d.before a0 Z = true) (a : Addr) (kk : ClassId)(c0 c1 c2 : Int32) (h0 : Heap) (n0 : Nat) (Z0 : n0 ≤ h0.size) (V0 : Arv Z h0 a kk .int (3 : Int32) [(.int c0), (.int c1), (.int c2)] (.int (0 : Int32))) (E0 : Exa Z h0 a "[I") :
    own_Met l Z (⟨"jdk/internal/util/ArraysSupport", "vectorizedHashCode", "(Ljava/lang/Object;IIII)I"⟩ : MethodName) jdk_48_method_4_code 5 (some .int) [] ({ frames := 1, cells := 0, slots := 0, locals := 17 } : Room) #[(.ref a), (.int (0 : Int32)), (.int (3 : Int32)), (.int (1 : Int32)), (.int (10 : Int32))] h0 (fun v h L => ∃ z : Int32, v = some (.int z) ∧ Fr n0 L ∧ h = h0) := by
  refine own_met own_pn6 ?_
  intro p e s m below meth c s₁ hx hby hml hown hnm hret hlk hZ X0 e0
  have N0 := Fr.nil n0
  refine own_cast (own_ef6_own_rmV3 m a (0 : Int32) (3 : Int32) (1 : Int32) (10 : Int32)) ?_
  refine own_iload (n := 2) X0 hx (hb hby d6_0) rfl rfl ?_
  refine own_go (T' := s₁) (f' := (mkF m 116 #[.val (.ref a), .val (.int (0 : Int32)), .val (.int (3 : Int32)), .val (.int (1 : Int32)), .val (.int (10 : Int32))] [])) (fun t k => X0.tableswitchIn hx (g := (mkF m 2 #[.val (.ref a), .val (.int (0 : Int32)), .val (.int (3 : Int32)), .val (.int (1 : Int32)), .val (.int (10 : Int32))] [(.int (10 : Int32))])) rfl (k := (10 : Int32)) (rest := []) rfl (hb hby d6_2) (by decide) (off := 114) (by decide) (by show (0 : Int) ≤ ((2 : Nat) : Int) + 114; decide) t k) ?_
  refine own_iloadN (n := 117) X0 hx (hb hby d6_116) rfl rfl ?_
  refine own_aloadN (n := 118) X0 hx (hb hby d6_117) rfl rfl rfl ?_
  refine own_ccast (n := 121) X0 hx hZ hown (ww33 hw) e0 (Ins.self E0) (hb hby d6_118) rfl ?_
  intro T1 X1 e1
  refine own_iloadN (n := 122) X1 hx (hb hby d6_121) rfl rfl ?_
  refine own_iloadN (n := 123) X1 hx (hb hby d6_122) rfl rfl ?_
  refine own_S (n := 126) (argsL := [(.int (1 : Int32)), (.ref a), (.int (0 : Int32)), (.int (3 : Int32))]) (rest := []) X1 hx hZ hown (own_rmH3 l Z a0 hw a kk c0 c1 c2 h0 n0 Z0 V0) (ww35 hw) (ww36 hw) (ww31 hw) (ww37 hw) (by decide) e1 (by rw [hml]; rfl) (lenOf own_pd4 rfl) rfl (hb hby d6_123) (Nat.le_of_ble_eq_true rfl) (Nat.le_of_ble_eq_true rfl) (Nat.le_of_ble_eq_true rfl) (Nat.le_of_ble_eq_true rfl) rfl ?_
  rintro v2 T2 L2 X2 ⟨z2, rfl, Nq2, eq2⟩
  have N2 := Fr.app N0 Nq2
  change own_G p e below _ _ (mkF m 126 _ [(.int z2)])
  refine own_goto (n := 157) X2 hx (hb hby d6_126) (by decide) (by decide) ?_
  refine own_retI X2 hx hlk hret eq2 (hb hby d6_157) (by decide) (by decide) ?_
  exact ⟨_, rfl, N2, rfl⟩
theorem own_ef3_own_rmA3 (m : MethodId) (y0 : Addr) : entryFrame m #[(.ref y0)] 1 = mkF m 0 #[.val (.ref y0)] [] := by first | (simp [entryFrame, mkF, argsToLocals, Value.category]; done) | rfl
set_option maxRecDepth 65536 in
set_option maxHeartbeats 40000000 in
theorem own_rmA3 (l : Launch) (Z : State) (a0 : Array Value) (hw : ∀ d ∈ tables_1, d.before a0 Z = true) (a : Addr) (kk : ClassId)(c0 c1 c2 : Int32) (h0 : Heap) (n0 : Nat) (Z0 : n0 ≤ h0.size) (V0 : Arv Z h0 a kk .int (3 : Int32) [(.int c0), (.int c1), (.int c2)] (.int (0 : Int32))) (E0 : Exa Z h0 a "[I") :
    own_Met l Z (⟨"java/util/Arrays", "hashCode", "([I)I"⟩ : MethodName) jdk_65_method_150_code 1 (some .int) [] ({ frames := 2, cells := 0, slots := 0, locals := 33 } : Room) #[(.ref a)] h0 (fun v h L => ∃ z : Int32, v = some (.int z) ∧ Fr n0 L ∧ h = h0) := by
  refine own_met own_pn3 ?_
  intro p e s m below meth c s₁ hx hby hml hown hnm hret hlk hZ X0 e0
  have N0 := Fr.nil n0
  refine own_cast (own_ef3_own_rmA3 m a) ?_
  refine own_aloadN (n := 1) X0 hx (hb hby d3_0) rfl rfl rfl ?_
  refine own_ifnonnullYes (n := 6) X0 hx (hb hby d3_1) (by decide) (by decide) ?_
  refine own_aloadN (n := 7) X0 hx (hb hby d3_6) rfl rfl rfl ?_
  refine own_len (n := 8) X0 hx hZ e0 V0 (hb hby d3_7) rfl ?_
  refine own_go (T' := s₁) (f' := (mkF m 49 #[.val (.ref a)] [])) (fun t k => X0.lookupswitchMiss hx (g := (mkF m 8 #[.val (.ref a)] [(.int (3 : Int32))])) rfl (k := (3 : Int32)) (rest := []) rfl (hb hby d3_8) (by decide) (by decide) (by show (0 : Int) ≤ ((8 : Nat) : Int) + 41; decide) t k) ?_
  refine own_aloadN (n := 50) X0 hx (hb hby d3_49) rfl rfl rfl ?_
  refine own_iconst (n := 51) (z := (0 : Int32)) X0 hx (hb hby d3_50) rfl rfl ?_
  refine own_aloadN (n := 52) X0 hx (hb hby d3_51) rfl rfl rfl ?_
  refine own_len (n := 53) X0 hx hZ e0 V0 (hb hby d3_52) rfl ?_
  refine own_iconst (n := 54) (z := (1 : Int32)) X0 hx (hb hby d3_53) rfl rfl ?_
  refine own_bipush (n := 56) (z := (10 : Int32)) X0 hx (hb hby d3_54) rfl rfl ?_
  refine own_S (n := 59) (argsL := [(.ref a), (.int (0 : Int32)), (.int (3 : Int32)), (.int (1 : Int32)), (.int (10 : Int32))]) (rest := []) X0 hx hZ hown (own_rmV3 l Z a0 hw a kk c0 c1 c2 h0 n0 Z0 V0 E0) (ww29 hw) (ww30 hw) (ww31 hw) (ww32 hw) (by decide) e0 (by rw [hml]; rfl) (lenOf own_pd5 rfl) rfl (hb hby d3_56) (Nat.le_of_ble_eq_true rfl) (Nat.le_of_ble_eq_true rfl) (Nat.le_of_ble_eq_true rfl) (Nat.le_of_ble_eq_true rfl) rfl ?_
  rintro v1 T1 L1 X1 ⟨z1, rfl, Nq1, eq1⟩
  have N1 := Fr.app N0 Nq1
  change own_G p e below _ _ (mkF m 59 _ [(.int z1)])
  refine own_retI X1 hx hlk hret eq1 (hb hby d3_59) (by decide) (by decide) ?_
  exact ⟨_, rfl, N1, rfl⟩
theorem own_ef1_own_rmI3 (m : MethodId) (y0 : Addr) (y1 : Addr) : entryFrame m #[(.ref y0), (.ref y1)] 2 = mkF m 0 #[.val (.ref y0), .val (.ref y1)] [] := by first | (simp [entryFrame, mkF, argsToLocals, Value.category]; done) | rfl
set_option maxRecDepth 65536 in
set_option maxHeartbeats 40000000 in
theorem own_rmI3 (l : Launch) (Z : State) (a0 : Array Value) (hw : ∀ d ∈ tables_1, d.before a0 Z = true) (a b : Addr) (kk : ClassId)(c0 c1 c2 : Int32) (h0 : Heap) (n0 : Nat) (Z0 : n0 ≤ h0.size) (E1 : Exa Z h0 a "com/example/preorders_from_tests/preordersfromtests/lts/StateSet") (F1 : Fld Z h0 a "com/example/preorders_from_tests/preordersfromtests/lts/StateSet" "states" "[I" .null) (F2 : Fld Z h0 a "com/example/preorders_from_tests/preordersfromtests/lts/StateSet" "hash" "I" (.int (0 : Int32))) (V0 : Arv Z h0 b kk .int (3 : Int32) [(.int c0), (.int c1), (.int c2)] (.int (0 : Int32))) (E0 : Exa Z h0 b "[I") (g_a : n0 ≤ a) :
    own_Met l Z (⟨"com/example/preorders_from_tests/preordersfromtests/lts/StateSet", "<init>", "([I)V"⟩ : MethodName) prog_37_method_1_code 2 none [] ({ frames := 3, cells := 0, slots := 0, locals := 46 } : Room) #[(.ref a), (.ref b)] h0 (fun v h L => v = none ∧ Fr n0 L ∧ Keep h0 h [a] ∧ Exa Z h a "com/example/preorders_from_tests/preordersfromtests/lts/StateSet" ∧ Fld Z h a "com/example/preorders_from_tests/preordersfromtests/lts/StateSet" "states" "[I" (.ref b)) := by
  refine own_met own_pn1 ?_
  intro p e s m below meth c s₁ hx hby hml hown hnm hret hlk hZ X0 e0
  have N0 := Fr.nil n0
  refine own_cast (own_ef1_own_rmI3 m a b) ?_
  refine own_aloadN (n := 1) X0 hx (hb hby d1_0) rfl rfl rfl ?_
  refine own_initO (n := 4) X0 hx hZ hown (ww8 hw) (ww9 hw) (ww10 hw) e0 (by rw [hml]; rfl) (hb hby d1_1) (Nat.le_of_ble_eq_true rfl) (Nat.le_of_ble_eq_true rfl) rfl ?_
  intro T1 X1 e1
  refine own_aloadN (n := 5) X1 hx (hb hby d1_4) rfl rfl rfl ?_
  refine own_aloadN (n := 6) X1 hx (hb hby d1_5) rfl rfl rfl ?_
  refine own_putF (n := 9) X1 hx hZ hown (host := "") (Or.inl (ww11 hw)) Via.refl e1 F1 E1 (Or.inr ⟨(ww12 hw), rfl, hnm⟩) (ww3 hw) (ty := (.array .int)) (by decide) rfl rfl (hb hby d1_6) rfl ?_
  intro T2 h2 X2 e2 W2
  have F_3 := F1.same W2
  have N2 := Fr.snoc X2 N0 g_a
  have E_4 := E1.wr W2
  have F_5 := F2.other W2 (Or.inr (slot_ne (Or.inr (ww18 hw)) (Or.inr (ww12 hw)) (by decide) (t := .int) (t' := (.array .int)) (by decide) (by decide)))
  have A_6 := V0.other W2 (Ne.symm (own_neEA E1 (ww3 hw) V0))
  have E_7 := E0.wr W2
  have K_8 := (Keep.refl h0 [a]).wr W2 (Or.inl (by simp))
  have Z_9 : n0 ≤ h2.size := by rw [W2.size]; exact Z0
  refine own_aloadN (n := 10) X2 hx (hb hby d1_9) rfl rfl rfl ?_
  refine own_aloadN (n := 11) X2 hx (hb hby d1_10) rfl rfl rfl ?_
  refine own_S (n := 14) (argsL := [(.ref b)]) (rest := [(.ref a)]) X2 hx hZ hown (own_rmA3 l Z a0 hw b kk c0 c1 c2 h2 n0 Z_9 A_6 E_7) (ww13 hw) (ww14 hw) (ww15 hw) (ww16 hw) (by decide) e2 (by rw [hml]; rfl) (lenOf own_pd0 rfl) rfl (hb hby d1_11) (Nat.le_of_ble_eq_true rfl) (Nat.le_of_ble_eq_true rfl) (Nat.le_of_ble_eq_true rfl) (Nat.le_of_ble_eq_true rfl) rfl ?_
  rintro v10 T10 L10 X10 ⟨z10, rfl, Nq10, eq10⟩
  have N10 := Fr.app N2 Nq10
  change own_G p e below _ _ (mkF m 14 _ [(.int z10), (.ref a)])
  refine own_putF (n := 17) X10 hx hZ hown (host := "") (Or.inl (ww17 hw)) Via.refl eq10 F_5 E_4 (Or.inr ⟨(ww18 hw), rfl, hnm⟩) (ww3 hw) (ty := .int) (by decide) rfl rfl (hb hby d1_14) rfl ?_
  intro T11 h11 X11 e11 W11
  have F_12 := F_5.same W11
  have N11 := Fr.snoc X11 N10 g_a
  have E_13 := E_4.wr W11
  have A_14 := A_6.other W11 (Ne.symm (own_neEA E_4 (ww3 hw) A_6))
  have E_15 := E_7.wr W11
  have K_16 := K_8.wr W11 (Or.inl (by simp))
  have F_17 := F_3.other W11 (Or.inr (slot_ne (Or.inr (ww12 hw)) (Or.inr (ww18 hw)) (by decide) (t := (.array .int)) (t' := .int) (by decide) (by decide)))
  have Z_18 : n0 ≤ h11.size := by rw [W11.size]; exact Z_9
  refine own_retV X11 hx hlk hret e11 (hb hby d1_17) (by decide) (by decide) ?_
  exact ⟨rfl, N11, K_16, E_13, F_17⟩
theorem own_ef4_own_rm_isEmpty3 (m : MethodId) (y0 : Addr) : entryFrame m #[(.ref y0)] 1 = mkF m 0 #[.val (.ref y0)] [] := by first | (simp [entryFrame, mkF, argsToLocals, Value.category]; done) | rfl
set_option maxRecDepth 65536 in
set_option maxHeartbeats 40000000 in
theorem own_rm_isEmpty3 (l : Launch) (Z : State) (a0 : Array Value) (hw : ∀ d ∈ tables_1, d.before a0 Z = true) (a b : Addr) (kk : ClassId)(c0 c1 c2 : Int32) (h0 : Heap) (n0 : Nat) (Z0 : n0 ≤ h0.size) (F1 : Fld Z h0 a "com/example/preorders_from_tests/preordersfromtests/lts/StateSet" "states" "[I" (.ref b)) (V0 : Arv Z h0 b kk .int (3 : Int32) [(.int c0), (.int c1), (.int c2)] (.int (0 : Int32))) :
    own_Met l Z (⟨"com/example/preorders_from_tests/preordersfromtests/lts/StateSet", "isEmpty", "()Z"⟩ : MethodName) prog_37_method_3_code 1 (some .boolean) [] ({ frames := 0, cells := 0, slots := 0, locals := 0 } : Room) #[(.ref a)] h0 (fun v h L => v = some (.int (0 : Int32)) ∧ Fr n0 L ∧ h = h0) := by
  refine own_met own_pn4 ?_
  intro p e s m below meth c s₁ hx hby hml hown hnm hret hlk hZ X0 e0
  have N0 := Fr.nil n0
  refine own_cast (own_ef4_own_rm_isEmpty3 m a) ?_
  refine own_aloadN (n := 1) X0 hx (hb hby d4_0) rfl rfl rfl ?_
  refine own_getF (n := 4) X0 hx hZ hown (host := "") (Or.inl (ww11 hw)) Via.refl e0 F1 (hb hby d4_1) rfl ?_
  intro T1 X1 e1
  refine own_len (n := 5) X1 hx hZ e1 V0 (hb hby d4_4) rfl ?_
  refine own_ifYes (n := 12) X1 hx (hb hby d4_5) (feq (by decide : ¬ ((3 : Int32) = (0 : Int32)))).2 (by decide) (by decide) ?_
  refine own_iconst (n := 13) (z := (0 : Int32)) X1 hx (hb hby d4_12) rfl rfl ?_
  refine own_retZ X1 hx hlk hret (by simp) e1 (w := (0 : Int32)) rfl (hb hby d4_13) (by decide) (by decide) ?_
  exact ⟨rfl, N0, rfl⟩
theorem own_ef5_own_rm_size3 (m : MethodId) (y0 : Addr) : entryFrame m #[(.ref y0)] 1 = mkF m 0 #[.val (.ref y0)] [] := by first | (simp [entryFrame, mkF, argsToLocals, Value.category]; done) | rfl
set_option maxRecDepth 65536 in
set_option maxHeartbeats 40000000 in
theorem own_rm_size3 (l : Launch) (Z : State) (a0 : Array Value) (hw : ∀ d ∈ tables_1, d.before a0 Z = true) (a b : Addr) (kk : ClassId)(c0 c1 c2 : Int32) (h0 : Heap) (n0 : Nat) (Z0 : n0 ≤ h0.size) (F1 : Fld Z h0 a "com/example/preorders_from_tests/preordersfromtests/lts/StateSet" "states" "[I" (.ref b)) (V0 : Arv Z h0 b kk .int (3 : Int32) [(.int c0), (.int c1), (.int c2)] (.int (0 : Int32))) :
    own_Met l Z (⟨"com/example/preorders_from_tests/preordersfromtests/lts/StateSet", "size", "()I"⟩ : MethodName) prog_37_method_2_code 1 (some .int) [] ({ frames := 0, cells := 0, slots := 0, locals := 0 } : Room) #[(.ref a)] h0 (fun v h L => v = some (.int (3 : Int32)) ∧ Fr n0 L ∧ h = h0) := by
  refine own_met own_pn5 ?_
  intro p e s m below meth c s₁ hx hby hml hown hnm hret hlk hZ X0 e0
  have N0 := Fr.nil n0
  refine own_cast (own_ef5_own_rm_size3 m a) ?_
  refine own_aloadN (n := 1) X0 hx (hb hby d5_0) rfl rfl rfl ?_
  refine own_getF (n := 4) X0 hx hZ hown (host := "") (Or.inl (ww11 hw)) Via.refl e0 F1 (hb hby d5_1) rfl ?_
  intro T1 X1 e1
  refine own_len (n := 5) X1 hx hZ e1 V0 (hb hby d5_4) rfl ?_
  refine own_retI X1 hx hlk hret e1 (hb hby d5_5) (by decide) (by decide) ?_
  exact ⟨rfl, N0, rfl⟩
theorem own_ef0_own_rm0 (m : MethodId) (y0 : Int32) (y1 : Int32) (y2 : Int32) (y3 : Int32) : entryFrame m #[(.int y0), (.int y1), (.int y2), (.int y3)] maxLocals = mkF m 0 #[.val (.int y0), .val (.int y1), .val (.int y2), .val (.int y3), .unset, .unset, .unset, .unset, .unset, .unset, .unset, .unset] [] := by first | (simp [entryFrame, mkF, argsToLocals, Value.category, maxLocals]; done) | rfl
set_option maxRecDepth 65536 in
set_option maxHeartbeats 40000000 in
theorem own_rm0 (l : Launch) (Z : State) (a0 : Array Value) (hw : ∀ d ∈ tables_1, d.before a0 Z = true) (p0 p1 p2 p3 : Int32) (h0 : Heap) (n0 : Nat) (Z0 : n0 ≤ h0.size)  :
    own_Met l Z x code maxLocals ret tables_1 room_1 #[(.int p0), (.int p1), (.int p2), (.int p3)] h0 (fun v h L => v = some (.int 1) ∧ Fr n0 L) := by
  refine own_met own_pn0 ?_
  intro p e s m below meth c s₁ hx hby hml hown hnm hret hlk hZ X0 e0
  have N0 := Fr.nil n0
  refine own_cast (own_ef0_own_rm0 m p0 p1 p2 p3) ?_
  refine own_iloadN (n := 1) X0 hx (hb hby at_0) rfl rfl ?_
  refine own_iconst (n := 2) (z := (3 : Int32)) X0 hx (hb hby at_1) rfl rfl ?_
  refine own_iand (n := 3) X0 hx (hb hby at_2) rfl rfl ?_
  refine own_istore (n := 5) (l' := #[.val (.int p0), .val (.int p1), .val (.int p2), .val (.int p3), .val (.int (p0 &&& (3 : Int32))), .unset, .unset, .unset, .unset, .unset, .unset, .unset]) X0 hx (hb hby at_3) rfl rfl ?_
  rcases own_and3 p0 with hs | hs | hs | hs
  · rw [hs]
    refine own_iloadN (n := 6) X0 hx (hb hby at_5) rfl rfl ?_
    refine own_iconst (n := 7) (z := (1 : Int32)) X0 hx (hb hby at_6) rfl rfl ?_
    refine own_ishr (n := 8) X0 hx (hb hby at_7) rfl rfl ?_
    refine own_istore (n := 10) (l' := #[.val (.int p0), .val (.int p1), .val (.int p2), .val (.int p3), .val (.int (0 : Int32)), .val (.int (p1 >>> ((1 : Int32) &&& 31))), .unset, .unset, .unset, .unset, .unset, .unset]) X0 hx (hb hby at_8) rfl rfl ?_
    refine own_iload (n := 12) X0 hx (hb hby at_10) rfl rfl ?_
    refine own_iconst (n := 13) (z := (1 : Int32)) X0 hx (hb hby at_12) rfl rfl ?_
    refine own_iadd (n := 14) X0 hx (hb hby at_13) rfl rfl ?_
    refine own_iloadN (n := 15) X0 hx (hb hby at_14) rfl rfl ?_
    refine own_ldc (n := 17) (v := (65535 : Int32)) X0 hx hZ hown (ww0 hw) (hb hby at_15) rfl ?_
    refine own_iand (n := 18) X0 hx (hb hby at_17) rfl rfl ?_
    refine own_iadd (n := 19) X0 hx (hb hby at_18) rfl rfl ?_
    refine own_istore (n := 21) (l' := #[.val (.int p0), .val (.int p1), .val (.int p2), .val (.int p3), .val (.int (0 : Int32)), .val (.int (p1 >>> ((1 : Int32) &&& 31))), .val (.int (((p1 >>> ((1 : Int32) &&& 31)) + (1 : Int32)) + (p2 &&& (65535 : Int32)))), .unset, .unset, .unset, .unset, .unset]) X0 hx (hb hby at_19) rfl rfl ?_
    refine own_iload (n := 23) X0 hx (hb hby at_21) rfl rfl ?_
    refine own_iconst (n := 24) (z := (1 : Int32)) X0 hx (hb hby at_23) rfl rfl ?_
    refine own_iadd (n := 25) X0 hx (hb hby at_24) rfl rfl ?_
    refine own_iloadN (n := 26) X0 hx (hb hby at_25) rfl rfl ?_
    refine own_ldc (n := 28) (v := (65535 : Int32)) X0 hx hZ hown (ww0 hw) (hb hby at_26) rfl ?_
    refine own_iand (n := 29) X0 hx (hb hby at_28) rfl rfl ?_
    refine own_iadd (n := 30) X0 hx (hb hby at_29) rfl rfl ?_
    refine own_istore (n := 32) (l' := #[.val (.int p0), .val (.int p1), .val (.int p2), .val (.int p3), .val (.int (0 : Int32)), .val (.int (p1 >>> ((1 : Int32) &&& 31))), .val (.int (((p1 >>> ((1 : Int32) &&& 31)) + (1 : Int32)) + (p2 &&& (65535 : Int32)))), .val (.int (((((p1 >>> ((1 : Int32) &&& 31)) + (1 : Int32)) + (p2 &&& (65535 : Int32))) + (1 : Int32)) + (p3 &&& (65535 : Int32)))), .unset, .unset, .unset, .unset]) X0 hx (hb hby at_30) rfl rfl ?_
    refine own_iload (n := 34) X0 hx (hb hby at_32) rfl rfl ?_
    refine own_ifNo (n := 37) X0 hx (hb hby at_34) (teq (by decide : (0 : Int32) = (0 : Int32))).2 rfl ?_
    refine own_iconst (n := 38) (z := (0 : Int32)) X0 hx (hb hby at_37) rfl rfl ?_
    refine own_newA (n := 40) X0 hx hZ own_an_int (ww1 hw) e0 (hb hby at_38) (by decide) (cap := 0) (by decide) (by decide) (by decide) (by decide) rfl ?_
    intro T1 h1 k1 b1 g1 X1 e1 E1 A1 B1
    have g_b1 : n0 ≤ b1 := Nat.le_trans Z0 (Nat.le_of_eq g1.symm)
    have Z_2 : n0 ≤ h1.size := Nat.le_trans Z0 E1.1
    have V1 : Arv Z h1 b1 k1 .int (0 : Int32) [] (.int (0 : Int32)) := Arv.new A1 (by decide)
    refine own_astore (n := 42) (l' := #[.val (.int p0), .val (.int p1), .val (.int p2), .val (.int p3), .val (.int (0 : Int32)), .val (.int (p1 >>> ((1 : Int32) &&& 31))), .val (.int (((p1 >>> ((1 : Int32) &&& 31)) + (1 : Int32)) + (p2 &&& (65535 : Int32)))), .val (.int (((((p1 >>> ((1 : Int32) &&& 31)) + (1 : Int32)) + (p2 &&& (65535 : Int32))) + (1 : Int32)) + (p3 &&& (65535 : Int32)))), .val (.ref b1), .unset, .unset, .unset]) X1 hx (hb hby at_40) rfl rfl rfl ?_
    refine own_goto (n := 108) X1 hx (hb hby at_42) (by decide) (by decide) ?_
    refine own_new (n := 111) X1 hx hZ hown (ww2 hw) (ww3 hw) (ww4 hw) e1 (hb hby at_108) (by decide) (by decide) rfl ?_
    intro T3 h3 b3 g3 X3 e3 E3 A3 D3
    have g_b3 : n0 ≤ b3 := Nat.le_trans Z_2 (Nat.le_of_eq g3.symm)
    have ne_b1_b3 : b1 ≠ b3 := own_ne B1.lt g3
    have E_4 := B1.ext E3
    have A_5 := V1.ext E3
    have Z_6 : n0 ≤ h3.size := Nat.le_trans Z_2 E3.1
    have F_7 : Fld Z h3 b3 "com/example/preorders_from_tests/preordersfromtests/lts/StateSet" "states" "[I" .null := D3 (Or.inr (ww12 hw)) (ty := (.array .int)) (by decide)
    have F_8 : Fld Z h3 b3 "com/example/preorders_from_tests/preordersfromtests/lts/StateSet" "hash" "I" (.int (0 : Int32)) := D3 (Or.inr (ww18 hw)) (ty := .int) (by decide)
    refine own_dup (n := 112) X3 hx (hb hby at_111) rfl rfl ?_
    refine own_aload (n := 114) X3 hx (hb hby at_112) rfl rfl rfl ?_
    refine own_I (n := 117) (argsL := [(.ref b1)]) (rest := [(.ref b3)]) (a := b3) (by rfl) X3 hx hZ hown (own_rmI0 l Z a0 hw b3 b1 k1  h3 n0 Z_6 A3 F_7 F_8 A_5 E_4 g_b3) (ww5 hw) (ww6 hw) (ww4 hw) (ww7 hw) (by decide) e3 (by rw [hml]; rfl) (lenOf own_pd1 rfl) rfl (hb hby at_114) (Nat.le_of_ble_eq_true rfl) (Nat.le_of_ble_eq_true rfl) (Nat.le_of_ble_eq_true rfl) (Nat.le_of_ble_eq_true rfl) rfl ?_
    rintro v9 T9 L9 X9 ⟨rfl, Nq9, K9, Eq9, Fq9⟩
    have N9 := Fr.app N0 Nq9
    have E_10 := E_4.keep K9
    have A_11 := A_5.keep K9 (by simp [ne_b1_b3])
    have E_12 := A3.keep K9
    have Z_13 : n0 ≤ T9.heap.size := Nat.le_trans Z_6 K9.1
    change own_G p e below _ _ (mkF m 117 _ [(.ref b3)])
    refine own_astore (n := 119) (l' := #[.val (.int p0), .val (.int p1), .val (.int p2), .val (.int p3), .val (.int (0 : Int32)), .val (.int (p1 >>> ((1 : Int32) &&& 31))), .val (.int (((p1 >>> ((1 : Int32) &&& 31)) + (1 : Int32)) + (p2 &&& (65535 : Int32)))), .val (.int (((((p1 >>> ((1 : Int32) &&& 31)) + (1 : Int32)) + (p2 &&& (65535 : Int32))) + (1 : Int32)) + (p3 &&& (65535 : Int32)))), .val (.ref b1), .val (.ref b3), .unset, .unset]) X9 hx (hb hby at_117) rfl rfl rfl ?_
    refine own_aload (n := 121) X9 hx (hb hby at_119) rfl rfl rfl ?_
    refine own_V (n := 124) (argsL := []) (rest := []) (a := b3) X9 hx hZ hown (own_rm_isEmpty0 l Z a0 hw b3 b1 k1  T9.heap n0 Z_13 Fq9 A_11) (ww19 hw) (ww20 hw) (notFace_of_selects (args := #[]) (mvT hZ (ww22 hw))) (ww22 hw) (ww21 hw) (ww4 hw) (ww23 hw) (by decide) rfl E_12 (by rw [hml]; rfl) (lenOf own_pd2 rfl) rfl (hb hby at_121) (Nat.le_of_ble_eq_true rfl) (Nat.le_of_ble_eq_true rfl) (Nat.le_of_ble_eq_true rfl) (Nat.le_of_ble_eq_true rfl) rfl ?_
    rintro v14 T14 L14 X14 ⟨rfl, Nq14, eq14⟩
    have N14 := Fr.app N9 Nq14
    change own_G p e below _ _ (mkF m 124 _ [(.int (1 : Int32))])
    refine own_istore (n := 126) (l' := #[.val (.int p0), .val (.int p1), .val (.int p2), .val (.int p3), .val (.int (0 : Int32)), .val (.int (p1 >>> ((1 : Int32) &&& 31))), .val (.int (((p1 >>> ((1 : Int32) &&& 31)) + (1 : Int32)) + (p2 &&& (65535 : Int32)))), .val (.int (((((p1 >>> ((1 : Int32) &&& 31)) + (1 : Int32)) + (p2 &&& (65535 : Int32))) + (1 : Int32)) + (p3 &&& (65535 : Int32)))), .val (.ref b1), .val (.ref b3), .val (.int (1 : Int32)), .unset]) X14 hx (hb hby at_124) rfl rfl ?_
    refine own_aload (n := 128) X14 hx (hb hby at_126) rfl rfl rfl ?_
    refine own_V (n := 131) (argsL := []) (rest := []) (a := b3) X14 hx hZ hown (own_rm_size0 l Z a0 hw b3 b1 k1  T9.heap n0 Z_13 Fq9 A_11) (ww24 hw) (ww25 hw) (notFace_of_selects (args := #[]) (mvT hZ (ww27 hw))) (ww27 hw) (ww26 hw) (ww4 hw) (ww28 hw) (by decide) eq14 E_12 (by rw [hml]; rfl) (lenOf own_pd3 rfl) rfl (hb hby at_128) (Nat.le_of_ble_eq_true rfl) (Nat.le_of_ble_eq_true rfl) (Nat.le_of_ble_eq_true rfl) (Nat.le_of_ble_eq_true rfl) rfl ?_
    rintro v15 T15 L15 X15 ⟨rfl, Nq15, eq15⟩
    have N15 := Fr.app N14 Nq15
    change own_G p e below _ _ (mkF m 131 _ [(.int (0 : Int32))])
    refine own_istore (n := 133) (l' := #[.val (.int p0), .val (.int p1), .val (.int p2), .val (.int p3), .val (.int (0 : Int32)), .val (.int (p1 >>> ((1 : Int32) &&& 31))), .val (.int (((p1 >>> ((1 : Int32) &&& 31)) + (1 : Int32)) + (p2 &&& (65535 : Int32)))), .val (.int (((((p1 >>> ((1 : Int32) &&& 31)) + (1 : Int32)) + (p2 &&& (65535 : Int32))) + (1 : Int32)) + (p3 &&& (65535 : Int32)))), .val (.ref b1), .val (.ref b3), .val (.int (1 : Int32)), .val (.int (0 : Int32))]) X15 hx (hb hby at_131) rfl rfl ?_
    refine own_iload (n := 135) X15 hx (hb hby at_133) rfl rfl ?_
    refine own_iload (n := 137) X15 hx (hb hby at_135) rfl rfl ?_
    refine own_ifNo (n := 140) X15 hx (hb hby at_137) (teq (by decide : (0 : Int32) = (0 : Int32))).2 rfl ?_
    refine own_iconst (n := 141) (z := (1 : Int32)) X15 hx (hb hby at_140) rfl rfl ?_
    refine own_goto (n := 145) X15 hx (hb hby at_141) (by decide) (by decide) ?_
    refine own_icmpNo (n := 148) X15 hx (hb hby at_145) (teq (by decide : (1 : Int32) = (1 : Int32))).2 rfl ?_
    refine own_iload (n := 150) X15 hx (hb hby at_148) rfl rfl ?_
    refine own_iload (n := 152) X15 hx (hb hby at_150) rfl rfl ?_
    refine own_ifNo (n := 155) X15 hx (hb hby at_152) (teq (by decide : (0 : Int32) = (0 : Int32))).2 rfl ?_
    refine own_iconst (n := 156) (z := (1 : Int32)) X15 hx (hb hby at_155) rfl rfl ?_
    refine own_goto (n := 160) X15 hx (hb hby at_156) (by decide) (by decide) ?_
    refine own_icmpNo (n := 163) X15 hx (hb hby at_160) (teq (by decide : (1 : Int32) = (1 : Int32))).2 rfl ?_
    refine own_iload (n := 165) X15 hx (hb hby at_163) rfl rfl ?_
    refine own_iload (n := 167) X15 hx (hb hby at_165) rfl rfl ?_
    refine own_icmpNo (n := 170) X15 hx (hb hby at_167) (teq (by decide : (0 : Int32) = (0 : Int32))).2 rfl ?_
    refine own_iconst (n := 171) (z := (1 : Int32)) X15 hx (hb hby at_170) rfl rfl ?_
    refine own_goto (n := 175) X15 hx (hb hby at_171) (by decide) (by decide) ?_
    refine own_retZ X15 hx hlk hret (by simp) eq15 (w := (1 : Int32)) rfl (hb hby at_175) (by decide) (by decide) ?_
    exact ⟨rfl, N15⟩
  · rw [hs]
    refine own_iloadN (n := 6) X0 hx (hb hby at_5) rfl rfl ?_
    refine own_iconst (n := 7) (z := (1 : Int32)) X0 hx (hb hby at_6) rfl rfl ?_
    refine own_ishr (n := 8) X0 hx (hb hby at_7) rfl rfl ?_
    refine own_istore (n := 10) (l' := #[.val (.int p0), .val (.int p1), .val (.int p2), .val (.int p3), .val (.int (1 : Int32)), .val (.int (p1 >>> ((1 : Int32) &&& 31))), .unset, .unset, .unset, .unset, .unset, .unset]) X0 hx (hb hby at_8) rfl rfl ?_
    refine own_iload (n := 12) X0 hx (hb hby at_10) rfl rfl ?_
    refine own_iconst (n := 13) (z := (1 : Int32)) X0 hx (hb hby at_12) rfl rfl ?_
    refine own_iadd (n := 14) X0 hx (hb hby at_13) rfl rfl ?_
    refine own_iloadN (n := 15) X0 hx (hb hby at_14) rfl rfl ?_
    refine own_ldc (n := 17) (v := (65535 : Int32)) X0 hx hZ hown (ww0 hw) (hb hby at_15) rfl ?_
    refine own_iand (n := 18) X0 hx (hb hby at_17) rfl rfl ?_
    refine own_iadd (n := 19) X0 hx (hb hby at_18) rfl rfl ?_
    refine own_istore (n := 21) (l' := #[.val (.int p0), .val (.int p1), .val (.int p2), .val (.int p3), .val (.int (1 : Int32)), .val (.int (p1 >>> ((1 : Int32) &&& 31))), .val (.int (((p1 >>> ((1 : Int32) &&& 31)) + (1 : Int32)) + (p2 &&& (65535 : Int32)))), .unset, .unset, .unset, .unset, .unset]) X0 hx (hb hby at_19) rfl rfl ?_
    refine own_iload (n := 23) X0 hx (hb hby at_21) rfl rfl ?_
    refine own_iconst (n := 24) (z := (1 : Int32)) X0 hx (hb hby at_23) rfl rfl ?_
    refine own_iadd (n := 25) X0 hx (hb hby at_24) rfl rfl ?_
    refine own_iloadN (n := 26) X0 hx (hb hby at_25) rfl rfl ?_
    refine own_ldc (n := 28) (v := (65535 : Int32)) X0 hx hZ hown (ww0 hw) (hb hby at_26) rfl ?_
    refine own_iand (n := 29) X0 hx (hb hby at_28) rfl rfl ?_
    refine own_iadd (n := 30) X0 hx (hb hby at_29) rfl rfl ?_
    refine own_istore (n := 32) (l' := #[.val (.int p0), .val (.int p1), .val (.int p2), .val (.int p3), .val (.int (1 : Int32)), .val (.int (p1 >>> ((1 : Int32) &&& 31))), .val (.int (((p1 >>> ((1 : Int32) &&& 31)) + (1 : Int32)) + (p2 &&& (65535 : Int32)))), .val (.int (((((p1 >>> ((1 : Int32) &&& 31)) + (1 : Int32)) + (p2 &&& (65535 : Int32))) + (1 : Int32)) + (p3 &&& (65535 : Int32)))), .unset, .unset, .unset, .unset]) X0 hx (hb hby at_30) rfl rfl ?_
    refine own_iload (n := 34) X0 hx (hb hby at_32) rfl rfl ?_
    refine own_ifYes (n := 45) X0 hx (hb hby at_34) (feq (by decide : ¬ ((1 : Int32) = (0 : Int32)))).2 (by decide) (by decide) ?_
    refine own_iload (n := 47) X0 hx (hb hby at_45) rfl rfl ?_
    refine own_iconst (n := 48) (z := (1 : Int32)) X0 hx (hb hby at_47) rfl rfl ?_
    refine own_icmpNo (n := 51) X0 hx (hb hby at_48) (teq (by decide : (1 : Int32) = (1 : Int32))).2 rfl ?_
    refine own_iconst (n := 52) (z := (1 : Int32)) X0 hx (hb hby at_51) rfl rfl ?_
    refine own_newA (n := 54) X0 hx hZ own_an_int (ww1 hw) e0 (hb hby at_52) (by decide) (cap := 1) (by decide) (by decide) (by decide) (by decide) rfl ?_
    intro T16 h16 k16 b16 g16 X16 e16 E16 A16 B16
    have g_b16 : n0 ≤ b16 := Nat.le_trans Z0 (Nat.le_of_eq g16.symm)
    have Z_17 : n0 ≤ h16.size := Nat.le_trans Z0 E16.1
    have V16 : Arv Z h16 b16 k16 .int (1 : Int32) [(.int (0 : Int32))] (.int (0 : Int32)) := (Arv.new A16 (by decide)).pad (pad_rep [] (.int (0 : Int32)) 1)
    refine own_dup (n := 55) X16 hx (hb hby at_54) rfl rfl ?_
    refine own_iconst (n := 56) (z := (0 : Int32)) X16 hx (hb hby at_55) rfl rfl ?_
    refine own_iload (n := 58) X16 hx (hb hby at_56) rfl rfl ?_
    refine own_st_iastore (n := 59) X16 hx hZ e16 V16 ⟨by decide, by decide⟩ 0 rfl (Nat.le_of_ble_eq_true rfl) (hb hby at_58) rfl ?_
    intro T18 h18 X18 e18 W18 V18q
    have V18 : Arv Z h18 b16 k16 .int (1 : Int32) [(.int (p1 >>> ((1 : Int32) &&& 31)))] (.int (0 : Int32)) := V18q
    have N18 := Fr.snoc X18 N0 g_b16
    have E_19 := B16.wr W18
    have Z_20 : n0 ≤ h18.size := by rw [W18.size]; exact Z_17
    refine own_astore (n := 61) (l' := #[.val (.int p0), .val (.int p1), .val (.int p2), .val (.int p3), .val (.int (1 : Int32)), .val (.int (p1 >>> ((1 : Int32) &&& 31))), .val (.int (((p1 >>> ((1 : Int32) &&& 31)) + (1 : Int32)) + (p2 &&& (65535 : Int32)))), .val (.int (((((p1 >>> ((1 : Int32) &&& 31)) + (1 : Int32)) + (p2 &&& (65535 : Int32))) + (1 : Int32)) + (p3 &&& (65535 : Int32)))), .val (.ref b16), .unset, .unset, .unset]) X18 hx (hb hby at_59) rfl rfl rfl ?_
    refine own_goto (n := 108) X18 hx (hb hby at_61) (by decide) (by decide) ?_
    refine own_new (n := 111) X18 hx hZ hown (ww2 hw) (ww3 hw) (ww4 hw) e18 (hb hby at_108) (by decide) (by decide) rfl ?_
    intro T21 h21 b21 g21 X21 e21 E21 A21 D21
    have g_b21 : n0 ≤ b21 := Nat.le_trans Z_20 (Nat.le_of_eq g21.symm)
    have ne_b16_b21 : b16 ≠ b21 := own_ne E_19.lt g21
    have E_22 := E_19.ext E21
    have A_23 := V18.ext E21
    have Z_24 : n0 ≤ h21.size := Nat.le_trans Z_20 E21.1
    have F_25 : Fld Z h21 b21 "com/example/preorders_from_tests/preordersfromtests/lts/StateSet" "states" "[I" .null := D21 (Or.inr (ww12 hw)) (ty := (.array .int)) (by decide)
    have F_26 : Fld Z h21 b21 "com/example/preorders_from_tests/preordersfromtests/lts/StateSet" "hash" "I" (.int (0 : Int32)) := D21 (Or.inr (ww18 hw)) (ty := .int) (by decide)
    refine own_dup (n := 112) X21 hx (hb hby at_111) rfl rfl ?_
    refine own_aload (n := 114) X21 hx (hb hby at_112) rfl rfl rfl ?_
    refine own_I (n := 117) (argsL := [(.ref b16)]) (rest := [(.ref b21)]) (a := b21) (by rfl) X21 hx hZ hown (own_rmI1 l Z a0 hw b21 b16 k16 (p1 >>> ((1 : Int32) &&& 31)) h21 n0 Z_24 A21 F_25 F_26 A_23 E_22 g_b21) (ww5 hw) (ww6 hw) (ww4 hw) (ww7 hw) (by decide) e21 (by rw [hml]; rfl) (lenOf own_pd1 rfl) rfl (hb hby at_114) (Nat.le_of_ble_eq_true rfl) (Nat.le_of_ble_eq_true rfl) (Nat.le_of_ble_eq_true rfl) (Nat.le_of_ble_eq_true rfl) rfl ?_
    rintro v27 T27 L27 X27 ⟨rfl, Nq27, K27, Eq27, Fq27⟩
    have N27 := Fr.app N18 Nq27
    have E_28 := E_22.keep K27
    have A_29 := A_23.keep K27 (by simp [ne_b16_b21])
    have E_30 := A21.keep K27
    have Z_31 : n0 ≤ T27.heap.size := Nat.le_trans Z_24 K27.1
    change own_G p e below _ _ (mkF m 117 _ [(.ref b21)])
    refine own_astore (n := 119) (l' := #[.val (.int p0), .val (.int p1), .val (.int p2), .val (.int p3), .val (.int (1 : Int32)), .val (.int (p1 >>> ((1 : Int32) &&& 31))), .val (.int (((p1 >>> ((1 : Int32) &&& 31)) + (1 : Int32)) + (p2 &&& (65535 : Int32)))), .val (.int (((((p1 >>> ((1 : Int32) &&& 31)) + (1 : Int32)) + (p2 &&& (65535 : Int32))) + (1 : Int32)) + (p3 &&& (65535 : Int32)))), .val (.ref b16), .val (.ref b21), .unset, .unset]) X27 hx (hb hby at_117) rfl rfl rfl ?_
    refine own_aload (n := 121) X27 hx (hb hby at_119) rfl rfl rfl ?_
    refine own_V (n := 124) (argsL := []) (rest := []) (a := b21) X27 hx hZ hown (own_rm_isEmpty1 l Z a0 hw b21 b16 k16 (p1 >>> ((1 : Int32) &&& 31)) T27.heap n0 Z_31 Fq27 A_29) (ww19 hw) (ww20 hw) (notFace_of_selects (args := #[]) (mvT hZ (ww22 hw))) (ww22 hw) (ww21 hw) (ww4 hw) (ww23 hw) (by decide) rfl E_30 (by rw [hml]; rfl) (lenOf own_pd2 rfl) rfl (hb hby at_121) (Nat.le_of_ble_eq_true rfl) (Nat.le_of_ble_eq_true rfl) (Nat.le_of_ble_eq_true rfl) (Nat.le_of_ble_eq_true rfl) rfl ?_
    rintro v32 T32 L32 X32 ⟨rfl, Nq32, eq32⟩
    have N32 := Fr.app N27 Nq32
    change own_G p e below _ _ (mkF m 124 _ [(.int (0 : Int32))])
    refine own_istore (n := 126) (l' := #[.val (.int p0), .val (.int p1), .val (.int p2), .val (.int p3), .val (.int (1 : Int32)), .val (.int (p1 >>> ((1 : Int32) &&& 31))), .val (.int (((p1 >>> ((1 : Int32) &&& 31)) + (1 : Int32)) + (p2 &&& (65535 : Int32)))), .val (.int (((((p1 >>> ((1 : Int32) &&& 31)) + (1 : Int32)) + (p2 &&& (65535 : Int32))) + (1 : Int32)) + (p3 &&& (65535 : Int32)))), .val (.ref b16), .val (.ref b21), .val (.int (0 : Int32)), .unset]) X32 hx (hb hby at_124) rfl rfl ?_
    refine own_aload (n := 128) X32 hx (hb hby at_126) rfl rfl rfl ?_
    refine own_V (n := 131) (argsL := []) (rest := []) (a := b21) X32 hx hZ hown (own_rm_size1 l Z a0 hw b21 b16 k16 (p1 >>> ((1 : Int32) &&& 31)) T27.heap n0 Z_31 Fq27 A_29) (ww24 hw) (ww25 hw) (notFace_of_selects (args := #[]) (mvT hZ (ww27 hw))) (ww27 hw) (ww26 hw) (ww4 hw) (ww28 hw) (by decide) eq32 E_30 (by rw [hml]; rfl) (lenOf own_pd3 rfl) rfl (hb hby at_128) (Nat.le_of_ble_eq_true rfl) (Nat.le_of_ble_eq_true rfl) (Nat.le_of_ble_eq_true rfl) (Nat.le_of_ble_eq_true rfl) rfl ?_
    rintro v33 T33 L33 X33 ⟨rfl, Nq33, eq33⟩
    have N33 := Fr.app N32 Nq33
    change own_G p e below _ _ (mkF m 131 _ [(.int (1 : Int32))])
    refine own_istore (n := 133) (l' := #[.val (.int p0), .val (.int p1), .val (.int p2), .val (.int p3), .val (.int (1 : Int32)), .val (.int (p1 >>> ((1 : Int32) &&& 31))), .val (.int (((p1 >>> ((1 : Int32) &&& 31)) + (1 : Int32)) + (p2 &&& (65535 : Int32)))), .val (.int (((((p1 >>> ((1 : Int32) &&& 31)) + (1 : Int32)) + (p2 &&& (65535 : Int32))) + (1 : Int32)) + (p3 &&& (65535 : Int32)))), .val (.ref b16), .val (.ref b21), .val (.int (0 : Int32)), .val (.int (1 : Int32))]) X33 hx (hb hby at_131) rfl rfl ?_
    refine own_iload (n := 135) X33 hx (hb hby at_133) rfl rfl ?_
    refine own_iload (n := 137) X33 hx (hb hby at_135) rfl rfl ?_
    refine own_ifYes (n := 144) X33 hx (hb hby at_137) (feq (by decide : ¬ ((1 : Int32) = (0 : Int32)))).2 (by decide) (by decide) ?_
    refine own_iconst (n := 145) (z := (0 : Int32)) X33 hx (hb hby at_144) rfl rfl ?_
    refine own_icmpNo (n := 148) X33 hx (hb hby at_145) (teq (by decide : (0 : Int32) = (0 : Int32))).2 rfl ?_
    refine own_iload (n := 150) X33 hx (hb hby at_148) rfl rfl ?_
    refine own_iload (n := 152) X33 hx (hb hby at_150) rfl rfl ?_
    refine own_ifYes (n := 159) X33 hx (hb hby at_152) (feq (by decide : ¬ ((1 : Int32) = (0 : Int32)))).2 (by decide) (by decide) ?_
    refine own_iconst (n := 160) (z := (0 : Int32)) X33 hx (hb hby at_159) rfl rfl ?_
    refine own_icmpNo (n := 163) X33 hx (hb hby at_160) (teq (by decide : (0 : Int32) = (0 : Int32))).2 rfl ?_
    refine own_iload (n := 165) X33 hx (hb hby at_163) rfl rfl ?_
    refine own_iload (n := 167) X33 hx (hb hby at_165) rfl rfl ?_
    refine own_icmpNo (n := 170) X33 hx (hb hby at_167) (teq (by decide : (1 : Int32) = (1 : Int32))).2 rfl ?_
    refine own_iconst (n := 171) (z := (1 : Int32)) X33 hx (hb hby at_170) rfl rfl ?_
    refine own_goto (n := 175) X33 hx (hb hby at_171) (by decide) (by decide) ?_
    refine own_retZ X33 hx hlk hret (by simp) eq33 (w := (1 : Int32)) rfl (hb hby at_175) (by decide) (by decide) ?_
    exact ⟨rfl, N33⟩
  · rw [hs]
    refine own_iloadN (n := 6) X0 hx (hb hby at_5) rfl rfl ?_
    refine own_iconst (n := 7) (z := (1 : Int32)) X0 hx (hb hby at_6) rfl rfl ?_
    refine own_ishr (n := 8) X0 hx (hb hby at_7) rfl rfl ?_
    refine own_istore (n := 10) (l' := #[.val (.int p0), .val (.int p1), .val (.int p2), .val (.int p3), .val (.int (2 : Int32)), .val (.int (p1 >>> ((1 : Int32) &&& 31))), .unset, .unset, .unset, .unset, .unset, .unset]) X0 hx (hb hby at_8) rfl rfl ?_
    refine own_iload (n := 12) X0 hx (hb hby at_10) rfl rfl ?_
    refine own_iconst (n := 13) (z := (1 : Int32)) X0 hx (hb hby at_12) rfl rfl ?_
    refine own_iadd (n := 14) X0 hx (hb hby at_13) rfl rfl ?_
    refine own_iloadN (n := 15) X0 hx (hb hby at_14) rfl rfl ?_
    refine own_ldc (n := 17) (v := (65535 : Int32)) X0 hx hZ hown (ww0 hw) (hb hby at_15) rfl ?_
    refine own_iand (n := 18) X0 hx (hb hby at_17) rfl rfl ?_
    refine own_iadd (n := 19) X0 hx (hb hby at_18) rfl rfl ?_
    refine own_istore (n := 21) (l' := #[.val (.int p0), .val (.int p1), .val (.int p2), .val (.int p3), .val (.int (2 : Int32)), .val (.int (p1 >>> ((1 : Int32) &&& 31))), .val (.int (((p1 >>> ((1 : Int32) &&& 31)) + (1 : Int32)) + (p2 &&& (65535 : Int32)))), .unset, .unset, .unset, .unset, .unset]) X0 hx (hb hby at_19) rfl rfl ?_
    refine own_iload (n := 23) X0 hx (hb hby at_21) rfl rfl ?_
    refine own_iconst (n := 24) (z := (1 : Int32)) X0 hx (hb hby at_23) rfl rfl ?_
    refine own_iadd (n := 25) X0 hx (hb hby at_24) rfl rfl ?_
    refine own_iloadN (n := 26) X0 hx (hb hby at_25) rfl rfl ?_
    refine own_ldc (n := 28) (v := (65535 : Int32)) X0 hx hZ hown (ww0 hw) (hb hby at_26) rfl ?_
    refine own_iand (n := 29) X0 hx (hb hby at_28) rfl rfl ?_
    refine own_iadd (n := 30) X0 hx (hb hby at_29) rfl rfl ?_
    refine own_istore (n := 32) (l' := #[.val (.int p0), .val (.int p1), .val (.int p2), .val (.int p3), .val (.int (2 : Int32)), .val (.int (p1 >>> ((1 : Int32) &&& 31))), .val (.int (((p1 >>> ((1 : Int32) &&& 31)) + (1 : Int32)) + (p2 &&& (65535 : Int32)))), .val (.int (((((p1 >>> ((1 : Int32) &&& 31)) + (1 : Int32)) + (p2 &&& (65535 : Int32))) + (1 : Int32)) + (p3 &&& (65535 : Int32)))), .unset, .unset, .unset, .unset]) X0 hx (hb hby at_30) rfl rfl ?_
    refine own_iload (n := 34) X0 hx (hb hby at_32) rfl rfl ?_
    refine own_ifYes (n := 45) X0 hx (hb hby at_34) (feq (by decide : ¬ ((2 : Int32) = (0 : Int32)))).2 (by decide) (by decide) ?_
    refine own_iload (n := 47) X0 hx (hb hby at_45) rfl rfl ?_
    refine own_iconst (n := 48) (z := (1 : Int32)) X0 hx (hb hby at_47) rfl rfl ?_
    refine own_icmpYes (n := 64) X0 hx (hb hby at_48) (feq (by decide : ¬ ((2 : Int32) = (1 : Int32)))).2 (by decide) (by decide) ?_
    refine own_iload (n := 66) X0 hx (hb hby at_64) rfl rfl ?_
    refine own_iconst (n := 67) (z := (2 : Int32)) X0 hx (hb hby at_66) rfl rfl ?_
    refine own_icmpNo (n := 70) X0 hx (hb hby at_67) (teq (by decide : (2 : Int32) = (2 : Int32))).2 rfl ?_
    refine own_iconst (n := 71) (z := (2 : Int32)) X0 hx (hb hby at_70) rfl rfl ?_
    refine own_newA (n := 73) X0 hx hZ own_an_int (ww1 hw) e0 (hb hby at_71) (by decide) (cap := 2) (by decide) (by decide) (by decide) (by decide) rfl ?_
    intro T34 h34 k34 b34 g34 X34 e34 E34 A34 B34
    have g_b34 : n0 ≤ b34 := Nat.le_trans Z0 (Nat.le_of_eq g34.symm)
    have Z_35 : n0 ≤ h34.size := Nat.le_trans Z0 E34.1
    have V34 : Arv Z h34 b34 k34 .int (2 : Int32) [(.int (0 : Int32)), (.int (0 : Int32))] (.int (0 : Int32)) := (Arv.new A34 (by decide)).pad (pad_rep [] (.int (0 : Int32)) 2)
    refine own_dup (n := 74) X34 hx (hb hby at_73) rfl rfl ?_
    refine own_iconst (n := 75) (z := (0 : Int32)) X34 hx (hb hby at_74) rfl rfl ?_
    refine own_iload (n := 77) X34 hx (hb hby at_75) rfl rfl ?_
    refine own_st_iastore (n := 78) X34 hx hZ e34 V34 ⟨by decide, by decide⟩ 0 rfl (Nat.le_of_ble_eq_true rfl) (hb hby at_77) rfl ?_
    intro T36 h36 X36 e36 W36 V36q
    have V36 : Arv Z h36 b34 k34 .int (2 : Int32) [(.int (p1 >>> ((1 : Int32) &&& 31))), (.int (0 : Int32))] (.int (0 : Int32)) := V36q
    have N36 := Fr.snoc X36 N0 g_b34
    have E_37 := B34.wr W36
    have Z_38 : n0 ≤ h36.size := by rw [W36.size]; exact Z_35
    refine own_dup (n := 79) X36 hx (hb hby at_78) rfl rfl ?_
    refine own_iconst (n := 80) (z := (1 : Int32)) X36 hx (hb hby at_79) rfl rfl ?_
    refine own_iload (n := 82) X36 hx (hb hby at_80) rfl rfl ?_
    refine own_st_iastore (n := 83) X36 hx hZ e36 V36 ⟨by decide, by decide⟩ 1 rfl (Nat.le_of_ble_eq_true rfl) (hb hby at_82) rfl ?_
    intro T39 h39 X39 e39 W39 V39q
    have V39 : Arv Z h39 b34 k34 .int (2 : Int32) [(.int (p1 >>> ((1 : Int32) &&& 31))), (.int (((p1 >>> ((1 : Int32) &&& 31)) + (1 : Int32)) + (p2 &&& (65535 : Int32))))] (.int (0 : Int32)) := V39q
    have N39 := Fr.snoc X39 N36 g_b34
    have E_40 := E_37.wr W39
    have Z_41 : n0 ≤ h39.size := by rw [W39.size]; exact Z_38
    refine own_astore (n := 85) (l' := #[.val (.int p0), .val (.int p1), .val (.int p2), .val (.int p3), .val (.int (2 : Int32)), .val (.int (p1 >>> ((1 : Int32) &&& 31))), .val (.int (((p1 >>> ((1 : Int32) &&& 31)) + (1 : Int32)) + (p2 &&& (65535 : Int32)))), .val (.int (((((p1 >>> ((1 : Int32) &&& 31)) + (1 : Int32)) + (p2 &&& (65535 : Int32))) + (1 : Int32)) + (p3 &&& (65535 : Int32)))), .val (.ref b34), .unset, .unset, .unset]) X39 hx (hb hby at_83) rfl rfl rfl ?_
    refine own_goto (n := 108) X39 hx (hb hby at_85) (by decide) (by decide) ?_
    refine own_new (n := 111) X39 hx hZ hown (ww2 hw) (ww3 hw) (ww4 hw) e39 (hb hby at_108) (by decide) (by decide) rfl ?_
    intro T42 h42 b42 g42 X42 e42 E42 A42 D42
    have g_b42 : n0 ≤ b42 := Nat.le_trans Z_41 (Nat.le_of_eq g42.symm)
    have ne_b34_b42 : b34 ≠ b42 := own_ne E_40.lt g42
    have E_43 := E_40.ext E42
    have A_44 := V39.ext E42
    have Z_45 : n0 ≤ h42.size := Nat.le_trans Z_41 E42.1
    have F_46 : Fld Z h42 b42 "com/example/preorders_from_tests/preordersfromtests/lts/StateSet" "states" "[I" .null := D42 (Or.inr (ww12 hw)) (ty := (.array .int)) (by decide)
    have F_47 : Fld Z h42 b42 "com/example/preorders_from_tests/preordersfromtests/lts/StateSet" "hash" "I" (.int (0 : Int32)) := D42 (Or.inr (ww18 hw)) (ty := .int) (by decide)
    refine own_dup (n := 112) X42 hx (hb hby at_111) rfl rfl ?_
    refine own_aload (n := 114) X42 hx (hb hby at_112) rfl rfl rfl ?_
    refine own_I (n := 117) (argsL := [(.ref b34)]) (rest := [(.ref b42)]) (a := b42) (by rfl) X42 hx hZ hown (own_rmI2 l Z a0 hw b42 b34 k34 (p1 >>> ((1 : Int32) &&& 31)) (((p1 >>> ((1 : Int32) &&& 31)) + (1 : Int32)) + (p2 &&& (65535 : Int32))) h42 n0 Z_45 A42 F_46 F_47 A_44 E_43 g_b42) (ww5 hw) (ww6 hw) (ww4 hw) (ww7 hw) (by decide) e42 (by rw [hml]; rfl) (lenOf own_pd1 rfl) rfl (hb hby at_114) (Nat.le_of_ble_eq_true rfl) (Nat.le_of_ble_eq_true rfl) (Nat.le_of_ble_eq_true rfl) (Nat.le_of_ble_eq_true rfl) rfl ?_
    rintro v48 T48 L48 X48 ⟨rfl, Nq48, K48, Eq48, Fq48⟩
    have N48 := Fr.app N39 Nq48
    have E_49 := E_43.keep K48
    have A_50 := A_44.keep K48 (by simp [ne_b34_b42])
    have E_51 := A42.keep K48
    have Z_52 : n0 ≤ T48.heap.size := Nat.le_trans Z_45 K48.1
    change own_G p e below _ _ (mkF m 117 _ [(.ref b42)])
    refine own_astore (n := 119) (l' := #[.val (.int p0), .val (.int p1), .val (.int p2), .val (.int p3), .val (.int (2 : Int32)), .val (.int (p1 >>> ((1 : Int32) &&& 31))), .val (.int (((p1 >>> ((1 : Int32) &&& 31)) + (1 : Int32)) + (p2 &&& (65535 : Int32)))), .val (.int (((((p1 >>> ((1 : Int32) &&& 31)) + (1 : Int32)) + (p2 &&& (65535 : Int32))) + (1 : Int32)) + (p3 &&& (65535 : Int32)))), .val (.ref b34), .val (.ref b42), .unset, .unset]) X48 hx (hb hby at_117) rfl rfl rfl ?_
    refine own_aload (n := 121) X48 hx (hb hby at_119) rfl rfl rfl ?_
    refine own_V (n := 124) (argsL := []) (rest := []) (a := b42) X48 hx hZ hown (own_rm_isEmpty2 l Z a0 hw b42 b34 k34 (p1 >>> ((1 : Int32) &&& 31)) (((p1 >>> ((1 : Int32) &&& 31)) + (1 : Int32)) + (p2 &&& (65535 : Int32))) T48.heap n0 Z_52 Fq48 A_50) (ww19 hw) (ww20 hw) (notFace_of_selects (args := #[]) (mvT hZ (ww22 hw))) (ww22 hw) (ww21 hw) (ww4 hw) (ww23 hw) (by decide) rfl E_51 (by rw [hml]; rfl) (lenOf own_pd2 rfl) rfl (hb hby at_121) (Nat.le_of_ble_eq_true rfl) (Nat.le_of_ble_eq_true rfl) (Nat.le_of_ble_eq_true rfl) (Nat.le_of_ble_eq_true rfl) rfl ?_
    rintro v53 T53 L53 X53 ⟨rfl, Nq53, eq53⟩
    have N53 := Fr.app N48 Nq53
    change own_G p e below _ _ (mkF m 124 _ [(.int (0 : Int32))])
    refine own_istore (n := 126) (l' := #[.val (.int p0), .val (.int p1), .val (.int p2), .val (.int p3), .val (.int (2 : Int32)), .val (.int (p1 >>> ((1 : Int32) &&& 31))), .val (.int (((p1 >>> ((1 : Int32) &&& 31)) + (1 : Int32)) + (p2 &&& (65535 : Int32)))), .val (.int (((((p1 >>> ((1 : Int32) &&& 31)) + (1 : Int32)) + (p2 &&& (65535 : Int32))) + (1 : Int32)) + (p3 &&& (65535 : Int32)))), .val (.ref b34), .val (.ref b42), .val (.int (0 : Int32)), .unset]) X53 hx (hb hby at_124) rfl rfl ?_
    refine own_aload (n := 128) X53 hx (hb hby at_126) rfl rfl rfl ?_
    refine own_V (n := 131) (argsL := []) (rest := []) (a := b42) X53 hx hZ hown (own_rm_size2 l Z a0 hw b42 b34 k34 (p1 >>> ((1 : Int32) &&& 31)) (((p1 >>> ((1 : Int32) &&& 31)) + (1 : Int32)) + (p2 &&& (65535 : Int32))) T48.heap n0 Z_52 Fq48 A_50) (ww24 hw) (ww25 hw) (notFace_of_selects (args := #[]) (mvT hZ (ww27 hw))) (ww27 hw) (ww26 hw) (ww4 hw) (ww28 hw) (by decide) eq53 E_51 (by rw [hml]; rfl) (lenOf own_pd3 rfl) rfl (hb hby at_128) (Nat.le_of_ble_eq_true rfl) (Nat.le_of_ble_eq_true rfl) (Nat.le_of_ble_eq_true rfl) (Nat.le_of_ble_eq_true rfl) rfl ?_
    rintro v54 T54 L54 X54 ⟨rfl, Nq54, eq54⟩
    have N54 := Fr.app N53 Nq54
    change own_G p e below _ _ (mkF m 131 _ [(.int (2 : Int32))])
    refine own_istore (n := 133) (l' := #[.val (.int p0), .val (.int p1), .val (.int p2), .val (.int p3), .val (.int (2 : Int32)), .val (.int (p1 >>> ((1 : Int32) &&& 31))), .val (.int (((p1 >>> ((1 : Int32) &&& 31)) + (1 : Int32)) + (p2 &&& (65535 : Int32)))), .val (.int (((((p1 >>> ((1 : Int32) &&& 31)) + (1 : Int32)) + (p2 &&& (65535 : Int32))) + (1 : Int32)) + (p3 &&& (65535 : Int32)))), .val (.ref b34), .val (.ref b42), .val (.int (0 : Int32)), .val (.int (2 : Int32))]) X54 hx (hb hby at_131) rfl rfl ?_
    refine own_iload (n := 135) X54 hx (hb hby at_133) rfl rfl ?_
    refine own_iload (n := 137) X54 hx (hb hby at_135) rfl rfl ?_
    refine own_ifYes (n := 144) X54 hx (hb hby at_137) (feq (by decide : ¬ ((2 : Int32) = (0 : Int32)))).2 (by decide) (by decide) ?_
    refine own_iconst (n := 145) (z := (0 : Int32)) X54 hx (hb hby at_144) rfl rfl ?_
    refine own_icmpNo (n := 148) X54 hx (hb hby at_145) (teq (by decide : (0 : Int32) = (0 : Int32))).2 rfl ?_
    refine own_iload (n := 150) X54 hx (hb hby at_148) rfl rfl ?_
    refine own_iload (n := 152) X54 hx (hb hby at_150) rfl rfl ?_
    refine own_ifYes (n := 159) X54 hx (hb hby at_152) (feq (by decide : ¬ ((2 : Int32) = (0 : Int32)))).2 (by decide) (by decide) ?_
    refine own_iconst (n := 160) (z := (0 : Int32)) X54 hx (hb hby at_159) rfl rfl ?_
    refine own_icmpNo (n := 163) X54 hx (hb hby at_160) (teq (by decide : (0 : Int32) = (0 : Int32))).2 rfl ?_
    refine own_iload (n := 165) X54 hx (hb hby at_163) rfl rfl ?_
    refine own_iload (n := 167) X54 hx (hb hby at_165) rfl rfl ?_
    refine own_icmpNo (n := 170) X54 hx (hb hby at_167) (teq (by decide : (2 : Int32) = (2 : Int32))).2 rfl ?_
    refine own_iconst (n := 171) (z := (1 : Int32)) X54 hx (hb hby at_170) rfl rfl ?_
    refine own_goto (n := 175) X54 hx (hb hby at_171) (by decide) (by decide) ?_
    refine own_retZ X54 hx hlk hret (by simp) eq54 (w := (1 : Int32)) rfl (hb hby at_175) (by decide) (by decide) ?_
    exact ⟨rfl, N54⟩
  · rw [hs]
    refine own_iloadN (n := 6) X0 hx (hb hby at_5) rfl rfl ?_
    refine own_iconst (n := 7) (z := (1 : Int32)) X0 hx (hb hby at_6) rfl rfl ?_
    refine own_ishr (n := 8) X0 hx (hb hby at_7) rfl rfl ?_
    refine own_istore (n := 10) (l' := #[.val (.int p0), .val (.int p1), .val (.int p2), .val (.int p3), .val (.int (3 : Int32)), .val (.int (p1 >>> ((1 : Int32) &&& 31))), .unset, .unset, .unset, .unset, .unset, .unset]) X0 hx (hb hby at_8) rfl rfl ?_
    refine own_iload (n := 12) X0 hx (hb hby at_10) rfl rfl ?_
    refine own_iconst (n := 13) (z := (1 : Int32)) X0 hx (hb hby at_12) rfl rfl ?_
    refine own_iadd (n := 14) X0 hx (hb hby at_13) rfl rfl ?_
    refine own_iloadN (n := 15) X0 hx (hb hby at_14) rfl rfl ?_
    refine own_ldc (n := 17) (v := (65535 : Int32)) X0 hx hZ hown (ww0 hw) (hb hby at_15) rfl ?_
    refine own_iand (n := 18) X0 hx (hb hby at_17) rfl rfl ?_
    refine own_iadd (n := 19) X0 hx (hb hby at_18) rfl rfl ?_
    refine own_istore (n := 21) (l' := #[.val (.int p0), .val (.int p1), .val (.int p2), .val (.int p3), .val (.int (3 : Int32)), .val (.int (p1 >>> ((1 : Int32) &&& 31))), .val (.int (((p1 >>> ((1 : Int32) &&& 31)) + (1 : Int32)) + (p2 &&& (65535 : Int32)))), .unset, .unset, .unset, .unset, .unset]) X0 hx (hb hby at_19) rfl rfl ?_
    refine own_iload (n := 23) X0 hx (hb hby at_21) rfl rfl ?_
    refine own_iconst (n := 24) (z := (1 : Int32)) X0 hx (hb hby at_23) rfl rfl ?_
    refine own_iadd (n := 25) X0 hx (hb hby at_24) rfl rfl ?_
    refine own_iloadN (n := 26) X0 hx (hb hby at_25) rfl rfl ?_
    refine own_ldc (n := 28) (v := (65535 : Int32)) X0 hx hZ hown (ww0 hw) (hb hby at_26) rfl ?_
    refine own_iand (n := 29) X0 hx (hb hby at_28) rfl rfl ?_
    refine own_iadd (n := 30) X0 hx (hb hby at_29) rfl rfl ?_
    refine own_istore (n := 32) (l' := #[.val (.int p0), .val (.int p1), .val (.int p2), .val (.int p3), .val (.int (3 : Int32)), .val (.int (p1 >>> ((1 : Int32) &&& 31))), .val (.int (((p1 >>> ((1 : Int32) &&& 31)) + (1 : Int32)) + (p2 &&& (65535 : Int32)))), .val (.int (((((p1 >>> ((1 : Int32) &&& 31)) + (1 : Int32)) + (p2 &&& (65535 : Int32))) + (1 : Int32)) + (p3 &&& (65535 : Int32)))), .unset, .unset, .unset, .unset]) X0 hx (hb hby at_30) rfl rfl ?_
    refine own_iload (n := 34) X0 hx (hb hby at_32) rfl rfl ?_
    refine own_ifYes (n := 45) X0 hx (hb hby at_34) (feq (by decide : ¬ ((3 : Int32) = (0 : Int32)))).2 (by decide) (by decide) ?_
    refine own_iload (n := 47) X0 hx (hb hby at_45) rfl rfl ?_
    refine own_iconst (n := 48) (z := (1 : Int32)) X0 hx (hb hby at_47) rfl rfl ?_
    refine own_icmpYes (n := 64) X0 hx (hb hby at_48) (feq (by decide : ¬ ((3 : Int32) = (1 : Int32)))).2 (by decide) (by decide) ?_
    refine own_iload (n := 66) X0 hx (hb hby at_64) rfl rfl ?_
    refine own_iconst (n := 67) (z := (2 : Int32)) X0 hx (hb hby at_66) rfl rfl ?_
    refine own_icmpYes (n := 88) X0 hx (hb hby at_67) (feq (by decide : ¬ ((3 : Int32) = (2 : Int32)))).2 (by decide) (by decide) ?_
    refine own_iconst (n := 89) (z := (3 : Int32)) X0 hx (hb hby at_88) rfl rfl ?_
    refine own_newA (n := 91) X0 hx hZ own_an_int (ww1 hw) e0 (hb hby at_89) (by decide) (cap := 3) (by decide) (by decide) (by decide) (by decide) rfl ?_
    intro T55 h55 k55 b55 g55 X55 e55 E55 A55 B55
    have g_b55 : n0 ≤ b55 := Nat.le_trans Z0 (Nat.le_of_eq g55.symm)
    have Z_56 : n0 ≤ h55.size := Nat.le_trans Z0 E55.1
    have V55 : Arv Z h55 b55 k55 .int (3 : Int32) [(.int (0 : Int32)), (.int (0 : Int32)), (.int (0 : Int32))] (.int (0 : Int32)) := (Arv.new A55 (by decide)).pad (pad_rep [] (.int (0 : Int32)) 3)
    refine own_dup (n := 92) X55 hx (hb hby at_91) rfl rfl ?_
    refine own_iconst (n := 93) (z := (0 : Int32)) X55 hx (hb hby at_92) rfl rfl ?_
    refine own_iload (n := 95) X55 hx (hb hby at_93) rfl rfl ?_
    refine own_st_iastore (n := 96) X55 hx hZ e55 V55 ⟨by decide, by decide⟩ 0 rfl (Nat.le_of_ble_eq_true rfl) (hb hby at_95) rfl ?_
    intro T57 h57 X57 e57 W57 V57q
    have V57 : Arv Z h57 b55 k55 .int (3 : Int32) [(.int (p1 >>> ((1 : Int32) &&& 31))), (.int (0 : Int32)), (.int (0 : Int32))] (.int (0 : Int32)) := V57q
    have N57 := Fr.snoc X57 N0 g_b55
    have E_58 := B55.wr W57
    have Z_59 : n0 ≤ h57.size := by rw [W57.size]; exact Z_56
    refine own_dup (n := 97) X57 hx (hb hby at_96) rfl rfl ?_
    refine own_iconst (n := 98) (z := (1 : Int32)) X57 hx (hb hby at_97) rfl rfl ?_
    refine own_iload (n := 100) X57 hx (hb hby at_98) rfl rfl ?_
    refine own_st_iastore (n := 101) X57 hx hZ e57 V57 ⟨by decide, by decide⟩ 1 rfl (Nat.le_of_ble_eq_true rfl) (hb hby at_100) rfl ?_
    intro T60 h60 X60 e60 W60 V60q
    have V60 : Arv Z h60 b55 k55 .int (3 : Int32) [(.int (p1 >>> ((1 : Int32) &&& 31))), (.int (((p1 >>> ((1 : Int32) &&& 31)) + (1 : Int32)) + (p2 &&& (65535 : Int32)))), (.int (0 : Int32))] (.int (0 : Int32)) := V60q
    have N60 := Fr.snoc X60 N57 g_b55
    have E_61 := E_58.wr W60
    have Z_62 : n0 ≤ h60.size := by rw [W60.size]; exact Z_59
    refine own_dup (n := 102) X60 hx (hb hby at_101) rfl rfl ?_
    refine own_iconst (n := 103) (z := (2 : Int32)) X60 hx (hb hby at_102) rfl rfl ?_
    refine own_iload (n := 105) X60 hx (hb hby at_103) rfl rfl ?_
    refine own_st_iastore (n := 106) X60 hx hZ e60 V60 ⟨by decide, by decide⟩ 2 rfl (Nat.le_of_ble_eq_true rfl) (hb hby at_105) rfl ?_
    intro T63 h63 X63 e63 W63 V63q
    have V63 : Arv Z h63 b55 k55 .int (3 : Int32) [(.int (p1 >>> ((1 : Int32) &&& 31))), (.int (((p1 >>> ((1 : Int32) &&& 31)) + (1 : Int32)) + (p2 &&& (65535 : Int32)))), (.int (((((p1 >>> ((1 : Int32) &&& 31)) + (1 : Int32)) + (p2 &&& (65535 : Int32))) + (1 : Int32)) + (p3 &&& (65535 : Int32))))] (.int (0 : Int32)) := V63q
    have N63 := Fr.snoc X63 N60 g_b55
    have E_64 := E_61.wr W63
    have Z_65 : n0 ≤ h63.size := by rw [W63.size]; exact Z_62
    refine own_astore (n := 108) (l' := #[.val (.int p0), .val (.int p1), .val (.int p2), .val (.int p3), .val (.int (3 : Int32)), .val (.int (p1 >>> ((1 : Int32) &&& 31))), .val (.int (((p1 >>> ((1 : Int32) &&& 31)) + (1 : Int32)) + (p2 &&& (65535 : Int32)))), .val (.int (((((p1 >>> ((1 : Int32) &&& 31)) + (1 : Int32)) + (p2 &&& (65535 : Int32))) + (1 : Int32)) + (p3 &&& (65535 : Int32)))), .val (.ref b55), .unset, .unset, .unset]) X63 hx (hb hby at_106) rfl rfl rfl ?_
    refine own_new (n := 111) X63 hx hZ hown (ww2 hw) (ww3 hw) (ww4 hw) e63 (hb hby at_108) (by decide) (by decide) rfl ?_
    intro T66 h66 b66 g66 X66 e66 E66 A66 D66
    have g_b66 : n0 ≤ b66 := Nat.le_trans Z_65 (Nat.le_of_eq g66.symm)
    have ne_b55_b66 : b55 ≠ b66 := own_ne E_64.lt g66
    have E_67 := E_64.ext E66
    have A_68 := V63.ext E66
    have Z_69 : n0 ≤ h66.size := Nat.le_trans Z_65 E66.1
    have F_70 : Fld Z h66 b66 "com/example/preorders_from_tests/preordersfromtests/lts/StateSet" "states" "[I" .null := D66 (Or.inr (ww12 hw)) (ty := (.array .int)) (by decide)
    have F_71 : Fld Z h66 b66 "com/example/preorders_from_tests/preordersfromtests/lts/StateSet" "hash" "I" (.int (0 : Int32)) := D66 (Or.inr (ww18 hw)) (ty := .int) (by decide)
    refine own_dup (n := 112) X66 hx (hb hby at_111) rfl rfl ?_
    refine own_aload (n := 114) X66 hx (hb hby at_112) rfl rfl rfl ?_
    refine own_I (n := 117) (argsL := [(.ref b55)]) (rest := [(.ref b66)]) (a := b66) (by rfl) X66 hx hZ hown (own_rmI3 l Z a0 hw b66 b55 k55 (p1 >>> ((1 : Int32) &&& 31)) (((p1 >>> ((1 : Int32) &&& 31)) + (1 : Int32)) + (p2 &&& (65535 : Int32))) (((((p1 >>> ((1 : Int32) &&& 31)) + (1 : Int32)) + (p2 &&& (65535 : Int32))) + (1 : Int32)) + (p3 &&& (65535 : Int32))) h66 n0 Z_69 A66 F_70 F_71 A_68 E_67 g_b66) (ww5 hw) (ww6 hw) (ww4 hw) (ww7 hw) (by decide) e66 (by rw [hml]; rfl) (lenOf own_pd1 rfl) rfl (hb hby at_114) (Nat.le_of_ble_eq_true rfl) (Nat.le_of_ble_eq_true rfl) (Nat.le_of_ble_eq_true rfl) (Nat.le_of_ble_eq_true rfl) rfl ?_
    rintro v72 T72 L72 X72 ⟨rfl, Nq72, K72, Eq72, Fq72⟩
    have N72 := Fr.app N63 Nq72
    have E_73 := E_67.keep K72
    have A_74 := A_68.keep K72 (by simp [ne_b55_b66])
    have E_75 := A66.keep K72
    have Z_76 : n0 ≤ T72.heap.size := Nat.le_trans Z_69 K72.1
    change own_G p e below _ _ (mkF m 117 _ [(.ref b66)])
    refine own_astore (n := 119) (l' := #[.val (.int p0), .val (.int p1), .val (.int p2), .val (.int p3), .val (.int (3 : Int32)), .val (.int (p1 >>> ((1 : Int32) &&& 31))), .val (.int (((p1 >>> ((1 : Int32) &&& 31)) + (1 : Int32)) + (p2 &&& (65535 : Int32)))), .val (.int (((((p1 >>> ((1 : Int32) &&& 31)) + (1 : Int32)) + (p2 &&& (65535 : Int32))) + (1 : Int32)) + (p3 &&& (65535 : Int32)))), .val (.ref b55), .val (.ref b66), .unset, .unset]) X72 hx (hb hby at_117) rfl rfl rfl ?_
    refine own_aload (n := 121) X72 hx (hb hby at_119) rfl rfl rfl ?_
    refine own_V (n := 124) (argsL := []) (rest := []) (a := b66) X72 hx hZ hown (own_rm_isEmpty3 l Z a0 hw b66 b55 k55 (p1 >>> ((1 : Int32) &&& 31)) (((p1 >>> ((1 : Int32) &&& 31)) + (1 : Int32)) + (p2 &&& (65535 : Int32))) (((((p1 >>> ((1 : Int32) &&& 31)) + (1 : Int32)) + (p2 &&& (65535 : Int32))) + (1 : Int32)) + (p3 &&& (65535 : Int32))) T72.heap n0 Z_76 Fq72 A_74) (ww19 hw) (ww20 hw) (notFace_of_selects (args := #[]) (mvT hZ (ww22 hw))) (ww22 hw) (ww21 hw) (ww4 hw) (ww23 hw) (by decide) rfl E_75 (by rw [hml]; rfl) (lenOf own_pd2 rfl) rfl (hb hby at_121) (Nat.le_of_ble_eq_true rfl) (Nat.le_of_ble_eq_true rfl) (Nat.le_of_ble_eq_true rfl) (Nat.le_of_ble_eq_true rfl) rfl ?_
    rintro v77 T77 L77 X77 ⟨rfl, Nq77, eq77⟩
    have N77 := Fr.app N72 Nq77
    change own_G p e below _ _ (mkF m 124 _ [(.int (0 : Int32))])
    refine own_istore (n := 126) (l' := #[.val (.int p0), .val (.int p1), .val (.int p2), .val (.int p3), .val (.int (3 : Int32)), .val (.int (p1 >>> ((1 : Int32) &&& 31))), .val (.int (((p1 >>> ((1 : Int32) &&& 31)) + (1 : Int32)) + (p2 &&& (65535 : Int32)))), .val (.int (((((p1 >>> ((1 : Int32) &&& 31)) + (1 : Int32)) + (p2 &&& (65535 : Int32))) + (1 : Int32)) + (p3 &&& (65535 : Int32)))), .val (.ref b55), .val (.ref b66), .val (.int (0 : Int32)), .unset]) X77 hx (hb hby at_124) rfl rfl ?_
    refine own_aload (n := 128) X77 hx (hb hby at_126) rfl rfl rfl ?_
    refine own_V (n := 131) (argsL := []) (rest := []) (a := b66) X77 hx hZ hown (own_rm_size3 l Z a0 hw b66 b55 k55 (p1 >>> ((1 : Int32) &&& 31)) (((p1 >>> ((1 : Int32) &&& 31)) + (1 : Int32)) + (p2 &&& (65535 : Int32))) (((((p1 >>> ((1 : Int32) &&& 31)) + (1 : Int32)) + (p2 &&& (65535 : Int32))) + (1 : Int32)) + (p3 &&& (65535 : Int32))) T72.heap n0 Z_76 Fq72 A_74) (ww24 hw) (ww25 hw) (notFace_of_selects (args := #[]) (mvT hZ (ww27 hw))) (ww27 hw) (ww26 hw) (ww4 hw) (ww28 hw) (by decide) eq77 E_75 (by rw [hml]; rfl) (lenOf own_pd3 rfl) rfl (hb hby at_128) (Nat.le_of_ble_eq_true rfl) (Nat.le_of_ble_eq_true rfl) (Nat.le_of_ble_eq_true rfl) (Nat.le_of_ble_eq_true rfl) rfl ?_
    rintro v78 T78 L78 X78 ⟨rfl, Nq78, eq78⟩
    have N78 := Fr.app N77 Nq78
    change own_G p e below _ _ (mkF m 131 _ [(.int (3 : Int32))])
    refine own_istore (n := 133) (l' := #[.val (.int p0), .val (.int p1), .val (.int p2), .val (.int p3), .val (.int (3 : Int32)), .val (.int (p1 >>> ((1 : Int32) &&& 31))), .val (.int (((p1 >>> ((1 : Int32) &&& 31)) + (1 : Int32)) + (p2 &&& (65535 : Int32)))), .val (.int (((((p1 >>> ((1 : Int32) &&& 31)) + (1 : Int32)) + (p2 &&& (65535 : Int32))) + (1 : Int32)) + (p3 &&& (65535 : Int32)))), .val (.ref b55), .val (.ref b66), .val (.int (0 : Int32)), .val (.int (3 : Int32))]) X78 hx (hb hby at_131) rfl rfl ?_
    refine own_iload (n := 135) X78 hx (hb hby at_133) rfl rfl ?_
    refine own_iload (n := 137) X78 hx (hb hby at_135) rfl rfl ?_
    refine own_ifYes (n := 144) X78 hx (hb hby at_137) (feq (by decide : ¬ ((3 : Int32) = (0 : Int32)))).2 (by decide) (by decide) ?_
    refine own_iconst (n := 145) (z := (0 : Int32)) X78 hx (hb hby at_144) rfl rfl ?_
    refine own_icmpNo (n := 148) X78 hx (hb hby at_145) (teq (by decide : (0 : Int32) = (0 : Int32))).2 rfl ?_
    refine own_iload (n := 150) X78 hx (hb hby at_148) rfl rfl ?_
    refine own_iload (n := 152) X78 hx (hb hby at_150) rfl rfl ?_
    refine own_ifYes (n := 159) X78 hx (hb hby at_152) (feq (by decide : ¬ ((3 : Int32) = (0 : Int32)))).2 (by decide) (by decide) ?_
    refine own_iconst (n := 160) (z := (0 : Int32)) X78 hx (hb hby at_159) rfl rfl ?_
    refine own_icmpNo (n := 163) X78 hx (hb hby at_160) (teq (by decide : (0 : Int32) = (0 : Int32))).2 rfl ?_
    refine own_iload (n := 165) X78 hx (hb hby at_163) rfl rfl ?_
    refine own_iload (n := 167) X78 hx (hb hby at_165) rfl rfl ?_
    refine own_icmpNo (n := 170) X78 hx (hb hby at_167) (teq (by decide : (3 : Int32) = (3 : Int32))).2 rfl ?_
    refine own_iconst (n := 171) (z := (1 : Int32)) X78 hx (hb hby at_170) rfl rfl ?_
    refine own_goto (n := 175) X78 hx (hb hby at_171) (by decide) (by decide) ?_
    refine own_retZ X78 hx hlk hret (by simp) eq78 (w := (1 : Int32)) rfl (hb hby at_175) (by decide) (by decide) ?_
    exact ⟨rfl, N78⟩
set_option maxRecDepth 65536 in
set_option maxHeartbeats 40000000 in
theorem comes_1 {Post : Tables → Env → Array Value → State → Outcome → State → Prop} (hpost : ∀ tb e args s v u, (limb_1_1.after args s (.returned v) u = true ∧ limb_1_2.after args s (.returned v) u = true ∧ True) → FrameEnd s (.returned v) u (Jvm.fieldLocs frame_1_writes args s ++ Jvm.arrayLocs frame_1_arrays args s ++ Jvm.staticLocs frame_1_statics s) 16 128 → Post tb e args s (.returned v) u) :
    ArmFor flags0 classFile x code maxLocals ret World_1 tables_1 room_1 Calls_1 rest_1 Pre_1 Post := by
  intro l hfl _ _ p e ha hc hk s m args below hf hA hF happ hP
  obtain ⟨hcalls, hrest, hpre⟩ := hP
  obtain ⟨-, -, -, hnamed, -, -, -, hat⟩ := (Spec.applies_iff hf).mp happ
  obtain ⟨hg, hn⟩ := and_e (Cond.before_iff.mp (show (Jvm.Cond.and given_1 narrow_1).before args s = true from hpre))
  obtain ⟨hcount, hr0⟩ := and_e hg
  obtain ⟨ha0, hr1⟩ := and_e hr0
  obtain ⟨ha1, hr2⟩ := and_e hr1
  obtain ⟨ha2, hr3⟩ := and_e hr2
  obtain ⟨w0, w1, w2, w3, rfl⟩ : ∃ w0 w1 w2 w3 : Value, args = #[w0, w1, w2, w3] := by
    have hs : args.size = 4 := by simpa [Cond.value, given_1] using hcount
    obtain ⟨L⟩ := args
    match L, hs with
    | [w0, w1, w2, w3], _ => exact ⟨w0, w1, w2, w3, rfl⟩
  have hw := fun d (hd : d ∈ tables_1) => atoms_spec (ws := Jvm.Cond.code x code maxLocals ret :: tables_1) hat d (List.mem_cons_of_mem _ hd)
  have hfit : Fit s := fun {y c} hc i hi => by
    obtain ⟨ha, rfl⟩ := Array.getElem?_eq_some_iff.mp hc
    have q := List.all_eq_true.mp ((Array.all_eq_true_iff_forall_mem.mp hF) _ (Array.getElem_mem ha)) i (List.mem_range.mpr hi)
    simpa [Array.getElem?_eq_getElem hi] using q
  obtain ⟨i0, ev0⟩ := is_v ha0
  obtain rfl : w0 = (.int i0) := Option.some.inj ev0
  obtain ⟨i1, ev1⟩ := is_v ha1
  obtain rfl : w1 = (.int i1) := Option.some.inj ev1
  obtain ⟨i2, ev2⟩ := is_v ha2
  obtain rfl : w2 = (.int i2) := Option.some.inj ev2
  obtain ⟨i3, ev3⟩ := is_v hr3
  obtain rfl : w3 = (.int i3) := Option.some.inj ev3
  obtain ⟨n, o, h1, h2, h3, _, L, rfl, ⟨rfl, N⟩, hq⟩ := own_rm0 l s _ hw i0 i1 i2 i3 s.heap s.heap.size (Nat.le_refl _) p e ha hc hk s m _ below hf ((Spec.applies_iff_loose hf).mp happ).1 ⟨rfl, State.Warmed39.refl s, rfl⟩ trivial
  refine ⟨n, _, h1, h2, h3, hpost _ _ _ _ _ _ ⟨Cond.after_iff.mpr rfl, Cond.after_iff.mpr (eq_i res_at (Term.int_eval (1)) rfl), trivial⟩ ⟨hq.1, hq.2.1, (hq.2.2.sift fun y hy => Or.inr (N y hy)).mono (by decide) (by decide)⟩⟩
theorem main_1_1 : Claimed_1_1 := comes_1 fun _ _ _ _ _ _ h hF => ⟨h.1, hF⟩
theorem main_1_2 : Claimed_1_2 := comes_1 fun _ _ _ _ _ _ h hF => ⟨h.2.1, hF⟩
end Jvm.Pilot.@@N@@
namespace Jvm.Pilot.@@N@@
open Jvm Jvm.ClassFile Sem Op Lib Jvm.Free Jvm.Stand Jvm.Pilot.@@N@@.Jvm.D
/-! MADE BY PROGRAM (witnessworld.py) out of the Statement's table words and the real class files: 11 classes; the members and pool entries that the words name. The judged class is class 1, her method 1. -/
namespace start1
open Jvm.ClassFile
def u (s : String) : CpInfo := .utf8 (stringToUtf16 s)
/-- a pool by its gaps: so many unusable entries, then the entry; so many at the end -/
def gap : Nat → List CpInfo → List CpInfo
  | 0, r => r
  | n + 1, r => .unusable :: gap n r
def poolList (es : List (Nat × CpInfo)) (last : Nat) : List CpInfo := es.foldr (fun e r => gap e.1 (e.2 :: r)) (gap last [])
def pool (es : List (Nat × CpInfo)) (last : Nat) : Array CpInfo := ⟨poolList es last⟩
def fileOf (pool : Array CpInfo) (this : Nat) (attrs : Array Attribute := #[]) (ms : Array MethodInfo := #[]) (fl : Nat := 33) (sup : Nat := 0) (ifs : Array Nat := #[]) (fds : Array FieldInfo := #[]) : ClassFile where
  minorVersion := 0
  majorVersion := 65
  constantPool := pool
  accessFlags := fl
  thisClass := this
  superClass := sup
  interfaces := ifs
  fields := fds
  methods := ms
  attributes := attrs
def plain (name : String) (sup : Option ClassId) : Class where
  name := name
  kind := .ordinary
  loader := none
  accessFlags := 33
  super := sup
  interfaces := #[]
  cf := none
  fields := #[]
  methods := #[]
  instanceTypes := #[]
  staticTypes := #[]
  resolved := #[]
  callSites := []
  init := .initialized
  statics := none
  mirror := none

def pool0 : Array CpInfo := pool [(5, u "<init>"), (0, u "()V"), (1, .class_ 10), (1, u "java/lang/Object")] 113

def k0c0 : Code := { maxStack := 0, maxLocals := 1, code := object_method_1_code, exceptionTable := #[], attributes := #[] }
def k0m0 : Method := { name := "<init>", desc := "()V", sig := { parameters := [], returnType := none }, accessFlags := 1, code := some k0c0 }
/-- java/lang/Object -/
def k0 : Class := { plain "java/lang/Object" none with
  accessFlags := 33
  interfaces := #[]
  cf := some (fileOf pool0 8 #[] #[{ accessFlags := 1, nameIndex := 5, descriptorIndex := 6, attributes := #[] }] 33 0 #[] #[])
  fields := #[]
  methods := #[k0m0]
  instanceTypes := #[]
  staticTypes := #[]
  resolved := Array.replicate 124 none
  statics := none }

def pool1 : Array CpInfo := pool [(2, .class_ 4), (1, u "java/lang/Object"), (0, u "<init>"), (0, u "()V"), (0, .integer 65535), (0, .class_ 9), (0, u "com/example/preorders_from_tests/preordersfromtests/lts/StateSet"), (0, .methodref 8 11), (0, .nameAndType 5 12), (0, u "([I)V"), (0, .methodref 8 14), (0, .nameAndType 15 16), (0, u "isEmpty"), (0, u "()Z"), (0, .methodref 8 18), (0, .nameAndType 19 20), (0, u "size"), (0, u "()I"), (0, .class_ 22), (0, u "com/example/preorders_from_tests/preordersfromtests/lts/StateSetIsEmptyPinLaw"), (2, u "law"), (0, u "(IIII)Z")] 5

def k1m0 : Method := { name := "<init>", desc := "()V", sig := { parameters := [], returnType := none }, accessFlags := 1, code := none }
def k1c1 : Code := { maxStack := 4, maxLocals := 12, code := code, exceptionTable := #[], attributes := #[] }
def k1m1 : Method := { name := "law", desc := "(IIII)Z", sig := { parameters := [.int, .int, .int, .int], returnType := some .boolean }, accessFlags := 9, code := some k1c1 }
/-- com/example/preorders_from_tests/preordersfromtests/lts/StateSetIsEmptyPinLaw -/
def k1 : Class := { plain "com/example/preorders_from_tests/preordersfromtests/lts/StateSetIsEmptyPinLaw" (some 0) with
  accessFlags := 49
  interfaces := #[]
  cf := some (fileOf pool1 21 #[] #[{ accessFlags := 1, nameIndex := 5, descriptorIndex := 6, attributes := #[] }, { accessFlags := 9, nameIndex := 25, descriptorIndex := 26, attributes := #[] }] 49 2 #[] #[])
  fields := #[]
  methods := #[k1m0, k1m1]
  instanceTypes := #[]
  staticTypes := #[]
  resolved := Array.replicate 32 none
  statics := none }

def pool2 : Array CpInfo := pool [(1, .methodref 2 3), (0, .class_ 4), (0, .nameAndType 5 6), (0, u "java/lang/Object"), (0, u "<init>"), (0, u "()V"), (0, .fieldref 8 9), (0, .class_ 10), (0, .nameAndType 11 12), (0, u "com/example/preorders_from_tests/preordersfromtests/lts/StateSet"), (0, u "states"), (0, u "[I"), (0, .methodref 14 15), (0, .class_ 16), (0, .nameAndType 17 18), (0, u "java/util/Arrays"), (0, u "hashCode"), (0, u "([I)I"), (0, .fieldref 8 20), (0, .nameAndType 21 22), (0, u "hash"), (0, u "I"), (8, u "([I)V"), (2, u "size"), (0, u "()I"), (0, u "isEmpty"), (0, u "()Z")] 7

def k2c0 : Code := { maxStack := 2, maxLocals := 2, code := prog_37_method_1_code, exceptionTable := #[], attributes := #[] }
def k2m0 : Method := { name := "<init>", desc := "([I)V", sig := { parameters := [(.array .int)], returnType := none }, accessFlags := 0, code := some k2c0 }
def k2c1 : Code := { maxStack := 1, maxLocals := 1, code := prog_37_method_2_code, exceptionTable := #[], attributes := #[] }
def k2m1 : Method := { name := "size", desc := "()I", sig := { parameters := [], returnType := some .int }, accessFlags := 1, code := some k2c1 }
def k2c2 : Code := { maxStack := 1, maxLocals := 1, code := prog_37_method_3_code, exceptionTable := #[], attributes := #[] }
def k2m2 : Method := { name := "isEmpty", desc := "()Z", sig := { parameters := [], returnType := some .boolean }, accessFlags := 1, code := some k2c2 }
/-- com/example/preorders_from_tests/preordersfromtests/lts/StateSet -/
def k2 : Class := { plain "com/example/preorders_from_tests/preordersfromtests/lts/StateSet" (some 0) with
  accessFlags := 49
  interfaces := #[]
  cf := some (fileOf pool2 8 #[] #[{ accessFlags := 0, nameIndex := 5, descriptorIndex := 31, attributes := #[] }, { accessFlags := 1, nameIndex := 34, descriptorIndex := 35, attributes := #[] }, { accessFlags := 1, nameIndex := 36, descriptorIndex := 37, attributes := #[] }] 49 2 #[] #[{ accessFlags := 18, nameIndex := 11, descriptorIndex := 12, attributes := #[] }, { accessFlags := 18, nameIndex := 21, descriptorIndex := 22, attributes := #[] }])
  fields := #[{ name := "states", type := (.array .int), accessFlags := 18, slot := 0, constantValue := 0 }, { name := "hash", type := .int, accessFlags := 18, slot := 1, constantValue := 0 }]
  methods := #[k2m0, k2m1, k2m2]
  instanceTypes := #[(.array .int), .int]
  staticTypes := #[]
  resolved := Array.replicate 45 none
  statics := none }

def pool3 : Array CpInfo := pool [(2, .class_ 4), (1, u "java/lang/Object"), (0, u "<init>"), (0, u "()V"), (7, .class_ 16), (1, u "java/util/Arrays"), (57, .class_ 76), (1, u "java/util/Arrays$NaturalOrder"), (36, .class_ 115), (1, u "java/util/Arrays$LegacyMergeSort"), (1, u "Z"), (128, .class_ 248), (1, u "jdk/internal/util/ArraysSupport"), (126, .class_ 376), (0, u "java/util/Arrays$ArrayList"), (2, .methodref 246 380), (0, .nameAndType 381 382), (0, u "vectorizedHashCode"), (0, u "(Ljava/lang/Object;IIII)I"), (2, u "hashCode"), (22, u "([I)I"), (36, u "$assertionsDisabled"), (269, u "MIN_ARRAY_SORT_GRAN"), (0, u "I"), (2, u "INSERTIONSORT_THRESHOLD"), (255, .class_ 976), (0, u "java/util/Arrays$ArrayItr")] 52

def k3m0 : Method := { name := "<init>", desc := "()V", sig := { parameters := [], returnType := none }, accessFlags := 2, code := none }
def k3c1 : Code := { maxStack := 5, maxLocals := 1, code := jdk_65_method_150_code, exceptionTable := #[], attributes := #[] }
def k3m1 : Method := { name := "hashCode", desc := "([I)I", sig := { parameters := [(.array .int)], returnType := some .int }, accessFlags := 9, code := some k3c1 }
/-- java/util/Arrays -/
def k3 : Class := { plain "java/util/Arrays" (some 0) with
  accessFlags := 49
  interfaces := #[]
  cf := some (fileOf pool3 14 #[.nestMembers #[975, 375, 113, 74]] #[{ accessFlags := 2, nameIndex := 5, descriptorIndex := 6, attributes := #[] }, { accessFlags := 9, nameIndex := 385, descriptorIndex := 408, attributes := #[] }] 49 2 #[] #[{ accessFlags := 26, nameIndex := 715, descriptorIndex := 716, attributes := #[] }, { accessFlags := 26, nameIndex := 719, descriptorIndex := 716, attributes := #[] }, { accessFlags := 4120, nameIndex := 445, descriptorIndex := 117, attributes := #[] }])
  fields := #[{ name := "MIN_ARRAY_SORT_GRAN", type := .int, accessFlags := 26, slot := 0, constantValue := 0 }, { name := "INSERTIONSORT_THRESHOLD", type := .int, accessFlags := 26, slot := 1, constantValue := 0 }, { name := "$assertionsDisabled", type := .boolean, accessFlags := 4120, slot := 2, constantValue := 0 }]
  methods := #[k3m0, k3m1]
  instanceTypes := #[]
  staticTypes := #[.int, .int, .boolean]
  resolved := Array.replicate 1029 none
  statics := none }

def pool4 : Array CpInfo := pool [(9, u "<init>"), (6, .class_ 18), (1, u "java/lang/Object"), (0, u "()V"), (1, .class_ 23), (1, u "jdk/internal/util/ArraysSupport"), (0, u "LOG2_ARRAY_LONG_INDEX_SCALE"), (0, u "I"), (2, u "U"), (0, u "Ljdk/internal/misc/Unsafe;"), (8, u "BIG_ENDIAN"), (0, u "Z"), (8, u "LOG2_BYTE_BIT_SIZE"), (4, u "LOG2_ARRAY_INT_INDEX_SCALE"), (19, u "hashCode"), (8, .class_ 83), (0, u "[I"), (0, .methodref 21 85), (0, .nameAndType 73 86), (0, u "(I[III)I"), (21, u "JLA"), (0, u "Ljdk/internal/access/JavaLangAccess;"), (11, u "LOG2_ARRAY_BOOLEAN_INDEX_SCALE"), (9, u "LOG2_ARRAY_BYTE_INDEX_SCALE"), (5, u "LOG2_ARRAY_CHAR_INDEX_SCALE"), (5, u "LOG2_ARRAY_SHORT_INDEX_SCALE"), (18, u "LOG2_ARRAY_FLOAT_INDEX_SCALE"), (24, u "LOG2_ARRAY_DOUBLE_INDEX_SCALE"), (89, u "T_BOOLEAN"), (2, u "T_CHAR"), (1, u "T_FLOAT"), (1, u "T_DOUBLE"), (1, u "T_BYTE"), (1, u "T_SHORT"), (1, u "T_INT"), (1, u "T_LONG"), (1, u "SOFT_MAX_ARRAY_LENGTH"), (26, u "vectorizedHashCode"), (0, u "(Ljava/lang/Object;IIII)I")] 55

def k4m0 : Method := { name := "<init>", desc := "()V", sig := { parameters := [], returnType := none }, accessFlags := 2, code := none }
def k4c1 : Code := { maxStack := 4, maxLocals := 5, code := jdk_48_method_4_code, exceptionTable := #[], attributes := #[] }
def k4m1 : Method := { name := "vectorizedHashCode", desc := "(Ljava/lang/Object;IIII)I", sig := { parameters := [(.object "java/lang/Object"), .int, .int, .int, .int], returnType := some .int }, accessFlags := 9, code := some k4c1 }
def k4c2 : Code := { maxStack := 3, maxLocals := 6, code := jdk_48_method_9_code, exceptionTable := #[], attributes := #[] }
def k4m2 : Method := { name := "hashCode", desc := "(I[III)I", sig := { parameters := [.int, (.array .int), .int, .int], returnType := some .int }, accessFlags := 10, code := some k4c2 }
/-- jdk/internal/util/ArraysSupport -/
def k4 : Class := { plain "jdk/internal/util/ArraysSupport" (some 0) with
  accessFlags := 33
  interfaces := #[]
  cf := some (fileOf pool4 21 #[] #[{ accessFlags := 2, nameIndex := 9, descriptorIndex := 19, attributes := #[] }, { accessFlags := 9, nameIndex := 321, descriptorIndex := 322, attributes := #[] }, { accessFlags := 10, nameIndex := 73, descriptorIndex := 86, attributes := #[] }] 33 16 #[] #[{ accessFlags := 24, nameIndex := 28, descriptorIndex := 29, attributes := #[] }, { accessFlags := 26, nameIndex := 38, descriptorIndex := 39, attributes := #[] }, { accessFlags := 25, nameIndex := 121, descriptorIndex := 25, attributes := #[] }, { accessFlags := 25, nameIndex := 131, descriptorIndex := 25, attributes := #[] }, { accessFlags := 25, nameIndex := 137, descriptorIndex := 25, attributes := #[] }, { accessFlags := 25, nameIndex := 143, descriptorIndex := 25, attributes := #[] }, { accessFlags := 25, nameIndex := 53, descriptorIndex := 25, attributes := #[] }, { accessFlags := 25, nameIndex := 24, descriptorIndex := 25, attributes := #[] }, { accessFlags := 25, nameIndex := 162, descriptorIndex := 25, attributes := #[] }, { accessFlags := 25, nameIndex := 187, descriptorIndex := 25, attributes := #[] }, { accessFlags := 26, nameIndex := 48, descriptorIndex := 25, attributes := #[] }, { accessFlags := 25, nameIndex := 277, descriptorIndex := 25, attributes := #[] }, { accessFlags := 25, nameIndex := 280, descriptorIndex := 25, attributes := #[] }, { accessFlags := 25, nameIndex := 282, descriptorIndex := 25, attributes := #[] }, { accessFlags := 25, nameIndex := 284, descriptorIndex := 25, attributes := #[] }, { accessFlags := 25, nameIndex := 286, descriptorIndex := 25, attributes := #[] }, { accessFlags := 25, nameIndex := 288, descriptorIndex := 25, attributes := #[] }, { accessFlags := 25, nameIndex := 290, descriptorIndex := 25, attributes := #[] }, { accessFlags := 25, nameIndex := 292, descriptorIndex := 25, attributes := #[] }, { accessFlags := 26, nameIndex := 108, descriptorIndex := 109, attributes := #[] }, { accessFlags := 25, nameIndex := 294, descriptorIndex := 25, attributes := #[] }])
  fields := #[{ name := "U", type := (.object "jdk/internal/misc/Unsafe"), accessFlags := 24, slot := 0, constantValue := 0 }, { name := "BIG_ENDIAN", type := .boolean, accessFlags := 26, slot := 1, constantValue := 0 }, { name := "LOG2_ARRAY_BOOLEAN_INDEX_SCALE", type := .int, accessFlags := 25, slot := 2, constantValue := 0 }, { name := "LOG2_ARRAY_BYTE_INDEX_SCALE", type := .int, accessFlags := 25, slot := 3, constantValue := 0 }, { name := "LOG2_ARRAY_CHAR_INDEX_SCALE", type := .int, accessFlags := 25, slot := 4, constantValue := 0 }, { name := "LOG2_ARRAY_SHORT_INDEX_SCALE", type := .int, accessFlags := 25, slot := 5, constantValue := 0 }, { name := "LOG2_ARRAY_INT_INDEX_SCALE", type := .int, accessFlags := 25, slot := 6, constantValue := 0 }, { name := "LOG2_ARRAY_LONG_INDEX_SCALE", type := .int, accessFlags := 25, slot := 7, constantValue := 0 }, { name := "LOG2_ARRAY_FLOAT_INDEX_SCALE", type := .int, accessFlags := 25, slot := 8, constantValue := 0 }, { name := "LOG2_ARRAY_DOUBLE_INDEX_SCALE", type := .int, accessFlags := 25, slot := 9, constantValue := 0 }, { name := "LOG2_BYTE_BIT_SIZE", type := .int, accessFlags := 26, slot := 10, constantValue := 0 }, { name := "T_BOOLEAN", type := .int, accessFlags := 25, slot := 11, constantValue := 0 }, { name := "T_CHAR", type := .int, accessFlags := 25, slot := 12, constantValue := 0 }, { name := "T_FLOAT", type := .int, accessFlags := 25, slot := 13, constantValue := 0 }, { name := "T_DOUBLE", type := .int, accessFlags := 25, slot := 14, constantValue := 0 }, { name := "T_BYTE", type := .int, accessFlags := 25, slot := 15, constantValue := 0 }, { name := "T_SHORT", type := .int, accessFlags := 25, slot := 16, constantValue := 0 }, { name := "T_INT", type := .int, accessFlags := 25, slot := 17, constantValue := 0 }, { name := "T_LONG", type := .int, accessFlags := 25, slot := 18, constantValue := 0 }, { name := "JLA", type := (.object "jdk/internal/access/JavaLangAccess"), accessFlags := 26, slot := 19, constantValue := 0 }, { name := "SOFT_MAX_ARRAY_LENGTH", type := .int, accessFlags := 25, slot := 20, constantValue := 0 }]
  methods := #[k4m0, k4m1, k4m2]
  instanceTypes := #[]
  staticTypes := #[(.object "jdk/internal/misc/Unsafe"), .boolean, .int, .int, .int, .int, .int, .int, .int, .int, .int, .int, .int, .int, .int, .int, .int, .int, .int, (.object "jdk/internal/access/JavaLangAccess"), .int]
  resolved := Array.replicate 378 none
  statics := none }

def pool5 : Array CpInfo := pool [(1, u "java/lang/Cloneable"), (0, .class_ 1), (0, u "java/lang/Object"), (0, .class_ 3)] 3

/-- java/lang/Cloneable -/
def k5 : Class := { plain "java/lang/Cloneable" (some 0) with
  accessFlags := 1537
  interfaces := #[]
  cf := some (fileOf pool5 2 #[] #[] 1537 4 #[] #[])
  fields := #[]
  methods := #[]
  instanceTypes := #[]
  staticTypes := #[]
  resolved := Array.replicate 8 none
  statics := none }

def pool6 : Array CpInfo := pool [(1, u "java/io/Serializable"), (0, .class_ 1), (0, u "java/lang/Object"), (0, .class_ 3)] 3

/-- java/io/Serializable -/
def k6 : Class := { plain "java/io/Serializable" (some 0) with
  accessFlags := 1537
  interfaces := #[]
  cf := some (fileOf pool6 2 #[] #[] 1537 4 #[] #[])
  fields := #[]
  methods := #[]
  instanceTypes := #[]
  staticTypes := #[]
  resolved := Array.replicate 8 none
  statics := none }

/-- the primitive byte -/
def k7 : Class := { plain "byte" none with kind := .primitive 'B', accessFlags := 0x411 }
/-- [B -/
def k8 : Class := { plain "[B" (some 0) with kind := .array 7 .byte, interfaces := #[5, 6], accessFlags := 1041 }

/-- the primitive int -/
def k9 : Class := { plain "int" none with kind := .primitive 'I', accessFlags := 0x411 }
/-- [I -/
def k10 : Class := { plain "[I" (some 0) with kind := .array 9 .int, interfaces := #[5, 6], accessFlags := 1041 }

def heap : Heap := #[]
def classes : Array Class := #[k0, k1, k2, k3, k4, k5, k6, k7, k8, k9, k10]
def interned : List (Array UInt16 × Addr) := []
def slotsUsed : Nat := 0
def theMethod : MethodId := ⟨1, 1⟩
def args0 : Array Value := #[.int 5, .int 300, .int 7, .int 8]
def aboutOver (below : List Frame) : State where
  vm := { classes := classes, interned := interned.toArray }
  heap := heap
  slotsUsed := slotsUsed
  threads := #[{ frames := .invoking theMethod args0 :: below }]
def below0 : List Frame := [.native { method := ⟨0, 0⟩, args := #[] }]
def about1 : State := aboutOver below0
def p0 : Program := .bare "" "" ""
def e0 : Env := launch0.env 0 0 0
theorem w_frames : about1.frames = Frame.invoking theMethod args0 :: below0 := rfl
set_option maxRecDepth 65536 in
theorem w_args : argsFit about1.vm theMethod args0 = true := by decide +kernel
set_option maxRecDepth 65536 in
theorem w_heap : heapFits about1 = true := by decide +kernel
set_option maxRecDepth 65536 in
theorem w_runnable : about1.curStatus? = some .runnable := by decide +kernel
set_option maxRecDepth 65536 in
theorem w_alone : about1.alone = true := by decide +kernel
set_option maxRecDepth 65536 in
theorem w_named : about1.methodNamed? x = some theMethod := by decide +kernel
set_option maxRecDepth 65536 in
theorem w_hears : about1.hears theMethod below0 = true := by decide +kernel
set_option maxRecDepth 65536 in
theorem w_ripe : about1.ripe theMethod args0 below0 = true := by decide +kernel
theorem w_running : about1.status = .running := rfl
set_option maxRecDepth 65536 in
theorem w_room : about1.hasRoom e0.platform room_1 = true :=
  launch0.hasRoom_least _ room_1 (by decide +kernel) (by decide +kernel) (by decide +kernel) (by decide +kernel) (by decide +kernel) (by decide +kernel)
theorem allAtoms_all (ts : List Jvm.Cond) (a : Array Jvm.Value) (st : Jvm.State) : (allAtoms ts).before a st = ts.all (fun c => c.before a st) := by
  induction ts with
  | nil => rfl
  | cons c t ih =>
    show (Jvm.Cond.and c (allAtoms t)).before a st = _
    rw [Jvm.Cond.before_and, ih, List.all_cons]
def words1 : List Jvm.Cond := Jvm.Cond.code x code maxLocals ret :: tables_1
/-- a 'code' word, met by the world's own term for the bytes: nothing is compared byte by byte -/
theorem code_word {y : MethodName} {bytes : ByteArray} {mx : Nat} {rt : Option FieldType} {a : Array Value} {s : State} {m : MethodId} {meth : Method} {c : Code} (h1 : s.methodNamed? y = some m) (h2 : s.vm.method? m = some meth) (h3 : meth.code = some c) (h4 : c.code = bytes)
    (h5 : (c.maxLocals == mx && c.exceptionTable.isEmpty && decide (c.maxStack ≤ mostOperands) && decide (meth.sig.returnType = rt) && !meth.locks && decide (parseMethodDescriptor y.desc = some meth.sig)) = true) : (Jvm.Cond.code y bytes mx rt).before a s = true := by
  simp only [Bool.and_eq_true, beq_iff_eq, Bool.not_eq_true', decide_eq_true_eq] at h5
  obtain ⟨⟨⟨⟨⟨g1, g2⟩, g3⟩, g4⟩, g5⟩, g6⟩ := h5
  simp [Cond.before, Cond.holds, Cond.value, h1, h2, h3, h4, g1, g2, g3, g4, g5, g6]
def isCode : Jvm.Cond → Bool
  | .code _ _ _ _ => true
  | _ => false
theorem all_split {L : List Jvm.Cond} {P : Jvm.Cond → Bool} (h1 : L.all (fun c => isCode c || P c) = true) (h2 : ∀ c ∈ L.filter isCode, P c = true) : L.all P = true := by
  refine List.all_eq_true.mpr fun c hc => ?_
  have h := List.all_eq_true.mp h1 c hc
  rcases Bool.eq_false_or_eq_true (isCode c) with hi | hi
  · exact h2 c (List.mem_filter.mpr ⟨hc, hi⟩)
  · simpa [hi] using h
set_option maxRecDepth 65536 in
theorem w_c0 : (Jvm.Cond.code x code maxLocals ret).before args0 about1 = true := code_word (m := ⟨1, 1⟩) (meth := k1m1) (c := k1c1) (by decide +kernel) rfl rfl rfl (by decide +kernel)
set_option maxRecDepth 65536 in
theorem w_c1 : (Jvm.Cond.code ({ cls := "com/example/preorders_from_tests/preordersfromtests/lts/StateSet", name := "<init>", desc := "([I)V" } : Jvm.MethodName) prog_37_method_1_code (2 : Nat) (Option.none : Option Jvm.ClassFile.FieldType)).before args0 about1 = true := code_word (m := ⟨2, 0⟩) (meth := k2m0) (c := k2c0) (by decide +kernel) rfl rfl rfl (by decide +kernel)
set_option maxRecDepth 65536 in
theorem w_c2 : (Jvm.Cond.code ({ cls := "java/lang/Object", name := "<init>", desc := "()V" } : Jvm.MethodName) object_method_1_code (1 : Nat) (Option.none : Option Jvm.ClassFile.FieldType)).before args0 about1 = true := code_word (m := ⟨0, 0⟩) (meth := k0m0) (c := k0c0) (by decide +kernel) rfl rfl rfl (by decide +kernel)
set_option maxRecDepth 65536 in
theorem w_c3 : (Jvm.Cond.code ({ cls := "java/util/Arrays", name := "hashCode", desc := "([I)I" } : Jvm.MethodName) jdk_65_method_150_code (1 : Nat) (Option.some Jvm.ClassFile.FieldType.int)).before args0 about1 = true := code_word (m := ⟨3, 1⟩) (meth := k3m1) (c := k3c1) (by decide +kernel) rfl rfl rfl (by decide +kernel)
set_option maxRecDepth 65536 in
theorem w_c4 : (Jvm.Cond.code ({ cls := "com/example/preorders_from_tests/preordersfromtests/lts/StateSet", name := "isEmpty", desc := "()Z" } : Jvm.MethodName) prog_37_method_3_code (1 : Nat) (Option.some Jvm.ClassFile.FieldType.boolean)).before args0 about1 = true := code_word (m := ⟨2, 2⟩) (meth := k2m2) (c := k2c2) (by decide +kernel) rfl rfl rfl (by decide +kernel)
set_option maxRecDepth 65536 in
theorem w_c5 : (Jvm.Cond.code ({ cls := "com/example/preorders_from_tests/preordersfromtests/lts/StateSet", name := "size", desc := "()I" } : Jvm.MethodName) prog_37_method_2_code (1 : Nat) (Option.some Jvm.ClassFile.FieldType.int)).before args0 about1 = true := code_word (m := ⟨2, 1⟩) (meth := k2m1) (c := k2c1) (by decide +kernel) rfl rfl rfl (by decide +kernel)
set_option maxRecDepth 65536 in
theorem w_c6 : (Jvm.Cond.code ({ cls := "jdk/internal/util/ArraysSupport", name := "vectorizedHashCode", desc := "(Ljava/lang/Object;IIII)I" } : Jvm.MethodName) jdk_48_method_4_code (5 : Nat) (Option.some Jvm.ClassFile.FieldType.int)).before args0 about1 = true := code_word (m := ⟨4, 1⟩) (meth := k4m1) (c := k4c1) (by decide +kernel) rfl rfl rfl (by decide +kernel)
set_option maxRecDepth 65536 in
theorem w_c7 : (Jvm.Cond.code ({ cls := "jdk/internal/util/ArraysSupport", name := "hashCode", desc := "(I[III)I" } : Jvm.MethodName) jdk_48_method_9_code (6 : Nat) (Option.some Jvm.ClassFile.FieldType.int)).before args0 about1 = true := code_word (m := ⟨4, 2⟩) (meth := k4m2) (c := k4c2) (by decide +kernel) rfl rfl rfl (by decide +kernel)
def codes1 : List Jvm.Cond := [Jvm.Cond.code x code maxLocals ret, Jvm.Cond.code ({ cls := "com/example/preorders_from_tests/preordersfromtests/lts/StateSet", name := "<init>", desc := "([I)V" } : Jvm.MethodName) prog_37_method_1_code (2 : Nat) (Option.none : Option Jvm.ClassFile.FieldType), Jvm.Cond.code ({ cls := "java/lang/Object", name := "<init>", desc := "()V" } : Jvm.MethodName) object_method_1_code (1 : Nat) (Option.none : Option Jvm.ClassFile.FieldType), Jvm.Cond.code ({ cls := "java/util/Arrays", name := "hashCode", desc := "([I)I" } : Jvm.MethodName) jdk_65_method_150_code (1 : Nat) (Option.some Jvm.ClassFile.FieldType.int), Jvm.Cond.code ({ cls := "com/example/preorders_from_tests/preordersfromtests/lts/StateSet", name := "isEmpty", desc := "()Z" } : Jvm.MethodName) prog_37_method_3_code (1 : Nat) (Option.some Jvm.ClassFile.FieldType.boolean), Jvm.Cond.code ({ cls := "com/example/preorders_from_tests/preordersfromtests/lts/StateSet", name := "size", desc := "()I" } : Jvm.MethodName) prog_37_method_2_code (1 : Nat) (Option.some Jvm.ClassFile.FieldType.int), Jvm.Cond.code ({ cls := "jdk/internal/util/ArraysSupport", name := "vectorizedHashCode", desc := "(Ljava/lang/Object;IIII)I" } : Jvm.MethodName) jdk_48_method_4_code (5 : Nat) (Option.some Jvm.ClassFile.FieldType.int), Jvm.Cond.code ({ cls := "jdk/internal/util/ArraysSupport", name := "hashCode", desc := "(I[III)I" } : Jvm.MethodName) jdk_48_method_9_code (6 : Nat) (Option.some Jvm.ClassFile.FieldType.int)]
set_option maxRecDepth 65536 in
theorem codes_eq : words1.filter isCode = codes1 := rfl
theorem w_codes : ∀ c ∈ words1.filter isCode, c.before args0 about1 = true := by
  rw [codes_eq]
  intro c hc
  simp only [codes1, List.mem_cons, List.not_mem_nil, or_false] at hc
  rcases hc with rfl | rfl | rfl | rfl | rfl | rfl | rfl | rfl
  · exact w_c0
  · exact w_c1
  · exact w_c2
  · exact w_c3
  · exact w_c4
  · exact w_c5
  · exact w_c6
  · exact w_c7
set_option maxRecDepth 65536 in
theorem w_t1 : (words1.take 24).all (fun c => isCode c || c.before args0 about1) = true := by decide +kernel
set_option maxRecDepth 65536 in
theorem w_t2 : (words1.drop 24).all (fun c => isCode c || c.before args0 about1) = true := by decide +kernel
theorem w_tables : (allAtoms (Jvm.Cond.code x code maxLocals ret :: tables_1)).before args0 about1 = true := by
  rw [allAtoms_all]
  show words1.all (fun c => c.before args0 about1) = true
  refine all_split ?_ w_codes
  rw [← List.take_append_drop 24 words1, List.all_append, w_t1, w_t2]
  rfl
set_option maxRecDepth 65536 in
theorem w_case : (Jvm.Cond.and given_1 narrow_1).before args0 about1 = true := by decide +kernel
theorem w_applies : (headSpec (Jvm.Cond.code x code maxLocals ret :: tables_1) room_1).applies x e0.platform about1 = true :=
  (Spec.applies_iff w_frames).mpr ⟨w_running, w_runnable, w_alone, w_named, w_hears, w_ripe, w_room, w_tables⟩
theorem atStart : AtStart classFile x code maxLocals ret World_1 tables_1 room_1 Calls_1 rest_1 Pre_1 launch0 p0 e0 about1 theMethod args0 below0 :=
  ⟨lists_1, trivial, launch0.admits_env _ _ _, launch0.least_env, fairChoices_fair.cas, fairChoices_fair.clock, w_frames, w_args, w_heap, w_applies, trivial, trivial, w_case⟩
end start1
theorem witness_1 : WitnessClaimed_1 := ⟨start1.p0, start1.e0, start1.about1, start1.theMethod, start1.args0, start1.below0, start1.atStart⟩
end Jvm.Pilot.@@N@@
