import JvmDerived
import JvmDerived.Pilot.@@N@@Statement
import JvmDerived.Pilot.@@N@@Code
set_option linter.unusedVariables false
set_option linter.unusedSimpArgs false

namespace Jvm.Pilot.@@N@@
open Jvm Jvm.ClassFile Sem Op Lib Jvm.Free Jvm.Stand Jvm.LawKit Jvm.RoadKit Bundle Jvm.Pilot.@@N@@.Jvm.D
section OwnKit
variable {p : Program} {l : Launch} {e : Env} {R : Room} {s : State} {m : MethodId} {args : Array Value} {below : List Frame} {meth : Method} {c : Code} {T : State} {locs : List Loc} {cells slots : Nat} {Z : State} {a0 : Array Value} {h : Heap}
/-- the run goes on from T with the frame f on top to an end that K says -/
def own_G (p : Program) (e : Env) (below : List Frame) (K : Outcome → State → Prop) (T : State) (f : JFrame) : Prop := ∃ s₂ o, Steps p.tables e below (T.setTop f) s₂ ∧ s₂.status = .running ∧ Ended s₂ below o ∧ K o s₂
theorem own_go {K : Outcome → State → Prop} {T' : State} {f f' : JFrame} (st : ∀ t, Steps p.tables e below (T'.setTop f') t → Steps p.tables e below (T.setTop f) t) (h : own_G p e below K T' f') : own_G p e below K T f := by
  obtain ⟨s₂, o, h1, h2⟩ := h
  exact ⟨s₂, o, st _ h1, h2⟩
theorem own_cast {K : Outcome → State → Prop} {f f' : JFrame} (q : f = f') (h : own_G p e below K T f') : own_G p e below K T f := q ▸ h
def own_K (Q : Option Value → Heap → List Loc → Prop) (s : State) (C S : Nat) : Outcome → State → Prop := fun o U => ∃ v L, o = .returned v ∧ Q v U.heap L ∧ FrameEnd s o U L C S
def own_Met (l : Launch) (Z : State) (y : MethodName) (bytes : ByteArray) (maxL : Nat) (ret : Option FieldType) (ws : List Jvm.Cond) (rm : Room) (as' : Array Value) (h0 : Heap) (Q : Option Value → Heap → List Loc → Prop) : Prop :=
  MetFree l y (head1 (Jvm.Cond.code y bytes maxL ret :: ws) rm) (fun a U => a = as' ∧ Z.Warmed39 U.vm ∧ U.heap = h0) (fun _ _ _ _ _ => True) (fun _ U o U' => own_K Q U rm.cells rm.slots o U')
theorem own_met {y : MethodName} {bytes : ByteArray} {maxL : Nat} {ret : Option FieldType} {ws : List Jvm.Cond} {rm : Room} {as' : Array Value} {h0 : Heap} {Q : Option Value → Heap → List Loc → Prop} (hpl : plainFor y = true)
    (body : ∀ (p : Program) (e : Env) (s : State) (m : MethodId) (below : List Frame) (meth : Method) (c : Code) (s₁ : State), p.tables.exec = Jvm.exec → c.code = bytes → c.maxLocals = maxL → s.vm.findClass y.cls = some m.cls → meth.name = y.name → meth.sig.returnType = ret → meth.locks = false →
      Z.Warmed39 s.vm → Stand p l e rm s m as' below meth c s₁ [] 0 0 → s₁.heap = h0 → own_G p e below (own_K Q s rm.cells rm.slots) s₁ (entryFrame m as' maxL)) :
    own_Met l Z y bytes maxL ret ws rm as' h0 Q := by
  refine MetFree.of_bodySF hpl hisR ?_
  intro p e s m args below meth c s₁ Bd hml hP hK
  obtain ⟨rfl, hZ, hh⟩ := hP
  have e0 : s₁.heap = h0 := by rw [← hh, Bd.state]; rfl
  have q := body p e s m below meth c s₁ Bd.exec Bd.bytes hml (findClass_of_methodNamed Bd.named) (name_of_methodNamed Bd.named Bd.method).1 Bd.returns (BodyLoose.notSynchronized Bd) hZ (Stand.of_body Bd) e0
  obtain ⟨s₂, o, h1, h2, h3, h4⟩ := q
  exact ⟨s₂, o, h1, h2, h3, h4⟩
theorem own_end (X : Stand p l e R s m args below meth c T locs cells slots) (hlk : meth.locks = false) {v : Option Value} {f : JFrame} {Q : Option Value → Heap → List Loc → Prop} {C S : Nat} (hv : meth.sig.returnType = none → v = none) (hc : cells ≤ C) (hs : slots ≤ S)
    (st : ∀ fs, (∀ (f : JFrame) (acts : List Action), f.method = m → f.locked = none → f.entered = [] → (doReturn e (T.setTop f) acts v).1 = T.setFrames fs) → Steps p.tables e below (T.setTop f) (T.setFrames fs)) (hq : Q v T.heap locs) : own_G p e below (own_K Q s C S) T f := by
  obtain ⟨fs, hr, hrun, hended, hW, hsame⟩ := X.leave (v := v) hv
  exact ⟨_, _, st fs hr, hrun, hended, v, locs, rfl, hq, ⟨_, rfl⟩, hW, hsame.mono hc hs⟩
theorem own_retZ (X : Stand p l e R s m args below meth c T locs cells slots) (hx : p.tables.exec = Jvm.exec) (hlk : meth.locks = false) {t : FieldType} (hret : meth.sig.returnType = some t) (ht : t = .boolean ∨ t = .byte ∨ t = .char ∨ t = .short) {pc : Nat} {Ls : Array Slot} {z : Int32} {rest : List Value} {Q : Option Value → Heap → List Loc → Prop} {C S : Nat}
    (eT : T.heap = h) {w : Int32} (hz : nar t z = w) (hd : decode c.code pc = .ok (.ireturn, 1)) (hc : cells ≤ C) (hs : slots ≤ S) (hq : Q (some (.int w)) h locs) : own_G p e below (own_K Q s C S) T (mkF m pc Ls (.int z :: rest)) := by
  subst eT hz
  exact own_end X hlk (fun q => by rw [hret] at q; cases q) hc hs (fun fs hr => retN X hx hret ht hd hr) hq
theorem own_retI (X : Stand p l e R s m args below meth c T locs cells slots) (hx : p.tables.exec = Jvm.exec) (hlk : meth.locks = false) (hret : meth.sig.returnType = some .int) {pc : Nat} {Ls : Array Slot} {z : Int32} {rest : List Value} {Q : Option Value → Heap → List Loc → Prop} {C S : Nat}
    (eT : T.heap = h) (hd : decode c.code pc = .ok (.ireturn, 1)) (hc : cells ≤ C) (hs : slots ≤ S) (hq : Q (some (.int z)) h locs) : own_G p e below (own_K Q s C S) T (mkF m pc Ls (.int z :: rest)) := by
  subst eT
  exact own_end X hlk (fun q => by rw [hret] at q; cases q) hc hs (fun fs hr => retOut X hx hret rfl (Or.inl ⟨rfl, Or.inl rfl, z, rfl⟩) hd hr) hq
theorem own_retV (X : Stand p l e R s m args below meth c T locs cells slots) (hx : p.tables.exec = Jvm.exec) (hlk : meth.locks = false) (hret : meth.sig.returnType = none) {pc : Nat} {Ls : Array Slot} {Q : Option Value → Heap → List Loc → Prop} {C S : Nat}
    (eT : T.heap = h) (hd : decode c.code pc = .ok (.return_, 1)) (hc : cells ≤ C) (hs : slots ≤ S) (hq : Q none h locs) : own_G p e below (own_K Q s C S) T (mkF m pc Ls []) := by
  subst eT
  exact own_end X hlk (fun _ => rfl) hc hs (fun fs hr => X.returnOut hx hret hd hr) hq
/-- a static call by the callee's contract -/
theorem own_callS {own : String} {index maxL : Nat} {y : MethodName} {bytes : ByteArray} {ret : Option FieldType} {rm : Room} {Q : Option Value → Heap → List Loc → Prop} {argsL rest stk : List Value} {pc : Nat} {Ls : Array Slot}
    (X : Stand p l e R s m args below meth c T locs cells slots) (hx : p.tables.exec = Jvm.exec) (hZ : Z.Warmed39 s.vm) (hown : s.vm.findClass own = some m.cls) (hM : own_Met l Z y bytes maxL ret [] rm argsL.toArray h Q)
    (w1 : (Jvm.Cond.methodLink own index y).before a0 Z = true) (w2 : (Jvm.Cond.static y).before a0 Z = true) (w3 : (Jvm.Cond.initialized y.cls).before a0 Z = true) (w4 : (Jvm.Cond.code y bytes maxL ret).before a0 Z = true) (hy : y.cls ≠ "java/lang/invoke/MethodHandle" ∧ y.cls ≠ "java/lang/invoke/VarHandle")
    (eT : T.heap = h) (hsz : Ls.size = c.maxLocals) (hlen : ∀ sig, parseMethodDescriptor y.desc = some sig → argsL.length = sig.parameters.length) (hstk : stk = argsL.reverse ++ rest) (hd : decode c.code pc = .ok (.invokestatic index, 3))
    (hf : rm.frames + 1 ≤ R.frames) (hl : (rest.map fun v => v.category).sum + (maxL + 11) + rm.locals ≤ R.locals) (hc : cells + rm.cells ≤ R.cells) (hs : slots + rm.slots ≤ R.slots) :
    ∃ (v : Option Value) (T' : State) (L : List Loc), Stand p l e R s m args below meth c T' (locs ++ L) (cells + rm.cells) (slots + rm.slots) ∧ Q v T'.heap L ∧ ∀ t, Steps p.tables e below (T'.setTop (mkF m (pc + 3) Ls (v.toList ++ rest))) t → Steps p.tables e below (T.setTop (mkF m pc Ls stk)) t := by
  obtain ⟨v, _, ⟨T', L', k', n'⟩, -, X', ⟨L, hQ, l1, y1, z1⟩, st⟩ := Jvm.LawKit.callS X hx (y := y) hown (mvT hZ w1) (mvT hZ w2) (mvT hZ w3) (mvT hZ w4) hy (backOf (Q := Q) hM hZ w4 w3 hf hl) (g := mkF m pc Ls stk) rfl hsz (argsL := argsL) (rest := rest) hlen hstk (by show 2 * 0 + _ ≤ _; exact Nat.le_of_eq (Nat.zero_add _)) hd (fun _ _ => ⟨rfl, eT, hc, hs⟩)
  dsimp only [Pt.U, Pt.locs, Pt.cells, Pt.slots] at X' l1 y1 z1 st hQ
  subst l1 y1 z1
  exact ⟨v, T', L, X', hQ, st⟩
/-- a constructor's call by its contract -/
theorem own_callI {own : String} {index maxL : Nat} {y : MethodName} {bytes : ByteArray} {rm : Room} {Q : Option Value → Heap → List Loc → Prop} {argsL rest stk : List Value} {pc : Nat} {Ls : Array Slot} {a : Addr} (hy1 : y.name = "<init>")
    (X : Stand p l e R s m args below meth c T locs cells slots) (hx : p.tables.exec = Jvm.exec) (hZ : Z.Warmed39 s.vm) (hown : s.vm.findClass own = some m.cls) (hM : own_Met l Z y bytes maxL none [] rm (.ref a :: argsL).toArray h Q)
    (w1 : (Jvm.Cond.methodLink own index y).before a0 Z = true) (w2 : (Jvm.Cond.instanceMethod y).before a0 Z = true) (w3 : (Jvm.Cond.initialized y.cls).before a0 Z = true) (w4 : (Jvm.Cond.code y bytes maxL none).before a0 Z = true) (hy : y.cls ≠ "java/lang/invoke/MethodHandle" ∧ y.cls ≠ "java/lang/invoke/VarHandle")
    (eT : T.heap = h) (hsz : Ls.size = c.maxLocals) (hlen : ∀ sig, parseMethodDescriptor y.desc = some sig → argsL.length = sig.parameters.length) (hstk : stk = argsL.reverse ++ .ref a :: rest) (hd : decode c.code pc = .ok (.invokespecial index, 3))
    (hf : rm.frames + 1 ≤ R.frames) (hl : (rest.map fun v => v.category).sum + (maxL + 11) + rm.locals ≤ R.locals) (hc : cells + rm.cells ≤ R.cells) (hs : slots + rm.slots ≤ R.slots) :
    ∃ (v : Option Value) (T' : State) (L : List Loc), Stand p l e R s m args below meth c T' (locs ++ L) (cells + rm.cells) (slots + rm.slots) ∧ Q v T'.heap L ∧ ∀ t, Steps p.tables e below (T'.setTop (mkF m (pc + 3) Ls (v.toList ++ rest))) t → Steps p.tables e below (T.setTop (mkF m pc Ls stk)) t := by
  obtain ⟨v, _, ⟨T', L', k', n'⟩, -, X', ⟨L, hQ, l1, y1, z1⟩, st⟩ := X.specialBack hx (y := y) hy1 hown (mvT hZ w1) (mvT hZ w2) (mvT hZ w4) hy (backOf (Q := Q) hM hZ w4 w3 hf hl) (g := mkF m pc Ls stk) rfl hsz (Steps.refl _) (a := a) (argsL := argsL) (rest := rest) hlen hstk (by show 2 * 0 + _ ≤ _; exact Nat.le_of_eq (Nat.zero_add _)) hd (fun _ _ => ⟨rfl, eT, hc, hs⟩)
  dsimp only [Pt.U, Pt.locs, Pt.cells, Pt.slots] at X' l1 y1 z1 st hQ
  subst l1 y1 z1
  exact ⟨v, T', L, X', hQ, fun t k => st.trans k⟩
/-- an instance method's call by the contract of the body that the receiver's class selects -/
theorem own_callV {own C : String} {index maxL : Nat} {y z : MethodName} {bytes : ByteArray} {ret : Option FieldType} {rm : Room} {Q : Option Value → Heap → List Loc → Prop} {argsL rest stk : List Value} {pc : Nat} {Ls : Array Slot} {a : Addr}
    (X : Stand p l e R s m args below meth c T locs cells slots) (hx : p.tables.exec = Jvm.exec) (hZ : Z.Warmed39 s.vm) (hown : s.vm.findClass own = some m.cls) (hM : own_Met l Z z bytes maxL ret [] rm (.ref a :: argsL).toArray h Q)
    (w1 : (Jvm.Cond.methodLink own index y).before a0 Z = true) (w2 : (Jvm.Cond.declares y).before a0 Z = true) (nf : NotFace s y) (w5 : (Jvm.Cond.selects C y z).before a0 Z = true) (w6 : (Jvm.Cond.instanceMethod z).before a0 Z = true) (w3 : (Jvm.Cond.initialized z.cls).before a0 Z = true) (w4 : (Jvm.Cond.code z bytes maxL ret).before a0 Z = true) (hy : y.cls ≠ "java/lang/invoke/MethodHandle" ∧ y.cls ≠ "java/lang/invoke/VarHandle")
    (eT : T.heap = h) (E : Exa Z h a C) (hsz : Ls.size = c.maxLocals) (hlen : ∀ sig, parseMethodDescriptor y.desc = some sig → argsL.length = sig.parameters.length) (hstk : stk = argsL.reverse ++ .ref a :: rest) (hd : decode c.code pc = .ok (.invokevirtual index, 3))
    (hf : rm.frames + 1 ≤ R.frames) (hl : (rest.map fun v => v.category).sum + (maxL + 11) + rm.locals ≤ R.locals) (hc : cells + rm.cells ≤ R.cells) (hs : slots + rm.slots ≤ R.slots) :
    ∃ (v : Option Value) (T' : State) (L : List Loc), Stand p l e R s m args below meth c T' (locs ++ L) (cells + rm.cells) (slots + rm.slots) ∧ Q v T'.heap L ∧ ∀ t, Steps p.tables e below (T'.setTop (mkF m (pc + 3) Ls (v.toList ++ rest))) t → Steps p.tables e below (T.setTop (mkF m pc Ls stk)) t := by
  obtain ⟨cB, kB, q1, q2, q3⟩ := isOf hZ eT E
  obtain ⟨v, _, ⟨T', L', k', n'⟩, -, X', ⟨L, hQ, l1, y1, z1⟩, st⟩ := X.virtualBack hx (y := y) (z := z) hown (mvT hZ w1) (mvT hZ w2) nf (mvT hZ w5) (mvT hZ w6) hy (backOf (Q := Q) hM hZ w4 w3 hf hl) q1 q3 (g := mkF m pc Ls stk) rfl hsz (Steps.refl _) (argsL := argsL) (rest := rest) hlen hstk (by show 2 * 0 + _ ≤ _; exact Nat.le_of_eq (Nat.zero_add _)) hd (fun _ _ => ⟨rfl, eT, hc, hs⟩)
  dsimp only [Pt.U, Pt.locs, Pt.cells, Pt.slots] at X' l1 y1 z1 st hQ
  subst l1 y1 z1
  exact ⟨v, T', L, X', hQ, fun t k => st.trans k⟩
theorem own_open {a : Addr} {k : ClassId} {ty : FieldType} {n j : Int32} {vs : List Value} {dv v : Value} (V : Arv Z h a k ty n vs dv) (hj : ¬ j < 0 ∧ j < n) (hv : vs.getD j.toNatClampNeg dv = v) : ∃ cl : Cell, Arr Z h a cl ty ∧ ¬ (j < 0 ∨ cl.slots.size ≤ j.toNatClampNeg) ∧ cl.slots[j.toNatClampNeg]? = some v ∧ fits ty v = true := by
  obtain ⟨cl, A, -, S, q, H, G⟩ := V
  have hi := inb_of S hj
  have hlt : j.toNatClampNeg < cl.slots.size := Nat.lt_of_not_le fun x => hi (Or.inr x)
  exact ⟨cl, A, hi, by rw [H _ hlt, hv], by rw [← hv]; exact G _ hlt⟩
theorem own_caload {a : Addr} {k : ClassId} {n j : Int32} {vs : List Value} {dv v : Value} (X : Stand p l e R s m args below meth c T locs cells slots) (hx : p.tables.exec = Jvm.exec) (hZ : Z.Warmed39 s.vm) (eT : T.heap = h) (V : Arv Z h a k .char n vs dv) (hj : ¬ j < 0 ∧ j < n) (hv : vs.getD j.toNatClampNeg dv = v) {pc : Nat} {Ls : Array Slot} {rest : List Value} (hd : decode c.code pc = .ok (.caload, 1)) :
    ∀ t, Steps p.tables e below (T.setTop (mkF m (pc + 1) Ls (v :: rest))) t → Steps p.tables e below (T.setTop (mkF m pc Ls (.int j :: .ref a :: rest))) t := fun t kt => by
  obtain ⟨cl, A, hi, hat, -⟩ := own_open V hj hv
  exact X.caload hx (by rw [eT]; exact A.1) (State.isArrayOf_alike hZ.alike A.2.1) A.2.2 hi hat (g := mkF m pc Ls (.int j :: .ref a :: rest)) rfl rfl hd _ kt
theorem own_castore {a : Addr} {k : ClassId} {n j x : Int32} {vs : List Value} {dv : Value} (X : Stand p l e R s m args below meth c T locs cells slots) (hx : p.tables.exec = Jvm.exec) (hZ : Z.Warmed39 s.vm) (eT : T.heap = h) (V : Arv Z h a k .char n vs dv) (hj : ¬ j < 0 ∧ j < n) (i : Nat) (hi : j.toNatClampNeg = i) (hl : i < vs.length) {pc : Nat} {Ls : Array Slot} {rest : List Value} (hd : decode c.code pc = .ok (.castore, 1)) :
    ∃ T' h', Stand p l e R s m args below meth c T' (locs ++ [⟨a, j.toNatClampNeg⟩]) cells slots ∧ T'.heap = h' ∧ Wr h h' a j.toNatClampNeg (.int (nar .char x)) ∧ Arv Z h' a k .char n (vs.set i (.int (nar .char x))) dv ∧ ∀ t, Steps p.tables e below (T'.setTop (mkF m (pc + 1) Ls rest)) t → Steps p.tables e below (T.setTop (mkF m pc Ls (.int x :: .int j :: .ref a :: rest))) t := by
  obtain ⟨cl, A, q1, S, q, H, G⟩ := V
  obtain ⟨T', h', X', e', W, st⟩ := stC X hx hZ eT A (j := j) (x := x) (inb_of S hj) (g := mkF m pc Ls (.int x :: .int j :: .ref a :: rest)) rfl rfl hd
  exact ⟨T', h', X', e', W, Arv.set A q1 S q H G (fits_nar_char _) W i hi hl, st⟩
/-- newarray of a primitive kind; the class found by its name is said too -/
theorem own_newP (X : Stand p l e R s m args below meth c T locs cells slots) (hx : p.tables.exec = Jvm.exec) (hZ : Z.Warmed39 s.vm) {aty : ArrayType} {nm : String} (hnm : "[" ++ (newarray.typeOf aty).toString = nm) (w : (Jvm.Cond.arrayClass (newarray.typeOf aty)).before a0 Z = true) (eT : T.heap = h) {pc : Nat} {Ls : Array Slot} (hd : decode c.code pc = .ok (.newarray aty, 2)) {n : Int32} {rest : List Value}
    (hn : ¬ n < 0) {cap : Nat} (hcap : n.toNatClampNeg ≤ cap) (hb : cap * 8 ≤ 536870912) (hc : cells + 1 ≤ R.cells) (hl : slots + cap ≤ R.slots) :
    ∃ T' h' cA, Stand p l e R s m args below meth c T' locs (cells + 1) (slots + cap) ∧ T'.heap = h' ∧ Ext h h' ∧ Arr Z h' h.size (newA cA (newarray.typeOf aty) n) (newarray.typeOf aty) ∧ Exa Z h' h.size nm ∧
      ∀ t, Steps p.tables e below (T'.setTop (mkF m (pc + 2) Ls (.ref h.size :: rest))) t → Steps p.tables e below (T.setTop (mkF m pc Ls (.int n :: rest))) t := by
  have hcb : componentBytes (newarray.typeOf aty) ≤ 8 := by cases aty <;> decide
  obtain ⟨cA, kA, comp, f1, f2, f3, X', st⟩ := X.newarrayPrim hx (mvA hZ w) (g := mkF m pc Ls (.int n :: rest)) rfl hd rfl hn (Nat.le_trans (Nat.mul_le_mul hcap hcb) hb) hc (by omega)
  subst eT hnm
  have fZ : Z.vm.findClass ("[" ++ (newarray.typeOf aty).toString) = some cA := by rw [← hZ.alike.findClass]; exact f1
  obtain ⟨kZ, z1, -⟩ := Vm.findClass_spec fZ
  obtain ⟨k', z2, z3⟩ := hZ.alike.2.2 _ _ z1
  cases f2.symm.trans z2
  have kk : kZ.kind = .array comp (newarray.typeOf aty) := by rw [← f3, z3]
  have at' : (T.heap.push (newA cA (newarray.typeOf aty) n))[T.heap.size]? = some (newA cA (newarray.typeOf aty) n) := by simp
  refine ⟨_, T.heap.push (newA cA (newarray.typeOf aty) n), cA, X'.more (Nat.le_refl _) (by omega), rfl, ⟨by simp, fun a cc q => ?_⟩, ⟨at', ⟨by simp [newA], kZ, z1, comp, kk⟩, by simp [newA]⟩, ⟨_, kZ, at', fZ, z1, rfl, fun q => ?_⟩, st⟩
  · rw [Array.getElem?_push_lt (Array.getElem?_eq_some_iff.mp q).1]; exact (Array.getElem?_eq_getElem _).symm.trans q
  · rw [kk] at q; cases q
end OwnKit
section OwnSteps
variable {p : Program} {l : Launch} {e : Env} {R : Room} {s : State} {m : MethodId} {args : Array Value} {below : List Frame} {meth : Method} {c : Code} {T : State} {locs : List Loc} {cells slots : Nat} {Z : State} {a0 : Array Value} {h0 : Heap}
theorem own_iloadN {K : Outcome → State → Prop} {pc n : Nat} {Ls : Array Slot} {S : List Value} (X : Stand p l e R s m args below meth c T locs cells slots) (hx : p.tables.exec = Jvm.exec) {k : Fin 4} {v : Int32} (hd : decode c.code pc = .ok (.iload_n k, 1)) (hl : Ls[k.val]? = some (.val (.int v))) (hn : pc + 1 = n)
    (h : own_G p e below K T (mkF m n Ls (.int v :: S))) : own_G p e below K T (mkF m pc Ls S) := by
  subst hn
  exact own_go (fun t k => XS.iloadN X.here hx rfl hd hl k) h
theorem own_iload {K : Outcome → State → Prop} {pc n : Nat} {Ls : Array Slot} {S : List Value} (X : Stand p l e R s m args below meth c T locs cells slots) (hx : p.tables.exec = Jvm.exec) {k : Nat} {v : Int32} (hd : decode c.code pc = .ok (.iload k, 2)) (hl : Ls[k]? = some (.val (.int v))) (hn : pc + 2 = n)
    (h : own_G p e below K T (mkF m n Ls (.int v :: S))) : own_G p e below K T (mkF m pc Ls S) := by
  subst hn
  exact own_go (fun t k => XS.iload X.here hx rfl hd hl k) h
theorem own_aloadN {K : Outcome → State → Prop} {pc n : Nat} {Ls : Array Slot} {S : List Value} (X : Stand p l e R s m args below meth c T locs cells slots) (hx : p.tables.exec = Jvm.exec) {k : Fin 4} {v : Value} (hd : decode c.code pc = .ok (.aload_n k, 1)) (hl : Ls[k.val]? = some (.val v)) (hv : v.isRef = true) (hn : pc + 1 = n)
    (h : own_G p e below K T (mkF m n Ls (v :: S))) : own_G p e below K T (mkF m pc Ls S) := by
  subst hn
  exact own_go (fun t k => XS.aloadN X.here hx rfl hd hl hv k) h
theorem own_aload {K : Outcome → State → Prop} {pc n : Nat} {Ls : Array Slot} {S : List Value} (X : Stand p l e R s m args below meth c T locs cells slots) (hx : p.tables.exec = Jvm.exec) {k : Nat} {v : Value} (hd : decode c.code pc = .ok (.aload k, 2)) (hl : Ls[k]? = some (.val v)) (hv : v.isRef = true) (hn : pc + 2 = n)
    (h : own_G p e below K T (mkF m n Ls (v :: S))) : own_G p e below K T (mkF m pc Ls S) := by
  subst hn
  exact own_go (fun t k => XS.aload X.here hx rfl hd hl hv k) h
theorem own_istoreN {K : Outcome → State → Prop} {pc n : Nat} {Ls : Array Slot} {S : List Value} (X : Stand p l e R s m args below meth c T locs cells slots) (hx : p.tables.exec = Jvm.exec) {k : Fin 4} {v : Int32} {l' : Array Slot} (hd : decode c.code pc = .ok (.istore_n k, 1)) (hl : storeLocals Ls k.val (.int v) = some l') (hn : pc + 1 = n)
    (h : own_G p e below K T (mkF m n l' S)) : own_G p e below K T (mkF m pc Ls (.int v :: S)) := by
  subst hn
  exact own_go (fun t k => XS.istoreN X.here hx rfl hd rfl hl k) h
theorem own_istore {K : Outcome → State → Prop} {pc n : Nat} {Ls : Array Slot} {S : List Value} (X : Stand p l e R s m args below meth c T locs cells slots) (hx : p.tables.exec = Jvm.exec) {k : Nat} {v : Int32} {l' : Array Slot} (hd : decode c.code pc = .ok (.istore k, 2)) (hl : storeLocals Ls k (.int v) = some l') (hn : pc + 2 = n)
    (h : own_G p e below K T (mkF m n l' S)) : own_G p e below K T (mkF m pc Ls (.int v :: S)) := by
  subst hn
  exact own_go (fun t k => XS.istore X.here hx rfl hd rfl hl k) h
theorem own_astore {K : Outcome → State → Prop} {pc n : Nat} {Ls : Array Slot} {S : List Value} (X : Stand p l e R s m args below meth c T locs cells slots) (hx : p.tables.exec = Jvm.exec) {k : Nat} {v : Value} {l' : Array Slot} (hd : decode c.code pc = .ok (.astore k, 2)) (hv : v.isRef = true) (hl : storeLocals Ls k v = some l') (hn : pc + 2 = n)
    (h : own_G p e below K T (mkF m n l' S)) : own_G p e below K T (mkF m pc Ls (v :: S)) := by
  subst hn
  exact own_go (fun t k => XS.astore X.here hx rfl hd rfl hv hl k) h
theorem own_iconst {K : Outcome → State → Prop} {pc n : Nat} {Ls : Array Slot} {S : List Value} (X : Stand p l e R s m args below meth c T locs cells slots) (hx : p.tables.exec = Jvm.exec) {i : Int} {z : Int32} (hd : decode c.code pc = .ok (.iconst i, 1)) (hz : Int32.ofInt i = z) (hn : pc + 1 = n)
    (h : own_G p e below K T (mkF m n Ls (.int z :: S))) : own_G p e below K T (mkF m pc Ls S) := by
  subst hz hn
  exact own_go (fun t k => XS.iconst X.here hx rfl hd k) h
theorem own_bipush {K : Outcome → State → Prop} {pc n : Nat} {Ls : Array Slot} {S : List Value} (X : Stand p l e R s m args below meth c T locs cells slots) (hx : p.tables.exec = Jvm.exec) {i : Int} {z : Int32} (hd : decode c.code pc = .ok (.bipush i, 2)) (hz : (Int8.ofInt i).toInt32 = z) (hn : pc + 2 = n)
    (h : own_G p e below K T (mkF m n Ls (.int z :: S))) : own_G p e below K T (mkF m pc Ls S) := by
  subst hz hn
  exact own_go (fun t k => XS.bipush X.here hx rfl hd k) h
theorem own_iadd {K : Outcome → State → Prop} {pc n : Nat} {Ls : Array Slot} {S : List Value} (X : Stand p l e R s m args below meth c T locs cells slots) (hx : p.tables.exec = Jvm.exec) {x y z : Int32} (hd : decode c.code pc = .ok (.iadd, 1)) (hz : x + y = z) (hn : pc + 1 = n)
    (h : own_G p e below K T (mkF m n Ls (.int z :: S))) : own_G p e below K T (mkF m pc Ls (.int y :: .int x :: S)) := by
  subst hz hn
  exact own_go (fun t k => XS.iadd X.here hx rfl hd rfl k) h
theorem own_isub {K : Outcome → State → Prop} {pc n : Nat} {Ls : Array Slot} {S : List Value} (X : Stand p l e R s m args below meth c T locs cells slots) (hx : p.tables.exec = Jvm.exec) {x y z : Int32} (hd : decode c.code pc = .ok (.isub, 1)) (hz : x - y = z) (hn : pc + 1 = n)
    (h : own_G p e below K T (mkF m n Ls (.int z :: S))) : own_G p e below K T (mkF m pc Ls (.int y :: .int x :: S)) := by
  subst hz hn
  exact own_go (fun t k => XS.isub X.here hx rfl hd rfl k) h
theorem own_iand {K : Outcome → State → Prop} {pc n : Nat} {Ls : Array Slot} {S : List Value} (X : Stand p l e R s m args below meth c T locs cells slots) (hx : p.tables.exec = Jvm.exec) {x y z : Int32} (hd : decode c.code pc = .ok (.iand, 1)) (hz : x &&& y = z) (hn : pc + 1 = n)
    (h : own_G p e below K T (mkF m n Ls (.int z :: S))) : own_G p e below K T (mkF m pc Ls (.int y :: .int x :: S)) := by
  subst hz hn
  exact own_go (fun t k => XS.iand X.here hx rfl hd rfl k) h
theorem own_i2c {K : Outcome → State → Prop} {pc n : Nat} {Ls : Array Slot} {S : List Value} (X : Stand p l e R s m args below meth c T locs cells slots) (hx : p.tables.exec = Jvm.exec) {x : Int32} {z : Int32} (hd : decode c.code pc = .ok (.i2c, 1)) (hz : x.toUInt32.toUInt16.toUInt32.toInt32 = z) (hn : pc + 1 = n)
    (h : own_G p e below K T (mkF m n Ls (.int z :: S))) : own_G p e below K T (mkF m pc Ls (.int x :: S)) := by
  subst hz hn
  exact own_go (fun t k => XS.i2c X.here hx rfl hd rfl k) h
theorem own_iushr {K : Outcome → State → Prop} {pc n : Nat} {Ls : Array Slot} {S : List Value} (X : Stand p l e R s m args below meth c T locs cells slots) (hx : p.tables.exec = Jvm.exec) {x : Int32} {y : Int32} {z : Int32} (hd : decode c.code pc = .ok (.iushr, 1)) (hz : (x.toUInt32 >>> (y &&& 31).toUInt32).toInt32 = z) (hn : pc + 1 = n)
    (h : own_G p e below K T (mkF m n Ls (.int z :: S))) : own_G p e below K T (mkF m pc Ls (.int y :: .int x :: S)) := by
  subst hz hn
  exact own_go (fun t k => XS.iushr X.here hx rfl hd rfl k) h
theorem own_dup {K : Outcome → State → Prop} {pc n : Nat} {Ls : Array Slot} {S : List Value} (X : Stand p l e R s m args below meth c T locs cells slots) (hx : p.tables.exec = Jvm.exec) {v : Value} (hd : decode c.code pc = .ok (.dup, 1)) (hc : v.category = 1) (hn : pc + 1 = n)
    (h : own_G p e below K T (mkF m n Ls (v :: v :: S))) : own_G p e below K T (mkF m pc Ls (v :: S)) := by
  subst hn
  exact own_go (fun t k => XS.dup X.here hx rfl hd rfl hc k) h
theorem own_goto {K : Outcome → State → Prop} {pc n : Nat} {Ls : Array Slot} {S : List Value} (X : Stand p l e R s m args below meth c T locs cells slots) (hx : p.tables.exec = Jvm.exec) {o : Int} (hd : decode c.code pc = .ok (.goto o, 3)) (ho : 0 ≤ (pc : Int) + o) (hp : ((pc : Int) + o).toNat = n)
    (h : own_G p e below K T (mkF m n Ls S)) : own_G p e below K T (mkF m pc Ls S) := by
  subst hp
  exact own_go (fun t k => XS.goto X.here hx rfl (pc0 := pc) rfl hd ho rfl k) h
theorem own_ifYes {K : Outcome → State → Prop} {pc n : Nat} {Ls : Array Slot} {S : List Value} (X : Stand p l e R s m args below meth c T locs cells slots) (hx : p.tables.exec = Jvm.exec) {cd : ClassFile.Cond} {x : Int32} {o : Int} (hd : decode c.code pc = .ok (.ifCond cd o, 3)) (hc : if_icmp.holds cd x 0 = true) (ho : 0 ≤ (pc : Int) + o) (hp : ((pc : Int) + o).toNat = n)
    (h : own_G p e below K T (mkF m n Ls S)) : own_G p e below K T (mkF m pc Ls (.int x :: S)) := by
  subst hp
  exact own_go (fun t k => XS.ifYes X.here hx rfl (pc0 := pc) rfl hd rfl ((if0 _ _).trans hc) ho rfl k) h
theorem own_ifNo {K : Outcome → State → Prop} {pc n : Nat} {Ls : Array Slot} {S : List Value} (X : Stand p l e R s m args below meth c T locs cells slots) (hx : p.tables.exec = Jvm.exec) {cd : ClassFile.Cond} {x : Int32} {o : Int} (hd : decode c.code pc = .ok (.ifCond cd o, 3)) (hc : if_icmp.holds cd x 0 = false) (hn : pc + 3 = n)
    (h : own_G p e below K T (mkF m n Ls S)) : own_G p e below K T (mkF m pc Ls (.int x :: S)) := by
  subst hn
  exact own_go (fun t k => XS.ifNo X.here hx rfl hd rfl ((if0 _ _).trans hc) k) h
theorem own_icmpYes {K : Outcome → State → Prop} {pc n : Nat} {Ls : Array Slot} {S : List Value} (X : Stand p l e R s m args below meth c T locs cells slots) (hx : p.tables.exec = Jvm.exec) {cd : ClassFile.Cond} {x y : Int32} {o : Int} (hd : decode c.code pc = .ok (.if_icmp cd o, 3)) (hc : if_icmp.holds cd x y = true) (ho : 0 ≤ (pc : Int) + o) (hp : ((pc : Int) + o).toNat = n)
    (h : own_G p e below K T (mkF m n Ls S)) : own_G p e below K T (mkF m pc Ls (.int y :: .int x :: S)) := by
  subst hp
  exact own_go (fun t k => XS.icmpYes X.here hx rfl (pc0 := pc) rfl hd rfl hc ho rfl k) h
theorem own_icmpNo {K : Outcome → State → Prop} {pc n : Nat} {Ls : Array Slot} {S : List Value} (X : Stand p l e R s m args below meth c T locs cells slots) (hx : p.tables.exec = Jvm.exec) {cd : ClassFile.Cond} {x y : Int32} {o : Int} (hd : decode c.code pc = .ok (.if_icmp cd o, 3)) (hc : if_icmp.holds cd x y = false) (hn : pc + 3 = n)
    (h : own_G p e below K T (mkF m n Ls S)) : own_G p e below K T (mkF m pc Ls (.int y :: .int x :: S)) := by
  subst hn
  exact own_go (fun t k => XS.icmpNo X.here hx rfl hd rfl hc k) h
theorem own_getF {K : Outcome → State → Prop} {pc n : Nat} {Ls : Array Slot} {S : List Value} {h : Heap} (X : Stand p l e R s m args below meth c T locs cells slots) (hx : p.tables.exec = Jvm.exec) (hZ : Z.Warmed39 s.vm) {own R0 O nm d host : String} {index : Nat} (hown : s.vm.findClass own = some m.cls) (w : (Jvm.Cond.fieldLink own index R0 nm d).before a0 Z = true ∨ (Jvm.Cond.fieldLinkNest own index R0 nm d host).before a0 Z = true) (via : Via Z R0 O nm d) (eT : T.heap = h) {a : Addr} {v : Value} (F : Fld Z h a O nm d v) (hd : decode c.code pc = .ok (.getfield index, 3)) (hn : pc + 3 = n)
    (kk : ∀ T' : State, Stand p l e R s m args below meth c T' locs cells slots → T'.heap = h → own_G p e below K T' (mkF m n Ls (v :: S))) : own_G p e below K T (mkF m pc Ls (.ref a :: S)) := by
  subst hn
  obtain ⟨T', X', e', st⟩ := Jvm.RoadKit.getF X hx hZ hown w via eT F (g := mkF m pc Ls (.ref a :: S)) rfl rfl hd
  exact own_go st (kk T' X' e')
theorem own_putF {K : Outcome → State → Prop} {pc n : Nat} {Ls : Array Slot} {S : List Value} {h : Heap} (X : Stand p l e R s m args below meth c T locs cells slots) (hx : p.tables.exec = Jvm.exec) (hZ : Z.Warmed39 s.vm) {own R0 O nm d host C : String} {index kk' : Nat} {ty : FieldType} (hown : s.vm.findClass own = some m.cls) (w : (Jvm.Cond.fieldLink own index R0 nm d).before a0 Z = true ∨ (Jvm.Cond.fieldLinkNest own index R0 nm d host).before a0 Z = true) (via : Via Z R0 O nm d) (eT : T.heap = h) {a : Addr} {v old : Value} (F : Fld Z h a O nm d old) (E : Exa Z h a C) (L : (Jvm.Cond.lays C O nm d).before a0 Z = true ∨ ((Jvm.Cond.laysFinal C O nm d).before a0 Z = true ∧ own = O ∧ meth.name = "<init>")) (wi : (Jvm.Cond.instantiable C kk').before a0 Z = true) (hty : parseFieldDescriptor d = some ty) (hnr : narrow ty v = v) (hf : fits ty v = true) (hd : decode c.code pc = .ok (.putfield index, 3)) (hn : pc + 3 = n)
    (kk : ∀ (T' : State) (h' : Heap), Stand p l e R s m args below meth c T' (locs ++ [⟨a, Jvm.RoadKit.slotOf Z O nm d⟩]) cells slots → T'.heap = h' → Wr h h' a (Jvm.RoadKit.slotOf Z O nm d) v → own_G p e below K T' (mkF m n Ls S)) : own_G p e below K T (mkF m pc Ls (v :: .ref a :: S)) := by
  subst hn
  obtain ⟨T', h', X', e', W, st⟩ := Jvm.RoadKit.putF X hx hZ hown w via eT F E L wi hty hnr hf (g := mkF m pc Ls (v :: .ref a :: S)) rfl rfl hd
  exact own_go st (kk T' h' X' e' W)
theorem own_new {K : Outcome → State → Prop} {pc n : Nat} {Ls : Array Slot} {S : List Value} {h : Heap} (X : Stand p l e R s m args below meth c T locs cells slots) (hx : p.tables.exec = Jvm.exec) (hZ : Z.Warmed39 s.vm) {own C : String} {index k : Nat} (hown : s.vm.findClass own = some m.cls) (w : (Jvm.Cond.classLink own index C).before a0 Z = true) (wi : (Jvm.Cond.instantiable C k).before a0 Z = true) (wz : (Jvm.Cond.initialized C).before a0 Z = true) (eT : T.heap = h) (hd : decode c.code pc = .ok (.new index, 3)) (hc : cells + 1 ≤ R.cells) (hl : slots + k ≤ R.slots) (hn : pc + 3 = n)
    (kk : ∀ (T' : State) (h' : Heap) (b : Addr), b = h.size → Stand p l e R s m args below meth c T' locs (cells + 1) (slots + k) → T'.heap = h' → Ext h h' → Exa Z h' b C → (∀ {O nm d : String} {ty : FieldType}, Laid Z a0 C O nm d → parseFieldDescriptor d = some ty → Fld Z h' b O nm d (defaultValue ty)) → own_G p e below K T' (mkF m n Ls (.ref b :: S))) : own_G p e below K T (mkF m pc Ls S) := by
  subst hn
  obtain ⟨T', h', X', e', E, A, D, -, st⟩ := newO X hx hZ hown w wi wz eT (g := mkF m pc Ls S) rfl hd hc hl
  exact own_go st (kk T' h' _ rfl X' e' E A D)
theorem own_newA {K : Outcome → State → Prop} {pc n : Nat} {Ls : Array Slot} {S : List Value} {h : Heap} (X : Stand p l e R s m args below meth c T locs cells slots) (hx : p.tables.exec = Jvm.exec) (hZ : Z.Warmed39 s.vm) {aty : ArrayType} {nm : String} (hnm : "[" ++ (newarray.typeOf aty).toString = nm) (w : (Jvm.Cond.arrayClass (newarray.typeOf aty)).before a0 Z = true) (eT : T.heap = h) (hd : decode c.code pc = .ok (.newarray aty, 2)) {k : Int32} (hk : ¬ k < 0) {cap : Nat} (hcap : k.toNatClampNeg ≤ cap) (hb : cap * 8 ≤ 536870912) (hc : cells + 1 ≤ R.cells) (hl : slots + cap ≤ R.slots) (hn : pc + 2 = n)
    (kk : ∀ (T' : State) (h' : Heap) (cA : ClassId) (b : Addr), b = h.size → Stand p l e R s m args below meth c T' locs (cells + 1) (slots + cap) → T'.heap = h' → Ext h h' → Arr Z h' b (newA cA (newarray.typeOf aty) k) (newarray.typeOf aty) → Exa Z h' b nm → own_G p e below K T' (mkF m n Ls (.ref b :: S))) : own_G p e below K T (mkF m pc Ls (.int k :: S)) := by
  subst hn
  obtain ⟨T', h', cA, X', e', E, A, B, st⟩ := own_newP X hx hZ hnm w eT (pc := pc) (Ls := Ls) (rest := S) hd hk hcap hb hc hl
  exact own_go st (kk T' h' cA _ rfl X' e' E A B)
theorem own_st_castore {K : Outcome → State → Prop} {pc n : Nat} {Ls : Array Slot} {S : List Value} {h : Heap} (X : Stand p l e R s m args below meth c T locs cells slots) (hx : p.tables.exec = Jvm.exec) (hZ : Z.Warmed39 s.vm) {a : Addr} {k : ClassId} {z j : Int32} {x : Int32} {vs : List Value} {dv : Value} (eT : T.heap = h) (V : Arv Z h a k .char z vs dv) (hj : ¬ j < 0 ∧ j < z) (i : Nat) (hi : j.toNatClampNeg = i) (hl : i < vs.length) (hd : decode c.code pc = .ok (.castore, 1)) (hn : pc + 1 = n)
    (kk : ∀ (T' : State) (h' : Heap), Stand p l e R s m args below meth c T' (locs ++ [⟨a, j.toNatClampNeg⟩]) cells slots → T'.heap = h' → Wr h h' a j.toNatClampNeg (.int (nar .char x)) → Arv Z h' a k .char z (vs.set i (.int (nar .char x))) dv → own_G p e below K T' (mkF m n Ls S)) : own_G p e below K T (mkF m pc Ls (.int x :: .int j :: .ref a :: S)) := by
  subst hn
  obtain ⟨T', h', X', e', W, V', st⟩ := own_castore X hx hZ eT V hj i hi hl (pc := pc) (Ls := Ls) (rest := S) hd
  exact own_go st (kk T' h' X' e' W V')
theorem own_ld_caload {K : Outcome → State → Prop} {pc n : Nat} {Ls : Array Slot} {S : List Value} {h : Heap} (X : Stand p l e R s m args below meth c T locs cells slots) (hx : p.tables.exec = Jvm.exec) (hZ : Z.Warmed39 s.vm) {a : Addr} {k : ClassId} {z j : Int32} {vs : List Value} {dv v : Value} (eT : T.heap = h) (V : Arv Z h a k .char z vs dv) (hj : ¬ j < 0 ∧ j < z) (hv : vs.getD j.toNatClampNeg dv = v) (hd : decode c.code pc = .ok (.caload, 1)) (hn : pc + 1 = n) (kk : own_G p e below K T (mkF m n Ls (v :: S))) : own_G p e below K T (mkF m pc Ls (.int j :: .ref a :: S)) := by
  subst hn
  exact own_go (own_caload X hx hZ eT V hj hv hd) kk
theorem own_initO {K : Outcome → State → Prop} {pc n : Nat} {Ls : Array Slot} {S : List Value} {h : Heap} (X : Stand p l e R s m args below meth c T locs cells slots) (hx : p.tables.exec = Jvm.exec) (hZ : Z.Warmed39 s.vm) {own : String} {index : Nat} (hown : s.vm.findClass own = some m.cls) (w1 : (Jvm.Cond.methodLink own index Lib.objectInit).before a0 Z = true) (w2 : (Jvm.Cond.instanceMethod Lib.objectInit).before a0 Z = true) (w3 : (Jvm.Cond.code Lib.objectInit ⟨#[0xb1]⟩ 1 none).before a0 Z = true) (eT : T.heap = h) (hsz : Ls.size = c.maxLocals) {a : Addr} (hd : decode c.code pc = .ok (.invokespecial index, 3)) (hf : 1 ≤ R.frames) (hl : (S.map fun v => v.category).sum + 12 ≤ R.locals) (hn : pc + 3 = n)
    (kk : ∀ T' : State, Stand p l e R s m args below meth c T' locs cells slots → T'.heap = h → own_G p e below K T' (mkF m n Ls (S))) : own_G p e below K T (mkF m pc Ls (.ref a :: S)) := by
  subst hn
  obtain ⟨T', X', e', st⟩ := Jvm.RoadKit.initO X hx hZ hown w1 w2 w3 eT (g := mkF m pc Ls (.ref a :: S)) rfl hsz rfl hd hf (W := (S.map fun v => v.category).sum) (by show 2 * 0 + _ ≤ _; exact Nat.le_of_eq (Nat.zero_add _)) hl
  exact own_go st (kk T' X' e')
theorem own_S {K : Outcome → State → Prop} {pc n : Nat} {Ls : Array Slot} {h : Heap} {own : String} {index maxL : Nat} {y : MethodName} {bytes : ByteArray} {rm : Room} {Q : Option Value → Heap → List Loc → Prop} {argsL rest stk : List Value} {ret : Option FieldType} (X : Stand p l e R s m args below meth c T locs cells slots) (hx : p.tables.exec = Jvm.exec) (hZ : Z.Warmed39 s.vm) (hown : s.vm.findClass own = some m.cls) (hM : own_Met l Z y bytes maxL ret [] rm argsL.toArray h Q) (w1 : (Jvm.Cond.methodLink own index y).before a0 Z = true) (w2 : (Jvm.Cond.static y).before a0 Z = true) (w3 : (Jvm.Cond.initialized y.cls).before a0 Z = true) (w4 : (Jvm.Cond.code y bytes maxL ret).before a0 Z = true) (hy : y.cls ≠ "java/lang/invoke/MethodHandle" ∧ y.cls ≠ "java/lang/invoke/VarHandle") (eT : T.heap = h) (hsz : Ls.size = c.maxLocals) (hlen : ∀ sig, parseMethodDescriptor y.desc = some sig → argsL.length = sig.parameters.length) (hstk : stk = argsL.reverse ++ rest) (hd : decode c.code pc = .ok (.invokestatic index, 3)) (hf : rm.frames + 1 ≤ R.frames) (hl : (rest.map fun v => v.category).sum + (maxL + 11) + rm.locals ≤ R.locals) (hc : cells + rm.cells ≤ R.cells) (hs : slots + rm.slots ≤ R.slots) (hn : pc + 3 = n)
    (kk : ∀ (v : Option Value) (T' : State) (L : List Loc), Stand p l e R s m args below meth c T' (locs ++ L) (cells + rm.cells) (slots + rm.slots) → Q v T'.heap L → own_G p e below K T' (mkF m n Ls (v.toList ++ rest))) : own_G p e below K T (mkF m pc Ls stk) := by
  subst hn
  obtain ⟨v, T', L, X', hQ, st⟩ := own_callS X hx hZ hown hM w1 w2 w3 w4 hy eT hsz hlen hstk hd hf hl hc hs
  exact own_go st (kk v T' L X' hQ)
theorem own_I {K : Outcome → State → Prop} {pc n : Nat} {Ls : Array Slot} {h : Heap} {own : String} {index maxL : Nat} {y : MethodName} {bytes : ByteArray} {rm : Room} {Q : Option Value → Heap → List Loc → Prop} {argsL rest stk : List Value} {a : Addr} (hy1 : y.name = "<init>") (X : Stand p l e R s m args below meth c T locs cells slots) (hx : p.tables.exec = Jvm.exec) (hZ : Z.Warmed39 s.vm) (hown : s.vm.findClass own = some m.cls) (hM : own_Met l Z y bytes maxL none [] rm (.ref a :: argsL).toArray h Q) (w1 : (Jvm.Cond.methodLink own index y).before a0 Z = true) (w2 : (Jvm.Cond.instanceMethod y).before a0 Z = true) (w3 : (Jvm.Cond.initialized y.cls).before a0 Z = true) (w4 : (Jvm.Cond.code y bytes maxL none).before a0 Z = true) (hy : y.cls ≠ "java/lang/invoke/MethodHandle" ∧ y.cls ≠ "java/lang/invoke/VarHandle") (eT : T.heap = h) (hsz : Ls.size = c.maxLocals) (hlen : ∀ sig, parseMethodDescriptor y.desc = some sig → argsL.length = sig.parameters.length) (hstk : stk = argsL.reverse ++ .ref a :: rest) (hd : decode c.code pc = .ok (.invokespecial index, 3)) (hf : rm.frames + 1 ≤ R.frames) (hl : (rest.map fun v => v.category).sum + (maxL + 11) + rm.locals ≤ R.locals) (hc : cells + rm.cells ≤ R.cells) (hs : slots + rm.slots ≤ R.slots) (hn : pc + 3 = n)
    (kk : ∀ (v : Option Value) (T' : State) (L : List Loc), Stand p l e R s m args below meth c T' (locs ++ L) (cells + rm.cells) (slots + rm.slots) → Q v T'.heap L → own_G p e below K T' (mkF m n Ls (v.toList ++ rest))) : own_G p e below K T (mkF m pc Ls stk) := by
  subst hn
  obtain ⟨v, T', L, X', hQ, st⟩ := own_callI hy1 X hx hZ hown hM w1 w2 w3 w4 hy eT hsz hlen hstk hd hf hl hc hs
  exact own_go st (kk v T' L X' hQ)
theorem own_V {K : Outcome → State → Prop} {pc n : Nat} {Ls : Array Slot} {h : Heap} {own : String} {index maxL : Nat} {y : MethodName} {bytes : ByteArray} {rm : Room} {Q : Option Value → Heap → List Loc → Prop} {argsL rest stk : List Value} {ret : Option FieldType} {C : String} {z : MethodName} {a : Addr} (X : Stand p l e R s m args below meth c T locs cells slots) (hx : p.tables.exec = Jvm.exec) (hZ : Z.Warmed39 s.vm) (hown : s.vm.findClass own = some m.cls) (hM : own_Met l Z z bytes maxL ret [] rm (.ref a :: argsL).toArray h Q) (w1 : (Jvm.Cond.methodLink own index y).before a0 Z = true) (w2 : (Jvm.Cond.declares y).before a0 Z = true) (nf : NotFace s y) (w5 : (Jvm.Cond.selects C y z).before a0 Z = true) (w6 : (Jvm.Cond.instanceMethod z).before a0 Z = true) (w3 : (Jvm.Cond.initialized z.cls).before a0 Z = true) (w4 : (Jvm.Cond.code z bytes maxL ret).before a0 Z = true) (hy : y.cls ≠ "java/lang/invoke/MethodHandle" ∧ y.cls ≠ "java/lang/invoke/VarHandle") (eT : T.heap = h) (E : Exa Z h a C) (hsz : Ls.size = c.maxLocals) (hlen : ∀ sig, parseMethodDescriptor y.desc = some sig → argsL.length = sig.parameters.length) (hstk : stk = argsL.reverse ++ .ref a :: rest) (hd : decode c.code pc = .ok (.invokevirtual index, 3)) (hf : rm.frames + 1 ≤ R.frames) (hl : (rest.map fun v => v.category).sum + (maxL + 11) + rm.locals ≤ R.locals) (hc : cells + rm.cells ≤ R.cells) (hs : slots + rm.slots ≤ R.slots) (hn : pc + 3 = n)
    (kk : ∀ (v : Option Value) (T' : State) (L : List Loc), Stand p l e R s m args below meth c T' (locs ++ L) (cells + rm.cells) (slots + rm.slots) → Q v T'.heap L → own_G p e below K T' (mkF m n Ls (v.toList ++ rest))) : own_G p e below K T (mkF m pc Ls stk) := by
  subst hn
  obtain ⟨v, T', L, X', hQ, st⟩ := own_callV X hx hZ hown hM w1 w2 nf w5 w6 w3 w4 hy eT E hsz hlen hstk hd hf hl hc hs
  exact own_go st (kk v T' L X' hQ)
end OwnSteps

theorem own_an_int : "[" ++ (newarray.typeOf .int).toString = "[I" := by decide +kernel
theorem own_an_long : "[" ++ (newarray.typeOf .long).toString = "[J" := by decide +kernel
theorem own_an_byte : "[" ++ (newarray.typeOf .byte).toString = "[B" := by decide +kernel
theorem own_an_char : "[" ++ (newarray.typeOf .char).toString = "[C" := by decide +kernel
theorem own_an_J : (FieldType.array .long).toString = "[J" := by decide +kernel
theorem own_an_JJ : "[" ++ "[J" = "[[J" := by decide +kernel
theorem own_ne {b z : Addr} {h : Heap} (hb : b < h.size) (g : z = h.size) : b ≠ z := Nat.ne_of_lt (Nat.lt_of_lt_of_le hb (Nat.le_of_eq g.symm))
theorem own_neEA {Z : State} {h : Heap} {a b : Addr} {C : String} {a0 : Array Value} {kk : Nat} {k : ClassId} {ty : FieldType} {n : Int32} {vs : List Value} {dv : Value} (E : Exa Z h a C) (w : (Jvm.Cond.instantiable C kk).before a0 Z = true) (V : Arv Z h b k ty n vs dv) : a ≠ b := by
  obtain ⟨c, A, -⟩ := V
  exact ne_arr E w A
theorem ww0 {Z : State} {a0 : Array Value} (hw : ∀ d ∈ tables_1, d.before a0 Z = true) : (Jvm.Cond.arrayClass Jvm.ClassFile.FieldType.char).before a0 Z = true := hw _ (List.mem_of_getElem? (i := 0) rfl)
theorem ww1 {Z : State} {a0 : Array Value} (hw : ∀ d ∈ tables_1, d.before a0 Z = true) : (Jvm.Cond.methodLink "com/example/xml_stream_transform/xmlstreamtransform/output/CdataSplitterSplitsBeforePinLaw" (7 : Nat) ({ cls := "com/example/xml_stream_transform/xmlstreamtransform/output/CdataSplitterSplitsBeforePinLaw", name := "ch", desc := "(I)C" } : Jvm.MethodName)).before a0 Z = true := hw _ (List.mem_of_getElem? (i := 1) rfl)
theorem ww2 {Z : State} {a0 : Array Value} (hw : ∀ d ∈ tables_1, d.before a0 Z = true) : (Jvm.Cond.static ({ cls := "com/example/xml_stream_transform/xmlstreamtransform/output/CdataSplitterSplitsBeforePinLaw", name := "ch", desc := "(I)C" } : Jvm.MethodName)).before a0 Z = true := hw _ (List.mem_of_getElem? (i := 2) rfl)
theorem ww3 {Z : State} {a0 : Array Value} (hw : ∀ d ∈ tables_1, d.before a0 Z = true) : (Jvm.Cond.initialized "com/example/xml_stream_transform/xmlstreamtransform/output/CdataSplitterSplitsBeforePinLaw").before a0 Z = true := hw _ (List.mem_of_getElem? (i := 3) rfl)
theorem ww4 {Z : State} {a0 : Array Value} (hw : ∀ d ∈ tables_1, d.before a0 Z = true) : (Jvm.Cond.code ({ cls := "com/example/xml_stream_transform/xmlstreamtransform/output/CdataSplitterSplitsBeforePinLaw", name := "ch", desc := "(I)C" } : Jvm.MethodName) method_2_code (2 : Nat) (Option.some Jvm.ClassFile.FieldType.char)).before a0 Z = true := hw _ (List.mem_of_getElem? (i := 4) rfl)
theorem ww5 {Z : State} {a0 : Array Value} (hw : ∀ d ∈ tables_1, d.before a0 Z = true) : (Jvm.Cond.classLink "com/example/xml_stream_transform/xmlstreamtransform/output/CdataSplitterSplitsBeforePinLaw" (13 : Nat) "com/example/xml_stream_transform/xmlstreamtransform/output/CdataSplitter").before a0 Z = true := hw _ (List.mem_of_getElem? (i := 5) rfl)
theorem ww6 {Z : State} {a0 : Array Value} (hw : ∀ d ∈ tables_1, d.before a0 Z = true) : (Jvm.Cond.instantiable "com/example/xml_stream_transform/xmlstreamtransform/output/CdataSplitter" (1 : Nat)).before a0 Z = true := hw _ (List.mem_of_getElem? (i := 6) rfl)
theorem ww7 {Z : State} {a0 : Array Value} (hw : ∀ d ∈ tables_1, d.before a0 Z = true) : (Jvm.Cond.initialized "com/example/xml_stream_transform/xmlstreamtransform/output/CdataSplitter").before a0 Z = true := hw _ (List.mem_of_getElem? (i := 7) rfl)
theorem ww8 {Z : State} {a0 : Array Value} (hw : ∀ d ∈ tables_1, d.before a0 Z = true) : (Jvm.Cond.methodLink "com/example/xml_stream_transform/xmlstreamtransform/output/CdataSplitterSplitsBeforePinLaw" (15 : Nat) ({ cls := "com/example/xml_stream_transform/xmlstreamtransform/output/CdataSplitter", name := "<init>", desc := "()V" } : Jvm.MethodName)).before a0 Z = true := hw _ (List.mem_of_getElem? (i := 8) rfl)
theorem ww9 {Z : State} {a0 : Array Value} (hw : ∀ d ∈ tables_1, d.before a0 Z = true) : (Jvm.Cond.instanceMethod ({ cls := "com/example/xml_stream_transform/xmlstreamtransform/output/CdataSplitter", name := "<init>", desc := "()V" } : Jvm.MethodName)).before a0 Z = true := hw _ (List.mem_of_getElem? (i := 9) rfl)
theorem ww10 {Z : State} {a0 : Array Value} (hw : ∀ d ∈ tables_1, d.before a0 Z = true) : (Jvm.Cond.code ({ cls := "com/example/xml_stream_transform/xmlstreamtransform/output/CdataSplitter", name := "<init>", desc := "()V" } : Jvm.MethodName) prog_29_method_1_code (1 : Nat) (Option.none : Option Jvm.ClassFile.FieldType)).before a0 Z = true := hw _ (List.mem_of_getElem? (i := 10) rfl)
theorem ww11 {Z : State} {a0 : Array Value} (hw : ∀ d ∈ tables_1, d.before a0 Z = true) : (Jvm.Cond.methodLink "com/example/xml_stream_transform/xmlstreamtransform/output/CdataSplitter" (1 : Nat) ({ cls := "java/lang/Object", name := "<init>", desc := "()V" } : Jvm.MethodName)).before a0 Z = true := hw _ (List.mem_of_getElem? (i := 11) rfl)
theorem ww12 {Z : State} {a0 : Array Value} (hw : ∀ d ∈ tables_1, d.before a0 Z = true) : (Jvm.Cond.instanceMethod ({ cls := "java/lang/Object", name := "<init>", desc := "()V" } : Jvm.MethodName)).before a0 Z = true := hw _ (List.mem_of_getElem? (i := 12) rfl)
theorem ww13 {Z : State} {a0 : Array Value} (hw : ∀ d ∈ tables_1, d.before a0 Z = true) : (Jvm.Cond.code ({ cls := "java/lang/Object", name := "<init>", desc := "()V" } : Jvm.MethodName) object_method_1_code (1 : Nat) (Option.none : Option Jvm.ClassFile.FieldType)).before a0 Z = true := hw _ (List.mem_of_getElem? (i := 13) rfl)
theorem ww14 {Z : State} {a0 : Array Value} (hw : ∀ d ∈ tables_1, d.before a0 Z = true) : (Jvm.Cond.methodLink "com/example/xml_stream_transform/xmlstreamtransform/output/CdataSplitterSplitsBeforePinLaw" (16 : Nat) ({ cls := "com/example/xml_stream_transform/xmlstreamtransform/output/CdataSplitter", name := "splitsBefore", desc := "(C)Z" } : Jvm.MethodName)).before a0 Z = true := hw _ (List.mem_of_getElem? (i := 14) rfl)
theorem ww15 {Z : State} {a0 : Array Value} (hw : ∀ d ∈ tables_1, d.before a0 Z = true) : (Jvm.Cond.declares ({ cls := "com/example/xml_stream_transform/xmlstreamtransform/output/CdataSplitter", name := "splitsBefore", desc := "(C)Z" } : Jvm.MethodName)).before a0 Z = true := hw _ (List.mem_of_getElem? (i := 15) rfl)
theorem ww16 {Z : State} {a0 : Array Value} (hw : ∀ d ∈ tables_1, d.before a0 Z = true) : (Jvm.Cond.instanceMethod ({ cls := "com/example/xml_stream_transform/xmlstreamtransform/output/CdataSplitter", name := "splitsBefore", desc := "(C)Z" } : Jvm.MethodName)).before a0 Z = true := hw _ (List.mem_of_getElem? (i := 16) rfl)
theorem ww17 {Z : State} {a0 : Array Value} (hw : ∀ d ∈ tables_1, d.before a0 Z = true) : (Jvm.Cond.selects "com/example/xml_stream_transform/xmlstreamtransform/output/CdataSplitter" ({ cls := "com/example/xml_stream_transform/xmlstreamtransform/output/CdataSplitter", name := "splitsBefore", desc := "(C)Z" } : Jvm.MethodName) ({ cls := "com/example/xml_stream_transform/xmlstreamtransform/output/CdataSplitter", name := "splitsBefore", desc := "(C)Z" } : Jvm.MethodName)).before a0 Z = true := hw _ (List.mem_of_getElem? (i := 17) rfl)
theorem ww18 {Z : State} {a0 : Array Value} (hw : ∀ d ∈ tables_1, d.before a0 Z = true) : (Jvm.Cond.code ({ cls := "com/example/xml_stream_transform/xmlstreamtransform/output/CdataSplitter", name := "splitsBefore", desc := "(C)Z" } : Jvm.MethodName) prog_29_method_3_code (3 : Nat) (Option.some Jvm.ClassFile.FieldType.boolean)).before a0 Z = true := hw _ (List.mem_of_getElem? (i := 18) rfl)
theorem ww19 {Z : State} {a0 : Array Value} (hw : ∀ d ∈ tables_1, d.before a0 Z = true) : (Jvm.Cond.fieldLink "com/example/xml_stream_transform/xmlstreamtransform/output/CdataSplitter" (7 : Nat) "com/example/xml_stream_transform/xmlstreamtransform/output/CdataSplitter" "brackets" "I").before a0 Z = true := hw _ (List.mem_of_getElem? (i := 19) rfl)
theorem ww20 {Z : State} {a0 : Array Value} (hw : ∀ d ∈ tables_1, d.before a0 Z = true) : (Jvm.Cond.lays "com/example/xml_stream_transform/xmlstreamtransform/output/CdataSplitter" "com/example/xml_stream_transform/xmlstreamtransform/output/CdataSplitter" "brackets" "I").before a0 Z = true := hw _ (List.mem_of_getElem? (i := 20) rfl)
theorem ww21 {Z : State} {a0 : Array Value} (hw : ∀ d ∈ tables_1, d.before a0 Z = true) : (Jvm.Cond.methodLink "com/example/xml_stream_transform/xmlstreamtransform/output/CdataSplitterSplitsBeforePinLaw" (20 : Nat) ({ cls := "com/example/xml_stream_transform/xmlstreamtransform/output/CdataSplitterSplitsBeforePinLaw", name := "sectionStart", desc := "(II)I" } : Jvm.MethodName)).before a0 Z = true := hw _ (List.mem_of_getElem? (i := 21) rfl)
theorem ww22 {Z : State} {a0 : Array Value} (hw : ∀ d ∈ tables_1, d.before a0 Z = true) : (Jvm.Cond.static ({ cls := "com/example/xml_stream_transform/xmlstreamtransform/output/CdataSplitterSplitsBeforePinLaw", name := "sectionStart", desc := "(II)I" } : Jvm.MethodName)).before a0 Z = true := hw _ (List.mem_of_getElem? (i := 22) rfl)
theorem ww23 {Z : State} {a0 : Array Value} (hw : ∀ d ∈ tables_1, d.before a0 Z = true) : (Jvm.Cond.code ({ cls := "com/example/xml_stream_transform/xmlstreamtransform/output/CdataSplitterSplitsBeforePinLaw", name := "sectionStart", desc := "(II)I" } : Jvm.MethodName) method_3_code (2 : Nat) (Option.some Jvm.ClassFile.FieldType.int)).before a0 Z = true := hw _ (List.mem_of_getElem? (i := 23) rfl)
theorem ww24 {Z : State} {a0 : Array Value} (hw : ∀ d ∈ tables_1, d.before a0 Z = true) : (Jvm.Cond.methodLink "com/example/xml_stream_transform/xmlstreamtransform/output/CdataSplitterSplitsBeforePinLaw" (24 : Nat) ({ cls := "com/example/xml_stream_transform/xmlstreamtransform/output/CdataSplitterSplitsBeforePinLaw", name := "ref", desc := "([CII)Z" } : Jvm.MethodName)).before a0 Z = true := hw _ (List.mem_of_getElem? (i := 24) rfl)
theorem ww25 {Z : State} {a0 : Array Value} (hw : ∀ d ∈ tables_1, d.before a0 Z = true) : (Jvm.Cond.static ({ cls := "com/example/xml_stream_transform/xmlstreamtransform/output/CdataSplitterSplitsBeforePinLaw", name := "ref", desc := "([CII)Z" } : Jvm.MethodName)).before a0 Z = true := hw _ (List.mem_of_getElem? (i := 25) rfl)
theorem ww26 {Z : State} {a0 : Array Value} (hw : ∀ d ∈ tables_1, d.before a0 Z = true) : (Jvm.Cond.code ({ cls := "com/example/xml_stream_transform/xmlstreamtransform/output/CdataSplitterSplitsBeforePinLaw", name := "ref", desc := "([CII)Z" } : Jvm.MethodName) method_4_code (3 : Nat) (Option.some Jvm.ClassFile.FieldType.boolean)).before a0 Z = true := hw _ (List.mem_of_getElem? (i := 26) rfl)
theorem ww27 {Z : State} {a0 : Array Value} (hw : ∀ d ∈ tables_1, d.before a0 Z = true) : (Jvm.Cond.methodLink "com/example/xml_stream_transform/xmlstreamtransform/output/CdataSplitterSplitsBeforePinLaw" (28 : Nat) ({ cls := "com/example/xml_stream_transform/xmlstreamtransform/output/CdataSplitter", name := "start", desc := "()V" } : Jvm.MethodName)).before a0 Z = true := hw _ (List.mem_of_getElem? (i := 27) rfl)
theorem ww28 {Z : State} {a0 : Array Value} (hw : ∀ d ∈ tables_1, d.before a0 Z = true) : (Jvm.Cond.declares ({ cls := "com/example/xml_stream_transform/xmlstreamtransform/output/CdataSplitter", name := "start", desc := "()V" } : Jvm.MethodName)).before a0 Z = true := hw _ (List.mem_of_getElem? (i := 28) rfl)
theorem ww29 {Z : State} {a0 : Array Value} (hw : ∀ d ∈ tables_1, d.before a0 Z = true) : (Jvm.Cond.instanceMethod ({ cls := "com/example/xml_stream_transform/xmlstreamtransform/output/CdataSplitter", name := "start", desc := "()V" } : Jvm.MethodName)).before a0 Z = true := hw _ (List.mem_of_getElem? (i := 29) rfl)
theorem ww30 {Z : State} {a0 : Array Value} (hw : ∀ d ∈ tables_1, d.before a0 Z = true) : (Jvm.Cond.selects "com/example/xml_stream_transform/xmlstreamtransform/output/CdataSplitter" ({ cls := "com/example/xml_stream_transform/xmlstreamtransform/output/CdataSplitter", name := "start", desc := "()V" } : Jvm.MethodName) ({ cls := "com/example/xml_stream_transform/xmlstreamtransform/output/CdataSplitter", name := "start", desc := "()V" } : Jvm.MethodName)).before a0 Z = true := hw _ (List.mem_of_getElem? (i := 30) rfl)
theorem ww31 {Z : State} {a0 : Array Value} (hw : ∀ d ∈ tables_1, d.before a0 Z = true) : (Jvm.Cond.code ({ cls := "com/example/xml_stream_transform/xmlstreamtransform/output/CdataSplitter", name := "start", desc := "()V" } : Jvm.MethodName) prog_29_method_2_code (1 : Nat) (Option.none : Option Jvm.ClassFile.FieldType)).before a0 Z = true := hw _ (List.mem_of_getElem? (i := 31) rfl)
/-! the plain law -/
def own_spl (p b : Int32) : Int32 := if p = (62 : Int32) ∧ ¬ b < (2 : Int32) then 1 else 0
def own_nb (p b : Int32) : Int32 := if p = (93 : Int32) then b + (1 : Int32) else 0
def own_r (c d e : Int32) : Int32 := if c = (62 : Int32) ∧ d = (93 : Int32) ∧ e = (93 : Int32) then 1 else 0
theorem own_and3 (y : Int32) : y &&& (3 : Int32) = (0 : Int32) ∨ y &&& (3 : Int32) = (1 : Int32) ∨ y &&& (3 : Int32) = (2 : Int32) ∨ y &&& (3 : Int32) = (3 : Int32) := by
  have a := c_and y 3 (by decide)
  have e0 : (0 : Int32).toInt = 0 := rfl
  have e1 : (1 : Int32).toInt = 1 := rfl
  have e2 : (2 : Int32).toInt = 2 := rfl
  have e3 : (3 : Int32).toInt = 3 := rfl
  simp only [← Int32.toInt_inj]
  omega
theorem own_nb_bd {p b : Int32} {n : Int} (h0 : 0 ≤ b.toInt) (h1 : b.toInt ≤ n) (hn : 0 ≤ n ∧ n < 1000) : 0 ≤ (own_nb p b).toInt ∧ (own_nb p b).toInt ≤ n + 1 := by
  unfold own_nb
  split
  · have a := c_iadd b 1
    have e1 : (1 : Int32).toInt = 1 := rfl
    have b1 := Int32.le_toInt (b + 1)
    have b2 := Int32.toInt_lt (b + 1)
    omega
  · have e0 : (0 : Int32).toInt = 0 := rfl
    omega
theorem own_L0 (c : Int32) : own_spl c 0 = 0 := by unfold own_spl; rw [if_neg]; simp
theorem own_L1 (c d : Int32) : own_spl c (own_nb d 0) = 0 := by
  unfold own_spl; rw [if_neg]
  rintro ⟨-, q⟩
  apply q
  unfold own_nb
  split <;> decide
theorem own_L2 {b : Int32} (h0 : 0 ≤ b.toInt) (h1 : b.toInt ≤ 900) (c d e : Int32) : own_spl c (own_nb d (own_nb e b)) = own_r c d e := by
  have a := c_iadd b 1
  have a' := c_iadd (b + 1) 1
  have e1 : (1 : Int32).toInt = 1 := rfl
  have e2 : (2 : Int32).toInt = 2 := rfl
  have e0 : (0 : Int32).toInt = 0 := rfl
  have b1 := Int32.le_toInt (b + 1)
  have b2 := Int32.toInt_lt (b + 1)
  have b3 := Int32.le_toInt (b + 1 + 1)
  have b4 := Int32.toInt_lt (b + 1 + 1)
  have k2 : ¬ (b + 1 + 1) < (2 : Int32) := by rw [Int32.lt_iff_toInt_lt]; omega
  have k1 : (0 + 1 : Int32) < (2 : Int32) := by decide
  have k0 : (0 : Int32) < (2 : Int32) := by decide
  unfold own_spl own_nb own_r
  by_cases hd : d = 93
  · by_cases he : e = 93
    · simp [hd, he, k2]
    · simp [hd, he]
  · simp [hd]
theorem own_L2a (c d e : Int32) : own_spl c (own_nb d (own_nb e 0)) = own_r c d e := own_L2 (by decide) (by decide) c d e
theorem own_L2b (c d e f : Int32) : own_spl c (own_nb d (own_nb e (own_nb f 0))) = own_r c d e := by
  have q := own_nb_bd (p := f) (b := 0) (n := 0) (by decide) (by decide) (by decide)
  exact own_L2 q.1 (by omega) c d e
theorem own_L2c (c d e f g : Int32) : own_spl c (own_nb d (own_nb e (own_nb f (own_nb g 0)))) = own_r c d e := by
  have q := own_nb_bd (p := g) (b := 0) (n := 0) (by decide) (by decide) (by decide)
  have q' := own_nb_bd (p := f) (b := own_nb g 0) (n := 1) q.1 (by omega) (by decide)
  exact own_L2 q'.1 (by omega) c d e
theorem own_pn1 : plainFor (⟨"com/example/xml_stream_transform/xmlstreamtransform/output/CdataSplitterSplitsBeforePinLaw", "ch", "(I)C"⟩ : MethodName) = true := plainFor_of_name (by first | (simp [plainName, overriddenIn]; done) | decide +kernel)
theorem d1_0 : decode method_2_code 0 = .ok (.iload_n 0, 1) := by decide +kernel
theorem d1_1 : decode method_2_code 1 = .ok (.iconst 3, 1) := by decide +kernel
theorem d1_2 : decode method_2_code 2 = .ok (.iand, 1) := by decide +kernel
theorem d1_3 : decode method_2_code 3 = .ok (.istore_n 1, 1) := by decide +kernel
theorem d1_4 : decode method_2_code 4 = .ok (.iload_n 1, 1) := by decide +kernel
theorem d1_5 : decode method_2_code 5 = .ok (.ifCond .ne 6, 3) := by decide +kernel
theorem d1_8 : decode method_2_code 8 = .ok (.bipush 93, 2) := by decide +kernel
theorem d1_10 : decode method_2_code 10 = .ok (.ireturn, 1) := by decide +kernel
theorem d1_11 : decode method_2_code 11 = .ok (.iload_n 1, 1) := by decide +kernel
theorem d1_12 : decode method_2_code 12 = .ok (.iconst 1, 1) := by decide +kernel
theorem d1_13 : decode method_2_code 13 = .ok (.if_icmp .ne 6, 3) := by decide +kernel
theorem d1_16 : decode method_2_code 16 = .ok (.bipush 62, 2) := by decide +kernel
theorem d1_18 : decode method_2_code 18 = .ok (.ireturn, 1) := by decide +kernel
theorem d1_19 : decode method_2_code 19 = .ok (.iload_n 0, 1) := by decide +kernel
theorem d1_20 : decode method_2_code 20 = .ok (.iconst 2, 1) := by decide +kernel
theorem d1_21 : decode method_2_code 21 = .ok (.iushr, 1) := by decide +kernel
theorem d1_22 : decode method_2_code 22 = .ok (.i2c, 1) := by decide +kernel
theorem d1_23 : decode method_2_code 23 = .ok (.ireturn, 1) := by decide +kernel
theorem own_ef1_own_rmC (m : MethodId) (y0 : Int32) : entryFrame m #[(.int y0)] 2 = mkF m 0 #[.val (.int y0), .unset] [] := by first | (simp [entryFrame, mkF, argsToLocals, Value.category]; done) | rfl
set_option maxRecDepth 65536 in
set_option maxHeartbeats 40000000 in
theorem own_rmC (l : Launch) (Z : State) (a0 : Array Value) (hw : ∀ d ∈ tables_1, d.before a0 Z = true) (p0 : Int32) (h0 : Heap) (n0 : Nat) (Z0 : n0 ≤ h0.size)  :
    own_Met l Z (⟨"com/example/xml_stream_transform/xmlstreamtransform/output/CdataSplitterSplitsBeforePinLaw", "ch", "(I)C"⟩ : MethodName) method_2_code 2 (some .char) [] ({ frames := 0, cells := 0, slots := 0, locals := 0 } : Room) #[(.int p0)] h0 (fun v h L => ∃ z : Int32, v = some (.int z) ∧ Fr n0 L ∧ h = h0) := by
  refine own_met own_pn1 ?_
  intro p e s m below meth c s₁ hx hby hml hown hnm hret hlk hZ X0 hE0
  have N0 := Fr.nil n0
  refine own_cast (own_ef1_own_rmC m p0) ?_
  refine own_iloadN (n := 1) X0 hx (hb hby d1_0) rfl rfl ?_
  refine own_iconst (n := 2) (z := (3 : Int32)) X0 hx (hb hby d1_1) rfl rfl ?_
  refine own_iand (n := 3) X0 hx (hb hby d1_2) rfl rfl ?_
  refine own_istoreN (n := 4) (l' := #[.val (.int p0), .val (.int (p0 &&& (3 : Int32)))]) X0 hx (hb hby d1_3) rfl rfl ?_
  refine own_iloadN (n := 5) X0 hx (hb hby d1_4) rfl rfl ?_
  by_cases hc5_1 : (p0 &&& (3 : Int32)) = (0 : Int32)
  · skip
    refine own_ifNo (n := 8) X0 hx (hb hby d1_5) (teq hc5_1).2 rfl ?_
    refine own_bipush (n := 10) (z := (93 : Int32)) X0 hx (hb hby d1_8) rfl rfl ?_
    refine own_retZ X0 hx hlk hret (by simp) hE0 (w := (93 : Int32)) rfl (hb hby d1_10) (by decide) (by decide) ?_
    exact ⟨_, rfl, N0, rfl⟩
  · skip
    refine own_ifYes (n := 11) X0 hx (hb hby d1_5) (feq hc5_1).2 (by decide) (by decide) ?_
    refine own_iloadN (n := 12) X0 hx (hb hby d1_11) rfl rfl ?_
    refine own_iconst (n := 13) (z := (1 : Int32)) X0 hx (hb hby d1_12) rfl rfl ?_
    by_cases hc13_2 : (p0 &&& (3 : Int32)) = (1 : Int32)
    · skip
      refine own_icmpNo (n := 16) X0 hx (hb hby d1_13) (teq hc13_2).2 rfl ?_
      refine own_bipush (n := 18) (z := (62 : Int32)) X0 hx (hb hby d1_16) rfl rfl ?_
      refine own_retZ X0 hx hlk hret (by simp) hE0 (w := (62 : Int32)) rfl (hb hby d1_18) (by decide) (by decide) ?_
      exact ⟨_, rfl, N0, rfl⟩
    · skip
      refine own_icmpYes (n := 19) X0 hx (hb hby d1_13) (feq hc13_2).2 (by decide) (by decide) ?_
      refine own_iloadN (n := 20) X0 hx (hb hby d1_19) rfl rfl ?_
      refine own_iconst (n := 21) (z := (2 : Int32)) X0 hx (hb hby d1_20) rfl rfl ?_
      refine own_iushr (n := 22) X0 hx (hb hby d1_21) rfl rfl ?_
      refine own_i2c (n := 23) X0 hx (hb hby d1_22) rfl rfl ?_
      refine own_retZ X0 hx hlk hret (by simp) hE0 (w := (nar .char (((p0).toUInt32 >>> ((2 : Int32) &&& 31).toUInt32).toInt32).toUInt32.toUInt16.toUInt32.toInt32)) rfl (hb hby d1_23) (by decide) (by decide) ?_
      exact ⟨_, rfl, N0, rfl⟩
theorem own_pn2 : plainFor (⟨"com/example/xml_stream_transform/xmlstreamtransform/output/CdataSplitter", "<init>", "()V"⟩ : MethodName) = true := plainFor_of_name (by first | (simp [plainName, overriddenIn]; done) | decide +kernel)
theorem d2_0 : decode prog_29_method_1_code 0 = .ok (.aload_n 0, 1) := by decide +kernel
theorem d2_1 : decode prog_29_method_1_code 1 = .ok (.invokespecial 1, 3) := by decide +kernel
theorem d2_4 : decode prog_29_method_1_code 4 = .ok (.return_, 1) := by decide +kernel
theorem own_ef2_own_rmI (m : MethodId) (y0 : Addr) : entryFrame m #[(.ref y0)] 1 = mkF m 0 #[.val (.ref y0)] [] := by first | (simp [entryFrame, mkF, argsToLocals, Value.category]; done) | rfl
set_option maxRecDepth 65536 in
set_option maxHeartbeats 40000000 in
theorem own_rmI (l : Launch) (Z : State) (a0 : Array Value) (hw : ∀ d ∈ tables_1, d.before a0 Z = true) (a : Addr) (h0 : Heap) (n0 : Nat) (Z0 : n0 ≤ h0.size)  :
    own_Met l Z (⟨"com/example/xml_stream_transform/xmlstreamtransform/output/CdataSplitter", "<init>", "()V"⟩ : MethodName) prog_29_method_1_code 1 none [] ({ frames := 1, cells := 0, slots := 0, locals := 12 } : Room) #[(.ref a)] h0 (fun v h L => v = none ∧ Fr n0 L ∧ h = h0) := by
  refine own_met own_pn2 ?_
  intro p e s m below meth c s₁ hx hby hml hown hnm hret hlk hZ X0 hE0
  have N0 := Fr.nil n0
  refine own_cast (own_ef2_own_rmI m a) ?_
  refine own_aloadN (n := 1) X0 hx (hb hby d2_0) rfl rfl rfl ?_
  refine own_initO (n := 4) X0 hx hZ hown (ww11 hw) (ww12 hw) (ww13 hw) hE0 (by rw [hml]; rfl) (hb hby d2_1) (Nat.le_of_ble_eq_true rfl) (Nat.le_of_ble_eq_true rfl) rfl ?_
  intro T1 X1 e1
  refine own_retV X1 hx hlk hret e1 (hb hby d2_4) (by decide) (by decide) ?_
  exact ⟨rfl, N0, rfl⟩
theorem own_pn4 : plainFor (⟨"com/example/xml_stream_transform/xmlstreamtransform/output/CdataSplitter", "splitsBefore", "(C)Z"⟩ : MethodName) = true := plainFor_of_name (by first | (simp [plainName, overriddenIn]; done) | decide +kernel)
theorem d4_0 : decode prog_29_method_3_code 0 = .ok (.iload_n 1, 1) := by decide +kernel
theorem d4_1 : decode prog_29_method_3_code 1 = .ok (.bipush 62, 2) := by decide +kernel
theorem d4_3 : decode prog_29_method_3_code 3 = .ok (.if_icmp .ne 15, 3) := by decide +kernel
theorem d4_6 : decode prog_29_method_3_code 6 = .ok (.aload_n 0, 1) := by decide +kernel
theorem d4_7 : decode prog_29_method_3_code 7 = .ok (.getfield 7, 3) := by decide +kernel
theorem d4_10 : decode prog_29_method_3_code 10 = .ok (.iconst 2, 1) := by decide +kernel
theorem d4_11 : decode prog_29_method_3_code 11 = .ok (.if_icmp .lt 7, 3) := by decide +kernel
theorem d4_18 : decode prog_29_method_3_code 18 = .ok (.iconst 0, 1) := by decide +kernel
theorem d4_19 : decode prog_29_method_3_code 19 = .ok (.istore_n 2, 1) := by decide +kernel
theorem d4_20 : decode prog_29_method_3_code 20 = .ok (.aload_n 0, 1) := by decide +kernel
theorem d4_21 : decode prog_29_method_3_code 21 = .ok (.iload_n 1, 1) := by decide +kernel
theorem d4_22 : decode prog_29_method_3_code 22 = .ok (.bipush 93, 2) := by decide +kernel
theorem d4_24 : decode prog_29_method_3_code 24 = .ok (.if_icmp .ne 12, 3) := by decide +kernel
theorem d4_27 : decode prog_29_method_3_code 27 = .ok (.aload_n 0, 1) := by decide +kernel
theorem d4_28 : decode prog_29_method_3_code 28 = .ok (.getfield 7, 3) := by decide +kernel
theorem d4_31 : decode prog_29_method_3_code 31 = .ok (.iconst 1, 1) := by decide +kernel
theorem d4_32 : decode prog_29_method_3_code 32 = .ok (.iadd, 1) := by decide +kernel
theorem d4_33 : decode prog_29_method_3_code 33 = .ok (.goto 4, 3) := by decide +kernel
theorem d4_37 : decode prog_29_method_3_code 37 = .ok (.putfield 7, 3) := by decide +kernel
theorem d4_40 : decode prog_29_method_3_code 40 = .ok (.iload_n 2, 1) := by decide +kernel
theorem d4_41 : decode prog_29_method_3_code 41 = .ok (.ireturn, 1) := by decide +kernel
theorem d4_36 : decode prog_29_method_3_code 36 = .ok (.iconst 0, 1) := by decide +kernel
theorem d4_14 : decode prog_29_method_3_code 14 = .ok (.iconst 1, 1) := by decide +kernel
theorem d4_15 : decode prog_29_method_3_code 15 = .ok (.goto 4, 3) := by decide +kernel
theorem own_ef4_own_rmS (m : MethodId) (y0 : Addr) (y1 : Int32) : entryFrame m #[(.ref y0), (.int y1)] 3 = mkF m 0 #[.val (.ref y0), .val (.int y1), .unset] [] := by first | (simp [entryFrame, mkF, argsToLocals, Value.category]; done) | rfl
set_option maxRecDepth 65536 in
set_option maxHeartbeats 40000000 in
theorem own_rmS (l : Launch) (Z : State) (a0 : Array Value) (hw : ∀ d ∈ tables_1, d.before a0 Z = true) (a : Addr) (p1 b : Int32) (h0 : Heap) (n0 : Nat) (Z0 : n0 ≤ h0.size) (E0 : Exa Z h0 a "com/example/xml_stream_transform/xmlstreamtransform/output/CdataSplitter") (F0 : Fld Z h0 a "com/example/xml_stream_transform/xmlstreamtransform/output/CdataSplitter" "brackets" "I" (.int b)) (g_a : n0 ≤ a) :
    own_Met l Z (⟨"com/example/xml_stream_transform/xmlstreamtransform/output/CdataSplitter", "splitsBefore", "(C)Z"⟩ : MethodName) prog_29_method_3_code 3 (some .boolean) [] ({ frames := 0, cells := 0, slots := 0, locals := 0 } : Room) #[(.ref a), (.int p1)] h0 (fun v h L => v = some (.int (own_spl p1 b)) ∧ Fr n0 L ∧ Keep h0 h [a] ∧ Exa Z h a "com/example/xml_stream_transform/xmlstreamtransform/output/CdataSplitter" ∧ Fld Z h a "com/example/xml_stream_transform/xmlstreamtransform/output/CdataSplitter" "brackets" "I" (.int (own_nb p1 b))) := by
  refine own_met own_pn4 ?_
  intro p e s m below meth c s₁ hx hby hml hown hnm hret hlk hZ X0 hE0
  have N0 := Fr.nil n0
  refine own_cast (own_ef4_own_rmS m a p1) ?_
  refine own_iloadN (n := 1) X0 hx (hb hby d4_0) rfl rfl ?_
  refine own_bipush (n := 3) (z := (62 : Int32)) X0 hx (hb hby d4_1) rfl rfl ?_
  by_cases hc3_1 : p1 = (62 : Int32)
  · skip
    refine own_icmpNo (n := 6) X0 hx (hb hby d4_3) (teq hc3_1).2 rfl ?_
    refine own_aloadN (n := 7) X0 hx (hb hby d4_6) rfl rfl rfl ?_
    refine own_getF (n := 10) X0 hx hZ hown (host := "") (Or.inl (ww19 hw)) Via.refl hE0 F0 (hb hby d4_7) rfl ?_
    intro T2 X2 e2
    refine own_iconst (n := 11) (z := (2 : Int32)) X2 hx (hb hby d4_10) rfl rfl ?_
    by_cases hc11_3 : b < (2 : Int32)
    · skip
      refine own_icmpYes (n := 18) X2 hx (hb hby d4_11) (tlt hc11_3).1 (by decide) (by decide) ?_
      refine own_iconst (n := 19) (z := (0 : Int32)) X2 hx (hb hby d4_18) rfl rfl ?_
      refine own_istoreN (n := 20) (l' := #[.val (.ref a), .val (.int p1), .val (.int (0 : Int32))]) X2 hx (hb hby d4_19) rfl rfl ?_
      refine own_aloadN (n := 21) X2 hx (hb hby d4_20) rfl rfl rfl ?_
      refine own_iloadN (n := 22) X2 hx (hb hby d4_21) rfl rfl ?_
      refine own_bipush (n := 24) (z := (93 : Int32)) X2 hx (hb hby d4_22) rfl rfl ?_
      by_cases hc24_4 : p1 = (93 : Int32)
      · skip
        refine own_icmpNo (n := 27) X2 hx (hb hby d4_24) (teq hc24_4).2 rfl ?_
        refine own_aloadN (n := 28) X2 hx (hb hby d4_27) rfl rfl rfl ?_
        refine own_getF (n := 31) X2 hx hZ hown (host := "") (Or.inl (ww19 hw)) Via.refl e2 F0 (hb hby d4_28) rfl ?_
        intro T5 X5 e5
        refine own_iconst (n := 32) (z := (1 : Int32)) X5 hx (hb hby d4_31) rfl rfl ?_
        refine own_iadd (n := 33) X5 hx (hb hby d4_32) rfl rfl ?_
        refine own_goto (n := 37) X5 hx (hb hby d4_33) (by decide) (by decide) ?_
        refine own_putF (n := 40) X5 hx hZ hown (host := "") (Or.inl (ww19 hw)) Via.refl e5 F0 E0 (Or.inl (ww20 hw)) (ww6 hw) (ty := .int) (by decide) rfl rfl (hb hby d4_37) rfl ?_
        intro T6 h6 X6 e6 W6
        have F_7 := F0.same W6
        have N6 := Fr.snoc X6 N0 g_a
        have E_8 := E0.wr W6
        have K_9 := (Keep.refl h0 [a]).wr W6 (Or.inl (by first | exact List.mem_cons_self | exact List.mem_cons_of_mem _ List.mem_cons_self | exact List.mem_cons_of_mem _ (List.mem_cons_of_mem _ List.mem_cons_self) | (simp; done)))
        have Z_10 : n0 ≤ h6.size := by rw [W6.size]; exact Z0
        refine own_iloadN (n := 41) X6 hx (hb hby d4_40) rfl rfl ?_
        refine own_retZ X6 hx hlk hret (by simp) e6 (w := (0 : Int32)) rfl (hb hby d4_41) (by decide) (by decide) ?_
        exact absurd (hc3_1.symm.trans hc24_4) (by decide)
      · skip
        refine own_icmpYes (n := 36) X2 hx (hb hby d4_24) (feq hc24_4).2 (by decide) (by decide) ?_
        refine own_iconst (n := 37) (z := (0 : Int32)) X2 hx (hb hby d4_36) rfl rfl ?_
        refine own_putF (n := 40) X2 hx hZ hown (host := "") (Or.inl (ww19 hw)) Via.refl e2 F0 E0 (Or.inl (ww20 hw)) (ww6 hw) (ty := .int) (by decide) rfl rfl (hb hby d4_37) rfl ?_
        intro T11 h11 X11 e11 W11
        have F_12 := F0.same W11
        have N11 := Fr.snoc X11 N0 g_a
        have E_13 := E0.wr W11
        have K_14 := (Keep.refl h0 [a]).wr W11 (Or.inl (by first | exact List.mem_cons_self | exact List.mem_cons_of_mem _ List.mem_cons_self | exact List.mem_cons_of_mem _ (List.mem_cons_of_mem _ List.mem_cons_self) | (simp; done)))
        have Z_15 : n0 ≤ h11.size := by rw [W11.size]; exact Z0
        refine own_iloadN (n := 41) X11 hx (hb hby d4_40) rfl rfl ?_
        refine own_retZ X11 hx hlk hret (by simp) e11 (w := (0 : Int32)) rfl (hb hby d4_41) (by decide) (by decide) ?_
        exact ⟨by simp [own_spl, hc3_1, hc11_3, hc24_4], N11, K_14, E_13, by simpa [own_nb, hc3_1, hc11_3, hc24_4] using F_12⟩
    · skip
      refine own_icmpNo (n := 14) X2 hx (hb hby d4_11) (flt hc11_3).1 rfl ?_
      refine own_iconst (n := 15) (z := (1 : Int32)) X2 hx (hb hby d4_14) rfl rfl ?_
      refine own_goto (n := 19) X2 hx (hb hby d4_15) (by decide) (by decide) ?_
      refine own_istoreN (n := 20) (l' := #[.val (.ref a), .val (.int p1), .val (.int (1 : Int32))]) X2 hx (hb hby d4_19) rfl rfl ?_
      refine own_aloadN (n := 21) X2 hx (hb hby d4_20) rfl rfl rfl ?_
      refine own_iloadN (n := 22) X2 hx (hb hby d4_21) rfl rfl ?_
      refine own_bipush (n := 24) (z := (93 : Int32)) X2 hx (hb hby d4_22) rfl rfl ?_
      by_cases hc24_16 : p1 = (93 : Int32)
      · skip
        refine own_icmpNo (n := 27) X2 hx (hb hby d4_24) (teq hc24_16).2 rfl ?_
        refine own_aloadN (n := 28) X2 hx (hb hby d4_27) rfl rfl rfl ?_
        refine own_getF (n := 31) X2 hx hZ hown (host := "") (Or.inl (ww19 hw)) Via.refl e2 F0 (hb hby d4_28) rfl ?_
        intro T17 X17 e17
        refine own_iconst (n := 32) (z := (1 : Int32)) X17 hx (hb hby d4_31) rfl rfl ?_
        refine own_iadd (n := 33) X17 hx (hb hby d4_32) rfl rfl ?_
        refine own_goto (n := 37) X17 hx (hb hby d4_33) (by decide) (by decide) ?_
        refine own_putF (n := 40) X17 hx hZ hown (host := "") (Or.inl (ww19 hw)) Via.refl e17 F0 E0 (Or.inl (ww20 hw)) (ww6 hw) (ty := .int) (by decide) rfl rfl (hb hby d4_37) rfl ?_
        intro T18 h18 X18 e18 W18
        have F_19 := F0.same W18
        have N18 := Fr.snoc X18 N0 g_a
        have E_20 := E0.wr W18
        have K_21 := (Keep.refl h0 [a]).wr W18 (Or.inl (by first | exact List.mem_cons_self | exact List.mem_cons_of_mem _ List.mem_cons_self | exact List.mem_cons_of_mem _ (List.mem_cons_of_mem _ List.mem_cons_self) | (simp; done)))
        have Z_22 : n0 ≤ h18.size := by rw [W18.size]; exact Z0
        refine own_iloadN (n := 41) X18 hx (hb hby d4_40) rfl rfl ?_
        refine own_retZ X18 hx hlk hret (by simp) e18 (w := (1 : Int32)) rfl (hb hby d4_41) (by decide) (by decide) ?_
        exact absurd (hc3_1.symm.trans hc24_16) (by decide)
      · skip
        refine own_icmpYes (n := 36) X2 hx (hb hby d4_24) (feq hc24_16).2 (by decide) (by decide) ?_
        refine own_iconst (n := 37) (z := (0 : Int32)) X2 hx (hb hby d4_36) rfl rfl ?_
        refine own_putF (n := 40) X2 hx hZ hown (host := "") (Or.inl (ww19 hw)) Via.refl e2 F0 E0 (Or.inl (ww20 hw)) (ww6 hw) (ty := .int) (by decide) rfl rfl (hb hby d4_37) rfl ?_
        intro T23 h23 X23 e23 W23
        have F_24 := F0.same W23
        have N23 := Fr.snoc X23 N0 g_a
        have E_25 := E0.wr W23
        have K_26 := (Keep.refl h0 [a]).wr W23 (Or.inl (by first | exact List.mem_cons_self | exact List.mem_cons_of_mem _ List.mem_cons_self | exact List.mem_cons_of_mem _ (List.mem_cons_of_mem _ List.mem_cons_self) | (simp; done)))
        have Z_27 : n0 ≤ h23.size := by rw [W23.size]; exact Z0
        refine own_iloadN (n := 41) X23 hx (hb hby d4_40) rfl rfl ?_
        refine own_retZ X23 hx hlk hret (by simp) e23 (w := (1 : Int32)) rfl (hb hby d4_41) (by decide) (by decide) ?_
        exact ⟨by simp [own_spl, hc3_1, hc11_3, hc24_16], N23, K_26, E_25, by simpa [own_nb, hc3_1, hc11_3, hc24_16] using F_24⟩
  · skip
    refine own_icmpYes (n := 18) X0 hx (hb hby d4_3) (feq hc3_1).2 (by decide) (by decide) ?_
    refine own_iconst (n := 19) (z := (0 : Int32)) X0 hx (hb hby d4_18) rfl rfl ?_
    refine own_istoreN (n := 20) (l' := #[.val (.ref a), .val (.int p1), .val (.int (0 : Int32))]) X0 hx (hb hby d4_19) rfl rfl ?_
    refine own_aloadN (n := 21) X0 hx (hb hby d4_20) rfl rfl rfl ?_
    refine own_iloadN (n := 22) X0 hx (hb hby d4_21) rfl rfl ?_
    refine own_bipush (n := 24) (z := (93 : Int32)) X0 hx (hb hby d4_22) rfl rfl ?_
    by_cases hc24_28 : p1 = (93 : Int32)
    · skip
      refine own_icmpNo (n := 27) X0 hx (hb hby d4_24) (teq hc24_28).2 rfl ?_
      refine own_aloadN (n := 28) X0 hx (hb hby d4_27) rfl rfl rfl ?_
      refine own_getF (n := 31) X0 hx hZ hown (host := "") (Or.inl (ww19 hw)) Via.refl hE0 F0 (hb hby d4_28) rfl ?_
      intro T29 X29 e29
      refine own_iconst (n := 32) (z := (1 : Int32)) X29 hx (hb hby d4_31) rfl rfl ?_
      refine own_iadd (n := 33) X29 hx (hb hby d4_32) rfl rfl ?_
      refine own_goto (n := 37) X29 hx (hb hby d4_33) (by decide) (by decide) ?_
      refine own_putF (n := 40) X29 hx hZ hown (host := "") (Or.inl (ww19 hw)) Via.refl e29 F0 E0 (Or.inl (ww20 hw)) (ww6 hw) (ty := .int) (by decide) rfl rfl (hb hby d4_37) rfl ?_
      intro T30 h30 X30 e30 W30
      have F_31 := F0.same W30
      have N30 := Fr.snoc X30 N0 g_a
      have E_32 := E0.wr W30
      have K_33 := (Keep.refl h0 [a]).wr W30 (Or.inl (by first | exact List.mem_cons_self | exact List.mem_cons_of_mem _ List.mem_cons_self | exact List.mem_cons_of_mem _ (List.mem_cons_of_mem _ List.mem_cons_self) | (simp; done)))
      have Z_34 : n0 ≤ h30.size := by rw [W30.size]; exact Z0
      refine own_iloadN (n := 41) X30 hx (hb hby d4_40) rfl rfl ?_
      refine own_retZ X30 hx hlk hret (by simp) e30 (w := (0 : Int32)) rfl (hb hby d4_41) (by decide) (by decide) ?_
      exact ⟨by simp [own_spl, hc3_1, hc24_28], N30, K_33, E_32, by simpa [own_nb, hc3_1, hc24_28] using F_31⟩
    · skip
      refine own_icmpYes (n := 36) X0 hx (hb hby d4_24) (feq hc24_28).2 (by decide) (by decide) ?_
      refine own_iconst (n := 37) (z := (0 : Int32)) X0 hx (hb hby d4_36) rfl rfl ?_
      refine own_putF (n := 40) X0 hx hZ hown (host := "") (Or.inl (ww19 hw)) Via.refl hE0 F0 E0 (Or.inl (ww20 hw)) (ww6 hw) (ty := .int) (by decide) rfl rfl (hb hby d4_37) rfl ?_
      intro T35 h35 X35 e35 W35
      have F_36 := F0.same W35
      have N35 := Fr.snoc X35 N0 g_a
      have E_37 := E0.wr W35
      have K_38 := (Keep.refl h0 [a]).wr W35 (Or.inl (by first | exact List.mem_cons_self | exact List.mem_cons_of_mem _ List.mem_cons_self | exact List.mem_cons_of_mem _ (List.mem_cons_of_mem _ List.mem_cons_self) | (simp; done)))
      have Z_39 : n0 ≤ h35.size := by rw [W35.size]; exact Z0
      refine own_iloadN (n := 41) X35 hx (hb hby d4_40) rfl rfl ?_
      refine own_retZ X35 hx hlk hret (by simp) e35 (w := (0 : Int32)) rfl (hb hby d4_41) (by decide) (by decide) ?_
      exact ⟨by simp [own_spl, hc3_1, hc24_28], N35, K_38, E_37, by simpa [own_nb, hc3_1, hc24_28] using F_36⟩
theorem own_pn7 : plainFor (⟨"com/example/xml_stream_transform/xmlstreamtransform/output/CdataSplitter", "start", "()V"⟩ : MethodName) = true := plainFor_of_name (by first | (simp [plainName, overriddenIn]; done) | decide +kernel)
theorem d7_0 : decode prog_29_method_2_code 0 = .ok (.aload_n 0, 1) := by decide +kernel
theorem d7_1 : decode prog_29_method_2_code 1 = .ok (.iconst 0, 1) := by decide +kernel
theorem d7_2 : decode prog_29_method_2_code 2 = .ok (.putfield 7, 3) := by decide +kernel
theorem d7_5 : decode prog_29_method_2_code 5 = .ok (.return_, 1) := by decide +kernel
theorem own_ef7_own_rmA (m : MethodId) (y0 : Addr) : entryFrame m #[(.ref y0)] 1 = mkF m 0 #[.val (.ref y0)] [] := by first | (simp [entryFrame, mkF, argsToLocals, Value.category]; done) | rfl
set_option maxRecDepth 65536 in
set_option maxHeartbeats 40000000 in
theorem own_rmA (l : Launch) (Z : State) (a0 : Array Value) (hw : ∀ d ∈ tables_1, d.before a0 Z = true) (a : Addr) (b : Int32) (h0 : Heap) (n0 : Nat) (Z0 : n0 ≤ h0.size) (E0 : Exa Z h0 a "com/example/xml_stream_transform/xmlstreamtransform/output/CdataSplitter") (F0 : Fld Z h0 a "com/example/xml_stream_transform/xmlstreamtransform/output/CdataSplitter" "brackets" "I" (.int b)) (g_a : n0 ≤ a) :
    own_Met l Z (⟨"com/example/xml_stream_transform/xmlstreamtransform/output/CdataSplitter", "start", "()V"⟩ : MethodName) prog_29_method_2_code 1 none [] ({ frames := 0, cells := 0, slots := 0, locals := 0 } : Room) #[(.ref a)] h0 (fun v h L => v = none ∧ Fr n0 L ∧ Keep h0 h [a] ∧ Exa Z h a "com/example/xml_stream_transform/xmlstreamtransform/output/CdataSplitter" ∧ Fld Z h a "com/example/xml_stream_transform/xmlstreamtransform/output/CdataSplitter" "brackets" "I" (.int (0 : Int32))) := by
  refine own_met own_pn7 ?_
  intro p e s m below meth c s₁ hx hby hml hown hnm hret hlk hZ X0 hE0
  have N0 := Fr.nil n0
  refine own_cast (own_ef7_own_rmA m a) ?_
  refine own_aloadN (n := 1) X0 hx (hb hby d7_0) rfl rfl rfl ?_
  refine own_iconst (n := 2) (z := (0 : Int32)) X0 hx (hb hby d7_1) rfl rfl ?_
  refine own_putF (n := 5) X0 hx hZ hown (host := "") (Or.inl (ww19 hw)) Via.refl hE0 F0 E0 (Or.inl (ww20 hw)) (ww6 hw) (ty := .int) (by decide) rfl rfl (hb hby d7_2) rfl ?_
  intro T1 h1 X1 e1 W1
  have F_2 := F0.same W1
  have N1 := Fr.snoc X1 N0 g_a
  have E_3 := E0.wr W1
  have K_4 := (Keep.refl h0 [a]).wr W1 (Or.inl (by first | exact List.mem_cons_self | exact List.mem_cons_of_mem _ List.mem_cons_self | exact List.mem_cons_of_mem _ (List.mem_cons_of_mem _ List.mem_cons_self) | (simp; done)))
  have Z_5 : n0 ≤ h1.size := by rw [W1.size]; exact Z0
  refine own_retV X1 hx hlk hret e1 (hb hby d7_5) (by decide) (by decide) ?_
  exact ⟨rfl, N1, K_4, E_3, F_2⟩
theorem own_pn0 : plainFor x = true := plainFor_of_name (by first | (simp [plainName, overriddenIn]; done) | decide +kernel)
theorem own_pd0 : parseMethodDescriptor "(I)C" = some ⟨[.int], some .char⟩ := by decide +kernel
theorem own_pd1 : parseMethodDescriptor "()V" = some ⟨[], none⟩ := by decide +kernel
theorem own_pd2 : parseMethodDescriptor "(C)Z" = some ⟨[.char], some .boolean⟩ := by decide +kernel
theorem own_pn5 : plainFor (⟨"com/example/xml_stream_transform/xmlstreamtransform/output/CdataSplitterSplitsBeforePinLaw", "sectionStart", "(II)I"⟩ : MethodName) = true := plainFor_of_name (by first | (simp [plainName, overriddenIn]; done) | decide +kernel)
theorem d5_0 : decode method_3_code 0 = .ok (.iload_n 1, 1) := by decide +kernel
theorem d5_1 : decode method_3_code 1 = .ok (.ifCond .eq 10, 3) := by decide +kernel
theorem d5_11 : decode method_3_code 11 = .ok (.iconst 0, 1) := by decide +kernel
theorem d5_12 : decode method_3_code 12 = .ok (.ireturn, 1) := by decide +kernel
theorem own_ef5_own_rmX_0_0 (m : MethodId) (y0 : Int32) (y1 : Int32) : entryFrame m #[(.int y0), (.int y1)] 2 = mkF m 0 #[.val (.int y0), .val (.int y1)] [] := by first | (simp [entryFrame, mkF, argsToLocals, Value.category]; done) | rfl
set_option maxRecDepth 65536 in
set_option maxHeartbeats 40000000 in
theorem own_rmX_0_0 (l : Launch) (Z : State) (a0 : Array Value) (hw : ∀ d ∈ tables_1, d.before a0 Z = true)  (h0 : Heap) (n0 : Nat) (Z0 : n0 ≤ h0.size)  :
    own_Met l Z (⟨"com/example/xml_stream_transform/xmlstreamtransform/output/CdataSplitterSplitsBeforePinLaw", "sectionStart", "(II)I"⟩ : MethodName) method_3_code 2 (some .int) [] ({ frames := 0, cells := 0, slots := 0, locals := 0 } : Room) #[(.int (0 : Int32)), (.int (0 : Int32))] h0 (fun v h L => v = some (.int (0 : Int32)) ∧ Fr n0 L ∧ h = h0) := by
  refine own_met own_pn5 ?_
  intro p e s m below meth c s₁ hx hby hml hown hnm hret hlk hZ X0 hE0
  have N0 := Fr.nil n0
  refine own_cast (own_ef5_own_rmX_0_0 m (0 : Int32) (0 : Int32)) ?_
  refine own_iloadN (n := 1) X0 hx (hb hby d5_0) rfl rfl ?_
  refine own_ifYes (n := 11) X0 hx (hb hby d5_1) (teq (by decide : (0 : Int32) = (0 : Int32))).1 (by decide) (by decide) ?_
  refine own_iconst (n := 12) (z := (0 : Int32)) X0 hx (hb hby d5_11) rfl rfl ?_
  refine own_retI X0 hx hlk hret hE0 (hb hby d5_12) (by decide) (by decide) ?_
  exact ⟨rfl, N0, rfl⟩
theorem own_pd3 : parseMethodDescriptor "(II)I" = some ⟨[.int, .int], some .int⟩ := by decide +kernel
theorem own_pn6 : plainFor (⟨"com/example/xml_stream_transform/xmlstreamtransform/output/CdataSplitterSplitsBeforePinLaw", "ref", "([CII)Z"⟩ : MethodName) = true := plainFor_of_name (by first | (simp [plainName, overriddenIn]; done) | decide +kernel)
theorem d6_0 : decode method_4_code 0 = .ok (.aload_n 0, 1) := by decide +kernel
theorem d6_1 : decode method_4_code 1 = .ok (.iload_n 1, 1) := by decide +kernel
theorem d6_2 : decode method_4_code 2 = .ok (.caload, 1) := by decide +kernel
theorem d6_3 : decode method_4_code 3 = .ok (.bipush 62, 2) := by decide +kernel
theorem d6_5 : decode method_4_code 5 = .ok (.if_icmp .ne 34, 3) := by decide +kernel
theorem d6_8 : decode method_4_code 8 = .ok (.iload_n 1, 1) := by decide +kernel
theorem d6_9 : decode method_4_code 9 = .ok (.iconst 2, 1) := by decide +kernel
theorem d6_10 : decode method_4_code 10 = .ok (.isub, 1) := by decide +kernel
theorem d6_11 : decode method_4_code 11 = .ok (.iload_n 2, 1) := by decide +kernel
theorem d6_12 : decode method_4_code 12 = .ok (.if_icmp .lt 27, 3) := by decide +kernel
theorem d6_39 : decode method_4_code 39 = .ok (.iconst 0, 1) := by decide +kernel
theorem d6_40 : decode method_4_code 40 = .ok (.ireturn, 1) := by decide +kernel
theorem own_ef6_own_rmF_0_0 (m : MethodId) (y0 : Addr) (y1 : Int32) (y2 : Int32) : entryFrame m #[(.ref y0), (.int y1), (.int y2)] 3 = mkF m 0 #[.val (.ref y0), .val (.int y1), .val (.int y2)] [] := by first | (simp [entryFrame, mkF, argsToLocals, Value.category]; done) | rfl
set_option maxRecDepth 65536 in
set_option maxHeartbeats 40000000 in
theorem own_rmF_0_0 (l : Launch) (Z : State) (a0 : Array Value) (hw : ∀ d ∈ tables_1, d.before a0 Z = true) (a : Addr) (kk : ClassId) (c0 c1 c2 c3 c4 : Int32) (h0 : Heap) (n0 : Nat) (Z0 : n0 ≤ h0.size) (V0 : Arv Z h0 a kk .char (5 : Int32) [(.int c0), (.int c1), (.int c2), (.int c3), (.int c4)] (.int (0 : Int32))) :
    own_Met l Z (⟨"com/example/xml_stream_transform/xmlstreamtransform/output/CdataSplitterSplitsBeforePinLaw", "ref", "([CII)Z"⟩ : MethodName) method_4_code 3 (some .boolean) [] ({ frames := 0, cells := 0, slots := 0, locals := 0 } : Room) #[(.ref a), (.int (0 : Int32)), (.int (0 : Int32))] h0 (fun v h L => v = some (.int (0 : Int32)) ∧ Fr n0 L ∧ h = h0) := by
  refine own_met own_pn6 ?_
  intro p e s m below meth c s₁ hx hby hml hown hnm hret hlk hZ X0 hE0
  have N0 := Fr.nil n0
  refine own_cast (own_ef6_own_rmF_0_0 m a (0 : Int32) (0 : Int32)) ?_
  refine own_aloadN (n := 1) X0 hx (hb hby d6_0) rfl rfl rfl ?_
  refine own_iloadN (n := 2) X0 hx (hb hby d6_1) rfl rfl ?_
  refine own_ld_caload (n := 3) (v := (.int c0)) X0 hx hZ hE0 V0 ⟨by decide, by decide⟩ rfl (hb hby d6_2) rfl ?_
  refine own_bipush (n := 5) (z := (62 : Int32)) X0 hx (hb hby d6_3) rfl rfl ?_
  by_cases hc5_1 : c0 = (62 : Int32)
  · skip
    refine own_icmpNo (n := 8) X0 hx (hb hby d6_5) (teq hc5_1).2 rfl ?_
    refine own_iloadN (n := 9) X0 hx (hb hby d6_8) rfl rfl ?_
    refine own_iconst (n := 10) (z := (2 : Int32)) X0 hx (hb hby d6_9) rfl rfl ?_
    refine own_isub (n := 11) (z := (-2 : Int32)) X0 hx (hb hby d6_10) rfl rfl ?_
    refine own_iloadN (n := 12) X0 hx (hb hby d6_11) rfl rfl ?_
    refine own_icmpYes (n := 39) X0 hx (hb hby d6_12) (tlt (by decide : (-2 : Int32) < (0 : Int32))).1 (by decide) (by decide) ?_
    refine own_iconst (n := 40) (z := (0 : Int32)) X0 hx (hb hby d6_39) rfl rfl ?_
    refine own_retZ X0 hx hlk hret (by simp) hE0 (w := (0 : Int32)) rfl (hb hby d6_40) (by decide) (by decide) ?_
    exact ⟨rfl, N0, rfl⟩
  · skip
    refine own_icmpYes (n := 39) X0 hx (hb hby d6_5) (feq hc5_1).2 (by decide) (by decide) ?_
    refine own_iconst (n := 40) (z := (0 : Int32)) X0 hx (hb hby d6_39) rfl rfl ?_
    refine own_retZ X0 hx hlk hret (by simp) hE0 (w := (0 : Int32)) rfl (hb hby d6_40) (by decide) (by decide) ?_
    exact ⟨rfl, N0, rfl⟩
theorem own_pd4 : parseMethodDescriptor "([CII)Z" = some ⟨[(.array .char), .int, .int], some .boolean⟩ := by decide +kernel
theorem own_ef5_own_rmX_1_0 (m : MethodId) (y0 : Int32) (y1 : Int32) : entryFrame m #[(.int y0), (.int y1)] 2 = mkF m 0 #[.val (.int y0), .val (.int y1)] [] := by first | (simp [entryFrame, mkF, argsToLocals, Value.category]; done) | rfl
set_option maxRecDepth 65536 in
set_option maxHeartbeats 40000000 in
theorem own_rmX_1_0 (l : Launch) (Z : State) (a0 : Array Value) (hw : ∀ d ∈ tables_1, d.before a0 Z = true)  (h0 : Heap) (n0 : Nat) (Z0 : n0 ≤ h0.size)  :
    own_Met l Z (⟨"com/example/xml_stream_transform/xmlstreamtransform/output/CdataSplitterSplitsBeforePinLaw", "sectionStart", "(II)I"⟩ : MethodName) method_3_code 2 (some .int) [] ({ frames := 0, cells := 0, slots := 0, locals := 0 } : Room) #[(.int (1 : Int32)), (.int (0 : Int32))] h0 (fun v h L => v = some (.int (0 : Int32)) ∧ Fr n0 L ∧ h = h0) := by
  refine own_met own_pn5 ?_
  intro p e s m below meth c s₁ hx hby hml hown hnm hret hlk hZ X0 hE0
  have N0 := Fr.nil n0
  refine own_cast (own_ef5_own_rmX_1_0 m (1 : Int32) (0 : Int32)) ?_
  refine own_iloadN (n := 1) X0 hx (hb hby d5_0) rfl rfl ?_
  refine own_ifYes (n := 11) X0 hx (hb hby d5_1) (teq (by decide : (0 : Int32) = (0 : Int32))).1 (by decide) (by decide) ?_
  refine own_iconst (n := 12) (z := (0 : Int32)) X0 hx (hb hby d5_11) rfl rfl ?_
  refine own_retI X0 hx hlk hret hE0 (hb hby d5_12) (by decide) (by decide) ?_
  exact ⟨rfl, N0, rfl⟩
theorem own_ef6_own_rmF_1_0 (m : MethodId) (y0 : Addr) (y1 : Int32) (y2 : Int32) : entryFrame m #[(.ref y0), (.int y1), (.int y2)] 3 = mkF m 0 #[.val (.ref y0), .val (.int y1), .val (.int y2)] [] := by first | (simp [entryFrame, mkF, argsToLocals, Value.category]; done) | rfl
set_option maxRecDepth 65536 in
set_option maxHeartbeats 40000000 in
theorem own_rmF_1_0 (l : Launch) (Z : State) (a0 : Array Value) (hw : ∀ d ∈ tables_1, d.before a0 Z = true) (a : Addr) (kk : ClassId) (c0 c1 c2 c3 c4 : Int32) (h0 : Heap) (n0 : Nat) (Z0 : n0 ≤ h0.size) (V0 : Arv Z h0 a kk .char (5 : Int32) [(.int c0), (.int c1), (.int c2), (.int c3), (.int c4)] (.int (0 : Int32))) :
    own_Met l Z (⟨"com/example/xml_stream_transform/xmlstreamtransform/output/CdataSplitterSplitsBeforePinLaw", "ref", "([CII)Z"⟩ : MethodName) method_4_code 3 (some .boolean) [] ({ frames := 0, cells := 0, slots := 0, locals := 0 } : Room) #[(.ref a), (.int (1 : Int32)), (.int (0 : Int32))] h0 (fun v h L => v = some (.int (0 : Int32)) ∧ Fr n0 L ∧ h = h0) := by
  refine own_met own_pn6 ?_
  intro p e s m below meth c s₁ hx hby hml hown hnm hret hlk hZ X0 hE0
  have N0 := Fr.nil n0
  refine own_cast (own_ef6_own_rmF_1_0 m a (1 : Int32) (0 : Int32)) ?_
  refine own_aloadN (n := 1) X0 hx (hb hby d6_0) rfl rfl rfl ?_
  refine own_iloadN (n := 2) X0 hx (hb hby d6_1) rfl rfl ?_
  refine own_ld_caload (n := 3) (v := (.int c1)) X0 hx hZ hE0 V0 ⟨by decide, by decide⟩ rfl (hb hby d6_2) rfl ?_
  refine own_bipush (n := 5) (z := (62 : Int32)) X0 hx (hb hby d6_3) rfl rfl ?_
  by_cases hc5_1 : c1 = (62 : Int32)
  · skip
    refine own_icmpNo (n := 8) X0 hx (hb hby d6_5) (teq hc5_1).2 rfl ?_
    refine own_iloadN (n := 9) X0 hx (hb hby d6_8) rfl rfl ?_
    refine own_iconst (n := 10) (z := (2 : Int32)) X0 hx (hb hby d6_9) rfl rfl ?_
    refine own_isub (n := 11) (z := (-1 : Int32)) X0 hx (hb hby d6_10) rfl rfl ?_
    refine own_iloadN (n := 12) X0 hx (hb hby d6_11) rfl rfl ?_
    refine own_icmpYes (n := 39) X0 hx (hb hby d6_12) (tlt (by decide : (-1 : Int32) < (0 : Int32))).1 (by decide) (by decide) ?_
    refine own_iconst (n := 40) (z := (0 : Int32)) X0 hx (hb hby d6_39) rfl rfl ?_
    refine own_retZ X0 hx hlk hret (by simp) hE0 (w := (0 : Int32)) rfl (hb hby d6_40) (by decide) (by decide) ?_
    exact ⟨rfl, N0, rfl⟩
  · skip
    refine own_icmpYes (n := 39) X0 hx (hb hby d6_5) (feq hc5_1).2 (by decide) (by decide) ?_
    refine own_iconst (n := 40) (z := (0 : Int32)) X0 hx (hb hby d6_39) rfl rfl ?_
    refine own_retZ X0 hx hlk hret (by simp) hE0 (w := (0 : Int32)) rfl (hb hby d6_40) (by decide) (by decide) ?_
    exact ⟨rfl, N0, rfl⟩
theorem own_ef5_own_rmX_2_0 (m : MethodId) (y0 : Int32) (y1 : Int32) : entryFrame m #[(.int y0), (.int y1)] 2 = mkF m 0 #[.val (.int y0), .val (.int y1)] [] := by first | (simp [entryFrame, mkF, argsToLocals, Value.category]; done) | rfl
set_option maxRecDepth 65536 in
set_option maxHeartbeats 40000000 in
theorem own_rmX_2_0 (l : Launch) (Z : State) (a0 : Array Value) (hw : ∀ d ∈ tables_1, d.before a0 Z = true)  (h0 : Heap) (n0 : Nat) (Z0 : n0 ≤ h0.size)  :
    own_Met l Z (⟨"com/example/xml_stream_transform/xmlstreamtransform/output/CdataSplitterSplitsBeforePinLaw", "sectionStart", "(II)I"⟩ : MethodName) method_3_code 2 (some .int) [] ({ frames := 0, cells := 0, slots := 0, locals := 0 } : Room) #[(.int (2 : Int32)), (.int (0 : Int32))] h0 (fun v h L => v = some (.int (0 : Int32)) ∧ Fr n0 L ∧ h = h0) := by
  refine own_met own_pn5 ?_
  intro p e s m below meth c s₁ hx hby hml hown hnm hret hlk hZ X0 hE0
  have N0 := Fr.nil n0
  refine own_cast (own_ef5_own_rmX_2_0 m (2 : Int32) (0 : Int32)) ?_
  refine own_iloadN (n := 1) X0 hx (hb hby d5_0) rfl rfl ?_
  refine own_ifYes (n := 11) X0 hx (hb hby d5_1) (teq (by decide : (0 : Int32) = (0 : Int32))).1 (by decide) (by decide) ?_
  refine own_iconst (n := 12) (z := (0 : Int32)) X0 hx (hb hby d5_11) rfl rfl ?_
  refine own_retI X0 hx hlk hret hE0 (hb hby d5_12) (by decide) (by decide) ?_
  exact ⟨rfl, N0, rfl⟩
theorem d6_15 : decode method_4_code 15 = .ok (.aload_n 0, 1) := by decide +kernel
theorem d6_16 : decode method_4_code 16 = .ok (.iload_n 1, 1) := by decide +kernel
theorem d6_17 : decode method_4_code 17 = .ok (.iconst 1, 1) := by decide +kernel
theorem d6_18 : decode method_4_code 18 = .ok (.isub, 1) := by decide +kernel
theorem d6_19 : decode method_4_code 19 = .ok (.caload, 1) := by decide +kernel
theorem d6_20 : decode method_4_code 20 = .ok (.bipush 93, 2) := by decide +kernel
theorem d6_22 : decode method_4_code 22 = .ok (.if_icmp .ne 17, 3) := by decide +kernel
theorem d6_25 : decode method_4_code 25 = .ok (.aload_n 0, 1) := by decide +kernel
theorem d6_26 : decode method_4_code 26 = .ok (.iload_n 1, 1) := by decide +kernel
theorem d6_27 : decode method_4_code 27 = .ok (.iconst 2, 1) := by decide +kernel
theorem d6_28 : decode method_4_code 28 = .ok (.isub, 1) := by decide +kernel
theorem d6_29 : decode method_4_code 29 = .ok (.caload, 1) := by decide +kernel
theorem d6_30 : decode method_4_code 30 = .ok (.bipush 93, 2) := by decide +kernel
theorem d6_32 : decode method_4_code 32 = .ok (.if_icmp .ne 7, 3) := by decide +kernel
theorem d6_35 : decode method_4_code 35 = .ok (.iconst 1, 1) := by decide +kernel
theorem d6_36 : decode method_4_code 36 = .ok (.goto 4, 3) := by decide +kernel
theorem own_ef6_own_rmF_2_0 (m : MethodId) (y0 : Addr) (y1 : Int32) (y2 : Int32) : entryFrame m #[(.ref y0), (.int y1), (.int y2)] 3 = mkF m 0 #[.val (.ref y0), .val (.int y1), .val (.int y2)] [] := by first | (simp [entryFrame, mkF, argsToLocals, Value.category]; done) | rfl
set_option maxRecDepth 65536 in
set_option maxHeartbeats 40000000 in
theorem own_rmF_2_0 (l : Launch) (Z : State) (a0 : Array Value) (hw : ∀ d ∈ tables_1, d.before a0 Z = true) (a : Addr) (kk : ClassId) (c0 c1 c2 c3 c4 : Int32) (h0 : Heap) (n0 : Nat) (Z0 : n0 ≤ h0.size) (V0 : Arv Z h0 a kk .char (5 : Int32) [(.int c0), (.int c1), (.int c2), (.int c3), (.int c4)] (.int (0 : Int32))) :
    own_Met l Z (⟨"com/example/xml_stream_transform/xmlstreamtransform/output/CdataSplitterSplitsBeforePinLaw", "ref", "([CII)Z"⟩ : MethodName) method_4_code 3 (some .boolean) [] ({ frames := 0, cells := 0, slots := 0, locals := 0 } : Room) #[(.ref a), (.int (2 : Int32)), (.int (0 : Int32))] h0 (fun v h L => v = some (.int (own_r c2 c1 c0)) ∧ Fr n0 L ∧ h = h0) := by
  refine own_met own_pn6 ?_
  intro p e s m below meth c s₁ hx hby hml hown hnm hret hlk hZ X0 hE0
  have N0 := Fr.nil n0
  refine own_cast (own_ef6_own_rmF_2_0 m a (2 : Int32) (0 : Int32)) ?_
  refine own_aloadN (n := 1) X0 hx (hb hby d6_0) rfl rfl rfl ?_
  refine own_iloadN (n := 2) X0 hx (hb hby d6_1) rfl rfl ?_
  refine own_ld_caload (n := 3) (v := (.int c2)) X0 hx hZ hE0 V0 ⟨by decide, by decide⟩ rfl (hb hby d6_2) rfl ?_
  refine own_bipush (n := 5) (z := (62 : Int32)) X0 hx (hb hby d6_3) rfl rfl ?_
  by_cases hc5_1 : c2 = (62 : Int32)
  · skip
    refine own_icmpNo (n := 8) X0 hx (hb hby d6_5) (teq hc5_1).2 rfl ?_
    refine own_iloadN (n := 9) X0 hx (hb hby d6_8) rfl rfl ?_
    refine own_iconst (n := 10) (z := (2 : Int32)) X0 hx (hb hby d6_9) rfl rfl ?_
    refine own_isub (n := 11) (z := (0 : Int32)) X0 hx (hb hby d6_10) rfl rfl ?_
    refine own_iloadN (n := 12) X0 hx (hb hby d6_11) rfl rfl ?_
    refine own_icmpNo (n := 15) X0 hx (hb hby d6_12) (flt (by decide : ¬ ((0 : Int32) < (0 : Int32)))).1 rfl ?_
    refine own_aloadN (n := 16) X0 hx (hb hby d6_15) rfl rfl rfl ?_
    refine own_iloadN (n := 17) X0 hx (hb hby d6_16) rfl rfl ?_
    refine own_iconst (n := 18) (z := (1 : Int32)) X0 hx (hb hby d6_17) rfl rfl ?_
    refine own_isub (n := 19) (z := (1 : Int32)) X0 hx (hb hby d6_18) rfl rfl ?_
    refine own_ld_caload (n := 20) (v := (.int c1)) X0 hx hZ hE0 V0 ⟨by decide, by decide⟩ rfl (hb hby d6_19) rfl ?_
    refine own_bipush (n := 22) (z := (93 : Int32)) X0 hx (hb hby d6_20) rfl rfl ?_
    by_cases hc22_2 : c1 = (93 : Int32)
    · skip
      refine own_icmpNo (n := 25) X0 hx (hb hby d6_22) (teq hc22_2).2 rfl ?_
      refine own_aloadN (n := 26) X0 hx (hb hby d6_25) rfl rfl rfl ?_
      refine own_iloadN (n := 27) X0 hx (hb hby d6_26) rfl rfl ?_
      refine own_iconst (n := 28) (z := (2 : Int32)) X0 hx (hb hby d6_27) rfl rfl ?_
      refine own_isub (n := 29) (z := (0 : Int32)) X0 hx (hb hby d6_28) rfl rfl ?_
      refine own_ld_caload (n := 30) (v := (.int c0)) X0 hx hZ hE0 V0 ⟨by decide, by decide⟩ rfl (hb hby d6_29) rfl ?_
      refine own_bipush (n := 32) (z := (93 : Int32)) X0 hx (hb hby d6_30) rfl rfl ?_
      by_cases hc32_3 : c0 = (93 : Int32)
      · skip
        refine own_icmpNo (n := 35) X0 hx (hb hby d6_32) (teq hc32_3).2 rfl ?_
        refine own_iconst (n := 36) (z := (1 : Int32)) X0 hx (hb hby d6_35) rfl rfl ?_
        refine own_goto (n := 40) X0 hx (hb hby d6_36) (by decide) (by decide) ?_
        refine own_retZ X0 hx hlk hret (by simp) hE0 (w := (1 : Int32)) rfl (hb hby d6_40) (by decide) (by decide) ?_
        exact ⟨by simp [own_r, hc5_1, hc22_2, hc32_3], N0, rfl⟩
      · skip
        refine own_icmpYes (n := 39) X0 hx (hb hby d6_32) (feq hc32_3).2 (by decide) (by decide) ?_
        refine own_iconst (n := 40) (z := (0 : Int32)) X0 hx (hb hby d6_39) rfl rfl ?_
        refine own_retZ X0 hx hlk hret (by simp) hE0 (w := (0 : Int32)) rfl (hb hby d6_40) (by decide) (by decide) ?_
        exact ⟨by simp [own_r, hc5_1, hc22_2, hc32_3], N0, rfl⟩
    · skip
      refine own_icmpYes (n := 39) X0 hx (hb hby d6_22) (feq hc22_2).2 (by decide) (by decide) ?_
      refine own_iconst (n := 40) (z := (0 : Int32)) X0 hx (hb hby d6_39) rfl rfl ?_
      refine own_retZ X0 hx hlk hret (by simp) hE0 (w := (0 : Int32)) rfl (hb hby d6_40) (by decide) (by decide) ?_
      exact ⟨by simp [own_r, hc5_1, hc22_2], N0, rfl⟩
  · skip
    refine own_icmpYes (n := 39) X0 hx (hb hby d6_5) (feq hc5_1).2 (by decide) (by decide) ?_
    refine own_iconst (n := 40) (z := (0 : Int32)) X0 hx (hb hby d6_39) rfl rfl ?_
    refine own_retZ X0 hx hlk hret (by simp) hE0 (w := (0 : Int32)) rfl (hb hby d6_40) (by decide) (by decide) ?_
    exact ⟨by simp [own_r, hc5_1], N0, rfl⟩
theorem own_ef5_own_rmX_3_0 (m : MethodId) (y0 : Int32) (y1 : Int32) : entryFrame m #[(.int y0), (.int y1)] 2 = mkF m 0 #[.val (.int y0), .val (.int y1)] [] := by first | (simp [entryFrame, mkF, argsToLocals, Value.category]; done) | rfl
set_option maxRecDepth 65536 in
set_option maxHeartbeats 40000000 in
theorem own_rmX_3_0 (l : Launch) (Z : State) (a0 : Array Value) (hw : ∀ d ∈ tables_1, d.before a0 Z = true)  (h0 : Heap) (n0 : Nat) (Z0 : n0 ≤ h0.size)  :
    own_Met l Z (⟨"com/example/xml_stream_transform/xmlstreamtransform/output/CdataSplitterSplitsBeforePinLaw", "sectionStart", "(II)I"⟩ : MethodName) method_3_code 2 (some .int) [] ({ frames := 0, cells := 0, slots := 0, locals := 0 } : Room) #[(.int (3 : Int32)), (.int (0 : Int32))] h0 (fun v h L => v = some (.int (0 : Int32)) ∧ Fr n0 L ∧ h = h0) := by
  refine own_met own_pn5 ?_
  intro p e s m below meth c s₁ hx hby hml hown hnm hret hlk hZ X0 hE0
  have N0 := Fr.nil n0
  refine own_cast (own_ef5_own_rmX_3_0 m (3 : Int32) (0 : Int32)) ?_
  refine own_iloadN (n := 1) X0 hx (hb hby d5_0) rfl rfl ?_
  refine own_ifYes (n := 11) X0 hx (hb hby d5_1) (teq (by decide : (0 : Int32) = (0 : Int32))).1 (by decide) (by decide) ?_
  refine own_iconst (n := 12) (z := (0 : Int32)) X0 hx (hb hby d5_11) rfl rfl ?_
  refine own_retI X0 hx hlk hret hE0 (hb hby d5_12) (by decide) (by decide) ?_
  exact ⟨rfl, N0, rfl⟩
theorem own_ef6_own_rmF_3_0 (m : MethodId) (y0 : Addr) (y1 : Int32) (y2 : Int32) : entryFrame m #[(.ref y0), (.int y1), (.int y2)] 3 = mkF m 0 #[.val (.ref y0), .val (.int y1), .val (.int y2)] [] := by first | (simp [entryFrame, mkF, argsToLocals, Value.category]; done) | rfl
set_option maxRecDepth 65536 in
set_option maxHeartbeats 40000000 in
theorem own_rmF_3_0 (l : Launch) (Z : State) (a0 : Array Value) (hw : ∀ d ∈ tables_1, d.before a0 Z = true) (a : Addr) (kk : ClassId) (c0 c1 c2 c3 c4 : Int32) (h0 : Heap) (n0 : Nat) (Z0 : n0 ≤ h0.size) (V0 : Arv Z h0 a kk .char (5 : Int32) [(.int c0), (.int c1), (.int c2), (.int c3), (.int c4)] (.int (0 : Int32))) :
    own_Met l Z (⟨"com/example/xml_stream_transform/xmlstreamtransform/output/CdataSplitterSplitsBeforePinLaw", "ref", "([CII)Z"⟩ : MethodName) method_4_code 3 (some .boolean) [] ({ frames := 0, cells := 0, slots := 0, locals := 0 } : Room) #[(.ref a), (.int (3 : Int32)), (.int (0 : Int32))] h0 (fun v h L => v = some (.int (own_r c3 c2 c1)) ∧ Fr n0 L ∧ h = h0) := by
  refine own_met own_pn6 ?_
  intro p e s m below meth c s₁ hx hby hml hown hnm hret hlk hZ X0 hE0
  have N0 := Fr.nil n0
  refine own_cast (own_ef6_own_rmF_3_0 m a (3 : Int32) (0 : Int32)) ?_
  refine own_aloadN (n := 1) X0 hx (hb hby d6_0) rfl rfl rfl ?_
  refine own_iloadN (n := 2) X0 hx (hb hby d6_1) rfl rfl ?_
  refine own_ld_caload (n := 3) (v := (.int c3)) X0 hx hZ hE0 V0 ⟨by decide, by decide⟩ rfl (hb hby d6_2) rfl ?_
  refine own_bipush (n := 5) (z := (62 : Int32)) X0 hx (hb hby d6_3) rfl rfl ?_
  by_cases hc5_1 : c3 = (62 : Int32)
  · skip
    refine own_icmpNo (n := 8) X0 hx (hb hby d6_5) (teq hc5_1).2 rfl ?_
    refine own_iloadN (n := 9) X0 hx (hb hby d6_8) rfl rfl ?_
    refine own_iconst (n := 10) (z := (2 : Int32)) X0 hx (hb hby d6_9) rfl rfl ?_
    refine own_isub (n := 11) (z := (1 : Int32)) X0 hx (hb hby d6_10) rfl rfl ?_
    refine own_iloadN (n := 12) X0 hx (hb hby d6_11) rfl rfl ?_
    refine own_icmpNo (n := 15) X0 hx (hb hby d6_12) (flt (by decide : ¬ ((1 : Int32) < (0 : Int32)))).1 rfl ?_
    refine own_aloadN (n := 16) X0 hx (hb hby d6_15) rfl rfl rfl ?_
    refine own_iloadN (n := 17) X0 hx (hb hby d6_16) rfl rfl ?_
    refine own_iconst (n := 18) (z := (1 : Int32)) X0 hx (hb hby d6_17) rfl rfl ?_
    refine own_isub (n := 19) (z := (2 : Int32)) X0 hx (hb hby d6_18) rfl rfl ?_
    refine own_ld_caload (n := 20) (v := (.int c2)) X0 hx hZ hE0 V0 ⟨by decide, by decide⟩ rfl (hb hby d6_19) rfl ?_
    refine own_bipush (n := 22) (z := (93 : Int32)) X0 hx (hb hby d6_20) rfl rfl ?_
    by_cases hc22_2 : c2 = (93 : Int32)
    · skip
      refine own_icmpNo (n := 25) X0 hx (hb hby d6_22) (teq hc22_2).2 rfl ?_
      refine own_aloadN (n := 26) X0 hx (hb hby d6_25) rfl rfl rfl ?_
      refine own_iloadN (n := 27) X0 hx (hb hby d6_26) rfl rfl ?_
      refine own_iconst (n := 28) (z := (2 : Int32)) X0 hx (hb hby d6_27) rfl rfl ?_
      refine own_isub (n := 29) (z := (1 : Int32)) X0 hx (hb hby d6_28) rfl rfl ?_
      refine own_ld_caload (n := 30) (v := (.int c1)) X0 hx hZ hE0 V0 ⟨by decide, by decide⟩ rfl (hb hby d6_29) rfl ?_
      refine own_bipush (n := 32) (z := (93 : Int32)) X0 hx (hb hby d6_30) rfl rfl ?_
      by_cases hc32_3 : c1 = (93 : Int32)
      · skip
        refine own_icmpNo (n := 35) X0 hx (hb hby d6_32) (teq hc32_3).2 rfl ?_
        refine own_iconst (n := 36) (z := (1 : Int32)) X0 hx (hb hby d6_35) rfl rfl ?_
        refine own_goto (n := 40) X0 hx (hb hby d6_36) (by decide) (by decide) ?_
        refine own_retZ X0 hx hlk hret (by simp) hE0 (w := (1 : Int32)) rfl (hb hby d6_40) (by decide) (by decide) ?_
        exact ⟨by simp [own_r, hc5_1, hc22_2, hc32_3], N0, rfl⟩
      · skip
        refine own_icmpYes (n := 39) X0 hx (hb hby d6_32) (feq hc32_3).2 (by decide) (by decide) ?_
        refine own_iconst (n := 40) (z := (0 : Int32)) X0 hx (hb hby d6_39) rfl rfl ?_
        refine own_retZ X0 hx hlk hret (by simp) hE0 (w := (0 : Int32)) rfl (hb hby d6_40) (by decide) (by decide) ?_
        exact ⟨by simp [own_r, hc5_1, hc22_2, hc32_3], N0, rfl⟩
    · skip
      refine own_icmpYes (n := 39) X0 hx (hb hby d6_22) (feq hc22_2).2 (by decide) (by decide) ?_
      refine own_iconst (n := 40) (z := (0 : Int32)) X0 hx (hb hby d6_39) rfl rfl ?_
      refine own_retZ X0 hx hlk hret (by simp) hE0 (w := (0 : Int32)) rfl (hb hby d6_40) (by decide) (by decide) ?_
      exact ⟨by simp [own_r, hc5_1, hc22_2], N0, rfl⟩
  · skip
    refine own_icmpYes (n := 39) X0 hx (hb hby d6_5) (feq hc5_1).2 (by decide) (by decide) ?_
    refine own_iconst (n := 40) (z := (0 : Int32)) X0 hx (hb hby d6_39) rfl rfl ?_
    refine own_retZ X0 hx hlk hret (by simp) hE0 (w := (0 : Int32)) rfl (hb hby d6_40) (by decide) (by decide) ?_
    exact ⟨by simp [own_r, hc5_1], N0, rfl⟩
theorem own_ef5_own_rmX_4_0 (m : MethodId) (y0 : Int32) (y1 : Int32) : entryFrame m #[(.int y0), (.int y1)] 2 = mkF m 0 #[.val (.int y0), .val (.int y1)] [] := by first | (simp [entryFrame, mkF, argsToLocals, Value.category]; done) | rfl
set_option maxRecDepth 65536 in
set_option maxHeartbeats 40000000 in
theorem own_rmX_4_0 (l : Launch) (Z : State) (a0 : Array Value) (hw : ∀ d ∈ tables_1, d.before a0 Z = true)  (h0 : Heap) (n0 : Nat) (Z0 : n0 ≤ h0.size)  :
    own_Met l Z (⟨"com/example/xml_stream_transform/xmlstreamtransform/output/CdataSplitterSplitsBeforePinLaw", "sectionStart", "(II)I"⟩ : MethodName) method_3_code 2 (some .int) [] ({ frames := 0, cells := 0, slots := 0, locals := 0 } : Room) #[(.int (4 : Int32)), (.int (0 : Int32))] h0 (fun v h L => v = some (.int (0 : Int32)) ∧ Fr n0 L ∧ h = h0) := by
  refine own_met own_pn5 ?_
  intro p e s m below meth c s₁ hx hby hml hown hnm hret hlk hZ X0 hE0
  have N0 := Fr.nil n0
  refine own_cast (own_ef5_own_rmX_4_0 m (4 : Int32) (0 : Int32)) ?_
  refine own_iloadN (n := 1) X0 hx (hb hby d5_0) rfl rfl ?_
  refine own_ifYes (n := 11) X0 hx (hb hby d5_1) (teq (by decide : (0 : Int32) = (0 : Int32))).1 (by decide) (by decide) ?_
  refine own_iconst (n := 12) (z := (0 : Int32)) X0 hx (hb hby d5_11) rfl rfl ?_
  refine own_retI X0 hx hlk hret hE0 (hb hby d5_12) (by decide) (by decide) ?_
  exact ⟨rfl, N0, rfl⟩
theorem own_ef6_own_rmF_4_0 (m : MethodId) (y0 : Addr) (y1 : Int32) (y2 : Int32) : entryFrame m #[(.ref y0), (.int y1), (.int y2)] 3 = mkF m 0 #[.val (.ref y0), .val (.int y1), .val (.int y2)] [] := by first | (simp [entryFrame, mkF, argsToLocals, Value.category]; done) | rfl
set_option maxRecDepth 65536 in
set_option maxHeartbeats 40000000 in
theorem own_rmF_4_0 (l : Launch) (Z : State) (a0 : Array Value) (hw : ∀ d ∈ tables_1, d.before a0 Z = true) (a : Addr) (kk : ClassId) (c0 c1 c2 c3 c4 : Int32) (h0 : Heap) (n0 : Nat) (Z0 : n0 ≤ h0.size) (V0 : Arv Z h0 a kk .char (5 : Int32) [(.int c0), (.int c1), (.int c2), (.int c3), (.int c4)] (.int (0 : Int32))) :
    own_Met l Z (⟨"com/example/xml_stream_transform/xmlstreamtransform/output/CdataSplitterSplitsBeforePinLaw", "ref", "([CII)Z"⟩ : MethodName) method_4_code 3 (some .boolean) [] ({ frames := 0, cells := 0, slots := 0, locals := 0 } : Room) #[(.ref a), (.int (4 : Int32)), (.int (0 : Int32))] h0 (fun v h L => v = some (.int (own_r c4 c3 c2)) ∧ Fr n0 L ∧ h = h0) := by
  refine own_met own_pn6 ?_
  intro p e s m below meth c s₁ hx hby hml hown hnm hret hlk hZ X0 hE0
  have N0 := Fr.nil n0
  refine own_cast (own_ef6_own_rmF_4_0 m a (4 : Int32) (0 : Int32)) ?_
  refine own_aloadN (n := 1) X0 hx (hb hby d6_0) rfl rfl rfl ?_
  refine own_iloadN (n := 2) X0 hx (hb hby d6_1) rfl rfl ?_
  refine own_ld_caload (n := 3) (v := (.int c4)) X0 hx hZ hE0 V0 ⟨by decide, by decide⟩ rfl (hb hby d6_2) rfl ?_
  refine own_bipush (n := 5) (z := (62 : Int32)) X0 hx (hb hby d6_3) rfl rfl ?_
  by_cases hc5_1 : c4 = (62 : Int32)
  · skip
    refine own_icmpNo (n := 8) X0 hx (hb hby d6_5) (teq hc5_1).2 rfl ?_
    refine own_iloadN (n := 9) X0 hx (hb hby d6_8) rfl rfl ?_
    refine own_iconst (n := 10) (z := (2 : Int32)) X0 hx (hb hby d6_9) rfl rfl ?_
    refine own_isub (n := 11) (z := (2 : Int32)) X0 hx (hb hby d6_10) rfl rfl ?_
    refine own_iloadN (n := 12) X0 hx (hb hby d6_11) rfl rfl ?_
    refine own_icmpNo (n := 15) X0 hx (hb hby d6_12) (flt (by decide : ¬ ((2 : Int32) < (0 : Int32)))).1 rfl ?_
    refine own_aloadN (n := 16) X0 hx (hb hby d6_15) rfl rfl rfl ?_
    refine own_iloadN (n := 17) X0 hx (hb hby d6_16) rfl rfl ?_
    refine own_iconst (n := 18) (z := (1 : Int32)) X0 hx (hb hby d6_17) rfl rfl ?_
    refine own_isub (n := 19) (z := (3 : Int32)) X0 hx (hb hby d6_18) rfl rfl ?_
    refine own_ld_caload (n := 20) (v := (.int c3)) X0 hx hZ hE0 V0 ⟨by decide, by decide⟩ rfl (hb hby d6_19) rfl ?_
    refine own_bipush (n := 22) (z := (93 : Int32)) X0 hx (hb hby d6_20) rfl rfl ?_
    by_cases hc22_2 : c3 = (93 : Int32)
    · skip
      refine own_icmpNo (n := 25) X0 hx (hb hby d6_22) (teq hc22_2).2 rfl ?_
      refine own_aloadN (n := 26) X0 hx (hb hby d6_25) rfl rfl rfl ?_
      refine own_iloadN (n := 27) X0 hx (hb hby d6_26) rfl rfl ?_
      refine own_iconst (n := 28) (z := (2 : Int32)) X0 hx (hb hby d6_27) rfl rfl ?_
      refine own_isub (n := 29) (z := (2 : Int32)) X0 hx (hb hby d6_28) rfl rfl ?_
      refine own_ld_caload (n := 30) (v := (.int c2)) X0 hx hZ hE0 V0 ⟨by decide, by decide⟩ rfl (hb hby d6_29) rfl ?_
      refine own_bipush (n := 32) (z := (93 : Int32)) X0 hx (hb hby d6_30) rfl rfl ?_
      by_cases hc32_3 : c2 = (93 : Int32)
      · skip
        refine own_icmpNo (n := 35) X0 hx (hb hby d6_32) (teq hc32_3).2 rfl ?_
        refine own_iconst (n := 36) (z := (1 : Int32)) X0 hx (hb hby d6_35) rfl rfl ?_
        refine own_goto (n := 40) X0 hx (hb hby d6_36) (by decide) (by decide) ?_
        refine own_retZ X0 hx hlk hret (by simp) hE0 (w := (1 : Int32)) rfl (hb hby d6_40) (by decide) (by decide) ?_
        exact ⟨by simp [own_r, hc5_1, hc22_2, hc32_3], N0, rfl⟩
      · skip
        refine own_icmpYes (n := 39) X0 hx (hb hby d6_32) (feq hc32_3).2 (by decide) (by decide) ?_
        refine own_iconst (n := 40) (z := (0 : Int32)) X0 hx (hb hby d6_39) rfl rfl ?_
        refine own_retZ X0 hx hlk hret (by simp) hE0 (w := (0 : Int32)) rfl (hb hby d6_40) (by decide) (by decide) ?_
        exact ⟨by simp [own_r, hc5_1, hc22_2, hc32_3], N0, rfl⟩
    · skip
      refine own_icmpYes (n := 39) X0 hx (hb hby d6_22) (feq hc22_2).2 (by decide) (by decide) ?_
      refine own_iconst (n := 40) (z := (0 : Int32)) X0 hx (hb hby d6_39) rfl rfl ?_
      refine own_retZ X0 hx hlk hret (by simp) hE0 (w := (0 : Int32)) rfl (hb hby d6_40) (by decide) (by decide) ?_
      exact ⟨by simp [own_r, hc5_1, hc22_2], N0, rfl⟩
  · skip
    refine own_icmpYes (n := 39) X0 hx (hb hby d6_5) (feq hc5_1).2 (by decide) (by decide) ?_
    refine own_iconst (n := 40) (z := (0 : Int32)) X0 hx (hb hby d6_39) rfl rfl ?_
    refine own_retZ X0 hx hlk hret (by simp) hE0 (w := (0 : Int32)) rfl (hb hby d6_40) (by decide) (by decide) ?_
    exact ⟨by simp [own_r, hc5_1], N0, rfl⟩
theorem d5_4 : decode method_3_code 4 = .ok (.iload_n 0, 1) := by decide +kernel
theorem d5_5 : decode method_3_code 5 = .ok (.iload_n 1, 1) := by decide +kernel
theorem d5_6 : decode method_3_code 6 = .ok (.if_icmp .lt 5, 3) := by decide +kernel
theorem own_ef5_own_rmX_0_2 (m : MethodId) (y0 : Int32) (y1 : Int32) : entryFrame m #[(.int y0), (.int y1)] 2 = mkF m 0 #[.val (.int y0), .val (.int y1)] [] := by first | (simp [entryFrame, mkF, argsToLocals, Value.category]; done) | rfl
set_option maxRecDepth 65536 in
set_option maxHeartbeats 40000000 in
theorem own_rmX_0_2 (l : Launch) (Z : State) (a0 : Array Value) (hw : ∀ d ∈ tables_1, d.before a0 Z = true)  (h0 : Heap) (n0 : Nat) (Z0 : n0 ≤ h0.size)  :
    own_Met l Z (⟨"com/example/xml_stream_transform/xmlstreamtransform/output/CdataSplitterSplitsBeforePinLaw", "sectionStart", "(II)I"⟩ : MethodName) method_3_code 2 (some .int) [] ({ frames := 0, cells := 0, slots := 0, locals := 0 } : Room) #[(.int (0 : Int32)), (.int (2 : Int32))] h0 (fun v h L => v = some (.int (0 : Int32)) ∧ Fr n0 L ∧ h = h0) := by
  refine own_met own_pn5 ?_
  intro p e s m below meth c s₁ hx hby hml hown hnm hret hlk hZ X0 hE0
  have N0 := Fr.nil n0
  refine own_cast (own_ef5_own_rmX_0_2 m (0 : Int32) (2 : Int32)) ?_
  refine own_iloadN (n := 1) X0 hx (hb hby d5_0) rfl rfl ?_
  refine own_ifNo (n := 4) X0 hx (hb hby d5_1) (feq (by decide : ¬ ((2 : Int32) = (0 : Int32)))).1 rfl ?_
  refine own_iloadN (n := 5) X0 hx (hb hby d5_4) rfl rfl ?_
  refine own_iloadN (n := 6) X0 hx (hb hby d5_5) rfl rfl ?_
  refine own_icmpYes (n := 11) X0 hx (hb hby d5_6) (tlt (by decide : (0 : Int32) < (2 : Int32))).1 (by decide) (by decide) ?_
  refine own_iconst (n := 12) (z := (0 : Int32)) X0 hx (hb hby d5_11) rfl rfl ?_
  refine own_retI X0 hx hlk hret hE0 (hb hby d5_12) (by decide) (by decide) ?_
  exact ⟨rfl, N0, rfl⟩
theorem own_ef5_own_rmX_1_2 (m : MethodId) (y0 : Int32) (y1 : Int32) : entryFrame m #[(.int y0), (.int y1)] 2 = mkF m 0 #[.val (.int y0), .val (.int y1)] [] := by first | (simp [entryFrame, mkF, argsToLocals, Value.category]; done) | rfl
set_option maxRecDepth 65536 in
set_option maxHeartbeats 40000000 in
theorem own_rmX_1_2 (l : Launch) (Z : State) (a0 : Array Value) (hw : ∀ d ∈ tables_1, d.before a0 Z = true)  (h0 : Heap) (n0 : Nat) (Z0 : n0 ≤ h0.size)  :
    own_Met l Z (⟨"com/example/xml_stream_transform/xmlstreamtransform/output/CdataSplitterSplitsBeforePinLaw", "sectionStart", "(II)I"⟩ : MethodName) method_3_code 2 (some .int) [] ({ frames := 0, cells := 0, slots := 0, locals := 0 } : Room) #[(.int (1 : Int32)), (.int (2 : Int32))] h0 (fun v h L => v = some (.int (0 : Int32)) ∧ Fr n0 L ∧ h = h0) := by
  refine own_met own_pn5 ?_
  intro p e s m below meth c s₁ hx hby hml hown hnm hret hlk hZ X0 hE0
  have N0 := Fr.nil n0
  refine own_cast (own_ef5_own_rmX_1_2 m (1 : Int32) (2 : Int32)) ?_
  refine own_iloadN (n := 1) X0 hx (hb hby d5_0) rfl rfl ?_
  refine own_ifNo (n := 4) X0 hx (hb hby d5_1) (feq (by decide : ¬ ((2 : Int32) = (0 : Int32)))).1 rfl ?_
  refine own_iloadN (n := 5) X0 hx (hb hby d5_4) rfl rfl ?_
  refine own_iloadN (n := 6) X0 hx (hb hby d5_5) rfl rfl ?_
  refine own_icmpYes (n := 11) X0 hx (hb hby d5_6) (tlt (by decide : (1 : Int32) < (2 : Int32))).1 (by decide) (by decide) ?_
  refine own_iconst (n := 12) (z := (0 : Int32)) X0 hx (hb hby d5_11) rfl rfl ?_
  refine own_retI X0 hx hlk hret hE0 (hb hby d5_12) (by decide) (by decide) ?_
  exact ⟨rfl, N0, rfl⟩
theorem d5_9 : decode method_3_code 9 = .ok (.iload_n 1, 1) := by decide +kernel
theorem d5_10 : decode method_3_code 10 = .ok (.ireturn, 1) := by decide +kernel
theorem own_ef5_own_rmX_2_2 (m : MethodId) (y0 : Int32) (y1 : Int32) : entryFrame m #[(.int y0), (.int y1)] 2 = mkF m 0 #[.val (.int y0), .val (.int y1)] [] := by first | (simp [entryFrame, mkF, argsToLocals, Value.category]; done) | rfl
set_option maxRecDepth 65536 in
set_option maxHeartbeats 40000000 in
theorem own_rmX_2_2 (l : Launch) (Z : State) (a0 : Array Value) (hw : ∀ d ∈ tables_1, d.before a0 Z = true)  (h0 : Heap) (n0 : Nat) (Z0 : n0 ≤ h0.size)  :
    own_Met l Z (⟨"com/example/xml_stream_transform/xmlstreamtransform/output/CdataSplitterSplitsBeforePinLaw", "sectionStart", "(II)I"⟩ : MethodName) method_3_code 2 (some .int) [] ({ frames := 0, cells := 0, slots := 0, locals := 0 } : Room) #[(.int (2 : Int32)), (.int (2 : Int32))] h0 (fun v h L => v = some (.int (2 : Int32)) ∧ Fr n0 L ∧ h = h0) := by
  refine own_met own_pn5 ?_
  intro p e s m below meth c s₁ hx hby hml hown hnm hret hlk hZ X0 hE0
  have N0 := Fr.nil n0
  refine own_cast (own_ef5_own_rmX_2_2 m (2 : Int32) (2 : Int32)) ?_
  refine own_iloadN (n := 1) X0 hx (hb hby d5_0) rfl rfl ?_
  refine own_ifNo (n := 4) X0 hx (hb hby d5_1) (feq (by decide : ¬ ((2 : Int32) = (0 : Int32)))).1 rfl ?_
  refine own_iloadN (n := 5) X0 hx (hb hby d5_4) rfl rfl ?_
  refine own_iloadN (n := 6) X0 hx (hb hby d5_5) rfl rfl ?_
  refine own_icmpNo (n := 9) X0 hx (hb hby d5_6) (flt (by decide : ¬ ((2 : Int32) < (2 : Int32)))).1 rfl ?_
  refine own_iloadN (n := 10) X0 hx (hb hby d5_9) rfl rfl ?_
  refine own_retI X0 hx hlk hret hE0 (hb hby d5_10) (by decide) (by decide) ?_
  exact ⟨rfl, N0, rfl⟩
theorem own_ef6_own_rmF_2_2 (m : MethodId) (y0 : Addr) (y1 : Int32) (y2 : Int32) : entryFrame m #[(.ref y0), (.int y1), (.int y2)] 3 = mkF m 0 #[.val (.ref y0), .val (.int y1), .val (.int y2)] [] := by first | (simp [entryFrame, mkF, argsToLocals, Value.category]; done) | rfl
set_option maxRecDepth 65536 in
set_option maxHeartbeats 40000000 in
theorem own_rmF_2_2 (l : Launch) (Z : State) (a0 : Array Value) (hw : ∀ d ∈ tables_1, d.before a0 Z = true) (a : Addr) (kk : ClassId) (c0 c1 c2 c3 c4 : Int32) (h0 : Heap) (n0 : Nat) (Z0 : n0 ≤ h0.size) (V0 : Arv Z h0 a kk .char (5 : Int32) [(.int c0), (.int c1), (.int c2), (.int c3), (.int c4)] (.int (0 : Int32))) :
    own_Met l Z (⟨"com/example/xml_stream_transform/xmlstreamtransform/output/CdataSplitterSplitsBeforePinLaw", "ref", "([CII)Z"⟩ : MethodName) method_4_code 3 (some .boolean) [] ({ frames := 0, cells := 0, slots := 0, locals := 0 } : Room) #[(.ref a), (.int (2 : Int32)), (.int (2 : Int32))] h0 (fun v h L => v = some (.int (0 : Int32)) ∧ Fr n0 L ∧ h = h0) := by
  refine own_met own_pn6 ?_
  intro p e s m below meth c s₁ hx hby hml hown hnm hret hlk hZ X0 hE0
  have N0 := Fr.nil n0
  refine own_cast (own_ef6_own_rmF_2_2 m a (2 : Int32) (2 : Int32)) ?_
  refine own_aloadN (n := 1) X0 hx (hb hby d6_0) rfl rfl rfl ?_
  refine own_iloadN (n := 2) X0 hx (hb hby d6_1) rfl rfl ?_
  refine own_ld_caload (n := 3) (v := (.int c2)) X0 hx hZ hE0 V0 ⟨by decide, by decide⟩ rfl (hb hby d6_2) rfl ?_
  refine own_bipush (n := 5) (z := (62 : Int32)) X0 hx (hb hby d6_3) rfl rfl ?_
  by_cases hc5_1 : c2 = (62 : Int32)
  · skip
    refine own_icmpNo (n := 8) X0 hx (hb hby d6_5) (teq hc5_1).2 rfl ?_
    refine own_iloadN (n := 9) X0 hx (hb hby d6_8) rfl rfl ?_
    refine own_iconst (n := 10) (z := (2 : Int32)) X0 hx (hb hby d6_9) rfl rfl ?_
    refine own_isub (n := 11) (z := (0 : Int32)) X0 hx (hb hby d6_10) rfl rfl ?_
    refine own_iloadN (n := 12) X0 hx (hb hby d6_11) rfl rfl ?_
    refine own_icmpYes (n := 39) X0 hx (hb hby d6_12) (tlt (by decide : (0 : Int32) < (2 : Int32))).1 (by decide) (by decide) ?_
    refine own_iconst (n := 40) (z := (0 : Int32)) X0 hx (hb hby d6_39) rfl rfl ?_
    refine own_retZ X0 hx hlk hret (by simp) hE0 (w := (0 : Int32)) rfl (hb hby d6_40) (by decide) (by decide) ?_
    exact ⟨rfl, N0, rfl⟩
  · skip
    refine own_icmpYes (n := 39) X0 hx (hb hby d6_5) (feq hc5_1).2 (by decide) (by decide) ?_
    refine own_iconst (n := 40) (z := (0 : Int32)) X0 hx (hb hby d6_39) rfl rfl ?_
    refine own_retZ X0 hx hlk hret (by simp) hE0 (w := (0 : Int32)) rfl (hb hby d6_40) (by decide) (by decide) ?_
    exact ⟨rfl, N0, rfl⟩
theorem own_ef5_own_rmX_3_2 (m : MethodId) (y0 : Int32) (y1 : Int32) : entryFrame m #[(.int y0), (.int y1)] 2 = mkF m 0 #[.val (.int y0), .val (.int y1)] [] := by first | (simp [entryFrame, mkF, argsToLocals, Value.category]; done) | rfl
set_option maxRecDepth 65536 in
set_option maxHeartbeats 40000000 in
theorem own_rmX_3_2 (l : Launch) (Z : State) (a0 : Array Value) (hw : ∀ d ∈ tables_1, d.before a0 Z = true)  (h0 : Heap) (n0 : Nat) (Z0 : n0 ≤ h0.size)  :
    own_Met l Z (⟨"com/example/xml_stream_transform/xmlstreamtransform/output/CdataSplitterSplitsBeforePinLaw", "sectionStart", "(II)I"⟩ : MethodName) method_3_code 2 (some .int) [] ({ frames := 0, cells := 0, slots := 0, locals := 0 } : Room) #[(.int (3 : Int32)), (.int (2 : Int32))] h0 (fun v h L => v = some (.int (2 : Int32)) ∧ Fr n0 L ∧ h = h0) := by
  refine own_met own_pn5 ?_
  intro p e s m below meth c s₁ hx hby hml hown hnm hret hlk hZ X0 hE0
  have N0 := Fr.nil n0
  refine own_cast (own_ef5_own_rmX_3_2 m (3 : Int32) (2 : Int32)) ?_
  refine own_iloadN (n := 1) X0 hx (hb hby d5_0) rfl rfl ?_
  refine own_ifNo (n := 4) X0 hx (hb hby d5_1) (feq (by decide : ¬ ((2 : Int32) = (0 : Int32)))).1 rfl ?_
  refine own_iloadN (n := 5) X0 hx (hb hby d5_4) rfl rfl ?_
  refine own_iloadN (n := 6) X0 hx (hb hby d5_5) rfl rfl ?_
  refine own_icmpNo (n := 9) X0 hx (hb hby d5_6) (flt (by decide : ¬ ((3 : Int32) < (2 : Int32)))).1 rfl ?_
  refine own_iloadN (n := 10) X0 hx (hb hby d5_9) rfl rfl ?_
  refine own_retI X0 hx hlk hret hE0 (hb hby d5_10) (by decide) (by decide) ?_
  exact ⟨rfl, N0, rfl⟩
theorem own_ef6_own_rmF_3_2 (m : MethodId) (y0 : Addr) (y1 : Int32) (y2 : Int32) : entryFrame m #[(.ref y0), (.int y1), (.int y2)] 3 = mkF m 0 #[.val (.ref y0), .val (.int y1), .val (.int y2)] [] := by first | (simp [entryFrame, mkF, argsToLocals, Value.category]; done) | rfl
set_option maxRecDepth 65536 in
set_option maxHeartbeats 40000000 in
theorem own_rmF_3_2 (l : Launch) (Z : State) (a0 : Array Value) (hw : ∀ d ∈ tables_1, d.before a0 Z = true) (a : Addr) (kk : ClassId) (c0 c1 c2 c3 c4 : Int32) (h0 : Heap) (n0 : Nat) (Z0 : n0 ≤ h0.size) (V0 : Arv Z h0 a kk .char (5 : Int32) [(.int c0), (.int c1), (.int c2), (.int c3), (.int c4)] (.int (0 : Int32))) :
    own_Met l Z (⟨"com/example/xml_stream_transform/xmlstreamtransform/output/CdataSplitterSplitsBeforePinLaw", "ref", "([CII)Z"⟩ : MethodName) method_4_code 3 (some .boolean) [] ({ frames := 0, cells := 0, slots := 0, locals := 0 } : Room) #[(.ref a), (.int (3 : Int32)), (.int (2 : Int32))] h0 (fun v h L => v = some (.int (0 : Int32)) ∧ Fr n0 L ∧ h = h0) := by
  refine own_met own_pn6 ?_
  intro p e s m below meth c s₁ hx hby hml hown hnm hret hlk hZ X0 hE0
  have N0 := Fr.nil n0
  refine own_cast (own_ef6_own_rmF_3_2 m a (3 : Int32) (2 : Int32)) ?_
  refine own_aloadN (n := 1) X0 hx (hb hby d6_0) rfl rfl rfl ?_
  refine own_iloadN (n := 2) X0 hx (hb hby d6_1) rfl rfl ?_
  refine own_ld_caload (n := 3) (v := (.int c3)) X0 hx hZ hE0 V0 ⟨by decide, by decide⟩ rfl (hb hby d6_2) rfl ?_
  refine own_bipush (n := 5) (z := (62 : Int32)) X0 hx (hb hby d6_3) rfl rfl ?_
  by_cases hc5_1 : c3 = (62 : Int32)
  · skip
    refine own_icmpNo (n := 8) X0 hx (hb hby d6_5) (teq hc5_1).2 rfl ?_
    refine own_iloadN (n := 9) X0 hx (hb hby d6_8) rfl rfl ?_
    refine own_iconst (n := 10) (z := (2 : Int32)) X0 hx (hb hby d6_9) rfl rfl ?_
    refine own_isub (n := 11) (z := (1 : Int32)) X0 hx (hb hby d6_10) rfl rfl ?_
    refine own_iloadN (n := 12) X0 hx (hb hby d6_11) rfl rfl ?_
    refine own_icmpYes (n := 39) X0 hx (hb hby d6_12) (tlt (by decide : (1 : Int32) < (2 : Int32))).1 (by decide) (by decide) ?_
    refine own_iconst (n := 40) (z := (0 : Int32)) X0 hx (hb hby d6_39) rfl rfl ?_
    refine own_retZ X0 hx hlk hret (by simp) hE0 (w := (0 : Int32)) rfl (hb hby d6_40) (by decide) (by decide) ?_
    exact ⟨rfl, N0, rfl⟩
  · skip
    refine own_icmpYes (n := 39) X0 hx (hb hby d6_5) (feq hc5_1).2 (by decide) (by decide) ?_
    refine own_iconst (n := 40) (z := (0 : Int32)) X0 hx (hb hby d6_39) rfl rfl ?_
    refine own_retZ X0 hx hlk hret (by simp) hE0 (w := (0 : Int32)) rfl (hb hby d6_40) (by decide) (by decide) ?_
    exact ⟨rfl, N0, rfl⟩
theorem own_ef5_own_rmX_4_2 (m : MethodId) (y0 : Int32) (y1 : Int32) : entryFrame m #[(.int y0), (.int y1)] 2 = mkF m 0 #[.val (.int y0), .val (.int y1)] [] := by first | (simp [entryFrame, mkF, argsToLocals, Value.category]; done) | rfl
set_option maxRecDepth 65536 in
set_option maxHeartbeats 40000000 in
theorem own_rmX_4_2 (l : Launch) (Z : State) (a0 : Array Value) (hw : ∀ d ∈ tables_1, d.before a0 Z = true)  (h0 : Heap) (n0 : Nat) (Z0 : n0 ≤ h0.size)  :
    own_Met l Z (⟨"com/example/xml_stream_transform/xmlstreamtransform/output/CdataSplitterSplitsBeforePinLaw", "sectionStart", "(II)I"⟩ : MethodName) method_3_code 2 (some .int) [] ({ frames := 0, cells := 0, slots := 0, locals := 0 } : Room) #[(.int (4 : Int32)), (.int (2 : Int32))] h0 (fun v h L => v = some (.int (2 : Int32)) ∧ Fr n0 L ∧ h = h0) := by
  refine own_met own_pn5 ?_
  intro p e s m below meth c s₁ hx hby hml hown hnm hret hlk hZ X0 hE0
  have N0 := Fr.nil n0
  refine own_cast (own_ef5_own_rmX_4_2 m (4 : Int32) (2 : Int32)) ?_
  refine own_iloadN (n := 1) X0 hx (hb hby d5_0) rfl rfl ?_
  refine own_ifNo (n := 4) X0 hx (hb hby d5_1) (feq (by decide : ¬ ((2 : Int32) = (0 : Int32)))).1 rfl ?_
  refine own_iloadN (n := 5) X0 hx (hb hby d5_4) rfl rfl ?_
  refine own_iloadN (n := 6) X0 hx (hb hby d5_5) rfl rfl ?_
  refine own_icmpNo (n := 9) X0 hx (hb hby d5_6) (flt (by decide : ¬ ((4 : Int32) < (2 : Int32)))).1 rfl ?_
  refine own_iloadN (n := 10) X0 hx (hb hby d5_9) rfl rfl ?_
  refine own_retI X0 hx hlk hret hE0 (hb hby d5_10) (by decide) (by decide) ?_
  exact ⟨rfl, N0, rfl⟩
theorem own_ef6_own_rmF_4_2 (m : MethodId) (y0 : Addr) (y1 : Int32) (y2 : Int32) : entryFrame m #[(.ref y0), (.int y1), (.int y2)] 3 = mkF m 0 #[.val (.ref y0), .val (.int y1), .val (.int y2)] [] := by first | (simp [entryFrame, mkF, argsToLocals, Value.category]; done) | rfl
set_option maxRecDepth 65536 in
set_option maxHeartbeats 40000000 in
theorem own_rmF_4_2 (l : Launch) (Z : State) (a0 : Array Value) (hw : ∀ d ∈ tables_1, d.before a0 Z = true) (a : Addr) (kk : ClassId) (c0 c1 c2 c3 c4 : Int32) (h0 : Heap) (n0 : Nat) (Z0 : n0 ≤ h0.size) (V0 : Arv Z h0 a kk .char (5 : Int32) [(.int c0), (.int c1), (.int c2), (.int c3), (.int c4)] (.int (0 : Int32))) :
    own_Met l Z (⟨"com/example/xml_stream_transform/xmlstreamtransform/output/CdataSplitterSplitsBeforePinLaw", "ref", "([CII)Z"⟩ : MethodName) method_4_code 3 (some .boolean) [] ({ frames := 0, cells := 0, slots := 0, locals := 0 } : Room) #[(.ref a), (.int (4 : Int32)), (.int (2 : Int32))] h0 (fun v h L => v = some (.int (own_r c4 c3 c2)) ∧ Fr n0 L ∧ h = h0) := by
  refine own_met own_pn6 ?_
  intro p e s m below meth c s₁ hx hby hml hown hnm hret hlk hZ X0 hE0
  have N0 := Fr.nil n0
  refine own_cast (own_ef6_own_rmF_4_2 m a (4 : Int32) (2 : Int32)) ?_
  refine own_aloadN (n := 1) X0 hx (hb hby d6_0) rfl rfl rfl ?_
  refine own_iloadN (n := 2) X0 hx (hb hby d6_1) rfl rfl ?_
  refine own_ld_caload (n := 3) (v := (.int c4)) X0 hx hZ hE0 V0 ⟨by decide, by decide⟩ rfl (hb hby d6_2) rfl ?_
  refine own_bipush (n := 5) (z := (62 : Int32)) X0 hx (hb hby d6_3) rfl rfl ?_
  by_cases hc5_1 : c4 = (62 : Int32)
  · skip
    refine own_icmpNo (n := 8) X0 hx (hb hby d6_5) (teq hc5_1).2 rfl ?_
    refine own_iloadN (n := 9) X0 hx (hb hby d6_8) rfl rfl ?_
    refine own_iconst (n := 10) (z := (2 : Int32)) X0 hx (hb hby d6_9) rfl rfl ?_
    refine own_isub (n := 11) (z := (2 : Int32)) X0 hx (hb hby d6_10) rfl rfl ?_
    refine own_iloadN (n := 12) X0 hx (hb hby d6_11) rfl rfl ?_
    refine own_icmpNo (n := 15) X0 hx (hb hby d6_12) (flt (by decide : ¬ ((2 : Int32) < (2 : Int32)))).1 rfl ?_
    refine own_aloadN (n := 16) X0 hx (hb hby d6_15) rfl rfl rfl ?_
    refine own_iloadN (n := 17) X0 hx (hb hby d6_16) rfl rfl ?_
    refine own_iconst (n := 18) (z := (1 : Int32)) X0 hx (hb hby d6_17) rfl rfl ?_
    refine own_isub (n := 19) (z := (3 : Int32)) X0 hx (hb hby d6_18) rfl rfl ?_
    refine own_ld_caload (n := 20) (v := (.int c3)) X0 hx hZ hE0 V0 ⟨by decide, by decide⟩ rfl (hb hby d6_19) rfl ?_
    refine own_bipush (n := 22) (z := (93 : Int32)) X0 hx (hb hby d6_20) rfl rfl ?_
    by_cases hc22_2 : c3 = (93 : Int32)
    · skip
      refine own_icmpNo (n := 25) X0 hx (hb hby d6_22) (teq hc22_2).2 rfl ?_
      refine own_aloadN (n := 26) X0 hx (hb hby d6_25) rfl rfl rfl ?_
      refine own_iloadN (n := 27) X0 hx (hb hby d6_26) rfl rfl ?_
      refine own_iconst (n := 28) (z := (2 : Int32)) X0 hx (hb hby d6_27) rfl rfl ?_
      refine own_isub (n := 29) (z := (2 : Int32)) X0 hx (hb hby d6_28) rfl rfl ?_
      refine own_ld_caload (n := 30) (v := (.int c2)) X0 hx hZ hE0 V0 ⟨by decide, by decide⟩ rfl (hb hby d6_29) rfl ?_
      refine own_bipush (n := 32) (z := (93 : Int32)) X0 hx (hb hby d6_30) rfl rfl ?_
      by_cases hc32_3 : c2 = (93 : Int32)
      · skip
        refine own_icmpNo (n := 35) X0 hx (hb hby d6_32) (teq hc32_3).2 rfl ?_
        refine own_iconst (n := 36) (z := (1 : Int32)) X0 hx (hb hby d6_35) rfl rfl ?_
        refine own_goto (n := 40) X0 hx (hb hby d6_36) (by decide) (by decide) ?_
        refine own_retZ X0 hx hlk hret (by simp) hE0 (w := (1 : Int32)) rfl (hb hby d6_40) (by decide) (by decide) ?_
        exact ⟨by simp [own_r, hc5_1, hc22_2, hc32_3], N0, rfl⟩
      · skip
        refine own_icmpYes (n := 39) X0 hx (hb hby d6_32) (feq hc32_3).2 (by decide) (by decide) ?_
        refine own_iconst (n := 40) (z := (0 : Int32)) X0 hx (hb hby d6_39) rfl rfl ?_
        refine own_retZ X0 hx hlk hret (by simp) hE0 (w := (0 : Int32)) rfl (hb hby d6_40) (by decide) (by decide) ?_
        exact ⟨by simp [own_r, hc5_1, hc22_2, hc32_3], N0, rfl⟩
    · skip
      refine own_icmpYes (n := 39) X0 hx (hb hby d6_22) (feq hc22_2).2 (by decide) (by decide) ?_
      refine own_iconst (n := 40) (z := (0 : Int32)) X0 hx (hb hby d6_39) rfl rfl ?_
      refine own_retZ X0 hx hlk hret (by simp) hE0 (w := (0 : Int32)) rfl (hb hby d6_40) (by decide) (by decide) ?_
      exact ⟨by simp [own_r, hc5_1, hc22_2], N0, rfl⟩
  · skip
    refine own_icmpYes (n := 39) X0 hx (hb hby d6_5) (feq hc5_1).2 (by decide) (by decide) ?_
    refine own_iconst (n := 40) (z := (0 : Int32)) X0 hx (hb hby d6_39) rfl rfl ?_
    refine own_retZ X0 hx hlk hret (by simp) hE0 (w := (0 : Int32)) rfl (hb hby d6_40) (by decide) (by decide) ?_
    exact ⟨by simp [own_r, hc5_1], N0, rfl⟩
theorem own_ef5_own_rmX_0_3 (m : MethodId) (y0 : Int32) (y1 : Int32) : entryFrame m #[(.int y0), (.int y1)] 2 = mkF m 0 #[.val (.int y0), .val (.int y1)] [] := by first | (simp [entryFrame, mkF, argsToLocals, Value.category]; done) | rfl
set_option maxRecDepth 65536 in
set_option maxHeartbeats 40000000 in
theorem own_rmX_0_3 (l : Launch) (Z : State) (a0 : Array Value) (hw : ∀ d ∈ tables_1, d.before a0 Z = true)  (h0 : Heap) (n0 : Nat) (Z0 : n0 ≤ h0.size)  :
    own_Met l Z (⟨"com/example/xml_stream_transform/xmlstreamtransform/output/CdataSplitterSplitsBeforePinLaw", "sectionStart", "(II)I"⟩ : MethodName) method_3_code 2 (some .int) [] ({ frames := 0, cells := 0, slots := 0, locals := 0 } : Room) #[(.int (0 : Int32)), (.int (3 : Int32))] h0 (fun v h L => v = some (.int (0 : Int32)) ∧ Fr n0 L ∧ h = h0) := by
  refine own_met own_pn5 ?_
  intro p e s m below meth c s₁ hx hby hml hown hnm hret hlk hZ X0 hE0
  have N0 := Fr.nil n0
  refine own_cast (own_ef5_own_rmX_0_3 m (0 : Int32) (3 : Int32)) ?_
  refine own_iloadN (n := 1) X0 hx (hb hby d5_0) rfl rfl ?_
  refine own_ifNo (n := 4) X0 hx (hb hby d5_1) (feq (by decide : ¬ ((3 : Int32) = (0 : Int32)))).1 rfl ?_
  refine own_iloadN (n := 5) X0 hx (hb hby d5_4) rfl rfl ?_
  refine own_iloadN (n := 6) X0 hx (hb hby d5_5) rfl rfl ?_
  refine own_icmpYes (n := 11) X0 hx (hb hby d5_6) (tlt (by decide : (0 : Int32) < (3 : Int32))).1 (by decide) (by decide) ?_
  refine own_iconst (n := 12) (z := (0 : Int32)) X0 hx (hb hby d5_11) rfl rfl ?_
  refine own_retI X0 hx hlk hret hE0 (hb hby d5_12) (by decide) (by decide) ?_
  exact ⟨rfl, N0, rfl⟩
theorem own_ef5_own_rmX_1_3 (m : MethodId) (y0 : Int32) (y1 : Int32) : entryFrame m #[(.int y0), (.int y1)] 2 = mkF m 0 #[.val (.int y0), .val (.int y1)] [] := by first | (simp [entryFrame, mkF, argsToLocals, Value.category]; done) | rfl
set_option maxRecDepth 65536 in
set_option maxHeartbeats 40000000 in
theorem own_rmX_1_3 (l : Launch) (Z : State) (a0 : Array Value) (hw : ∀ d ∈ tables_1, d.before a0 Z = true)  (h0 : Heap) (n0 : Nat) (Z0 : n0 ≤ h0.size)  :
    own_Met l Z (⟨"com/example/xml_stream_transform/xmlstreamtransform/output/CdataSplitterSplitsBeforePinLaw", "sectionStart", "(II)I"⟩ : MethodName) method_3_code 2 (some .int) [] ({ frames := 0, cells := 0, slots := 0, locals := 0 } : Room) #[(.int (1 : Int32)), (.int (3 : Int32))] h0 (fun v h L => v = some (.int (0 : Int32)) ∧ Fr n0 L ∧ h = h0) := by
  refine own_met own_pn5 ?_
  intro p e s m below meth c s₁ hx hby hml hown hnm hret hlk hZ X0 hE0
  have N0 := Fr.nil n0
  refine own_cast (own_ef5_own_rmX_1_3 m (1 : Int32) (3 : Int32)) ?_
  refine own_iloadN (n := 1) X0 hx (hb hby d5_0) rfl rfl ?_
  refine own_ifNo (n := 4) X0 hx (hb hby d5_1) (feq (by decide : ¬ ((3 : Int32) = (0 : Int32)))).1 rfl ?_
  refine own_iloadN (n := 5) X0 hx (hb hby d5_4) rfl rfl ?_
  refine own_iloadN (n := 6) X0 hx (hb hby d5_5) rfl rfl ?_
  refine own_icmpYes (n := 11) X0 hx (hb hby d5_6) (tlt (by decide : (1 : Int32) < (3 : Int32))).1 (by decide) (by decide) ?_
  refine own_iconst (n := 12) (z := (0 : Int32)) X0 hx (hb hby d5_11) rfl rfl ?_
  refine own_retI X0 hx hlk hret hE0 (hb hby d5_12) (by decide) (by decide) ?_
  exact ⟨rfl, N0, rfl⟩
theorem own_ef5_own_rmX_2_3 (m : MethodId) (y0 : Int32) (y1 : Int32) : entryFrame m #[(.int y0), (.int y1)] 2 = mkF m 0 #[.val (.int y0), .val (.int y1)] [] := by first | (simp [entryFrame, mkF, argsToLocals, Value.category]; done) | rfl
set_option maxRecDepth 65536 in
set_option maxHeartbeats 40000000 in
theorem own_rmX_2_3 (l : Launch) (Z : State) (a0 : Array Value) (hw : ∀ d ∈ tables_1, d.before a0 Z = true)  (h0 : Heap) (n0 : Nat) (Z0 : n0 ≤ h0.size)  :
    own_Met l Z (⟨"com/example/xml_stream_transform/xmlstreamtransform/output/CdataSplitterSplitsBeforePinLaw", "sectionStart", "(II)I"⟩ : MethodName) method_3_code 2 (some .int) [] ({ frames := 0, cells := 0, slots := 0, locals := 0 } : Room) #[(.int (2 : Int32)), (.int (3 : Int32))] h0 (fun v h L => v = some (.int (0 : Int32)) ∧ Fr n0 L ∧ h = h0) := by
  refine own_met own_pn5 ?_
  intro p e s m below meth c s₁ hx hby hml hown hnm hret hlk hZ X0 hE0
  have N0 := Fr.nil n0
  refine own_cast (own_ef5_own_rmX_2_3 m (2 : Int32) (3 : Int32)) ?_
  refine own_iloadN (n := 1) X0 hx (hb hby d5_0) rfl rfl ?_
  refine own_ifNo (n := 4) X0 hx (hb hby d5_1) (feq (by decide : ¬ ((3 : Int32) = (0 : Int32)))).1 rfl ?_
  refine own_iloadN (n := 5) X0 hx (hb hby d5_4) rfl rfl ?_
  refine own_iloadN (n := 6) X0 hx (hb hby d5_5) rfl rfl ?_
  refine own_icmpYes (n := 11) X0 hx (hb hby d5_6) (tlt (by decide : (2 : Int32) < (3 : Int32))).1 (by decide) (by decide) ?_
  refine own_iconst (n := 12) (z := (0 : Int32)) X0 hx (hb hby d5_11) rfl rfl ?_
  refine own_retI X0 hx hlk hret hE0 (hb hby d5_12) (by decide) (by decide) ?_
  exact ⟨rfl, N0, rfl⟩
theorem own_ef5_own_rmX_3_3 (m : MethodId) (y0 : Int32) (y1 : Int32) : entryFrame m #[(.int y0), (.int y1)] 2 = mkF m 0 #[.val (.int y0), .val (.int y1)] [] := by first | (simp [entryFrame, mkF, argsToLocals, Value.category]; done) | rfl
set_option maxRecDepth 65536 in
set_option maxHeartbeats 40000000 in
theorem own_rmX_3_3 (l : Launch) (Z : State) (a0 : Array Value) (hw : ∀ d ∈ tables_1, d.before a0 Z = true)  (h0 : Heap) (n0 : Nat) (Z0 : n0 ≤ h0.size)  :
    own_Met l Z (⟨"com/example/xml_stream_transform/xmlstreamtransform/output/CdataSplitterSplitsBeforePinLaw", "sectionStart", "(II)I"⟩ : MethodName) method_3_code 2 (some .int) [] ({ frames := 0, cells := 0, slots := 0, locals := 0 } : Room) #[(.int (3 : Int32)), (.int (3 : Int32))] h0 (fun v h L => v = some (.int (3 : Int32)) ∧ Fr n0 L ∧ h = h0) := by
  refine own_met own_pn5 ?_
  intro p e s m below meth c s₁ hx hby hml hown hnm hret hlk hZ X0 hE0
  have N0 := Fr.nil n0
  refine own_cast (own_ef5_own_rmX_3_3 m (3 : Int32) (3 : Int32)) ?_
  refine own_iloadN (n := 1) X0 hx (hb hby d5_0) rfl rfl ?_
  refine own_ifNo (n := 4) X0 hx (hb hby d5_1) (feq (by decide : ¬ ((3 : Int32) = (0 : Int32)))).1 rfl ?_
  refine own_iloadN (n := 5) X0 hx (hb hby d5_4) rfl rfl ?_
  refine own_iloadN (n := 6) X0 hx (hb hby d5_5) rfl rfl ?_
  refine own_icmpNo (n := 9) X0 hx (hb hby d5_6) (flt (by decide : ¬ ((3 : Int32) < (3 : Int32)))).1 rfl ?_
  refine own_iloadN (n := 10) X0 hx (hb hby d5_9) rfl rfl ?_
  refine own_retI X0 hx hlk hret hE0 (hb hby d5_10) (by decide) (by decide) ?_
  exact ⟨rfl, N0, rfl⟩
theorem own_ef6_own_rmF_3_3 (m : MethodId) (y0 : Addr) (y1 : Int32) (y2 : Int32) : entryFrame m #[(.ref y0), (.int y1), (.int y2)] 3 = mkF m 0 #[.val (.ref y0), .val (.int y1), .val (.int y2)] [] := by first | (simp [entryFrame, mkF, argsToLocals, Value.category]; done) | rfl
set_option maxRecDepth 65536 in
set_option maxHeartbeats 40000000 in
theorem own_rmF_3_3 (l : Launch) (Z : State) (a0 : Array Value) (hw : ∀ d ∈ tables_1, d.before a0 Z = true) (a : Addr) (kk : ClassId) (c0 c1 c2 c3 c4 : Int32) (h0 : Heap) (n0 : Nat) (Z0 : n0 ≤ h0.size) (V0 : Arv Z h0 a kk .char (5 : Int32) [(.int c0), (.int c1), (.int c2), (.int c3), (.int c4)] (.int (0 : Int32))) :
    own_Met l Z (⟨"com/example/xml_stream_transform/xmlstreamtransform/output/CdataSplitterSplitsBeforePinLaw", "ref", "([CII)Z"⟩ : MethodName) method_4_code 3 (some .boolean) [] ({ frames := 0, cells := 0, slots := 0, locals := 0 } : Room) #[(.ref a), (.int (3 : Int32)), (.int (3 : Int32))] h0 (fun v h L => v = some (.int (0 : Int32)) ∧ Fr n0 L ∧ h = h0) := by
  refine own_met own_pn6 ?_
  intro p e s m below meth c s₁ hx hby hml hown hnm hret hlk hZ X0 hE0
  have N0 := Fr.nil n0
  refine own_cast (own_ef6_own_rmF_3_3 m a (3 : Int32) (3 : Int32)) ?_
  refine own_aloadN (n := 1) X0 hx (hb hby d6_0) rfl rfl rfl ?_
  refine own_iloadN (n := 2) X0 hx (hb hby d6_1) rfl rfl ?_
  refine own_ld_caload (n := 3) (v := (.int c3)) X0 hx hZ hE0 V0 ⟨by decide, by decide⟩ rfl (hb hby d6_2) rfl ?_
  refine own_bipush (n := 5) (z := (62 : Int32)) X0 hx (hb hby d6_3) rfl rfl ?_
  by_cases hc5_1 : c3 = (62 : Int32)
  · skip
    refine own_icmpNo (n := 8) X0 hx (hb hby d6_5) (teq hc5_1).2 rfl ?_
    refine own_iloadN (n := 9) X0 hx (hb hby d6_8) rfl rfl ?_
    refine own_iconst (n := 10) (z := (2 : Int32)) X0 hx (hb hby d6_9) rfl rfl ?_
    refine own_isub (n := 11) (z := (1 : Int32)) X0 hx (hb hby d6_10) rfl rfl ?_
    refine own_iloadN (n := 12) X0 hx (hb hby d6_11) rfl rfl ?_
    refine own_icmpYes (n := 39) X0 hx (hb hby d6_12) (tlt (by decide : (1 : Int32) < (3 : Int32))).1 (by decide) (by decide) ?_
    refine own_iconst (n := 40) (z := (0 : Int32)) X0 hx (hb hby d6_39) rfl rfl ?_
    refine own_retZ X0 hx hlk hret (by simp) hE0 (w := (0 : Int32)) rfl (hb hby d6_40) (by decide) (by decide) ?_
    exact ⟨rfl, N0, rfl⟩
  · skip
    refine own_icmpYes (n := 39) X0 hx (hb hby d6_5) (feq hc5_1).2 (by decide) (by decide) ?_
    refine own_iconst (n := 40) (z := (0 : Int32)) X0 hx (hb hby d6_39) rfl rfl ?_
    refine own_retZ X0 hx hlk hret (by simp) hE0 (w := (0 : Int32)) rfl (hb hby d6_40) (by decide) (by decide) ?_
    exact ⟨rfl, N0, rfl⟩
theorem own_ef5_own_rmX_4_3 (m : MethodId) (y0 : Int32) (y1 : Int32) : entryFrame m #[(.int y0), (.int y1)] 2 = mkF m 0 #[.val (.int y0), .val (.int y1)] [] := by first | (simp [entryFrame, mkF, argsToLocals, Value.category]; done) | rfl
set_option maxRecDepth 65536 in
set_option maxHeartbeats 40000000 in
theorem own_rmX_4_3 (l : Launch) (Z : State) (a0 : Array Value) (hw : ∀ d ∈ tables_1, d.before a0 Z = true)  (h0 : Heap) (n0 : Nat) (Z0 : n0 ≤ h0.size)  :
    own_Met l Z (⟨"com/example/xml_stream_transform/xmlstreamtransform/output/CdataSplitterSplitsBeforePinLaw", "sectionStart", "(II)I"⟩ : MethodName) method_3_code 2 (some .int) [] ({ frames := 0, cells := 0, slots := 0, locals := 0 } : Room) #[(.int (4 : Int32)), (.int (3 : Int32))] h0 (fun v h L => v = some (.int (3 : Int32)) ∧ Fr n0 L ∧ h = h0) := by
  refine own_met own_pn5 ?_
  intro p e s m below meth c s₁ hx hby hml hown hnm hret hlk hZ X0 hE0
  have N0 := Fr.nil n0
  refine own_cast (own_ef5_own_rmX_4_3 m (4 : Int32) (3 : Int32)) ?_
  refine own_iloadN (n := 1) X0 hx (hb hby d5_0) rfl rfl ?_
  refine own_ifNo (n := 4) X0 hx (hb hby d5_1) (feq (by decide : ¬ ((3 : Int32) = (0 : Int32)))).1 rfl ?_
  refine own_iloadN (n := 5) X0 hx (hb hby d5_4) rfl rfl ?_
  refine own_iloadN (n := 6) X0 hx (hb hby d5_5) rfl rfl ?_
  refine own_icmpNo (n := 9) X0 hx (hb hby d5_6) (flt (by decide : ¬ ((4 : Int32) < (3 : Int32)))).1 rfl ?_
  refine own_iloadN (n := 10) X0 hx (hb hby d5_9) rfl rfl ?_
  refine own_retI X0 hx hlk hret hE0 (hb hby d5_10) (by decide) (by decide) ?_
  exact ⟨rfl, N0, rfl⟩
theorem own_ef6_own_rmF_4_3 (m : MethodId) (y0 : Addr) (y1 : Int32) (y2 : Int32) : entryFrame m #[(.ref y0), (.int y1), (.int y2)] 3 = mkF m 0 #[.val (.ref y0), .val (.int y1), .val (.int y2)] [] := by first | (simp [entryFrame, mkF, argsToLocals, Value.category]; done) | rfl
set_option maxRecDepth 65536 in
set_option maxHeartbeats 40000000 in
theorem own_rmF_4_3 (l : Launch) (Z : State) (a0 : Array Value) (hw : ∀ d ∈ tables_1, d.before a0 Z = true) (a : Addr) (kk : ClassId) (c0 c1 c2 c3 c4 : Int32) (h0 : Heap) (n0 : Nat) (Z0 : n0 ≤ h0.size) (V0 : Arv Z h0 a kk .char (5 : Int32) [(.int c0), (.int c1), (.int c2), (.int c3), (.int c4)] (.int (0 : Int32))) :
    own_Met l Z (⟨"com/example/xml_stream_transform/xmlstreamtransform/output/CdataSplitterSplitsBeforePinLaw", "ref", "([CII)Z"⟩ : MethodName) method_4_code 3 (some .boolean) [] ({ frames := 0, cells := 0, slots := 0, locals := 0 } : Room) #[(.ref a), (.int (4 : Int32)), (.int (3 : Int32))] h0 (fun v h L => v = some (.int (0 : Int32)) ∧ Fr n0 L ∧ h = h0) := by
  refine own_met own_pn6 ?_
  intro p e s m below meth c s₁ hx hby hml hown hnm hret hlk hZ X0 hE0
  have N0 := Fr.nil n0
  refine own_cast (own_ef6_own_rmF_4_3 m a (4 : Int32) (3 : Int32)) ?_
  refine own_aloadN (n := 1) X0 hx (hb hby d6_0) rfl rfl rfl ?_
  refine own_iloadN (n := 2) X0 hx (hb hby d6_1) rfl rfl ?_
  refine own_ld_caload (n := 3) (v := (.int c4)) X0 hx hZ hE0 V0 ⟨by decide, by decide⟩ rfl (hb hby d6_2) rfl ?_
  refine own_bipush (n := 5) (z := (62 : Int32)) X0 hx (hb hby d6_3) rfl rfl ?_
  by_cases hc5_1 : c4 = (62 : Int32)
  · skip
    refine own_icmpNo (n := 8) X0 hx (hb hby d6_5) (teq hc5_1).2 rfl ?_
    refine own_iloadN (n := 9) X0 hx (hb hby d6_8) rfl rfl ?_
    refine own_iconst (n := 10) (z := (2 : Int32)) X0 hx (hb hby d6_9) rfl rfl ?_
    refine own_isub (n := 11) (z := (2 : Int32)) X0 hx (hb hby d6_10) rfl rfl ?_
    refine own_iloadN (n := 12) X0 hx (hb hby d6_11) rfl rfl ?_
    refine own_icmpYes (n := 39) X0 hx (hb hby d6_12) (tlt (by decide : (2 : Int32) < (3 : Int32))).1 (by decide) (by decide) ?_
    refine own_iconst (n := 40) (z := (0 : Int32)) X0 hx (hb hby d6_39) rfl rfl ?_
    refine own_retZ X0 hx hlk hret (by simp) hE0 (w := (0 : Int32)) rfl (hb hby d6_40) (by decide) (by decide) ?_
    exact ⟨rfl, N0, rfl⟩
  · skip
    refine own_icmpYes (n := 39) X0 hx (hb hby d6_5) (feq hc5_1).2 (by decide) (by decide) ?_
    refine own_iconst (n := 40) (z := (0 : Int32)) X0 hx (hb hby d6_39) rfl rfl ?_
    refine own_retZ X0 hx hlk hret (by simp) hE0 (w := (0 : Int32)) rfl (hb hby d6_40) (by decide) (by decide) ?_
    exact ⟨rfl, N0, rfl⟩
theorem own_ef5_own_rmX_0_4 (m : MethodId) (y0 : Int32) (y1 : Int32) : entryFrame m #[(.int y0), (.int y1)] 2 = mkF m 0 #[.val (.int y0), .val (.int y1)] [] := by first | (simp [entryFrame, mkF, argsToLocals, Value.category]; done) | rfl
set_option maxRecDepth 65536 in
set_option maxHeartbeats 40000000 in
theorem own_rmX_0_4 (l : Launch) (Z : State) (a0 : Array Value) (hw : ∀ d ∈ tables_1, d.before a0 Z = true)  (h0 : Heap) (n0 : Nat) (Z0 : n0 ≤ h0.size)  :
    own_Met l Z (⟨"com/example/xml_stream_transform/xmlstreamtransform/output/CdataSplitterSplitsBeforePinLaw", "sectionStart", "(II)I"⟩ : MethodName) method_3_code 2 (some .int) [] ({ frames := 0, cells := 0, slots := 0, locals := 0 } : Room) #[(.int (0 : Int32)), (.int (4 : Int32))] h0 (fun v h L => v = some (.int (0 : Int32)) ∧ Fr n0 L ∧ h = h0) := by
  refine own_met own_pn5 ?_
  intro p e s m below meth c s₁ hx hby hml hown hnm hret hlk hZ X0 hE0
  have N0 := Fr.nil n0
  refine own_cast (own_ef5_own_rmX_0_4 m (0 : Int32) (4 : Int32)) ?_
  refine own_iloadN (n := 1) X0 hx (hb hby d5_0) rfl rfl ?_
  refine own_ifNo (n := 4) X0 hx (hb hby d5_1) (feq (by decide : ¬ ((4 : Int32) = (0 : Int32)))).1 rfl ?_
  refine own_iloadN (n := 5) X0 hx (hb hby d5_4) rfl rfl ?_
  refine own_iloadN (n := 6) X0 hx (hb hby d5_5) rfl rfl ?_
  refine own_icmpYes (n := 11) X0 hx (hb hby d5_6) (tlt (by decide : (0 : Int32) < (4 : Int32))).1 (by decide) (by decide) ?_
  refine own_iconst (n := 12) (z := (0 : Int32)) X0 hx (hb hby d5_11) rfl rfl ?_
  refine own_retI X0 hx hlk hret hE0 (hb hby d5_12) (by decide) (by decide) ?_
  exact ⟨rfl, N0, rfl⟩
theorem own_ef5_own_rmX_1_4 (m : MethodId) (y0 : Int32) (y1 : Int32) : entryFrame m #[(.int y0), (.int y1)] 2 = mkF m 0 #[.val (.int y0), .val (.int y1)] [] := by first | (simp [entryFrame, mkF, argsToLocals, Value.category]; done) | rfl
set_option maxRecDepth 65536 in
set_option maxHeartbeats 40000000 in
theorem own_rmX_1_4 (l : Launch) (Z : State) (a0 : Array Value) (hw : ∀ d ∈ tables_1, d.before a0 Z = true)  (h0 : Heap) (n0 : Nat) (Z0 : n0 ≤ h0.size)  :
    own_Met l Z (⟨"com/example/xml_stream_transform/xmlstreamtransform/output/CdataSplitterSplitsBeforePinLaw", "sectionStart", "(II)I"⟩ : MethodName) method_3_code 2 (some .int) [] ({ frames := 0, cells := 0, slots := 0, locals := 0 } : Room) #[(.int (1 : Int32)), (.int (4 : Int32))] h0 (fun v h L => v = some (.int (0 : Int32)) ∧ Fr n0 L ∧ h = h0) := by
  refine own_met own_pn5 ?_
  intro p e s m below meth c s₁ hx hby hml hown hnm hret hlk hZ X0 hE0
  have N0 := Fr.nil n0
  refine own_cast (own_ef5_own_rmX_1_4 m (1 : Int32) (4 : Int32)) ?_
  refine own_iloadN (n := 1) X0 hx (hb hby d5_0) rfl rfl ?_
  refine own_ifNo (n := 4) X0 hx (hb hby d5_1) (feq (by decide : ¬ ((4 : Int32) = (0 : Int32)))).1 rfl ?_
  refine own_iloadN (n := 5) X0 hx (hb hby d5_4) rfl rfl ?_
  refine own_iloadN (n := 6) X0 hx (hb hby d5_5) rfl rfl ?_
  refine own_icmpYes (n := 11) X0 hx (hb hby d5_6) (tlt (by decide : (1 : Int32) < (4 : Int32))).1 (by decide) (by decide) ?_
  refine own_iconst (n := 12) (z := (0 : Int32)) X0 hx (hb hby d5_11) rfl rfl ?_
  refine own_retI X0 hx hlk hret hE0 (hb hby d5_12) (by decide) (by decide) ?_
  exact ⟨rfl, N0, rfl⟩
theorem own_ef5_own_rmX_2_4 (m : MethodId) (y0 : Int32) (y1 : Int32) : entryFrame m #[(.int y0), (.int y1)] 2 = mkF m 0 #[.val (.int y0), .val (.int y1)] [] := by first | (simp [entryFrame, mkF, argsToLocals, Value.category]; done) | rfl
set_option maxRecDepth 65536 in
set_option maxHeartbeats 40000000 in
theorem own_rmX_2_4 (l : Launch) (Z : State) (a0 : Array Value) (hw : ∀ d ∈ tables_1, d.before a0 Z = true)  (h0 : Heap) (n0 : Nat) (Z0 : n0 ≤ h0.size)  :
    own_Met l Z (⟨"com/example/xml_stream_transform/xmlstreamtransform/output/CdataSplitterSplitsBeforePinLaw", "sectionStart", "(II)I"⟩ : MethodName) method_3_code 2 (some .int) [] ({ frames := 0, cells := 0, slots := 0, locals := 0 } : Room) #[(.int (2 : Int32)), (.int (4 : Int32))] h0 (fun v h L => v = some (.int (0 : Int32)) ∧ Fr n0 L ∧ h = h0) := by
  refine own_met own_pn5 ?_
  intro p e s m below meth c s₁ hx hby hml hown hnm hret hlk hZ X0 hE0
  have N0 := Fr.nil n0
  refine own_cast (own_ef5_own_rmX_2_4 m (2 : Int32) (4 : Int32)) ?_
  refine own_iloadN (n := 1) X0 hx (hb hby d5_0) rfl rfl ?_
  refine own_ifNo (n := 4) X0 hx (hb hby d5_1) (feq (by decide : ¬ ((4 : Int32) = (0 : Int32)))).1 rfl ?_
  refine own_iloadN (n := 5) X0 hx (hb hby d5_4) rfl rfl ?_
  refine own_iloadN (n := 6) X0 hx (hb hby d5_5) rfl rfl ?_
  refine own_icmpYes (n := 11) X0 hx (hb hby d5_6) (tlt (by decide : (2 : Int32) < (4 : Int32))).1 (by decide) (by decide) ?_
  refine own_iconst (n := 12) (z := (0 : Int32)) X0 hx (hb hby d5_11) rfl rfl ?_
  refine own_retI X0 hx hlk hret hE0 (hb hby d5_12) (by decide) (by decide) ?_
  exact ⟨rfl, N0, rfl⟩
theorem own_ef5_own_rmX_3_4 (m : MethodId) (y0 : Int32) (y1 : Int32) : entryFrame m #[(.int y0), (.int y1)] 2 = mkF m 0 #[.val (.int y0), .val (.int y1)] [] := by first | (simp [entryFrame, mkF, argsToLocals, Value.category]; done) | rfl
set_option maxRecDepth 65536 in
set_option maxHeartbeats 40000000 in
theorem own_rmX_3_4 (l : Launch) (Z : State) (a0 : Array Value) (hw : ∀ d ∈ tables_1, d.before a0 Z = true)  (h0 : Heap) (n0 : Nat) (Z0 : n0 ≤ h0.size)  :
    own_Met l Z (⟨"com/example/xml_stream_transform/xmlstreamtransform/output/CdataSplitterSplitsBeforePinLaw", "sectionStart", "(II)I"⟩ : MethodName) method_3_code 2 (some .int) [] ({ frames := 0, cells := 0, slots := 0, locals := 0 } : Room) #[(.int (3 : Int32)), (.int (4 : Int32))] h0 (fun v h L => v = some (.int (0 : Int32)) ∧ Fr n0 L ∧ h = h0) := by
  refine own_met own_pn5 ?_
  intro p e s m below meth c s₁ hx hby hml hown hnm hret hlk hZ X0 hE0
  have N0 := Fr.nil n0
  refine own_cast (own_ef5_own_rmX_3_4 m (3 : Int32) (4 : Int32)) ?_
  refine own_iloadN (n := 1) X0 hx (hb hby d5_0) rfl rfl ?_
  refine own_ifNo (n := 4) X0 hx (hb hby d5_1) (feq (by decide : ¬ ((4 : Int32) = (0 : Int32)))).1 rfl ?_
  refine own_iloadN (n := 5) X0 hx (hb hby d5_4) rfl rfl ?_
  refine own_iloadN (n := 6) X0 hx (hb hby d5_5) rfl rfl ?_
  refine own_icmpYes (n := 11) X0 hx (hb hby d5_6) (tlt (by decide : (3 : Int32) < (4 : Int32))).1 (by decide) (by decide) ?_
  refine own_iconst (n := 12) (z := (0 : Int32)) X0 hx (hb hby d5_11) rfl rfl ?_
  refine own_retI X0 hx hlk hret hE0 (hb hby d5_12) (by decide) (by decide) ?_
  exact ⟨rfl, N0, rfl⟩
theorem own_ef5_own_rmX_4_4 (m : MethodId) (y0 : Int32) (y1 : Int32) : entryFrame m #[(.int y0), (.int y1)] 2 = mkF m 0 #[.val (.int y0), .val (.int y1)] [] := by first | (simp [entryFrame, mkF, argsToLocals, Value.category]; done) | rfl
set_option maxRecDepth 65536 in
set_option maxHeartbeats 40000000 in
theorem own_rmX_4_4 (l : Launch) (Z : State) (a0 : Array Value) (hw : ∀ d ∈ tables_1, d.before a0 Z = true)  (h0 : Heap) (n0 : Nat) (Z0 : n0 ≤ h0.size)  :
    own_Met l Z (⟨"com/example/xml_stream_transform/xmlstreamtransform/output/CdataSplitterSplitsBeforePinLaw", "sectionStart", "(II)I"⟩ : MethodName) method_3_code 2 (some .int) [] ({ frames := 0, cells := 0, slots := 0, locals := 0 } : Room) #[(.int (4 : Int32)), (.int (4 : Int32))] h0 (fun v h L => v = some (.int (4 : Int32)) ∧ Fr n0 L ∧ h = h0) := by
  refine own_met own_pn5 ?_
  intro p e s m below meth c s₁ hx hby hml hown hnm hret hlk hZ X0 hE0
  have N0 := Fr.nil n0
  refine own_cast (own_ef5_own_rmX_4_4 m (4 : Int32) (4 : Int32)) ?_
  refine own_iloadN (n := 1) X0 hx (hb hby d5_0) rfl rfl ?_
  refine own_ifNo (n := 4) X0 hx (hb hby d5_1) (feq (by decide : ¬ ((4 : Int32) = (0 : Int32)))).1 rfl ?_
  refine own_iloadN (n := 5) X0 hx (hb hby d5_4) rfl rfl ?_
  refine own_iloadN (n := 6) X0 hx (hb hby d5_5) rfl rfl ?_
  refine own_icmpNo (n := 9) X0 hx (hb hby d5_6) (flt (by decide : ¬ ((4 : Int32) < (4 : Int32)))).1 rfl ?_
  refine own_iloadN (n := 10) X0 hx (hb hby d5_9) rfl rfl ?_
  refine own_retI X0 hx hlk hret hE0 (hb hby d5_10) (by decide) (by decide) ?_
  exact ⟨rfl, N0, rfl⟩
theorem own_ef6_own_rmF_4_4 (m : MethodId) (y0 : Addr) (y1 : Int32) (y2 : Int32) : entryFrame m #[(.ref y0), (.int y1), (.int y2)] 3 = mkF m 0 #[.val (.ref y0), .val (.int y1), .val (.int y2)] [] := by first | (simp [entryFrame, mkF, argsToLocals, Value.category]; done) | rfl
set_option maxRecDepth 65536 in
set_option maxHeartbeats 40000000 in
theorem own_rmF_4_4 (l : Launch) (Z : State) (a0 : Array Value) (hw : ∀ d ∈ tables_1, d.before a0 Z = true) (a : Addr) (kk : ClassId) (c0 c1 c2 c3 c4 : Int32) (h0 : Heap) (n0 : Nat) (Z0 : n0 ≤ h0.size) (V0 : Arv Z h0 a kk .char (5 : Int32) [(.int c0), (.int c1), (.int c2), (.int c3), (.int c4)] (.int (0 : Int32))) :
    own_Met l Z (⟨"com/example/xml_stream_transform/xmlstreamtransform/output/CdataSplitterSplitsBeforePinLaw", "ref", "([CII)Z"⟩ : MethodName) method_4_code 3 (some .boolean) [] ({ frames := 0, cells := 0, slots := 0, locals := 0 } : Room) #[(.ref a), (.int (4 : Int32)), (.int (4 : Int32))] h0 (fun v h L => v = some (.int (0 : Int32)) ∧ Fr n0 L ∧ h = h0) := by
  refine own_met own_pn6 ?_
  intro p e s m below meth c s₁ hx hby hml hown hnm hret hlk hZ X0 hE0
  have N0 := Fr.nil n0
  refine own_cast (own_ef6_own_rmF_4_4 m a (4 : Int32) (4 : Int32)) ?_
  refine own_aloadN (n := 1) X0 hx (hb hby d6_0) rfl rfl rfl ?_
  refine own_iloadN (n := 2) X0 hx (hb hby d6_1) rfl rfl ?_
  refine own_ld_caload (n := 3) (v := (.int c4)) X0 hx hZ hE0 V0 ⟨by decide, by decide⟩ rfl (hb hby d6_2) rfl ?_
  refine own_bipush (n := 5) (z := (62 : Int32)) X0 hx (hb hby d6_3) rfl rfl ?_
  by_cases hc5_1 : c4 = (62 : Int32)
  · skip
    refine own_icmpNo (n := 8) X0 hx (hb hby d6_5) (teq hc5_1).2 rfl ?_
    refine own_iloadN (n := 9) X0 hx (hb hby d6_8) rfl rfl ?_
    refine own_iconst (n := 10) (z := (2 : Int32)) X0 hx (hb hby d6_9) rfl rfl ?_
    refine own_isub (n := 11) (z := (2 : Int32)) X0 hx (hb hby d6_10) rfl rfl ?_
    refine own_iloadN (n := 12) X0 hx (hb hby d6_11) rfl rfl ?_
    refine own_icmpYes (n := 39) X0 hx (hb hby d6_12) (tlt (by decide : (2 : Int32) < (4 : Int32))).1 (by decide) (by decide) ?_
    refine own_iconst (n := 40) (z := (0 : Int32)) X0 hx (hb hby d6_39) rfl rfl ?_
    refine own_retZ X0 hx hlk hret (by simp) hE0 (w := (0 : Int32)) rfl (hb hby d6_40) (by decide) (by decide) ?_
    exact ⟨rfl, N0, rfl⟩
  · skip
    refine own_icmpYes (n := 39) X0 hx (hb hby d6_5) (feq hc5_1).2 (by decide) (by decide) ?_
    refine own_iconst (n := 40) (z := (0 : Int32)) X0 hx (hb hby d6_39) rfl rfl ?_
    refine own_retZ X0 hx hlk hret (by simp) hE0 (w := (0 : Int32)) rfl (hb hby d6_40) (by decide) (by decide) ?_
    exact ⟨rfl, N0, rfl⟩
theorem own_ef0_own_rm0 (m : MethodId) (y0 : Int32) (y1 : Int32) (y2 : Int32) (y3 : Int32) (y4 : Int32) (y5 : Int32) : entryFrame m #[(.int y0), (.int y1), (.int y2), (.int y3), (.int y4), (.int y5)] maxLocals = mkF m 0 #[.val (.int y0), .val (.int y1), .val (.int y2), .val (.int y3), .val (.int y4), .val (.int y5), .unset, .unset, .unset, .unset, .unset, .unset, .unset, .unset, .unset, .unset] [] := by first | (simp [entryFrame, mkF, argsToLocals, Value.category, maxLocals]; done) | rfl
set_option maxRecDepth 65536 in
set_option maxHeartbeats 40000000 in
theorem own_rm0 (l : Launch) (Z : State) (a0 : Array Value) (hw : ∀ d ∈ tables_1, d.before a0 Z = true) (p0 p1 p2 p3 p4 p5 : Int32) (h0 : Heap) (n0 : Nat) (Z0 : n0 ≤ h0.size)  :
    own_Met l Z x code maxLocals ret tables_1 room_1 #[(.int p0), (.int p1), (.int p2), (.int p3), (.int p4), (.int p5)] h0 (fun v h L => v = some (.int 1) ∧ Fr n0 L) := by
  refine own_met own_pn0 ?_
  intro p e s m below meth c s₁ hx hby hml hown hnm hret hlk hZ X0 hE0
  have N0 := Fr.nil n0
  refine own_cast (own_ef0_own_rm0 m p0 p1 p2 p3 p4 p5) ?_
  refine own_iconst (n := 1) (z := (5 : Int32)) X0 hx (hb hby at_0) rfl rfl ?_
  refine own_newA (n := 3) X0 hx hZ own_an_char (ww0 hw) hE0 (hb hby at_1) (by decide) (cap := 5) (by decide) (by decide) (by decide) (by decide) rfl ?_
  intro T1 h1 k1 b1 g1 X1 e1 E1 A1 B1
  have g_b1 : n0 ≤ b1 := Nat.le_trans Z0 (Nat.le_of_eq g1.symm)
  have Z_2 : n0 ≤ h1.size := Nat.le_trans Z0 E1.1
  have V1 : Arv Z h1 b1 k1 .char (5 : Int32) [(.int (0 : Int32)), (.int (0 : Int32)), (.int (0 : Int32)), (.int (0 : Int32)), (.int (0 : Int32))] (.int (0 : Int32)) := (Arv.new A1 (by decide)).pad (pad_rep [] (.int (0 : Int32)) 5)
  refine own_dup (n := 4) X1 hx (hb hby at_3) rfl rfl ?_
  refine own_iconst (n := 5) (z := (0 : Int32)) X1 hx (hb hby at_4) rfl rfl ?_
  refine own_iloadN (n := 6) X1 hx (hb hby at_5) rfl rfl ?_
  refine own_S (n := 9) (argsL := [(.int p0)]) (rest := [(.int (0 : Int32)), (.ref b1), (.ref b1)]) X1 hx hZ hown (own_rmC l Z a0 hw p0 h1 n0 Z_2) (ww1 hw) (ww2 hw) (ww3 hw) (ww4 hw) (by decide) e1 (by rw [hml]; rfl) (lenOf own_pd0 rfl) rfl (hb hby at_6) (Nat.le_of_ble_eq_true rfl) (Nat.le_of_ble_eq_true rfl) (Nat.le_of_ble_eq_true rfl) (Nat.le_of_ble_eq_true rfl) rfl ?_
  rintro v3 T3 L3 X3 ⟨z3, rfl, Nq3, eq3⟩
  have N3 := Fr.app N0 Nq3
  change own_G p e below _ _ (mkF m 9 _ [(.int z3), (.int (0 : Int32)), (.ref b1), (.ref b1)])
  refine own_st_castore (n := 10) X3 hx hZ eq3 V1 ⟨by decide, by decide⟩ 0 rfl (Nat.le_of_ble_eq_true rfl) (hb hby at_9) rfl ?_
  intro T4 h4 X4 e4 W4 V4q
  have V4 : Arv Z h4 b1 k1 .char (5 : Int32) [(.int (nar .char z3)), (.int (0 : Int32)), (.int (0 : Int32)), (.int (0 : Int32)), (.int (0 : Int32))] (.int (0 : Int32)) := V4q
  have N4 := Fr.snoc X4 N3 g_b1
  have Z_5 : n0 ≤ h4.size := by rw [W4.size]; exact Z_2
  refine own_dup (n := 11) X4 hx (hb hby at_10) rfl rfl ?_
  refine own_iconst (n := 12) (z := (1 : Int32)) X4 hx (hb hby at_11) rfl rfl ?_
  refine own_iloadN (n := 13) X4 hx (hb hby at_12) rfl rfl ?_
  refine own_S (n := 16) (argsL := [(.int p1)]) (rest := [(.int (1 : Int32)), (.ref b1), (.ref b1)]) X4 hx hZ hown (own_rmC l Z a0 hw p1 h4 n0 Z_5) (ww1 hw) (ww2 hw) (ww3 hw) (ww4 hw) (by decide) e4 (by rw [hml]; rfl) (lenOf own_pd0 rfl) rfl (hb hby at_13) (Nat.le_of_ble_eq_true rfl) (Nat.le_of_ble_eq_true rfl) (Nat.le_of_ble_eq_true rfl) (Nat.le_of_ble_eq_true rfl) rfl ?_
  rintro v6 T6 L6 X6 ⟨z6, rfl, Nq6, eq6⟩
  have N6 := Fr.app N4 Nq6
  change own_G p e below _ _ (mkF m 16 _ [(.int z6), (.int (1 : Int32)), (.ref b1), (.ref b1)])
  refine own_st_castore (n := 17) X6 hx hZ eq6 V4 ⟨by decide, by decide⟩ 1 rfl (Nat.le_of_ble_eq_true rfl) (hb hby at_16) rfl ?_
  intro T7 h7 X7 e7 W7 V7q
  have V7 : Arv Z h7 b1 k1 .char (5 : Int32) [(.int (nar .char z3)), (.int (nar .char z6)), (.int (0 : Int32)), (.int (0 : Int32)), (.int (0 : Int32))] (.int (0 : Int32)) := V7q
  have N7 := Fr.snoc X7 N6 g_b1
  have Z_8 : n0 ≤ h7.size := by rw [W7.size]; exact Z_5
  refine own_dup (n := 18) X7 hx (hb hby at_17) rfl rfl ?_
  refine own_iconst (n := 19) (z := (2 : Int32)) X7 hx (hb hby at_18) rfl rfl ?_
  refine own_iloadN (n := 20) X7 hx (hb hby at_19) rfl rfl ?_
  refine own_S (n := 23) (argsL := [(.int p2)]) (rest := [(.int (2 : Int32)), (.ref b1), (.ref b1)]) X7 hx hZ hown (own_rmC l Z a0 hw p2 h7 n0 Z_8) (ww1 hw) (ww2 hw) (ww3 hw) (ww4 hw) (by decide) e7 (by rw [hml]; rfl) (lenOf own_pd0 rfl) rfl (hb hby at_20) (Nat.le_of_ble_eq_true rfl) (Nat.le_of_ble_eq_true rfl) (Nat.le_of_ble_eq_true rfl) (Nat.le_of_ble_eq_true rfl) rfl ?_
  rintro v9 T9 L9 X9 ⟨z9, rfl, Nq9, eq9⟩
  have N9 := Fr.app N7 Nq9
  change own_G p e below _ _ (mkF m 23 _ [(.int z9), (.int (2 : Int32)), (.ref b1), (.ref b1)])
  refine own_st_castore (n := 24) X9 hx hZ eq9 V7 ⟨by decide, by decide⟩ 2 rfl (Nat.le_of_ble_eq_true rfl) (hb hby at_23) rfl ?_
  intro T10 h10 X10 e10 W10 V10q
  have V10 : Arv Z h10 b1 k1 .char (5 : Int32) [(.int (nar .char z3)), (.int (nar .char z6)), (.int (nar .char z9)), (.int (0 : Int32)), (.int (0 : Int32))] (.int (0 : Int32)) := V10q
  have N10 := Fr.snoc X10 N9 g_b1
  have Z_11 : n0 ≤ h10.size := by rw [W10.size]; exact Z_8
  refine own_dup (n := 25) X10 hx (hb hby at_24) rfl rfl ?_
  refine own_iconst (n := 26) (z := (3 : Int32)) X10 hx (hb hby at_25) rfl rfl ?_
  refine own_iloadN (n := 27) X10 hx (hb hby at_26) rfl rfl ?_
  refine own_S (n := 30) (argsL := [(.int p3)]) (rest := [(.int (3 : Int32)), (.ref b1), (.ref b1)]) X10 hx hZ hown (own_rmC l Z a0 hw p3 h10 n0 Z_11) (ww1 hw) (ww2 hw) (ww3 hw) (ww4 hw) (by decide) e10 (by rw [hml]; rfl) (lenOf own_pd0 rfl) rfl (hb hby at_27) (Nat.le_of_ble_eq_true rfl) (Nat.le_of_ble_eq_true rfl) (Nat.le_of_ble_eq_true rfl) (Nat.le_of_ble_eq_true rfl) rfl ?_
  rintro v12 T12 L12 X12 ⟨z12, rfl, Nq12, eq12⟩
  have N12 := Fr.app N10 Nq12
  change own_G p e below _ _ (mkF m 30 _ [(.int z12), (.int (3 : Int32)), (.ref b1), (.ref b1)])
  refine own_st_castore (n := 31) X12 hx hZ eq12 V10 ⟨by decide, by decide⟩ 3 rfl (Nat.le_of_ble_eq_true rfl) (hb hby at_30) rfl ?_
  intro T13 h13 X13 e13 W13 V13q
  have V13 : Arv Z h13 b1 k1 .char (5 : Int32) [(.int (nar .char z3)), (.int (nar .char z6)), (.int (nar .char z9)), (.int (nar .char z12)), (.int (0 : Int32))] (.int (0 : Int32)) := V13q
  have N13 := Fr.snoc X13 N12 g_b1
  have Z_14 : n0 ≤ h13.size := by rw [W13.size]; exact Z_11
  refine own_dup (n := 32) X13 hx (hb hby at_31) rfl rfl ?_
  refine own_iconst (n := 33) (z := (4 : Int32)) X13 hx (hb hby at_32) rfl rfl ?_
  refine own_iload (n := 35) X13 hx (hb hby at_33) rfl rfl ?_
  refine own_S (n := 38) (argsL := [(.int p4)]) (rest := [(.int (4 : Int32)), (.ref b1), (.ref b1)]) X13 hx hZ hown (own_rmC l Z a0 hw p4 h13 n0 Z_14) (ww1 hw) (ww2 hw) (ww3 hw) (ww4 hw) (by decide) e13 (by rw [hml]; rfl) (lenOf own_pd0 rfl) rfl (hb hby at_35) (Nat.le_of_ble_eq_true rfl) (Nat.le_of_ble_eq_true rfl) (Nat.le_of_ble_eq_true rfl) (Nat.le_of_ble_eq_true rfl) rfl ?_
  rintro v15 T15 L15 X15 ⟨z15, rfl, Nq15, eq15⟩
  have N15 := Fr.app N13 Nq15
  change own_G p e below _ _ (mkF m 38 _ [(.int z15), (.int (4 : Int32)), (.ref b1), (.ref b1)])
  refine own_st_castore (n := 39) X15 hx hZ eq15 V13 ⟨by decide, by decide⟩ 4 rfl (Nat.le_of_ble_eq_true rfl) (hb hby at_38) rfl ?_
  intro T16 h16 X16 e16 W16 V16q
  have V16 : Arv Z h16 b1 k1 .char (5 : Int32) [(.int (nar .char z3)), (.int (nar .char z6)), (.int (nar .char z9)), (.int (nar .char z12)), (.int (nar .char z15))] (.int (0 : Int32)) := V16q
  have N16 := Fr.snoc X16 N15 g_b1
  have Z_17 : n0 ≤ h16.size := by rw [W16.size]; exact Z_14
  refine own_astore (n := 41) (l' := #[.val (.int p0), .val (.int p1), .val (.int p2), .val (.int p3), .val (.int p4), .val (.int p5), .val (.ref b1), .unset, .unset, .unset, .unset, .unset, .unset, .unset, .unset, .unset]) X16 hx (hb hby at_39) rfl rfl rfl ?_
  refine own_iload (n := 43) X16 hx (hb hby at_41) rfl rfl ?_
  refine own_iconst (n := 44) (z := (3 : Int32)) X16 hx (hb hby at_43) rfl rfl ?_
  refine own_iand (n := 45) X16 hx (hb hby at_44) rfl rfl ?_
  refine own_istore (n := 47) (l' := #[.val (.int p0), .val (.int p1), .val (.int p2), .val (.int p3), .val (.int p4), .val (.int p5), .val (.ref b1), .val (.int (p5 &&& (3 : Int32))), .unset, .unset, .unset, .unset, .unset, .unset, .unset, .unset]) X16 hx (hb hby at_45) rfl rfl ?_
  rcases own_and3 p5 with hs | hs | hs | hs
  · rw [hs]
    refine own_iload (n := 49) X16 hx (hb hby at_47) rfl rfl ?_
    refine own_ifNo (n := 52) X16 hx (hb hby at_49) (teq (by decide : (0 : Int32) = (0 : Int32))).2 rfl ?_
    refine own_iconst (n := 53) (z := (0 : Int32)) X16 hx (hb hby at_52) rfl rfl ?_
    refine own_goto (n := 60) X16 hx (hb hby at_53) (by decide) (by decide) ?_
    refine own_istore (n := 62) (l' := #[.val (.int p0), .val (.int p1), .val (.int p2), .val (.int p3), .val (.int p4), .val (.int p5), .val (.ref b1), .val (.int (0 : Int32)), .val (.int (0 : Int32)), .unset, .unset, .unset, .unset, .unset, .unset, .unset]) X16 hx (hb hby at_60) rfl rfl ?_
    refine own_new (n := 65) X16 hx hZ hown (ww5 hw) (ww6 hw) (ww7 hw) e16 (hb hby at_62) (by decide) (by decide) rfl ?_
    intro T18 h18 b18 g18 X18 e18 E18 A18 D18
    have g_b18 : n0 ≤ b18 := Nat.le_trans Z_17 (Nat.le_of_eq g18.symm)
    have ne_b1_b18 : b1 ≠ b18 := own_ne V16.lt g18
    have A_19 := V16.ext E18
    have Z_20 : n0 ≤ h18.size := Nat.le_trans Z_17 E18.1
    have F_21 : Fld Z h18 b18 "com/example/xml_stream_transform/xmlstreamtransform/output/CdataSplitter" "brackets" "I" (.int (0 : Int32)) := D18 (Or.inl (ww20 hw)) (ty := .int) (by decide)
    refine own_dup (n := 66) X18 hx (hb hby at_65) rfl rfl ?_
    refine own_I (n := 69) (argsL := []) (rest := [(.ref b18)]) (a := b18) (by rfl) X18 hx hZ hown (own_rmI l Z a0 hw b18 h18 n0 Z_20) (ww8 hw) (ww9 hw) (ww7 hw) (ww10 hw) (by decide) e18 (by rw [hml]; rfl) (lenOf own_pd1 rfl) rfl (hb hby at_66) (Nat.le_of_ble_eq_true rfl) (Nat.le_of_ble_eq_true rfl) (Nat.le_of_ble_eq_true rfl) (Nat.le_of_ble_eq_true rfl) rfl ?_
    rintro v22 T22 L22 X22 ⟨rfl, Nq22, eq22⟩
    have N22 := Fr.app N16 Nq22
    change own_G p e below _ _ (mkF m 69 _ [(.ref b18)])
    refine own_astore (n := 71) (l' := #[.val (.int p0), .val (.int p1), .val (.int p2), .val (.int p3), .val (.int p4), .val (.int p5), .val (.ref b1), .val (.int (0 : Int32)), .val (.int (0 : Int32)), .val (.ref b18), .unset, .unset, .unset, .unset, .unset, .unset]) X22 hx (hb hby at_69) rfl rfl rfl ?_
    refine own_iconst (n := 72) (z := (1 : Int32)) X22 hx (hb hby at_71) rfl rfl ?_
    refine own_istore (n := 74) (l' := #[.val (.int p0), .val (.int p1), .val (.int p2), .val (.int p3), .val (.int p4), .val (.int p5), .val (.ref b1), .val (.int (0 : Int32)), .val (.int (0 : Int32)), .val (.ref b18), .val (.int (1 : Int32)), .unset, .unset, .unset, .unset, .unset]) X22 hx (hb hby at_72) rfl rfl ?_
    refine own_aload (n := 76) X22 hx (hb hby at_74) rfl rfl rfl ?_
    refine own_aload (n := 78) X22 hx (hb hby at_76) rfl rfl rfl ?_
    refine own_iconst (n := 79) (z := (0 : Int32)) X22 hx (hb hby at_78) rfl rfl ?_
    refine own_ld_caload (n := 80) (v := (.int (nar .char z3))) X22 hx hZ eq22 A_19 ⟨by decide, by decide⟩ rfl (hb hby at_79) rfl ?_
    refine own_V (n := 83) (argsL := [(.int (nar .char z3))]) (rest := []) (a := b18) X22 hx hZ hown (own_rmS l Z a0 hw b18 (nar .char z3) (0 : Int32) h18 n0 Z_20 A18 F_21 g_b18) (ww14 hw) (ww15 hw) (notFace_of_selects (args := #[]) (mvT hZ (ww17 hw))) (ww17 hw) (ww16 hw) (ww7 hw) (ww18 hw) (by decide) eq22 A18 (by rw [hml]; rfl) (lenOf own_pd2 rfl) rfl (hb hby at_80) (Nat.le_of_ble_eq_true rfl) (Nat.le_of_ble_eq_true rfl) (Nat.le_of_ble_eq_true rfl) (Nat.le_of_ble_eq_true rfl) rfl ?_
    rintro v23 T23 L23 X23 ⟨rfl, Nq23, K23, Eq23, Fq23⟩
    have N23 := Fr.app N22 Nq23
    have A_24 := A_19.keep K23 (by simp [ne_b1_b18])
    have E_25 := A18.keep K23
    have Z_26 : n0 ≤ T23.heap.size := Nat.le_trans Z_20 K23.1
    change own_G p e below _ _ (mkF m 83 _ [(.int (own_spl (nar .char z3) (0 : Int32)))])
    refine own_istore (n := 85) (l' := #[.val (.int p0), .val (.int p1), .val (.int p2), .val (.int p3), .val (.int p4), .val (.int p5), .val (.ref b1), .val (.int (0 : Int32)), .val (.int (0 : Int32)), .val (.ref b18), .val (.int (1 : Int32)), .val (.int (own_spl (nar .char z3) (0 : Int32))), .unset, .unset, .unset, .unset]) X23 hx (hb hby at_83) rfl rfl ?_
    refine own_iload (n := 87) X23 hx (hb hby at_85) rfl rfl ?_
    refine own_ifNo (n := 90) X23 hx (hb hby at_87) (feq (by decide : ¬ ((1 : Int32) = (0 : Int32)))).1 rfl ?_
    refine own_iload (n := 92) X23 hx (hb hby at_90) rfl rfl ?_
    refine own_aload (n := 94) X23 hx (hb hby at_92) rfl rfl rfl ?_
    refine own_iconst (n := 95) (z := (0 : Int32)) X23 hx (hb hby at_94) rfl rfl ?_
    refine own_iconst (n := 96) (z := (0 : Int32)) X23 hx (hb hby at_95) rfl rfl ?_
    refine own_iload (n := 98) X23 hx (hb hby at_96) rfl rfl ?_
    refine own_S (n := 101) (argsL := [(.int (0 : Int32)), (.int (0 : Int32))]) (rest := [(.int (0 : Int32)), (.ref b1), (.int (own_spl (nar .char z3) (0 : Int32)))]) X23 hx hZ hown (own_rmX_0_0 l Z a0 hw T23.heap n0 Z_26) (ww21 hw) (ww22 hw) (ww3 hw) (ww23 hw) (by decide) rfl (by rw [hml]; rfl) (lenOf own_pd3 rfl) rfl (hb hby at_98) (Nat.le_of_ble_eq_true rfl) (Nat.le_of_ble_eq_true rfl) (Nat.le_of_ble_eq_true rfl) (Nat.le_of_ble_eq_true rfl) rfl ?_
    rintro v27 T27 L27 X27 ⟨rfl, Nq27, eq27⟩
    have N27 := Fr.app N23 Nq27
    change own_G p e below _ _ (mkF m 101 _ [(.int (0 : Int32)), (.int (0 : Int32)), (.ref b1), (.int (own_spl (nar .char z3) (0 : Int32)))])
    refine own_S (n := 104) (argsL := [(.ref b1), (.int (0 : Int32)), (.int (0 : Int32))]) (rest := [(.int (own_spl (nar .char z3) (0 : Int32)))]) X27 hx hZ hown (own_rmF_0_0 l Z a0 hw b1 k1 (nar .char z3) (nar .char z6) (nar .char z9) (nar .char z12) (nar .char z15) T23.heap n0 Z_26 A_24) (ww24 hw) (ww25 hw) (ww3 hw) (ww26 hw) (by decide) eq27 (by rw [hml]; rfl) (lenOf own_pd4 rfl) rfl (hb hby at_101) (Nat.le_of_ble_eq_true rfl) (Nat.le_of_ble_eq_true rfl) (Nat.le_of_ble_eq_true rfl) (Nat.le_of_ble_eq_true rfl) rfl ?_
    rintro v28 T28 L28 X28 ⟨rfl, Nq28, eq28⟩
    have N28 := Fr.app N27 Nq28
    change own_G p e below _ _ (mkF m 104 _ [(.int (0 : Int32)), (.int (own_spl (nar .char z3) (0 : Int32)))])
    refine own_icmpNo (n := 107) X28 hx (hb hby at_104) (teq (own_L0 _ : (own_spl (nar .char z3) (0 : Int32)) = (0 : Int32))).2 rfl ?_
    refine own_iconst (n := 108) (z := (1 : Int32)) X28 hx (hb hby at_107) rfl rfl ?_
    refine own_goto (n := 112) X28 hx (hb hby at_108) (by decide) (by decide) ?_
    refine own_istore (n := 114) (l' := #[.val (.int p0), .val (.int p1), .val (.int p2), .val (.int p3), .val (.int p4), .val (.int p5), .val (.ref b1), .val (.int (0 : Int32)), .val (.int (0 : Int32)), .val (.ref b18), .val (.int (1 : Int32)), .val (.int (own_spl (nar .char z3) (0 : Int32))), .unset, .unset, .unset, .unset]) X28 hx (hb hby at_112) rfl rfl ?_
    refine own_aload (n := 116) X28 hx (hb hby at_114) rfl rfl rfl ?_
    refine own_aload (n := 118) X28 hx (hb hby at_116) rfl rfl rfl ?_
    refine own_iconst (n := 119) (z := (1 : Int32)) X28 hx (hb hby at_118) rfl rfl ?_
    refine own_ld_caload (n := 120) (v := (.int (nar .char z6))) X28 hx hZ eq28 A_24 ⟨by decide, by decide⟩ rfl (hb hby at_119) rfl ?_
    refine own_V (n := 123) (argsL := [(.int (nar .char z6))]) (rest := []) (a := b18) X28 hx hZ hown (own_rmS l Z a0 hw b18 (nar .char z6) (own_nb (nar .char z3) (0 : Int32)) T23.heap n0 Z_26 E_25 Fq23 g_b18) (ww14 hw) (ww15 hw) (notFace_of_selects (args := #[]) (mvT hZ (ww17 hw))) (ww17 hw) (ww16 hw) (ww7 hw) (ww18 hw) (by decide) eq28 E_25 (by rw [hml]; rfl) (lenOf own_pd2 rfl) rfl (hb hby at_120) (Nat.le_of_ble_eq_true rfl) (Nat.le_of_ble_eq_true rfl) (Nat.le_of_ble_eq_true rfl) (Nat.le_of_ble_eq_true rfl) rfl ?_
    rintro v29 T29 L29 X29 ⟨rfl, Nq29, K29, Eq29, Fq29⟩
    have N29 := Fr.app N28 Nq29
    have A_30 := A_24.keep K29 (by simp [ne_b1_b18])
    have E_31 := E_25.keep K29
    have Z_32 : n0 ≤ T29.heap.size := Nat.le_trans Z_26 K29.1
    change own_G p e below _ _ (mkF m 123 _ [(.int (own_spl (nar .char z6) (own_nb (nar .char z3) (0 : Int32))))])
    refine own_istore (n := 125) (l' := #[.val (.int p0), .val (.int p1), .val (.int p2), .val (.int p3), .val (.int p4), .val (.int p5), .val (.ref b1), .val (.int (0 : Int32)), .val (.int (0 : Int32)), .val (.ref b18), .val (.int (1 : Int32)), .val (.int (own_spl (nar .char z3) (0 : Int32))), .val (.int (own_spl (nar .char z6) (own_nb (nar .char z3) (0 : Int32)))), .unset, .unset, .unset]) X29 hx (hb hby at_123) rfl rfl ?_
    refine own_iload (n := 127) X29 hx (hb hby at_125) rfl rfl ?_
    refine own_ifNo (n := 130) X29 hx (hb hby at_127) (feq (by decide : ¬ ((1 : Int32) = (0 : Int32)))).1 rfl ?_
    refine own_iload (n := 132) X29 hx (hb hby at_130) rfl rfl ?_
    refine own_aload (n := 134) X29 hx (hb hby at_132) rfl rfl rfl ?_
    refine own_iconst (n := 135) (z := (1 : Int32)) X29 hx (hb hby at_134) rfl rfl ?_
    refine own_iconst (n := 136) (z := (1 : Int32)) X29 hx (hb hby at_135) rfl rfl ?_
    refine own_iload (n := 138) X29 hx (hb hby at_136) rfl rfl ?_
    refine own_S (n := 141) (argsL := [(.int (1 : Int32)), (.int (0 : Int32))]) (rest := [(.int (1 : Int32)), (.ref b1), (.int (own_spl (nar .char z6) (own_nb (nar .char z3) (0 : Int32))))]) X29 hx hZ hown (own_rmX_1_0 l Z a0 hw T29.heap n0 Z_32) (ww21 hw) (ww22 hw) (ww3 hw) (ww23 hw) (by decide) rfl (by rw [hml]; rfl) (lenOf own_pd3 rfl) rfl (hb hby at_138) (Nat.le_of_ble_eq_true rfl) (Nat.le_of_ble_eq_true rfl) (Nat.le_of_ble_eq_true rfl) (Nat.le_of_ble_eq_true rfl) rfl ?_
    rintro v33 T33 L33 X33 ⟨rfl, Nq33, eq33⟩
    have N33 := Fr.app N29 Nq33
    change own_G p e below _ _ (mkF m 141 _ [(.int (0 : Int32)), (.int (1 : Int32)), (.ref b1), (.int (own_spl (nar .char z6) (own_nb (nar .char z3) (0 : Int32))))])
    refine own_S (n := 144) (argsL := [(.ref b1), (.int (1 : Int32)), (.int (0 : Int32))]) (rest := [(.int (own_spl (nar .char z6) (own_nb (nar .char z3) (0 : Int32))))]) X33 hx hZ hown (own_rmF_1_0 l Z a0 hw b1 k1 (nar .char z3) (nar .char z6) (nar .char z9) (nar .char z12) (nar .char z15) T29.heap n0 Z_32 A_30) (ww24 hw) (ww25 hw) (ww3 hw) (ww26 hw) (by decide) eq33 (by rw [hml]; rfl) (lenOf own_pd4 rfl) rfl (hb hby at_141) (Nat.le_of_ble_eq_true rfl) (Nat.le_of_ble_eq_true rfl) (Nat.le_of_ble_eq_true rfl) (Nat.le_of_ble_eq_true rfl) rfl ?_
    rintro v34 T34 L34 X34 ⟨rfl, Nq34, eq34⟩
    have N34 := Fr.app N33 Nq34
    change own_G p e below _ _ (mkF m 144 _ [(.int (0 : Int32)), (.int (own_spl (nar .char z6) (own_nb (nar .char z3) (0 : Int32))))])
    refine own_icmpNo (n := 147) X34 hx (hb hby at_144) (teq (own_L1 _ _ : (own_spl (nar .char z6) (own_nb (nar .char z3) (0 : Int32))) = (0 : Int32))).2 rfl ?_
    refine own_iconst (n := 148) (z := (1 : Int32)) X34 hx (hb hby at_147) rfl rfl ?_
    refine own_goto (n := 152) X34 hx (hb hby at_148) (by decide) (by decide) ?_
    refine own_istore (n := 154) (l' := #[.val (.int p0), .val (.int p1), .val (.int p2), .val (.int p3), .val (.int p4), .val (.int p5), .val (.ref b1), .val (.int (0 : Int32)), .val (.int (0 : Int32)), .val (.ref b18), .val (.int (1 : Int32)), .val (.int (own_spl (nar .char z3) (0 : Int32))), .val (.int (own_spl (nar .char z6) (own_nb (nar .char z3) (0 : Int32)))), .unset, .unset, .unset]) X34 hx (hb hby at_152) rfl rfl ?_
    refine own_iload (n := 156) X34 hx (hb hby at_154) rfl rfl ?_
    refine own_iconst (n := 157) (z := (2 : Int32)) X34 hx (hb hby at_156) rfl rfl ?_
    refine own_icmpYes (n := 165) X34 hx (hb hby at_157) (feq (by decide : ¬ ((0 : Int32) = (2 : Int32)))).2 (by decide) (by decide) ?_
    refine own_aload (n := 167) X34 hx (hb hby at_165) rfl rfl rfl ?_
    refine own_aload (n := 169) X34 hx (hb hby at_167) rfl rfl rfl ?_
    refine own_iconst (n := 170) (z := (2 : Int32)) X34 hx (hb hby at_169) rfl rfl ?_
    refine own_ld_caload (n := 171) (v := (.int (nar .char z9))) X34 hx hZ eq34 A_30 ⟨by decide, by decide⟩ rfl (hb hby at_170) rfl ?_
    refine own_V (n := 174) (argsL := [(.int (nar .char z9))]) (rest := []) (a := b18) X34 hx hZ hown (own_rmS l Z a0 hw b18 (nar .char z9) (own_nb (nar .char z6) (own_nb (nar .char z3) (0 : Int32))) T29.heap n0 Z_32 E_31 Fq29 g_b18) (ww14 hw) (ww15 hw) (notFace_of_selects (args := #[]) (mvT hZ (ww17 hw))) (ww17 hw) (ww16 hw) (ww7 hw) (ww18 hw) (by decide) eq34 E_31 (by rw [hml]; rfl) (lenOf own_pd2 rfl) rfl (hb hby at_171) (Nat.le_of_ble_eq_true rfl) (Nat.le_of_ble_eq_true rfl) (Nat.le_of_ble_eq_true rfl) (Nat.le_of_ble_eq_true rfl) rfl ?_
    rintro v35 T35 L35 X35 ⟨rfl, Nq35, K35, Eq35, Fq35⟩
    have N35 := Fr.app N34 Nq35
    have A_36 := A_30.keep K35 (by simp [ne_b1_b18])
    have E_37 := E_31.keep K35
    have Z_38 : n0 ≤ T35.heap.size := Nat.le_trans Z_32 K35.1
    change own_G p e below _ _ (mkF m 174 _ [(.int (own_spl (nar .char z9) (own_nb (nar .char z6) (own_nb (nar .char z3) (0 : Int32)))))])
    refine own_istore (n := 176) (l' := #[.val (.int p0), .val (.int p1), .val (.int p2), .val (.int p3), .val (.int p4), .val (.int p5), .val (.ref b1), .val (.int (0 : Int32)), .val (.int (0 : Int32)), .val (.ref b18), .val (.int (1 : Int32)), .val (.int (own_spl (nar .char z3) (0 : Int32))), .val (.int (own_spl (nar .char z6) (own_nb (nar .char z3) (0 : Int32)))), .val (.int (own_spl (nar .char z9) (own_nb (nar .char z6) (own_nb (nar .char z3) (0 : Int32))))), .unset, .unset]) X35 hx (hb hby at_174) rfl rfl ?_
    refine own_iload (n := 178) X35 hx (hb hby at_176) rfl rfl ?_
    refine own_ifNo (n := 181) X35 hx (hb hby at_178) (feq (by decide : ¬ ((1 : Int32) = (0 : Int32)))).1 rfl ?_
    refine own_iload (n := 183) X35 hx (hb hby at_181) rfl rfl ?_
    refine own_aload (n := 185) X35 hx (hb hby at_183) rfl rfl rfl ?_
    refine own_iconst (n := 186) (z := (2 : Int32)) X35 hx (hb hby at_185) rfl rfl ?_
    refine own_iconst (n := 187) (z := (2 : Int32)) X35 hx (hb hby at_186) rfl rfl ?_
    refine own_iload (n := 189) X35 hx (hb hby at_187) rfl rfl ?_
    refine own_S (n := 192) (argsL := [(.int (2 : Int32)), (.int (0 : Int32))]) (rest := [(.int (2 : Int32)), (.ref b1), (.int (own_spl (nar .char z9) (own_nb (nar .char z6) (own_nb (nar .char z3) (0 : Int32)))))]) X35 hx hZ hown (own_rmX_2_0 l Z a0 hw T35.heap n0 Z_38) (ww21 hw) (ww22 hw) (ww3 hw) (ww23 hw) (by decide) rfl (by rw [hml]; rfl) (lenOf own_pd3 rfl) rfl (hb hby at_189) (Nat.le_of_ble_eq_true rfl) (Nat.le_of_ble_eq_true rfl) (Nat.le_of_ble_eq_true rfl) (Nat.le_of_ble_eq_true rfl) rfl ?_
    rintro v39 T39 L39 X39 ⟨rfl, Nq39, eq39⟩
    have N39 := Fr.app N35 Nq39
    change own_G p e below _ _ (mkF m 192 _ [(.int (0 : Int32)), (.int (2 : Int32)), (.ref b1), (.int (own_spl (nar .char z9) (own_nb (nar .char z6) (own_nb (nar .char z3) (0 : Int32)))))])
    refine own_S (n := 195) (argsL := [(.ref b1), (.int (2 : Int32)), (.int (0 : Int32))]) (rest := [(.int (own_spl (nar .char z9) (own_nb (nar .char z6) (own_nb (nar .char z3) (0 : Int32)))))]) X39 hx hZ hown (own_rmF_2_0 l Z a0 hw b1 k1 (nar .char z3) (nar .char z6) (nar .char z9) (nar .char z12) (nar .char z15) T35.heap n0 Z_38 A_36) (ww24 hw) (ww25 hw) (ww3 hw) (ww26 hw) (by decide) eq39 (by rw [hml]; rfl) (lenOf own_pd4 rfl) rfl (hb hby at_192) (Nat.le_of_ble_eq_true rfl) (Nat.le_of_ble_eq_true rfl) (Nat.le_of_ble_eq_true rfl) (Nat.le_of_ble_eq_true rfl) rfl ?_
    rintro v40 T40 L40 X40 ⟨rfl, Nq40, eq40⟩
    have N40 := Fr.app N39 Nq40
    change own_G p e below _ _ (mkF m 195 _ [(.int (own_r (nar .char z9) (nar .char z6) (nar .char z3))), (.int (own_spl (nar .char z9) (own_nb (nar .char z6) (own_nb (nar .char z3) (0 : Int32)))))])
    refine own_icmpNo (n := 198) X40 hx (hb hby at_195) (teq (own_L2a _ _ _ : (own_spl (nar .char z9) (own_nb (nar .char z6) (own_nb (nar .char z3) (0 : Int32)))) = (own_r (nar .char z9) (nar .char z6) (nar .char z3)))).2 rfl ?_
    refine own_iconst (n := 199) (z := (1 : Int32)) X40 hx (hb hby at_198) rfl rfl ?_
    refine own_goto (n := 203) X40 hx (hb hby at_199) (by decide) (by decide) ?_
    refine own_istore (n := 205) (l' := #[.val (.int p0), .val (.int p1), .val (.int p2), .val (.int p3), .val (.int p4), .val (.int p5), .val (.ref b1), .val (.int (0 : Int32)), .val (.int (0 : Int32)), .val (.ref b18), .val (.int (1 : Int32)), .val (.int (own_spl (nar .char z3) (0 : Int32))), .val (.int (own_spl (nar .char z6) (own_nb (nar .char z3) (0 : Int32)))), .val (.int (own_spl (nar .char z9) (own_nb (nar .char z6) (own_nb (nar .char z3) (0 : Int32))))), .unset, .unset]) X40 hx (hb hby at_203) rfl rfl ?_
    refine own_iload (n := 207) X40 hx (hb hby at_205) rfl rfl ?_
    refine own_iconst (n := 208) (z := (3 : Int32)) X40 hx (hb hby at_207) rfl rfl ?_
    refine own_icmpYes (n := 216) X40 hx (hb hby at_208) (feq (by decide : ¬ ((0 : Int32) = (3 : Int32)))).2 (by decide) (by decide) ?_
    refine own_aload (n := 218) X40 hx (hb hby at_216) rfl rfl rfl ?_
    refine own_aload (n := 220) X40 hx (hb hby at_218) rfl rfl rfl ?_
    refine own_iconst (n := 221) (z := (3 : Int32)) X40 hx (hb hby at_220) rfl rfl ?_
    refine own_ld_caload (n := 222) (v := (.int (nar .char z12))) X40 hx hZ eq40 A_36 ⟨by decide, by decide⟩ rfl (hb hby at_221) rfl ?_
    refine own_V (n := 225) (argsL := [(.int (nar .char z12))]) (rest := []) (a := b18) X40 hx hZ hown (own_rmS l Z a0 hw b18 (nar .char z12) (own_nb (nar .char z9) (own_nb (nar .char z6) (own_nb (nar .char z3) (0 : Int32)))) T35.heap n0 Z_38 E_37 Fq35 g_b18) (ww14 hw) (ww15 hw) (notFace_of_selects (args := #[]) (mvT hZ (ww17 hw))) (ww17 hw) (ww16 hw) (ww7 hw) (ww18 hw) (by decide) eq40 E_37 (by rw [hml]; rfl) (lenOf own_pd2 rfl) rfl (hb hby at_222) (Nat.le_of_ble_eq_true rfl) (Nat.le_of_ble_eq_true rfl) (Nat.le_of_ble_eq_true rfl) (Nat.le_of_ble_eq_true rfl) rfl ?_
    rintro v41 T41 L41 X41 ⟨rfl, Nq41, K41, Eq41, Fq41⟩
    have N41 := Fr.app N40 Nq41
    have A_42 := A_36.keep K41 (by simp [ne_b1_b18])
    have E_43 := E_37.keep K41
    have Z_44 : n0 ≤ T41.heap.size := Nat.le_trans Z_38 K41.1
    change own_G p e below _ _ (mkF m 225 _ [(.int (own_spl (nar .char z12) (own_nb (nar .char z9) (own_nb (nar .char z6) (own_nb (nar .char z3) (0 : Int32))))))])
    refine own_istore (n := 227) (l' := #[.val (.int p0), .val (.int p1), .val (.int p2), .val (.int p3), .val (.int p4), .val (.int p5), .val (.ref b1), .val (.int (0 : Int32)), .val (.int (0 : Int32)), .val (.ref b18), .val (.int (1 : Int32)), .val (.int (own_spl (nar .char z3) (0 : Int32))), .val (.int (own_spl (nar .char z6) (own_nb (nar .char z3) (0 : Int32)))), .val (.int (own_spl (nar .char z9) (own_nb (nar .char z6) (own_nb (nar .char z3) (0 : Int32))))), .val (.int (own_spl (nar .char z12) (own_nb (nar .char z9) (own_nb (nar .char z6) (own_nb (nar .char z3) (0 : Int32)))))), .unset]) X41 hx (hb hby at_225) rfl rfl ?_
    refine own_iload (n := 229) X41 hx (hb hby at_227) rfl rfl ?_
    refine own_ifNo (n := 232) X41 hx (hb hby at_229) (feq (by decide : ¬ ((1 : Int32) = (0 : Int32)))).1 rfl ?_
    refine own_iload (n := 234) X41 hx (hb hby at_232) rfl rfl ?_
    refine own_aload (n := 236) X41 hx (hb hby at_234) rfl rfl rfl ?_
    refine own_iconst (n := 237) (z := (3 : Int32)) X41 hx (hb hby at_236) rfl rfl ?_
    refine own_iconst (n := 238) (z := (3 : Int32)) X41 hx (hb hby at_237) rfl rfl ?_
    refine own_iload (n := 240) X41 hx (hb hby at_238) rfl rfl ?_
    refine own_S (n := 243) (argsL := [(.int (3 : Int32)), (.int (0 : Int32))]) (rest := [(.int (3 : Int32)), (.ref b1), (.int (own_spl (nar .char z12) (own_nb (nar .char z9) (own_nb (nar .char z6) (own_nb (nar .char z3) (0 : Int32))))))]) X41 hx hZ hown (own_rmX_3_0 l Z a0 hw T41.heap n0 Z_44) (ww21 hw) (ww22 hw) (ww3 hw) (ww23 hw) (by decide) rfl (by rw [hml]; rfl) (lenOf own_pd3 rfl) rfl (hb hby at_240) (Nat.le_of_ble_eq_true rfl) (Nat.le_of_ble_eq_true rfl) (Nat.le_of_ble_eq_true rfl) (Nat.le_of_ble_eq_true rfl) rfl ?_
    rintro v45 T45 L45 X45 ⟨rfl, Nq45, eq45⟩
    have N45 := Fr.app N41 Nq45
    change own_G p e below _ _ (mkF m 243 _ [(.int (0 : Int32)), (.int (3 : Int32)), (.ref b1), (.int (own_spl (nar .char z12) (own_nb (nar .char z9) (own_nb (nar .char z6) (own_nb (nar .char z3) (0 : Int32))))))])
    refine own_S (n := 246) (argsL := [(.ref b1), (.int (3 : Int32)), (.int (0 : Int32))]) (rest := [(.int (own_spl (nar .char z12) (own_nb (nar .char z9) (own_nb (nar .char z6) (own_nb (nar .char z3) (0 : Int32))))))]) X45 hx hZ hown (own_rmF_3_0 l Z a0 hw b1 k1 (nar .char z3) (nar .char z6) (nar .char z9) (nar .char z12) (nar .char z15) T41.heap n0 Z_44 A_42) (ww24 hw) (ww25 hw) (ww3 hw) (ww26 hw) (by decide) eq45 (by rw [hml]; rfl) (lenOf own_pd4 rfl) rfl (hb hby at_243) (Nat.le_of_ble_eq_true rfl) (Nat.le_of_ble_eq_true rfl) (Nat.le_of_ble_eq_true rfl) (Nat.le_of_ble_eq_true rfl) rfl ?_
    rintro v46 T46 L46 X46 ⟨rfl, Nq46, eq46⟩
    have N46 := Fr.app N45 Nq46
    change own_G p e below _ _ (mkF m 246 _ [(.int (own_r (nar .char z12) (nar .char z9) (nar .char z6))), (.int (own_spl (nar .char z12) (own_nb (nar .char z9) (own_nb (nar .char z6) (own_nb (nar .char z3) (0 : Int32))))))])
    refine own_icmpNo (n := 249) X46 hx (hb hby at_246) (teq (own_L2b _ _ _ _ : (own_spl (nar .char z12) (own_nb (nar .char z9) (own_nb (nar .char z6) (own_nb (nar .char z3) (0 : Int32))))) = (own_r (nar .char z12) (nar .char z9) (nar .char z6)))).2 rfl ?_
    refine own_iconst (n := 250) (z := (1 : Int32)) X46 hx (hb hby at_249) rfl rfl ?_
    refine own_goto (n := 254) X46 hx (hb hby at_250) (by decide) (by decide) ?_
    refine own_istore (n := 256) (l' := #[.val (.int p0), .val (.int p1), .val (.int p2), .val (.int p3), .val (.int p4), .val (.int p5), .val (.ref b1), .val (.int (0 : Int32)), .val (.int (0 : Int32)), .val (.ref b18), .val (.int (1 : Int32)), .val (.int (own_spl (nar .char z3) (0 : Int32))), .val (.int (own_spl (nar .char z6) (own_nb (nar .char z3) (0 : Int32)))), .val (.int (own_spl (nar .char z9) (own_nb (nar .char z6) (own_nb (nar .char z3) (0 : Int32))))), .val (.int (own_spl (nar .char z12) (own_nb (nar .char z9) (own_nb (nar .char z6) (own_nb (nar .char z3) (0 : Int32)))))), .unset]) X46 hx (hb hby at_254) rfl rfl ?_
    refine own_iload (n := 258) X46 hx (hb hby at_256) rfl rfl ?_
    refine own_iconst (n := 259) (z := (4 : Int32)) X46 hx (hb hby at_258) rfl rfl ?_
    refine own_icmpYes (n := 267) X46 hx (hb hby at_259) (feq (by decide : ¬ ((0 : Int32) = (4 : Int32)))).2 (by decide) (by decide) ?_
    refine own_aload (n := 269) X46 hx (hb hby at_267) rfl rfl rfl ?_
    refine own_aload (n := 271) X46 hx (hb hby at_269) rfl rfl rfl ?_
    refine own_iconst (n := 272) (z := (4 : Int32)) X46 hx (hb hby at_271) rfl rfl ?_
    refine own_ld_caload (n := 273) (v := (.int (nar .char z15))) X46 hx hZ eq46 A_42 ⟨by decide, by decide⟩ rfl (hb hby at_272) rfl ?_
    refine own_V (n := 276) (argsL := [(.int (nar .char z15))]) (rest := []) (a := b18) X46 hx hZ hown (own_rmS l Z a0 hw b18 (nar .char z15) (own_nb (nar .char z12) (own_nb (nar .char z9) (own_nb (nar .char z6) (own_nb (nar .char z3) (0 : Int32))))) T41.heap n0 Z_44 E_43 Fq41 g_b18) (ww14 hw) (ww15 hw) (notFace_of_selects (args := #[]) (mvT hZ (ww17 hw))) (ww17 hw) (ww16 hw) (ww7 hw) (ww18 hw) (by decide) eq46 E_43 (by rw [hml]; rfl) (lenOf own_pd2 rfl) rfl (hb hby at_273) (Nat.le_of_ble_eq_true rfl) (Nat.le_of_ble_eq_true rfl) (Nat.le_of_ble_eq_true rfl) (Nat.le_of_ble_eq_true rfl) rfl ?_
    rintro v47 T47 L47 X47 ⟨rfl, Nq47, K47, Eq47, Fq47⟩
    have N47 := Fr.app N46 Nq47
    have A_48 := A_42.keep K47 (by simp [ne_b1_b18])
    have E_49 := E_43.keep K47
    have Z_50 : n0 ≤ T47.heap.size := Nat.le_trans Z_44 K47.1
    change own_G p e below _ _ (mkF m 276 _ [(.int (own_spl (nar .char z15) (own_nb (nar .char z12) (own_nb (nar .char z9) (own_nb (nar .char z6) (own_nb (nar .char z3) (0 : Int32)))))))])
    refine own_istore (n := 278) (l' := #[.val (.int p0), .val (.int p1), .val (.int p2), .val (.int p3), .val (.int p4), .val (.int p5), .val (.ref b1), .val (.int (0 : Int32)), .val (.int (0 : Int32)), .val (.ref b18), .val (.int (1 : Int32)), .val (.int (own_spl (nar .char z3) (0 : Int32))), .val (.int (own_spl (nar .char z6) (own_nb (nar .char z3) (0 : Int32)))), .val (.int (own_spl (nar .char z9) (own_nb (nar .char z6) (own_nb (nar .char z3) (0 : Int32))))), .val (.int (own_spl (nar .char z12) (own_nb (nar .char z9) (own_nb (nar .char z6) (own_nb (nar .char z3) (0 : Int32)))))), .val (.int (own_spl (nar .char z15) (own_nb (nar .char z12) (own_nb (nar .char z9) (own_nb (nar .char z6) (own_nb (nar .char z3) (0 : Int32)))))))]) X47 hx (hb hby at_276) rfl rfl ?_
    refine own_iload (n := 280) X47 hx (hb hby at_278) rfl rfl ?_
    refine own_ifNo (n := 283) X47 hx (hb hby at_280) (feq (by decide : ¬ ((1 : Int32) = (0 : Int32)))).1 rfl ?_
    refine own_iload (n := 285) X47 hx (hb hby at_283) rfl rfl ?_
    refine own_aload (n := 287) X47 hx (hb hby at_285) rfl rfl rfl ?_
    refine own_iconst (n := 288) (z := (4 : Int32)) X47 hx (hb hby at_287) rfl rfl ?_
    refine own_iconst (n := 289) (z := (4 : Int32)) X47 hx (hb hby at_288) rfl rfl ?_
    refine own_iload (n := 291) X47 hx (hb hby at_289) rfl rfl ?_
    refine own_S (n := 294) (argsL := [(.int (4 : Int32)), (.int (0 : Int32))]) (rest := [(.int (4 : Int32)), (.ref b1), (.int (own_spl (nar .char z15) (own_nb (nar .char z12) (own_nb (nar .char z9) (own_nb (nar .char z6) (own_nb (nar .char z3) (0 : Int32)))))))]) X47 hx hZ hown (own_rmX_4_0 l Z a0 hw T47.heap n0 Z_50) (ww21 hw) (ww22 hw) (ww3 hw) (ww23 hw) (by decide) rfl (by rw [hml]; rfl) (lenOf own_pd3 rfl) rfl (hb hby at_291) (Nat.le_of_ble_eq_true rfl) (Nat.le_of_ble_eq_true rfl) (Nat.le_of_ble_eq_true rfl) (Nat.le_of_ble_eq_true rfl) rfl ?_
    rintro v51 T51 L51 X51 ⟨rfl, Nq51, eq51⟩
    have N51 := Fr.app N47 Nq51
    change own_G p e below _ _ (mkF m 294 _ [(.int (0 : Int32)), (.int (4 : Int32)), (.ref b1), (.int (own_spl (nar .char z15) (own_nb (nar .char z12) (own_nb (nar .char z9) (own_nb (nar .char z6) (own_nb (nar .char z3) (0 : Int32)))))))])
    refine own_S (n := 297) (argsL := [(.ref b1), (.int (4 : Int32)), (.int (0 : Int32))]) (rest := [(.int (own_spl (nar .char z15) (own_nb (nar .char z12) (own_nb (nar .char z9) (own_nb (nar .char z6) (own_nb (nar .char z3) (0 : Int32)))))))]) X51 hx hZ hown (own_rmF_4_0 l Z a0 hw b1 k1 (nar .char z3) (nar .char z6) (nar .char z9) (nar .char z12) (nar .char z15) T47.heap n0 Z_50 A_48) (ww24 hw) (ww25 hw) (ww3 hw) (ww26 hw) (by decide) eq51 (by rw [hml]; rfl) (lenOf own_pd4 rfl) rfl (hb hby at_294) (Nat.le_of_ble_eq_true rfl) (Nat.le_of_ble_eq_true rfl) (Nat.le_of_ble_eq_true rfl) (Nat.le_of_ble_eq_true rfl) rfl ?_
    rintro v52 T52 L52 X52 ⟨rfl, Nq52, eq52⟩
    have N52 := Fr.app N51 Nq52
    change own_G p e below _ _ (mkF m 297 _ [(.int (own_r (nar .char z15) (nar .char z12) (nar .char z9))), (.int (own_spl (nar .char z15) (own_nb (nar .char z12) (own_nb (nar .char z9) (own_nb (nar .char z6) (own_nb (nar .char z3) (0 : Int32)))))))])
    refine own_icmpNo (n := 300) X52 hx (hb hby at_297) (teq (own_L2c _ _ _ _ _ : (own_spl (nar .char z15) (own_nb (nar .char z12) (own_nb (nar .char z9) (own_nb (nar .char z6) (own_nb (nar .char z3) (0 : Int32)))))) = (own_r (nar .char z15) (nar .char z12) (nar .char z9)))).2 rfl ?_
    refine own_iconst (n := 301) (z := (1 : Int32)) X52 hx (hb hby at_300) rfl rfl ?_
    refine own_goto (n := 305) X52 hx (hb hby at_301) (by decide) (by decide) ?_
    refine own_istore (n := 307) (l' := #[.val (.int p0), .val (.int p1), .val (.int p2), .val (.int p3), .val (.int p4), .val (.int p5), .val (.ref b1), .val (.int (0 : Int32)), .val (.int (0 : Int32)), .val (.ref b18), .val (.int (1 : Int32)), .val (.int (own_spl (nar .char z3) (0 : Int32))), .val (.int (own_spl (nar .char z6) (own_nb (nar .char z3) (0 : Int32)))), .val (.int (own_spl (nar .char z9) (own_nb (nar .char z6) (own_nb (nar .char z3) (0 : Int32))))), .val (.int (own_spl (nar .char z12) (own_nb (nar .char z9) (own_nb (nar .char z6) (own_nb (nar .char z3) (0 : Int32)))))), .val (.int (own_spl (nar .char z15) (own_nb (nar .char z12) (own_nb (nar .char z9) (own_nb (nar .char z6) (own_nb (nar .char z3) (0 : Int32)))))))]) X52 hx (hb hby at_305) rfl rfl ?_
    refine own_iload (n := 309) X52 hx (hb hby at_307) rfl rfl ?_
    refine own_retZ X52 hx hlk hret (by simp) eq52 (w := (1 : Int32)) rfl (hb hby at_309) (by decide) (by decide) ?_
    exact ⟨rfl, N52⟩
  · rw [hs]
    refine own_iload (n := 49) X16 hx (hb hby at_47) rfl rfl ?_
    refine own_ifYes (n := 56) X16 hx (hb hby at_49) (feq (by decide : ¬ ((1 : Int32) = (0 : Int32)))).2 (by decide) (by decide) ?_
    refine own_iload (n := 58) X16 hx (hb hby at_56) rfl rfl ?_
    refine own_iconst (n := 59) (z := (1 : Int32)) X16 hx (hb hby at_58) rfl rfl ?_
    refine own_iadd (n := 60) (z := (2 : Int32)) X16 hx (hb hby at_59) rfl rfl ?_
    refine own_istore (n := 62) (l' := #[.val (.int p0), .val (.int p1), .val (.int p2), .val (.int p3), .val (.int p4), .val (.int p5), .val (.ref b1), .val (.int (1 : Int32)), .val (.int (2 : Int32)), .unset, .unset, .unset, .unset, .unset, .unset, .unset]) X16 hx (hb hby at_60) rfl rfl ?_
    refine own_new (n := 65) X16 hx hZ hown (ww5 hw) (ww6 hw) (ww7 hw) e16 (hb hby at_62) (by decide) (by decide) rfl ?_
    intro T53 h53 b53 g53 X53 e53 E53 A53 D53
    have g_b53 : n0 ≤ b53 := Nat.le_trans Z_17 (Nat.le_of_eq g53.symm)
    have ne_b1_b53 : b1 ≠ b53 := own_ne V16.lt g53
    have A_54 := V16.ext E53
    have Z_55 : n0 ≤ h53.size := Nat.le_trans Z_17 E53.1
    have F_56 : Fld Z h53 b53 "com/example/xml_stream_transform/xmlstreamtransform/output/CdataSplitter" "brackets" "I" (.int (0 : Int32)) := D53 (Or.inl (ww20 hw)) (ty := .int) (by decide)
    refine own_dup (n := 66) X53 hx (hb hby at_65) rfl rfl ?_
    refine own_I (n := 69) (argsL := []) (rest := [(.ref b53)]) (a := b53) (by rfl) X53 hx hZ hown (own_rmI l Z a0 hw b53 h53 n0 Z_55) (ww8 hw) (ww9 hw) (ww7 hw) (ww10 hw) (by decide) e53 (by rw [hml]; rfl) (lenOf own_pd1 rfl) rfl (hb hby at_66) (Nat.le_of_ble_eq_true rfl) (Nat.le_of_ble_eq_true rfl) (Nat.le_of_ble_eq_true rfl) (Nat.le_of_ble_eq_true rfl) rfl ?_
    rintro v57 T57 L57 X57 ⟨rfl, Nq57, eq57⟩
    have N57 := Fr.app N16 Nq57
    change own_G p e below _ _ (mkF m 69 _ [(.ref b53)])
    refine own_astore (n := 71) (l' := #[.val (.int p0), .val (.int p1), .val (.int p2), .val (.int p3), .val (.int p4), .val (.int p5), .val (.ref b1), .val (.int (1 : Int32)), .val (.int (2 : Int32)), .val (.ref b53), .unset, .unset, .unset, .unset, .unset, .unset]) X57 hx (hb hby at_69) rfl rfl rfl ?_
    refine own_iconst (n := 72) (z := (1 : Int32)) X57 hx (hb hby at_71) rfl rfl ?_
    refine own_istore (n := 74) (l' := #[.val (.int p0), .val (.int p1), .val (.int p2), .val (.int p3), .val (.int p4), .val (.int p5), .val (.ref b1), .val (.int (1 : Int32)), .val (.int (2 : Int32)), .val (.ref b53), .val (.int (1 : Int32)), .unset, .unset, .unset, .unset, .unset]) X57 hx (hb hby at_72) rfl rfl ?_
    refine own_aload (n := 76) X57 hx (hb hby at_74) rfl rfl rfl ?_
    refine own_aload (n := 78) X57 hx (hb hby at_76) rfl rfl rfl ?_
    refine own_iconst (n := 79) (z := (0 : Int32)) X57 hx (hb hby at_78) rfl rfl ?_
    refine own_ld_caload (n := 80) (v := (.int (nar .char z3))) X57 hx hZ eq57 A_54 ⟨by decide, by decide⟩ rfl (hb hby at_79) rfl ?_
    refine own_V (n := 83) (argsL := [(.int (nar .char z3))]) (rest := []) (a := b53) X57 hx hZ hown (own_rmS l Z a0 hw b53 (nar .char z3) (0 : Int32) h53 n0 Z_55 A53 F_56 g_b53) (ww14 hw) (ww15 hw) (notFace_of_selects (args := #[]) (mvT hZ (ww17 hw))) (ww17 hw) (ww16 hw) (ww7 hw) (ww18 hw) (by decide) eq57 A53 (by rw [hml]; rfl) (lenOf own_pd2 rfl) rfl (hb hby at_80) (Nat.le_of_ble_eq_true rfl) (Nat.le_of_ble_eq_true rfl) (Nat.le_of_ble_eq_true rfl) (Nat.le_of_ble_eq_true rfl) rfl ?_
    rintro v58 T58 L58 X58 ⟨rfl, Nq58, K58, Eq58, Fq58⟩
    have N58 := Fr.app N57 Nq58
    have A_59 := A_54.keep K58 (by simp [ne_b1_b53])
    have E_60 := A53.keep K58
    have Z_61 : n0 ≤ T58.heap.size := Nat.le_trans Z_55 K58.1
    change own_G p e below _ _ (mkF m 83 _ [(.int (own_spl (nar .char z3) (0 : Int32)))])
    refine own_istore (n := 85) (l' := #[.val (.int p0), .val (.int p1), .val (.int p2), .val (.int p3), .val (.int p4), .val (.int p5), .val (.ref b1), .val (.int (1 : Int32)), .val (.int (2 : Int32)), .val (.ref b53), .val (.int (1 : Int32)), .val (.int (own_spl (nar .char z3) (0 : Int32))), .unset, .unset, .unset, .unset]) X58 hx (hb hby at_83) rfl rfl ?_
    refine own_iload (n := 87) X58 hx (hb hby at_85) rfl rfl ?_
    refine own_ifNo (n := 90) X58 hx (hb hby at_87) (feq (by decide : ¬ ((1 : Int32) = (0 : Int32)))).1 rfl ?_
    refine own_iload (n := 92) X58 hx (hb hby at_90) rfl rfl ?_
    refine own_aload (n := 94) X58 hx (hb hby at_92) rfl rfl rfl ?_
    refine own_iconst (n := 95) (z := (0 : Int32)) X58 hx (hb hby at_94) rfl rfl ?_
    refine own_iconst (n := 96) (z := (0 : Int32)) X58 hx (hb hby at_95) rfl rfl ?_
    refine own_iload (n := 98) X58 hx (hb hby at_96) rfl rfl ?_
    refine own_S (n := 101) (argsL := [(.int (0 : Int32)), (.int (2 : Int32))]) (rest := [(.int (0 : Int32)), (.ref b1), (.int (own_spl (nar .char z3) (0 : Int32)))]) X58 hx hZ hown (own_rmX_0_2 l Z a0 hw T58.heap n0 Z_61) (ww21 hw) (ww22 hw) (ww3 hw) (ww23 hw) (by decide) rfl (by rw [hml]; rfl) (lenOf own_pd3 rfl) rfl (hb hby at_98) (Nat.le_of_ble_eq_true rfl) (Nat.le_of_ble_eq_true rfl) (Nat.le_of_ble_eq_true rfl) (Nat.le_of_ble_eq_true rfl) rfl ?_
    rintro v62 T62 L62 X62 ⟨rfl, Nq62, eq62⟩
    have N62 := Fr.app N58 Nq62
    change own_G p e below _ _ (mkF m 101 _ [(.int (0 : Int32)), (.int (0 : Int32)), (.ref b1), (.int (own_spl (nar .char z3) (0 : Int32)))])
    refine own_S (n := 104) (argsL := [(.ref b1), (.int (0 : Int32)), (.int (0 : Int32))]) (rest := [(.int (own_spl (nar .char z3) (0 : Int32)))]) X62 hx hZ hown (own_rmF_0_0 l Z a0 hw b1 k1 (nar .char z3) (nar .char z6) (nar .char z9) (nar .char z12) (nar .char z15) T58.heap n0 Z_61 A_59) (ww24 hw) (ww25 hw) (ww3 hw) (ww26 hw) (by decide) eq62 (by rw [hml]; rfl) (lenOf own_pd4 rfl) rfl (hb hby at_101) (Nat.le_of_ble_eq_true rfl) (Nat.le_of_ble_eq_true rfl) (Nat.le_of_ble_eq_true rfl) (Nat.le_of_ble_eq_true rfl) rfl ?_
    rintro v63 T63 L63 X63 ⟨rfl, Nq63, eq63⟩
    have N63 := Fr.app N62 Nq63
    change own_G p e below _ _ (mkF m 104 _ [(.int (0 : Int32)), (.int (own_spl (nar .char z3) (0 : Int32)))])
    refine own_icmpNo (n := 107) X63 hx (hb hby at_104) (teq (own_L0 _ : (own_spl (nar .char z3) (0 : Int32)) = (0 : Int32))).2 rfl ?_
    refine own_iconst (n := 108) (z := (1 : Int32)) X63 hx (hb hby at_107) rfl rfl ?_
    refine own_goto (n := 112) X63 hx (hb hby at_108) (by decide) (by decide) ?_
    refine own_istore (n := 114) (l' := #[.val (.int p0), .val (.int p1), .val (.int p2), .val (.int p3), .val (.int p4), .val (.int p5), .val (.ref b1), .val (.int (1 : Int32)), .val (.int (2 : Int32)), .val (.ref b53), .val (.int (1 : Int32)), .val (.int (own_spl (nar .char z3) (0 : Int32))), .unset, .unset, .unset, .unset]) X63 hx (hb hby at_112) rfl rfl ?_
    refine own_aload (n := 116) X63 hx (hb hby at_114) rfl rfl rfl ?_
    refine own_aload (n := 118) X63 hx (hb hby at_116) rfl rfl rfl ?_
    refine own_iconst (n := 119) (z := (1 : Int32)) X63 hx (hb hby at_118) rfl rfl ?_
    refine own_ld_caload (n := 120) (v := (.int (nar .char z6))) X63 hx hZ eq63 A_59 ⟨by decide, by decide⟩ rfl (hb hby at_119) rfl ?_
    refine own_V (n := 123) (argsL := [(.int (nar .char z6))]) (rest := []) (a := b53) X63 hx hZ hown (own_rmS l Z a0 hw b53 (nar .char z6) (own_nb (nar .char z3) (0 : Int32)) T58.heap n0 Z_61 E_60 Fq58 g_b53) (ww14 hw) (ww15 hw) (notFace_of_selects (args := #[]) (mvT hZ (ww17 hw))) (ww17 hw) (ww16 hw) (ww7 hw) (ww18 hw) (by decide) eq63 E_60 (by rw [hml]; rfl) (lenOf own_pd2 rfl) rfl (hb hby at_120) (Nat.le_of_ble_eq_true rfl) (Nat.le_of_ble_eq_true rfl) (Nat.le_of_ble_eq_true rfl) (Nat.le_of_ble_eq_true rfl) rfl ?_
    rintro v64 T64 L64 X64 ⟨rfl, Nq64, K64, Eq64, Fq64⟩
    have N64 := Fr.app N63 Nq64
    have A_65 := A_59.keep K64 (by simp [ne_b1_b53])
    have E_66 := E_60.keep K64
    have Z_67 : n0 ≤ T64.heap.size := Nat.le_trans Z_61 K64.1
    change own_G p e below _ _ (mkF m 123 _ [(.int (own_spl (nar .char z6) (own_nb (nar .char z3) (0 : Int32))))])
    refine own_istore (n := 125) (l' := #[.val (.int p0), .val (.int p1), .val (.int p2), .val (.int p3), .val (.int p4), .val (.int p5), .val (.ref b1), .val (.int (1 : Int32)), .val (.int (2 : Int32)), .val (.ref b53), .val (.int (1 : Int32)), .val (.int (own_spl (nar .char z3) (0 : Int32))), .val (.int (own_spl (nar .char z6) (own_nb (nar .char z3) (0 : Int32)))), .unset, .unset, .unset]) X64 hx (hb hby at_123) rfl rfl ?_
    refine own_iload (n := 127) X64 hx (hb hby at_125) rfl rfl ?_
    refine own_ifNo (n := 130) X64 hx (hb hby at_127) (feq (by decide : ¬ ((1 : Int32) = (0 : Int32)))).1 rfl ?_
    refine own_iload (n := 132) X64 hx (hb hby at_130) rfl rfl ?_
    refine own_aload (n := 134) X64 hx (hb hby at_132) rfl rfl rfl ?_
    refine own_iconst (n := 135) (z := (1 : Int32)) X64 hx (hb hby at_134) rfl rfl ?_
    refine own_iconst (n := 136) (z := (1 : Int32)) X64 hx (hb hby at_135) rfl rfl ?_
    refine own_iload (n := 138) X64 hx (hb hby at_136) rfl rfl ?_
    refine own_S (n := 141) (argsL := [(.int (1 : Int32)), (.int (2 : Int32))]) (rest := [(.int (1 : Int32)), (.ref b1), (.int (own_spl (nar .char z6) (own_nb (nar .char z3) (0 : Int32))))]) X64 hx hZ hown (own_rmX_1_2 l Z a0 hw T64.heap n0 Z_67) (ww21 hw) (ww22 hw) (ww3 hw) (ww23 hw) (by decide) rfl (by rw [hml]; rfl) (lenOf own_pd3 rfl) rfl (hb hby at_138) (Nat.le_of_ble_eq_true rfl) (Nat.le_of_ble_eq_true rfl) (Nat.le_of_ble_eq_true rfl) (Nat.le_of_ble_eq_true rfl) rfl ?_
    rintro v68 T68 L68 X68 ⟨rfl, Nq68, eq68⟩
    have N68 := Fr.app N64 Nq68
    change own_G p e below _ _ (mkF m 141 _ [(.int (0 : Int32)), (.int (1 : Int32)), (.ref b1), (.int (own_spl (nar .char z6) (own_nb (nar .char z3) (0 : Int32))))])
    refine own_S (n := 144) (argsL := [(.ref b1), (.int (1 : Int32)), (.int (0 : Int32))]) (rest := [(.int (own_spl (nar .char z6) (own_nb (nar .char z3) (0 : Int32))))]) X68 hx hZ hown (own_rmF_1_0 l Z a0 hw b1 k1 (nar .char z3) (nar .char z6) (nar .char z9) (nar .char z12) (nar .char z15) T64.heap n0 Z_67 A_65) (ww24 hw) (ww25 hw) (ww3 hw) (ww26 hw) (by decide) eq68 (by rw [hml]; rfl) (lenOf own_pd4 rfl) rfl (hb hby at_141) (Nat.le_of_ble_eq_true rfl) (Nat.le_of_ble_eq_true rfl) (Nat.le_of_ble_eq_true rfl) (Nat.le_of_ble_eq_true rfl) rfl ?_
    rintro v69 T69 L69 X69 ⟨rfl, Nq69, eq69⟩
    have N69 := Fr.app N68 Nq69
    change own_G p e below _ _ (mkF m 144 _ [(.int (0 : Int32)), (.int (own_spl (nar .char z6) (own_nb (nar .char z3) (0 : Int32))))])
    refine own_icmpNo (n := 147) X69 hx (hb hby at_144) (teq (own_L1 _ _ : (own_spl (nar .char z6) (own_nb (nar .char z3) (0 : Int32))) = (0 : Int32))).2 rfl ?_
    refine own_iconst (n := 148) (z := (1 : Int32)) X69 hx (hb hby at_147) rfl rfl ?_
    refine own_goto (n := 152) X69 hx (hb hby at_148) (by decide) (by decide) ?_
    refine own_istore (n := 154) (l' := #[.val (.int p0), .val (.int p1), .val (.int p2), .val (.int p3), .val (.int p4), .val (.int p5), .val (.ref b1), .val (.int (1 : Int32)), .val (.int (2 : Int32)), .val (.ref b53), .val (.int (1 : Int32)), .val (.int (own_spl (nar .char z3) (0 : Int32))), .val (.int (own_spl (nar .char z6) (own_nb (nar .char z3) (0 : Int32)))), .unset, .unset, .unset]) X69 hx (hb hby at_152) rfl rfl ?_
    refine own_iload (n := 156) X69 hx (hb hby at_154) rfl rfl ?_
    refine own_iconst (n := 157) (z := (2 : Int32)) X69 hx (hb hby at_156) rfl rfl ?_
    refine own_icmpNo (n := 160) X69 hx (hb hby at_157) (teq (by decide : (2 : Int32) = (2 : Int32))).2 rfl ?_
    refine own_aload (n := 162) X69 hx (hb hby at_160) rfl rfl rfl ?_
    refine own_V (n := 165) (argsL := []) (rest := []) (a := b53) X69 hx hZ hown (own_rmA l Z a0 hw b53 (own_nb (nar .char z6) (own_nb (nar .char z3) (0 : Int32))) T64.heap n0 Z_67 E_66 Fq64 g_b53) (ww27 hw) (ww28 hw) (notFace_of_selects (args := #[]) (mvT hZ (ww30 hw))) (ww30 hw) (ww29 hw) (ww7 hw) (ww31 hw) (by decide) eq69 E_66 (by rw [hml]; rfl) (lenOf own_pd1 rfl) rfl (hb hby at_162) (Nat.le_of_ble_eq_true rfl) (Nat.le_of_ble_eq_true rfl) (Nat.le_of_ble_eq_true rfl) (Nat.le_of_ble_eq_true rfl) rfl ?_
    rintro v70 T70 L70 X70 ⟨rfl, Nq70, K70, Eq70, Fq70⟩
    have N70 := Fr.app N69 Nq70
    have A_71 := A_65.keep K70 (by simp [ne_b1_b53])
    have E_72 := E_66.keep K70
    have Z_73 : n0 ≤ T70.heap.size := Nat.le_trans Z_67 K70.1
    change own_G p e below _ _ (mkF m 165 _ [])
    refine own_aload (n := 167) X70 hx (hb hby at_165) rfl rfl rfl ?_
    refine own_aload (n := 169) X70 hx (hb hby at_167) rfl rfl rfl ?_
    refine own_iconst (n := 170) (z := (2 : Int32)) X70 hx (hb hby at_169) rfl rfl ?_
    refine own_ld_caload (n := 171) (v := (.int (nar .char z9))) X70 hx hZ rfl A_71 ⟨by decide, by decide⟩ rfl (hb hby at_170) rfl ?_
    refine own_V (n := 174) (argsL := [(.int (nar .char z9))]) (rest := []) (a := b53) X70 hx hZ hown (own_rmS l Z a0 hw b53 (nar .char z9) (0 : Int32) T70.heap n0 Z_73 E_72 Fq70 g_b53) (ww14 hw) (ww15 hw) (notFace_of_selects (args := #[]) (mvT hZ (ww17 hw))) (ww17 hw) (ww16 hw) (ww7 hw) (ww18 hw) (by decide) rfl E_72 (by rw [hml]; rfl) (lenOf own_pd2 rfl) rfl (hb hby at_171) (Nat.le_of_ble_eq_true rfl) (Nat.le_of_ble_eq_true rfl) (Nat.le_of_ble_eq_true rfl) (Nat.le_of_ble_eq_true rfl) rfl ?_
    rintro v74 T74 L74 X74 ⟨rfl, Nq74, K74, Eq74, Fq74⟩
    have N74 := Fr.app N70 Nq74
    have A_75 := A_71.keep K74 (by simp [ne_b1_b53])
    have E_76 := E_72.keep K74
    have Z_77 : n0 ≤ T74.heap.size := Nat.le_trans Z_73 K74.1
    change own_G p e below _ _ (mkF m 174 _ [(.int (own_spl (nar .char z9) (0 : Int32)))])
    refine own_istore (n := 176) (l' := #[.val (.int p0), .val (.int p1), .val (.int p2), .val (.int p3), .val (.int p4), .val (.int p5), .val (.ref b1), .val (.int (1 : Int32)), .val (.int (2 : Int32)), .val (.ref b53), .val (.int (1 : Int32)), .val (.int (own_spl (nar .char z3) (0 : Int32))), .val (.int (own_spl (nar .char z6) (own_nb (nar .char z3) (0 : Int32)))), .val (.int (own_spl (nar .char z9) (0 : Int32))), .unset, .unset]) X74 hx (hb hby at_174) rfl rfl ?_
    refine own_iload (n := 178) X74 hx (hb hby at_176) rfl rfl ?_
    refine own_ifNo (n := 181) X74 hx (hb hby at_178) (feq (by decide : ¬ ((1 : Int32) = (0 : Int32)))).1 rfl ?_
    refine own_iload (n := 183) X74 hx (hb hby at_181) rfl rfl ?_
    refine own_aload (n := 185) X74 hx (hb hby at_183) rfl rfl rfl ?_
    refine own_iconst (n := 186) (z := (2 : Int32)) X74 hx (hb hby at_185) rfl rfl ?_
    refine own_iconst (n := 187) (z := (2 : Int32)) X74 hx (hb hby at_186) rfl rfl ?_
    refine own_iload (n := 189) X74 hx (hb hby at_187) rfl rfl ?_
    refine own_S (n := 192) (argsL := [(.int (2 : Int32)), (.int (2 : Int32))]) (rest := [(.int (2 : Int32)), (.ref b1), (.int (own_spl (nar .char z9) (0 : Int32)))]) X74 hx hZ hown (own_rmX_2_2 l Z a0 hw T74.heap n0 Z_77) (ww21 hw) (ww22 hw) (ww3 hw) (ww23 hw) (by decide) rfl (by rw [hml]; rfl) (lenOf own_pd3 rfl) rfl (hb hby at_189) (Nat.le_of_ble_eq_true rfl) (Nat.le_of_ble_eq_true rfl) (Nat.le_of_ble_eq_true rfl) (Nat.le_of_ble_eq_true rfl) rfl ?_
    rintro v78 T78 L78 X78 ⟨rfl, Nq78, eq78⟩
    have N78 := Fr.app N74 Nq78
    change own_G p e below _ _ (mkF m 192 _ [(.int (2 : Int32)), (.int (2 : Int32)), (.ref b1), (.int (own_spl (nar .char z9) (0 : Int32)))])
    refine own_S (n := 195) (argsL := [(.ref b1), (.int (2 : Int32)), (.int (2 : Int32))]) (rest := [(.int (own_spl (nar .char z9) (0 : Int32)))]) X78 hx hZ hown (own_rmF_2_2 l Z a0 hw b1 k1 (nar .char z3) (nar .char z6) (nar .char z9) (nar .char z12) (nar .char z15) T74.heap n0 Z_77 A_75) (ww24 hw) (ww25 hw) (ww3 hw) (ww26 hw) (by decide) eq78 (by rw [hml]; rfl) (lenOf own_pd4 rfl) rfl (hb hby at_192) (Nat.le_of_ble_eq_true rfl) (Nat.le_of_ble_eq_true rfl) (Nat.le_of_ble_eq_true rfl) (Nat.le_of_ble_eq_true rfl) rfl ?_
    rintro v79 T79 L79 X79 ⟨rfl, Nq79, eq79⟩
    have N79 := Fr.app N78 Nq79
    change own_G p e below _ _ (mkF m 195 _ [(.int (0 : Int32)), (.int (own_spl (nar .char z9) (0 : Int32)))])
    refine own_icmpNo (n := 198) X79 hx (hb hby at_195) (teq (own_L0 _ : (own_spl (nar .char z9) (0 : Int32)) = (0 : Int32))).2 rfl ?_
    refine own_iconst (n := 199) (z := (1 : Int32)) X79 hx (hb hby at_198) rfl rfl ?_
    refine own_goto (n := 203) X79 hx (hb hby at_199) (by decide) (by decide) ?_
    refine own_istore (n := 205) (l' := #[.val (.int p0), .val (.int p1), .val (.int p2), .val (.int p3), .val (.int p4), .val (.int p5), .val (.ref b1), .val (.int (1 : Int32)), .val (.int (2 : Int32)), .val (.ref b53), .val (.int (1 : Int32)), .val (.int (own_spl (nar .char z3) (0 : Int32))), .val (.int (own_spl (nar .char z6) (own_nb (nar .char z3) (0 : Int32)))), .val (.int (own_spl (nar .char z9) (0 : Int32))), .unset, .unset]) X79 hx (hb hby at_203) rfl rfl ?_
    refine own_iload (n := 207) X79 hx (hb hby at_205) rfl rfl ?_
    refine own_iconst (n := 208) (z := (3 : Int32)) X79 hx (hb hby at_207) rfl rfl ?_
    refine own_icmpYes (n := 216) X79 hx (hb hby at_208) (feq (by decide : ¬ ((2 : Int32) = (3 : Int32)))).2 (by decide) (by decide) ?_
    refine own_aload (n := 218) X79 hx (hb hby at_216) rfl rfl rfl ?_
    refine own_aload (n := 220) X79 hx (hb hby at_218) rfl rfl rfl ?_
    refine own_iconst (n := 221) (z := (3 : Int32)) X79 hx (hb hby at_220) rfl rfl ?_
    refine own_ld_caload (n := 222) (v := (.int (nar .char z12))) X79 hx hZ eq79 A_75 ⟨by decide, by decide⟩ rfl (hb hby at_221) rfl ?_
    refine own_V (n := 225) (argsL := [(.int (nar .char z12))]) (rest := []) (a := b53) X79 hx hZ hown (own_rmS l Z a0 hw b53 (nar .char z12) (own_nb (nar .char z9) (0 : Int32)) T74.heap n0 Z_77 E_76 Fq74 g_b53) (ww14 hw) (ww15 hw) (notFace_of_selects (args := #[]) (mvT hZ (ww17 hw))) (ww17 hw) (ww16 hw) (ww7 hw) (ww18 hw) (by decide) eq79 E_76 (by rw [hml]; rfl) (lenOf own_pd2 rfl) rfl (hb hby at_222) (Nat.le_of_ble_eq_true rfl) (Nat.le_of_ble_eq_true rfl) (Nat.le_of_ble_eq_true rfl) (Nat.le_of_ble_eq_true rfl) rfl ?_
    rintro v80 T80 L80 X80 ⟨rfl, Nq80, K80, Eq80, Fq80⟩
    have N80 := Fr.app N79 Nq80
    have A_81 := A_75.keep K80 (by simp [ne_b1_b53])
    have E_82 := E_76.keep K80
    have Z_83 : n0 ≤ T80.heap.size := Nat.le_trans Z_77 K80.1
    change own_G p e below _ _ (mkF m 225 _ [(.int (own_spl (nar .char z12) (own_nb (nar .char z9) (0 : Int32))))])
    refine own_istore (n := 227) (l' := #[.val (.int p0), .val (.int p1), .val (.int p2), .val (.int p3), .val (.int p4), .val (.int p5), .val (.ref b1), .val (.int (1 : Int32)), .val (.int (2 : Int32)), .val (.ref b53), .val (.int (1 : Int32)), .val (.int (own_spl (nar .char z3) (0 : Int32))), .val (.int (own_spl (nar .char z6) (own_nb (nar .char z3) (0 : Int32)))), .val (.int (own_spl (nar .char z9) (0 : Int32))), .val (.int (own_spl (nar .char z12) (own_nb (nar .char z9) (0 : Int32)))), .unset]) X80 hx (hb hby at_225) rfl rfl ?_
    refine own_iload (n := 229) X80 hx (hb hby at_227) rfl rfl ?_
    refine own_ifNo (n := 232) X80 hx (hb hby at_229) (feq (by decide : ¬ ((1 : Int32) = (0 : Int32)))).1 rfl ?_
    refine own_iload (n := 234) X80 hx (hb hby at_232) rfl rfl ?_
    refine own_aload (n := 236) X80 hx (hb hby at_234) rfl rfl rfl ?_
    refine own_iconst (n := 237) (z := (3 : Int32)) X80 hx (hb hby at_236) rfl rfl ?_
    refine own_iconst (n := 238) (z := (3 : Int32)) X80 hx (hb hby at_237) rfl rfl ?_
    refine own_iload (n := 240) X80 hx (hb hby at_238) rfl rfl ?_
    refine own_S (n := 243) (argsL := [(.int (3 : Int32)), (.int (2 : Int32))]) (rest := [(.int (3 : Int32)), (.ref b1), (.int (own_spl (nar .char z12) (own_nb (nar .char z9) (0 : Int32))))]) X80 hx hZ hown (own_rmX_3_2 l Z a0 hw T80.heap n0 Z_83) (ww21 hw) (ww22 hw) (ww3 hw) (ww23 hw) (by decide) rfl (by rw [hml]; rfl) (lenOf own_pd3 rfl) rfl (hb hby at_240) (Nat.le_of_ble_eq_true rfl) (Nat.le_of_ble_eq_true rfl) (Nat.le_of_ble_eq_true rfl) (Nat.le_of_ble_eq_true rfl) rfl ?_
    rintro v84 T84 L84 X84 ⟨rfl, Nq84, eq84⟩
    have N84 := Fr.app N80 Nq84
    change own_G p e below _ _ (mkF m 243 _ [(.int (2 : Int32)), (.int (3 : Int32)), (.ref b1), (.int (own_spl (nar .char z12) (own_nb (nar .char z9) (0 : Int32))))])
    refine own_S (n := 246) (argsL := [(.ref b1), (.int (3 : Int32)), (.int (2 : Int32))]) (rest := [(.int (own_spl (nar .char z12) (own_nb (nar .char z9) (0 : Int32))))]) X84 hx hZ hown (own_rmF_3_2 l Z a0 hw b1 k1 (nar .char z3) (nar .char z6) (nar .char z9) (nar .char z12) (nar .char z15) T80.heap n0 Z_83 A_81) (ww24 hw) (ww25 hw) (ww3 hw) (ww26 hw) (by decide) eq84 (by rw [hml]; rfl) (lenOf own_pd4 rfl) rfl (hb hby at_243) (Nat.le_of_ble_eq_true rfl) (Nat.le_of_ble_eq_true rfl) (Nat.le_of_ble_eq_true rfl) (Nat.le_of_ble_eq_true rfl) rfl ?_
    rintro v85 T85 L85 X85 ⟨rfl, Nq85, eq85⟩
    have N85 := Fr.app N84 Nq85
    change own_G p e below _ _ (mkF m 246 _ [(.int (0 : Int32)), (.int (own_spl (nar .char z12) (own_nb (nar .char z9) (0 : Int32))))])
    refine own_icmpNo (n := 249) X85 hx (hb hby at_246) (teq (own_L1 _ _ : (own_spl (nar .char z12) (own_nb (nar .char z9) (0 : Int32))) = (0 : Int32))).2 rfl ?_
    refine own_iconst (n := 250) (z := (1 : Int32)) X85 hx (hb hby at_249) rfl rfl ?_
    refine own_goto (n := 254) X85 hx (hb hby at_250) (by decide) (by decide) ?_
    refine own_istore (n := 256) (l' := #[.val (.int p0), .val (.int p1), .val (.int p2), .val (.int p3), .val (.int p4), .val (.int p5), .val (.ref b1), .val (.int (1 : Int32)), .val (.int (2 : Int32)), .val (.ref b53), .val (.int (1 : Int32)), .val (.int (own_spl (nar .char z3) (0 : Int32))), .val (.int (own_spl (nar .char z6) (own_nb (nar .char z3) (0 : Int32)))), .val (.int (own_spl (nar .char z9) (0 : Int32))), .val (.int (own_spl (nar .char z12) (own_nb (nar .char z9) (0 : Int32)))), .unset]) X85 hx (hb hby at_254) rfl rfl ?_
    refine own_iload (n := 258) X85 hx (hb hby at_256) rfl rfl ?_
    refine own_iconst (n := 259) (z := (4 : Int32)) X85 hx (hb hby at_258) rfl rfl ?_
    refine own_icmpYes (n := 267) X85 hx (hb hby at_259) (feq (by decide : ¬ ((2 : Int32) = (4 : Int32)))).2 (by decide) (by decide) ?_
    refine own_aload (n := 269) X85 hx (hb hby at_267) rfl rfl rfl ?_
    refine own_aload (n := 271) X85 hx (hb hby at_269) rfl rfl rfl ?_
    refine own_iconst (n := 272) (z := (4 : Int32)) X85 hx (hb hby at_271) rfl rfl ?_
    refine own_ld_caload (n := 273) (v := (.int (nar .char z15))) X85 hx hZ eq85 A_81 ⟨by decide, by decide⟩ rfl (hb hby at_272) rfl ?_
    refine own_V (n := 276) (argsL := [(.int (nar .char z15))]) (rest := []) (a := b53) X85 hx hZ hown (own_rmS l Z a0 hw b53 (nar .char z15) (own_nb (nar .char z12) (own_nb (nar .char z9) (0 : Int32))) T80.heap n0 Z_83 E_82 Fq80 g_b53) (ww14 hw) (ww15 hw) (notFace_of_selects (args := #[]) (mvT hZ (ww17 hw))) (ww17 hw) (ww16 hw) (ww7 hw) (ww18 hw) (by decide) eq85 E_82 (by rw [hml]; rfl) (lenOf own_pd2 rfl) rfl (hb hby at_273) (Nat.le_of_ble_eq_true rfl) (Nat.le_of_ble_eq_true rfl) (Nat.le_of_ble_eq_true rfl) (Nat.le_of_ble_eq_true rfl) rfl ?_
    rintro v86 T86 L86 X86 ⟨rfl, Nq86, K86, Eq86, Fq86⟩
    have N86 := Fr.app N85 Nq86
    have A_87 := A_81.keep K86 (by simp [ne_b1_b53])
    have E_88 := E_82.keep K86
    have Z_89 : n0 ≤ T86.heap.size := Nat.le_trans Z_83 K86.1
    change own_G p e below _ _ (mkF m 276 _ [(.int (own_spl (nar .char z15) (own_nb (nar .char z12) (own_nb (nar .char z9) (0 : Int32)))))])
    refine own_istore (n := 278) (l' := #[.val (.int p0), .val (.int p1), .val (.int p2), .val (.int p3), .val (.int p4), .val (.int p5), .val (.ref b1), .val (.int (1 : Int32)), .val (.int (2 : Int32)), .val (.ref b53), .val (.int (1 : Int32)), .val (.int (own_spl (nar .char z3) (0 : Int32))), .val (.int (own_spl (nar .char z6) (own_nb (nar .char z3) (0 : Int32)))), .val (.int (own_spl (nar .char z9) (0 : Int32))), .val (.int (own_spl (nar .char z12) (own_nb (nar .char z9) (0 : Int32)))), .val (.int (own_spl (nar .char z15) (own_nb (nar .char z12) (own_nb (nar .char z9) (0 : Int32)))))]) X86 hx (hb hby at_276) rfl rfl ?_
    refine own_iload (n := 280) X86 hx (hb hby at_278) rfl rfl ?_
    refine own_ifNo (n := 283) X86 hx (hb hby at_280) (feq (by decide : ¬ ((1 : Int32) = (0 : Int32)))).1 rfl ?_
    refine own_iload (n := 285) X86 hx (hb hby at_283) rfl rfl ?_
    refine own_aload (n := 287) X86 hx (hb hby at_285) rfl rfl rfl ?_
    refine own_iconst (n := 288) (z := (4 : Int32)) X86 hx (hb hby at_287) rfl rfl ?_
    refine own_iconst (n := 289) (z := (4 : Int32)) X86 hx (hb hby at_288) rfl rfl ?_
    refine own_iload (n := 291) X86 hx (hb hby at_289) rfl rfl ?_
    refine own_S (n := 294) (argsL := [(.int (4 : Int32)), (.int (2 : Int32))]) (rest := [(.int (4 : Int32)), (.ref b1), (.int (own_spl (nar .char z15) (own_nb (nar .char z12) (own_nb (nar .char z9) (0 : Int32)))))]) X86 hx hZ hown (own_rmX_4_2 l Z a0 hw T86.heap n0 Z_89) (ww21 hw) (ww22 hw) (ww3 hw) (ww23 hw) (by decide) rfl (by rw [hml]; rfl) (lenOf own_pd3 rfl) rfl (hb hby at_291) (Nat.le_of_ble_eq_true rfl) (Nat.le_of_ble_eq_true rfl) (Nat.le_of_ble_eq_true rfl) (Nat.le_of_ble_eq_true rfl) rfl ?_
    rintro v90 T90 L90 X90 ⟨rfl, Nq90, eq90⟩
    have N90 := Fr.app N86 Nq90
    change own_G p e below _ _ (mkF m 294 _ [(.int (2 : Int32)), (.int (4 : Int32)), (.ref b1), (.int (own_spl (nar .char z15) (own_nb (nar .char z12) (own_nb (nar .char z9) (0 : Int32)))))])
    refine own_S (n := 297) (argsL := [(.ref b1), (.int (4 : Int32)), (.int (2 : Int32))]) (rest := [(.int (own_spl (nar .char z15) (own_nb (nar .char z12) (own_nb (nar .char z9) (0 : Int32)))))]) X90 hx hZ hown (own_rmF_4_2 l Z a0 hw b1 k1 (nar .char z3) (nar .char z6) (nar .char z9) (nar .char z12) (nar .char z15) T86.heap n0 Z_89 A_87) (ww24 hw) (ww25 hw) (ww3 hw) (ww26 hw) (by decide) eq90 (by rw [hml]; rfl) (lenOf own_pd4 rfl) rfl (hb hby at_294) (Nat.le_of_ble_eq_true rfl) (Nat.le_of_ble_eq_true rfl) (Nat.le_of_ble_eq_true rfl) (Nat.le_of_ble_eq_true rfl) rfl ?_
    rintro v91 T91 L91 X91 ⟨rfl, Nq91, eq91⟩
    have N91 := Fr.app N90 Nq91
    change own_G p e below _ _ (mkF m 297 _ [(.int (own_r (nar .char z15) (nar .char z12) (nar .char z9))), (.int (own_spl (nar .char z15) (own_nb (nar .char z12) (own_nb (nar .char z9) (0 : Int32)))))])
    refine own_icmpNo (n := 300) X91 hx (hb hby at_297) (teq (own_L2a _ _ _ : (own_spl (nar .char z15) (own_nb (nar .char z12) (own_nb (nar .char z9) (0 : Int32)))) = (own_r (nar .char z15) (nar .char z12) (nar .char z9)))).2 rfl ?_
    refine own_iconst (n := 301) (z := (1 : Int32)) X91 hx (hb hby at_300) rfl rfl ?_
    refine own_goto (n := 305) X91 hx (hb hby at_301) (by decide) (by decide) ?_
    refine own_istore (n := 307) (l' := #[.val (.int p0), .val (.int p1), .val (.int p2), .val (.int p3), .val (.int p4), .val (.int p5), .val (.ref b1), .val (.int (1 : Int32)), .val (.int (2 : Int32)), .val (.ref b53), .val (.int (1 : Int32)), .val (.int (own_spl (nar .char z3) (0 : Int32))), .val (.int (own_spl (nar .char z6) (own_nb (nar .char z3) (0 : Int32)))), .val (.int (own_spl (nar .char z9) (0 : Int32))), .val (.int (own_spl (nar .char z12) (own_nb (nar .char z9) (0 : Int32)))), .val (.int (own_spl (nar .char z15) (own_nb (nar .char z12) (own_nb (nar .char z9) (0 : Int32)))))]) X91 hx (hb hby at_305) rfl rfl ?_
    refine own_iload (n := 309) X91 hx (hb hby at_307) rfl rfl ?_
    refine own_retZ X91 hx hlk hret (by simp) eq91 (w := (1 : Int32)) rfl (hb hby at_309) (by decide) (by decide) ?_
    exact ⟨rfl, N91⟩
  · rw [hs]
    refine own_iload (n := 49) X16 hx (hb hby at_47) rfl rfl ?_
    refine own_ifYes (n := 56) X16 hx (hb hby at_49) (feq (by decide : ¬ ((2 : Int32) = (0 : Int32)))).2 (by decide) (by decide) ?_
    refine own_iload (n := 58) X16 hx (hb hby at_56) rfl rfl ?_
    refine own_iconst (n := 59) (z := (1 : Int32)) X16 hx (hb hby at_58) rfl rfl ?_
    refine own_iadd (n := 60) (z := (3 : Int32)) X16 hx (hb hby at_59) rfl rfl ?_
    refine own_istore (n := 62) (l' := #[.val (.int p0), .val (.int p1), .val (.int p2), .val (.int p3), .val (.int p4), .val (.int p5), .val (.ref b1), .val (.int (2 : Int32)), .val (.int (3 : Int32)), .unset, .unset, .unset, .unset, .unset, .unset, .unset]) X16 hx (hb hby at_60) rfl rfl ?_
    refine own_new (n := 65) X16 hx hZ hown (ww5 hw) (ww6 hw) (ww7 hw) e16 (hb hby at_62) (by decide) (by decide) rfl ?_
    intro T92 h92 b92 g92 X92 e92 E92 A92 D92
    have g_b92 : n0 ≤ b92 := Nat.le_trans Z_17 (Nat.le_of_eq g92.symm)
    have ne_b1_b92 : b1 ≠ b92 := own_ne V16.lt g92
    have A_93 := V16.ext E92
    have Z_94 : n0 ≤ h92.size := Nat.le_trans Z_17 E92.1
    have F_95 : Fld Z h92 b92 "com/example/xml_stream_transform/xmlstreamtransform/output/CdataSplitter" "brackets" "I" (.int (0 : Int32)) := D92 (Or.inl (ww20 hw)) (ty := .int) (by decide)
    refine own_dup (n := 66) X92 hx (hb hby at_65) rfl rfl ?_
    refine own_I (n := 69) (argsL := []) (rest := [(.ref b92)]) (a := b92) (by rfl) X92 hx hZ hown (own_rmI l Z a0 hw b92 h92 n0 Z_94) (ww8 hw) (ww9 hw) (ww7 hw) (ww10 hw) (by decide) e92 (by rw [hml]; rfl) (lenOf own_pd1 rfl) rfl (hb hby at_66) (Nat.le_of_ble_eq_true rfl) (Nat.le_of_ble_eq_true rfl) (Nat.le_of_ble_eq_true rfl) (Nat.le_of_ble_eq_true rfl) rfl ?_
    rintro v96 T96 L96 X96 ⟨rfl, Nq96, eq96⟩
    have N96 := Fr.app N16 Nq96
    change own_G p e below _ _ (mkF m 69 _ [(.ref b92)])
    refine own_astore (n := 71) (l' := #[.val (.int p0), .val (.int p1), .val (.int p2), .val (.int p3), .val (.int p4), .val (.int p5), .val (.ref b1), .val (.int (2 : Int32)), .val (.int (3 : Int32)), .val (.ref b92), .unset, .unset, .unset, .unset, .unset, .unset]) X96 hx (hb hby at_69) rfl rfl rfl ?_
    refine own_iconst (n := 72) (z := (1 : Int32)) X96 hx (hb hby at_71) rfl rfl ?_
    refine own_istore (n := 74) (l' := #[.val (.int p0), .val (.int p1), .val (.int p2), .val (.int p3), .val (.int p4), .val (.int p5), .val (.ref b1), .val (.int (2 : Int32)), .val (.int (3 : Int32)), .val (.ref b92), .val (.int (1 : Int32)), .unset, .unset, .unset, .unset, .unset]) X96 hx (hb hby at_72) rfl rfl ?_
    refine own_aload (n := 76) X96 hx (hb hby at_74) rfl rfl rfl ?_
    refine own_aload (n := 78) X96 hx (hb hby at_76) rfl rfl rfl ?_
    refine own_iconst (n := 79) (z := (0 : Int32)) X96 hx (hb hby at_78) rfl rfl ?_
    refine own_ld_caload (n := 80) (v := (.int (nar .char z3))) X96 hx hZ eq96 A_93 ⟨by decide, by decide⟩ rfl (hb hby at_79) rfl ?_
    refine own_V (n := 83) (argsL := [(.int (nar .char z3))]) (rest := []) (a := b92) X96 hx hZ hown (own_rmS l Z a0 hw b92 (nar .char z3) (0 : Int32) h92 n0 Z_94 A92 F_95 g_b92) (ww14 hw) (ww15 hw) (notFace_of_selects (args := #[]) (mvT hZ (ww17 hw))) (ww17 hw) (ww16 hw) (ww7 hw) (ww18 hw) (by decide) eq96 A92 (by rw [hml]; rfl) (lenOf own_pd2 rfl) rfl (hb hby at_80) (Nat.le_of_ble_eq_true rfl) (Nat.le_of_ble_eq_true rfl) (Nat.le_of_ble_eq_true rfl) (Nat.le_of_ble_eq_true rfl) rfl ?_
    rintro v97 T97 L97 X97 ⟨rfl, Nq97, K97, Eq97, Fq97⟩
    have N97 := Fr.app N96 Nq97
    have A_98 := A_93.keep K97 (by simp [ne_b1_b92])
    have E_99 := A92.keep K97
    have Z_100 : n0 ≤ T97.heap.size := Nat.le_trans Z_94 K97.1
    change own_G p e below _ _ (mkF m 83 _ [(.int (own_spl (nar .char z3) (0 : Int32)))])
    refine own_istore (n := 85) (l' := #[.val (.int p0), .val (.int p1), .val (.int p2), .val (.int p3), .val (.int p4), .val (.int p5), .val (.ref b1), .val (.int (2 : Int32)), .val (.int (3 : Int32)), .val (.ref b92), .val (.int (1 : Int32)), .val (.int (own_spl (nar .char z3) (0 : Int32))), .unset, .unset, .unset, .unset]) X97 hx (hb hby at_83) rfl rfl ?_
    refine own_iload (n := 87) X97 hx (hb hby at_85) rfl rfl ?_
    refine own_ifNo (n := 90) X97 hx (hb hby at_87) (feq (by decide : ¬ ((1 : Int32) = (0 : Int32)))).1 rfl ?_
    refine own_iload (n := 92) X97 hx (hb hby at_90) rfl rfl ?_
    refine own_aload (n := 94) X97 hx (hb hby at_92) rfl rfl rfl ?_
    refine own_iconst (n := 95) (z := (0 : Int32)) X97 hx (hb hby at_94) rfl rfl ?_
    refine own_iconst (n := 96) (z := (0 : Int32)) X97 hx (hb hby at_95) rfl rfl ?_
    refine own_iload (n := 98) X97 hx (hb hby at_96) rfl rfl ?_
    refine own_S (n := 101) (argsL := [(.int (0 : Int32)), (.int (3 : Int32))]) (rest := [(.int (0 : Int32)), (.ref b1), (.int (own_spl (nar .char z3) (0 : Int32)))]) X97 hx hZ hown (own_rmX_0_3 l Z a0 hw T97.heap n0 Z_100) (ww21 hw) (ww22 hw) (ww3 hw) (ww23 hw) (by decide) rfl (by rw [hml]; rfl) (lenOf own_pd3 rfl) rfl (hb hby at_98) (Nat.le_of_ble_eq_true rfl) (Nat.le_of_ble_eq_true rfl) (Nat.le_of_ble_eq_true rfl) (Nat.le_of_ble_eq_true rfl) rfl ?_
    rintro v101 T101 L101 X101 ⟨rfl, Nq101, eq101⟩
    have N101 := Fr.app N97 Nq101
    change own_G p e below _ _ (mkF m 101 _ [(.int (0 : Int32)), (.int (0 : Int32)), (.ref b1), (.int (own_spl (nar .char z3) (0 : Int32)))])
    refine own_S (n := 104) (argsL := [(.ref b1), (.int (0 : Int32)), (.int (0 : Int32))]) (rest := [(.int (own_spl (nar .char z3) (0 : Int32)))]) X101 hx hZ hown (own_rmF_0_0 l Z a0 hw b1 k1 (nar .char z3) (nar .char z6) (nar .char z9) (nar .char z12) (nar .char z15) T97.heap n0 Z_100 A_98) (ww24 hw) (ww25 hw) (ww3 hw) (ww26 hw) (by decide) eq101 (by rw [hml]; rfl) (lenOf own_pd4 rfl) rfl (hb hby at_101) (Nat.le_of_ble_eq_true rfl) (Nat.le_of_ble_eq_true rfl) (Nat.le_of_ble_eq_true rfl) (Nat.le_of_ble_eq_true rfl) rfl ?_
    rintro v102 T102 L102 X102 ⟨rfl, Nq102, eq102⟩
    have N102 := Fr.app N101 Nq102
    change own_G p e below _ _ (mkF m 104 _ [(.int (0 : Int32)), (.int (own_spl (nar .char z3) (0 : Int32)))])
    refine own_icmpNo (n := 107) X102 hx (hb hby at_104) (teq (own_L0 _ : (own_spl (nar .char z3) (0 : Int32)) = (0 : Int32))).2 rfl ?_
    refine own_iconst (n := 108) (z := (1 : Int32)) X102 hx (hb hby at_107) rfl rfl ?_
    refine own_goto (n := 112) X102 hx (hb hby at_108) (by decide) (by decide) ?_
    refine own_istore (n := 114) (l' := #[.val (.int p0), .val (.int p1), .val (.int p2), .val (.int p3), .val (.int p4), .val (.int p5), .val (.ref b1), .val (.int (2 : Int32)), .val (.int (3 : Int32)), .val (.ref b92), .val (.int (1 : Int32)), .val (.int (own_spl (nar .char z3) (0 : Int32))), .unset, .unset, .unset, .unset]) X102 hx (hb hby at_112) rfl rfl ?_
    refine own_aload (n := 116) X102 hx (hb hby at_114) rfl rfl rfl ?_
    refine own_aload (n := 118) X102 hx (hb hby at_116) rfl rfl rfl ?_
    refine own_iconst (n := 119) (z := (1 : Int32)) X102 hx (hb hby at_118) rfl rfl ?_
    refine own_ld_caload (n := 120) (v := (.int (nar .char z6))) X102 hx hZ eq102 A_98 ⟨by decide, by decide⟩ rfl (hb hby at_119) rfl ?_
    refine own_V (n := 123) (argsL := [(.int (nar .char z6))]) (rest := []) (a := b92) X102 hx hZ hown (own_rmS l Z a0 hw b92 (nar .char z6) (own_nb (nar .char z3) (0 : Int32)) T97.heap n0 Z_100 E_99 Fq97 g_b92) (ww14 hw) (ww15 hw) (notFace_of_selects (args := #[]) (mvT hZ (ww17 hw))) (ww17 hw) (ww16 hw) (ww7 hw) (ww18 hw) (by decide) eq102 E_99 (by rw [hml]; rfl) (lenOf own_pd2 rfl) rfl (hb hby at_120) (Nat.le_of_ble_eq_true rfl) (Nat.le_of_ble_eq_true rfl) (Nat.le_of_ble_eq_true rfl) (Nat.le_of_ble_eq_true rfl) rfl ?_
    rintro v103 T103 L103 X103 ⟨rfl, Nq103, K103, Eq103, Fq103⟩
    have N103 := Fr.app N102 Nq103
    have A_104 := A_98.keep K103 (by simp [ne_b1_b92])
    have E_105 := E_99.keep K103
    have Z_106 : n0 ≤ T103.heap.size := Nat.le_trans Z_100 K103.1
    change own_G p e below _ _ (mkF m 123 _ [(.int (own_spl (nar .char z6) (own_nb (nar .char z3) (0 : Int32))))])
    refine own_istore (n := 125) (l' := #[.val (.int p0), .val (.int p1), .val (.int p2), .val (.int p3), .val (.int p4), .val (.int p5), .val (.ref b1), .val (.int (2 : Int32)), .val (.int (3 : Int32)), .val (.ref b92), .val (.int (1 : Int32)), .val (.int (own_spl (nar .char z3) (0 : Int32))), .val (.int (own_spl (nar .char z6) (own_nb (nar .char z3) (0 : Int32)))), .unset, .unset, .unset]) X103 hx (hb hby at_123) rfl rfl ?_
    refine own_iload (n := 127) X103 hx (hb hby at_125) rfl rfl ?_
    refine own_ifNo (n := 130) X103 hx (hb hby at_127) (feq (by decide : ¬ ((1 : Int32) = (0 : Int32)))).1 rfl ?_
    refine own_iload (n := 132) X103 hx (hb hby at_130) rfl rfl ?_
    refine own_aload (n := 134) X103 hx (hb hby at_132) rfl rfl rfl ?_
    refine own_iconst (n := 135) (z := (1 : Int32)) X103 hx (hb hby at_134) rfl rfl ?_
    refine own_iconst (n := 136) (z := (1 : Int32)) X103 hx (hb hby at_135) rfl rfl ?_
    refine own_iload (n := 138) X103 hx (hb hby at_136) rfl rfl ?_
    refine own_S (n := 141) (argsL := [(.int (1 : Int32)), (.int (3 : Int32))]) (rest := [(.int (1 : Int32)), (.ref b1), (.int (own_spl (nar .char z6) (own_nb (nar .char z3) (0 : Int32))))]) X103 hx hZ hown (own_rmX_1_3 l Z a0 hw T103.heap n0 Z_106) (ww21 hw) (ww22 hw) (ww3 hw) (ww23 hw) (by decide) rfl (by rw [hml]; rfl) (lenOf own_pd3 rfl) rfl (hb hby at_138) (Nat.le_of_ble_eq_true rfl) (Nat.le_of_ble_eq_true rfl) (Nat.le_of_ble_eq_true rfl) (Nat.le_of_ble_eq_true rfl) rfl ?_
    rintro v107 T107 L107 X107 ⟨rfl, Nq107, eq107⟩
    have N107 := Fr.app N103 Nq107
    change own_G p e below _ _ (mkF m 141 _ [(.int (0 : Int32)), (.int (1 : Int32)), (.ref b1), (.int (own_spl (nar .char z6) (own_nb (nar .char z3) (0 : Int32))))])
    refine own_S (n := 144) (argsL := [(.ref b1), (.int (1 : Int32)), (.int (0 : Int32))]) (rest := [(.int (own_spl (nar .char z6) (own_nb (nar .char z3) (0 : Int32))))]) X107 hx hZ hown (own_rmF_1_0 l Z a0 hw b1 k1 (nar .char z3) (nar .char z6) (nar .char z9) (nar .char z12) (nar .char z15) T103.heap n0 Z_106 A_104) (ww24 hw) (ww25 hw) (ww3 hw) (ww26 hw) (by decide) eq107 (by rw [hml]; rfl) (lenOf own_pd4 rfl) rfl (hb hby at_141) (Nat.le_of_ble_eq_true rfl) (Nat.le_of_ble_eq_true rfl) (Nat.le_of_ble_eq_true rfl) (Nat.le_of_ble_eq_true rfl) rfl ?_
    rintro v108 T108 L108 X108 ⟨rfl, Nq108, eq108⟩
    have N108 := Fr.app N107 Nq108
    change own_G p e below _ _ (mkF m 144 _ [(.int (0 : Int32)), (.int (own_spl (nar .char z6) (own_nb (nar .char z3) (0 : Int32))))])
    refine own_icmpNo (n := 147) X108 hx (hb hby at_144) (teq (own_L1 _ _ : (own_spl (nar .char z6) (own_nb (nar .char z3) (0 : Int32))) = (0 : Int32))).2 rfl ?_
    refine own_iconst (n := 148) (z := (1 : Int32)) X108 hx (hb hby at_147) rfl rfl ?_
    refine own_goto (n := 152) X108 hx (hb hby at_148) (by decide) (by decide) ?_
    refine own_istore (n := 154) (l' := #[.val (.int p0), .val (.int p1), .val (.int p2), .val (.int p3), .val (.int p4), .val (.int p5), .val (.ref b1), .val (.int (2 : Int32)), .val (.int (3 : Int32)), .val (.ref b92), .val (.int (1 : Int32)), .val (.int (own_spl (nar .char z3) (0 : Int32))), .val (.int (own_spl (nar .char z6) (own_nb (nar .char z3) (0 : Int32)))), .unset, .unset, .unset]) X108 hx (hb hby at_152) rfl rfl ?_
    refine own_iload (n := 156) X108 hx (hb hby at_154) rfl rfl ?_
    refine own_iconst (n := 157) (z := (2 : Int32)) X108 hx (hb hby at_156) rfl rfl ?_
    refine own_icmpYes (n := 165) X108 hx (hb hby at_157) (feq (by decide : ¬ ((3 : Int32) = (2 : Int32)))).2 (by decide) (by decide) ?_
    refine own_aload (n := 167) X108 hx (hb hby at_165) rfl rfl rfl ?_
    refine own_aload (n := 169) X108 hx (hb hby at_167) rfl rfl rfl ?_
    refine own_iconst (n := 170) (z := (2 : Int32)) X108 hx (hb hby at_169) rfl rfl ?_
    refine own_ld_caload (n := 171) (v := (.int (nar .char z9))) X108 hx hZ eq108 A_104 ⟨by decide, by decide⟩ rfl (hb hby at_170) rfl ?_
    refine own_V (n := 174) (argsL := [(.int (nar .char z9))]) (rest := []) (a := b92) X108 hx hZ hown (own_rmS l Z a0 hw b92 (nar .char z9) (own_nb (nar .char z6) (own_nb (nar .char z3) (0 : Int32))) T103.heap n0 Z_106 E_105 Fq103 g_b92) (ww14 hw) (ww15 hw) (notFace_of_selects (args := #[]) (mvT hZ (ww17 hw))) (ww17 hw) (ww16 hw) (ww7 hw) (ww18 hw) (by decide) eq108 E_105 (by rw [hml]; rfl) (lenOf own_pd2 rfl) rfl (hb hby at_171) (Nat.le_of_ble_eq_true rfl) (Nat.le_of_ble_eq_true rfl) (Nat.le_of_ble_eq_true rfl) (Nat.le_of_ble_eq_true rfl) rfl ?_
    rintro v109 T109 L109 X109 ⟨rfl, Nq109, K109, Eq109, Fq109⟩
    have N109 := Fr.app N108 Nq109
    have A_110 := A_104.keep K109 (by simp [ne_b1_b92])
    have E_111 := E_105.keep K109
    have Z_112 : n0 ≤ T109.heap.size := Nat.le_trans Z_106 K109.1
    change own_G p e below _ _ (mkF m 174 _ [(.int (own_spl (nar .char z9) (own_nb (nar .char z6) (own_nb (nar .char z3) (0 : Int32)))))])
    refine own_istore (n := 176) (l' := #[.val (.int p0), .val (.int p1), .val (.int p2), .val (.int p3), .val (.int p4), .val (.int p5), .val (.ref b1), .val (.int (2 : Int32)), .val (.int (3 : Int32)), .val (.ref b92), .val (.int (1 : Int32)), .val (.int (own_spl (nar .char z3) (0 : Int32))), .val (.int (own_spl (nar .char z6) (own_nb (nar .char z3) (0 : Int32)))), .val (.int (own_spl (nar .char z9) (own_nb (nar .char z6) (own_nb (nar .char z3) (0 : Int32))))), .unset, .unset]) X109 hx (hb hby at_174) rfl rfl ?_
    refine own_iload (n := 178) X109 hx (hb hby at_176) rfl rfl ?_
    refine own_ifNo (n := 181) X109 hx (hb hby at_178) (feq (by decide : ¬ ((1 : Int32) = (0 : Int32)))).1 rfl ?_
    refine own_iload (n := 183) X109 hx (hb hby at_181) rfl rfl ?_
    refine own_aload (n := 185) X109 hx (hb hby at_183) rfl rfl rfl ?_
    refine own_iconst (n := 186) (z := (2 : Int32)) X109 hx (hb hby at_185) rfl rfl ?_
    refine own_iconst (n := 187) (z := (2 : Int32)) X109 hx (hb hby at_186) rfl rfl ?_
    refine own_iload (n := 189) X109 hx (hb hby at_187) rfl rfl ?_
    refine own_S (n := 192) (argsL := [(.int (2 : Int32)), (.int (3 : Int32))]) (rest := [(.int (2 : Int32)), (.ref b1), (.int (own_spl (nar .char z9) (own_nb (nar .char z6) (own_nb (nar .char z3) (0 : Int32)))))]) X109 hx hZ hown (own_rmX_2_3 l Z a0 hw T109.heap n0 Z_112) (ww21 hw) (ww22 hw) (ww3 hw) (ww23 hw) (by decide) rfl (by rw [hml]; rfl) (lenOf own_pd3 rfl) rfl (hb hby at_189) (Nat.le_of_ble_eq_true rfl) (Nat.le_of_ble_eq_true rfl) (Nat.le_of_ble_eq_true rfl) (Nat.le_of_ble_eq_true rfl) rfl ?_
    rintro v113 T113 L113 X113 ⟨rfl, Nq113, eq113⟩
    have N113 := Fr.app N109 Nq113
    change own_G p e below _ _ (mkF m 192 _ [(.int (0 : Int32)), (.int (2 : Int32)), (.ref b1), (.int (own_spl (nar .char z9) (own_nb (nar .char z6) (own_nb (nar .char z3) (0 : Int32)))))])
    refine own_S (n := 195) (argsL := [(.ref b1), (.int (2 : Int32)), (.int (0 : Int32))]) (rest := [(.int (own_spl (nar .char z9) (own_nb (nar .char z6) (own_nb (nar .char z3) (0 : Int32)))))]) X113 hx hZ hown (own_rmF_2_0 l Z a0 hw b1 k1 (nar .char z3) (nar .char z6) (nar .char z9) (nar .char z12) (nar .char z15) T109.heap n0 Z_112 A_110) (ww24 hw) (ww25 hw) (ww3 hw) (ww26 hw) (by decide) eq113 (by rw [hml]; rfl) (lenOf own_pd4 rfl) rfl (hb hby at_192) (Nat.le_of_ble_eq_true rfl) (Nat.le_of_ble_eq_true rfl) (Nat.le_of_ble_eq_true rfl) (Nat.le_of_ble_eq_true rfl) rfl ?_
    rintro v114 T114 L114 X114 ⟨rfl, Nq114, eq114⟩
    have N114 := Fr.app N113 Nq114
    change own_G p e below _ _ (mkF m 195 _ [(.int (own_r (nar .char z9) (nar .char z6) (nar .char z3))), (.int (own_spl (nar .char z9) (own_nb (nar .char z6) (own_nb (nar .char z3) (0 : Int32)))))])
    refine own_icmpNo (n := 198) X114 hx (hb hby at_195) (teq (own_L2a _ _ _ : (own_spl (nar .char z9) (own_nb (nar .char z6) (own_nb (nar .char z3) (0 : Int32)))) = (own_r (nar .char z9) (nar .char z6) (nar .char z3)))).2 rfl ?_
    refine own_iconst (n := 199) (z := (1 : Int32)) X114 hx (hb hby at_198) rfl rfl ?_
    refine own_goto (n := 203) X114 hx (hb hby at_199) (by decide) (by decide) ?_
    refine own_istore (n := 205) (l' := #[.val (.int p0), .val (.int p1), .val (.int p2), .val (.int p3), .val (.int p4), .val (.int p5), .val (.ref b1), .val (.int (2 : Int32)), .val (.int (3 : Int32)), .val (.ref b92), .val (.int (1 : Int32)), .val (.int (own_spl (nar .char z3) (0 : Int32))), .val (.int (own_spl (nar .char z6) (own_nb (nar .char z3) (0 : Int32)))), .val (.int (own_spl (nar .char z9) (own_nb (nar .char z6) (own_nb (nar .char z3) (0 : Int32))))), .unset, .unset]) X114 hx (hb hby at_203) rfl rfl ?_
    refine own_iload (n := 207) X114 hx (hb hby at_205) rfl rfl ?_
    refine own_iconst (n := 208) (z := (3 : Int32)) X114 hx (hb hby at_207) rfl rfl ?_
    refine own_icmpNo (n := 211) X114 hx (hb hby at_208) (teq (by decide : (3 : Int32) = (3 : Int32))).2 rfl ?_
    refine own_aload (n := 213) X114 hx (hb hby at_211) rfl rfl rfl ?_
    refine own_V (n := 216) (argsL := []) (rest := []) (a := b92) X114 hx hZ hown (own_rmA l Z a0 hw b92 (own_nb (nar .char z9) (own_nb (nar .char z6) (own_nb (nar .char z3) (0 : Int32)))) T109.heap n0 Z_112 E_111 Fq109 g_b92) (ww27 hw) (ww28 hw) (notFace_of_selects (args := #[]) (mvT hZ (ww30 hw))) (ww30 hw) (ww29 hw) (ww7 hw) (ww31 hw) (by decide) eq114 E_111 (by rw [hml]; rfl) (lenOf own_pd1 rfl) rfl (hb hby at_213) (Nat.le_of_ble_eq_true rfl) (Nat.le_of_ble_eq_true rfl) (Nat.le_of_ble_eq_true rfl) (Nat.le_of_ble_eq_true rfl) rfl ?_
    rintro v115 T115 L115 X115 ⟨rfl, Nq115, K115, Eq115, Fq115⟩
    have N115 := Fr.app N114 Nq115
    have A_116 := A_110.keep K115 (by simp [ne_b1_b92])
    have E_117 := E_111.keep K115
    have Z_118 : n0 ≤ T115.heap.size := Nat.le_trans Z_112 K115.1
    change own_G p e below _ _ (mkF m 216 _ [])
    refine own_aload (n := 218) X115 hx (hb hby at_216) rfl rfl rfl ?_
    refine own_aload (n := 220) X115 hx (hb hby at_218) rfl rfl rfl ?_
    refine own_iconst (n := 221) (z := (3 : Int32)) X115 hx (hb hby at_220) rfl rfl ?_
    refine own_ld_caload (n := 222) (v := (.int (nar .char z12))) X115 hx hZ rfl A_116 ⟨by decide, by decide⟩ rfl (hb hby at_221) rfl ?_
    refine own_V (n := 225) (argsL := [(.int (nar .char z12))]) (rest := []) (a := b92) X115 hx hZ hown (own_rmS l Z a0 hw b92 (nar .char z12) (0 : Int32) T115.heap n0 Z_118 E_117 Fq115 g_b92) (ww14 hw) (ww15 hw) (notFace_of_selects (args := #[]) (mvT hZ (ww17 hw))) (ww17 hw) (ww16 hw) (ww7 hw) (ww18 hw) (by decide) rfl E_117 (by rw [hml]; rfl) (lenOf own_pd2 rfl) rfl (hb hby at_222) (Nat.le_of_ble_eq_true rfl) (Nat.le_of_ble_eq_true rfl) (Nat.le_of_ble_eq_true rfl) (Nat.le_of_ble_eq_true rfl) rfl ?_
    rintro v119 T119 L119 X119 ⟨rfl, Nq119, K119, Eq119, Fq119⟩
    have N119 := Fr.app N115 Nq119
    have A_120 := A_116.keep K119 (by simp [ne_b1_b92])
    have E_121 := E_117.keep K119
    have Z_122 : n0 ≤ T119.heap.size := Nat.le_trans Z_118 K119.1
    change own_G p e below _ _ (mkF m 225 _ [(.int (own_spl (nar .char z12) (0 : Int32)))])
    refine own_istore (n := 227) (l' := #[.val (.int p0), .val (.int p1), .val (.int p2), .val (.int p3), .val (.int p4), .val (.int p5), .val (.ref b1), .val (.int (2 : Int32)), .val (.int (3 : Int32)), .val (.ref b92), .val (.int (1 : Int32)), .val (.int (own_spl (nar .char z3) (0 : Int32))), .val (.int (own_spl (nar .char z6) (own_nb (nar .char z3) (0 : Int32)))), .val (.int (own_spl (nar .char z9) (own_nb (nar .char z6) (own_nb (nar .char z3) (0 : Int32))))), .val (.int (own_spl (nar .char z12) (0 : Int32))), .unset]) X119 hx (hb hby at_225) rfl rfl ?_
    refine own_iload (n := 229) X119 hx (hb hby at_227) rfl rfl ?_
    refine own_ifNo (n := 232) X119 hx (hb hby at_229) (feq (by decide : ¬ ((1 : Int32) = (0 : Int32)))).1 rfl ?_
    refine own_iload (n := 234) X119 hx (hb hby at_232) rfl rfl ?_
    refine own_aload (n := 236) X119 hx (hb hby at_234) rfl rfl rfl ?_
    refine own_iconst (n := 237) (z := (3 : Int32)) X119 hx (hb hby at_236) rfl rfl ?_
    refine own_iconst (n := 238) (z := (3 : Int32)) X119 hx (hb hby at_237) rfl rfl ?_
    refine own_iload (n := 240) X119 hx (hb hby at_238) rfl rfl ?_
    refine own_S (n := 243) (argsL := [(.int (3 : Int32)), (.int (3 : Int32))]) (rest := [(.int (3 : Int32)), (.ref b1), (.int (own_spl (nar .char z12) (0 : Int32)))]) X119 hx hZ hown (own_rmX_3_3 l Z a0 hw T119.heap n0 Z_122) (ww21 hw) (ww22 hw) (ww3 hw) (ww23 hw) (by decide) rfl (by rw [hml]; rfl) (lenOf own_pd3 rfl) rfl (hb hby at_240) (Nat.le_of_ble_eq_true rfl) (Nat.le_of_ble_eq_true rfl) (Nat.le_of_ble_eq_true rfl) (Nat.le_of_ble_eq_true rfl) rfl ?_
    rintro v123 T123 L123 X123 ⟨rfl, Nq123, eq123⟩
    have N123 := Fr.app N119 Nq123
    change own_G p e below _ _ (mkF m 243 _ [(.int (3 : Int32)), (.int (3 : Int32)), (.ref b1), (.int (own_spl (nar .char z12) (0 : Int32)))])
    refine own_S (n := 246) (argsL := [(.ref b1), (.int (3 : Int32)), (.int (3 : Int32))]) (rest := [(.int (own_spl (nar .char z12) (0 : Int32)))]) X123 hx hZ hown (own_rmF_3_3 l Z a0 hw b1 k1 (nar .char z3) (nar .char z6) (nar .char z9) (nar .char z12) (nar .char z15) T119.heap n0 Z_122 A_120) (ww24 hw) (ww25 hw) (ww3 hw) (ww26 hw) (by decide) eq123 (by rw [hml]; rfl) (lenOf own_pd4 rfl) rfl (hb hby at_243) (Nat.le_of_ble_eq_true rfl) (Nat.le_of_ble_eq_true rfl) (Nat.le_of_ble_eq_true rfl) (Nat.le_of_ble_eq_true rfl) rfl ?_
    rintro v124 T124 L124 X124 ⟨rfl, Nq124, eq124⟩
    have N124 := Fr.app N123 Nq124
    change own_G p e below _ _ (mkF m 246 _ [(.int (0 : Int32)), (.int (own_spl (nar .char z12) (0 : Int32)))])
    refine own_icmpNo (n := 249) X124 hx (hb hby at_246) (teq (own_L0 _ : (own_spl (nar .char z12) (0 : Int32)) = (0 : Int32))).2 rfl ?_
    refine own_iconst (n := 250) (z := (1 : Int32)) X124 hx (hb hby at_249) rfl rfl ?_
    refine own_goto (n := 254) X124 hx (hb hby at_250) (by decide) (by decide) ?_
    refine own_istore (n := 256) (l' := #[.val (.int p0), .val (.int p1), .val (.int p2), .val (.int p3), .val (.int p4), .val (.int p5), .val (.ref b1), .val (.int (2 : Int32)), .val (.int (3 : Int32)), .val (.ref b92), .val (.int (1 : Int32)), .val (.int (own_spl (nar .char z3) (0 : Int32))), .val (.int (own_spl (nar .char z6) (own_nb (nar .char z3) (0 : Int32)))), .val (.int (own_spl (nar .char z9) (own_nb (nar .char z6) (own_nb (nar .char z3) (0 : Int32))))), .val (.int (own_spl (nar .char z12) (0 : Int32))), .unset]) X124 hx (hb hby at_254) rfl rfl ?_
    refine own_iload (n := 258) X124 hx (hb hby at_256) rfl rfl ?_
    refine own_iconst (n := 259) (z := (4 : Int32)) X124 hx (hb hby at_258) rfl rfl ?_
    refine own_icmpYes (n := 267) X124 hx (hb hby at_259) (feq (by decide : ¬ ((3 : Int32) = (4 : Int32)))).2 (by decide) (by decide) ?_
    refine own_aload (n := 269) X124 hx (hb hby at_267) rfl rfl rfl ?_
    refine own_aload (n := 271) X124 hx (hb hby at_269) rfl rfl rfl ?_
    refine own_iconst (n := 272) (z := (4 : Int32)) X124 hx (hb hby at_271) rfl rfl ?_
    refine own_ld_caload (n := 273) (v := (.int (nar .char z15))) X124 hx hZ eq124 A_120 ⟨by decide, by decide⟩ rfl (hb hby at_272) rfl ?_
    refine own_V (n := 276) (argsL := [(.int (nar .char z15))]) (rest := []) (a := b92) X124 hx hZ hown (own_rmS l Z a0 hw b92 (nar .char z15) (own_nb (nar .char z12) (0 : Int32)) T119.heap n0 Z_122 E_121 Fq119 g_b92) (ww14 hw) (ww15 hw) (notFace_of_selects (args := #[]) (mvT hZ (ww17 hw))) (ww17 hw) (ww16 hw) (ww7 hw) (ww18 hw) (by decide) eq124 E_121 (by rw [hml]; rfl) (lenOf own_pd2 rfl) rfl (hb hby at_273) (Nat.le_of_ble_eq_true rfl) (Nat.le_of_ble_eq_true rfl) (Nat.le_of_ble_eq_true rfl) (Nat.le_of_ble_eq_true rfl) rfl ?_
    rintro v125 T125 L125 X125 ⟨rfl, Nq125, K125, Eq125, Fq125⟩
    have N125 := Fr.app N124 Nq125
    have A_126 := A_120.keep K125 (by simp [ne_b1_b92])
    have E_127 := E_121.keep K125
    have Z_128 : n0 ≤ T125.heap.size := Nat.le_trans Z_122 K125.1
    change own_G p e below _ _ (mkF m 276 _ [(.int (own_spl (nar .char z15) (own_nb (nar .char z12) (0 : Int32))))])
    refine own_istore (n := 278) (l' := #[.val (.int p0), .val (.int p1), .val (.int p2), .val (.int p3), .val (.int p4), .val (.int p5), .val (.ref b1), .val (.int (2 : Int32)), .val (.int (3 : Int32)), .val (.ref b92), .val (.int (1 : Int32)), .val (.int (own_spl (nar .char z3) (0 : Int32))), .val (.int (own_spl (nar .char z6) (own_nb (nar .char z3) (0 : Int32)))), .val (.int (own_spl (nar .char z9) (own_nb (nar .char z6) (own_nb (nar .char z3) (0 : Int32))))), .val (.int (own_spl (nar .char z12) (0 : Int32))), .val (.int (own_spl (nar .char z15) (own_nb (nar .char z12) (0 : Int32))))]) X125 hx (hb hby at_276) rfl rfl ?_
    refine own_iload (n := 280) X125 hx (hb hby at_278) rfl rfl ?_
    refine own_ifNo (n := 283) X125 hx (hb hby at_280) (feq (by decide : ¬ ((1 : Int32) = (0 : Int32)))).1 rfl ?_
    refine own_iload (n := 285) X125 hx (hb hby at_283) rfl rfl ?_
    refine own_aload (n := 287) X125 hx (hb hby at_285) rfl rfl rfl ?_
    refine own_iconst (n := 288) (z := (4 : Int32)) X125 hx (hb hby at_287) rfl rfl ?_
    refine own_iconst (n := 289) (z := (4 : Int32)) X125 hx (hb hby at_288) rfl rfl ?_
    refine own_iload (n := 291) X125 hx (hb hby at_289) rfl rfl ?_
    refine own_S (n := 294) (argsL := [(.int (4 : Int32)), (.int (3 : Int32))]) (rest := [(.int (4 : Int32)), (.ref b1), (.int (own_spl (nar .char z15) (own_nb (nar .char z12) (0 : Int32))))]) X125 hx hZ hown (own_rmX_4_3 l Z a0 hw T125.heap n0 Z_128) (ww21 hw) (ww22 hw) (ww3 hw) (ww23 hw) (by decide) rfl (by rw [hml]; rfl) (lenOf own_pd3 rfl) rfl (hb hby at_291) (Nat.le_of_ble_eq_true rfl) (Nat.le_of_ble_eq_true rfl) (Nat.le_of_ble_eq_true rfl) (Nat.le_of_ble_eq_true rfl) rfl ?_
    rintro v129 T129 L129 X129 ⟨rfl, Nq129, eq129⟩
    have N129 := Fr.app N125 Nq129
    change own_G p e below _ _ (mkF m 294 _ [(.int (3 : Int32)), (.int (4 : Int32)), (.ref b1), (.int (own_spl (nar .char z15) (own_nb (nar .char z12) (0 : Int32))))])
    refine own_S (n := 297) (argsL := [(.ref b1), (.int (4 : Int32)), (.int (3 : Int32))]) (rest := [(.int (own_spl (nar .char z15) (own_nb (nar .char z12) (0 : Int32))))]) X129 hx hZ hown (own_rmF_4_3 l Z a0 hw b1 k1 (nar .char z3) (nar .char z6) (nar .char z9) (nar .char z12) (nar .char z15) T125.heap n0 Z_128 A_126) (ww24 hw) (ww25 hw) (ww3 hw) (ww26 hw) (by decide) eq129 (by rw [hml]; rfl) (lenOf own_pd4 rfl) rfl (hb hby at_294) (Nat.le_of_ble_eq_true rfl) (Nat.le_of_ble_eq_true rfl) (Nat.le_of_ble_eq_true rfl) (Nat.le_of_ble_eq_true rfl) rfl ?_
    rintro v130 T130 L130 X130 ⟨rfl, Nq130, eq130⟩
    have N130 := Fr.app N129 Nq130
    change own_G p e below _ _ (mkF m 297 _ [(.int (0 : Int32)), (.int (own_spl (nar .char z15) (own_nb (nar .char z12) (0 : Int32))))])
    refine own_icmpNo (n := 300) X130 hx (hb hby at_297) (teq (own_L1 _ _ : (own_spl (nar .char z15) (own_nb (nar .char z12) (0 : Int32))) = (0 : Int32))).2 rfl ?_
    refine own_iconst (n := 301) (z := (1 : Int32)) X130 hx (hb hby at_300) rfl rfl ?_
    refine own_goto (n := 305) X130 hx (hb hby at_301) (by decide) (by decide) ?_
    refine own_istore (n := 307) (l' := #[.val (.int p0), .val (.int p1), .val (.int p2), .val (.int p3), .val (.int p4), .val (.int p5), .val (.ref b1), .val (.int (2 : Int32)), .val (.int (3 : Int32)), .val (.ref b92), .val (.int (1 : Int32)), .val (.int (own_spl (nar .char z3) (0 : Int32))), .val (.int (own_spl (nar .char z6) (own_nb (nar .char z3) (0 : Int32)))), .val (.int (own_spl (nar .char z9) (own_nb (nar .char z6) (own_nb (nar .char z3) (0 : Int32))))), .val (.int (own_spl (nar .char z12) (0 : Int32))), .val (.int (own_spl (nar .char z15) (own_nb (nar .char z12) (0 : Int32))))]) X130 hx (hb hby at_305) rfl rfl ?_
    refine own_iload (n := 309) X130 hx (hb hby at_307) rfl rfl ?_
    refine own_retZ X130 hx hlk hret (by simp) eq130 (w := (1 : Int32)) rfl (hb hby at_309) (by decide) (by decide) ?_
    exact ⟨rfl, N130⟩
  · rw [hs]
    refine own_iload (n := 49) X16 hx (hb hby at_47) rfl rfl ?_
    refine own_ifYes (n := 56) X16 hx (hb hby at_49) (feq (by decide : ¬ ((3 : Int32) = (0 : Int32)))).2 (by decide) (by decide) ?_
    refine own_iload (n := 58) X16 hx (hb hby at_56) rfl rfl ?_
    refine own_iconst (n := 59) (z := (1 : Int32)) X16 hx (hb hby at_58) rfl rfl ?_
    refine own_iadd (n := 60) (z := (4 : Int32)) X16 hx (hb hby at_59) rfl rfl ?_
    refine own_istore (n := 62) (l' := #[.val (.int p0), .val (.int p1), .val (.int p2), .val (.int p3), .val (.int p4), .val (.int p5), .val (.ref b1), .val (.int (3 : Int32)), .val (.int (4 : Int32)), .unset, .unset, .unset, .unset, .unset, .unset, .unset]) X16 hx (hb hby at_60) rfl rfl ?_
    refine own_new (n := 65) X16 hx hZ hown (ww5 hw) (ww6 hw) (ww7 hw) e16 (hb hby at_62) (by decide) (by decide) rfl ?_
    intro T131 h131 b131 g131 X131 e131 E131 A131 D131
    have g_b131 : n0 ≤ b131 := Nat.le_trans Z_17 (Nat.le_of_eq g131.symm)
    have ne_b1_b131 : b1 ≠ b131 := own_ne V16.lt g131
    have A_132 := V16.ext E131
    have Z_133 : n0 ≤ h131.size := Nat.le_trans Z_17 E131.1
    have F_134 : Fld Z h131 b131 "com/example/xml_stream_transform/xmlstreamtransform/output/CdataSplitter" "brackets" "I" (.int (0 : Int32)) := D131 (Or.inl (ww20 hw)) (ty := .int) (by decide)
    refine own_dup (n := 66) X131 hx (hb hby at_65) rfl rfl ?_
    refine own_I (n := 69) (argsL := []) (rest := [(.ref b131)]) (a := b131) (by rfl) X131 hx hZ hown (own_rmI l Z a0 hw b131 h131 n0 Z_133) (ww8 hw) (ww9 hw) (ww7 hw) (ww10 hw) (by decide) e131 (by rw [hml]; rfl) (lenOf own_pd1 rfl) rfl (hb hby at_66) (Nat.le_of_ble_eq_true rfl) (Nat.le_of_ble_eq_true rfl) (Nat.le_of_ble_eq_true rfl) (Nat.le_of_ble_eq_true rfl) rfl ?_
    rintro v135 T135 L135 X135 ⟨rfl, Nq135, eq135⟩
    have N135 := Fr.app N16 Nq135
    change own_G p e below _ _ (mkF m 69 _ [(.ref b131)])
    refine own_astore (n := 71) (l' := #[.val (.int p0), .val (.int p1), .val (.int p2), .val (.int p3), .val (.int p4), .val (.int p5), .val (.ref b1), .val (.int (3 : Int32)), .val (.int (4 : Int32)), .val (.ref b131), .unset, .unset, .unset, .unset, .unset, .unset]) X135 hx (hb hby at_69) rfl rfl rfl ?_
    refine own_iconst (n := 72) (z := (1 : Int32)) X135 hx (hb hby at_71) rfl rfl ?_
    refine own_istore (n := 74) (l' := #[.val (.int p0), .val (.int p1), .val (.int p2), .val (.int p3), .val (.int p4), .val (.int p5), .val (.ref b1), .val (.int (3 : Int32)), .val (.int (4 : Int32)), .val (.ref b131), .val (.int (1 : Int32)), .unset, .unset, .unset, .unset, .unset]) X135 hx (hb hby at_72) rfl rfl ?_
    refine own_aload (n := 76) X135 hx (hb hby at_74) rfl rfl rfl ?_
    refine own_aload (n := 78) X135 hx (hb hby at_76) rfl rfl rfl ?_
    refine own_iconst (n := 79) (z := (0 : Int32)) X135 hx (hb hby at_78) rfl rfl ?_
    refine own_ld_caload (n := 80) (v := (.int (nar .char z3))) X135 hx hZ eq135 A_132 ⟨by decide, by decide⟩ rfl (hb hby at_79) rfl ?_
    refine own_V (n := 83) (argsL := [(.int (nar .char z3))]) (rest := []) (a := b131) X135 hx hZ hown (own_rmS l Z a0 hw b131 (nar .char z3) (0 : Int32) h131 n0 Z_133 A131 F_134 g_b131) (ww14 hw) (ww15 hw) (notFace_of_selects (args := #[]) (mvT hZ (ww17 hw))) (ww17 hw) (ww16 hw) (ww7 hw) (ww18 hw) (by decide) eq135 A131 (by rw [hml]; rfl) (lenOf own_pd2 rfl) rfl (hb hby at_80) (Nat.le_of_ble_eq_true rfl) (Nat.le_of_ble_eq_true rfl) (Nat.le_of_ble_eq_true rfl) (Nat.le_of_ble_eq_true rfl) rfl ?_
    rintro v136 T136 L136 X136 ⟨rfl, Nq136, K136, Eq136, Fq136⟩
    have N136 := Fr.app N135 Nq136
    have A_137 := A_132.keep K136 (by simp [ne_b1_b131])
    have E_138 := A131.keep K136
    have Z_139 : n0 ≤ T136.heap.size := Nat.le_trans Z_133 K136.1
    change own_G p e below _ _ (mkF m 83 _ [(.int (own_spl (nar .char z3) (0 : Int32)))])
    refine own_istore (n := 85) (l' := #[.val (.int p0), .val (.int p1), .val (.int p2), .val (.int p3), .val (.int p4), .val (.int p5), .val (.ref b1), .val (.int (3 : Int32)), .val (.int (4 : Int32)), .val (.ref b131), .val (.int (1 : Int32)), .val (.int (own_spl (nar .char z3) (0 : Int32))), .unset, .unset, .unset, .unset]) X136 hx (hb hby at_83) rfl rfl ?_
    refine own_iload (n := 87) X136 hx (hb hby at_85) rfl rfl ?_
    refine own_ifNo (n := 90) X136 hx (hb hby at_87) (feq (by decide : ¬ ((1 : Int32) = (0 : Int32)))).1 rfl ?_
    refine own_iload (n := 92) X136 hx (hb hby at_90) rfl rfl ?_
    refine own_aload (n := 94) X136 hx (hb hby at_92) rfl rfl rfl ?_
    refine own_iconst (n := 95) (z := (0 : Int32)) X136 hx (hb hby at_94) rfl rfl ?_
    refine own_iconst (n := 96) (z := (0 : Int32)) X136 hx (hb hby at_95) rfl rfl ?_
    refine own_iload (n := 98) X136 hx (hb hby at_96) rfl rfl ?_
    refine own_S (n := 101) (argsL := [(.int (0 : Int32)), (.int (4 : Int32))]) (rest := [(.int (0 : Int32)), (.ref b1), (.int (own_spl (nar .char z3) (0 : Int32)))]) X136 hx hZ hown (own_rmX_0_4 l Z a0 hw T136.heap n0 Z_139) (ww21 hw) (ww22 hw) (ww3 hw) (ww23 hw) (by decide) rfl (by rw [hml]; rfl) (lenOf own_pd3 rfl) rfl (hb hby at_98) (Nat.le_of_ble_eq_true rfl) (Nat.le_of_ble_eq_true rfl) (Nat.le_of_ble_eq_true rfl) (Nat.le_of_ble_eq_true rfl) rfl ?_
    rintro v140 T140 L140 X140 ⟨rfl, Nq140, eq140⟩
    have N140 := Fr.app N136 Nq140
    change own_G p e below _ _ (mkF m 101 _ [(.int (0 : Int32)), (.int (0 : Int32)), (.ref b1), (.int (own_spl (nar .char z3) (0 : Int32)))])
    refine own_S (n := 104) (argsL := [(.ref b1), (.int (0 : Int32)), (.int (0 : Int32))]) (rest := [(.int (own_spl (nar .char z3) (0 : Int32)))]) X140 hx hZ hown (own_rmF_0_0 l Z a0 hw b1 k1 (nar .char z3) (nar .char z6) (nar .char z9) (nar .char z12) (nar .char z15) T136.heap n0 Z_139 A_137) (ww24 hw) (ww25 hw) (ww3 hw) (ww26 hw) (by decide) eq140 (by rw [hml]; rfl) (lenOf own_pd4 rfl) rfl (hb hby at_101) (Nat.le_of_ble_eq_true rfl) (Nat.le_of_ble_eq_true rfl) (Nat.le_of_ble_eq_true rfl) (Nat.le_of_ble_eq_true rfl) rfl ?_
    rintro v141 T141 L141 X141 ⟨rfl, Nq141, eq141⟩
    have N141 := Fr.app N140 Nq141
    change own_G p e below _ _ (mkF m 104 _ [(.int (0 : Int32)), (.int (own_spl (nar .char z3) (0 : Int32)))])
    refine own_icmpNo (n := 107) X141 hx (hb hby at_104) (teq (own_L0 _ : (own_spl (nar .char z3) (0 : Int32)) = (0 : Int32))).2 rfl ?_
    refine own_iconst (n := 108) (z := (1 : Int32)) X141 hx (hb hby at_107) rfl rfl ?_
    refine own_goto (n := 112) X141 hx (hb hby at_108) (by decide) (by decide) ?_
    refine own_istore (n := 114) (l' := #[.val (.int p0), .val (.int p1), .val (.int p2), .val (.int p3), .val (.int p4), .val (.int p5), .val (.ref b1), .val (.int (3 : Int32)), .val (.int (4 : Int32)), .val (.ref b131), .val (.int (1 : Int32)), .val (.int (own_spl (nar .char z3) (0 : Int32))), .unset, .unset, .unset, .unset]) X141 hx (hb hby at_112) rfl rfl ?_
    refine own_aload (n := 116) X141 hx (hb hby at_114) rfl rfl rfl ?_
    refine own_aload (n := 118) X141 hx (hb hby at_116) rfl rfl rfl ?_
    refine own_iconst (n := 119) (z := (1 : Int32)) X141 hx (hb hby at_118) rfl rfl ?_
    refine own_ld_caload (n := 120) (v := (.int (nar .char z6))) X141 hx hZ eq141 A_137 ⟨by decide, by decide⟩ rfl (hb hby at_119) rfl ?_
    refine own_V (n := 123) (argsL := [(.int (nar .char z6))]) (rest := []) (a := b131) X141 hx hZ hown (own_rmS l Z a0 hw b131 (nar .char z6) (own_nb (nar .char z3) (0 : Int32)) T136.heap n0 Z_139 E_138 Fq136 g_b131) (ww14 hw) (ww15 hw) (notFace_of_selects (args := #[]) (mvT hZ (ww17 hw))) (ww17 hw) (ww16 hw) (ww7 hw) (ww18 hw) (by decide) eq141 E_138 (by rw [hml]; rfl) (lenOf own_pd2 rfl) rfl (hb hby at_120) (Nat.le_of_ble_eq_true rfl) (Nat.le_of_ble_eq_true rfl) (Nat.le_of_ble_eq_true rfl) (Nat.le_of_ble_eq_true rfl) rfl ?_
    rintro v142 T142 L142 X142 ⟨rfl, Nq142, K142, Eq142, Fq142⟩
    have N142 := Fr.app N141 Nq142
    have A_143 := A_137.keep K142 (by simp [ne_b1_b131])
    have E_144 := E_138.keep K142
    have Z_145 : n0 ≤ T142.heap.size := Nat.le_trans Z_139 K142.1
    change own_G p e below _ _ (mkF m 123 _ [(.int (own_spl (nar .char z6) (own_nb (nar .char z3) (0 : Int32))))])
    refine own_istore (n := 125) (l' := #[.val (.int p0), .val (.int p1), .val (.int p2), .val (.int p3), .val (.int p4), .val (.int p5), .val (.ref b1), .val (.int (3 : Int32)), .val (.int (4 : Int32)), .val (.ref b131), .val (.int (1 : Int32)), .val (.int (own_spl (nar .char z3) (0 : Int32))), .val (.int (own_spl (nar .char z6) (own_nb (nar .char z3) (0 : Int32)))), .unset, .unset, .unset]) X142 hx (hb hby at_123) rfl rfl ?_
    refine own_iload (n := 127) X142 hx (hb hby at_125) rfl rfl ?_
    refine own_ifNo (n := 130) X142 hx (hb hby at_127) (feq (by decide : ¬ ((1 : Int32) = (0 : Int32)))).1 rfl ?_
    refine own_iload (n := 132) X142 hx (hb hby at_130) rfl rfl ?_
    refine own_aload (n := 134) X142 hx (hb hby at_132) rfl rfl rfl ?_
    refine own_iconst (n := 135) (z := (1 : Int32)) X142 hx (hb hby at_134) rfl rfl ?_
    refine own_iconst (n := 136) (z := (1 : Int32)) X142 hx (hb hby at_135) rfl rfl ?_
    refine own_iload (n := 138) X142 hx (hb hby at_136) rfl rfl ?_
    refine own_S (n := 141) (argsL := [(.int (1 : Int32)), (.int (4 : Int32))]) (rest := [(.int (1 : Int32)), (.ref b1), (.int (own_spl (nar .char z6) (own_nb (nar .char z3) (0 : Int32))))]) X142 hx hZ hown (own_rmX_1_4 l Z a0 hw T142.heap n0 Z_145) (ww21 hw) (ww22 hw) (ww3 hw) (ww23 hw) (by decide) rfl (by rw [hml]; rfl) (lenOf own_pd3 rfl) rfl (hb hby at_138) (Nat.le_of_ble_eq_true rfl) (Nat.le_of_ble_eq_true rfl) (Nat.le_of_ble_eq_true rfl) (Nat.le_of_ble_eq_true rfl) rfl ?_
    rintro v146 T146 L146 X146 ⟨rfl, Nq146, eq146⟩
    have N146 := Fr.app N142 Nq146
    change own_G p e below _ _ (mkF m 141 _ [(.int (0 : Int32)), (.int (1 : Int32)), (.ref b1), (.int (own_spl (nar .char z6) (own_nb (nar .char z3) (0 : Int32))))])
    refine own_S (n := 144) (argsL := [(.ref b1), (.int (1 : Int32)), (.int (0 : Int32))]) (rest := [(.int (own_spl (nar .char z6) (own_nb (nar .char z3) (0 : Int32))))]) X146 hx hZ hown (own_rmF_1_0 l Z a0 hw b1 k1 (nar .char z3) (nar .char z6) (nar .char z9) (nar .char z12) (nar .char z15) T142.heap n0 Z_145 A_143) (ww24 hw) (ww25 hw) (ww3 hw) (ww26 hw) (by decide) eq146 (by rw [hml]; rfl) (lenOf own_pd4 rfl) rfl (hb hby at_141) (Nat.le_of_ble_eq_true rfl) (Nat.le_of_ble_eq_true rfl) (Nat.le_of_ble_eq_true rfl) (Nat.le_of_ble_eq_true rfl) rfl ?_
    rintro v147 T147 L147 X147 ⟨rfl, Nq147, eq147⟩
    have N147 := Fr.app N146 Nq147
    change own_G p e below _ _ (mkF m 144 _ [(.int (0 : Int32)), (.int (own_spl (nar .char z6) (own_nb (nar .char z3) (0 : Int32))))])
    refine own_icmpNo (n := 147) X147 hx (hb hby at_144) (teq (own_L1 _ _ : (own_spl (nar .char z6) (own_nb (nar .char z3) (0 : Int32))) = (0 : Int32))).2 rfl ?_
    refine own_iconst (n := 148) (z := (1 : Int32)) X147 hx (hb hby at_147) rfl rfl ?_
    refine own_goto (n := 152) X147 hx (hb hby at_148) (by decide) (by decide) ?_
    refine own_istore (n := 154) (l' := #[.val (.int p0), .val (.int p1), .val (.int p2), .val (.int p3), .val (.int p4), .val (.int p5), .val (.ref b1), .val (.int (3 : Int32)), .val (.int (4 : Int32)), .val (.ref b131), .val (.int (1 : Int32)), .val (.int (own_spl (nar .char z3) (0 : Int32))), .val (.int (own_spl (nar .char z6) (own_nb (nar .char z3) (0 : Int32)))), .unset, .unset, .unset]) X147 hx (hb hby at_152) rfl rfl ?_
    refine own_iload (n := 156) X147 hx (hb hby at_154) rfl rfl ?_
    refine own_iconst (n := 157) (z := (2 : Int32)) X147 hx (hb hby at_156) rfl rfl ?_
    refine own_icmpYes (n := 165) X147 hx (hb hby at_157) (feq (by decide : ¬ ((4 : Int32) = (2 : Int32)))).2 (by decide) (by decide) ?_
    refine own_aload (n := 167) X147 hx (hb hby at_165) rfl rfl rfl ?_
    refine own_aload (n := 169) X147 hx (hb hby at_167) rfl rfl rfl ?_
    refine own_iconst (n := 170) (z := (2 : Int32)) X147 hx (hb hby at_169) rfl rfl ?_
    refine own_ld_caload (n := 171) (v := (.int (nar .char z9))) X147 hx hZ eq147 A_143 ⟨by decide, by decide⟩ rfl (hb hby at_170) rfl ?_
    refine own_V (n := 174) (argsL := [(.int (nar .char z9))]) (rest := []) (a := b131) X147 hx hZ hown (own_rmS l Z a0 hw b131 (nar .char z9) (own_nb (nar .char z6) (own_nb (nar .char z3) (0 : Int32))) T142.heap n0 Z_145 E_144 Fq142 g_b131) (ww14 hw) (ww15 hw) (notFace_of_selects (args := #[]) (mvT hZ (ww17 hw))) (ww17 hw) (ww16 hw) (ww7 hw) (ww18 hw) (by decide) eq147 E_144 (by rw [hml]; rfl) (lenOf own_pd2 rfl) rfl (hb hby at_171) (Nat.le_of_ble_eq_true rfl) (Nat.le_of_ble_eq_true rfl) (Nat.le_of_ble_eq_true rfl) (Nat.le_of_ble_eq_true rfl) rfl ?_
    rintro v148 T148 L148 X148 ⟨rfl, Nq148, K148, Eq148, Fq148⟩
    have N148 := Fr.app N147 Nq148
    have A_149 := A_143.keep K148 (by simp [ne_b1_b131])
    have E_150 := E_144.keep K148
    have Z_151 : n0 ≤ T148.heap.size := Nat.le_trans Z_145 K148.1
    change own_G p e below _ _ (mkF m 174 _ [(.int (own_spl (nar .char z9) (own_nb (nar .char z6) (own_nb (nar .char z3) (0 : Int32)))))])
    refine own_istore (n := 176) (l' := #[.val (.int p0), .val (.int p1), .val (.int p2), .val (.int p3), .val (.int p4), .val (.int p5), .val (.ref b1), .val (.int (3 : Int32)), .val (.int (4 : Int32)), .val (.ref b131), .val (.int (1 : Int32)), .val (.int (own_spl (nar .char z3) (0 : Int32))), .val (.int (own_spl (nar .char z6) (own_nb (nar .char z3) (0 : Int32)))), .val (.int (own_spl (nar .char z9) (own_nb (nar .char z6) (own_nb (nar .char z3) (0 : Int32))))), .unset, .unset]) X148 hx (hb hby at_174) rfl rfl ?_
    refine own_iload (n := 178) X148 hx (hb hby at_176) rfl rfl ?_
    refine own_ifNo (n := 181) X148 hx (hb hby at_178) (feq (by decide : ¬ ((1 : Int32) = (0 : Int32)))).1 rfl ?_
    refine own_iload (n := 183) X148 hx (hb hby at_181) rfl rfl ?_
    refine own_aload (n := 185) X148 hx (hb hby at_183) rfl rfl rfl ?_
    refine own_iconst (n := 186) (z := (2 : Int32)) X148 hx (hb hby at_185) rfl rfl ?_
    refine own_iconst (n := 187) (z := (2 : Int32)) X148 hx (hb hby at_186) rfl rfl ?_
    refine own_iload (n := 189) X148 hx (hb hby at_187) rfl rfl ?_
    refine own_S (n := 192) (argsL := [(.int (2 : Int32)), (.int (4 : Int32))]) (rest := [(.int (2 : Int32)), (.ref b1), (.int (own_spl (nar .char z9) (own_nb (nar .char z6) (own_nb (nar .char z3) (0 : Int32)))))]) X148 hx hZ hown (own_rmX_2_4 l Z a0 hw T148.heap n0 Z_151) (ww21 hw) (ww22 hw) (ww3 hw) (ww23 hw) (by decide) rfl (by rw [hml]; rfl) (lenOf own_pd3 rfl) rfl (hb hby at_189) (Nat.le_of_ble_eq_true rfl) (Nat.le_of_ble_eq_true rfl) (Nat.le_of_ble_eq_true rfl) (Nat.le_of_ble_eq_true rfl) rfl ?_
    rintro v152 T152 L152 X152 ⟨rfl, Nq152, eq152⟩
    have N152 := Fr.app N148 Nq152
    change own_G p e below _ _ (mkF m 192 _ [(.int (0 : Int32)), (.int (2 : Int32)), (.ref b1), (.int (own_spl (nar .char z9) (own_nb (nar .char z6) (own_nb (nar .char z3) (0 : Int32)))))])
    refine own_S (n := 195) (argsL := [(.ref b1), (.int (2 : Int32)), (.int (0 : Int32))]) (rest := [(.int (own_spl (nar .char z9) (own_nb (nar .char z6) (own_nb (nar .char z3) (0 : Int32)))))]) X152 hx hZ hown (own_rmF_2_0 l Z a0 hw b1 k1 (nar .char z3) (nar .char z6) (nar .char z9) (nar .char z12) (nar .char z15) T148.heap n0 Z_151 A_149) (ww24 hw) (ww25 hw) (ww3 hw) (ww26 hw) (by decide) eq152 (by rw [hml]; rfl) (lenOf own_pd4 rfl) rfl (hb hby at_192) (Nat.le_of_ble_eq_true rfl) (Nat.le_of_ble_eq_true rfl) (Nat.le_of_ble_eq_true rfl) (Nat.le_of_ble_eq_true rfl) rfl ?_
    rintro v153 T153 L153 X153 ⟨rfl, Nq153, eq153⟩
    have N153 := Fr.app N152 Nq153
    change own_G p e below _ _ (mkF m 195 _ [(.int (own_r (nar .char z9) (nar .char z6) (nar .char z3))), (.int (own_spl (nar .char z9) (own_nb (nar .char z6) (own_nb (nar .char z3) (0 : Int32)))))])
    refine own_icmpNo (n := 198) X153 hx (hb hby at_195) (teq (own_L2a _ _ _ : (own_spl (nar .char z9) (own_nb (nar .char z6) (own_nb (nar .char z3) (0 : Int32)))) = (own_r (nar .char z9) (nar .char z6) (nar .char z3)))).2 rfl ?_
    refine own_iconst (n := 199) (z := (1 : Int32)) X153 hx (hb hby at_198) rfl rfl ?_
    refine own_goto (n := 203) X153 hx (hb hby at_199) (by decide) (by decide) ?_
    refine own_istore (n := 205) (l' := #[.val (.int p0), .val (.int p1), .val (.int p2), .val (.int p3), .val (.int p4), .val (.int p5), .val (.ref b1), .val (.int (3 : Int32)), .val (.int (4 : Int32)), .val (.ref b131), .val (.int (1 : Int32)), .val (.int (own_spl (nar .char z3) (0 : Int32))), .val (.int (own_spl (nar .char z6) (own_nb (nar .char z3) (0 : Int32)))), .val (.int (own_spl (nar .char z9) (own_nb (nar .char z6) (own_nb (nar .char z3) (0 : Int32))))), .unset, .unset]) X153 hx (hb hby at_203) rfl rfl ?_
    refine own_iload (n := 207) X153 hx (hb hby at_205) rfl rfl ?_
    refine own_iconst (n := 208) (z := (3 : Int32)) X153 hx (hb hby at_207) rfl rfl ?_
    refine own_icmpYes (n := 216) X153 hx (hb hby at_208) (feq (by decide : ¬ ((4 : Int32) = (3 : Int32)))).2 (by decide) (by decide) ?_
    refine own_aload (n := 218) X153 hx (hb hby at_216) rfl rfl rfl ?_
    refine own_aload (n := 220) X153 hx (hb hby at_218) rfl rfl rfl ?_
    refine own_iconst (n := 221) (z := (3 : Int32)) X153 hx (hb hby at_220) rfl rfl ?_
    refine own_ld_caload (n := 222) (v := (.int (nar .char z12))) X153 hx hZ eq153 A_149 ⟨by decide, by decide⟩ rfl (hb hby at_221) rfl ?_
    refine own_V (n := 225) (argsL := [(.int (nar .char z12))]) (rest := []) (a := b131) X153 hx hZ hown (own_rmS l Z a0 hw b131 (nar .char z12) (own_nb (nar .char z9) (own_nb (nar .char z6) (own_nb (nar .char z3) (0 : Int32)))) T148.heap n0 Z_151 E_150 Fq148 g_b131) (ww14 hw) (ww15 hw) (notFace_of_selects (args := #[]) (mvT hZ (ww17 hw))) (ww17 hw) (ww16 hw) (ww7 hw) (ww18 hw) (by decide) eq153 E_150 (by rw [hml]; rfl) (lenOf own_pd2 rfl) rfl (hb hby at_222) (Nat.le_of_ble_eq_true rfl) (Nat.le_of_ble_eq_true rfl) (Nat.le_of_ble_eq_true rfl) (Nat.le_of_ble_eq_true rfl) rfl ?_
    rintro v154 T154 L154 X154 ⟨rfl, Nq154, K154, Eq154, Fq154⟩
    have N154 := Fr.app N153 Nq154
    have A_155 := A_149.keep K154 (by simp [ne_b1_b131])
    have E_156 := E_150.keep K154
    have Z_157 : n0 ≤ T154.heap.size := Nat.le_trans Z_151 K154.1
    change own_G p e below _ _ (mkF m 225 _ [(.int (own_spl (nar .char z12) (own_nb (nar .char z9) (own_nb (nar .char z6) (own_nb (nar .char z3) (0 : Int32))))))])
    refine own_istore (n := 227) (l' := #[.val (.int p0), .val (.int p1), .val (.int p2), .val (.int p3), .val (.int p4), .val (.int p5), .val (.ref b1), .val (.int (3 : Int32)), .val (.int (4 : Int32)), .val (.ref b131), .val (.int (1 : Int32)), .val (.int (own_spl (nar .char z3) (0 : Int32))), .val (.int (own_spl (nar .char z6) (own_nb (nar .char z3) (0 : Int32)))), .val (.int (own_spl (nar .char z9) (own_nb (nar .char z6) (own_nb (nar .char z3) (0 : Int32))))), .val (.int (own_spl (nar .char z12) (own_nb (nar .char z9) (own_nb (nar .char z6) (own_nb (nar .char z3) (0 : Int32)))))), .unset]) X154 hx (hb hby at_225) rfl rfl ?_
    refine own_iload (n := 229) X154 hx (hb hby at_227) rfl rfl ?_
    refine own_ifNo (n := 232) X154 hx (hb hby at_229) (feq (by decide : ¬ ((1 : Int32) = (0 : Int32)))).1 rfl ?_
    refine own_iload (n := 234) X154 hx (hb hby at_232) rfl rfl ?_
    refine own_aload (n := 236) X154 hx (hb hby at_234) rfl rfl rfl ?_
    refine own_iconst (n := 237) (z := (3 : Int32)) X154 hx (hb hby at_236) rfl rfl ?_
    refine own_iconst (n := 238) (z := (3 : Int32)) X154 hx (hb hby at_237) rfl rfl ?_
    refine own_iload (n := 240) X154 hx (hb hby at_238) rfl rfl ?_
    refine own_S (n := 243) (argsL := [(.int (3 : Int32)), (.int (4 : Int32))]) (rest := [(.int (3 : Int32)), (.ref b1), (.int (own_spl (nar .char z12) (own_nb (nar .char z9) (own_nb (nar .char z6) (own_nb (nar .char z3) (0 : Int32))))))]) X154 hx hZ hown (own_rmX_3_4 l Z a0 hw T154.heap n0 Z_157) (ww21 hw) (ww22 hw) (ww3 hw) (ww23 hw) (by decide) rfl (by rw [hml]; rfl) (lenOf own_pd3 rfl) rfl (hb hby at_240) (Nat.le_of_ble_eq_true rfl) (Nat.le_of_ble_eq_true rfl) (Nat.le_of_ble_eq_true rfl) (Nat.le_of_ble_eq_true rfl) rfl ?_
    rintro v158 T158 L158 X158 ⟨rfl, Nq158, eq158⟩
    have N158 := Fr.app N154 Nq158
    change own_G p e below _ _ (mkF m 243 _ [(.int (0 : Int32)), (.int (3 : Int32)), (.ref b1), (.int (own_spl (nar .char z12) (own_nb (nar .char z9) (own_nb (nar .char z6) (own_nb (nar .char z3) (0 : Int32))))))])
    refine own_S (n := 246) (argsL := [(.ref b1), (.int (3 : Int32)), (.int (0 : Int32))]) (rest := [(.int (own_spl (nar .char z12) (own_nb (nar .char z9) (own_nb (nar .char z6) (own_nb (nar .char z3) (0 : Int32))))))]) X158 hx hZ hown (own_rmF_3_0 l Z a0 hw b1 k1 (nar .char z3) (nar .char z6) (nar .char z9) (nar .char z12) (nar .char z15) T154.heap n0 Z_157 A_155) (ww24 hw) (ww25 hw) (ww3 hw) (ww26 hw) (by decide) eq158 (by rw [hml]; rfl) (lenOf own_pd4 rfl) rfl (hb hby at_243) (Nat.le_of_ble_eq_true rfl) (Nat.le_of_ble_eq_true rfl) (Nat.le_of_ble_eq_true rfl) (Nat.le_of_ble_eq_true rfl) rfl ?_
    rintro v159 T159 L159 X159 ⟨rfl, Nq159, eq159⟩
    have N159 := Fr.app N158 Nq159
    change own_G p e below _ _ (mkF m 246 _ [(.int (own_r (nar .char z12) (nar .char z9) (nar .char z6))), (.int (own_spl (nar .char z12) (own_nb (nar .char z9) (own_nb (nar .char z6) (own_nb (nar .char z3) (0 : Int32))))))])
    refine own_icmpNo (n := 249) X159 hx (hb hby at_246) (teq (own_L2b _ _ _ _ : (own_spl (nar .char z12) (own_nb (nar .char z9) (own_nb (nar .char z6) (own_nb (nar .char z3) (0 : Int32))))) = (own_r (nar .char z12) (nar .char z9) (nar .char z6)))).2 rfl ?_
    refine own_iconst (n := 250) (z := (1 : Int32)) X159 hx (hb hby at_249) rfl rfl ?_
    refine own_goto (n := 254) X159 hx (hb hby at_250) (by decide) (by decide) ?_
    refine own_istore (n := 256) (l' := #[.val (.int p0), .val (.int p1), .val (.int p2), .val (.int p3), .val (.int p4), .val (.int p5), .val (.ref b1), .val (.int (3 : Int32)), .val (.int (4 : Int32)), .val (.ref b131), .val (.int (1 : Int32)), .val (.int (own_spl (nar .char z3) (0 : Int32))), .val (.int (own_spl (nar .char z6) (own_nb (nar .char z3) (0 : Int32)))), .val (.int (own_spl (nar .char z9) (own_nb (nar .char z6) (own_nb (nar .char z3) (0 : Int32))))), .val (.int (own_spl (nar .char z12) (own_nb (nar .char z9) (own_nb (nar .char z6) (own_nb (nar .char z3) (0 : Int32)))))), .unset]) X159 hx (hb hby at_254) rfl rfl ?_
    refine own_iload (n := 258) X159 hx (hb hby at_256) rfl rfl ?_
    refine own_iconst (n := 259) (z := (4 : Int32)) X159 hx (hb hby at_258) rfl rfl ?_
    refine own_icmpNo (n := 262) X159 hx (hb hby at_259) (teq (by decide : (4 : Int32) = (4 : Int32))).2 rfl ?_
    refine own_aload (n := 264) X159 hx (hb hby at_262) rfl rfl rfl ?_
    refine own_V (n := 267) (argsL := []) (rest := []) (a := b131) X159 hx hZ hown (own_rmA l Z a0 hw b131 (own_nb (nar .char z12) (own_nb (nar .char z9) (own_nb (nar .char z6) (own_nb (nar .char z3) (0 : Int32))))) T154.heap n0 Z_157 E_156 Fq154 g_b131) (ww27 hw) (ww28 hw) (notFace_of_selects (args := #[]) (mvT hZ (ww30 hw))) (ww30 hw) (ww29 hw) (ww7 hw) (ww31 hw) (by decide) eq159 E_156 (by rw [hml]; rfl) (lenOf own_pd1 rfl) rfl (hb hby at_264) (Nat.le_of_ble_eq_true rfl) (Nat.le_of_ble_eq_true rfl) (Nat.le_of_ble_eq_true rfl) (Nat.le_of_ble_eq_true rfl) rfl ?_
    rintro v160 T160 L160 X160 ⟨rfl, Nq160, K160, Eq160, Fq160⟩
    have N160 := Fr.app N159 Nq160
    have A_161 := A_155.keep K160 (by simp [ne_b1_b131])
    have E_162 := E_156.keep K160
    have Z_163 : n0 ≤ T160.heap.size := Nat.le_trans Z_157 K160.1
    change own_G p e below _ _ (mkF m 267 _ [])
    refine own_aload (n := 269) X160 hx (hb hby at_267) rfl rfl rfl ?_
    refine own_aload (n := 271) X160 hx (hb hby at_269) rfl rfl rfl ?_
    refine own_iconst (n := 272) (z := (4 : Int32)) X160 hx (hb hby at_271) rfl rfl ?_
    refine own_ld_caload (n := 273) (v := (.int (nar .char z15))) X160 hx hZ rfl A_161 ⟨by decide, by decide⟩ rfl (hb hby at_272) rfl ?_
    refine own_V (n := 276) (argsL := [(.int (nar .char z15))]) (rest := []) (a := b131) X160 hx hZ hown (own_rmS l Z a0 hw b131 (nar .char z15) (0 : Int32) T160.heap n0 Z_163 E_162 Fq160 g_b131) (ww14 hw) (ww15 hw) (notFace_of_selects (args := #[]) (mvT hZ (ww17 hw))) (ww17 hw) (ww16 hw) (ww7 hw) (ww18 hw) (by decide) rfl E_162 (by rw [hml]; rfl) (lenOf own_pd2 rfl) rfl (hb hby at_273) (Nat.le_of_ble_eq_true rfl) (Nat.le_of_ble_eq_true rfl) (Nat.le_of_ble_eq_true rfl) (Nat.le_of_ble_eq_true rfl) rfl ?_
    rintro v164 T164 L164 X164 ⟨rfl, Nq164, K164, Eq164, Fq164⟩
    have N164 := Fr.app N160 Nq164
    have A_165 := A_161.keep K164 (by simp [ne_b1_b131])
    have E_166 := E_162.keep K164
    have Z_167 : n0 ≤ T164.heap.size := Nat.le_trans Z_163 K164.1
    change own_G p e below _ _ (mkF m 276 _ [(.int (own_spl (nar .char z15) (0 : Int32)))])
    refine own_istore (n := 278) (l' := #[.val (.int p0), .val (.int p1), .val (.int p2), .val (.int p3), .val (.int p4), .val (.int p5), .val (.ref b1), .val (.int (3 : Int32)), .val (.int (4 : Int32)), .val (.ref b131), .val (.int (1 : Int32)), .val (.int (own_spl (nar .char z3) (0 : Int32))), .val (.int (own_spl (nar .char z6) (own_nb (nar .char z3) (0 : Int32)))), .val (.int (own_spl (nar .char z9) (own_nb (nar .char z6) (own_nb (nar .char z3) (0 : Int32))))), .val (.int (own_spl (nar .char z12) (own_nb (nar .char z9) (own_nb (nar .char z6) (own_nb (nar .char z3) (0 : Int32)))))), .val (.int (own_spl (nar .char z15) (0 : Int32)))]) X164 hx (hb hby at_276) rfl rfl ?_
    refine own_iload (n := 280) X164 hx (hb hby at_278) rfl rfl ?_
    refine own_ifNo (n := 283) X164 hx (hb hby at_280) (feq (by decide : ¬ ((1 : Int32) = (0 : Int32)))).1 rfl ?_
    refine own_iload (n := 285) X164 hx (hb hby at_283) rfl rfl ?_
    refine own_aload (n := 287) X164 hx (hb hby at_285) rfl rfl rfl ?_
    refine own_iconst (n := 288) (z := (4 : Int32)) X164 hx (hb hby at_287) rfl rfl ?_
    refine own_iconst (n := 289) (z := (4 : Int32)) X164 hx (hb hby at_288) rfl rfl ?_
    refine own_iload (n := 291) X164 hx (hb hby at_289) rfl rfl ?_
    refine own_S (n := 294) (argsL := [(.int (4 : Int32)), (.int (4 : Int32))]) (rest := [(.int (4 : Int32)), (.ref b1), (.int (own_spl (nar .char z15) (0 : Int32)))]) X164 hx hZ hown (own_rmX_4_4 l Z a0 hw T164.heap n0 Z_167) (ww21 hw) (ww22 hw) (ww3 hw) (ww23 hw) (by decide) rfl (by rw [hml]; rfl) (lenOf own_pd3 rfl) rfl (hb hby at_291) (Nat.le_of_ble_eq_true rfl) (Nat.le_of_ble_eq_true rfl) (Nat.le_of_ble_eq_true rfl) (Nat.le_of_ble_eq_true rfl) rfl ?_
    rintro v168 T168 L168 X168 ⟨rfl, Nq168, eq168⟩
    have N168 := Fr.app N164 Nq168
    change own_G p e below _ _ (mkF m 294 _ [(.int (4 : Int32)), (.int (4 : Int32)), (.ref b1), (.int (own_spl (nar .char z15) (0 : Int32)))])
    refine own_S (n := 297) (argsL := [(.ref b1), (.int (4 : Int32)), (.int (4 : Int32))]) (rest := [(.int (own_spl (nar .char z15) (0 : Int32)))]) X168 hx hZ hown (own_rmF_4_4 l Z a0 hw b1 k1 (nar .char z3) (nar .char z6) (nar .char z9) (nar .char z12) (nar .char z15) T164.heap n0 Z_167 A_165) (ww24 hw) (ww25 hw) (ww3 hw) (ww26 hw) (by decide) eq168 (by rw [hml]; rfl) (lenOf own_pd4 rfl) rfl (hb hby at_294) (Nat.le_of_ble_eq_true rfl) (Nat.le_of_ble_eq_true rfl) (Nat.le_of_ble_eq_true rfl) (Nat.le_of_ble_eq_true rfl) rfl ?_
    rintro v169 T169 L169 X169 ⟨rfl, Nq169, eq169⟩
    have N169 := Fr.app N168 Nq169
    change own_G p e below _ _ (mkF m 297 _ [(.int (0 : Int32)), (.int (own_spl (nar .char z15) (0 : Int32)))])
    refine own_icmpNo (n := 300) X169 hx (hb hby at_297) (teq (own_L0 _ : (own_spl (nar .char z15) (0 : Int32)) = (0 : Int32))).2 rfl ?_
    refine own_iconst (n := 301) (z := (1 : Int32)) X169 hx (hb hby at_300) rfl rfl ?_
    refine own_goto (n := 305) X169 hx (hb hby at_301) (by decide) (by decide) ?_
    refine own_istore (n := 307) (l' := #[.val (.int p0), .val (.int p1), .val (.int p2), .val (.int p3), .val (.int p4), .val (.int p5), .val (.ref b1), .val (.int (3 : Int32)), .val (.int (4 : Int32)), .val (.ref b131), .val (.int (1 : Int32)), .val (.int (own_spl (nar .char z3) (0 : Int32))), .val (.int (own_spl (nar .char z6) (own_nb (nar .char z3) (0 : Int32)))), .val (.int (own_spl (nar .char z9) (own_nb (nar .char z6) (own_nb (nar .char z3) (0 : Int32))))), .val (.int (own_spl (nar .char z12) (own_nb (nar .char z9) (own_nb (nar .char z6) (own_nb (nar .char z3) (0 : Int32)))))), .val (.int (own_spl (nar .char z15) (0 : Int32)))]) X169 hx (hb hby at_305) rfl rfl ?_
    refine own_iload (n := 309) X169 hx (hb hby at_307) rfl rfl ?_
    refine own_retZ X169 hx hlk hret (by simp) eq169 (w := (1 : Int32)) rfl (hb hby at_309) (by decide) (by decide) ?_
    exact ⟨rfl, N169⟩
set_option maxRecDepth 65536 in
set_option maxHeartbeats 40000000 in
theorem comes_1 {Post : Tables → Env → Array Value → State → Outcome → State → Prop} (hpost : ∀ tb e args s v u, (limb_1_1.after args s (.returned v) u = true ∧ limb_1_2.after args s (.returned v) u = true ∧ True) → FrameEnd s (.returned v) u (Jvm.fieldLocs frame_1_writes args s ++ Jvm.arrayLocs frame_1_arrays args s ++ Jvm.staticLocs frame_1_statics s) 16 128 → Post tb e args s (.returned v) u) :
    ArmFor flags0 classFile x code maxLocals ret World_1 tables_1 room_1 Calls_1 rest_1 Pre_1 Post := by
  intro l hfl _ _ p e ha hc hk s m args below hf hA hF happ hP
  obtain ⟨hcalls, hrest, hpre⟩ := hP
  obtain ⟨-, -, -, hnamed, -, -, -, hat⟩ := (Spec.applies_iff hf).mp happ
  obtain ⟨hg, hn⟩ := and_e (Cond.before_iff.mp (show (Jvm.Cond.and given_1 narrow_1).before args s = true from hpre))
  obtain ⟨hcount, hr0⟩ := and_e hg
  obtain ⟨ha0, hr1⟩ := and_e hr0
  obtain ⟨ha1, hr2⟩ := and_e hr1
  obtain ⟨ha2, hr3⟩ := and_e hr2
  obtain ⟨ha3, hr4⟩ := and_e hr3
  obtain ⟨ha4, hr5⟩ := and_e hr4
  obtain ⟨w0, w1, w2, w3, w4, w5, rfl⟩ : ∃ w0 w1 w2 w3 w4 w5 : Value, args = #[w0, w1, w2, w3, w4, w5] := by
    have hs : args.size = 6 := by simpa [Cond.value, given_1] using hcount
    obtain ⟨L⟩ := args
    match L, hs with
    | [w0, w1, w2, w3, w4, w5], _ => exact ⟨w0, w1, w2, w3, w4, w5, rfl⟩
  have hw := fun d (hd : d ∈ tables_1) => atoms_spec (ws := Jvm.Cond.code x code maxLocals ret :: tables_1) hat d (List.mem_cons_of_mem _ hd)
  have hfit : Fit s := fun {y c} hc i hi => by
    obtain ⟨ha, rfl⟩ := Array.getElem?_eq_some_iff.mp hc
    have q := List.all_eq_true.mp ((Array.all_eq_true_iff_forall_mem.mp hF) _ (Array.getElem_mem ha)) i (List.mem_range.mpr hi)
    simpa [Array.getElem?_eq_getElem hi] using q
  obtain ⟨i0, ev0⟩ := is_v ha0
  obtain rfl : w0 = (.int i0) := Option.some.inj ev0
  obtain ⟨i1, ev1⟩ := is_v ha1
  obtain rfl : w1 = (.int i1) := Option.some.inj ev1
  obtain ⟨i2, ev2⟩ := is_v ha2
  obtain rfl : w2 = (.int i2) := Option.some.inj ev2
  obtain ⟨i3, ev3⟩ := is_v ha3
  obtain rfl : w3 = (.int i3) := Option.some.inj ev3
  obtain ⟨i4, ev4⟩ := is_v ha4
  obtain rfl : w4 = (.int i4) := Option.some.inj ev4
  obtain ⟨i5, ev5⟩ := is_v hr5
  obtain rfl : w5 = (.int i5) := Option.some.inj ev5
  obtain ⟨n, o, h1, h2, h3, _, L, rfl, ⟨rfl, N⟩, hq⟩ := own_rm0 l s _ hw i0 i1 i2 i3 i4 i5 s.heap s.heap.size (Nat.le_refl _) p e ha hc hk s m _ below hf ((Spec.applies_iff_loose hf).mp happ).1 ⟨rfl, State.Warmed39.refl s, rfl⟩ trivial
  refine ⟨n, _, h1, h2, h3, hpost _ _ _ _ _ _ ⟨Cond.after_iff.mpr rfl, Cond.after_iff.mpr (eq_i res_at (Term.int_eval (1)) rfl), trivial⟩ ⟨hq.1, hq.2.1, (hq.2.2.sift fun y hy => Or.inr (N y hy)).mono (by decide) (by decide)⟩⟩
theorem main_1_1 : Claimed_1_1 := comes_1 fun _ _ _ _ _ _ h hF => ⟨h.1, hF⟩
theorem main_1_2 : Claimed_1_2 := comes_1 fun _ _ _ _ _ _ h hF => ⟨h.2.1, hF⟩
end Jvm.Pilot.@@N@@
namespace Jvm.Pilot.@@N@@
open Jvm Jvm.ClassFile Sem Op Lib Jvm.Free Jvm.Stand Jvm.Pilot.@@N@@.Jvm.D
/-! MADE BY PROGRAM (witnessworld.py) out of the Statement's table words and the real class files: 11 classes; the members and pool entries that the words name. The judged class is class 1, her method 4. -/
namespace start1
open Jvm.ClassFile
def u (s : String) : CpInfo := .utf8 (stringToUtf16 s)
/-- a pool by its gaps: so many unusable entries, then the entry; so many at the end -/
def gap : Nat → List CpInfo → List CpInfo
  | 0, r => r
  | n + 1, r => .unusable :: gap n r
def poolList (es : List (Nat × CpInfo)) (last : Nat) : List CpInfo := es.foldr (fun e r => gap e.1 (e.2 :: r)) (gap last [])
def pool (es : List (Nat × CpInfo)) (last : Nat) : Array CpInfo := ⟨poolList es last⟩
def fileOf (pool : Array CpInfo) (this : Nat) (attrs : Array Attribute := #[]) (ms : Array MethodInfo := #[]) (fl : Nat := 33) (sup : Nat := 0) (ifs : Array Nat := #[]) (fds : Array FieldInfo := #[]) : ClassFile where
  minorVersion := 0
  majorVersion := 65
  constantPool := pool
  accessFlags := fl
  thisClass := this
  superClass := sup
  interfaces := ifs
  fields := fds
  methods := ms
  attributes := attrs
def plain (name : String) (sup : Option ClassId) : Class where
  name := name
  kind := .ordinary
  loader := none
  accessFlags := 33
  super := sup
  interfaces := #[]
  cf := none
  fields := #[]
  methods := #[]
  instanceTypes := #[]
  staticTypes := #[]
  resolved := #[]
  callSites := []
  init := .initialized
  statics := none
  mirror := none

def pool0 : Array CpInfo := pool [(5, u "<init>"), (0, u "()V"), (1, .class_ 10), (1, u "java/lang/Object")] 113

def k0c0 : Code := { maxStack := 0, maxLocals := 1, code := object_method_1_code, exceptionTable := #[], attributes := #[] }
def k0m0 : Method := { name := "<init>", desc := "()V", sig := { parameters := [], returnType := none }, accessFlags := 1, code := some k0c0 }
/-- java/lang/Object -/
def k0 : Class := { plain "java/lang/Object" none with
  accessFlags := 33
  interfaces := #[]
  cf := some (fileOf pool0 8 #[] #[{ accessFlags := 1, nameIndex := 5, descriptorIndex := 6, attributes := #[] }] 33 0 #[] #[])
  fields := #[]
  methods := #[k0m0]
  instanceTypes := #[]
  staticTypes := #[]
  resolved := Array.replicate 124 none
  statics := none }

def pool1 : Array CpInfo := pool [(2, .class_ 4), (0, .nameAndType 5 6), (0, u "java/lang/Object"), (0, u "<init>"), (0, u "()V"), (0, .methodref 8 9), (0, .class_ 10), (0, .nameAndType 11 12), (0, u "com/example/xml_stream_transform/xmlstreamtransform/output/CdataSplitterSplitsBeforePinLaw"), (0, u "ch"), (0, u "(I)C"), (0, .class_ 14), (0, u "com/example/xml_stream_transform/xmlstreamtransform/output/CdataSplitter"), (0, .methodref 13 3), (0, .methodref 13 17), (0, .nameAndType 18 19), (0, u "splitsBefore"), (0, u "(C)Z"), (0, .methodref 8 21), (0, .nameAndType 22 23), (0, u "sectionStart"), (0, u "(II)I"), (0, .methodref 8 25), (0, .nameAndType 26 27), (0, u "ref"), (0, u "([CII)Z"), (0, .methodref 13 29), (0, .nameAndType 30 6), (0, u "start"), (3, u "law"), (0, u "(IIIIII)Z")] 4

def k1m0 : Method := { name := "<init>", desc := "()V", sig := { parameters := [], returnType := none }, accessFlags := 1, code := none }
def k1c1 : Code := { maxStack := 2, maxLocals := 2, code := method_2_code, exceptionTable := #[], attributes := #[] }
def k1m1 : Method := { name := "ch", desc := "(I)C", sig := { parameters := [.int], returnType := some .char }, accessFlags := 10, code := some k1c1 }
def k1c2 : Code := { maxStack := 2, maxLocals := 2, code := method_3_code, exceptionTable := #[], attributes := #[] }
def k1m2 : Method := { name := "sectionStart", desc := "(II)I", sig := { parameters := [.int, .int], returnType := some .int }, accessFlags := 10, code := some k1c2 }
def k1c3 : Code := { maxStack := 3, maxLocals := 3, code := method_4_code, exceptionTable := #[], attributes := #[] }
def k1m3 : Method := { name := "ref", desc := "([CII)Z", sig := { parameters := [(.array .char), .int, .int], returnType := some .boolean }, accessFlags := 10, code := some k1c3 }
def k1c4 : Code := { maxStack := 5, maxLocals := 16, code := code, exceptionTable := #[], attributes := #[] }
def k1m4 : Method := { name := "law", desc := "(IIIIII)Z", sig := { parameters := [.int, .int, .int, .int, .int, .int], returnType := some .boolean }, accessFlags := 9, code := some k1c4 }
/-- com/example/xml_stream_transform/xmlstreamtransform/output/CdataSplitterSplitsBeforePinLaw -/
def k1 : Class := { plain "com/example/xml_stream_transform/xmlstreamtransform/output/CdataSplitterSplitsBeforePinLaw" (some 0) with
  accessFlags := 49
  interfaces := #[]
  cf := some (fileOf pool1 8 #[] #[{ accessFlags := 1, nameIndex := 5, descriptorIndex := 6, attributes := #[] }, { accessFlags := 10, nameIndex := 11, descriptorIndex := 12, attributes := #[] }, { accessFlags := 10, nameIndex := 22, descriptorIndex := 23, attributes := #[] }, { accessFlags := 10, nameIndex := 26, descriptorIndex := 27, attributes := #[] }, { accessFlags := 9, nameIndex := 34, descriptorIndex := 35, attributes := #[] }] 49 2 #[] #[])
  fields := #[]
  methods := #[k1m0, k1m1, k1m2, k1m3, k1m4]
  instanceTypes := #[]
  staticTypes := #[]
  resolved := Array.replicate 40 none
  statics := none }

def pool2 : Array CpInfo := pool [(1, .methodref 2 3), (0, .class_ 4), (0, .nameAndType 5 6), (0, u "java/lang/Object"), (0, u "<init>"), (0, u "()V"), (0, .fieldref 8 9), (0, .class_ 10), (0, .nameAndType 11 12), (0, u "com/example/xml_stream_transform/xmlstreamtransform/output/CdataSplitter"), (0, u "brackets"), (0, u "I"), (2, u "start"), (0, u "splitsBefore"), (0, u "(C)Z")] 3

def k2c0 : Code := { maxStack := 1, maxLocals := 1, code := prog_29_method_1_code, exceptionTable := #[], attributes := #[] }
def k2m0 : Method := { name := "<init>", desc := "()V", sig := { parameters := [], returnType := none }, accessFlags := 0, code := some k2c0 }
def k2c1 : Code := { maxStack := 2, maxLocals := 1, code := prog_29_method_2_code, exceptionTable := #[], attributes := #[] }
def k2m1 : Method := { name := "start", desc := "()V", sig := { parameters := [], returnType := none }, accessFlags := 0, code := some k2c1 }
def k2c2 : Code := { maxStack := 3, maxLocals := 3, code := prog_29_method_3_code, exceptionTable := #[], attributes := #[] }
def k2m2 : Method := { name := "splitsBefore", desc := "(C)Z", sig := { parameters := [.char], returnType := some .boolean }, accessFlags := 0, code := some k2c2 }
/-- com/example/xml_stream_transform/xmlstreamtransform/output/CdataSplitter -/
def k2 : Class := { plain "com/example/xml_stream_transform/xmlstreamtransform/output/CdataSplitter" (some 0) with
  accessFlags := 32
  interfaces := #[]
  cf := some (fileOf pool2 8 #[] #[{ accessFlags := 0, nameIndex := 5, descriptorIndex := 6, attributes := #[] }, { accessFlags := 0, nameIndex := 15, descriptorIndex := 6, attributes := #[] }, { accessFlags := 0, nameIndex := 16, descriptorIndex := 17, attributes := #[] }] 32 2 #[] #[{ accessFlags := 2, nameIndex := 11, descriptorIndex := 12, attributes := #[] }])
  fields := #[{ name := "brackets", type := .int, accessFlags := 2, slot := 0, constantValue := 0 }]
  methods := #[k2m0, k2m1, k2m2]
  instanceTypes := #[.int]
  staticTypes := #[]
  resolved := Array.replicate 21 none
  statics := none }

def pool3 : Array CpInfo := pool [(1, u "java/lang/Cloneable"), (0, .class_ 1), (0, u "java/lang/Object"), (0, .class_ 3)] 3

/-- java/lang/Cloneable -/
def k3 : Class := { plain "java/lang/Cloneable" (some 0) with
  accessFlags := 1537
  interfaces := #[]
  cf := some (fileOf pool3 2 #[] #[] 1537 4 #[] #[])
  fields := #[]
  methods := #[]
  instanceTypes := #[]
  staticTypes := #[]
  resolved := Array.replicate 8 none
  statics := none }

def pool4 : Array CpInfo := pool [(1, u "java/io/Serializable"), (0, .class_ 1), (0, u "java/lang/Object"), (0, .class_ 3)] 3

/-- java/io/Serializable -/
def k4 : Class := { plain "java/io/Serializable" (some 0) with
  accessFlags := 1537
  interfaces := #[]
  cf := some (fileOf pool4 2 #[] #[] 1537 4 #[] #[])
  fields := #[]
  methods := #[]
  instanceTypes := #[]
  staticTypes := #[]
  resolved := Array.replicate 8 none
  statics := none }

/-- the primitive byte -/
def k5 : Class := { plain "byte" none with kind := .primitive 'B', accessFlags := 0x411 }
/-- [B -/
def k6 : Class := { plain "[B" (some 0) with kind := .array 5 .byte, interfaces := #[3, 4], accessFlags := 1041 }

/-- the primitive char -/
def k7 : Class := { plain "char" none with kind := .primitive 'C', accessFlags := 0x411 }
/-- [C -/
def k8 : Class := { plain "[C" (some 0) with kind := .array 7 .char, interfaces := #[3, 4], accessFlags := 1041 }

/-- the primitive int -/
def k9 : Class := { plain "int" none with kind := .primitive 'I', accessFlags := 0x411 }
/-- [I -/
def k10 : Class := { plain "[I" (some 0) with kind := .array 9 .int, interfaces := #[3, 4], accessFlags := 1041 }

def heap : Heap := #[]
def classes : Array Class := #[k0, k1, k2, k3, k4, k5, k6, k7, k8, k9, k10]
def interned : List (Array UInt16 × Addr) := []
def slotsUsed : Nat := 0
def theMethod : MethodId := ⟨1, 4⟩
def args0 : Array Value := #[.int 5, .int 300, .int 7, .int 8, .int 9, .int 10]
def aboutOver (below : List Frame) : State where
  vm := { classes := classes, interned := interned.toArray }
  heap := heap
  slotsUsed := slotsUsed
  threads := #[{ frames := .invoking theMethod args0 :: below }]
def below0 : List Frame := [.native { method := ⟨0, 0⟩, args := #[] }]
def about1 : State := aboutOver below0
def p0 : Program := .bare "" "" ""
def e0 : Env := launch0.env 0 0 0
theorem w_frames : about1.frames = Frame.invoking theMethod args0 :: below0 := rfl
set_option maxRecDepth 65536 in
theorem w_args : argsFit about1.vm theMethod args0 = true := by decide +kernel
set_option maxRecDepth 65536 in
theorem w_heap : heapFits about1 = true := by decide +kernel
set_option maxRecDepth 65536 in
theorem w_runnable : about1.curStatus? = some .runnable := by decide +kernel
set_option maxRecDepth 65536 in
theorem w_alone : about1.alone = true := by decide +kernel
set_option maxRecDepth 65536 in
theorem w_named : about1.methodNamed? x = some theMethod := by decide +kernel
set_option maxRecDepth 65536 in
theorem w_hears : about1.hears theMethod below0 = true := by decide +kernel
set_option maxRecDepth 65536 in
theorem w_ripe : about1.ripe theMethod args0 below0 = true := by decide +kernel
theorem w_running : about1.status = .running := rfl
set_option maxRecDepth 65536 in
theorem w_room : about1.hasRoom e0.platform room_1 = true :=
  launch0.hasRoom_least _ room_1 (by decide +kernel) (by decide +kernel) (by decide +kernel) (by decide +kernel) (by decide +kernel) (by decide +kernel)
theorem allAtoms_all (ts : List Jvm.Cond) (a : Array Jvm.Value) (st : Jvm.State) : (allAtoms ts).before a st = ts.all (fun c => c.before a st) := by
  induction ts with
  | nil => rfl
  | cons c t ih =>
    show (Jvm.Cond.and c (allAtoms t)).before a st = _
    rw [Jvm.Cond.before_and, ih, List.all_cons]
def words1 : List Jvm.Cond := Jvm.Cond.code x code maxLocals ret :: tables_1
/-- a 'code' word, met by the world's own term for the bytes: nothing is compared byte by byte -/
theorem code_word {y : MethodName} {bytes : ByteArray} {mx : Nat} {rt : Option FieldType} {a : Array Value} {s : State} {m : MethodId} {meth : Method} {c : Code} (h1 : s.methodNamed? y = some m) (h2 : s.vm.method? m = some meth) (h3 : meth.code = some c) (h4 : c.code = bytes)
    (h5 : (c.maxLocals == mx && c.exceptionTable.isEmpty && decide (c.maxStack ≤ mostOperands) && decide (meth.sig.returnType = rt) && !meth.locks && decide (parseMethodDescriptor y.desc = some meth.sig)) = true) : (Jvm.Cond.code y bytes mx rt).before a s = true := by
  simp only [Bool.and_eq_true, beq_iff_eq, Bool.not_eq_true', decide_eq_true_eq] at h5
  obtain ⟨⟨⟨⟨⟨g1, g2⟩, g3⟩, g4⟩, g5⟩, g6⟩ := h5
  simp [Cond.before, Cond.holds, Cond.value, h1, h2, h3, h4, g1, g2, g3, g4, g5, g6]
def isCode : Jvm.Cond → Bool
  | .code _ _ _ _ => true
  | _ => false
theorem all_split {L : List Jvm.Cond} {P : Jvm.Cond → Bool} (h1 : L.all (fun c => isCode c || P c) = true) (h2 : ∀ c ∈ L.filter isCode, P c = true) : L.all P = true := by
  refine List.all_eq_true.mpr fun c hc => ?_
  have h := List.all_eq_true.mp h1 c hc
  rcases Bool.eq_false_or_eq_true (isCode c) with hi | hi
  · exact h2 c (List.mem_filter.mpr ⟨hc, hi⟩)
  · simpa [hi] using h
set_option maxRecDepth 65536 in
theorem w_c0 : (Jvm.Cond.code x code maxLocals ret).before args0 about1 = true := code_word (m := ⟨1, 4⟩) (meth := k1m4) (c := k1c4) (by decide +kernel) rfl rfl rfl (by decide +kernel)
set_option maxRecDepth 65536 in
theorem w_c1 : (Jvm.Cond.code ({ cls := "com/example/xml_stream_transform/xmlstreamtransform/output/CdataSplitterSplitsBeforePinLaw", name := "ch", desc := "(I)C" } : Jvm.MethodName) method_2_code (2 : Nat) (Option.some Jvm.ClassFile.FieldType.char)).before args0 about1 = true := code_word (m := ⟨1, 1⟩) (meth := k1m1) (c := k1c1) (by decide +kernel) rfl rfl rfl (by decide +kernel)
set_option maxRecDepth 65536 in
theorem w_c2 : (Jvm.Cond.code ({ cls := "com/example/xml_stream_transform/xmlstreamtransform/output/CdataSplitter", name := "<init>", desc := "()V" } : Jvm.MethodName) prog_29_method_1_code (1 : Nat) (Option.none : Option Jvm.ClassFile.FieldType)).before args0 about1 = true := code_word (m := ⟨2, 0⟩) (meth := k2m0) (c := k2c0) (by decide +kernel) rfl rfl rfl (by decide +kernel)
set_option maxRecDepth 65536 in
theorem w_c3 : (Jvm.Cond.code ({ cls := "java/lang/Object", name := "<init>", desc := "()V" } : Jvm.MethodName) object_method_1_code (1 : Nat) (Option.none : Option Jvm.ClassFile.FieldType)).before args0 about1 = true := code_word (m := ⟨0, 0⟩) (meth := k0m0) (c := k0c0) (by decide +kernel) rfl rfl rfl (by decide +kernel)
set_option maxRecDepth 65536 in
theorem w_c4 : (Jvm.Cond.code ({ cls := "com/example/xml_stream_transform/xmlstreamtransform/output/CdataSplitter", name := "splitsBefore", desc := "(C)Z" } : Jvm.MethodName) prog_29_method_3_code (3 : Nat) (Option.some Jvm.ClassFile.FieldType.boolean)).before args0 about1 = true := code_word (m := ⟨2, 2⟩) (meth := k2m2) (c := k2c2) (by decide +kernel) rfl rfl rfl (by decide +kernel)
set_option maxRecDepth 65536 in
theorem w_c5 : (Jvm.Cond.code ({ cls := "com/example/xml_stream_transform/xmlstreamtransform/output/CdataSplitterSplitsBeforePinLaw", name := "sectionStart", desc := "(II)I" } : Jvm.MethodName) method_3_code (2 : Nat) (Option.some Jvm.ClassFile.FieldType.int)).before args0 about1 = true := code_word (m := ⟨1, 2⟩) (meth := k1m2) (c := k1c2) (by decide +kernel) rfl rfl rfl (by decide +kernel)
set_option maxRecDepth 65536 in
theorem w_c6 : (Jvm.Cond.code ({ cls := "com/example/xml_stream_transform/xmlstreamtransform/output/CdataSplitterSplitsBeforePinLaw", name := "ref", desc := "([CII)Z" } : Jvm.MethodName) method_4_code (3 : Nat) (Option.some Jvm.ClassFile.FieldType.boolean)).before args0 about1 = true := code_word (m := ⟨1, 3⟩) (meth := k1m3) (c := k1c3) (by decide +kernel) rfl rfl rfl (by decide +kernel)
set_option maxRecDepth 65536 in
theorem w_c7 : (Jvm.Cond.code ({ cls := "com/example/xml_stream_transform/xmlstreamtransform/output/CdataSplitter", name := "start", desc := "()V" } : Jvm.MethodName) prog_29_method_2_code (1 : Nat) (Option.none : Option Jvm.ClassFile.FieldType)).before args0 about1 = true := code_word (m := ⟨2, 1⟩) (meth := k2m1) (c := k2c1) (by decide +kernel) rfl rfl rfl (by decide +kernel)
def codes1 : List Jvm.Cond := [Jvm.Cond.code x code maxLocals ret, Jvm.Cond.code ({ cls := "com/example/xml_stream_transform/xmlstreamtransform/output/CdataSplitterSplitsBeforePinLaw", name := "ch", desc := "(I)C" } : Jvm.MethodName) method_2_code (2 : Nat) (Option.some Jvm.ClassFile.FieldType.char), Jvm.Cond.code ({ cls := "com/example/xml_stream_transform/xmlstreamtransform/output/CdataSplitter", name := "<init>", desc := "()V" } : Jvm.MethodName) prog_29_method_1_code (1 : Nat) (Option.none : Option Jvm.ClassFile.FieldType), Jvm.Cond.code ({ cls := "java/lang/Object", name := "<init>", desc := "()V" } : Jvm.MethodName) object_method_1_code (1 : Nat) (Option.none : Option Jvm.ClassFile.FieldType), Jvm.Cond.code ({ cls := "com/example/xml_stream_transform/xmlstreamtransform/output/CdataSplitter", name := "splitsBefore", desc := "(C)Z" } : Jvm.MethodName) prog_29_method_3_code (3 : Nat) (Option.some Jvm.ClassFile.FieldType.boolean), Jvm.Cond.code ({ cls := "com/example/xml_stream_transform/xmlstreamtransform/output/CdataSplitterSplitsBeforePinLaw", name := "sectionStart", desc := "(II)I" } : Jvm.MethodName) method_3_code (2 : Nat) (Option.some Jvm.ClassFile.FieldType.int), Jvm.Cond.code ({ cls := "com/example/xml_stream_transform/xmlstreamtransform/output/CdataSplitterSplitsBeforePinLaw", name := "ref", desc := "([CII)Z" } : Jvm.MethodName) method_4_code (3 : Nat) (Option.some Jvm.ClassFile.FieldType.boolean), Jvm.Cond.code ({ cls := "com/example/xml_stream_transform/xmlstreamtransform/output/CdataSplitter", name := "start", desc := "()V" } : Jvm.MethodName) prog_29_method_2_code (1 : Nat) (Option.none : Option Jvm.ClassFile.FieldType)]
set_option maxRecDepth 65536 in
theorem codes_eq : words1.filter isCode = codes1 := rfl
theorem w_codes : ∀ c ∈ words1.filter isCode, c.before args0 about1 = true := by
  rw [codes_eq]
  intro c hc
  simp only [codes1, List.mem_cons, List.not_mem_nil, or_false] at hc
  rcases hc with rfl | rfl | rfl | rfl | rfl | rfl | rfl | rfl
  · exact w_c0
  · exact w_c1
  · exact w_c2
  · exact w_c3
  · exact w_c4
  · exact w_c5
  · exact w_c6
  · exact w_c7
set_option maxRecDepth 65536 in
theorem w_t1 : (words1.take 24).all (fun c => isCode c || c.before args0 about1) = true := by decide +kernel
set_option maxRecDepth 65536 in
theorem w_t2 : (words1.drop 24).all (fun c => isCode c || c.before args0 about1) = true := by decide +kernel
theorem w_tables : (allAtoms (Jvm.Cond.code x code maxLocals ret :: tables_1)).before args0 about1 = true := by
  rw [allAtoms_all]
  show words1.all (fun c => c.before args0 about1) = true
  refine all_split ?_ w_codes
  rw [← List.take_append_drop 24 words1, List.all_append, w_t1, w_t2]
  rfl
set_option maxRecDepth 65536 in
theorem w_case : (Jvm.Cond.and given_1 narrow_1).before args0 about1 = true := by decide +kernel
theorem w_applies : (headSpec (Jvm.Cond.code x code maxLocals ret :: tables_1) room_1).applies x e0.platform about1 = true :=
  (Spec.applies_iff w_frames).mpr ⟨w_running, w_runnable, w_alone, w_named, w_hears, w_ripe, w_room, w_tables⟩
theorem atStart : AtStart classFile x code maxLocals ret World_1 tables_1 room_1 Calls_1 rest_1 Pre_1 launch0 p0 e0 about1 theMethod args0 below0 :=
  ⟨lists_1, trivial, launch0.admits_env _ _ _, launch0.least_env, fairChoices_fair.cas, fairChoices_fair.clock, w_frames, w_args, w_heap, w_applies, trivial, trivial, w_case⟩
end start1
theorem witness_1 : WitnessClaimed_1 := ⟨start1.p0, start1.e0, start1.about1, start1.theMethod, start1.args0, start1.below0, start1.atStart⟩
end Jvm.Pilot.@@N@@
