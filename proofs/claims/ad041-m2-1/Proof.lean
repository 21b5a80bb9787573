import JvmDerived
import JvmDerived.Pilot.@@N@@Statement
import JvmDerived.Pilot.@@N@@Code
set_option linter.unusedVariables false
set_option linter.unusedSimpArgs false

namespace Jvm.Pilot.@@N@@
open Jvm Jvm.ClassFile Sem Op Lib Jvm.Free Jvm.Stand Jvm.LawKit Jvm.RoadKit Bundle Jvm.Pilot.@@N@@.Jvm.D
section OwnKit
variable {p : Program} {l : Launch} {e : Env} {R : Room} {s : State} {m : MethodId} {args : Array Value} {below : List Frame} {meth : Method} {c : Code} {T : State} {locs : List Loc} {cells slots : Nat} {Z : State} {a0 : Array Value} {h : Heap}
/-- the run goes on from T with the frame f on top to an end that K says -/
def own_G (p : Program) (e : Env) (below : List Frame) (K : Outcome → State → Prop) (T : State) (f : JFrame) : Prop := ∃ s₂ o, Steps p.tables e below (T.setTop f) s₂ ∧ s₂.status = .running ∧ Ended s₂ below o ∧ K o s₂
theorem own_go {K : Outcome → State → Prop} {T' : State} {f f' : JFrame} (st : ∀ t, Steps p.tables e below (T'.setTop f') t → Steps p.tables e below (T.setTop f) t) (h : own_G p e below K T' f') : own_G p e below K T f := by
  obtain ⟨s₂, o, h1, h2⟩ := h
  exact ⟨s₂, o, st _ h1, h2⟩
theorem own_cast {K : Outcome → State → Prop} {f f' : JFrame} (q : f = f') (h : own_G p e below K T f') : own_G p e below K T f := q ▸ h
def own_K (Q : Option Value → Heap → List Loc → Prop) (s : State) (C S : Nat) : Outcome → State → Prop := fun o U => ∃ v L, o = .returned v ∧ Q v U.heap L ∧ FrameEnd s o U L C S
def own_Met (l : Launch) (Z : State) (y : MethodName) (bytes : ByteArray) (maxL : Nat) (ret : Option FieldType) (ws : List Jvm.Cond) (rm : Room) (as' : Array Value) (h0 : Heap) (Q : Option Value → Heap → List Loc → Prop) : Prop :=
  MetFree l y (head1 (Jvm.Cond.code y bytes maxL ret :: ws) rm) (fun a U => a = as' ∧ Z.Warmed39 U.vm ∧ U.heap = h0) (fun _ _ _ _ _ => True) (fun _ U o U' => own_K Q U rm.cells rm.slots o U')
theorem own_met {y : MethodName} {bytes : ByteArray} {maxL : Nat} {ret : Option FieldType} {ws : List Jvm.Cond} {rm : Room} {as' : Array Value} {h0 : Heap} {Q : Option Value → Heap → List Loc → Prop} (hpl : plainFor y = true)
    (body : ∀ (p : Program) (e : Env) (s : State) (m : MethodId) (below : List Frame) (meth : Method) (c : Code) (s₁ : State), p.tables.exec = Jvm.exec → c.code = bytes → c.maxLocals = maxL → s.vm.findClass y.cls = some m.cls → meth.name = y.name → meth.sig.returnType = ret → meth.locks = false →
      Z.Warmed39 s.vm → Stand p l e rm s m as' below meth c s₁ [] 0 0 → s₁.heap = h0 → own_G p e below (own_K Q s rm.cells rm.slots) s₁ (entryFrame m as' maxL)) :
    own_Met l Z y bytes maxL ret ws rm as' h0 Q := by
  refine MetFree.of_bodySF hpl hisR ?_
  intro p e s m args below meth c s₁ Bd hml hP hK
  obtain ⟨rfl, hZ, hh⟩ := hP
  have e0 : s₁.heap = h0 := by rw [← hh, Bd.state]; rfl
  have q := body p e s m below meth c s₁ Bd.exec Bd.bytes hml (findClass_of_methodNamed Bd.named) (name_of_methodNamed Bd.named Bd.method).1 Bd.returns (BodyLoose.notSynchronized Bd) hZ (Stand.of_body Bd) e0
  obtain ⟨s₂, o, h1, h2, h3, h4⟩ := q
  exact ⟨s₂, o, h1, h2, h3, h4⟩
theorem own_end (X : Stand p l e R s m args below meth c T locs cells slots) (hlk : meth.locks = false) {v : Option Value} {f : JFrame} {Q : Option Value → Heap → List Loc → Prop} {C S : Nat} (hv : meth.sig.returnType = none → v = none) (hc : cells ≤ C) (hs : slots ≤ S)
    (st : ∀ fs, (∀ (f : JFrame) (acts : List Action), f.method = m → f.locked = none → f.entered = [] → (doReturn e (T.setTop f) acts v).1 = T.setFrames fs) → Steps p.tables e below (T.setTop f) (T.setFrames fs)) (hq : Q v T.heap locs) : own_G p e below (own_K Q s C S) T f := by
  obtain ⟨fs, hr, hrun, hended, hW, hsame⟩ := X.leave (v := v) hv
  exact ⟨_, _, st fs hr, hrun, hended, v, locs, rfl, hq, ⟨_, rfl⟩, hW, hsame.mono hc hs⟩
theorem own_retZ (X : Stand p l e R s m args below meth c T locs cells slots) (hx : p.tables.exec = Jvm.exec) (hlk : meth.locks = false) {t : FieldType} (hret : meth.sig.returnType = some t) (ht : t = .boolean ∨ t = .byte ∨ t = .char ∨ t = .short) {pc : Nat} {Ls : Array Slot} {z : Int32} {rest : List Value} {Q : Option Value → Heap → List Loc → Prop} {C S : Nat}
    (eT : T.heap = h) {w : Int32} (hz : nar t z = w) (hd : decode c.code pc = .ok (.ireturn, 1)) (hc : cells ≤ C) (hs : slots ≤ S) (hq : Q (some (.int w)) h locs) : own_G p e below (own_K Q s C S) T (mkF m pc Ls (.int z :: rest)) := by
  subst eT hz
  exact own_end X hlk (fun q => by rw [hret] at q; cases q) hc hs (fun fs hr => retN X hx hret ht hd hr) hq
theorem own_retI (X : Stand p l e R s m args below meth c T locs cells slots) (hx : p.tables.exec = Jvm.exec) (hlk : meth.locks = false) (hret : meth.sig.returnType = some .int) {pc : Nat} {Ls : Array Slot} {z : Int32} {rest : List Value} {Q : Option Value → Heap → List Loc → Prop} {C S : Nat}
    (eT : T.heap = h) (hd : decode c.code pc = .ok (.ireturn, 1)) (hc : cells ≤ C) (hs : slots ≤ S) (hq : Q (some (.int z)) h locs) : own_G p e below (own_K Q s C S) T (mkF m pc Ls (.int z :: rest)) := by
  subst eT
  exact own_end X hlk (fun q => by rw [hret] at q; cases q) hc hs (fun fs hr => retOut X hx hret rfl (Or.inl ⟨rfl, Or.inl rfl, z, rfl⟩) hd hr) hq
theorem own_retV (X : Stand p l e R s m args below meth c T locs cells slots) (hx : p.tables.exec = Jvm.exec) (hlk : meth.locks = false) (hret : meth.sig.returnType = none) {pc : Nat} {Ls : Array Slot} {Q : Option Value → Heap → List Loc → Prop} {C S : Nat}
    (eT : T.heap = h) (hd : decode c.code pc = .ok (.return_, 1)) (hc : cells ≤ C) (hs : slots ≤ S) (hq : Q none h locs) : own_G p e below (own_K Q s C S) T (mkF m pc Ls []) := by
  subst eT
  exact own_end X hlk (fun _ => rfl) hc hs (fun fs hr => X.returnOut hx hret hd hr) hq
/-- a static call by the callee's contract -/
theorem own_callS {own : String} {index maxL : Nat} {y : MethodName} {bytes : ByteArray} {ret : Option FieldType} {rm : Room} {Q : Option Value → Heap → List Loc → Prop} {argsL rest stk : List Value} {pc : Nat} {Ls : Array Slot}
    (X : Stand p l e R s m args below meth c T locs cells slots) (hx : p.tables.exec = Jvm.exec) (hZ : Z.Warmed39 s.vm) (hown : s.vm.findClass own = some m.cls) (hM : own_Met l Z y bytes maxL ret [] rm argsL.toArray h Q)
    (w1 : (Jvm.Cond.methodLink own index y).before a0 Z = true) (w2 : (Jvm.Cond.static y).before a0 Z = true) (w3 : (Jvm.Cond.initialized y.cls).before a0 Z = true) (w4 : (Jvm.Cond.code y bytes maxL ret).before a0 Z = true) (hy : y.cls ≠ "java/lang/invoke/MethodHandle" ∧ y.cls ≠ "java/lang/invoke/VarHandle")
    (eT : T.heap = h) (hsz : Ls.size = c.maxLocals) (hlen : ∀ sig, parseMethodDescriptor y.desc = some sig → argsL.length = sig.parameters.length) (hstk : stk = argsL.reverse ++ rest) (hd : decode c.code pc = .ok (.invokestatic index, 3))
    (hf : rm.frames + 1 ≤ R.frames) (hl : (rest.map fun v => v.category).sum + (maxL + 11) + rm.locals ≤ R.locals) (hc : cells + rm.cells ≤ R.cells) (hs : slots + rm.slots ≤ R.slots) :
    ∃ (v : Option Value) (T' : State) (L : List Loc), Stand p l e R s m args below meth c T' (locs ++ L) (cells + rm.cells) (slots + rm.slots) ∧ Q v T'.heap L ∧ ∀ t, Steps p.tables e below (T'.setTop (mkF m (pc + 3) Ls (v.toList ++ rest))) t → Steps p.tables e below (T.setTop (mkF m pc Ls stk)) t := by
  obtain ⟨v, _, ⟨T', L', k', n'⟩, -, X', ⟨L, hQ, l1, y1, z1⟩, st⟩ := Jvm.LawKit.callS X hx (y := y) hown (mvT hZ w1) (mvT hZ w2) (mvT hZ w3) (mvT hZ w4) hy (backOf (Q := Q) hM hZ w4 w3 hf hl) (g := mkF m pc Ls stk) rfl hsz (argsL := argsL) (rest := rest) hlen hstk (by show 2 * 0 + _ ≤ _; exact Nat.le_of_eq (Nat.zero_add _)) hd (fun _ _ => ⟨rfl, eT, hc, hs⟩)
  dsimp only [Pt.U, Pt.locs, Pt.cells, Pt.slots] at X' l1 y1 z1 st hQ
  subst l1 y1 z1
  exact ⟨v, T', L, X', hQ, st⟩
/-- a constructor's call by its contract -/
theorem own_callI {own : String} {index maxL : Nat} {y : MethodName} {bytes : ByteArray} {rm : Room} {Q : Option Value → Heap → List Loc → Prop} {argsL rest stk : List Value} {pc : Nat} {Ls : Array Slot} {a : Addr} (hy1 : y.name = "<init>")
    (X : Stand p l e R s m args below meth c T locs cells slots) (hx : p.tables.exec = Jvm.exec) (hZ : Z.Warmed39 s.vm) (hown : s.vm.findClass own = some m.cls) (hM : own_Met l Z y bytes maxL none [] rm (.ref a :: argsL).toArray h Q)
    (w1 : (Jvm.Cond.methodLink own index y).before a0 Z = true) (w2 : (Jvm.Cond.instanceMethod y).before a0 Z = true) (w3 : (Jvm.Cond.initialized y.cls).before a0 Z = true) (w4 : (Jvm.Cond.code y bytes maxL none).before a0 Z = true) (hy : y.cls ≠ "java/lang/invoke/MethodHandle" ∧ y.cls ≠ "java/lang/invoke/VarHandle")
    (eT : T.heap = h) (hsz : Ls.size = c.maxLocals) (hlen : ∀ sig, parseMethodDescriptor y.desc = some sig → argsL.length = sig.parameters.length) (hstk : stk = argsL.reverse ++ .ref a :: rest) (hd : decode c.code pc = .ok (.invokespecial index, 3))
    (hf : rm.frames + 1 ≤ R.frames) (hl : (rest.map fun v => v.category).sum + (maxL + 11) + rm.locals ≤ R.locals) (hc : cells + rm.cells ≤ R.cells) (hs : slots + rm.slots ≤ R.slots) :
    ∃ (v : Option Value) (T' : State) (L : List Loc), Stand p l e R s m args below meth c T' (locs ++ L) (cells + rm.cells) (slots + rm.slots) ∧ Q v T'.heap L ∧ ∀ t, Steps p.tables e below (T'.setTop (mkF m (pc + 3) Ls (v.toList ++ rest))) t → Steps p.tables e below (T.setTop (mkF m pc Ls stk)) t := by
  obtain ⟨v, _, ⟨T', L', k', n'⟩, -, X', ⟨L, hQ, l1, y1, z1⟩, st⟩ := X.specialBack hx (y := y) hy1 hown (mvT hZ w1) (mvT hZ w2) (mvT hZ w4) hy (backOf (Q := Q) hM hZ w4 w3 hf hl) (g := mkF m pc Ls stk) rfl hsz (Steps.refl _) (a := a) (argsL := argsL) (rest := rest) hlen hstk (by show 2 * 0 + _ ≤ _; exact Nat.le_of_eq (Nat.zero_add _)) hd (fun _ _ => ⟨rfl, eT, hc, hs⟩)
  dsimp only [Pt.U, Pt.locs, Pt.cells, Pt.slots] at X' l1 y1 z1 st hQ
  subst l1 y1 z1
  exact ⟨v, T', L, X', hQ, fun t k => st.trans k⟩
/-- an instance method's call by the contract of the body that the receiver's class selects -/
theorem own_callV {own C : String} {index maxL : Nat} {y z : MethodName} {bytes : ByteArray} {ret : Option FieldType} {rm : Room} {Q : Option Value → Heap → List Loc → Prop} {argsL rest stk : List Value} {pc : Nat} {Ls : Array Slot} {a : Addr}
    (X : Stand p l e R s m args below meth c T locs cells slots) (hx : p.tables.exec = Jvm.exec) (hZ : Z.Warmed39 s.vm) (hown : s.vm.findClass own = some m.cls) (hM : own_Met l Z z bytes maxL ret [] rm (.ref a :: argsL).toArray h Q)
    (w1 : (Jvm.Cond.methodLink own index y).before a0 Z = true) (w2 : (Jvm.Cond.declares y).before a0 Z = true) (nf : NotFace s y) (w5 : (Jvm.Cond.selects C y z).before a0 Z = true) (w6 : (Jvm.Cond.instanceMethod z).before a0 Z = true) (w3 : (Jvm.Cond.initialized z.cls).before a0 Z = true) (w4 : (Jvm.Cond.code z bytes maxL ret).before a0 Z = true) (hy : y.cls ≠ "java/lang/invoke/MethodHandle" ∧ y.cls ≠ "java/lang/invoke/VarHandle")
    (eT : T.heap = h) (E : Exa Z h a C) (hsz : Ls.size = c.maxLocals) (hlen : ∀ sig, parseMethodDescriptor y.desc = some sig → argsL.length = sig.parameters.length) (hstk : stk = argsL.reverse ++ .ref a :: rest) (hd : decode c.code pc = .ok (.invokevirtual index, 3))
    (hf : rm.frames + 1 ≤ R.frames) (hl : (rest.map fun v => v.category).sum + (maxL + 11) + rm.locals ≤ R.locals) (hc : cells + rm.cells ≤ R.cells) (hs : slots + rm.slots ≤ R.slots) :
    ∃ (v : Option Value) (T' : State) (L : List Loc), Stand p l e R s m args below meth c T' (locs ++ L) (cells + rm.cells) (slots + rm.slots) ∧ Q v T'.heap L ∧ ∀ t, Steps p.tables e below (T'.setTop (mkF m (pc + 3) Ls (v.toList ++ rest))) t → Steps p.tables e below (T.setTop (mkF m pc Ls stk)) t := by
  obtain ⟨cB, kB, q1, q2, q3⟩ := isOf hZ eT E
  obtain ⟨v, _, ⟨T', L', k', n'⟩, -, X', ⟨L, hQ, l1, y1, z1⟩, st⟩ := X.virtualBack hx (y := y) (z := z) hown (mvT hZ w1) (mvT hZ w2) nf (mvT hZ w5) (mvT hZ w6) hy (backOf (Q := Q) hM hZ w4 w3 hf hl) q1 q3 (g := mkF m pc Ls stk) rfl hsz (Steps.refl _) (argsL := argsL) (rest := rest) hlen hstk (by show 2 * 0 + _ ≤ _; exact Nat.le_of_eq (Nat.zero_add _)) hd (fun _ _ => ⟨rfl, eT, hc, hs⟩)
  dsimp only [Pt.U, Pt.locs, Pt.cells, Pt.slots] at X' l1 y1 z1 st hQ
  subst l1 y1 z1
  exact ⟨v, T', L, X', hQ, fun t k => st.trans k⟩
/-! arrays by Arv -/
theorem own_alen {a : Addr} {k : ClassId} {ty : FieldType} {n : Int32} {vs : List Value} {dv : Value} (X : Stand p l e R s m args below meth c T locs cells slots) (hx : p.tables.exec = Jvm.exec) (hZ : Z.Warmed39 s.vm) (eT : T.heap = h) (V : Arv Z h a k ty n vs dv) {pc : Nat} {Ls : Array Slot} {rest : List Value} (hd : decode c.code pc = .ok (.arraylength, 1)) :
    ∀ t, Steps p.tables e below (T.setTop (mkF m (pc + 1) Ls (.int n :: rest))) t → Steps p.tables e below (T.setTop (mkF m pc Ls (.ref a :: rest))) t := fun t kt => by
  obtain ⟨cl, A, -, S, q, -, -⟩ := V
  refine X.arraylength hx (by rw [eT]; exact A.1) (State.isArrayOf_alike hZ.alike A.2.1) (g := mkF m pc Ls (.ref a :: rest)) rfl rfl hd _ ?_
  rw [len_of S q]
  exact kt
theorem own_open {a : Addr} {k : ClassId} {ty : FieldType} {n j : Int32} {vs : List Value} {dv v : Value} (V : Arv Z h a k ty n vs dv) (hj : ¬ j < 0 ∧ j < n) (hv : vs.getD j.toNatClampNeg dv = v) : ∃ cl : Cell, Arr Z h a cl ty ∧ ¬ (j < 0 ∨ cl.slots.size ≤ j.toNatClampNeg) ∧ cl.slots[j.toNatClampNeg]? = some v ∧ fits ty v = true := by
  obtain ⟨cl, A, -, S, q, H, G⟩ := V
  have hi := inb_of S hj
  have hlt : j.toNatClampNeg < cl.slots.size := Nat.lt_of_not_le fun x => hi (Or.inr x)
  exact ⟨cl, A, hi, by rw [H _ hlt, hv], by rw [← hv]; exact G _ hlt⟩
theorem own_iaload {a : Addr} {k : ClassId} {n j : Int32} {vs : List Value} {dv v : Value} (X : Stand p l e R s m args below meth c T locs cells slots) (hx : p.tables.exec = Jvm.exec) (hZ : Z.Warmed39 s.vm) (eT : T.heap = h) (V : Arv Z h a k .int n vs dv) (hj : ¬ j < 0 ∧ j < n) (hv : vs.getD j.toNatClampNeg dv = v) {pc : Nat} {Ls : Array Slot} {rest : List Value} (hd : decode c.code pc = .ok (.iaload, 1)) :
    ∀ t, Steps p.tables e below (T.setTop (mkF m (pc + 1) Ls (v :: rest))) t → Steps p.tables e below (T.setTop (mkF m pc Ls (.int j :: .ref a :: rest))) t := fun t kt => by
  obtain ⟨cl, A, hi, hat, -⟩ := own_open V hj hv
  exact X.iaload hx (by rw [eT]; exact A.1) (State.isArrayOf_alike hZ.alike A.2.1) A.2.2 hi hat (g := mkF m pc Ls (.int j :: .ref a :: rest)) rfl rfl hd _ kt
theorem own_laload {a : Addr} {k : ClassId} {n j : Int32} {vs : List Value} {dv v : Value} (X : Stand p l e R s m args below meth c T locs cells slots) (hx : p.tables.exec = Jvm.exec) (hZ : Z.Warmed39 s.vm) (eT : T.heap = h) (V : Arv Z h a k .long n vs dv) (hj : ¬ j < 0 ∧ j < n) (hv : vs.getD j.toNatClampNeg dv = v) {pc : Nat} {Ls : Array Slot} {rest : List Value} (hd : decode c.code pc = .ok (.laload, 1)) :
    ∀ t, Steps p.tables e below (T.setTop (mkF m (pc + 1) Ls (v :: rest))) t → Steps p.tables e below (T.setTop (mkF m pc Ls (.int j :: .ref a :: rest))) t := fun t kt => by
  obtain ⟨cl, A, hi, hat, -⟩ := own_open V hj hv
  exact X.laload hx (by rw [eT]; exact A.1) (State.isArrayOf_alike hZ.alike A.2.1) A.2.2 hi hat (g := mkF m pc Ls (.int j :: .ref a :: rest)) rfl rfl hd _ kt
theorem own_iastore {a : Addr} {k : ClassId} {n j x : Int32} {vs : List Value} {dv : Value} (X : Stand p l e R s m args below meth c T locs cells slots) (hx : p.tables.exec = Jvm.exec) (hZ : Z.Warmed39 s.vm) (eT : T.heap = h) (V : Arv Z h a k .int n vs dv) (hj : ¬ j < 0 ∧ j < n) (i : Nat) (hi : j.toNatClampNeg = i) (hl : i < vs.length) {pc : Nat} {Ls : Array Slot} {rest : List Value} (hd : decode c.code pc = .ok (.iastore, 1)) :
    ∃ T' h', Stand p l e R s m args below meth c T' (locs ++ [⟨a, j.toNatClampNeg⟩]) cells slots ∧ T'.heap = h' ∧ Wr h h' a j.toNatClampNeg (.int x) ∧ Arv Z h' a k .int n (vs.set i (.int x)) dv ∧ ∀ t, Steps p.tables e below (T'.setTop (mkF m (pc + 1) Ls rest)) t → Steps p.tables e below (T.setTop (mkF m pc Ls (.int x :: .int j :: .ref a :: rest))) t := by
  obtain ⟨cl, A, q1, S, q, H, G⟩ := V
  obtain ⟨T', h', X', e', W, st⟩ := stI X hx hZ eT A (j := j) (x := x) (inb_of S hj) (g := mkF m pc Ls (.int x :: .int j :: .ref a :: rest)) rfl rfl hd
  exact ⟨T', h', X', e', W, Arv.set A q1 S q H G rfl W i hi hl, st⟩
theorem own_lastore {a : Addr} {k : ClassId} {n j : Int32} {x : Int64} {vs : List Value} {dv : Value} (X : Stand p l e R s m args below meth c T locs cells slots) (hx : p.tables.exec = Jvm.exec) (hZ : Z.Warmed39 s.vm) (eT : T.heap = h) (V : Arv Z h a k .long n vs dv) (hj : ¬ j < 0 ∧ j < n) (i : Nat) (hi : j.toNatClampNeg = i) (hl : i < vs.length) {pc : Nat} {Ls : Array Slot} {rest : List Value} (hd : decode c.code pc = .ok (.lastore, 1)) :
    ∃ T' h', Stand p l e R s m args below meth c T' (locs ++ [⟨a, j.toNatClampNeg⟩]) cells slots ∧ T'.heap = h' ∧ Wr h h' a j.toNatClampNeg (.long x) ∧ Arv Z h' a k .long n (vs.set i (.long x)) dv ∧ ∀ t, Steps p.tables e below (T'.setTop (mkF m (pc + 1) Ls rest)) t → Steps p.tables e below (T.setTop (mkF m pc Ls (.long x :: .int j :: .ref a :: rest))) t := by
  obtain ⟨cl, A, q1, S, q, H, G⟩ := V
  obtain ⟨T', h', X', e', W, st⟩ := stJ X hx hZ eT A (j := j) (x := x) (inb_of S hj) (g := mkF m pc Ls (.long x :: .int j :: .ref a :: rest)) rfl rfl hd
  exact ⟨T', h', X', e', W, Arv.set A q1 S q H G rfl W i hi hl, st⟩
/-- newarray of a primitive kind; the class found by its name is said too -/
theorem own_newP (X : Stand p l e R s m args below meth c T locs cells slots) (hx : p.tables.exec = Jvm.exec) (hZ : Z.Warmed39 s.vm) {aty : ArrayType} {nm : String} (hnm : "[" ++ (newarray.typeOf aty).toString = nm) (w : (Jvm.Cond.arrayClass (newarray.typeOf aty)).before a0 Z = true) (eT : T.heap = h) {pc : Nat} {Ls : Array Slot} (hd : decode c.code pc = .ok (.newarray aty, 2)) {n : Int32} {rest : List Value}
    (hn : ¬ n < 0) {cap : Nat} (hcap : n.toNatClampNeg ≤ cap) (hb : cap * 8 ≤ 536870912) (hc : cells + 1 ≤ R.cells) (hl : slots + cap ≤ R.slots) :
    ∃ T' h' cA, Stand p l e R s m args below meth c T' locs (cells + 1) (slots + cap) ∧ T'.heap = h' ∧ Ext h h' ∧ Arr Z h' h.size (newA cA (newarray.typeOf aty) n) (newarray.typeOf aty) ∧ Exa Z h' h.size nm ∧
      ∀ t, Steps p.tables e below (T'.setTop (mkF m (pc + 2) Ls (.ref h.size :: rest))) t → Steps p.tables e below (T.setTop (mkF m pc Ls (.int n :: rest))) t := by
  have hcb : componentBytes (newarray.typeOf aty) ≤ 8 := by cases aty <;> decide
  obtain ⟨cA, kA, comp, f1, f2, f3, X', st⟩ := X.newarrayPrim hx (mvA hZ w) (g := mkF m pc Ls (.int n :: rest)) rfl hd rfl hn (Nat.le_trans (Nat.mul_le_mul hcap hcb) hb) hc (by omega)
  subst eT hnm
  have fZ : Z.vm.findClass ("[" ++ (newarray.typeOf aty).toString) = some cA := by rw [← hZ.alike.findClass]; exact f1
  obtain ⟨kZ, z1, -⟩ := Vm.findClass_spec fZ
  obtain ⟨k', z2, z3⟩ := hZ.alike.2.2 _ _ z1
  cases f2.symm.trans z2
  have kk : kZ.kind = .array comp (newarray.typeOf aty) := by rw [← f3, z3]
  have at' : (T.heap.push (newA cA (newarray.typeOf aty) n))[T.heap.size]? = some (newA cA (newarray.typeOf aty) n) := by simp
  refine ⟨_, T.heap.push (newA cA (newarray.typeOf aty) n), cA, X'.more (Nat.le_refl _) (by omega), rfl, ⟨by simp, fun a cc q => ?_⟩, ⟨at', ⟨by simp [newA], kZ, z1, comp, kk⟩, by simp [newA]⟩, ⟨_, kZ, at', fZ, z1, rfl, fun q => ?_⟩, st⟩
  · rw [Array.getElem?_push_lt (Array.getElem?_eq_some_iff.mp q).1]; exact (Array.getElem?_eq_getElem _).symm.trans q
  · rw [kk] at q; cases q
end OwnKit
section OwnSteps
variable {p : Program} {l : Launch} {e : Env} {R : Room} {s : State} {m : MethodId} {args : Array Value} {below : List Frame} {meth : Method} {c : Code} {T : State} {locs : List Loc} {cells slots : Nat} {Z : State} {a0 : Array Value} {h0 : Heap}
theorem own_iloadN {K : Outcome → State → Prop} {pc n : Nat} {Ls : Array Slot} {S : List Value} (X : Stand p l e R s m args below meth c T locs cells slots) (hx : p.tables.exec = Jvm.exec) {k : Fin 4} {v : Int32} (hd : decode c.code pc = .ok (.iload_n k, 1)) (hl : Ls[k.val]? = some (.val (.int v))) (hn : pc + 1 = n)
    (h : own_G p e below K T (mkF m n Ls (.int v :: S))) : own_G p e below K T (mkF m pc Ls S) := by
  subst hn
  exact own_go (fun t k => XS.iloadN X.here hx rfl hd hl k) h
theorem own_iload {K : Outcome → State → Prop} {pc n : Nat} {Ls : Array Slot} {S : List Value} (X : Stand p l e R s m args below meth c T locs cells slots) (hx : p.tables.exec = Jvm.exec) {k : Nat} {v : Int32} (hd : decode c.code pc = .ok (.iload k, 2)) (hl : Ls[k]? = some (.val (.int v))) (hn : pc + 2 = n)
    (h : own_G p e below K T (mkF m n Ls (.int v :: S))) : own_G p e below K T (mkF m pc Ls S) := by
  subst hn
  exact own_go (fun t k => XS.iload X.here hx rfl hd hl k) h
theorem own_lloadN {K : Outcome → State → Prop} {pc n : Nat} {Ls : Array Slot} {S : List Value} (X : Stand p l e R s m args below meth c T locs cells slots) (hx : p.tables.exec = Jvm.exec) {k : Fin 4} {v : Int64} (hd : decode c.code pc = .ok (.lload_n k, 1)) (hl : Ls[k.val]? = some (.val (.long v))) (hn : pc + 1 = n)
    (h : own_G p e below K T (mkF m n Ls (.long v :: S))) : own_G p e below K T (mkF m pc Ls S) := by
  subst hn
  exact own_go (fun t k => XS.lloadN X.here hx rfl hd hl k) h
theorem own_lload {K : Outcome → State → Prop} {pc n : Nat} {Ls : Array Slot} {S : List Value} (X : Stand p l e R s m args below meth c T locs cells slots) (hx : p.tables.exec = Jvm.exec) {k : Nat} {v : Int64} (hd : decode c.code pc = .ok (.lload k, 2)) (hl : Ls[k]? = some (.val (.long v))) (hn : pc + 2 = n)
    (h : own_G p e below K T (mkF m n Ls (.long v :: S))) : own_G p e below K T (mkF m pc Ls S) := by
  subst hn
  exact own_go (fun t k => XS.lload X.here hx rfl hd hl k) h
theorem own_aloadN {K : Outcome → State → Prop} {pc n : Nat} {Ls : Array Slot} {S : List Value} (X : Stand p l e R s m args below meth c T locs cells slots) (hx : p.tables.exec = Jvm.exec) {k : Fin 4} {v : Value} (hd : decode c.code pc = .ok (.aload_n k, 1)) (hl : Ls[k.val]? = some (.val v)) (hv : v.isRef = true) (hn : pc + 1 = n)
    (h : own_G p e below K T (mkF m n Ls (v :: S))) : own_G p e below K T (mkF m pc Ls S) := by
  subst hn
  exact own_go (fun t k => XS.aloadN X.here hx rfl hd hl hv k) h
theorem own_aload {K : Outcome → State → Prop} {pc n : Nat} {Ls : Array Slot} {S : List Value} (X : Stand p l e R s m args below meth c T locs cells slots) (hx : p.tables.exec = Jvm.exec) {k : Nat} {v : Value} (hd : decode c.code pc = .ok (.aload k, 2)) (hl : Ls[k]? = some (.val v)) (hv : v.isRef = true) (hn : pc + 2 = n)
    (h : own_G p e below K T (mkF m n Ls (v :: S))) : own_G p e below K T (mkF m pc Ls S) := by
  subst hn
  exact own_go (fun t k => XS.aload X.here hx rfl hd hl hv k) h
theorem own_istoreN {K : Outcome → State → Prop} {pc n : Nat} {Ls : Array Slot} {S : List Value} (X : Stand p l e R s m args below meth c T locs cells slots) (hx : p.tables.exec = Jvm.exec) {k : Fin 4} {v : Int32} {l' : Array Slot} (hd : decode c.code pc = .ok (.istore_n k, 1)) (hl : storeLocals Ls k.val (.int v) = some l') (hn : pc + 1 = n)
    (h : own_G p e below K T (mkF m n l' S)) : own_G p e below K T (mkF m pc Ls (.int v :: S)) := by
  subst hn
  exact own_go (fun t k => XS.istoreN X.here hx rfl hd rfl hl k) h
theorem own_istore {K : Outcome → State → Prop} {pc n : Nat} {Ls : Array Slot} {S : List Value} (X : Stand p l e R s m args below meth c T locs cells slots) (hx : p.tables.exec = Jvm.exec) {k : Nat} {v : Int32} {l' : Array Slot} (hd : decode c.code pc = .ok (.istore k, 2)) (hl : storeLocals Ls k (.int v) = some l') (hn : pc + 2 = n)
    (h : own_G p e below K T (mkF m n l' S)) : own_G p e below K T (mkF m pc Ls (.int v :: S)) := by
  subst hn
  exact own_go (fun t k => XS.istore X.here hx rfl hd rfl hl k) h
theorem own_lstore {K : Outcome → State → Prop} {pc n : Nat} {Ls : Array Slot} {S : List Value} (X : Stand p l e R s m args below meth c T locs cells slots) (hx : p.tables.exec = Jvm.exec) {k : Nat} {v : Int64} {l' : Array Slot} (hd : decode c.code pc = .ok (.lstore k, 2)) (hl : storeLocals Ls k (.long v) = some l') (hn : pc + 2 = n)
    (h : own_G p e below K T (mkF m n l' S)) : own_G p e below K T (mkF m pc Ls (.long v :: S)) := by
  subst hn
  exact own_go (fun t k => XS.lstore X.here hx rfl hd rfl hl k) h
theorem own_astoreN {K : Outcome → State → Prop} {pc n : Nat} {Ls : Array Slot} {S : List Value} (X : Stand p l e R s m args below meth c T locs cells slots) (hx : p.tables.exec = Jvm.exec) {k : Fin 4} {v : Value} {l' : Array Slot} (hd : decode c.code pc = .ok (.astore_n k, 1)) (hv : v.isRef = true) (hl : storeLocals Ls k.val v = some l') (hn : pc + 1 = n)
    (h : own_G p e below K T (mkF m n l' S)) : own_G p e below K T (mkF m pc Ls (v :: S)) := by
  subst hn
  exact own_go (fun t k => XS.astoreN X.here hx rfl hd rfl hv hl k) h
theorem own_astore {K : Outcome → State → Prop} {pc n : Nat} {Ls : Array Slot} {S : List Value} (X : Stand p l e R s m args below meth c T locs cells slots) (hx : p.tables.exec = Jvm.exec) {k : Nat} {v : Value} {l' : Array Slot} (hd : decode c.code pc = .ok (.astore k, 2)) (hv : v.isRef = true) (hl : storeLocals Ls k v = some l') (hn : pc + 2 = n)
    (h : own_G p e below K T (mkF m n l' S)) : own_G p e below K T (mkF m pc Ls (v :: S)) := by
  subst hn
  exact own_go (fun t k => XS.astore X.here hx rfl hd rfl hv hl k) h
theorem own_iconst {K : Outcome → State → Prop} {pc n : Nat} {Ls : Array Slot} {S : List Value} (X : Stand p l e R s m args below meth c T locs cells slots) (hx : p.tables.exec = Jvm.exec) {i : Int} {z : Int32} (hd : decode c.code pc = .ok (.iconst i, 1)) (hz : Int32.ofInt i = z) (hn : pc + 1 = n)
    (h : own_G p e below K T (mkF m n Ls (.int z :: S))) : own_G p e below K T (mkF m pc Ls S) := by
  subst hz hn
  exact own_go (fun t k => XS.iconst X.here hx rfl hd k) h
theorem own_bipush {K : Outcome → State → Prop} {pc n : Nat} {Ls : Array Slot} {S : List Value} (X : Stand p l e R s m args below meth c T locs cells slots) (hx : p.tables.exec = Jvm.exec) {i : Int} {z : Int32} (hd : decode c.code pc = .ok (.bipush i, 2)) (hz : (Int8.ofInt i).toInt32 = z) (hn : pc + 2 = n)
    (h : own_G p e below K T (mkF m n Ls (.int z :: S))) : own_G p e below K T (mkF m pc Ls S) := by
  subst hz hn
  exact own_go (fun t k => XS.bipush X.here hx rfl hd k) h
theorem own_sipush {K : Outcome → State → Prop} {pc n : Nat} {Ls : Array Slot} {S : List Value} (X : Stand p l e R s m args below meth c T locs cells slots) (hx : p.tables.exec = Jvm.exec) {i : Int} {z : Int32} (hd : decode c.code pc = .ok (.sipush i, 3)) (hz : (Int16.ofInt i).toInt32 = z) (hn : pc + 3 = n)
    (h : own_G p e below K T (mkF m n Ls (.int z :: S))) : own_G p e below K T (mkF m pc Ls S) := by
  subst hz hn
  exact own_go (fun t k => XS.sipush X.here hx rfl hd k) h
theorem own_lconst {K : Outcome → State → Prop} {pc n : Nat} {Ls : Array Slot} {S : List Value} (X : Stand p l e R s m args below meth c T locs cells slots) (hx : p.tables.exec = Jvm.exec) {i : Fin 2} {z : Int64} (hd : decode c.code pc = .ok (.lconst i, 1)) (hz : Int64.ofNat i = z) (hn : pc + 1 = n)
    (h : own_G p e below K T (mkF m n Ls (.long z :: S))) : own_G p e below K T (mkF m pc Ls S) := by
  subst hz hn
  exact own_go (fun t k => XS.lconst X.here hx rfl hd k) h
theorem own_iadd {K : Outcome → State → Prop} {pc n : Nat} {Ls : Array Slot} {S : List Value} (X : Stand p l e R s m args below meth c T locs cells slots) (hx : p.tables.exec = Jvm.exec) {x y z : Int32} (hd : decode c.code pc = .ok (.iadd, 1)) (hz : x + y = z) (hn : pc + 1 = n)
    (h : own_G p e below K T (mkF m n Ls (.int z :: S))) : own_G p e below K T (mkF m pc Ls (.int y :: .int x :: S)) := by
  subst hz hn
  exact own_go (fun t k => XS.iadd X.here hx rfl hd rfl k) h
theorem own_isub {K : Outcome → State → Prop} {pc n : Nat} {Ls : Array Slot} {S : List Value} (X : Stand p l e R s m args below meth c T locs cells slots) (hx : p.tables.exec = Jvm.exec) {x y z : Int32} (hd : decode c.code pc = .ok (.isub, 1)) (hz : x - y = z) (hn : pc + 1 = n)
    (h : own_G p e below K T (mkF m n Ls (.int z :: S))) : own_G p e below K T (mkF m pc Ls (.int y :: .int x :: S)) := by
  subst hz hn
  exact own_go (fun t k => XS.isub X.here hx rfl hd rfl k) h
theorem own_imul {K : Outcome → State → Prop} {pc n : Nat} {Ls : Array Slot} {S : List Value} (X : Stand p l e R s m args below meth c T locs cells slots) (hx : p.tables.exec = Jvm.exec) {x y z : Int32} (hd : decode c.code pc = .ok (.imul, 1)) (hz : x * y = z) (hn : pc + 1 = n)
    (h : own_G p e below K T (mkF m n Ls (.int z :: S))) : own_G p e below K T (mkF m pc Ls (.int y :: .int x :: S)) := by
  subst hz hn
  exact own_go (fun t k => XS.imul X.here hx rfl hd rfl k) h
theorem own_iand {K : Outcome → State → Prop} {pc n : Nat} {Ls : Array Slot} {S : List Value} (X : Stand p l e R s m args below meth c T locs cells slots) (hx : p.tables.exec = Jvm.exec) {x y z : Int32} (hd : decode c.code pc = .ok (.iand, 1)) (hz : x &&& y = z) (hn : pc + 1 = n)
    (h : own_G p e below K T (mkF m n Ls (.int z :: S))) : own_G p e below K T (mkF m pc Ls (.int y :: .int x :: S)) := by
  subst hz hn
  exact own_go (fun t k => XS.iand X.here hx rfl hd rfl k) h
theorem own_land {K : Outcome → State → Prop} {pc n : Nat} {Ls : Array Slot} {S : List Value} (X : Stand p l e R s m args below meth c T locs cells slots) (hx : p.tables.exec = Jvm.exec) {x y z : Int64} (hd : decode c.code pc = .ok (.land, 1)) (hz : x &&& y = z) (hn : pc + 1 = n)
    (h : own_G p e below K T (mkF m n Ls (.long z :: S))) : own_G p e below K T (mkF m pc Ls (.long y :: .long x :: S)) := by
  subst hz hn
  exact own_go (fun t k => XS.land X.here hx rfl hd rfl k) h
theorem own_lor {K : Outcome → State → Prop} {pc n : Nat} {Ls : Array Slot} {S : List Value} (X : Stand p l e R s m args below meth c T locs cells slots) (hx : p.tables.exec = Jvm.exec) {x y z : Int64} (hd : decode c.code pc = .ok (.lor, 1)) (hz : x ||| y = z) (hn : pc + 1 = n)
    (h : own_G p e below K T (mkF m n Ls (.long z :: S))) : own_G p e below K T (mkF m pc Ls (.long y :: .long x :: S)) := by
  subst hz hn
  exact own_go (fun t k => XS.lor X.here hx rfl hd rfl k) h
theorem own_lxor {K : Outcome → State → Prop} {pc n : Nat} {Ls : Array Slot} {S : List Value} (X : Stand p l e R s m args below meth c T locs cells slots) (hx : p.tables.exec = Jvm.exec) {x y z : Int64} (hd : decode c.code pc = .ok (.lxor, 1)) (hz : x ^^^ y = z) (hn : pc + 1 = n)
    (h : own_G p e below K T (mkF m n Ls (.long z :: S))) : own_G p e below K T (mkF m pc Ls (.long y :: .long x :: S)) := by
  subst hz hn
  exact own_go (fun t k => XS.lxor X.here hx rfl hd rfl k) h
theorem own_ineg {K : Outcome → State → Prop} {pc n : Nat} {Ls : Array Slot} {S : List Value} (X : Stand p l e R s m args below meth c T locs cells slots) (hx : p.tables.exec = Jvm.exec) {x : Int32} {z : Int32} (hd : decode c.code pc = .ok (.ineg, 1)) (hz : -x = z) (hn : pc + 1 = n)
    (h : own_G p e below K T (mkF m n Ls (.int z :: S))) : own_G p e below K T (mkF m pc Ls (.int x :: S)) := by
  subst hz hn
  exact own_go (fun t k => XS.ineg X.here hx rfl hd rfl k) h
theorem own_l2i {K : Outcome → State → Prop} {pc n : Nat} {Ls : Array Slot} {S : List Value} (X : Stand p l e R s m args below meth c T locs cells slots) (hx : p.tables.exec = Jvm.exec) {x : Int64} {z : Int32} (hd : decode c.code pc = .ok (.l2i, 1)) (hz : x.toInt32 = z) (hn : pc + 1 = n)
    (h : own_G p e below K T (mkF m n Ls (.int z :: S))) : own_G p e below K T (mkF m pc Ls (.long x :: S)) := by
  subst hz hn
  exact own_go (fun t k => XS.l2i X.here hx rfl hd rfl k) h
theorem own_iushr {K : Outcome → State → Prop} {pc n : Nat} {Ls : Array Slot} {S : List Value} (X : Stand p l e R s m args below meth c T locs cells slots) (hx : p.tables.exec = Jvm.exec) {x : Int32} {y : Int32} {z : Int32} (hd : decode c.code pc = .ok (.iushr, 1)) (hz : (x.toUInt32 >>> (y &&& 31).toUInt32).toInt32 = z) (hn : pc + 1 = n)
    (h : own_G p e below K T (mkF m n Ls (.int z :: S))) : own_G p e below K T (mkF m pc Ls (.int y :: .int x :: S)) := by
  subst hz hn
  exact own_go (fun t k => XS.iushr X.here hx rfl hd rfl k) h
theorem own_lshl {K : Outcome → State → Prop} {pc n : Nat} {Ls : Array Slot} {S : List Value} (X : Stand p l e R s m args below meth c T locs cells slots) (hx : p.tables.exec = Jvm.exec) {x : Int64} {y : Int32} {z : Int64} (hd : decode c.code pc = .ok (.lshl, 1)) (hz : x <<< (y &&& 63).toInt64 = z) (hn : pc + 1 = n)
    (h : own_G p e below K T (mkF m n Ls (.long z :: S))) : own_G p e below K T (mkF m pc Ls (.int y :: .long x :: S)) := by
  subst hz hn
  exact own_go (fun t k => XS.lshl X.here hx rfl hd rfl k) h
theorem own_lushr {K : Outcome → State → Prop} {pc n : Nat} {Ls : Array Slot} {S : List Value} (X : Stand p l e R s m args below meth c T locs cells slots) (hx : p.tables.exec = Jvm.exec) {x : Int64} {y : Int32} {z : Int64} (hd : decode c.code pc = .ok (.lushr, 1)) (hz : (x.toUInt64 >>> (y &&& 63).toInt64.toUInt64).toInt64 = z) (hn : pc + 1 = n)
    (h : own_G p e below K T (mkF m n Ls (.long z :: S))) : own_G p e below K T (mkF m pc Ls (.int y :: .long x :: S)) := by
  subst hz hn
  exact own_go (fun t k => XS.lushr X.here hx rfl hd rfl k) h
theorem own_lcmp {K : Outcome → State → Prop} {pc n : Nat} {Ls : Array Slot} {S : List Value} (X : Stand p l e R s m args below meth c T locs cells slots) (hx : p.tables.exec = Jvm.exec) {x y : Int64} (hd : decode c.code pc = .ok (.lcmp, 1)) (hn : pc + 1 = n)
    (h : own_G p e below K T (mkF m n Ls (.int (lcmpW x y) :: S))) : own_G p e below K T (mkF m pc Ls (.long y :: .long x :: S)) := by
  subst hn
  exact own_go (fun t k => XS.lcmp X.here hx rfl hd rfl k) h
theorem own_irem {K : Outcome → State → Prop} {pc n : Nat} {Ls : Array Slot} {S : List Value} (X : Stand p l e R s m args below meth c T locs cells slots) (hx : p.tables.exec = Jvm.exec) {x y : Int32} (hd : decode c.code pc = .ok (.irem, 1)) (hy : y ≠ 0) (hn : pc + 1 = n)
    (h : own_G p e below K T (mkF m n Ls (.int (x % y) :: S))) : own_G p e below K T (mkF m pc Ls (.int y :: .int x :: S)) := by
  subst hn
  exact own_go (fun t k => iremM (g := mkF m pc Ls (.int y :: .int x :: S)) X hx rfl hd rfl hy k) h
theorem own_iinc {K : Outcome → State → Prop} {pc n : Nat} {Ls : Array Slot} {S : List Value} (X : Stand p l e R s m args below meth c T locs cells slots) (hx : p.tables.exec = Jvm.exec) {k : Nat} {cst : Int} {x z : Int32} {l' : Array Slot} (hd : decode c.code pc = .ok (.iinc k cst, 3)) (hl : Ls[k]? = some (.val (.int x))) (hz : x + Int32.ofInt cst = z) (hl' : storeLocals Ls k (.int z) = some l') (hn : pc + 3 = n)
    (h : own_G p e below K T (mkF m n l' S)) : own_G p e below K T (mkF m pc Ls S) := by
  subst hz hn
  exact own_go (fun t k => XS.iinc X.here hx rfl hd hl hl' k) h
theorem own_dup {K : Outcome → State → Prop} {pc n : Nat} {Ls : Array Slot} {S : List Value} (X : Stand p l e R s m args below meth c T locs cells slots) (hx : p.tables.exec = Jvm.exec) {v : Value} (hd : decode c.code pc = .ok (.dup, 1)) (hc : v.category = 1) (hn : pc + 1 = n)
    (h : own_G p e below K T (mkF m n Ls (v :: v :: S))) : own_G p e below K T (mkF m pc Ls (v :: S)) := by
  subst hn
  exact own_go (fun t k => XS.dup X.here hx rfl hd rfl hc k) h
theorem own_goto {K : Outcome → State → Prop} {pc n : Nat} {Ls : Array Slot} {S : List Value} (X : Stand p l e R s m args below meth c T locs cells slots) (hx : p.tables.exec = Jvm.exec) {o : Int} (hd : decode c.code pc = .ok (.goto o, 3)) (ho : 0 ≤ (pc : Int) + o) (hp : ((pc : Int) + o).toNat = n)
    (h : own_G p e below K T (mkF m n Ls S)) : own_G p e below K T (mkF m pc Ls S) := by
  subst hp
  exact own_go (fun t k => XS.goto X.here hx rfl (pc0 := pc) rfl hd ho rfl k) h
theorem own_ifYes {K : Outcome → State → Prop} {pc n : Nat} {Ls : Array Slot} {S : List Value} (X : Stand p l e R s m args below meth c T locs cells slots) (hx : p.tables.exec = Jvm.exec) {cd : ClassFile.Cond} {x : Int32} {o : Int} (hd : decode c.code pc = .ok (.ifCond cd o, 3)) (hc : if_icmp.holds cd x 0 = true) (ho : 0 ≤ (pc : Int) + o) (hp : ((pc : Int) + o).toNat = n)
    (h : own_G p e below K T (mkF m n Ls S)) : own_G p e below K T (mkF m pc Ls (.int x :: S)) := by
  subst hp
  exact own_go (fun t k => XS.ifYes X.here hx rfl (pc0 := pc) rfl hd rfl ((if0 _ _).trans hc) ho rfl k) h
theorem own_ifNo {K : Outcome → State → Prop} {pc n : Nat} {Ls : Array Slot} {S : List Value} (X : Stand p l e R s m args below meth c T locs cells slots) (hx : p.tables.exec = Jvm.exec) {cd : ClassFile.Cond} {x : Int32} {o : Int} (hd : decode c.code pc = .ok (.ifCond cd o, 3)) (hc : if_icmp.holds cd x 0 = false) (hn : pc + 3 = n)
    (h : own_G p e below K T (mkF m n Ls S)) : own_G p e below K T (mkF m pc Ls (.int x :: S)) := by
  subst hn
  exact own_go (fun t k => XS.ifNo X.here hx rfl hd rfl ((if0 _ _).trans hc) k) h
theorem own_icmpYes {K : Outcome → State → Prop} {pc n : Nat} {Ls : Array Slot} {S : List Value} (X : Stand p l e R s m args below meth c T locs cells slots) (hx : p.tables.exec = Jvm.exec) {cd : ClassFile.Cond} {x y : Int32} {o : Int} (hd : decode c.code pc = .ok (.if_icmp cd o, 3)) (hc : if_icmp.holds cd x y = true) (ho : 0 ≤ (pc : Int) + o) (hp : ((pc : Int) + o).toNat = n)
    (h : own_G p e below K T (mkF m n Ls S)) : own_G p e below K T (mkF m pc Ls (.int y :: .int x :: S)) := by
  subst hp
  exact own_go (fun t k => XS.icmpYes X.here hx rfl (pc0 := pc) rfl hd rfl hc ho rfl k) h
theorem own_icmpNo {K : Outcome → State → Prop} {pc n : Nat} {Ls : Array Slot} {S : List Value} (X : Stand p l e R s m args below meth c T locs cells slots) (hx : p.tables.exec = Jvm.exec) {cd : ClassFile.Cond} {x y : Int32} {o : Int} (hd : decode c.code pc = .ok (.if_icmp cd o, 3)) (hc : if_icmp.holds cd x y = false) (hn : pc + 3 = n)
    (h : own_G p e below K T (mkF m n Ls S)) : own_G p e below K T (mkF m pc Ls (.int y :: .int x :: S)) := by
  subst hn
  exact own_go (fun t k => XS.icmpNo X.here hx rfl hd rfl hc k) h
theorem own_ifnonnullYes {K : Outcome → State → Prop} {pc n : Nat} {Ls : Array Slot} {S : List Value} (X : Stand p l e R s m args below meth c T locs cells slots) (hx : p.tables.exec = Jvm.exec) {a : Addr} {o : Int} (hd : decode c.code pc = .ok (.ifnonnull o, 3)) (ho : 0 ≤ (pc : Int) + o) (hp : ((pc : Int) + o).toNat = n)
    (h : own_G p e below K T (mkF m n Ls S)) : own_G p e below K T (mkF m pc Ls ((.ref a) :: S)) := by
  subst hp
  exact own_go (fun t k => XS.ifnonnullYes X.here hx rfl (pc0 := pc) rfl hd rfl ho rfl k) h
theorem own_getF {K : Outcome → State → Prop} {pc n : Nat} {Ls : Array Slot} {S : List Value} {h : Heap} (X : Stand p l e R s m args below meth c T locs cells slots) (hx : p.tables.exec = Jvm.exec) (hZ : Z.Warmed39 s.vm) {own R0 O nm d host : String} {index : Nat} (hown : s.vm.findClass own = some m.cls) (w : (Jvm.Cond.fieldLink own index R0 nm d).before a0 Z = true ∨ (Jvm.Cond.fieldLinkNest own index R0 nm d host).before a0 Z = true) (via : Via Z R0 O nm d) (eT : T.heap = h) {a : Addr} {v : Value} (F : Fld Z h a O nm d v) (hd : decode c.code pc = .ok (.getfield index, 3)) (hn : pc + 3 = n)
    (kk : ∀ T' : State, Stand p l e R s m args below meth c T' locs cells slots → T'.heap = h → own_G p e below K T' (mkF m n Ls (v :: S))) : own_G p e below K T (mkF m pc Ls (.ref a :: S)) := by
  subst hn
  obtain ⟨T', X', e', st⟩ := Jvm.RoadKit.getF X hx hZ hown w via eT F (g := mkF m pc Ls (.ref a :: S)) rfl rfl hd
  exact own_go st (kk T' X' e')
theorem own_putF {K : Outcome → State → Prop} {pc n : Nat} {Ls : Array Slot} {S : List Value} {h : Heap} (X : Stand p l e R s m args below meth c T locs cells slots) (hx : p.tables.exec = Jvm.exec) (hZ : Z.Warmed39 s.vm) {own R0 O nm d host C : String} {index kk' : Nat} {ty : FieldType} (hown : s.vm.findClass own = some m.cls) (w : (Jvm.Cond.fieldLink own index R0 nm d).before a0 Z = true ∨ (Jvm.Cond.fieldLinkNest own index R0 nm d host).before a0 Z = true) (via : Via Z R0 O nm d) (eT : T.heap = h) {a : Addr} {v old : Value} (F : Fld Z h a O nm d old) (E : Exa Z h a C) (L : (Jvm.Cond.lays C O nm d).before a0 Z = true ∨ ((Jvm.Cond.laysFinal C O nm d).before a0 Z = true ∧ own = O ∧ meth.name = "<init>")) (wi : (Jvm.Cond.instantiable C kk').before a0 Z = true) (hty : parseFieldDescriptor d = some ty) (hnr : narrow ty v = v) (hf : fits ty v = true) (hd : decode c.code pc = .ok (.putfield index, 3)) (hn : pc + 3 = n)
    (kk : ∀ (T' : State) (h' : Heap), Stand p l e R s m args below meth c T' (locs ++ [⟨a, Jvm.RoadKit.slotOf Z O nm d⟩]) cells slots → T'.heap = h' → Wr h h' a (Jvm.RoadKit.slotOf Z O nm d) v → own_G p e below K T' (mkF m n Ls S)) : own_G p e below K T (mkF m pc Ls (v :: .ref a :: S)) := by
  subst hn
  obtain ⟨T', h', X', e', W, st⟩ := Jvm.RoadKit.putF X hx hZ hown w via eT F E L wi hty hnr hf (g := mkF m pc Ls (v :: .ref a :: S)) rfl rfl hd
  exact own_go st (kk T' h' X' e' W)
theorem own_new {K : Outcome → State → Prop} {pc n : Nat} {Ls : Array Slot} {S : List Value} {h : Heap} (X : Stand p l e R s m args below meth c T locs cells slots) (hx : p.tables.exec = Jvm.exec) (hZ : Z.Warmed39 s.vm) {own C : String} {index k : Nat} (hown : s.vm.findClass own = some m.cls) (w : (Jvm.Cond.classLink own index C).before a0 Z = true) (wi : (Jvm.Cond.instantiable C k).before a0 Z = true) (wz : (Jvm.Cond.initialized C).before a0 Z = true) (eT : T.heap = h) (hd : decode c.code pc = .ok (.new index, 3)) (hc : cells + 1 ≤ R.cells) (hl : slots + k ≤ R.slots) (hn : pc + 3 = n)
    (kk : ∀ (T' : State) (h' : Heap) (b : Addr), b = h.size → Stand p l e R s m args below meth c T' locs (cells + 1) (slots + k) → T'.heap = h' → Ext h h' → Exa Z h' b C → (∀ {O nm d : String} {ty : FieldType}, Laid Z a0 C O nm d → parseFieldDescriptor d = some ty → Fld Z h' b O nm d (defaultValue ty)) → own_G p e below K T' (mkF m n Ls (.ref b :: S))) : own_G p e below K T (mkF m pc Ls S) := by
  subst hn
  obtain ⟨T', h', X', e', E, A, D, -, st⟩ := newO X hx hZ hown w wi wz eT (g := mkF m pc Ls S) rfl hd hc hl
  exact own_go st (kk T' h' _ rfl X' e' E A D)
theorem own_newA {K : Outcome → State → Prop} {pc n : Nat} {Ls : Array Slot} {S : List Value} {h : Heap} (X : Stand p l e R s m args below meth c T locs cells slots) (hx : p.tables.exec = Jvm.exec) (hZ : Z.Warmed39 s.vm) {aty : ArrayType} {nm : String} (hnm : "[" ++ (newarray.typeOf aty).toString = nm) (w : (Jvm.Cond.arrayClass (newarray.typeOf aty)).before a0 Z = true) (eT : T.heap = h) (hd : decode c.code pc = .ok (.newarray aty, 2)) {k : Int32} (hk : ¬ k < 0) {cap : Nat} (hcap : k.toNatClampNeg ≤ cap) (hb : cap * 8 ≤ 536870912) (hc : cells + 1 ≤ R.cells) (hl : slots + cap ≤ R.slots) (hn : pc + 2 = n)
    (kk : ∀ (T' : State) (h' : Heap) (cA : ClassId) (b : Addr), b = h.size → Stand p l e R s m args below meth c T' locs (cells + 1) (slots + cap) → T'.heap = h' → Ext h h' → Arr Z h' b (newA cA (newarray.typeOf aty) k) (newarray.typeOf aty) → Exa Z h' b nm → own_G p e below K T' (mkF m n Ls (.ref b :: S))) : own_G p e below K T (mkF m pc Ls (.int k :: S)) := by
  subst hn
  obtain ⟨T', h', cA, X', e', E, A, B, st⟩ := own_newP X hx hZ hnm w eT (pc := pc) (Ls := Ls) (rest := S) hd hk hcap hb hc hl
  exact own_go st (kk T' h' cA _ rfl X' e' E A B)
theorem own_st_iastore {K : Outcome → State → Prop} {pc n : Nat} {Ls : Array Slot} {S : List Value} {h : Heap} (X : Stand p l e R s m args below meth c T locs cells slots) (hx : p.tables.exec = Jvm.exec) (hZ : Z.Warmed39 s.vm) {a : Addr} {k : ClassId} {z j : Int32} {x : Int32} {vs : List Value} {dv : Value} (eT : T.heap = h) (V : Arv Z h a k .int z vs dv) (hj : ¬ j < 0 ∧ j < z) (i : Nat) (hi : j.toNatClampNeg = i) (hl : i < vs.length) (hd : decode c.code pc = .ok (.iastore, 1)) (hn : pc + 1 = n)
    (kk : ∀ (T' : State) (h' : Heap), Stand p l e R s m args below meth c T' (locs ++ [⟨a, j.toNatClampNeg⟩]) cells slots → T'.heap = h' → Wr h h' a j.toNatClampNeg (.int x) → Arv Z h' a k .int z (vs.set i (.int x)) dv → own_G p e below K T' (mkF m n Ls S)) : own_G p e below K T (mkF m pc Ls (.int x :: .int j :: .ref a :: S)) := by
  subst hn
  obtain ⟨T', h', X', e', W, V', st⟩ := own_iastore X hx hZ eT V hj i hi hl (pc := pc) (Ls := Ls) (rest := S) hd
  exact own_go st (kk T' h' X' e' W V')
theorem own_st_lastore {K : Outcome → State → Prop} {pc n : Nat} {Ls : Array Slot} {S : List Value} {h : Heap} (X : Stand p l e R s m args below meth c T locs cells slots) (hx : p.tables.exec = Jvm.exec) (hZ : Z.Warmed39 s.vm) {a : Addr} {k : ClassId} {z j : Int32} {x : Int64} {vs : List Value} {dv : Value} (eT : T.heap = h) (V : Arv Z h a k .long z vs dv) (hj : ¬ j < 0 ∧ j < z) (i : Nat) (hi : j.toNatClampNeg = i) (hl : i < vs.length) (hd : decode c.code pc = .ok (.lastore, 1)) (hn : pc + 1 = n)
    (kk : ∀ (T' : State) (h' : Heap), Stand p l e R s m args below meth c T' (locs ++ [⟨a, j.toNatClampNeg⟩]) cells slots → T'.heap = h' → Wr h h' a j.toNatClampNeg (.long x) → Arv Z h' a k .long z (vs.set i (.long x)) dv → own_G p e below K T' (mkF m n Ls S)) : own_G p e below K T (mkF m pc Ls (.long x :: .int j :: .ref a :: S)) := by
  subst hn
  obtain ⟨T', h', X', e', W, V', st⟩ := own_lastore X hx hZ eT V hj i hi hl (pc := pc) (Ls := Ls) (rest := S) hd
  exact own_go st (kk T' h' X' e' W V')
theorem own_ld_iaload {K : Outcome → State → Prop} {pc n : Nat} {Ls : Array Slot} {S : List Value} {h : Heap} (X : Stand p l e R s m args below meth c T locs cells slots) (hx : p.tables.exec = Jvm.exec) (hZ : Z.Warmed39 s.vm) {a : Addr} {k : ClassId} {z j : Int32} {vs : List Value} {dv v : Value} (eT : T.heap = h) (V : Arv Z h a k .int z vs dv) (hj : ¬ j < 0 ∧ j < z) (hv : vs.getD j.toNatClampNeg dv = v) (hd : decode c.code pc = .ok (.iaload, 1)) (hn : pc + 1 = n) (kk : own_G p e below K T (mkF m n Ls (v :: S))) : own_G p e below K T (mkF m pc Ls (.int j :: .ref a :: S)) := by
  subst hn
  exact own_go (own_iaload X hx hZ eT V hj hv hd) kk
theorem own_ld_laload {K : Outcome → State → Prop} {pc n : Nat} {Ls : Array Slot} {S : List Value} {h : Heap} (X : Stand p l e R s m args below meth c T locs cells slots) (hx : p.tables.exec = Jvm.exec) (hZ : Z.Warmed39 s.vm) {a : Addr} {k : ClassId} {z j : Int32} {vs : List Value} {dv v : Value} (eT : T.heap = h) (V : Arv Z h a k .long z vs dv) (hj : ¬ j < 0 ∧ j < z) (hv : vs.getD j.toNatClampNeg dv = v) (hd : decode c.code pc = .ok (.laload, 1)) (hn : pc + 1 = n) (kk : own_G p e below K T (mkF m n Ls (v :: S))) : own_G p e below K T (mkF m pc Ls (.int j :: .ref a :: S)) := by
  subst hn
  exact own_go (own_laload X hx hZ eT V hj hv hd) kk
theorem own_len {K : Outcome → State → Prop} {pc n : Nat} {Ls : Array Slot} {S : List Value} {h : Heap} (X : Stand p l e R s m args below meth c T locs cells slots) (hx : p.tables.exec = Jvm.exec) (hZ : Z.Warmed39 s.vm) {a : Addr} {k : ClassId} {ty : FieldType} {z : Int32} {vs : List Value} {dv : Value} (eT : T.heap = h) (V : Arv Z h a k ty z vs dv) (hd : decode c.code pc = .ok (.arraylength, 1)) (hn : pc + 1 = n) (kk : own_G p e below K T (mkF m n Ls (.int z :: S))) : own_G p e below K T (mkF m pc Ls (.ref a :: S)) := by
  subst hn
  exact own_go (own_alen X hx hZ eT V hd) kk
theorem own_ldc {K : Outcome → State → Prop} {pc n : Nat} {Ls : Array Slot} {S : List Value} (X : Stand p l e R s m args below meth c T locs cells slots) (hx : p.tables.exec = Jvm.exec) (hZ : Z.Warmed39 s.vm) {own : String} {index : Nat} {v : Int32} (hown : s.vm.findClass own = some m.cls) (w : (Jvm.Cond.constant own index v).before a0 Z = true) (hd : decode c.code pc = .ok (.ldc index, 2)) (hn : pc + 2 = n) (kk : own_G p e below K T (mkF m n Ls (.int v :: S))) : own_G p e below K T (mkF m pc Ls S) := by
  subst hn
  exact own_go (fun t k => X.ldcInt hx hown (mvT hZ w) (g := mkF m pc Ls S) rfl hd t k) kk
theorem own_ccast {K : Outcome → State → Prop} {pc n : Nat} {Ls : Array Slot} {S : List Value} {h : Heap} (X : Stand p l e R s m args below meth c T locs cells slots) (hx : p.tables.exec = Jvm.exec) (hZ : Z.Warmed39 s.vm) {own C : String} {index : Nat} (hown : s.vm.findClass own = some m.cls) (w : (Jvm.Cond.classLink own index C).before a0 Z = true) (eT : T.heap = h) {a : Addr} (F : Ins Z h a C true) (hd : decode c.code pc = .ok (.checkcast index, 3)) (hn : pc + 3 = n)
    (kk : ∀ T' : State, Stand p l e R s m args below meth c T' locs cells slots → T'.heap = h → own_G p e below K T' (mkF m n Ls (.ref a :: S))) : own_G p e below K T (mkF m pc Ls (.ref a :: S)) := by
  subst hn
  obtain ⟨T', X', e', st⟩ := castY X hx hZ hown w eT F (g := mkF m pc Ls (.ref a :: S)) rfl rfl hd
  exact own_go st (kk T' X' e')
theorem own_initO {K : Outcome → State → Prop} {pc n : Nat} {Ls : Array Slot} {S : List Value} {h : Heap} (X : Stand p l e R s m args below meth c T locs cells slots) (hx : p.tables.exec = Jvm.exec) (hZ : Z.Warmed39 s.vm) {own : String} {index : Nat} (hown : s.vm.findClass own = some m.cls) (w1 : (Jvm.Cond.methodLink own index Lib.objectInit).before a0 Z = true) (w2 : (Jvm.Cond.instanceMethod Lib.objectInit).before a0 Z = true) (w3 : (Jvm.Cond.code Lib.objectInit ⟨#[0xb1]⟩ 1 none).before a0 Z = true) (eT : T.heap = h) (hsz : Ls.size = c.maxLocals) {a : Addr} (hd : decode c.code pc = .ok (.invokespecial index, 3)) (hf : 1 ≤ R.frames) (hl : (S.map fun v => v.category).sum + 12 ≤ R.locals) (hn : pc + 3 = n)
    (kk : ∀ T' : State, Stand p l e R s m args below meth c T' locs cells slots → T'.heap = h → own_G p e below K T' (mkF m n Ls (S))) : own_G p e below K T (mkF m pc Ls (.ref a :: S)) := by
  subst hn
  obtain ⟨T', X', e', st⟩ := Jvm.RoadKit.initO X hx hZ hown w1 w2 w3 eT (g := mkF m pc Ls (.ref a :: S)) rfl hsz rfl hd hf (W := (S.map fun v => v.category).sum) (by show 2 * 0 + _ ≤ _; exact Nat.le_of_eq (Nat.zero_add _)) hl
  exact own_go st (kk T' X' e')
theorem own_S {K : Outcome → State → Prop} {pc n : Nat} {Ls : Array Slot} {h : Heap} {own : String} {index maxL : Nat} {y : MethodName} {bytes : ByteArray} {rm : Room} {Q : Option Value → Heap → List Loc → Prop} {argsL rest stk : List Value} {ret : Option FieldType} (X : Stand p l e R s m args below meth c T locs cells slots) (hx : p.tables.exec = Jvm.exec) (hZ : Z.Warmed39 s.vm) (hown : s.vm.findClass own = some m.cls) (hM : own_Met l Z y bytes maxL ret [] rm argsL.toArray h Q) (w1 : (Jvm.Cond.methodLink own index y).before a0 Z = true) (w2 : (Jvm.Cond.static y).before a0 Z = true) (w3 : (Jvm.Cond.initialized y.cls).before a0 Z = true) (w4 : (Jvm.Cond.code y bytes maxL ret).before a0 Z = true) (hy : y.cls ≠ "java/lang/invoke/MethodHandle" ∧ y.cls ≠ "java/lang/invoke/VarHandle") (eT : T.heap = h) (hsz : Ls.size = c.maxLocals) (hlen : ∀ sig, parseMethodDescriptor y.desc = some sig → argsL.length = sig.parameters.length) (hstk : stk = argsL.reverse ++ rest) (hd : decode c.code pc = .ok (.invokestatic index, 3)) (hf : rm.frames + 1 ≤ R.frames) (hl : (rest.map fun v => v.category).sum + (maxL + 11) + rm.locals ≤ R.locals) (hc : cells + rm.cells ≤ R.cells) (hs : slots + rm.slots ≤ R.slots) (hn : pc + 3 = n)
    (kk : ∀ (v : Option Value) (T' : State) (L : List Loc), Stand p l e R s m args below meth c T' (locs ++ L) (cells + rm.cells) (slots + rm.slots) → Q v T'.heap L → own_G p e below K T' (mkF m n Ls (v.toList ++ rest))) : own_G p e below K T (mkF m pc Ls stk) := by
  subst hn
  obtain ⟨v, T', L, X', hQ, st⟩ := own_callS X hx hZ hown hM w1 w2 w3 w4 hy eT hsz hlen hstk hd hf hl hc hs
  exact own_go st (kk v T' L X' hQ)
theorem own_I {K : Outcome → State → Prop} {pc n : Nat} {Ls : Array Slot} {h : Heap} {own : String} {index maxL : Nat} {y : MethodName} {bytes : ByteArray} {rm : Room} {Q : Option Value → Heap → List Loc → Prop} {argsL rest stk : List Value} {a : Addr} (hy1 : y.name = "<init>") (X : Stand p l e R s m args below meth c T locs cells slots) (hx : p.tables.exec = Jvm.exec) (hZ : Z.Warmed39 s.vm) (hown : s.vm.findClass own = some m.cls) (hM : own_Met l Z y bytes maxL none [] rm (.ref a :: argsL).toArray h Q) (w1 : (Jvm.Cond.methodLink own index y).before a0 Z = true) (w2 : (Jvm.Cond.instanceMethod y).before a0 Z = true) (w3 : (Jvm.Cond.initialized y.cls).before a0 Z = true) (w4 : (Jvm.Cond.code y bytes maxL none).before a0 Z = true) (hy : y.cls ≠ "java/lang/invoke/MethodHandle" ∧ y.cls ≠ "java/lang/invoke/VarHandle") (eT : T.heap = h) (hsz : Ls.size = c.maxLocals) (hlen : ∀ sig, parseMethodDescriptor y.desc = some sig → argsL.length = sig.parameters.length) (hstk : stk = argsL.reverse ++ .ref a :: rest) (hd : decode c.code pc = .ok (.invokespecial index, 3)) (hf : rm.frames + 1 ≤ R.frames) (hl : (rest.map fun v => v.category).sum + (maxL + 11) + rm.locals ≤ R.locals) (hc : cells + rm.cells ≤ R.cells) (hs : slots + rm.slots ≤ R.slots) (hn : pc + 3 = n)
    (kk : ∀ (v : Option Value) (T' : State) (L : List Loc), Stand p l e R s m args below meth c T' (locs ++ L) (cells + rm.cells) (slots + rm.slots) → Q v T'.heap L → own_G p e below K T' (mkF m n Ls (v.toList ++ rest))) : own_G p e below K T (mkF m pc Ls stk) := by
  subst hn
  obtain ⟨v, T', L, X', hQ, st⟩ := own_callI hy1 X hx hZ hown hM w1 w2 w3 w4 hy eT hsz hlen hstk hd hf hl hc hs
  exact own_go st (kk v T' L X' hQ)
theorem own_V {K : Outcome → State → Prop} {pc n : Nat} {Ls : Array Slot} {h : Heap} {own : String} {index maxL : Nat} {y : MethodName} {bytes : ByteArray} {rm : Room} {Q : Option Value → Heap → List Loc → Prop} {argsL rest stk : List Value} {ret : Option FieldType} {C : String} {z : MethodName} {a : Addr} (X : Stand p l e R s m args below meth c T locs cells slots) (hx : p.tables.exec = Jvm.exec) (hZ : Z.Warmed39 s.vm) (hown : s.vm.findClass own = some m.cls) (hM : own_Met l Z z bytes maxL ret [] rm (.ref a :: argsL).toArray h Q) (w1 : (Jvm.Cond.methodLink own index y).before a0 Z = true) (w2 : (Jvm.Cond.declares y).before a0 Z = true) (nf : NotFace s y) (w5 : (Jvm.Cond.selects C y z).before a0 Z = true) (w6 : (Jvm.Cond.instanceMethod z).before a0 Z = true) (w3 : (Jvm.Cond.initialized z.cls).before a0 Z = true) (w4 : (Jvm.Cond.code z bytes maxL ret).before a0 Z = true) (hy : y.cls ≠ "java/lang/invoke/MethodHandle" ∧ y.cls ≠ "java/lang/invoke/VarHandle") (eT : T.heap = h) (E : Exa Z h a C) (hsz : Ls.size = c.maxLocals) (hlen : ∀ sig, parseMethodDescriptor y.desc = some sig → argsL.length = sig.parameters.length) (hstk : stk = argsL.reverse ++ .ref a :: rest) (hd : decode c.code pc = .ok (.invokevirtual index, 3)) (hf : rm.frames + 1 ≤ R.frames) (hl : (rest.map fun v => v.category).sum + (maxL + 11) + rm.locals ≤ R.locals) (hc : cells + rm.cells ≤ R.cells) (hs : slots + rm.slots ≤ R.slots) (hn : pc + 3 = n)
    (kk : ∀ (v : Option Value) (T' : State) (L : List Loc), Stand p l e R s m args below meth c T' (locs ++ L) (cells + rm.cells) (slots + rm.slots) → Q v T'.heap L → own_G p e below K T' (mkF m n Ls (v.toList ++ rest))) : own_G p e below K T (mkF m pc Ls stk) := by
  subst hn
  obtain ⟨v, T', L, X', hQ, st⟩ := own_callV X hx hZ hown hM w1 w2 nf w5 w6 w3 w4 hy eT E hsz hlen hstk hd hf hl hc hs
  exact own_go st (kk v T' L X' hQ)
end OwnSteps

theorem own_an_int : "[" ++ (newarray.typeOf .int).toString = "[I" := by decide +kernel
theorem own_an_long : "[" ++ (newarray.typeOf .long).toString = "[J" := by decide +kernel
theorem own_an_byte : "[" ++ (newarray.typeOf .byte).toString = "[B" := by decide +kernel
theorem own_an_char : "[" ++ (newarray.typeOf .char).toString = "[C" := by decide +kernel
theorem own_an_J : (FieldType.array .long).toString = "[J" := by decide +kernel
theorem own_an_JJ : "[" ++ "[J" = "[[J" := by decide +kernel
theorem own_ne {b z : Addr} {h : Heap} (hb : b < h.size) (g : z = h.size) : b ≠ z := Nat.ne_of_lt (Nat.lt_of_lt_of_le hb (Nat.le_of_eq g.symm))
theorem own_neEA {Z : State} {h : Heap} {a b : Addr} {C : String} {a0 : Array Value} {kk : Nat} {k : ClassId} {ty : FieldType} {n : Int32} {vs : List Value} {dv : Value} (E : Exa Z h a C) (w : (Jvm.Cond.instantiable C kk).before a0 Z = true) (V : Arv Z h b k ty n vs dv) : a ≠ b := by
  obtain ⟨c, A, -⟩ := V
  exact ne_arr E w A
theorem ww0 {Z : State} {a0 : Array Value} (hw : ∀ d ∈ tables_1, d.before a0 Z = true) : (Jvm.Cond.arrayClass Jvm.ClassFile.FieldType.long).before a0 Z = true := hw _ (List.mem_of_getElem? (i := 0) rfl)
theorem ww1 {Z : State} {a0 : Array Value} (hw : ∀ d ∈ tables_1, d.before a0 Z = true) : (Jvm.Cond.constant "com/example/eunomia/eunomia/engine/IdSetIsEmptyPinLaw" (7 : Nat) (16777215 : Int32)).before a0 Z = true := hw _ (List.mem_of_getElem? (i := 1) rfl)
theorem ww2 {Z : State} {a0 : Array Value} (hw : ∀ d ∈ tables_1, d.before a0 Z = true) : (Jvm.Cond.arrayClass Jvm.ClassFile.FieldType.int).before a0 Z = true := hw _ (List.mem_of_getElem? (i := 2) rfl)
theorem ww3 {Z : State} {a0 : Array Value} (hw : ∀ d ∈ tables_1, d.before a0 Z = true) : (Jvm.Cond.constant "com/example/eunomia/eunomia/engine/IdSetIsEmptyPinLaw" (8 : Nat) (2147483647 : Int32)).before a0 Z = true := hw _ (List.mem_of_getElem? (i := 3) rfl)
theorem ww4 {Z : State} {a0 : Array Value} (hw : ∀ d ∈ tables_1, d.before a0 Z = true) : (Jvm.Cond.classLink "com/example/eunomia/eunomia/engine/IdSetIsEmptyPinLaw" (9 : Nat) "com/example/eunomia/eunomia/engine/IdSet").before a0 Z = true := hw _ (List.mem_of_getElem? (i := 4) rfl)
theorem ww5 {Z : State} {a0 : Array Value} (hw : ∀ d ∈ tables_1, d.before a0 Z = true) : (Jvm.Cond.instantiable "com/example/eunomia/eunomia/engine/IdSet" (4 : Nat)).before a0 Z = true := hw _ (List.mem_of_getElem? (i := 5) rfl)
theorem ww6 {Z : State} {a0 : Array Value} (hw : ∀ d ∈ tables_1, d.before a0 Z = true) : (Jvm.Cond.initialized "com/example/eunomia/eunomia/engine/IdSet").before a0 Z = true := hw _ (List.mem_of_getElem? (i := 6) rfl)
theorem ww7 {Z : State} {a0 : Array Value} (hw : ∀ d ∈ tables_1, d.before a0 Z = true) : (Jvm.Cond.methodLink "com/example/eunomia/eunomia/engine/IdSetIsEmptyPinLaw" (11 : Nat) ({ cls := "com/example/eunomia/eunomia/engine/IdSet", name := "<init>", desc := "([J[I[J)V" } : Jvm.MethodName)).before a0 Z = true := hw _ (List.mem_of_getElem? (i := 7) rfl)
theorem ww8 {Z : State} {a0 : Array Value} (hw : ∀ d ∈ tables_1, d.before a0 Z = true) : (Jvm.Cond.instanceMethod ({ cls := "com/example/eunomia/eunomia/engine/IdSet", name := "<init>", desc := "([J[I[J)V" } : Jvm.MethodName)).before a0 Z = true := hw _ (List.mem_of_getElem? (i := 8) rfl)
theorem ww9 {Z : State} {a0 : Array Value} (hw : ∀ d ∈ tables_1, d.before a0 Z = true) : (Jvm.Cond.code ({ cls := "com/example/eunomia/eunomia/engine/IdSet", name := "<init>", desc := "([J[I[J)V" } : Jvm.MethodName) prog_30_method_1_code (4 : Nat) (Option.none : Option Jvm.ClassFile.FieldType)).before a0 Z = true := hw _ (List.mem_of_getElem? (i := 9) rfl)
theorem ww10 {Z : State} {a0 : Array Value} (hw : ∀ d ∈ tables_1, d.before a0 Z = true) : (Jvm.Cond.methodLink "com/example/eunomia/eunomia/engine/IdSet" (1 : Nat) ({ cls := "java/lang/Object", name := "<init>", desc := "()V" } : Jvm.MethodName)).before a0 Z = true := hw _ (List.mem_of_getElem? (i := 10) rfl)
theorem ww11 {Z : State} {a0 : Array Value} (hw : ∀ d ∈ tables_1, d.before a0 Z = true) : (Jvm.Cond.instanceMethod ({ cls := "java/lang/Object", name := "<init>", desc := "()V" } : Jvm.MethodName)).before a0 Z = true := hw _ (List.mem_of_getElem? (i := 11) rfl)
theorem ww12 {Z : State} {a0 : Array Value} (hw : ∀ d ∈ tables_1, d.before a0 Z = true) : (Jvm.Cond.code ({ cls := "java/lang/Object", name := "<init>", desc := "()V" } : Jvm.MethodName) object_method_1_code (1 : Nat) (Option.none : Option Jvm.ClassFile.FieldType)).before a0 Z = true := hw _ (List.mem_of_getElem? (i := 12) rfl)
theorem ww13 {Z : State} {a0 : Array Value} (hw : ∀ d ∈ tables_1, d.before a0 Z = true) : (Jvm.Cond.fieldLink "com/example/eunomia/eunomia/engine/IdSet" (7 : Nat) "com/example/eunomia/eunomia/engine/IdSet" "low" "[J").before a0 Z = true := hw _ (List.mem_of_getElem? (i := 13) rfl)
theorem ww14 {Z : State} {a0 : Array Value} (hw : ∀ d ∈ tables_1, d.before a0 Z = true) : (Jvm.Cond.laysFinal "com/example/eunomia/eunomia/engine/IdSet" "com/example/eunomia/eunomia/engine/IdSet" "low" "[J").before a0 Z = true := hw _ (List.mem_of_getElem? (i := 14) rfl)
theorem ww15 {Z : State} {a0 : Array Value} (hw : ∀ d ∈ tables_1, d.before a0 Z = true) : (Jvm.Cond.fieldLink "com/example/eunomia/eunomia/engine/IdSet" (13 : Nat) "com/example/eunomia/eunomia/engine/IdSet" "places" "[I").before a0 Z = true := hw _ (List.mem_of_getElem? (i := 15) rfl)
theorem ww16 {Z : State} {a0 : Array Value} (hw : ∀ d ∈ tables_1, d.before a0 Z = true) : (Jvm.Cond.laysFinal "com/example/eunomia/eunomia/engine/IdSet" "com/example/eunomia/eunomia/engine/IdSet" "places" "[I").before a0 Z = true := hw _ (List.mem_of_getElem? (i := 16) rfl)
theorem ww17 {Z : State} {a0 : Array Value} (hw : ∀ d ∈ tables_1, d.before a0 Z = true) : (Jvm.Cond.fieldLink "com/example/eunomia/eunomia/engine/IdSet" (17 : Nat) "com/example/eunomia/eunomia/engine/IdSet" "words" "[J").before a0 Z = true := hw _ (List.mem_of_getElem? (i := 17) rfl)
theorem ww18 {Z : State} {a0 : Array Value} (hw : ∀ d ∈ tables_1, d.before a0 Z = true) : (Jvm.Cond.laysFinal "com/example/eunomia/eunomia/engine/IdSet" "com/example/eunomia/eunomia/engine/IdSet" "words" "[J").before a0 Z = true := hw _ (List.mem_of_getElem? (i := 18) rfl)
theorem ww19 {Z : State} {a0 : Array Value} (hw : ∀ d ∈ tables_1, d.before a0 Z = true) : (Jvm.Cond.methodLink "com/example/eunomia/eunomia/engine/IdSet" (20 : Nat) ({ cls := "java/util/Arrays", name := "hashCode", desc := "([J)I" } : Jvm.MethodName)).before a0 Z = true := hw _ (List.mem_of_getElem? (i := 19) rfl)
theorem ww20 {Z : State} {a0 : Array Value} (hw : ∀ d ∈ tables_1, d.before a0 Z = true) : (Jvm.Cond.static ({ cls := "java/util/Arrays", name := "hashCode", desc := "([J)I" } : Jvm.MethodName)).before a0 Z = true := hw _ (List.mem_of_getElem? (i := 20) rfl)
theorem ww21 {Z : State} {a0 : Array Value} (hw : ∀ d ∈ tables_1, d.before a0 Z = true) : (Jvm.Cond.initialized "java/util/Arrays").before a0 Z = true := hw _ (List.mem_of_getElem? (i := 21) rfl)
theorem ww22 {Z : State} {a0 : Array Value} (hw : ∀ d ∈ tables_1, d.before a0 Z = true) : (Jvm.Cond.code ({ cls := "java/util/Arrays", name := "hashCode", desc := "([J)I" } : Jvm.MethodName) jdk_65_method_149_code (8 : Nat) (Option.some Jvm.ClassFile.FieldType.int)).before a0 Z = true := hw _ (List.mem_of_getElem? (i := 22) rfl)
theorem ww23 {Z : State} {a0 : Array Value} (hw : ∀ d ∈ tables_1, d.before a0 Z = true) : (Jvm.Cond.methodLink "com/example/eunomia/eunomia/engine/IdSet" (26 : Nat) ({ cls := "java/util/Arrays", name := "hashCode", desc := "([I)I" } : Jvm.MethodName)).before a0 Z = true := hw _ (List.mem_of_getElem? (i := 23) rfl)
theorem ww24 {Z : State} {a0 : Array Value} (hw : ∀ d ∈ tables_1, d.before a0 Z = true) : (Jvm.Cond.static ({ cls := "java/util/Arrays", name := "hashCode", desc := "([I)I" } : Jvm.MethodName)).before a0 Z = true := hw _ (List.mem_of_getElem? (i := 24) rfl)
theorem ww25 {Z : State} {a0 : Array Value} (hw : ∀ d ∈ tables_1, d.before a0 Z = true) : (Jvm.Cond.code ({ cls := "java/util/Arrays", name := "hashCode", desc := "([I)I" } : Jvm.MethodName) jdk_65_method_150_code (1 : Nat) (Option.some Jvm.ClassFile.FieldType.int)).before a0 Z = true := hw _ (List.mem_of_getElem? (i := 25) rfl)
theorem ww26 {Z : State} {a0 : Array Value} (hw : ∀ d ∈ tables_1, d.before a0 Z = true) : (Jvm.Cond.fieldLink "com/example/eunomia/eunomia/engine/IdSet" (29 : Nat) "com/example/eunomia/eunomia/engine/IdSet" "hash" "I").before a0 Z = true := hw _ (List.mem_of_getElem? (i := 26) rfl)
theorem ww27 {Z : State} {a0 : Array Value} (hw : ∀ d ∈ tables_1, d.before a0 Z = true) : (Jvm.Cond.laysFinal "com/example/eunomia/eunomia/engine/IdSet" "com/example/eunomia/eunomia/engine/IdSet" "hash" "I").before a0 Z = true := hw _ (List.mem_of_getElem? (i := 27) rfl)
theorem ww28 {Z : State} {a0 : Array Value} (hw : ∀ d ∈ tables_1, d.before a0 Z = true) : (Jvm.Cond.methodLink "com/example/eunomia/eunomia/engine/IdSetIsEmptyPinLaw" (14 : Nat) ({ cls := "com/example/eunomia/eunomia/engine/IdSet", name := "isEmpty", desc := "()Z" } : Jvm.MethodName)).before a0 Z = true := hw _ (List.mem_of_getElem? (i := 28) rfl)
theorem ww29 {Z : State} {a0 : Array Value} (hw : ∀ d ∈ tables_1, d.before a0 Z = true) : (Jvm.Cond.declares ({ cls := "com/example/eunomia/eunomia/engine/IdSet", name := "isEmpty", desc := "()Z" } : Jvm.MethodName)).before a0 Z = true := hw _ (List.mem_of_getElem? (i := 29) rfl)
theorem ww30 {Z : State} {a0 : Array Value} (hw : ∀ d ∈ tables_1, d.before a0 Z = true) : (Jvm.Cond.instanceMethod ({ cls := "com/example/eunomia/eunomia/engine/IdSet", name := "isEmpty", desc := "()Z" } : Jvm.MethodName)).before a0 Z = true := hw _ (List.mem_of_getElem? (i := 30) rfl)
theorem ww31 {Z : State} {a0 : Array Value} (hw : ∀ d ∈ tables_1, d.before a0 Z = true) : (Jvm.Cond.selects "com/example/eunomia/eunomia/engine/IdSet" ({ cls := "com/example/eunomia/eunomia/engine/IdSet", name := "isEmpty", desc := "()Z" } : Jvm.MethodName) ({ cls := "com/example/eunomia/eunomia/engine/IdSet", name := "isEmpty", desc := "()Z" } : Jvm.MethodName)).before a0 Z = true := hw _ (List.mem_of_getElem? (i := 31) rfl)
theorem ww32 {Z : State} {a0 : Array Value} (hw : ∀ d ∈ tables_1, d.before a0 Z = true) : (Jvm.Cond.code ({ cls := "com/example/eunomia/eunomia/engine/IdSet", name := "isEmpty", desc := "()Z" } : Jvm.MethodName) prog_30_method_4_code (1 : Nat) (Option.some Jvm.ClassFile.FieldType.boolean)).before a0 Z = true := hw _ (List.mem_of_getElem? (i := 32) rfl)
theorem ww33 {Z : State} {a0 : Array Value} (hw : ∀ d ∈ tables_1, d.before a0 Z = true) : (Jvm.Cond.methodLink "com/example/eunomia/eunomia/engine/IdSetIsEmptyPinLaw" (18 : Nat) ({ cls := "com/example/eunomia/eunomia/engine/IdSet", name := "contains", desc := "(I)Z" } : Jvm.MethodName)).before a0 Z = true := hw _ (List.mem_of_getElem? (i := 33) rfl)
theorem ww34 {Z : State} {a0 : Array Value} (hw : ∀ d ∈ tables_1, d.before a0 Z = true) : (Jvm.Cond.declares ({ cls := "com/example/eunomia/eunomia/engine/IdSet", name := "contains", desc := "(I)Z" } : Jvm.MethodName)).before a0 Z = true := hw _ (List.mem_of_getElem? (i := 34) rfl)
theorem ww35 {Z : State} {a0 : Array Value} (hw : ∀ d ∈ tables_1, d.before a0 Z = true) : (Jvm.Cond.instanceMethod ({ cls := "com/example/eunomia/eunomia/engine/IdSet", name := "contains", desc := "(I)Z" } : Jvm.MethodName)).before a0 Z = true := hw _ (List.mem_of_getElem? (i := 35) rfl)
theorem ww36 {Z : State} {a0 : Array Value} (hw : ∀ d ∈ tables_1, d.before a0 Z = true) : (Jvm.Cond.selects "com/example/eunomia/eunomia/engine/IdSet" ({ cls := "com/example/eunomia/eunomia/engine/IdSet", name := "contains", desc := "(I)Z" } : Jvm.MethodName) ({ cls := "com/example/eunomia/eunomia/engine/IdSet", name := "contains", desc := "(I)Z" } : Jvm.MethodName)).before a0 Z = true := hw _ (List.mem_of_getElem? (i := 36) rfl)
theorem ww37 {Z : State} {a0 : Array Value} (hw : ∀ d ∈ tables_1, d.before a0 Z = true) : (Jvm.Cond.code ({ cls := "com/example/eunomia/eunomia/engine/IdSet", name := "contains", desc := "(I)Z" } : Jvm.MethodName) prog_30_method_3_code (5 : Nat) (Option.some Jvm.ClassFile.FieldType.boolean)).before a0 Z = true := hw _ (List.mem_of_getElem? (i := 37) rfl)
theorem ww38 {Z : State} {a0 : Array Value} (hw : ∀ d ∈ tables_1, d.before a0 Z = true) : (Jvm.Cond.methodLink "com/example/eunomia/eunomia/engine/IdSet" (52 : Nat) ({ cls := "java/util/Arrays", name := "binarySearch", desc := "([II)I" } : Jvm.MethodName)).before a0 Z = true := hw _ (List.mem_of_getElem? (i := 38) rfl)
theorem ww39 {Z : State} {a0 : Array Value} (hw : ∀ d ∈ tables_1, d.before a0 Z = true) : (Jvm.Cond.static ({ cls := "java/util/Arrays", name := "binarySearch", desc := "([II)I" } : Jvm.MethodName)).before a0 Z = true := hw _ (List.mem_of_getElem? (i := 39) rfl)
theorem ww40 {Z : State} {a0 : Array Value} (hw : ∀ d ∈ tables_1, d.before a0 Z = true) : (Jvm.Cond.code ({ cls := "java/util/Arrays", name := "binarySearch", desc := "([II)I" } : Jvm.MethodName) jdk_65_method_57_code (2 : Nat) (Option.some Jvm.ClassFile.FieldType.int)).before a0 Z = true := hw _ (List.mem_of_getElem? (i := 40) rfl)
theorem ww41 {Z : State} {a0 : Array Value} (hw : ∀ d ∈ tables_1, d.before a0 Z = true) : (Jvm.Cond.methodLink "java/util/Arrays" (209 : Nat) ({ cls := "java/util/Arrays", name := "binarySearch0", desc := "([IIII)I" } : Jvm.MethodName)).before a0 Z = true := hw _ (List.mem_of_getElem? (i := 41) rfl)
theorem ww42 {Z : State} {a0 : Array Value} (hw : ∀ d ∈ tables_1, d.before a0 Z = true) : (Jvm.Cond.static ({ cls := "java/util/Arrays", name := "binarySearch0", desc := "([IIII)I" } : Jvm.MethodName)).before a0 Z = true := hw _ (List.mem_of_getElem? (i := 42) rfl)
theorem ww43 {Z : State} {a0 : Array Value} (hw : ∀ d ∈ tables_1, d.before a0 Z = true) : (Jvm.Cond.code ({ cls := "java/util/Arrays", name := "binarySearch0", desc := "([IIII)I" } : Jvm.MethodName) jdk_65_method_59_code (8 : Nat) (Option.some Jvm.ClassFile.FieldType.int)).before a0 Z = true := hw _ (List.mem_of_getElem? (i := 43) rfl)
theorem ww44 {Z : State} {a0 : Array Value} (hw : ∀ d ∈ tables_1, d.before a0 Z = true) : (Jvm.Cond.methodLink "java/util/Arrays" (379 : Nat) ({ cls := "jdk/internal/util/ArraysSupport", name := "vectorizedHashCode", desc := "(Ljava/lang/Object;IIII)I" } : Jvm.MethodName)).before a0 Z = true := hw _ (List.mem_of_getElem? (i := 44) rfl)
theorem ww45 {Z : State} {a0 : Array Value} (hw : ∀ d ∈ tables_1, d.before a0 Z = true) : (Jvm.Cond.static ({ cls := "jdk/internal/util/ArraysSupport", name := "vectorizedHashCode", desc := "(Ljava/lang/Object;IIII)I" } : Jvm.MethodName)).before a0 Z = true := hw _ (List.mem_of_getElem? (i := 45) rfl)
theorem ww46 {Z : State} {a0 : Array Value} (hw : ∀ d ∈ tables_1, d.before a0 Z = true) : (Jvm.Cond.initialized "jdk/internal/util/ArraysSupport").before a0 Z = true := hw _ (List.mem_of_getElem? (i := 46) rfl)
theorem ww47 {Z : State} {a0 : Array Value} (hw : ∀ d ∈ tables_1, d.before a0 Z = true) : (Jvm.Cond.code ({ cls := "jdk/internal/util/ArraysSupport", name := "vectorizedHashCode", desc := "(Ljava/lang/Object;IIII)I" } : Jvm.MethodName) jdk_48_method_4_code (5 : Nat) (Option.some Jvm.ClassFile.FieldType.int)).before a0 Z = true := hw _ (List.mem_of_getElem? (i := 47) rfl)
theorem ww48 {Z : State} {a0 : Array Value} (hw : ∀ d ∈ tables_1, d.before a0 Z = true) : (Jvm.Cond.classLink "jdk/internal/util/ArraysSupport" (82 : Nat) "[I").before a0 Z = true := hw _ (List.mem_of_getElem? (i := 48) rfl)
theorem ww50 {Z : State} {a0 : Array Value} (hw : ∀ d ∈ tables_1, d.before a0 Z = true) : (Jvm.Cond.methodLink "jdk/internal/util/ArraysSupport" (84 : Nat) ({ cls := "jdk/internal/util/ArraysSupport", name := "hashCode", desc := "(I[III)I" } : Jvm.MethodName)).before a0 Z = true := hw _ (List.mem_of_getElem? (i := 50) rfl)
theorem ww51 {Z : State} {a0 : Array Value} (hw : ∀ d ∈ tables_1, d.before a0 Z = true) : (Jvm.Cond.static ({ cls := "jdk/internal/util/ArraysSupport", name := "hashCode", desc := "(I[III)I" } : Jvm.MethodName)).before a0 Z = true := hw _ (List.mem_of_getElem? (i := 51) rfl)
theorem ww52 {Z : State} {a0 : Array Value} (hw : ∀ d ∈ tables_1, d.before a0 Z = true) : (Jvm.Cond.code ({ cls := "jdk/internal/util/ArraysSupport", name := "hashCode", desc := "(I[III)I" } : Jvm.MethodName) jdk_48_method_9_code (6 : Nat) (Option.some Jvm.ClassFile.FieldType.int)).before a0 Z = true := hw _ (List.mem_of_getElem? (i := 52) rfl)
/-! the plain law -/
theorem own_and3 (y : Int32) : y &&& (3 : Int32) = (0 : Int32) ∨ y &&& (3 : Int32) = (1 : Int32) ∨ y &&& (3 : Int32) = (2 : Int32) ∨ y &&& (3 : Int32) = (3 : Int32) := by
  have a := c_and y 3 (by decide)
  have e0 : (0 : Int32).toInt = 0 := rfl
  have e1 : (1 : Int32).toInt = 1 := rfl
  have e2 : (2 : Int32).toInt = 2 := rfl
  have e3 : (3 : Int32).toInt = 3 := rfl
  simp only [← Int32.toInt_inj]
  omega
theorem own_rem3 (y : Int32) : (y &&& (3 : Int32)) % (3 : Int32) = (0 : Int32) ∨ (y &&& (3 : Int32)) % (3 : Int32) = (1 : Int32) ∨ (y &&& (3 : Int32)) % (3 : Int32) = (2 : Int32) := by rcases own_and3 y with q | q | q | q <;> rw [q] <;> decide
theorem own_irr (y : Int32) : ¬ y < y := by rw [Int32.lt_iff_toInt_lt]; omega
theorem own_j (y : Int32) : 0 ≤ (y &&& (63 : Int32)).toInt ∧ (y &&& (63 : Int32)).toInt < 64 := by
  have a := c_and y 63 (by decide)
  have e : (63 : Int32).toInt = 63 := rfl
  omega
theorem own_k0 (y : Int32) : 64 ≤ ((64 : Int32) + (y &&& (16777215 : Int32))).toInt ∧ ((64 : Int32) + (y &&& (16777215 : Int32))).toInt ≤ 16777279 := by
  have a := c_and y 16777215 (by decide)
  have e : (16777215 : Int32).toInt = 16777215 := rfl
  have e4 : (64 : Int32).toInt = 64 := rfl
  have s := c_iadd 64 (y &&& 16777215)
  have b1 := Int32.le_toInt (64 + (y &&& 16777215))
  have b2 := Int32.toInt_lt (64 + (y &&& 16777215))
  omega
theorem own_ushr6 {w k : Int32} (h0 : 0 ≤ w.toInt) (hk : w.toInt / 64 = k.toInt) : ((w).toUInt32 >>> ((6 : Int32) &&& 31).toUInt32).toInt32 = k := by
  apply Int32.toInt_inj.mp
  have b2 := Int32.toInt_lt w
  rw [c_iushr w 6 6 rfl (by decide), ← hk, Int.emod_eq_of_lt h0 (by omega)]
  rfl
theorem own_ushrn (w : Int32) : ¬ ((w).toUInt32 >>> ((6 : Int32) &&& 31).toUInt32).toInt32 < (0 : Int32) := by
  rw [Int32.lt_iff_toInt_lt, c_iushr w 6 6 rfl (by decide)]
  have e0 : (0 : Int32).toInt = 0 := rfl
  have := Int.emod_nonneg w.toInt (show (4294967296 : Int) ≠ 0 by decide)
  have := Int.ediv_nonneg this (show (0 : Int) ≤ ((2 ^ 6 : Nat) : Int) by decide)
  omega
theorem own_wl {c j : Int32} {n : Nat} (hn : c.toInt = n * 64) (hs : n ≤ 1) (h0 : 0 ≤ j.toInt) (h1 : j.toInt < 64) : 0 ≤ (c + j).toInt ∧ (c + j).toInt / 64 = n ∧ ((c + j).toInt - j.toInt) % 64 = 0 := by
  have s := c_iadd c j
  have b1 := Int32.le_toInt (c + j)
  have b2 := Int32.toInt_lt (c + j)
  omega
theorem own_wp {k j : Int32} (hk0 : 64 ≤ k.toInt) (hk1 : k.toInt ≤ 16777279) (h0 : 0 ≤ j.toInt) (h1 : j.toInt < 64) : 0 ≤ ((k * (64 : Int32)) + j).toInt ∧ ((k * (64 : Int32)) + j).toInt / 64 = k.toInt ∧ (((k * (64 : Int32)) + j).toInt - j.toInt) % 64 = 0 := by
  have e4 : (64 : Int32).toInt = 64 := rfl
  have t := c_imul k 64
  rw [e4] at t
  have b3 := Int32.le_toInt (k * 64)
  have b4 := Int32.toInt_lt (k * 64)
  have s := c_iadd (k * 64) j
  have b1 := Int32.le_toInt (k * 64 + j)
  have b2 := Int32.toInt_lt (k * 64 + j)
  omega
theorem own_b : ∀ k : Fin 64, (1 : Int64) <<< ((Int32.ofNat k.val) &&& 63).toInt64 ≠ 0 := by decide +kernel
theorem own_abs (y b : Int64) : (y ||| b) &&& b = b := by
  apply Int64.toBitVec_inj.mp
  show (y.toBitVec ||| b.toBitVec) &&& b.toBitVec = b.toBitVec
  apply BitVec.eq_of_getLsbD_eq
  intro i hi
  rw [BitVec.getLsbD_and, BitVec.getLsbD_or]
  cases y.toBitVec.getLsbD i <;> cases b.toBitVec.getLsbD i <;> rfl
theorem own_hbit (y : Int64) {j w : Int32} (h0 : 0 ≤ j.toInt) (h1 : j.toInt < 64) (hw : (w.toInt - j.toInt) % 64 = 0) : ¬ ((y ||| ((1 : Int64) <<< (j &&& 63).toInt64)) &&& ((1 : Int64) <<< (w &&& 63).toInt64)) = (0 : Int64) := by
  have e : w &&& 63 = j &&& 63 := by
    apply Int32.toInt_inj.mp
    rw [c_mask _ 63 6 (by decide) rfl, c_mask _ 63 6 (by decide) rfl]
    show w.toInt % 64 = j.toInt % 64
    omega
  rw [e, own_abs]
  obtain ⟨k, rfl⟩ : ∃ k : Fin 64, j = Int32.ofNat k.val := by
    refine ⟨⟨j.toInt.toNat, by omega⟩, ?_⟩
    apply Int32.toInt_inj.mp
    rw [Int32.toInt_ofNat_of_lt (show j.toInt.toNat < 2 ^ 31 by omega)]
    show j.toInt = ((j.toInt.toNat : Nat) : Int)
    omega
  exact own_b k
theorem own_lc {y : Int64} (h : ¬ y = (0 : Int64)) : ¬ lcmpW y (0 : Int64) = (0 : Int32) := fun q => h ((lw_eq _ _).mp q)
theorem own_pn0 : plainFor x = true := plainFor_of_name (by first | (simp [plainName, overriddenIn]; done) | decide +kernel)
theorem own_pn1 : plainFor (⟨"com/example/eunomia/eunomia/engine/IdSet", "<init>", "([J[I[J)V"⟩ : MethodName) = true := plainFor_of_name (by first | (simp [plainName, overriddenIn]; done) | decide +kernel)
theorem d1_0 : decode prog_30_method_1_code 0 = .ok (.aload_n 0, 1) := by decide +kernel
theorem d1_1 : decode prog_30_method_1_code 1 = .ok (.invokespecial 1, 3) := by decide +kernel
theorem d1_4 : decode prog_30_method_1_code 4 = .ok (.aload_n 0, 1) := by decide +kernel
theorem d1_5 : decode prog_30_method_1_code 5 = .ok (.aload_n 1, 1) := by decide +kernel
theorem d1_6 : decode prog_30_method_1_code 6 = .ok (.putfield 7, 3) := by decide +kernel
theorem d1_9 : decode prog_30_method_1_code 9 = .ok (.aload_n 0, 1) := by decide +kernel
theorem d1_10 : decode prog_30_method_1_code 10 = .ok (.aload_n 2, 1) := by decide +kernel
theorem d1_11 : decode prog_30_method_1_code 11 = .ok (.putfield 13, 3) := by decide +kernel
theorem d1_14 : decode prog_30_method_1_code 14 = .ok (.aload_n 0, 1) := by decide +kernel
theorem d1_15 : decode prog_30_method_1_code 15 = .ok (.aload_n 3, 1) := by decide +kernel
theorem d1_16 : decode prog_30_method_1_code 16 = .ok (.putfield 17, 3) := by decide +kernel
theorem d1_19 : decode prog_30_method_1_code 19 = .ok (.aload_n 0, 1) := by decide +kernel
theorem d1_20 : decode prog_30_method_1_code 20 = .ok (.bipush 31, 2) := by decide +kernel
theorem d1_22 : decode prog_30_method_1_code 22 = .ok (.bipush 31, 2) := by decide +kernel
theorem d1_24 : decode prog_30_method_1_code 24 = .ok (.aload_n 1, 1) := by decide +kernel
theorem d1_25 : decode prog_30_method_1_code 25 = .ok (.invokestatic 20, 3) := by decide +kernel
theorem own_pn3 : plainFor (⟨"java/util/Arrays", "hashCode", "([J)I"⟩ : MethodName) = true := plainFor_of_name (by first | (simp [plainName, overriddenIn]; done) | decide +kernel)
theorem d3_0 : decode jdk_65_method_149_code 0 = .ok (.aload_n 0, 1) := by decide +kernel
theorem d3_1 : decode jdk_65_method_149_code 1 = .ok (.ifnonnull 5, 3) := by decide +kernel
theorem d3_6 : decode jdk_65_method_149_code 6 = .ok (.iconst 1, 1) := by decide +kernel
theorem d3_7 : decode jdk_65_method_149_code 7 = .ok (.istore_n 1, 1) := by decide +kernel
theorem d3_8 : decode jdk_65_method_149_code 8 = .ok (.aload_n 0, 1) := by decide +kernel
theorem d3_9 : decode jdk_65_method_149_code 9 = .ok (.astore_n 2, 1) := by decide +kernel
theorem d3_10 : decode jdk_65_method_149_code 10 = .ok (.aload_n 2, 1) := by decide +kernel
theorem d3_11 : decode jdk_65_method_149_code 11 = .ok (.arraylength, 1) := by decide +kernel
theorem d3_12 : decode jdk_65_method_149_code 12 = .ok (.istore_n 3, 1) := by decide +kernel
theorem d3_13 : decode jdk_65_method_149_code 13 = .ok (.iconst 0, 1) := by decide +kernel
theorem d3_14 : decode jdk_65_method_149_code 14 = .ok (.istore 4, 2) := by decide +kernel
theorem d3_16 : decode jdk_65_method_149_code 16 = .ok (.iload 4, 2) := by decide +kernel
theorem d3_18 : decode jdk_65_method_149_code 18 = .ok (.iload_n 3, 1) := by decide +kernel
theorem d3_19 : decode jdk_65_method_149_code 19 = .ok (.if_icmp .ge 34, 3) := by decide +kernel
theorem d3_53 : decode jdk_65_method_149_code 53 = .ok (.iload_n 1, 1) := by decide +kernel
theorem d3_54 : decode jdk_65_method_149_code 54 = .ok (.ireturn, 1) := by decide +kernel
theorem own_ef3_own_rmJ0 (m : MethodId) (y0 : Addr) : entryFrame m #[(.ref y0)] 8 = mkF m 0 #[.val (.ref y0), .unset, .unset, .unset, .unset, .unset, .unset, .unset] [] := by first | (simp [entryFrame, mkF, argsToLocals, Value.category]; done) | rfl
set_option maxRecDepth 65536 in
set_option maxHeartbeats 40000000 in
theorem own_rmJ0 (l : Launch) (Z : State) (a0 : Array Value) (hw : ∀ d ∈ tables_1, d.before a0 Z = true) (a : Addr) (kk : ClassId)  (h0 : Heap) (n0 : Nat) (Z0 : n0 ≤ h0.size) (V0 : Arv Z h0 a kk .long (0 : Int32) [] (.long (0 : Int64))) :
    own_Met l Z (⟨"java/util/Arrays", "hashCode", "([J)I"⟩ : MethodName) jdk_65_method_149_code 8 (some .int) [] ({ frames := 0, cells := 0, slots := 0, locals := 0 } : Room) #[(.ref a)] h0 (fun v h L => ∃ z : Int32, v = some (.int z) ∧ Fr n0 L ∧ h = h0) := by
  refine own_met own_pn3 ?_
  intro p e s m below meth c s₁ hx hby hml hown hnm hret hlk hZ X0 hE0
  have N0 := Fr.nil n0
  refine own_cast (own_ef3_own_rmJ0 m a) ?_
  refine own_aloadN (n := 1) X0 hx (hb hby d3_0) rfl rfl rfl ?_
  refine own_ifnonnullYes (n := 6) X0 hx (hb hby d3_1) (by decide) (by decide) ?_
  refine own_iconst (n := 7) (z := (1 : Int32)) X0 hx (hb hby d3_6) rfl rfl ?_
  refine own_istoreN (n := 8) (l' := #[.val (.ref a), .val (.int (1 : Int32)), .unset, .unset, .unset, .unset, .unset, .unset]) X0 hx (hb hby d3_7) rfl rfl ?_
  refine own_aloadN (n := 9) X0 hx (hb hby d3_8) rfl rfl rfl ?_
  refine own_astoreN (n := 10) (l' := #[.val (.ref a), .val (.int (1 : Int32)), .val (.ref a), .unset, .unset, .unset, .unset, .unset]) X0 hx (hb hby d3_9) rfl rfl rfl ?_
  refine own_aloadN (n := 11) X0 hx (hb hby d3_10) rfl rfl rfl ?_
  refine own_len (n := 12) X0 hx hZ hE0 V0 (hb hby d3_11) rfl ?_
  refine own_istoreN (n := 13) (l' := #[.val (.ref a), .val (.int (1 : Int32)), .val (.ref a), .val (.int (0 : Int32)), .unset, .unset, .unset, .unset]) X0 hx (hb hby d3_12) rfl rfl ?_
  refine own_iconst (n := 14) (z := (0 : Int32)) X0 hx (hb hby d3_13) rfl rfl ?_
  refine own_istore (n := 16) (l' := #[.val (.ref a), .val (.int (1 : Int32)), .val (.ref a), .val (.int (0 : Int32)), .val (.int (0 : Int32)), .unset, .unset, .unset]) X0 hx (hb hby d3_14) rfl rfl ?_
  refine own_iload (n := 18) X0 hx (hb hby d3_16) rfl rfl ?_
  refine own_iloadN (n := 19) X0 hx (hb hby d3_18) rfl rfl ?_
  refine own_icmpYes (n := 53) X0 hx (hb hby d3_19) (flt (by decide : ¬ ((0 : Int32) < (0 : Int32)))).2.1 (by decide) (by decide) ?_
  refine own_iloadN (n := 54) X0 hx (hb hby d3_53) rfl rfl ?_
  refine own_retI X0 hx hlk hret hE0 (hb hby d3_54) (by decide) (by decide) ?_
  exact ⟨_, rfl, N0, rfl⟩
theorem own_pd0 : parseMethodDescriptor "([J)I" = some ⟨[(.array .long)], some .int⟩ := by decide +kernel
theorem d1_28 : decode prog_30_method_1_code 28 = .ok (.imul, 1) := by decide +kernel
theorem d1_29 : decode prog_30_method_1_code 29 = .ok (.aload_n 2, 1) := by decide +kernel
theorem d1_30 : decode prog_30_method_1_code 30 = .ok (.invokestatic 26, 3) := by decide +kernel
theorem own_pn4 : plainFor (⟨"java/util/Arrays", "hashCode", "([I)I"⟩ : MethodName) = true := plainFor_of_name (by first | (simp [plainName, overriddenIn]; done) | decide +kernel)
theorem d4_0 : decode jdk_65_method_150_code 0 = .ok (.aload_n 0, 1) := by decide +kernel
theorem d4_1 : decode jdk_65_method_150_code 1 = .ok (.ifnonnull 5, 3) := by decide +kernel
theorem d4_6 : decode jdk_65_method_150_code 6 = .ok (.aload_n 0, 1) := by decide +kernel
theorem d4_7 : decode jdk_65_method_150_code 7 = .ok (.arraylength, 1) := by decide +kernel
theorem d4_8 : decode jdk_65_method_150_code 8 = .ok (.lookupswitch 41 #[(0, 28), (1, 32)], 28) := by decide +kernel
theorem d4_36 : decode jdk_65_method_150_code 36 = .ok (.iconst 1, 1) := by decide +kernel
theorem d4_37 : decode jdk_65_method_150_code 37 = .ok (.goto 22, 3) := by decide +kernel
theorem d4_59 : decode jdk_65_method_150_code 59 = .ok (.ireturn, 1) := by decide +kernel
theorem own_ef4_own_rmA0 (m : MethodId) (y0 : Addr) : entryFrame m #[(.ref y0)] 1 = mkF m 0 #[.val (.ref y0)] [] := by first | (simp [entryFrame, mkF, argsToLocals, Value.category]; done) | rfl
set_option maxRecDepth 65536 in
set_option maxHeartbeats 40000000 in
theorem own_rmA0 (l : Launch) (Z : State) (a0 : Array Value) (hw : ∀ d ∈ tables_1, d.before a0 Z = true) (a : Addr) (kk : ClassId)  (h0 : Heap) (n0 : Nat) (Z0 : n0 ≤ h0.size) (V0 : Arv Z h0 a kk .int (0 : Int32) [] (.int (0 : Int32))) (E0 : Exa Z h0 a "[I") :
    own_Met l Z (⟨"java/util/Arrays", "hashCode", "([I)I"⟩ : MethodName) jdk_65_method_150_code 1 (some .int) [] ({ frames := 0, cells := 0, slots := 0, locals := 0 } : Room) #[(.ref a)] h0 (fun v h L => ∃ z : Int32, v = some (.int z) ∧ Fr n0 L ∧ h = h0) := by
  refine own_met own_pn4 ?_
  intro p e s m below meth c s₁ hx hby hml hown hnm hret hlk hZ X0 hE0
  have N0 := Fr.nil n0
  refine own_cast (own_ef4_own_rmA0 m a) ?_
  refine own_aloadN (n := 1) X0 hx (hb hby d4_0) rfl rfl rfl ?_
  refine own_ifnonnullYes (n := 6) X0 hx (hb hby d4_1) (by decide) (by decide) ?_
  refine own_aloadN (n := 7) X0 hx (hb hby d4_6) rfl rfl rfl ?_
  refine own_len (n := 8) X0 hx hZ hE0 V0 (hb hby d4_7) rfl ?_
  refine own_go (T' := s₁) (f' := (mkF m 36 #[.val (.ref a)] [])) (fun t k => X0.lookupswitchHit hx (g := (mkF m 8 #[.val (.ref a)] [(.int (0 : Int32))])) rfl (k := (0 : Int32)) (rest := []) rfl (hb hby d4_8) (by decide) (a := 0) (off := 28) (by decide) (by show (0 : Int) ≤ ((8 : Nat) : Int) + 28; decide) t k) ?_
  refine own_iconst (n := 37) (z := (1 : Int32)) X0 hx (hb hby d4_36) rfl rfl ?_
  refine own_goto (n := 59) X0 hx (hb hby d4_37) (by decide) (by decide) ?_
  refine own_retI X0 hx hlk hret hE0 (hb hby d4_59) (by decide) (by decide) ?_
  exact ⟨_, rfl, N0, rfl⟩
theorem own_pd1 : parseMethodDescriptor "([I)I" = some ⟨[(.array .int)], some .int⟩ := by decide +kernel
theorem d1_33 : decode prog_30_method_1_code 33 = .ok (.iadd, 1) := by decide +kernel
theorem d1_34 : decode prog_30_method_1_code 34 = .ok (.imul, 1) := by decide +kernel
theorem d1_35 : decode prog_30_method_1_code 35 = .ok (.aload_n 3, 1) := by decide +kernel
theorem d1_36 : decode prog_30_method_1_code 36 = .ok (.invokestatic 20, 3) := by decide +kernel
theorem d1_39 : decode prog_30_method_1_code 39 = .ok (.iadd, 1) := by decide +kernel
theorem d1_40 : decode prog_30_method_1_code 40 = .ok (.putfield 29, 3) := by decide +kernel
theorem d1_43 : decode prog_30_method_1_code 43 = .ok (.return_, 1) := by decide +kernel
theorem own_ef1_own_rmI_0_0 (m : MethodId) (y0 : Addr) (y1 : Addr) (y2 : Addr) (y3 : Addr) : entryFrame m #[(.ref y0), (.ref y1), (.ref y2), (.ref y3)] 4 = mkF m 0 #[.val (.ref y0), .val (.ref y1), .val (.ref y2), .val (.ref y3)] [] := by first | (simp [entryFrame, mkF, argsToLocals, Value.category]; done) | rfl
set_option maxRecDepth 65536 in
set_option maxHeartbeats 40000000 in
theorem own_rmI_0_0 (l : Launch) (Z : State) (a0 : Array Value) (hw : ∀ d ∈ tables_1, d.before a0 Z = true) (a b d f : Addr) (k1 k2 k3 : ClassId)    (h0 : Heap) (n0 : Nat) (Z0 : n0 ≤ h0.size) (E1 : Exa Z h0 a "com/example/eunomia/eunomia/engine/IdSet") (F1 : Fld Z h0 a "com/example/eunomia/eunomia/engine/IdSet" "low" "[J" .null) (F2 : Fld Z h0 a "com/example/eunomia/eunomia/engine/IdSet" "places" "[I" .null) (F3 : Fld Z h0 a "com/example/eunomia/eunomia/engine/IdSet" "words" "[J" .null) (F4 : Fld Z h0 a "com/example/eunomia/eunomia/engine/IdSet" "hash" "I" (.int (0 : Int32))) (V1 : Arv Z h0 b k1 .long (0 : Int32) [] (.long (0 : Int64))) (V2 : Arv Z h0 d k2 .int (0 : Int32) [] (.int (0 : Int32))) (V3 : Arv Z h0 f k3 .long (0 : Int32) [] (.long (0 : Int64))) (E2 : Exa Z h0 d "[I") (g_a : n0 ≤ a) :
    own_Met l Z (⟨"com/example/eunomia/eunomia/engine/IdSet", "<init>", "([J[I[J)V"⟩ : MethodName) prog_30_method_1_code 4 none [] ({ frames := 1, cells := 0, slots := 0, locals := 22 } : Room) #[(.ref a), (.ref b), (.ref d), (.ref f)] h0 (fun v h L => v = none ∧ Fr n0 L ∧ Keep h0 h [a] ∧ Exa Z h a "com/example/eunomia/eunomia/engine/IdSet" ∧ Fld Z h a "com/example/eunomia/eunomia/engine/IdSet" "low" "[J" (.ref b) ∧ Fld Z h a "com/example/eunomia/eunomia/engine/IdSet" "places" "[I" (.ref d) ∧ Fld Z h a "com/example/eunomia/eunomia/engine/IdSet" "words" "[J" (.ref f)) := by
  refine own_met own_pn1 ?_
  intro p e s m below meth c s₁ hx hby hml hown hnm hret hlk hZ X0 hE0
  have N0 := Fr.nil n0
  refine own_cast (own_ef1_own_rmI_0_0 m a b d f) ?_
  refine own_aloadN (n := 1) X0 hx (hb hby d1_0) rfl rfl rfl ?_
  refine own_initO (n := 4) X0 hx hZ hown (ww10 hw) (ww11 hw) (ww12 hw) hE0 (by rw [hml]; rfl) (hb hby d1_1) (Nat.le_of_ble_eq_true rfl) (Nat.le_of_ble_eq_true rfl) rfl ?_
  intro T1 X1 e1
  refine own_aloadN (n := 5) X1 hx (hb hby d1_4) rfl rfl rfl ?_
  refine own_aloadN (n := 6) X1 hx (hb hby d1_5) rfl rfl rfl ?_
  refine own_putF (n := 9) X1 hx hZ hown (host := "") (Or.inl (ww13 hw)) Via.refl e1 F1 E1 (Or.inr ⟨(ww14 hw), rfl, hnm⟩) (ww5 hw) (ty := (.array .long)) (by decide) rfl rfl (hb hby d1_6) rfl ?_
  intro T2 h2 X2 e2 W2
  have F_3 := F1.same W2
  have N2 := Fr.snoc X2 N0 g_a
  have E_4 := E1.wr W2
  have F_5 := F2.other W2 (Or.inr (slot_ne (Or.inr (ww16 hw)) (Or.inr (ww14 hw)) (by decide) (t := (.array .int)) (t' := (.array .long)) (by decide) (by decide)))
  have F_6 := F3.other W2 (Or.inr (slot_ne (Or.inr (ww18 hw)) (Or.inr (ww14 hw)) (by decide) (t := (.array .long)) (t' := (.array .long)) (by decide) (by decide)))
  have F_7 := F4.other W2 (Or.inr (slot_ne (Or.inr (ww27 hw)) (Or.inr (ww14 hw)) (by decide) (t := .int) (t' := (.array .long)) (by decide) (by decide)))
  have A_8 := V1.other W2 (Ne.symm (own_neEA E1 (ww5 hw) V1))
  have A_9 := V2.other W2 (Ne.symm (own_neEA E1 (ww5 hw) V2))
  have A_10 := V3.other W2 (Ne.symm (own_neEA E1 (ww5 hw) V3))
  have E_11 := E2.wr W2
  have K_12 := (Keep.refl h0 [a]).wr W2 (Or.inl (by simp))
  have Z_13 : n0 ≤ h2.size := by rw [W2.size]; exact Z0
  refine own_aloadN (n := 10) X2 hx (hb hby d1_9) rfl rfl rfl ?_
  refine own_aloadN (n := 11) X2 hx (hb hby d1_10) rfl rfl rfl ?_
  refine own_putF (n := 14) X2 hx hZ hown (host := "") (Or.inl (ww15 hw)) Via.refl e2 F_5 E_4 (Or.inr ⟨(ww16 hw), rfl, hnm⟩) (ww5 hw) (ty := (.array .int)) (by decide) rfl rfl (hb hby d1_11) rfl ?_
  intro T14 h14 X14 e14 W14
  have F_15 := F_5.same W14
  have N14 := Fr.snoc X14 N2 g_a
  have E_16 := E_4.wr W14
  have F_17 := F_6.other W14 (Or.inr (slot_ne (Or.inr (ww18 hw)) (Or.inr (ww16 hw)) (by decide) (t := (.array .long)) (t' := (.array .int)) (by decide) (by decide)))
  have F_18 := F_7.other W14 (Or.inr (slot_ne (Or.inr (ww27 hw)) (Or.inr (ww16 hw)) (by decide) (t := .int) (t' := (.array .int)) (by decide) (by decide)))
  have A_19 := A_8.other W14 (Ne.symm (own_neEA E_4 (ww5 hw) A_8))
  have A_20 := A_9.other W14 (Ne.symm (own_neEA E_4 (ww5 hw) A_9))
  have A_21 := A_10.other W14 (Ne.symm (own_neEA E_4 (ww5 hw) A_10))
  have E_22 := E_11.wr W14
  have K_23 := K_12.wr W14 (Or.inl (by simp))
  have F_24 := F_3.other W14 (Or.inr (slot_ne (Or.inr (ww14 hw)) (Or.inr (ww16 hw)) (by decide) (t := (.array .long)) (t' := (.array .int)) (by decide) (by decide)))
  have Z_25 : n0 ≤ h14.size := by rw [W14.size]; exact Z_13
  refine own_aloadN (n := 15) X14 hx (hb hby d1_14) rfl rfl rfl ?_
  refine own_aloadN (n := 16) X14 hx (hb hby d1_15) rfl rfl rfl ?_
  refine own_putF (n := 19) X14 hx hZ hown (host := "") (Or.inl (ww17 hw)) Via.refl e14 F_17 E_16 (Or.inr ⟨(ww18 hw), rfl, hnm⟩) (ww5 hw) (ty := (.array .long)) (by decide) rfl rfl (hb hby d1_16) rfl ?_
  intro T26 h26 X26 e26 W26
  have F_27 := F_17.same W26
  have N26 := Fr.snoc X26 N14 g_a
  have E_28 := E_16.wr W26
  have F_29 := F_18.other W26 (Or.inr (slot_ne (Or.inr (ww27 hw)) (Or.inr (ww18 hw)) (by decide) (t := .int) (t' := (.array .long)) (by decide) (by decide)))
  have A_30 := A_19.other W26 (Ne.symm (own_neEA E_16 (ww5 hw) A_19))
  have A_31 := A_20.other W26 (Ne.symm (own_neEA E_16 (ww5 hw) A_20))
  have A_32 := A_21.other W26 (Ne.symm (own_neEA E_16 (ww5 hw) A_21))
  have E_33 := E_22.wr W26
  have K_34 := K_23.wr W26 (Or.inl (by simp))
  have F_35 := F_24.other W26 (Or.inr (slot_ne (Or.inr (ww14 hw)) (Or.inr (ww18 hw)) (by decide) (t := (.array .long)) (t' := (.array .long)) (by decide) (by decide)))
  have F_36 := F_15.other W26 (Or.inr (slot_ne (Or.inr (ww16 hw)) (Or.inr (ww18 hw)) (by decide) (t := (.array .int)) (t' := (.array .long)) (by decide) (by decide)))
  have Z_37 : n0 ≤ h26.size := by rw [W26.size]; exact Z_25
  refine own_aloadN (n := 20) X26 hx (hb hby d1_19) rfl rfl rfl ?_
  refine own_bipush (n := 22) (z := (31 : Int32)) X26 hx (hb hby d1_20) rfl rfl ?_
  refine own_bipush (n := 24) (z := (31 : Int32)) X26 hx (hb hby d1_22) rfl rfl ?_
  refine own_aloadN (n := 25) X26 hx (hb hby d1_24) rfl rfl rfl ?_
  refine own_S (n := 28) (argsL := [(.ref b)]) (rest := [(.int (31 : Int32)), (.int (31 : Int32)), (.ref a)]) X26 hx hZ hown (own_rmJ0 l Z a0 hw b k1  h26 n0 Z_37 A_30 ) (ww19 hw) (ww20 hw) (ww21 hw) (ww22 hw) (by decide) e26 (by rw [hml]; rfl) (lenOf own_pd0 rfl) rfl (hb hby d1_25) (Nat.le_of_ble_eq_true rfl) (Nat.le_of_ble_eq_true rfl) (Nat.le_of_ble_eq_true rfl) (Nat.le_of_ble_eq_true rfl) rfl ?_
  rintro v38 T38 L38 X38 ⟨z38, rfl, Nq38, eq38⟩
  have N38 := Fr.app N26 Nq38
  change own_G p e below _ _ (mkF m 28 _ [(.int z38), (.int (31 : Int32)), (.int (31 : Int32)), (.ref a)])
  refine own_imul (n := 29) X38 hx (hb hby d1_28) rfl rfl ?_
  refine own_aloadN (n := 30) X38 hx (hb hby d1_29) rfl rfl rfl ?_
  refine own_S (n := 33) (argsL := [(.ref d)]) (rest := [(.int ((31 : Int32) * z38)), (.int (31 : Int32)), (.ref a)]) X38 hx hZ hown (own_rmA0 l Z a0 hw d k2  h26 n0 Z_37 A_31 E_33) (ww23 hw) (ww24 hw) (ww21 hw) (ww25 hw) (by decide) eq38 (by rw [hml]; rfl) (lenOf own_pd1 rfl) rfl (hb hby d1_30) (Nat.le_of_ble_eq_true rfl) (Nat.le_of_ble_eq_true rfl) (Nat.le_of_ble_eq_true rfl) (Nat.le_of_ble_eq_true rfl) rfl ?_
  rintro v39 T39 L39 X39 ⟨z39, rfl, Nq39, eq39⟩
  have N39 := Fr.app N38 Nq39
  change own_G p e below _ _ (mkF m 33 _ [(.int z39), (.int ((31 : Int32) * z38)), (.int (31 : Int32)), (.ref a)])
  refine own_iadd (n := 34) X39 hx (hb hby d1_33) rfl rfl ?_
  refine own_imul (n := 35) X39 hx (hb hby d1_34) rfl rfl ?_
  refine own_aloadN (n := 36) X39 hx (hb hby d1_35) rfl rfl rfl ?_
  refine own_S (n := 39) (argsL := [(.ref f)]) (rest := [(.int ((31 : Int32) * (((31 : Int32) * z38) + z39))), (.ref a)]) X39 hx hZ hown (own_rmJ0 l Z a0 hw f k3  h26 n0 Z_37 A_32 ) (ww19 hw) (ww20 hw) (ww21 hw) (ww22 hw) (by decide) eq39 (by rw [hml]; rfl) (lenOf own_pd0 rfl) rfl (hb hby d1_36) (Nat.le_of_ble_eq_true rfl) (Nat.le_of_ble_eq_true rfl) (Nat.le_of_ble_eq_true rfl) (Nat.le_of_ble_eq_true rfl) rfl ?_
  rintro v40 T40 L40 X40 ⟨z40, rfl, Nq40, eq40⟩
  have N40 := Fr.app N39 Nq40
  change own_G p e below _ _ (mkF m 39 _ [(.int z40), (.int ((31 : Int32) * (((31 : Int32) * z38) + z39))), (.ref a)])
  refine own_iadd (n := 40) X40 hx (hb hby d1_39) rfl rfl ?_
  refine own_putF (n := 43) X40 hx hZ hown (host := "") (Or.inl (ww26 hw)) Via.refl eq40 F_29 E_28 (Or.inr ⟨(ww27 hw), rfl, hnm⟩) (ww5 hw) (ty := .int) (by decide) rfl rfl (hb hby d1_40) rfl ?_
  intro T41 h41 X41 e41 W41
  have F_42 := F_29.same W41
  have N41 := Fr.snoc X41 N40 g_a
  have E_43 := E_28.wr W41
  have A_44 := A_30.other W41 (Ne.symm (own_neEA E_28 (ww5 hw) A_30))
  have A_45 := A_31.other W41 (Ne.symm (own_neEA E_28 (ww5 hw) A_31))
  have A_46 := A_32.other W41 (Ne.symm (own_neEA E_28 (ww5 hw) A_32))
  have E_47 := E_33.wr W41
  have K_48 := K_34.wr W41 (Or.inl (by simp))
  have F_49 := F_35.other W41 (Or.inr (slot_ne (Or.inr (ww14 hw)) (Or.inr (ww27 hw)) (by decide) (t := (.array .long)) (t' := .int) (by decide) (by decide)))
  have F_50 := F_36.other W41 (Or.inr (slot_ne (Or.inr (ww16 hw)) (Or.inr (ww27 hw)) (by decide) (t := (.array .int)) (t' := .int) (by decide) (by decide)))
  have F_51 := F_27.other W41 (Or.inr (slot_ne (Or.inr (ww18 hw)) (Or.inr (ww27 hw)) (by decide) (t := (.array .long)) (t' := .int) (by decide) (by decide)))
  have Z_52 : n0 ≤ h41.size := by rw [W41.size]; exact Z_37
  refine own_retV X41 hx hlk hret e41 (hb hby d1_43) (by decide) (by decide) ?_
  exact ⟨rfl, N41, K_48, E_43, F_49, F_50, F_51⟩
theorem own_pd2 : parseMethodDescriptor "([J[I[J)V" = some ⟨[(.array .long), (.array .int), (.array .long)], none⟩ := by decide +kernel
theorem own_pn5 : plainFor (⟨"com/example/eunomia/eunomia/engine/IdSet", "isEmpty", "()Z"⟩ : MethodName) = true := plainFor_of_name (by first | (simp [plainName, overriddenIn]; done) | decide +kernel)
theorem d5_0 : decode prog_30_method_4_code 0 = .ok (.aload_n 0, 1) := by decide +kernel
theorem d5_1 : decode prog_30_method_4_code 1 = .ok (.getfield 7, 3) := by decide +kernel
theorem d5_4 : decode prog_30_method_4_code 4 = .ok (.arraylength, 1) := by decide +kernel
theorem d5_5 : decode prog_30_method_4_code 5 = .ok (.ifCond .ne 15, 3) := by decide +kernel
theorem d5_8 : decode prog_30_method_4_code 8 = .ok (.aload_n 0, 1) := by decide +kernel
theorem d5_9 : decode prog_30_method_4_code 9 = .ok (.getfield 13, 3) := by decide +kernel
theorem d5_12 : decode prog_30_method_4_code 12 = .ok (.arraylength, 1) := by decide +kernel
theorem d5_13 : decode prog_30_method_4_code 13 = .ok (.ifCond .ne 7, 3) := by decide +kernel
theorem d5_16 : decode prog_30_method_4_code 16 = .ok (.iconst 1, 1) := by decide +kernel
theorem d5_17 : decode prog_30_method_4_code 17 = .ok (.goto 4, 3) := by decide +kernel
theorem d5_21 : decode prog_30_method_4_code 21 = .ok (.ireturn, 1) := by decide +kernel
theorem own_ef5_own_rmE_0_0 (m : MethodId) (y0 : Addr) : entryFrame m #[(.ref y0)] 1 = mkF m 0 #[.val (.ref y0)] [] := by first | (simp [entryFrame, mkF, argsToLocals, Value.category]; done) | rfl
set_option maxRecDepth 65536 in
set_option maxHeartbeats 40000000 in
theorem own_rmE_0_0 (l : Launch) (Z : State) (a0 : Array Value) (hw : ∀ d ∈ tables_1, d.before a0 Z = true) (a b d f : Addr) (k1 k2 k3 : ClassId)    (h0 : Heap) (n0 : Nat) (Z0 : n0 ≤ h0.size) (F1 : Fld Z h0 a "com/example/eunomia/eunomia/engine/IdSet" "low" "[J" (.ref b)) (F2 : Fld Z h0 a "com/example/eunomia/eunomia/engine/IdSet" "places" "[I" (.ref d)) (F3 : Fld Z h0 a "com/example/eunomia/eunomia/engine/IdSet" "words" "[J" (.ref f)) (V1 : Arv Z h0 b k1 .long (0 : Int32) [] (.long (0 : Int64))) (V2 : Arv Z h0 d k2 .int (0 : Int32) [] (.int (0 : Int32))) (V3 : Arv Z h0 f k3 .long (0 : Int32) [] (.long (0 : Int64))) :
    own_Met l Z (⟨"com/example/eunomia/eunomia/engine/IdSet", "isEmpty", "()Z"⟩ : MethodName) prog_30_method_4_code 1 (some .boolean) [] ({ frames := 0, cells := 0, slots := 0, locals := 0 } : Room) #[(.ref a)] h0 (fun v h L => v = some (.int (1 : Int32)) ∧ Fr n0 L ∧ h = h0) := by
  refine own_met own_pn5 ?_
  intro p e s m below meth c s₁ hx hby hml hown hnm hret hlk hZ X0 hE0
  have N0 := Fr.nil n0
  refine own_cast (own_ef5_own_rmE_0_0 m a) ?_
  refine own_aloadN (n := 1) X0 hx (hb hby d5_0) rfl rfl rfl ?_
  refine own_getF (n := 4) X0 hx hZ hown (host := "") (Or.inl (ww13 hw)) Via.refl hE0 F1 (hb hby d5_1) rfl ?_
  intro T1 X1 e1
  refine own_len (n := 5) X1 hx hZ e1 V1 (hb hby d5_4) rfl ?_
  refine own_ifNo (n := 8) X1 hx (hb hby d5_5) (teq (by decide : (0 : Int32) = (0 : Int32))).2 rfl ?_
  refine own_aloadN (n := 9) X1 hx (hb hby d5_8) rfl rfl rfl ?_
  refine own_getF (n := 12) X1 hx hZ hown (host := "") (Or.inl (ww15 hw)) Via.refl e1 F2 (hb hby d5_9) rfl ?_
  intro T2 X2 e2
  refine own_len (n := 13) X2 hx hZ e2 V2 (hb hby d5_12) rfl ?_
  refine own_ifNo (n := 16) X2 hx (hb hby d5_13) (teq (by decide : (0 : Int32) = (0 : Int32))).2 rfl ?_
  refine own_iconst (n := 17) (z := (1 : Int32)) X2 hx (hb hby d5_16) rfl rfl ?_
  refine own_goto (n := 21) X2 hx (hb hby d5_17) (by decide) (by decide) ?_
  refine own_retZ X2 hx hlk hret (by simp) e2 (w := (1 : Int32)) rfl (hb hby d5_21) (by decide) (by decide) ?_
  exact ⟨rfl, N0, rfl⟩
theorem own_pd3 : parseMethodDescriptor "()Z" = some ⟨[], some .boolean⟩ := by decide +kernel
theorem own_pn6 : plainFor (⟨"com/example/eunomia/eunomia/engine/IdSet", "contains", "(I)Z"⟩ : MethodName) = true := plainFor_of_name (by first | (simp [plainName, overriddenIn]; done) | decide +kernel)
theorem d6_0 : decode prog_30_method_3_code 0 = .ok (.iload_n 1, 1) := by decide +kernel
theorem d6_1 : decode prog_30_method_3_code 1 = .ok (.bipush 6, 2) := by decide +kernel
theorem d6_3 : decode prog_30_method_3_code 3 = .ok (.iushr, 1) := by decide +kernel
theorem d6_4 : decode prog_30_method_3_code 4 = .ok (.istore_n 2, 1) := by decide +kernel
theorem d6_5 : decode prog_30_method_3_code 5 = .ok (.iload_n 2, 1) := by decide +kernel
theorem d6_6 : decode prog_30_method_3_code 6 = .ok (.bipush 64, 2) := by decide +kernel
theorem d6_8 : decode prog_30_method_3_code 8 = .ok (.if_icmp .ge 36, 3) := by decide +kernel
theorem d6_11 : decode prog_30_method_3_code 11 = .ok (.iload_n 2, 1) := by decide +kernel
theorem d6_12 : decode prog_30_method_3_code 12 = .ok (.aload_n 0, 1) := by decide +kernel
theorem d6_13 : decode prog_30_method_3_code 13 = .ok (.getfield 7, 3) := by decide +kernel
theorem d6_16 : decode prog_30_method_3_code 16 = .ok (.arraylength, 1) := by decide +kernel
theorem d6_17 : decode prog_30_method_3_code 17 = .ok (.if_icmp .ge 22, 3) := by decide +kernel
theorem d6_39 : decode prog_30_method_3_code 39 = .ok (.iconst 0, 1) := by decide +kernel
theorem d6_40 : decode prog_30_method_3_code 40 = .ok (.istore_n 3, 1) := by decide +kernel
theorem d6_41 : decode prog_30_method_3_code 41 = .ok (.goto 40, 3) := by decide +kernel
theorem d6_81 : decode prog_30_method_3_code 81 = .ok (.iload_n 3, 1) := by decide +kernel
theorem d6_82 : decode prog_30_method_3_code 82 = .ok (.ireturn, 1) := by decide +kernel
theorem d6_44 : decode prog_30_method_3_code 44 = .ok (.aload_n 0, 1) := by decide +kernel
theorem d6_45 : decode prog_30_method_3_code 45 = .ok (.getfield 13, 3) := by decide +kernel
theorem d6_48 : decode prog_30_method_3_code 48 = .ok (.iload_n 2, 1) := by decide +kernel
theorem d6_49 : decode prog_30_method_3_code 49 = .ok (.invokestatic 52, 3) := by decide +kernel
theorem own_pn7 : plainFor (⟨"java/util/Arrays", "binarySearch", "([II)I"⟩ : MethodName) = true := plainFor_of_name (by first | (simp [plainName, overriddenIn]; done) | decide +kernel)
theorem d7_0 : decode jdk_65_method_57_code 0 = .ok (.aload_n 0, 1) := by decide +kernel
theorem d7_1 : decode jdk_65_method_57_code 1 = .ok (.iconst 0, 1) := by decide +kernel
theorem d7_2 : decode jdk_65_method_57_code 2 = .ok (.aload_n 0, 1) := by decide +kernel
theorem d7_3 : decode jdk_65_method_57_code 3 = .ok (.arraylength, 1) := by decide +kernel
theorem d7_4 : decode jdk_65_method_57_code 4 = .ok (.iload_n 1, 1) := by decide +kernel
theorem d7_5 : decode jdk_65_method_57_code 5 = .ok (.invokestatic 209, 3) := by decide +kernel
theorem own_pn8 : plainFor (⟨"java/util/Arrays", "binarySearch0", "([IIII)I"⟩ : MethodName) = true := plainFor_of_name (by first | (simp [plainName, overriddenIn]; done) | decide +kernel)
theorem d8_0 : decode jdk_65_method_59_code 0 = .ok (.iload_n 1, 1) := by decide +kernel
theorem d8_1 : decode jdk_65_method_59_code 1 = .ok (.istore 4, 2) := by decide +kernel
theorem d8_3 : decode jdk_65_method_59_code 3 = .ok (.iload_n 2, 1) := by decide +kernel
theorem d8_4 : decode jdk_65_method_59_code 4 = .ok (.iconst 1, 1) := by decide +kernel
theorem d8_5 : decode jdk_65_method_59_code 5 = .ok (.isub, 1) := by decide +kernel
theorem d8_6 : decode jdk_65_method_59_code 6 = .ok (.istore 5, 2) := by decide +kernel
theorem d8_8 : decode jdk_65_method_59_code 8 = .ok (.iload 4, 2) := by decide +kernel
theorem d8_10 : decode jdk_65_method_59_code 10 = .ok (.iload 5, 2) := by decide +kernel
theorem d8_12 : decode jdk_65_method_59_code 12 = .ok (.if_icmp .gt 54, 3) := by decide +kernel
theorem d8_66 : decode jdk_65_method_59_code 66 = .ok (.iload 4, 2) := by decide +kernel
theorem d8_68 : decode jdk_65_method_59_code 68 = .ok (.iconst 1, 1) := by decide +kernel
theorem d8_69 : decode jdk_65_method_59_code 69 = .ok (.iadd, 1) := by decide +kernel
theorem d8_70 : decode jdk_65_method_59_code 70 = .ok (.ineg, 1) := by decide +kernel
theorem d8_71 : decode jdk_65_method_59_code 71 = .ok (.ireturn, 1) := by decide +kernel
theorem own_ef8_own_rm_binarySearch00 (m : MethodId) (y0 : Addr) (y1 : Int32) (y2 : Int32) (y3 : Int32) : entryFrame m #[(.ref y0), (.int y1), (.int y2), (.int y3)] 8 = mkF m 0 #[.val (.ref y0), .val (.int y1), .val (.int y2), .val (.int y3), .unset, .unset, .unset, .unset] [] := by first | (simp [entryFrame, mkF, argsToLocals, Value.category]; done) | rfl
set_option maxRecDepth 65536 in
set_option maxHeartbeats 40000000 in
theorem own_rm_binarySearch00 (l : Launch) (Z : State) (a0 : Array Value) (hw : ∀ d ∈ tables_1, d.before a0 Z = true) (a : Addr) (k2 : ClassId)  (kx : Int32) (h0 : Heap) (n0 : Nat) (Z0 : n0 ≤ h0.size) (V0 : Arv Z h0 a k2 .int (0 : Int32) [] (.int (0 : Int32))) :
    own_Met l Z (⟨"java/util/Arrays", "binarySearch0", "([IIII)I"⟩ : MethodName) jdk_65_method_59_code 8 (some .int) [] ({ frames := 0, cells := 0, slots := 0, locals := 0 } : Room) #[(.ref a), (.int (0 : Int32)), (.int (0 : Int32)), (.int kx)] h0 (fun v h L => v = some (.int (-1 : Int32)) ∧ Fr n0 L ∧ h = h0) := by
  refine own_met own_pn8 ?_
  intro p e s m below meth c s₁ hx hby hml hown hnm hret hlk hZ X0 hE0
  have N0 := Fr.nil n0
  refine own_cast (own_ef8_own_rm_binarySearch00 m a (0 : Int32) (0 : Int32) kx) ?_
  refine own_iloadN (n := 1) X0 hx (hb hby d8_0) rfl rfl ?_
  refine own_istore (n := 3) (l' := #[.val (.ref a), .val (.int (0 : Int32)), .val (.int (0 : Int32)), .val (.int kx), .val (.int (0 : Int32)), .unset, .unset, .unset]) X0 hx (hb hby d8_1) rfl rfl ?_
  refine own_iloadN (n := 4) X0 hx (hb hby d8_3) rfl rfl ?_
  refine own_iconst (n := 5) (z := (1 : Int32)) X0 hx (hb hby d8_4) rfl rfl ?_
  refine own_isub (n := 6) (z := (-1 : Int32)) X0 hx (hb hby d8_5) rfl rfl ?_
  refine own_istore (n := 8) (l' := #[.val (.ref a), .val (.int (0 : Int32)), .val (.int (0 : Int32)), .val (.int kx), .val (.int (0 : Int32)), .val (.int (-1 : Int32)), .unset, .unset]) X0 hx (hb hby d8_6) rfl rfl ?_
  refine own_iload (n := 10) X0 hx (hb hby d8_8) rfl rfl ?_
  refine own_iload (n := 12) X0 hx (hb hby d8_10) rfl rfl ?_
  refine own_icmpYes (n := 66) X0 hx (hb hby d8_12) (tlt (by decide : (-1 : Int32) < (0 : Int32))).2.2.1 (by decide) (by decide) ?_
  refine own_iload (n := 68) X0 hx (hb hby d8_66) rfl rfl ?_
  refine own_iconst (n := 69) (z := (1 : Int32)) X0 hx (hb hby d8_68) rfl rfl ?_
  refine own_iadd (n := 70) (z := (1 : Int32)) X0 hx (hb hby d8_69) rfl rfl ?_
  refine own_ineg (n := 71) (z := (-1 : Int32)) X0 hx (hb hby d8_70) rfl rfl ?_
  refine own_retI X0 hx hlk hret hE0 (hb hby d8_71) (by decide) (by decide) ?_
  exact ⟨rfl, N0, rfl⟩
theorem own_pd4 : parseMethodDescriptor "([IIII)I" = some ⟨[(.array .int), .int, .int, .int], some .int⟩ := by decide +kernel
theorem d7_8 : decode jdk_65_method_57_code 8 = .ok (.ireturn, 1) := by decide +kernel
theorem own_ef7_own_rm_binarySearch0 (m : MethodId) (y0 : Addr) (y1 : Int32) : entryFrame m #[(.ref y0), (.int y1)] 2 = mkF m 0 #[.val (.ref y0), .val (.int y1)] [] := by first | (simp [entryFrame, mkF, argsToLocals, Value.category]; done) | rfl
set_option maxRecDepth 65536 in
set_option maxHeartbeats 40000000 in
theorem own_rm_binarySearch0 (l : Launch) (Z : State) (a0 : Array Value) (hw : ∀ d ∈ tables_1, d.before a0 Z = true) (a : Addr) (k2 : ClassId)  (kx : Int32) (h0 : Heap) (n0 : Nat) (Z0 : n0 ≤ h0.size) (V0 : Arv Z h0 a k2 .int (0 : Int32) [] (.int (0 : Int32))) :
    own_Met l Z (⟨"java/util/Arrays", "binarySearch", "([II)I"⟩ : MethodName) jdk_65_method_57_code 2 (some .int) [] ({ frames := 1, cells := 0, slots := 0, locals := 19 } : Room) #[(.ref a), (.int kx)] h0 (fun v h L => v = some (.int (-1 : Int32)) ∧ Fr n0 L ∧ h = h0) := by
  refine own_met own_pn7 ?_
  intro p e s m below meth c s₁ hx hby hml hown hnm hret hlk hZ X0 hE0
  have N0 := Fr.nil n0
  refine own_cast (own_ef7_own_rm_binarySearch0 m a kx) ?_
  refine own_aloadN (n := 1) X0 hx (hb hby d7_0) rfl rfl rfl ?_
  refine own_iconst (n := 2) (z := (0 : Int32)) X0 hx (hb hby d7_1) rfl rfl ?_
  refine own_aloadN (n := 3) X0 hx (hb hby d7_2) rfl rfl rfl ?_
  refine own_len (n := 4) X0 hx hZ hE0 V0 (hb hby d7_3) rfl ?_
  refine own_iloadN (n := 5) X0 hx (hb hby d7_4) rfl rfl ?_
  refine own_S (n := 8) (argsL := [(.ref a), (.int (0 : Int32)), (.int (0 : Int32)), (.int kx)]) (rest := []) X0 hx hZ hown (own_rm_binarySearch00 l Z a0 hw a k2  kx h0 n0 Z0 V0) (ww41 hw) (ww42 hw) (ww21 hw) (ww43 hw) (by decide) hE0 (by rw [hml]; rfl) (lenOf own_pd4 rfl) rfl (hb hby d7_5) (Nat.le_of_ble_eq_true rfl) (Nat.le_of_ble_eq_true rfl) (Nat.le_of_ble_eq_true rfl) (Nat.le_of_ble_eq_true rfl) rfl ?_
  rintro v1 T1 L1 X1 ⟨rfl, Nq1, eq1⟩
  have N1 := Fr.app N0 Nq1
  change own_G p e below _ _ (mkF m 8 _ [(.int (-1 : Int32))])
  refine own_retI X1 hx hlk hret eq1 (hb hby d7_8) (by decide) (by decide) ?_
  exact ⟨rfl, N1, rfl⟩
theorem own_pd5 : parseMethodDescriptor "([II)I" = some ⟨[(.array .int), .int], some .int⟩ := by decide +kernel
theorem d6_52 : decode prog_30_method_3_code 52 = .ok (.istore 4, 2) := by decide +kernel
theorem d6_54 : decode prog_30_method_3_code 54 = .ok (.iload 4, 2) := by decide +kernel
theorem d6_56 : decode prog_30_method_3_code 56 = .ok (.ifCond .lt 23, 3) := by decide +kernel
theorem d6_79 : decode prog_30_method_3_code 79 = .ok (.iconst 0, 1) := by decide +kernel
theorem d6_80 : decode prog_30_method_3_code 80 = .ok (.istore_n 3, 1) := by decide +kernel
theorem own_ef6_own_rmC_0_0 (m : MethodId) (y0 : Addr) (y1 : Int32) : entryFrame m #[(.ref y0), (.int y1)] 5 = mkF m 0 #[.val (.ref y0), .val (.int y1), .unset, .unset, .unset] [] := by first | (simp [entryFrame, mkF, argsToLocals, Value.category]; done) | rfl
set_option maxRecDepth 65536 in
set_option maxHeartbeats 40000000 in
theorem own_rmC_0_0 (l : Launch) (Z : State) (a0 : Array Value) (hw : ∀ d ∈ tables_1, d.before a0 Z = true) (a b d f : Addr) (k1 k2 k3 : ClassId)    (p1 : Int32) (h0 : Heap) (n0 : Nat) (Z0 : n0 ≤ h0.size) (F1 : Fld Z h0 a "com/example/eunomia/eunomia/engine/IdSet" "low" "[J" (.ref b)) (F2 : Fld Z h0 a "com/example/eunomia/eunomia/engine/IdSet" "places" "[I" (.ref d)) (F3 : Fld Z h0 a "com/example/eunomia/eunomia/engine/IdSet" "words" "[J" (.ref f)) (V1 : Arv Z h0 b k1 .long (0 : Int32) [] (.long (0 : Int64))) (V2 : Arv Z h0 d k2 .int (0 : Int32) [] (.int (0 : Int32))) (V3 : Arv Z h0 f k3 .long (0 : Int32) [] (.long (0 : Int64)))  :
    own_Met l Z (⟨"com/example/eunomia/eunomia/engine/IdSet", "contains", "(I)Z"⟩ : MethodName) prog_30_method_3_code 5 (some .boolean) [] ({ frames := 2, cells := 0, slots := 0, locals := 32 } : Room) #[(.ref a), (.int p1)] h0 (fun v h L => v = some (.int (0 : Int32)) ∧ Fr n0 L ∧ h = h0) := by
  refine own_met own_pn6 ?_
  intro p e s m below meth c s₁ hx hby hml hown hnm hret hlk hZ X0 hE0
  have N0 := Fr.nil n0
  refine own_cast (own_ef6_own_rmC_0_0 m a p1) ?_
  refine own_iloadN (n := 1) X0 hx (hb hby d6_0) rfl rfl ?_
  refine own_bipush (n := 3) (z := (6 : Int32)) X0 hx (hb hby d6_1) rfl rfl ?_
  refine own_iushr (n := 4) X0 hx (hb hby d6_3) rfl rfl ?_
  refine own_istoreN (n := 5) (l' := #[.val (.ref a), .val (.int p1), .val (.int ((p1).toUInt32 >>> ((6 : Int32) &&& 31).toUInt32).toInt32), .unset, .unset]) X0 hx (hb hby d6_4) rfl rfl ?_
  refine own_iloadN (n := 6) X0 hx (hb hby d6_5) rfl rfl ?_
  refine own_bipush (n := 8) (z := (64 : Int32)) X0 hx (hb hby d6_6) rfl rfl ?_
  by_cases hc8_1 : ((p1).toUInt32 >>> ((6 : Int32) &&& 31).toUInt32).toInt32 < (64 : Int32)
  · skip
    refine own_icmpNo (n := 11) X0 hx (hb hby d6_8) (tlt hc8_1).2.1 rfl ?_
    refine own_iloadN (n := 12) X0 hx (hb hby d6_11) rfl rfl ?_
    refine own_aloadN (n := 13) X0 hx (hb hby d6_12) rfl rfl rfl ?_
    refine own_getF (n := 16) X0 hx hZ hown (host := "") (Or.inl (ww13 hw)) Via.refl hE0 F1 (hb hby d6_13) rfl ?_
    intro T2 X2 e2
    refine own_len (n := 17) X2 hx hZ e2 V1 (hb hby d6_16) rfl ?_
    refine own_icmpYes (n := 39) X2 hx (hb hby d6_17) (flt (own_ushrn _)).2.1 (by decide) (by decide) ?_
    refine own_iconst (n := 40) (z := (0 : Int32)) X2 hx (hb hby d6_39) rfl rfl ?_
    refine own_istoreN (n := 41) (l' := #[.val (.ref a), .val (.int p1), .val (.int ((p1).toUInt32 >>> ((6 : Int32) &&& 31).toUInt32).toInt32), .val (.int (0 : Int32)), .unset]) X2 hx (hb hby d6_40) rfl rfl ?_
    refine own_goto (n := 81) X2 hx (hb hby d6_41) (by decide) (by decide) ?_
    refine own_iloadN (n := 82) X2 hx (hb hby d6_81) rfl rfl ?_
    refine own_retZ X2 hx hlk hret (by simp) e2 (w := (0 : Int32)) rfl (hb hby d6_82) (by decide) (by decide) ?_
    exact ⟨rfl, N0, rfl⟩
  · skip
    refine own_icmpYes (n := 44) X0 hx (hb hby d6_8) (flt hc8_1).2.1 (by decide) (by decide) ?_
    refine own_aloadN (n := 45) X0 hx (hb hby d6_44) rfl rfl rfl ?_
    refine own_getF (n := 48) X0 hx hZ hown (host := "") (Or.inl (ww15 hw)) Via.refl hE0 F2 (hb hby d6_45) rfl ?_
    intro T3 X3 e3
    refine own_iloadN (n := 49) X3 hx (hb hby d6_48) rfl rfl ?_
    refine own_S (n := 52) (argsL := [(.ref d), (.int ((p1).toUInt32 >>> ((6 : Int32) &&& 31).toUInt32).toInt32)]) (rest := []) X3 hx hZ hown (own_rm_binarySearch0 l Z a0 hw d k2  ((p1).toUInt32 >>> ((6 : Int32) &&& 31).toUInt32).toInt32 h0 n0 Z0 V2) (ww38 hw) (ww39 hw) (ww21 hw) (ww40 hw) (by decide) e3 (by rw [hml]; rfl) (lenOf own_pd5 rfl) rfl (hb hby d6_49) (Nat.le_of_ble_eq_true rfl) (Nat.le_of_ble_eq_true rfl) (Nat.le_of_ble_eq_true rfl) (Nat.le_of_ble_eq_true rfl) rfl ?_
    rintro v4 T4 L4 X4 ⟨rfl, Nq4, eq4⟩
    have N4 := Fr.app N0 Nq4
    change own_G p e below _ _ (mkF m 52 _ [(.int (-1 : Int32))])
    refine own_istore (n := 54) (l' := #[.val (.ref a), .val (.int p1), .val (.int ((p1).toUInt32 >>> ((6 : Int32) &&& 31).toUInt32).toInt32), .unset, .val (.int (-1 : Int32))]) X4 hx (hb hby d6_52) rfl rfl ?_
    refine own_iload (n := 56) X4 hx (hb hby d6_54) rfl rfl ?_
    refine own_ifYes (n := 79) X4 hx (hb hby d6_56) (tlt (by decide : (-1 : Int32) < (0 : Int32))).1 (by decide) (by decide) ?_
    refine own_iconst (n := 80) (z := (0 : Int32)) X4 hx (hb hby d6_79) rfl rfl ?_
    refine own_istoreN (n := 81) (l' := #[.val (.ref a), .val (.int p1), .val (.int ((p1).toUInt32 >>> ((6 : Int32) &&& 31).toUInt32).toInt32), .val (.int (0 : Int32)), .val (.int (-1 : Int32))]) X4 hx (hb hby d6_80) rfl rfl ?_
    refine own_iloadN (n := 82) X4 hx (hb hby d6_81) rfl rfl ?_
    refine own_retZ X4 hx hlk hret (by simp) eq4 (w := (0 : Int32)) rfl (hb hby d6_82) (by decide) (by decide) ?_
    exact ⟨rfl, N4, rfl⟩
theorem own_pd6 : parseMethodDescriptor "(I)Z" = some ⟨[.int], some .boolean⟩ := by decide +kernel
theorem d4_40 : decode jdk_65_method_150_code 40 = .ok (.bipush 31, 2) := by decide +kernel
theorem d4_42 : decode jdk_65_method_150_code 42 = .ok (.aload_n 0, 1) := by decide +kernel
theorem d4_43 : decode jdk_65_method_150_code 43 = .ok (.iconst 0, 1) := by decide +kernel
theorem d4_44 : decode jdk_65_method_150_code 44 = .ok (.iaload, 1) := by decide +kernel
theorem d4_45 : decode jdk_65_method_150_code 45 = .ok (.iadd, 1) := by decide +kernel
theorem d4_46 : decode jdk_65_method_150_code 46 = .ok (.goto 13, 3) := by decide +kernel
theorem own_ef4_own_rmA1 (m : MethodId) (y0 : Addr) : entryFrame m #[(.ref y0)] 1 = mkF m 0 #[.val (.ref y0)] [] := by first | (simp [entryFrame, mkF, argsToLocals, Value.category]; done) | rfl
set_option maxRecDepth 65536 in
set_option maxHeartbeats 40000000 in
theorem own_rmA1 (l : Launch) (Z : State) (a0 : Array Value) (hw : ∀ d ∈ tables_1, d.before a0 Z = true) (a : Addr) (kk : ClassId) (c0 : Int32) (h0 : Heap) (n0 : Nat) (Z0 : n0 ≤ h0.size) (V0 : Arv Z h0 a kk .int (1 : Int32) [(.int c0)] (.int (0 : Int32))) (E0 : Exa Z h0 a "[I") :
    own_Met l Z (⟨"java/util/Arrays", "hashCode", "([I)I"⟩ : MethodName) jdk_65_method_150_code 1 (some .int) [] ({ frames := 0, cells := 0, slots := 0, locals := 0 } : Room) #[(.ref a)] h0 (fun v h L => ∃ z : Int32, v = some (.int z) ∧ Fr n0 L ∧ h = h0) := by
  refine own_met own_pn4 ?_
  intro p e s m below meth c s₁ hx hby hml hown hnm hret hlk hZ X0 hE0
  have N0 := Fr.nil n0
  refine own_cast (own_ef4_own_rmA1 m a) ?_
  refine own_aloadN (n := 1) X0 hx (hb hby d4_0) rfl rfl rfl ?_
  refine own_ifnonnullYes (n := 6) X0 hx (hb hby d4_1) (by decide) (by decide) ?_
  refine own_aloadN (n := 7) X0 hx (hb hby d4_6) rfl rfl rfl ?_
  refine own_len (n := 8) X0 hx hZ hE0 V0 (hb hby d4_7) rfl ?_
  refine own_go (T' := s₁) (f' := (mkF m 40 #[.val (.ref a)] [])) (fun t k => X0.lookupswitchHit hx (g := (mkF m 8 #[.val (.ref a)] [(.int (1 : Int32))])) rfl (k := (1 : Int32)) (rest := []) rfl (hb hby d4_8) (by decide) (a := 1) (off := 32) (by decide) (by show (0 : Int) ≤ ((8 : Nat) : Int) + 32; decide) t k) ?_
  refine own_bipush (n := 42) (z := (31 : Int32)) X0 hx (hb hby d4_40) rfl rfl ?_
  refine own_aloadN (n := 43) X0 hx (hb hby d4_42) rfl rfl rfl ?_
  refine own_iconst (n := 44) (z := (0 : Int32)) X0 hx (hb hby d4_43) rfl rfl ?_
  refine own_ld_iaload (n := 45) (v := (.int c0)) X0 hx hZ hE0 V0 ⟨by decide, by decide⟩ rfl (hb hby d4_44) rfl ?_
  refine own_iadd (n := 46) X0 hx (hb hby d4_45) rfl rfl ?_
  refine own_goto (n := 59) X0 hx (hb hby d4_46) (by decide) (by decide) ?_
  refine own_retI X0 hx hlk hret hE0 (hb hby d4_59) (by decide) (by decide) ?_
  exact ⟨_, rfl, N0, rfl⟩
theorem d3_22 : decode jdk_65_method_149_code 22 = .ok (.aload_n 2, 1) := by decide +kernel
theorem d3_23 : decode jdk_65_method_149_code 23 = .ok (.iload 4, 2) := by decide +kernel
theorem d3_25 : decode jdk_65_method_149_code 25 = .ok (.laload, 1) := by decide +kernel
theorem d3_26 : decode jdk_65_method_149_code 26 = .ok (.lstore 5, 2) := by decide +kernel
theorem d3_28 : decode jdk_65_method_149_code 28 = .ok (.lload 5, 2) := by decide +kernel
theorem d3_30 : decode jdk_65_method_149_code 30 = .ok (.lload 5, 2) := by decide +kernel
theorem d3_32 : decode jdk_65_method_149_code 32 = .ok (.bipush 32, 2) := by decide +kernel
theorem d3_34 : decode jdk_65_method_149_code 34 = .ok (.lushr, 1) := by decide +kernel
theorem d3_35 : decode jdk_65_method_149_code 35 = .ok (.lxor, 1) := by decide +kernel
theorem d3_36 : decode jdk_65_method_149_code 36 = .ok (.l2i, 1) := by decide +kernel
theorem d3_37 : decode jdk_65_method_149_code 37 = .ok (.istore 7, 2) := by decide +kernel
theorem d3_39 : decode jdk_65_method_149_code 39 = .ok (.bipush 31, 2) := by decide +kernel
theorem d3_41 : decode jdk_65_method_149_code 41 = .ok (.iload_n 1, 1) := by decide +kernel
theorem d3_42 : decode jdk_65_method_149_code 42 = .ok (.imul, 1) := by decide +kernel
theorem d3_43 : decode jdk_65_method_149_code 43 = .ok (.iload 7, 2) := by decide +kernel
theorem d3_45 : decode jdk_65_method_149_code 45 = .ok (.iadd, 1) := by decide +kernel
theorem d3_46 : decode jdk_65_method_149_code 46 = .ok (.istore_n 1, 1) := by decide +kernel
theorem d3_47 : decode jdk_65_method_149_code 47 = .ok (.iinc 4 1, 3) := by decide +kernel
theorem d3_50 : decode jdk_65_method_149_code 50 = .ok (.goto (-34), 3) := by decide +kernel
theorem own_ef3_own_rmJ1 (m : MethodId) (y0 : Addr) : entryFrame m #[(.ref y0)] 8 = mkF m 0 #[.val (.ref y0), .unset, .unset, .unset, .unset, .unset, .unset, .unset] [] := by first | (simp [entryFrame, mkF, argsToLocals, Value.category]; done) | rfl
set_option maxRecDepth 65536 in
set_option maxHeartbeats 40000000 in
theorem own_rmJ1 (l : Launch) (Z : State) (a0 : Array Value) (hw : ∀ d ∈ tables_1, d.before a0 Z = true) (a : Addr) (kk : ClassId) (c0 : Int64) (h0 : Heap) (n0 : Nat) (Z0 : n0 ≤ h0.size) (V0 : Arv Z h0 a kk .long (1 : Int32) [(.long c0)] (.long (0 : Int64))) :
    own_Met l Z (⟨"java/util/Arrays", "hashCode", "([J)I"⟩ : MethodName) jdk_65_method_149_code 8 (some .int) [] ({ frames := 0, cells := 0, slots := 0, locals := 0 } : Room) #[(.ref a)] h0 (fun v h L => ∃ z : Int32, v = some (.int z) ∧ Fr n0 L ∧ h = h0) := by
  refine own_met own_pn3 ?_
  intro p e s m below meth c s₁ hx hby hml hown hnm hret hlk hZ X0 hE0
  have N0 := Fr.nil n0
  refine own_cast (own_ef3_own_rmJ1 m a) ?_
  refine own_aloadN (n := 1) X0 hx (hb hby d3_0) rfl rfl rfl ?_
  refine own_ifnonnullYes (n := 6) X0 hx (hb hby d3_1) (by decide) (by decide) ?_
  refine own_iconst (n := 7) (z := (1 : Int32)) X0 hx (hb hby d3_6) rfl rfl ?_
  refine own_istoreN (n := 8) (l' := #[.val (.ref a), .val (.int (1 : Int32)), .unset, .unset, .unset, .unset, .unset, .unset]) X0 hx (hb hby d3_7) rfl rfl ?_
  refine own_aloadN (n := 9) X0 hx (hb hby d3_8) rfl rfl rfl ?_
  refine own_astoreN (n := 10) (l' := #[.val (.ref a), .val (.int (1 : Int32)), .val (.ref a), .unset, .unset, .unset, .unset, .unset]) X0 hx (hb hby d3_9) rfl rfl rfl ?_
  refine own_aloadN (n := 11) X0 hx (hb hby d3_10) rfl rfl rfl ?_
  refine own_len (n := 12) X0 hx hZ hE0 V0 (hb hby d3_11) rfl ?_
  refine own_istoreN (n := 13) (l' := #[.val (.ref a), .val (.int (1 : Int32)), .val (.ref a), .val (.int (1 : Int32)), .unset, .unset, .unset, .unset]) X0 hx (hb hby d3_12) rfl rfl ?_
  refine own_iconst (n := 14) (z := (0 : Int32)) X0 hx (hb hby d3_13) rfl rfl ?_
  refine own_istore (n := 16) (l' := #[.val (.ref a), .val (.int (1 : Int32)), .val (.ref a), .val (.int (1 : Int32)), .val (.int (0 : Int32)), .unset, .unset, .unset]) X0 hx (hb hby d3_14) rfl rfl ?_
  refine own_iload (n := 18) X0 hx (hb hby d3_16) rfl rfl ?_
  refine own_iloadN (n := 19) X0 hx (hb hby d3_18) rfl rfl ?_
  refine own_icmpNo (n := 22) X0 hx (hb hby d3_19) (tlt (by decide : (0 : Int32) < (1 : Int32))).2.1 rfl ?_
  refine own_aloadN (n := 23) X0 hx (hb hby d3_22) rfl rfl rfl ?_
  refine own_iload (n := 25) X0 hx (hb hby d3_23) rfl rfl ?_
  refine own_ld_laload (n := 26) (v := (.long c0)) X0 hx hZ hE0 V0 ⟨by decide, by decide⟩ rfl (hb hby d3_25) rfl ?_
  refine own_lstore (n := 28) (l' := #[.val (.ref a), .val (.int (1 : Int32)), .val (.ref a), .val (.int (1 : Int32)), .val (.int (0 : Int32)), .val (.long c0), .second, .unset]) X0 hx (hb hby d3_26) rfl rfl ?_
  refine own_lload (n := 30) X0 hx (hb hby d3_28) rfl rfl ?_
  refine own_lload (n := 32) X0 hx (hb hby d3_30) rfl rfl ?_
  refine own_bipush (n := 34) (z := (32 : Int32)) X0 hx (hb hby d3_32) rfl rfl ?_
  refine own_lushr (n := 35) X0 hx (hb hby d3_34) rfl rfl ?_
  refine own_lxor (n := 36) X0 hx (hb hby d3_35) rfl rfl ?_
  refine own_l2i (n := 37) X0 hx (hb hby d3_36) rfl rfl ?_
  refine own_istore (n := 39) (l' := #[.val (.ref a), .val (.int (1 : Int32)), .val (.ref a), .val (.int (1 : Int32)), .val (.int (0 : Int32)), .val (.long c0), .second, .val (.int ((c0 ^^^ ((c0).toUInt64 >>> ((32 : Int32) &&& 63).toInt64.toUInt64).toInt64)).toInt32)]) X0 hx (hb hby d3_37) rfl rfl ?_
  refine own_bipush (n := 41) (z := (31 : Int32)) X0 hx (hb hby d3_39) rfl rfl ?_
  refine own_iloadN (n := 42) X0 hx (hb hby d3_41) rfl rfl ?_
  refine own_imul (n := 43) (z := (31 : Int32)) X0 hx (hb hby d3_42) rfl rfl ?_
  refine own_iload (n := 45) X0 hx (hb hby d3_43) rfl rfl ?_
  refine own_iadd (n := 46) X0 hx (hb hby d3_45) rfl rfl ?_
  refine own_istoreN (n := 47) (l' := #[.val (.ref a), .val (.int ((31 : Int32) + ((c0 ^^^ ((c0).toUInt64 >>> ((32 : Int32) &&& 63).toInt64.toUInt64).toInt64)).toInt32)), .val (.ref a), .val (.int (1 : Int32)), .val (.int (0 : Int32)), .val (.long c0), .second, .val (.int ((c0 ^^^ ((c0).toUInt64 >>> ((32 : Int32) &&& 63).toInt64.toUInt64).toInt64)).toInt32)]) X0 hx (hb hby d3_46) rfl rfl ?_
  refine own_iinc (n := 50) (z := (1 : Int32)) (l' := #[.val (.ref a), .val (.int ((31 : Int32) + ((c0 ^^^ ((c0).toUInt64 >>> ((32 : Int32) &&& 63).toInt64.toUInt64).toInt64)).toInt32)), .val (.ref a), .val (.int (1 : Int32)), .val (.int (1 : Int32)), .val (.long c0), .second, .val (.int ((c0 ^^^ ((c0).toUInt64 >>> ((32 : Int32) &&& 63).toInt64.toUInt64).toInt64)).toInt32)]) X0 hx (hb hby d3_47) rfl rfl rfl rfl ?_
  refine own_goto (n := 16) X0 hx (hb hby d3_50) (by decide) (by decide) ?_
  refine own_iload (n := 18) X0 hx (hb hby d3_16) rfl rfl ?_
  refine own_iloadN (n := 19) X0 hx (hb hby d3_18) rfl rfl ?_
  refine own_icmpYes (n := 53) X0 hx (hb hby d3_19) (flt (by decide : ¬ ((1 : Int32) < (1 : Int32)))).2.1 (by decide) (by decide) ?_
  refine own_iloadN (n := 54) X0 hx (hb hby d3_53) rfl rfl ?_
  refine own_retI X0 hx hlk hret hE0 (hb hby d3_54) (by decide) (by decide) ?_
  exact ⟨_, rfl, N0, rfl⟩
theorem own_ef1_own_rmI_0_1 (m : MethodId) (y0 : Addr) (y1 : Addr) (y2 : Addr) (y3 : Addr) : entryFrame m #[(.ref y0), (.ref y1), (.ref y2), (.ref y3)] 4 = mkF m 0 #[.val (.ref y0), .val (.ref y1), .val (.ref y2), .val (.ref y3)] [] := by first | (simp [entryFrame, mkF, argsToLocals, Value.category]; done) | rfl
set_option maxRecDepth 65536 in
set_option maxHeartbeats 40000000 in
theorem own_rmI_0_1 (l : Launch) (Z : State) (a0 : Array Value) (hw : ∀ d ∈ tables_1, d.before a0 Z = true) (a b d f : Addr) (k1 k2 k3 : ClassId)  (d0 : Int32) (ee0 : Int64) (h0 : Heap) (n0 : Nat) (Z0 : n0 ≤ h0.size) (E1 : Exa Z h0 a "com/example/eunomia/eunomia/engine/IdSet") (F1 : Fld Z h0 a "com/example/eunomia/eunomia/engine/IdSet" "low" "[J" .null) (F2 : Fld Z h0 a "com/example/eunomia/eunomia/engine/IdSet" "places" "[I" .null) (F3 : Fld Z h0 a "com/example/eunomia/eunomia/engine/IdSet" "words" "[J" .null) (F4 : Fld Z h0 a "com/example/eunomia/eunomia/engine/IdSet" "hash" "I" (.int (0 : Int32))) (V1 : Arv Z h0 b k1 .long (0 : Int32) [] (.long (0 : Int64))) (V2 : Arv Z h0 d k2 .int (1 : Int32) [(.int d0)] (.int (0 : Int32))) (V3 : Arv Z h0 f k3 .long (1 : Int32) [(.long ee0)] (.long (0 : Int64))) (E2 : Exa Z h0 d "[I") (g_a : n0 ≤ a) :
    own_Met l Z (⟨"com/example/eunomia/eunomia/engine/IdSet", "<init>", "([J[I[J)V"⟩ : MethodName) prog_30_method_1_code 4 none [] ({ frames := 1, cells := 0, slots := 0, locals := 22 } : Room) #[(.ref a), (.ref b), (.ref d), (.ref f)] h0 (fun v h L => v = none ∧ Fr n0 L ∧ Keep h0 h [a] ∧ Exa Z h a "com/example/eunomia/eunomia/engine/IdSet" ∧ Fld Z h a "com/example/eunomia/eunomia/engine/IdSet" "low" "[J" (.ref b) ∧ Fld Z h a "com/example/eunomia/eunomia/engine/IdSet" "places" "[I" (.ref d) ∧ Fld Z h a "com/example/eunomia/eunomia/engine/IdSet" "words" "[J" (.ref f)) := by
  refine own_met own_pn1 ?_
  intro p e s m below meth c s₁ hx hby hml hown hnm hret hlk hZ X0 hE0
  have N0 := Fr.nil n0
  refine own_cast (own_ef1_own_rmI_0_1 m a b d f) ?_
  refine own_aloadN (n := 1) X0 hx (hb hby d1_0) rfl rfl rfl ?_
  refine own_initO (n := 4) X0 hx hZ hown (ww10 hw) (ww11 hw) (ww12 hw) hE0 (by rw [hml]; rfl) (hb hby d1_1) (Nat.le_of_ble_eq_true rfl) (Nat.le_of_ble_eq_true rfl) rfl ?_
  intro T1 X1 e1
  refine own_aloadN (n := 5) X1 hx (hb hby d1_4) rfl rfl rfl ?_
  refine own_aloadN (n := 6) X1 hx (hb hby d1_5) rfl rfl rfl ?_
  refine own_putF (n := 9) X1 hx hZ hown (host := "") (Or.inl (ww13 hw)) Via.refl e1 F1 E1 (Or.inr ⟨(ww14 hw), rfl, hnm⟩) (ww5 hw) (ty := (.array .long)) (by decide) rfl rfl (hb hby d1_6) rfl ?_
  intro T2 h2 X2 e2 W2
  have F_3 := F1.same W2
  have N2 := Fr.snoc X2 N0 g_a
  have E_4 := E1.wr W2
  have F_5 := F2.other W2 (Or.inr (slot_ne (Or.inr (ww16 hw)) (Or.inr (ww14 hw)) (by decide) (t := (.array .int)) (t' := (.array .long)) (by decide) (by decide)))
  have F_6 := F3.other W2 (Or.inr (slot_ne (Or.inr (ww18 hw)) (Or.inr (ww14 hw)) (by decide) (t := (.array .long)) (t' := (.array .long)) (by decide) (by decide)))
  have F_7 := F4.other W2 (Or.inr (slot_ne (Or.inr (ww27 hw)) (Or.inr (ww14 hw)) (by decide) (t := .int) (t' := (.array .long)) (by decide) (by decide)))
  have A_8 := V1.other W2 (Ne.symm (own_neEA E1 (ww5 hw) V1))
  have A_9 := V2.other W2 (Ne.symm (own_neEA E1 (ww5 hw) V2))
  have A_10 := V3.other W2 (Ne.symm (own_neEA E1 (ww5 hw) V3))
  have E_11 := E2.wr W2
  have K_12 := (Keep.refl h0 [a]).wr W2 (Or.inl (by simp))
  have Z_13 : n0 ≤ h2.size := by rw [W2.size]; exact Z0
  refine own_aloadN (n := 10) X2 hx (hb hby d1_9) rfl rfl rfl ?_
  refine own_aloadN (n := 11) X2 hx (hb hby d1_10) rfl rfl rfl ?_
  refine own_putF (n := 14) X2 hx hZ hown (host := "") (Or.inl (ww15 hw)) Via.refl e2 F_5 E_4 (Or.inr ⟨(ww16 hw), rfl, hnm⟩) (ww5 hw) (ty := (.array .int)) (by decide) rfl rfl (hb hby d1_11) rfl ?_
  intro T14 h14 X14 e14 W14
  have F_15 := F_5.same W14
  have N14 := Fr.snoc X14 N2 g_a
  have E_16 := E_4.wr W14
  have F_17 := F_6.other W14 (Or.inr (slot_ne (Or.inr (ww18 hw)) (Or.inr (ww16 hw)) (by decide) (t := (.array .long)) (t' := (.array .int)) (by decide) (by decide)))
  have F_18 := F_7.other W14 (Or.inr (slot_ne (Or.inr (ww27 hw)) (Or.inr (ww16 hw)) (by decide) (t := .int) (t' := (.array .int)) (by decide) (by decide)))
  have A_19 := A_8.other W14 (Ne.symm (own_neEA E_4 (ww5 hw) A_8))
  have A_20 := A_9.other W14 (Ne.symm (own_neEA E_4 (ww5 hw) A_9))
  have A_21 := A_10.other W14 (Ne.symm (own_neEA E_4 (ww5 hw) A_10))
  have E_22 := E_11.wr W14
  have K_23 := K_12.wr W14 (Or.inl (by simp))
  have F_24 := F_3.other W14 (Or.inr (slot_ne (Or.inr (ww14 hw)) (Or.inr (ww16 hw)) (by decide) (t := (.array .long)) (t' := (.array .int)) (by decide) (by decide)))
  have Z_25 : n0 ≤ h14.size := by rw [W14.size]; exact Z_13
  refine own_aloadN (n := 15) X14 hx (hb hby d1_14) rfl rfl rfl ?_
  refine own_aloadN (n := 16) X14 hx (hb hby d1_15) rfl rfl rfl ?_
  refine own_putF (n := 19) X14 hx hZ hown (host := "") (Or.inl (ww17 hw)) Via.refl e14 F_17 E_16 (Or.inr ⟨(ww18 hw), rfl, hnm⟩) (ww5 hw) (ty := (.array .long)) (by decide) rfl rfl (hb hby d1_16) rfl ?_
  intro T26 h26 X26 e26 W26
  have F_27 := F_17.same W26
  have N26 := Fr.snoc X26 N14 g_a
  have E_28 := E_16.wr W26
  have F_29 := F_18.other W26 (Or.inr (slot_ne (Or.inr (ww27 hw)) (Or.inr (ww18 hw)) (by decide) (t := .int) (t' := (.array .long)) (by decide) (by decide)))
  have A_30 := A_19.other W26 (Ne.symm (own_neEA E_16 (ww5 hw) A_19))
  have A_31 := A_20.other W26 (Ne.symm (own_neEA E_16 (ww5 hw) A_20))
  have A_32 := A_21.other W26 (Ne.symm (own_neEA E_16 (ww5 hw) A_21))
  have E_33 := E_22.wr W26
  have K_34 := K_23.wr W26 (Or.inl (by simp))
  have F_35 := F_24.other W26 (Or.inr (slot_ne (Or.inr (ww14 hw)) (Or.inr (ww18 hw)) (by decide) (t := (.array .long)) (t' := (.array .long)) (by decide) (by decide)))
  have F_36 := F_15.other W26 (Or.inr (slot_ne (Or.inr (ww16 hw)) (Or.inr (ww18 hw)) (by decide) (t := (.array .int)) (t' := (.array .long)) (by decide) (by decide)))
  have Z_37 : n0 ≤ h26.size := by rw [W26.size]; exact Z_25
  refine own_aloadN (n := 20) X26 hx (hb hby d1_19) rfl rfl rfl ?_
  refine own_bipush (n := 22) (z := (31 : Int32)) X26 hx (hb hby d1_20) rfl rfl ?_
  refine own_bipush (n := 24) (z := (31 : Int32)) X26 hx (hb hby d1_22) rfl rfl ?_
  refine own_aloadN (n := 25) X26 hx (hb hby d1_24) rfl rfl rfl ?_
  refine own_S (n := 28) (argsL := [(.ref b)]) (rest := [(.int (31 : Int32)), (.int (31 : Int32)), (.ref a)]) X26 hx hZ hown (own_rmJ0 l Z a0 hw b k1  h26 n0 Z_37 A_30 ) (ww19 hw) (ww20 hw) (ww21 hw) (ww22 hw) (by decide) e26 (by rw [hml]; rfl) (lenOf own_pd0 rfl) rfl (hb hby d1_25) (Nat.le_of_ble_eq_true rfl) (Nat.le_of_ble_eq_true rfl) (Nat.le_of_ble_eq_true rfl) (Nat.le_of_ble_eq_true rfl) rfl ?_
  rintro v38 T38 L38 X38 ⟨z38, rfl, Nq38, eq38⟩
  have N38 := Fr.app N26 Nq38
  change own_G p e below _ _ (mkF m 28 _ [(.int z38), (.int (31 : Int32)), (.int (31 : Int32)), (.ref a)])
  refine own_imul (n := 29) X38 hx (hb hby d1_28) rfl rfl ?_
  refine own_aloadN (n := 30) X38 hx (hb hby d1_29) rfl rfl rfl ?_
  refine own_S (n := 33) (argsL := [(.ref d)]) (rest := [(.int ((31 : Int32) * z38)), (.int (31 : Int32)), (.ref a)]) X38 hx hZ hown (own_rmA1 l Z a0 hw d k2 d0 h26 n0 Z_37 A_31 E_33) (ww23 hw) (ww24 hw) (ww21 hw) (ww25 hw) (by decide) eq38 (by rw [hml]; rfl) (lenOf own_pd1 rfl) rfl (hb hby d1_30) (Nat.le_of_ble_eq_true rfl) (Nat.le_of_ble_eq_true rfl) (Nat.le_of_ble_eq_true rfl) (Nat.le_of_ble_eq_true rfl) rfl ?_
  rintro v39 T39 L39 X39 ⟨z39, rfl, Nq39, eq39⟩
  have N39 := Fr.app N38 Nq39
  change own_G p e below _ _ (mkF m 33 _ [(.int z39), (.int ((31 : Int32) * z38)), (.int (31 : Int32)), (.ref a)])
  refine own_iadd (n := 34) X39 hx (hb hby d1_33) rfl rfl ?_
  refine own_imul (n := 35) X39 hx (hb hby d1_34) rfl rfl ?_
  refine own_aloadN (n := 36) X39 hx (hb hby d1_35) rfl rfl rfl ?_
  refine own_S (n := 39) (argsL := [(.ref f)]) (rest := [(.int ((31 : Int32) * (((31 : Int32) * z38) + z39))), (.ref a)]) X39 hx hZ hown (own_rmJ1 l Z a0 hw f k3 ee0 h26 n0 Z_37 A_32 ) (ww19 hw) (ww20 hw) (ww21 hw) (ww22 hw) (by decide) eq39 (by rw [hml]; rfl) (lenOf own_pd0 rfl) rfl (hb hby d1_36) (Nat.le_of_ble_eq_true rfl) (Nat.le_of_ble_eq_true rfl) (Nat.le_of_ble_eq_true rfl) (Nat.le_of_ble_eq_true rfl) rfl ?_
  rintro v40 T40 L40 X40 ⟨z40, rfl, Nq40, eq40⟩
  have N40 := Fr.app N39 Nq40
  change own_G p e below _ _ (mkF m 39 _ [(.int z40), (.int ((31 : Int32) * (((31 : Int32) * z38) + z39))), (.ref a)])
  refine own_iadd (n := 40) X40 hx (hb hby d1_39) rfl rfl ?_
  refine own_putF (n := 43) X40 hx hZ hown (host := "") (Or.inl (ww26 hw)) Via.refl eq40 F_29 E_28 (Or.inr ⟨(ww27 hw), rfl, hnm⟩) (ww5 hw) (ty := .int) (by decide) rfl rfl (hb hby d1_40) rfl ?_
  intro T41 h41 X41 e41 W41
  have F_42 := F_29.same W41
  have N41 := Fr.snoc X41 N40 g_a
  have E_43 := E_28.wr W41
  have A_44 := A_30.other W41 (Ne.symm (own_neEA E_28 (ww5 hw) A_30))
  have A_45 := A_31.other W41 (Ne.symm (own_neEA E_28 (ww5 hw) A_31))
  have A_46 := A_32.other W41 (Ne.symm (own_neEA E_28 (ww5 hw) A_32))
  have E_47 := E_33.wr W41
  have K_48 := K_34.wr W41 (Or.inl (by simp))
  have F_49 := F_35.other W41 (Or.inr (slot_ne (Or.inr (ww14 hw)) (Or.inr (ww27 hw)) (by decide) (t := (.array .long)) (t' := .int) (by decide) (by decide)))
  have F_50 := F_36.other W41 (Or.inr (slot_ne (Or.inr (ww16 hw)) (Or.inr (ww27 hw)) (by decide) (t := (.array .int)) (t' := .int) (by decide) (by decide)))
  have F_51 := F_27.other W41 (Or.inr (slot_ne (Or.inr (ww18 hw)) (Or.inr (ww27 hw)) (by decide) (t := (.array .long)) (t' := .int) (by decide) (by decide)))
  have Z_52 : n0 ≤ h41.size := by rw [W41.size]; exact Z_37
  refine own_retV X41 hx hlk hret e41 (hb hby d1_43) (by decide) (by decide) ?_
  exact ⟨rfl, N41, K_48, E_43, F_49, F_50, F_51⟩
theorem d5_20 : decode prog_30_method_4_code 20 = .ok (.iconst 0, 1) := by decide +kernel
theorem own_ef5_own_rmE_0_1 (m : MethodId) (y0 : Addr) : entryFrame m #[(.ref y0)] 1 = mkF m 0 #[.val (.ref y0)] [] := by first | (simp [entryFrame, mkF, argsToLocals, Value.category]; done) | rfl
set_option maxRecDepth 65536 in
set_option maxHeartbeats 40000000 in
theorem own_rmE_0_1 (l : Launch) (Z : State) (a0 : Array Value) (hw : ∀ d ∈ tables_1, d.before a0 Z = true) (a b d f : Addr) (k1 k2 k3 : ClassId)  (d0 : Int32) (ee0 : Int64) (h0 : Heap) (n0 : Nat) (Z0 : n0 ≤ h0.size) (F1 : Fld Z h0 a "com/example/eunomia/eunomia/engine/IdSet" "low" "[J" (.ref b)) (F2 : Fld Z h0 a "com/example/eunomia/eunomia/engine/IdSet" "places" "[I" (.ref d)) (F3 : Fld Z h0 a "com/example/eunomia/eunomia/engine/IdSet" "words" "[J" (.ref f)) (V1 : Arv Z h0 b k1 .long (0 : Int32) [] (.long (0 : Int64))) (V2 : Arv Z h0 d k2 .int (1 : Int32) [(.int d0)] (.int (0 : Int32))) (V3 : Arv Z h0 f k3 .long (1 : Int32) [(.long ee0)] (.long (0 : Int64))) :
    own_Met l Z (⟨"com/example/eunomia/eunomia/engine/IdSet", "isEmpty", "()Z"⟩ : MethodName) prog_30_method_4_code 1 (some .boolean) [] ({ frames := 0, cells := 0, slots := 0, locals := 0 } : Room) #[(.ref a)] h0 (fun v h L => v = some (.int (0 : Int32)) ∧ Fr n0 L ∧ h = h0) := by
  refine own_met own_pn5 ?_
  intro p e s m below meth c s₁ hx hby hml hown hnm hret hlk hZ X0 hE0
  have N0 := Fr.nil n0
  refine own_cast (own_ef5_own_rmE_0_1 m a) ?_
  refine own_aloadN (n := 1) X0 hx (hb hby d5_0) rfl rfl rfl ?_
  refine own_getF (n := 4) X0 hx hZ hown (host := "") (Or.inl (ww13 hw)) Via.refl hE0 F1 (hb hby d5_1) rfl ?_
  intro T1 X1 e1
  refine own_len (n := 5) X1 hx hZ e1 V1 (hb hby d5_4) rfl ?_
  refine own_ifNo (n := 8) X1 hx (hb hby d5_5) (teq (by decide : (0 : Int32) = (0 : Int32))).2 rfl ?_
  refine own_aloadN (n := 9) X1 hx (hb hby d5_8) rfl rfl rfl ?_
  refine own_getF (n := 12) X1 hx hZ hown (host := "") (Or.inl (ww15 hw)) Via.refl e1 F2 (hb hby d5_9) rfl ?_
  intro T2 X2 e2
  refine own_len (n := 13) X2 hx hZ e2 V2 (hb hby d5_12) rfl ?_
  refine own_ifYes (n := 20) X2 hx (hb hby d5_13) (feq (by decide : ¬ ((1 : Int32) = (0 : Int32)))).2 (by decide) (by decide) ?_
  refine own_iconst (n := 21) (z := (0 : Int32)) X2 hx (hb hby d5_20) rfl rfl ?_
  refine own_retZ X2 hx hlk hret (by simp) e2 (w := (0 : Int32)) rfl (hb hby d5_21) (by decide) (by decide) ?_
  exact ⟨rfl, N0, rfl⟩
theorem d8_15 : decode jdk_65_method_59_code 15 = .ok (.iload 4, 2) := by decide +kernel
theorem d8_17 : decode jdk_65_method_59_code 17 = .ok (.iload 5, 2) := by decide +kernel
theorem d8_19 : decode jdk_65_method_59_code 19 = .ok (.iadd, 1) := by decide +kernel
theorem d8_20 : decode jdk_65_method_59_code 20 = .ok (.iconst 1, 1) := by decide +kernel
theorem d8_21 : decode jdk_65_method_59_code 21 = .ok (.iushr, 1) := by decide +kernel
theorem d8_22 : decode jdk_65_method_59_code 22 = .ok (.istore 6, 2) := by decide +kernel
theorem d8_24 : decode jdk_65_method_59_code 24 = .ok (.aload_n 0, 1) := by decide +kernel
theorem d8_25 : decode jdk_65_method_59_code 25 = .ok (.iload 6, 2) := by decide +kernel
theorem d8_27 : decode jdk_65_method_59_code 27 = .ok (.iaload, 1) := by decide +kernel
theorem d8_28 : decode jdk_65_method_59_code 28 = .ok (.istore 7, 2) := by decide +kernel
theorem d8_30 : decode jdk_65_method_59_code 30 = .ok (.iload 7, 2) := by decide +kernel
theorem d8_32 : decode jdk_65_method_59_code 32 = .ok (.iload_n 3, 1) := by decide +kernel
theorem d8_33 : decode jdk_65_method_59_code 33 = .ok (.if_icmp .ge 12, 3) := by decide +kernel
theorem d8_45 : decode jdk_65_method_59_code 45 = .ok (.iload 7, 2) := by decide +kernel
theorem d8_47 : decode jdk_65_method_59_code 47 = .ok (.iload_n 3, 1) := by decide +kernel
theorem d8_48 : decode jdk_65_method_59_code 48 = .ok (.if_icmp .le 12, 3) := by decide +kernel
theorem d8_60 : decode jdk_65_method_59_code 60 = .ok (.iload 6, 2) := by decide +kernel
theorem d8_62 : decode jdk_65_method_59_code 62 = .ok (.ireturn, 1) := by decide +kernel
theorem own_ef8_own_rm_binarySearch01 (m : MethodId) (y0 : Addr) (y1 : Int32) (y2 : Int32) (y3 : Int32) : entryFrame m #[(.ref y0), (.int y1), (.int y2), (.int y3)] 8 = mkF m 0 #[.val (.ref y0), .val (.int y1), .val (.int y2), .val (.int y3), .unset, .unset, .unset, .unset] [] := by first | (simp [entryFrame, mkF, argsToLocals, Value.category]; done) | rfl
set_option maxRecDepth 65536 in
set_option maxHeartbeats 40000000 in
theorem own_rm_binarySearch01 (l : Launch) (Z : State) (a0 : Array Value) (hw : ∀ d ∈ tables_1, d.before a0 Z = true) (a : Addr) (k2 : ClassId) (d0 : Int32)  (h0 : Heap) (n0 : Nat) (Z0 : n0 ≤ h0.size) (V0 : Arv Z h0 a k2 .int (1 : Int32) [(.int d0)] (.int (0 : Int32))) :
    own_Met l Z (⟨"java/util/Arrays", "binarySearch0", "([IIII)I"⟩ : MethodName) jdk_65_method_59_code 8 (some .int) [] ({ frames := 0, cells := 0, slots := 0, locals := 0 } : Room) #[(.ref a), (.int (0 : Int32)), (.int (1 : Int32)), (.int d0)] h0 (fun v h L => v = some (.int (0 : Int32)) ∧ Fr n0 L ∧ h = h0) := by
  refine own_met own_pn8 ?_
  intro p e s m below meth c s₁ hx hby hml hown hnm hret hlk hZ X0 hE0
  have N0 := Fr.nil n0
  refine own_cast (own_ef8_own_rm_binarySearch01 m a (0 : Int32) (1 : Int32) d0) ?_
  refine own_iloadN (n := 1) X0 hx (hb hby d8_0) rfl rfl ?_
  refine own_istore (n := 3) (l' := #[.val (.ref a), .val (.int (0 : Int32)), .val (.int (1 : Int32)), .val (.int d0), .val (.int (0 : Int32)), .unset, .unset, .unset]) X0 hx (hb hby d8_1) rfl rfl ?_
  refine own_iloadN (n := 4) X0 hx (hb hby d8_3) rfl rfl ?_
  refine own_iconst (n := 5) (z := (1 : Int32)) X0 hx (hb hby d8_4) rfl rfl ?_
  refine own_isub (n := 6) (z := (0 : Int32)) X0 hx (hb hby d8_5) rfl rfl ?_
  refine own_istore (n := 8) (l' := #[.val (.ref a), .val (.int (0 : Int32)), .val (.int (1 : Int32)), .val (.int d0), .val (.int (0 : Int32)), .val (.int (0 : Int32)), .unset, .unset]) X0 hx (hb hby d8_6) rfl rfl ?_
  refine own_iload (n := 10) X0 hx (hb hby d8_8) rfl rfl ?_
  refine own_iload (n := 12) X0 hx (hb hby d8_10) rfl rfl ?_
  refine own_icmpNo (n := 15) X0 hx (hb hby d8_12) (flt (by decide : ¬ ((0 : Int32) < (0 : Int32)))).2.2.1 rfl ?_
  refine own_iload (n := 17) X0 hx (hb hby d8_15) rfl rfl ?_
  refine own_iload (n := 19) X0 hx (hb hby d8_17) rfl rfl ?_
  refine own_iadd (n := 20) (z := (0 : Int32)) X0 hx (hb hby d8_19) rfl rfl ?_
  refine own_iconst (n := 21) (z := (1 : Int32)) X0 hx (hb hby d8_20) rfl rfl ?_
  refine own_iushr (n := 22) (z := (0 : Int32)) X0 hx (hb hby d8_21) rfl rfl ?_
  refine own_istore (n := 24) (l' := #[.val (.ref a), .val (.int (0 : Int32)), .val (.int (1 : Int32)), .val (.int d0), .val (.int (0 : Int32)), .val (.int (0 : Int32)), .val (.int (0 : Int32)), .unset]) X0 hx (hb hby d8_22) rfl rfl ?_
  refine own_aloadN (n := 25) X0 hx (hb hby d8_24) rfl rfl rfl ?_
  refine own_iload (n := 27) X0 hx (hb hby d8_25) rfl rfl ?_
  refine own_ld_iaload (n := 28) (v := (.int d0)) X0 hx hZ hE0 V0 ⟨by decide, by decide⟩ rfl (hb hby d8_27) rfl ?_
  refine own_istore (n := 30) (l' := #[.val (.ref a), .val (.int (0 : Int32)), .val (.int (1 : Int32)), .val (.int d0), .val (.int (0 : Int32)), .val (.int (0 : Int32)), .val (.int (0 : Int32)), .val (.int d0)]) X0 hx (hb hby d8_28) rfl rfl ?_
  refine own_iload (n := 32) X0 hx (hb hby d8_30) rfl rfl ?_
  refine own_iloadN (n := 33) X0 hx (hb hby d8_32) rfl rfl ?_
  refine own_icmpYes (n := 45) X0 hx (hb hby d8_33) (flt (own_irr _)).2.1 (by decide) (by decide) ?_
  refine own_iload (n := 47) X0 hx (hb hby d8_45) rfl rfl ?_
  refine own_iloadN (n := 48) X0 hx (hb hby d8_47) rfl rfl ?_
  refine own_icmpYes (n := 60) X0 hx (hb hby d8_48) (flt (own_irr _)).2.2.2 (by decide) (by decide) ?_
  refine own_iload (n := 62) X0 hx (hb hby d8_60) rfl rfl ?_
  refine own_retI X0 hx hlk hret hE0 (hb hby d8_62) (by decide) (by decide) ?_
  exact ⟨rfl, N0, rfl⟩
theorem own_ef7_own_rm_binarySearch1 (m : MethodId) (y0 : Addr) (y1 : Int32) : entryFrame m #[(.ref y0), (.int y1)] 2 = mkF m 0 #[.val (.ref y0), .val (.int y1)] [] := by first | (simp [entryFrame, mkF, argsToLocals, Value.category]; done) | rfl
set_option maxRecDepth 65536 in
set_option maxHeartbeats 40000000 in
theorem own_rm_binarySearch1 (l : Launch) (Z : State) (a0 : Array Value) (hw : ∀ d ∈ tables_1, d.before a0 Z = true) (a : Addr) (k2 : ClassId) (d0 : Int32)  (h0 : Heap) (n0 : Nat) (Z0 : n0 ≤ h0.size) (V0 : Arv Z h0 a k2 .int (1 : Int32) [(.int d0)] (.int (0 : Int32))) :
    own_Met l Z (⟨"java/util/Arrays", "binarySearch", "([II)I"⟩ : MethodName) jdk_65_method_57_code 2 (some .int) [] ({ frames := 1, cells := 0, slots := 0, locals := 19 } : Room) #[(.ref a), (.int d0)] h0 (fun v h L => v = some (.int (0 : Int32)) ∧ Fr n0 L ∧ h = h0) := by
  refine own_met own_pn7 ?_
  intro p e s m below meth c s₁ hx hby hml hown hnm hret hlk hZ X0 hE0
  have N0 := Fr.nil n0
  refine own_cast (own_ef7_own_rm_binarySearch1 m a d0) ?_
  refine own_aloadN (n := 1) X0 hx (hb hby d7_0) rfl rfl rfl ?_
  refine own_iconst (n := 2) (z := (0 : Int32)) X0 hx (hb hby d7_1) rfl rfl ?_
  refine own_aloadN (n := 3) X0 hx (hb hby d7_2) rfl rfl rfl ?_
  refine own_len (n := 4) X0 hx hZ hE0 V0 (hb hby d7_3) rfl ?_
  refine own_iloadN (n := 5) X0 hx (hb hby d7_4) rfl rfl ?_
  refine own_S (n := 8) (argsL := [(.ref a), (.int (0 : Int32)), (.int (1 : Int32)), (.int d0)]) (rest := []) X0 hx hZ hown (own_rm_binarySearch01 l Z a0 hw a k2 d0  h0 n0 Z0 V0) (ww41 hw) (ww42 hw) (ww21 hw) (ww43 hw) (by decide) hE0 (by rw [hml]; rfl) (lenOf own_pd4 rfl) rfl (hb hby d7_5) (Nat.le_of_ble_eq_true rfl) (Nat.le_of_ble_eq_true rfl) (Nat.le_of_ble_eq_true rfl) (Nat.le_of_ble_eq_true rfl) rfl ?_
  rintro v1 T1 L1 X1 ⟨rfl, Nq1, eq1⟩
  have N1 := Fr.app N0 Nq1
  change own_G p e below _ _ (mkF m 8 _ [(.int (0 : Int32))])
  refine own_retI X1 hx hlk hret eq1 (hb hby d7_8) (by decide) (by decide) ?_
  exact ⟨rfl, N1, rfl⟩
theorem d6_59 : decode prog_30_method_3_code 59 = .ok (.aload_n 0, 1) := by decide +kernel
theorem d6_60 : decode prog_30_method_3_code 60 = .ok (.getfield 17, 3) := by decide +kernel
theorem d6_63 : decode prog_30_method_3_code 63 = .ok (.iload 4, 2) := by decide +kernel
theorem d6_65 : decode prog_30_method_3_code 65 = .ok (.laload, 1) := by decide +kernel
theorem d6_66 : decode prog_30_method_3_code 66 = .ok (.lconst 1, 1) := by decide +kernel
theorem d6_67 : decode prog_30_method_3_code 67 = .ok (.iload_n 1, 1) := by decide +kernel
theorem d6_68 : decode prog_30_method_3_code 68 = .ok (.lshl, 1) := by decide +kernel
theorem d6_69 : decode prog_30_method_3_code 69 = .ok (.land, 1) := by decide +kernel
theorem d6_70 : decode prog_30_method_3_code 70 = .ok (.lconst 0, 1) := by decide +kernel
theorem d6_71 : decode prog_30_method_3_code 71 = .ok (.lcmp, 1) := by decide +kernel
theorem d6_72 : decode prog_30_method_3_code 72 = .ok (.ifCond .eq 7, 3) := by decide +kernel
theorem d6_75 : decode prog_30_method_3_code 75 = .ok (.iconst 1, 1) := by decide +kernel
theorem d6_76 : decode prog_30_method_3_code 76 = .ok (.goto 4, 3) := by decide +kernel
theorem own_ef6_own_rmC_0_1 (m : MethodId) (y0 : Addr) (y1 : Int32) : entryFrame m #[(.ref y0), (.int y1)] 5 = mkF m 0 #[.val (.ref y0), .val (.int y1), .unset, .unset, .unset] [] := by first | (simp [entryFrame, mkF, argsToLocals, Value.category]; done) | rfl
set_option maxRecDepth 65536 in
set_option maxHeartbeats 40000000 in
theorem own_rmC_0_1 (l : Launch) (Z : State) (a0 : Array Value) (hw : ∀ d ∈ tables_1, d.before a0 Z = true) (a b d f : Addr) (k1 k2 k3 : ClassId)  (d0 : Int32) (ee0 : Int64) (p1 : Int32) (h0 : Heap) (n0 : Nat) (Z0 : n0 ≤ h0.size) (F1 : Fld Z h0 a "com/example/eunomia/eunomia/engine/IdSet" "low" "[J" (.ref b)) (F2 : Fld Z h0 a "com/example/eunomia/eunomia/engine/IdSet" "places" "[I" (.ref d)) (F3 : Fld Z h0 a "com/example/eunomia/eunomia/engine/IdSet" "words" "[J" (.ref f)) (V1 : Arv Z h0 b k1 .long (0 : Int32) [] (.long (0 : Int64))) (V2 : Arv Z h0 d k2 .int (1 : Int32) [(.int d0)] (.int (0 : Int32))) (V3 : Arv Z h0 f k3 .long (1 : Int32) [(.long ee0)] (.long (0 : Int64))) (hs : ((p1).toUInt32 >>> ((6 : Int32) &&& 31).toUInt32).toInt32 = d0) (hlo : ¬ d0 < (64 : Int32)) (hbit : ¬ (ee0 &&& ((1 : Int64) <<< (p1 &&& 63).toInt64)) = (0 : Int64)) :
    own_Met l Z (⟨"com/example/eunomia/eunomia/engine/IdSet", "contains", "(I)Z"⟩ : MethodName) prog_30_method_3_code 5 (some .boolean) [] ({ frames := 2, cells := 0, slots := 0, locals := 32 } : Room) #[(.ref a), (.int p1)] h0 (fun v h L => v = some (.int (1 : Int32)) ∧ Fr n0 L ∧ h = h0) := by
  refine own_met own_pn6 ?_
  intro p e s m below meth c s₁ hx hby hml hown hnm hret hlk hZ X0 hE0
  have N0 := Fr.nil n0
  refine own_cast (own_ef6_own_rmC_0_1 m a p1) ?_
  refine own_iloadN (n := 1) X0 hx (hb hby d6_0) rfl rfl ?_
  refine own_bipush (n := 3) (z := (6 : Int32)) X0 hx (hb hby d6_1) rfl rfl ?_
  refine own_iushr (n := 4) X0 hx (hb hby d6_3) rfl rfl ?_
  refine own_istoreN (n := 5) (l' := #[.val (.ref a), .val (.int p1), .val (.int ((p1).toUInt32 >>> ((6 : Int32) &&& 31).toUInt32).toInt32), .unset, .unset]) X0 hx (hb hby d6_4) rfl rfl ?_
  rw [hs]
  refine own_iloadN (n := 6) X0 hx (hb hby d6_5) rfl rfl ?_
  refine own_bipush (n := 8) (z := (64 : Int32)) X0 hx (hb hby d6_6) rfl rfl ?_
  refine own_icmpYes (n := 44) X0 hx (hb hby d6_8) (flt hlo).2.1 (by decide) (by decide) ?_
  refine own_aloadN (n := 45) X0 hx (hb hby d6_44) rfl rfl rfl ?_
  refine own_getF (n := 48) X0 hx hZ hown (host := "") (Or.inl (ww15 hw)) Via.refl hE0 F2 (hb hby d6_45) rfl ?_
  intro T1 X1 e1
  refine own_iloadN (n := 49) X1 hx (hb hby d6_48) rfl rfl ?_
  refine own_S (n := 52) (argsL := [(.ref d), (.int d0)]) (rest := []) X1 hx hZ hown (own_rm_binarySearch1 l Z a0 hw d k2 d0  h0 n0 Z0 V2) (ww38 hw) (ww39 hw) (ww21 hw) (ww40 hw) (by decide) e1 (by rw [hml]; rfl) (lenOf own_pd5 rfl) rfl (hb hby d6_49) (Nat.le_of_ble_eq_true rfl) (Nat.le_of_ble_eq_true rfl) (Nat.le_of_ble_eq_true rfl) (Nat.le_of_ble_eq_true rfl) rfl ?_
  rintro v2 T2 L2 X2 ⟨rfl, Nq2, eq2⟩
  have N2 := Fr.app N0 Nq2
  change own_G p e below _ _ (mkF m 52 _ [(.int (0 : Int32))])
  refine own_istore (n := 54) (l' := #[.val (.ref a), .val (.int p1), .val (.int d0), .unset, .val (.int (0 : Int32))]) X2 hx (hb hby d6_52) rfl rfl ?_
  refine own_iload (n := 56) X2 hx (hb hby d6_54) rfl rfl ?_
  refine own_ifNo (n := 59) X2 hx (hb hby d6_56) (flt (by decide : ¬ ((0 : Int32) < (0 : Int32)))).1 rfl ?_
  refine own_aloadN (n := 60) X2 hx (hb hby d6_59) rfl rfl rfl ?_
  refine own_getF (n := 63) X2 hx hZ hown (host := "") (Or.inl (ww17 hw)) Via.refl eq2 F3 (hb hby d6_60) rfl ?_
  intro T3 X3 e3
  refine own_iload (n := 65) X3 hx (hb hby d6_63) rfl rfl ?_
  refine own_ld_laload (n := 66) (v := (.long ee0)) X3 hx hZ e3 V3 ⟨by decide, by decide⟩ rfl (hb hby d6_65) rfl ?_
  refine own_lconst (n := 67) (z := (1 : Int64)) X3 hx (hb hby d6_66) rfl rfl ?_
  refine own_iloadN (n := 68) X3 hx (hb hby d6_67) rfl rfl ?_
  refine own_lshl (n := 69) X3 hx (hb hby d6_68) rfl rfl ?_
  refine own_land (n := 70) X3 hx (hb hby d6_69) rfl rfl ?_
  refine own_lconst (n := 71) (z := (0 : Int64)) X3 hx (hb hby d6_70) rfl rfl ?_
  refine own_lcmp (n := 72) X3 hx (hb hby d6_71) rfl ?_
  refine own_ifNo (n := 75) X3 hx (hb hby d6_72) (feq (own_lc hbit)).1 rfl ?_
  refine own_iconst (n := 76) (z := (1 : Int32)) X3 hx (hb hby d6_75) rfl rfl ?_
  refine own_goto (n := 80) X3 hx (hb hby d6_76) (by decide) (by decide) ?_
  refine own_istoreN (n := 81) (l' := #[.val (.ref a), .val (.int p1), .val (.int d0), .val (.int (1 : Int32)), .val (.int (0 : Int32))]) X3 hx (hb hby d6_80) rfl rfl ?_
  refine own_iloadN (n := 82) X3 hx (hb hby d6_81) rfl rfl ?_
  refine own_retZ X3 hx hlk hret (by simp) e3 (w := (1 : Int32)) rfl (hb hby d6_82) (by decide) (by decide) ?_
  exact ⟨rfl, N2, rfl⟩
theorem d4_49 : decode jdk_65_method_150_code 49 = .ok (.aload_n 0, 1) := by decide +kernel
theorem d4_50 : decode jdk_65_method_150_code 50 = .ok (.iconst 0, 1) := by decide +kernel
theorem d4_51 : decode jdk_65_method_150_code 51 = .ok (.aload_n 0, 1) := by decide +kernel
theorem d4_52 : decode jdk_65_method_150_code 52 = .ok (.arraylength, 1) := by decide +kernel
theorem d4_53 : decode jdk_65_method_150_code 53 = .ok (.iconst 1, 1) := by decide +kernel
theorem d4_54 : decode jdk_65_method_150_code 54 = .ok (.bipush 10, 2) := by decide +kernel
theorem d4_56 : decode jdk_65_method_150_code 56 = .ok (.invokestatic 379, 3) := by decide +kernel
theorem own_pn9 : plainFor (⟨"jdk/internal/util/ArraysSupport", "vectorizedHashCode", "(Ljava/lang/Object;IIII)I"⟩ : MethodName) = true := plainFor_of_name (by first | (simp [plainName, overriddenIn]; done) | decide +kernel)
theorem d9_0 : decode jdk_48_method_4_code 0 = .ok (.iload 4, 2) := by decide +kernel
theorem d9_2 : decode jdk_48_method_4_code 2 = .ok (.tableswitch 127 4 10 #[42, 55, 127, 127, 88, 101, 114], 42) := by decide +kernel
theorem d9_116 : decode jdk_48_method_4_code 116 = .ok (.iload_n 3, 1) := by decide +kernel
theorem d9_117 : decode jdk_48_method_4_code 117 = .ok (.aload_n 0, 1) := by decide +kernel
theorem d9_118 : decode jdk_48_method_4_code 118 = .ok (.checkcast 82, 3) := by decide +kernel
theorem d9_121 : decode jdk_48_method_4_code 121 = .ok (.iload_n 1, 1) := by decide +kernel
theorem d9_122 : decode jdk_48_method_4_code 122 = .ok (.iload_n 2, 1) := by decide +kernel
theorem d9_123 : decode jdk_48_method_4_code 123 = .ok (.invokestatic 84, 3) := by decide +kernel
theorem own_pn10 : plainFor (⟨"jdk/internal/util/ArraysSupport", "hashCode", "(I[III)I"⟩ : MethodName) = true := plainFor_of_name (by first | (simp [plainName, overriddenIn]; done) | decide +kernel)
theorem d10_0 : decode jdk_48_method_9_code 0 = .ok (.iload_n 2, 1) := by decide +kernel
theorem d10_1 : decode jdk_48_method_9_code 1 = .ok (.iload_n 3, 1) := by decide +kernel
theorem d10_2 : decode jdk_48_method_9_code 2 = .ok (.iadd, 1) := by decide +kernel
theorem d10_3 : decode jdk_48_method_9_code 3 = .ok (.istore 4, 2) := by decide +kernel
theorem d10_5 : decode jdk_48_method_9_code 5 = .ok (.iload_n 2, 1) := by decide +kernel
theorem d10_6 : decode jdk_48_method_9_code 6 = .ok (.istore 5, 2) := by decide +kernel
theorem d10_8 : decode jdk_48_method_9_code 8 = .ok (.iload 5, 2) := by decide +kernel
theorem d10_10 : decode jdk_48_method_9_code 10 = .ok (.iload 4, 2) := by decide +kernel
theorem d10_12 : decode jdk_48_method_9_code 12 = .ok (.if_icmp .ge 19, 3) := by decide +kernel
theorem d10_15 : decode jdk_48_method_9_code 15 = .ok (.bipush 31, 2) := by decide +kernel
theorem d10_17 : decode jdk_48_method_9_code 17 = .ok (.iload_n 0, 1) := by decide +kernel
theorem d10_18 : decode jdk_48_method_9_code 18 = .ok (.imul, 1) := by decide +kernel
theorem d10_19 : decode jdk_48_method_9_code 19 = .ok (.aload_n 1, 1) := by decide +kernel
theorem d10_20 : decode jdk_48_method_9_code 20 = .ok (.iload 5, 2) := by decide +kernel
theorem d10_22 : decode jdk_48_method_9_code 22 = .ok (.iaload, 1) := by decide +kernel
theorem d10_23 : decode jdk_48_method_9_code 23 = .ok (.iadd, 1) := by decide +kernel
theorem d10_24 : decode jdk_48_method_9_code 24 = .ok (.istore_n 0, 1) := by decide +kernel
theorem d10_25 : decode jdk_48_method_9_code 25 = .ok (.iinc 5 1, 3) := by decide +kernel
theorem d10_28 : decode jdk_48_method_9_code 28 = .ok (.goto (-20), 3) := by decide +kernel
theorem d10_31 : decode jdk_48_method_9_code 31 = .ok (.iload_n 0, 1) := by decide +kernel
theorem d10_32 : decode jdk_48_method_9_code 32 = .ok (.ireturn, 1) := by decide +kernel
theorem own_ef10_own_rmH2 (m : MethodId) (y0 : Int32) (y1 : Addr) (y2 : Int32) (y3 : Int32) : entryFrame m #[(.int y0), (.ref y1), (.int y2), (.int y3)] 6 = mkF m 0 #[.val (.int y0), .val (.ref y1), .val (.int y2), .val (.int y3), .unset, .unset] [] := by first | (simp [entryFrame, mkF, argsToLocals, Value.category]; done) | rfl
set_option maxRecDepth 65536 in
set_option maxHeartbeats 40000000 in
theorem own_rmH2 (l : Launch) (Z : State) (a0 : Array Value) (hw : ∀ d ∈ tables_1, d.before a0 Z = true) (a : Addr) (kk : ClassId) (c0 c1 : Int32) (h0 : Heap) (n0 : Nat) (Z0 : n0 ≤ h0.size) (V0 : Arv Z h0 a kk .int (2 : Int32) [(.int c0), (.int c1)] (.int (0 : Int32))) :
    own_Met l Z (⟨"jdk/internal/util/ArraysSupport", "hashCode", "(I[III)I"⟩ : MethodName) jdk_48_method_9_code 6 (some .int) [] ({ frames := 0, cells := 0, slots := 0, locals := 0 } : Room) #[(.int (1 : Int32)), (.ref a), (.int (0 : Int32)), (.int (2 : Int32))] h0 (fun v h L => ∃ z : Int32, v = some (.int z) ∧ Fr n0 L ∧ h = h0) := by
  refine own_met own_pn10 ?_
  intro p e s m below meth c s₁ hx hby hml hown hnm hret hlk hZ X0 hE0
  have N0 := Fr.nil n0
  refine own_cast (own_ef10_own_rmH2 m (1 : Int32) a (0 : Int32) (2 : Int32)) ?_
  refine own_iloadN (n := 1) X0 hx (hb hby d10_0) rfl rfl ?_
  refine own_iloadN (n := 2) X0 hx (hb hby d10_1) rfl rfl ?_
  refine own_iadd (n := 3) (z := (2 : Int32)) X0 hx (hb hby d10_2) rfl rfl ?_
  refine own_istore (n := 5) (l' := #[.val (.int (1 : Int32)), .val (.ref a), .val (.int (0 : Int32)), .val (.int (2 : Int32)), .val (.int (2 : Int32)), .unset]) X0 hx (hb hby d10_3) rfl rfl ?_
  refine own_iloadN (n := 6) X0 hx (hb hby d10_5) rfl rfl ?_
  refine own_istore (n := 8) (l' := #[.val (.int (1 : Int32)), .val (.ref a), .val (.int (0 : Int32)), .val (.int (2 : Int32)), .val (.int (2 : Int32)), .val (.int (0 : Int32))]) X0 hx (hb hby d10_6) rfl rfl ?_
  refine own_iload (n := 10) X0 hx (hb hby d10_8) rfl rfl ?_
  refine own_iload (n := 12) X0 hx (hb hby d10_10) rfl rfl ?_
  refine own_icmpNo (n := 15) X0 hx (hb hby d10_12) (tlt (by decide : (0 : Int32) < (2 : Int32))).2.1 rfl ?_
  refine own_bipush (n := 17) (z := (31 : Int32)) X0 hx (hb hby d10_15) rfl rfl ?_
  refine own_iloadN (n := 18) X0 hx (hb hby d10_17) rfl rfl ?_
  refine own_imul (n := 19) (z := (31 : Int32)) X0 hx (hb hby d10_18) rfl rfl ?_
  refine own_aloadN (n := 20) X0 hx (hb hby d10_19) rfl rfl rfl ?_
  refine own_iload (n := 22) X0 hx (hb hby d10_20) rfl rfl ?_
  refine own_ld_iaload (n := 23) (v := (.int c0)) X0 hx hZ hE0 V0 ⟨by decide, by decide⟩ rfl (hb hby d10_22) rfl ?_
  refine own_iadd (n := 24) X0 hx (hb hby d10_23) rfl rfl ?_
  refine own_istoreN (n := 25) (l' := #[.val (.int ((31 : Int32) + c0)), .val (.ref a), .val (.int (0 : Int32)), .val (.int (2 : Int32)), .val (.int (2 : Int32)), .val (.int (0 : Int32))]) X0 hx (hb hby d10_24) rfl rfl ?_
  refine own_iinc (n := 28) (z := (1 : Int32)) (l' := #[.val (.int ((31 : Int32) + c0)), .val (.ref a), .val (.int (0 : Int32)), .val (.int (2 : Int32)), .val (.int (2 : Int32)), .val (.int (1 : Int32))]) X0 hx (hb hby d10_25) rfl rfl rfl rfl ?_
  refine own_goto (n := 8) X0 hx (hb hby d10_28) (by decide) (by decide) ?_
  refine own_iload (n := 10) X0 hx (hb hby d10_8) rfl rfl ?_
  refine own_iload (n := 12) X0 hx (hb hby d10_10) rfl rfl ?_
  refine own_icmpNo (n := 15) X0 hx (hb hby d10_12) (tlt (by decide : (1 : Int32) < (2 : Int32))).2.1 rfl ?_
  refine own_bipush (n := 17) (z := (31 : Int32)) X0 hx (hb hby d10_15) rfl rfl ?_
  refine own_iloadN (n := 18) X0 hx (hb hby d10_17) rfl rfl ?_
  refine own_imul (n := 19) X0 hx (hb hby d10_18) rfl rfl ?_
  refine own_aloadN (n := 20) X0 hx (hb hby d10_19) rfl rfl rfl ?_
  refine own_iload (n := 22) X0 hx (hb hby d10_20) rfl rfl ?_
  refine own_ld_iaload (n := 23) (v := (.int c1)) X0 hx hZ hE0 V0 ⟨by decide, by decide⟩ rfl (hb hby d10_22) rfl ?_
  refine own_iadd (n := 24) X0 hx (hb hby d10_23) rfl rfl ?_
  refine own_istoreN (n := 25) (l' := #[.val (.int (((31 : Int32) * ((31 : Int32) + c0)) + c1)), .val (.ref a), .val (.int (0 : Int32)), .val (.int (2 : Int32)), .val (.int (2 : Int32)), .val (.int (1 : Int32))]) X0 hx (hb hby d10_24) rfl rfl ?_
  refine own_iinc (n := 28) (z := (2 : Int32)) (l' := #[.val (.int (((31 : Int32) * ((31 : Int32) + c0)) + c1)), .val (.ref a), .val (.int (0 : Int32)), .val (.int (2 : Int32)), .val (.int (2 : Int32)), .val (.int (2 : Int32))]) X0 hx (hb hby d10_25) rfl rfl rfl rfl ?_
  refine own_goto (n := 8) X0 hx (hb hby d10_28) (by decide) (by decide) ?_
  refine own_iload (n := 10) X0 hx (hb hby d10_8) rfl rfl ?_
  refine own_iload (n := 12) X0 hx (hb hby d10_10) rfl rfl ?_
  refine own_icmpYes (n := 31) X0 hx (hb hby d10_12) (flt (by decide : ¬ ((2 : Int32) < (2 : Int32)))).2.1 (by decide) (by decide) ?_
  refine own_iloadN (n := 32) X0 hx (hb hby d10_31) rfl rfl ?_
  refine own_retI X0 hx hlk hret hE0 (hb hby d10_32) (by decide) (by decide) ?_
  exact ⟨_, rfl, N0, rfl⟩
theorem own_pd7 : parseMethodDescriptor "(I[III)I" = some ⟨[.int, (.array .int), .int, .int], some .int⟩ := by decide +kernel
theorem d9_126 : decode jdk_48_method_4_code 126 = .ok (.goto 31, 3) := by decide +kernel
theorem d9_157 : decode jdk_48_method_4_code 157 = .ok (.ireturn, 1) := by decide +kernel
theorem own_ef9_own_rmV2 (m : MethodId) (y0 : Addr) (y1 : Int32) (y2 : Int32) (y3 : Int32) (y4 : Int32) : entryFrame m #[(.ref y0), (.int y1), (.int y2), (.int y3), (.int y4)] 5 = mkF m 0 #[.val (.ref y0), .val (.int y1), .val (.int y2), .val (.int y3), .val (.int y4)] [] := by first | (simp [entryFrame, mkF, argsToLocals, Value.category]; done) | rfl
set_option maxRecDepth 65536 in
set_option maxHeartbeats 40000000 in
theorem own_rmV2 (l : Launch) (Z : State) (a0 : Array Value) (hw : ∀ d ∈ tables_1, d.before a0 Z = true) (a : Addr) (kk : ClassId) (c0 c1 : Int32) (h0 : Heap) (n0 : Nat) (Z0 : n0 ≤ h0.size) (V0 : Arv Z h0 a kk .int (2 : Int32) [(.int c0), (.int c1)] (.int (0 : Int32))) (E0 : Exa Z h0 a "[I") :
    own_Met l Z (⟨"jdk/internal/util/ArraysSupport", "vectorizedHashCode", "(Ljava/lang/Object;IIII)I"⟩ : MethodName) jdk_48_method_4_code 5 (some .int) [] ({ frames := 1, cells := 0, slots := 0, locals := 17 } : Room) #[(.ref a), (.int (0 : Int32)), (.int (2 : Int32)), (.int (1 : Int32)), (.int (10 : Int32))] h0 (fun v h L => ∃ z : Int32, v = some (.int z) ∧ Fr n0 L ∧ h = h0) := by
  refine own_met own_pn9 ?_
  intro p e s m below meth c s₁ hx hby hml hown hnm hret hlk hZ X0 hE0
  have N0 := Fr.nil n0
  refine own_cast (own_ef9_own_rmV2 m a (0 : Int32) (2 : Int32) (1 : Int32) (10 : Int32)) ?_
  refine own_iload (n := 2) X0 hx (hb hby d9_0) rfl rfl ?_
  refine own_go (T' := s₁) (f' := (mkF m 116 #[.val (.ref a), .val (.int (0 : Int32)), .val (.int (2 : Int32)), .val (.int (1 : Int32)), .val (.int (10 : Int32))] [])) (fun t k => X0.tableswitchIn hx (g := (mkF m 2 #[.val (.ref a), .val (.int (0 : Int32)), .val (.int (2 : Int32)), .val (.int (1 : Int32)), .val (.int (10 : Int32))] [(.int (10 : Int32))])) rfl (k := (10 : Int32)) (rest := []) rfl (hb hby d9_2) (by decide) (off := 114) (by decide) (by show (0 : Int) ≤ ((2 : Nat) : Int) + 114; decide) t k) ?_
  refine own_iloadN (n := 117) X0 hx (hb hby d9_116) rfl rfl ?_
  refine own_aloadN (n := 118) X0 hx (hb hby d9_117) rfl rfl rfl ?_
  refine own_ccast (n := 121) X0 hx hZ hown (ww48 hw) hE0 (Ins.self E0) (hb hby d9_118) rfl ?_
  intro T1 X1 e1
  refine own_iloadN (n := 122) X1 hx (hb hby d9_121) rfl rfl ?_
  refine own_iloadN (n := 123) X1 hx (hb hby d9_122) rfl rfl ?_
  refine own_S (n := 126) (argsL := [(.int (1 : Int32)), (.ref a), (.int (0 : Int32)), (.int (2 : Int32))]) (rest := []) X1 hx hZ hown (own_rmH2 l Z a0 hw a kk c0 c1 h0 n0 Z0 V0 ) (ww50 hw) (ww51 hw) (ww46 hw) (ww52 hw) (by decide) e1 (by rw [hml]; rfl) (lenOf own_pd7 rfl) rfl (hb hby d9_123) (Nat.le_of_ble_eq_true rfl) (Nat.le_of_ble_eq_true rfl) (Nat.le_of_ble_eq_true rfl) (Nat.le_of_ble_eq_true rfl) rfl ?_
  rintro v2 T2 L2 X2 ⟨z2, rfl, Nq2, eq2⟩
  have N2 := Fr.app N0 Nq2
  change own_G p e below _ _ (mkF m 126 _ [(.int z2)])
  refine own_goto (n := 157) X2 hx (hb hby d9_126) (by decide) (by decide) ?_
  refine own_retI X2 hx hlk hret eq2 (hb hby d9_157) (by decide) (by decide) ?_
  exact ⟨_, rfl, N2, rfl⟩
theorem own_pd8 : parseMethodDescriptor "(Ljava/lang/Object;IIII)I" = some ⟨[(.object "java/lang/Object"), .int, .int, .int, .int], some .int⟩ := by decide +kernel
theorem own_ef4_own_rmA2 (m : MethodId) (y0 : Addr) : entryFrame m #[(.ref y0)] 1 = mkF m 0 #[.val (.ref y0)] [] := by first | (simp [entryFrame, mkF, argsToLocals, Value.category]; done) | rfl
set_option maxRecDepth 65536 in
set_option maxHeartbeats 40000000 in
theorem own_rmA2 (l : Launch) (Z : State) (a0 : Array Value) (hw : ∀ d ∈ tables_1, d.before a0 Z = true) (a : Addr) (kk : ClassId) (c0 c1 : Int32) (h0 : Heap) (n0 : Nat) (Z0 : n0 ≤ h0.size) (V0 : Arv Z h0 a kk .int (2 : Int32) [(.int c0), (.int c1)] (.int (0 : Int32))) (E0 : Exa Z h0 a "[I") :
    own_Met l Z (⟨"java/util/Arrays", "hashCode", "([I)I"⟩ : MethodName) jdk_65_method_150_code 1 (some .int) [] ({ frames := 2, cells := 0, slots := 0, locals := 33 } : Room) #[(.ref a)] h0 (fun v h L => ∃ z : Int32, v = some (.int z) ∧ Fr n0 L ∧ h = h0) := by
  refine own_met own_pn4 ?_
  intro p e s m below meth c s₁ hx hby hml hown hnm hret hlk hZ X0 hE0
  have N0 := Fr.nil n0
  refine own_cast (own_ef4_own_rmA2 m a) ?_
  refine own_aloadN (n := 1) X0 hx (hb hby d4_0) rfl rfl rfl ?_
  refine own_ifnonnullYes (n := 6) X0 hx (hb hby d4_1) (by decide) (by decide) ?_
  refine own_aloadN (n := 7) X0 hx (hb hby d4_6) rfl rfl rfl ?_
  refine own_len (n := 8) X0 hx hZ hE0 V0 (hb hby d4_7) rfl ?_
  refine own_go (T' := s₁) (f' := (mkF m 49 #[.val (.ref a)] [])) (fun t k => X0.lookupswitchMiss hx (g := (mkF m 8 #[.val (.ref a)] [(.int (2 : Int32))])) rfl (k := (2 : Int32)) (rest := []) rfl (hb hby d4_8) (by decide) (by decide) (by show (0 : Int) ≤ ((8 : Nat) : Int) + 41; decide) t k) ?_
  refine own_aloadN (n := 50) X0 hx (hb hby d4_49) rfl rfl rfl ?_
  refine own_iconst (n := 51) (z := (0 : Int32)) X0 hx (hb hby d4_50) rfl rfl ?_
  refine own_aloadN (n := 52) X0 hx (hb hby d4_51) rfl rfl rfl ?_
  refine own_len (n := 53) X0 hx hZ hE0 V0 (hb hby d4_52) rfl ?_
  refine own_iconst (n := 54) (z := (1 : Int32)) X0 hx (hb hby d4_53) rfl rfl ?_
  refine own_bipush (n := 56) (z := (10 : Int32)) X0 hx (hb hby d4_54) rfl rfl ?_
  refine own_S (n := 59) (argsL := [(.ref a), (.int (0 : Int32)), (.int (2 : Int32)), (.int (1 : Int32)), (.int (10 : Int32))]) (rest := []) X0 hx hZ hown (own_rmV2 l Z a0 hw a kk c0 c1 h0 n0 Z0 V0 E0) (ww44 hw) (ww45 hw) (ww46 hw) (ww47 hw) (by decide) hE0 (by rw [hml]; rfl) (lenOf own_pd8 rfl) rfl (hb hby d4_56) (Nat.le_of_ble_eq_true rfl) (Nat.le_of_ble_eq_true rfl) (Nat.le_of_ble_eq_true rfl) (Nat.le_of_ble_eq_true rfl) rfl ?_
  rintro v1 T1 L1 X1 ⟨z1, rfl, Nq1, eq1⟩
  have N1 := Fr.app N0 Nq1
  change own_G p e below _ _ (mkF m 59 _ [(.int z1)])
  refine own_retI X1 hx hlk hret eq1 (hb hby d4_59) (by decide) (by decide) ?_
  exact ⟨_, rfl, N1, rfl⟩
theorem own_ef3_own_rmJ2 (m : MethodId) (y0 : Addr) : entryFrame m #[(.ref y0)] 8 = mkF m 0 #[.val (.ref y0), .unset, .unset, .unset, .unset, .unset, .unset, .unset] [] := by first | (simp [entryFrame, mkF, argsToLocals, Value.category]; done) | rfl
set_option maxRecDepth 65536 in
set_option maxHeartbeats 40000000 in
theorem own_rmJ2 (l : Launch) (Z : State) (a0 : Array Value) (hw : ∀ d ∈ tables_1, d.before a0 Z = true) (a : Addr) (kk : ClassId) (c0 c1 : Int64) (h0 : Heap) (n0 : Nat) (Z0 : n0 ≤ h0.size) (V0 : Arv Z h0 a kk .long (2 : Int32) [(.long c0), (.long c1)] (.long (0 : Int64))) :
    own_Met l Z (⟨"java/util/Arrays", "hashCode", "([J)I"⟩ : MethodName) jdk_65_method_149_code 8 (some .int) [] ({ frames := 0, cells := 0, slots := 0, locals := 0 } : Room) #[(.ref a)] h0 (fun v h L => ∃ z : Int32, v = some (.int z) ∧ Fr n0 L ∧ h = h0) := by
  refine own_met own_pn3 ?_
  intro p e s m below meth c s₁ hx hby hml hown hnm hret hlk hZ X0 hE0
  have N0 := Fr.nil n0
  refine own_cast (own_ef3_own_rmJ2 m a) ?_
  refine own_aloadN (n := 1) X0 hx (hb hby d3_0) rfl rfl rfl ?_
  refine own_ifnonnullYes (n := 6) X0 hx (hb hby d3_1) (by decide) (by decide) ?_
  refine own_iconst (n := 7) (z := (1 : Int32)) X0 hx (hb hby d3_6) rfl rfl ?_
  refine own_istoreN (n := 8) (l' := #[.val (.ref a), .val (.int (1 : Int32)), .unset, .unset, .unset, .unset, .unset, .unset]) X0 hx (hb hby d3_7) rfl rfl ?_
  refine own_aloadN (n := 9) X0 hx (hb hby d3_8) rfl rfl rfl ?_
  refine own_astoreN (n := 10) (l' := #[.val (.ref a), .val (.int (1 : Int32)), .val (.ref a), .unset, .unset, .unset, .unset, .unset]) X0 hx (hb hby d3_9) rfl rfl rfl ?_
  refine own_aloadN (n := 11) X0 hx (hb hby d3_10) rfl rfl rfl ?_
  refine own_len (n := 12) X0 hx hZ hE0 V0 (hb hby d3_11) rfl ?_
  refine own_istoreN (n := 13) (l' := #[.val (.ref a), .val (.int (1 : Int32)), .val (.ref a), .val (.int (2 : Int32)), .unset, .unset, .unset, .unset]) X0 hx (hb hby d3_12) rfl rfl ?_
  refine own_iconst (n := 14) (z := (0 : Int32)) X0 hx (hb hby d3_13) rfl rfl ?_
  refine own_istore (n := 16) (l' := #[.val (.ref a), .val (.int (1 : Int32)), .val (.ref a), .val (.int (2 : Int32)), .val (.int (0 : Int32)), .unset, .unset, .unset]) X0 hx (hb hby d3_14) rfl rfl ?_
  refine own_iload (n := 18) X0 hx (hb hby d3_16) rfl rfl ?_
  refine own_iloadN (n := 19) X0 hx (hb hby d3_18) rfl rfl ?_
  refine own_icmpNo (n := 22) X0 hx (hb hby d3_19) (tlt (by decide : (0 : Int32) < (2 : Int32))).2.1 rfl ?_
  refine own_aloadN (n := 23) X0 hx (hb hby d3_22) rfl rfl rfl ?_
  refine own_iload (n := 25) X0 hx (hb hby d3_23) rfl rfl ?_
  refine own_ld_laload (n := 26) (v := (.long c0)) X0 hx hZ hE0 V0 ⟨by decide, by decide⟩ rfl (hb hby d3_25) rfl ?_
  refine own_lstore (n := 28) (l' := #[.val (.ref a), .val (.int (1 : Int32)), .val (.ref a), .val (.int (2 : Int32)), .val (.int (0 : Int32)), .val (.long c0), .second, .unset]) X0 hx (hb hby d3_26) rfl rfl ?_
  refine own_lload (n := 30) X0 hx (hb hby d3_28) rfl rfl ?_
  refine own_lload (n := 32) X0 hx (hb hby d3_30) rfl rfl ?_
  refine own_bipush (n := 34) (z := (32 : Int32)) X0 hx (hb hby d3_32) rfl rfl ?_
  refine own_lushr (n := 35) X0 hx (hb hby d3_34) rfl rfl ?_
  refine own_lxor (n := 36) X0 hx (hb hby d3_35) rfl rfl ?_
  refine own_l2i (n := 37) X0 hx (hb hby d3_36) rfl rfl ?_
  refine own_istore (n := 39) (l' := #[.val (.ref a), .val (.int (1 : Int32)), .val (.ref a), .val (.int (2 : Int32)), .val (.int (0 : Int32)), .val (.long c0), .second, .val (.int ((c0 ^^^ ((c0).toUInt64 >>> ((32 : Int32) &&& 63).toInt64.toUInt64).toInt64)).toInt32)]) X0 hx (hb hby d3_37) rfl rfl ?_
  refine own_bipush (n := 41) (z := (31 : Int32)) X0 hx (hb hby d3_39) rfl rfl ?_
  refine own_iloadN (n := 42) X0 hx (hb hby d3_41) rfl rfl ?_
  refine own_imul (n := 43) (z := (31 : Int32)) X0 hx (hb hby d3_42) rfl rfl ?_
  refine own_iload (n := 45) X0 hx (hb hby d3_43) rfl rfl ?_
  refine own_iadd (n := 46) X0 hx (hb hby d3_45) rfl rfl ?_
  refine own_istoreN (n := 47) (l' := #[.val (.ref a), .val (.int ((31 : Int32) + ((c0 ^^^ ((c0).toUInt64 >>> ((32 : Int32) &&& 63).toInt64.toUInt64).toInt64)).toInt32)), .val (.ref a), .val (.int (2 : Int32)), .val (.int (0 : Int32)), .val (.long c0), .second, .val (.int ((c0 ^^^ ((c0).toUInt64 >>> ((32 : Int32) &&& 63).toInt64.toUInt64).toInt64)).toInt32)]) X0 hx (hb hby d3_46) rfl rfl ?_
  refine own_iinc (n := 50) (z := (1 : Int32)) (l' := #[.val (.ref a), .val (.int ((31 : Int32) + ((c0 ^^^ ((c0).toUInt64 >>> ((32 : Int32) &&& 63).toInt64.toUInt64).toInt64)).toInt32)), .val (.ref a), .val (.int (2 : Int32)), .val (.int (1 : Int32)), .val (.long c0), .second, .val (.int ((c0 ^^^ ((c0).toUInt64 >>> ((32 : Int32) &&& 63).toInt64.toUInt64).toInt64)).toInt32)]) X0 hx (hb hby d3_47) rfl rfl rfl rfl ?_
  refine own_goto (n := 16) X0 hx (hb hby d3_50) (by decide) (by decide) ?_
  refine own_iload (n := 18) X0 hx (hb hby d3_16) rfl rfl ?_
  refine own_iloadN (n := 19) X0 hx (hb hby d3_18) rfl rfl ?_
  refine own_icmpNo (n := 22) X0 hx (hb hby d3_19) (tlt (by decide : (1 : Int32) < (2 : Int32))).2.1 rfl ?_
  refine own_aloadN (n := 23) X0 hx (hb hby d3_22) rfl rfl rfl ?_
  refine own_iload (n := 25) X0 hx (hb hby d3_23) rfl rfl ?_
  refine own_ld_laload (n := 26) (v := (.long c1)) X0 hx hZ hE0 V0 ⟨by decide, by decide⟩ rfl (hb hby d3_25) rfl ?_
  refine own_lstore (n := 28) (l' := #[.val (.ref a), .val (.int ((31 : Int32) + ((c0 ^^^ ((c0).toUInt64 >>> ((32 : Int32) &&& 63).toInt64.toUInt64).toInt64)).toInt32)), .val (.ref a), .val (.int (2 : Int32)), .val (.int (1 : Int32)), .val (.long c1), .second, .val (.int ((c0 ^^^ ((c0).toUInt64 >>> ((32 : Int32) &&& 63).toInt64.toUInt64).toInt64)).toInt32)]) X0 hx (hb hby d3_26) rfl rfl ?_
  refine own_lload (n := 30) X0 hx (hb hby d3_28) rfl rfl ?_
  refine own_lload (n := 32) X0 hx (hb hby d3_30) rfl rfl ?_
  refine own_bipush (n := 34) (z := (32 : Int32)) X0 hx (hb hby d3_32) rfl rfl ?_
  refine own_lushr (n := 35) X0 hx (hb hby d3_34) rfl rfl ?_
  refine own_lxor (n := 36) X0 hx (hb hby d3_35) rfl rfl ?_
  refine own_l2i (n := 37) X0 hx (hb hby d3_36) rfl rfl ?_
  refine own_istore (n := 39) (l' := #[.val (.ref a), .val (.int ((31 : Int32) + ((c0 ^^^ ((c0).toUInt64 >>> ((32 : Int32) &&& 63).toInt64.toUInt64).toInt64)).toInt32)), .val (.ref a), .val (.int (2 : Int32)), .val (.int (1 : Int32)), .val (.long c1), .second, .val (.int ((c1 ^^^ ((c1).toUInt64 >>> ((32 : Int32) &&& 63).toInt64.toUInt64).toInt64)).toInt32)]) X0 hx (hb hby d3_37) rfl rfl ?_
  refine own_bipush (n := 41) (z := (31 : Int32)) X0 hx (hb hby d3_39) rfl rfl ?_
  refine own_iloadN (n := 42) X0 hx (hb hby d3_41) rfl rfl ?_
  refine own_imul (n := 43) X0 hx (hb hby d3_42) rfl rfl ?_
  refine own_iload (n := 45) X0 hx (hb hby d3_43) rfl rfl ?_
  refine own_iadd (n := 46) X0 hx (hb hby d3_45) rfl rfl ?_
  refine own_istoreN (n := 47) (l' := #[.val (.ref a), .val (.int (((31 : Int32) * ((31 : Int32) + ((c0 ^^^ ((c0).toUInt64 >>> ((32 : Int32) &&& 63).toInt64.toUInt64).toInt64)).toInt32)) + ((c1 ^^^ ((c1).toUInt64 >>> ((32 : Int32) &&& 63).toInt64.toUInt64).toInt64)).toInt32)), .val (.ref a), .val (.int (2 : Int32)), .val (.int (1 : Int32)), .val (.long c1), .second, .val (.int ((c1 ^^^ ((c1).toUInt64 >>> ((32 : Int32) &&& 63).toInt64.toUInt64).toInt64)).toInt32)]) X0 hx (hb hby d3_46) rfl rfl ?_
  refine own_iinc (n := 50) (z := (2 : Int32)) (l' := #[.val (.ref a), .val (.int (((31 : Int32) * ((31 : Int32) + ((c0 ^^^ ((c0).toUInt64 >>> ((32 : Int32) &&& 63).toInt64.toUInt64).toInt64)).toInt32)) + ((c1 ^^^ ((c1).toUInt64 >>> ((32 : Int32) &&& 63).toInt64.toUInt64).toInt64)).toInt32)), .val (.ref a), .val (.int (2 : Int32)), .val (.int (2 : Int32)), .val (.long c1), .second, .val (.int ((c1 ^^^ ((c1).toUInt64 >>> ((32 : Int32) &&& 63).toInt64.toUInt64).toInt64)).toInt32)]) X0 hx (hb hby d3_47) rfl rfl rfl rfl ?_
  refine own_goto (n := 16) X0 hx (hb hby d3_50) (by decide) (by decide) ?_
  refine own_iload (n := 18) X0 hx (hb hby d3_16) rfl rfl ?_
  refine own_iloadN (n := 19) X0 hx (hb hby d3_18) rfl rfl ?_
  refine own_icmpYes (n := 53) X0 hx (hb hby d3_19) (flt (by decide : ¬ ((2 : Int32) < (2 : Int32)))).2.1 (by decide) (by decide) ?_
  refine own_iloadN (n := 54) X0 hx (hb hby d3_53) rfl rfl ?_
  refine own_retI X0 hx hlk hret hE0 (hb hby d3_54) (by decide) (by decide) ?_
  exact ⟨_, rfl, N0, rfl⟩
theorem own_ef1_own_rmI_0_2 (m : MethodId) (y0 : Addr) (y1 : Addr) (y2 : Addr) (y3 : Addr) : entryFrame m #[(.ref y0), (.ref y1), (.ref y2), (.ref y3)] 4 = mkF m 0 #[.val (.ref y0), .val (.ref y1), .val (.ref y2), .val (.ref y3)] [] := by first | (simp [entryFrame, mkF, argsToLocals, Value.category]; done) | rfl
set_option maxRecDepth 65536 in
set_option maxHeartbeats 40000000 in
theorem own_rmI_0_2 (l : Launch) (Z : State) (a0 : Array Value) (hw : ∀ d ∈ tables_1, d.before a0 Z = true) (a b d f : Addr) (k1 k2 k3 : ClassId)  (d0 d1 : Int32) (ee0 ee1 : Int64) (h0 : Heap) (n0 : Nat) (Z0 : n0 ≤ h0.size) (E1 : Exa Z h0 a "com/example/eunomia/eunomia/engine/IdSet") (F1 : Fld Z h0 a "com/example/eunomia/eunomia/engine/IdSet" "low" "[J" .null) (F2 : Fld Z h0 a "com/example/eunomia/eunomia/engine/IdSet" "places" "[I" .null) (F3 : Fld Z h0 a "com/example/eunomia/eunomia/engine/IdSet" "words" "[J" .null) (F4 : Fld Z h0 a "com/example/eunomia/eunomia/engine/IdSet" "hash" "I" (.int (0 : Int32))) (V1 : Arv Z h0 b k1 .long (0 : Int32) [] (.long (0 : Int64))) (V2 : Arv Z h0 d k2 .int (2 : Int32) [(.int d0), (.int d1)] (.int (0 : Int32))) (V3 : Arv Z h0 f k3 .long (2 : Int32) [(.long ee0), (.long ee1)] (.long (0 : Int64))) (E2 : Exa Z h0 d "[I") (g_a : n0 ≤ a) :
    own_Met l Z (⟨"com/example/eunomia/eunomia/engine/IdSet", "<init>", "([J[I[J)V"⟩ : MethodName) prog_30_method_1_code 4 none [] ({ frames := 3, cells := 0, slots := 0, locals := 48 } : Room) #[(.ref a), (.ref b), (.ref d), (.ref f)] h0 (fun v h L => v = none ∧ Fr n0 L ∧ Keep h0 h [a] ∧ Exa Z h a "com/example/eunomia/eunomia/engine/IdSet" ∧ Fld Z h a "com/example/eunomia/eunomia/engine/IdSet" "low" "[J" (.ref b) ∧ Fld Z h a "com/example/eunomia/eunomia/engine/IdSet" "places" "[I" (.ref d) ∧ Fld Z h a "com/example/eunomia/eunomia/engine/IdSet" "words" "[J" (.ref f)) := by
  refine own_met own_pn1 ?_
  intro p e s m below meth c s₁ hx hby hml hown hnm hret hlk hZ X0 hE0
  have N0 := Fr.nil n0
  refine own_cast (own_ef1_own_rmI_0_2 m a b d f) ?_
  refine own_aloadN (n := 1) X0 hx (hb hby d1_0) rfl rfl rfl ?_
  refine own_initO (n := 4) X0 hx hZ hown (ww10 hw) (ww11 hw) (ww12 hw) hE0 (by rw [hml]; rfl) (hb hby d1_1) (Nat.le_of_ble_eq_true rfl) (Nat.le_of_ble_eq_true rfl) rfl ?_
  intro T1 X1 e1
  refine own_aloadN (n := 5) X1 hx (hb hby d1_4) rfl rfl rfl ?_
  refine own_aloadN (n := 6) X1 hx (hb hby d1_5) rfl rfl rfl ?_
  refine own_putF (n := 9) X1 hx hZ hown (host := "") (Or.inl (ww13 hw)) Via.refl e1 F1 E1 (Or.inr ⟨(ww14 hw), rfl, hnm⟩) (ww5 hw) (ty := (.array .long)) (by decide) rfl rfl (hb hby d1_6) rfl ?_
  intro T2 h2 X2 e2 W2
  have F_3 := F1.same W2
  have N2 := Fr.snoc X2 N0 g_a
  have E_4 := E1.wr W2
  have F_5 := F2.other W2 (Or.inr (slot_ne (Or.inr (ww16 hw)) (Or.inr (ww14 hw)) (by decide) (t := (.array .int)) (t' := (.array .long)) (by decide) (by decide)))
  have F_6 := F3.other W2 (Or.inr (slot_ne (Or.inr (ww18 hw)) (Or.inr (ww14 hw)) (by decide) (t := (.array .long)) (t' := (.array .long)) (by decide) (by decide)))
  have F_7 := F4.other W2 (Or.inr (slot_ne (Or.inr (ww27 hw)) (Or.inr (ww14 hw)) (by decide) (t := .int) (t' := (.array .long)) (by decide) (by decide)))
  have A_8 := V1.other W2 (Ne.symm (own_neEA E1 (ww5 hw) V1))
  have A_9 := V2.other W2 (Ne.symm (own_neEA E1 (ww5 hw) V2))
  have A_10 := V3.other W2 (Ne.symm (own_neEA E1 (ww5 hw) V3))
  have E_11 := E2.wr W2
  have K_12 := (Keep.refl h0 [a]).wr W2 (Or.inl (by simp))
  have Z_13 : n0 ≤ h2.size := by rw [W2.size]; exact Z0
  refine own_aloadN (n := 10) X2 hx (hb hby d1_9) rfl rfl rfl ?_
  refine own_aloadN (n := 11) X2 hx (hb hby d1_10) rfl rfl rfl ?_
  refine own_putF (n := 14) X2 hx hZ hown (host := "") (Or.inl (ww15 hw)) Via.refl e2 F_5 E_4 (Or.inr ⟨(ww16 hw), rfl, hnm⟩) (ww5 hw) (ty := (.array .int)) (by decide) rfl rfl (hb hby d1_11) rfl ?_
  intro T14 h14 X14 e14 W14
  have F_15 := F_5.same W14
  have N14 := Fr.snoc X14 N2 g_a
  have E_16 := E_4.wr W14
  have F_17 := F_6.other W14 (Or.inr (slot_ne (Or.inr (ww18 hw)) (Or.inr (ww16 hw)) (by decide) (t := (.array .long)) (t' := (.array .int)) (by decide) (by decide)))
  have F_18 := F_7.other W14 (Or.inr (slot_ne (Or.inr (ww27 hw)) (Or.inr (ww16 hw)) (by decide) (t := .int) (t' := (.array .int)) (by decide) (by decide)))
  have A_19 := A_8.other W14 (Ne.symm (own_neEA E_4 (ww5 hw) A_8))
  have A_20 := A_9.other W14 (Ne.symm (own_neEA E_4 (ww5 hw) A_9))
  have A_21 := A_10.other W14 (Ne.symm (own_neEA E_4 (ww5 hw) A_10))
  have E_22 := E_11.wr W14
  have K_23 := K_12.wr W14 (Or.inl (by simp))
  have F_24 := F_3.other W14 (Or.inr (slot_ne (Or.inr (ww14 hw)) (Or.inr (ww16 hw)) (by decide) (t := (.array .long)) (t' := (.array .int)) (by decide) (by decide)))
  have Z_25 : n0 ≤ h14.size := by rw [W14.size]; exact Z_13
  refine own_aloadN (n := 15) X14 hx (hb hby d1_14) rfl rfl rfl ?_
  refine own_aloadN (n := 16) X14 hx (hb hby d1_15) rfl rfl rfl ?_
  refine own_putF (n := 19) X14 hx hZ hown (host := "") (Or.inl (ww17 hw)) Via.refl e14 F_17 E_16 (Or.inr ⟨(ww18 hw), rfl, hnm⟩) (ww5 hw) (ty := (.array .long)) (by decide) rfl rfl (hb hby d1_16) rfl ?_
  intro T26 h26 X26 e26 W26
  have F_27 := F_17.same W26
  have N26 := Fr.snoc X26 N14 g_a
  have E_28 := E_16.wr W26
  have F_29 := F_18.other W26 (Or.inr (slot_ne (Or.inr (ww27 hw)) (Or.inr (ww18 hw)) (by decide) (t := .int) (t' := (.array .long)) (by decide) (by decide)))
  have A_30 := A_19.other W26 (Ne.symm (own_neEA E_16 (ww5 hw) A_19))
  have A_31 := A_20.other W26 (Ne.symm (own_neEA E_16 (ww5 hw) A_20))
  have A_32 := A_21.other W26 (Ne.symm (own_neEA E_16 (ww5 hw) A_21))
  have E_33 := E_22.wr W26
  have K_34 := K_23.wr W26 (Or.inl (by simp))
  have F_35 := F_24.other W26 (Or.inr (slot_ne (Or.inr (ww14 hw)) (Or.inr (ww18 hw)) (by decide) (t := (.array .long)) (t' := (.array .long)) (by decide) (by decide)))
  have F_36 := F_15.other W26 (Or.inr (slot_ne (Or.inr (ww16 hw)) (Or.inr (ww18 hw)) (by decide) (t := (.array .int)) (t' := (.array .long)) (by decide) (by decide)))
  have Z_37 : n0 ≤ h26.size := by rw [W26.size]; exact Z_25
  refine own_aloadN (n := 20) X26 hx (hb hby d1_19) rfl rfl rfl ?_
  refine own_bipush (n := 22) (z := (31 : Int32)) X26 hx (hb hby d1_20) rfl rfl ?_
  refine own_bipush (n := 24) (z := (31 : Int32)) X26 hx (hb hby d1_22) rfl rfl ?_
  refine own_aloadN (n := 25) X26 hx (hb hby d1_24) rfl rfl rfl ?_
  refine own_S (n := 28) (argsL := [(.ref b)]) (rest := [(.int (31 : Int32)), (.int (31 : Int32)), (.ref a)]) X26 hx hZ hown (own_rmJ0 l Z a0 hw b k1  h26 n0 Z_37 A_30 ) (ww19 hw) (ww20 hw) (ww21 hw) (ww22 hw) (by decide) e26 (by rw [hml]; rfl) (lenOf own_pd0 rfl) rfl (hb hby d1_25) (Nat.le_of_ble_eq_true rfl) (Nat.le_of_ble_eq_true rfl) (Nat.le_of_ble_eq_true rfl) (Nat.le_of_ble_eq_true rfl) rfl ?_
  rintro v38 T38 L38 X38 ⟨z38, rfl, Nq38, eq38⟩
  have N38 := Fr.app N26 Nq38
  change own_G p e below _ _ (mkF m 28 _ [(.int z38), (.int (31 : Int32)), (.int (31 : Int32)), (.ref a)])
  refine own_imul (n := 29) X38 hx (hb hby d1_28) rfl rfl ?_
  refine own_aloadN (n := 30) X38 hx (hb hby d1_29) rfl rfl rfl ?_
  refine own_S (n := 33) (argsL := [(.ref d)]) (rest := [(.int ((31 : Int32) * z38)), (.int (31 : Int32)), (.ref a)]) X38 hx hZ hown (own_rmA2 l Z a0 hw d k2 d0 d1 h26 n0 Z_37 A_31 E_33) (ww23 hw) (ww24 hw) (ww21 hw) (ww25 hw) (by decide) eq38 (by rw [hml]; rfl) (lenOf own_pd1 rfl) rfl (hb hby d1_30) (Nat.le_of_ble_eq_true rfl) (Nat.le_of_ble_eq_true rfl) (Nat.le_of_ble_eq_true rfl) (Nat.le_of_ble_eq_true rfl) rfl ?_
  rintro v39 T39 L39 X39 ⟨z39, rfl, Nq39, eq39⟩
  have N39 := Fr.app N38 Nq39
  change own_G p e below _ _ (mkF m 33 _ [(.int z39), (.int ((31 : Int32) * z38)), (.int (31 : Int32)), (.ref a)])
  refine own_iadd (n := 34) X39 hx (hb hby d1_33) rfl rfl ?_
  refine own_imul (n := 35) X39 hx (hb hby d1_34) rfl rfl ?_
  refine own_aloadN (n := 36) X39 hx (hb hby d1_35) rfl rfl rfl ?_
  refine own_S (n := 39) (argsL := [(.ref f)]) (rest := [(.int ((31 : Int32) * (((31 : Int32) * z38) + z39))), (.ref a)]) X39 hx hZ hown (own_rmJ2 l Z a0 hw f k3 ee0 ee1 h26 n0 Z_37 A_32 ) (ww19 hw) (ww20 hw) (ww21 hw) (ww22 hw) (by decide) eq39 (by rw [hml]; rfl) (lenOf own_pd0 rfl) rfl (hb hby d1_36) (Nat.le_of_ble_eq_true rfl) (Nat.le_of_ble_eq_true rfl) (Nat.le_of_ble_eq_true rfl) (Nat.le_of_ble_eq_true rfl) rfl ?_
  rintro v40 T40 L40 X40 ⟨z40, rfl, Nq40, eq40⟩
  have N40 := Fr.app N39 Nq40
  change own_G p e below _ _ (mkF m 39 _ [(.int z40), (.int ((31 : Int32) * (((31 : Int32) * z38) + z39))), (.ref a)])
  refine own_iadd (n := 40) X40 hx (hb hby d1_39) rfl rfl ?_
  refine own_putF (n := 43) X40 hx hZ hown (host := "") (Or.inl (ww26 hw)) Via.refl eq40 F_29 E_28 (Or.inr ⟨(ww27 hw), rfl, hnm⟩) (ww5 hw) (ty := .int) (by decide) rfl rfl (hb hby d1_40) rfl ?_
  intro T41 h41 X41 e41 W41
  have F_42 := F_29.same W41
  have N41 := Fr.snoc X41 N40 g_a
  have E_43 := E_28.wr W41
  have A_44 := A_30.other W41 (Ne.symm (own_neEA E_28 (ww5 hw) A_30))
  have A_45 := A_31.other W41 (Ne.symm (own_neEA E_28 (ww5 hw) A_31))
  have A_46 := A_32.other W41 (Ne.symm (own_neEA E_28 (ww5 hw) A_32))
  have E_47 := E_33.wr W41
  have K_48 := K_34.wr W41 (Or.inl (by simp))
  have F_49 := F_35.other W41 (Or.inr (slot_ne (Or.inr (ww14 hw)) (Or.inr (ww27 hw)) (by decide) (t := (.array .long)) (t' := .int) (by decide) (by decide)))
  have F_50 := F_36.other W41 (Or.inr (slot_ne (Or.inr (ww16 hw)) (Or.inr (ww27 hw)) (by decide) (t := (.array .int)) (t' := .int) (by decide) (by decide)))
  have F_51 := F_27.other W41 (Or.inr (slot_ne (Or.inr (ww18 hw)) (Or.inr (ww27 hw)) (by decide) (t := (.array .long)) (t' := .int) (by decide) (by decide)))
  have Z_52 : n0 ≤ h41.size := by rw [W41.size]; exact Z_37
  refine own_retV X41 hx hlk hret e41 (hb hby d1_43) (by decide) (by decide) ?_
  exact ⟨rfl, N41, K_48, E_43, F_49, F_50, F_51⟩
theorem own_ef5_own_rmE_0_2 (m : MethodId) (y0 : Addr) : entryFrame m #[(.ref y0)] 1 = mkF m 0 #[.val (.ref y0)] [] := by first | (simp [entryFrame, mkF, argsToLocals, Value.category]; done) | rfl
set_option maxRecDepth 65536 in
set_option maxHeartbeats 40000000 in
theorem own_rmE_0_2 (l : Launch) (Z : State) (a0 : Array Value) (hw : ∀ d ∈ tables_1, d.before a0 Z = true) (a b d f : Addr) (k1 k2 k3 : ClassId)  (d0 d1 : Int32) (ee0 ee1 : Int64) (h0 : Heap) (n0 : Nat) (Z0 : n0 ≤ h0.size) (F1 : Fld Z h0 a "com/example/eunomia/eunomia/engine/IdSet" "low" "[J" (.ref b)) (F2 : Fld Z h0 a "com/example/eunomia/eunomia/engine/IdSet" "places" "[I" (.ref d)) (F3 : Fld Z h0 a "com/example/eunomia/eunomia/engine/IdSet" "words" "[J" (.ref f)) (V1 : Arv Z h0 b k1 .long (0 : Int32) [] (.long (0 : Int64))) (V2 : Arv Z h0 d k2 .int (2 : Int32) [(.int d0), (.int d1)] (.int (0 : Int32))) (V3 : Arv Z h0 f k3 .long (2 : Int32) [(.long ee0), (.long ee1)] (.long (0 : Int64))) :
    own_Met l Z (⟨"com/example/eunomia/eunomia/engine/IdSet", "isEmpty", "()Z"⟩ : MethodName) prog_30_method_4_code 1 (some .boolean) [] ({ frames := 0, cells := 0, slots := 0, locals := 0 } : Room) #[(.ref a)] h0 (fun v h L => v = some (.int (0 : Int32)) ∧ Fr n0 L ∧ h = h0) := by
  refine own_met own_pn5 ?_
  intro p e s m below meth c s₁ hx hby hml hown hnm hret hlk hZ X0 hE0
  have N0 := Fr.nil n0
  refine own_cast (own_ef5_own_rmE_0_2 m a) ?_
  refine own_aloadN (n := 1) X0 hx (hb hby d5_0) rfl rfl rfl ?_
  refine own_getF (n := 4) X0 hx hZ hown (host := "") (Or.inl (ww13 hw)) Via.refl hE0 F1 (hb hby d5_1) rfl ?_
  intro T1 X1 e1
  refine own_len (n := 5) X1 hx hZ e1 V1 (hb hby d5_4) rfl ?_
  refine own_ifNo (n := 8) X1 hx (hb hby d5_5) (teq (by decide : (0 : Int32) = (0 : Int32))).2 rfl ?_
  refine own_aloadN (n := 9) X1 hx (hb hby d5_8) rfl rfl rfl ?_
  refine own_getF (n := 12) X1 hx hZ hown (host := "") (Or.inl (ww15 hw)) Via.refl e1 F2 (hb hby d5_9) rfl ?_
  intro T2 X2 e2
  refine own_len (n := 13) X2 hx hZ e2 V2 (hb hby d5_12) rfl ?_
  refine own_ifYes (n := 20) X2 hx (hb hby d5_13) (feq (by decide : ¬ ((2 : Int32) = (0 : Int32)))).2 (by decide) (by decide) ?_
  refine own_iconst (n := 21) (z := (0 : Int32)) X2 hx (hb hby d5_20) rfl rfl ?_
  refine own_retZ X2 hx hlk hret (by simp) e2 (w := (0 : Int32)) rfl (hb hby d5_21) (by decide) (by decide) ?_
  exact ⟨rfl, N0, rfl⟩
theorem own_ef8_own_rm_binarySearch02 (m : MethodId) (y0 : Addr) (y1 : Int32) (y2 : Int32) (y3 : Int32) : entryFrame m #[(.ref y0), (.int y1), (.int y2), (.int y3)] 8 = mkF m 0 #[.val (.ref y0), .val (.int y1), .val (.int y2), .val (.int y3), .unset, .unset, .unset, .unset] [] := by first | (simp [entryFrame, mkF, argsToLocals, Value.category]; done) | rfl
set_option maxRecDepth 65536 in
set_option maxHeartbeats 40000000 in
theorem own_rm_binarySearch02 (l : Launch) (Z : State) (a0 : Array Value) (hw : ∀ d ∈ tables_1, d.before a0 Z = true) (a : Addr) (k2 : ClassId) (d0 d1 : Int32)  (h0 : Heap) (n0 : Nat) (Z0 : n0 ≤ h0.size) (V0 : Arv Z h0 a k2 .int (2 : Int32) [(.int d0), (.int d1)] (.int (0 : Int32))) :
    own_Met l Z (⟨"java/util/Arrays", "binarySearch0", "([IIII)I"⟩ : MethodName) jdk_65_method_59_code 8 (some .int) [] ({ frames := 0, cells := 0, slots := 0, locals := 0 } : Room) #[(.ref a), (.int (0 : Int32)), (.int (2 : Int32)), (.int d0)] h0 (fun v h L => v = some (.int (0 : Int32)) ∧ Fr n0 L ∧ h = h0) := by
  refine own_met own_pn8 ?_
  intro p e s m below meth c s₁ hx hby hml hown hnm hret hlk hZ X0 hE0
  have N0 := Fr.nil n0
  refine own_cast (own_ef8_own_rm_binarySearch02 m a (0 : Int32) (2 : Int32) d0) ?_
  refine own_iloadN (n := 1) X0 hx (hb hby d8_0) rfl rfl ?_
  refine own_istore (n := 3) (l' := #[.val (.ref a), .val (.int (0 : Int32)), .val (.int (2 : Int32)), .val (.int d0), .val (.int (0 : Int32)), .unset, .unset, .unset]) X0 hx (hb hby d8_1) rfl rfl ?_
  refine own_iloadN (n := 4) X0 hx (hb hby d8_3) rfl rfl ?_
  refine own_iconst (n := 5) (z := (1 : Int32)) X0 hx (hb hby d8_4) rfl rfl ?_
  refine own_isub (n := 6) (z := (1 : Int32)) X0 hx (hb hby d8_5) rfl rfl ?_
  refine own_istore (n := 8) (l' := #[.val (.ref a), .val (.int (0 : Int32)), .val (.int (2 : Int32)), .val (.int d0), .val (.int (0 : Int32)), .val (.int (1 : Int32)), .unset, .unset]) X0 hx (hb hby d8_6) rfl rfl ?_
  refine own_iload (n := 10) X0 hx (hb hby d8_8) rfl rfl ?_
  refine own_iload (n := 12) X0 hx (hb hby d8_10) rfl rfl ?_
  refine own_icmpNo (n := 15) X0 hx (hb hby d8_12) (flt (by decide : ¬ ((1 : Int32) < (0 : Int32)))).2.2.1 rfl ?_
  refine own_iload (n := 17) X0 hx (hb hby d8_15) rfl rfl ?_
  refine own_iload (n := 19) X0 hx (hb hby d8_17) rfl rfl ?_
  refine own_iadd (n := 20) (z := (1 : Int32)) X0 hx (hb hby d8_19) rfl rfl ?_
  refine own_iconst (n := 21) (z := (1 : Int32)) X0 hx (hb hby d8_20) rfl rfl ?_
  refine own_iushr (n := 22) (z := (0 : Int32)) X0 hx (hb hby d8_21) rfl rfl ?_
  refine own_istore (n := 24) (l' := #[.val (.ref a), .val (.int (0 : Int32)), .val (.int (2 : Int32)), .val (.int d0), .val (.int (0 : Int32)), .val (.int (1 : Int32)), .val (.int (0 : Int32)), .unset]) X0 hx (hb hby d8_22) rfl rfl ?_
  refine own_aloadN (n := 25) X0 hx (hb hby d8_24) rfl rfl rfl ?_
  refine own_iload (n := 27) X0 hx (hb hby d8_25) rfl rfl ?_
  refine own_ld_iaload (n := 28) (v := (.int d0)) X0 hx hZ hE0 V0 ⟨by decide, by decide⟩ rfl (hb hby d8_27) rfl ?_
  refine own_istore (n := 30) (l' := #[.val (.ref a), .val (.int (0 : Int32)), .val (.int (2 : Int32)), .val (.int d0), .val (.int (0 : Int32)), .val (.int (1 : Int32)), .val (.int (0 : Int32)), .val (.int d0)]) X0 hx (hb hby d8_28) rfl rfl ?_
  refine own_iload (n := 32) X0 hx (hb hby d8_30) rfl rfl ?_
  refine own_iloadN (n := 33) X0 hx (hb hby d8_32) rfl rfl ?_
  refine own_icmpYes (n := 45) X0 hx (hb hby d8_33) (flt (own_irr _)).2.1 (by decide) (by decide) ?_
  refine own_iload (n := 47) X0 hx (hb hby d8_45) rfl rfl ?_
  refine own_iloadN (n := 48) X0 hx (hb hby d8_47) rfl rfl ?_
  refine own_icmpYes (n := 60) X0 hx (hb hby d8_48) (flt (own_irr _)).2.2.2 (by decide) (by decide) ?_
  refine own_iload (n := 62) X0 hx (hb hby d8_60) rfl rfl ?_
  refine own_retI X0 hx hlk hret hE0 (hb hby d8_62) (by decide) (by decide) ?_
  exact ⟨rfl, N0, rfl⟩
theorem own_ef7_own_rm_binarySearch2 (m : MethodId) (y0 : Addr) (y1 : Int32) : entryFrame m #[(.ref y0), (.int y1)] 2 = mkF m 0 #[.val (.ref y0), .val (.int y1)] [] := by first | (simp [entryFrame, mkF, argsToLocals, Value.category]; done) | rfl
set_option maxRecDepth 65536 in
set_option maxHeartbeats 40000000 in
theorem own_rm_binarySearch2 (l : Launch) (Z : State) (a0 : Array Value) (hw : ∀ d ∈ tables_1, d.before a0 Z = true) (a : Addr) (k2 : ClassId) (d0 d1 : Int32)  (h0 : Heap) (n0 : Nat) (Z0 : n0 ≤ h0.size) (V0 : Arv Z h0 a k2 .int (2 : Int32) [(.int d0), (.int d1)] (.int (0 : Int32))) :
    own_Met l Z (⟨"java/util/Arrays", "binarySearch", "([II)I"⟩ : MethodName) jdk_65_method_57_code 2 (some .int) [] ({ frames := 1, cells := 0, slots := 0, locals := 19 } : Room) #[(.ref a), (.int d0)] h0 (fun v h L => v = some (.int (0 : Int32)) ∧ Fr n0 L ∧ h = h0) := by
  refine own_met own_pn7 ?_
  intro p e s m below meth c s₁ hx hby hml hown hnm hret hlk hZ X0 hE0
  have N0 := Fr.nil n0
  refine own_cast (own_ef7_own_rm_binarySearch2 m a d0) ?_
  refine own_aloadN (n := 1) X0 hx (hb hby d7_0) rfl rfl rfl ?_
  refine own_iconst (n := 2) (z := (0 : Int32)) X0 hx (hb hby d7_1) rfl rfl ?_
  refine own_aloadN (n := 3) X0 hx (hb hby d7_2) rfl rfl rfl ?_
  refine own_len (n := 4) X0 hx hZ hE0 V0 (hb hby d7_3) rfl ?_
  refine own_iloadN (n := 5) X0 hx (hb hby d7_4) rfl rfl ?_
  refine own_S (n := 8) (argsL := [(.ref a), (.int (0 : Int32)), (.int (2 : Int32)), (.int d0)]) (rest := []) X0 hx hZ hown (own_rm_binarySearch02 l Z a0 hw a k2 d0 d1  h0 n0 Z0 V0) (ww41 hw) (ww42 hw) (ww21 hw) (ww43 hw) (by decide) hE0 (by rw [hml]; rfl) (lenOf own_pd4 rfl) rfl (hb hby d7_5) (Nat.le_of_ble_eq_true rfl) (Nat.le_of_ble_eq_true rfl) (Nat.le_of_ble_eq_true rfl) (Nat.le_of_ble_eq_true rfl) rfl ?_
  rintro v1 T1 L1 X1 ⟨rfl, Nq1, eq1⟩
  have N1 := Fr.app N0 Nq1
  change own_G p e below _ _ (mkF m 8 _ [(.int (0 : Int32))])
  refine own_retI X1 hx hlk hret eq1 (hb hby d7_8) (by decide) (by decide) ?_
  exact ⟨rfl, N1, rfl⟩
theorem own_ef6_own_rmC_0_2 (m : MethodId) (y0 : Addr) (y1 : Int32) : entryFrame m #[(.ref y0), (.int y1)] 5 = mkF m 0 #[.val (.ref y0), .val (.int y1), .unset, .unset, .unset] [] := by first | (simp [entryFrame, mkF, argsToLocals, Value.category]; done) | rfl
set_option maxRecDepth 65536 in
set_option maxHeartbeats 40000000 in
theorem own_rmC_0_2 (l : Launch) (Z : State) (a0 : Array Value) (hw : ∀ d ∈ tables_1, d.before a0 Z = true) (a b d f : Addr) (k1 k2 k3 : ClassId)  (d0 d1 : Int32) (ee0 ee1 : Int64) (p1 : Int32) (h0 : Heap) (n0 : Nat) (Z0 : n0 ≤ h0.size) (F1 : Fld Z h0 a "com/example/eunomia/eunomia/engine/IdSet" "low" "[J" (.ref b)) (F2 : Fld Z h0 a "com/example/eunomia/eunomia/engine/IdSet" "places" "[I" (.ref d)) (F3 : Fld Z h0 a "com/example/eunomia/eunomia/engine/IdSet" "words" "[J" (.ref f)) (V1 : Arv Z h0 b k1 .long (0 : Int32) [] (.long (0 : Int64))) (V2 : Arv Z h0 d k2 .int (2 : Int32) [(.int d0), (.int d1)] (.int (0 : Int32))) (V3 : Arv Z h0 f k3 .long (2 : Int32) [(.long ee0), (.long ee1)] (.long (0 : Int64))) (hs : ((p1).toUInt32 >>> ((6 : Int32) &&& 31).toUInt32).toInt32 = d0) (hlo : ¬ d0 < (64 : Int32)) (hbit : ¬ (ee0 &&& ((1 : Int64) <<< (p1 &&& 63).toInt64)) = (0 : Int64)) :
    own_Met l Z (⟨"com/example/eunomia/eunomia/engine/IdSet", "contains", "(I)Z"⟩ : MethodName) prog_30_method_3_code 5 (some .boolean) [] ({ frames := 2, cells := 0, slots := 0, locals := 32 } : Room) #[(.ref a), (.int p1)] h0 (fun v h L => v = some (.int (1 : Int32)) ∧ Fr n0 L ∧ h = h0) := by
  refine own_met own_pn6 ?_
  intro p e s m below meth c s₁ hx hby hml hown hnm hret hlk hZ X0 hE0
  have N0 := Fr.nil n0
  refine own_cast (own_ef6_own_rmC_0_2 m a p1) ?_
  refine own_iloadN (n := 1) X0 hx (hb hby d6_0) rfl rfl ?_
  refine own_bipush (n := 3) (z := (6 : Int32)) X0 hx (hb hby d6_1) rfl rfl ?_
  refine own_iushr (n := 4) X0 hx (hb hby d6_3) rfl rfl ?_
  refine own_istoreN (n := 5) (l' := #[.val (.ref a), .val (.int p1), .val (.int ((p1).toUInt32 >>> ((6 : Int32) &&& 31).toUInt32).toInt32), .unset, .unset]) X0 hx (hb hby d6_4) rfl rfl ?_
  rw [hs]
  refine own_iloadN (n := 6) X0 hx (hb hby d6_5) rfl rfl ?_
  refine own_bipush (n := 8) (z := (64 : Int32)) X0 hx (hb hby d6_6) rfl rfl ?_
  refine own_icmpYes (n := 44) X0 hx (hb hby d6_8) (flt hlo).2.1 (by decide) (by decide) ?_
  refine own_aloadN (n := 45) X0 hx (hb hby d6_44) rfl rfl rfl ?_
  refine own_getF (n := 48) X0 hx hZ hown (host := "") (Or.inl (ww15 hw)) Via.refl hE0 F2 (hb hby d6_45) rfl ?_
  intro T1 X1 e1
  refine own_iloadN (n := 49) X1 hx (hb hby d6_48) rfl rfl ?_
  refine own_S (n := 52) (argsL := [(.ref d), (.int d0)]) (rest := []) X1 hx hZ hown (own_rm_binarySearch2 l Z a0 hw d k2 d0 d1  h0 n0 Z0 V2) (ww38 hw) (ww39 hw) (ww21 hw) (ww40 hw) (by decide) e1 (by rw [hml]; rfl) (lenOf own_pd5 rfl) rfl (hb hby d6_49) (Nat.le_of_ble_eq_true rfl) (Nat.le_of_ble_eq_true rfl) (Nat.le_of_ble_eq_true rfl) (Nat.le_of_ble_eq_true rfl) rfl ?_
  rintro v2 T2 L2 X2 ⟨rfl, Nq2, eq2⟩
  have N2 := Fr.app N0 Nq2
  change own_G p e below _ _ (mkF m 52 _ [(.int (0 : Int32))])
  refine own_istore (n := 54) (l' := #[.val (.ref a), .val (.int p1), .val (.int d0), .unset, .val (.int (0 : Int32))]) X2 hx (hb hby d6_52) rfl rfl ?_
  refine own_iload (n := 56) X2 hx (hb hby d6_54) rfl rfl ?_
  refine own_ifNo (n := 59) X2 hx (hb hby d6_56) (flt (by decide : ¬ ((0 : Int32) < (0 : Int32)))).1 rfl ?_
  refine own_aloadN (n := 60) X2 hx (hb hby d6_59) rfl rfl rfl ?_
  refine own_getF (n := 63) X2 hx hZ hown (host := "") (Or.inl (ww17 hw)) Via.refl eq2 F3 (hb hby d6_60) rfl ?_
  intro T3 X3 e3
  refine own_iload (n := 65) X3 hx (hb hby d6_63) rfl rfl ?_
  refine own_ld_laload (n := 66) (v := (.long ee0)) X3 hx hZ e3 V3 ⟨by decide, by decide⟩ rfl (hb hby d6_65) rfl ?_
  refine own_lconst (n := 67) (z := (1 : Int64)) X3 hx (hb hby d6_66) rfl rfl ?_
  refine own_iloadN (n := 68) X3 hx (hb hby d6_67) rfl rfl ?_
  refine own_lshl (n := 69) X3 hx (hb hby d6_68) rfl rfl ?_
  refine own_land (n := 70) X3 hx (hb hby d6_69) rfl rfl ?_
  refine own_lconst (n := 71) (z := (0 : Int64)) X3 hx (hb hby d6_70) rfl rfl ?_
  refine own_lcmp (n := 72) X3 hx (hb hby d6_71) rfl ?_
  refine own_ifNo (n := 75) X3 hx (hb hby d6_72) (feq (own_lc hbit)).1 rfl ?_
  refine own_iconst (n := 76) (z := (1 : Int32)) X3 hx (hb hby d6_75) rfl rfl ?_
  refine own_goto (n := 80) X3 hx (hb hby d6_76) (by decide) (by decide) ?_
  refine own_istoreN (n := 81) (l' := #[.val (.ref a), .val (.int p1), .val (.int d0), .val (.int (1 : Int32)), .val (.int (0 : Int32))]) X3 hx (hb hby d6_80) rfl rfl ?_
  refine own_iloadN (n := 82) X3 hx (hb hby d6_81) rfl rfl ?_
  refine own_retZ X3 hx hlk hret (by simp) e3 (w := (1 : Int32)) rfl (hb hby d6_82) (by decide) (by decide) ?_
  exact ⟨rfl, N2, rfl⟩
theorem own_ef1_own_rmI_1_0 (m : MethodId) (y0 : Addr) (y1 : Addr) (y2 : Addr) (y3 : Addr) : entryFrame m #[(.ref y0), (.ref y1), (.ref y2), (.ref y3)] 4 = mkF m 0 #[.val (.ref y0), .val (.ref y1), .val (.ref y2), .val (.ref y3)] [] := by first | (simp [entryFrame, mkF, argsToLocals, Value.category]; done) | rfl
set_option maxRecDepth 65536 in
set_option maxHeartbeats 40000000 in
theorem own_rmI_1_0 (l : Launch) (Z : State) (a0 : Array Value) (hw : ∀ d ∈ tables_1, d.before a0 Z = true) (a b d f : Addr) (k1 k2 k3 : ClassId) (c0 : Int64)   (h0 : Heap) (n0 : Nat) (Z0 : n0 ≤ h0.size) (E1 : Exa Z h0 a "com/example/eunomia/eunomia/engine/IdSet") (F1 : Fld Z h0 a "com/example/eunomia/eunomia/engine/IdSet" "low" "[J" .null) (F2 : Fld Z h0 a "com/example/eunomia/eunomia/engine/IdSet" "places" "[I" .null) (F3 : Fld Z h0 a "com/example/eunomia/eunomia/engine/IdSet" "words" "[J" .null) (F4 : Fld Z h0 a "com/example/eunomia/eunomia/engine/IdSet" "hash" "I" (.int (0 : Int32))) (V1 : Arv Z h0 b k1 .long (1 : Int32) [(.long c0)] (.long (0 : Int64))) (V2 : Arv Z h0 d k2 .int (0 : Int32) [] (.int (0 : Int32))) (V3 : Arv Z h0 f k3 .long (0 : Int32) [] (.long (0 : Int64))) (E2 : Exa Z h0 d "[I") (g_a : n0 ≤ a) :
    own_Met l Z (⟨"com/example/eunomia/eunomia/engine/IdSet", "<init>", "([J[I[J)V"⟩ : MethodName) prog_30_method_1_code 4 none [] ({ frames := 1, cells := 0, slots := 0, locals := 22 } : Room) #[(.ref a), (.ref b), (.ref d), (.ref f)] h0 (fun v h L => v = none ∧ Fr n0 L ∧ Keep h0 h [a] ∧ Exa Z h a "com/example/eunomia/eunomia/engine/IdSet" ∧ Fld Z h a "com/example/eunomia/eunomia/engine/IdSet" "low" "[J" (.ref b) ∧ Fld Z h a "com/example/eunomia/eunomia/engine/IdSet" "places" "[I" (.ref d) ∧ Fld Z h a "com/example/eunomia/eunomia/engine/IdSet" "words" "[J" (.ref f)) := by
  refine own_met own_pn1 ?_
  intro p e s m below meth c s₁ hx hby hml hown hnm hret hlk hZ X0 hE0
  have N0 := Fr.nil n0
  refine own_cast (own_ef1_own_rmI_1_0 m a b d f) ?_
  refine own_aloadN (n := 1) X0 hx (hb hby d1_0) rfl rfl rfl ?_
  refine own_initO (n := 4) X0 hx hZ hown (ww10 hw) (ww11 hw) (ww12 hw) hE0 (by rw [hml]; rfl) (hb hby d1_1) (Nat.le_of_ble_eq_true rfl) (Nat.le_of_ble_eq_true rfl) rfl ?_
  intro T1 X1 e1
  refine own_aloadN (n := 5) X1 hx (hb hby d1_4) rfl rfl rfl ?_
  refine own_aloadN (n := 6) X1 hx (hb hby d1_5) rfl rfl rfl ?_
  refine own_putF (n := 9) X1 hx hZ hown (host := "") (Or.inl (ww13 hw)) Via.refl e1 F1 E1 (Or.inr ⟨(ww14 hw), rfl, hnm⟩) (ww5 hw) (ty := (.array .long)) (by decide) rfl rfl (hb hby d1_6) rfl ?_
  intro T2 h2 X2 e2 W2
  have F_3 := F1.same W2
  have N2 := Fr.snoc X2 N0 g_a
  have E_4 := E1.wr W2
  have F_5 := F2.other W2 (Or.inr (slot_ne (Or.inr (ww16 hw)) (Or.inr (ww14 hw)) (by decide) (t := (.array .int)) (t' := (.array .long)) (by decide) (by decide)))
  have F_6 := F3.other W2 (Or.inr (slot_ne (Or.inr (ww18 hw)) (Or.inr (ww14 hw)) (by decide) (t := (.array .long)) (t' := (.array .long)) (by decide) (by decide)))
  have F_7 := F4.other W2 (Or.inr (slot_ne (Or.inr (ww27 hw)) (Or.inr (ww14 hw)) (by decide) (t := .int) (t' := (.array .long)) (by decide) (by decide)))
  have A_8 := V1.other W2 (Ne.symm (own_neEA E1 (ww5 hw) V1))
  have A_9 := V2.other W2 (Ne.symm (own_neEA E1 (ww5 hw) V2))
  have A_10 := V3.other W2 (Ne.symm (own_neEA E1 (ww5 hw) V3))
  have E_11 := E2.wr W2
  have K_12 := (Keep.refl h0 [a]).wr W2 (Or.inl (by simp))
  have Z_13 : n0 ≤ h2.size := by rw [W2.size]; exact Z0
  refine own_aloadN (n := 10) X2 hx (hb hby d1_9) rfl rfl rfl ?_
  refine own_aloadN (n := 11) X2 hx (hb hby d1_10) rfl rfl rfl ?_
  refine own_putF (n := 14) X2 hx hZ hown (host := "") (Or.inl (ww15 hw)) Via.refl e2 F_5 E_4 (Or.inr ⟨(ww16 hw), rfl, hnm⟩) (ww5 hw) (ty := (.array .int)) (by decide) rfl rfl (hb hby d1_11) rfl ?_
  intro T14 h14 X14 e14 W14
  have F_15 := F_5.same W14
  have N14 := Fr.snoc X14 N2 g_a
  have E_16 := E_4.wr W14
  have F_17 := F_6.other W14 (Or.inr (slot_ne (Or.inr (ww18 hw)) (Or.inr (ww16 hw)) (by decide) (t := (.array .long)) (t' := (.array .int)) (by decide) (by decide)))
  have F_18 := F_7.other W14 (Or.inr (slot_ne (Or.inr (ww27 hw)) (Or.inr (ww16 hw)) (by decide) (t := .int) (t' := (.array .int)) (by decide) (by decide)))
  have A_19 := A_8.other W14 (Ne.symm (own_neEA E_4 (ww5 hw) A_8))
  have A_20 := A_9.other W14 (Ne.symm (own_neEA E_4 (ww5 hw) A_9))
  have A_21 := A_10.other W14 (Ne.symm (own_neEA E_4 (ww5 hw) A_10))
  have E_22 := E_11.wr W14
  have K_23 := K_12.wr W14 (Or.inl (by simp))
  have F_24 := F_3.other W14 (Or.inr (slot_ne (Or.inr (ww14 hw)) (Or.inr (ww16 hw)) (by decide) (t := (.array .long)) (t' := (.array .int)) (by decide) (by decide)))
  have Z_25 : n0 ≤ h14.size := by rw [W14.size]; exact Z_13
  refine own_aloadN (n := 15) X14 hx (hb hby d1_14) rfl rfl rfl ?_
  refine own_aloadN (n := 16) X14 hx (hb hby d1_15) rfl rfl rfl ?_
  refine own_putF (n := 19) X14 hx hZ hown (host := "") (Or.inl (ww17 hw)) Via.refl e14 F_17 E_16 (Or.inr ⟨(ww18 hw), rfl, hnm⟩) (ww5 hw) (ty := (.array .long)) (by decide) rfl rfl (hb hby d1_16) rfl ?_
  intro T26 h26 X26 e26 W26
  have F_27 := F_17.same W26
  have N26 := Fr.snoc X26 N14 g_a
  have E_28 := E_16.wr W26
  have F_29 := F_18.other W26 (Or.inr (slot_ne (Or.inr (ww27 hw)) (Or.inr (ww18 hw)) (by decide) (t := .int) (t' := (.array .long)) (by decide) (by decide)))
  have A_30 := A_19.other W26 (Ne.symm (own_neEA E_16 (ww5 hw) A_19))
  have A_31 := A_20.other W26 (Ne.symm (own_neEA E_16 (ww5 hw) A_20))
  have A_32 := A_21.other W26 (Ne.symm (own_neEA E_16 (ww5 hw) A_21))
  have E_33 := E_22.wr W26
  have K_34 := K_23.wr W26 (Or.inl (by simp))
  have F_35 := F_24.other W26 (Or.inr (slot_ne (Or.inr (ww14 hw)) (Or.inr (ww18 hw)) (by decide) (t := (.array .long)) (t' := (.array .long)) (by decide) (by decide)))
  have F_36 := F_15.other W26 (Or.inr (slot_ne (Or.inr (ww16 hw)) (Or.inr (ww18 hw)) (by decide) (t := (.array .int)) (t' := (.array .long)) (by decide) (by decide)))
  have Z_37 : n0 ≤ h26.size := by rw [W26.size]; exact Z_25
  refine own_aloadN (n := 20) X26 hx (hb hby d1_19) rfl rfl rfl ?_
  refine own_bipush (n := 22) (z := (31 : Int32)) X26 hx (hb hby d1_20) rfl rfl ?_
  refine own_bipush (n := 24) (z := (31 : Int32)) X26 hx (hb hby d1_22) rfl rfl ?_
  refine own_aloadN (n := 25) X26 hx (hb hby d1_24) rfl rfl rfl ?_
  refine own_S (n := 28) (argsL := [(.ref b)]) (rest := [(.int (31 : Int32)), (.int (31 : Int32)), (.ref a)]) X26 hx hZ hown (own_rmJ1 l Z a0 hw b k1 c0 h26 n0 Z_37 A_30 ) (ww19 hw) (ww20 hw) (ww21 hw) (ww22 hw) (by decide) e26 (by rw [hml]; rfl) (lenOf own_pd0 rfl) rfl (hb hby d1_25) (Nat.le_of_ble_eq_true rfl) (Nat.le_of_ble_eq_true rfl) (Nat.le_of_ble_eq_true rfl) (Nat.le_of_ble_eq_true rfl) rfl ?_
  rintro v38 T38 L38 X38 ⟨z38, rfl, Nq38, eq38⟩
  have N38 := Fr.app N26 Nq38
  change own_G p e below _ _ (mkF m 28 _ [(.int z38), (.int (31 : Int32)), (.int (31 : Int32)), (.ref a)])
  refine own_imul (n := 29) X38 hx (hb hby d1_28) rfl rfl ?_
  refine own_aloadN (n := 30) X38 hx (hb hby d1_29) rfl rfl rfl ?_
  refine own_S (n := 33) (argsL := [(.ref d)]) (rest := [(.int ((31 : Int32) * z38)), (.int (31 : Int32)), (.ref a)]) X38 hx hZ hown (own_rmA0 l Z a0 hw d k2  h26 n0 Z_37 A_31 E_33) (ww23 hw) (ww24 hw) (ww21 hw) (ww25 hw) (by decide) eq38 (by rw [hml]; rfl) (lenOf own_pd1 rfl) rfl (hb hby d1_30) (Nat.le_of_ble_eq_true rfl) (Nat.le_of_ble_eq_true rfl) (Nat.le_of_ble_eq_true rfl) (Nat.le_of_ble_eq_true rfl) rfl ?_
  rintro v39 T39 L39 X39 ⟨z39, rfl, Nq39, eq39⟩
  have N39 := Fr.app N38 Nq39
  change own_G p e below _ _ (mkF m 33 _ [(.int z39), (.int ((31 : Int32) * z38)), (.int (31 : Int32)), (.ref a)])
  refine own_iadd (n := 34) X39 hx (hb hby d1_33) rfl rfl ?_
  refine own_imul (n := 35) X39 hx (hb hby d1_34) rfl rfl ?_
  refine own_aloadN (n := 36) X39 hx (hb hby d1_35) rfl rfl rfl ?_
  refine own_S (n := 39) (argsL := [(.ref f)]) (rest := [(.int ((31 : Int32) * (((31 : Int32) * z38) + z39))), (.ref a)]) X39 hx hZ hown (own_rmJ0 l Z a0 hw f k3  h26 n0 Z_37 A_32 ) (ww19 hw) (ww20 hw) (ww21 hw) (ww22 hw) (by decide) eq39 (by rw [hml]; rfl) (lenOf own_pd0 rfl) rfl (hb hby d1_36) (Nat.le_of_ble_eq_true rfl) (Nat.le_of_ble_eq_true rfl) (Nat.le_of_ble_eq_true rfl) (Nat.le_of_ble_eq_true rfl) rfl ?_
  rintro v40 T40 L40 X40 ⟨z40, rfl, Nq40, eq40⟩
  have N40 := Fr.app N39 Nq40
  change own_G p e below _ _ (mkF m 39 _ [(.int z40), (.int ((31 : Int32) * (((31 : Int32) * z38) + z39))), (.ref a)])
  refine own_iadd (n := 40) X40 hx (hb hby d1_39) rfl rfl ?_
  refine own_putF (n := 43) X40 hx hZ hown (host := "") (Or.inl (ww26 hw)) Via.refl eq40 F_29 E_28 (Or.inr ⟨(ww27 hw), rfl, hnm⟩) (ww5 hw) (ty := .int) (by decide) rfl rfl (hb hby d1_40) rfl ?_
  intro T41 h41 X41 e41 W41
  have F_42 := F_29.same W41
  have N41 := Fr.snoc X41 N40 g_a
  have E_43 := E_28.wr W41
  have A_44 := A_30.other W41 (Ne.symm (own_neEA E_28 (ww5 hw) A_30))
  have A_45 := A_31.other W41 (Ne.symm (own_neEA E_28 (ww5 hw) A_31))
  have A_46 := A_32.other W41 (Ne.symm (own_neEA E_28 (ww5 hw) A_32))
  have E_47 := E_33.wr W41
  have K_48 := K_34.wr W41 (Or.inl (by simp))
  have F_49 := F_35.other W41 (Or.inr (slot_ne (Or.inr (ww14 hw)) (Or.inr (ww27 hw)) (by decide) (t := (.array .long)) (t' := .int) (by decide) (by decide)))
  have F_50 := F_36.other W41 (Or.inr (slot_ne (Or.inr (ww16 hw)) (Or.inr (ww27 hw)) (by decide) (t := (.array .int)) (t' := .int) (by decide) (by decide)))
  have F_51 := F_27.other W41 (Or.inr (slot_ne (Or.inr (ww18 hw)) (Or.inr (ww27 hw)) (by decide) (t := (.array .long)) (t' := .int) (by decide) (by decide)))
  have Z_52 : n0 ≤ h41.size := by rw [W41.size]; exact Z_37
  refine own_retV X41 hx hlk hret e41 (hb hby d1_43) (by decide) (by decide) ?_
  exact ⟨rfl, N41, K_48, E_43, F_49, F_50, F_51⟩
theorem own_ef5_own_rmE_1_0 (m : MethodId) (y0 : Addr) : entryFrame m #[(.ref y0)] 1 = mkF m 0 #[.val (.ref y0)] [] := by first | (simp [entryFrame, mkF, argsToLocals, Value.category]; done) | rfl
set_option maxRecDepth 65536 in
set_option maxHeartbeats 40000000 in
theorem own_rmE_1_0 (l : Launch) (Z : State) (a0 : Array Value) (hw : ∀ d ∈ tables_1, d.before a0 Z = true) (a b d f : Addr) (k1 k2 k3 : ClassId) (c0 : Int64)   (h0 : Heap) (n0 : Nat) (Z0 : n0 ≤ h0.size) (F1 : Fld Z h0 a "com/example/eunomia/eunomia/engine/IdSet" "low" "[J" (.ref b)) (F2 : Fld Z h0 a "com/example/eunomia/eunomia/engine/IdSet" "places" "[I" (.ref d)) (F3 : Fld Z h0 a "com/example/eunomia/eunomia/engine/IdSet" "words" "[J" (.ref f)) (V1 : Arv Z h0 b k1 .long (1 : Int32) [(.long c0)] (.long (0 : Int64))) (V2 : Arv Z h0 d k2 .int (0 : Int32) [] (.int (0 : Int32))) (V3 : Arv Z h0 f k3 .long (0 : Int32) [] (.long (0 : Int64))) :
    own_Met l Z (⟨"com/example/eunomia/eunomia/engine/IdSet", "isEmpty", "()Z"⟩ : MethodName) prog_30_method_4_code 1 (some .boolean) [] ({ frames := 0, cells := 0, slots := 0, locals := 0 } : Room) #[(.ref a)] h0 (fun v h L => v = some (.int (0 : Int32)) ∧ Fr n0 L ∧ h = h0) := by
  refine own_met own_pn5 ?_
  intro p e s m below meth c s₁ hx hby hml hown hnm hret hlk hZ X0 hE0
  have N0 := Fr.nil n0
  refine own_cast (own_ef5_own_rmE_1_0 m a) ?_
  refine own_aloadN (n := 1) X0 hx (hb hby d5_0) rfl rfl rfl ?_
  refine own_getF (n := 4) X0 hx hZ hown (host := "") (Or.inl (ww13 hw)) Via.refl hE0 F1 (hb hby d5_1) rfl ?_
  intro T1 X1 e1
  refine own_len (n := 5) X1 hx hZ e1 V1 (hb hby d5_4) rfl ?_
  refine own_ifYes (n := 20) X1 hx (hb hby d5_5) (feq (by decide : ¬ ((1 : Int32) = (0 : Int32)))).2 (by decide) (by decide) ?_
  refine own_iconst (n := 21) (z := (0 : Int32)) X1 hx (hb hby d5_20) rfl rfl ?_
  refine own_retZ X1 hx hlk hret (by simp) e1 (w := (0 : Int32)) rfl (hb hby d5_21) (by decide) (by decide) ?_
  exact ⟨rfl, N0, rfl⟩
theorem d6_20 : decode prog_30_method_3_code 20 = .ok (.aload_n 0, 1) := by decide +kernel
theorem d6_21 : decode prog_30_method_3_code 21 = .ok (.getfield 7, 3) := by decide +kernel
theorem d6_24 : decode prog_30_method_3_code 24 = .ok (.iload_n 2, 1) := by decide +kernel
theorem d6_25 : decode prog_30_method_3_code 25 = .ok (.laload, 1) := by decide +kernel
theorem d6_26 : decode prog_30_method_3_code 26 = .ok (.lconst 1, 1) := by decide +kernel
theorem d6_27 : decode prog_30_method_3_code 27 = .ok (.iload_n 1, 1) := by decide +kernel
theorem d6_28 : decode prog_30_method_3_code 28 = .ok (.lshl, 1) := by decide +kernel
theorem d6_29 : decode prog_30_method_3_code 29 = .ok (.land, 1) := by decide +kernel
theorem d6_30 : decode prog_30_method_3_code 30 = .ok (.lconst 0, 1) := by decide +kernel
theorem d6_31 : decode prog_30_method_3_code 31 = .ok (.lcmp, 1) := by decide +kernel
theorem d6_32 : decode prog_30_method_3_code 32 = .ok (.ifCond .eq 7, 3) := by decide +kernel
theorem d6_35 : decode prog_30_method_3_code 35 = .ok (.iconst 1, 1) := by decide +kernel
theorem d6_36 : decode prog_30_method_3_code 36 = .ok (.goto 4, 3) := by decide +kernel
theorem own_ef6_own_rmC_1_0 (m : MethodId) (y0 : Addr) (y1 : Int32) : entryFrame m #[(.ref y0), (.int y1)] 5 = mkF m 0 #[.val (.ref y0), .val (.int y1), .unset, .unset, .unset] [] := by first | (simp [entryFrame, mkF, argsToLocals, Value.category]; done) | rfl
set_option maxRecDepth 65536 in
set_option maxHeartbeats 40000000 in
theorem own_rmC_1_0 (l : Launch) (Z : State) (a0 : Array Value) (hw : ∀ d ∈ tables_1, d.before a0 Z = true) (a b d f : Addr) (k1 k2 k3 : ClassId) (c0 : Int64)   (p1 : Int32) (h0 : Heap) (n0 : Nat) (Z0 : n0 ≤ h0.size) (F1 : Fld Z h0 a "com/example/eunomia/eunomia/engine/IdSet" "low" "[J" (.ref b)) (F2 : Fld Z h0 a "com/example/eunomia/eunomia/engine/IdSet" "places" "[I" (.ref d)) (F3 : Fld Z h0 a "com/example/eunomia/eunomia/engine/IdSet" "words" "[J" (.ref f)) (V1 : Arv Z h0 b k1 .long (1 : Int32) [(.long c0)] (.long (0 : Int64))) (V2 : Arv Z h0 d k2 .int (0 : Int32) [] (.int (0 : Int32))) (V3 : Arv Z h0 f k3 .long (0 : Int32) [] (.long (0 : Int64))) (hs : ((p1).toUInt32 >>> ((6 : Int32) &&& 31).toUInt32).toInt32 = (0 : Int32)) (hbit : ¬ (c0 &&& ((1 : Int64) <<< (p1 &&& 63).toInt64)) = (0 : Int64)) :
    own_Met l Z (⟨"com/example/eunomia/eunomia/engine/IdSet", "contains", "(I)Z"⟩ : MethodName) prog_30_method_3_code 5 (some .boolean) [] ({ frames := 0, cells := 0, slots := 0, locals := 0 } : Room) #[(.ref a), (.int p1)] h0 (fun v h L => v = some (.int (1 : Int32)) ∧ Fr n0 L ∧ h = h0) := by
  refine own_met own_pn6 ?_
  intro p e s m below meth c s₁ hx hby hml hown hnm hret hlk hZ X0 hE0
  have N0 := Fr.nil n0
  refine own_cast (own_ef6_own_rmC_1_0 m a p1) ?_
  refine own_iloadN (n := 1) X0 hx (hb hby d6_0) rfl rfl ?_
  refine own_bipush (n := 3) (z := (6 : Int32)) X0 hx (hb hby d6_1) rfl rfl ?_
  refine own_iushr (n := 4) X0 hx (hb hby d6_3) rfl rfl ?_
  refine own_istoreN (n := 5) (l' := #[.val (.ref a), .val (.int p1), .val (.int ((p1).toUInt32 >>> ((6 : Int32) &&& 31).toUInt32).toInt32), .unset, .unset]) X0 hx (hb hby d6_4) rfl rfl ?_
  rw [hs]
  refine own_iloadN (n := 6) X0 hx (hb hby d6_5) rfl rfl ?_
  refine own_bipush (n := 8) (z := (64 : Int32)) X0 hx (hb hby d6_6) rfl rfl ?_
  refine own_icmpNo (n := 11) X0 hx (hb hby d6_8) (tlt (by decide : (0 : Int32) < (64 : Int32))).2.1 rfl ?_
  refine own_iloadN (n := 12) X0 hx (hb hby d6_11) rfl rfl ?_
  refine own_aloadN (n := 13) X0 hx (hb hby d6_12) rfl rfl rfl ?_
  refine own_getF (n := 16) X0 hx hZ hown (host := "") (Or.inl (ww13 hw)) Via.refl hE0 F1 (hb hby d6_13) rfl ?_
  intro T1 X1 e1
  refine own_len (n := 17) X1 hx hZ e1 V1 (hb hby d6_16) rfl ?_
  refine own_icmpNo (n := 20) X1 hx (hb hby d6_17) (tlt (by decide : (0 : Int32) < (1 : Int32))).2.1 rfl ?_
  refine own_aloadN (n := 21) X1 hx (hb hby d6_20) rfl rfl rfl ?_
  refine own_getF (n := 24) X1 hx hZ hown (host := "") (Or.inl (ww13 hw)) Via.refl e1 F1 (hb hby d6_21) rfl ?_
  intro T2 X2 e2
  refine own_iloadN (n := 25) X2 hx (hb hby d6_24) rfl rfl ?_
  refine own_ld_laload (n := 26) (v := (.long c0)) X2 hx hZ e2 V1 ⟨by decide, by decide⟩ rfl (hb hby d6_25) rfl ?_
  refine own_lconst (n := 27) (z := (1 : Int64)) X2 hx (hb hby d6_26) rfl rfl ?_
  refine own_iloadN (n := 28) X2 hx (hb hby d6_27) rfl rfl ?_
  refine own_lshl (n := 29) X2 hx (hb hby d6_28) rfl rfl ?_
  refine own_land (n := 30) X2 hx (hb hby d6_29) rfl rfl ?_
  refine own_lconst (n := 31) (z := (0 : Int64)) X2 hx (hb hby d6_30) rfl rfl ?_
  refine own_lcmp (n := 32) X2 hx (hb hby d6_31) rfl ?_
  refine own_ifNo (n := 35) X2 hx (hb hby d6_32) (feq (own_lc hbit)).1 rfl ?_
  refine own_iconst (n := 36) (z := (1 : Int32)) X2 hx (hb hby d6_35) rfl rfl ?_
  refine own_goto (n := 40) X2 hx (hb hby d6_36) (by decide) (by decide) ?_
  refine own_istoreN (n := 41) (l' := #[.val (.ref a), .val (.int p1), .val (.int (0 : Int32)), .val (.int (1 : Int32)), .unset]) X2 hx (hb hby d6_40) rfl rfl ?_
  refine own_goto (n := 81) X2 hx (hb hby d6_41) (by decide) (by decide) ?_
  refine own_iloadN (n := 82) X2 hx (hb hby d6_81) rfl rfl ?_
  refine own_retZ X2 hx hlk hret (by simp) e2 (w := (1 : Int32)) rfl (hb hby d6_82) (by decide) (by decide) ?_
  exact ⟨rfl, N0, rfl⟩
theorem own_ef1_own_rmI_1_1 (m : MethodId) (y0 : Addr) (y1 : Addr) (y2 : Addr) (y3 : Addr) : entryFrame m #[(.ref y0), (.ref y1), (.ref y2), (.ref y3)] 4 = mkF m 0 #[.val (.ref y0), .val (.ref y1), .val (.ref y2), .val (.ref y3)] [] := by first | (simp [entryFrame, mkF, argsToLocals, Value.category]; done) | rfl
set_option maxRecDepth 65536 in
set_option maxHeartbeats 40000000 in
theorem own_rmI_1_1 (l : Launch) (Z : State) (a0 : Array Value) (hw : ∀ d ∈ tables_1, d.before a0 Z = true) (a b d f : Addr) (k1 k2 k3 : ClassId) (c0 : Int64) (d0 : Int32) (ee0 : Int64) (h0 : Heap) (n0 : Nat) (Z0 : n0 ≤ h0.size) (E1 : Exa Z h0 a "com/example/eunomia/eunomia/engine/IdSet") (F1 : Fld Z h0 a "com/example/eunomia/eunomia/engine/IdSet" "low" "[J" .null) (F2 : Fld Z h0 a "com/example/eunomia/eunomia/engine/IdSet" "places" "[I" .null) (F3 : Fld Z h0 a "com/example/eunomia/eunomia/engine/IdSet" "words" "[J" .null) (F4 : Fld Z h0 a "com/example/eunomia/eunomia/engine/IdSet" "hash" "I" (.int (0 : Int32))) (V1 : Arv Z h0 b k1 .long (1 : Int32) [(.long c0)] (.long (0 : Int64))) (V2 : Arv Z h0 d k2 .int (1 : Int32) [(.int d0)] (.int (0 : Int32))) (V3 : Arv Z h0 f k3 .long (1 : Int32) [(.long ee0)] (.long (0 : Int64))) (E2 : Exa Z h0 d "[I") (g_a : n0 ≤ a) :
    own_Met l Z (⟨"com/example/eunomia/eunomia/engine/IdSet", "<init>", "([J[I[J)V"⟩ : MethodName) prog_30_method_1_code 4 none [] ({ frames := 1, cells := 0, slots := 0, locals := 22 } : Room) #[(.ref a), (.ref b), (.ref d), (.ref f)] h0 (fun v h L => v = none ∧ Fr n0 L ∧ Keep h0 h [a] ∧ Exa Z h a "com/example/eunomia/eunomia/engine/IdSet" ∧ Fld Z h a "com/example/eunomia/eunomia/engine/IdSet" "low" "[J" (.ref b) ∧ Fld Z h a "com/example/eunomia/eunomia/engine/IdSet" "places" "[I" (.ref d) ∧ Fld Z h a "com/example/eunomia/eunomia/engine/IdSet" "words" "[J" (.ref f)) := by
  refine own_met own_pn1 ?_
  intro p e s m below meth c s₁ hx hby hml hown hnm hret hlk hZ X0 hE0
  have N0 := Fr.nil n0
  refine own_cast (own_ef1_own_rmI_1_1 m a b d f) ?_
  refine own_aloadN (n := 1) X0 hx (hb hby d1_0) rfl rfl rfl ?_
  refine own_initO (n := 4) X0 hx hZ hown (ww10 hw) (ww11 hw) (ww12 hw) hE0 (by rw [hml]; rfl) (hb hby d1_1) (Nat.le_of_ble_eq_true rfl) (Nat.le_of_ble_eq_true rfl) rfl ?_
  intro T1 X1 e1
  refine own_aloadN (n := 5) X1 hx (hb hby d1_4) rfl rfl rfl ?_
  refine own_aloadN (n := 6) X1 hx (hb hby d1_5) rfl rfl rfl ?_
  refine own_putF (n := 9) X1 hx hZ hown (host := "") (Or.inl (ww13 hw)) Via.refl e1 F1 E1 (Or.inr ⟨(ww14 hw), rfl, hnm⟩) (ww5 hw) (ty := (.array .long)) (by decide) rfl rfl (hb hby d1_6) rfl ?_
  intro T2 h2 X2 e2 W2
  have F_3 := F1.same W2
  have N2 := Fr.snoc X2 N0 g_a
  have E_4 := E1.wr W2
  have F_5 := F2.other W2 (Or.inr (slot_ne (Or.inr (ww16 hw)) (Or.inr (ww14 hw)) (by decide) (t := (.array .int)) (t' := (.array .long)) (by decide) (by decide)))
  have F_6 := F3.other W2 (Or.inr (slot_ne (Or.inr (ww18 hw)) (Or.inr (ww14 hw)) (by decide) (t := (.array .long)) (t' := (.array .long)) (by decide) (by decide)))
  have F_7 := F4.other W2 (Or.inr (slot_ne (Or.inr (ww27 hw)) (Or.inr (ww14 hw)) (by decide) (t := .int) (t' := (.array .long)) (by decide) (by decide)))
  have A_8 := V1.other W2 (Ne.symm (own_neEA E1 (ww5 hw) V1))
  have A_9 := V2.other W2 (Ne.symm (own_neEA E1 (ww5 hw) V2))
  have A_10 := V3.other W2 (Ne.symm (own_neEA E1 (ww5 hw) V3))
  have E_11 := E2.wr W2
  have K_12 := (Keep.refl h0 [a]).wr W2 (Or.inl (by simp))
  have Z_13 : n0 ≤ h2.size := by rw [W2.size]; exact Z0
  refine own_aloadN (n := 10) X2 hx (hb hby d1_9) rfl rfl rfl ?_
  refine own_aloadN (n := 11) X2 hx (hb hby d1_10) rfl rfl rfl ?_
  refine own_putF (n := 14) X2 hx hZ hown (host := "") (Or.inl (ww15 hw)) Via.refl e2 F_5 E_4 (Or.inr ⟨(ww16 hw), rfl, hnm⟩) (ww5 hw) (ty := (.array .int)) (by decide) rfl rfl (hb hby d1_11) rfl ?_
  intro T14 h14 X14 e14 W14
  have F_15 := F_5.same W14
  have N14 := Fr.snoc X14 N2 g_a
  have E_16 := E_4.wr W14
  have F_17 := F_6.other W14 (Or.inr (slot_ne (Or.inr (ww18 hw)) (Or.inr (ww16 hw)) (by decide) (t := (.array .long)) (t' := (.array .int)) (by decide) (by decide)))
  have F_18 := F_7.other W14 (Or.inr (slot_ne (Or.inr (ww27 hw)) (Or.inr (ww16 hw)) (by decide) (t := .int) (t' := (.array .int)) (by decide) (by decide)))
  have A_19 := A_8.other W14 (Ne.symm (own_neEA E_4 (ww5 hw) A_8))
  have A_20 := A_9.other W14 (Ne.symm (own_neEA E_4 (ww5 hw) A_9))
  have A_21 := A_10.other W14 (Ne.symm (own_neEA E_4 (ww5 hw) A_10))
  have E_22 := E_11.wr W14
  have K_23 := K_12.wr W14 (Or.inl (by simp))
  have F_24 := F_3.other W14 (Or.inr (slot_ne (Or.inr (ww14 hw)) (Or.inr (ww16 hw)) (by decide) (t := (.array .long)) (t' := (.array .int)) (by decide) (by decide)))
  have Z_25 : n0 ≤ h14.size := by rw [W14.size]; exact Z_13
  refine own_aloadN (n := 15) X14 hx (hb hby d1_14) rfl rfl rfl ?_
  refine own_aloadN (n := 16) X14 hx (hb hby d1_15) rfl rfl rfl ?_
  refine own_putF (n := 19) X14 hx hZ hown (host := "") (Or.inl (ww17 hw)) Via.refl e14 F_17 E_16 (Or.inr ⟨(ww18 hw), rfl, hnm⟩) (ww5 hw) (ty := (.array .long)) (by decide) rfl rfl (hb hby d1_16) rfl ?_
  intro T26 h26 X26 e26 W26
  have F_27 := F_17.same W26
  have N26 := Fr.snoc X26 N14 g_a
  have E_28 := E_16.wr W26
  have F_29 := F_18.other W26 (Or.inr (slot_ne (Or.inr (ww27 hw)) (Or.inr (ww18 hw)) (by decide) (t := .int) (t' := (.array .long)) (by decide) (by decide)))
  have A_30 := A_19.other W26 (Ne.symm (own_neEA E_16 (ww5 hw) A_19))
  have A_31 := A_20.other W26 (Ne.symm (own_neEA E_16 (ww5 hw) A_20))
  have A_32 := A_21.other W26 (Ne.symm (own_neEA E_16 (ww5 hw) A_21))
  have E_33 := E_22.wr W26
  have K_34 := K_23.wr W26 (Or.inl (by simp))
  have F_35 := F_24.other W26 (Or.inr (slot_ne (Or.inr (ww14 hw)) (Or.inr (ww18 hw)) (by decide) (t := (.array .long)) (t' := (.array .long)) (by decide) (by decide)))
  have F_36 := F_15.other W26 (Or.inr (slot_ne (Or.inr (ww16 hw)) (Or.inr (ww18 hw)) (by decide) (t := (.array .int)) (t' := (.array .long)) (by decide) (by decide)))
  have Z_37 : n0 ≤ h26.size := by rw [W26.size]; exact Z_25
  refine own_aloadN (n := 20) X26 hx (hb hby d1_19) rfl rfl rfl ?_
  refine own_bipush (n := 22) (z := (31 : Int32)) X26 hx (hb hby d1_20) rfl rfl ?_
  refine own_bipush (n := 24) (z := (31 : Int32)) X26 hx (hb hby d1_22) rfl rfl ?_
  refine own_aloadN (n := 25) X26 hx (hb hby d1_24) rfl rfl rfl ?_
  refine own_S (n := 28) (argsL := [(.ref b)]) (rest := [(.int (31 : Int32)), (.int (31 : Int32)), (.ref a)]) X26 hx hZ hown (own_rmJ1 l Z a0 hw b k1 c0 h26 n0 Z_37 A_30 ) (ww19 hw) (ww20 hw) (ww21 hw) (ww22 hw) (by decide) e26 (by rw [hml]; rfl) (lenOf own_pd0 rfl) rfl (hb hby d1_25) (Nat.le_of_ble_eq_true rfl) (Nat.le_of_ble_eq_true rfl) (Nat.le_of_ble_eq_true rfl) (Nat.le_of_ble_eq_true rfl) rfl ?_
  rintro v38 T38 L38 X38 ⟨z38, rfl, Nq38, eq38⟩
  have N38 := Fr.app N26 Nq38
  change own_G p e below _ _ (mkF m 28 _ [(.int z38), (.int (31 : Int32)), (.int (31 : Int32)), (.ref a)])
  refine own_imul (n := 29) X38 hx (hb hby d1_28) rfl rfl ?_
  refine own_aloadN (n := 30) X38 hx (hb hby d1_29) rfl rfl rfl ?_
  refine own_S (n := 33) (argsL := [(.ref d)]) (rest := [(.int ((31 : Int32) * z38)), (.int (31 : Int32)), (.ref a)]) X38 hx hZ hown (own_rmA1 l Z a0 hw d k2 d0 h26 n0 Z_37 A_31 E_33) (ww23 hw) (ww24 hw) (ww21 hw) (ww25 hw) (by decide) eq38 (by rw [hml]; rfl) (lenOf own_pd1 rfl) rfl (hb hby d1_30) (Nat.le_of_ble_eq_true rfl) (Nat.le_of_ble_eq_true rfl) (Nat.le_of_ble_eq_true rfl) (Nat.le_of_ble_eq_true rfl) rfl ?_
  rintro v39 T39 L39 X39 ⟨z39, rfl, Nq39, eq39⟩
  have N39 := Fr.app N38 Nq39
  change own_G p e below _ _ (mkF m 33 _ [(.int z39), (.int ((31 : Int32) * z38)), (.int (31 : Int32)), (.ref a)])
  refine own_iadd (n := 34) X39 hx (hb hby d1_33) rfl rfl ?_
  refine own_imul (n := 35) X39 hx (hb hby d1_34) rfl rfl ?_
  refine own_aloadN (n := 36) X39 hx (hb hby d1_35) rfl rfl rfl ?_
  refine own_S (n := 39) (argsL := [(.ref f)]) (rest := [(.int ((31 : Int32) * (((31 : Int32) * z38) + z39))), (.ref a)]) X39 hx hZ hown (own_rmJ1 l Z a0 hw f k3 ee0 h26 n0 Z_37 A_32 ) (ww19 hw) (ww20 hw) (ww21 hw) (ww22 hw) (by decide) eq39 (by rw [hml]; rfl) (lenOf own_pd0 rfl) rfl (hb hby d1_36) (Nat.le_of_ble_eq_true rfl) (Nat.le_of_ble_eq_true rfl) (Nat.le_of_ble_eq_true rfl) (Nat.le_of_ble_eq_true rfl) rfl ?_
  rintro v40 T40 L40 X40 ⟨z40, rfl, Nq40, eq40⟩
  have N40 := Fr.app N39 Nq40
  change own_G p e below _ _ (mkF m 39 _ [(.int z40), (.int ((31 : Int32) * (((31 : Int32) * z38) + z39))), (.ref a)])
  refine own_iadd (n := 40) X40 hx (hb hby d1_39) rfl rfl ?_
  refine own_putF (n := 43) X40 hx hZ hown (host := "") (Or.inl (ww26 hw)) Via.refl eq40 F_29 E_28 (Or.inr ⟨(ww27 hw), rfl, hnm⟩) (ww5 hw) (ty := .int) (by decide) rfl rfl (hb hby d1_40) rfl ?_
  intro T41 h41 X41 e41 W41
  have F_42 := F_29.same W41
  have N41 := Fr.snoc X41 N40 g_a
  have E_43 := E_28.wr W41
  have A_44 := A_30.other W41 (Ne.symm (own_neEA E_28 (ww5 hw) A_30))
  have A_45 := A_31.other W41 (Ne.symm (own_neEA E_28 (ww5 hw) A_31))
  have A_46 := A_32.other W41 (Ne.symm (own_neEA E_28 (ww5 hw) A_32))
  have E_47 := E_33.wr W41
  have K_48 := K_34.wr W41 (Or.inl (by simp))
  have F_49 := F_35.other W41 (Or.inr (slot_ne (Or.inr (ww14 hw)) (Or.inr (ww27 hw)) (by decide) (t := (.array .long)) (t' := .int) (by decide) (by decide)))
  have F_50 := F_36.other W41 (Or.inr (slot_ne (Or.inr (ww16 hw)) (Or.inr (ww27 hw)) (by decide) (t := (.array .int)) (t' := .int) (by decide) (by decide)))
  have F_51 := F_27.other W41 (Or.inr (slot_ne (Or.inr (ww18 hw)) (Or.inr (ww27 hw)) (by decide) (t := (.array .long)) (t' := .int) (by decide) (by decide)))
  have Z_52 : n0 ≤ h41.size := by rw [W41.size]; exact Z_37
  refine own_retV X41 hx hlk hret e41 (hb hby d1_43) (by decide) (by decide) ?_
  exact ⟨rfl, N41, K_48, E_43, F_49, F_50, F_51⟩
theorem own_ef5_own_rmE_1_1 (m : MethodId) (y0 : Addr) : entryFrame m #[(.ref y0)] 1 = mkF m 0 #[.val (.ref y0)] [] := by first | (simp [entryFrame, mkF, argsToLocals, Value.category]; done) | rfl
set_option maxRecDepth 65536 in
set_option maxHeartbeats 40000000 in
theorem own_rmE_1_1 (l : Launch) (Z : State) (a0 : Array Value) (hw : ∀ d ∈ tables_1, d.before a0 Z = true) (a b d f : Addr) (k1 k2 k3 : ClassId) (c0 : Int64) (d0 : Int32) (ee0 : Int64) (h0 : Heap) (n0 : Nat) (Z0 : n0 ≤ h0.size) (F1 : Fld Z h0 a "com/example/eunomia/eunomia/engine/IdSet" "low" "[J" (.ref b)) (F2 : Fld Z h0 a "com/example/eunomia/eunomia/engine/IdSet" "places" "[I" (.ref d)) (F3 : Fld Z h0 a "com/example/eunomia/eunomia/engine/IdSet" "words" "[J" (.ref f)) (V1 : Arv Z h0 b k1 .long (1 : Int32) [(.long c0)] (.long (0 : Int64))) (V2 : Arv Z h0 d k2 .int (1 : Int32) [(.int d0)] (.int (0 : Int32))) (V3 : Arv Z h0 f k3 .long (1 : Int32) [(.long ee0)] (.long (0 : Int64))) :
    own_Met l Z (⟨"com/example/eunomia/eunomia/engine/IdSet", "isEmpty", "()Z"⟩ : MethodName) prog_30_method_4_code 1 (some .boolean) [] ({ frames := 0, cells := 0, slots := 0, locals := 0 } : Room) #[(.ref a)] h0 (fun v h L => v = some (.int (0 : Int32)) ∧ Fr n0 L ∧ h = h0) := by
  refine own_met own_pn5 ?_
  intro p e s m below meth c s₁ hx hby hml hown hnm hret hlk hZ X0 hE0
  have N0 := Fr.nil n0
  refine own_cast (own_ef5_own_rmE_1_1 m a) ?_
  refine own_aloadN (n := 1) X0 hx (hb hby d5_0) rfl rfl rfl ?_
  refine own_getF (n := 4) X0 hx hZ hown (host := "") (Or.inl (ww13 hw)) Via.refl hE0 F1 (hb hby d5_1) rfl ?_
  intro T1 X1 e1
  refine own_len (n := 5) X1 hx hZ e1 V1 (hb hby d5_4) rfl ?_
  refine own_ifYes (n := 20) X1 hx (hb hby d5_5) (feq (by decide : ¬ ((1 : Int32) = (0 : Int32)))).2 (by decide) (by decide) ?_
  refine own_iconst (n := 21) (z := (0 : Int32)) X1 hx (hb hby d5_20) rfl rfl ?_
  refine own_retZ X1 hx hlk hret (by simp) e1 (w := (0 : Int32)) rfl (hb hby d5_21) (by decide) (by decide) ?_
  exact ⟨rfl, N0, rfl⟩
theorem own_ef6_own_rmC_1_1 (m : MethodId) (y0 : Addr) (y1 : Int32) : entryFrame m #[(.ref y0), (.int y1)] 5 = mkF m 0 #[.val (.ref y0), .val (.int y1), .unset, .unset, .unset] [] := by first | (simp [entryFrame, mkF, argsToLocals, Value.category]; done) | rfl
set_option maxRecDepth 65536 in
set_option maxHeartbeats 40000000 in
theorem own_rmC_1_1 (l : Launch) (Z : State) (a0 : Array Value) (hw : ∀ d ∈ tables_1, d.before a0 Z = true) (a b d f : Addr) (k1 k2 k3 : ClassId) (c0 : Int64) (d0 : Int32) (ee0 : Int64) (p1 : Int32) (h0 : Heap) (n0 : Nat) (Z0 : n0 ≤ h0.size) (F1 : Fld Z h0 a "com/example/eunomia/eunomia/engine/IdSet" "low" "[J" (.ref b)) (F2 : Fld Z h0 a "com/example/eunomia/eunomia/engine/IdSet" "places" "[I" (.ref d)) (F3 : Fld Z h0 a "com/example/eunomia/eunomia/engine/IdSet" "words" "[J" (.ref f)) (V1 : Arv Z h0 b k1 .long (1 : Int32) [(.long c0)] (.long (0 : Int64))) (V2 : Arv Z h0 d k2 .int (1 : Int32) [(.int d0)] (.int (0 : Int32))) (V3 : Arv Z h0 f k3 .long (1 : Int32) [(.long ee0)] (.long (0 : Int64))) (hs : ((p1).toUInt32 >>> ((6 : Int32) &&& 31).toUInt32).toInt32 = (0 : Int32)) (hbit : ¬ (c0 &&& ((1 : Int64) <<< (p1 &&& 63).toInt64)) = (0 : Int64)) :
    own_Met l Z (⟨"com/example/eunomia/eunomia/engine/IdSet", "contains", "(I)Z"⟩ : MethodName) prog_30_method_3_code 5 (some .boolean) [] ({ frames := 0, cells := 0, slots := 0, locals := 0 } : Room) #[(.ref a), (.int p1)] h0 (fun v h L => v = some (.int (1 : Int32)) ∧ Fr n0 L ∧ h = h0) := by
  refine own_met own_pn6 ?_
  intro p e s m below meth c s₁ hx hby hml hown hnm hret hlk hZ X0 hE0
  have N0 := Fr.nil n0
  refine own_cast (own_ef6_own_rmC_1_1 m a p1) ?_
  refine own_iloadN (n := 1) X0 hx (hb hby d6_0) rfl rfl ?_
  refine own_bipush (n := 3) (z := (6 : Int32)) X0 hx (hb hby d6_1) rfl rfl ?_
  refine own_iushr (n := 4) X0 hx (hb hby d6_3) rfl rfl ?_
  refine own_istoreN (n := 5) (l' := #[.val (.ref a), .val (.int p1), .val (.int ((p1).toUInt32 >>> ((6 : Int32) &&& 31).toUInt32).toInt32), .unset, .unset]) X0 hx (hb hby d6_4) rfl rfl ?_
  rw [hs]
  refine own_iloadN (n := 6) X0 hx (hb hby d6_5) rfl rfl ?_
  refine own_bipush (n := 8) (z := (64 : Int32)) X0 hx (hb hby d6_6) rfl rfl ?_
  refine own_icmpNo (n := 11) X0 hx (hb hby d6_8) (tlt (by decide : (0 : Int32) < (64 : Int32))).2.1 rfl ?_
  refine own_iloadN (n := 12) X0 hx (hb hby d6_11) rfl rfl ?_
  refine own_aloadN (n := 13) X0 hx (hb hby d6_12) rfl rfl rfl ?_
  refine own_getF (n := 16) X0 hx hZ hown (host := "") (Or.inl (ww13 hw)) Via.refl hE0 F1 (hb hby d6_13) rfl ?_
  intro T1 X1 e1
  refine own_len (n := 17) X1 hx hZ e1 V1 (hb hby d6_16) rfl ?_
  refine own_icmpNo (n := 20) X1 hx (hb hby d6_17) (tlt (by decide : (0 : Int32) < (1 : Int32))).2.1 rfl ?_
  refine own_aloadN (n := 21) X1 hx (hb hby d6_20) rfl rfl rfl ?_
  refine own_getF (n := 24) X1 hx hZ hown (host := "") (Or.inl (ww13 hw)) Via.refl e1 F1 (hb hby d6_21) rfl ?_
  intro T2 X2 e2
  refine own_iloadN (n := 25) X2 hx (hb hby d6_24) rfl rfl ?_
  refine own_ld_laload (n := 26) (v := (.long c0)) X2 hx hZ e2 V1 ⟨by decide, by decide⟩ rfl (hb hby d6_25) rfl ?_
  refine own_lconst (n := 27) (z := (1 : Int64)) X2 hx (hb hby d6_26) rfl rfl ?_
  refine own_iloadN (n := 28) X2 hx (hb hby d6_27) rfl rfl ?_
  refine own_lshl (n := 29) X2 hx (hb hby d6_28) rfl rfl ?_
  refine own_land (n := 30) X2 hx (hb hby d6_29) rfl rfl ?_
  refine own_lconst (n := 31) (z := (0 : Int64)) X2 hx (hb hby d6_30) rfl rfl ?_
  refine own_lcmp (n := 32) X2 hx (hb hby d6_31) rfl ?_
  refine own_ifNo (n := 35) X2 hx (hb hby d6_32) (feq (own_lc hbit)).1 rfl ?_
  refine own_iconst (n := 36) (z := (1 : Int32)) X2 hx (hb hby d6_35) rfl rfl ?_
  refine own_goto (n := 40) X2 hx (hb hby d6_36) (by decide) (by decide) ?_
  refine own_istoreN (n := 41) (l' := #[.val (.ref a), .val (.int p1), .val (.int (0 : Int32)), .val (.int (1 : Int32)), .unset]) X2 hx (hb hby d6_40) rfl rfl ?_
  refine own_goto (n := 81) X2 hx (hb hby d6_41) (by decide) (by decide) ?_
  refine own_iloadN (n := 82) X2 hx (hb hby d6_81) rfl rfl ?_
  refine own_retZ X2 hx hlk hret (by simp) e2 (w := (1 : Int32)) rfl (hb hby d6_82) (by decide) (by decide) ?_
  exact ⟨rfl, N0, rfl⟩
theorem own_ef1_own_rmI_1_2 (m : MethodId) (y0 : Addr) (y1 : Addr) (y2 : Addr) (y3 : Addr) : entryFrame m #[(.ref y0), (.ref y1), (.ref y2), (.ref y3)] 4 = mkF m 0 #[.val (.ref y0), .val (.ref y1), .val (.ref y2), .val (.ref y3)] [] := by first | (simp [entryFrame, mkF, argsToLocals, Value.category]; done) | rfl
set_option maxRecDepth 65536 in
set_option maxHeartbeats 40000000 in
theorem own_rmI_1_2 (l : Launch) (Z : State) (a0 : Array Value) (hw : ∀ d ∈ tables_1, d.before a0 Z = true) (a b d f : Addr) (k1 k2 k3 : ClassId) (c0 : Int64) (d0 d1 : Int32) (ee0 ee1 : Int64) (h0 : Heap) (n0 : Nat) (Z0 : n0 ≤ h0.size) (E1 : Exa Z h0 a "com/example/eunomia/eunomia/engine/IdSet") (F1 : Fld Z h0 a "com/example/eunomia/eunomia/engine/IdSet" "low" "[J" .null) (F2 : Fld Z h0 a "com/example/eunomia/eunomia/engine/IdSet" "places" "[I" .null) (F3 : Fld Z h0 a "com/example/eunomia/eunomia/engine/IdSet" "words" "[J" .null) (F4 : Fld Z h0 a "com/example/eunomia/eunomia/engine/IdSet" "hash" "I" (.int (0 : Int32))) (V1 : Arv Z h0 b k1 .long (1 : Int32) [(.long c0)] (.long (0 : Int64))) (V2 : Arv Z h0 d k2 .int (2 : Int32) [(.int d0), (.int d1)] (.int (0 : Int32))) (V3 : Arv Z h0 f k3 .long (2 : Int32) [(.long ee0), (.long ee1)] (.long (0 : Int64))) (E2 : Exa Z h0 d "[I") (g_a : n0 ≤ a) :
    own_Met l Z (⟨"com/example/eunomia/eunomia/engine/IdSet", "<init>", "([J[I[J)V"⟩ : MethodName) prog_30_method_1_code 4 none [] ({ frames := 3, cells := 0, slots := 0, locals := 48 } : Room) #[(.ref a), (.ref b), (.ref d), (.ref f)] h0 (fun v h L => v = none ∧ Fr n0 L ∧ Keep h0 h [a] ∧ Exa Z h a "com/example/eunomia/eunomia/engine/IdSet" ∧ Fld Z h a "com/example/eunomia/eunomia/engine/IdSet" "low" "[J" (.ref b) ∧ Fld Z h a "com/example/eunomia/eunomia/engine/IdSet" "places" "[I" (.ref d) ∧ Fld Z h a "com/example/eunomia/eunomia/engine/IdSet" "words" "[J" (.ref f)) := by
  refine own_met own_pn1 ?_
  intro p e s m below meth c s₁ hx hby hml hown hnm hret hlk hZ X0 hE0
  have N0 := Fr.nil n0
  refine own_cast (own_ef1_own_rmI_1_2 m a b d f) ?_
  refine own_aloadN (n := 1) X0 hx (hb hby d1_0) rfl rfl rfl ?_
  refine own_initO (n := 4) X0 hx hZ hown (ww10 hw) (ww11 hw) (ww12 hw) hE0 (by rw [hml]; rfl) (hb hby d1_1) (Nat.le_of_ble_eq_true rfl) (Nat.le_of_ble_eq_true rfl) rfl ?_
  intro T1 X1 e1
  refine own_aloadN (n := 5) X1 hx (hb hby d1_4) rfl rfl rfl ?_
  refine own_aloadN (n := 6) X1 hx (hb hby d1_5) rfl rfl rfl ?_
  refine own_putF (n := 9) X1 hx hZ hown (host := "") (Or.inl (ww13 hw)) Via.refl e1 F1 E1 (Or.inr ⟨(ww14 hw), rfl, hnm⟩) (ww5 hw) (ty := (.array .long)) (by decide) rfl rfl (hb hby d1_6) rfl ?_
  intro T2 h2 X2 e2 W2
  have F_3 := F1.same W2
  have N2 := Fr.snoc X2 N0 g_a
  have E_4 := E1.wr W2
  have F_5 := F2.other W2 (Or.inr (slot_ne (Or.inr (ww16 hw)) (Or.inr (ww14 hw)) (by decide) (t := (.array .int)) (t' := (.array .long)) (by decide) (by decide)))
  have F_6 := F3.other W2 (Or.inr (slot_ne (Or.inr (ww18 hw)) (Or.inr (ww14 hw)) (by decide) (t := (.array .long)) (t' := (.array .long)) (by decide) (by decide)))
  have F_7 := F4.other W2 (Or.inr (slot_ne (Or.inr (ww27 hw)) (Or.inr (ww14 hw)) (by decide) (t := .int) (t' := (.array .long)) (by decide) (by decide)))
  have A_8 := V1.other W2 (Ne.symm (own_neEA E1 (ww5 hw) V1))
  have A_9 := V2.other W2 (Ne.symm (own_neEA E1 (ww5 hw) V2))
  have A_10 := V3.other W2 (Ne.symm (own_neEA E1 (ww5 hw) V3))
  have E_11 := E2.wr W2
  have K_12 := (Keep.refl h0 [a]).wr W2 (Or.inl (by simp))
  have Z_13 : n0 ≤ h2.size := by rw [W2.size]; exact Z0
  refine own_aloadN (n := 10) X2 hx (hb hby d1_9) rfl rfl rfl ?_
  refine own_aloadN (n := 11) X2 hx (hb hby d1_10) rfl rfl rfl ?_
  refine own_putF (n := 14) X2 hx hZ hown (host := "") (Or.inl (ww15 hw)) Via.refl e2 F_5 E_4 (Or.inr ⟨(ww16 hw), rfl, hnm⟩) (ww5 hw) (ty := (.array .int)) (by decide) rfl rfl (hb hby d1_11) rfl ?_
  intro T14 h14 X14 e14 W14
  have F_15 := F_5.same W14
  have N14 := Fr.snoc X14 N2 g_a
  have E_16 := E_4.wr W14
  have F_17 := F_6.other W14 (Or.inr (slot_ne (Or.inr (ww18 hw)) (Or.inr (ww16 hw)) (by decide) (t := (.array .long)) (t' := (.array .int)) (by decide) (by decide)))
  have F_18 := F_7.other W14 (Or.inr (slot_ne (Or.inr (ww27 hw)) (Or.inr (ww16 hw)) (by decide) (t := .int) (t' := (.array .int)) (by decide) (by decide)))
  have A_19 := A_8.other W14 (Ne.symm (own_neEA E_4 (ww5 hw) A_8))
  have A_20 := A_9.other W14 (Ne.symm (own_neEA E_4 (ww5 hw) A_9))
  have A_21 := A_10.other W14 (Ne.symm (own_neEA E_4 (ww5 hw) A_10))
  have E_22 := E_11.wr W14
  have K_23 := K_12.wr W14 (Or.inl (by simp))
  have F_24 := F_3.other W14 (Or.inr (slot_ne (Or.inr (ww14 hw)) (Or.inr (ww16 hw)) (by decide) (t := (.array .long)) (t' := (.array .int)) (by decide) (by decide)))
  have Z_25 : n0 ≤ h14.size := by rw [W14.size]; exact Z_13
  refine own_aloadN (n := 15) X14 hx (hb hby d1_14) rfl rfl rfl ?_
  refine own_aloadN (n := 16) X14 hx (hb hby d1_15) rfl rfl rfl ?_
  refine own_putF (n := 19) X14 hx hZ hown (host := "") (Or.inl (ww17 hw)) Via.refl e14 F_17 E_16 (Or.inr ⟨(ww18 hw), rfl, hnm⟩) (ww5 hw) (ty := (.array .long)) (by decide) rfl rfl (hb hby d1_16) rfl ?_
  intro T26 h26 X26 e26 W26
  have F_27 := F_17.same W26
  have N26 := Fr.snoc X26 N14 g_a
  have E_28 := E_16.wr W26
  have F_29 := F_18.other W26 (Or.inr (slot_ne (Or.inr (ww27 hw)) (Or.inr (ww18 hw)) (by decide) (t := .int) (t' := (.array .long)) (by decide) (by decide)))
  have A_30 := A_19.other W26 (Ne.symm (own_neEA E_16 (ww5 hw) A_19))
  have A_31 := A_20.other W26 (Ne.symm (own_neEA E_16 (ww5 hw) A_20))
  have A_32 := A_21.other W26 (Ne.symm (own_neEA E_16 (ww5 hw) A_21))
  have E_33 := E_22.wr W26
  have K_34 := K_23.wr W26 (Or.inl (by simp))
  have F_35 := F_24.other W26 (Or.inr (slot_ne (Or.inr (ww14 hw)) (Or.inr (ww18 hw)) (by decide) (t := (.array .long)) (t' := (.array .long)) (by decide) (by decide)))
  have F_36 := F_15.other W26 (Or.inr (slot_ne (Or.inr (ww16 hw)) (Or.inr (ww18 hw)) (by decide) (t := (.array .int)) (t' := (.array .long)) (by decide) (by decide)))
  have Z_37 : n0 ≤ h26.size := by rw [W26.size]; exact Z_25
  refine own_aloadN (n := 20) X26 hx (hb hby d1_19) rfl rfl rfl ?_
  refine own_bipush (n := 22) (z := (31 : Int32)) X26 hx (hb hby d1_20) rfl rfl ?_
  refine own_bipush (n := 24) (z := (31 : Int32)) X26 hx (hb hby d1_22) rfl rfl ?_
  refine own_aloadN (n := 25) X26 hx (hb hby d1_24) rfl rfl rfl ?_
  refine own_S (n := 28) (argsL := [(.ref b)]) (rest := [(.int (31 : Int32)), (.int (31 : Int32)), (.ref a)]) X26 hx hZ hown (own_rmJ1 l Z a0 hw b k1 c0 h26 n0 Z_37 A_30 ) (ww19 hw) (ww20 hw) (ww21 hw) (ww22 hw) (by decide) e26 (by rw [hml]; rfl) (lenOf own_pd0 rfl) rfl (hb hby d1_25) (Nat.le_of_ble_eq_true rfl) (Nat.le_of_ble_eq_true rfl) (Nat.le_of_ble_eq_true rfl) (Nat.le_of_ble_eq_true rfl) rfl ?_
  rintro v38 T38 L38 X38 ⟨z38, rfl, Nq38, eq38⟩
  have N38 := Fr.app N26 Nq38
  change own_G p e below _ _ (mkF m 28 _ [(.int z38), (.int (31 : Int32)), (.int (31 : Int32)), (.ref a)])
  refine own_imul (n := 29) X38 hx (hb hby d1_28) rfl rfl ?_
  refine own_aloadN (n := 30) X38 hx (hb hby d1_29) rfl rfl rfl ?_
  refine own_S (n := 33) (argsL := [(.ref d)]) (rest := [(.int ((31 : Int32) * z38)), (.int (31 : Int32)), (.ref a)]) X38 hx hZ hown (own_rmA2 l Z a0 hw d k2 d0 d1 h26 n0 Z_37 A_31 E_33) (ww23 hw) (ww24 hw) (ww21 hw) (ww25 hw) (by decide) eq38 (by rw [hml]; rfl) (lenOf own_pd1 rfl) rfl (hb hby d1_30) (Nat.le_of_ble_eq_true rfl) (Nat.le_of_ble_eq_true rfl) (Nat.le_of_ble_eq_true rfl) (Nat.le_of_ble_eq_true rfl) rfl ?_
  rintro v39 T39 L39 X39 ⟨z39, rfl, Nq39, eq39⟩
  have N39 := Fr.app N38 Nq39
  change own_G p e below _ _ (mkF m 33 _ [(.int z39), (.int ((31 : Int32) * z38)), (.int (31 : Int32)), (.ref a)])
  refine own_iadd (n := 34) X39 hx (hb hby d1_33) rfl rfl ?_
  refine own_imul (n := 35) X39 hx (hb hby d1_34) rfl rfl ?_
  refine own_aloadN (n := 36) X39 hx (hb hby d1_35) rfl rfl rfl ?_
  refine own_S (n := 39) (argsL := [(.ref f)]) (rest := [(.int ((31 : Int32) * (((31 : Int32) * z38) + z39))), (.ref a)]) X39 hx hZ hown (own_rmJ2 l Z a0 hw f k3 ee0 ee1 h26 n0 Z_37 A_32 ) (ww19 hw) (ww20 hw) (ww21 hw) (ww22 hw) (by decide) eq39 (by rw [hml]; rfl) (lenOf own_pd0 rfl) rfl (hb hby d1_36) (Nat.le_of_ble_eq_true rfl) (Nat.le_of_ble_eq_true rfl) (Nat.le_of_ble_eq_true rfl) (Nat.le_of_ble_eq_true rfl) rfl ?_
  rintro v40 T40 L40 X40 ⟨z40, rfl, Nq40, eq40⟩
  have N40 := Fr.app N39 Nq40
  change own_G p e below _ _ (mkF m 39 _ [(.int z40), (.int ((31 : Int32) * (((31 : Int32) * z38) + z39))), (.ref a)])
  refine own_iadd (n := 40) X40 hx (hb hby d1_39) rfl rfl ?_
  refine own_putF (n := 43) X40 hx hZ hown (host := "") (Or.inl (ww26 hw)) Via.refl eq40 F_29 E_28 (Or.inr ⟨(ww27 hw), rfl, hnm⟩) (ww5 hw) (ty := .int) (by decide) rfl rfl (hb hby d1_40) rfl ?_
  intro T41 h41 X41 e41 W41
  have F_42 := F_29.same W41
  have N41 := Fr.snoc X41 N40 g_a
  have E_43 := E_28.wr W41
  have A_44 := A_30.other W41 (Ne.symm (own_neEA E_28 (ww5 hw) A_30))
  have A_45 := A_31.other W41 (Ne.symm (own_neEA E_28 (ww5 hw) A_31))
  have A_46 := A_32.other W41 (Ne.symm (own_neEA E_28 (ww5 hw) A_32))
  have E_47 := E_33.wr W41
  have K_48 := K_34.wr W41 (Or.inl (by simp))
  have F_49 := F_35.other W41 (Or.inr (slot_ne (Or.inr (ww14 hw)) (Or.inr (ww27 hw)) (by decide) (t := (.array .long)) (t' := .int) (by decide) (by decide)))
  have F_50 := F_36.other W41 (Or.inr (slot_ne (Or.inr (ww16 hw)) (Or.inr (ww27 hw)) (by decide) (t := (.array .int)) (t' := .int) (by decide) (by decide)))
  have F_51 := F_27.other W41 (Or.inr (slot_ne (Or.inr (ww18 hw)) (Or.inr (ww27 hw)) (by decide) (t := (.array .long)) (t' := .int) (by decide) (by decide)))
  have Z_52 : n0 ≤ h41.size := by rw [W41.size]; exact Z_37
  refine own_retV X41 hx hlk hret e41 (hb hby d1_43) (by decide) (by decide) ?_
  exact ⟨rfl, N41, K_48, E_43, F_49, F_50, F_51⟩
theorem own_ef5_own_rmE_1_2 (m : MethodId) (y0 : Addr) : entryFrame m #[(.ref y0)] 1 = mkF m 0 #[.val (.ref y0)] [] := by first | (simp [entryFrame, mkF, argsToLocals, Value.category]; done) | rfl
set_option maxRecDepth 65536 in
set_option maxHeartbeats 40000000 in
theorem own_rmE_1_2 (l : Launch) (Z : State) (a0 : Array Value) (hw : ∀ d ∈ tables_1, d.before a0 Z = true) (a b d f : Addr) (k1 k2 k3 : ClassId) (c0 : Int64) (d0 d1 : Int32) (ee0 ee1 : Int64) (h0 : Heap) (n0 : Nat) (Z0 : n0 ≤ h0.size) (F1 : Fld Z h0 a "com/example/eunomia/eunomia/engine/IdSet" "low" "[J" (.ref b)) (F2 : Fld Z h0 a "com/example/eunomia/eunomia/engine/IdSet" "places" "[I" (.ref d)) (F3 : Fld Z h0 a "com/example/eunomia/eunomia/engine/IdSet" "words" "[J" (.ref f)) (V1 : Arv Z h0 b k1 .long (1 : Int32) [(.long c0)] (.long (0 : Int64))) (V2 : Arv Z h0 d k2 .int (2 : Int32) [(.int d0), (.int d1)] (.int (0 : Int32))) (V3 : Arv Z h0 f k3 .long (2 : Int32) [(.long ee0), (.long ee1)] (.long (0 : Int64))) :
    own_Met l Z (⟨"com/example/eunomia/eunomia/engine/IdSet", "isEmpty", "()Z"⟩ : MethodName) prog_30_method_4_code 1 (some .boolean) [] ({ frames := 0, cells := 0, slots := 0, locals := 0 } : Room) #[(.ref a)] h0 (fun v h L => v = some (.int (0 : Int32)) ∧ Fr n0 L ∧ h = h0) := by
  refine own_met own_pn5 ?_
  intro p e s m below meth c s₁ hx hby hml hown hnm hret hlk hZ X0 hE0
  have N0 := Fr.nil n0
  refine own_cast (own_ef5_own_rmE_1_2 m a) ?_
  refine own_aloadN (n := 1) X0 hx (hb hby d5_0) rfl rfl rfl ?_
  refine own_getF (n := 4) X0 hx hZ hown (host := "") (Or.inl (ww13 hw)) Via.refl hE0 F1 (hb hby d5_1) rfl ?_
  intro T1 X1 e1
  refine own_len (n := 5) X1 hx hZ e1 V1 (hb hby d5_4) rfl ?_
  refine own_ifYes (n := 20) X1 hx (hb hby d5_5) (feq (by decide : ¬ ((1 : Int32) = (0 : Int32)))).2 (by decide) (by decide) ?_
  refine own_iconst (n := 21) (z := (0 : Int32)) X1 hx (hb hby d5_20) rfl rfl ?_
  refine own_retZ X1 hx hlk hret (by simp) e1 (w := (0 : Int32)) rfl (hb hby d5_21) (by decide) (by decide) ?_
  exact ⟨rfl, N0, rfl⟩
theorem own_ef6_own_rmC_1_2 (m : MethodId) (y0 : Addr) (y1 : Int32) : entryFrame m #[(.ref y0), (.int y1)] 5 = mkF m 0 #[.val (.ref y0), .val (.int y1), .unset, .unset, .unset] [] := by first | (simp [entryFrame, mkF, argsToLocals, Value.category]; done) | rfl
set_option maxRecDepth 65536 in
set_option maxHeartbeats 40000000 in
theorem own_rmC_1_2 (l : Launch) (Z : State) (a0 : Array Value) (hw : ∀ d ∈ tables_1, d.before a0 Z = true) (a b d f : Addr) (k1 k2 k3 : ClassId) (c0 : Int64) (d0 d1 : Int32) (ee0 ee1 : Int64) (p1 : Int32) (h0 : Heap) (n0 : Nat) (Z0 : n0 ≤ h0.size) (F1 : Fld Z h0 a "com/example/eunomia/eunomia/engine/IdSet" "low" "[J" (.ref b)) (F2 : Fld Z h0 a "com/example/eunomia/eunomia/engine/IdSet" "places" "[I" (.ref d)) (F3 : Fld Z h0 a "com/example/eunomia/eunomia/engine/IdSet" "words" "[J" (.ref f)) (V1 : Arv Z h0 b k1 .long (1 : Int32) [(.long c0)] (.long (0 : Int64))) (V2 : Arv Z h0 d k2 .int (2 : Int32) [(.int d0), (.int d1)] (.int (0 : Int32))) (V3 : Arv Z h0 f k3 .long (2 : Int32) [(.long ee0), (.long ee1)] (.long (0 : Int64))) (hs : ((p1).toUInt32 >>> ((6 : Int32) &&& 31).toUInt32).toInt32 = (0 : Int32)) (hbit : ¬ (c0 &&& ((1 : Int64) <<< (p1 &&& 63).toInt64)) = (0 : Int64)) :
    own_Met l Z (⟨"com/example/eunomia/eunomia/engine/IdSet", "contains", "(I)Z"⟩ : MethodName) prog_30_method_3_code 5 (some .boolean) [] ({ frames := 0, cells := 0, slots := 0, locals := 0 } : Room) #[(.ref a), (.int p1)] h0 (fun v h L => v = some (.int (1 : Int32)) ∧ Fr n0 L ∧ h = h0) := by
  refine own_met own_pn6 ?_
  intro p e s m below meth c s₁ hx hby hml hown hnm hret hlk hZ X0 hE0
  have N0 := Fr.nil n0
  refine own_cast (own_ef6_own_rmC_1_2 m a p1) ?_
  refine own_iloadN (n := 1) X0 hx (hb hby d6_0) rfl rfl ?_
  refine own_bipush (n := 3) (z := (6 : Int32)) X0 hx (hb hby d6_1) rfl rfl ?_
  refine own_iushr (n := 4) X0 hx (hb hby d6_3) rfl rfl ?_
  refine own_istoreN (n := 5) (l' := #[.val (.ref a), .val (.int p1), .val (.int ((p1).toUInt32 >>> ((6 : Int32) &&& 31).toUInt32).toInt32), .unset, .unset]) X0 hx (hb hby d6_4) rfl rfl ?_
  rw [hs]
  refine own_iloadN (n := 6) X0 hx (hb hby d6_5) rfl rfl ?_
  refine own_bipush (n := 8) (z := (64 : Int32)) X0 hx (hb hby d6_6) rfl rfl ?_
  refine own_icmpNo (n := 11) X0 hx (hb hby d6_8) (tlt (by decide : (0 : Int32) < (64 : Int32))).2.1 rfl ?_
  refine own_iloadN (n := 12) X0 hx (hb hby d6_11) rfl rfl ?_
  refine own_aloadN (n := 13) X0 hx (hb hby d6_12) rfl rfl rfl ?_
  refine own_getF (n := 16) X0 hx hZ hown (host := "") (Or.inl (ww13 hw)) Via.refl hE0 F1 (hb hby d6_13) rfl ?_
  intro T1 X1 e1
  refine own_len (n := 17) X1 hx hZ e1 V1 (hb hby d6_16) rfl ?_
  refine own_icmpNo (n := 20) X1 hx (hb hby d6_17) (tlt (by decide : (0 : Int32) < (1 : Int32))).2.1 rfl ?_
  refine own_aloadN (n := 21) X1 hx (hb hby d6_20) rfl rfl rfl ?_
  refine own_getF (n := 24) X1 hx hZ hown (host := "") (Or.inl (ww13 hw)) Via.refl e1 F1 (hb hby d6_21) rfl ?_
  intro T2 X2 e2
  refine own_iloadN (n := 25) X2 hx (hb hby d6_24) rfl rfl ?_
  refine own_ld_laload (n := 26) (v := (.long c0)) X2 hx hZ e2 V1 ⟨by decide, by decide⟩ rfl (hb hby d6_25) rfl ?_
  refine own_lconst (n := 27) (z := (1 : Int64)) X2 hx (hb hby d6_26) rfl rfl ?_
  refine own_iloadN (n := 28) X2 hx (hb hby d6_27) rfl rfl ?_
  refine own_lshl (n := 29) X2 hx (hb hby d6_28) rfl rfl ?_
  refine own_land (n := 30) X2 hx (hb hby d6_29) rfl rfl ?_
  refine own_lconst (n := 31) (z := (0 : Int64)) X2 hx (hb hby d6_30) rfl rfl ?_
  refine own_lcmp (n := 32) X2 hx (hb hby d6_31) rfl ?_
  refine own_ifNo (n := 35) X2 hx (hb hby d6_32) (feq (own_lc hbit)).1 rfl ?_
  refine own_iconst (n := 36) (z := (1 : Int32)) X2 hx (hb hby d6_35) rfl rfl ?_
  refine own_goto (n := 40) X2 hx (hb hby d6_36) (by decide) (by decide) ?_
  refine own_istoreN (n := 41) (l' := #[.val (.ref a), .val (.int p1), .val (.int (0 : Int32)), .val (.int (1 : Int32)), .unset]) X2 hx (hb hby d6_40) rfl rfl ?_
  refine own_goto (n := 81) X2 hx (hb hby d6_41) (by decide) (by decide) ?_
  refine own_iloadN (n := 82) X2 hx (hb hby d6_81) rfl rfl ?_
  refine own_retZ X2 hx hlk hret (by simp) e2 (w := (1 : Int32)) rfl (hb hby d6_82) (by decide) (by decide) ?_
  exact ⟨rfl, N0, rfl⟩
theorem own_ef1_own_rmI_2_0 (m : MethodId) (y0 : Addr) (y1 : Addr) (y2 : Addr) (y3 : Addr) : entryFrame m #[(.ref y0), (.ref y1), (.ref y2), (.ref y3)] 4 = mkF m 0 #[.val (.ref y0), .val (.ref y1), .val (.ref y2), .val (.ref y3)] [] := by first | (simp [entryFrame, mkF, argsToLocals, Value.category]; done) | rfl
set_option maxRecDepth 65536 in
set_option maxHeartbeats 40000000 in
theorem own_rmI_2_0 (l : Launch) (Z : State) (a0 : Array Value) (hw : ∀ d ∈ tables_1, d.before a0 Z = true) (a b d f : Addr) (k1 k2 k3 : ClassId) (c0 c1 : Int64)   (h0 : Heap) (n0 : Nat) (Z0 : n0 ≤ h0.size) (E1 : Exa Z h0 a "com/example/eunomia/eunomia/engine/IdSet") (F1 : Fld Z h0 a "com/example/eunomia/eunomia/engine/IdSet" "low" "[J" .null) (F2 : Fld Z h0 a "com/example/eunomia/eunomia/engine/IdSet" "places" "[I" .null) (F3 : Fld Z h0 a "com/example/eunomia/eunomia/engine/IdSet" "words" "[J" .null) (F4 : Fld Z h0 a "com/example/eunomia/eunomia/engine/IdSet" "hash" "I" (.int (0 : Int32))) (V1 : Arv Z h0 b k1 .long (2 : Int32) [(.long c0), (.long c1)] (.long (0 : Int64))) (V2 : Arv Z h0 d k2 .int (0 : Int32) [] (.int (0 : Int32))) (V3 : Arv Z h0 f k3 .long (0 : Int32) [] (.long (0 : Int64))) (E2 : Exa Z h0 d "[I") (g_a : n0 ≤ a) :
    own_Met l Z (⟨"com/example/eunomia/eunomia/engine/IdSet", "<init>", "([J[I[J)V"⟩ : MethodName) prog_30_method_1_code 4 none [] ({ frames := 1, cells := 0, slots := 0, locals := 22 } : Room) #[(.ref a), (.ref b), (.ref d), (.ref f)] h0 (fun v h L => v = none ∧ Fr n0 L ∧ Keep h0 h [a] ∧ Exa Z h a "com/example/eunomia/eunomia/engine/IdSet" ∧ Fld Z h a "com/example/eunomia/eunomia/engine/IdSet" "low" "[J" (.ref b) ∧ Fld Z h a "com/example/eunomia/eunomia/engine/IdSet" "places" "[I" (.ref d) ∧ Fld Z h a "com/example/eunomia/eunomia/engine/IdSet" "words" "[J" (.ref f)) := by
  refine own_met own_pn1 ?_
  intro p e s m below meth c s₁ hx hby hml hown hnm hret hlk hZ X0 hE0
  have N0 := Fr.nil n0
  refine own_cast (own_ef1_own_rmI_2_0 m a b d f) ?_
  refine own_aloadN (n := 1) X0 hx (hb hby d1_0) rfl rfl rfl ?_
  refine own_initO (n := 4) X0 hx hZ hown (ww10 hw) (ww11 hw) (ww12 hw) hE0 (by rw [hml]; rfl) (hb hby d1_1) (Nat.le_of_ble_eq_true rfl) (Nat.le_of_ble_eq_true rfl) rfl ?_
  intro T1 X1 e1
  refine own_aloadN (n := 5) X1 hx (hb hby d1_4) rfl rfl rfl ?_
  refine own_aloadN (n := 6) X1 hx (hb hby d1_5) rfl rfl rfl ?_
  refine own_putF (n := 9) X1 hx hZ hown (host := "") (Or.inl (ww13 hw)) Via.refl e1 F1 E1 (Or.inr ⟨(ww14 hw), rfl, hnm⟩) (ww5 hw) (ty := (.array .long)) (by decide) rfl rfl (hb hby d1_6) rfl ?_
  intro T2 h2 X2 e2 W2
  have F_3 := F1.same W2
  have N2 := Fr.snoc X2 N0 g_a
  have E_4 := E1.wr W2
  have F_5 := F2.other W2 (Or.inr (slot_ne (Or.inr (ww16 hw)) (Or.inr (ww14 hw)) (by decide) (t := (.array .int)) (t' := (.array .long)) (by decide) (by decide)))
  have F_6 := F3.other W2 (Or.inr (slot_ne (Or.inr (ww18 hw)) (Or.inr (ww14 hw)) (by decide) (t := (.array .long)) (t' := (.array .long)) (by decide) (by decide)))
  have F_7 := F4.other W2 (Or.inr (slot_ne (Or.inr (ww27 hw)) (Or.inr (ww14 hw)) (by decide) (t := .int) (t' := (.array .long)) (by decide) (by decide)))
  have A_8 := V1.other W2 (Ne.symm (own_neEA E1 (ww5 hw) V1))
  have A_9 := V2.other W2 (Ne.symm (own_neEA E1 (ww5 hw) V2))
  have A_10 := V3.other W2 (Ne.symm (own_neEA E1 (ww5 hw) V3))
  have E_11 := E2.wr W2
  have K_12 := (Keep.refl h0 [a]).wr W2 (Or.inl (by simp))
  have Z_13 : n0 ≤ h2.size := by rw [W2.size]; exact Z0
  refine own_aloadN (n := 10) X2 hx (hb hby d1_9) rfl rfl rfl ?_
  refine own_aloadN (n := 11) X2 hx (hb hby d1_10) rfl rfl rfl ?_
  refine own_putF (n := 14) X2 hx hZ hown (host := "") (Or.inl (ww15 hw)) Via.refl e2 F_5 E_4 (Or.inr ⟨(ww16 hw), rfl, hnm⟩) (ww5 hw) (ty := (.array .int)) (by decide) rfl rfl (hb hby d1_11) rfl ?_
  intro T14 h14 X14 e14 W14
  have F_15 := F_5.same W14
  have N14 := Fr.snoc X14 N2 g_a
  have E_16 := E_4.wr W14
  have F_17 := F_6.other W14 (Or.inr (slot_ne (Or.inr (ww18 hw)) (Or.inr (ww16 hw)) (by decide) (t := (.array .long)) (t' := (.array .int)) (by decide) (by decide)))
  have F_18 := F_7.other W14 (Or.inr (slot_ne (Or.inr (ww27 hw)) (Or.inr (ww16 hw)) (by decide) (t := .int) (t' := (.array .int)) (by decide) (by decide)))
  have A_19 := A_8.other W14 (Ne.symm (own_neEA E_4 (ww5 hw) A_8))
  have A_20 := A_9.other W14 (Ne.symm (own_neEA E_4 (ww5 hw) A_9))
  have A_21 := A_10.other W14 (Ne.symm (own_neEA E_4 (ww5 hw) A_10))
  have E_22 := E_11.wr W14
  have K_23 := K_12.wr W14 (Or.inl (by simp))
  have F_24 := F_3.other W14 (Or.inr (slot_ne (Or.inr (ww14 hw)) (Or.inr (ww16 hw)) (by decide) (t := (.array .long)) (t' := (.array .int)) (by decide) (by decide)))
  have Z_25 : n0 ≤ h14.size := by rw [W14.size]; exact Z_13
  refine own_aloadN (n := 15) X14 hx (hb hby d1_14) rfl rfl rfl ?_
  refine own_aloadN (n := 16) X14 hx (hb hby d1_15) rfl rfl rfl ?_
  refine own_putF (n := 19) X14 hx hZ hown (host := "") (Or.inl (ww17 hw)) Via.refl e14 F_17 E_16 (Or.inr ⟨(ww18 hw), rfl, hnm⟩) (ww5 hw) (ty := (.array .long)) (by decide) rfl rfl (hb hby d1_16) rfl ?_
  intro T26 h26 X26 e26 W26
  have F_27 := F_17.same W26
  have N26 := Fr.snoc X26 N14 g_a
  have E_28 := E_16.wr W26
  have F_29 := F_18.other W26 (Or.inr (slot_ne (Or.inr (ww27 hw)) (Or.inr (ww18 hw)) (by decide) (t := .int) (t' := (.array .long)) (by decide) (by decide)))
  have A_30 := A_19.other W26 (Ne.symm (own_neEA E_16 (ww5 hw) A_19))
  have A_31 := A_20.other W26 (Ne.symm (own_neEA E_16 (ww5 hw) A_20))
  have A_32 := A_21.other W26 (Ne.symm (own_neEA E_16 (ww5 hw) A_21))
  have E_33 := E_22.wr W26
  have K_34 := K_23.wr W26 (Or.inl (by simp))
  have F_35 := F_24.other W26 (Or.inr (slot_ne (Or.inr (ww14 hw)) (Or.inr (ww18 hw)) (by decide) (t := (.array .long)) (t' := (.array .long)) (by decide) (by decide)))
  have F_36 := F_15.other W26 (Or.inr (slot_ne (Or.inr (ww16 hw)) (Or.inr (ww18 hw)) (by decide) (t := (.array .int)) (t' := (.array .long)) (by decide) (by decide)))
  have Z_37 : n0 ≤ h26.size := by rw [W26.size]; exact Z_25
  refine own_aloadN (n := 20) X26 hx (hb hby d1_19) rfl rfl rfl ?_
  refine own_bipush (n := 22) (z := (31 : Int32)) X26 hx (hb hby d1_20) rfl rfl ?_
  refine own_bipush (n := 24) (z := (31 : Int32)) X26 hx (hb hby d1_22) rfl rfl ?_
  refine own_aloadN (n := 25) X26 hx (hb hby d1_24) rfl rfl rfl ?_
  refine own_S (n := 28) (argsL := [(.ref b)]) (rest := [(.int (31 : Int32)), (.int (31 : Int32)), (.ref a)]) X26 hx hZ hown (own_rmJ2 l Z a0 hw b k1 c0 c1 h26 n0 Z_37 A_30 ) (ww19 hw) (ww20 hw) (ww21 hw) (ww22 hw) (by decide) e26 (by rw [hml]; rfl) (lenOf own_pd0 rfl) rfl (hb hby d1_25) (Nat.le_of_ble_eq_true rfl) (Nat.le_of_ble_eq_true rfl) (Nat.le_of_ble_eq_true rfl) (Nat.le_of_ble_eq_true rfl) rfl ?_
  rintro v38 T38 L38 X38 ⟨z38, rfl, Nq38, eq38⟩
  have N38 := Fr.app N26 Nq38
  change own_G p e below _ _ (mkF m 28 _ [(.int z38), (.int (31 : Int32)), (.int (31 : Int32)), (.ref a)])
  refine own_imul (n := 29) X38 hx (hb hby d1_28) rfl rfl ?_
  refine own_aloadN (n := 30) X38 hx (hb hby d1_29) rfl rfl rfl ?_
  refine own_S (n := 33) (argsL := [(.ref d)]) (rest := [(.int ((31 : Int32) * z38)), (.int (31 : Int32)), (.ref a)]) X38 hx hZ hown (own_rmA0 l Z a0 hw d k2  h26 n0 Z_37 A_31 E_33) (ww23 hw) (ww24 hw) (ww21 hw) (ww25 hw) (by decide) eq38 (by rw [hml]; rfl) (lenOf own_pd1 rfl) rfl (hb hby d1_30) (Nat.le_of_ble_eq_true rfl) (Nat.le_of_ble_eq_true rfl) (Nat.le_of_ble_eq_true rfl) (Nat.le_of_ble_eq_true rfl) rfl ?_
  rintro v39 T39 L39 X39 ⟨z39, rfl, Nq39, eq39⟩
  have N39 := Fr.app N38 Nq39
  change own_G p e below _ _ (mkF m 33 _ [(.int z39), (.int ((31 : Int32) * z38)), (.int (31 : Int32)), (.ref a)])
  refine own_iadd (n := 34) X39 hx (hb hby d1_33) rfl rfl ?_
  refine own_imul (n := 35) X39 hx (hb hby d1_34) rfl rfl ?_
  refine own_aloadN (n := 36) X39 hx (hb hby d1_35) rfl rfl rfl ?_
  refine own_S (n := 39) (argsL := [(.ref f)]) (rest := [(.int ((31 : Int32) * (((31 : Int32) * z38) + z39))), (.ref a)]) X39 hx hZ hown (own_rmJ0 l Z a0 hw f k3  h26 n0 Z_37 A_32 ) (ww19 hw) (ww20 hw) (ww21 hw) (ww22 hw) (by decide) eq39 (by rw [hml]; rfl) (lenOf own_pd0 rfl) rfl (hb hby d1_36) (Nat.le_of_ble_eq_true rfl) (Nat.le_of_ble_eq_true rfl) (Nat.le_of_ble_eq_true rfl) (Nat.le_of_ble_eq_true rfl) rfl ?_
  rintro v40 T40 L40 X40 ⟨z40, rfl, Nq40, eq40⟩
  have N40 := Fr.app N39 Nq40
  change own_G p e below _ _ (mkF m 39 _ [(.int z40), (.int ((31 : Int32) * (((31 : Int32) * z38) + z39))), (.ref a)])
  refine own_iadd (n := 40) X40 hx (hb hby d1_39) rfl rfl ?_
  refine own_putF (n := 43) X40 hx hZ hown (host := "") (Or.inl (ww26 hw)) Via.refl eq40 F_29 E_28 (Or.inr ⟨(ww27 hw), rfl, hnm⟩) (ww5 hw) (ty := .int) (by decide) rfl rfl (hb hby d1_40) rfl ?_
  intro T41 h41 X41 e41 W41
  have F_42 := F_29.same W41
  have N41 := Fr.snoc X41 N40 g_a
  have E_43 := E_28.wr W41
  have A_44 := A_30.other W41 (Ne.symm (own_neEA E_28 (ww5 hw) A_30))
  have A_45 := A_31.other W41 (Ne.symm (own_neEA E_28 (ww5 hw) A_31))
  have A_46 := A_32.other W41 (Ne.symm (own_neEA E_28 (ww5 hw) A_32))
  have E_47 := E_33.wr W41
  have K_48 := K_34.wr W41 (Or.inl (by simp))
  have F_49 := F_35.other W41 (Or.inr (slot_ne (Or.inr (ww14 hw)) (Or.inr (ww27 hw)) (by decide) (t := (.array .long)) (t' := .int) (by decide) (by decide)))
  have F_50 := F_36.other W41 (Or.inr (slot_ne (Or.inr (ww16 hw)) (Or.inr (ww27 hw)) (by decide) (t := (.array .int)) (t' := .int) (by decide) (by decide)))
  have F_51 := F_27.other W41 (Or.inr (slot_ne (Or.inr (ww18 hw)) (Or.inr (ww27 hw)) (by decide) (t := (.array .long)) (t' := .int) (by decide) (by decide)))
  have Z_52 : n0 ≤ h41.size := by rw [W41.size]; exact Z_37
  refine own_retV X41 hx hlk hret e41 (hb hby d1_43) (by decide) (by decide) ?_
  exact ⟨rfl, N41, K_48, E_43, F_49, F_50, F_51⟩
theorem own_ef5_own_rmE_2_0 (m : MethodId) (y0 : Addr) : entryFrame m #[(.ref y0)] 1 = mkF m 0 #[.val (.ref y0)] [] := by first | (simp [entryFrame, mkF, argsToLocals, Value.category]; done) | rfl
set_option maxRecDepth 65536 in
set_option maxHeartbeats 40000000 in
theorem own_rmE_2_0 (l : Launch) (Z : State) (a0 : Array Value) (hw : ∀ d ∈ tables_1, d.before a0 Z = true) (a b d f : Addr) (k1 k2 k3 : ClassId) (c0 c1 : Int64)   (h0 : Heap) (n0 : Nat) (Z0 : n0 ≤ h0.size) (F1 : Fld Z h0 a "com/example/eunomia/eunomia/engine/IdSet" "low" "[J" (.ref b)) (F2 : Fld Z h0 a "com/example/eunomia/eunomia/engine/IdSet" "places" "[I" (.ref d)) (F3 : Fld Z h0 a "com/example/eunomia/eunomia/engine/IdSet" "words" "[J" (.ref f)) (V1 : Arv Z h0 b k1 .long (2 : Int32) [(.long c0), (.long c1)] (.long (0 : Int64))) (V2 : Arv Z h0 d k2 .int (0 : Int32) [] (.int (0 : Int32))) (V3 : Arv Z h0 f k3 .long (0 : Int32) [] (.long (0 : Int64))) :
    own_Met l Z (⟨"com/example/eunomia/eunomia/engine/IdSet", "isEmpty", "()Z"⟩ : MethodName) prog_30_method_4_code 1 (some .boolean) [] ({ frames := 0, cells := 0, slots := 0, locals := 0 } : Room) #[(.ref a)] h0 (fun v h L => v = some (.int (0 : Int32)) ∧ Fr n0 L ∧ h = h0) := by
  refine own_met own_pn5 ?_
  intro p e s m below meth c s₁ hx hby hml hown hnm hret hlk hZ X0 hE0
  have N0 := Fr.nil n0
  refine own_cast (own_ef5_own_rmE_2_0 m a) ?_
  refine own_aloadN (n := 1) X0 hx (hb hby d5_0) rfl rfl rfl ?_
  refine own_getF (n := 4) X0 hx hZ hown (host := "") (Or.inl (ww13 hw)) Via.refl hE0 F1 (hb hby d5_1) rfl ?_
  intro T1 X1 e1
  refine own_len (n := 5) X1 hx hZ e1 V1 (hb hby d5_4) rfl ?_
  refine own_ifYes (n := 20) X1 hx (hb hby d5_5) (feq (by decide : ¬ ((2 : Int32) = (0 : Int32)))).2 (by decide) (by decide) ?_
  refine own_iconst (n := 21) (z := (0 : Int32)) X1 hx (hb hby d5_20) rfl rfl ?_
  refine own_retZ X1 hx hlk hret (by simp) e1 (w := (0 : Int32)) rfl (hb hby d5_21) (by decide) (by decide) ?_
  exact ⟨rfl, N0, rfl⟩
theorem own_ef6_own_rmC_2_0 (m : MethodId) (y0 : Addr) (y1 : Int32) : entryFrame m #[(.ref y0), (.int y1)] 5 = mkF m 0 #[.val (.ref y0), .val (.int y1), .unset, .unset, .unset] [] := by first | (simp [entryFrame, mkF, argsToLocals, Value.category]; done) | rfl
set_option maxRecDepth 65536 in
set_option maxHeartbeats 40000000 in
theorem own_rmC_2_0 (l : Launch) (Z : State) (a0 : Array Value) (hw : ∀ d ∈ tables_1, d.before a0 Z = true) (a b d f : Addr) (k1 k2 k3 : ClassId) (c0 c1 : Int64)   (p1 : Int32) (h0 : Heap) (n0 : Nat) (Z0 : n0 ≤ h0.size) (F1 : Fld Z h0 a "com/example/eunomia/eunomia/engine/IdSet" "low" "[J" (.ref b)) (F2 : Fld Z h0 a "com/example/eunomia/eunomia/engine/IdSet" "places" "[I" (.ref d)) (F3 : Fld Z h0 a "com/example/eunomia/eunomia/engine/IdSet" "words" "[J" (.ref f)) (V1 : Arv Z h0 b k1 .long (2 : Int32) [(.long c0), (.long c1)] (.long (0 : Int64))) (V2 : Arv Z h0 d k2 .int (0 : Int32) [] (.int (0 : Int32))) (V3 : Arv Z h0 f k3 .long (0 : Int32) [] (.long (0 : Int64))) (hs : ((p1).toUInt32 >>> ((6 : Int32) &&& 31).toUInt32).toInt32 = (1 : Int32)) (hbit : ¬ (c1 &&& ((1 : Int64) <<< (p1 &&& 63).toInt64)) = (0 : Int64)) :
    own_Met l Z (⟨"com/example/eunomia/eunomia/engine/IdSet", "contains", "(I)Z"⟩ : MethodName) prog_30_method_3_code 5 (some .boolean) [] ({ frames := 0, cells := 0, slots := 0, locals := 0 } : Room) #[(.ref a), (.int p1)] h0 (fun v h L => v = some (.int (1 : Int32)) ∧ Fr n0 L ∧ h = h0) := by
  refine own_met own_pn6 ?_
  intro p e s m below meth c s₁ hx hby hml hown hnm hret hlk hZ X0 hE0
  have N0 := Fr.nil n0
  refine own_cast (own_ef6_own_rmC_2_0 m a p1) ?_
  refine own_iloadN (n := 1) X0 hx (hb hby d6_0) rfl rfl ?_
  refine own_bipush (n := 3) (z := (6 : Int32)) X0 hx (hb hby d6_1) rfl rfl ?_
  refine own_iushr (n := 4) X0 hx (hb hby d6_3) rfl rfl ?_
  refine own_istoreN (n := 5) (l' := #[.val (.ref a), .val (.int p1), .val (.int ((p1).toUInt32 >>> ((6 : Int32) &&& 31).toUInt32).toInt32), .unset, .unset]) X0 hx (hb hby d6_4) rfl rfl ?_
  rw [hs]
  refine own_iloadN (n := 6) X0 hx (hb hby d6_5) rfl rfl ?_
  refine own_bipush (n := 8) (z := (64 : Int32)) X0 hx (hb hby d6_6) rfl rfl ?_
  refine own_icmpNo (n := 11) X0 hx (hb hby d6_8) (tlt (by decide : (1 : Int32) < (64 : Int32))).2.1 rfl ?_
  refine own_iloadN (n := 12) X0 hx (hb hby d6_11) rfl rfl ?_
  refine own_aloadN (n := 13) X0 hx (hb hby d6_12) rfl rfl rfl ?_
  refine own_getF (n := 16) X0 hx hZ hown (host := "") (Or.inl (ww13 hw)) Via.refl hE0 F1 (hb hby d6_13) rfl ?_
  intro T1 X1 e1
  refine own_len (n := 17) X1 hx hZ e1 V1 (hb hby d6_16) rfl ?_
  refine own_icmpNo (n := 20) X1 hx (hb hby d6_17) (tlt (by decide : (1 : Int32) < (2 : Int32))).2.1 rfl ?_
  refine own_aloadN (n := 21) X1 hx (hb hby d6_20) rfl rfl rfl ?_
  refine own_getF (n := 24) X1 hx hZ hown (host := "") (Or.inl (ww13 hw)) Via.refl e1 F1 (hb hby d6_21) rfl ?_
  intro T2 X2 e2
  refine own_iloadN (n := 25) X2 hx (hb hby d6_24) rfl rfl ?_
  refine own_ld_laload (n := 26) (v := (.long c1)) X2 hx hZ e2 V1 ⟨by decide, by decide⟩ rfl (hb hby d6_25) rfl ?_
  refine own_lconst (n := 27) (z := (1 : Int64)) X2 hx (hb hby d6_26) rfl rfl ?_
  refine own_iloadN (n := 28) X2 hx (hb hby d6_27) rfl rfl ?_
  refine own_lshl (n := 29) X2 hx (hb hby d6_28) rfl rfl ?_
  refine own_land (n := 30) X2 hx (hb hby d6_29) rfl rfl ?_
  refine own_lconst (n := 31) (z := (0 : Int64)) X2 hx (hb hby d6_30) rfl rfl ?_
  refine own_lcmp (n := 32) X2 hx (hb hby d6_31) rfl ?_
  refine own_ifNo (n := 35) X2 hx (hb hby d6_32) (feq (own_lc hbit)).1 rfl ?_
  refine own_iconst (n := 36) (z := (1 : Int32)) X2 hx (hb hby d6_35) rfl rfl ?_
  refine own_goto (n := 40) X2 hx (hb hby d6_36) (by decide) (by decide) ?_
  refine own_istoreN (n := 41) (l' := #[.val (.ref a), .val (.int p1), .val (.int (1 : Int32)), .val (.int (1 : Int32)), .unset]) X2 hx (hb hby d6_40) rfl rfl ?_
  refine own_goto (n := 81) X2 hx (hb hby d6_41) (by decide) (by decide) ?_
  refine own_iloadN (n := 82) X2 hx (hb hby d6_81) rfl rfl ?_
  refine own_retZ X2 hx hlk hret (by simp) e2 (w := (1 : Int32)) rfl (hb hby d6_82) (by decide) (by decide) ?_
  exact ⟨rfl, N0, rfl⟩
theorem own_ef1_own_rmI_2_1 (m : MethodId) (y0 : Addr) (y1 : Addr) (y2 : Addr) (y3 : Addr) : entryFrame m #[(.ref y0), (.ref y1), (.ref y2), (.ref y3)] 4 = mkF m 0 #[.val (.ref y0), .val (.ref y1), .val (.ref y2), .val (.ref y3)] [] := by first | (simp [entryFrame, mkF, argsToLocals, Value.category]; done) | rfl
set_option maxRecDepth 65536 in
set_option maxHeartbeats 40000000 in
theorem own_rmI_2_1 (l : Launch) (Z : State) (a0 : Array Value) (hw : ∀ d ∈ tables_1, d.before a0 Z = true) (a b d f : Addr) (k1 k2 k3 : ClassId) (c0 c1 : Int64) (d0 : Int32) (ee0 : Int64) (h0 : Heap) (n0 : Nat) (Z0 : n0 ≤ h0.size) (E1 : Exa Z h0 a "com/example/eunomia/eunomia/engine/IdSet") (F1 : Fld Z h0 a "com/example/eunomia/eunomia/engine/IdSet" "low" "[J" .null) (F2 : Fld Z h0 a "com/example/eunomia/eunomia/engine/IdSet" "places" "[I" .null) (F3 : Fld Z h0 a "com/example/eunomia/eunomia/engine/IdSet" "words" "[J" .null) (F4 : Fld Z h0 a "com/example/eunomia/eunomia/engine/IdSet" "hash" "I" (.int (0 : Int32))) (V1 : Arv Z h0 b k1 .long (2 : Int32) [(.long c0), (.long c1)] (.long (0 : Int64))) (V2 : Arv Z h0 d k2 .int (1 : Int32) [(.int d0)] (.int (0 : Int32))) (V3 : Arv Z h0 f k3 .long (1 : Int32) [(.long ee0)] (.long (0 : Int64))) (E2 : Exa Z h0 d "[I") (g_a : n0 ≤ a) :
    own_Met l Z (⟨"com/example/eunomia/eunomia/engine/IdSet", "<init>", "([J[I[J)V"⟩ : MethodName) prog_30_method_1_code 4 none [] ({ frames := 1, cells := 0, slots := 0, locals := 22 } : Room) #[(.ref a), (.ref b), (.ref d), (.ref f)] h0 (fun v h L => v = none ∧ Fr n0 L ∧ Keep h0 h [a] ∧ Exa Z h a "com/example/eunomia/eunomia/engine/IdSet" ∧ Fld Z h a "com/example/eunomia/eunomia/engine/IdSet" "low" "[J" (.ref b) ∧ Fld Z h a "com/example/eunomia/eunomia/engine/IdSet" "places" "[I" (.ref d) ∧ Fld Z h a "com/example/eunomia/eunomia/engine/IdSet" "words" "[J" (.ref f)) := by
  refine own_met own_pn1 ?_
  intro p e s m below meth c s₁ hx hby hml hown hnm hret hlk hZ X0 hE0
  have N0 := Fr.nil n0
  refine own_cast (own_ef1_own_rmI_2_1 m a b d f) ?_
  refine own_aloadN (n := 1) X0 hx (hb hby d1_0) rfl rfl rfl ?_
  refine own_initO (n := 4) X0 hx hZ hown (ww10 hw) (ww11 hw) (ww12 hw) hE0 (by rw [hml]; rfl) (hb hby d1_1) (Nat.le_of_ble_eq_true rfl) (Nat.le_of_ble_eq_true rfl) rfl ?_
  intro T1 X1 e1
  refine own_aloadN (n := 5) X1 hx (hb hby d1_4) rfl rfl rfl ?_
  refine own_aloadN (n := 6) X1 hx (hb hby d1_5) rfl rfl rfl ?_
  refine own_putF (n := 9) X1 hx hZ hown (host := "") (Or.inl (ww13 hw)) Via.refl e1 F1 E1 (Or.inr ⟨(ww14 hw), rfl, hnm⟩) (ww5 hw) (ty := (.array .long)) (by decide) rfl rfl (hb hby d1_6) rfl ?_
  intro T2 h2 X2 e2 W2
  have F_3 := F1.same W2
  have N2 := Fr.snoc X2 N0 g_a
  have E_4 := E1.wr W2
  have F_5 := F2.other W2 (Or.inr (slot_ne (Or.inr (ww16 hw)) (Or.inr (ww14 hw)) (by decide) (t := (.array .int)) (t' := (.array .long)) (by decide) (by decide)))
  have F_6 := F3.other W2 (Or.inr (slot_ne (Or.inr (ww18 hw)) (Or.inr (ww14 hw)) (by decide) (t := (.array .long)) (t' := (.array .long)) (by decide) (by decide)))
  have F_7 := F4.other W2 (Or.inr (slot_ne (Or.inr (ww27 hw)) (Or.inr (ww14 hw)) (by decide) (t := .int) (t' := (.array .long)) (by decide) (by decide)))
  have A_8 := V1.other W2 (Ne.symm (own_neEA E1 (ww5 hw) V1))
  have A_9 := V2.other W2 (Ne.symm (own_neEA E1 (ww5 hw) V2))
  have A_10 := V3.other W2 (Ne.symm (own_neEA E1 (ww5 hw) V3))
  have E_11 := E2.wr W2
  have K_12 := (Keep.refl h0 [a]).wr W2 (Or.inl (by simp))
  have Z_13 : n0 ≤ h2.size := by rw [W2.size]; exact Z0
  refine own_aloadN (n := 10) X2 hx (hb hby d1_9) rfl rfl rfl ?_
  refine own_aloadN (n := 11) X2 hx (hb hby d1_10) rfl rfl rfl ?_
  refine own_putF (n := 14) X2 hx hZ hown (host := "") (Or.inl (ww15 hw)) Via.refl e2 F_5 E_4 (Or.inr ⟨(ww16 hw), rfl, hnm⟩) (ww5 hw) (ty := (.array .int)) (by decide) rfl rfl (hb hby d1_11) rfl ?_
  intro T14 h14 X14 e14 W14
  have F_15 := F_5.same W14
  have N14 := Fr.snoc X14 N2 g_a
  have E_16 := E_4.wr W14
  have F_17 := F_6.other W14 (Or.inr (slot_ne (Or.inr (ww18 hw)) (Or.inr (ww16 hw)) (by decide) (t := (.array .long)) (t' := (.array .int)) (by decide) (by decide)))
  have F_18 := F_7.other W14 (Or.inr (slot_ne (Or.inr (ww27 hw)) (Or.inr (ww16 hw)) (by decide) (t := .int) (t' := (.array .int)) (by decide) (by decide)))
  have A_19 := A_8.other W14 (Ne.symm (own_neEA E_4 (ww5 hw) A_8))
  have A_20 := A_9.other W14 (Ne.symm (own_neEA E_4 (ww5 hw) A_9))
  have A_21 := A_10.other W14 (Ne.symm (own_neEA E_4 (ww5 hw) A_10))
  have E_22 := E_11.wr W14
  have K_23 := K_12.wr W14 (Or.inl (by simp))
  have F_24 := F_3.other W14 (Or.inr (slot_ne (Or.inr (ww14 hw)) (Or.inr (ww16 hw)) (by decide) (t := (.array .long)) (t' := (.array .int)) (by decide) (by decide)))
  have Z_25 : n0 ≤ h14.size := by rw [W14.size]; exact Z_13
  refine own_aloadN (n := 15) X14 hx (hb hby d1_14) rfl rfl rfl ?_
  refine own_aloadN (n := 16) X14 hx (hb hby d1_15) rfl rfl rfl ?_
  refine own_putF (n := 19) X14 hx hZ hown (host := "") (Or.inl (ww17 hw)) Via.refl e14 F_17 E_16 (Or.inr ⟨(ww18 hw), rfl, hnm⟩) (ww5 hw) (ty := (.array .long)) (by decide) rfl rfl (hb hby d1_16) rfl ?_
  intro T26 h26 X26 e26 W26
  have F_27 := F_17.same W26
  have N26 := Fr.snoc X26 N14 g_a
  have E_28 := E_16.wr W26
  have F_29 := F_18.other W26 (Or.inr (slot_ne (Or.inr (ww27 hw)) (Or.inr (ww18 hw)) (by decide) (t := .int) (t' := (.array .long)) (by decide) (by decide)))
  have A_30 := A_19.other W26 (Ne.symm (own_neEA E_16 (ww5 hw) A_19))
  have A_31 := A_20.other W26 (Ne.symm (own_neEA E_16 (ww5 hw) A_20))
  have A_32 := A_21.other W26 (Ne.symm (own_neEA E_16 (ww5 hw) A_21))
  have E_33 := E_22.wr W26
  have K_34 := K_23.wr W26 (Or.inl (by simp))
  have F_35 := F_24.other W26 (Or.inr (slot_ne (Or.inr (ww14 hw)) (Or.inr (ww18 hw)) (by decide) (t := (.array .long)) (t' := (.array .long)) (by decide) (by decide)))
  have F_36 := F_15.other W26 (Or.inr (slot_ne (Or.inr (ww16 hw)) (Or.inr (ww18 hw)) (by decide) (t := (.array .int)) (t' := (.array .long)) (by decide) (by decide)))
  have Z_37 : n0 ≤ h26.size := by rw [W26.size]; exact Z_25
  refine own_aloadN (n := 20) X26 hx (hb hby d1_19) rfl rfl rfl ?_
  refine own_bipush (n := 22) (z := (31 : Int32)) X26 hx (hb hby d1_20) rfl rfl ?_
  refine own_bipush (n := 24) (z := (31 : Int32)) X26 hx (hb hby d1_22) rfl rfl ?_
  refine own_aloadN (n := 25) X26 hx (hb hby d1_24) rfl rfl rfl ?_
  refine own_S (n := 28) (argsL := [(.ref b)]) (rest := [(.int (31 : Int32)), (.int (31 : Int32)), (.ref a)]) X26 hx hZ hown (own_rmJ2 l Z a0 hw b k1 c0 c1 h26 n0 Z_37 A_30 ) (ww19 hw) (ww20 hw) (ww21 hw) (ww22 hw) (by decide) e26 (by rw [hml]; rfl) (lenOf own_pd0 rfl) rfl (hb hby d1_25) (Nat.le_of_ble_eq_true rfl) (Nat.le_of_ble_eq_true rfl) (Nat.le_of_ble_eq_true rfl) (Nat.le_of_ble_eq_true rfl) rfl ?_
  rintro v38 T38 L38 X38 ⟨z38, rfl, Nq38, eq38⟩
  have N38 := Fr.app N26 Nq38
  change own_G p e below _ _ (mkF m 28 _ [(.int z38), (.int (31 : Int32)), (.int (31 : Int32)), (.ref a)])
  refine own_imul (n := 29) X38 hx (hb hby d1_28) rfl rfl ?_
  refine own_aloadN (n := 30) X38 hx (hb hby d1_29) rfl rfl rfl ?_
  refine own_S (n := 33) (argsL := [(.ref d)]) (rest := [(.int ((31 : Int32) * z38)), (.int (31 : Int32)), (.ref a)]) X38 hx hZ hown (own_rmA1 l Z a0 hw d k2 d0 h26 n0 Z_37 A_31 E_33) (ww23 hw) (ww24 hw) (ww21 hw) (ww25 hw) (by decide) eq38 (by rw [hml]; rfl) (lenOf own_pd1 rfl) rfl (hb hby d1_30) (Nat.le_of_ble_eq_true rfl) (Nat.le_of_ble_eq_true rfl) (Nat.le_of_ble_eq_true rfl) (Nat.le_of_ble_eq_true rfl) rfl ?_
  rintro v39 T39 L39 X39 ⟨z39, rfl, Nq39, eq39⟩
  have N39 := Fr.app N38 Nq39
  change own_G p e below _ _ (mkF m 33 _ [(.int z39), (.int ((31 : Int32) * z38)), (.int (31 : Int32)), (.ref a)])
  refine own_iadd (n := 34) X39 hx (hb hby d1_33) rfl rfl ?_
  refine own_imul (n := 35) X39 hx (hb hby d1_34) rfl rfl ?_
  refine own_aloadN (n := 36) X39 hx (hb hby d1_35) rfl rfl rfl ?_
  refine own_S (n := 39) (argsL := [(.ref f)]) (rest := [(.int ((31 : Int32) * (((31 : Int32) * z38) + z39))), (.ref a)]) X39 hx hZ hown (own_rmJ1 l Z a0 hw f k3 ee0 h26 n0 Z_37 A_32 ) (ww19 hw) (ww20 hw) (ww21 hw) (ww22 hw) (by decide) eq39 (by rw [hml]; rfl) (lenOf own_pd0 rfl) rfl (hb hby d1_36) (Nat.le_of_ble_eq_true rfl) (Nat.le_of_ble_eq_true rfl) (Nat.le_of_ble_eq_true rfl) (Nat.le_of_ble_eq_true rfl) rfl ?_
  rintro v40 T40 L40 X40 ⟨z40, rfl, Nq40, eq40⟩
  have N40 := Fr.app N39 Nq40
  change own_G p e below _ _ (mkF m 39 _ [(.int z40), (.int ((31 : Int32) * (((31 : Int32) * z38) + z39))), (.ref a)])
  refine own_iadd (n := 40) X40 hx (hb hby d1_39) rfl rfl ?_
  refine own_putF (n := 43) X40 hx hZ hown (host := "") (Or.inl (ww26 hw)) Via.refl eq40 F_29 E_28 (Or.inr ⟨(ww27 hw), rfl, hnm⟩) (ww5 hw) (ty := .int) (by decide) rfl rfl (hb hby d1_40) rfl ?_
  intro T41 h41 X41 e41 W41
  have F_42 := F_29.same W41
  have N41 := Fr.snoc X41 N40 g_a
  have E_43 := E_28.wr W41
  have A_44 := A_30.other W41 (Ne.symm (own_neEA E_28 (ww5 hw) A_30))
  have A_45 := A_31.other W41 (Ne.symm (own_neEA E_28 (ww5 hw) A_31))
  have A_46 := A_32.other W41 (Ne.symm (own_neEA E_28 (ww5 hw) A_32))
  have E_47 := E_33.wr W41
  have K_48 := K_34.wr W41 (Or.inl (by simp))
  have F_49 := F_35.other W41 (Or.inr (slot_ne (Or.inr (ww14 hw)) (Or.inr (ww27 hw)) (by decide) (t := (.array .long)) (t' := .int) (by decide) (by decide)))
  have F_50 := F_36.other W41 (Or.inr (slot_ne (Or.inr (ww16 hw)) (Or.inr (ww27 hw)) (by decide) (t := (.array .int)) (t' := .int) (by decide) (by decide)))
  have F_51 := F_27.other W41 (Or.inr (slot_ne (Or.inr (ww18 hw)) (Or.inr (ww27 hw)) (by decide) (t := (.array .long)) (t' := .int) (by decide) (by decide)))
  have Z_52 : n0 ≤ h41.size := by rw [W41.size]; exact Z_37
  refine own_retV X41 hx hlk hret e41 (hb hby d1_43) (by decide) (by decide) ?_
  exact ⟨rfl, N41, K_48, E_43, F_49, F_50, F_51⟩
theorem own_ef5_own_rmE_2_1 (m : MethodId) (y0 : Addr) : entryFrame m #[(.ref y0)] 1 = mkF m 0 #[.val (.ref y0)] [] := by first | (simp [entryFrame, mkF, argsToLocals, Value.category]; done) | rfl
set_option maxRecDepth 65536 in
set_option maxHeartbeats 40000000 in
theorem own_rmE_2_1 (l : Launch) (Z : State) (a0 : Array Value) (hw : ∀ d ∈ tables_1, d.before a0 Z = true) (a b d f : Addr) (k1 k2 k3 : ClassId) (c0 c1 : Int64) (d0 : Int32) (ee0 : Int64) (h0 : Heap) (n0 : Nat) (Z0 : n0 ≤ h0.size) (F1 : Fld Z h0 a "com/example/eunomia/eunomia/engine/IdSet" "low" "[J" (.ref b)) (F2 : Fld Z h0 a "com/example/eunomia/eunomia/engine/IdSet" "places" "[I" (.ref d)) (F3 : Fld Z h0 a "com/example/eunomia/eunomia/engine/IdSet" "words" "[J" (.ref f)) (V1 : Arv Z h0 b k1 .long (2 : Int32) [(.long c0), (.long c1)] (.long (0 : Int64))) (V2 : Arv Z h0 d k2 .int (1 : Int32) [(.int d0)] (.int (0 : Int32))) (V3 : Arv Z h0 f k3 .long (1 : Int32) [(.long ee0)] (.long (0 : Int64))) :
    own_Met l Z (⟨"com/example/eunomia/eunomia/engine/IdSet", "isEmpty", "()Z"⟩ : MethodName) prog_30_method_4_code 1 (some .boolean) [] ({ frames := 0, cells := 0, slots := 0, locals := 0 } : Room) #[(.ref a)] h0 (fun v h L => v = some (.int (0 : Int32)) ∧ Fr n0 L ∧ h = h0) := by
  refine own_met own_pn5 ?_
  intro p e s m below meth c s₁ hx hby hml hown hnm hret hlk hZ X0 hE0
  have N0 := Fr.nil n0
  refine own_cast (own_ef5_own_rmE_2_1 m a) ?_
  refine own_aloadN (n := 1) X0 hx (hb hby d5_0) rfl rfl rfl ?_
  refine own_getF (n := 4) X0 hx hZ hown (host := "") (Or.inl (ww13 hw)) Via.refl hE0 F1 (hb hby d5_1) rfl ?_
  intro T1 X1 e1
  refine own_len (n := 5) X1 hx hZ e1 V1 (hb hby d5_4) rfl ?_
  refine own_ifYes (n := 20) X1 hx (hb hby d5_5) (feq (by decide : ¬ ((2 : Int32) = (0 : Int32)))).2 (by decide) (by decide) ?_
  refine own_iconst (n := 21) (z := (0 : Int32)) X1 hx (hb hby d5_20) rfl rfl ?_
  refine own_retZ X1 hx hlk hret (by simp) e1 (w := (0 : Int32)) rfl (hb hby d5_21) (by decide) (by decide) ?_
  exact ⟨rfl, N0, rfl⟩
theorem own_ef6_own_rmC_2_1 (m : MethodId) (y0 : Addr) (y1 : Int32) : entryFrame m #[(.ref y0), (.int y1)] 5 = mkF m 0 #[.val (.ref y0), .val (.int y1), .unset, .unset, .unset] [] := by first | (simp [entryFrame, mkF, argsToLocals, Value.category]; done) | rfl
set_option maxRecDepth 65536 in
set_option maxHeartbeats 40000000 in
theorem own_rmC_2_1 (l : Launch) (Z : State) (a0 : Array Value) (hw : ∀ d ∈ tables_1, d.before a0 Z = true) (a b d f : Addr) (k1 k2 k3 : ClassId) (c0 c1 : Int64) (d0 : Int32) (ee0 : Int64) (p1 : Int32) (h0 : Heap) (n0 : Nat) (Z0 : n0 ≤ h0.size) (F1 : Fld Z h0 a "com/example/eunomia/eunomia/engine/IdSet" "low" "[J" (.ref b)) (F2 : Fld Z h0 a "com/example/eunomia/eunomia/engine/IdSet" "places" "[I" (.ref d)) (F3 : Fld Z h0 a "com/example/eunomia/eunomia/engine/IdSet" "words" "[J" (.ref f)) (V1 : Arv Z h0 b k1 .long (2 : Int32) [(.long c0), (.long c1)] (.long (0 : Int64))) (V2 : Arv Z h0 d k2 .int (1 : Int32) [(.int d0)] (.int (0 : Int32))) (V3 : Arv Z h0 f k3 .long (1 : Int32) [(.long ee0)] (.long (0 : Int64))) (hs : ((p1).toUInt32 >>> ((6 : Int32) &&& 31).toUInt32).toInt32 = (1 : Int32)) (hbit : ¬ (c1 &&& ((1 : Int64) <<< (p1 &&& 63).toInt64)) = (0 : Int64)) :
    own_Met l Z (⟨"com/example/eunomia/eunomia/engine/IdSet", "contains", "(I)Z"⟩ : MethodName) prog_30_method_3_code 5 (some .boolean) [] ({ frames := 0, cells := 0, slots := 0, locals := 0 } : Room) #[(.ref a), (.int p1)] h0 (fun v h L => v = some (.int (1 : Int32)) ∧ Fr n0 L ∧ h = h0) := by
  refine own_met own_pn6 ?_
  intro p e s m below meth c s₁ hx hby hml hown hnm hret hlk hZ X0 hE0
  have N0 := Fr.nil n0
  refine own_cast (own_ef6_own_rmC_2_1 m a p1) ?_
  refine own_iloadN (n := 1) X0 hx (hb hby d6_0) rfl rfl ?_
  refine own_bipush (n := 3) (z := (6 : Int32)) X0 hx (hb hby d6_1) rfl rfl ?_
  refine own_iushr (n := 4) X0 hx (hb hby d6_3) rfl rfl ?_
  refine own_istoreN (n := 5) (l' := #[.val (.ref a), .val (.int p1), .val (.int ((p1).toUInt32 >>> ((6 : Int32) &&& 31).toUInt32).toInt32), .unset, .unset]) X0 hx (hb hby d6_4) rfl rfl ?_
  rw [hs]
  refine own_iloadN (n := 6) X0 hx (hb hby d6_5) rfl rfl ?_
  refine own_bipush (n := 8) (z := (64 : Int32)) X0 hx (hb hby d6_6) rfl rfl ?_
  refine own_icmpNo (n := 11) X0 hx (hb hby d6_8) (tlt (by decide : (1 : Int32) < (64 : Int32))).2.1 rfl ?_
  refine own_iloadN (n := 12) X0 hx (hb hby d6_11) rfl rfl ?_
  refine own_aloadN (n := 13) X0 hx (hb hby d6_12) rfl rfl rfl ?_
  refine own_getF (n := 16) X0 hx hZ hown (host := "") (Or.inl (ww13 hw)) Via.refl hE0 F1 (hb hby d6_13) rfl ?_
  intro T1 X1 e1
  refine own_len (n := 17) X1 hx hZ e1 V1 (hb hby d6_16) rfl ?_
  refine own_icmpNo (n := 20) X1 hx (hb hby d6_17) (tlt (by decide : (1 : Int32) < (2 : Int32))).2.1 rfl ?_
  refine own_aloadN (n := 21) X1 hx (hb hby d6_20) rfl rfl rfl ?_
  refine own_getF (n := 24) X1 hx hZ hown (host := "") (Or.inl (ww13 hw)) Via.refl e1 F1 (hb hby d6_21) rfl ?_
  intro T2 X2 e2
  refine own_iloadN (n := 25) X2 hx (hb hby d6_24) rfl rfl ?_
  refine own_ld_laload (n := 26) (v := (.long c1)) X2 hx hZ e2 V1 ⟨by decide, by decide⟩ rfl (hb hby d6_25) rfl ?_
  refine own_lconst (n := 27) (z := (1 : Int64)) X2 hx (hb hby d6_26) rfl rfl ?_
  refine own_iloadN (n := 28) X2 hx (hb hby d6_27) rfl rfl ?_
  refine own_lshl (n := 29) X2 hx (hb hby d6_28) rfl rfl ?_
  refine own_land (n := 30) X2 hx (hb hby d6_29) rfl rfl ?_
  refine own_lconst (n := 31) (z := (0 : Int64)) X2 hx (hb hby d6_30) rfl rfl ?_
  refine own_lcmp (n := 32) X2 hx (hb hby d6_31) rfl ?_
  refine own_ifNo (n := 35) X2 hx (hb hby d6_32) (feq (own_lc hbit)).1 rfl ?_
  refine own_iconst (n := 36) (z := (1 : Int32)) X2 hx (hb hby d6_35) rfl rfl ?_
  refine own_goto (n := 40) X2 hx (hb hby d6_36) (by decide) (by decide) ?_
  refine own_istoreN (n := 41) (l' := #[.val (.ref a), .val (.int p1), .val (.int (1 : Int32)), .val (.int (1 : Int32)), .unset]) X2 hx (hb hby d6_40) rfl rfl ?_
  refine own_goto (n := 81) X2 hx (hb hby d6_41) (by decide) (by decide) ?_
  refine own_iloadN (n := 82) X2 hx (hb hby d6_81) rfl rfl ?_
  refine own_retZ X2 hx hlk hret (by simp) e2 (w := (1 : Int32)) rfl (hb hby d6_82) (by decide) (by decide) ?_
  exact ⟨rfl, N0, rfl⟩
theorem own_ef1_own_rmI_2_2 (m : MethodId) (y0 : Addr) (y1 : Addr) (y2 : Addr) (y3 : Addr) : entryFrame m #[(.ref y0), (.ref y1), (.ref y2), (.ref y3)] 4 = mkF m 0 #[.val (.ref y0), .val (.ref y1), .val (.ref y2), .val (.ref y3)] [] := by first | (simp [entryFrame, mkF, argsToLocals, Value.category]; done) | rfl
set_option maxRecDepth 65536 in
set_option maxHeartbeats 40000000 in
theorem own_rmI_2_2 (l : Launch) (Z : State) (a0 : Array Value) (hw : ∀ d ∈ tables_1, d.before a0 Z = true) (a b d f : Addr) (k1 k2 k3 : ClassId) (c0 c1 : Int64) (d0 d1 : Int32) (ee0 ee1 : Int64) (h0 : Heap) (n0 : Nat) (Z0 : n0 ≤ h0.size) (E1 : Exa Z h0 a "com/example/eunomia/eunomia/engine/IdSet") (F1 : Fld Z h0 a "com/example/eunomia/eunomia/engine/IdSet" "low" "[J" .null) (F2 : Fld Z h0 a "com/example/eunomia/eunomia/engine/IdSet" "places" "[I" .null) (F3 : Fld Z h0 a "com/example/eunomia/eunomia/engine/IdSet" "words" "[J" .null) (F4 : Fld Z h0 a "com/example/eunomia/eunomia/engine/IdSet" "hash" "I" (.int (0 : Int32))) (V1 : Arv Z h0 b k1 .long (2 : Int32) [(.long c0), (.long c1)] (.long (0 : Int64))) (V2 : Arv Z h0 d k2 .int (2 : Int32) [(.int d0), (.int d1)] (.int (0 : Int32))) (V3 : Arv Z h0 f k3 .long (2 : Int32) [(.long ee0), (.long ee1)] (.long (0 : Int64))) (E2 : Exa Z h0 d "[I") (g_a : n0 ≤ a) :
    own_Met l Z (⟨"com/example/eunomia/eunomia/engine/IdSet", "<init>", "([J[I[J)V"⟩ : MethodName) prog_30_method_1_code 4 none [] ({ frames := 3, cells := 0, slots := 0, locals := 48 } : Room) #[(.ref a), (.ref b), (.ref d), (.ref f)] h0 (fun v h L => v = none ∧ Fr n0 L ∧ Keep h0 h [a] ∧ Exa Z h a "com/example/eunomia/eunomia/engine/IdSet" ∧ Fld Z h a "com/example/eunomia/eunomia/engine/IdSet" "low" "[J" (.ref b) ∧ Fld Z h a "com/example/eunomia/eunomia/engine/IdSet" "places" "[I" (.ref d) ∧ Fld Z h a "com/example/eunomia/eunomia/engine/IdSet" "words" "[J" (.ref f)) := by
  refine own_met own_pn1 ?_
  intro p e s m below meth c s₁ hx hby hml hown hnm hret hlk hZ X0 hE0
  have N0 := Fr.nil n0
  refine own_cast (own_ef1_own_rmI_2_2 m a b d f) ?_
  refine own_aloadN (n := 1) X0 hx (hb hby d1_0) rfl rfl rfl ?_
  refine own_initO (n := 4) X0 hx hZ hown (ww10 hw) (ww11 hw) (ww12 hw) hE0 (by rw [hml]; rfl) (hb hby d1_1) (Nat.le_of_ble_eq_true rfl) (Nat.le_of_ble_eq_true rfl) rfl ?_
  intro T1 X1 e1
  refine own_aloadN (n := 5) X1 hx (hb hby d1_4) rfl rfl rfl ?_
  refine own_aloadN (n := 6) X1 hx (hb hby d1_5) rfl rfl rfl ?_
  refine own_putF (n := 9) X1 hx hZ hown (host := "") (Or.inl (ww13 hw)) Via.refl e1 F1 E1 (Or.inr ⟨(ww14 hw), rfl, hnm⟩) (ww5 hw) (ty := (.array .long)) (by decide) rfl rfl (hb hby d1_6) rfl ?_
  intro T2 h2 X2 e2 W2
  have F_3 := F1.same W2
  have N2 := Fr.snoc X2 N0 g_a
  have E_4 := E1.wr W2
  have F_5 := F2.other W2 (Or.inr (slot_ne (Or.inr (ww16 hw)) (Or.inr (ww14 hw)) (by decide) (t := (.array .int)) (t' := (.array .long)) (by decide) (by decide)))
  have F_6 := F3.other W2 (Or.inr (slot_ne (Or.inr (ww18 hw)) (Or.inr (ww14 hw)) (by decide) (t := (.array .long)) (t' := (.array .long)) (by decide) (by decide)))
  have F_7 := F4.other W2 (Or.inr (slot_ne (Or.inr (ww27 hw)) (Or.inr (ww14 hw)) (by decide) (t := .int) (t' := (.array .long)) (by decide) (by decide)))
  have A_8 := V1.other W2 (Ne.symm (own_neEA E1 (ww5 hw) V1))
  have A_9 := V2.other W2 (Ne.symm (own_neEA E1 (ww5 hw) V2))
  have A_10 := V3.other W2 (Ne.symm (own_neEA E1 (ww5 hw) V3))
  have E_11 := E2.wr W2
  have K_12 := (Keep.refl h0 [a]).wr W2 (Or.inl (by simp))
  have Z_13 : n0 ≤ h2.size := by rw [W2.size]; exact Z0
  refine own_aloadN (n := 10) X2 hx (hb hby d1_9) rfl rfl rfl ?_
  refine own_aloadN (n := 11) X2 hx (hb hby d1_10) rfl rfl rfl ?_
  refine own_putF (n := 14) X2 hx hZ hown (host := "") (Or.inl (ww15 hw)) Via.refl e2 F_5 E_4 (Or.inr ⟨(ww16 hw), rfl, hnm⟩) (ww5 hw) (ty := (.array .int)) (by decide) rfl rfl (hb hby d1_11) rfl ?_
  intro T14 h14 X14 e14 W14
  have F_15 := F_5.same W14
  have N14 := Fr.snoc X14 N2 g_a
  have E_16 := E_4.wr W14
  have F_17 := F_6.other W14 (Or.inr (slot_ne (Or.inr (ww18 hw)) (Or.inr (ww16 hw)) (by decide) (t := (.array .long)) (t' := (.array .int)) (by decide) (by decide)))
  have F_18 := F_7.other W14 (Or.inr (slot_ne (Or.inr (ww27 hw)) (Or.inr (ww16 hw)) (by decide) (t := .int) (t' := (.array .int)) (by decide) (by decide)))
  have A_19 := A_8.other W14 (Ne.symm (own_neEA E_4 (ww5 hw) A_8))
  have A_20 := A_9.other W14 (Ne.symm (own_neEA E_4 (ww5 hw) A_9))
  have A_21 := A_10.other W14 (Ne.symm (own_neEA E_4 (ww5 hw) A_10))
  have E_22 := E_11.wr W14
  have K_23 := K_12.wr W14 (Or.inl (by simp))
  have F_24 := F_3.other W14 (Or.inr (slot_ne (Or.inr (ww14 hw)) (Or.inr (ww16 hw)) (by decide) (t := (.array .long)) (t' := (.array .int)) (by decide) (by decide)))
  have Z_25 : n0 ≤ h14.size := by rw [W14.size]; exact Z_13
  refine own_aloadN (n := 15) X14 hx (hb hby d1_14) rfl rfl rfl ?_
  refine own_aloadN (n := 16) X14 hx (hb hby d1_15) rfl rfl rfl ?_
  refine own_putF (n := 19) X14 hx hZ hown (host := "") (Or.inl (ww17 hw)) Via.refl e14 F_17 E_16 (Or.inr ⟨(ww18 hw), rfl, hnm⟩) (ww5 hw) (ty := (.array .long)) (by decide) rfl rfl (hb hby d1_16) rfl ?_
  intro T26 h26 X26 e26 W26
  have F_27 := F_17.same W26
  have N26 := Fr.snoc X26 N14 g_a
  have E_28 := E_16.wr W26
  have F_29 := F_18.other W26 (Or.inr (slot_ne (Or.inr (ww27 hw)) (Or.inr (ww18 hw)) (by decide) (t := .int) (t' := (.array .long)) (by decide) (by decide)))
  have A_30 := A_19.other W26 (Ne.symm (own_neEA E_16 (ww5 hw) A_19))
  have A_31 := A_20.other W26 (Ne.symm (own_neEA E_16 (ww5 hw) A_20))
  have A_32 := A_21.other W26 (Ne.symm (own_neEA E_16 (ww5 hw) A_21))
  have E_33 := E_22.wr W26
  have K_34 := K_23.wr W26 (Or.inl (by simp))
  have F_35 := F_24.other W26 (Or.inr (slot_ne (Or.inr (ww14 hw)) (Or.inr (ww18 hw)) (by decide) (t := (.array .long)) (t' := (.array .long)) (by decide) (by decide)))
  have F_36 := F_15.other W26 (Or.inr (slot_ne (Or.inr (ww16 hw)) (Or.inr (ww18 hw)) (by decide) (t := (.array .int)) (t' := (.array .long)) (by decide) (by decide)))
  have Z_37 : n0 ≤ h26.size := by rw [W26.size]; exact Z_25
  refine own_aloadN (n := 20) X26 hx (hb hby d1_19) rfl rfl rfl ?_
  refine own_bipush (n := 22) (z := (31 : Int32)) X26 hx (hb hby d1_20) rfl rfl ?_
  refine own_bipush (n := 24) (z := (31 : Int32)) X26 hx (hb hby d1_22) rfl rfl ?_
  refine own_aloadN (n := 25) X26 hx (hb hby d1_24) rfl rfl rfl ?_
  refine own_S (n := 28) (argsL := [(.ref b)]) (rest := [(.int (31 : Int32)), (.int (31 : Int32)), (.ref a)]) X26 hx hZ hown (own_rmJ2 l Z a0 hw b k1 c0 c1 h26 n0 Z_37 A_30 ) (ww19 hw) (ww20 hw) (ww21 hw) (ww22 hw) (by decide) e26 (by rw [hml]; rfl) (lenOf own_pd0 rfl) rfl (hb hby d1_25) (Nat.le_of_ble_eq_true rfl) (Nat.le_of_ble_eq_true rfl) (Nat.le_of_ble_eq_true rfl) (Nat.le_of_ble_eq_true rfl) rfl ?_
  rintro v38 T38 L38 X38 ⟨z38, rfl, Nq38, eq38⟩
  have N38 := Fr.app N26 Nq38
  change own_G p e below _ _ (mkF m 28 _ [(.int z38), (.int (31 : Int32)), (.int (31 : Int32)), (.ref a)])
  refine own_imul (n := 29) X38 hx (hb hby d1_28) rfl rfl ?_
  refine own_aloadN (n := 30) X38 hx (hb hby d1_29) rfl rfl rfl ?_
  refine own_S (n := 33) (argsL := [(.ref d)]) (rest := [(.int ((31 : Int32) * z38)), (.int (31 : Int32)), (.ref a)]) X38 hx hZ hown (own_rmA2 l Z a0 hw d k2 d0 d1 h26 n0 Z_37 A_31 E_33) (ww23 hw) (ww24 hw) (ww21 hw) (ww25 hw) (by decide) eq38 (by rw [hml]; rfl) (lenOf own_pd1 rfl) rfl (hb hby d1_30) (Nat.le_of_ble_eq_true rfl) (Nat.le_of_ble_eq_true rfl) (Nat.le_of_ble_eq_true rfl) (Nat.le_of_ble_eq_true rfl) rfl ?_
  rintro v39 T39 L39 X39 ⟨z39, rfl, Nq39, eq39⟩
  have N39 := Fr.app N38 Nq39
  change own_G p e below _ _ (mkF m 33 _ [(.int z39), (.int ((31 : Int32) * z38)), (.int (31 : Int32)), (.ref a)])
  refine own_iadd (n := 34) X39 hx (hb hby d1_33) rfl rfl ?_
  refine own_imul (n := 35) X39 hx (hb hby d1_34) rfl rfl ?_
  refine own_aloadN (n := 36) X39 hx (hb hby d1_35) rfl rfl rfl ?_
  refine own_S (n := 39) (argsL := [(.ref f)]) (rest := [(.int ((31 : Int32) * (((31 : Int32) * z38) + z39))), (.ref a)]) X39 hx hZ hown (own_rmJ2 l Z a0 hw f k3 ee0 ee1 h26 n0 Z_37 A_32 ) (ww19 hw) (ww20 hw) (ww21 hw) (ww22 hw) (by decide) eq39 (by rw [hml]; rfl) (lenOf own_pd0 rfl) rfl (hb hby d1_36) (Nat.le_of_ble_eq_true rfl) (Nat.le_of_ble_eq_true rfl) (Nat.le_of_ble_eq_true rfl) (Nat.le_of_ble_eq_true rfl) rfl ?_
  rintro v40 T40 L40 X40 ⟨z40, rfl, Nq40, eq40⟩
  have N40 := Fr.app N39 Nq40
  change own_G p e below _ _ (mkF m 39 _ [(.int z40), (.int ((31 : Int32) * (((31 : Int32) * z38) + z39))), (.ref a)])
  refine own_iadd (n := 40) X40 hx (hb hby d1_39) rfl rfl ?_
  refine own_putF (n := 43) X40 hx hZ hown (host := "") (Or.inl (ww26 hw)) Via.refl eq40 F_29 E_28 (Or.inr ⟨(ww27 hw), rfl, hnm⟩) (ww5 hw) (ty := .int) (by decide) rfl rfl (hb hby d1_40) rfl ?_
  intro T41 h41 X41 e41 W41
  have F_42 := F_29.same W41
  have N41 := Fr.snoc X41 N40 g_a
  have E_43 := E_28.wr W41
  have A_44 := A_30.other W41 (Ne.symm (own_neEA E_28 (ww5 hw) A_30))
  have A_45 := A_31.other W41 (Ne.symm (own_neEA E_28 (ww5 hw) A_31))
  have A_46 := A_32.other W41 (Ne.symm (own_neEA E_28 (ww5 hw) A_32))
  have E_47 := E_33.wr W41
  have K_48 := K_34.wr W41 (Or.inl (by simp))
  have F_49 := F_35.other W41 (Or.inr (slot_ne (Or.inr (ww14 hw)) (Or.inr (ww27 hw)) (by decide) (t := (.array .long)) (t' := .int) (by decide) (by decide)))
  have F_50 := F_36.other W41 (Or.inr (slot_ne (Or.inr (ww16 hw)) (Or.inr (ww27 hw)) (by decide) (t := (.array .int)) (t' := .int) (by decide) (by decide)))
  have F_51 := F_27.other W41 (Or.inr (slot_ne (Or.inr (ww18 hw)) (Or.inr (ww27 hw)) (by decide) (t := (.array .long)) (t' := .int) (by decide) (by decide)))
  have Z_52 : n0 ≤ h41.size := by rw [W41.size]; exact Z_37
  refine own_retV X41 hx hlk hret e41 (hb hby d1_43) (by decide) (by decide) ?_
  exact ⟨rfl, N41, K_48, E_43, F_49, F_50, F_51⟩
theorem own_ef5_own_rmE_2_2 (m : MethodId) (y0 : Addr) : entryFrame m #[(.ref y0)] 1 = mkF m 0 #[.val (.ref y0)] [] := by first | (simp [entryFrame, mkF, argsToLocals, Value.category]; done) | rfl
set_option maxRecDepth 65536 in
set_option maxHeartbeats 40000000 in
theorem own_rmE_2_2 (l : Launch) (Z : State) (a0 : Array Value) (hw : ∀ d ∈ tables_1, d.before a0 Z = true) (a b d f : Addr) (k1 k2 k3 : ClassId) (c0 c1 : Int64) (d0 d1 : Int32) (ee0 ee1 : Int64) (h0 : Heap) (n0 : Nat) (Z0 : n0 ≤ h0.size) (F1 : Fld Z h0 a "com/example/eunomia/eunomia/engine/IdSet" "low" "[J" (.ref b)) (F2 : Fld Z h0 a "com/example/eunomia/eunomia/engine/IdSet" "places" "[I" (.ref d)) (F3 : Fld Z h0 a "com/example/eunomia/eunomia/engine/IdSet" "words" "[J" (.ref f)) (V1 : Arv Z h0 b k1 .long (2 : Int32) [(.long c0), (.long c1)] (.long (0 : Int64))) (V2 : Arv Z h0 d k2 .int (2 : Int32) [(.int d0), (.int d1)] (.int (0 : Int32))) (V3 : Arv Z h0 f k3 .long (2 : Int32) [(.long ee0), (.long ee1)] (.long (0 : Int64))) :
    own_Met l Z (⟨"com/example/eunomia/eunomia/engine/IdSet", "isEmpty", "()Z"⟩ : MethodName) prog_30_method_4_code 1 (some .boolean) [] ({ frames := 0, cells := 0, slots := 0, locals := 0 } : Room) #[(.ref a)] h0 (fun v h L => v = some (.int (0 : Int32)) ∧ Fr n0 L ∧ h = h0) := by
  refine own_met own_pn5 ?_
  intro p e s m below meth c s₁ hx hby hml hown hnm hret hlk hZ X0 hE0
  have N0 := Fr.nil n0
  refine own_cast (own_ef5_own_rmE_2_2 m a) ?_
  refine own_aloadN (n := 1) X0 hx (hb hby d5_0) rfl rfl rfl ?_
  refine own_getF (n := 4) X0 hx hZ hown (host := "") (Or.inl (ww13 hw)) Via.refl hE0 F1 (hb hby d5_1) rfl ?_
  intro T1 X1 e1
  refine own_len (n := 5) X1 hx hZ e1 V1 (hb hby d5_4) rfl ?_
  refine own_ifYes (n := 20) X1 hx (hb hby d5_5) (feq (by decide : ¬ ((2 : Int32) = (0 : Int32)))).2 (by decide) (by decide) ?_
  refine own_iconst (n := 21) (z := (0 : Int32)) X1 hx (hb hby d5_20) rfl rfl ?_
  refine own_retZ X1 hx hlk hret (by simp) e1 (w := (0 : Int32)) rfl (hb hby d5_21) (by decide) (by decide) ?_
  exact ⟨rfl, N0, rfl⟩
theorem own_ef6_own_rmC_2_2 (m : MethodId) (y0 : Addr) (y1 : Int32) : entryFrame m #[(.ref y0), (.int y1)] 5 = mkF m 0 #[.val (.ref y0), .val (.int y1), .unset, .unset, .unset] [] := by first | (simp [entryFrame, mkF, argsToLocals, Value.category]; done) | rfl
set_option maxRecDepth 65536 in
set_option maxHeartbeats 40000000 in
theorem own_rmC_2_2 (l : Launch) (Z : State) (a0 : Array Value) (hw : ∀ d ∈ tables_1, d.before a0 Z = true) (a b d f : Addr) (k1 k2 k3 : ClassId) (c0 c1 : Int64) (d0 d1 : Int32) (ee0 ee1 : Int64) (p1 : Int32) (h0 : Heap) (n0 : Nat) (Z0 : n0 ≤ h0.size) (F1 : Fld Z h0 a "com/example/eunomia/eunomia/engine/IdSet" "low" "[J" (.ref b)) (F2 : Fld Z h0 a "com/example/eunomia/eunomia/engine/IdSet" "places" "[I" (.ref d)) (F3 : Fld Z h0 a "com/example/eunomia/eunomia/engine/IdSet" "words" "[J" (.ref f)) (V1 : Arv Z h0 b k1 .long (2 : Int32) [(.long c0), (.long c1)] (.long (0 : Int64))) (V2 : Arv Z h0 d k2 .int (2 : Int32) [(.int d0), (.int d1)] (.int (0 : Int32))) (V3 : Arv Z h0 f k3 .long (2 : Int32) [(.long ee0), (.long ee1)] (.long (0 : Int64))) (hs : ((p1).toUInt32 >>> ((6 : Int32) &&& 31).toUInt32).toInt32 = (1 : Int32)) (hbit : ¬ (c1 &&& ((1 : Int64) <<< (p1 &&& 63).toInt64)) = (0 : Int64)) :
    own_Met l Z (⟨"com/example/eunomia/eunomia/engine/IdSet", "contains", "(I)Z"⟩ : MethodName) prog_30_method_3_code 5 (some .boolean) [] ({ frames := 0, cells := 0, slots := 0, locals := 0 } : Room) #[(.ref a), (.int p1)] h0 (fun v h L => v = some (.int (1 : Int32)) ∧ Fr n0 L ∧ h = h0) := by
  refine own_met own_pn6 ?_
  intro p e s m below meth c s₁ hx hby hml hown hnm hret hlk hZ X0 hE0
  have N0 := Fr.nil n0
  refine own_cast (own_ef6_own_rmC_2_2 m a p1) ?_
  refine own_iloadN (n := 1) X0 hx (hb hby d6_0) rfl rfl ?_
  refine own_bipush (n := 3) (z := (6 : Int32)) X0 hx (hb hby d6_1) rfl rfl ?_
  refine own_iushr (n := 4) X0 hx (hb hby d6_3) rfl rfl ?_
  refine own_istoreN (n := 5) (l' := #[.val (.ref a), .val (.int p1), .val (.int ((p1).toUInt32 >>> ((6 : Int32) &&& 31).toUInt32).toInt32), .unset, .unset]) X0 hx (hb hby d6_4) rfl rfl ?_
  rw [hs]
  refine own_iloadN (n := 6) X0 hx (hb hby d6_5) rfl rfl ?_
  refine own_bipush (n := 8) (z := (64 : Int32)) X0 hx (hb hby d6_6) rfl rfl ?_
  refine own_icmpNo (n := 11) X0 hx (hb hby d6_8) (tlt (by decide : (1 : Int32) < (64 : Int32))).2.1 rfl ?_
  refine own_iloadN (n := 12) X0 hx (hb hby d6_11) rfl rfl ?_
  refine own_aloadN (n := 13) X0 hx (hb hby d6_12) rfl rfl rfl ?_
  refine own_getF (n := 16) X0 hx hZ hown (host := "") (Or.inl (ww13 hw)) Via.refl hE0 F1 (hb hby d6_13) rfl ?_
  intro T1 X1 e1
  refine own_len (n := 17) X1 hx hZ e1 V1 (hb hby d6_16) rfl ?_
  refine own_icmpNo (n := 20) X1 hx (hb hby d6_17) (tlt (by decide : (1 : Int32) < (2 : Int32))).2.1 rfl ?_
  refine own_aloadN (n := 21) X1 hx (hb hby d6_20) rfl rfl rfl ?_
  refine own_getF (n := 24) X1 hx hZ hown (host := "") (Or.inl (ww13 hw)) Via.refl e1 F1 (hb hby d6_21) rfl ?_
  intro T2 X2 e2
  refine own_iloadN (n := 25) X2 hx (hb hby d6_24) rfl rfl ?_
  refine own_ld_laload (n := 26) (v := (.long c1)) X2 hx hZ e2 V1 ⟨by decide, by decide⟩ rfl (hb hby d6_25) rfl ?_
  refine own_lconst (n := 27) (z := (1 : Int64)) X2 hx (hb hby d6_26) rfl rfl ?_
  refine own_iloadN (n := 28) X2 hx (hb hby d6_27) rfl rfl ?_
  refine own_lshl (n := 29) X2 hx (hb hby d6_28) rfl rfl ?_
  refine own_land (n := 30) X2 hx (hb hby d6_29) rfl rfl ?_
  refine own_lconst (n := 31) (z := (0 : Int64)) X2 hx (hb hby d6_30) rfl rfl ?_
  refine own_lcmp (n := 32) X2 hx (hb hby d6_31) rfl ?_
  refine own_ifNo (n := 35) X2 hx (hb hby d6_32) (feq (own_lc hbit)).1 rfl ?_
  refine own_iconst (n := 36) (z := (1 : Int32)) X2 hx (hb hby d6_35) rfl rfl ?_
  refine own_goto (n := 40) X2 hx (hb hby d6_36) (by decide) (by decide) ?_
  refine own_istoreN (n := 41) (l' := #[.val (.ref a), .val (.int p1), .val (.int (1 : Int32)), .val (.int (1 : Int32)), .unset]) X2 hx (hb hby d6_40) rfl rfl ?_
  refine own_goto (n := 81) X2 hx (hb hby d6_41) (by decide) (by decide) ?_
  refine own_iloadN (n := 82) X2 hx (hb hby d6_81) rfl rfl ?_
  refine own_retZ X2 hx hlk hret (by simp) e2 (w := (1 : Int32)) rfl (hb hby d6_82) (by decide) (by decide) ?_
  exact ⟨rfl, N0, rfl⟩
theorem own_ef0_own_rm0 (m : MethodId) (y0 : Int32) (y1 : Int64) (y2 : Int64) (y3 : Int32) (y4 : Int32) : entryFrame m #[(.int y0), (.long y1), (.long y2), (.int y3), (.int y4)] maxLocals = mkF m 0 #[.val (.int y0), .val (.long y1), .second, .val (.long y2), .second, .val (.int y3), .val (.int y4), .unset, .unset, .unset, .unset, .unset, .unset, .unset, .unset, .unset, .unset, .unset, .unset, .unset, .unset] [] := by first | (simp [entryFrame, mkF, argsToLocals, Value.category, maxLocals]; done) | rfl
set_option maxRecDepth 65536 in
set_option maxHeartbeats 40000000 in
theorem own_rm0 (l : Launch) (Z : State) (a0 : Array Value) (hw : ∀ d ∈ tables_1, d.before a0 Z = true) (p0 : Int32) (q1 q2 : Int64) (p3 p4 : Int32) (h0 : Heap) (n0 : Nat) (Z0 : n0 ≤ h0.size)  :
    own_Met l Z x code maxLocals ret tables_1 room_1 #[(.int p0), (.long q1), (.long q2), (.int p3), (.int p4)] h0 (fun v h L => v = some (.int 1) ∧ Fr n0 L) := by
  refine own_met own_pn0 ?_
  intro p e s m below meth c s₁ hx hby hml hown hnm hret hlk hZ X0 hE0
  have N0 := Fr.nil n0
  refine own_cast (own_ef0_own_rm0 m p0 q1 q2 p3 p4) ?_
  refine own_iloadN (n := 1) X0 hx (hb hby at_0) rfl rfl ?_
  refine own_iconst (n := 2) (z := (3 : Int32)) X0 hx (hb hby at_1) rfl rfl ?_
  refine own_iand (n := 3) X0 hx (hb hby at_2) rfl rfl ?_
  refine own_iconst (n := 4) (z := (3 : Int32)) X0 hx (hb hby at_3) rfl rfl ?_
  refine own_irem (n := 5) X0 hx (hb hby at_4) (by decide) rfl ?_
  refine own_istore (n := 7) (l' := #[.val (.int p0), .val (.long q1), .second, .val (.long q2), .second, .val (.int p3), .val (.int p4), .val (.int ((p0 &&& (3 : Int32)) % (3 : Int32))), .unset, .unset, .unset, .unset, .unset, .unset, .unset, .unset, .unset, .unset, .unset, .unset, .unset]) X0 hx (hb hby at_5) rfl rfl ?_
  rcases own_rem3 (p0) with hs7 | hs7 | hs7
  · rw [hs7]
    refine own_iloadN (n := 8) X0 hx (hb hby at_7) rfl rfl ?_
    refine own_iconst (n := 9) (z := (2 : Int32)) X0 hx (hb hby at_8) rfl rfl ?_
    refine own_iushr (n := 10) X0 hx (hb hby at_9) rfl rfl ?_
    refine own_iconst (n := 11) (z := (3 : Int32)) X0 hx (hb hby at_10) rfl rfl ?_
    refine own_iand (n := 12) X0 hx (hb hby at_11) rfl rfl ?_
    refine own_iconst (n := 13) (z := (3 : Int32)) X0 hx (hb hby at_12) rfl rfl ?_
    refine own_irem (n := 14) X0 hx (hb hby at_13) (by decide) rfl ?_
    refine own_istore (n := 16) (l' := #[.val (.int p0), .val (.long q1), .second, .val (.long q2), .second, .val (.int p3), .val (.int p4), .val (.int (0 : Int32)), .val (.int ((((p0).toUInt32 >>> ((2 : Int32) &&& 31).toUInt32).toInt32 &&& (3 : Int32)) % (3 : Int32))), .unset, .unset, .unset, .unset, .unset, .unset, .unset, .unset, .unset, .unset, .unset, .unset]) X0 hx (hb hby at_14) rfl rfl ?_
    rcases own_rem3 (((p0).toUInt32 >>> ((2 : Int32) &&& 31).toUInt32).toInt32) with hs8 | hs8 | hs8
    · rw [hs8]
      refine own_iloadN (n := 17) X0 hx (hb hby at_16) rfl rfl ?_
      refine own_iconst (n := 18) (z := (4 : Int32)) X0 hx (hb hby at_17) rfl rfl ?_
      refine own_iushr (n := 19) X0 hx (hb hby at_18) rfl rfl ?_
      refine own_bipush (n := 21) (z := (63 : Int32)) X0 hx (hb hby at_19) rfl rfl ?_
      refine own_iand (n := 22) X0 hx (hb hby at_21) rfl rfl ?_
      refine own_istore (n := 24) (l' := #[.val (.int p0), .val (.long q1), .second, .val (.long q2), .second, .val (.int p3), .val (.int p4), .val (.int (0 : Int32)), .val (.int (0 : Int32)), .val (.int (((p0).toUInt32 >>> ((4 : Int32) &&& 31).toUInt32).toInt32 &&& (63 : Int32))), .unset, .unset, .unset, .unset, .unset, .unset, .unset, .unset, .unset, .unset, .unset]) X0 hx (hb hby at_22) rfl rfl ?_
      have hj := own_j (((p0).toUInt32 >>> ((4 : Int32) &&& 31).toUInt32).toInt32)
      obtain ⟨j, hje⟩ : ∃ z, z = (((p0).toUInt32 >>> ((4 : Int32) &&& 31).toUInt32).toInt32 &&& (63 : Int32)) := ⟨_, rfl⟩
      rw [← hje] at hj
      rw [← hje]
      refine own_lconst (n := 25) (z := (1 : Int64)) X0 hx (hb hby at_24) rfl rfl ?_
      refine own_iload (n := 27) X0 hx (hb hby at_25) rfl rfl ?_
      refine own_lshl (n := 28) X0 hx (hb hby at_27) rfl rfl ?_
      refine own_lstore (n := 30) (l' := #[.val (.int p0), .val (.long q1), .second, .val (.long q2), .second, .val (.int p3), .val (.int p4), .val (.int (0 : Int32)), .val (.int (0 : Int32)), .val (.int j), .val (.long ((1 : Int64) <<< (j &&& 63).toInt64)), .second, .unset, .unset, .unset, .unset, .unset, .unset, .unset, .unset, .unset]) X0 hx (hb hby at_28) rfl rfl ?_
      refine own_iload (n := 32) X0 hx (hb hby at_30) rfl rfl ?_
      refine own_newA (n := 34) X0 hx hZ own_an_long (ww0 hw) hE0 (hb hby at_32) (by decide) (cap := 0) (by decide) (by decide) (by decide) (by decide) rfl ?_
      intro T1 h1 k1 b1 g1 X1 e1 E1 A1 B1
      have g_b1 : n0 ≤ b1 := Nat.le_trans Z0 (Nat.le_of_eq g1.symm)
      have Z_2 : n0 ≤ h1.size := Nat.le_trans Z0 E1.1
      have V1 : Arv Z h1 b1 k1 .long (0 : Int32) [] (.long (0 : Int64)) := Arv.new A1 (by decide)
      refine own_astore (n := 36) (l' := #[.val (.int p0), .val (.long q1), .second, .val (.long q2), .second, .val (.int p3), .val (.int p4), .val (.int (0 : Int32)), .val (.int (0 : Int32)), .val (.int j), .val (.long ((1 : Int64) <<< (j &&& 63).toInt64)), .second, .val (.ref b1), .unset, .unset, .unset, .unset, .unset, .unset, .unset, .unset]) X1 hx (hb hby at_34) rfl rfl rfl ?_
      refine own_iload (n := 38) X1 hx (hb hby at_36) rfl rfl ?_
      refine own_iconst (n := 39) (z := (1 : Int32)) X1 hx (hb hby at_38) rfl rfl ?_
      refine own_icmpYes (n := 50) X1 hx (hb hby at_39) (feq (by decide : ¬ ((0 : Int32) = (1 : Int32)))).2 (by decide) (by decide) ?_
      refine own_iload (n := 52) X1 hx (hb hby at_50) rfl rfl ?_
      refine own_iconst (n := 53) (z := (2 : Int32)) X1 hx (hb hby at_52) rfl rfl ?_
      refine own_icmpYes (n := 69) X1 hx (hb hby at_53) (feq (by decide : ¬ ((0 : Int32) = (2 : Int32)))).2 (by decide) (by decide) ?_
      refine own_bipush (n := 71) (z := (64 : Int32)) X1 hx (hb hby at_69) rfl rfl ?_
      refine own_iload (n := 73) X1 hx (hb hby at_71) rfl rfl ?_
      refine own_ldc (n := 75) (v := (16777215 : Int32)) X1 hx hZ hown (ww1 hw) (hb hby at_73) rfl ?_
      refine own_iand (n := 76) X1 hx (hb hby at_75) rfl rfl ?_
      refine own_iadd (n := 77) X1 hx (hb hby at_76) rfl rfl ?_
      refine own_istore (n := 79) (l' := #[.val (.int p0), .val (.long q1), .second, .val (.long q2), .second, .val (.int p3), .val (.int p4), .val (.int (0 : Int32)), .val (.int (0 : Int32)), .val (.int j), .val (.long ((1 : Int64) <<< (j &&& 63).toInt64)), .second, .val (.ref b1), .val (.int ((64 : Int32) + (p3 &&& (16777215 : Int32)))), .unset, .unset, .unset, .unset, .unset, .unset, .unset]) X1 hx (hb hby at_77) rfl rfl ?_
      have hk := own_k0 p3
      obtain ⟨kz, hke⟩ : ∃ z, z = ((64 : Int32) + (p3 &&& (16777215 : Int32))) := ⟨_, rfl⟩
      rw [← hke] at hk
      rw [← hke]
      refine own_iload (n := 81) X1 hx (hb hby at_79) rfl rfl ?_
      refine own_iconst (n := 82) (z := (1 : Int32)) X1 hx (hb hby at_81) rfl rfl ?_
      refine own_iadd (n := 83) X1 hx (hb hby at_82) rfl rfl ?_
      refine own_iload (n := 85) X1 hx (hb hby at_83) rfl rfl ?_
      refine own_sipush (n := 88) (z := (4095 : Int32)) X1 hx (hb hby at_85) rfl rfl ?_
      refine own_iand (n := 89) X1 hx (hb hby at_88) rfl rfl ?_
      refine own_iadd (n := 90) X1 hx (hb hby at_89) rfl rfl ?_
      refine own_istore (n := 92) (l' := #[.val (.int p0), .val (.long q1), .second, .val (.long q2), .second, .val (.int p3), .val (.int p4), .val (.int (0 : Int32)), .val (.int (0 : Int32)), .val (.int j), .val (.long ((1 : Int64) <<< (j &&& 63).toInt64)), .second, .val (.ref b1), .val (.int kz), .val (.int ((kz + (1 : Int32)) + (p4 &&& (4095 : Int32)))), .unset, .unset, .unset, .unset, .unset, .unset]) X1 hx (hb hby at_90) rfl rfl ?_
      refine own_iload (n := 94) X1 hx (hb hby at_92) rfl rfl ?_
      refine own_newA (n := 96) X1 hx hZ own_an_int (ww2 hw) e1 (hb hby at_94) (by decide) (cap := 0) (by decide) (by decide) (by decide) (by decide) rfl ?_
      intro T3 h3 k3 b3 g3 X3 e3 E3 A3 B3
      have g_b3 : n0 ≤ b3 := Nat.le_trans Z_2 (Nat.le_of_eq g3.symm)
      have ne_b1_b3 : b1 ≠ b3 := own_ne B1.lt g3
      have E_4 := B1.ext E3
      have A_5 := V1.ext E3
      have Z_6 : n0 ≤ h3.size := Nat.le_trans Z_2 E3.1
      have V3 : Arv Z h3 b3 k3 .int (0 : Int32) [] (.int (0 : Int32)) := Arv.new A3 (by decide)
      refine own_astore (n := 98) (l' := #[.val (.int p0), .val (.long q1), .second, .val (.long q2), .second, .val (.int p3), .val (.int p4), .val (.int (0 : Int32)), .val (.int (0 : Int32)), .val (.int j), .val (.long ((1 : Int64) <<< (j &&& 63).toInt64)), .second, .val (.ref b1), .val (.int kz), .val (.int ((kz + (1 : Int32)) + (p4 &&& (4095 : Int32)))), .val (.ref b3), .unset, .unset, .unset, .unset, .unset]) X3 hx (hb hby at_96) rfl rfl rfl ?_
      refine own_iload (n := 100) X3 hx (hb hby at_98) rfl rfl ?_
      refine own_newA (n := 102) X3 hx hZ own_an_long (ww0 hw) e3 (hb hby at_100) (by decide) (cap := 0) (by decide) (by decide) (by decide) (by decide) rfl ?_
      intro T7 h7 k7 b7 g7 X7 e7 E7 A7 B7
      have g_b7 : n0 ≤ b7 := Nat.le_trans Z_6 (Nat.le_of_eq g7.symm)
      have ne_b1_b7 : b1 ≠ b7 := own_ne E_4.lt g7
      have ne_b3_b7 : b3 ≠ b7 := own_ne B3.lt g7
      have E_8 := E_4.ext E7
      have A_9 := A_5.ext E7
      have E_10 := B3.ext E7
      have A_11 := V3.ext E7
      have Z_12 : n0 ≤ h7.size := Nat.le_trans Z_6 E7.1
      have V7 : Arv Z h7 b7 k7 .long (0 : Int32) [] (.long (0 : Int64)) := Arv.new A7 (by decide)
      refine own_astore (n := 104) (l' := #[.val (.int p0), .val (.long q1), .second, .val (.long q2), .second, .val (.int p3), .val (.int p4), .val (.int (0 : Int32)), .val (.int (0 : Int32)), .val (.int j), .val (.long ((1 : Int64) <<< (j &&& 63).toInt64)), .second, .val (.ref b1), .val (.int kz), .val (.int ((kz + (1 : Int32)) + (p4 &&& (4095 : Int32)))), .val (.ref b3), .val (.ref b7), .unset, .unset, .unset, .unset]) X7 hx (hb hby at_102) rfl rfl rfl ?_
      refine own_iload (n := 106) X7 hx (hb hby at_104) rfl rfl ?_
      refine own_iconst (n := 107) (z := (1 : Int32)) X7 hx (hb hby at_106) rfl rfl ?_
      refine own_icmpYes (n := 124) X7 hx (hb hby at_107) (tlt (by decide : (0 : Int32) < (1 : Int32))).1 (by decide) (by decide) ?_
      refine own_iload (n := 126) X7 hx (hb hby at_124) rfl rfl ?_
      refine own_iconst (n := 127) (z := (2 : Int32)) X7 hx (hb hby at_126) rfl rfl ?_
      refine own_icmpYes (n := 144) X7 hx (hb hby at_127) (feq (by decide : ¬ ((0 : Int32) = (2 : Int32)))).2 (by decide) (by decide) ?_
      refine own_iload (n := 146) X7 hx (hb hby at_144) rfl rfl ?_
      refine own_ifYes (n := 164) X7 hx (hb hby at_146) (flt (by decide : ¬ ((0 : Int32) < (0 : Int32)))).2.2.2 (by decide) (by decide) ?_
      refine own_iload (n := 166) X7 hx (hb hby at_164) rfl rfl ?_
      refine own_ifYes (n := 182) X7 hx (hb hby at_166) (flt (by decide : ¬ ((0 : Int32) < (0 : Int32)))).2.2.2 (by decide) (by decide) ?_
      refine own_iload (n := 184) X7 hx (hb hby at_182) rfl rfl ?_
      refine own_ldc (n := 186) (v := (2147483647 : Int32)) X7 hx hZ hown (ww3 hw) (hb hby at_184) rfl ?_
      refine own_iand (n := 187) X7 hx (hb hby at_186) rfl rfl ?_
      refine own_istore (n := 189) (l' := #[.val (.int p0), .val (.long q1), .second, .val (.long q2), .second, .val (.int p3), .val (.int p4), .val (.int (0 : Int32)), .val (.int (0 : Int32)), .val (.int j), .val (.long ((1 : Int64) <<< (j &&& 63).toInt64)), .second, .val (.ref b1), .val (.int kz), .val (.int ((kz + (1 : Int32)) + (p4 &&& (4095 : Int32)))), .val (.ref b3), .val (.ref b7), .val (.int (p4 &&& (2147483647 : Int32))), .unset, .unset, .unset]) X7 hx (hb hby at_187) rfl rfl ?_
      skip
      refine own_new (n := 192) X7 hx hZ hown (ww4 hw) (ww5 hw) (ww6 hw) e7 (hb hby at_189) (by decide) (by decide) rfl ?_
      intro T13 h13 b13 g13 X13 e13 E13 A13 D13
      have g_b13 : n0 ≤ b13 := Nat.le_trans Z_12 (Nat.le_of_eq g13.symm)
      have ne_b1_b13 : b1 ≠ b13 := own_ne E_8.lt g13
      have ne_b3_b13 : b3 ≠ b13 := own_ne E_10.lt g13
      have ne_b7_b13 : b7 ≠ b13 := own_ne B7.lt g13
      have E_14 := E_8.ext E13
      have A_15 := A_9.ext E13
      have E_16 := E_10.ext E13
      have A_17 := A_11.ext E13
      have E_18 := B7.ext E13
      have A_19 := V7.ext E13
      have Z_20 : n0 ≤ h13.size := Nat.le_trans Z_12 E13.1
      have F_21 : Fld Z h13 b13 "com/example/eunomia/eunomia/engine/IdSet" "low" "[J" .null := D13 (Or.inr (ww14 hw)) (ty := (.array .long)) (by decide)
      have F_22 : Fld Z h13 b13 "com/example/eunomia/eunomia/engine/IdSet" "places" "[I" .null := D13 (Or.inr (ww16 hw)) (ty := (.array .int)) (by decide)
      have F_23 : Fld Z h13 b13 "com/example/eunomia/eunomia/engine/IdSet" "words" "[J" .null := D13 (Or.inr (ww18 hw)) (ty := (.array .long)) (by decide)
      have F_24 : Fld Z h13 b13 "com/example/eunomia/eunomia/engine/IdSet" "hash" "I" (.int (0 : Int32)) := D13 (Or.inr (ww27 hw)) (ty := .int) (by decide)
      refine own_dup (n := 193) X13 hx (hb hby at_192) rfl rfl ?_
      refine own_aload (n := 195) X13 hx (hb hby at_193) rfl rfl rfl ?_
      refine own_aload (n := 197) X13 hx (hb hby at_195) rfl rfl rfl ?_
      refine own_aload (n := 199) X13 hx (hb hby at_197) rfl rfl rfl ?_
      refine own_I (n := 202) (argsL := [(.ref b1), (.ref b3), (.ref b7)]) (rest := [(.ref b13)]) (a := b13) (by rfl) X13 hx hZ hown (own_rmI_0_0 l Z a0 hw b13 b1 b3 b7 k1 k3 k7    h13 n0 Z_20 A13 F_21 F_22 F_23 F_24 A_15 A_17 A_19 E_16 g_b13) (ww7 hw) (ww8 hw) (ww6 hw) (ww9 hw) (by decide) e13 (by rw [hml]; rfl) (lenOf own_pd2 rfl) rfl (hb hby at_199) (Nat.le_of_ble_eq_true rfl) (Nat.le_of_ble_eq_true rfl) (Nat.le_of_ble_eq_true rfl) (Nat.le_of_ble_eq_true rfl) rfl ?_
      rintro v25 T25 L25 X25 ⟨rfl, Nq25, K25, Eq25, Fa25, Fb25, Fc25⟩
      have N25 := Fr.app N0 Nq25
      have E_26 := E_14.keep K25
      have A_27 := A_15.keep K25 (by simp [ne_b1_b13])
      have E_28 := E_16.keep K25
      have A_29 := A_17.keep K25 (by simp [ne_b3_b13])
      have E_30 := E_18.keep K25
      have A_31 := A_19.keep K25 (by simp [ne_b7_b13])
      have E_32 := A13.keep K25
      have Z_33 : n0 ≤ T25.heap.size := Nat.le_trans Z_20 K25.1
      change own_G p e below _ _ (mkF m 202 _ [(.ref b13)])
      refine own_astore (n := 204) (l' := #[.val (.int p0), .val (.long q1), .second, .val (.long q2), .second, .val (.int p3), .val (.int p4), .val (.int (0 : Int32)), .val (.int (0 : Int32)), .val (.int j), .val (.long ((1 : Int64) <<< (j &&& 63).toInt64)), .second, .val (.ref b1), .val (.int kz), .val (.int ((kz + (1 : Int32)) + (p4 &&& (4095 : Int32)))), .val (.ref b3), .val (.ref b7), .val (.int (p4 &&& (2147483647 : Int32))), .val (.ref b13), .unset, .unset]) X25 hx (hb hby at_202) rfl rfl rfl ?_
      refine own_aload (n := 206) X25 hx (hb hby at_204) rfl rfl rfl ?_
      refine own_V (n := 209) (argsL := []) (rest := []) (a := b13) X25 hx hZ hown (own_rmE_0_0 l Z a0 hw b13 b1 b3 b7 k1 k3 k7     T25.heap n0 Z_33 Fa25 Fb25 Fc25 A_27 A_29 A_31) (ww28 hw) (ww29 hw) (notFace_of_selects (args := #[]) (mvT hZ (ww31 hw))) (ww31 hw) (ww30 hw) (ww6 hw) (ww32 hw) (by decide) rfl E_32 (by rw [hml]; rfl) (lenOf own_pd3 rfl) rfl (hb hby at_206) (Nat.le_of_ble_eq_true rfl) (Nat.le_of_ble_eq_true rfl) (Nat.le_of_ble_eq_true rfl) (Nat.le_of_ble_eq_true rfl) rfl ?_
      rintro v34 T34 L34 X34 ⟨rfl, Nq34, eq34⟩
      have N34 := Fr.app N25 Nq34
      change own_G p e below _ _ (mkF m 209 _ [(.int (1 : Int32))])
      refine own_istore (n := 211) (l' := #[.val (.int p0), .val (.long q1), .second, .val (.long q2), .second, .val (.int p3), .val (.int p4), .val (.int (0 : Int32)), .val (.int (0 : Int32)), .val (.int j), .val (.long ((1 : Int64) <<< (j &&& 63).toInt64)), .second, .val (.ref b1), .val (.int kz), .val (.int ((kz + (1 : Int32)) + (p4 &&& (4095 : Int32)))), .val (.ref b3), .val (.ref b7), .val (.int (p4 &&& (2147483647 : Int32))), .val (.ref b13), .val (.int (1 : Int32)), .unset]) X34 hx (hb hby at_209) rfl rfl ?_
      refine own_iload (n := 213) X34 hx (hb hby at_211) rfl rfl ?_
      refine own_ifNo (n := 216) X34 hx (hb hby at_213) (teq (by decide : (0 : Int32) = (0 : Int32))).2 rfl ?_
      refine own_iload (n := 218) X34 hx (hb hby at_216) rfl rfl ?_
      refine own_ifNo (n := 221) X34 hx (hb hby at_218) (teq (by decide : (0 : Int32) = (0 : Int32))).2 rfl ?_
      refine own_iconst (n := 222) (z := (1 : Int32)) X34 hx (hb hby at_221) rfl rfl ?_
      refine own_goto (n := 226) X34 hx (hb hby at_222) (by decide) (by decide) ?_
      refine own_istore (n := 228) (l' := #[.val (.int p0), .val (.long q1), .second, .val (.long q2), .second, .val (.int p3), .val (.int p4), .val (.int (0 : Int32)), .val (.int (0 : Int32)), .val (.int j), .val (.long ((1 : Int64) <<< (j &&& 63).toInt64)), .second, .val (.ref b1), .val (.int kz), .val (.int ((kz + (1 : Int32)) + (p4 &&& (4095 : Int32)))), .val (.ref b3), .val (.ref b7), .val (.int (p4 &&& (2147483647 : Int32))), .val (.ref b13), .val (.int (1 : Int32)), .val (.int (1 : Int32))]) X34 hx (hb hby at_226) rfl rfl ?_
      refine own_iload (n := 230) X34 hx (hb hby at_228) rfl rfl ?_
      refine own_iload (n := 232) X34 hx (hb hby at_230) rfl rfl ?_
      refine own_icmpNo (n := 235) X34 hx (hb hby at_232) (teq (by decide : (1 : Int32) = (1 : Int32))).2 rfl ?_
      refine own_aload (n := 237) X34 hx (hb hby at_235) rfl rfl rfl ?_
      refine own_iload (n := 239) X34 hx (hb hby at_237) rfl rfl ?_
      refine own_V (n := 242) (argsL := [(.int (p4 &&& (2147483647 : Int32)))]) (rest := []) (a := b13) X34 hx hZ hown (own_rmC_0_0 l Z a0 hw b13 b1 b3 b7 k1 k3 k7     (p4 &&& (2147483647 : Int32)) T25.heap n0 Z_33 Fa25 Fb25 Fc25 A_27 A_29 A_31 ) (ww33 hw) (ww34 hw) (notFace_of_selects (args := #[]) (mvT hZ (ww36 hw))) (ww36 hw) (ww35 hw) (ww6 hw) (ww37 hw) (by decide) eq34 E_32 (by rw [hml]; rfl) (lenOf own_pd6 rfl) rfl (hb hby at_239) (Nat.le_of_ble_eq_true rfl) (Nat.le_of_ble_eq_true rfl) (Nat.le_of_ble_eq_true rfl) (Nat.le_of_ble_eq_true rfl) rfl ?_
      rintro v35 T35 L35 X35 ⟨rfl, Nq35, eq35⟩
      have N35 := Fr.app N34 Nq35
      change own_G p e below _ _ (mkF m 242 _ [(.int (0 : Int32))])
      refine own_iload (n := 244) X35 hx (hb hby at_242) rfl rfl ?_
      refine own_icmpNo (n := 247) X35 hx (hb hby at_244) (feq (by decide : ¬ ((0 : Int32) = (1 : Int32)))).1 rfl ?_
      refine own_iconst (n := 248) (z := (1 : Int32)) X35 hx (hb hby at_247) rfl rfl ?_
      refine own_goto (n := 252) X35 hx (hb hby at_248) (by decide) (by decide) ?_
      refine own_retZ X35 hx hlk hret (by simp) eq35 (w := (1 : Int32)) rfl (hb hby at_252) (by decide) (by decide) ?_
      exact ⟨rfl, N35⟩
    · rw [hs8]
      refine own_iloadN (n := 17) X0 hx (hb hby at_16) rfl rfl ?_
      refine own_iconst (n := 18) (z := (4 : Int32)) X0 hx (hb hby at_17) rfl rfl ?_
      refine own_iushr (n := 19) X0 hx (hb hby at_18) rfl rfl ?_
      refine own_bipush (n := 21) (z := (63 : Int32)) X0 hx (hb hby at_19) rfl rfl ?_
      refine own_iand (n := 22) X0 hx (hb hby at_21) rfl rfl ?_
      refine own_istore (n := 24) (l' := #[.val (.int p0), .val (.long q1), .second, .val (.long q2), .second, .val (.int p3), .val (.int p4), .val (.int (0 : Int32)), .val (.int (1 : Int32)), .val (.int (((p0).toUInt32 >>> ((4 : Int32) &&& 31).toUInt32).toInt32 &&& (63 : Int32))), .unset, .unset, .unset, .unset, .unset, .unset, .unset, .unset, .unset, .unset, .unset]) X0 hx (hb hby at_22) rfl rfl ?_
      have hj := own_j (((p0).toUInt32 >>> ((4 : Int32) &&& 31).toUInt32).toInt32)
      obtain ⟨j, hje⟩ : ∃ z, z = (((p0).toUInt32 >>> ((4 : Int32) &&& 31).toUInt32).toInt32 &&& (63 : Int32)) := ⟨_, rfl⟩
      rw [← hje] at hj
      rw [← hje]
      refine own_lconst (n := 25) (z := (1 : Int64)) X0 hx (hb hby at_24) rfl rfl ?_
      refine own_iload (n := 27) X0 hx (hb hby at_25) rfl rfl ?_
      refine own_lshl (n := 28) X0 hx (hb hby at_27) rfl rfl ?_
      refine own_lstore (n := 30) (l' := #[.val (.int p0), .val (.long q1), .second, .val (.long q2), .second, .val (.int p3), .val (.int p4), .val (.int (0 : Int32)), .val (.int (1 : Int32)), .val (.int j), .val (.long ((1 : Int64) <<< (j &&& 63).toInt64)), .second, .unset, .unset, .unset, .unset, .unset, .unset, .unset, .unset, .unset]) X0 hx (hb hby at_28) rfl rfl ?_
      refine own_iload (n := 32) X0 hx (hb hby at_30) rfl rfl ?_
      refine own_newA (n := 34) X0 hx hZ own_an_long (ww0 hw) hE0 (hb hby at_32) (by decide) (cap := 0) (by decide) (by decide) (by decide) (by decide) rfl ?_
      intro T36 h36 k36 b36 g36 X36 e36 E36 A36 B36
      have g_b36 : n0 ≤ b36 := Nat.le_trans Z0 (Nat.le_of_eq g36.symm)
      have Z_37 : n0 ≤ h36.size := Nat.le_trans Z0 E36.1
      have V36 : Arv Z h36 b36 k36 .long (0 : Int32) [] (.long (0 : Int64)) := Arv.new A36 (by decide)
      refine own_astore (n := 36) (l' := #[.val (.int p0), .val (.long q1), .second, .val (.long q2), .second, .val (.int p3), .val (.int p4), .val (.int (0 : Int32)), .val (.int (1 : Int32)), .val (.int j), .val (.long ((1 : Int64) <<< (j &&& 63).toInt64)), .second, .val (.ref b36), .unset, .unset, .unset, .unset, .unset, .unset, .unset, .unset]) X36 hx (hb hby at_34) rfl rfl rfl ?_
      refine own_iload (n := 38) X36 hx (hb hby at_36) rfl rfl ?_
      refine own_iconst (n := 39) (z := (1 : Int32)) X36 hx (hb hby at_38) rfl rfl ?_
      refine own_icmpYes (n := 50) X36 hx (hb hby at_39) (feq (by decide : ¬ ((0 : Int32) = (1 : Int32)))).2 (by decide) (by decide) ?_
      refine own_iload (n := 52) X36 hx (hb hby at_50) rfl rfl ?_
      refine own_iconst (n := 53) (z := (2 : Int32)) X36 hx (hb hby at_52) rfl rfl ?_
      refine own_icmpYes (n := 69) X36 hx (hb hby at_53) (feq (by decide : ¬ ((0 : Int32) = (2 : Int32)))).2 (by decide) (by decide) ?_
      refine own_bipush (n := 71) (z := (64 : Int32)) X36 hx (hb hby at_69) rfl rfl ?_
      refine own_iload (n := 73) X36 hx (hb hby at_71) rfl rfl ?_
      refine own_ldc (n := 75) (v := (16777215 : Int32)) X36 hx hZ hown (ww1 hw) (hb hby at_73) rfl ?_
      refine own_iand (n := 76) X36 hx (hb hby at_75) rfl rfl ?_
      refine own_iadd (n := 77) X36 hx (hb hby at_76) rfl rfl ?_
      refine own_istore (n := 79) (l' := #[.val (.int p0), .val (.long q1), .second, .val (.long q2), .second, .val (.int p3), .val (.int p4), .val (.int (0 : Int32)), .val (.int (1 : Int32)), .val (.int j), .val (.long ((1 : Int64) <<< (j &&& 63).toInt64)), .second, .val (.ref b36), .val (.int ((64 : Int32) + (p3 &&& (16777215 : Int32)))), .unset, .unset, .unset, .unset, .unset, .unset, .unset]) X36 hx (hb hby at_77) rfl rfl ?_
      have hk := own_k0 p3
      obtain ⟨kz, hke⟩ : ∃ z, z = ((64 : Int32) + (p3 &&& (16777215 : Int32))) := ⟨_, rfl⟩
      rw [← hke] at hk
      rw [← hke]
      refine own_iload (n := 81) X36 hx (hb hby at_79) rfl rfl ?_
      refine own_iconst (n := 82) (z := (1 : Int32)) X36 hx (hb hby at_81) rfl rfl ?_
      refine own_iadd (n := 83) X36 hx (hb hby at_82) rfl rfl ?_
      refine own_iload (n := 85) X36 hx (hb hby at_83) rfl rfl ?_
      refine own_sipush (n := 88) (z := (4095 : Int32)) X36 hx (hb hby at_85) rfl rfl ?_
      refine own_iand (n := 89) X36 hx (hb hby at_88) rfl rfl ?_
      refine own_iadd (n := 90) X36 hx (hb hby at_89) rfl rfl ?_
      refine own_istore (n := 92) (l' := #[.val (.int p0), .val (.long q1), .second, .val (.long q2), .second, .val (.int p3), .val (.int p4), .val (.int (0 : Int32)), .val (.int (1 : Int32)), .val (.int j), .val (.long ((1 : Int64) <<< (j &&& 63).toInt64)), .second, .val (.ref b36), .val (.int kz), .val (.int ((kz + (1 : Int32)) + (p4 &&& (4095 : Int32)))), .unset, .unset, .unset, .unset, .unset, .unset]) X36 hx (hb hby at_90) rfl rfl ?_
      refine own_iload (n := 94) X36 hx (hb hby at_92) rfl rfl ?_
      refine own_newA (n := 96) X36 hx hZ own_an_int (ww2 hw) e36 (hb hby at_94) (by decide) (cap := 1) (by decide) (by decide) (by decide) (by decide) rfl ?_
      intro T38 h38 k38 b38 g38 X38 e38 E38 A38 B38
      have g_b38 : n0 ≤ b38 := Nat.le_trans Z_37 (Nat.le_of_eq g38.symm)
      have ne_b36_b38 : b36 ≠ b38 := own_ne B36.lt g38
      have E_39 := B36.ext E38
      have A_40 := V36.ext E38
      have Z_41 : n0 ≤ h38.size := Nat.le_trans Z_37 E38.1
      have V38 : Arv Z h38 b38 k38 .int (1 : Int32) [(.int (0 : Int32))] (.int (0 : Int32)) := (Arv.new A38 (by decide)).pad (pad_rep [] (.int (0 : Int32)) 1)
      refine own_astore (n := 98) (l' := #[.val (.int p0), .val (.long q1), .second, .val (.long q2), .second, .val (.int p3), .val (.int p4), .val (.int (0 : Int32)), .val (.int (1 : Int32)), .val (.int j), .val (.long ((1 : Int64) <<< (j &&& 63).toInt64)), .second, .val (.ref b36), .val (.int kz), .val (.int ((kz + (1 : Int32)) + (p4 &&& (4095 : Int32)))), .val (.ref b38), .unset, .unset, .unset, .unset, .unset]) X38 hx (hb hby at_96) rfl rfl rfl ?_
      refine own_iload (n := 100) X38 hx (hb hby at_98) rfl rfl ?_
      refine own_newA (n := 102) X38 hx hZ own_an_long (ww0 hw) e38 (hb hby at_100) (by decide) (cap := 1) (by decide) (by decide) (by decide) (by decide) rfl ?_
      intro T42 h42 k42 b42 g42 X42 e42 E42 A42 B42
      have g_b42 : n0 ≤ b42 := Nat.le_trans Z_41 (Nat.le_of_eq g42.symm)
      have ne_b36_b42 : b36 ≠ b42 := own_ne E_39.lt g42
      have ne_b38_b42 : b38 ≠ b42 := own_ne B38.lt g42
      have E_43 := E_39.ext E42
      have A_44 := A_40.ext E42
      have E_45 := B38.ext E42
      have A_46 := V38.ext E42
      have Z_47 : n0 ≤ h42.size := Nat.le_trans Z_41 E42.1
      have V42 : Arv Z h42 b42 k42 .long (1 : Int32) [(.long (0 : Int64))] (.long (0 : Int64)) := (Arv.new A42 (by decide)).pad (pad_rep [] (.long (0 : Int64)) 1)
      refine own_astore (n := 104) (l' := #[.val (.int p0), .val (.long q1), .second, .val (.long q2), .second, .val (.int p3), .val (.int p4), .val (.int (0 : Int32)), .val (.int (1 : Int32)), .val (.int j), .val (.long ((1 : Int64) <<< (j &&& 63).toInt64)), .second, .val (.ref b36), .val (.int kz), .val (.int ((kz + (1 : Int32)) + (p4 &&& (4095 : Int32)))), .val (.ref b38), .val (.ref b42), .unset, .unset, .unset, .unset]) X42 hx (hb hby at_102) rfl rfl rfl ?_
      refine own_iload (n := 106) X42 hx (hb hby at_104) rfl rfl ?_
      refine own_iconst (n := 107) (z := (1 : Int32)) X42 hx (hb hby at_106) rfl rfl ?_
      refine own_icmpNo (n := 110) X42 hx (hb hby at_107) (flt (by decide : ¬ ((1 : Int32) < (1 : Int32)))).1 rfl ?_
      refine own_aload (n := 112) X42 hx (hb hby at_110) rfl rfl rfl ?_
      refine own_iconst (n := 113) (z := (0 : Int32)) X42 hx (hb hby at_112) rfl rfl ?_
      refine own_iload (n := 115) X42 hx (hb hby at_113) rfl rfl ?_
      refine own_st_iastore (n := 116) X42 hx hZ e42 A_46 ⟨by decide, by decide⟩ 0 rfl (Nat.le_of_ble_eq_true rfl) (hb hby at_115) rfl ?_
      intro T48 h48 X48 e48 W48 V48q
      have V48 : Arv Z h48 b38 k38 .int (1 : Int32) [(.int kz)] (.int (0 : Int32)) := V48q
      have N48 := Fr.snoc X48 N0 g_b38
      have E_49 := E_43.wr W48
      have A_50 := A_44.other W48 ne_b36_b38
      have E_51 := E_45.wr W48
      have E_52 := B42.wr W48
      have A_53 := V42.other W48 (Ne.symm ne_b38_b42)
      have Z_54 : n0 ≤ h48.size := by rw [W48.size]; exact Z_47
      refine own_aload (n := 118) X48 hx (hb hby at_116) rfl rfl rfl ?_
      refine own_iconst (n := 119) (z := (0 : Int32)) X48 hx (hb hby at_118) rfl rfl ?_
      refine own_lloadN (n := 120) X48 hx (hb hby at_119) rfl rfl ?_
      refine own_lload (n := 122) X48 hx (hb hby at_120) rfl rfl ?_
      refine own_lor (n := 123) X48 hx (hb hby at_122) rfl rfl ?_
      refine own_st_lastore (n := 124) X48 hx hZ e48 A_53 ⟨by decide, by decide⟩ 0 rfl (Nat.le_of_ble_eq_true rfl) (hb hby at_123) rfl ?_
      intro T55 h55 X55 e55 W55 V55q
      have V55 : Arv Z h55 b42 k42 .long (1 : Int32) [(.long (q2 ||| ((1 : Int64) <<< (j &&& 63).toInt64)))] (.long (0 : Int64)) := V55q
      have N55 := Fr.snoc X55 N48 g_b42
      have E_56 := E_49.wr W55
      have A_57 := A_50.other W55 ne_b36_b42
      have E_58 := E_51.wr W55
      have E_59 := E_52.wr W55
      have A_60 := V48.other W55 ne_b38_b42
      have Z_61 : n0 ≤ h55.size := by rw [W55.size]; exact Z_54
      refine own_iload (n := 126) X55 hx (hb hby at_124) rfl rfl ?_
      refine own_iconst (n := 127) (z := (2 : Int32)) X55 hx (hb hby at_126) rfl rfl ?_
      refine own_icmpYes (n := 144) X55 hx (hb hby at_127) (feq (by decide : ¬ ((1 : Int32) = (2 : Int32)))).2 (by decide) (by decide) ?_
      refine own_iload (n := 146) X55 hx (hb hby at_144) rfl rfl ?_
      refine own_ifYes (n := 164) X55 hx (hb hby at_146) (flt (by decide : ¬ ((0 : Int32) < (0 : Int32)))).2.2.2 (by decide) (by decide) ?_
      refine own_iload (n := 166) X55 hx (hb hby at_164) rfl rfl ?_
      refine own_ifNo (n := 169) X55 hx (hb hby at_166) (tlt (by decide : (0 : Int32) < (1 : Int32))).2.2.2 rfl ?_
      refine own_iload (n := 171) X55 hx (hb hby at_169) rfl rfl ?_
      refine own_bipush (n := 173) (z := (64 : Int32)) X55 hx (hb hby at_171) rfl rfl ?_
      refine own_imul (n := 174) X55 hx (hb hby at_173) rfl rfl ?_
      refine own_iload (n := 176) X55 hx (hb hby at_174) rfl rfl ?_
      refine own_iadd (n := 177) X55 hx (hb hby at_176) rfl rfl ?_
      refine own_istore (n := 179) (l' := #[.val (.int p0), .val (.long q1), .second, .val (.long q2), .second, .val (.int p3), .val (.int p4), .val (.int (0 : Int32)), .val (.int (1 : Int32)), .val (.int j), .val (.long ((1 : Int64) <<< (j &&& 63).toInt64)), .second, .val (.ref b36), .val (.int kz), .val (.int ((kz + (1 : Int32)) + (p4 &&& (4095 : Int32)))), .val (.ref b38), .val (.ref b42), .val (.int ((kz * (64 : Int32)) + j)), .unset, .unset, .unset]) X55 hx (hb hby at_177) rfl rfl ?_
      refine own_goto (n := 189) X55 hx (hb hby at_179) (by decide) (by decide) ?_
      have hwt := own_wp hk.1 hk.2 hj.1 hj.2
      have hlo : ¬ kz < (64 : Int32) := by rw [Int32.lt_iff_toInt_lt]; have e4 : (64 : Int32).toInt = 64 := rfl; omega
      refine own_new (n := 192) X55 hx hZ hown (ww4 hw) (ww5 hw) (ww6 hw) e55 (hb hby at_189) (by decide) (by decide) rfl ?_
      intro T62 h62 b62 g62 X62 e62 E62 A62 D62
      have g_b62 : n0 ≤ b62 := Nat.le_trans Z_61 (Nat.le_of_eq g62.symm)
      have ne_b36_b62 : b36 ≠ b62 := own_ne E_56.lt g62
      have ne_b38_b62 : b38 ≠ b62 := own_ne E_58.lt g62
      have ne_b42_b62 : b42 ≠ b62 := own_ne E_59.lt g62
      have E_63 := E_56.ext E62
      have A_64 := A_57.ext E62
      have E_65 := E_58.ext E62
      have E_66 := E_59.ext E62
      have A_67 := A_60.ext E62
      have A_68 := V55.ext E62
      have Z_69 : n0 ≤ h62.size := Nat.le_trans Z_61 E62.1
      have F_70 : Fld Z h62 b62 "com/example/eunomia/eunomia/engine/IdSet" "low" "[J" .null := D62 (Or.inr (ww14 hw)) (ty := (.array .long)) (by decide)
      have F_71 : Fld Z h62 b62 "com/example/eunomia/eunomia/engine/IdSet" "places" "[I" .null := D62 (Or.inr (ww16 hw)) (ty := (.array .int)) (by decide)
      have F_72 : Fld Z h62 b62 "com/example/eunomia/eunomia/engine/IdSet" "words" "[J" .null := D62 (Or.inr (ww18 hw)) (ty := (.array .long)) (by decide)
      have F_73 : Fld Z h62 b62 "com/example/eunomia/eunomia/engine/IdSet" "hash" "I" (.int (0 : Int32)) := D62 (Or.inr (ww27 hw)) (ty := .int) (by decide)
      refine own_dup (n := 193) X62 hx (hb hby at_192) rfl rfl ?_
      refine own_aload (n := 195) X62 hx (hb hby at_193) rfl rfl rfl ?_
      refine own_aload (n := 197) X62 hx (hb hby at_195) rfl rfl rfl ?_
      refine own_aload (n := 199) X62 hx (hb hby at_197) rfl rfl rfl ?_
      refine own_I (n := 202) (argsL := [(.ref b36), (.ref b38), (.ref b42)]) (rest := [(.ref b62)]) (a := b62) (by rfl) X62 hx hZ hown (own_rmI_0_1 l Z a0 hw b62 b36 b38 b42 k36 k38 k42  kz (q2 ||| ((1 : Int64) <<< (j &&& 63).toInt64)) h62 n0 Z_69 A62 F_70 F_71 F_72 F_73 A_64 A_67 A_68 E_65 g_b62) (ww7 hw) (ww8 hw) (ww6 hw) (ww9 hw) (by decide) e62 (by rw [hml]; rfl) (lenOf own_pd2 rfl) rfl (hb hby at_199) (Nat.le_of_ble_eq_true rfl) (Nat.le_of_ble_eq_true rfl) (Nat.le_of_ble_eq_true rfl) (Nat.le_of_ble_eq_true rfl) rfl ?_
      rintro v74 T74 L74 X74 ⟨rfl, Nq74, K74, Eq74, Fa74, Fb74, Fc74⟩
      have N74 := Fr.app N55 Nq74
      have E_75 := E_63.keep K74
      have A_76 := A_64.keep K74 (by simp [ne_b36_b62])
      have E_77 := E_65.keep K74
      have E_78 := E_66.keep K74
      have A_79 := A_67.keep K74 (by simp [ne_b38_b62])
      have A_80 := A_68.keep K74 (by simp [ne_b42_b62])
      have E_81 := A62.keep K74
      have Z_82 : n0 ≤ T74.heap.size := Nat.le_trans Z_69 K74.1
      change own_G p e below _ _ (mkF m 202 _ [(.ref b62)])
      refine own_astore (n := 204) (l' := #[.val (.int p0), .val (.long q1), .second, .val (.long q2), .second, .val (.int p3), .val (.int p4), .val (.int (0 : Int32)), .val (.int (1 : Int32)), .val (.int j), .val (.long ((1 : Int64) <<< (j &&& 63).toInt64)), .second, .val (.ref b36), .val (.int kz), .val (.int ((kz + (1 : Int32)) + (p4 &&& (4095 : Int32)))), .val (.ref b38), .val (.ref b42), .val (.int ((kz * (64 : Int32)) + j)), .val (.ref b62), .unset, .unset]) X74 hx (hb hby at_202) rfl rfl rfl ?_
      refine own_aload (n := 206) X74 hx (hb hby at_204) rfl rfl rfl ?_
      refine own_V (n := 209) (argsL := []) (rest := []) (a := b62) X74 hx hZ hown (own_rmE_0_1 l Z a0 hw b62 b36 b38 b42 k36 k38 k42  kz (q2 ||| ((1 : Int64) <<< (j &&& 63).toInt64))  T74.heap n0 Z_82 Fa74 Fb74 Fc74 A_76 A_79 A_80) (ww28 hw) (ww29 hw) (notFace_of_selects (args := #[]) (mvT hZ (ww31 hw))) (ww31 hw) (ww30 hw) (ww6 hw) (ww32 hw) (by decide) rfl E_81 (by rw [hml]; rfl) (lenOf own_pd3 rfl) rfl (hb hby at_206) (Nat.le_of_ble_eq_true rfl) (Nat.le_of_ble_eq_true rfl) (Nat.le_of_ble_eq_true rfl) (Nat.le_of_ble_eq_true rfl) rfl ?_
      rintro v83 T83 L83 X83 ⟨rfl, Nq83, eq83⟩
      have N83 := Fr.app N74 Nq83
      change own_G p e below _ _ (mkF m 209 _ [(.int (0 : Int32))])
      refine own_istore (n := 211) (l' := #[.val (.int p0), .val (.long q1), .second, .val (.long q2), .second, .val (.int p3), .val (.int p4), .val (.int (0 : Int32)), .val (.int (1 : Int32)), .val (.int j), .val (.long ((1 : Int64) <<< (j &&& 63).toInt64)), .second, .val (.ref b36), .val (.int kz), .val (.int ((kz + (1 : Int32)) + (p4 &&& (4095 : Int32)))), .val (.ref b38), .val (.ref b42), .val (.int ((kz * (64 : Int32)) + j)), .val (.ref b62), .val (.int (0 : Int32)), .unset]) X83 hx (hb hby at_209) rfl rfl ?_
      refine own_iload (n := 213) X83 hx (hb hby at_211) rfl rfl ?_
      refine own_ifNo (n := 216) X83 hx (hb hby at_213) (teq (by decide : (0 : Int32) = (0 : Int32))).2 rfl ?_
      refine own_iload (n := 218) X83 hx (hb hby at_216) rfl rfl ?_
      refine own_ifYes (n := 225) X83 hx (hb hby at_218) (feq (by decide : ¬ ((1 : Int32) = (0 : Int32)))).2 (by decide) (by decide) ?_
      refine own_iconst (n := 226) (z := (0 : Int32)) X83 hx (hb hby at_225) rfl rfl ?_
      refine own_istore (n := 228) (l' := #[.val (.int p0), .val (.long q1), .second, .val (.long q2), .second, .val (.int p3), .val (.int p4), .val (.int (0 : Int32)), .val (.int (1 : Int32)), .val (.int j), .val (.long ((1 : Int64) <<< (j &&& 63).toInt64)), .second, .val (.ref b36), .val (.int kz), .val (.int ((kz + (1 : Int32)) + (p4 &&& (4095 : Int32)))), .val (.ref b38), .val (.ref b42), .val (.int ((kz * (64 : Int32)) + j)), .val (.ref b62), .val (.int (0 : Int32)), .val (.int (0 : Int32))]) X83 hx (hb hby at_226) rfl rfl ?_
      refine own_iload (n := 230) X83 hx (hb hby at_228) rfl rfl ?_
      refine own_iload (n := 232) X83 hx (hb hby at_230) rfl rfl ?_
      refine own_icmpNo (n := 235) X83 hx (hb hby at_232) (teq (by decide : (0 : Int32) = (0 : Int32))).2 rfl ?_
      refine own_aload (n := 237) X83 hx (hb hby at_235) rfl rfl rfl ?_
      refine own_iload (n := 239) X83 hx (hb hby at_237) rfl rfl ?_
      refine own_V (n := 242) (argsL := [(.int ((kz * (64 : Int32)) + j))]) (rest := []) (a := b62) X83 hx hZ hown (own_rmC_0_1 l Z a0 hw b62 b36 b38 b42 k36 k38 k42  kz (q2 ||| ((1 : Int64) <<< (j &&& 63).toInt64))  ((kz * (64 : Int32)) + j) T74.heap n0 Z_82 Fa74 Fb74 Fc74 A_76 A_79 A_80 (own_ushr6 hwt.1 hwt.2.1) hlo (own_hbit _ hj.1 hj.2 hwt.2.2)) (ww33 hw) (ww34 hw) (notFace_of_selects (args := #[]) (mvT hZ (ww36 hw))) (ww36 hw) (ww35 hw) (ww6 hw) (ww37 hw) (by decide) eq83 E_81 (by rw [hml]; rfl) (lenOf own_pd6 rfl) rfl (hb hby at_239) (Nat.le_of_ble_eq_true rfl) (Nat.le_of_ble_eq_true rfl) (Nat.le_of_ble_eq_true rfl) (Nat.le_of_ble_eq_true rfl) rfl ?_
      rintro v84 T84 L84 X84 ⟨rfl, Nq84, eq84⟩
      have N84 := Fr.app N83 Nq84
      change own_G p e below _ _ (mkF m 242 _ [(.int (1 : Int32))])
      refine own_iload (n := 244) X84 hx (hb hby at_242) rfl rfl ?_
      refine own_icmpNo (n := 247) X84 hx (hb hby at_244) (feq (by decide : ¬ ((1 : Int32) = (0 : Int32)))).1 rfl ?_
      refine own_iconst (n := 248) (z := (1 : Int32)) X84 hx (hb hby at_247) rfl rfl ?_
      refine own_goto (n := 252) X84 hx (hb hby at_248) (by decide) (by decide) ?_
      refine own_retZ X84 hx hlk hret (by simp) eq84 (w := (1 : Int32)) rfl (hb hby at_252) (by decide) (by decide) ?_
      exact ⟨rfl, N84⟩
    · rw [hs8]
      refine own_iloadN (n := 17) X0 hx (hb hby at_16) rfl rfl ?_
      refine own_iconst (n := 18) (z := (4 : Int32)) X0 hx (hb hby at_17) rfl rfl ?_
      refine own_iushr (n := 19) X0 hx (hb hby at_18) rfl rfl ?_
      refine own_bipush (n := 21) (z := (63 : Int32)) X0 hx (hb hby at_19) rfl rfl ?_
      refine own_iand (n := 22) X0 hx (hb hby at_21) rfl rfl ?_
      refine own_istore (n := 24) (l' := #[.val (.int p0), .val (.long q1), .second, .val (.long q2), .second, .val (.int p3), .val (.int p4), .val (.int (0 : Int32)), .val (.int (2 : Int32)), .val (.int (((p0).toUInt32 >>> ((4 : Int32) &&& 31).toUInt32).toInt32 &&& (63 : Int32))), .unset, .unset, .unset, .unset, .unset, .unset, .unset, .unset, .unset, .unset, .unset]) X0 hx (hb hby at_22) rfl rfl ?_
      have hj := own_j (((p0).toUInt32 >>> ((4 : Int32) &&& 31).toUInt32).toInt32)
      obtain ⟨j, hje⟩ : ∃ z, z = (((p0).toUInt32 >>> ((4 : Int32) &&& 31).toUInt32).toInt32 &&& (63 : Int32)) := ⟨_, rfl⟩
      rw [← hje] at hj
      rw [← hje]
      refine own_lconst (n := 25) (z := (1 : Int64)) X0 hx (hb hby at_24) rfl rfl ?_
      refine own_iload (n := 27) X0 hx (hb hby at_25) rfl rfl ?_
      refine own_lshl (n := 28) X0 hx (hb hby at_27) rfl rfl ?_
      refine own_lstore (n := 30) (l' := #[.val (.int p0), .val (.long q1), .second, .val (.long q2), .second, .val (.int p3), .val (.int p4), .val (.int (0 : Int32)), .val (.int (2 : Int32)), .val (.int j), .val (.long ((1 : Int64) <<< (j &&& 63).toInt64)), .second, .unset, .unset, .unset, .unset, .unset, .unset, .unset, .unset, .unset]) X0 hx (hb hby at_28) rfl rfl ?_
      refine own_iload (n := 32) X0 hx (hb hby at_30) rfl rfl ?_
      refine own_newA (n := 34) X0 hx hZ own_an_long (ww0 hw) hE0 (hb hby at_32) (by decide) (cap := 0) (by decide) (by decide) (by decide) (by decide) rfl ?_
      intro T85 h85 k85 b85 g85 X85 e85 E85 A85 B85
      have g_b85 : n0 ≤ b85 := Nat.le_trans Z0 (Nat.le_of_eq g85.symm)
      have Z_86 : n0 ≤ h85.size := Nat.le_trans Z0 E85.1
      have V85 : Arv Z h85 b85 k85 .long (0 : Int32) [] (.long (0 : Int64)) := Arv.new A85 (by decide)
      refine own_astore (n := 36) (l' := #[.val (.int p0), .val (.long q1), .second, .val (.long q2), .second, .val (.int p3), .val (.int p4), .val (.int (0 : Int32)), .val (.int (2 : Int32)), .val (.int j), .val (.long ((1 : Int64) <<< (j &&& 63).toInt64)), .second, .val (.ref b85), .unset, .unset, .unset, .unset, .unset, .unset, .unset, .unset]) X85 hx (hb hby at_34) rfl rfl rfl ?_
      refine own_iload (n := 38) X85 hx (hb hby at_36) rfl rfl ?_
      refine own_iconst (n := 39) (z := (1 : Int32)) X85 hx (hb hby at_38) rfl rfl ?_
      refine own_icmpYes (n := 50) X85 hx (hb hby at_39) (feq (by decide : ¬ ((0 : Int32) = (1 : Int32)))).2 (by decide) (by decide) ?_
      refine own_iload (n := 52) X85 hx (hb hby at_50) rfl rfl ?_
      refine own_iconst (n := 53) (z := (2 : Int32)) X85 hx (hb hby at_52) rfl rfl ?_
      refine own_icmpYes (n := 69) X85 hx (hb hby at_53) (feq (by decide : ¬ ((0 : Int32) = (2 : Int32)))).2 (by decide) (by decide) ?_
      refine own_bipush (n := 71) (z := (64 : Int32)) X85 hx (hb hby at_69) rfl rfl ?_
      refine own_iload (n := 73) X85 hx (hb hby at_71) rfl rfl ?_
      refine own_ldc (n := 75) (v := (16777215 : Int32)) X85 hx hZ hown (ww1 hw) (hb hby at_73) rfl ?_
      refine own_iand (n := 76) X85 hx (hb hby at_75) rfl rfl ?_
      refine own_iadd (n := 77) X85 hx (hb hby at_76) rfl rfl ?_
      refine own_istore (n := 79) (l' := #[.val (.int p0), .val (.long q1), .second, .val (.long q2), .second, .val (.int p3), .val (.int p4), .val (.int (0 : Int32)), .val (.int (2 : Int32)), .val (.int j), .val (.long ((1 : Int64) <<< (j &&& 63).toInt64)), .second, .val (.ref b85), .val (.int ((64 : Int32) + (p3 &&& (16777215 : Int32)))), .unset, .unset, .unset, .unset, .unset, .unset, .unset]) X85 hx (hb hby at_77) rfl rfl ?_
      have hk := own_k0 p3
      obtain ⟨kz, hke⟩ : ∃ z, z = ((64 : Int32) + (p3 &&& (16777215 : Int32))) := ⟨_, rfl⟩
      rw [← hke] at hk
      rw [← hke]
      refine own_iload (n := 81) X85 hx (hb hby at_79) rfl rfl ?_
      refine own_iconst (n := 82) (z := (1 : Int32)) X85 hx (hb hby at_81) rfl rfl ?_
      refine own_iadd (n := 83) X85 hx (hb hby at_82) rfl rfl ?_
      refine own_iload (n := 85) X85 hx (hb hby at_83) rfl rfl ?_
      refine own_sipush (n := 88) (z := (4095 : Int32)) X85 hx (hb hby at_85) rfl rfl ?_
      refine own_iand (n := 89) X85 hx (hb hby at_88) rfl rfl ?_
      refine own_iadd (n := 90) X85 hx (hb hby at_89) rfl rfl ?_
      refine own_istore (n := 92) (l' := #[.val (.int p0), .val (.long q1), .second, .val (.long q2), .second, .val (.int p3), .val (.int p4), .val (.int (0 : Int32)), .val (.int (2 : Int32)), .val (.int j), .val (.long ((1 : Int64) <<< (j &&& 63).toInt64)), .second, .val (.ref b85), .val (.int kz), .val (.int ((kz + (1 : Int32)) + (p4 &&& (4095 : Int32)))), .unset, .unset, .unset, .unset, .unset, .unset]) X85 hx (hb hby at_90) rfl rfl ?_
      refine own_iload (n := 94) X85 hx (hb hby at_92) rfl rfl ?_
      refine own_newA (n := 96) X85 hx hZ own_an_int (ww2 hw) e85 (hb hby at_94) (by decide) (cap := 2) (by decide) (by decide) (by decide) (by decide) rfl ?_
      intro T87 h87 k87 b87 g87 X87 e87 E87 A87 B87
      have g_b87 : n0 ≤ b87 := Nat.le_trans Z_86 (Nat.le_of_eq g87.symm)
      have ne_b85_b87 : b85 ≠ b87 := own_ne B85.lt g87
      have E_88 := B85.ext E87
      have A_89 := V85.ext E87
      have Z_90 : n0 ≤ h87.size := Nat.le_trans Z_86 E87.1
      have V87 : Arv Z h87 b87 k87 .int (2 : Int32) [(.int (0 : Int32)), (.int (0 : Int32))] (.int (0 : Int32)) := (Arv.new A87 (by decide)).pad (pad_rep [] (.int (0 : Int32)) 2)
      refine own_astore (n := 98) (l' := #[.val (.int p0), .val (.long q1), .second, .val (.long q2), .second, .val (.int p3), .val (.int p4), .val (.int (0 : Int32)), .val (.int (2 : Int32)), .val (.int j), .val (.long ((1 : Int64) <<< (j &&& 63).toInt64)), .second, .val (.ref b85), .val (.int kz), .val (.int ((kz + (1 : Int32)) + (p4 &&& (4095 : Int32)))), .val (.ref b87), .unset, .unset, .unset, .unset, .unset]) X87 hx (hb hby at_96) rfl rfl rfl ?_
      refine own_iload (n := 100) X87 hx (hb hby at_98) rfl rfl ?_
      refine own_newA (n := 102) X87 hx hZ own_an_long (ww0 hw) e87 (hb hby at_100) (by decide) (cap := 2) (by decide) (by decide) (by decide) (by decide) rfl ?_
      intro T91 h91 k91 b91 g91 X91 e91 E91 A91 B91
      have g_b91 : n0 ≤ b91 := Nat.le_trans Z_90 (Nat.le_of_eq g91.symm)
      have ne_b85_b91 : b85 ≠ b91 := own_ne E_88.lt g91
      have ne_b87_b91 : b87 ≠ b91 := own_ne B87.lt g91
      have E_92 := E_88.ext E91
      have A_93 := A_89.ext E91
      have E_94 := B87.ext E91
      have A_95 := V87.ext E91
      have Z_96 : n0 ≤ h91.size := Nat.le_trans Z_90 E91.1
      have V91 : Arv Z h91 b91 k91 .long (2 : Int32) [(.long (0 : Int64)), (.long (0 : Int64))] (.long (0 : Int64)) := (Arv.new A91 (by decide)).pad (pad_rep [] (.long (0 : Int64)) 2)
      refine own_astore (n := 104) (l' := #[.val (.int p0), .val (.long q1), .second, .val (.long q2), .second, .val (.int p3), .val (.int p4), .val (.int (0 : Int32)), .val (.int (2 : Int32)), .val (.int j), .val (.long ((1 : Int64) <<< (j &&& 63).toInt64)), .second, .val (.ref b85), .val (.int kz), .val (.int ((kz + (1 : Int32)) + (p4 &&& (4095 : Int32)))), .val (.ref b87), .val (.ref b91), .unset, .unset, .unset, .unset]) X91 hx (hb hby at_102) rfl rfl rfl ?_
      refine own_iload (n := 106) X91 hx (hb hby at_104) rfl rfl ?_
      refine own_iconst (n := 107) (z := (1 : Int32)) X91 hx (hb hby at_106) rfl rfl ?_
      refine own_icmpNo (n := 110) X91 hx (hb hby at_107) (flt (by decide : ¬ ((2 : Int32) < (1 : Int32)))).1 rfl ?_
      refine own_aload (n := 112) X91 hx (hb hby at_110) rfl rfl rfl ?_
      refine own_iconst (n := 113) (z := (0 : Int32)) X91 hx (hb hby at_112) rfl rfl ?_
      refine own_iload (n := 115) X91 hx (hb hby at_113) rfl rfl ?_
      refine own_st_iastore (n := 116) X91 hx hZ e91 A_95 ⟨by decide, by decide⟩ 0 rfl (Nat.le_of_ble_eq_true rfl) (hb hby at_115) rfl ?_
      intro T97 h97 X97 e97 W97 V97q
      have V97 : Arv Z h97 b87 k87 .int (2 : Int32) [(.int kz), (.int (0 : Int32))] (.int (0 : Int32)) := V97q
      have N97 := Fr.snoc X97 N0 g_b87
      have E_98 := E_92.wr W97
      have A_99 := A_93.other W97 ne_b85_b87
      have E_100 := E_94.wr W97
      have E_101 := B91.wr W97
      have A_102 := V91.other W97 (Ne.symm ne_b87_b91)
      have Z_103 : n0 ≤ h97.size := by rw [W97.size]; exact Z_96
      refine own_aload (n := 118) X97 hx (hb hby at_116) rfl rfl rfl ?_
      refine own_iconst (n := 119) (z := (0 : Int32)) X97 hx (hb hby at_118) rfl rfl ?_
      refine own_lloadN (n := 120) X97 hx (hb hby at_119) rfl rfl ?_
      refine own_lload (n := 122) X97 hx (hb hby at_120) rfl rfl ?_
      refine own_lor (n := 123) X97 hx (hb hby at_122) rfl rfl ?_
      refine own_st_lastore (n := 124) X97 hx hZ e97 A_102 ⟨by decide, by decide⟩ 0 rfl (Nat.le_of_ble_eq_true rfl) (hb hby at_123) rfl ?_
      intro T104 h104 X104 e104 W104 V104q
      have V104 : Arv Z h104 b91 k91 .long (2 : Int32) [(.long (q2 ||| ((1 : Int64) <<< (j &&& 63).toInt64))), (.long (0 : Int64))] (.long (0 : Int64)) := V104q
      have N104 := Fr.snoc X104 N97 g_b91
      have E_105 := E_98.wr W104
      have A_106 := A_99.other W104 ne_b85_b91
      have E_107 := E_100.wr W104
      have E_108 := E_101.wr W104
      have A_109 := V97.other W104 ne_b87_b91
      have Z_110 : n0 ≤ h104.size := by rw [W104.size]; exact Z_103
      refine own_iload (n := 126) X104 hx (hb hby at_124) rfl rfl ?_
      refine own_iconst (n := 127) (z := (2 : Int32)) X104 hx (hb hby at_126) rfl rfl ?_
      refine own_icmpNo (n := 130) X104 hx (hb hby at_127) (teq (by decide : (2 : Int32) = (2 : Int32))).2 rfl ?_
      refine own_aload (n := 132) X104 hx (hb hby at_130) rfl rfl rfl ?_
      refine own_iconst (n := 133) (z := (1 : Int32)) X104 hx (hb hby at_132) rfl rfl ?_
      refine own_iload (n := 135) X104 hx (hb hby at_133) rfl rfl ?_
      refine own_st_iastore (n := 136) X104 hx hZ e104 A_109 ⟨by decide, by decide⟩ 1 rfl (Nat.le_of_ble_eq_true rfl) (hb hby at_135) rfl ?_
      intro T111 h111 X111 e111 W111 V111q
      have V111 : Arv Z h111 b87 k87 .int (2 : Int32) [(.int kz), (.int ((kz + (1 : Int32)) + (p4 &&& (4095 : Int32))))] (.int (0 : Int32)) := V111q
      have N111 := Fr.snoc X111 N104 g_b87
      have E_112 := E_105.wr W111
      have A_113 := A_106.other W111 ne_b85_b87
      have E_114 := E_107.wr W111
      have E_115 := E_108.wr W111
      have A_116 := V104.other W111 (Ne.symm ne_b87_b91)
      have Z_117 : n0 ≤ h111.size := by rw [W111.size]; exact Z_110
      refine own_aload (n := 138) X111 hx (hb hby at_136) rfl rfl rfl ?_
      refine own_iconst (n := 139) (z := (1 : Int32)) X111 hx (hb hby at_138) rfl rfl ?_
      refine own_lloadN (n := 140) X111 hx (hb hby at_139) rfl rfl ?_
      refine own_lload (n := 142) X111 hx (hb hby at_140) rfl rfl ?_
      refine own_lor (n := 143) X111 hx (hb hby at_142) rfl rfl ?_
      refine own_st_lastore (n := 144) X111 hx hZ e111 A_116 ⟨by decide, by decide⟩ 1 rfl (Nat.le_of_ble_eq_true rfl) (hb hby at_143) rfl ?_
      intro T118 h118 X118 e118 W118 V118q
      have V118 : Arv Z h118 b91 k91 .long (2 : Int32) [(.long (q2 ||| ((1 : Int64) <<< (j &&& 63).toInt64))), (.long (q1 ||| ((1 : Int64) <<< (j &&& 63).toInt64)))] (.long (0 : Int64)) := V118q
      have N118 := Fr.snoc X118 N111 g_b91
      have E_119 := E_112.wr W118
      have A_120 := A_113.other W118 ne_b85_b91
      have E_121 := E_114.wr W118
      have E_122 := E_115.wr W118
      have A_123 := V111.other W118 ne_b87_b91
      have Z_124 : n0 ≤ h118.size := by rw [W118.size]; exact Z_117
      refine own_iload (n := 146) X118 hx (hb hby at_144) rfl rfl ?_
      refine own_ifYes (n := 164) X118 hx (hb hby at_146) (flt (by decide : ¬ ((0 : Int32) < (0 : Int32)))).2.2.2 (by decide) (by decide) ?_
      refine own_iload (n := 166) X118 hx (hb hby at_164) rfl rfl ?_
      refine own_ifNo (n := 169) X118 hx (hb hby at_166) (tlt (by decide : (0 : Int32) < (2 : Int32))).2.2.2 rfl ?_
      refine own_iload (n := 171) X118 hx (hb hby at_169) rfl rfl ?_
      refine own_bipush (n := 173) (z := (64 : Int32)) X118 hx (hb hby at_171) rfl rfl ?_
      refine own_imul (n := 174) X118 hx (hb hby at_173) rfl rfl ?_
      refine own_iload (n := 176) X118 hx (hb hby at_174) rfl rfl ?_
      refine own_iadd (n := 177) X118 hx (hb hby at_176) rfl rfl ?_
      refine own_istore (n := 179) (l' := #[.val (.int p0), .val (.long q1), .second, .val (.long q2), .second, .val (.int p3), .val (.int p4), .val (.int (0 : Int32)), .val (.int (2 : Int32)), .val (.int j), .val (.long ((1 : Int64) <<< (j &&& 63).toInt64)), .second, .val (.ref b85), .val (.int kz), .val (.int ((kz + (1 : Int32)) + (p4 &&& (4095 : Int32)))), .val (.ref b87), .val (.ref b91), .val (.int ((kz * (64 : Int32)) + j)), .unset, .unset, .unset]) X118 hx (hb hby at_177) rfl rfl ?_
      refine own_goto (n := 189) X118 hx (hb hby at_179) (by decide) (by decide) ?_
      have hwt := own_wp hk.1 hk.2 hj.1 hj.2
      have hlo : ¬ kz < (64 : Int32) := by rw [Int32.lt_iff_toInt_lt]; have e4 : (64 : Int32).toInt = 64 := rfl; omega
      refine own_new (n := 192) X118 hx hZ hown (ww4 hw) (ww5 hw) (ww6 hw) e118 (hb hby at_189) (by decide) (by decide) rfl ?_
      intro T125 h125 b125 g125 X125 e125 E125 A125 D125
      have g_b125 : n0 ≤ b125 := Nat.le_trans Z_124 (Nat.le_of_eq g125.symm)
      have ne_b85_b125 : b85 ≠ b125 := own_ne E_119.lt g125
      have ne_b87_b125 : b87 ≠ b125 := own_ne E_121.lt g125
      have ne_b91_b125 : b91 ≠ b125 := own_ne E_122.lt g125
      have E_126 := E_119.ext E125
      have A_127 := A_120.ext E125
      have E_128 := E_121.ext E125
      have E_129 := E_122.ext E125
      have A_130 := A_123.ext E125
      have A_131 := V118.ext E125
      have Z_132 : n0 ≤ h125.size := Nat.le_trans Z_124 E125.1
      have F_133 : Fld Z h125 b125 "com/example/eunomia/eunomia/engine/IdSet" "low" "[J" .null := D125 (Or.inr (ww14 hw)) (ty := (.array .long)) (by decide)
      have F_134 : Fld Z h125 b125 "com/example/eunomia/eunomia/engine/IdSet" "places" "[I" .null := D125 (Or.inr (ww16 hw)) (ty := (.array .int)) (by decide)
      have F_135 : Fld Z h125 b125 "com/example/eunomia/eunomia/engine/IdSet" "words" "[J" .null := D125 (Or.inr (ww18 hw)) (ty := (.array .long)) (by decide)
      have F_136 : Fld Z h125 b125 "com/example/eunomia/eunomia/engine/IdSet" "hash" "I" (.int (0 : Int32)) := D125 (Or.inr (ww27 hw)) (ty := .int) (by decide)
      refine own_dup (n := 193) X125 hx (hb hby at_192) rfl rfl ?_
      refine own_aload (n := 195) X125 hx (hb hby at_193) rfl rfl rfl ?_
      refine own_aload (n := 197) X125 hx (hb hby at_195) rfl rfl rfl ?_
      refine own_aload (n := 199) X125 hx (hb hby at_197) rfl rfl rfl ?_
      refine own_I (n := 202) (argsL := [(.ref b85), (.ref b87), (.ref b91)]) (rest := [(.ref b125)]) (a := b125) (by rfl) X125 hx hZ hown (own_rmI_0_2 l Z a0 hw b125 b85 b87 b91 k85 k87 k91  kz ((kz + (1 : Int32)) + (p4 &&& (4095 : Int32))) (q2 ||| ((1 : Int64) <<< (j &&& 63).toInt64)) (q1 ||| ((1 : Int64) <<< (j &&& 63).toInt64)) h125 n0 Z_132 A125 F_133 F_134 F_135 F_136 A_127 A_130 A_131 E_128 g_b125) (ww7 hw) (ww8 hw) (ww6 hw) (ww9 hw) (by decide) e125 (by rw [hml]; rfl) (lenOf own_pd2 rfl) rfl (hb hby at_199) (Nat.le_of_ble_eq_true rfl) (Nat.le_of_ble_eq_true rfl) (Nat.le_of_ble_eq_true rfl) (Nat.le_of_ble_eq_true rfl) rfl ?_
      rintro v137 T137 L137 X137 ⟨rfl, Nq137, K137, Eq137, Fa137, Fb137, Fc137⟩
      have N137 := Fr.app N118 Nq137
      have E_138 := E_126.keep K137
      have A_139 := A_127.keep K137 (by simp [ne_b85_b125])
      have E_140 := E_128.keep K137
      have E_141 := E_129.keep K137
      have A_142 := A_130.keep K137 (by simp [ne_b87_b125])
      have A_143 := A_131.keep K137 (by simp [ne_b91_b125])
      have E_144 := A125.keep K137
      have Z_145 : n0 ≤ T137.heap.size := Nat.le_trans Z_132 K137.1
      change own_G p e below _ _ (mkF m 202 _ [(.ref b125)])
      refine own_astore (n := 204) (l' := #[.val (.int p0), .val (.long q1), .second, .val (.long q2), .second, .val (.int p3), .val (.int p4), .val (.int (0 : Int32)), .val (.int (2 : Int32)), .val (.int j), .val (.long ((1 : Int64) <<< (j &&& 63).toInt64)), .second, .val (.ref b85), .val (.int kz), .val (.int ((kz + (1 : Int32)) + (p4 &&& (4095 : Int32)))), .val (.ref b87), .val (.ref b91), .val (.int ((kz * (64 : Int32)) + j)), .val (.ref b125), .unset, .unset]) X137 hx (hb hby at_202) rfl rfl rfl ?_
      refine own_aload (n := 206) X137 hx (hb hby at_204) rfl rfl rfl ?_
      refine own_V (n := 209) (argsL := []) (rest := []) (a := b125) X137 hx hZ hown (own_rmE_0_2 l Z a0 hw b125 b85 b87 b91 k85 k87 k91  kz ((kz + (1 : Int32)) + (p4 &&& (4095 : Int32))) (q2 ||| ((1 : Int64) <<< (j &&& 63).toInt64)) (q1 ||| ((1 : Int64) <<< (j &&& 63).toInt64))  T137.heap n0 Z_145 Fa137 Fb137 Fc137 A_139 A_142 A_143) (ww28 hw) (ww29 hw) (notFace_of_selects (args := #[]) (mvT hZ (ww31 hw))) (ww31 hw) (ww30 hw) (ww6 hw) (ww32 hw) (by decide) rfl E_144 (by rw [hml]; rfl) (lenOf own_pd3 rfl) rfl (hb hby at_206) (Nat.le_of_ble_eq_true rfl) (Nat.le_of_ble_eq_true rfl) (Nat.le_of_ble_eq_true rfl) (Nat.le_of_ble_eq_true rfl) rfl ?_
      rintro v146 T146 L146 X146 ⟨rfl, Nq146, eq146⟩
      have N146 := Fr.app N137 Nq146
      change own_G p e below _ _ (mkF m 209 _ [(.int (0 : Int32))])
      refine own_istore (n := 211) (l' := #[.val (.int p0), .val (.long q1), .second, .val (.long q2), .second, .val (.int p3), .val (.int p4), .val (.int (0 : Int32)), .val (.int (2 : Int32)), .val (.int j), .val (.long ((1 : Int64) <<< (j &&& 63).toInt64)), .second, .val (.ref b85), .val (.int kz), .val (.int ((kz + (1 : Int32)) + (p4 &&& (4095 : Int32)))), .val (.ref b87), .val (.ref b91), .val (.int ((kz * (64 : Int32)) + j)), .val (.ref b125), .val (.int (0 : Int32)), .unset]) X146 hx (hb hby at_209) rfl rfl ?_
      refine own_iload (n := 213) X146 hx (hb hby at_211) rfl rfl ?_
      refine own_ifNo (n := 216) X146 hx (hb hby at_213) (teq (by decide : (0 : Int32) = (0 : Int32))).2 rfl ?_
      refine own_iload (n := 218) X146 hx (hb hby at_216) rfl rfl ?_
      refine own_ifYes (n := 225) X146 hx (hb hby at_218) (feq (by decide : ¬ ((2 : Int32) = (0 : Int32)))).2 (by decide) (by decide) ?_
      refine own_iconst (n := 226) (z := (0 : Int32)) X146 hx (hb hby at_225) rfl rfl ?_
      refine own_istore (n := 228) (l' := #[.val (.int p0), .val (.long q1), .second, .val (.long q2), .second, .val (.int p3), .val (.int p4), .val (.int (0 : Int32)), .val (.int (2 : Int32)), .val (.int j), .val (.long ((1 : Int64) <<< (j &&& 63).toInt64)), .second, .val (.ref b85), .val (.int kz), .val (.int ((kz + (1 : Int32)) + (p4 &&& (4095 : Int32)))), .val (.ref b87), .val (.ref b91), .val (.int ((kz * (64 : Int32)) + j)), .val (.ref b125), .val (.int (0 : Int32)), .val (.int (0 : Int32))]) X146 hx (hb hby at_226) rfl rfl ?_
      refine own_iload (n := 230) X146 hx (hb hby at_228) rfl rfl ?_
      refine own_iload (n := 232) X146 hx (hb hby at_230) rfl rfl ?_
      refine own_icmpNo (n := 235) X146 hx (hb hby at_232) (teq (by decide : (0 : Int32) = (0 : Int32))).2 rfl ?_
      refine own_aload (n := 237) X146 hx (hb hby at_235) rfl rfl rfl ?_
      refine own_iload (n := 239) X146 hx (hb hby at_237) rfl rfl ?_
      refine own_V (n := 242) (argsL := [(.int ((kz * (64 : Int32)) + j))]) (rest := []) (a := b125) X146 hx hZ hown (own_rmC_0_2 l Z a0 hw b125 b85 b87 b91 k85 k87 k91  kz ((kz + (1 : Int32)) + (p4 &&& (4095 : Int32))) (q2 ||| ((1 : Int64) <<< (j &&& 63).toInt64)) (q1 ||| ((1 : Int64) <<< (j &&& 63).toInt64))  ((kz * (64 : Int32)) + j) T137.heap n0 Z_145 Fa137 Fb137 Fc137 A_139 A_142 A_143 (own_ushr6 hwt.1 hwt.2.1) hlo (own_hbit _ hj.1 hj.2 hwt.2.2)) (ww33 hw) (ww34 hw) (notFace_of_selects (args := #[]) (mvT hZ (ww36 hw))) (ww36 hw) (ww35 hw) (ww6 hw) (ww37 hw) (by decide) eq146 E_144 (by rw [hml]; rfl) (lenOf own_pd6 rfl) rfl (hb hby at_239) (Nat.le_of_ble_eq_true rfl) (Nat.le_of_ble_eq_true rfl) (Nat.le_of_ble_eq_true rfl) (Nat.le_of_ble_eq_true rfl) rfl ?_
      rintro v147 T147 L147 X147 ⟨rfl, Nq147, eq147⟩
      have N147 := Fr.app N146 Nq147
      change own_G p e below _ _ (mkF m 242 _ [(.int (1 : Int32))])
      refine own_iload (n := 244) X147 hx (hb hby at_242) rfl rfl ?_
      refine own_icmpNo (n := 247) X147 hx (hb hby at_244) (feq (by decide : ¬ ((1 : Int32) = (0 : Int32)))).1 rfl ?_
      refine own_iconst (n := 248) (z := (1 : Int32)) X147 hx (hb hby at_247) rfl rfl ?_
      refine own_goto (n := 252) X147 hx (hb hby at_248) (by decide) (by decide) ?_
      refine own_retZ X147 hx hlk hret (by simp) eq147 (w := (1 : Int32)) rfl (hb hby at_252) (by decide) (by decide) ?_
      exact ⟨rfl, N147⟩
  · rw [hs7]
    refine own_iloadN (n := 8) X0 hx (hb hby at_7) rfl rfl ?_
    refine own_iconst (n := 9) (z := (2 : Int32)) X0 hx (hb hby at_8) rfl rfl ?_
    refine own_iushr (n := 10) X0 hx (hb hby at_9) rfl rfl ?_
    refine own_iconst (n := 11) (z := (3 : Int32)) X0 hx (hb hby at_10) rfl rfl ?_
    refine own_iand (n := 12) X0 hx (hb hby at_11) rfl rfl ?_
    refine own_iconst (n := 13) (z := (3 : Int32)) X0 hx (hb hby at_12) rfl rfl ?_
    refine own_irem (n := 14) X0 hx (hb hby at_13) (by decide) rfl ?_
    refine own_istore (n := 16) (l' := #[.val (.int p0), .val (.long q1), .second, .val (.long q2), .second, .val (.int p3), .val (.int p4), .val (.int (1 : Int32)), .val (.int ((((p0).toUInt32 >>> ((2 : Int32) &&& 31).toUInt32).toInt32 &&& (3 : Int32)) % (3 : Int32))), .unset, .unset, .unset, .unset, .unset, .unset, .unset, .unset, .unset, .unset, .unset, .unset]) X0 hx (hb hby at_14) rfl rfl ?_
    rcases own_rem3 (((p0).toUInt32 >>> ((2 : Int32) &&& 31).toUInt32).toInt32) with hs8 | hs8 | hs8
    · rw [hs8]
      refine own_iloadN (n := 17) X0 hx (hb hby at_16) rfl rfl ?_
      refine own_iconst (n := 18) (z := (4 : Int32)) X0 hx (hb hby at_17) rfl rfl ?_
      refine own_iushr (n := 19) X0 hx (hb hby at_18) rfl rfl ?_
      refine own_bipush (n := 21) (z := (63 : Int32)) X0 hx (hb hby at_19) rfl rfl ?_
      refine own_iand (n := 22) X0 hx (hb hby at_21) rfl rfl ?_
      refine own_istore (n := 24) (l' := #[.val (.int p0), .val (.long q1), .second, .val (.long q2), .second, .val (.int p3), .val (.int p4), .val (.int (1 : Int32)), .val (.int (0 : Int32)), .val (.int (((p0).toUInt32 >>> ((4 : Int32) &&& 31).toUInt32).toInt32 &&& (63 : Int32))), .unset, .unset, .unset, .unset, .unset, .unset, .unset, .unset, .unset, .unset, .unset]) X0 hx (hb hby at_22) rfl rfl ?_
      have hj := own_j (((p0).toUInt32 >>> ((4 : Int32) &&& 31).toUInt32).toInt32)
      obtain ⟨j, hje⟩ : ∃ z, z = (((p0).toUInt32 >>> ((4 : Int32) &&& 31).toUInt32).toInt32 &&& (63 : Int32)) := ⟨_, rfl⟩
      rw [← hje] at hj
      rw [← hje]
      refine own_lconst (n := 25) (z := (1 : Int64)) X0 hx (hb hby at_24) rfl rfl ?_
      refine own_iload (n := 27) X0 hx (hb hby at_25) rfl rfl ?_
      refine own_lshl (n := 28) X0 hx (hb hby at_27) rfl rfl ?_
      refine own_lstore (n := 30) (l' := #[.val (.int p0), .val (.long q1), .second, .val (.long q2), .second, .val (.int p3), .val (.int p4), .val (.int (1 : Int32)), .val (.int (0 : Int32)), .val (.int j), .val (.long ((1 : Int64) <<< (j &&& 63).toInt64)), .second, .unset, .unset, .unset, .unset, .unset, .unset, .unset, .unset, .unset]) X0 hx (hb hby at_28) rfl rfl ?_
      refine own_iload (n := 32) X0 hx (hb hby at_30) rfl rfl ?_
      refine own_newA (n := 34) X0 hx hZ own_an_long (ww0 hw) hE0 (hb hby at_32) (by decide) (cap := 1) (by decide) (by decide) (by decide) (by decide) rfl ?_
      intro T148 h148 k148 b148 g148 X148 e148 E148 A148 B148
      have g_b148 : n0 ≤ b148 := Nat.le_trans Z0 (Nat.le_of_eq g148.symm)
      have Z_149 : n0 ≤ h148.size := Nat.le_trans Z0 E148.1
      have V148 : Arv Z h148 b148 k148 .long (1 : Int32) [(.long (0 : Int64))] (.long (0 : Int64)) := (Arv.new A148 (by decide)).pad (pad_rep [] (.long (0 : Int64)) 1)
      refine own_astore (n := 36) (l' := #[.val (.int p0), .val (.long q1), .second, .val (.long q2), .second, .val (.int p3), .val (.int p4), .val (.int (1 : Int32)), .val (.int (0 : Int32)), .val (.int j), .val (.long ((1 : Int64) <<< (j &&& 63).toInt64)), .second, .val (.ref b148), .unset, .unset, .unset, .unset, .unset, .unset, .unset, .unset]) X148 hx (hb hby at_34) rfl rfl rfl ?_
      refine own_iload (n := 38) X148 hx (hb hby at_36) rfl rfl ?_
      refine own_iconst (n := 39) (z := (1 : Int32)) X148 hx (hb hby at_38) rfl rfl ?_
      refine own_icmpNo (n := 42) X148 hx (hb hby at_39) (teq (by decide : (1 : Int32) = (1 : Int32))).2 rfl ?_
      refine own_aload (n := 44) X148 hx (hb hby at_42) rfl rfl rfl ?_
      refine own_iconst (n := 45) (z := (0 : Int32)) X148 hx (hb hby at_44) rfl rfl ?_
      refine own_lloadN (n := 46) X148 hx (hb hby at_45) rfl rfl ?_
      refine own_lload (n := 48) X148 hx (hb hby at_46) rfl rfl ?_
      refine own_lor (n := 49) X148 hx (hb hby at_48) rfl rfl ?_
      refine own_st_lastore (n := 50) X148 hx hZ e148 V148 ⟨by decide, by decide⟩ 0 rfl (Nat.le_of_ble_eq_true rfl) (hb hby at_49) rfl ?_
      intro T150 h150 X150 e150 W150 V150q
      have V150 : Arv Z h150 b148 k148 .long (1 : Int32) [(.long (q1 ||| ((1 : Int64) <<< (j &&& 63).toInt64)))] (.long (0 : Int64)) := V150q
      have N150 := Fr.snoc X150 N0 g_b148
      have E_151 := B148.wr W150
      have Z_152 : n0 ≤ h150.size := by rw [W150.size]; exact Z_149
      refine own_iload (n := 52) X150 hx (hb hby at_50) rfl rfl ?_
      refine own_iconst (n := 53) (z := (2 : Int32)) X150 hx (hb hby at_52) rfl rfl ?_
      refine own_icmpYes (n := 69) X150 hx (hb hby at_53) (feq (by decide : ¬ ((1 : Int32) = (2 : Int32)))).2 (by decide) (by decide) ?_
      refine own_bipush (n := 71) (z := (64 : Int32)) X150 hx (hb hby at_69) rfl rfl ?_
      refine own_iload (n := 73) X150 hx (hb hby at_71) rfl rfl ?_
      refine own_ldc (n := 75) (v := (16777215 : Int32)) X150 hx hZ hown (ww1 hw) (hb hby at_73) rfl ?_
      refine own_iand (n := 76) X150 hx (hb hby at_75) rfl rfl ?_
      refine own_iadd (n := 77) X150 hx (hb hby at_76) rfl rfl ?_
      refine own_istore (n := 79) (l' := #[.val (.int p0), .val (.long q1), .second, .val (.long q2), .second, .val (.int p3), .val (.int p4), .val (.int (1 : Int32)), .val (.int (0 : Int32)), .val (.int j), .val (.long ((1 : Int64) <<< (j &&& 63).toInt64)), .second, .val (.ref b148), .val (.int ((64 : Int32) + (p3 &&& (16777215 : Int32)))), .unset, .unset, .unset, .unset, .unset, .unset, .unset]) X150 hx (hb hby at_77) rfl rfl ?_
      have hk := own_k0 p3
      obtain ⟨kz, hke⟩ : ∃ z, z = ((64 : Int32) + (p3 &&& (16777215 : Int32))) := ⟨_, rfl⟩
      rw [← hke] at hk
      rw [← hke]
      refine own_iload (n := 81) X150 hx (hb hby at_79) rfl rfl ?_
      refine own_iconst (n := 82) (z := (1 : Int32)) X150 hx (hb hby at_81) rfl rfl ?_
      refine own_iadd (n := 83) X150 hx (hb hby at_82) rfl rfl ?_
      refine own_iload (n := 85) X150 hx (hb hby at_83) rfl rfl ?_
      refine own_sipush (n := 88) (z := (4095 : Int32)) X150 hx (hb hby at_85) rfl rfl ?_
      refine own_iand (n := 89) X150 hx (hb hby at_88) rfl rfl ?_
      refine own_iadd (n := 90) X150 hx (hb hby at_89) rfl rfl ?_
      refine own_istore (n := 92) (l' := #[.val (.int p0), .val (.long q1), .second, .val (.long q2), .second, .val (.int p3), .val (.int p4), .val (.int (1 : Int32)), .val (.int (0 : Int32)), .val (.int j), .val (.long ((1 : Int64) <<< (j &&& 63).toInt64)), .second, .val (.ref b148), .val (.int kz), .val (.int ((kz + (1 : Int32)) + (p4 &&& (4095 : Int32)))), .unset, .unset, .unset, .unset, .unset, .unset]) X150 hx (hb hby at_90) rfl rfl ?_
      refine own_iload (n := 94) X150 hx (hb hby at_92) rfl rfl ?_
      refine own_newA (n := 96) X150 hx hZ own_an_int (ww2 hw) e150 (hb hby at_94) (by decide) (cap := 0) (by decide) (by decide) (by decide) (by decide) rfl ?_
      intro T153 h153 k153 b153 g153 X153 e153 E153 A153 B153
      have g_b153 : n0 ≤ b153 := Nat.le_trans Z_152 (Nat.le_of_eq g153.symm)
      have ne_b148_b153 : b148 ≠ b153 := own_ne E_151.lt g153
      have E_154 := E_151.ext E153
      have A_155 := V150.ext E153
      have Z_156 : n0 ≤ h153.size := Nat.le_trans Z_152 E153.1
      have V153 : Arv Z h153 b153 k153 .int (0 : Int32) [] (.int (0 : Int32)) := Arv.new A153 (by decide)
      refine own_astore (n := 98) (l' := #[.val (.int p0), .val (.long q1), .second, .val (.long q2), .second, .val (.int p3), .val (.int p4), .val (.int (1 : Int32)), .val (.int (0 : Int32)), .val (.int j), .val (.long ((1 : Int64) <<< (j &&& 63).toInt64)), .second, .val (.ref b148), .val (.int kz), .val (.int ((kz + (1 : Int32)) + (p4 &&& (4095 : Int32)))), .val (.ref b153), .unset, .unset, .unset, .unset, .unset]) X153 hx (hb hby at_96) rfl rfl rfl ?_
      refine own_iload (n := 100) X153 hx (hb hby at_98) rfl rfl ?_
      refine own_newA (n := 102) X153 hx hZ own_an_long (ww0 hw) e153 (hb hby at_100) (by decide) (cap := 0) (by decide) (by decide) (by decide) (by decide) rfl ?_
      intro T157 h157 k157 b157 g157 X157 e157 E157 A157 B157
      have g_b157 : n0 ≤ b157 := Nat.le_trans Z_156 (Nat.le_of_eq g157.symm)
      have ne_b148_b157 : b148 ≠ b157 := own_ne E_154.lt g157
      have ne_b153_b157 : b153 ≠ b157 := own_ne B153.lt g157
      have E_158 := E_154.ext E157
      have A_159 := A_155.ext E157
      have E_160 := B153.ext E157
      have A_161 := V153.ext E157
      have Z_162 : n0 ≤ h157.size := Nat.le_trans Z_156 E157.1
      have V157 : Arv Z h157 b157 k157 .long (0 : Int32) [] (.long (0 : Int64)) := Arv.new A157 (by decide)
      refine own_astore (n := 104) (l' := #[.val (.int p0), .val (.long q1), .second, .val (.long q2), .second, .val (.int p3), .val (.int p4), .val (.int (1 : Int32)), .val (.int (0 : Int32)), .val (.int j), .val (.long ((1 : Int64) <<< (j &&& 63).toInt64)), .second, .val (.ref b148), .val (.int kz), .val (.int ((kz + (1 : Int32)) + (p4 &&& (4095 : Int32)))), .val (.ref b153), .val (.ref b157), .unset, .unset, .unset, .unset]) X157 hx (hb hby at_102) rfl rfl rfl ?_
      refine own_iload (n := 106) X157 hx (hb hby at_104) rfl rfl ?_
      refine own_iconst (n := 107) (z := (1 : Int32)) X157 hx (hb hby at_106) rfl rfl ?_
      refine own_icmpYes (n := 124) X157 hx (hb hby at_107) (tlt (by decide : (0 : Int32) < (1 : Int32))).1 (by decide) (by decide) ?_
      refine own_iload (n := 126) X157 hx (hb hby at_124) rfl rfl ?_
      refine own_iconst (n := 127) (z := (2 : Int32)) X157 hx (hb hby at_126) rfl rfl ?_
      refine own_icmpYes (n := 144) X157 hx (hb hby at_127) (feq (by decide : ¬ ((0 : Int32) = (2 : Int32)))).2 (by decide) (by decide) ?_
      refine own_iload (n := 146) X157 hx (hb hby at_144) rfl rfl ?_
      refine own_ifNo (n := 149) X157 hx (hb hby at_146) (tlt (by decide : (0 : Int32) < (1 : Int32))).2.2.2 rfl ?_
      refine own_iload (n := 151) X157 hx (hb hby at_149) rfl rfl ?_
      refine own_iconst (n := 152) (z := (1 : Int32)) X157 hx (hb hby at_151) rfl rfl ?_
      refine own_isub (n := 153) (z := (0 : Int32)) X157 hx (hb hby at_152) rfl rfl ?_
      refine own_bipush (n := 155) (z := (64 : Int32)) X157 hx (hb hby at_153) rfl rfl ?_
      refine own_imul (n := 156) (z := (0 : Int32)) X157 hx (hb hby at_155) rfl rfl ?_
      refine own_iload (n := 158) X157 hx (hb hby at_156) rfl rfl ?_
      refine own_iadd (n := 159) X157 hx (hb hby at_158) rfl rfl ?_
      refine own_istore (n := 161) (l' := #[.val (.int p0), .val (.long q1), .second, .val (.long q2), .second, .val (.int p3), .val (.int p4), .val (.int (1 : Int32)), .val (.int (0 : Int32)), .val (.int j), .val (.long ((1 : Int64) <<< (j &&& 63).toInt64)), .second, .val (.ref b148), .val (.int kz), .val (.int ((kz + (1 : Int32)) + (p4 &&& (4095 : Int32)))), .val (.ref b153), .val (.ref b157), .val (.int ((0 : Int32) + j)), .unset, .unset, .unset]) X157 hx (hb hby at_159) rfl rfl ?_
      refine own_goto (n := 189) X157 hx (hb hby at_161) (by decide) (by decide) ?_
      have hwt := own_wl (c := (0 : Int32)) (j := j) (n := 0) rfl (by decide) hj.1 hj.2
      refine own_new (n := 192) X157 hx hZ hown (ww4 hw) (ww5 hw) (ww6 hw) e157 (hb hby at_189) (by decide) (by decide) rfl ?_
      intro T163 h163 b163 g163 X163 e163 E163 A163 D163
      have g_b163 : n0 ≤ b163 := Nat.le_trans Z_162 (Nat.le_of_eq g163.symm)
      have ne_b148_b163 : b148 ≠ b163 := own_ne E_158.lt g163
      have ne_b153_b163 : b153 ≠ b163 := own_ne E_160.lt g163
      have ne_b157_b163 : b157 ≠ b163 := own_ne B157.lt g163
      have E_164 := E_158.ext E163
      have A_165 := A_159.ext E163
      have E_166 := E_160.ext E163
      have A_167 := A_161.ext E163
      have E_168 := B157.ext E163
      have A_169 := V157.ext E163
      have Z_170 : n0 ≤ h163.size := Nat.le_trans Z_162 E163.1
      have F_171 : Fld Z h163 b163 "com/example/eunomia/eunomia/engine/IdSet" "low" "[J" .null := D163 (Or.inr (ww14 hw)) (ty := (.array .long)) (by decide)
      have F_172 : Fld Z h163 b163 "com/example/eunomia/eunomia/engine/IdSet" "places" "[I" .null := D163 (Or.inr (ww16 hw)) (ty := (.array .int)) (by decide)
      have F_173 : Fld Z h163 b163 "com/example/eunomia/eunomia/engine/IdSet" "words" "[J" .null := D163 (Or.inr (ww18 hw)) (ty := (.array .long)) (by decide)
      have F_174 : Fld Z h163 b163 "com/example/eunomia/eunomia/engine/IdSet" "hash" "I" (.int (0 : Int32)) := D163 (Or.inr (ww27 hw)) (ty := .int) (by decide)
      refine own_dup (n := 193) X163 hx (hb hby at_192) rfl rfl ?_
      refine own_aload (n := 195) X163 hx (hb hby at_193) rfl rfl rfl ?_
      refine own_aload (n := 197) X163 hx (hb hby at_195) rfl rfl rfl ?_
      refine own_aload (n := 199) X163 hx (hb hby at_197) rfl rfl rfl ?_
      refine own_I (n := 202) (argsL := [(.ref b148), (.ref b153), (.ref b157)]) (rest := [(.ref b163)]) (a := b163) (by rfl) X163 hx hZ hown (own_rmI_1_0 l Z a0 hw b163 b148 b153 b157 k148 k153 k157 (q1 ||| ((1 : Int64) <<< (j &&& 63).toInt64))   h163 n0 Z_170 A163 F_171 F_172 F_173 F_174 A_165 A_167 A_169 E_166 g_b163) (ww7 hw) (ww8 hw) (ww6 hw) (ww9 hw) (by decide) e163 (by rw [hml]; rfl) (lenOf own_pd2 rfl) rfl (hb hby at_199) (Nat.le_of_ble_eq_true rfl) (Nat.le_of_ble_eq_true rfl) (Nat.le_of_ble_eq_true rfl) (Nat.le_of_ble_eq_true rfl) rfl ?_
      rintro v175 T175 L175 X175 ⟨rfl, Nq175, K175, Eq175, Fa175, Fb175, Fc175⟩
      have N175 := Fr.app N150 Nq175
      have E_176 := E_164.keep K175
      have A_177 := A_165.keep K175 (by simp [ne_b148_b163])
      have E_178 := E_166.keep K175
      have A_179 := A_167.keep K175 (by simp [ne_b153_b163])
      have E_180 := E_168.keep K175
      have A_181 := A_169.keep K175 (by simp [ne_b157_b163])
      have E_182 := A163.keep K175
      have Z_183 : n0 ≤ T175.heap.size := Nat.le_trans Z_170 K175.1
      change own_G p e below _ _ (mkF m 202 _ [(.ref b163)])
      refine own_astore (n := 204) (l' := #[.val (.int p0), .val (.long q1), .second, .val (.long q2), .second, .val (.int p3), .val (.int p4), .val (.int (1 : Int32)), .val (.int (0 : Int32)), .val (.int j), .val (.long ((1 : Int64) <<< (j &&& 63).toInt64)), .second, .val (.ref b148), .val (.int kz), .val (.int ((kz + (1 : Int32)) + (p4 &&& (4095 : Int32)))), .val (.ref b153), .val (.ref b157), .val (.int ((0 : Int32) + j)), .val (.ref b163), .unset, .unset]) X175 hx (hb hby at_202) rfl rfl rfl ?_
      refine own_aload (n := 206) X175 hx (hb hby at_204) rfl rfl rfl ?_
      refine own_V (n := 209) (argsL := []) (rest := []) (a := b163) X175 hx hZ hown (own_rmE_1_0 l Z a0 hw b163 b148 b153 b157 k148 k153 k157 (q1 ||| ((1 : Int64) <<< (j &&& 63).toInt64))    T175.heap n0 Z_183 Fa175 Fb175 Fc175 A_177 A_179 A_181) (ww28 hw) (ww29 hw) (notFace_of_selects (args := #[]) (mvT hZ (ww31 hw))) (ww31 hw) (ww30 hw) (ww6 hw) (ww32 hw) (by decide) rfl E_182 (by rw [hml]; rfl) (lenOf own_pd3 rfl) rfl (hb hby at_206) (Nat.le_of_ble_eq_true rfl) (Nat.le_of_ble_eq_true rfl) (Nat.le_of_ble_eq_true rfl) (Nat.le_of_ble_eq_true rfl) rfl ?_
      rintro v184 T184 L184 X184 ⟨rfl, Nq184, eq184⟩
      have N184 := Fr.app N175 Nq184
      change own_G p e below _ _ (mkF m 209 _ [(.int (0 : Int32))])
      refine own_istore (n := 211) (l' := #[.val (.int p0), .val (.long q1), .second, .val (.long q2), .second, .val (.int p3), .val (.int p4), .val (.int (1 : Int32)), .val (.int (0 : Int32)), .val (.int j), .val (.long ((1 : Int64) <<< (j &&& 63).toInt64)), .second, .val (.ref b148), .val (.int kz), .val (.int ((kz + (1 : Int32)) + (p4 &&& (4095 : Int32)))), .val (.ref b153), .val (.ref b157), .val (.int ((0 : Int32) + j)), .val (.ref b163), .val (.int (0 : Int32)), .unset]) X184 hx (hb hby at_209) rfl rfl ?_
      refine own_iload (n := 213) X184 hx (hb hby at_211) rfl rfl ?_
      refine own_ifYes (n := 225) X184 hx (hb hby at_213) (feq (by decide : ¬ ((1 : Int32) = (0 : Int32)))).2 (by decide) (by decide) ?_
      refine own_iconst (n := 226) (z := (0 : Int32)) X184 hx (hb hby at_225) rfl rfl ?_
      refine own_istore (n := 228) (l' := #[.val (.int p0), .val (.long q1), .second, .val (.long q2), .second, .val (.int p3), .val (.int p4), .val (.int (1 : Int32)), .val (.int (0 : Int32)), .val (.int j), .val (.long ((1 : Int64) <<< (j &&& 63).toInt64)), .second, .val (.ref b148), .val (.int kz), .val (.int ((kz + (1 : Int32)) + (p4 &&& (4095 : Int32)))), .val (.ref b153), .val (.ref b157), .val (.int ((0 : Int32) + j)), .val (.ref b163), .val (.int (0 : Int32)), .val (.int (0 : Int32))]) X184 hx (hb hby at_226) rfl rfl ?_
      refine own_iload (n := 230) X184 hx (hb hby at_228) rfl rfl ?_
      refine own_iload (n := 232) X184 hx (hb hby at_230) rfl rfl ?_
      refine own_icmpNo (n := 235) X184 hx (hb hby at_232) (teq (by decide : (0 : Int32) = (0 : Int32))).2 rfl ?_
      refine own_aload (n := 237) X184 hx (hb hby at_235) rfl rfl rfl ?_
      refine own_iload (n := 239) X184 hx (hb hby at_237) rfl rfl ?_
      refine own_V (n := 242) (argsL := [(.int ((0 : Int32) + j))]) (rest := []) (a := b163) X184 hx hZ hown (own_rmC_1_0 l Z a0 hw b163 b148 b153 b157 k148 k153 k157 (q1 ||| ((1 : Int64) <<< (j &&& 63).toInt64))    ((0 : Int32) + j) T175.heap n0 Z_183 Fa175 Fb175 Fc175 A_177 A_179 A_181 (own_ushr6 hwt.1 hwt.2.1) (own_hbit _ hj.1 hj.2 hwt.2.2)) (ww33 hw) (ww34 hw) (notFace_of_selects (args := #[]) (mvT hZ (ww36 hw))) (ww36 hw) (ww35 hw) (ww6 hw) (ww37 hw) (by decide) eq184 E_182 (by rw [hml]; rfl) (lenOf own_pd6 rfl) rfl (hb hby at_239) (Nat.le_of_ble_eq_true rfl) (Nat.le_of_ble_eq_true rfl) (Nat.le_of_ble_eq_true rfl) (Nat.le_of_ble_eq_true rfl) rfl ?_
      rintro v185 T185 L185 X185 ⟨rfl, Nq185, eq185⟩
      have N185 := Fr.app N184 Nq185
      change own_G p e below _ _ (mkF m 242 _ [(.int (1 : Int32))])
      refine own_iload (n := 244) X185 hx (hb hby at_242) rfl rfl ?_
      refine own_icmpNo (n := 247) X185 hx (hb hby at_244) (feq (by decide : ¬ ((1 : Int32) = (0 : Int32)))).1 rfl ?_
      refine own_iconst (n := 248) (z := (1 : Int32)) X185 hx (hb hby at_247) rfl rfl ?_
      refine own_goto (n := 252) X185 hx (hb hby at_248) (by decide) (by decide) ?_
      refine own_retZ X185 hx hlk hret (by simp) eq185 (w := (1 : Int32)) rfl (hb hby at_252) (by decide) (by decide) ?_
      exact ⟨rfl, N185⟩
    · rw [hs8]
      refine own_iloadN (n := 17) X0 hx (hb hby at_16) rfl rfl ?_
      refine own_iconst (n := 18) (z := (4 : Int32)) X0 hx (hb hby at_17) rfl rfl ?_
      refine own_iushr (n := 19) X0 hx (hb hby at_18) rfl rfl ?_
      refine own_bipush (n := 21) (z := (63 : Int32)) X0 hx (hb hby at_19) rfl rfl ?_
      refine own_iand (n := 22) X0 hx (hb hby at_21) rfl rfl ?_
      refine own_istore (n := 24) (l' := #[.val (.int p0), .val (.long q1), .second, .val (.long q2), .second, .val (.int p3), .val (.int p4), .val (.int (1 : Int32)), .val (.int (1 : Int32)), .val (.int (((p0).toUInt32 >>> ((4 : Int32) &&& 31).toUInt32).toInt32 &&& (63 : Int32))), .unset, .unset, .unset, .unset, .unset, .unset, .unset, .unset, .unset, .unset, .unset]) X0 hx (hb hby at_22) rfl rfl ?_
      have hj := own_j (((p0).toUInt32 >>> ((4 : Int32) &&& 31).toUInt32).toInt32)
      obtain ⟨j, hje⟩ : ∃ z, z = (((p0).toUInt32 >>> ((4 : Int32) &&& 31).toUInt32).toInt32 &&& (63 : Int32)) := ⟨_, rfl⟩
      rw [← hje] at hj
      rw [← hje]
      refine own_lconst (n := 25) (z := (1 : Int64)) X0 hx (hb hby at_24) rfl rfl ?_
      refine own_iload (n := 27) X0 hx (hb hby at_25) rfl rfl ?_
      refine own_lshl (n := 28) X0 hx (hb hby at_27) rfl rfl ?_
      refine own_lstore (n := 30) (l' := #[.val (.int p0), .val (.long q1), .second, .val (.long q2), .second, .val (.int p3), .val (.int p4), .val (.int (1 : Int32)), .val (.int (1 : Int32)), .val (.int j), .val (.long ((1 : Int64) <<< (j &&& 63).toInt64)), .second, .unset, .unset, .unset, .unset, .unset, .unset, .unset, .unset, .unset]) X0 hx (hb hby at_28) rfl rfl ?_
      refine own_iload (n := 32) X0 hx (hb hby at_30) rfl rfl ?_
      refine own_newA (n := 34) X0 hx hZ own_an_long (ww0 hw) hE0 (hb hby at_32) (by decide) (cap := 1) (by decide) (by decide) (by decide) (by decide) rfl ?_
      intro T186 h186 k186 b186 g186 X186 e186 E186 A186 B186
      have g_b186 : n0 ≤ b186 := Nat.le_trans Z0 (Nat.le_of_eq g186.symm)
      have Z_187 : n0 ≤ h186.size := Nat.le_trans Z0 E186.1
      have V186 : Arv Z h186 b186 k186 .long (1 : Int32) [(.long (0 : Int64))] (.long (0 : Int64)) := (Arv.new A186 (by decide)).pad (pad_rep [] (.long (0 : Int64)) 1)
      refine own_astore (n := 36) (l' := #[.val (.int p0), .val (.long q1), .second, .val (.long q2), .second, .val (.int p3), .val (.int p4), .val (.int (1 : Int32)), .val (.int (1 : Int32)), .val (.int j), .val (.long ((1 : Int64) <<< (j &&& 63).toInt64)), .second, .val (.ref b186), .unset, .unset, .unset, .unset, .unset, .unset, .unset, .unset]) X186 hx (hb hby at_34) rfl rfl rfl ?_
      refine own_iload (n := 38) X186 hx (hb hby at_36) rfl rfl ?_
      refine own_iconst (n := 39) (z := (1 : Int32)) X186 hx (hb hby at_38) rfl rfl ?_
      refine own_icmpNo (n := 42) X186 hx (hb hby at_39) (teq (by decide : (1 : Int32) = (1 : Int32))).2 rfl ?_
      refine own_aload (n := 44) X186 hx (hb hby at_42) rfl rfl rfl ?_
      refine own_iconst (n := 45) (z := (0 : Int32)) X186 hx (hb hby at_44) rfl rfl ?_
      refine own_lloadN (n := 46) X186 hx (hb hby at_45) rfl rfl ?_
      refine own_lload (n := 48) X186 hx (hb hby at_46) rfl rfl ?_
      refine own_lor (n := 49) X186 hx (hb hby at_48) rfl rfl ?_
      refine own_st_lastore (n := 50) X186 hx hZ e186 V186 ⟨by decide, by decide⟩ 0 rfl (Nat.le_of_ble_eq_true rfl) (hb hby at_49) rfl ?_
      intro T188 h188 X188 e188 W188 V188q
      have V188 : Arv Z h188 b186 k186 .long (1 : Int32) [(.long (q1 ||| ((1 : Int64) <<< (j &&& 63).toInt64)))] (.long (0 : Int64)) := V188q
      have N188 := Fr.snoc X188 N0 g_b186
      have E_189 := B186.wr W188
      have Z_190 : n0 ≤ h188.size := by rw [W188.size]; exact Z_187
      refine own_iload (n := 52) X188 hx (hb hby at_50) rfl rfl ?_
      refine own_iconst (n := 53) (z := (2 : Int32)) X188 hx (hb hby at_52) rfl rfl ?_
      refine own_icmpYes (n := 69) X188 hx (hb hby at_53) (feq (by decide : ¬ ((1 : Int32) = (2 : Int32)))).2 (by decide) (by decide) ?_
      refine own_bipush (n := 71) (z := (64 : Int32)) X188 hx (hb hby at_69) rfl rfl ?_
      refine own_iload (n := 73) X188 hx (hb hby at_71) rfl rfl ?_
      refine own_ldc (n := 75) (v := (16777215 : Int32)) X188 hx hZ hown (ww1 hw) (hb hby at_73) rfl ?_
      refine own_iand (n := 76) X188 hx (hb hby at_75) rfl rfl ?_
      refine own_iadd (n := 77) X188 hx (hb hby at_76) rfl rfl ?_
      refine own_istore (n := 79) (l' := #[.val (.int p0), .val (.long q1), .second, .val (.long q2), .second, .val (.int p3), .val (.int p4), .val (.int (1 : Int32)), .val (.int (1 : Int32)), .val (.int j), .val (.long ((1 : Int64) <<< (j &&& 63).toInt64)), .second, .val (.ref b186), .val (.int ((64 : Int32) + (p3 &&& (16777215 : Int32)))), .unset, .unset, .unset, .unset, .unset, .unset, .unset]) X188 hx (hb hby at_77) rfl rfl ?_
      have hk := own_k0 p3
      obtain ⟨kz, hke⟩ : ∃ z, z = ((64 : Int32) + (p3 &&& (16777215 : Int32))) := ⟨_, rfl⟩
      rw [← hke] at hk
      rw [← hke]
      refine own_iload (n := 81) X188 hx (hb hby at_79) rfl rfl ?_
      refine own_iconst (n := 82) (z := (1 : Int32)) X188 hx (hb hby at_81) rfl rfl ?_
      refine own_iadd (n := 83) X188 hx (hb hby at_82) rfl rfl ?_
      refine own_iload (n := 85) X188 hx (hb hby at_83) rfl rfl ?_
      refine own_sipush (n := 88) (z := (4095 : Int32)) X188 hx (hb hby at_85) rfl rfl ?_
      refine own_iand (n := 89) X188 hx (hb hby at_88) rfl rfl ?_
      refine own_iadd (n := 90) X188 hx (hb hby at_89) rfl rfl ?_
      refine own_istore (n := 92) (l' := #[.val (.int p0), .val (.long q1), .second, .val (.long q2), .second, .val (.int p3), .val (.int p4), .val (.int (1 : Int32)), .val (.int (1 : Int32)), .val (.int j), .val (.long ((1 : Int64) <<< (j &&& 63).toInt64)), .second, .val (.ref b186), .val (.int kz), .val (.int ((kz + (1 : Int32)) + (p4 &&& (4095 : Int32)))), .unset, .unset, .unset, .unset, .unset, .unset]) X188 hx (hb hby at_90) rfl rfl ?_
      refine own_iload (n := 94) X188 hx (hb hby at_92) rfl rfl ?_
      refine own_newA (n := 96) X188 hx hZ own_an_int (ww2 hw) e188 (hb hby at_94) (by decide) (cap := 1) (by decide) (by decide) (by decide) (by decide) rfl ?_
      intro T191 h191 k191 b191 g191 X191 e191 E191 A191 B191
      have g_b191 : n0 ≤ b191 := Nat.le_trans Z_190 (Nat.le_of_eq g191.symm)
      have ne_b186_b191 : b186 ≠ b191 := own_ne E_189.lt g191
      have E_192 := E_189.ext E191
      have A_193 := V188.ext E191
      have Z_194 : n0 ≤ h191.size := Nat.le_trans Z_190 E191.1
      have V191 : Arv Z h191 b191 k191 .int (1 : Int32) [(.int (0 : Int32))] (.int (0 : Int32)) := (Arv.new A191 (by decide)).pad (pad_rep [] (.int (0 : Int32)) 1)
      refine own_astore (n := 98) (l' := #[.val (.int p0), .val (.long q1), .second, .val (.long q2), .second, .val (.int p3), .val (.int p4), .val (.int (1 : Int32)), .val (.int (1 : Int32)), .val (.int j), .val (.long ((1 : Int64) <<< (j &&& 63).toInt64)), .second, .val (.ref b186), .val (.int kz), .val (.int ((kz + (1 : Int32)) + (p4 &&& (4095 : Int32)))), .val (.ref b191), .unset, .unset, .unset, .unset, .unset]) X191 hx (hb hby at_96) rfl rfl rfl ?_
      refine own_iload (n := 100) X191 hx (hb hby at_98) rfl rfl ?_
      refine own_newA (n := 102) X191 hx hZ own_an_long (ww0 hw) e191 (hb hby at_100) (by decide) (cap := 1) (by decide) (by decide) (by decide) (by decide) rfl ?_
      intro T195 h195 k195 b195 g195 X195 e195 E195 A195 B195
      have g_b195 : n0 ≤ b195 := Nat.le_trans Z_194 (Nat.le_of_eq g195.symm)
      have ne_b186_b195 : b186 ≠ b195 := own_ne E_192.lt g195
      have ne_b191_b195 : b191 ≠ b195 := own_ne B191.lt g195
      have E_196 := E_192.ext E195
      have A_197 := A_193.ext E195
      have E_198 := B191.ext E195
      have A_199 := V191.ext E195
      have Z_200 : n0 ≤ h195.size := Nat.le_trans Z_194 E195.1
      have V195 : Arv Z h195 b195 k195 .long (1 : Int32) [(.long (0 : Int64))] (.long (0 : Int64)) := (Arv.new A195 (by decide)).pad (pad_rep [] (.long (0 : Int64)) 1)
      refine own_astore (n := 104) (l' := #[.val (.int p0), .val (.long q1), .second, .val (.long q2), .second, .val (.int p3), .val (.int p4), .val (.int (1 : Int32)), .val (.int (1 : Int32)), .val (.int j), .val (.long ((1 : Int64) <<< (j &&& 63).toInt64)), .second, .val (.ref b186), .val (.int kz), .val (.int ((kz + (1 : Int32)) + (p4 &&& (4095 : Int32)))), .val (.ref b191), .val (.ref b195), .unset, .unset, .unset, .unset]) X195 hx (hb hby at_102) rfl rfl rfl ?_
      refine own_iload (n := 106) X195 hx (hb hby at_104) rfl rfl ?_
      refine own_iconst (n := 107) (z := (1 : Int32)) X195 hx (hb hby at_106) rfl rfl ?_
      refine own_icmpNo (n := 110) X195 hx (hb hby at_107) (flt (by decide : ¬ ((1 : Int32) < (1 : Int32)))).1 rfl ?_
      refine own_aload (n := 112) X195 hx (hb hby at_110) rfl rfl rfl ?_
      refine own_iconst (n := 113) (z := (0 : Int32)) X195 hx (hb hby at_112) rfl rfl ?_
      refine own_iload (n := 115) X195 hx (hb hby at_113) rfl rfl ?_
      refine own_st_iastore (n := 116) X195 hx hZ e195 A_199 ⟨by decide, by decide⟩ 0 rfl (Nat.le_of_ble_eq_true rfl) (hb hby at_115) rfl ?_
      intro T201 h201 X201 e201 W201 V201q
      have V201 : Arv Z h201 b191 k191 .int (1 : Int32) [(.int kz)] (.int (0 : Int32)) := V201q
      have N201 := Fr.snoc X201 N188 g_b191
      have E_202 := E_196.wr W201
      have A_203 := A_197.other W201 ne_b186_b191
      have E_204 := E_198.wr W201
      have E_205 := B195.wr W201
      have A_206 := V195.other W201 (Ne.symm ne_b191_b195)
      have Z_207 : n0 ≤ h201.size := by rw [W201.size]; exact Z_200
      refine own_aload (n := 118) X201 hx (hb hby at_116) rfl rfl rfl ?_
      refine own_iconst (n := 119) (z := (0 : Int32)) X201 hx (hb hby at_118) rfl rfl ?_
      refine own_lloadN (n := 120) X201 hx (hb hby at_119) rfl rfl ?_
      refine own_lload (n := 122) X201 hx (hb hby at_120) rfl rfl ?_
      refine own_lor (n := 123) X201 hx (hb hby at_122) rfl rfl ?_
      refine own_st_lastore (n := 124) X201 hx hZ e201 A_206 ⟨by decide, by decide⟩ 0 rfl (Nat.le_of_ble_eq_true rfl) (hb hby at_123) rfl ?_
      intro T208 h208 X208 e208 W208 V208q
      have V208 : Arv Z h208 b195 k195 .long (1 : Int32) [(.long (q2 ||| ((1 : Int64) <<< (j &&& 63).toInt64)))] (.long (0 : Int64)) := V208q
      have N208 := Fr.snoc X208 N201 g_b195
      have E_209 := E_202.wr W208
      have A_210 := A_203.other W208 ne_b186_b195
      have E_211 := E_204.wr W208
      have E_212 := E_205.wr W208
      have A_213 := V201.other W208 ne_b191_b195
      have Z_214 : n0 ≤ h208.size := by rw [W208.size]; exact Z_207
      refine own_iload (n := 126) X208 hx (hb hby at_124) rfl rfl ?_
      refine own_iconst (n := 127) (z := (2 : Int32)) X208 hx (hb hby at_126) rfl rfl ?_
      refine own_icmpYes (n := 144) X208 hx (hb hby at_127) (feq (by decide : ¬ ((1 : Int32) = (2 : Int32)))).2 (by decide) (by decide) ?_
      refine own_iload (n := 146) X208 hx (hb hby at_144) rfl rfl ?_
      refine own_ifNo (n := 149) X208 hx (hb hby at_146) (tlt (by decide : (0 : Int32) < (1 : Int32))).2.2.2 rfl ?_
      refine own_iload (n := 151) X208 hx (hb hby at_149) rfl rfl ?_
      refine own_iconst (n := 152) (z := (1 : Int32)) X208 hx (hb hby at_151) rfl rfl ?_
      refine own_isub (n := 153) (z := (0 : Int32)) X208 hx (hb hby at_152) rfl rfl ?_
      refine own_bipush (n := 155) (z := (64 : Int32)) X208 hx (hb hby at_153) rfl rfl ?_
      refine own_imul (n := 156) (z := (0 : Int32)) X208 hx (hb hby at_155) rfl rfl ?_
      refine own_iload (n := 158) X208 hx (hb hby at_156) rfl rfl ?_
      refine own_iadd (n := 159) X208 hx (hb hby at_158) rfl rfl ?_
      refine own_istore (n := 161) (l' := #[.val (.int p0), .val (.long q1), .second, .val (.long q2), .second, .val (.int p3), .val (.int p4), .val (.int (1 : Int32)), .val (.int (1 : Int32)), .val (.int j), .val (.long ((1 : Int64) <<< (j &&& 63).toInt64)), .second, .val (.ref b186), .val (.int kz), .val (.int ((kz + (1 : Int32)) + (p4 &&& (4095 : Int32)))), .val (.ref b191), .val (.ref b195), .val (.int ((0 : Int32) + j)), .unset, .unset, .unset]) X208 hx (hb hby at_159) rfl rfl ?_
      refine own_goto (n := 189) X208 hx (hb hby at_161) (by decide) (by decide) ?_
      have hwt := own_wl (c := (0 : Int32)) (j := j) (n := 0) rfl (by decide) hj.1 hj.2
      refine own_new (n := 192) X208 hx hZ hown (ww4 hw) (ww5 hw) (ww6 hw) e208 (hb hby at_189) (by decide) (by decide) rfl ?_
      intro T215 h215 b215 g215 X215 e215 E215 A215 D215
      have g_b215 : n0 ≤ b215 := Nat.le_trans Z_214 (Nat.le_of_eq g215.symm)
      have ne_b186_b215 : b186 ≠ b215 := own_ne E_209.lt g215
      have ne_b191_b215 : b191 ≠ b215 := own_ne E_211.lt g215
      have ne_b195_b215 : b195 ≠ b215 := own_ne E_212.lt g215
      have E_216 := E_209.ext E215
      have A_217 := A_210.ext E215
      have E_218 := E_211.ext E215
      have E_219 := E_212.ext E215
      have A_220 := A_213.ext E215
      have A_221 := V208.ext E215
      have Z_222 : n0 ≤ h215.size := Nat.le_trans Z_214 E215.1
      have F_223 : Fld Z h215 b215 "com/example/eunomia/eunomia/engine/IdSet" "low" "[J" .null := D215 (Or.inr (ww14 hw)) (ty := (.array .long)) (by decide)
      have F_224 : Fld Z h215 b215 "com/example/eunomia/eunomia/engine/IdSet" "places" "[I" .null := D215 (Or.inr (ww16 hw)) (ty := (.array .int)) (by decide)
      have F_225 : Fld Z h215 b215 "com/example/eunomia/eunomia/engine/IdSet" "words" "[J" .null := D215 (Or.inr (ww18 hw)) (ty := (.array .long)) (by decide)
      have F_226 : Fld Z h215 b215 "com/example/eunomia/eunomia/engine/IdSet" "hash" "I" (.int (0 : Int32)) := D215 (Or.inr (ww27 hw)) (ty := .int) (by decide)
      refine own_dup (n := 193) X215 hx (hb hby at_192) rfl rfl ?_
      refine own_aload (n := 195) X215 hx (hb hby at_193) rfl rfl rfl ?_
      refine own_aload (n := 197) X215 hx (hb hby at_195) rfl rfl rfl ?_
      refine own_aload (n := 199) X215 hx (hb hby at_197) rfl rfl rfl ?_
      refine own_I (n := 202) (argsL := [(.ref b186), (.ref b191), (.ref b195)]) (rest := [(.ref b215)]) (a := b215) (by rfl) X215 hx hZ hown (own_rmI_1_1 l Z a0 hw b215 b186 b191 b195 k186 k191 k195 (q1 ||| ((1 : Int64) <<< (j &&& 63).toInt64)) kz (q2 ||| ((1 : Int64) <<< (j &&& 63).toInt64)) h215 n0 Z_222 A215 F_223 F_224 F_225 F_226 A_217 A_220 A_221 E_218 g_b215) (ww7 hw) (ww8 hw) (ww6 hw) (ww9 hw) (by decide) e215 (by rw [hml]; rfl) (lenOf own_pd2 rfl) rfl (hb hby at_199) (Nat.le_of_ble_eq_true rfl) (Nat.le_of_ble_eq_true rfl) (Nat.le_of_ble_eq_true rfl) (Nat.le_of_ble_eq_true rfl) rfl ?_
      rintro v227 T227 L227 X227 ⟨rfl, Nq227, K227, Eq227, Fa227, Fb227, Fc227⟩
      have N227 := Fr.app N208 Nq227
      have E_228 := E_216.keep K227
      have A_229 := A_217.keep K227 (by simp [ne_b186_b215])
      have E_230 := E_218.keep K227
      have E_231 := E_219.keep K227
      have A_232 := A_220.keep K227 (by simp [ne_b191_b215])
      have A_233 := A_221.keep K227 (by simp [ne_b195_b215])
      have E_234 := A215.keep K227
      have Z_235 : n0 ≤ T227.heap.size := Nat.le_trans Z_222 K227.1
      change own_G p e below _ _ (mkF m 202 _ [(.ref b215)])
      refine own_astore (n := 204) (l' := #[.val (.int p0), .val (.long q1), .second, .val (.long q2), .second, .val (.int p3), .val (.int p4), .val (.int (1 : Int32)), .val (.int (1 : Int32)), .val (.int j), .val (.long ((1 : Int64) <<< (j &&& 63).toInt64)), .second, .val (.ref b186), .val (.int kz), .val (.int ((kz + (1 : Int32)) + (p4 &&& (4095 : Int32)))), .val (.ref b191), .val (.ref b195), .val (.int ((0 : Int32) + j)), .val (.ref b215), .unset, .unset]) X227 hx (hb hby at_202) rfl rfl rfl ?_
      refine own_aload (n := 206) X227 hx (hb hby at_204) rfl rfl rfl ?_
      refine own_V (n := 209) (argsL := []) (rest := []) (a := b215) X227 hx hZ hown (own_rmE_1_1 l Z a0 hw b215 b186 b191 b195 k186 k191 k195 (q1 ||| ((1 : Int64) <<< (j &&& 63).toInt64)) kz (q2 ||| ((1 : Int64) <<< (j &&& 63).toInt64))  T227.heap n0 Z_235 Fa227 Fb227 Fc227 A_229 A_232 A_233) (ww28 hw) (ww29 hw) (notFace_of_selects (args := #[]) (mvT hZ (ww31 hw))) (ww31 hw) (ww30 hw) (ww6 hw) (ww32 hw) (by decide) rfl E_234 (by rw [hml]; rfl) (lenOf own_pd3 rfl) rfl (hb hby at_206) (Nat.le_of_ble_eq_true rfl) (Nat.le_of_ble_eq_true rfl) (Nat.le_of_ble_eq_true rfl) (Nat.le_of_ble_eq_true rfl) rfl ?_
      rintro v236 T236 L236 X236 ⟨rfl, Nq236, eq236⟩
      have N236 := Fr.app N227 Nq236
      change own_G p e below _ _ (mkF m 209 _ [(.int (0 : Int32))])
      refine own_istore (n := 211) (l' := #[.val (.int p0), .val (.long q1), .second, .val (.long q2), .second, .val (.int p3), .val (.int p4), .val (.int (1 : Int32)), .val (.int (1 : Int32)), .val (.int j), .val (.long ((1 : Int64) <<< (j &&& 63).toInt64)), .second, .val (.ref b186), .val (.int kz), .val (.int ((kz + (1 : Int32)) + (p4 &&& (4095 : Int32)))), .val (.ref b191), .val (.ref b195), .val (.int ((0 : Int32) + j)), .val (.ref b215), .val (.int (0 : Int32)), .unset]) X236 hx (hb hby at_209) rfl rfl ?_
      refine own_iload (n := 213) X236 hx (hb hby at_211) rfl rfl ?_
      refine own_ifYes (n := 225) X236 hx (hb hby at_213) (feq (by decide : ¬ ((1 : Int32) = (0 : Int32)))).2 (by decide) (by decide) ?_
      refine own_iconst (n := 226) (z := (0 : Int32)) X236 hx (hb hby at_225) rfl rfl ?_
      refine own_istore (n := 228) (l' := #[.val (.int p0), .val (.long q1), .second, .val (.long q2), .second, .val (.int p3), .val (.int p4), .val (.int (1 : Int32)), .val (.int (1 : Int32)), .val (.int j), .val (.long ((1 : Int64) <<< (j &&& 63).toInt64)), .second, .val (.ref b186), .val (.int kz), .val (.int ((kz + (1 : Int32)) + (p4 &&& (4095 : Int32)))), .val (.ref b191), .val (.ref b195), .val (.int ((0 : Int32) + j)), .val (.ref b215), .val (.int (0 : Int32)), .val (.int (0 : Int32))]) X236 hx (hb hby at_226) rfl rfl ?_
      refine own_iload (n := 230) X236 hx (hb hby at_228) rfl rfl ?_
      refine own_iload (n := 232) X236 hx (hb hby at_230) rfl rfl ?_
      refine own_icmpNo (n := 235) X236 hx (hb hby at_232) (teq (by decide : (0 : Int32) = (0 : Int32))).2 rfl ?_
      refine own_aload (n := 237) X236 hx (hb hby at_235) rfl rfl rfl ?_
      refine own_iload (n := 239) X236 hx (hb hby at_237) rfl rfl ?_
      refine own_V (n := 242) (argsL := [(.int ((0 : Int32) + j))]) (rest := []) (a := b215) X236 hx hZ hown (own_rmC_1_1 l Z a0 hw b215 b186 b191 b195 k186 k191 k195 (q1 ||| ((1 : Int64) <<< (j &&& 63).toInt64)) kz (q2 ||| ((1 : Int64) <<< (j &&& 63).toInt64))  ((0 : Int32) + j) T227.heap n0 Z_235 Fa227 Fb227 Fc227 A_229 A_232 A_233 (own_ushr6 hwt.1 hwt.2.1) (own_hbit _ hj.1 hj.2 hwt.2.2)) (ww33 hw) (ww34 hw) (notFace_of_selects (args := #[]) (mvT hZ (ww36 hw))) (ww36 hw) (ww35 hw) (ww6 hw) (ww37 hw) (by decide) eq236 E_234 (by rw [hml]; rfl) (lenOf own_pd6 rfl) rfl (hb hby at_239) (Nat.le_of_ble_eq_true rfl) (Nat.le_of_ble_eq_true rfl) (Nat.le_of_ble_eq_true rfl) (Nat.le_of_ble_eq_true rfl) rfl ?_
      rintro v237 T237 L237 X237 ⟨rfl, Nq237, eq237⟩
      have N237 := Fr.app N236 Nq237
      change own_G p e below _ _ (mkF m 242 _ [(.int (1 : Int32))])
      refine own_iload (n := 244) X237 hx (hb hby at_242) rfl rfl ?_
      refine own_icmpNo (n := 247) X237 hx (hb hby at_244) (feq (by decide : ¬ ((1 : Int32) = (0 : Int32)))).1 rfl ?_
      refine own_iconst (n := 248) (z := (1 : Int32)) X237 hx (hb hby at_247) rfl rfl ?_
      refine own_goto (n := 252) X237 hx (hb hby at_248) (by decide) (by decide) ?_
      refine own_retZ X237 hx hlk hret (by simp) eq237 (w := (1 : Int32)) rfl (hb hby at_252) (by decide) (by decide) ?_
      exact ⟨rfl, N237⟩
    · rw [hs8]
      refine own_iloadN (n := 17) X0 hx (hb hby at_16) rfl rfl ?_
      refine own_iconst (n := 18) (z := (4 : Int32)) X0 hx (hb hby at_17) rfl rfl ?_
      refine own_iushr (n := 19) X0 hx (hb hby at_18) rfl rfl ?_
      refine own_bipush (n := 21) (z := (63 : Int32)) X0 hx (hb hby at_19) rfl rfl ?_
      refine own_iand (n := 22) X0 hx (hb hby at_21) rfl rfl ?_
      refine own_istore (n := 24) (l' := #[.val (.int p0), .val (.long q1), .second, .val (.long q2), .second, .val (.int p3), .val (.int p4), .val (.int (1 : Int32)), .val (.int (2 : Int32)), .val (.int (((p0).toUInt32 >>> ((4 : Int32) &&& 31).toUInt32).toInt32 &&& (63 : Int32))), .unset, .unset, .unset, .unset, .unset, .unset, .unset, .unset, .unset, .unset, .unset]) X0 hx (hb hby at_22) rfl rfl ?_
      have hj := own_j (((p0).toUInt32 >>> ((4 : Int32) &&& 31).toUInt32).toInt32)
      obtain ⟨j, hje⟩ : ∃ z, z = (((p0).toUInt32 >>> ((4 : Int32) &&& 31).toUInt32).toInt32 &&& (63 : Int32)) := ⟨_, rfl⟩
      rw [← hje] at hj
      rw [← hje]
      refine own_lconst (n := 25) (z := (1 : Int64)) X0 hx (hb hby at_24) rfl rfl ?_
      refine own_iload (n := 27) X0 hx (hb hby at_25) rfl rfl ?_
      refine own_lshl (n := 28) X0 hx (hb hby at_27) rfl rfl ?_
      refine own_lstore (n := 30) (l' := #[.val (.int p0), .val (.long q1), .second, .val (.long q2), .second, .val (.int p3), .val (.int p4), .val (.int (1 : Int32)), .val (.int (2 : Int32)), .val (.int j), .val (.long ((1 : Int64) <<< (j &&& 63).toInt64)), .second, .unset, .unset, .unset, .unset, .unset, .unset, .unset, .unset, .unset]) X0 hx (hb hby at_28) rfl rfl ?_
      refine own_iload (n := 32) X0 hx (hb hby at_30) rfl rfl ?_
      refine own_newA (n := 34) X0 hx hZ own_an_long (ww0 hw) hE0 (hb hby at_32) (by decide) (cap := 1) (by decide) (by decide) (by decide) (by decide) rfl ?_
      intro T238 h238 k238 b238 g238 X238 e238 E238 A238 B238
      have g_b238 : n0 ≤ b238 := Nat.le_trans Z0 (Nat.le_of_eq g238.symm)
      have Z_239 : n0 ≤ h238.size := Nat.le_trans Z0 E238.1
      have V238 : Arv Z h238 b238 k238 .long (1 : Int32) [(.long (0 : Int64))] (.long (0 : Int64)) := (Arv.new A238 (by decide)).pad (pad_rep [] (.long (0 : Int64)) 1)
      refine own_astore (n := 36) (l' := #[.val (.int p0), .val (.long q1), .second, .val (.long q2), .second, .val (.int p3), .val (.int p4), .val (.int (1 : Int32)), .val (.int (2 : Int32)), .val (.int j), .val (.long ((1 : Int64) <<< (j &&& 63).toInt64)), .second, .val (.ref b238), .unset, .unset, .unset, .unset, .unset, .unset, .unset, .unset]) X238 hx (hb hby at_34) rfl rfl rfl ?_
      refine own_iload (n := 38) X238 hx (hb hby at_36) rfl rfl ?_
      refine own_iconst (n := 39) (z := (1 : Int32)) X238 hx (hb hby at_38) rfl rfl ?_
      refine own_icmpNo (n := 42) X238 hx (hb hby at_39) (teq (by decide : (1 : Int32) = (1 : Int32))).2 rfl ?_
      refine own_aload (n := 44) X238 hx (hb hby at_42) rfl rfl rfl ?_
      refine own_iconst (n := 45) (z := (0 : Int32)) X238 hx (hb hby at_44) rfl rfl ?_
      refine own_lloadN (n := 46) X238 hx (hb hby at_45) rfl rfl ?_
      refine own_lload (n := 48) X238 hx (hb hby at_46) rfl rfl ?_
      refine own_lor (n := 49) X238 hx (hb hby at_48) rfl rfl ?_
      refine own_st_lastore (n := 50) X238 hx hZ e238 V238 ⟨by decide, by decide⟩ 0 rfl (Nat.le_of_ble_eq_true rfl) (hb hby at_49) rfl ?_
      intro T240 h240 X240 e240 W240 V240q
      have V240 : Arv Z h240 b238 k238 .long (1 : Int32) [(.long (q1 ||| ((1 : Int64) <<< (j &&& 63).toInt64)))] (.long (0 : Int64)) := V240q
      have N240 := Fr.snoc X240 N0 g_b238
      have E_241 := B238.wr W240
      have Z_242 : n0 ≤ h240.size := by rw [W240.size]; exact Z_239
      refine own_iload (n := 52) X240 hx (hb hby at_50) rfl rfl ?_
      refine own_iconst (n := 53) (z := (2 : Int32)) X240 hx (hb hby at_52) rfl rfl ?_
      refine own_icmpYes (n := 69) X240 hx (hb hby at_53) (feq (by decide : ¬ ((1 : Int32) = (2 : Int32)))).2 (by decide) (by decide) ?_
      refine own_bipush (n := 71) (z := (64 : Int32)) X240 hx (hb hby at_69) rfl rfl ?_
      refine own_iload (n := 73) X240 hx (hb hby at_71) rfl rfl ?_
      refine own_ldc (n := 75) (v := (16777215 : Int32)) X240 hx hZ hown (ww1 hw) (hb hby at_73) rfl ?_
      refine own_iand (n := 76) X240 hx (hb hby at_75) rfl rfl ?_
      refine own_iadd (n := 77) X240 hx (hb hby at_76) rfl rfl ?_
      refine own_istore (n := 79) (l' := #[.val (.int p0), .val (.long q1), .second, .val (.long q2), .second, .val (.int p3), .val (.int p4), .val (.int (1 : Int32)), .val (.int (2 : Int32)), .val (.int j), .val (.long ((1 : Int64) <<< (j &&& 63).toInt64)), .second, .val (.ref b238), .val (.int ((64 : Int32) + (p3 &&& (16777215 : Int32)))), .unset, .unset, .unset, .unset, .unset, .unset, .unset]) X240 hx (hb hby at_77) rfl rfl ?_
      have hk := own_k0 p3
      obtain ⟨kz, hke⟩ : ∃ z, z = ((64 : Int32) + (p3 &&& (16777215 : Int32))) := ⟨_, rfl⟩
      rw [← hke] at hk
      rw [← hke]
      refine own_iload (n := 81) X240 hx (hb hby at_79) rfl rfl ?_
      refine own_iconst (n := 82) (z := (1 : Int32)) X240 hx (hb hby at_81) rfl rfl ?_
      refine own_iadd (n := 83) X240 hx (hb hby at_82) rfl rfl ?_
      refine own_iload (n := 85) X240 hx (hb hby at_83) rfl rfl ?_
      refine own_sipush (n := 88) (z := (4095 : Int32)) X240 hx (hb hby at_85) rfl rfl ?_
      refine own_iand (n := 89) X240 hx (hb hby at_88) rfl rfl ?_
      refine own_iadd (n := 90) X240 hx (hb hby at_89) rfl rfl ?_
      refine own_istore (n := 92) (l' := #[.val (.int p0), .val (.long q1), .second, .val (.long q2), .second, .val (.int p3), .val (.int p4), .val (.int (1 : Int32)), .val (.int (2 : Int32)), .val (.int j), .val (.long ((1 : Int64) <<< (j &&& 63).toInt64)), .second, .val (.ref b238), .val (.int kz), .val (.int ((kz + (1 : Int32)) + (p4 &&& (4095 : Int32)))), .unset, .unset, .unset, .unset, .unset, .unset]) X240 hx (hb hby at_90) rfl rfl ?_
      refine own_iload (n := 94) X240 hx (hb hby at_92) rfl rfl ?_
      refine own_newA (n := 96) X240 hx hZ own_an_int (ww2 hw) e240 (hb hby at_94) (by decide) (cap := 2) (by decide) (by decide) (by decide) (by decide) rfl ?_
      intro T243 h243 k243 b243 g243 X243 e243 E243 A243 B243
      have g_b243 : n0 ≤ b243 := Nat.le_trans Z_242 (Nat.le_of_eq g243.symm)
      have ne_b238_b243 : b238 ≠ b243 := own_ne E_241.lt g243
      have E_244 := E_241.ext E243
      have A_245 := V240.ext E243
      have Z_246 : n0 ≤ h243.size := Nat.le_trans Z_242 E243.1
      have V243 : Arv Z h243 b243 k243 .int (2 : Int32) [(.int (0 : Int32)), (.int (0 : Int32))] (.int (0 : Int32)) := (Arv.new A243 (by decide)).pad (pad_rep [] (.int (0 : Int32)) 2)
      refine own_astore (n := 98) (l' := #[.val (.int p0), .val (.long q1), .second, .val (.long q2), .second, .val (.int p3), .val (.int p4), .val (.int (1 : Int32)), .val (.int (2 : Int32)), .val (.int j), .val (.long ((1 : Int64) <<< (j &&& 63).toInt64)), .second, .val (.ref b238), .val (.int kz), .val (.int ((kz + (1 : Int32)) + (p4 &&& (4095 : Int32)))), .val (.ref b243), .unset, .unset, .unset, .unset, .unset]) X243 hx (hb hby at_96) rfl rfl rfl ?_
      refine own_iload (n := 100) X243 hx (hb hby at_98) rfl rfl ?_
      refine own_newA (n := 102) X243 hx hZ own_an_long (ww0 hw) e243 (hb hby at_100) (by decide) (cap := 2) (by decide) (by decide) (by decide) (by decide) rfl ?_
      intro T247 h247 k247 b247 g247 X247 e247 E247 A247 B247
      have g_b247 : n0 ≤ b247 := Nat.le_trans Z_246 (Nat.le_of_eq g247.symm)
      have ne_b238_b247 : b238 ≠ b247 := own_ne E_244.lt g247
      have ne_b243_b247 : b243 ≠ b247 := own_ne B243.lt g247
      have E_248 := E_244.ext E247
      have A_249 := A_245.ext E247
      have E_250 := B243.ext E247
      have A_251 := V243.ext E247
      have Z_252 : n0 ≤ h247.size := Nat.le_trans Z_246 E247.1
      have V247 : Arv Z h247 b247 k247 .long (2 : Int32) [(.long (0 : Int64)), (.long (0 : Int64))] (.long (0 : Int64)) := (Arv.new A247 (by decide)).pad (pad_rep [] (.long (0 : Int64)) 2)
      refine own_astore (n := 104) (l' := #[.val (.int p0), .val (.long q1), .second, .val (.long q2), .second, .val (.int p3), .val (.int p4), .val (.int (1 : Int32)), .val (.int (2 : Int32)), .val (.int j), .val (.long ((1 : Int64) <<< (j &&& 63).toInt64)), .second, .val (.ref b238), .val (.int kz), .val (.int ((kz + (1 : Int32)) + (p4 &&& (4095 : Int32)))), .val (.ref b243), .val (.ref b247), .unset, .unset, .unset, .unset]) X247 hx (hb hby at_102) rfl rfl rfl ?_
      refine own_iload (n := 106) X247 hx (hb hby at_104) rfl rfl ?_
      refine own_iconst (n := 107) (z := (1 : Int32)) X247 hx (hb hby at_106) rfl rfl ?_
      refine own_icmpNo (n := 110) X247 hx (hb hby at_107) (flt (by decide : ¬ ((2 : Int32) < (1 : Int32)))).1 rfl ?_
      refine own_aload (n := 112) X247 hx (hb hby at_110) rfl rfl rfl ?_
      refine own_iconst (n := 113) (z := (0 : Int32)) X247 hx (hb hby at_112) rfl rfl ?_
      refine own_iload (n := 115) X247 hx (hb hby at_113) rfl rfl ?_
      refine own_st_iastore (n := 116) X247 hx hZ e247 A_251 ⟨by decide, by decide⟩ 0 rfl (Nat.le_of_ble_eq_true rfl) (hb hby at_115) rfl ?_
      intro T253 h253 X253 e253 W253 V253q
      have V253 : Arv Z h253 b243 k243 .int (2 : Int32) [(.int kz), (.int (0 : Int32))] (.int (0 : Int32)) := V253q
      have N253 := Fr.snoc X253 N240 g_b243
      have E_254 := E_248.wr W253
      have A_255 := A_249.other W253 ne_b238_b243
      have E_256 := E_250.wr W253
      have E_257 := B247.wr W253
      have A_258 := V247.other W253 (Ne.symm ne_b243_b247)
      have Z_259 : n0 ≤ h253.size := by rw [W253.size]; exact Z_252
      refine own_aload (n := 118) X253 hx (hb hby at_116) rfl rfl rfl ?_
      refine own_iconst (n := 119) (z := (0 : Int32)) X253 hx (hb hby at_118) rfl rfl ?_
      refine own_lloadN (n := 120) X253 hx (hb hby at_119) rfl rfl ?_
      refine own_lload (n := 122) X253 hx (hb hby at_120) rfl rfl ?_
      refine own_lor (n := 123) X253 hx (hb hby at_122) rfl rfl ?_
      refine own_st_lastore (n := 124) X253 hx hZ e253 A_258 ⟨by decide, by decide⟩ 0 rfl (Nat.le_of_ble_eq_true rfl) (hb hby at_123) rfl ?_
      intro T260 h260 X260 e260 W260 V260q
      have V260 : Arv Z h260 b247 k247 .long (2 : Int32) [(.long (q2 ||| ((1 : Int64) <<< (j &&& 63).toInt64))), (.long (0 : Int64))] (.long (0 : Int64)) := V260q
      have N260 := Fr.snoc X260 N253 g_b247
      have E_261 := E_254.wr W260
      have A_262 := A_255.other W260 ne_b238_b247
      have E_263 := E_256.wr W260
      have E_264 := E_257.wr W260
      have A_265 := V253.other W260 ne_b243_b247
      have Z_266 : n0 ≤ h260.size := by rw [W260.size]; exact Z_259
      refine own_iload (n := 126) X260 hx (hb hby at_124) rfl rfl ?_
      refine own_iconst (n := 127) (z := (2 : Int32)) X260 hx (hb hby at_126) rfl rfl ?_
      refine own_icmpNo (n := 130) X260 hx (hb hby at_127) (teq (by decide : (2 : Int32) = (2 : Int32))).2 rfl ?_
      refine own_aload (n := 132) X260 hx (hb hby at_130) rfl rfl rfl ?_
      refine own_iconst (n := 133) (z := (1 : Int32)) X260 hx (hb hby at_132) rfl rfl ?_
      refine own_iload (n := 135) X260 hx (hb hby at_133) rfl rfl ?_
      refine own_st_iastore (n := 136) X260 hx hZ e260 A_265 ⟨by decide, by decide⟩ 1 rfl (Nat.le_of_ble_eq_true rfl) (hb hby at_135) rfl ?_
      intro T267 h267 X267 e267 W267 V267q
      have V267 : Arv Z h267 b243 k243 .int (2 : Int32) [(.int kz), (.int ((kz + (1 : Int32)) + (p4 &&& (4095 : Int32))))] (.int (0 : Int32)) := V267q
      have N267 := Fr.snoc X267 N260 g_b243
      have E_268 := E_261.wr W267
      have A_269 := A_262.other W267 ne_b238_b243
      have E_270 := E_263.wr W267
      have E_271 := E_264.wr W267
      have A_272 := V260.other W267 (Ne.symm ne_b243_b247)
      have Z_273 : n0 ≤ h267.size := by rw [W267.size]; exact Z_266
      refine own_aload (n := 138) X267 hx (hb hby at_136) rfl rfl rfl ?_
      refine own_iconst (n := 139) (z := (1 : Int32)) X267 hx (hb hby at_138) rfl rfl ?_
      refine own_lloadN (n := 140) X267 hx (hb hby at_139) rfl rfl ?_
      refine own_lload (n := 142) X267 hx (hb hby at_140) rfl rfl ?_
      refine own_lor (n := 143) X267 hx (hb hby at_142) rfl rfl ?_
      refine own_st_lastore (n := 144) X267 hx hZ e267 A_272 ⟨by decide, by decide⟩ 1 rfl (Nat.le_of_ble_eq_true rfl) (hb hby at_143) rfl ?_
      intro T274 h274 X274 e274 W274 V274q
      have V274 : Arv Z h274 b247 k247 .long (2 : Int32) [(.long (q2 ||| ((1 : Int64) <<< (j &&& 63).toInt64))), (.long (q1 ||| ((1 : Int64) <<< (j &&& 63).toInt64)))] (.long (0 : Int64)) := V274q
      have N274 := Fr.snoc X274 N267 g_b247
      have E_275 := E_268.wr W274
      have A_276 := A_269.other W274 ne_b238_b247
      have E_277 := E_270.wr W274
      have E_278 := E_271.wr W274
      have A_279 := V267.other W274 ne_b243_b247
      have Z_280 : n0 ≤ h274.size := by rw [W274.size]; exact Z_273
      refine own_iload (n := 146) X274 hx (hb hby at_144) rfl rfl ?_
      refine own_ifNo (n := 149) X274 hx (hb hby at_146) (tlt (by decide : (0 : Int32) < (1 : Int32))).2.2.2 rfl ?_
      refine own_iload (n := 151) X274 hx (hb hby at_149) rfl rfl ?_
      refine own_iconst (n := 152) (z := (1 : Int32)) X274 hx (hb hby at_151) rfl rfl ?_
      refine own_isub (n := 153) (z := (0 : Int32)) X274 hx (hb hby at_152) rfl rfl ?_
      refine own_bipush (n := 155) (z := (64 : Int32)) X274 hx (hb hby at_153) rfl rfl ?_
      refine own_imul (n := 156) (z := (0 : Int32)) X274 hx (hb hby at_155) rfl rfl ?_
      refine own_iload (n := 158) X274 hx (hb hby at_156) rfl rfl ?_
      refine own_iadd (n := 159) X274 hx (hb hby at_158) rfl rfl ?_
      refine own_istore (n := 161) (l' := #[.val (.int p0), .val (.long q1), .second, .val (.long q2), .second, .val (.int p3), .val (.int p4), .val (.int (1 : Int32)), .val (.int (2 : Int32)), .val (.int j), .val (.long ((1 : Int64) <<< (j &&& 63).toInt64)), .second, .val (.ref b238), .val (.int kz), .val (.int ((kz + (1 : Int32)) + (p4 &&& (4095 : Int32)))), .val (.ref b243), .val (.ref b247), .val (.int ((0 : Int32) + j)), .unset, .unset, .unset]) X274 hx (hb hby at_159) rfl rfl ?_
      refine own_goto (n := 189) X274 hx (hb hby at_161) (by decide) (by decide) ?_
      have hwt := own_wl (c := (0 : Int32)) (j := j) (n := 0) rfl (by decide) hj.1 hj.2
      refine own_new (n := 192) X274 hx hZ hown (ww4 hw) (ww5 hw) (ww6 hw) e274 (hb hby at_189) (by decide) (by decide) rfl ?_
      intro T281 h281 b281 g281 X281 e281 E281 A281 D281
      have g_b281 : n0 ≤ b281 := Nat.le_trans Z_280 (Nat.le_of_eq g281.symm)
      have ne_b238_b281 : b238 ≠ b281 := own_ne E_275.lt g281
      have ne_b243_b281 : b243 ≠ b281 := own_ne E_277.lt g281
      have ne_b247_b281 : b247 ≠ b281 := own_ne E_278.lt g281
      have E_282 := E_275.ext E281
      have A_283 := A_276.ext E281
      have E_284 := E_277.ext E281
      have E_285 := E_278.ext E281
      have A_286 := A_279.ext E281
      have A_287 := V274.ext E281
      have Z_288 : n0 ≤ h281.size := Nat.le_trans Z_280 E281.1
      have F_289 : Fld Z h281 b281 "com/example/eunomia/eunomia/engine/IdSet" "low" "[J" .null := D281 (Or.inr (ww14 hw)) (ty := (.array .long)) (by decide)
      have F_290 : Fld Z h281 b281 "com/example/eunomia/eunomia/engine/IdSet" "places" "[I" .null := D281 (Or.inr (ww16 hw)) (ty := (.array .int)) (by decide)
      have F_291 : Fld Z h281 b281 "com/example/eunomia/eunomia/engine/IdSet" "words" "[J" .null := D281 (Or.inr (ww18 hw)) (ty := (.array .long)) (by decide)
      have F_292 : Fld Z h281 b281 "com/example/eunomia/eunomia/engine/IdSet" "hash" "I" (.int (0 : Int32)) := D281 (Or.inr (ww27 hw)) (ty := .int) (by decide)
      refine own_dup (n := 193) X281 hx (hb hby at_192) rfl rfl ?_
      refine own_aload (n := 195) X281 hx (hb hby at_193) rfl rfl rfl ?_
      refine own_aload (n := 197) X281 hx (hb hby at_195) rfl rfl rfl ?_
      refine own_aload (n := 199) X281 hx (hb hby at_197) rfl rfl rfl ?_
      refine own_I (n := 202) (argsL := [(.ref b238), (.ref b243), (.ref b247)]) (rest := [(.ref b281)]) (a := b281) (by rfl) X281 hx hZ hown (own_rmI_1_2 l Z a0 hw b281 b238 b243 b247 k238 k243 k247 (q1 ||| ((1 : Int64) <<< (j &&& 63).toInt64)) kz ((kz + (1 : Int32)) + (p4 &&& (4095 : Int32))) (q2 ||| ((1 : Int64) <<< (j &&& 63).toInt64)) (q1 ||| ((1 : Int64) <<< (j &&& 63).toInt64)) h281 n0 Z_288 A281 F_289 F_290 F_291 F_292 A_283 A_286 A_287 E_284 g_b281) (ww7 hw) (ww8 hw) (ww6 hw) (ww9 hw) (by decide) e281 (by rw [hml]; rfl) (lenOf own_pd2 rfl) rfl (hb hby at_199) (Nat.le_of_ble_eq_true rfl) (Nat.le_of_ble_eq_true rfl) (Nat.le_of_ble_eq_true rfl) (Nat.le_of_ble_eq_true rfl) rfl ?_
      rintro v293 T293 L293 X293 ⟨rfl, Nq293, K293, Eq293, Fa293, Fb293, Fc293⟩
      have N293 := Fr.app N274 Nq293
      have E_294 := E_282.keep K293
      have A_295 := A_283.keep K293 (by simp [ne_b238_b281])
      have E_296 := E_284.keep K293
      have E_297 := E_285.keep K293
      have A_298 := A_286.keep K293 (by simp [ne_b243_b281])
      have A_299 := A_287.keep K293 (by simp [ne_b247_b281])
      have E_300 := A281.keep K293
      have Z_301 : n0 ≤ T293.heap.size := Nat.le_trans Z_288 K293.1
      change own_G p e below _ _ (mkF m 202 _ [(.ref b281)])
      refine own_astore (n := 204) (l' := #[.val (.int p0), .val (.long q1), .second, .val (.long q2), .second, .val (.int p3), .val (.int p4), .val (.int (1 : Int32)), .val (.int (2 : Int32)), .val (.int j), .val (.long ((1 : Int64) <<< (j &&& 63).toInt64)), .second, .val (.ref b238), .val (.int kz), .val (.int ((kz + (1 : Int32)) + (p4 &&& (4095 : Int32)))), .val (.ref b243), .val (.ref b247), .val (.int ((0 : Int32) + j)), .val (.ref b281), .unset, .unset]) X293 hx (hb hby at_202) rfl rfl rfl ?_
      refine own_aload (n := 206) X293 hx (hb hby at_204) rfl rfl rfl ?_
      refine own_V (n := 209) (argsL := []) (rest := []) (a := b281) X293 hx hZ hown (own_rmE_1_2 l Z a0 hw b281 b238 b243 b247 k238 k243 k247 (q1 ||| ((1 : Int64) <<< (j &&& 63).toInt64)) kz ((kz + (1 : Int32)) + (p4 &&& (4095 : Int32))) (q2 ||| ((1 : Int64) <<< (j &&& 63).toInt64)) (q1 ||| ((1 : Int64) <<< (j &&& 63).toInt64))  T293.heap n0 Z_301 Fa293 Fb293 Fc293 A_295 A_298 A_299) (ww28 hw) (ww29 hw) (notFace_of_selects (args := #[]) (mvT hZ (ww31 hw))) (ww31 hw) (ww30 hw) (ww6 hw) (ww32 hw) (by decide) rfl E_300 (by rw [hml]; rfl) (lenOf own_pd3 rfl) rfl (hb hby at_206) (Nat.le_of_ble_eq_true rfl) (Nat.le_of_ble_eq_true rfl) (Nat.le_of_ble_eq_true rfl) (Nat.le_of_ble_eq_true rfl) rfl ?_
      rintro v302 T302 L302 X302 ⟨rfl, Nq302, eq302⟩
      have N302 := Fr.app N293 Nq302
      change own_G p e below _ _ (mkF m 209 _ [(.int (0 : Int32))])
      refine own_istore (n := 211) (l' := #[.val (.int p0), .val (.long q1), .second, .val (.long q2), .second, .val (.int p3), .val (.int p4), .val (.int (1 : Int32)), .val (.int (2 : Int32)), .val (.int j), .val (.long ((1 : Int64) <<< (j &&& 63).toInt64)), .second, .val (.ref b238), .val (.int kz), .val (.int ((kz + (1 : Int32)) + (p4 &&& (4095 : Int32)))), .val (.ref b243), .val (.ref b247), .val (.int ((0 : Int32) + j)), .val (.ref b281), .val (.int (0 : Int32)), .unset]) X302 hx (hb hby at_209) rfl rfl ?_
      refine own_iload (n := 213) X302 hx (hb hby at_211) rfl rfl ?_
      refine own_ifYes (n := 225) X302 hx (hb hby at_213) (feq (by decide : ¬ ((1 : Int32) = (0 : Int32)))).2 (by decide) (by decide) ?_
      refine own_iconst (n := 226) (z := (0 : Int32)) X302 hx (hb hby at_225) rfl rfl ?_
      refine own_istore (n := 228) (l' := #[.val (.int p0), .val (.long q1), .second, .val (.long q2), .second, .val (.int p3), .val (.int p4), .val (.int (1 : Int32)), .val (.int (2 : Int32)), .val (.int j), .val (.long ((1 : Int64) <<< (j &&& 63).toInt64)), .second, .val (.ref b238), .val (.int kz), .val (.int ((kz + (1 : Int32)) + (p4 &&& (4095 : Int32)))), .val (.ref b243), .val (.ref b247), .val (.int ((0 : Int32) + j)), .val (.ref b281), .val (.int (0 : Int32)), .val (.int (0 : Int32))]) X302 hx (hb hby at_226) rfl rfl ?_
      refine own_iload (n := 230) X302 hx (hb hby at_228) rfl rfl ?_
      refine own_iload (n := 232) X302 hx (hb hby at_230) rfl rfl ?_
      refine own_icmpNo (n := 235) X302 hx (hb hby at_232) (teq (by decide : (0 : Int32) = (0 : Int32))).2 rfl ?_
      refine own_aload (n := 237) X302 hx (hb hby at_235) rfl rfl rfl ?_
      refine own_iload (n := 239) X302 hx (hb hby at_237) rfl rfl ?_
      refine own_V (n := 242) (argsL := [(.int ((0 : Int32) + j))]) (rest := []) (a := b281) X302 hx hZ hown (own_rmC_1_2 l Z a0 hw b281 b238 b243 b247 k238 k243 k247 (q1 ||| ((1 : Int64) <<< (j &&& 63).toInt64)) kz ((kz + (1 : Int32)) + (p4 &&& (4095 : Int32))) (q2 ||| ((1 : Int64) <<< (j &&& 63).toInt64)) (q1 ||| ((1 : Int64) <<< (j &&& 63).toInt64))  ((0 : Int32) + j) T293.heap n0 Z_301 Fa293 Fb293 Fc293 A_295 A_298 A_299 (own_ushr6 hwt.1 hwt.2.1) (own_hbit _ hj.1 hj.2 hwt.2.2)) (ww33 hw) (ww34 hw) (notFace_of_selects (args := #[]) (mvT hZ (ww36 hw))) (ww36 hw) (ww35 hw) (ww6 hw) (ww37 hw) (by decide) eq302 E_300 (by rw [hml]; rfl) (lenOf own_pd6 rfl) rfl (hb hby at_239) (Nat.le_of_ble_eq_true rfl) (Nat.le_of_ble_eq_true rfl) (Nat.le_of_ble_eq_true rfl) (Nat.le_of_ble_eq_true rfl) rfl ?_
      rintro v303 T303 L303 X303 ⟨rfl, Nq303, eq303⟩
      have N303 := Fr.app N302 Nq303
      change own_G p e below _ _ (mkF m 242 _ [(.int (1 : Int32))])
      refine own_iload (n := 244) X303 hx (hb hby at_242) rfl rfl ?_
      refine own_icmpNo (n := 247) X303 hx (hb hby at_244) (feq (by decide : ¬ ((1 : Int32) = (0 : Int32)))).1 rfl ?_
      refine own_iconst (n := 248) (z := (1 : Int32)) X303 hx (hb hby at_247) rfl rfl ?_
      refine own_goto (n := 252) X303 hx (hb hby at_248) (by decide) (by decide) ?_
      refine own_retZ X303 hx hlk hret (by simp) eq303 (w := (1 : Int32)) rfl (hb hby at_252) (by decide) (by decide) ?_
      exact ⟨rfl, N303⟩
  · rw [hs7]
    refine own_iloadN (n := 8) X0 hx (hb hby at_7) rfl rfl ?_
    refine own_iconst (n := 9) (z := (2 : Int32)) X0 hx (hb hby at_8) rfl rfl ?_
    refine own_iushr (n := 10) X0 hx (hb hby at_9) rfl rfl ?_
    refine own_iconst (n := 11) (z := (3 : Int32)) X0 hx (hb hby at_10) rfl rfl ?_
    refine own_iand (n := 12) X0 hx (hb hby at_11) rfl rfl ?_
    refine own_iconst (n := 13) (z := (3 : Int32)) X0 hx (hb hby at_12) rfl rfl ?_
    refine own_irem (n := 14) X0 hx (hb hby at_13) (by decide) rfl ?_
    refine own_istore (n := 16) (l' := #[.val (.int p0), .val (.long q1), .second, .val (.long q2), .second, .val (.int p3), .val (.int p4), .val (.int (2 : Int32)), .val (.int ((((p0).toUInt32 >>> ((2 : Int32) &&& 31).toUInt32).toInt32 &&& (3 : Int32)) % (3 : Int32))), .unset, .unset, .unset, .unset, .unset, .unset, .unset, .unset, .unset, .unset, .unset, .unset]) X0 hx (hb hby at_14) rfl rfl ?_
    rcases own_rem3 (((p0).toUInt32 >>> ((2 : Int32) &&& 31).toUInt32).toInt32) with hs8 | hs8 | hs8
    · rw [hs8]
      refine own_iloadN (n := 17) X0 hx (hb hby at_16) rfl rfl ?_
      refine own_iconst (n := 18) (z := (4 : Int32)) X0 hx (hb hby at_17) rfl rfl ?_
      refine own_iushr (n := 19) X0 hx (hb hby at_18) rfl rfl ?_
      refine own_bipush (n := 21) (z := (63 : Int32)) X0 hx (hb hby at_19) rfl rfl ?_
      refine own_iand (n := 22) X0 hx (hb hby at_21) rfl rfl ?_
      refine own_istore (n := 24) (l' := #[.val (.int p0), .val (.long q1), .second, .val (.long q2), .second, .val (.int p3), .val (.int p4), .val (.int (2 : Int32)), .val (.int (0 : Int32)), .val (.int (((p0).toUInt32 >>> ((4 : Int32) &&& 31).toUInt32).toInt32 &&& (63 : Int32))), .unset, .unset, .unset, .unset, .unset, .unset, .unset, .unset, .unset, .unset, .unset]) X0 hx (hb hby at_22) rfl rfl ?_
      have hj := own_j (((p0).toUInt32 >>> ((4 : Int32) &&& 31).toUInt32).toInt32)
      obtain ⟨j, hje⟩ : ∃ z, z = (((p0).toUInt32 >>> ((4 : Int32) &&& 31).toUInt32).toInt32 &&& (63 : Int32)) := ⟨_, rfl⟩
      rw [← hje] at hj
      rw [← hje]
      refine own_lconst (n := 25) (z := (1 : Int64)) X0 hx (hb hby at_24) rfl rfl ?_
      refine own_iload (n := 27) X0 hx (hb hby at_25) rfl rfl ?_
      refine own_lshl (n := 28) X0 hx (hb hby at_27) rfl rfl ?_
      refine own_lstore (n := 30) (l' := #[.val (.int p0), .val (.long q1), .second, .val (.long q2), .second, .val (.int p3), .val (.int p4), .val (.int (2 : Int32)), .val (.int (0 : Int32)), .val (.int j), .val (.long ((1 : Int64) <<< (j &&& 63).toInt64)), .second, .unset, .unset, .unset, .unset, .unset, .unset, .unset, .unset, .unset]) X0 hx (hb hby at_28) rfl rfl ?_
      refine own_iload (n := 32) X0 hx (hb hby at_30) rfl rfl ?_
      refine own_newA (n := 34) X0 hx hZ own_an_long (ww0 hw) hE0 (hb hby at_32) (by decide) (cap := 2) (by decide) (by decide) (by decide) (by decide) rfl ?_
      intro T304 h304 k304 b304 g304 X304 e304 E304 A304 B304
      have g_b304 : n0 ≤ b304 := Nat.le_trans Z0 (Nat.le_of_eq g304.symm)
      have Z_305 : n0 ≤ h304.size := Nat.le_trans Z0 E304.1
      have V304 : Arv Z h304 b304 k304 .long (2 : Int32) [(.long (0 : Int64)), (.long (0 : Int64))] (.long (0 : Int64)) := (Arv.new A304 (by decide)).pad (pad_rep [] (.long (0 : Int64)) 2)
      refine own_astore (n := 36) (l' := #[.val (.int p0), .val (.long q1), .second, .val (.long q2), .second, .val (.int p3), .val (.int p4), .val (.int (2 : Int32)), .val (.int (0 : Int32)), .val (.int j), .val (.long ((1 : Int64) <<< (j &&& 63).toInt64)), .second, .val (.ref b304), .unset, .unset, .unset, .unset, .unset, .unset, .unset, .unset]) X304 hx (hb hby at_34) rfl rfl rfl ?_
      refine own_iload (n := 38) X304 hx (hb hby at_36) rfl rfl ?_
      refine own_iconst (n := 39) (z := (1 : Int32)) X304 hx (hb hby at_38) rfl rfl ?_
      refine own_icmpYes (n := 50) X304 hx (hb hby at_39) (feq (by decide : ¬ ((2 : Int32) = (1 : Int32)))).2 (by decide) (by decide) ?_
      refine own_iload (n := 52) X304 hx (hb hby at_50) rfl rfl ?_
      refine own_iconst (n := 53) (z := (2 : Int32)) X304 hx (hb hby at_52) rfl rfl ?_
      refine own_icmpNo (n := 56) X304 hx (hb hby at_53) (teq (by decide : (2 : Int32) = (2 : Int32))).2 rfl ?_
      refine own_aload (n := 58) X304 hx (hb hby at_56) rfl rfl rfl ?_
      refine own_iconst (n := 59) (z := (0 : Int32)) X304 hx (hb hby at_58) rfl rfl ?_
      refine own_lloadN (n := 60) X304 hx (hb hby at_59) rfl rfl ?_
      refine own_st_lastore (n := 61) X304 hx hZ e304 V304 ⟨by decide, by decide⟩ 0 rfl (Nat.le_of_ble_eq_true rfl) (hb hby at_60) rfl ?_
      intro T306 h306 X306 e306 W306 V306q
      have V306 : Arv Z h306 b304 k304 .long (2 : Int32) [(.long q1), (.long (0 : Int64))] (.long (0 : Int64)) := V306q
      have N306 := Fr.snoc X306 N0 g_b304
      have E_307 := B304.wr W306
      have Z_308 : n0 ≤ h306.size := by rw [W306.size]; exact Z_305
      refine own_aload (n := 63) X306 hx (hb hby at_61) rfl rfl rfl ?_
      refine own_iconst (n := 64) (z := (1 : Int32)) X306 hx (hb hby at_63) rfl rfl ?_
      refine own_lloadN (n := 65) X306 hx (hb hby at_64) rfl rfl ?_
      refine own_lload (n := 67) X306 hx (hb hby at_65) rfl rfl ?_
      refine own_lor (n := 68) X306 hx (hb hby at_67) rfl rfl ?_
      refine own_st_lastore (n := 69) X306 hx hZ e306 V306 ⟨by decide, by decide⟩ 1 rfl (Nat.le_of_ble_eq_true rfl) (hb hby at_68) rfl ?_
      intro T309 h309 X309 e309 W309 V309q
      have V309 : Arv Z h309 b304 k304 .long (2 : Int32) [(.long q1), (.long (q2 ||| ((1 : Int64) <<< (j &&& 63).toInt64)))] (.long (0 : Int64)) := V309q
      have N309 := Fr.snoc X309 N306 g_b304
      have E_310 := E_307.wr W309
      have Z_311 : n0 ≤ h309.size := by rw [W309.size]; exact Z_308
      refine own_bipush (n := 71) (z := (64 : Int32)) X309 hx (hb hby at_69) rfl rfl ?_
      refine own_iload (n := 73) X309 hx (hb hby at_71) rfl rfl ?_
      refine own_ldc (n := 75) (v := (16777215 : Int32)) X309 hx hZ hown (ww1 hw) (hb hby at_73) rfl ?_
      refine own_iand (n := 76) X309 hx (hb hby at_75) rfl rfl ?_
      refine own_iadd (n := 77) X309 hx (hb hby at_76) rfl rfl ?_
      refine own_istore (n := 79) (l' := #[.val (.int p0), .val (.long q1), .second, .val (.long q2), .second, .val (.int p3), .val (.int p4), .val (.int (2 : Int32)), .val (.int (0 : Int32)), .val (.int j), .val (.long ((1 : Int64) <<< (j &&& 63).toInt64)), .second, .val (.ref b304), .val (.int ((64 : Int32) + (p3 &&& (16777215 : Int32)))), .unset, .unset, .unset, .unset, .unset, .unset, .unset]) X309 hx (hb hby at_77) rfl rfl ?_
      have hk := own_k0 p3
      obtain ⟨kz, hke⟩ : ∃ z, z = ((64 : Int32) + (p3 &&& (16777215 : Int32))) := ⟨_, rfl⟩
      rw [← hke] at hk
      rw [← hke]
      refine own_iload (n := 81) X309 hx (hb hby at_79) rfl rfl ?_
      refine own_iconst (n := 82) (z := (1 : Int32)) X309 hx (hb hby at_81) rfl rfl ?_
      refine own_iadd (n := 83) X309 hx (hb hby at_82) rfl rfl ?_
      refine own_iload (n := 85) X309 hx (hb hby at_83) rfl rfl ?_
      refine own_sipush (n := 88) (z := (4095 : Int32)) X309 hx (hb hby at_85) rfl rfl ?_
      refine own_iand (n := 89) X309 hx (hb hby at_88) rfl rfl ?_
      refine own_iadd (n := 90) X309 hx (hb hby at_89) rfl rfl ?_
      refine own_istore (n := 92) (l' := #[.val (.int p0), .val (.long q1), .second, .val (.long q2), .second, .val (.int p3), .val (.int p4), .val (.int (2 : Int32)), .val (.int (0 : Int32)), .val (.int j), .val (.long ((1 : Int64) <<< (j &&& 63).toInt64)), .second, .val (.ref b304), .val (.int kz), .val (.int ((kz + (1 : Int32)) + (p4 &&& (4095 : Int32)))), .unset, .unset, .unset, .unset, .unset, .unset]) X309 hx (hb hby at_90) rfl rfl ?_
      refine own_iload (n := 94) X309 hx (hb hby at_92) rfl rfl ?_
      refine own_newA (n := 96) X309 hx hZ own_an_int (ww2 hw) e309 (hb hby at_94) (by decide) (cap := 0) (by decide) (by decide) (by decide) (by decide) rfl ?_
      intro T312 h312 k312 b312 g312 X312 e312 E312 A312 B312
      have g_b312 : n0 ≤ b312 := Nat.le_trans Z_311 (Nat.le_of_eq g312.symm)
      have ne_b304_b312 : b304 ≠ b312 := own_ne E_310.lt g312
      have E_313 := E_310.ext E312
      have A_314 := V309.ext E312
      have Z_315 : n0 ≤ h312.size := Nat.le_trans Z_311 E312.1
      have V312 : Arv Z h312 b312 k312 .int (0 : Int32) [] (.int (0 : Int32)) := Arv.new A312 (by decide)
      refine own_astore (n := 98) (l' := #[.val (.int p0), .val (.long q1), .second, .val (.long q2), .second, .val (.int p3), .val (.int p4), .val (.int (2 : Int32)), .val (.int (0 : Int32)), .val (.int j), .val (.long ((1 : Int64) <<< (j &&& 63).toInt64)), .second, .val (.ref b304), .val (.int kz), .val (.int ((kz + (1 : Int32)) + (p4 &&& (4095 : Int32)))), .val (.ref b312), .unset, .unset, .unset, .unset, .unset]) X312 hx (hb hby at_96) rfl rfl rfl ?_
      refine own_iload (n := 100) X312 hx (hb hby at_98) rfl rfl ?_
      refine own_newA (n := 102) X312 hx hZ own_an_long (ww0 hw) e312 (hb hby at_100) (by decide) (cap := 0) (by decide) (by decide) (by decide) (by decide) rfl ?_
      intro T316 h316 k316 b316 g316 X316 e316 E316 A316 B316
      have g_b316 : n0 ≤ b316 := Nat.le_trans Z_315 (Nat.le_of_eq g316.symm)
      have ne_b304_b316 : b304 ≠ b316 := own_ne E_313.lt g316
      have ne_b312_b316 : b312 ≠ b316 := own_ne B312.lt g316
      have E_317 := E_313.ext E316
      have A_318 := A_314.ext E316
      have E_319 := B312.ext E316
      have A_320 := V312.ext E316
      have Z_321 : n0 ≤ h316.size := Nat.le_trans Z_315 E316.1
      have V316 : Arv Z h316 b316 k316 .long (0 : Int32) [] (.long (0 : Int64)) := Arv.new A316 (by decide)
      refine own_astore (n := 104) (l' := #[.val (.int p0), .val (.long q1), .second, .val (.long q2), .second, .val (.int p3), .val (.int p4), .val (.int (2 : Int32)), .val (.int (0 : Int32)), .val (.int j), .val (.long ((1 : Int64) <<< (j &&& 63).toInt64)), .second, .val (.ref b304), .val (.int kz), .val (.int ((kz + (1 : Int32)) + (p4 &&& (4095 : Int32)))), .val (.ref b312), .val (.ref b316), .unset, .unset, .unset, .unset]) X316 hx (hb hby at_102) rfl rfl rfl ?_
      refine own_iload (n := 106) X316 hx (hb hby at_104) rfl rfl ?_
      refine own_iconst (n := 107) (z := (1 : Int32)) X316 hx (hb hby at_106) rfl rfl ?_
      refine own_icmpYes (n := 124) X316 hx (hb hby at_107) (tlt (by decide : (0 : Int32) < (1 : Int32))).1 (by decide) (by decide) ?_
      refine own_iload (n := 126) X316 hx (hb hby at_124) rfl rfl ?_
      refine own_iconst (n := 127) (z := (2 : Int32)) X316 hx (hb hby at_126) rfl rfl ?_
      refine own_icmpYes (n := 144) X316 hx (hb hby at_127) (feq (by decide : ¬ ((0 : Int32) = (2 : Int32)))).2 (by decide) (by decide) ?_
      refine own_iload (n := 146) X316 hx (hb hby at_144) rfl rfl ?_
      refine own_ifNo (n := 149) X316 hx (hb hby at_146) (tlt (by decide : (0 : Int32) < (2 : Int32))).2.2.2 rfl ?_
      refine own_iload (n := 151) X316 hx (hb hby at_149) rfl rfl ?_
      refine own_iconst (n := 152) (z := (1 : Int32)) X316 hx (hb hby at_151) rfl rfl ?_
      refine own_isub (n := 153) (z := (1 : Int32)) X316 hx (hb hby at_152) rfl rfl ?_
      refine own_bipush (n := 155) (z := (64 : Int32)) X316 hx (hb hby at_153) rfl rfl ?_
      refine own_imul (n := 156) (z := (64 : Int32)) X316 hx (hb hby at_155) rfl rfl ?_
      refine own_iload (n := 158) X316 hx (hb hby at_156) rfl rfl ?_
      refine own_iadd (n := 159) X316 hx (hb hby at_158) rfl rfl ?_
      refine own_istore (n := 161) (l' := #[.val (.int p0), .val (.long q1), .second, .val (.long q2), .second, .val (.int p3), .val (.int p4), .val (.int (2 : Int32)), .val (.int (0 : Int32)), .val (.int j), .val (.long ((1 : Int64) <<< (j &&& 63).toInt64)), .second, .val (.ref b304), .val (.int kz), .val (.int ((kz + (1 : Int32)) + (p4 &&& (4095 : Int32)))), .val (.ref b312), .val (.ref b316), .val (.int ((64 : Int32) + j)), .unset, .unset, .unset]) X316 hx (hb hby at_159) rfl rfl ?_
      refine own_goto (n := 189) X316 hx (hb hby at_161) (by decide) (by decide) ?_
      have hwt := own_wl (c := (64 : Int32)) (j := j) (n := 1) rfl (by decide) hj.1 hj.2
      refine own_new (n := 192) X316 hx hZ hown (ww4 hw) (ww5 hw) (ww6 hw) e316 (hb hby at_189) (by decide) (by decide) rfl ?_
      intro T322 h322 b322 g322 X322 e322 E322 A322 D322
      have g_b322 : n0 ≤ b322 := Nat.le_trans Z_321 (Nat.le_of_eq g322.symm)
      have ne_b304_b322 : b304 ≠ b322 := own_ne E_317.lt g322
      have ne_b312_b322 : b312 ≠ b322 := own_ne E_319.lt g322
      have ne_b316_b322 : b316 ≠ b322 := own_ne B316.lt g322
      have E_323 := E_317.ext E322
      have A_324 := A_318.ext E322
      have E_325 := E_319.ext E322
      have A_326 := A_320.ext E322
      have E_327 := B316.ext E322
      have A_328 := V316.ext E322
      have Z_329 : n0 ≤ h322.size := Nat.le_trans Z_321 E322.1
      have F_330 : Fld Z h322 b322 "com/example/eunomia/eunomia/engine/IdSet" "low" "[J" .null := D322 (Or.inr (ww14 hw)) (ty := (.array .long)) (by decide)
      have F_331 : Fld Z h322 b322 "com/example/eunomia/eunomia/engine/IdSet" "places" "[I" .null := D322 (Or.inr (ww16 hw)) (ty := (.array .int)) (by decide)
      have F_332 : Fld Z h322 b322 "com/example/eunomia/eunomia/engine/IdSet" "words" "[J" .null := D322 (Or.inr (ww18 hw)) (ty := (.array .long)) (by decide)
      have F_333 : Fld Z h322 b322 "com/example/eunomia/eunomia/engine/IdSet" "hash" "I" (.int (0 : Int32)) := D322 (Or.inr (ww27 hw)) (ty := .int) (by decide)
      refine own_dup (n := 193) X322 hx (hb hby at_192) rfl rfl ?_
      refine own_aload (n := 195) X322 hx (hb hby at_193) rfl rfl rfl ?_
      refine own_aload (n := 197) X322 hx (hb hby at_195) rfl rfl rfl ?_
      refine own_aload (n := 199) X322 hx (hb hby at_197) rfl rfl rfl ?_
      refine own_I (n := 202) (argsL := [(.ref b304), (.ref b312), (.ref b316)]) (rest := [(.ref b322)]) (a := b322) (by rfl) X322 hx hZ hown (own_rmI_2_0 l Z a0 hw b322 b304 b312 b316 k304 k312 k316 q1 (q2 ||| ((1 : Int64) <<< (j &&& 63).toInt64))   h322 n0 Z_329 A322 F_330 F_331 F_332 F_333 A_324 A_326 A_328 E_325 g_b322) (ww7 hw) (ww8 hw) (ww6 hw) (ww9 hw) (by decide) e322 (by rw [hml]; rfl) (lenOf own_pd2 rfl) rfl (hb hby at_199) (Nat.le_of_ble_eq_true rfl) (Nat.le_of_ble_eq_true rfl) (Nat.le_of_ble_eq_true rfl) (Nat.le_of_ble_eq_true rfl) rfl ?_
      rintro v334 T334 L334 X334 ⟨rfl, Nq334, K334, Eq334, Fa334, Fb334, Fc334⟩
      have N334 := Fr.app N309 Nq334
      have E_335 := E_323.keep K334
      have A_336 := A_324.keep K334 (by simp [ne_b304_b322])
      have E_337 := E_325.keep K334
      have A_338 := A_326.keep K334 (by simp [ne_b312_b322])
      have E_339 := E_327.keep K334
      have A_340 := A_328.keep K334 (by simp [ne_b316_b322])
      have E_341 := A322.keep K334
      have Z_342 : n0 ≤ T334.heap.size := Nat.le_trans Z_329 K334.1
      change own_G p e below _ _ (mkF m 202 _ [(.ref b322)])
      refine own_astore (n := 204) (l' := #[.val (.int p0), .val (.long q1), .second, .val (.long q2), .second, .val (.int p3), .val (.int p4), .val (.int (2 : Int32)), .val (.int (0 : Int32)), .val (.int j), .val (.long ((1 : Int64) <<< (j &&& 63).toInt64)), .second, .val (.ref b304), .val (.int kz), .val (.int ((kz + (1 : Int32)) + (p4 &&& (4095 : Int32)))), .val (.ref b312), .val (.ref b316), .val (.int ((64 : Int32) + j)), .val (.ref b322), .unset, .unset]) X334 hx (hb hby at_202) rfl rfl rfl ?_
      refine own_aload (n := 206) X334 hx (hb hby at_204) rfl rfl rfl ?_
      refine own_V (n := 209) (argsL := []) (rest := []) (a := b322) X334 hx hZ hown (own_rmE_2_0 l Z a0 hw b322 b304 b312 b316 k304 k312 k316 q1 (q2 ||| ((1 : Int64) <<< (j &&& 63).toInt64))    T334.heap n0 Z_342 Fa334 Fb334 Fc334 A_336 A_338 A_340) (ww28 hw) (ww29 hw) (notFace_of_selects (args := #[]) (mvT hZ (ww31 hw))) (ww31 hw) (ww30 hw) (ww6 hw) (ww32 hw) (by decide) rfl E_341 (by rw [hml]; rfl) (lenOf own_pd3 rfl) rfl (hb hby at_206) (Nat.le_of_ble_eq_true rfl) (Nat.le_of_ble_eq_true rfl) (Nat.le_of_ble_eq_true rfl) (Nat.le_of_ble_eq_true rfl) rfl ?_
      rintro v343 T343 L343 X343 ⟨rfl, Nq343, eq343⟩
      have N343 := Fr.app N334 Nq343
      change own_G p e below _ _ (mkF m 209 _ [(.int (0 : Int32))])
      refine own_istore (n := 211) (l' := #[.val (.int p0), .val (.long q1), .second, .val (.long q2), .second, .val (.int p3), .val (.int p4), .val (.int (2 : Int32)), .val (.int (0 : Int32)), .val (.int j), .val (.long ((1 : Int64) <<< (j &&& 63).toInt64)), .second, .val (.ref b304), .val (.int kz), .val (.int ((kz + (1 : Int32)) + (p4 &&& (4095 : Int32)))), .val (.ref b312), .val (.ref b316), .val (.int ((64 : Int32) + j)), .val (.ref b322), .val (.int (0 : Int32)), .unset]) X343 hx (hb hby at_209) rfl rfl ?_
      refine own_iload (n := 213) X343 hx (hb hby at_211) rfl rfl ?_
      refine own_ifYes (n := 225) X343 hx (hb hby at_213) (feq (by decide : ¬ ((2 : Int32) = (0 : Int32)))).2 (by decide) (by decide) ?_
      refine own_iconst (n := 226) (z := (0 : Int32)) X343 hx (hb hby at_225) rfl rfl ?_
      refine own_istore (n := 228) (l' := #[.val (.int p0), .val (.long q1), .second, .val (.long q2), .second, .val (.int p3), .val (.int p4), .val (.int (2 : Int32)), .val (.int (0 : Int32)), .val (.int j), .val (.long ((1 : Int64) <<< (j &&& 63).toInt64)), .second, .val (.ref b304), .val (.int kz), .val (.int ((kz + (1 : Int32)) + (p4 &&& (4095 : Int32)))), .val (.ref b312), .val (.ref b316), .val (.int ((64 : Int32) + j)), .val (.ref b322), .val (.int (0 : Int32)), .val (.int (0 : Int32))]) X343 hx (hb hby at_226) rfl rfl ?_
      refine own_iload (n := 230) X343 hx (hb hby at_228) rfl rfl ?_
      refine own_iload (n := 232) X343 hx (hb hby at_230) rfl rfl ?_
      refine own_icmpNo (n := 235) X343 hx (hb hby at_232) (teq (by decide : (0 : Int32) = (0 : Int32))).2 rfl ?_
      refine own_aload (n := 237) X343 hx (hb hby at_235) rfl rfl rfl ?_
      refine own_iload (n := 239) X343 hx (hb hby at_237) rfl rfl ?_
      refine own_V (n := 242) (argsL := [(.int ((64 : Int32) + j))]) (rest := []) (a := b322) X343 hx hZ hown (own_rmC_2_0 l Z a0 hw b322 b304 b312 b316 k304 k312 k316 q1 (q2 ||| ((1 : Int64) <<< (j &&& 63).toInt64))    ((64 : Int32) + j) T334.heap n0 Z_342 Fa334 Fb334 Fc334 A_336 A_338 A_340 (own_ushr6 hwt.1 hwt.2.1) (own_hbit _ hj.1 hj.2 hwt.2.2)) (ww33 hw) (ww34 hw) (notFace_of_selects (args := #[]) (mvT hZ (ww36 hw))) (ww36 hw) (ww35 hw) (ww6 hw) (ww37 hw) (by decide) eq343 E_341 (by rw [hml]; rfl) (lenOf own_pd6 rfl) rfl (hb hby at_239) (Nat.le_of_ble_eq_true rfl) (Nat.le_of_ble_eq_true rfl) (Nat.le_of_ble_eq_true rfl) (Nat.le_of_ble_eq_true rfl) rfl ?_
      rintro v344 T344 L344 X344 ⟨rfl, Nq344, eq344⟩
      have N344 := Fr.app N343 Nq344
      change own_G p e below _ _ (mkF m 242 _ [(.int (1 : Int32))])
      refine own_iload (n := 244) X344 hx (hb hby at_242) rfl rfl ?_
      refine own_icmpNo (n := 247) X344 hx (hb hby at_244) (feq (by decide : ¬ ((1 : Int32) = (0 : Int32)))).1 rfl ?_
      refine own_iconst (n := 248) (z := (1 : Int32)) X344 hx (hb hby at_247) rfl rfl ?_
      refine own_goto (n := 252) X344 hx (hb hby at_248) (by decide) (by decide) ?_
      refine own_retZ X344 hx hlk hret (by simp) eq344 (w := (1 : Int32)) rfl (hb hby at_252) (by decide) (by decide) ?_
      exact ⟨rfl, N344⟩
    · rw [hs8]
      refine own_iloadN (n := 17) X0 hx (hb hby at_16) rfl rfl ?_
      refine own_iconst (n := 18) (z := (4 : Int32)) X0 hx (hb hby at_17) rfl rfl ?_
      refine own_iushr (n := 19) X0 hx (hb hby at_18) rfl rfl ?_
      refine own_bipush (n := 21) (z := (63 : Int32)) X0 hx (hb hby at_19) rfl rfl ?_
      refine own_iand (n := 22) X0 hx (hb hby at_21) rfl rfl ?_
      refine own_istore (n := 24) (l' := #[.val (.int p0), .val (.long q1), .second, .val (.long q2), .second, .val (.int p3), .val (.int p4), .val (.int (2 : Int32)), .val (.int (1 : Int32)), .val (.int (((p0).toUInt32 >>> ((4 : Int32) &&& 31).toUInt32).toInt32 &&& (63 : Int32))), .unset, .unset, .unset, .unset, .unset, .unset, .unset, .unset, .unset, .unset, .unset]) X0 hx (hb hby at_22) rfl rfl ?_
      have hj := own_j (((p0).toUInt32 >>> ((4 : Int32) &&& 31).toUInt32).toInt32)
      obtain ⟨j, hje⟩ : ∃ z, z = (((p0).toUInt32 >>> ((4 : Int32) &&& 31).toUInt32).toInt32 &&& (63 : Int32)) := ⟨_, rfl⟩
      rw [← hje] at hj
      rw [← hje]
      refine own_lconst (n := 25) (z := (1 : Int64)) X0 hx (hb hby at_24) rfl rfl ?_
      refine own_iload (n := 27) X0 hx (hb hby at_25) rfl rfl ?_
      refine own_lshl (n := 28) X0 hx (hb hby at_27) rfl rfl ?_
      refine own_lstore (n := 30) (l' := #[.val (.int p0), .val (.long q1), .second, .val (.long q2), .second, .val (.int p3), .val (.int p4), .val (.int (2 : Int32)), .val (.int (1 : Int32)), .val (.int j), .val (.long ((1 : Int64) <<< (j &&& 63).toInt64)), .second, .unset, .unset, .unset, .unset, .unset, .unset, .unset, .unset, .unset]) X0 hx (hb hby at_28) rfl rfl ?_
      refine own_iload (n := 32) X0 hx (hb hby at_30) rfl rfl ?_
      refine own_newA (n := 34) X0 hx hZ own_an_long (ww0 hw) hE0 (hb hby at_32) (by decide) (cap := 2) (by decide) (by decide) (by decide) (by decide) rfl ?_
      intro T345 h345 k345 b345 g345 X345 e345 E345 A345 B345
      have g_b345 : n0 ≤ b345 := Nat.le_trans Z0 (Nat.le_of_eq g345.symm)
      have Z_346 : n0 ≤ h345.size := Nat.le_trans Z0 E345.1
      have V345 : Arv Z h345 b345 k345 .long (2 : Int32) [(.long (0 : Int64)), (.long (0 : Int64))] (.long (0 : Int64)) := (Arv.new A345 (by decide)).pad (pad_rep [] (.long (0 : Int64)) 2)
      refine own_astore (n := 36) (l' := #[.val (.int p0), .val (.long q1), .second, .val (.long q2), .second, .val (.int p3), .val (.int p4), .val (.int (2 : Int32)), .val (.int (1 : Int32)), .val (.int j), .val (.long ((1 : Int64) <<< (j &&& 63).toInt64)), .second, .val (.ref b345), .unset, .unset, .unset, .unset, .unset, .unset, .unset, .unset]) X345 hx (hb hby at_34) rfl rfl rfl ?_
      refine own_iload (n := 38) X345 hx (hb hby at_36) rfl rfl ?_
      refine own_iconst (n := 39) (z := (1 : Int32)) X345 hx (hb hby at_38) rfl rfl ?_
      refine own_icmpYes (n := 50) X345 hx (hb hby at_39) (feq (by decide : ¬ ((2 : Int32) = (1 : Int32)))).2 (by decide) (by decide) ?_
      refine own_iload (n := 52) X345 hx (hb hby at_50) rfl rfl ?_
      refine own_iconst (n := 53) (z := (2 : Int32)) X345 hx (hb hby at_52) rfl rfl ?_
      refine own_icmpNo (n := 56) X345 hx (hb hby at_53) (teq (by decide : (2 : Int32) = (2 : Int32))).2 rfl ?_
      refine own_aload (n := 58) X345 hx (hb hby at_56) rfl rfl rfl ?_
      refine own_iconst (n := 59) (z := (0 : Int32)) X345 hx (hb hby at_58) rfl rfl ?_
      refine own_lloadN (n := 60) X345 hx (hb hby at_59) rfl rfl ?_
      refine own_st_lastore (n := 61) X345 hx hZ e345 V345 ⟨by decide, by decide⟩ 0 rfl (Nat.le_of_ble_eq_true rfl) (hb hby at_60) rfl ?_
      intro T347 h347 X347 e347 W347 V347q
      have V347 : Arv Z h347 b345 k345 .long (2 : Int32) [(.long q1), (.long (0 : Int64))] (.long (0 : Int64)) := V347q
      have N347 := Fr.snoc X347 N0 g_b345
      have E_348 := B345.wr W347
      have Z_349 : n0 ≤ h347.size := by rw [W347.size]; exact Z_346
      refine own_aload (n := 63) X347 hx (hb hby at_61) rfl rfl rfl ?_
      refine own_iconst (n := 64) (z := (1 : Int32)) X347 hx (hb hby at_63) rfl rfl ?_
      refine own_lloadN (n := 65) X347 hx (hb hby at_64) rfl rfl ?_
      refine own_lload (n := 67) X347 hx (hb hby at_65) rfl rfl ?_
      refine own_lor (n := 68) X347 hx (hb hby at_67) rfl rfl ?_
      refine own_st_lastore (n := 69) X347 hx hZ e347 V347 ⟨by decide, by decide⟩ 1 rfl (Nat.le_of_ble_eq_true rfl) (hb hby at_68) rfl ?_
      intro T350 h350 X350 e350 W350 V350q
      have V350 : Arv Z h350 b345 k345 .long (2 : Int32) [(.long q1), (.long (q2 ||| ((1 : Int64) <<< (j &&& 63).toInt64)))] (.long (0 : Int64)) := V350q
      have N350 := Fr.snoc X350 N347 g_b345
      have E_351 := E_348.wr W350
      have Z_352 : n0 ≤ h350.size := by rw [W350.size]; exact Z_349
      refine own_bipush (n := 71) (z := (64 : Int32)) X350 hx (hb hby at_69) rfl rfl ?_
      refine own_iload (n := 73) X350 hx (hb hby at_71) rfl rfl ?_
      refine own_ldc (n := 75) (v := (16777215 : Int32)) X350 hx hZ hown (ww1 hw) (hb hby at_73) rfl ?_
      refine own_iand (n := 76) X350 hx (hb hby at_75) rfl rfl ?_
      refine own_iadd (n := 77) X350 hx (hb hby at_76) rfl rfl ?_
      refine own_istore (n := 79) (l' := #[.val (.int p0), .val (.long q1), .second, .val (.long q2), .second, .val (.int p3), .val (.int p4), .val (.int (2 : Int32)), .val (.int (1 : Int32)), .val (.int j), .val (.long ((1 : Int64) <<< (j &&& 63).toInt64)), .second, .val (.ref b345), .val (.int ((64 : Int32) + (p3 &&& (16777215 : Int32)))), .unset, .unset, .unset, .unset, .unset, .unset, .unset]) X350 hx (hb hby at_77) rfl rfl ?_
      have hk := own_k0 p3
      obtain ⟨kz, hke⟩ : ∃ z, z = ((64 : Int32) + (p3 &&& (16777215 : Int32))) := ⟨_, rfl⟩
      rw [← hke] at hk
      rw [← hke]
      refine own_iload (n := 81) X350 hx (hb hby at_79) rfl rfl ?_
      refine own_iconst (n := 82) (z := (1 : Int32)) X350 hx (hb hby at_81) rfl rfl ?_
      refine own_iadd (n := 83) X350 hx (hb hby at_82) rfl rfl ?_
      refine own_iload (n := 85) X350 hx (hb hby at_83) rfl rfl ?_
      refine own_sipush (n := 88) (z := (4095 : Int32)) X350 hx (hb hby at_85) rfl rfl ?_
      refine own_iand (n := 89) X350 hx (hb hby at_88) rfl rfl ?_
      refine own_iadd (n := 90) X350 hx (hb hby at_89) rfl rfl ?_
      refine own_istore (n := 92) (l' := #[.val (.int p0), .val (.long q1), .second, .val (.long q2), .second, .val (.int p3), .val (.int p4), .val (.int (2 : Int32)), .val (.int (1 : Int32)), .val (.int j), .val (.long ((1 : Int64) <<< (j &&& 63).toInt64)), .second, .val (.ref b345), .val (.int kz), .val (.int ((kz + (1 : Int32)) + (p4 &&& (4095 : Int32)))), .unset, .unset, .unset, .unset, .unset, .unset]) X350 hx (hb hby at_90) rfl rfl ?_
      refine own_iload (n := 94) X350 hx (hb hby at_92) rfl rfl ?_
      refine own_newA (n := 96) X350 hx hZ own_an_int (ww2 hw) e350 (hb hby at_94) (by decide) (cap := 1) (by decide) (by decide) (by decide) (by decide) rfl ?_
      intro T353 h353 k353 b353 g353 X353 e353 E353 A353 B353
      have g_b353 : n0 ≤ b353 := Nat.le_trans Z_352 (Nat.le_of_eq g353.symm)
      have ne_b345_b353 : b345 ≠ b353 := own_ne E_351.lt g353
      have E_354 := E_351.ext E353
      have A_355 := V350.ext E353
      have Z_356 : n0 ≤ h353.size := Nat.le_trans Z_352 E353.1
      have V353 : Arv Z h353 b353 k353 .int (1 : Int32) [(.int (0 : Int32))] (.int (0 : Int32)) := (Arv.new A353 (by decide)).pad (pad_rep [] (.int (0 : Int32)) 1)
      refine own_astore (n := 98) (l' := #[.val (.int p0), .val (.long q1), .second, .val (.long q2), .second, .val (.int p3), .val (.int p4), .val (.int (2 : Int32)), .val (.int (1 : Int32)), .val (.int j), .val (.long ((1 : Int64) <<< (j &&& 63).toInt64)), .second, .val (.ref b345), .val (.int kz), .val (.int ((kz + (1 : Int32)) + (p4 &&& (4095 : Int32)))), .val (.ref b353), .unset, .unset, .unset, .unset, .unset]) X353 hx (hb hby at_96) rfl rfl rfl ?_
      refine own_iload (n := 100) X353 hx (hb hby at_98) rfl rfl ?_
      refine own_newA (n := 102) X353 hx hZ own_an_long (ww0 hw) e353 (hb hby at_100) (by decide) (cap := 1) (by decide) (by decide) (by decide) (by decide) rfl ?_
      intro T357 h357 k357 b357 g357 X357 e357 E357 A357 B357
      have g_b357 : n0 ≤ b357 := Nat.le_trans Z_356 (Nat.le_of_eq g357.symm)
      have ne_b345_b357 : b345 ≠ b357 := own_ne E_354.lt g357
      have ne_b353_b357 : b353 ≠ b357 := own_ne B353.lt g357
      have E_358 := E_354.ext E357
      have A_359 := A_355.ext E357
      have E_360 := B353.ext E357
      have A_361 := V353.ext E357
      have Z_362 : n0 ≤ h357.size := Nat.le_trans Z_356 E357.1
      have V357 : Arv Z h357 b357 k357 .long (1 : Int32) [(.long (0 : Int64))] (.long (0 : Int64)) := (Arv.new A357 (by decide)).pad (pad_rep [] (.long (0 : Int64)) 1)
      refine own_astore (n := 104) (l' := #[.val (.int p0), .val (.long q1), .second, .val (.long q2), .second, .val (.int p3), .val (.int p4), .val (.int (2 : Int32)), .val (.int (1 : Int32)), .val (.int j), .val (.long ((1 : Int64) <<< (j &&& 63).toInt64)), .second, .val (.ref b345), .val (.int kz), .val (.int ((kz + (1 : Int32)) + (p4 &&& (4095 : Int32)))), .val (.ref b353), .val (.ref b357), .unset, .unset, .unset, .unset]) X357 hx (hb hby at_102) rfl rfl rfl ?_
      refine own_iload (n := 106) X357 hx (hb hby at_104) rfl rfl ?_
      refine own_iconst (n := 107) (z := (1 : Int32)) X357 hx (hb hby at_106) rfl rfl ?_
      refine own_icmpNo (n := 110) X357 hx (hb hby at_107) (flt (by decide : ¬ ((1 : Int32) < (1 : Int32)))).1 rfl ?_
      refine own_aload (n := 112) X357 hx (hb hby at_110) rfl rfl rfl ?_
      refine own_iconst (n := 113) (z := (0 : Int32)) X357 hx (hb hby at_112) rfl rfl ?_
      refine own_iload (n := 115) X357 hx (hb hby at_113) rfl rfl ?_
      refine own_st_iastore (n := 116) X357 hx hZ e357 A_361 ⟨by decide, by decide⟩ 0 rfl (Nat.le_of_ble_eq_true rfl) (hb hby at_115) rfl ?_
      intro T363 h363 X363 e363 W363 V363q
      have V363 : Arv Z h363 b353 k353 .int (1 : Int32) [(.int kz)] (.int (0 : Int32)) := V363q
      have N363 := Fr.snoc X363 N350 g_b353
      have E_364 := E_358.wr W363
      have A_365 := A_359.other W363 ne_b345_b353
      have E_366 := E_360.wr W363
      have E_367 := B357.wr W363
      have A_368 := V357.other W363 (Ne.symm ne_b353_b357)
      have Z_369 : n0 ≤ h363.size := by rw [W363.size]; exact Z_362
      refine own_aload (n := 118) X363 hx (hb hby at_116) rfl rfl rfl ?_
      refine own_iconst (n := 119) (z := (0 : Int32)) X363 hx (hb hby at_118) rfl rfl ?_
      refine own_lloadN (n := 120) X363 hx (hb hby at_119) rfl rfl ?_
      refine own_lload (n := 122) X363 hx (hb hby at_120) rfl rfl ?_
      refine own_lor (n := 123) X363 hx (hb hby at_122) rfl rfl ?_
      refine own_st_lastore (n := 124) X363 hx hZ e363 A_368 ⟨by decide, by decide⟩ 0 rfl (Nat.le_of_ble_eq_true rfl) (hb hby at_123) rfl ?_
      intro T370 h370 X370 e370 W370 V370q
      have V370 : Arv Z h370 b357 k357 .long (1 : Int32) [(.long (q2 ||| ((1 : Int64) <<< (j &&& 63).toInt64)))] (.long (0 : Int64)) := V370q
      have N370 := Fr.snoc X370 N363 g_b357
      have E_371 := E_364.wr W370
      have A_372 := A_365.other W370 ne_b345_b357
      have E_373 := E_366.wr W370
      have E_374 := E_367.wr W370
      have A_375 := V363.other W370 ne_b353_b357
      have Z_376 : n0 ≤ h370.size := by rw [W370.size]; exact Z_369
      refine own_iload (n := 126) X370 hx (hb hby at_124) rfl rfl ?_
      refine own_iconst (n := 127) (z := (2 : Int32)) X370 hx (hb hby at_126) rfl rfl ?_
      refine own_icmpYes (n := 144) X370 hx (hb hby at_127) (feq (by decide : ¬ ((1 : Int32) = (2 : Int32)))).2 (by decide) (by decide) ?_
      refine own_iload (n := 146) X370 hx (hb hby at_144) rfl rfl ?_
      refine own_ifNo (n := 149) X370 hx (hb hby at_146) (tlt (by decide : (0 : Int32) < (2 : Int32))).2.2.2 rfl ?_
      refine own_iload (n := 151) X370 hx (hb hby at_149) rfl rfl ?_
      refine own_iconst (n := 152) (z := (1 : Int32)) X370 hx (hb hby at_151) rfl rfl ?_
      refine own_isub (n := 153) (z := (1 : Int32)) X370 hx (hb hby at_152) rfl rfl ?_
      refine own_bipush (n := 155) (z := (64 : Int32)) X370 hx (hb hby at_153) rfl rfl ?_
      refine own_imul (n := 156) (z := (64 : Int32)) X370 hx (hb hby at_155) rfl rfl ?_
      refine own_iload (n := 158) X370 hx (hb hby at_156) rfl rfl ?_
      refine own_iadd (n := 159) X370 hx (hb hby at_158) rfl rfl ?_
      refine own_istore (n := 161) (l' := #[.val (.int p0), .val (.long q1), .second, .val (.long q2), .second, .val (.int p3), .val (.int p4), .val (.int (2 : Int32)), .val (.int (1 : Int32)), .val (.int j), .val (.long ((1 : Int64) <<< (j &&& 63).toInt64)), .second, .val (.ref b345), .val (.int kz), .val (.int ((kz + (1 : Int32)) + (p4 &&& (4095 : Int32)))), .val (.ref b353), .val (.ref b357), .val (.int ((64 : Int32) + j)), .unset, .unset, .unset]) X370 hx (hb hby at_159) rfl rfl ?_
      refine own_goto (n := 189) X370 hx (hb hby at_161) (by decide) (by decide) ?_
      have hwt := own_wl (c := (64 : Int32)) (j := j) (n := 1) rfl (by decide) hj.1 hj.2
      refine own_new (n := 192) X370 hx hZ hown (ww4 hw) (ww5 hw) (ww6 hw) e370 (hb hby at_189) (by decide) (by decide) rfl ?_
      intro T377 h377 b377 g377 X377 e377 E377 A377 D377
      have g_b377 : n0 ≤ b377 := Nat.le_trans Z_376 (Nat.le_of_eq g377.symm)
      have ne_b345_b377 : b345 ≠ b377 := own_ne E_371.lt g377
      have ne_b353_b377 : b353 ≠ b377 := own_ne E_373.lt g377
      have ne_b357_b377 : b357 ≠ b377 := own_ne E_374.lt g377
      have E_378 := E_371.ext E377
      have A_379 := A_372.ext E377
      have E_380 := E_373.ext E377
      have E_381 := E_374.ext E377
      have A_382 := A_375.ext E377
      have A_383 := V370.ext E377
      have Z_384 : n0 ≤ h377.size := Nat.le_trans Z_376 E377.1
      have F_385 : Fld Z h377 b377 "com/example/eunomia/eunomia/engine/IdSet" "low" "[J" .null := D377 (Or.inr (ww14 hw)) (ty := (.array .long)) (by decide)
      have F_386 : Fld Z h377 b377 "com/example/eunomia/eunomia/engine/IdSet" "places" "[I" .null := D377 (Or.inr (ww16 hw)) (ty := (.array .int)) (by decide)
      have F_387 : Fld Z h377 b377 "com/example/eunomia/eunomia/engine/IdSet" "words" "[J" .null := D377 (Or.inr (ww18 hw)) (ty := (.array .long)) (by decide)
      have F_388 : Fld Z h377 b377 "com/example/eunomia/eunomia/engine/IdSet" "hash" "I" (.int (0 : Int32)) := D377 (Or.inr (ww27 hw)) (ty := .int) (by decide)
      refine own_dup (n := 193) X377 hx (hb hby at_192) rfl rfl ?_
      refine own_aload (n := 195) X377 hx (hb hby at_193) rfl rfl rfl ?_
      refine own_aload (n := 197) X377 hx (hb hby at_195) rfl rfl rfl ?_
      refine own_aload (n := 199) X377 hx (hb hby at_197) rfl rfl rfl ?_
      refine own_I (n := 202) (argsL := [(.ref b345), (.ref b353), (.ref b357)]) (rest := [(.ref b377)]) (a := b377) (by rfl) X377 hx hZ hown (own_rmI_2_1 l Z a0 hw b377 b345 b353 b357 k345 k353 k357 q1 (q2 ||| ((1 : Int64) <<< (j &&& 63).toInt64)) kz (q2 ||| ((1 : Int64) <<< (j &&& 63).toInt64)) h377 n0 Z_384 A377 F_385 F_386 F_387 F_388 A_379 A_382 A_383 E_380 g_b377) (ww7 hw) (ww8 hw) (ww6 hw) (ww9 hw) (by decide) e377 (by rw [hml]; rfl) (lenOf own_pd2 rfl) rfl (hb hby at_199) (Nat.le_of_ble_eq_true rfl) (Nat.le_of_ble_eq_true rfl) (Nat.le_of_ble_eq_true rfl) (Nat.le_of_ble_eq_true rfl) rfl ?_
      rintro v389 T389 L389 X389 ⟨rfl, Nq389, K389, Eq389, Fa389, Fb389, Fc389⟩
      have N389 := Fr.app N370 Nq389
      have E_390 := E_378.keep K389
      have A_391 := A_379.keep K389 (by simp [ne_b345_b377])
      have E_392 := E_380.keep K389
      have E_393 := E_381.keep K389
      have A_394 := A_382.keep K389 (by simp [ne_b353_b377])
      have A_395 := A_383.keep K389 (by simp [ne_b357_b377])
      have E_396 := A377.keep K389
      have Z_397 : n0 ≤ T389.heap.size := Nat.le_trans Z_384 K389.1
      change own_G p e below _ _ (mkF m 202 _ [(.ref b377)])
      refine own_astore (n := 204) (l' := #[.val (.int p0), .val (.long q1), .second, .val (.long q2), .second, .val (.int p3), .val (.int p4), .val (.int (2 : Int32)), .val (.int (1 : Int32)), .val (.int j), .val (.long ((1 : Int64) <<< (j &&& 63).toInt64)), .second, .val (.ref b345), .val (.int kz), .val (.int ((kz + (1 : Int32)) + (p4 &&& (4095 : Int32)))), .val (.ref b353), .val (.ref b357), .val (.int ((64 : Int32) + j)), .val (.ref b377), .unset, .unset]) X389 hx (hb hby at_202) rfl rfl rfl ?_
      refine own_aload (n := 206) X389 hx (hb hby at_204) rfl rfl rfl ?_
      refine own_V (n := 209) (argsL := []) (rest := []) (a := b377) X389 hx hZ hown (own_rmE_2_1 l Z a0 hw b377 b345 b353 b357 k345 k353 k357 q1 (q2 ||| ((1 : Int64) <<< (j &&& 63).toInt64)) kz (q2 ||| ((1 : Int64) <<< (j &&& 63).toInt64))  T389.heap n0 Z_397 Fa389 Fb389 Fc389 A_391 A_394 A_395) (ww28 hw) (ww29 hw) (notFace_of_selects (args := #[]) (mvT hZ (ww31 hw))) (ww31 hw) (ww30 hw) (ww6 hw) (ww32 hw) (by decide) rfl E_396 (by rw [hml]; rfl) (lenOf own_pd3 rfl) rfl (hb hby at_206) (Nat.le_of_ble_eq_true rfl) (Nat.le_of_ble_eq_true rfl) (Nat.le_of_ble_eq_true rfl) (Nat.le_of_ble_eq_true rfl) rfl ?_
      rintro v398 T398 L398 X398 ⟨rfl, Nq398, eq398⟩
      have N398 := Fr.app N389 Nq398
      change own_G p e below _ _ (mkF m 209 _ [(.int (0 : Int32))])
      refine own_istore (n := 211) (l' := #[.val (.int p0), .val (.long q1), .second, .val (.long q2), .second, .val (.int p3), .val (.int p4), .val (.int (2 : Int32)), .val (.int (1 : Int32)), .val (.int j), .val (.long ((1 : Int64) <<< (j &&& 63).toInt64)), .second, .val (.ref b345), .val (.int kz), .val (.int ((kz + (1 : Int32)) + (p4 &&& (4095 : Int32)))), .val (.ref b353), .val (.ref b357), .val (.int ((64 : Int32) + j)), .val (.ref b377), .val (.int (0 : Int32)), .unset]) X398 hx (hb hby at_209) rfl rfl ?_
      refine own_iload (n := 213) X398 hx (hb hby at_211) rfl rfl ?_
      refine own_ifYes (n := 225) X398 hx (hb hby at_213) (feq (by decide : ¬ ((2 : Int32) = (0 : Int32)))).2 (by decide) (by decide) ?_
      refine own_iconst (n := 226) (z := (0 : Int32)) X398 hx (hb hby at_225) rfl rfl ?_
      refine own_istore (n := 228) (l' := #[.val (.int p0), .val (.long q1), .second, .val (.long q2), .second, .val (.int p3), .val (.int p4), .val (.int (2 : Int32)), .val (.int (1 : Int32)), .val (.int j), .val (.long ((1 : Int64) <<< (j &&& 63).toInt64)), .second, .val (.ref b345), .val (.int kz), .val (.int ((kz + (1 : Int32)) + (p4 &&& (4095 : Int32)))), .val (.ref b353), .val (.ref b357), .val (.int ((64 : Int32) + j)), .val (.ref b377), .val (.int (0 : Int32)), .val (.int (0 : Int32))]) X398 hx (hb hby at_226) rfl rfl ?_
      refine own_iload (n := 230) X398 hx (hb hby at_228) rfl rfl ?_
      refine own_iload (n := 232) X398 hx (hb hby at_230) rfl rfl ?_
      refine own_icmpNo (n := 235) X398 hx (hb hby at_232) (teq (by decide : (0 : Int32) = (0 : Int32))).2 rfl ?_
      refine own_aload (n := 237) X398 hx (hb hby at_235) rfl rfl rfl ?_
      refine own_iload (n := 239) X398 hx (hb hby at_237) rfl rfl ?_
      refine own_V (n := 242) (argsL := [(.int ((64 : Int32) + j))]) (rest := []) (a := b377) X398 hx hZ hown (own_rmC_2_1 l Z a0 hw b377 b345 b353 b357 k345 k353 k357 q1 (q2 ||| ((1 : Int64) <<< (j &&& 63).toInt64)) kz (q2 ||| ((1 : Int64) <<< (j &&& 63).toInt64))  ((64 : Int32) + j) T389.heap n0 Z_397 Fa389 Fb389 Fc389 A_391 A_394 A_395 (own_ushr6 hwt.1 hwt.2.1) (own_hbit _ hj.1 hj.2 hwt.2.2)) (ww33 hw) (ww34 hw) (notFace_of_selects (args := #[]) (mvT hZ (ww36 hw))) (ww36 hw) (ww35 hw) (ww6 hw) (ww37 hw) (by decide) eq398 E_396 (by rw [hml]; rfl) (lenOf own_pd6 rfl) rfl (hb hby at_239) (Nat.le_of_ble_eq_true rfl) (Nat.le_of_ble_eq_true rfl) (Nat.le_of_ble_eq_true rfl) (Nat.le_of_ble_eq_true rfl) rfl ?_
      rintro v399 T399 L399 X399 ⟨rfl, Nq399, eq399⟩
      have N399 := Fr.app N398 Nq399
      change own_G p e below _ _ (mkF m 242 _ [(.int (1 : Int32))])
      refine own_iload (n := 244) X399 hx (hb hby at_242) rfl rfl ?_
      refine own_icmpNo (n := 247) X399 hx (hb hby at_244) (feq (by decide : ¬ ((1 : Int32) = (0 : Int32)))).1 rfl ?_
      refine own_iconst (n := 248) (z := (1 : Int32)) X399 hx (hb hby at_247) rfl rfl ?_
      refine own_goto (n := 252) X399 hx (hb hby at_248) (by decide) (by decide) ?_
      refine own_retZ X399 hx hlk hret (by simp) eq399 (w := (1 : Int32)) rfl (hb hby at_252) (by decide) (by decide) ?_
      exact ⟨rfl, N399⟩
    · rw [hs8]
      refine own_iloadN (n := 17) X0 hx (hb hby at_16) rfl rfl ?_
      refine own_iconst (n := 18) (z := (4 : Int32)) X0 hx (hb hby at_17) rfl rfl ?_
      refine own_iushr (n := 19) X0 hx (hb hby at_18) rfl rfl ?_
      refine own_bipush (n := 21) (z := (63 : Int32)) X0 hx (hb hby at_19) rfl rfl ?_
      refine own_iand (n := 22) X0 hx (hb hby at_21) rfl rfl ?_
      refine own_istore (n := 24) (l' := #[.val (.int p0), .val (.long q1), .second, .val (.long q2), .second, .val (.int p3), .val (.int p4), .val (.int (2 : Int32)), .val (.int (2 : Int32)), .val (.int (((p0).toUInt32 >>> ((4 : Int32) &&& 31).toUInt32).toInt32 &&& (63 : Int32))), .unset, .unset, .unset, .unset, .unset, .unset, .unset, .unset, .unset, .unset, .unset]) X0 hx (hb hby at_22) rfl rfl ?_
      have hj := own_j (((p0).toUInt32 >>> ((4 : Int32) &&& 31).toUInt32).toInt32)
      obtain ⟨j, hje⟩ : ∃ z, z = (((p0).toUInt32 >>> ((4 : Int32) &&& 31).toUInt32).toInt32 &&& (63 : Int32)) := ⟨_, rfl⟩
      rw [← hje] at hj
      rw [← hje]
      refine own_lconst (n := 25) (z := (1 : Int64)) X0 hx (hb hby at_24) rfl rfl ?_
      refine own_iload (n := 27) X0 hx (hb hby at_25) rfl rfl ?_
      refine own_lshl (n := 28) X0 hx (hb hby at_27) rfl rfl ?_
      refine own_lstore (n := 30) (l' := #[.val (.int p0), .val (.long q1), .second, .val (.long q2), .second, .val (.int p3), .val (.int p4), .val (.int (2 : Int32)), .val (.int (2 : Int32)), .val (.int j), .val (.long ((1 : Int64) <<< (j &&& 63).toInt64)), .second, .unset, .unset, .unset, .unset, .unset, .unset, .unset, .unset, .unset]) X0 hx (hb hby at_28) rfl rfl ?_
      refine own_iload (n := 32) X0 hx (hb hby at_30) rfl rfl ?_
      refine own_newA (n := 34) X0 hx hZ own_an_long (ww0 hw) hE0 (hb hby at_32) (by decide) (cap := 2) (by decide) (by decide) (by decide) (by decide) rfl ?_
      intro T400 h400 k400 b400 g400 X400 e400 E400 A400 B400
      have g_b400 : n0 ≤ b400 := Nat.le_trans Z0 (Nat.le_of_eq g400.symm)
      have Z_401 : n0 ≤ h400.size := Nat.le_trans Z0 E400.1
      have V400 : Arv Z h400 b400 k400 .long (2 : Int32) [(.long (0 : Int64)), (.long (0 : Int64))] (.long (0 : Int64)) := (Arv.new A400 (by decide)).pad (pad_rep [] (.long (0 : Int64)) 2)
      refine own_astore (n := 36) (l' := #[.val (.int p0), .val (.long q1), .second, .val (.long q2), .second, .val (.int p3), .val (.int p4), .val (.int (2 : Int32)), .val (.int (2 : Int32)), .val (.int j), .val (.long ((1 : Int64) <<< (j &&& 63).toInt64)), .second, .val (.ref b400), .unset, .unset, .unset, .unset, .unset, .unset, .unset, .unset]) X400 hx (hb hby at_34) rfl rfl rfl ?_
      refine own_iload (n := 38) X400 hx (hb hby at_36) rfl rfl ?_
      refine own_iconst (n := 39) (z := (1 : Int32)) X400 hx (hb hby at_38) rfl rfl ?_
      refine own_icmpYes (n := 50) X400 hx (hb hby at_39) (feq (by decide : ¬ ((2 : Int32) = (1 : Int32)))).2 (by decide) (by decide) ?_
      refine own_iload (n := 52) X400 hx (hb hby at_50) rfl rfl ?_
      refine own_iconst (n := 53) (z := (2 : Int32)) X400 hx (hb hby at_52) rfl rfl ?_
      refine own_icmpNo (n := 56) X400 hx (hb hby at_53) (teq (by decide : (2 : Int32) = (2 : Int32))).2 rfl ?_
      refine own_aload (n := 58) X400 hx (hb hby at_56) rfl rfl rfl ?_
      refine own_iconst (n := 59) (z := (0 : Int32)) X400 hx (hb hby at_58) rfl rfl ?_
      refine own_lloadN (n := 60) X400 hx (hb hby at_59) rfl rfl ?_
      refine own_st_lastore (n := 61) X400 hx hZ e400 V400 ⟨by decide, by decide⟩ 0 rfl (Nat.le_of_ble_eq_true rfl) (hb hby at_60) rfl ?_
      intro T402 h402 X402 e402 W402 V402q
      have V402 : Arv Z h402 b400 k400 .long (2 : Int32) [(.long q1), (.long (0 : Int64))] (.long (0 : Int64)) := V402q
      have N402 := Fr.snoc X402 N0 g_b400
      have E_403 := B400.wr W402
      have Z_404 : n0 ≤ h402.size := by rw [W402.size]; exact Z_401
      refine own_aload (n := 63) X402 hx (hb hby at_61) rfl rfl rfl ?_
      refine own_iconst (n := 64) (z := (1 : Int32)) X402 hx (hb hby at_63) rfl rfl ?_
      refine own_lloadN (n := 65) X402 hx (hb hby at_64) rfl rfl ?_
      refine own_lload (n := 67) X402 hx (hb hby at_65) rfl rfl ?_
      refine own_lor (n := 68) X402 hx (hb hby at_67) rfl rfl ?_
      refine own_st_lastore (n := 69) X402 hx hZ e402 V402 ⟨by decide, by decide⟩ 1 rfl (Nat.le_of_ble_eq_true rfl) (hb hby at_68) rfl ?_
      intro T405 h405 X405 e405 W405 V405q
      have V405 : Arv Z h405 b400 k400 .long (2 : Int32) [(.long q1), (.long (q2 ||| ((1 : Int64) <<< (j &&& 63).toInt64)))] (.long (0 : Int64)) := V405q
      have N405 := Fr.snoc X405 N402 g_b400
      have E_406 := E_403.wr W405
      have Z_407 : n0 ≤ h405.size := by rw [W405.size]; exact Z_404
      refine own_bipush (n := 71) (z := (64 : Int32)) X405 hx (hb hby at_69) rfl rfl ?_
      refine own_iload (n := 73) X405 hx (hb hby at_71) rfl rfl ?_
      refine own_ldc (n := 75) (v := (16777215 : Int32)) X405 hx hZ hown (ww1 hw) (hb hby at_73) rfl ?_
      refine own_iand (n := 76) X405 hx (hb hby at_75) rfl rfl ?_
      refine own_iadd (n := 77) X405 hx (hb hby at_76) rfl rfl ?_
      refine own_istore (n := 79) (l' := #[.val (.int p0), .val (.long q1), .second, .val (.long q2), .second, .val (.int p3), .val (.int p4), .val (.int (2 : Int32)), .val (.int (2 : Int32)), .val (.int j), .val (.long ((1 : Int64) <<< (j &&& 63).toInt64)), .second, .val (.ref b400), .val (.int ((64 : Int32) + (p3 &&& (16777215 : Int32)))), .unset, .unset, .unset, .unset, .unset, .unset, .unset]) X405 hx (hb hby at_77) rfl rfl ?_
      have hk := own_k0 p3
      obtain ⟨kz, hke⟩ : ∃ z, z = ((64 : Int32) + (p3 &&& (16777215 : Int32))) := ⟨_, rfl⟩
      rw [← hke] at hk
      rw [← hke]
      refine own_iload (n := 81) X405 hx (hb hby at_79) rfl rfl ?_
      refine own_iconst (n := 82) (z := (1 : Int32)) X405 hx (hb hby at_81) rfl rfl ?_
      refine own_iadd (n := 83) X405 hx (hb hby at_82) rfl rfl ?_
      refine own_iload (n := 85) X405 hx (hb hby at_83) rfl rfl ?_
      refine own_sipush (n := 88) (z := (4095 : Int32)) X405 hx (hb hby at_85) rfl rfl ?_
      refine own_iand (n := 89) X405 hx (hb hby at_88) rfl rfl ?_
      refine own_iadd (n := 90) X405 hx (hb hby at_89) rfl rfl ?_
      refine own_istore (n := 92) (l' := #[.val (.int p0), .val (.long q1), .second, .val (.long q2), .second, .val (.int p3), .val (.int p4), .val (.int (2 : Int32)), .val (.int (2 : Int32)), .val (.int j), .val (.long ((1 : Int64) <<< (j &&& 63).toInt64)), .second, .val (.ref b400), .val (.int kz), .val (.int ((kz + (1 : Int32)) + (p4 &&& (4095 : Int32)))), .unset, .unset, .unset, .unset, .unset, .unset]) X405 hx (hb hby at_90) rfl rfl ?_
      refine own_iload (n := 94) X405 hx (hb hby at_92) rfl rfl ?_
      refine own_newA (n := 96) X405 hx hZ own_an_int (ww2 hw) e405 (hb hby at_94) (by decide) (cap := 2) (by decide) (by decide) (by decide) (by decide) rfl ?_
      intro T408 h408 k408 b408 g408 X408 e408 E408 A408 B408
      have g_b408 : n0 ≤ b408 := Nat.le_trans Z_407 (Nat.le_of_eq g408.symm)
      have ne_b400_b408 : b400 ≠ b408 := own_ne E_406.lt g408
      have E_409 := E_406.ext E408
      have A_410 := V405.ext E408
      have Z_411 : n0 ≤ h408.size := Nat.le_trans Z_407 E408.1
      have V408 : Arv Z h408 b408 k408 .int (2 : Int32) [(.int (0 : Int32)), (.int (0 : Int32))] (.int (0 : Int32)) := (Arv.new A408 (by decide)).pad (pad_rep [] (.int (0 : Int32)) 2)
      refine own_astore (n := 98) (l' := #[.val (.int p0), .val (.long q1), .second, .val (.long q2), .second, .val (.int p3), .val (.int p4), .val (.int (2 : Int32)), .val (.int (2 : Int32)), .val (.int j), .val (.long ((1 : Int64) <<< (j &&& 63).toInt64)), .second, .val (.ref b400), .val (.int kz), .val (.int ((kz + (1 : Int32)) + (p4 &&& (4095 : Int32)))), .val (.ref b408), .unset, .unset, .unset, .unset, .unset]) X408 hx (hb hby at_96) rfl rfl rfl ?_
      refine own_iload (n := 100) X408 hx (hb hby at_98) rfl rfl ?_
      refine own_newA (n := 102) X408 hx hZ own_an_long (ww0 hw) e408 (hb hby at_100) (by decide) (cap := 2) (by decide) (by decide) (by decide) (by decide) rfl ?_
      intro T412 h412 k412 b412 g412 X412 e412 E412 A412 B412
      have g_b412 : n0 ≤ b412 := Nat.le_trans Z_411 (Nat.le_of_eq g412.symm)
      have ne_b400_b412 : b400 ≠ b412 := own_ne E_409.lt g412
      have ne_b408_b412 : b408 ≠ b412 := own_ne B408.lt g412
      have E_413 := E_409.ext E412
      have A_414 := A_410.ext E412
      have E_415 := B408.ext E412
      have A_416 := V408.ext E412
      have Z_417 : n0 ≤ h412.size := Nat.le_trans Z_411 E412.1
      have V412 : Arv Z h412 b412 k412 .long (2 : Int32) [(.long (0 : Int64)), (.long (0 : Int64))] (.long (0 : Int64)) := (Arv.new A412 (by decide)).pad (pad_rep [] (.long (0 : Int64)) 2)
      refine own_astore (n := 104) (l' := #[.val (.int p0), .val (.long q1), .second, .val (.long q2), .second, .val (.int p3), .val (.int p4), .val (.int (2 : Int32)), .val (.int (2 : Int32)), .val (.int j), .val (.long ((1 : Int64) <<< (j &&& 63).toInt64)), .second, .val (.ref b400), .val (.int kz), .val (.int ((kz + (1 : Int32)) + (p4 &&& (4095 : Int32)))), .val (.ref b408), .val (.ref b412), .unset, .unset, .unset, .unset]) X412 hx (hb hby at_102) rfl rfl rfl ?_
      refine own_iload (n := 106) X412 hx (hb hby at_104) rfl rfl ?_
      refine own_iconst (n := 107) (z := (1 : Int32)) X412 hx (hb hby at_106) rfl rfl ?_
      refine own_icmpNo (n := 110) X412 hx (hb hby at_107) (flt (by decide : ¬ ((2 : Int32) < (1 : Int32)))).1 rfl ?_
      refine own_aload (n := 112) X412 hx (hb hby at_110) rfl rfl rfl ?_
      refine own_iconst (n := 113) (z := (0 : Int32)) X412 hx (hb hby at_112) rfl rfl ?_
      refine own_iload (n := 115) X412 hx (hb hby at_113) rfl rfl ?_
      refine own_st_iastore (n := 116) X412 hx hZ e412 A_416 ⟨by decide, by decide⟩ 0 rfl (Nat.le_of_ble_eq_true rfl) (hb hby at_115) rfl ?_
      intro T418 h418 X418 e418 W418 V418q
      have V418 : Arv Z h418 b408 k408 .int (2 : Int32) [(.int kz), (.int (0 : Int32))] (.int (0 : Int32)) := V418q
      have N418 := Fr.snoc X418 N405 g_b408
      have E_419 := E_413.wr W418
      have A_420 := A_414.other W418 ne_b400_b408
      have E_421 := E_415.wr W418
      have E_422 := B412.wr W418
      have A_423 := V412.other W418 (Ne.symm ne_b408_b412)
      have Z_424 : n0 ≤ h418.size := by rw [W418.size]; exact Z_417
      refine own_aload (n := 118) X418 hx (hb hby at_116) rfl rfl rfl ?_
      refine own_iconst (n := 119) (z := (0 : Int32)) X418 hx (hb hby at_118) rfl rfl ?_
      refine own_lloadN (n := 120) X418 hx (hb hby at_119) rfl rfl ?_
      refine own_lload (n := 122) X418 hx (hb hby at_120) rfl rfl ?_
      refine own_lor (n := 123) X418 hx (hb hby at_122) rfl rfl ?_
      refine own_st_lastore (n := 124) X418 hx hZ e418 A_423 ⟨by decide, by decide⟩ 0 rfl (Nat.le_of_ble_eq_true rfl) (hb hby at_123) rfl ?_
      intro T425 h425 X425 e425 W425 V425q
      have V425 : Arv Z h425 b412 k412 .long (2 : Int32) [(.long (q2 ||| ((1 : Int64) <<< (j &&& 63).toInt64))), (.long (0 : Int64))] (.long (0 : Int64)) := V425q
      have N425 := Fr.snoc X425 N418 g_b412
      have E_426 := E_419.wr W425
      have A_427 := A_420.other W425 ne_b400_b412
      have E_428 := E_421.wr W425
      have E_429 := E_422.wr W425
      have A_430 := V418.other W425 ne_b408_b412
      have Z_431 : n0 ≤ h425.size := by rw [W425.size]; exact Z_424
      refine own_iload (n := 126) X425 hx (hb hby at_124) rfl rfl ?_
      refine own_iconst (n := 127) (z := (2 : Int32)) X425 hx (hb hby at_126) rfl rfl ?_
      refine own_icmpNo (n := 130) X425 hx (hb hby at_127) (teq (by decide : (2 : Int32) = (2 : Int32))).2 rfl ?_
      refine own_aload (n := 132) X425 hx (hb hby at_130) rfl rfl rfl ?_
      refine own_iconst (n := 133) (z := (1 : Int32)) X425 hx (hb hby at_132) rfl rfl ?_
      refine own_iload (n := 135) X425 hx (hb hby at_133) rfl rfl ?_
      refine own_st_iastore (n := 136) X425 hx hZ e425 A_430 ⟨by decide, by decide⟩ 1 rfl (Nat.le_of_ble_eq_true rfl) (hb hby at_135) rfl ?_
      intro T432 h432 X432 e432 W432 V432q
      have V432 : Arv Z h432 b408 k408 .int (2 : Int32) [(.int kz), (.int ((kz + (1 : Int32)) + (p4 &&& (4095 : Int32))))] (.int (0 : Int32)) := V432q
      have N432 := Fr.snoc X432 N425 g_b408
      have E_433 := E_426.wr W432
      have A_434 := A_427.other W432 ne_b400_b408
      have E_435 := E_428.wr W432
      have E_436 := E_429.wr W432
      have A_437 := V425.other W432 (Ne.symm ne_b408_b412)
      have Z_438 : n0 ≤ h432.size := by rw [W432.size]; exact Z_431
      refine own_aload (n := 138) X432 hx (hb hby at_136) rfl rfl rfl ?_
      refine own_iconst (n := 139) (z := (1 : Int32)) X432 hx (hb hby at_138) rfl rfl ?_
      refine own_lloadN (n := 140) X432 hx (hb hby at_139) rfl rfl ?_
      refine own_lload (n := 142) X432 hx (hb hby at_140) rfl rfl ?_
      refine own_lor (n := 143) X432 hx (hb hby at_142) rfl rfl ?_
      refine own_st_lastore (n := 144) X432 hx hZ e432 A_437 ⟨by decide, by decide⟩ 1 rfl (Nat.le_of_ble_eq_true rfl) (hb hby at_143) rfl ?_
      intro T439 h439 X439 e439 W439 V439q
      have V439 : Arv Z h439 b412 k412 .long (2 : Int32) [(.long (q2 ||| ((1 : Int64) <<< (j &&& 63).toInt64))), (.long (q1 ||| ((1 : Int64) <<< (j &&& 63).toInt64)))] (.long (0 : Int64)) := V439q
      have N439 := Fr.snoc X439 N432 g_b412
      have E_440 := E_433.wr W439
      have A_441 := A_434.other W439 ne_b400_b412
      have E_442 := E_435.wr W439
      have E_443 := E_436.wr W439
      have A_444 := V432.other W439 ne_b408_b412
      have Z_445 : n0 ≤ h439.size := by rw [W439.size]; exact Z_438
      refine own_iload (n := 146) X439 hx (hb hby at_144) rfl rfl ?_
      refine own_ifNo (n := 149) X439 hx (hb hby at_146) (tlt (by decide : (0 : Int32) < (2 : Int32))).2.2.2 rfl ?_
      refine own_iload (n := 151) X439 hx (hb hby at_149) rfl rfl ?_
      refine own_iconst (n := 152) (z := (1 : Int32)) X439 hx (hb hby at_151) rfl rfl ?_
      refine own_isub (n := 153) (z := (1 : Int32)) X439 hx (hb hby at_152) rfl rfl ?_
      refine own_bipush (n := 155) (z := (64 : Int32)) X439 hx (hb hby at_153) rfl rfl ?_
      refine own_imul (n := 156) (z := (64 : Int32)) X439 hx (hb hby at_155) rfl rfl ?_
      refine own_iload (n := 158) X439 hx (hb hby at_156) rfl rfl ?_
      refine own_iadd (n := 159) X439 hx (hb hby at_158) rfl rfl ?_
      refine own_istore (n := 161) (l' := #[.val (.int p0), .val (.long q1), .second, .val (.long q2), .second, .val (.int p3), .val (.int p4), .val (.int (2 : Int32)), .val (.int (2 : Int32)), .val (.int j), .val (.long ((1 : Int64) <<< (j &&& 63).toInt64)), .second, .val (.ref b400), .val (.int kz), .val (.int ((kz + (1 : Int32)) + (p4 &&& (4095 : Int32)))), .val (.ref b408), .val (.ref b412), .val (.int ((64 : Int32) + j)), .unset, .unset, .unset]) X439 hx (hb hby at_159) rfl rfl ?_
      refine own_goto (n := 189) X439 hx (hb hby at_161) (by decide) (by decide) ?_
      have hwt := own_wl (c := (64 : Int32)) (j := j) (n := 1) rfl (by decide) hj.1 hj.2
      refine own_new (n := 192) X439 hx hZ hown (ww4 hw) (ww5 hw) (ww6 hw) e439 (hb hby at_189) (by decide) (by decide) rfl ?_
      intro T446 h446 b446 g446 X446 e446 E446 A446 D446
      have g_b446 : n0 ≤ b446 := Nat.le_trans Z_445 (Nat.le_of_eq g446.symm)
      have ne_b400_b446 : b400 ≠ b446 := own_ne E_440.lt g446
      have ne_b408_b446 : b408 ≠ b446 := own_ne E_442.lt g446
      have ne_b412_b446 : b412 ≠ b446 := own_ne E_443.lt g446
      have E_447 := E_440.ext E446
      have A_448 := A_441.ext E446
      have E_449 := E_442.ext E446
      have E_450 := E_443.ext E446
      have A_451 := A_444.ext E446
      have A_452 := V439.ext E446
      have Z_453 : n0 ≤ h446.size := Nat.le_trans Z_445 E446.1
      have F_454 : Fld Z h446 b446 "com/example/eunomia/eunomia/engine/IdSet" "low" "[J" .null := D446 (Or.inr (ww14 hw)) (ty := (.array .long)) (by decide)
      have F_455 : Fld Z h446 b446 "com/example/eunomia/eunomia/engine/IdSet" "places" "[I" .null := D446 (Or.inr (ww16 hw)) (ty := (.array .int)) (by decide)
      have F_456 : Fld Z h446 b446 "com/example/eunomia/eunomia/engine/IdSet" "words" "[J" .null := D446 (Or.inr (ww18 hw)) (ty := (.array .long)) (by decide)
      have F_457 : Fld Z h446 b446 "com/example/eunomia/eunomia/engine/IdSet" "hash" "I" (.int (0 : Int32)) := D446 (Or.inr (ww27 hw)) (ty := .int) (by decide)
      refine own_dup (n := 193) X446 hx (hb hby at_192) rfl rfl ?_
      refine own_aload (n := 195) X446 hx (hb hby at_193) rfl rfl rfl ?_
      refine own_aload (n := 197) X446 hx (hb hby at_195) rfl rfl rfl ?_
      refine own_aload (n := 199) X446 hx (hb hby at_197) rfl rfl rfl ?_
      refine own_I (n := 202) (argsL := [(.ref b400), (.ref b408), (.ref b412)]) (rest := [(.ref b446)]) (a := b446) (by rfl) X446 hx hZ hown (own_rmI_2_2 l Z a0 hw b446 b400 b408 b412 k400 k408 k412 q1 (q2 ||| ((1 : Int64) <<< (j &&& 63).toInt64)) kz ((kz + (1 : Int32)) + (p4 &&& (4095 : Int32))) (q2 ||| ((1 : Int64) <<< (j &&& 63).toInt64)) (q1 ||| ((1 : Int64) <<< (j &&& 63).toInt64)) h446 n0 Z_453 A446 F_454 F_455 F_456 F_457 A_448 A_451 A_452 E_449 g_b446) (ww7 hw) (ww8 hw) (ww6 hw) (ww9 hw) (by decide) e446 (by rw [hml]; rfl) (lenOf own_pd2 rfl) rfl (hb hby at_199) (Nat.le_of_ble_eq_true rfl) (Nat.le_of_ble_eq_true rfl) (Nat.le_of_ble_eq_true rfl) (Nat.le_of_ble_eq_true rfl) rfl ?_
      rintro v458 T458 L458 X458 ⟨rfl, Nq458, K458, Eq458, Fa458, Fb458, Fc458⟩
      have N458 := Fr.app N439 Nq458
      have E_459 := E_447.keep K458
      have A_460 := A_448.keep K458 (by simp [ne_b400_b446])
      have E_461 := E_449.keep K458
      have E_462 := E_450.keep K458
      have A_463 := A_451.keep K458 (by simp [ne_b408_b446])
      have A_464 := A_452.keep K458 (by simp [ne_b412_b446])
      have E_465 := A446.keep K458
      have Z_466 : n0 ≤ T458.heap.size := Nat.le_trans Z_453 K458.1
      change own_G p e below _ _ (mkF m 202 _ [(.ref b446)])
      refine own_astore (n := 204) (l' := #[.val (.int p0), .val (.long q1), .second, .val (.long q2), .second, .val (.int p3), .val (.int p4), .val (.int (2 : Int32)), .val (.int (2 : Int32)), .val (.int j), .val (.long ((1 : Int64) <<< (j &&& 63).toInt64)), .second, .val (.ref b400), .val (.int kz), .val (.int ((kz + (1 : Int32)) + (p4 &&& (4095 : Int32)))), .val (.ref b408), .val (.ref b412), .val (.int ((64 : Int32) + j)), .val (.ref b446), .unset, .unset]) X458 hx (hb hby at_202) rfl rfl rfl ?_
      refine own_aload (n := 206) X458 hx (hb hby at_204) rfl rfl rfl ?_
      refine own_V (n := 209) (argsL := []) (rest := []) (a := b446) X458 hx hZ hown (own_rmE_2_2 l Z a0 hw b446 b400 b408 b412 k400 k408 k412 q1 (q2 ||| ((1 : Int64) <<< (j &&& 63).toInt64)) kz ((kz + (1 : Int32)) + (p4 &&& (4095 : Int32))) (q2 ||| ((1 : Int64) <<< (j &&& 63).toInt64)) (q1 ||| ((1 : Int64) <<< (j &&& 63).toInt64))  T458.heap n0 Z_466 Fa458 Fb458 Fc458 A_460 A_463 A_464) (ww28 hw) (ww29 hw) (notFace_of_selects (args := #[]) (mvT hZ (ww31 hw))) (ww31 hw) (ww30 hw) (ww6 hw) (ww32 hw) (by decide) rfl E_465 (by rw [hml]; rfl) (lenOf own_pd3 rfl) rfl (hb hby at_206) (Nat.le_of_ble_eq_true rfl) (Nat.le_of_ble_eq_true rfl) (Nat.le_of_ble_eq_true rfl) (Nat.le_of_ble_eq_true rfl) rfl ?_
      rintro v467 T467 L467 X467 ⟨rfl, Nq467, eq467⟩
      have N467 := Fr.app N458 Nq467
      change own_G p e below _ _ (mkF m 209 _ [(.int (0 : Int32))])
      refine own_istore (n := 211) (l' := #[.val (.int p0), .val (.long q1), .second, .val (.long q2), .second, .val (.int p3), .val (.int p4), .val (.int (2 : Int32)), .val (.int (2 : Int32)), .val (.int j), .val (.long ((1 : Int64) <<< (j &&& 63).toInt64)), .second, .val (.ref b400), .val (.int kz), .val (.int ((kz + (1 : Int32)) + (p4 &&& (4095 : Int32)))), .val (.ref b408), .val (.ref b412), .val (.int ((64 : Int32) + j)), .val (.ref b446), .val (.int (0 : Int32)), .unset]) X467 hx (hb hby at_209) rfl rfl ?_
      refine own_iload (n := 213) X467 hx (hb hby at_211) rfl rfl ?_
      refine own_ifYes (n := 225) X467 hx (hb hby at_213) (feq (by decide : ¬ ((2 : Int32) = (0 : Int32)))).2 (by decide) (by decide) ?_
      refine own_iconst (n := 226) (z := (0 : Int32)) X467 hx (hb hby at_225) rfl rfl ?_
      refine own_istore (n := 228) (l' := #[.val (.int p0), .val (.long q1), .second, .val (.long q2), .second, .val (.int p3), .val (.int p4), .val (.int (2 : Int32)), .val (.int (2 : Int32)), .val (.int j), .val (.long ((1 : Int64) <<< (j &&& 63).toInt64)), .second, .val (.ref b400), .val (.int kz), .val (.int ((kz + (1 : Int32)) + (p4 &&& (4095 : Int32)))), .val (.ref b408), .val (.ref b412), .val (.int ((64 : Int32) + j)), .val (.ref b446), .val (.int (0 : Int32)), .val (.int (0 : Int32))]) X467 hx (hb hby at_226) rfl rfl ?_
      refine own_iload (n := 230) X467 hx (hb hby at_228) rfl rfl ?_
      refine own_iload (n := 232) X467 hx (hb hby at_230) rfl rfl ?_
      refine own_icmpNo (n := 235) X467 hx (hb hby at_232) (teq (by decide : (0 : Int32) = (0 : Int32))).2 rfl ?_
      refine own_aload (n := 237) X467 hx (hb hby at_235) rfl rfl rfl ?_
      refine own_iload (n := 239) X467 hx (hb hby at_237) rfl rfl ?_
      refine own_V (n := 242) (argsL := [(.int ((64 : Int32) + j))]) (rest := []) (a := b446) X467 hx hZ hown (own_rmC_2_2 l Z a0 hw b446 b400 b408 b412 k400 k408 k412 q1 (q2 ||| ((1 : Int64) <<< (j &&& 63).toInt64)) kz ((kz + (1 : Int32)) + (p4 &&& (4095 : Int32))) (q2 ||| ((1 : Int64) <<< (j &&& 63).toInt64)) (q1 ||| ((1 : Int64) <<< (j &&& 63).toInt64))  ((64 : Int32) + j) T458.heap n0 Z_466 Fa458 Fb458 Fc458 A_460 A_463 A_464 (own_ushr6 hwt.1 hwt.2.1) (own_hbit _ hj.1 hj.2 hwt.2.2)) (ww33 hw) (ww34 hw) (notFace_of_selects (args := #[]) (mvT hZ (ww36 hw))) (ww36 hw) (ww35 hw) (ww6 hw) (ww37 hw) (by decide) eq467 E_465 (by rw [hml]; rfl) (lenOf own_pd6 rfl) rfl (hb hby at_239) (Nat.le_of_ble_eq_true rfl) (Nat.le_of_ble_eq_true rfl) (Nat.le_of_ble_eq_true rfl) (Nat.le_of_ble_eq_true rfl) rfl ?_
      rintro v468 T468 L468 X468 ⟨rfl, Nq468, eq468⟩
      have N468 := Fr.app N467 Nq468
      change own_G p e below _ _ (mkF m 242 _ [(.int (1 : Int32))])
      refine own_iload (n := 244) X468 hx (hb hby at_242) rfl rfl ?_
      refine own_icmpNo (n := 247) X468 hx (hb hby at_244) (feq (by decide : ¬ ((1 : Int32) = (0 : Int32)))).1 rfl ?_
      refine own_iconst (n := 248) (z := (1 : Int32)) X468 hx (hb hby at_247) rfl rfl ?_
      refine own_goto (n := 252) X468 hx (hb hby at_248) (by decide) (by decide) ?_
      refine own_retZ X468 hx hlk hret (by simp) eq468 (w := (1 : Int32)) rfl (hb hby at_252) (by decide) (by decide) ?_
      exact ⟨rfl, N468⟩
set_option maxRecDepth 65536 in
set_option maxHeartbeats 40000000 in
theorem comes_1 {Post : Tables → Env → Array Value → State → Outcome → State → Prop} (hpost : ∀ tb e args s v u, (limb_1_1.after args s (.returned v) u = true ∧ limb_1_2.after args s (.returned v) u = true ∧ True) → FrameEnd s (.returned v) u (Jvm.fieldLocs frame_1_writes args s ++ Jvm.arrayLocs frame_1_arrays args s ++ Jvm.staticLocs frame_1_statics s) 16 128 → Post tb e args s (.returned v) u) :
    ArmFor flags0 classFile x code maxLocals ret World_1 tables_1 room_1 Calls_1 rest_1 Pre_1 Post := by
  intro l hfl _ _ p e ha hc hk s m args below hf hA hF happ hP
  obtain ⟨hcalls, hrest, hpre⟩ := hP
  obtain ⟨-, -, -, hnamed, -, -, -, hat⟩ := (Spec.applies_iff hf).mp happ
  obtain ⟨hg, hn⟩ := and_e (Cond.before_iff.mp (show (Jvm.Cond.and given_1 narrow_1).before args s = true from hpre))
  obtain ⟨hcount, hr0⟩ := and_e hg
  obtain ⟨ha0, hr1⟩ := and_e hr0
  obtain ⟨ha1, hr2⟩ := and_e hr1
  obtain ⟨ha2, hr3⟩ := and_e hr2
  obtain ⟨ha3, hr4⟩ := and_e hr3
  obtain ⟨w0, w1, w2, w3, w4, rfl⟩ : ∃ w0 w1 w2 w3 w4 : Value, args = #[w0, w1, w2, w3, w4] := by
    have hs : args.size = 5 := by simpa [Cond.value, given_1] using hcount
    obtain ⟨L⟩ := args
    match L, hs with
    | [w0, w1, w2, w3, w4], _ => exact ⟨w0, w1, w2, w3, w4, rfl⟩
  have hw := fun d (hd : d ∈ tables_1) => atoms_spec (ws := Jvm.Cond.code x code maxLocals ret :: tables_1) hat d (List.mem_cons_of_mem _ hd)
  have hfit : Fit s := fun {y c} hc i hi => by
    obtain ⟨ha, rfl⟩ := Array.getElem?_eq_some_iff.mp hc
    have q := List.all_eq_true.mp ((Array.all_eq_true_iff_forall_mem.mp hF) _ (Array.getElem_mem ha)) i (List.mem_range.mpr hi)
    simpa [Array.getElem?_eq_getElem hi] using q
  obtain ⟨i0, ev0⟩ := is_v ha0
  obtain rfl : w0 = (.int i0) := Option.some.inj ev0
  obtain ⟨i1, ev1⟩ := isL_v ha1
  obtain rfl : w1 = (.long i1) := Option.some.inj ev1
  obtain ⟨i2, ev2⟩ := isL_v ha2
  obtain rfl : w2 = (.long i2) := Option.some.inj ev2
  obtain ⟨i3, ev3⟩ := is_v ha3
  obtain rfl : w3 = (.int i3) := Option.some.inj ev3
  obtain ⟨i4, ev4⟩ := is_v hr4
  obtain rfl : w4 = (.int i4) := Option.some.inj ev4
  obtain ⟨n, o, h1, h2, h3, _, L, rfl, ⟨rfl, N⟩, hq⟩ := own_rm0 l s _ hw i0 i1 i2 i3 i4 s.heap s.heap.size (Nat.le_refl _) p e ha hc hk s m _ below hf ((Spec.applies_iff_loose hf).mp happ).1 ⟨rfl, State.Warmed39.refl s, rfl⟩ trivial
  refine ⟨n, _, h1, h2, h3, hpost _ _ _ _ _ _ ⟨Cond.after_iff.mpr rfl, Cond.after_iff.mpr (eq_i res_at (Term.int_eval (1)) rfl), trivial⟩ ⟨hq.1, hq.2.1, (hq.2.2.sift fun y hy => Or.inr (N y hy)).mono (by decide) (by decide)⟩⟩
theorem main_1_1 : Claimed_1_1 := comes_1 fun _ _ _ _ _ _ h hF => ⟨h.1, hF⟩
theorem main_1_2 : Claimed_1_2 := comes_1 fun _ _ _ _ _ _ h hF => ⟨h.2.1, hF⟩
end Jvm.Pilot.@@N@@
namespace Jvm.Pilot.@@N@@
open Jvm Jvm.ClassFile Sem Op Lib Jvm.Free Jvm.Stand Jvm.Pilot.@@N@@.Jvm.D
/-! MADE BY PROGRAM (witnessworld.py) out of the Statement's table words and the real class files: 13 classes; the members and pool entries that the words name. The judged class is class 1, her method 1. -/
namespace start1
open Jvm.ClassFile
def u (s : String) : CpInfo := .utf8 (stringToUtf16 s)
/-- a pool by its gaps: so many unusable entries, then the entry; so many at the end -/
def gap : Nat → List CpInfo → List CpInfo
  | 0, r => r
  | n + 1, r => .unusable :: gap n r
def poolList (es : List (Nat × CpInfo)) (last : Nat) : List CpInfo := es.foldr (fun e r => gap e.1 (e.2 :: r)) (gap last [])
def pool (es : List (Nat × CpInfo)) (last : Nat) : Array CpInfo := ⟨poolList es last⟩
def fileOf (pool : Array CpInfo) (this : Nat) (attrs : Array Attribute := #[]) (ms : Array MethodInfo := #[]) (fl : Nat := 33) (sup : Nat := 0) (ifs : Array Nat := #[]) (fds : Array FieldInfo := #[]) : ClassFile where
  minorVersion := 0
  majorVersion := 65
  constantPool := pool
  accessFlags := fl
  thisClass := this
  superClass := sup
  interfaces := ifs
  fields := fds
  methods := ms
  attributes := attrs
def plain (name : String) (sup : Option ClassId) : Class where
  name := name
  kind := .ordinary
  loader := none
  accessFlags := 33
  super := sup
  interfaces := #[]
  cf := none
  fields := #[]
  methods := #[]
  instanceTypes := #[]
  staticTypes := #[]
  resolved := #[]
  callSites := []
  init := .initialized
  statics := none
  mirror := none

def pool0 : Array CpInfo := pool [(5, u "<init>"), (0, u "()V"), (1, .class_ 10), (1, u "java/lang/Object")] 113

def k0c0 : Code := { maxStack := 0, maxLocals := 1, code := object_method_1_code, exceptionTable := #[], attributes := #[] }
def k0m0 : Method := { name := "<init>", desc := "()V", sig := { parameters := [], returnType := none }, accessFlags := 1, code := some k0c0 }
/-- java/lang/Object -/
def k0 : Class := { plain "java/lang/Object" none with
  accessFlags := 33
  interfaces := #[]
  cf := some (fileOf pool0 8 #[] #[{ accessFlags := 1, nameIndex := 5, descriptorIndex := 6, attributes := #[] }] 33 0 #[] #[])
  fields := #[]
  methods := #[k0m0]
  instanceTypes := #[]
  staticTypes := #[]
  resolved := Array.replicate 124 none
  statics := none }

def pool1 : Array CpInfo := pool [(2, .class_ 4), (1, u "java/lang/Object"), (0, u "<init>"), (0, u "()V"), (0, .integer 16777215), (0, .integer 2147483647), (0, .class_ 10), (0, u "com/example/eunomia/eunomia/engine/IdSet"), (0, .methodref 9 12), (0, .nameAndType 5 13), (0, u "([J[I[J)V"), (0, .methodref 9 15), (0, .nameAndType 16 17), (0, u "isEmpty"), (0, u "()Z"), (0, .methodref 9 19), (0, .nameAndType 20 21), (0, u "contains"), (0, u "(I)Z"), (0, .class_ 23), (0, u "com/example/eunomia/eunomia/engine/IdSetIsEmptyPinLaw"), (2, u "law"), (0, u "(IJJII)Z")] 7

def k1m0 : Method := { name := "<init>", desc := "()V", sig := { parameters := [], returnType := none }, accessFlags := 1, code := none }
def k1c1 : Code := { maxStack := 6, maxLocals := 21, code := code, exceptionTable := #[], attributes := #[] }
def k1m1 : Method := { name := "law", desc := "(IJJII)Z", sig := { parameters := [.int, .long, .long, .int, .int], returnType := some .boolean }, accessFlags := 9, code := some k1c1 }
/-- com/example/eunomia/eunomia/engine/IdSetIsEmptyPinLaw -/
def k1 : Class := { plain "com/example/eunomia/eunomia/engine/IdSetIsEmptyPinLaw" (some 0) with
  accessFlags := 49
  interfaces := #[]
  cf := some (fileOf pool1 22 #[] #[{ accessFlags := 1, nameIndex := 5, descriptorIndex := 6, attributes := #[] }, { accessFlags := 9, nameIndex := 26, descriptorIndex := 27, attributes := #[] }] 49 2 #[] #[])
  fields := #[]
  methods := #[k1m0, k1m1]
  instanceTypes := #[]
  staticTypes := #[]
  resolved := Array.replicate 35 none
  statics := none }

def pool2 : Array CpInfo := pool [(1, .methodref 2 3), (0, .class_ 4), (0, .nameAndType 5 6), (0, u "java/lang/Object"), (0, u "<init>"), (0, u "()V"), (0, .fieldref 8 9), (0, .class_ 10), (0, .nameAndType 11 12), (0, u "com/example/eunomia/eunomia/engine/IdSet"), (0, u "low"), (0, u "[J"), (0, .fieldref 8 14), (0, .nameAndType 15 16), (0, u "places"), (0, u "[I"), (0, .fieldref 8 18), (0, .nameAndType 19 12), (0, u "words"), (0, .methodref 21 22), (0, .class_ 23), (0, .nameAndType 24 25), (0, u "java/util/Arrays"), (0, u "hashCode"), (0, u "([J)I"), (0, .methodref 21 27), (0, .nameAndType 24 28), (0, u "([I)I"), (0, .fieldref 8 30), (0, .nameAndType 31 32), (0, u "hash"), (0, u "I"), (18, u "([J[I[J)V"), (0, .methodref 21 53), (0, .nameAndType 54 55), (0, u "binarySearch"), (0, u "([II)I"), (104, u "EMPTY"), (0, u "Lcom/example/eunomia/eunomia/engine/IdSet;"), (0, u "DENSE_WORDS"), (8, u "contains"), (0, u "(I)Z"), (0, u "isEmpty"), (0, u "()Z")] 39

def k2c0 : Code := { maxStack := 4, maxLocals := 4, code := prog_30_method_1_code, exceptionTable := #[], attributes := #[] }
def k2m0 : Method := { name := "<init>", desc := "([J[I[J)V", sig := { parameters := [(.array .long), (.array .int), (.array .long)], returnType := none }, accessFlags := 0, code := some k2c0 }
def k2c1 : Code := { maxStack := 5, maxLocals := 5, code := prog_30_method_3_code, exceptionTable := #[], attributes := #[] }
def k2m1 : Method := { name := "contains", desc := "(I)Z", sig := { parameters := [.int], returnType := some .boolean }, accessFlags := 0, code := some k2c1 }
def k2c2 : Code := { maxStack := 1, maxLocals := 1, code := prog_30_method_4_code, exceptionTable := #[], attributes := #[] }
def k2m2 : Method := { name := "isEmpty", desc := "()Z", sig := { parameters := [], returnType := some .boolean }, accessFlags := 0, code := some k2c2 }
/-- com/example/eunomia/eunomia/engine/IdSet -/
def k2 : Class := { plain "com/example/eunomia/eunomia/engine/IdSet" (some 0) with
  accessFlags := 48
  interfaces := #[]
  cf := some (fileOf pool2 8 #[] #[{ accessFlags := 0, nameIndex := 5, descriptorIndex := 51, attributes := #[] }, { accessFlags := 0, nameIndex := 171, descriptorIndex := 172, attributes := #[] }, { accessFlags := 0, nameIndex := 173, descriptorIndex := 174, attributes := #[] }] 48 2 #[] #[{ accessFlags := 24, nameIndex := 162, descriptorIndex := 32, attributes := #[] }, { accessFlags := 24, nameIndex := 160, descriptorIndex := 161, attributes := #[] }, { accessFlags := 18, nameIndex := 11, descriptorIndex := 12, attributes := #[] }, { accessFlags := 18, nameIndex := 15, descriptorIndex := 16, attributes := #[] }, { accessFlags := 18, nameIndex := 19, descriptorIndex := 12, attributes := #[] }, { accessFlags := 18, nameIndex := 31, descriptorIndex := 32, attributes := #[] }])
  fields := #[{ name := "DENSE_WORDS", type := .int, accessFlags := 24, slot := 0, constantValue := 0 }, { name := "EMPTY", type := (.object "com/example/eunomia/eunomia/engine/IdSet"), accessFlags := 24, slot := 1, constantValue := 0 }, { name := "low", type := (.array .long), accessFlags := 18, slot := 0, constantValue := 0 }, { name := "places", type := (.array .int), accessFlags := 18, slot := 1, constantValue := 0 }, { name := "words", type := (.array .long), accessFlags := 18, slot := 2, constantValue := 0 }, { name := "hash", type := .int, accessFlags := 18, slot := 3, constantValue := 0 }]
  methods := #[k2m0, k2m1, k2m2]
  instanceTypes := #[(.array .long), (.array .int), (.array .long), .int]
  staticTypes := #[.int, (.object "com/example/eunomia/eunomia/engine/IdSet")]
  resolved := Array.replicate 214 none
  statics := none }

def pool3 : Array CpInfo := pool [(2, .class_ 4), (1, u "java/lang/Object"), (0, u "<init>"), (0, u "()V"), (7, .class_ 16), (1, u "java/util/Arrays"), (57, .class_ 76), (1, u "java/util/Arrays$NaturalOrder"), (36, .class_ 115), (1, u "java/util/Arrays$LegacyMergeSort"), (1, u "Z"), (89, u "binarySearch0"), (1, .methodref 14 210), (0, .nameAndType 207 211), (0, u "([IIII)I"), (34, .class_ 248), (1, u "jdk/internal/util/ArraysSupport"), (126, .class_ 376), (0, u "java/util/Arrays$ArrayList"), (2, .methodref 246 380), (0, .nameAndType 381 382), (0, u "vectorizedHashCode"), (0, u "(Ljava/lang/Object;IIII)I"), (2, u "hashCode"), (22, u "([I)I"), (5, u "([J)I"), (30, u "$assertionsDisabled"), (269, u "MIN_ARRAY_SORT_GRAN"), (0, u "I"), (2, u "INSERTIONSORT_THRESHOLD"), (74, u "binarySearch"), (4, u "([II)I"), (175, .class_ 976), (0, u "java/util/Arrays$ArrayItr")] 52

def k3m0 : Method := { name := "<init>", desc := "()V", sig := { parameters := [], returnType := none }, accessFlags := 2, code := none }
def k3c1 : Code := { maxStack := 4, maxLocals := 2, code := jdk_65_method_57_code, exceptionTable := #[], attributes := #[] }
def k3m1 : Method := { name := "binarySearch", desc := "([II)I", sig := { parameters := [(.array .int), .int], returnType := some .int }, accessFlags := 9, code := some k3c1 }
def k3c2 : Code := { maxStack := 2, maxLocals := 8, code := jdk_65_method_59_code, exceptionTable := #[], attributes := #[] }
def k3m2 : Method := { name := "binarySearch0", desc := "([IIII)I", sig := { parameters := [(.array .int), .int, .int, .int], returnType := some .int }, accessFlags := 10, code := some k3c2 }
def k3c3 : Code := { maxStack := 5, maxLocals := 8, code := jdk_65_method_149_code, exceptionTable := #[], attributes := #[] }
def k3m3 : Method := { name := "hashCode", desc := "([J)I", sig := { parameters := [(.array .long)], returnType := some .int }, accessFlags := 9, code := some k3c3 }
def k3c4 : Code := { maxStack := 5, maxLocals := 1, code := jdk_65_method_150_code, exceptionTable := #[], attributes := #[] }
def k3m4 : Method := { name := "hashCode", desc := "([I)I", sig := { parameters := [(.array .int)], returnType := some .int }, accessFlags := 9, code := some k3c4 }
/-- java/util/Arrays -/
def k3 : Class := { plain "java/util/Arrays" (some 0) with
  accessFlags := 49
  interfaces := #[]
  cf := some (fileOf pool3 14 #[.nestMembers #[975, 375, 113, 74]] #[{ accessFlags := 2, nameIndex := 5, descriptorIndex := 6, attributes := #[] }, { accessFlags := 9, nameIndex := 794, descriptorIndex := 799, attributes := #[] }, { accessFlags := 10, nameIndex := 207, descriptorIndex := 211, attributes := #[] }, { accessFlags := 9, nameIndex := 385, descriptorIndex := 414, attributes := #[] }, { accessFlags := 9, nameIndex := 385, descriptorIndex := 408, attributes := #[] }] 49 2 #[] #[{ accessFlags := 26, nameIndex := 715, descriptorIndex := 716, attributes := #[] }, { accessFlags := 26, nameIndex := 719, descriptorIndex := 716, attributes := #[] }, { accessFlags := 4120, nameIndex := 445, descriptorIndex := 117, attributes := #[] }])
  fields := #[{ name := "MIN_ARRAY_SORT_GRAN", type := .int, accessFlags := 26, slot := 0, constantValue := 0 }, { name := "INSERTIONSORT_THRESHOLD", type := .int, accessFlags := 26, slot := 1, constantValue := 0 }, { name := "$assertionsDisabled", type := .boolean, accessFlags := 4120, slot := 2, constantValue := 0 }]
  methods := #[k3m0, k3m1, k3m2, k3m3, k3m4]
  instanceTypes := #[]
  staticTypes := #[.int, .int, .boolean]
  resolved := Array.replicate 1029 none
  statics := none }

def pool4 : Array CpInfo := pool [(9, u "<init>"), (6, .class_ 18), (1, u "java/lang/Object"), (0, u "()V"), (1, .class_ 23), (1, u "jdk/internal/util/ArraysSupport"), (0, u "LOG2_ARRAY_LONG_INDEX_SCALE"), (0, u "I"), (2, u "U"), (0, u "Ljdk/internal/misc/Unsafe;"), (8, u "BIG_ENDIAN"), (0, u "Z"), (8, u "LOG2_BYTE_BIT_SIZE"), (4, u "LOG2_ARRAY_INT_INDEX_SCALE"), (19, u "hashCode"), (8, .class_ 83), (0, u "[I"), (0, .methodref 21 85), (0, .nameAndType 73 86), (0, u "(I[III)I"), (21, u "JLA"), (0, u "Ljdk/internal/access/JavaLangAccess;"), (11, u "LOG2_ARRAY_BOOLEAN_INDEX_SCALE"), (9, u "LOG2_ARRAY_BYTE_INDEX_SCALE"), (5, u "LOG2_ARRAY_CHAR_INDEX_SCALE"), (5, u "LOG2_ARRAY_SHORT_INDEX_SCALE"), (18, u "LOG2_ARRAY_FLOAT_INDEX_SCALE"), (24, u "LOG2_ARRAY_DOUBLE_INDEX_SCALE"), (89, u "T_BOOLEAN"), (2, u "T_CHAR"), (1, u "T_FLOAT"), (1, u "T_DOUBLE"), (1, u "T_BYTE"), (1, u "T_SHORT"), (1, u "T_INT"), (1, u "T_LONG"), (1, u "SOFT_MAX_ARRAY_LENGTH"), (26, u "vectorizedHashCode"), (0, u "(Ljava/lang/Object;IIII)I")] 55

def k4m0 : Method := { name := "<init>", desc := "()V", sig := { parameters := [], returnType := none }, accessFlags := 2, code := none }
def k4c1 : Code := { maxStack := 4, maxLocals := 5, code := jdk_48_method_4_code, exceptionTable := #[], attributes := #[] }
def k4m1 : Method := { name := "vectorizedHashCode", desc := "(Ljava/lang/Object;IIII)I", sig := { parameters := [(.object "java/lang/Object"), .int, .int, .int, .int], returnType := some .int }, accessFlags := 9, code := some k4c1 }
def k4c2 : Code := { maxStack := 3, maxLocals := 6, code := jdk_48_method_9_code, exceptionTable := #[], attributes := #[] }
def k4m2 : Method := { name := "hashCode", desc := "(I[III)I", sig := { parameters := [.int, (.array .int), .int, .int], returnType := some .int }, accessFlags := 10, code := some k4c2 }
/-- jdk/internal/util/ArraysSupport -/
def k4 : Class := { plain "jdk/internal/util/ArraysSupport" (some 0) with
  accessFlags := 33
  interfaces := #[]
  cf := some (fileOf pool4 21 #[] #[{ accessFlags := 2, nameIndex := 9, descriptorIndex := 19, attributes := #[] }, { accessFlags := 9, nameIndex := 321, descriptorIndex := 322, attributes := #[] }, { accessFlags := 10, nameIndex := 73, descriptorIndex := 86, attributes := #[] }] 33 16 #[] #[{ accessFlags := 24, nameIndex := 28, descriptorIndex := 29, attributes := #[] }, { accessFlags := 26, nameIndex := 38, descriptorIndex := 39, attributes := #[] }, { accessFlags := 25, nameIndex := 121, descriptorIndex := 25, attributes := #[] }, { accessFlags := 25, nameIndex := 131, descriptorIndex := 25, attributes := #[] }, { accessFlags := 25, nameIndex := 137, descriptorIndex := 25, attributes := #[] }, { accessFlags := 25, nameIndex := 143, descriptorIndex := 25, attributes := #[] }, { accessFlags := 25, nameIndex := 53, descriptorIndex := 25, attributes := #[] }, { accessFlags := 25, nameIndex := 24, descriptorIndex := 25, attributes := #[] }, { accessFlags := 25, nameIndex := 162, descriptorIndex := 25, attributes := #[] }, { accessFlags := 25, nameIndex := 187, descriptorIndex := 25, attributes := #[] }, { accessFlags := 26, nameIndex := 48, descriptorIndex := 25, attributes := #[] }, { accessFlags := 25, nameIndex := 277, descriptorIndex := 25, attributes := #[] }, { accessFlags := 25, nameIndex := 280, descriptorIndex := 25, attributes := #[] }, { accessFlags := 25, nameIndex := 282, descriptorIndex := 25, attributes := #[] }, { accessFlags := 25, nameIndex := 284, descriptorIndex := 25, attributes := #[] }, { accessFlags := 25, nameIndex := 286, descriptorIndex := 25, attributes := #[] }, { accessFlags := 25, nameIndex := 288, descriptorIndex := 25, attributes := #[] }, { accessFlags := 25, nameIndex := 290, descriptorIndex := 25, attributes := #[] }, { accessFlags := 25, nameIndex := 292, descriptorIndex := 25, attributes := #[] }, { accessFlags := 26, nameIndex := 108, descriptorIndex := 109, attributes := #[] }, { accessFlags := 25, nameIndex := 294, descriptorIndex := 25, attributes := #[] }])
  fields := #[{ name := "U", type := (.object "jdk/internal/misc/Unsafe"), accessFlags := 24, slot := 0, constantValue := 0 }, { name := "BIG_ENDIAN", type := .boolean, accessFlags := 26, slot := 1, constantValue := 0 }, { name := "LOG2_ARRAY_BOOLEAN_INDEX_SCALE", type := .int, accessFlags := 25, slot := 2, constantValue := 0 }, { name := "LOG2_ARRAY_BYTE_INDEX_SCALE", type := .int, accessFlags := 25, slot := 3, constantValue := 0 }, { name := "LOG2_ARRAY_CHAR_INDEX_SCALE", type := .int, accessFlags := 25, slot := 4, constantValue := 0 }, { name := "LOG2_ARRAY_SHORT_INDEX_SCALE", type := .int, accessFlags := 25, slot := 5, constantValue := 0 }, { name := "LOG2_ARRAY_INT_INDEX_SCALE", type := .int, accessFlags := 25, slot := 6, constantValue := 0 }, { name := "LOG2_ARRAY_LONG_INDEX_SCALE", type := .int, accessFlags := 25, slot := 7, constantValue := 0 }, { name := "LOG2_ARRAY_FLOAT_INDEX_SCALE", type := .int, accessFlags := 25, slot := 8, constantValue := 0 }, { name := "LOG2_ARRAY_DOUBLE_INDEX_SCALE", type := .int, accessFlags := 25, slot := 9, constantValue := 0 }, { name := "LOG2_BYTE_BIT_SIZE", type := .int, accessFlags := 26, slot := 10, constantValue := 0 }, { name := "T_BOOLEAN", type := .int, accessFlags := 25, slot := 11, constantValue := 0 }, { name := "T_CHAR", type := .int, accessFlags := 25, slot := 12, constantValue := 0 }, { name := "T_FLOAT", type := .int, accessFlags := 25, slot := 13, constantValue := 0 }, { name := "T_DOUBLE", type := .int, accessFlags := 25, slot := 14, constantValue := 0 }, { name := "T_BYTE", type := .int, accessFlags := 25, slot := 15, constantValue := 0 }, { name := "T_SHORT", type := .int, accessFlags := 25, slot := 16, constantValue := 0 }, { name := "T_INT", type := .int, accessFlags := 25, slot := 17, constantValue := 0 }, { name := "T_LONG", type := .int, accessFlags := 25, slot := 18, constantValue := 0 }, { name := "JLA", type := (.object "jdk/internal/access/JavaLangAccess"), accessFlags := 26, slot := 19, constantValue := 0 }, { name := "SOFT_MAX_ARRAY_LENGTH", type := .int, accessFlags := 25, slot := 20, constantValue := 0 }]
  methods := #[k4m0, k4m1, k4m2]
  instanceTypes := #[]
  staticTypes := #[(.object "jdk/internal/misc/Unsafe"), .boolean, .int, .int, .int, .int, .int, .int, .int, .int, .int, .int, .int, .int, .int, .int, .int, .int, .int, (.object "jdk/internal/access/JavaLangAccess"), .int]
  resolved := Array.replicate 378 none
  statics := none }

def pool5 : Array CpInfo := pool [(1, u "java/lang/Cloneable"), (0, .class_ 1), (0, u "java/lang/Object"), (0, .class_ 3)] 3

/-- java/lang/Cloneable -/
def k5 : Class := { plain "java/lang/Cloneable" (some 0) with
  accessFlags := 1537
  interfaces := #[]
  cf := some (fileOf pool5 2 #[] #[] 1537 4 #[] #[])
  fields := #[]
  methods := #[]
  instanceTypes := #[]
  staticTypes := #[]
  resolved := Array.replicate 8 none
  statics := none }

def pool6 : Array CpInfo := pool [(1, u "java/io/Serializable"), (0, .class_ 1), (0, u "java/lang/Object"), (0, .class_ 3)] 3

/-- java/io/Serializable -/
def k6 : Class := { plain "java/io/Serializable" (some 0) with
  accessFlags := 1537
  interfaces := #[]
  cf := some (fileOf pool6 2 #[] #[] 1537 4 #[] #[])
  fields := #[]
  methods := #[]
  instanceTypes := #[]
  staticTypes := #[]
  resolved := Array.replicate 8 none
  statics := none }

/-- the primitive byte -/
def k7 : Class := { plain "byte" none with kind := .primitive 'B', accessFlags := 0x411 }
/-- [B -/
def k8 : Class := { plain "[B" (some 0) with kind := .array 7 .byte, interfaces := #[5, 6], accessFlags := 1041 }

/-- the primitive int -/
def k9 : Class := { plain "int" none with kind := .primitive 'I', accessFlags := 0x411 }
/-- [I -/
def k10 : Class := { plain "[I" (some 0) with kind := .array 9 .int, interfaces := #[5, 6], accessFlags := 1041 }

/-- the primitive long -/
def k11 : Class := { plain "long" none with kind := .primitive 'J', accessFlags := 0x411 }
/-- [J -/
def k12 : Class := { plain "[J" (some 0) with kind := .array 11 .long, interfaces := #[5, 6], accessFlags := 1041 }

def heap : Heap := #[]
def classes : Array Class := #[k0, k1, k2, k3, k4, k5, k6, k7, k8, k9, k10, k11, k12]
def interned : List (Array UInt16 × Addr) := []
def slotsUsed : Nat := 0
def theMethod : MethodId := ⟨1, 1⟩
def args0 : Array Value := #[.int 5, .long 300, .long 7, .int 8, .int 9]
def aboutOver (below : List Frame) : State where
  vm := { classes := classes, interned := interned.toArray }
  heap := heap
  slotsUsed := slotsUsed
  threads := #[{ frames := .invoking theMethod args0 :: below }]
def below0 : List Frame := [.native { method := ⟨0, 0⟩, args := #[] }]
def about1 : State := aboutOver below0
def p0 : Program := .bare "" "" ""
def e0 : Env := launch0.env 0 0 0
theorem w_frames : about1.frames = Frame.invoking theMethod args0 :: below0 := rfl
set_option maxRecDepth 65536 in
theorem w_args : argsFit about1.vm theMethod args0 = true := by decide +kernel
set_option maxRecDepth 65536 in
theorem w_heap : heapFits about1 = true := by decide +kernel
set_option maxRecDepth 65536 in
theorem w_runnable : about1.curStatus? = some .runnable := by decide +kernel
set_option maxRecDepth 65536 in
theorem w_alone : about1.alone = true := by decide +kernel
set_option maxRecDepth 65536 in
theorem w_named : about1.methodNamed? x = some theMethod := by decide +kernel
set_option maxRecDepth 65536 in
theorem w_hears : about1.hears theMethod below0 = true := by decide +kernel
set_option maxRecDepth 65536 in
theorem w_ripe : about1.ripe theMethod args0 below0 = true := by decide +kernel
theorem w_running : about1.status = .running := rfl
set_option maxRecDepth 65536 in
theorem w_room : about1.hasRoom e0.platform room_1 = true :=
  launch0.hasRoom_least _ room_1 (by decide +kernel) (by decide +kernel) (by decide +kernel) (by decide +kernel) (by decide +kernel) (by decide +kernel)
theorem allAtoms_all (ts : List Jvm.Cond) (a : Array Jvm.Value) (st : Jvm.State) : (allAtoms ts).before a st = ts.all (fun c => c.before a st) := by
  induction ts with
  | nil => rfl
  | cons c t ih =>
    show (Jvm.Cond.and c (allAtoms t)).before a st = _
    rw [Jvm.Cond.before_and, ih, List.all_cons]
def words1 : List Jvm.Cond := Jvm.Cond.code x code maxLocals ret :: tables_1
/-- a 'code' word, met by the world's own term for the bytes: nothing is compared byte by byte -/
theorem code_word {y : MethodName} {bytes : ByteArray} {mx : Nat} {rt : Option FieldType} {a : Array Value} {s : State} {m : MethodId} {meth : Method} {c : Code} (h1 : s.methodNamed? y = some m) (h2 : s.vm.method? m = some meth) (h3 : meth.code = some c) (h4 : c.code = bytes)
    (h5 : (c.maxLocals == mx && c.exceptionTable.isEmpty && decide (c.maxStack ≤ mostOperands) && decide (meth.sig.returnType = rt) && !meth.locks && decide (parseMethodDescriptor y.desc = some meth.sig)) = true) : (Jvm.Cond.code y bytes mx rt).before a s = true := by
  simp only [Bool.and_eq_true, beq_iff_eq, Bool.not_eq_true', decide_eq_true_eq] at h5
  obtain ⟨⟨⟨⟨⟨g1, g2⟩, g3⟩, g4⟩, g5⟩, g6⟩ := h5
  simp [Cond.before, Cond.holds, Cond.value, h1, h2, h3, h4, g1, g2, g3, g4, g5, g6]
def isCode : Jvm.Cond → Bool
  | .code _ _ _ _ => true
  | _ => false
theorem all_split {L : List Jvm.Cond} {P : Jvm.Cond → Bool} (h1 : L.all (fun c => isCode c || P c) = true) (h2 : ∀ c ∈ L.filter isCode, P c = true) : L.all P = true := by
  refine List.all_eq_true.mpr fun c hc => ?_
  have h := List.all_eq_true.mp h1 c hc
  rcases Bool.eq_false_or_eq_true (isCode c) with hi | hi
  · exact h2 c (List.mem_filter.mpr ⟨hc, hi⟩)
  · simpa [hi] using h
set_option maxRecDepth 65536 in
theorem w_c0 : (Jvm.Cond.code x code maxLocals ret).before args0 about1 = true := code_word (m := ⟨1, 1⟩) (meth := k1m1) (c := k1c1) (by decide +kernel) rfl rfl rfl (by decide +kernel)
set_option maxRecDepth 65536 in
theorem w_c1 : (Jvm.Cond.code ({ cls := "com/example/eunomia/eunomia/engine/IdSet", name := "<init>", desc := "([J[I[J)V" } : Jvm.MethodName) prog_30_method_1_code (4 : Nat) (Option.none : Option Jvm.ClassFile.FieldType)).before args0 about1 = true := code_word (m := ⟨2, 0⟩) (meth := k2m0) (c := k2c0) (by decide +kernel) rfl rfl rfl (by decide +kernel)
set_option maxRecDepth 65536 in
theorem w_c2 : (Jvm.Cond.code ({ cls := "java/lang/Object", name := "<init>", desc := "()V" } : Jvm.MethodName) object_method_1_code (1 : Nat) (Option.none : Option Jvm.ClassFile.FieldType)).before args0 about1 = true := code_word (m := ⟨0, 0⟩) (meth := k0m0) (c := k0c0) (by decide +kernel) rfl rfl rfl (by decide +kernel)
set_option maxRecDepth 65536 in
theorem w_c3 : (Jvm.Cond.code ({ cls := "java/util/Arrays", name := "hashCode", desc := "([J)I" } : Jvm.MethodName) jdk_65_method_149_code (8 : Nat) (Option.some Jvm.ClassFile.FieldType.int)).before args0 about1 = true := code_word (m := ⟨3, 3⟩) (meth := k3m3) (c := k3c3) (by decide +kernel) rfl rfl rfl (by decide +kernel)
set_option maxRecDepth 65536 in
theorem w_c4 : (Jvm.Cond.code ({ cls := "java/util/Arrays", name := "hashCode", desc := "([I)I" } : Jvm.MethodName) jdk_65_method_150_code (1 : Nat) (Option.some Jvm.ClassFile.FieldType.int)).before args0 about1 = true := code_word (m := ⟨3, 4⟩) (meth := k3m4) (c := k3c4) (by decide +kernel) rfl rfl rfl (by decide +kernel)
set_option maxRecDepth 65536 in
theorem w_c5 : (Jvm.Cond.code ({ cls := "com/example/eunomia/eunomia/engine/IdSet", name := "isEmpty", desc := "()Z" } : Jvm.MethodName) prog_30_method_4_code (1 : Nat) (Option.some Jvm.ClassFile.FieldType.boolean)).before args0 about1 = true := code_word (m := ⟨2, 2⟩) (meth := k2m2) (c := k2c2) (by decide +kernel) rfl rfl rfl (by decide +kernel)
set_option maxRecDepth 65536 in
theorem w_c6 : (Jvm.Cond.code ({ cls := "com/example/eunomia/eunomia/engine/IdSet", name := "contains", desc := "(I)Z" } : Jvm.MethodName) prog_30_method_3_code (5 : Nat) (Option.some Jvm.ClassFile.FieldType.boolean)).before args0 about1 = true := code_word (m := ⟨2, 1⟩) (meth := k2m1) (c := k2c1) (by decide +kernel) rfl rfl rfl (by decide +kernel)
set_option maxRecDepth 65536 in
theorem w_c7 : (Jvm.Cond.code ({ cls := "java/util/Arrays", name := "binarySearch", desc := "([II)I" } : Jvm.MethodName) jdk_65_method_57_code (2 : Nat) (Option.some Jvm.ClassFile.FieldType.int)).before args0 about1 = true := code_word (m := ⟨3, 1⟩) (meth := k3m1) (c := k3c1) (by decide +kernel) rfl rfl rfl (by decide +kernel)
set_option maxRecDepth 65536 in
theorem w_c8 : (Jvm.Cond.code ({ cls := "java/util/Arrays", name := "binarySearch0", desc := "([IIII)I" } : Jvm.MethodName) jdk_65_method_59_code (8 : Nat) (Option.some Jvm.ClassFile.FieldType.int)).before args0 about1 = true := code_word (m := ⟨3, 2⟩) (meth := k3m2) (c := k3c2) (by decide +kernel) rfl rfl rfl (by decide +kernel)
set_option maxRecDepth 65536 in
theorem w_c9 : (Jvm.Cond.code ({ cls := "jdk/internal/util/ArraysSupport", name := "vectorizedHashCode", desc := "(Ljava/lang/Object;IIII)I" } : Jvm.MethodName) jdk_48_method_4_code (5 : Nat) (Option.some Jvm.ClassFile.FieldType.int)).before args0 about1 = true := code_word (m := ⟨4, 1⟩) (meth := k4m1) (c := k4c1) (by decide +kernel) rfl rfl rfl (by decide +kernel)
set_option maxRecDepth 65536 in
theorem w_c10 : (Jvm.Cond.code ({ cls := "jdk/internal/util/ArraysSupport", name := "hashCode", desc := "(I[III)I" } : Jvm.MethodName) jdk_48_method_9_code (6 : Nat) (Option.some Jvm.ClassFile.FieldType.int)).before args0 about1 = true := code_word (m := ⟨4, 2⟩) (meth := k4m2) (c := k4c2) (by decide +kernel) rfl rfl rfl (by decide +kernel)
def codes1 : List Jvm.Cond := [Jvm.Cond.code x code maxLocals ret, Jvm.Cond.code ({ cls := "com/example/eunomia/eunomia/engine/IdSet", name := "<init>", desc := "([J[I[J)V" } : Jvm.MethodName) prog_30_method_1_code (4 : Nat) (Option.none : Option Jvm.ClassFile.FieldType), Jvm.Cond.code ({ cls := "java/lang/Object", name := "<init>", desc := "()V" } : Jvm.MethodName) object_method_1_code (1 : Nat) (Option.none : Option Jvm.ClassFile.FieldType), Jvm.Cond.code ({ cls := "java/util/Arrays", name := "hashCode", desc := "([J)I" } : Jvm.MethodName) jdk_65_method_149_code (8 : Nat) (Option.some Jvm.ClassFile.FieldType.int), Jvm.Cond.code ({ cls := "java/util/Arrays", name := "hashCode", desc := "([I)I" } : Jvm.MethodName) jdk_65_method_150_code (1 : Nat) (Option.some Jvm.ClassFile.FieldType.int), Jvm.Cond.code ({ cls := "com/example/eunomia/eunomia/engine/IdSet", name := "isEmpty", desc := "()Z" } : Jvm.MethodName) prog_30_method_4_code (1 : Nat) (Option.some Jvm.ClassFile.FieldType.boolean), Jvm.Cond.code ({ cls := "com/example/eunomia/eunomia/engine/IdSet", name := "contains", desc := "(I)Z" } : Jvm.MethodName) prog_30_method_3_code (5 : Nat) (Option.some Jvm.ClassFile.FieldType.boolean), Jvm.Cond.code ({ cls := "java/util/Arrays", name := "binarySearch", desc := "([II)I" } : Jvm.MethodName) jdk_65_method_57_code (2 : Nat) (Option.some Jvm.ClassFile.FieldType.int), Jvm.Cond.code ({ cls := "java/util/Arrays", name := "binarySearch0", desc := "([IIII)I" } : Jvm.MethodName) jdk_65_method_59_code (8 : Nat) (Option.some Jvm.ClassFile.FieldType.int), Jvm.Cond.code ({ cls := "jdk/internal/util/ArraysSupport", name := "vectorizedHashCode", desc := "(Ljava/lang/Object;IIII)I" } : Jvm.MethodName) jdk_48_method_4_code (5 : Nat) (Option.some Jvm.ClassFile.FieldType.int), Jvm.Cond.code ({ cls := "jdk/internal/util/ArraysSupport", name := "hashCode", desc := "(I[III)I" } : Jvm.MethodName) jdk_48_method_9_code (6 : Nat) (Option.some Jvm.ClassFile.FieldType.int)]
set_option maxRecDepth 65536 in
theorem codes_eq : words1.filter isCode = codes1 := rfl
theorem w_codes : ∀ c ∈ words1.filter isCode, c.before args0 about1 = true := by
  rw [codes_eq]
  intro c hc
  simp only [codes1, List.mem_cons, List.not_mem_nil, or_false] at hc
  rcases hc with rfl | rfl | rfl | rfl | rfl | rfl | rfl | rfl | rfl | rfl | rfl
  · exact w_c0
  · exact w_c1
  · exact w_c2
  · exact w_c3
  · exact w_c4
  · exact w_c5
  · exact w_c6
  · exact w_c7
  · exact w_c8
  · exact w_c9
  · exact w_c10
set_option maxRecDepth 65536 in
theorem w_t1 : (words1.take 24).all (fun c => isCode c || c.before args0 about1) = true := by decide +kernel
set_option maxRecDepth 65536 in
theorem w_t2 : ((words1.drop 24).take 24).all (fun c => isCode c || c.before args0 about1) = true := by decide +kernel
set_option maxRecDepth 65536 in
theorem w_t3 : ((words1.drop 24).drop 24).all (fun c => isCode c || c.before args0 about1) = true := by decide +kernel
theorem w_tables : (allAtoms (Jvm.Cond.code x code maxLocals ret :: tables_1)).before args0 about1 = true := by
  rw [allAtoms_all]
  show words1.all (fun c => c.before args0 about1) = true
  refine all_split ?_ w_codes
  rw [← List.take_append_drop 24 words1, List.all_append, w_t1, ← List.take_append_drop 24 (words1.drop 24), List.all_append, w_t2, w_t3]
  rfl
set_option maxRecDepth 65536 in
theorem w_case : (Jvm.Cond.and given_1 narrow_1).before args0 about1 = true := by decide +kernel
theorem w_applies : (headSpec (Jvm.Cond.code x code maxLocals ret :: tables_1) room_1).applies x e0.platform about1 = true :=
  (Spec.applies_iff w_frames).mpr ⟨w_running, w_runnable, w_alone, w_named, w_hears, w_ripe, w_room, w_tables⟩
theorem atStart : AtStart classFile x code maxLocals ret World_1 tables_1 room_1 Calls_1 rest_1 Pre_1 launch0 p0 e0 about1 theMethod args0 below0 :=
  ⟨lists_1, trivial, launch0.admits_env _ _ _, launch0.least_env, fairChoices_fair.cas, fairChoices_fair.clock, w_frames, w_args, w_heap, w_applies, trivial, trivial, w_case⟩
end start1
theorem witness_1 : WitnessClaimed_1 := ⟨start1.p0, start1.e0, start1.about1, start1.theMethod, start1.args0, start1.below0, start1.atStart⟩
end Jvm.Pilot.@@N@@
