import JvmDerived
import JvmDerived.Pilot.@@N@@Statement
import JvmDerived.Pilot.@@N@@Code
set_option linter.unusedVariables false
set_option linter.unusedSimpArgs false

namespace Jvm.Pilot.@@N@@
open Jvm Jvm.ClassFile Sem Op Lib Jvm.Free Jvm.Stand Jvm.LawKit Jvm.RoadKit Bundle Jvm.Pilot.@@N@@.Jvm.D
section OwnKit
variable {p : Program} {l : Launch} {e : Env} {R : Room} {s : State} {m : MethodId} {args : Array Value} {below : List Frame} {meth : Method} {c : Code} {T : State} {locs : List Loc} {cells slots : Nat} {Z : State} {a0 : Array Value} {h : Heap}
/-- the run goes on from T with the frame f on top to an end that K says -/
def own_G (p : Program) (e : Env) (below : List Frame) (K : Outcome → State → Prop) (T : State) (f : JFrame) : Prop := ∃ s₂ o, Steps p.tables e below (T.setTop f) s₂ ∧ s₂.status = .running ∧ Ended s₂ below o ∧ K o s₂
theorem own_go {K : Outcome → State → Prop} {T' : State} {f f' : JFrame} (st : ∀ t, Steps p.tables e below (T'.setTop f') t → Steps p.tables e below (T.setTop f) t) (h : own_G p e below K T' f') : own_G p e below K T f := by
  obtain ⟨s₂, o, h1, h2⟩ := h
  exact ⟨s₂, o, st _ h1, h2⟩
theorem own_cast {K : Outcome → State → Prop} {f f' : JFrame} (q : f = f') (h : own_G p e below K T f') : own_G p e below K T f := q ▸ h
def own_K (Q : Option Value → Heap → List Loc → Prop) (s : State) (C S : Nat) : Outcome → State → Prop := fun o U => ∃ v L, o = .returned v ∧ Q v U.heap L ∧ FrameEnd s o U L C S
def own_Met (l : Launch) (Z : State) (y : MethodName) (bytes : ByteArray) (maxL : Nat) (ret : Option FieldType) (ws : List Jvm.Cond) (rm : Room) (as' : Array Value) (h0 : Heap) (Q : Option Value → Heap → List Loc → Prop) : Prop :=
  MetFree l y (head1 (Jvm.Cond.code y bytes maxL ret :: ws) rm) (fun a U => a = as' ∧ Z.Warmed39 U.vm ∧ U.heap = h0) (fun _ _ _ _ _ => True) (fun _ U o U' => own_K Q U rm.cells rm.slots o U')
theorem own_met {y : MethodName} {bytes : ByteArray} {maxL : Nat} {ret : Option FieldType} {ws : List Jvm.Cond} {rm : Room} {as' : Array Value} {h0 : Heap} {Q : Option Value → Heap → List Loc → Prop} (hpl : plainFor y = true)
    (body : ∀ (p : Program) (e : Env) (s : State) (m : MethodId) (below : List Frame) (meth : Method) (c : Code) (s₁ : State), p.tables.exec = Jvm.exec → c.code = bytes → c.maxLocals = maxL → s.vm.findClass y.cls = some m.cls → meth.name = y.name → meth.sig.returnType = ret → meth.locks = false →
      Z.Warmed39 s.vm → Stand p l e rm s m as' below meth c s₁ [] 0 0 → s₁.heap = h0 → own_G p e below (own_K Q s rm.cells rm.slots) s₁ (entryFrame m as' maxL)) :
    own_Met l Z y bytes maxL ret ws rm as' h0 Q := by
  refine MetFree.of_bodySF hpl hisR ?_
  intro p e s m args below meth c s₁ Bd hml hP hK
  obtain ⟨rfl, hZ, hh⟩ := hP
  have e0 : s₁.heap = h0 := by rw [← hh, Bd.state]; rfl
  have q := body p e s m below meth c s₁ Bd.exec Bd.bytes hml (findClass_of_methodNamed Bd.named) (name_of_methodNamed Bd.named Bd.method).1 Bd.returns (BodyLoose.notSynchronized Bd) hZ (Stand.of_body Bd) e0
  obtain ⟨s₂, o, h1, h2, h3, h4⟩ := q
  exact ⟨s₂, o, h1, h2, h3, h4⟩
theorem own_end (X : Stand p l e R s m args below meth c T locs cells slots) (hlk : meth.locks = false) {v : Option Value} {f : JFrame} {Q : Option Value → Heap → List Loc → Prop} {C S : Nat} (hv : meth.sig.returnType = none → v = none) (hc : cells ≤ C) (hs : slots ≤ S)
    (st : ∀ fs, (∀ (f : JFrame) (acts : List Action), f.method = m → f.locked = none → f.entered = [] → (doReturn e (T.setTop f) acts v).1 = T.setFrames fs) → Steps p.tables e below (T.setTop f) (T.setFrames fs)) (hq : Q v T.heap locs) : own_G p e below (own_K Q s C S) T f := by
  obtain ⟨fs, hr, hrun, hended, hW, hsame⟩ := X.leave (v := v) hv
  exact ⟨_, _, st fs hr, hrun, hended, v, locs, rfl, hq, ⟨_, rfl⟩, hW, hsame.mono hc hs⟩
theorem own_retZ (X : Stand p l e R s m args below meth c T locs cells slots) (hx : p.tables.exec = Jvm.exec) (hlk : meth.locks = false) {t : FieldType} (hret : meth.sig.returnType = some t) (ht : t = .boolean ∨ t = .byte ∨ t = .char ∨ t = .short) {pc : Nat} {Ls : Array Slot} {z : Int32} {rest : List Value} {Q : Option Value → Heap → List Loc → Prop} {C S : Nat}
    (eT : T.heap = h) {w : Int32} (hz : nar t z = w) (hd : decode c.code pc = .ok (.ireturn, 1)) (hc : cells ≤ C) (hs : slots ≤ S) (hq : Q (some (.int w)) h locs) : own_G p e below (own_K Q s C S) T (mkF m pc Ls (.int z :: rest)) := by
  subst eT hz
  exact own_end X hlk (fun q => by rw [hret] at q; cases q) hc hs (fun fs hr => retN X hx hret ht hd hr) hq
theorem own_retI (X : Stand p l e R s m args below meth c T locs cells slots) (hx : p.tables.exec = Jvm.exec) (hlk : meth.locks = false) (hret : meth.sig.returnType = some .int) {pc : Nat} {Ls : Array Slot} {z : Int32} {rest : List Value} {Q : Option Value → Heap → List Loc → Prop} {C S : Nat}
    (eT : T.heap = h) (hd : decode c.code pc = .ok (.ireturn, 1)) (hc : cells ≤ C) (hs : slots ≤ S) (hq : Q (some (.int z)) h locs) : own_G p e below (own_K Q s C S) T (mkF m pc Ls (.int z :: rest)) := by
  subst eT
  exact own_end X hlk (fun q => by rw [hret] at q; cases q) hc hs (fun fs hr => retOut X hx hret rfl (Or.inl ⟨rfl, Or.inl rfl, z, rfl⟩) hd hr) hq
theorem own_retA (X : Stand p l e R s m args below meth c T locs cells slots) (hx : p.tables.exec = Jvm.exec) (hlk : meth.locks = false) {t : FieldType} (hret : meth.sig.returnType = some t) (ht : t.isReference = true) {pc : Nat} {Ls : Array Slot} {w : Value} (hw : w.isRef = true) (hn : narrow t w = w) {rest : List Value} {Q : Option Value → Heap → List Loc → Prop} {C S : Nat}
    (eT : T.heap = h) (hd : decode c.code pc = .ok (.areturn, 1)) (hc : cells ≤ C) (hs : slots ≤ S) (hq : Q (some w) h locs) : own_G p e below (own_K Q s C S) T (mkF m pc Ls (w :: rest)) := by
  subst eT
  exact own_end X hlk (fun q => by rw [hret] at q; cases q) hc hs (fun fs hr => retOut X hx hret hn (Or.inr (Or.inr (Or.inr (Or.inr ⟨rfl, ht, hw⟩)))) hd hr) hq
theorem own_retV (X : Stand p l e R s m args below meth c T locs cells slots) (hx : p.tables.exec = Jvm.exec) (hlk : meth.locks = false) (hret : meth.sig.returnType = none) {pc : Nat} {Ls : Array Slot} {Q : Option Value → Heap → List Loc → Prop} {C S : Nat}
    (eT : T.heap = h) (hd : decode c.code pc = .ok (.return_, 1)) (hc : cells ≤ C) (hs : slots ≤ S) (hq : Q none h locs) : own_G p e below (own_K Q s C S) T (mkF m pc Ls []) := by
  subst eT
  exact own_end X hlk (fun _ => rfl) hc hs (fun fs hr => X.returnOut hx hret hd hr) hq
/-- a static call by the callee's contract -/
theorem own_callS {own : String} {index maxL : Nat} {y : MethodName} {bytes : ByteArray} {ret : Option FieldType} {rm : Room} {Q : Option Value → Heap → List Loc → Prop} {argsL rest stk : List Value} {pc : Nat} {Ls : Array Slot}
    (X : Stand p l e R s m args below meth c T locs cells slots) (hx : p.tables.exec = Jvm.exec) (hZ : Z.Warmed39 s.vm) (hown : s.vm.findClass own = some m.cls) (hM : own_Met l Z y bytes maxL ret [] rm argsL.toArray h Q)
    (w1 : (Jvm.Cond.methodLink own index y).before a0 Z = true) (w2 : (Jvm.Cond.static y).before a0 Z = true) (w3 : (Jvm.Cond.initialized y.cls).before a0 Z = true) (w4 : (Jvm.Cond.code y bytes maxL ret).before a0 Z = true) (hy : y.cls ≠ "java/lang/invoke/MethodHandle" ∧ y.cls ≠ "java/lang/invoke/VarHandle")
    (eT : T.heap = h) (hsz : Ls.size = c.maxLocals) (hlen : ∀ sig, parseMethodDescriptor y.desc = some sig → argsL.length = sig.parameters.length) (hstk : stk = argsL.reverse ++ rest) (hd : decode c.code pc = .ok (.invokestatic index, 3))
    (hf : rm.frames + 1 ≤ R.frames) (hl : (rest.map fun v => v.category).sum + (maxL + 11) + rm.locals ≤ R.locals) (hc : cells + rm.cells ≤ R.cells) (hs : slots + rm.slots ≤ R.slots) :
    ∃ (v : Option Value) (T' : State) (L : List Loc), Stand p l e R s m args below meth c T' (locs ++ L) (cells + rm.cells) (slots + rm.slots) ∧ Q v T'.heap L ∧ ∀ t, Steps p.tables e below (T'.setTop (mkF m (pc + 3) Ls (v.toList ++ rest))) t → Steps p.tables e below (T.setTop (mkF m pc Ls stk)) t := by
  obtain ⟨v, _, ⟨T', L', k', n'⟩, -, X', ⟨L, hQ, l1, y1, z1⟩, st⟩ := Jvm.LawKit.callS X hx (y := y) hown (mvT hZ w1) (mvT hZ w2) (mvT hZ w3) (mvT hZ w4) hy (backOf (Q := Q) hM hZ w4 w3 hf hl) (g := mkF m pc Ls stk) rfl hsz (argsL := argsL) (rest := rest) hlen hstk (by show 2 * 0 + _ ≤ _; exact Nat.le_of_eq (Nat.zero_add _)) hd (fun _ _ => ⟨rfl, eT, hc, hs⟩)
  dsimp only [Pt.U, Pt.locs, Pt.cells, Pt.slots] at X' l1 y1 z1 st hQ
  subst l1 y1 z1
  exact ⟨v, T', L, X', hQ, st⟩
/-- a constructor's call by its contract -/
theorem own_callI {own : String} {index maxL : Nat} {y : MethodName} {bytes : ByteArray} {rm : Room} {Q : Option Value → Heap → List Loc → Prop} {argsL rest stk : List Value} {pc : Nat} {Ls : Array Slot} {a : Addr} (hy1 : y.name = "<init>")
    (X : Stand p l e R s m args below meth c T locs cells slots) (hx : p.tables.exec = Jvm.exec) (hZ : Z.Warmed39 s.vm) (hown : s.vm.findClass own = some m.cls) (hM : own_Met l Z y bytes maxL none [] rm (.ref a :: argsL).toArray h Q)
    (w1 : (Jvm.Cond.methodLink own index y).before a0 Z = true) (w2 : (Jvm.Cond.instanceMethod y).before a0 Z = true) (w3 : (Jvm.Cond.initialized y.cls).before a0 Z = true) (w4 : (Jvm.Cond.code y bytes maxL none).before a0 Z = true) (hy : y.cls ≠ "java/lang/invoke/MethodHandle" ∧ y.cls ≠ "java/lang/invoke/VarHandle")
    (eT : T.heap = h) (hsz : Ls.size = c.maxLocals) (hlen : ∀ sig, parseMethodDescriptor y.desc = some sig → argsL.length = sig.parameters.length) (hstk : stk = argsL.reverse ++ .ref a :: rest) (hd : decode c.code pc = .ok (.invokespecial index, 3))
    (hf : rm.frames + 1 ≤ R.frames) (hl : (rest.map fun v => v.category).sum + (maxL + 11) + rm.locals ≤ R.locals) (hc : cells + rm.cells ≤ R.cells) (hs : slots + rm.slots ≤ R.slots) :
    ∃ (v : Option Value) (T' : State) (L : List Loc), Stand p l e R s m args below meth c T' (locs ++ L) (cells + rm.cells) (slots + rm.slots) ∧ Q v T'.heap L ∧ ∀ t, Steps p.tables e below (T'.setTop (mkF m (pc + 3) Ls (v.toList ++ rest))) t → Steps p.tables e below (T.setTop (mkF m pc Ls stk)) t := by
  obtain ⟨v, _, ⟨T', L', k', n'⟩, -, X', ⟨L, hQ, l1, y1, z1⟩, st⟩ := X.specialBack hx (y := y) hy1 hown (mvT hZ w1) (mvT hZ w2) (mvT hZ w4) hy (backOf (Q := Q) hM hZ w4 w3 hf hl) (g := mkF m pc Ls stk) rfl hsz (Steps.refl _) (a := a) (argsL := argsL) (rest := rest) hlen hstk (by show 2 * 0 + _ ≤ _; exact Nat.le_of_eq (Nat.zero_add _)) hd (fun _ _ => ⟨rfl, eT, hc, hs⟩)
  dsimp only [Pt.U, Pt.locs, Pt.cells, Pt.slots] at X' l1 y1 z1 st hQ
  subst l1 y1 z1
  exact ⟨v, T', L, X', hQ, fun t k => st.trans k⟩
/-- an instance method's call by the contract of the body that the receiver's class selects -/
theorem own_callV {own C : String} {index maxL : Nat} {y z : MethodName} {bytes : ByteArray} {ret : Option FieldType} {rm : Room} {Q : Option Value → Heap → List Loc → Prop} {argsL rest stk : List Value} {pc : Nat} {Ls : Array Slot} {a : Addr}
    (X : Stand p l e R s m args below meth c T locs cells slots) (hx : p.tables.exec = Jvm.exec) (hZ : Z.Warmed39 s.vm) (hown : s.vm.findClass own = some m.cls) (hM : own_Met l Z z bytes maxL ret [] rm (.ref a :: argsL).toArray h Q)
    (w1 : (Jvm.Cond.methodLink own index y).before a0 Z = true) (w2 : (Jvm.Cond.declares y).before a0 Z = true) (nf : NotFace s y) (w5 : (Jvm.Cond.selects C y z).before a0 Z = true) (w6 : (Jvm.Cond.instanceMethod z).before a0 Z = true) (w3 : (Jvm.Cond.initialized z.cls).before a0 Z = true) (w4 : (Jvm.Cond.code z bytes maxL ret).before a0 Z = true) (hy : y.cls ≠ "java/lang/invoke/MethodHandle" ∧ y.cls ≠ "java/lang/invoke/VarHandle")
    (eT : T.heap = h) (E : Exa Z h a C) (hsz : Ls.size = c.maxLocals) (hlen : ∀ sig, parseMethodDescriptor y.desc = some sig → argsL.length = sig.parameters.length) (hstk : stk = argsL.reverse ++ .ref a :: rest) (hd : decode c.code pc = .ok (.invokevirtual index, 3))
    (hf : rm.frames + 1 ≤ R.frames) (hl : (rest.map fun v => v.category).sum + (maxL + 11) + rm.locals ≤ R.locals) (hc : cells + rm.cells ≤ R.cells) (hs : slots + rm.slots ≤ R.slots) :
    ∃ (v : Option Value) (T' : State) (L : List Loc), Stand p l e R s m args below meth c T' (locs ++ L) (cells + rm.cells) (slots + rm.slots) ∧ Q v T'.heap L ∧ ∀ t, Steps p.tables e below (T'.setTop (mkF m (pc + 3) Ls (v.toList ++ rest))) t → Steps p.tables e below (T.setTop (mkF m pc Ls stk)) t := by
  obtain ⟨cB, kB, q1, q2, q3⟩ := isOf hZ eT E
  obtain ⟨v, _, ⟨T', L', k', n'⟩, -, X', ⟨L, hQ, l1, y1, z1⟩, st⟩ := X.virtualBack hx (y := y) (z := z) hown (mvT hZ w1) (mvT hZ w2) nf (mvT hZ w5) (mvT hZ w6) hy (backOf (Q := Q) hM hZ w4 w3 hf hl) q1 q3 (g := mkF m pc Ls stk) rfl hsz (Steps.refl _) (argsL := argsL) (rest := rest) hlen hstk (by show 2 * 0 + _ ≤ _; exact Nat.le_of_eq (Nat.zero_add _)) hd (fun _ _ => ⟨rfl, eT, hc, hs⟩)
  dsimp only [Pt.U, Pt.locs, Pt.cells, Pt.slots] at X' l1 y1 z1 st hQ
  subst l1 y1 z1
  exact ⟨v, T', L, X', hQ, fun t k => st.trans k⟩
/-! arrays by Arv -/
theorem own_alen {a : Addr} {k : ClassId} {ty : FieldType} {n : Int32} {vs : List Value} {dv : Value} (X : Stand p l e R s m args below meth c T locs cells slots) (hx : p.tables.exec = Jvm.exec) (hZ : Z.Warmed39 s.vm) (eT : T.heap = h) (V : Arv Z h a k ty n vs dv) {pc : Nat} {Ls : Array Slot} {rest : List Value} (hd : decode c.code pc = .ok (.arraylength, 1)) :
    ∀ t, Steps p.tables e below (T.setTop (mkF m (pc + 1) Ls (.int n :: rest))) t → Steps p.tables e below (T.setTop (mkF m pc Ls (.ref a :: rest))) t := fun t kt => by
  obtain ⟨cl, A, -, S, q, -, -⟩ := V
  refine X.arraylength hx (by rw [eT]; exact A.1) (State.isArrayOf_alike hZ.alike A.2.1) (g := mkF m pc Ls (.ref a :: rest)) rfl rfl hd _ ?_
  rw [len_of S q]
  exact kt
theorem own_open {a : Addr} {k : ClassId} {ty : FieldType} {n j : Int32} {vs : List Value} {dv v : Value} (V : Arv Z h a k ty n vs dv) (hj : ¬ j < 0 ∧ j < n) (hv : vs.getD j.toNatClampNeg dv = v) : ∃ cl : Cell, Arr Z h a cl ty ∧ ¬ (j < 0 ∨ cl.slots.size ≤ j.toNatClampNeg) ∧ cl.slots[j.toNatClampNeg]? = some v ∧ fits ty v = true := by
  obtain ⟨cl, A, -, S, q, H, G⟩ := V
  have hi := inb_of S hj
  have hlt : j.toNatClampNeg < cl.slots.size := Nat.lt_of_not_le fun x => hi (Or.inr x)
  exact ⟨cl, A, hi, by rw [H _ hlt, hv], by rw [← hv]; exact G _ hlt⟩
theorem own_caload {a : Addr} {k : ClassId} {n j : Int32} {vs : List Value} {dv v : Value} (X : Stand p l e R s m args below meth c T locs cells slots) (hx : p.tables.exec = Jvm.exec) (hZ : Z.Warmed39 s.vm) (eT : T.heap = h) (V : Arv Z h a k .char n vs dv) (hj : ¬ j < 0 ∧ j < n) (hv : vs.getD j.toNatClampNeg dv = v) {pc : Nat} {Ls : Array Slot} {rest : List Value} (hd : decode c.code pc = .ok (.caload, 1)) :
    ∀ t, Steps p.tables e below (T.setTop (mkF m (pc + 1) Ls (v :: rest))) t → Steps p.tables e below (T.setTop (mkF m pc Ls (.int j :: .ref a :: rest))) t := fun t kt => by
  obtain ⟨cl, A, hi, hat, -⟩ := own_open V hj hv
  exact X.caload hx (by rw [eT]; exact A.1) (State.isArrayOf_alike hZ.alike A.2.1) A.2.2 hi hat (g := mkF m pc Ls (.int j :: .ref a :: rest)) rfl rfl hd _ kt
theorem own_castore {a : Addr} {k : ClassId} {n j x : Int32} {vs : List Value} {dv : Value} (X : Stand p l e R s m args below meth c T locs cells slots) (hx : p.tables.exec = Jvm.exec) (hZ : Z.Warmed39 s.vm) (eT : T.heap = h) (V : Arv Z h a k .char n vs dv) (hj : ¬ j < 0 ∧ j < n) (i : Nat) (hi : j.toNatClampNeg = i) (hl : i < vs.length) {pc : Nat} {Ls : Array Slot} {rest : List Value} (hd : decode c.code pc = .ok (.castore, 1)) :
    ∃ T' h', Stand p l e R s m args below meth c T' (locs ++ [⟨a, j.toNatClampNeg⟩]) cells slots ∧ T'.heap = h' ∧ Wr h h' a j.toNatClampNeg (.int (nar .char x)) ∧ Arv Z h' a k .char n (vs.set i (.int (nar .char x))) dv ∧ ∀ t, Steps p.tables e below (T'.setTop (mkF m (pc + 1) Ls rest)) t → Steps p.tables e below (T.setTop (mkF m pc Ls (.int x :: .int j :: .ref a :: rest))) t := by
  obtain ⟨cl, A, q1, S, q, H, G⟩ := V
  obtain ⟨T', h', X', e', W, st⟩ := stC X hx hZ eT A (j := j) (x := x) (inb_of S hj) (g := mkF m pc Ls (.int x :: .int j :: .ref a :: rest)) rfl rfl hd
  exact ⟨T', h', X', e', W, Arv.set A q1 S q H G (fits_nar_char _) W i hi hl, st⟩
theorem own_bastore {a : Addr} {k : ClassId} {n j x : Int32} {vs : List Value} {dv : Value} (X : Stand p l e R s m args below meth c T locs cells slots) (hx : p.tables.exec = Jvm.exec) (hZ : Z.Warmed39 s.vm) (eT : T.heap = h) (V : Arv Z h a k .byte n vs dv) (hj : ¬ j < 0 ∧ j < n) (i : Nat) (hi : j.toNatClampNeg = i) (hl : i < vs.length) {pc : Nat} {Ls : Array Slot} {rest : List Value} (hd : decode c.code pc = .ok (.bastore, 1)) :
    ∃ T' h', Stand p l e R s m args below meth c T' (locs ++ [⟨a, j.toNatClampNeg⟩]) cells slots ∧ T'.heap = h' ∧ Wr h h' a j.toNatClampNeg (.int x.toInt8.toInt32) ∧ Arv Z h' a k .byte n (vs.set i (.int x.toInt8.toInt32)) dv ∧ ∀ t, Steps p.tables e below (T'.setTop (mkF m (pc + 1) Ls rest)) t → Steps p.tables e below (T.setTop (mkF m pc Ls (.int x :: .int j :: .ref a :: rest))) t := by
  obtain ⟨cl, A, q1, S, q, H, G⟩ := V
  obtain ⟨T', h', X', e', W, st⟩ := stB X hx hZ eT A (j := j) (x := x) (inb_of S hj) (g := mkF m pc Ls (.int x :: .int j :: .ref a :: rest)) rfl rfl hd
  exact ⟨T', h', X', e', W, Arv.set A q1 S q H G (fits_nar_byte _) W i hi hl, st⟩
/-- newarray of a primitive kind; the class found by its name is said too -/
theorem own_newP (X : Stand p l e R s m args below meth c T locs cells slots) (hx : p.tables.exec = Jvm.exec) (hZ : Z.Warmed39 s.vm) {aty : ArrayType} {nm : String} (hnm : "[" ++ (newarray.typeOf aty).toString = nm) (w : (Jvm.Cond.arrayClass (newarray.typeOf aty)).before a0 Z = true) (eT : T.heap = h) {pc : Nat} {Ls : Array Slot} (hd : decode c.code pc = .ok (.newarray aty, 2)) {n : Int32} {rest : List Value}
    (hn : ¬ n < 0) {cap : Nat} (hcap : n.toNatClampNeg ≤ cap) (hb : cap * 8 ≤ 536870912) (hc : cells + 1 ≤ R.cells) (hl : slots + cap ≤ R.slots) :
    ∃ T' h' cA, Stand p l e R s m args below meth c T' locs (cells + 1) (slots + cap) ∧ T'.heap = h' ∧ Ext h h' ∧ Arr Z h' h.size (newA cA (newarray.typeOf aty) n) (newarray.typeOf aty) ∧ Exa Z h' h.size nm ∧
      ∀ t, Steps p.tables e below (T'.setTop (mkF m (pc + 2) Ls (.ref h.size :: rest))) t → Steps p.tables e below (T.setTop (mkF m pc Ls (.int n :: rest))) t := by
  have hcb : componentBytes (newarray.typeOf aty) ≤ 8 := by cases aty <;> decide
  obtain ⟨cA, kA, comp, f1, f2, f3, X', st⟩ := X.newarrayPrim hx (mvA hZ w) (g := mkF m pc Ls (.int n :: rest)) rfl hd rfl hn (Nat.le_trans (Nat.mul_le_mul hcap hcb) hb) hc (by omega)
  subst eT hnm
  have fZ : Z.vm.findClass ("[" ++ (newarray.typeOf aty).toString) = some cA := by rw [← hZ.alike.findClass]; exact f1
  obtain ⟨kZ, z1, -⟩ := Vm.findClass_spec fZ
  obtain ⟨k', z2, z3⟩ := hZ.alike.2.2 _ _ z1
  cases f2.symm.trans z2
  have kk : kZ.kind = .array comp (newarray.typeOf aty) := by rw [← f3, z3]
  have at' : (T.heap.push (newA cA (newarray.typeOf aty) n))[T.heap.size]? = some (newA cA (newarray.typeOf aty) n) := by simp
  refine ⟨_, T.heap.push (newA cA (newarray.typeOf aty) n), cA, X'.more (Nat.le_refl _) (by omega), rfl, ⟨by simp, fun a cc q => ?_⟩, ⟨at', ⟨by simp [newA], kZ, z1, comp, kk⟩, by simp [newA]⟩, ⟨_, kZ, at', fZ, z1, rfl, fun q => ?_⟩, st⟩
  · rw [Array.getElem?_push_lt (Array.getElem?_eq_some_iff.mp q).1]; exact (Array.getElem?_eq_getElem _).symm.trans q
  · rw [kk] at q; cases q
end OwnKit
section OwnSteps
variable {p : Program} {l : Launch} {e : Env} {R : Room} {s : State} {m : MethodId} {args : Array Value} {below : List Frame} {meth : Method} {c : Code} {T : State} {locs : List Loc} {cells slots : Nat} {Z : State} {a0 : Array Value} {h0 : Heap}
theorem own_iloadN {K : Outcome → State → Prop} {pc n : Nat} {Ls : Array Slot} {S : List Value} (X : Stand p l e R s m args below meth c T locs cells slots) (hx : p.tables.exec = Jvm.exec) {k : Fin 4} {v : Int32} (hd : decode c.code pc = .ok (.iload_n k, 1)) (hl : Ls[k.val]? = some (.val (.int v))) (hn : pc + 1 = n)
    (h : own_G p e below K T (mkF m n Ls (.int v :: S))) : own_G p e below K T (mkF m pc Ls S) := by
  subst hn
  exact own_go (fun t k => XS.iloadN X.here hx rfl hd hl k) h
theorem own_iload {K : Outcome → State → Prop} {pc n : Nat} {Ls : Array Slot} {S : List Value} (X : Stand p l e R s m args below meth c T locs cells slots) (hx : p.tables.exec = Jvm.exec) {k : Nat} {v : Int32} (hd : decode c.code pc = .ok (.iload k, 2)) (hl : Ls[k]? = some (.val (.int v))) (hn : pc + 2 = n)
    (h : own_G p e below K T (mkF m n Ls (.int v :: S))) : own_G p e below K T (mkF m pc Ls S) := by
  subst hn
  exact own_go (fun t k => XS.iload X.here hx rfl hd hl k) h
theorem own_aloadN {K : Outcome → State → Prop} {pc n : Nat} {Ls : Array Slot} {S : List Value} (X : Stand p l e R s m args below meth c T locs cells slots) (hx : p.tables.exec = Jvm.exec) {k : Fin 4} {v : Value} (hd : decode c.code pc = .ok (.aload_n k, 1)) (hl : Ls[k.val]? = some (.val v)) (hv : v.isRef = true) (hn : pc + 1 = n)
    (h : own_G p e below K T (mkF m n Ls (v :: S))) : own_G p e below K T (mkF m pc Ls S) := by
  subst hn
  exact own_go (fun t k => XS.aloadN X.here hx rfl hd hl hv k) h
theorem own_aload {K : Outcome → State → Prop} {pc n : Nat} {Ls : Array Slot} {S : List Value} (X : Stand p l e R s m args below meth c T locs cells slots) (hx : p.tables.exec = Jvm.exec) {k : Nat} {v : Value} (hd : decode c.code pc = .ok (.aload k, 2)) (hl : Ls[k]? = some (.val v)) (hv : v.isRef = true) (hn : pc + 2 = n)
    (h : own_G p e below K T (mkF m n Ls (v :: S))) : own_G p e below K T (mkF m pc Ls S) := by
  subst hn
  exact own_go (fun t k => XS.aload X.here hx rfl hd hl hv k) h
theorem own_istoreN {K : Outcome → State → Prop} {pc n : Nat} {Ls : Array Slot} {S : List Value} (X : Stand p l e R s m args below meth c T locs cells slots) (hx : p.tables.exec = Jvm.exec) {k : Fin 4} {v : Int32} {l' : Array Slot} (hd : decode c.code pc = .ok (.istore_n k, 1)) (hl : storeLocals Ls k.val (.int v) = some l') (hn : pc + 1 = n)
    (h : own_G p e below K T (mkF m n l' S)) : own_G p e below K T (mkF m pc Ls (.int v :: S)) := by
  subst hn
  exact own_go (fun t k => XS.istoreN X.here hx rfl hd rfl hl k) h
theorem own_istore {K : Outcome → State → Prop} {pc n : Nat} {Ls : Array Slot} {S : List Value} (X : Stand p l e R s m args below meth c T locs cells slots) (hx : p.tables.exec = Jvm.exec) {k : Nat} {v : Int32} {l' : Array Slot} (hd : decode c.code pc = .ok (.istore k, 2)) (hl : storeLocals Ls k (.int v) = some l') (hn : pc + 2 = n)
    (h : own_G p e below K T (mkF m n l' S)) : own_G p e below K T (mkF m pc Ls (.int v :: S)) := by
  subst hn
  exact own_go (fun t k => XS.istore X.here hx rfl hd rfl hl k) h
theorem own_astoreN {K : Outcome → State → Prop} {pc n : Nat} {Ls : Array Slot} {S : List Value} (X : Stand p l e R s m args below meth c T locs cells slots) (hx : p.tables.exec = Jvm.exec) {k : Fin 4} {v : Value} {l' : Array Slot} (hd : decode c.code pc = .ok (.astore_n k, 1)) (hv : v.isRef = true) (hl : storeLocals Ls k.val v = some l') (hn : pc + 1 = n)
    (h : own_G p e below K T (mkF m n l' S)) : own_G p e below K T (mkF m pc Ls (v :: S)) := by
  subst hn
  exact own_go (fun t k => XS.astoreN X.here hx rfl hd rfl hv hl k) h
theorem own_astore {K : Outcome → State → Prop} {pc n : Nat} {Ls : Array Slot} {S : List Value} (X : Stand p l e R s m args below meth c T locs cells slots) (hx : p.tables.exec = Jvm.exec) {k : Nat} {v : Value} {l' : Array Slot} (hd : decode c.code pc = .ok (.astore k, 2)) (hv : v.isRef = true) (hl : storeLocals Ls k v = some l') (hn : pc + 2 = n)
    (h : own_G p e below K T (mkF m n l' S)) : own_G p e below K T (mkF m pc Ls (v :: S)) := by
  subst hn
  exact own_go (fun t k => XS.astore X.here hx rfl hd rfl hv hl k) h
theorem own_iconst {K : Outcome → State → Prop} {pc n : Nat} {Ls : Array Slot} {S : List Value} (X : Stand p l e R s m args below meth c T locs cells slots) (hx : p.tables.exec = Jvm.exec) {i : Int} {z : Int32} (hd : decode c.code pc = .ok (.iconst i, 1)) (hz : Int32.ofInt i = z) (hn : pc + 1 = n)
    (h : own_G p e below K T (mkF m n Ls (.int z :: S))) : own_G p e below K T (mkF m pc Ls S) := by
  subst hz hn
  exact own_go (fun t k => XS.iconst X.here hx rfl hd k) h
theorem own_bipush {K : Outcome → State → Prop} {pc n : Nat} {Ls : Array Slot} {S : List Value} (X : Stand p l e R s m args below meth c T locs cells slots) (hx : p.tables.exec = Jvm.exec) {i : Int} {z : Int32} (hd : decode c.code pc = .ok (.bipush i, 2)) (hz : (Int8.ofInt i).toInt32 = z) (hn : pc + 2 = n)
    (h : own_G p e below K T (mkF m n Ls (.int z :: S))) : own_G p e below K T (mkF m pc Ls S) := by
  subst hz hn
  exact own_go (fun t k => XS.bipush X.here hx rfl hd k) h
theorem own_sipush {K : Outcome → State → Prop} {pc n : Nat} {Ls : Array Slot} {S : List Value} (X : Stand p l e R s m args below meth c T locs cells slots) (hx : p.tables.exec = Jvm.exec) {i : Int} {z : Int32} (hd : decode c.code pc = .ok (.sipush i, 3)) (hz : (Int16.ofInt i).toInt32 = z) (hn : pc + 3 = n)
    (h : own_G p e below K T (mkF m n Ls (.int z :: S))) : own_G p e below K T (mkF m pc Ls S) := by
  subst hz hn
  exact own_go (fun t k => XS.sipush X.here hx rfl hd k) h
theorem own_aconst_null {K : Outcome → State → Prop} {pc n : Nat} {Ls : Array Slot} {S : List Value} (X : Stand p l e R s m args below meth c T locs cells slots) (hx : p.tables.exec = Jvm.exec) (hd : decode c.code pc = .ok (.aconst_null, 1)) (hn : pc + 1 = n)
    (h : own_G p e below K T (mkF m n Ls (.null :: S))) : own_G p e below K T (mkF m pc Ls S) := by
  subst hn
  exact own_go (fun t k => XS.aconstNull X.here hx rfl hd k) h
theorem own_iadd {K : Outcome → State → Prop} {pc n : Nat} {Ls : Array Slot} {S : List Value} (X : Stand p l e R s m args below meth c T locs cells slots) (hx : p.tables.exec = Jvm.exec) {x y z : Int32} (hd : decode c.code pc = .ok (.iadd, 1)) (hz : x + y = z) (hn : pc + 1 = n)
    (h : own_G p e below K T (mkF m n Ls (.int z :: S))) : own_G p e below K T (mkF m pc Ls (.int y :: .int x :: S)) := by
  subst hz hn
  exact own_go (fun t k => XS.iadd X.here hx rfl hd rfl k) h
theorem own_isub {K : Outcome → State → Prop} {pc n : Nat} {Ls : Array Slot} {S : List Value} (X : Stand p l e R s m args below meth c T locs cells slots) (hx : p.tables.exec = Jvm.exec) {x y z : Int32} (hd : decode c.code pc = .ok (.isub, 1)) (hz : x - y = z) (hn : pc + 1 = n)
    (h : own_G p e below K T (mkF m n Ls (.int z :: S))) : own_G p e below K T (mkF m pc Ls (.int y :: .int x :: S)) := by
  subst hz hn
  exact own_go (fun t k => XS.isub X.here hx rfl hd rfl k) h
theorem own_iand {K : Outcome → State → Prop} {pc n : Nat} {Ls : Array Slot} {S : List Value} (X : Stand p l e R s m args below meth c T locs cells slots) (hx : p.tables.exec = Jvm.exec) {x y z : Int32} (hd : decode c.code pc = .ok (.iand, 1)) (hz : x &&& y = z) (hn : pc + 1 = n)
    (h : own_G p e below K T (mkF m n Ls (.int z :: S))) : own_G p e below K T (mkF m pc Ls (.int y :: .int x :: S)) := by
  subst hz hn
  exact own_go (fun t k => XS.iand X.here hx rfl hd rfl k) h
theorem own_i2b {K : Outcome → State → Prop} {pc n : Nat} {Ls : Array Slot} {S : List Value} (X : Stand p l e R s m args below meth c T locs cells slots) (hx : p.tables.exec = Jvm.exec) {x : Int32} {z : Int32} (hd : decode c.code pc = .ok (.i2b, 1)) (hz : x.toInt8.toInt32 = z) (hn : pc + 1 = n)
    (h : own_G p e below K T (mkF m n Ls (.int z :: S))) : own_G p e below K T (mkF m pc Ls (.int x :: S)) := by
  subst hz hn
  exact own_go (fun t k => XS.i2b X.here hx rfl hd rfl k) h
theorem own_i2c {K : Outcome → State → Prop} {pc n : Nat} {Ls : Array Slot} {S : List Value} (X : Stand p l e R s m args below meth c T locs cells slots) (hx : p.tables.exec = Jvm.exec) {x : Int32} {z : Int32} (hd : decode c.code pc = .ok (.i2c, 1)) (hz : x.toUInt32.toUInt16.toUInt32.toInt32 = z) (hn : pc + 1 = n)
    (h : own_G p e below K T (mkF m n Ls (.int z :: S))) : own_G p e below K T (mkF m pc Ls (.int x :: S)) := by
  subst hz hn
  exact own_go (fun t k => XS.i2c X.here hx rfl hd rfl k) h
theorem own_iushr {K : Outcome → State → Prop} {pc n : Nat} {Ls : Array Slot} {S : List Value} (X : Stand p l e R s m args below meth c T locs cells slots) (hx : p.tables.exec = Jvm.exec) {x : Int32} {y : Int32} {z : Int32} (hd : decode c.code pc = .ok (.iushr, 1)) (hz : (x.toUInt32 >>> (y &&& 31).toUInt32).toInt32 = z) (hn : pc + 1 = n)
    (h : own_G p e below K T (mkF m n Ls (.int z :: S))) : own_G p e below K T (mkF m pc Ls (.int y :: .int x :: S)) := by
  subst hz hn
  exact own_go (fun t k => XS.iushr X.here hx rfl hd rfl k) h
theorem own_iinc {K : Outcome → State → Prop} {pc n : Nat} {Ls : Array Slot} {S : List Value} (X : Stand p l e R s m args below meth c T locs cells slots) (hx : p.tables.exec = Jvm.exec) {k : Nat} {cst : Int} {x z : Int32} {l' : Array Slot} (hd : decode c.code pc = .ok (.iinc k cst, 3)) (hl : Ls[k]? = some (.val (.int x))) (hz : x + Int32.ofInt cst = z) (hl' : storeLocals Ls k (.int z) = some l') (hn : pc + 3 = n)
    (h : own_G p e below K T (mkF m n l' S)) : own_G p e below K T (mkF m pc Ls S) := by
  subst hz hn
  exact own_go (fun t k => XS.iinc X.here hx rfl hd hl hl' k) h
theorem own_dup {K : Outcome → State → Prop} {pc n : Nat} {Ls : Array Slot} {S : List Value} (X : Stand p l e R s m args below meth c T locs cells slots) (hx : p.tables.exec = Jvm.exec) {v : Value} (hd : decode c.code pc = .ok (.dup, 1)) (hc : v.category = 1) (hn : pc + 1 = n)
    (h : own_G p e below K T (mkF m n Ls (v :: v :: S))) : own_G p e below K T (mkF m pc Ls (v :: S)) := by
  subst hn
  exact own_go (fun t k => XS.dup X.here hx rfl hd rfl hc k) h
theorem own_goto {K : Outcome → State → Prop} {pc n : Nat} {Ls : Array Slot} {S : List Value} (X : Stand p l e R s m args below meth c T locs cells slots) (hx : p.tables.exec = Jvm.exec) {o : Int} (hd : decode c.code pc = .ok (.goto o, 3)) (ho : 0 ≤ (pc : Int) + o) (hp : ((pc : Int) + o).toNat = n)
    (h : own_G p e below K T (mkF m n Ls S)) : own_G p e below K T (mkF m pc Ls S) := by
  subst hp
  exact own_go (fun t k => XS.goto X.here hx rfl (pc0 := pc) rfl hd ho rfl k) h
theorem own_ifYes {K : Outcome → State → Prop} {pc n : Nat} {Ls : Array Slot} {S : List Value} (X : Stand p l e R s m args below meth c T locs cells slots) (hx : p.tables.exec = Jvm.exec) {cd : ClassFile.Cond} {x : Int32} {o : Int} (hd : decode c.code pc = .ok (.ifCond cd o, 3)) (hc : if_icmp.holds cd x 0 = true) (ho : 0 ≤ (pc : Int) + o) (hp : ((pc : Int) + o).toNat = n)
    (h : own_G p e below K T (mkF m n Ls S)) : own_G p e below K T (mkF m pc Ls (.int x :: S)) := by
  subst hp
  exact own_go (fun t k => XS.ifYes X.here hx rfl (pc0 := pc) rfl hd rfl ((if0 _ _).trans hc) ho rfl k) h
theorem own_ifNo {K : Outcome → State → Prop} {pc n : Nat} {Ls : Array Slot} {S : List Value} (X : Stand p l e R s m args below meth c T locs cells slots) (hx : p.tables.exec = Jvm.exec) {cd : ClassFile.Cond} {x : Int32} {o : Int} (hd : decode c.code pc = .ok (.ifCond cd o, 3)) (hc : if_icmp.holds cd x 0 = false) (hn : pc + 3 = n)
    (h : own_G p e below K T (mkF m n Ls S)) : own_G p e below K T (mkF m pc Ls (.int x :: S)) := by
  subst hn
  exact own_go (fun t k => XS.ifNo X.here hx rfl hd rfl ((if0 _ _).trans hc) k) h
theorem own_icmpYes {K : Outcome → State → Prop} {pc n : Nat} {Ls : Array Slot} {S : List Value} (X : Stand p l e R s m args below meth c T locs cells slots) (hx : p.tables.exec = Jvm.exec) {cd : ClassFile.Cond} {x y : Int32} {o : Int} (hd : decode c.code pc = .ok (.if_icmp cd o, 3)) (hc : if_icmp.holds cd x y = true) (ho : 0 ≤ (pc : Int) + o) (hp : ((pc : Int) + o).toNat = n)
    (h : own_G p e below K T (mkF m n Ls S)) : own_G p e below K T (mkF m pc Ls (.int y :: .int x :: S)) := by
  subst hp
  exact own_go (fun t k => XS.icmpYes X.here hx rfl (pc0 := pc) rfl hd rfl hc ho rfl k) h
theorem own_icmpNo {K : Outcome → State → Prop} {pc n : Nat} {Ls : Array Slot} {S : List Value} (X : Stand p l e R s m args below meth c T locs cells slots) (hx : p.tables.exec = Jvm.exec) {cd : ClassFile.Cond} {x y : Int32} {o : Int} (hd : decode c.code pc = .ok (.if_icmp cd o, 3)) (hc : if_icmp.holds cd x y = false) (hn : pc + 3 = n)
    (h : own_G p e below K T (mkF m n Ls S)) : own_G p e below K T (mkF m pc Ls (.int y :: .int x :: S)) := by
  subst hn
  exact own_go (fun t k => XS.icmpNo X.here hx rfl hd rfl hc k) h
theorem own_ifnullYes {K : Outcome → State → Prop} {pc n : Nat} {Ls : Array Slot} {S : List Value} (X : Stand p l e R s m args below meth c T locs cells slots) (hx : p.tables.exec = Jvm.exec) {o : Int} (hd : decode c.code pc = .ok (.ifnull o, 3)) (ho : 0 ≤ (pc : Int) + o) (hp : ((pc : Int) + o).toNat = n)
    (h : own_G p e below K T (mkF m n Ls S)) : own_G p e below K T (mkF m pc Ls (.null :: S)) := by
  subst hp
  exact own_go (fun t k => XS.ifnullYes X.here hx rfl (pc0 := pc) rfl hd rfl ho rfl k) h
theorem own_ifnullNo {K : Outcome → State → Prop} {pc n : Nat} {Ls : Array Slot} {S : List Value} (X : Stand p l e R s m args below meth c T locs cells slots) (hx : p.tables.exec = Jvm.exec) {a : Addr} {o : Int} (hd : decode c.code pc = .ok (.ifnull o, 3)) (hn : pc + 3 = n)
    (h : own_G p e below K T (mkF m n Ls S)) : own_G p e below K T (mkF m pc Ls ((.ref a) :: S)) := by
  subst hn
  exact own_go (fun t k => XS.ifnullNo X.here hx rfl hd rfl k) h
theorem own_ifnonnullYes {K : Outcome → State → Prop} {pc n : Nat} {Ls : Array Slot} {S : List Value} (X : Stand p l e R s m args below meth c T locs cells slots) (hx : p.tables.exec = Jvm.exec) {a : Addr} {o : Int} (hd : decode c.code pc = .ok (.ifnonnull o, 3)) (ho : 0 ≤ (pc : Int) + o) (hp : ((pc : Int) + o).toNat = n)
    (h : own_G p e below K T (mkF m n Ls S)) : own_G p e below K T (mkF m pc Ls ((.ref a) :: S)) := by
  subst hp
  exact own_go (fun t k => XS.ifnonnullYes X.here hx rfl (pc0 := pc) rfl hd rfl ho rfl k) h
theorem own_ifnonnullNo {K : Outcome → State → Prop} {pc n : Nat} {Ls : Array Slot} {S : List Value} (X : Stand p l e R s m args below meth c T locs cells slots) (hx : p.tables.exec = Jvm.exec) {o : Int} (hd : decode c.code pc = .ok (.ifnonnull o, 3)) (hn : pc + 3 = n)
    (h : own_G p e below K T (mkF m n Ls S)) : own_G p e below K T (mkF m pc Ls (.null :: S)) := by
  subst hn
  exact own_go (fun t k => XS.ifnonnullNo X.here hx rfl hd rfl k) h
theorem own_getF {K : Outcome → State → Prop} {pc n : Nat} {Ls : Array Slot} {S : List Value} {h : Heap} (X : Stand p l e R s m args below meth c T locs cells slots) (hx : p.tables.exec = Jvm.exec) (hZ : Z.Warmed39 s.vm) {own R0 O nm d host : String} {index : Nat} (hown : s.vm.findClass own = some m.cls) (w : (Jvm.Cond.fieldLink own index R0 nm d).before a0 Z = true ∨ (Jvm.Cond.fieldLinkNest own index R0 nm d host).before a0 Z = true) (via : Via Z R0 O nm d) (eT : T.heap = h) {a : Addr} {v : Value} (F : Fld Z h a O nm d v) (hd : decode c.code pc = .ok (.getfield index, 3)) (hn : pc + 3 = n)
    (kk : ∀ T' : State, Stand p l e R s m args below meth c T' locs cells slots → T'.heap = h → own_G p e below K T' (mkF m n Ls (v :: S))) : own_G p e below K T (mkF m pc Ls (.ref a :: S)) := by
  subst hn
  obtain ⟨T', X', e', st⟩ := Jvm.RoadKit.getF X hx hZ hown w via eT F (g := mkF m pc Ls (.ref a :: S)) rfl rfl hd
  exact own_go st (kk T' X' e')
theorem own_getS {K : Outcome → State → Prop} {pc n : Nat} {Ls : Array Slot} {S : List Value} {h : Heap} (X : Stand p l e R s m args below meth c T locs cells slots) (hx : p.tables.exec = Jvm.exec) (hZ : Z.Warmed39 s.vm) {own R0 O nm d host : String} {index : Nat} (hown : s.vm.findClass own = some m.cls) (w : (Jvm.Cond.fieldLink own index R0 nm d).before a0 Z = true ∨ (Jvm.Cond.fieldLinkNest own index R0 nm d host).before a0 Z = true) (via : Via Z R0 O nm d) (eT : T.heap = h) {v : Value} (F : Sta Z h O nm d v) (hd : decode c.code pc = .ok (.getstatic index, 3)) (hn : pc + 3 = n)
    (kk : ∀ T' : State, Stand p l e R s m args below meth c T' locs cells slots → T'.heap = h → own_G p e below K T' (mkF m n Ls (v :: S))) : own_G p e below K T (mkF m pc Ls S) := by
  subst hn
  obtain ⟨T', X', e', st⟩ := getS2 X hx hZ hown w via eT F (g := mkF m pc Ls S) rfl hd
  exact own_go st (kk T' X' e')
theorem own_putF {K : Outcome → State → Prop} {pc n : Nat} {Ls : Array Slot} {S : List Value} {h : Heap} (X : Stand p l e R s m args below meth c T locs cells slots) (hx : p.tables.exec = Jvm.exec) (hZ : Z.Warmed39 s.vm) {own R0 O nm d host C : String} {index kk' : Nat} {ty : FieldType} (hown : s.vm.findClass own = some m.cls) (w : (Jvm.Cond.fieldLink own index R0 nm d).before a0 Z = true ∨ (Jvm.Cond.fieldLinkNest own index R0 nm d host).before a0 Z = true) (via : Via Z R0 O nm d) (eT : T.heap = h) {a : Addr} {v old : Value} (F : Fld Z h a O nm d old) (E : Exa Z h a C) (L : (Jvm.Cond.lays C O nm d).before a0 Z = true ∨ ((Jvm.Cond.laysFinal C O nm d).before a0 Z = true ∧ own = O ∧ meth.name = "<init>")) (wi : (Jvm.Cond.instantiable C kk').before a0 Z = true) (hty : parseFieldDescriptor d = some ty) (hnr : narrow ty v = v) (hf : fits ty v = true) (hd : decode c.code pc = .ok (.putfield index, 3)) (hn : pc + 3 = n)
    (kk : ∀ (T' : State) (h' : Heap), Stand p l e R s m args below meth c T' (locs ++ [⟨a, Jvm.RoadKit.slotOf Z O nm d⟩]) cells slots → T'.heap = h' → Wr h h' a (Jvm.RoadKit.slotOf Z O nm d) v → own_G p e below K T' (mkF m n Ls S)) : own_G p e below K T (mkF m pc Ls (v :: .ref a :: S)) := by
  subst hn
  obtain ⟨T', h', X', e', W, st⟩ := Jvm.RoadKit.putF X hx hZ hown w via eT F E L wi hty hnr hf (g := mkF m pc Ls (v :: .ref a :: S)) rfl rfl hd
  exact own_go st (kk T' h' X' e' W)
theorem own_putFN {K : Outcome → State → Prop} {pc n : Nat} {Ls : Array Slot} {S : List Value} {h : Heap} (X : Stand p l e R s m args below meth c T locs cells slots) (hx : p.tables.exec = Jvm.exec) (hZ : Z.Warmed39 s.vm) {own R0 O nm d C : String} {index kk' : Nat} {ty : FieldType} (hown : s.vm.findClass own = some m.cls) (w : (Jvm.Cond.fieldLink own index R0 nm d).before a0 Z = true) (via : Via Z R0 O nm d) (eT : T.heap = h) {a : Addr} {v v' old : Value} (F : Fld Z h a O nm d old) (E : Exa Z h a C) (L : (Jvm.Cond.lays C O nm d).before a0 Z = true ∨ ((Jvm.Cond.laysFinal C O nm d).before a0 Z = true ∧ own = O ∧ meth.name = "<init>")) (wi : (Jvm.Cond.instantiable C kk').before a0 Z = true) (hty : parseFieldDescriptor d = some ty) (hnr : narrow ty v = v') (hf : fits ty v' = true) (hd : decode c.code pc = .ok (.putfield index, 3)) (hn : pc + 3 = n)
    (kk : ∀ (T' : State) (h' : Heap), Stand p l e R s m args below meth c T' (locs ++ [⟨a, Jvm.RoadKit.slotOf Z O nm d⟩]) cells slots → T'.heap = h' → Wr h h' a (Jvm.RoadKit.slotOf Z O nm d) v' → own_G p e below K T' (mkF m n Ls S)) : own_G p e below K T (mkF m pc Ls (v :: .ref a :: S)) := by
  subst hn
  obtain ⟨T', h', X', e', W, st⟩ := Jvm.RoadKit.putFN X hx hZ hown w via eT F E L wi hty hnr hf (g := mkF m pc Ls (v :: .ref a :: S)) rfl rfl hd
  exact own_go st (kk T' h' X' e' W)
theorem own_new {K : Outcome → State → Prop} {pc n : Nat} {Ls : Array Slot} {S : List Value} {h : Heap} (X : Stand p l e R s m args below meth c T locs cells slots) (hx : p.tables.exec = Jvm.exec) (hZ : Z.Warmed39 s.vm) {own C : String} {index k : Nat} (hown : s.vm.findClass own = some m.cls) (w : (Jvm.Cond.classLink own index C).before a0 Z = true) (wi : (Jvm.Cond.instantiable C k).before a0 Z = true) (wz : (Jvm.Cond.initialized C).before a0 Z = true) (eT : T.heap = h) (hd : decode c.code pc = .ok (.new index, 3)) (hc : cells + 1 ≤ R.cells) (hl : slots + k ≤ R.slots) (hn : pc + 3 = n)
    (kk : ∀ (T' : State) (h' : Heap) (b : Addr), b = h.size → Stand p l e R s m args below meth c T' locs (cells + 1) (slots + k) → T'.heap = h' → Ext h h' → Exa Z h' b C → (∀ {O nm d : String} {ty : FieldType}, Laid Z a0 C O nm d → parseFieldDescriptor d = some ty → Fld Z h' b O nm d (defaultValue ty)) → own_G p e below K T' (mkF m n Ls (.ref b :: S))) : own_G p e below K T (mkF m pc Ls S) := by
  subst hn
  obtain ⟨T', h', X', e', E, A, D, -, st⟩ := newO X hx hZ hown w wi wz eT (g := mkF m pc Ls S) rfl hd hc hl
  exact own_go st (kk T' h' _ rfl X' e' E A D)
theorem own_newA {K : Outcome → State → Prop} {pc n : Nat} {Ls : Array Slot} {S : List Value} {h : Heap} (X : Stand p l e R s m args below meth c T locs cells slots) (hx : p.tables.exec = Jvm.exec) (hZ : Z.Warmed39 s.vm) {aty : ArrayType} {nm : String} (hnm : "[" ++ (newarray.typeOf aty).toString = nm) (w : (Jvm.Cond.arrayClass (newarray.typeOf aty)).before a0 Z = true) (eT : T.heap = h) (hd : decode c.code pc = .ok (.newarray aty, 2)) {k : Int32} (hk : ¬ k < 0) {cap : Nat} (hcap : k.toNatClampNeg ≤ cap) (hb : cap * 8 ≤ 536870912) (hc : cells + 1 ≤ R.cells) (hl : slots + cap ≤ R.slots) (hn : pc + 2 = n)
    (kk : ∀ (T' : State) (h' : Heap) (cA : ClassId) (b : Addr), b = h.size → Stand p l e R s m args below meth c T' locs (cells + 1) (slots + cap) → T'.heap = h' → Ext h h' → Arr Z h' b (newA cA (newarray.typeOf aty) k) (newarray.typeOf aty) → Exa Z h' b nm → own_G p e below K T' (mkF m n Ls (.ref b :: S))) : own_G p e below K T (mkF m pc Ls (.int k :: S)) := by
  subst hn
  obtain ⟨T', h', cA, X', e', E, A, B, st⟩ := own_newP X hx hZ hnm w eT (pc := pc) (Ls := Ls) (rest := S) hd hk hcap hb hc hl
  exact own_go st (kk T' h' cA _ rfl X' e' E A B)
theorem own_st_castore {K : Outcome → State → Prop} {pc n : Nat} {Ls : Array Slot} {S : List Value} {h : Heap} (X : Stand p l e R s m args below meth c T locs cells slots) (hx : p.tables.exec = Jvm.exec) (hZ : Z.Warmed39 s.vm) {a : Addr} {k : ClassId} {z j : Int32} {x : Int32} {vs : List Value} {dv : Value} (eT : T.heap = h) (V : Arv Z h a k .char z vs dv) (hj : ¬ j < 0 ∧ j < z) (i : Nat) (hi : j.toNatClampNeg = i) (hl : i < vs.length) (hd : decode c.code pc = .ok (.castore, 1)) (hn : pc + 1 = n)
    (kk : ∀ (T' : State) (h' : Heap), Stand p l e R s m args below meth c T' (locs ++ [⟨a, j.toNatClampNeg⟩]) cells slots → T'.heap = h' → Wr h h' a j.toNatClampNeg (.int (nar .char x)) → Arv Z h' a k .char z (vs.set i (.int (nar .char x))) dv → own_G p e below K T' (mkF m n Ls S)) : own_G p e below K T (mkF m pc Ls (.int x :: .int j :: .ref a :: S)) := by
  subst hn
  obtain ⟨T', h', X', e', W, V', st⟩ := own_castore X hx hZ eT V hj i hi hl (pc := pc) (Ls := Ls) (rest := S) hd
  exact own_go st (kk T' h' X' e' W V')
theorem own_st_bastore {K : Outcome → State → Prop} {pc n : Nat} {Ls : Array Slot} {S : List Value} {h : Heap} (X : Stand p l e R s m args below meth c T locs cells slots) (hx : p.tables.exec = Jvm.exec) (hZ : Z.Warmed39 s.vm) {a : Addr} {k : ClassId} {z j : Int32} {x : Int32} {vs : List Value} {dv : Value} (eT : T.heap = h) (V : Arv Z h a k .byte z vs dv) (hj : ¬ j < 0 ∧ j < z) (i : Nat) (hi : j.toNatClampNeg = i) (hl : i < vs.length) (hd : decode c.code pc = .ok (.bastore, 1)) (hn : pc + 1 = n)
    (kk : ∀ (T' : State) (h' : Heap), Stand p l e R s m args below meth c T' (locs ++ [⟨a, j.toNatClampNeg⟩]) cells slots → T'.heap = h' → Wr h h' a j.toNatClampNeg (.int x.toInt8.toInt32) → Arv Z h' a k .byte z (vs.set i (.int x.toInt8.toInt32)) dv → own_G p e below K T' (mkF m n Ls S)) : own_G p e below K T (mkF m pc Ls (.int x :: .int j :: .ref a :: S)) := by
  subst hn
  obtain ⟨T', h', X', e', W, V', st⟩ := own_bastore X hx hZ eT V hj i hi hl (pc := pc) (Ls := Ls) (rest := S) hd
  exact own_go st (kk T' h' X' e' W V')
theorem own_ld_caload {K : Outcome → State → Prop} {pc n : Nat} {Ls : Array Slot} {S : List Value} {h : Heap} (X : Stand p l e R s m args below meth c T locs cells slots) (hx : p.tables.exec = Jvm.exec) (hZ : Z.Warmed39 s.vm) {a : Addr} {k : ClassId} {z j : Int32} {vs : List Value} {dv v : Value} (eT : T.heap = h) (V : Arv Z h a k .char z vs dv) (hj : ¬ j < 0 ∧ j < z) (hv : vs.getD j.toNatClampNeg dv = v) (hd : decode c.code pc = .ok (.caload, 1)) (hn : pc + 1 = n) (kk : own_G p e below K T (mkF m n Ls (v :: S))) : own_G p e below K T (mkF m pc Ls (.int j :: .ref a :: S)) := by
  subst hn
  exact own_go (own_caload X hx hZ eT V hj hv hd) kk
theorem own_len {K : Outcome → State → Prop} {pc n : Nat} {Ls : Array Slot} {S : List Value} {h : Heap} (X : Stand p l e R s m args below meth c T locs cells slots) (hx : p.tables.exec = Jvm.exec) (hZ : Z.Warmed39 s.vm) {a : Addr} {k : ClassId} {ty : FieldType} {z : Int32} {vs : List Value} {dv : Value} (eT : T.heap = h) (V : Arv Z h a k ty z vs dv) (hd : decode c.code pc = .ok (.arraylength, 1)) (hn : pc + 1 = n) (kk : own_G p e below K T (mkF m n Ls (.int z :: S))) : own_G p e below K T (mkF m pc Ls (.ref a :: S)) := by
  subst hn
  exact own_go (own_alen X hx hZ eT V hd) kk
theorem own_initO {K : Outcome → State → Prop} {pc n : Nat} {Ls : Array Slot} {S : List Value} {h : Heap} (X : Stand p l e R s m args below meth c T locs cells slots) (hx : p.tables.exec = Jvm.exec) (hZ : Z.Warmed39 s.vm) {own : String} {index : Nat} (hown : s.vm.findClass own = some m.cls) (w1 : (Jvm.Cond.methodLink own index Lib.objectInit).before a0 Z = true) (w2 : (Jvm.Cond.instanceMethod Lib.objectInit).before a0 Z = true) (w3 : (Jvm.Cond.code Lib.objectInit ⟨#[0xb1]⟩ 1 none).before a0 Z = true) (eT : T.heap = h) (hsz : Ls.size = c.maxLocals) {a : Addr} (hd : decode c.code pc = .ok (.invokespecial index, 3)) (hf : 1 ≤ R.frames) (hl : (S.map fun v => v.category).sum + 12 ≤ R.locals) (hn : pc + 3 = n)
    (kk : ∀ T' : State, Stand p l e R s m args below meth c T' locs cells slots → T'.heap = h → own_G p e below K T' (mkF m n Ls (S))) : own_G p e below K T (mkF m pc Ls (.ref a :: S)) := by
  subst hn
  obtain ⟨T', X', e', st⟩ := Jvm.RoadKit.initO X hx hZ hown w1 w2 w3 eT (g := mkF m pc Ls (.ref a :: S)) rfl hsz rfl hd hf (W := (S.map fun v => v.category).sum) (by show 2 * 0 + _ ≤ _; exact Nat.le_of_eq (Nat.zero_add _)) hl
  exact own_go st (kk T' X' e')
theorem own_S {K : Outcome → State → Prop} {pc n : Nat} {Ls : Array Slot} {h : Heap} {own : String} {index maxL : Nat} {y : MethodName} {bytes : ByteArray} {rm : Room} {Q : Option Value → Heap → List Loc → Prop} {argsL rest stk : List Value} {ret : Option FieldType} (X : Stand p l e R s m args below meth c T locs cells slots) (hx : p.tables.exec = Jvm.exec) (hZ : Z.Warmed39 s.vm) (hown : s.vm.findClass own = some m.cls) (hM : own_Met l Z y bytes maxL ret [] rm argsL.toArray h Q) (w1 : (Jvm.Cond.methodLink own index y).before a0 Z = true) (w2 : (Jvm.Cond.static y).before a0 Z = true) (w3 : (Jvm.Cond.initialized y.cls).before a0 Z = true) (w4 : (Jvm.Cond.code y bytes maxL ret).before a0 Z = true) (hy : y.cls ≠ "java/lang/invoke/MethodHandle" ∧ y.cls ≠ "java/lang/invoke/VarHandle") (eT : T.heap = h) (hsz : Ls.size = c.maxLocals) (hlen : ∀ sig, parseMethodDescriptor y.desc = some sig → argsL.length = sig.parameters.length) (hstk : stk = argsL.reverse ++ rest) (hd : decode c.code pc = .ok (.invokestatic index, 3)) (hf : rm.frames + 1 ≤ R.frames) (hl : (rest.map fun v => v.category).sum + (maxL + 11) + rm.locals ≤ R.locals) (hc : cells + rm.cells ≤ R.cells) (hs : slots + rm.slots ≤ R.slots) (hn : pc + 3 = n)
    (kk : ∀ (v : Option Value) (T' : State) (L : List Loc), Stand p l e R s m args below meth c T' (locs ++ L) (cells + rm.cells) (slots + rm.slots) → Q v T'.heap L → own_G p e below K T' (mkF m n Ls (v.toList ++ rest))) : own_G p e below K T (mkF m pc Ls stk) := by
  subst hn
  obtain ⟨v, T', L, X', hQ, st⟩ := own_callS X hx hZ hown hM w1 w2 w3 w4 hy eT hsz hlen hstk hd hf hl hc hs
  exact own_go st (kk v T' L X' hQ)
theorem own_I {K : Outcome → State → Prop} {pc n : Nat} {Ls : Array Slot} {h : Heap} {own : String} {index maxL : Nat} {y : MethodName} {bytes : ByteArray} {rm : Room} {Q : Option Value → Heap → List Loc → Prop} {argsL rest stk : List Value} {a : Addr} (hy1 : y.name = "<init>") (X : Stand p l e R s m args below meth c T locs cells slots) (hx : p.tables.exec = Jvm.exec) (hZ : Z.Warmed39 s.vm) (hown : s.vm.findClass own = some m.cls) (hM : own_Met l Z y bytes maxL none [] rm (.ref a :: argsL).toArray h Q) (w1 : (Jvm.Cond.methodLink own index y).before a0 Z = true) (w2 : (Jvm.Cond.instanceMethod y).before a0 Z = true) (w3 : (Jvm.Cond.initialized y.cls).before a0 Z = true) (w4 : (Jvm.Cond.code y bytes maxL none).before a0 Z = true) (hy : y.cls ≠ "java/lang/invoke/MethodHandle" ∧ y.cls ≠ "java/lang/invoke/VarHandle") (eT : T.heap = h) (hsz : Ls.size = c.maxLocals) (hlen : ∀ sig, parseMethodDescriptor y.desc = some sig → argsL.length = sig.parameters.length) (hstk : stk = argsL.reverse ++ .ref a :: rest) (hd : decode c.code pc = .ok (.invokespecial index, 3)) (hf : rm.frames + 1 ≤ R.frames) (hl : (rest.map fun v => v.category).sum + (maxL + 11) + rm.locals ≤ R.locals) (hc : cells + rm.cells ≤ R.cells) (hs : slots + rm.slots ≤ R.slots) (hn : pc + 3 = n)
    (kk : ∀ (v : Option Value) (T' : State) (L : List Loc), Stand p l e R s m args below meth c T' (locs ++ L) (cells + rm.cells) (slots + rm.slots) → Q v T'.heap L → own_G p e below K T' (mkF m n Ls (v.toList ++ rest))) : own_G p e below K T (mkF m pc Ls stk) := by
  subst hn
  obtain ⟨v, T', L, X', hQ, st⟩ := own_callI hy1 X hx hZ hown hM w1 w2 w3 w4 hy eT hsz hlen hstk hd hf hl hc hs
  exact own_go st (kk v T' L X' hQ)
theorem own_V {K : Outcome → State → Prop} {pc n : Nat} {Ls : Array Slot} {h : Heap} {own : String} {index maxL : Nat} {y : MethodName} {bytes : ByteArray} {rm : Room} {Q : Option Value → Heap → List Loc → Prop} {argsL rest stk : List Value} {ret : Option FieldType} {C : String} {z : MethodName} {a : Addr} (X : Stand p l e R s m args below meth c T locs cells slots) (hx : p.tables.exec = Jvm.exec) (hZ : Z.Warmed39 s.vm) (hown : s.vm.findClass own = some m.cls) (hM : own_Met l Z z bytes maxL ret [] rm (.ref a :: argsL).toArray h Q) (w1 : (Jvm.Cond.methodLink own index y).before a0 Z = true) (w2 : (Jvm.Cond.declares y).before a0 Z = true) (nf : NotFace s y) (w5 : (Jvm.Cond.selects C y z).before a0 Z = true) (w6 : (Jvm.Cond.instanceMethod z).before a0 Z = true) (w3 : (Jvm.Cond.initialized z.cls).before a0 Z = true) (w4 : (Jvm.Cond.code z bytes maxL ret).before a0 Z = true) (hy : y.cls ≠ "java/lang/invoke/MethodHandle" ∧ y.cls ≠ "java/lang/invoke/VarHandle") (eT : T.heap = h) (E : Exa Z h a C) (hsz : Ls.size = c.maxLocals) (hlen : ∀ sig, parseMethodDescriptor y.desc = some sig → argsL.length = sig.parameters.length) (hstk : stk = argsL.reverse ++ .ref a :: rest) (hd : decode c.code pc = .ok (.invokevirtual index, 3)) (hf : rm.frames + 1 ≤ R.frames) (hl : (rest.map fun v => v.category).sum + (maxL + 11) + rm.locals ≤ R.locals) (hc : cells + rm.cells ≤ R.cells) (hs : slots + rm.slots ≤ R.slots) (hn : pc + 3 = n)
    (kk : ∀ (v : Option Value) (T' : State) (L : List Loc), Stand p l e R s m args below meth c T' (locs ++ L) (cells + rm.cells) (slots + rm.slots) → Q v T'.heap L → own_G p e below K T' (mkF m n Ls (v.toList ++ rest))) : own_G p e below K T (mkF m pc Ls stk) := by
  subst hn
  obtain ⟨v, T', L, X', hQ, st⟩ := own_callV X hx hZ hown hM w1 w2 nf w5 w6 w3 w4 hy eT E hsz hlen hstk hd hf hl hc hs
  exact own_go st (kk v T' L X' hQ)
end OwnSteps

theorem own_an_int : "[" ++ (newarray.typeOf .int).toString = "[I" := by decide +kernel
theorem own_an_long : "[" ++ (newarray.typeOf .long).toString = "[J" := by decide +kernel
theorem own_an_byte : "[" ++ (newarray.typeOf .byte).toString = "[B" := by decide +kernel
theorem own_an_char : "[" ++ (newarray.typeOf .char).toString = "[C" := by decide +kernel
theorem own_an_J : (FieldType.array .long).toString = "[J" := by decide +kernel
theorem own_an_JJ : "[" ++ "[J" = "[[J" := by decide +kernel
theorem own_ne {b z : Addr} {h : Heap} (hb : b < h.size) (g : z = h.size) : b ≠ z := Nat.ne_of_lt (Nat.lt_of_lt_of_le hb (Nat.le_of_eq g.symm))
theorem own_neEA {Z : State} {h : Heap} {a b : Addr} {C : String} {a0 : Array Value} {kk : Nat} {k : ClassId} {ty : FieldType} {n : Int32} {vs : List Value} {dv : Value} (E : Exa Z h a C) (w : (Jvm.Cond.instantiable C kk).before a0 Z = true) (V : Arv Z h b k ty n vs dv) : a ≠ b := by
  obtain ⟨c, A, -⟩ := V
  exact ne_arr E w A
theorem ww0 {Z : State} {a0 : Array Value} (hw : ∀ d ∈ tables_1, d.before a0 Z = true) : (Jvm.Cond.methodLink "com/example/xml_stream_transform/xmlstreamtransform/stxpath/NameTestDefaultPriorityPinLaw" (45 : Nat) ({ cls := "com/example/xml_stream_transform/xmlstreamtransform/stxpath/NameTestDefaultPriorityPinLaw", name := "name", desc := "(II)Ljava/lang/String;" } : Jvm.MethodName)).before a0 Z = true := hw _ (List.mem_of_getElem? (i := 0) rfl)
theorem ww1 {Z : State} {a0 : Array Value} (hw : ∀ d ∈ tables_1, d.before a0 Z = true) : (Jvm.Cond.static ({ cls := "com/example/xml_stream_transform/xmlstreamtransform/stxpath/NameTestDefaultPriorityPinLaw", name := "name", desc := "(II)Ljava/lang/String;" } : Jvm.MethodName)).before a0 Z = true := hw _ (List.mem_of_getElem? (i := 1) rfl)
theorem ww2 {Z : State} {a0 : Array Value} (hw : ∀ d ∈ tables_1, d.before a0 Z = true) : (Jvm.Cond.initialized "com/example/xml_stream_transform/xmlstreamtransform/stxpath/NameTestDefaultPriorityPinLaw").before a0 Z = true := hw _ (List.mem_of_getElem? (i := 2) rfl)
theorem ww3 {Z : State} {a0 : Array Value} (hw : ∀ d ∈ tables_1, d.before a0 Z = true) : (Jvm.Cond.code ({ cls := "com/example/xml_stream_transform/xmlstreamtransform/stxpath/NameTestDefaultPriorityPinLaw", name := "name", desc := "(II)Ljava/lang/String;" } : Jvm.MethodName) method_3_code (4 : Nat) (Option.some (Jvm.ClassFile.FieldType.object "java/lang/String"))).before a0 Z = true := hw _ (List.mem_of_getElem? (i := 3) rfl)
theorem ww4 {Z : State} {a0 : Array Value} (hw : ∀ d ∈ tables_1, d.before a0 Z = true) : (Jvm.Cond.arrayClass Jvm.ClassFile.FieldType.char).before a0 Z = true := hw _ (List.mem_of_getElem? (i := 4) rfl)
theorem ww5 {Z : State} {a0 : Array Value} (hw : ∀ d ∈ tables_1, d.before a0 Z = true) : (Jvm.Cond.classLink "com/example/xml_stream_transform/xmlstreamtransform/stxpath/NameTestDefaultPriorityPinLaw" (37 : Nat) "java/lang/String").before a0 Z = true := hw _ (List.mem_of_getElem? (i := 5) rfl)
theorem ww6 {Z : State} {a0 : Array Value} (hw : ∀ d ∈ tables_1, d.before a0 Z = true) : (Jvm.Cond.instantiable "java/lang/String" (4 : Nat)).before a0 Z = true := hw _ (List.mem_of_getElem? (i := 6) rfl)
theorem ww7 {Z : State} {a0 : Array Value} (hw : ∀ d ∈ tables_1, d.before a0 Z = true) : (Jvm.Cond.initialized "java/lang/String").before a0 Z = true := hw _ (List.mem_of_getElem? (i := 7) rfl)
theorem ww8 {Z : State} {a0 : Array Value} (hw : ∀ d ∈ tables_1, d.before a0 Z = true) : (Jvm.Cond.methodLink "com/example/xml_stream_transform/xmlstreamtransform/stxpath/NameTestDefaultPriorityPinLaw" (42 : Nat) ({ cls := "java/lang/String", name := "<init>", desc := "([C)V" } : Jvm.MethodName)).before a0 Z = true := hw _ (List.mem_of_getElem? (i := 8) rfl)
theorem ww9 {Z : State} {a0 : Array Value} (hw : ∀ d ∈ tables_1, d.before a0 Z = true) : (Jvm.Cond.instanceMethod ({ cls := "java/lang/String", name := "<init>", desc := "([C)V" } : Jvm.MethodName)).before a0 Z = true := hw _ (List.mem_of_getElem? (i := 9) rfl)
theorem ww10 {Z : State} {a0 : Array Value} (hw : ∀ d ∈ tables_1, d.before a0 Z = true) : (Jvm.Cond.code ({ cls := "java/lang/String", name := "<init>", desc := "([C)V" } : Jvm.MethodName) jdk_42_method_3_code (2 : Nat) (Option.none : Option Jvm.ClassFile.FieldType)).before a0 Z = true := hw _ (List.mem_of_getElem? (i := 10) rfl)
theorem ww11 {Z : State} {a0 : Array Value} (hw : ∀ d ∈ tables_1, d.before a0 Z = true) : (Jvm.Cond.methodLink "java/lang/String" (27 : Nat) ({ cls := "java/lang/String", name := "<init>", desc := "([CIILjava/lang/Void;)V" } : Jvm.MethodName)).before a0 Z = true := hw _ (List.mem_of_getElem? (i := 11) rfl)
theorem ww12 {Z : State} {a0 : Array Value} (hw : ∀ d ∈ tables_1, d.before a0 Z = true) : (Jvm.Cond.instanceMethod ({ cls := "java/lang/String", name := "<init>", desc := "([CIILjava/lang/Void;)V" } : Jvm.MethodName)).before a0 Z = true := hw _ (List.mem_of_getElem? (i := 12) rfl)
theorem ww14 {Z : State} {a0 : Array Value} (hw : ∀ d ∈ tables_1, d.before a0 Z = true) : (Jvm.Cond.code ({ cls := "java/lang/String", name := "<init>", desc := "([CIILjava/lang/Void;)V" } : Jvm.MethodName) jdk_42_method_149_code (6 : Nat) (Option.none : Option Jvm.ClassFile.FieldType)).before a0 Z = true := hw _ (List.mem_of_getElem? (i := 14) rfl)
theorem ww15 {Z : State} {a0 : Array Value} (hw : ∀ d ∈ tables_1, d.before a0 Z = true) : (Jvm.Cond.methodLink "java/lang/String" (1 : Nat) ({ cls := "java/lang/Object", name := "<init>", desc := "()V" } : Jvm.MethodName)).before a0 Z = true := hw _ (List.mem_of_getElem? (i := 15) rfl)
theorem ww16 {Z : State} {a0 : Array Value} (hw : ∀ d ∈ tables_1, d.before a0 Z = true) : (Jvm.Cond.instanceMethod ({ cls := "java/lang/Object", name := "<init>", desc := "()V" } : Jvm.MethodName)).before a0 Z = true := hw _ (List.mem_of_getElem? (i := 16) rfl)
theorem ww17 {Z : State} {a0 : Array Value} (hw : ∀ d ∈ tables_1, d.before a0 Z = true) : (Jvm.Cond.code ({ cls := "java/lang/Object", name := "<init>", desc := "()V" } : Jvm.MethodName) object_method_1_code (1 : Nat) (Option.none : Option Jvm.ClassFile.FieldType)).before a0 Z = true := hw _ (List.mem_of_getElem? (i := 17) rfl)
theorem ww18 {Z : State} {a0 : Array Value} (hw : ∀ d ∈ tables_1, d.before a0 Z = true) : (Jvm.Cond.fieldLink "java/lang/String" (38 : Nat) "java/lang/String" "COMPACT_STRINGS" "Z").before a0 Z = true := hw _ (List.mem_of_getElem? (i := 18) rfl)
theorem ww19 {Z : State} {a0 : Array Value} (hw : ∀ d ∈ tables_1, d.before a0 Z = true) : (Jvm.Cond.methodLink "java/lang/String" (177 : Nat) ({ cls := "java/lang/StringUTF16", name := "compress", desc := "([CII)[B" } : Jvm.MethodName)).before a0 Z = true := hw _ (List.mem_of_getElem? (i := 19) rfl)
theorem ww20 {Z : State} {a0 : Array Value} (hw : ∀ d ∈ tables_1, d.before a0 Z = true) : (Jvm.Cond.static ({ cls := "java/lang/StringUTF16", name := "compress", desc := "([CII)[B" } : Jvm.MethodName)).before a0 Z = true := hw _ (List.mem_of_getElem? (i := 20) rfl)
theorem ww21 {Z : State} {a0 : Array Value} (hw : ∀ d ∈ tables_1, d.before a0 Z = true) : (Jvm.Cond.initialized "java/lang/StringUTF16").before a0 Z = true := hw _ (List.mem_of_getElem? (i := 21) rfl)
theorem ww22 {Z : State} {a0 : Array Value} (hw : ∀ d ∈ tables_1, d.before a0 Z = true) : (Jvm.Cond.code ({ cls := "java/lang/StringUTF16", name := "compress", desc := "([CII)[B" } : Jvm.MethodName) jdk_52_method_16_code (6 : Nat) (Option.some (Jvm.ClassFile.FieldType.array Jvm.ClassFile.FieldType.byte))).before a0 Z = true := hw _ (List.mem_of_getElem? (i := 22) rfl)
theorem ww23 {Z : State} {a0 : Array Value} (hw : ∀ d ∈ tables_1, d.before a0 Z = true) : (Jvm.Cond.arrayClass Jvm.ClassFile.FieldType.byte).before a0 Z = true := hw _ (List.mem_of_getElem? (i := 23) rfl)
theorem ww24 {Z : State} {a0 : Array Value} (hw : ∀ d ∈ tables_1, d.before a0 Z = true) : (Jvm.Cond.methodLink "java/lang/StringUTF16" (115 : Nat) ({ cls := "java/lang/StringUTF16", name := "compress", desc := "([CI[BII)I" } : Jvm.MethodName)).before a0 Z = true := hw _ (List.mem_of_getElem? (i := 24) rfl)
theorem ww25 {Z : State} {a0 : Array Value} (hw : ∀ d ∈ tables_1, d.before a0 Z = true) : (Jvm.Cond.static ({ cls := "java/lang/StringUTF16", name := "compress", desc := "([CI[BII)I" } : Jvm.MethodName)).before a0 Z = true := hw _ (List.mem_of_getElem? (i := 25) rfl)
theorem ww26 {Z : State} {a0 : Array Value} (hw : ∀ d ∈ tables_1, d.before a0 Z = true) : (Jvm.Cond.code ({ cls := "java/lang/StringUTF16", name := "compress", desc := "([CI[BII)I" } : Jvm.MethodName) jdk_52_method_21_code (7 : Nat) (Option.some Jvm.ClassFile.FieldType.int)).before a0 Z = true := hw _ (List.mem_of_getElem? (i := 26) rfl)
theorem ww27 {Z : State} {a0 : Array Value} (hw : ∀ d ∈ tables_1, d.before a0 Z = true) : (Jvm.Cond.methodLink "java/lang/String" (47 : Nat) ({ cls := "java/lang/StringUTF16", name := "coderFromArrayLen", desc := "([BI)B" } : Jvm.MethodName)).before a0 Z = true := hw _ (List.mem_of_getElem? (i := 27) rfl)
theorem ww28 {Z : State} {a0 : Array Value} (hw : ∀ d ∈ tables_1, d.before a0 Z = true) : (Jvm.Cond.static ({ cls := "java/lang/StringUTF16", name := "coderFromArrayLen", desc := "([BI)B" } : Jvm.MethodName)).before a0 Z = true := hw _ (List.mem_of_getElem? (i := 28) rfl)
theorem ww29 {Z : State} {a0 : Array Value} (hw : ∀ d ∈ tables_1, d.before a0 Z = true) : (Jvm.Cond.code ({ cls := "java/lang/StringUTF16", name := "coderFromArrayLen", desc := "([BI)B" } : Jvm.MethodName) jdk_52_method_15_code (2 : Nat) (Option.some Jvm.ClassFile.FieldType.byte)).before a0 Z = true := hw _ (List.mem_of_getElem? (i := 29) rfl)
theorem ww30 {Z : State} {a0 : Array Value} (hw : ∀ d ∈ tables_1, d.before a0 Z = true) : (Jvm.Cond.fieldLink "java/lang/String" (15 : Nat) "java/lang/String" "coder" "B").before a0 Z = true := hw _ (List.mem_of_getElem? (i := 30) rfl)
theorem ww31 {Z : State} {a0 : Array Value} (hw : ∀ d ∈ tables_1, d.before a0 Z = true) : (Jvm.Cond.laysFinal "java/lang/String" "java/lang/String" "coder" "B").before a0 Z = true := hw _ (List.mem_of_getElem? (i := 31) rfl)
theorem ww32 {Z : State} {a0 : Array Value} (hw : ∀ d ∈ tables_1, d.before a0 Z = true) : (Jvm.Cond.fieldLink "java/lang/String" (9 : Nat) "java/lang/String" "value" "[B").before a0 Z = true := hw _ (List.mem_of_getElem? (i := 32) rfl)
theorem ww33 {Z : State} {a0 : Array Value} (hw : ∀ d ∈ tables_1, d.before a0 Z = true) : (Jvm.Cond.laysFinal "java/lang/String" "java/lang/String" "value" "[B").before a0 Z = true := hw _ (List.mem_of_getElem? (i := 33) rfl)
theorem ww34 {Z : State} {a0 : Array Value} (hw : ∀ d ∈ tables_1, d.before a0 Z = true) : (Jvm.Cond.stringLink "com/example/xml_stream_transform/xmlstreamtransform/stxpath/NameTestDefaultPriorityPinLaw" (34 : Nat) "").before a0 Z = true := hw _ (List.mem_of_getElem? (i := 34) rfl)
theorem ww35 {Z : State} {a0 : Array Value} (hw : ∀ d ∈ tables_1, d.before a0 Z = true) : (Jvm.Cond.soleField "java/lang/String" "value").before a0 Z = true := hw _ (List.mem_of_getElem? (i := 35) rfl)
theorem ww36 {Z : State} {a0 : Array Value} (hw : ∀ d ∈ tables_1, d.before a0 Z = true) : (Jvm.Cond.soleField "java/lang/String" "coder").before a0 Z = true := hw _ (List.mem_of_getElem? (i := 36) rfl)
theorem ww37 {Z : State} {a0 : Array Value} (hw : ∀ d ∈ tables_1, d.before a0 Z = true) : (Jvm.Cond.classLink "com/example/xml_stream_transform/xmlstreamtransform/stxpath/NameTestDefaultPriorityPinLaw" (51 : Nat) "com/example/xml_stream_transform/xmlstreamtransform/stxpath/NameTest").before a0 Z = true := hw _ (List.mem_of_getElem? (i := 37) rfl)
theorem ww38 {Z : State} {a0 : Array Value} (hw : ∀ d ∈ tables_1, d.before a0 Z = true) : (Jvm.Cond.instantiable "com/example/xml_stream_transform/xmlstreamtransform/stxpath/NameTest" (3 : Nat)).before a0 Z = true := hw _ (List.mem_of_getElem? (i := 38) rfl)
theorem ww39 {Z : State} {a0 : Array Value} (hw : ∀ d ∈ tables_1, d.before a0 Z = true) : (Jvm.Cond.initialized "com/example/xml_stream_transform/xmlstreamtransform/stxpath/NameTest").before a0 Z = true := hw _ (List.mem_of_getElem? (i := 39) rfl)
theorem ww40 {Z : State} {a0 : Array Value} (hw : ∀ d ∈ tables_1, d.before a0 Z = true) : (Jvm.Cond.methodLink "com/example/xml_stream_transform/xmlstreamtransform/stxpath/NameTestDefaultPriorityPinLaw" (53 : Nat) ({ cls := "com/example/xml_stream_transform/xmlstreamtransform/stxpath/NameTestDefaultPriorityPinLaw", name := "kind", desc := "(I)Lcom/example/xml_stream_transform/xmlstreamtransform/model/NodeKind;" } : Jvm.MethodName)).before a0 Z = true := hw _ (List.mem_of_getElem? (i := 40) rfl)
theorem ww41 {Z : State} {a0 : Array Value} (hw : ∀ d ∈ tables_1, d.before a0 Z = true) : (Jvm.Cond.static ({ cls := "com/example/xml_stream_transform/xmlstreamtransform/stxpath/NameTestDefaultPriorityPinLaw", name := "kind", desc := "(I)Lcom/example/xml_stream_transform/xmlstreamtransform/model/NodeKind;" } : Jvm.MethodName)).before a0 Z = true := hw _ (List.mem_of_getElem? (i := 41) rfl)
theorem ww42 {Z : State} {a0 : Array Value} (hw : ∀ d ∈ tables_1, d.before a0 Z = true) : (Jvm.Cond.code ({ cls := "com/example/xml_stream_transform/xmlstreamtransform/stxpath/NameTestDefaultPriorityPinLaw", name := "kind", desc := "(I)Lcom/example/xml_stream_transform/xmlstreamtransform/model/NodeKind;" } : Jvm.MethodName) method_2_code (2 : Nat) (Option.some (Jvm.ClassFile.FieldType.object "com/example/xml_stream_transform/xmlstreamtransform/model/NodeKind"))).before a0 Z = true := hw _ (List.mem_of_getElem? (i := 42) rfl)
theorem ww43 {Z : State} {a0 : Array Value} (hw : ∀ d ∈ tables_1, d.before a0 Z = true) : (Jvm.Cond.fieldLink "com/example/xml_stream_transform/xmlstreamtransform/stxpath/NameTestDefaultPriorityPinLaw" (7 : Nat) "com/example/xml_stream_transform/xmlstreamtransform/model/NodeKind" "DOCUMENT" "Lcom/example/xml_stream_transform/xmlstreamtransform/model/NodeKind;").before a0 Z = true := hw _ (List.mem_of_getElem? (i := 43) rfl)
theorem ww44 {Z : State} {a0 : Array Value} (hw : ∀ d ∈ tables_1, d.before a0 Z = true) : (Jvm.Cond.initialized "com/example/xml_stream_transform/xmlstreamtransform/model/NodeKind").before a0 Z = true := hw _ (List.mem_of_getElem? (i := 44) rfl)
theorem ww45 {Z : State} {a0 : Array Value} (hw : ∀ d ∈ tables_1, d.before a0 Z = true) : (Jvm.Cond.laysStatic "com/example/xml_stream_transform/xmlstreamtransform/model/NodeKind" "DOCUMENT" "Lcom/example/xml_stream_transform/xmlstreamtransform/model/NodeKind;").before a0 Z = true := hw _ (List.mem_of_getElem? (i := 45) rfl)
theorem ww46 {Z : State} {a0 : Array Value} (hw : ∀ d ∈ tables_1, d.before a0 Z = true) : (Jvm.Cond.methodLink "com/example/xml_stream_transform/xmlstreamtransform/stxpath/NameTestDefaultPriorityPinLaw" (57 : Nat) ({ cls := "com/example/xml_stream_transform/xmlstreamtransform/stxpath/NameTest", name := "<init>", desc := "(Lcom/example/xml_stream_transform/xmlstreamtransform/model/NodeKind;Ljava/lang/String;Ljava/lang/String;)V" } : Jvm.MethodName)).before a0 Z = true := hw _ (List.mem_of_getElem? (i := 46) rfl)
theorem ww47 {Z : State} {a0 : Array Value} (hw : ∀ d ∈ tables_1, d.before a0 Z = true) : (Jvm.Cond.instanceMethod ({ cls := "com/example/xml_stream_transform/xmlstreamtransform/stxpath/NameTest", name := "<init>", desc := "(Lcom/example/xml_stream_transform/xmlstreamtransform/model/NodeKind;Ljava/lang/String;Ljava/lang/String;)V" } : Jvm.MethodName)).before a0 Z = true := hw _ (List.mem_of_getElem? (i := 47) rfl)
theorem ww48 {Z : State} {a0 : Array Value} (hw : ∀ d ∈ tables_1, d.before a0 Z = true) : (Jvm.Cond.code ({ cls := "com/example/xml_stream_transform/xmlstreamtransform/stxpath/NameTest", name := "<init>", desc := "(Lcom/example/xml_stream_transform/xmlstreamtransform/model/NodeKind;Ljava/lang/String;Ljava/lang/String;)V" } : Jvm.MethodName) prog_191_method_1_code (4 : Nat) (Option.none : Option Jvm.ClassFile.FieldType)).before a0 Z = true := hw _ (List.mem_of_getElem? (i := 48) rfl)
theorem ww49 {Z : State} {a0 : Array Value} (hw : ∀ d ∈ tables_1, d.before a0 Z = true) : (Jvm.Cond.methodLink "com/example/xml_stream_transform/xmlstreamtransform/stxpath/NameTest" (1 : Nat) ({ cls := "java/lang/Record", name := "<init>", desc := "()V" } : Jvm.MethodName)).before a0 Z = true := hw _ (List.mem_of_getElem? (i := 49) rfl)
theorem ww50 {Z : State} {a0 : Array Value} (hw : ∀ d ∈ tables_1, d.before a0 Z = true) : (Jvm.Cond.instanceMethod ({ cls := "java/lang/Record", name := "<init>", desc := "()V" } : Jvm.MethodName)).before a0 Z = true := hw _ (List.mem_of_getElem? (i := 50) rfl)
theorem ww52 {Z : State} {a0 : Array Value} (hw : ∀ d ∈ tables_1, d.before a0 Z = true) : (Jvm.Cond.initialized "java/lang/Record").before a0 Z = true := hw _ (List.mem_of_getElem? (i := 52) rfl)
theorem ww53 {Z : State} {a0 : Array Value} (hw : ∀ d ∈ tables_1, d.before a0 Z = true) : (Jvm.Cond.code ({ cls := "java/lang/Record", name := "<init>", desc := "()V" } : Jvm.MethodName) jdk_30_method_1_code (1 : Nat) (Option.none : Option Jvm.ClassFile.FieldType)).before a0 Z = true := hw _ (List.mem_of_getElem? (i := 53) rfl)
theorem ww54 {Z : State} {a0 : Array Value} (hw : ∀ d ∈ tables_1, d.before a0 Z = true) : (Jvm.Cond.methodLink "java/lang/Record" (1 : Nat) ({ cls := "java/lang/Object", name := "<init>", desc := "()V" } : Jvm.MethodName)).before a0 Z = true := hw _ (List.mem_of_getElem? (i := 54) rfl)
theorem ww55 {Z : State} {a0 : Array Value} (hw : ∀ d ∈ tables_1, d.before a0 Z = true) : (Jvm.Cond.fieldLink "com/example/xml_stream_transform/xmlstreamtransform/stxpath/NameTest" (7 : Nat) "com/example/xml_stream_transform/xmlstreamtransform/stxpath/NameTest" "kind" "Lcom/example/xml_stream_transform/xmlstreamtransform/model/NodeKind;").before a0 Z = true := hw _ (List.mem_of_getElem? (i := 55) rfl)
theorem ww56 {Z : State} {a0 : Array Value} (hw : ∀ d ∈ tables_1, d.before a0 Z = true) : (Jvm.Cond.laysFinal "com/example/xml_stream_transform/xmlstreamtransform/stxpath/NameTest" "com/example/xml_stream_transform/xmlstreamtransform/stxpath/NameTest" "kind" "Lcom/example/xml_stream_transform/xmlstreamtransform/model/NodeKind;").before a0 Z = true := hw _ (List.mem_of_getElem? (i := 56) rfl)
theorem ww57 {Z : State} {a0 : Array Value} (hw : ∀ d ∈ tables_1, d.before a0 Z = true) : (Jvm.Cond.fieldLink "com/example/xml_stream_transform/xmlstreamtransform/stxpath/NameTest" (13 : Nat) "com/example/xml_stream_transform/xmlstreamtransform/stxpath/NameTest" "namespaceUri" "Ljava/lang/String;").before a0 Z = true := hw _ (List.mem_of_getElem? (i := 57) rfl)
theorem ww58 {Z : State} {a0 : Array Value} (hw : ∀ d ∈ tables_1, d.before a0 Z = true) : (Jvm.Cond.laysFinal "com/example/xml_stream_transform/xmlstreamtransform/stxpath/NameTest" "com/example/xml_stream_transform/xmlstreamtransform/stxpath/NameTest" "namespaceUri" "Ljava/lang/String;").before a0 Z = true := hw _ (List.mem_of_getElem? (i := 58) rfl)
theorem ww59 {Z : State} {a0 : Array Value} (hw : ∀ d ∈ tables_1, d.before a0 Z = true) : (Jvm.Cond.fieldLink "com/example/xml_stream_transform/xmlstreamtransform/stxpath/NameTest" (17 : Nat) "com/example/xml_stream_transform/xmlstreamtransform/stxpath/NameTest" "localName" "Ljava/lang/String;").before a0 Z = true := hw _ (List.mem_of_getElem? (i := 59) rfl)
theorem ww60 {Z : State} {a0 : Array Value} (hw : ∀ d ∈ tables_1, d.before a0 Z = true) : (Jvm.Cond.laysFinal "com/example/xml_stream_transform/xmlstreamtransform/stxpath/NameTest" "com/example/xml_stream_transform/xmlstreamtransform/stxpath/NameTest" "localName" "Ljava/lang/String;").before a0 Z = true := hw _ (List.mem_of_getElem? (i := 60) rfl)
theorem ww61 {Z : State} {a0 : Array Value} (hw : ∀ d ∈ tables_1, d.before a0 Z = true) : (Jvm.Cond.constantDouble "com/example/xml_stream_transform/xmlstreamtransform/stxpath/NameTestDefaultPriorityPinLaw" (60 : Nat) (13821547256400052224 : UInt64)).before a0 Z = true := hw _ (List.mem_of_getElem? (i := 61) rfl)
theorem ww62 {Z : State} {a0 : Array Value} (hw : ∀ d ∈ tables_1, d.before a0 Z = true) : (Jvm.Cond.methodLink "com/example/xml_stream_transform/xmlstreamtransform/stxpath/NameTestDefaultPriorityPinLaw" (62 : Nat) ({ cls := "com/example/xml_stream_transform/xmlstreamtransform/stxpath/NameTest", name := "defaultPriority", desc := "()D" } : Jvm.MethodName)).before a0 Z = true := hw _ (List.mem_of_getElem? (i := 62) rfl)
theorem ww63 {Z : State} {a0 : Array Value} (hw : ∀ d ∈ tables_1, d.before a0 Z = true) : (Jvm.Cond.declares ({ cls := "com/example/xml_stream_transform/xmlstreamtransform/stxpath/NameTest", name := "defaultPriority", desc := "()D" } : Jvm.MethodName)).before a0 Z = true := hw _ (List.mem_of_getElem? (i := 63) rfl)
theorem ww64 {Z : State} {a0 : Array Value} (hw : ∀ d ∈ tables_1, d.before a0 Z = true) : (Jvm.Cond.instanceMethod ({ cls := "com/example/xml_stream_transform/xmlstreamtransform/stxpath/NameTest", name := "defaultPriority", desc := "()D" } : Jvm.MethodName)).before a0 Z = true := hw _ (List.mem_of_getElem? (i := 64) rfl)
theorem ww65 {Z : State} {a0 : Array Value} (hw : ∀ d ∈ tables_1, d.before a0 Z = true) : (Jvm.Cond.selects "com/example/xml_stream_transform/xmlstreamtransform/stxpath/NameTest" ({ cls := "com/example/xml_stream_transform/xmlstreamtransform/stxpath/NameTest", name := "defaultPriority", desc := "()D" } : Jvm.MethodName) ({ cls := "com/example/xml_stream_transform/xmlstreamtransform/stxpath/NameTest", name := "defaultPriority", desc := "()D" } : Jvm.MethodName)).before a0 Z = true := hw _ (List.mem_of_getElem? (i := 65) rfl)
theorem ww66 {Z : State} {a0 : Array Value} (hw : ∀ d ∈ tables_1, d.before a0 Z = true) : (Jvm.Cond.code ({ cls := "com/example/xml_stream_transform/xmlstreamtransform/stxpath/NameTest", name := "defaultPriority", desc := "()D" } : Jvm.MethodName) prog_191_method_4_code (1 : Nat) (Option.some Jvm.ClassFile.FieldType.double)).before a0 Z = true := hw _ (List.mem_of_getElem? (i := 66) rfl)
theorem ww67 {Z : State} {a0 : Array Value} (hw : ∀ d ∈ tables_1, d.before a0 Z = true) : (Jvm.Cond.fieldLink "com/example/xml_stream_transform/xmlstreamtransform/stxpath/NameTestDefaultPriorityPinLaw" (19 : Nat) "com/example/xml_stream_transform/xmlstreamtransform/model/NodeKind" "TEXT" "Lcom/example/xml_stream_transform/xmlstreamtransform/model/NodeKind;").before a0 Z = true := hw _ (List.mem_of_getElem? (i := 67) rfl)
theorem ww68 {Z : State} {a0 : Array Value} (hw : ∀ d ∈ tables_1, d.before a0 Z = true) : (Jvm.Cond.laysStatic "com/example/xml_stream_transform/xmlstreamtransform/model/NodeKind" "TEXT" "Lcom/example/xml_stream_transform/xmlstreamtransform/model/NodeKind;").before a0 Z = true := hw _ (List.mem_of_getElem? (i := 68) rfl)
theorem ww69 {Z : State} {a0 : Array Value} (hw : ∀ d ∈ tables_1, d.before a0 Z = true) : (Jvm.Cond.constantDouble "com/example/xml_stream_transform/xmlstreamtransform/stxpath/NameTest" (38 : Nat) (13821547256400052224 : UInt64)).before a0 Z = true := hw _ (List.mem_of_getElem? (i := 69) rfl)
theorem ww70 {Z : State} {a0 : Array Value} (hw : ∀ d ∈ tables_1, d.before a0 Z = true) : (Jvm.Cond.methodLink "com/example/xml_stream_transform/xmlstreamtransform/stxpath/NameTestDefaultPriorityPinLaw" (36 : Nat) ({ cls := "java/lang/String", name := "valueOf", desc := "(C)Ljava/lang/String;" } : Jvm.MethodName)).before a0 Z = true := hw _ (List.mem_of_getElem? (i := 70) rfl)
theorem ww71 {Z : State} {a0 : Array Value} (hw : ∀ d ∈ tables_1, d.before a0 Z = true) : (Jvm.Cond.static ({ cls := "java/lang/String", name := "valueOf", desc := "(C)Ljava/lang/String;" } : Jvm.MethodName)).before a0 Z = true := hw _ (List.mem_of_getElem? (i := 71) rfl)
theorem ww72 {Z : State} {a0 : Array Value} (hw : ∀ d ∈ tables_1, d.before a0 Z = true) : (Jvm.Cond.code ({ cls := "java/lang/String", name := "valueOf", desc := "(C)Ljava/lang/String;" } : Jvm.MethodName) jdk_42_method_139_code (1 : Nat) (Option.some (Jvm.ClassFile.FieldType.object "java/lang/String"))).before a0 Z = true := hw _ (List.mem_of_getElem? (i := 72) rfl)
theorem ww73 {Z : State} {a0 : Array Value} (hw : ∀ d ∈ tables_1, d.before a0 Z = true) : (Jvm.Cond.methodLink "java/lang/String" (1015 : Nat) ({ cls := "java/lang/StringLatin1", name := "canEncode", desc := "(C)Z" } : Jvm.MethodName)).before a0 Z = true := hw _ (List.mem_of_getElem? (i := 73) rfl)
theorem ww74 {Z : State} {a0 : Array Value} (hw : ∀ d ∈ tables_1, d.before a0 Z = true) : (Jvm.Cond.static ({ cls := "java/lang/StringLatin1", name := "canEncode", desc := "(C)Z" } : Jvm.MethodName)).before a0 Z = true := hw _ (List.mem_of_getElem? (i := 74) rfl)
theorem ww75 {Z : State} {a0 : Array Value} (hw : ∀ d ∈ tables_1, d.before a0 Z = true) : (Jvm.Cond.initialized "java/lang/StringLatin1").before a0 Z = true := hw _ (List.mem_of_getElem? (i := 75) rfl)
theorem ww76 {Z : State} {a0 : Array Value} (hw : ∀ d ∈ tables_1, d.before a0 Z = true) : (Jvm.Cond.code ({ cls := "java/lang/StringLatin1", name := "canEncode", desc := "(C)Z" } : Jvm.MethodName) jdk_43_method_3_code (1 : Nat) (Option.some Jvm.ClassFile.FieldType.boolean)).before a0 Z = true := hw _ (List.mem_of_getElem? (i := 76) rfl)
theorem ww77 {Z : State} {a0 : Array Value} (hw : ∀ d ∈ tables_1, d.before a0 Z = true) : (Jvm.Cond.classLink "java/lang/String" (10 : Nat) "java/lang/String").before a0 Z = true := hw _ (List.mem_of_getElem? (i := 77) rfl)
theorem ww78 {Z : State} {a0 : Array Value} (hw : ∀ d ∈ tables_1, d.before a0 Z = true) : (Jvm.Cond.methodLink "java/lang/String" (1018 : Nat) ({ cls := "java/lang/StringLatin1", name := "toBytes", desc := "(C)[B" } : Jvm.MethodName)).before a0 Z = true := hw _ (List.mem_of_getElem? (i := 78) rfl)
theorem ww79 {Z : State} {a0 : Array Value} (hw : ∀ d ∈ tables_1, d.before a0 Z = true) : (Jvm.Cond.static ({ cls := "java/lang/StringLatin1", name := "toBytes", desc := "(C)[B" } : Jvm.MethodName)).before a0 Z = true := hw _ (List.mem_of_getElem? (i := 79) rfl)
theorem ww80 {Z : State} {a0 : Array Value} (hw : ∀ d ∈ tables_1, d.before a0 Z = true) : (Jvm.Cond.code ({ cls := "java/lang/StringLatin1", name := "toBytes", desc := "(C)[B" } : Jvm.MethodName) jdk_43_method_46_code (1 : Nat) (Option.some (Jvm.ClassFile.FieldType.array Jvm.ClassFile.FieldType.byte))).before a0 Z = true := hw _ (List.mem_of_getElem? (i := 80) rfl)
theorem ww81 {Z : State} {a0 : Array Value} (hw : ∀ d ∈ tables_1, d.before a0 Z = true) : (Jvm.Cond.methodLink "java/lang/String" (209 : Nat) ({ cls := "java/lang/String", name := "<init>", desc := "([BB)V" } : Jvm.MethodName)).before a0 Z = true := hw _ (List.mem_of_getElem? (i := 81) rfl)
theorem ww82 {Z : State} {a0 : Array Value} (hw : ∀ d ∈ tables_1, d.before a0 Z = true) : (Jvm.Cond.instanceMethod ({ cls := "java/lang/String", name := "<init>", desc := "([BB)V" } : Jvm.MethodName)).before a0 Z = true := hw _ (List.mem_of_getElem? (i := 82) rfl)
theorem ww83 {Z : State} {a0 : Array Value} (hw : ∀ d ∈ tables_1, d.before a0 Z = true) : (Jvm.Cond.code ({ cls := "java/lang/String", name := "<init>", desc := "([BB)V" } : Jvm.MethodName) jdk_42_method_151_code (3 : Nat) (Option.none : Option Jvm.ClassFile.FieldType)).before a0 Z = true := hw _ (List.mem_of_getElem? (i := 83) rfl)
theorem ww84 {Z : State} {a0 : Array Value} (hw : ∀ d ∈ tables_1, d.before a0 Z = true) : (Jvm.Cond.fieldLink "com/example/xml_stream_transform/xmlstreamtransform/stxpath/NameTestDefaultPriorityPinLaw" (31 : Nat) "com/example/xml_stream_transform/xmlstreamtransform/model/NodeKind" "DOCTYPE" "Lcom/example/xml_stream_transform/xmlstreamtransform/model/NodeKind;").before a0 Z = true := hw _ (List.mem_of_getElem? (i := 84) rfl)
theorem ww85 {Z : State} {a0 : Array Value} (hw : ∀ d ∈ tables_1, d.before a0 Z = true) : (Jvm.Cond.laysStatic "com/example/xml_stream_transform/xmlstreamtransform/model/NodeKind" "DOCTYPE" "Lcom/example/xml_stream_transform/xmlstreamtransform/model/NodeKind;").before a0 Z = true := hw _ (List.mem_of_getElem? (i := 85) rfl)
theorem ww86 {Z : State} {a0 : Array Value} (hw : ∀ d ∈ tables_1, d.before a0 Z = true) : (Jvm.Cond.fieldLink "com/example/xml_stream_transform/xmlstreamtransform/stxpath/NameTestDefaultPriorityPinLaw" (16 : Nat) "com/example/xml_stream_transform/xmlstreamtransform/model/NodeKind" "ATTRIBUTE" "Lcom/example/xml_stream_transform/xmlstreamtransform/model/NodeKind;").before a0 Z = true := hw _ (List.mem_of_getElem? (i := 86) rfl)
theorem ww87 {Z : State} {a0 : Array Value} (hw : ∀ d ∈ tables_1, d.before a0 Z = true) : (Jvm.Cond.laysStatic "com/example/xml_stream_transform/xmlstreamtransform/model/NodeKind" "ATTRIBUTE" "Lcom/example/xml_stream_transform/xmlstreamtransform/model/NodeKind;").before a0 Z = true := hw _ (List.mem_of_getElem? (i := 87) rfl)
theorem ww88 {Z : State} {a0 : Array Value} (hw : ∀ d ∈ tables_1, d.before a0 Z = true) : (Jvm.Cond.fieldLink "com/example/xml_stream_transform/xmlstreamtransform/stxpath/NameTestDefaultPriorityPinLaw" (28 : Nat) "com/example/xml_stream_transform/xmlstreamtransform/model/NodeKind" "PROCESSING_INSTRUCTION" "Lcom/example/xml_stream_transform/xmlstreamtransform/model/NodeKind;").before a0 Z = true := hw _ (List.mem_of_getElem? (i := 88) rfl)
theorem ww89 {Z : State} {a0 : Array Value} (hw : ∀ d ∈ tables_1, d.before a0 Z = true) : (Jvm.Cond.laysStatic "com/example/xml_stream_transform/xmlstreamtransform/model/NodeKind" "PROCESSING_INSTRUCTION" "Lcom/example/xml_stream_transform/xmlstreamtransform/model/NodeKind;").before a0 Z = true := hw _ (List.mem_of_getElem? (i := 89) rfl)
theorem ww90 {Z : State} {a0 : Array Value} (hw : ∀ d ∈ tables_1, d.before a0 Z = true) : (Jvm.Cond.fieldLink "com/example/xml_stream_transform/xmlstreamtransform/stxpath/NameTestDefaultPriorityPinLaw" (25 : Nat) "com/example/xml_stream_transform/xmlstreamtransform/model/NodeKind" "COMMENT" "Lcom/example/xml_stream_transform/xmlstreamtransform/model/NodeKind;").before a0 Z = true := hw _ (List.mem_of_getElem? (i := 90) rfl)
theorem ww91 {Z : State} {a0 : Array Value} (hw : ∀ d ∈ tables_1, d.before a0 Z = true) : (Jvm.Cond.laysStatic "com/example/xml_stream_transform/xmlstreamtransform/model/NodeKind" "COMMENT" "Lcom/example/xml_stream_transform/xmlstreamtransform/model/NodeKind;").before a0 Z = true := hw _ (List.mem_of_getElem? (i := 91) rfl)
theorem ww92 {Z : State} {a0 : Array Value} (hw : ∀ d ∈ tables_1, d.before a0 Z = true) : (Jvm.Cond.fieldLink "com/example/xml_stream_transform/xmlstreamtransform/stxpath/NameTestDefaultPriorityPinLaw" (22 : Nat) "com/example/xml_stream_transform/xmlstreamtransform/model/NodeKind" "CDATA" "Lcom/example/xml_stream_transform/xmlstreamtransform/model/NodeKind;").before a0 Z = true := hw _ (List.mem_of_getElem? (i := 92) rfl)
theorem ww93 {Z : State} {a0 : Array Value} (hw : ∀ d ∈ tables_1, d.before a0 Z = true) : (Jvm.Cond.laysStatic "com/example/xml_stream_transform/xmlstreamtransform/model/NodeKind" "CDATA" "Lcom/example/xml_stream_transform/xmlstreamtransform/model/NodeKind;").before a0 Z = true := hw _ (List.mem_of_getElem? (i := 93) rfl)
theorem ww94 {Z : State} {a0 : Array Value} (hw : ∀ d ∈ tables_1, d.before a0 Z = true) : (Jvm.Cond.constantDouble "com/example/xml_stream_transform/xmlstreamtransform/stxpath/NameTest" (36 : Nat) (13826050856027422720 : UInt64)).before a0 Z = true := hw _ (List.mem_of_getElem? (i := 94) rfl)
theorem ww95 {Z : State} {a0 : Array Value} (hw : ∀ d ∈ tables_1, d.before a0 Z = true) : (Jvm.Cond.fieldLink "com/example/xml_stream_transform/xmlstreamtransform/stxpath/NameTestDefaultPriorityPinLaw" (13 : Nat) "com/example/xml_stream_transform/xmlstreamtransform/model/NodeKind" "ELEMENT" "Lcom/example/xml_stream_transform/xmlstreamtransform/model/NodeKind;").before a0 Z = true := hw _ (List.mem_of_getElem? (i := 95) rfl)
theorem ww96 {Z : State} {a0 : Array Value} (hw : ∀ d ∈ tables_1, d.before a0 Z = true) : (Jvm.Cond.laysStatic "com/example/xml_stream_transform/xmlstreamtransform/model/NodeKind" "ELEMENT" "Lcom/example/xml_stream_transform/xmlstreamtransform/model/NodeKind;").before a0 Z = true := hw _ (List.mem_of_getElem? (i := 96) rfl)
section OwnWide
variable {p : Program} {l : Launch} {e : Env} {R : Room} {s : State} {m : MethodId} {args : Array Value} {below : List Frame} {meth : Method} {c : Code} {T : State} {locs : List Loc} {cells slots : Nat} {Z : State} {a0 : Array Value}
theorem own_StaKeep0 {Z : State} {h h' : Heap} {C n d : String} {v : Value} (F : Sta Z h C n d v) (K : Keep h h' []) : Sta Z h' C n d v := by
  obtain ⟨cf, i, k, f, st, cell, h1, h2, h3, h4, h5, h6, h7⟩ := F
  exact ⟨cf, i, k, f, st, cell, h1, h2, h3, h4, K.2.1 _ _ h5 (by simp), h6, h7⟩
theorem own_StaKeep {Z : State} {h h' : Heap} {C C' n d : String} {v : Value} {a : Addr} (F : Sta Z h C n d v) (K : Keep h h' [a]) (E : Exa Z h a C') : Sta Z h' C n d v := by
  obtain ⟨cf, i, k, f, st, cell, h1, h2, h3, h4, h5, h6, h7⟩ := F
  have hne : st ≠ a := by
    rintro rfl
    obtain ⟨cell', k', e1, -, -, e4, -⟩ := E
    cases e1.symm.trans h5
    rw [h6] at e4; cases e4
  exact ⟨cf, i, k, f, st, cell, h1, h2, h3, h4, K.2.1 _ _ h5 (by simpa using hne), h6, h7⟩
theorem own_StaKeepA {Z : State} {h h' : Heap} {C n d : String} {v : Value} {a : Addr} {k : ClassId} {ty : FieldType} {z : Int32} {vs : List Value} {dv : Value} (F : Sta Z h C n d v) (K : Keep h h' [a]) (V : Arv Z h a k ty z vs dv) : Sta Z h' C n d v := by
  obtain ⟨cf, i, k, f, st, cell, h1, h2, h3, h4, h5, h6, h7⟩ := F
  obtain ⟨ca, A, -⟩ := V
  have hne : st ≠ a := by
    rintro rfl
    cases A.1.symm.trans h5
    rw [A.plain] at h6; cases h6
  exact ⟨cf, i, k, f, st, cell, h1, h2, h3, h4, K.2.1 _ _ h5 (by simpa using hne), h6, h7⟩
def own_KW (Q : Option Value → Heap → List Loc → Prop) (s : State) (C S : Nat) : Outcome → State → Prop := fun o U => ∃ v L, o = .returned v ∧ Q v U.heap L ∧ ReturnedEndW s o U L C S
def own_MetW (l : Launch) (Z : State) (y : MethodName) (bytes : ByteArray) (maxL : Nat) (ret : Option FieldType) (ws : List Jvm.Cond) (rm : Room) (as' : Array Value) (h0 : Heap) (Q : Option Value → Heap → List Loc → Prop) : Prop :=
  MetFree l y (head1 (Jvm.Cond.code y bytes maxL ret :: ws) rm) (fun a U => a = as' ∧ Z.Warmed39 U.vm ∧ U.heap = h0) (fun _ _ _ _ _ => True) (fun _ U o U' => own_KW Q U rm.cells rm.slots o U')
theorem own_metW {y : MethodName} {bytes : ByteArray} {maxL : Nat} {ret : Option FieldType} {ws : List Jvm.Cond} {rm : Room} {as' : Array Value} {h0 : Heap} {Q : Option Value → Heap → List Loc → Prop} (hpl : plainFor y = true)
    (body : ∀ (p : Program) (e : Env) (s : State) (m : MethodId) (below : List Frame) (meth : Method) (c : Code) (s₁ : State) (vm0 : Vm), p.tables.exec = Jvm.exec → c.code = bytes → c.maxLocals = maxL → (s.setVm vm0).vm.findClass y.cls = some m.cls → meth.name = y.name → meth.sig.returnType = ret → meth.locks = false →
      Z.Warmed39 (s.setVm vm0).vm → s.Since vm0 0 → Stand p l e rm (s.setVm vm0) m as' below meth c s₁ [] 0 0 → s₁.heap = h0 → own_G p e below (own_KW Q s rm.cells rm.slots) s₁ (entryFrame m as' maxL)) :
    own_MetW l Z y bytes maxL ret ws rm as' h0 Q := by
  refine MetFree.of_bodySF hpl hisR ?_
  intro p e s m args below meth c s₁ Bd hml hP hK
  obtain ⟨rfl, hZ, hh⟩ := hP
  have e0 : s₁.heap = h0 := by rw [← hh, Bd.state]; rfl
  have q := body p e s m below meth c s₁ s.vm Bd.exec Bd.bytes hml (findClass_of_methodNamed Bd.named) (name_of_methodNamed Bd.named Bd.method).1 Bd.returns (BodyLoose.notSynchronized Bd) hZ ((State.WarmedH.refl s).since 0) (Stand.of_body Bd) e0
  obtain ⟨s₂, o, h1, h2, h3, h4⟩ := q
  exact ⟨s₂, o, h1, h2, h3, h4⟩
theorem own_endW {vm0 : Vm} {k0 : Nat} (X : Stand p l e R (s.setVm vm0) m args below meth c T locs cells slots) (hS : s.Since vm0 k0) (hk : k0 ≤ T.heap.size) (hlk : meth.locks = false) {v : Option Value} {f : JFrame} {Q : Option Value → Heap → List Loc → Prop} {C S : Nat} (hv : meth.sig.returnType = none → v = none) (hc : cells ≤ C) (hs : slots ≤ S)
    (st : ∀ fs, (∀ (f : JFrame) (acts : List Action), f.method = m → f.locked = none → f.entered = [] → (doReturn e (T.setTop f) acts v).1 = T.setFrames fs) → Steps p.tables e below (T.setTop f) (T.setFrames fs)) (hq : Q v T.heap locs) : own_G p e below (own_KW Q s C S) T f := by
  obtain ⟨fs, hr, hrun, hended, hW⟩ := X.leaveW hS hk (v := v) hv
  exact ⟨_, _, st fs hr, hrun, hended, v, locs, rfl, hq, hW.1, hW.2.1, hW.2.2.1, hW.2.2.2.mono hc hs⟩
theorem own_retAW {vm0 : Vm} {k0 : Nat} {h : Heap} (X : Stand p l e R (s.setVm vm0) m args below meth c T locs cells slots) (hx : p.tables.exec = Jvm.exec) (hlk : meth.locks = false) {t : FieldType} (hret : meth.sig.returnType = some t) (ht : t.isReference = true) {pc : Nat} {Ls : Array Slot} {w : Value} (hw : w.isRef = true) (hn : narrow t w = w) {rest : List Value} {Q : Option Value → Heap → List Loc → Prop} {C S : Nat}
    (eT : T.heap = h) (hS : s.Since vm0 k0) (hk : k0 ≤ h.size) (hd : decode c.code pc = .ok (.areturn, 1)) (hc : cells ≤ C) (hs : slots ≤ S) (hq : Q (some w) h locs) : own_G p e below (own_KW Q s C S) T (mkF m pc Ls (w :: rest)) := by
  subst eT
  exact own_endW X hS hk hlk (fun q => by rw [hret] at q; cases q) hc hs (fun fs hr => retOut X hx hret hn (Or.inr (Or.inr (Or.inr (Or.inr ⟨rfl, ht, hw⟩)))) hd hr) hq
theorem own_retZW {vm0 : Vm} {k0 : Nat} {h : Heap} (X : Stand p l e R (s.setVm vm0) m args below meth c T locs cells slots) (hx : p.tables.exec = Jvm.exec) (hlk : meth.locks = false) {t : FieldType} (hret : meth.sig.returnType = some t) (ht : t = .boolean ∨ t = .byte ∨ t = .char ∨ t = .short) {pc : Nat} {Ls : Array Slot} {z w : Int32} {rest : List Value} {Q : Option Value → Heap → List Loc → Prop} {C S : Nat}
    (eT : T.heap = h) (hz : nar t z = w) (hS : s.Since vm0 k0) (hk : k0 ≤ h.size) (hd : decode c.code pc = .ok (.ireturn, 1)) (hc : cells ≤ C) (hs : slots ≤ S) (hq : Q (some (.int w)) h locs) : own_G p e below (own_KW Q s C S) T (mkF m pc Ls (.int z :: rest)) := by
  subst eT hz
  exact own_endW X hS hk hlk (fun q => by rw [hret] at q; cases q) hc hs (fun fs hr => retN X hx hret ht hd hr) hq
theorem own_ldcStr {K : Outcome → State → Prop} {pc n : Nat} {Ls : Array Slot} {S : List Value} {h : Heap} {vm0 : Vm} {k0 : Nat} (X : Stand p l e R (s.setVm vm0) m args below meth c T locs cells slots) (hx : p.tables.exec = Jvm.exec) (hZ : Z.Warmed39 (s.setVm vm0).vm) {own text : String} {index : Nat} (hown : (s.setVm vm0).vm.findClass own = some m.cls) (w : (Jvm.Cond.stringLink own index text).before a0 Z = true) (wS : ∀ a ∈ Bundle.stringAtoms, a.before a0 Z = true)
    (eT : T.heap = h) (hS : s.Since vm0 k0) (hk : k0 ≤ h.size) (hd : decode c.code pc = .ok (.ldc index, 2)) {nn : Nat} (hnn : 4 * text.toList.length ≤ nn) (hbig : nn ≤ 536870912) (hc : cells + 2 ≤ R.cells) (hl : slots + (nn + 4) ≤ R.slots) (hn : pc + 2 = n)
    (kk : ∀ (a : Addr) (T' : State) (h' : Heap) (k1 : Nat), Stand p l e R (s.setVm T'.vm) m args below meth c T' locs (cells + 2) (slots + (nn + 4)) → T'.heap = h' → Ext h h' → s.Since T'.vm k1 → k1 ≤ h'.size → Z.Warmed39 (s.setVm T'.vm).vm → (s.setVm T'.vm).vm.findClass own = some m.cls → own_G p e below K T' (mkF m n Ls (.ref a :: S))) : own_G p e below K T (mkF m pc Ls S) := by
  subst hn
  obtain ⟨a, T', h', k1, X', e', E, hS', hk', hZ', ho', st⟩ := ldcS X hx hZ hown w wS eT hS hk (g := mkF m pc Ls S) rfl hd hnn hbig hc hl
  exact own_go st (kk a T' h' k1 X' e' E hS' hk' hZ' ho')
theorem own_SS {K : Outcome → State → Prop} {pc n : Nat} {Ls : Array Slot} {h : Heap} {vm0 : Vm} {k0 : Nat} {own : String} {index maxL : Nat} {y : MethodName} {bytes : ByteArray} {rm : Room} {Q : Option Value → Heap → List Loc → Prop} {argsL rest stk : List Value} {ret : Option FieldType} (X : Stand p l e R (s.setVm vm0) m args below meth c T locs cells slots) (hx : p.tables.exec = Jvm.exec) (hZ : Z.Warmed39 (s.setVm vm0).vm)
    (hown : (s.setVm vm0).vm.findClass own = some m.cls) (hM : own_MetW l Z y bytes maxL ret [] rm argsL.toArray h Q) (w1 : (Jvm.Cond.methodLink own index y).before a0 Z = true) (w2 : (Jvm.Cond.static y).before a0 Z = true) (w3 : (Jvm.Cond.initialized y.cls).before a0 Z = true) (w4 : (Jvm.Cond.code y bytes maxL ret).before a0 Z = true) (hy : y.cls ≠ "java/lang/invoke/MethodHandle" ∧ y.cls ≠ "java/lang/invoke/VarHandle")
    (eT : T.heap = h) (hS : s.Since vm0 k0) (hk : k0 ≤ h.size) (hsz : Ls.size = c.maxLocals) (hlen : ∀ sig, parseMethodDescriptor y.desc = some sig → argsL.length = sig.parameters.length) (hstk : stk = argsL.reverse ++ rest) (hd : decode c.code pc = .ok (.invokestatic index, 3)) (hf : rm.frames + 1 ≤ R.frames) (hl : (rest.map fun v => v.category).sum + (maxL + 11) + rm.locals ≤ R.locals) (hc : cells + rm.cells ≤ R.cells) (hs : slots + rm.slots ≤ R.slots) (hn : pc + 3 = n)
    (kk : ∀ (v : Option Value) (T' : State) (L : List Loc), Stand p l e R (s.setVm T'.vm) m args below meth c T' (locs ++ L) (cells + rm.cells) (slots + rm.slots) → s.Since T'.vm T'.heap.size → Z.Warmed39 (s.setVm T'.vm).vm → (s.setVm T'.vm).vm.findClass own = some m.cls → Q v T'.heap L → own_G p e below K T' (mkF m n Ls (v.toList ++ rest))) : own_G p e below K T (mkF m pc Ls stk) := by
  subst hn
  obtain ⟨v, _, ⟨T', L', k', n'⟩, -, X', hS', hg, ⟨L, hQ, l1, y1, z1⟩, st⟩ := callSS X hx (y := y) hown (mvT hZ w1) (mvT hZ w2) (mvT hZ w3) (mvT hZ w4) hy (backOfS (Q := Q) hM hZ w4 w3 hf hl) (g := mkF m pc Ls stk) rfl hsz (argsL := argsL) (rest := rest) hlen hstk (by show 2 * 0 + _ ≤ _; exact Nat.le_of_eq (Nat.zero_add _)) hd (fun _ _ => ⟨rfl, eT, hc, hs⟩)
  dsimp only [Pt.U, Pt.locs, Pt.cells, Pt.slots] at X' l1 y1 z1 st hQ hS' hg
  subst l1 y1 z1
  obtain ⟨X2, hS2, hZ2, ho2⟩ := rebS hS (by rw [eT]; exact hk) X' hS' hg hZ hown
  exact own_go (fun t k => st.trans k) (kk v T' L X2 hS2 hZ2 ho2 hQ)
theorem own_ldcD {K : Outcome → State → Prop} {pc n : Nat} {Ls : Array Slot} {S : List Value} (X : Stand p l e R s m args below meth c T locs cells slots) (hx : p.tables.exec = Jvm.exec) (hZ : Z.Warmed39 s.vm) {own : String} {index : Nat} {v : UInt64} (hown : s.vm.findClass own = some m.cls) (w : (Jvm.Cond.constantDouble own index v).before a0 Z = true) (hd : decode c.code pc = .ok (.ldc2_w index, 3)) (hn : pc + 3 = n) (kk : own_G p e below K T (mkF m n Ls (.double v :: S))) : own_G p e below K T (mkF m pc Ls S) := by
  subst hn
  exact own_go (fun t k => X.ldc2DoubleC hx hown (mvT hZ w) (g := mkF m pc Ls S) rfl hd t k) kk
theorem own_dconst0 {K : Outcome → State → Prop} {pc n : Nat} {Ls : Array Slot} {S : List Value} (X : Stand p l e R s m args below meth c T locs cells slots) (hx : p.tables.exec = Jvm.exec) {z : UInt64} (hd : decode c.code pc = .ok (.dconst 0, 1)) (hz : FP.dconst0 = z) (hn : pc + 1 = n) (kk : own_G p e below K T (mkF m n Ls (.double z :: S))) : own_G p e below K T (mkF m pc Ls S) := by
  subst hz hn
  refine own_go (fun t k => ?_) kk
  jvm_step X.here [X.here.top, hx, hd]
  exact k
theorem own_dconst1 {K : Outcome → State → Prop} {pc n : Nat} {Ls : Array Slot} {S : List Value} (X : Stand p l e R s m args below meth c T locs cells slots) (hx : p.tables.exec = Jvm.exec) {z : UInt64} (hd : decode c.code pc = .ok (.dconst 1, 1)) (hz : FP.dconst1 = z) (hn : pc + 1 = n) (kk : own_G p e below K T (mkF m n Ls (.double z :: S))) : own_G p e below K T (mkF m pc Ls S) := by
  subst hz hn
  refine own_go (fun t k => ?_) kk
  jvm_step X.here [X.here.top, hx, hd]
  exact k
theorem own_i2d {K : Outcome → State → Prop} {pc n : Nat} {Ls : Array Slot} {S : List Value} (X : Stand p l e R s m args below meth c T locs cells slots) (hx : p.tables.exec = Jvm.exec) {i : Int32} {z : UInt64} (hd : decode c.code pc = .ok (.i2d, 1)) (hz : FP.i2d i = z) (hn : pc + 1 = n) (kk : own_G p e below K T (mkF m n Ls (.double z :: S))) : own_G p e below K T (mkF m pc Ls (.int i :: S)) := by
  subst hz hn
  refine own_go (fun t k => ?_) kk
  jvm_step X.here [X.here.top, hx, hd]
  exact k
theorem own_dmul {K : Outcome → State → Prop} {pc n : Nat} {Ls : Array Slot} {S : List Value} (X : Stand p l e R s m args below meth c T locs cells slots) (hx : p.tables.exec = Jvm.exec) {x y z : UInt64} (hd : decode c.code pc = .ok (.dmul, 1)) (hnn : FP.dmul x y &&& 0x7fffffffffffffff ≤ 0x7ff0000000000000) (hz : FP.dmul x y = z) (hn : pc + 1 = n) (kk : own_G p e below K T (mkF m n Ls (.double z :: S))) : own_G p e below K T (mkF m pc Ls (.double y :: .double x :: S)) := by
  subst hz hn
  refine own_go (fun t k => ?_) kk
  jvm_step X.here [X.here.top, hx, hd, Op.dmul.wp_number (hr := hnn)]
  exact k
theorem own_dcmp {K : Outcome → State → Prop} {pc n : Nat} {Ls : Array Slot} {S : List Value} (X : Stand p l e R s m args below meth c T locs cells slots) (hx : p.tables.exec = Jvm.exec) {x y : UInt64} {z : Int32} {o : CmpOp} (hd : decode c.code pc = .ok (.dcmp o, 1)) (hz : cmpValue (FP.dcmp x y) o = z) (hn : pc + 1 = n) (kk : own_G p e below K T (mkF m n Ls (.int z :: S))) : own_G p e below K T (mkF m pc Ls (.double y :: .double x :: S)) := by
  subst hz hn
  refine own_go (fun t k => ?_) kk
  jvm_step X.here [X.here.top, hx, hd]
  exact k
theorem own_dload {K : Outcome → State → Prop} {pc n : Nat} {Ls : Array Slot} {S : List Value} (X : Stand p l e R s m args below meth c T locs cells slots) (hx : p.tables.exec = Jvm.exec) {k : Nat} {v : UInt64} (hd : decode c.code pc = .ok (.dload k, 2)) (hl : Ls[k]? = some (.val (.double v))) (hn : pc + 2 = n) (kk : own_G p e below K T (mkF m n Ls (.double v :: S))) : own_G p e below K T (mkF m pc Ls S) := by
  subst hn
  refine own_go (fun t k => ?_) kk
  jvm_step X.here [X.here.top, hx, hd, hl]
  exact k
theorem own_dstore {K : Outcome → State → Prop} {pc n : Nat} {Ls : Array Slot} {S : List Value} (X : Stand p l e R s m args below meth c T locs cells slots) (hx : p.tables.exec = Jvm.exec) {k : Nat} {v : UInt64} {l' : Array Slot} (hd : decode c.code pc = .ok (.dstore k, 2)) (hl : storeLocals Ls k (.double v) = some l') (hn : pc + 2 = n) (kk : own_G p e below K T (mkF m n l' S)) : own_G p e below K T (mkF m pc Ls (.double v :: S)) := by
  subst hn
  refine own_go (fun t k => ?_) kk
  jvm_step X.here [X.here.top, hx, hd, hl]
  exact k
theorem own_retD (X : Stand p l e R s m args below meth c T locs cells slots) (hx : p.tables.exec = Jvm.exec) (hlk : meth.locks = false) (hret : meth.sig.returnType = some .double) {pc : Nat} {Ls : Array Slot} {z : UInt64} {rest : List Value} {Q : Option Value → Heap → List Loc → Prop} {C S : Nat} {h : Heap}
    (eT : T.heap = h) (hd : decode c.code pc = .ok (.dreturn, 1)) (hc : cells ≤ C) (hs : slots ≤ S) (hq : Q (some (.double z)) h locs) : own_G p e below (own_K Q s C S) T (mkF m pc Ls (.double z :: rest)) := by
  subst eT
  exact own_end X hlk (fun q => by rw [hret] at q; cases q) hc hs (fun fs hr => retOut X hx hret rfl (Or.inr (Or.inr (Or.inl ⟨rfl, rfl, z, rfl⟩))) hd hr) hq
end OwnWide
/-! the plain law -/
theorem own_ch (y : Int32) : nar .char ((y &&& (255 : Int32)).toUInt32.toUInt16.toUInt32.toInt32) = (y &&& (255 : Int32)) ∧ ¬ (255 : Int32) < (y &&& (255 : Int32)) := by
  have e : (y &&& (255 : Int32)).toUInt32.toUInt16.toUInt32.toInt32 = y &&& 255 := i2c_mask y
  refine ⟨?_, ?_⟩
  · show ((y &&& (255 : Int32)).toUInt32.toUInt16.toUInt32.toInt32).toUInt32.toUInt16.toUInt32.toInt32 = _
    rw [e, e]
  · have a := c_and y 255 (by decide)
    have e1 : (255 : Int32).toInt = 255 := rfl
    rw [Int32.lt_iff_toInt_lt]
    omega
theorem own_ch1 (y : Int32) : (y &&& (255 : Int32)).toUInt32.toUInt16.toUInt32.toInt32 = (y &&& (255 : Int32)) := i2c_mask y
theorem own_pn13 : plainFor (⟨"java/lang/StringLatin1", "canEncode", "(C)Z"⟩ : MethodName) = true := plainFor_of_name (by first | (simp [plainName, overriddenIn]; done) | decide +kernel)
theorem d13_0 : decode jdk_43_method_3_code 0 = .ok (.iload_n 0, 1) := by decide +kernel
theorem d13_1 : decode jdk_43_method_3_code 1 = .ok (.sipush 255, 3) := by decide +kernel
theorem d13_4 : decode jdk_43_method_3_code 4 = .ok (.if_icmp .gt 7, 3) := by decide +kernel
theorem d13_7 : decode jdk_43_method_3_code 7 = .ok (.iconst 1, 1) := by decide +kernel
theorem d13_8 : decode jdk_43_method_3_code 8 = .ok (.goto 4, 3) := by decide +kernel
theorem d13_12 : decode jdk_43_method_3_code 12 = .ok (.ireturn, 1) := by decide +kernel
theorem own_ef13_own_rm_ce (m : MethodId) (y0 : Int32) : entryFrame m #[(.int y0)] 1 = mkF m 0 #[.val (.int y0)] [] := by first | (simp [entryFrame, mkF, argsToLocals, Value.category]; done) | rfl
set_option maxRecDepth 65536 in
set_option maxHeartbeats 40000000 in
theorem own_rm_ce (l : Launch) (Z : State) (a0 : Array Value) (hw : ∀ d ∈ tables_1, d.before a0 Z = true) (p0 : Int32) (h0 : Heap) (n0 : Nat) (Z0 : n0 ≤ h0.size) (hp : ¬ (255 : Int32) < p0) :
    own_Met l Z (⟨"java/lang/StringLatin1", "canEncode", "(C)Z"⟩ : MethodName) jdk_43_method_3_code 1 (some .boolean) [] ({ frames := 0, cells := 0, slots := 0, locals := 0 } : Room) #[(.int p0)] h0 (fun v h L => v = some (.int (1 : Int32)) ∧ Fr n0 L ∧ h = h0) := by
  refine own_met own_pn13 ?_
  intro p e s m below meth c s₁ hx hby hml hown hnm hret hlk hZ X0 hE0
  have N0 := Fr.nil n0
  refine own_cast (own_ef13_own_rm_ce m p0) ?_
  refine own_iloadN (n := 1) X0 hx (hb hby d13_0) rfl rfl ?_
  refine own_sipush (n := 4) (z := (255 : Int32)) X0 hx (hb hby d13_1) rfl rfl ?_
  refine own_icmpNo (n := 7) X0 hx (hb hby d13_4) (flt hp).2.2.1 rfl ?_
  refine own_iconst (n := 8) (z := (1 : Int32)) X0 hx (hb hby d13_7) rfl rfl ?_
  refine own_goto (n := 12) X0 hx (hb hby d13_8) (by decide) (by decide) ?_
  refine own_retZ X0 hx hlk hret (by simp) hE0 (w := (1 : Int32)) rfl (hb hby d13_12) (by decide) (by decide) ?_
  exact ⟨rfl, N0, rfl⟩
theorem own_pn14 : plainFor (⟨"java/lang/StringLatin1", "toBytes", "(C)[B"⟩ : MethodName) = true := plainFor_of_name (by first | (simp [plainName, overriddenIn]; done) | decide +kernel)
theorem d14_0 : decode jdk_43_method_46_code 0 = .ok (.iconst 1, 1) := by decide +kernel
theorem d14_1 : decode jdk_43_method_46_code 1 = .ok (.newarray .byte, 2) := by decide +kernel
theorem d14_3 : decode jdk_43_method_46_code 3 = .ok (.dup, 1) := by decide +kernel
theorem d14_4 : decode jdk_43_method_46_code 4 = .ok (.iconst 0, 1) := by decide +kernel
theorem d14_5 : decode jdk_43_method_46_code 5 = .ok (.iload_n 0, 1) := by decide +kernel
theorem d14_6 : decode jdk_43_method_46_code 6 = .ok (.i2b, 1) := by decide +kernel
theorem d14_7 : decode jdk_43_method_46_code 7 = .ok (.bastore, 1) := by decide +kernel
theorem d14_8 : decode jdk_43_method_46_code 8 = .ok (.areturn, 1) := by decide +kernel
theorem own_ef14_own_rm_tb (m : MethodId) (y0 : Int32) : entryFrame m #[(.int y0)] 1 = mkF m 0 #[.val (.int y0)] [] := by first | (simp [entryFrame, mkF, argsToLocals, Value.category]; done) | rfl
set_option maxRecDepth 65536 in
set_option maxHeartbeats 40000000 in
theorem own_rm_tb (l : Launch) (Z : State) (a0 : Array Value) (hw : ∀ d ∈ tables_1, d.before a0 Z = true) (p0 : Int32) (h0 : Heap) (n0 : Nat) (Z0 : n0 ≤ h0.size)  :
    own_Met l Z (⟨"java/lang/StringLatin1", "toBytes", "(C)[B"⟩ : MethodName) jdk_43_method_46_code 1 (some (.array .byte)) [] ({ frames := 0, cells := 1, slots := 1, locals := 0 } : Room) #[(.int p0)] h0 (fun v h L => ∃ r : Addr, v = some (.ref r) ∧ Fr n0 L ∧ Keep h0 h []) := by
  refine own_met own_pn14 ?_
  intro p e s m below meth c s₁ hx hby hml hown hnm hret hlk hZ X0 hE0
  have N0 := Fr.nil n0
  refine own_cast (own_ef14_own_rm_tb m p0) ?_
  refine own_iconst (n := 1) (z := (1 : Int32)) X0 hx (hb hby d14_0) rfl rfl ?_
  refine own_newA (n := 3) X0 hx hZ own_an_byte (ww23 hw) hE0 (hb hby d14_1) (by decide) (cap := 1) (by decide) (by decide) (by decide) (by decide) rfl ?_
  intro T1 h1 k1 b1 g1 X1 e1 E1 A1 B1
  have g_b1 : n0 ≤ b1 := Nat.le_trans Z0 (Nat.le_of_eq g1.symm)
  have sz_b1 : h0.size ≤ b1 := Nat.le_trans (Keep.refl h0 []).1 (Nat.le_of_eq g1.symm)
  have K_2 := (Keep.refl h0 []).ext E1
  have Z_3 : n0 ≤ h1.size := Nat.le_trans Z0 E1.1
  have V1 : Arv Z h1 b1 k1 .byte (1 : Int32) [(.int (0 : Int32))] (.int (0 : Int32)) := (Arv.new A1 (by decide)).pad (pad_rep [] (.int (0 : Int32)) 1)
  refine own_dup (n := 4) X1 hx (hb hby d14_3) rfl rfl ?_
  refine own_iconst (n := 5) (z := (0 : Int32)) X1 hx (hb hby d14_4) rfl rfl ?_
  refine own_iloadN (n := 6) X1 hx (hb hby d14_5) rfl rfl ?_
  refine own_i2b (n := 7) X1 hx (hb hby d14_6) rfl rfl ?_
  refine own_st_bastore (n := 8) X1 hx hZ e1 V1 ⟨by decide, by decide⟩ 0 rfl (Nat.le_of_ble_eq_true rfl) (hb hby d14_7) rfl ?_
  intro T4 h4 X4 e4 W4 V4q
  have V4 : Arv Z h4 b1 k1 .byte (1 : Int32) [(.int ((p0).toInt8.toInt32).toInt8.toInt32)] (.int (0 : Int32)) := V4q
  have N4 := Fr.snoc X4 N0 g_b1
  have K_5 := K_2.wr W4 (Or.inr sz_b1)
  have Z_6 : n0 ≤ h4.size := by rw [W4.size]; exact Z_3
  refine own_retA X4 hx hlk hret rfl rfl rfl e4 (hb hby d14_8) (by decide) (by decide) ?_
  exact ⟨_, rfl, N4, K_5⟩
theorem own_pn15 : plainFor (⟨"java/lang/String", "<init>", "([BB)V"⟩ : MethodName) = true := plainFor_of_name (by first | (simp [plainName, overriddenIn]; done) | decide +kernel)
theorem d15_0 : decode jdk_42_method_151_code 0 = .ok (.aload_n 0, 1) := by decide +kernel
theorem d15_1 : decode jdk_42_method_151_code 1 = .ok (.invokespecial 1, 3) := by decide +kernel
theorem d15_4 : decode jdk_42_method_151_code 4 = .ok (.aload_n 0, 1) := by decide +kernel
theorem d15_5 : decode jdk_42_method_151_code 5 = .ok (.aload_n 1, 1) := by decide +kernel
theorem d15_6 : decode jdk_42_method_151_code 6 = .ok (.putfield 9, 3) := by decide +kernel
theorem d15_9 : decode jdk_42_method_151_code 9 = .ok (.aload_n 0, 1) := by decide +kernel
theorem d15_10 : decode jdk_42_method_151_code 10 = .ok (.iload_n 2, 1) := by decide +kernel
theorem d15_11 : decode jdk_42_method_151_code 11 = .ok (.putfield 15, 3) := by decide +kernel
theorem d15_14 : decode jdk_42_method_151_code 14 = .ok (.return_, 1) := by decide +kernel
theorem own_ef15_own_rm_sb (m : MethodId) (y0 : Addr) (y1 : Addr) (y2 : Int32) : entryFrame m #[(.ref y0), (.ref y1), (.int y2)] 3 = mkF m 0 #[.val (.ref y0), .val (.ref y1), .val (.int y2)] [] := by first | (simp [entryFrame, mkF, argsToLocals, Value.category]; done) | rfl
set_option maxRecDepth 65536 in
set_option maxHeartbeats 40000000 in
theorem own_rm_sb (l : Launch) (Z : State) (a0 : Array Value) (hw : ∀ d ∈ tables_1, d.before a0 Z = true) (a b : Addr) (h0 : Heap) (n0 : Nat) (Z0 : n0 ≤ h0.size) (E0 : Exa Z h0 a "java/lang/String") (F1 : Fld Z h0 a "java/lang/String" "value" "[B" .null) (F2 : Fld Z h0 a "java/lang/String" "coder" "B" (.int (0 : Int32))) (g_a : n0 ≤ a) :
    own_Met l Z (⟨"java/lang/String", "<init>", "([BB)V"⟩ : MethodName) jdk_42_method_151_code 3 none [] ({ frames := 1, cells := 0, slots := 0, locals := 12 } : Room) #[(.ref a), (.ref b), (.int (0 : Int32))] h0 (fun v h L => v = none ∧ Fr n0 L ∧ Keep h0 h [a]) := by
  refine own_met own_pn15 ?_
  intro p e s m below meth c s₁ hx hby hml hown hnm hret hlk hZ X0 hE0
  have N0 := Fr.nil n0
  refine own_cast (own_ef15_own_rm_sb m a b (0 : Int32)) ?_
  refine own_aloadN (n := 1) X0 hx (hb hby d15_0) rfl rfl rfl ?_
  refine own_initO (n := 4) X0 hx hZ hown (ww15 hw) (ww16 hw) (ww17 hw) hE0 (by rw [hml]; rfl) (hb hby d15_1) (Nat.le_of_ble_eq_true rfl) (Nat.le_of_ble_eq_true rfl) rfl ?_
  intro T1 X1 e1
  refine own_aloadN (n := 5) X1 hx (hb hby d15_4) rfl rfl rfl ?_
  refine own_aloadN (n := 6) X1 hx (hb hby d15_5) rfl rfl rfl ?_
  refine own_putF (n := 9) X1 hx hZ hown (host := "") (Or.inl (ww32 hw)) Via.refl e1 F1 E0 (Or.inr ⟨(ww33 hw), rfl, hnm⟩) (ww6 hw) (ty := (.array .byte)) (by decide) rfl rfl (hb hby d15_6) rfl ?_
  intro T2 h2 X2 e2 W2
  have F_3 := F1.same W2
  have N2 := Fr.snoc X2 N0 g_a
  have E_4 := E0.wr W2
  have F_5 := F2.other W2 (Or.inr (slot_ne (Or.inr (ww31 hw)) (Or.inr (ww33 hw)) (by decide) (t := .byte) (t' := (.array .byte)) (by decide) (by decide)))
  have K_6 := (Keep.refl h0 [a]).wr W2 (Or.inl (by simp))
  have Z_7 : n0 ≤ h2.size := by rw [W2.size]; exact Z0
  refine own_aloadN (n := 10) X2 hx (hb hby d15_9) rfl rfl rfl ?_
  refine own_iloadN (n := 11) X2 hx (hb hby d15_10) rfl rfl ?_
  refine own_putFN (n := 14) X2 hx hZ hown (ww30 hw) Via.refl e2 F_5 E_4 (Or.inr ⟨(ww31 hw), rfl, hnm⟩) (ww6 hw) (ty := .byte) (v' := (.int (0 : Int32))) (by decide) rfl (by decide) (hb hby d15_11) rfl ?_
  intro T8 h8 X8 e8 W8
  have F_9 := F_5.same W8
  have N8 := Fr.snoc X8 N2 g_a
  have E_10 := E_4.wr W8
  have K_11 := K_6.wr W8 (Or.inl (by simp))
  have F_12 := F_3.other W8 (Or.inr (slot_ne (Or.inr (ww33 hw)) (Or.inr (ww31 hw)) (by decide) (t := (.array .byte)) (t' := .byte) (by decide) (by decide)))
  have Z_13 : n0 ≤ h8.size := by rw [W8.size]; exact Z_7
  refine own_retV X8 hx hlk hret e8 (hb hby d15_14) (by decide) (by decide) ?_
  exact ⟨rfl, N8, K_11⟩
theorem own_pn12 : plainFor (⟨"java/lang/String", "valueOf", "(C)Ljava/lang/String;"⟩ : MethodName) = true := plainFor_of_name (by first | (simp [plainName, overriddenIn]; done) | decide +kernel)
theorem d12_0 : decode jdk_42_method_139_code 0 = .ok (.getstatic 38, 3) := by decide +kernel
theorem d12_3 : decode jdk_42_method_139_code 3 = .ok (.ifCond .eq 23, 3) := by decide +kernel
theorem d12_6 : decode jdk_42_method_139_code 6 = .ok (.iload_n 0, 1) := by decide +kernel
theorem d12_7 : decode jdk_42_method_139_code 7 = .ok (.invokestatic 1015, 3) := by decide +kernel
theorem own_pd0 : parseMethodDescriptor "(C)Z" = some ⟨[.char], some .boolean⟩ := by decide +kernel
theorem d12_10 : decode jdk_42_method_139_code 10 = .ok (.ifCond .eq 16, 3) := by decide +kernel
theorem d12_13 : decode jdk_42_method_139_code 13 = .ok (.new 10, 3) := by decide +kernel
theorem d12_16 : decode jdk_42_method_139_code 16 = .ok (.dup, 1) := by decide +kernel
theorem d12_17 : decode jdk_42_method_139_code 17 = .ok (.iload_n 0, 1) := by decide +kernel
theorem d12_18 : decode jdk_42_method_139_code 18 = .ok (.invokestatic 1018, 3) := by decide +kernel
theorem own_pd1 : parseMethodDescriptor "(C)[B" = some ⟨[.char], some (.array .byte)⟩ := by decide +kernel
theorem d12_21 : decode jdk_42_method_139_code 21 = .ok (.iconst 0, 1) := by decide +kernel
theorem d12_22 : decode jdk_42_method_139_code 22 = .ok (.invokespecial 209, 3) := by decide +kernel
theorem own_pd2 : parseMethodDescriptor "([BB)V" = some ⟨[(.array .byte), .byte], none⟩ := by decide +kernel
theorem d12_25 : decode jdk_42_method_139_code 25 = .ok (.areturn, 1) := by decide +kernel
theorem own_ef12_own_rm_vo (m : MethodId) (y0 : Int32) : entryFrame m #[(.int y0)] 1 = mkF m 0 #[.val (.int y0)] [] := by first | (simp [entryFrame, mkF, argsToLocals, Value.category]; done) | rfl
set_option maxRecDepth 65536 in
set_option maxHeartbeats 40000000 in
theorem own_rm_vo (l : Launch) (Z : State) (a0 : Array Value) (hw : ∀ d ∈ tables_1, d.before a0 Z = true) (p0 cst : Int32) (h0 : Heap) (n0 : Nat) (Z0 : n0 ≤ h0.size) (S0 : Sta Z h0 "java/lang/String" "COMPACT_STRINGS" "Z" (.int cst)) (hcs : ¬ cst = (0 : Int32)) (hp : ¬ (255 : Int32) < p0) :
    own_Met l Z (⟨"java/lang/String", "valueOf", "(C)Ljava/lang/String;"⟩ : MethodName) jdk_42_method_139_code 1 (some (.object "java/lang/String")) [] ({ frames := 2, cells := 2, slots := 5, locals := 27 } : Room) #[(.int p0)] h0 (fun v h L => ∃ r : Addr, v = some (.ref r) ∧ Fr n0 L ∧ Keep h0 h []) := by
  refine own_met own_pn12 ?_
  intro p e s m below meth c s₁ hx hby hml hown hnm hret hlk hZ X0 hE0
  have N0 := Fr.nil n0
  refine own_cast (own_ef12_own_rm_vo m p0) ?_
  refine own_getS (n := 3) X0 hx hZ hown (host := "") (Or.inl (ww18 hw)) Via.refl hE0 S0 (hb hby d12_0) rfl ?_
  intro T1 X1 e1
  refine own_ifNo (n := 6) X1 hx (hb hby d12_3) (feq hcs).1 rfl ?_
  refine own_iloadN (n := 7) X1 hx (hb hby d12_6) rfl rfl ?_
  refine own_S (n := 10) (argsL := [(.int p0)]) (rest := []) X1 hx hZ hown (own_rm_ce l Z a0 hw p0 h0 n0 Z0 hp) (ww73 hw) (ww74 hw) (ww75 hw) (ww76 hw) (by decide) e1 (by rw [hml]; rfl) (lenOf own_pd0 rfl) rfl (hb hby d12_7) (Nat.le_of_ble_eq_true rfl) (Nat.le_of_ble_eq_true rfl) (Nat.le_of_ble_eq_true rfl) (Nat.le_of_ble_eq_true rfl) rfl ?_
  rintro v2 T2 L2 X2 ⟨rfl, Nq2, eq2⟩
  have N2 := Fr.app N0 Nq2
  change own_G p e below _ _ (mkF m 10 _ [(.int (1 : Int32))])
  refine own_ifNo (n := 13) X2 hx (hb hby d12_10) (feq (by decide : ¬ ((1 : Int32) = (0 : Int32)))).1 rfl ?_
  refine own_new (n := 16) X2 hx hZ hown (ww77 hw) (ww6 hw) (ww7 hw) eq2 (hb hby d12_13) (by decide) (by decide) rfl ?_
  intro T3 h3 b3 g3 X3 e3 E3 A3 D3
  have g_b3 : n0 ≤ b3 := Nat.le_trans Z0 (Nat.le_of_eq g3.symm)
  have sz_b3 : h0.size ≤ b3 := Nat.le_trans (Keep.refl h0 []).1 (Nat.le_of_eq g3.symm)
  have S_4 := S0.ext E3
  have K_5 := (Keep.refl h0 []).ext E3
  have Z_6 : n0 ≤ h3.size := Nat.le_trans Z0 E3.1
  have F_7 : Fld Z h3 b3 "java/lang/String" "coder" "B" (.int (0 : Int32)) := D3 (Or.inr (ww31 hw)) (ty := .byte) (by decide)
  have F_8 : Fld Z h3 b3 "java/lang/String" "value" "[B" .null := D3 (Or.inr (ww33 hw)) (ty := (.array .byte)) (by decide)
  refine own_dup (n := 17) X3 hx (hb hby d12_16) rfl rfl ?_
  refine own_iloadN (n := 18) X3 hx (hb hby d12_17) rfl rfl ?_
  refine own_S (n := 21) (argsL := [(.int p0)]) (rest := [(.ref b3), (.ref b3)]) X3 hx hZ hown (own_rm_tb l Z a0 hw p0 h3 n0 Z_6) (ww78 hw) (ww79 hw) (ww75 hw) (ww80 hw) (by decide) e3 (by rw [hml]; rfl) (lenOf own_pd1 rfl) rfl (hb hby d12_18) (Nat.le_of_ble_eq_true rfl) (Nat.le_of_ble_eq_true rfl) (Nat.le_of_ble_eq_true rfl) (Nat.le_of_ble_eq_true rfl) rfl ?_
  rintro v9 T9 L9 X9 ⟨y9, rfl, Nq9, K9⟩
  have N9 := Fr.app N2 Nq9
  have S_10 := own_StaKeep0 S_4 K9
  have K_11 := K_5.trans K9 (fun x hx => nomatch hx)
  have E_12 := A3.keep K9
  have F_13 := F_7.keep K9 (by simp)
  have F_14 := F_8.keep K9 (by simp)
  have Z_15 : n0 ≤ T9.heap.size := Nat.le_trans Z_6 K9.1
  change own_G p e below _ _ (mkF m 21 _ [(.ref y9), (.ref b3), (.ref b3)])
  refine own_iconst (n := 22) (z := (0 : Int32)) X9 hx (hb hby d12_21) rfl rfl ?_
  refine own_I (n := 25) (argsL := [(.ref y9), (.int (0 : Int32))]) (rest := [(.ref b3)]) (a := b3) (by rfl) X9 hx hZ hown (own_rm_sb l Z a0 hw b3 y9 T9.heap n0 Z_15 E_12 F_14 F_13 g_b3) (ww81 hw) (ww82 hw) (ww7 hw) (ww83 hw) (by decide) rfl (by rw [hml]; rfl) (lenOf own_pd2 rfl) rfl (hb hby d12_22) (Nat.le_of_ble_eq_true rfl) (Nat.le_of_ble_eq_true rfl) (Nat.le_of_ble_eq_true rfl) (Nat.le_of_ble_eq_true rfl) rfl ?_
  rintro v16 T16 L16 X16 ⟨rfl, Nq16, K16⟩
  have N16 := Fr.app N9 Nq16
  have S_17 := own_StaKeep S_10 K16 E_12
  have K_18 := K_11.trans K16 (fun x hx => by cases List.mem_singleton.mp hx; exact (Or.inr sz_b3))
  have E_19 := E_12.keep K16
  have Z_20 : n0 ≤ T16.heap.size := Nat.le_trans Z_15 K16.1
  change own_G p e below _ _ (mkF m 25 _ [(.ref b3)])
  refine own_retA X16 hx hlk hret rfl rfl rfl rfl (hb hby d12_25) (by decide) (by decide) ?_
  exact ⟨_, rfl, N16, K_18⟩
theorem own_pn6 : plainFor (⟨"java/lang/StringUTF16", "compress", "([CI[BII)I"⟩ : MethodName) = true := plainFor_of_name (by first | (simp [plainName, overriddenIn]; done) | decide +kernel)
theorem d6_0 : decode jdk_52_method_21_code 0 = .ok (.iconst 0, 1) := by decide +kernel
theorem d6_1 : decode jdk_52_method_21_code 1 = .ok (.istore 5, 2) := by decide +kernel
theorem d6_3 : decode jdk_52_method_21_code 3 = .ok (.iload 5, 2) := by decide +kernel
theorem d6_5 : decode jdk_52_method_21_code 5 = .ok (.iload 4, 2) := by decide +kernel
theorem d6_7 : decode jdk_52_method_21_code 7 = .ok (.if_icmp .ge 37, 3) := by decide +kernel
theorem d6_10 : decode jdk_52_method_21_code 10 = .ok (.aload_n 0, 1) := by decide +kernel
theorem d6_11 : decode jdk_52_method_21_code 11 = .ok (.iload_n 1, 1) := by decide +kernel
theorem d6_12 : decode jdk_52_method_21_code 12 = .ok (.caload, 1) := by decide +kernel
theorem d6_13 : decode jdk_52_method_21_code 13 = .ok (.istore 6, 2) := by decide +kernel
theorem d6_15 : decode jdk_52_method_21_code 15 = .ok (.iload 6, 2) := by decide +kernel
theorem d6_17 : decode jdk_52_method_21_code 17 = .ok (.sipush 255, 3) := by decide +kernel
theorem d6_20 : decode jdk_52_method_21_code 20 = .ok (.if_icmp .le 6, 3) := by decide +kernel
theorem d6_26 : decode jdk_52_method_21_code 26 = .ok (.aload_n 2, 1) := by decide +kernel
theorem d6_27 : decode jdk_52_method_21_code 27 = .ok (.iload_n 3, 1) := by decide +kernel
theorem d6_28 : decode jdk_52_method_21_code 28 = .ok (.iload 6, 2) := by decide +kernel
theorem d6_30 : decode jdk_52_method_21_code 30 = .ok (.i2b, 1) := by decide +kernel
theorem d6_31 : decode jdk_52_method_21_code 31 = .ok (.bastore, 1) := by decide +kernel
theorem d6_32 : decode jdk_52_method_21_code 32 = .ok (.iinc 1 1, 3) := by decide +kernel
theorem d6_35 : decode jdk_52_method_21_code 35 = .ok (.iinc 3 1, 3) := by decide +kernel
theorem d6_38 : decode jdk_52_method_21_code 38 = .ok (.iinc 5 1, 3) := by decide +kernel
theorem d6_41 : decode jdk_52_method_21_code 41 = .ok (.goto (-38), 3) := by decide +kernel
theorem d6_44 : decode jdk_52_method_21_code 44 = .ok (.iload 4, 2) := by decide +kernel
theorem d6_46 : decode jdk_52_method_21_code 46 = .ok (.ireturn, 1) := by decide +kernel
theorem own_ef6_own_rm_c5 (m : MethodId) (y0 : Addr) (y1 : Int32) (y2 : Addr) (y3 : Int32) (y4 : Int32) : entryFrame m #[(.ref y0), (.int y1), (.ref y2), (.int y3), (.int y4)] 7 = mkF m 0 #[.val (.ref y0), .val (.int y1), .val (.ref y2), .val (.int y3), .val (.int y4), .unset, .unset] [] := by first | (simp [entryFrame, mkF, argsToLocals, Value.category]; done) | rfl
set_option maxRecDepth 65536 in
set_option maxHeartbeats 40000000 in
theorem own_rm_c5 (l : Launch) (Z : State) (a0 : Array Value) (hw : ∀ d ∈ tables_1, d.before a0 Z = true) (a b : Addr) (ka kb : ClassId) (c0 c1 : Int32) (h0 : Heap) (n0 : Nat) (Z0 : n0 ≤ h0.size) (V0 : Arv Z h0 a ka .char (2 : Int32) [(.int c0), (.int c1)] (.int (0 : Int32))) (V1 : Arv Z h0 b kb .byte (2 : Int32) [(.int (0 : Int32)), (.int (0 : Int32))] (.int (0 : Int32))) (hab : a ≠ b) (g_b : n0 ≤ b) (h0c : ¬ (255 : Int32) < c0) (h1c : ¬ (255 : Int32) < c1) :
    own_Met l Z (⟨"java/lang/StringUTF16", "compress", "([CI[BII)I"⟩ : MethodName) jdk_52_method_21_code 7 (some .int) [] ({ frames := 0, cells := 0, slots := 0, locals := 0 } : Room) #[(.ref a), (.int (0 : Int32)), (.ref b), (.int (0 : Int32)), (.int (2 : Int32))] h0 (fun v h L => ∃ w0 w1 : Int32, v = some (.int (2 : Int32)) ∧ Fr n0 L ∧ Keep h0 h [b] ∧ Arv Z h b kb .byte (2 : Int32) [(.int w0), (.int w1)] (.int (0 : Int32))) := by
  refine own_met own_pn6 ?_
  intro p e s m below meth c s₁ hx hby hml hown hnm hret hlk hZ X0 hE0
  have N0 := Fr.nil n0
  refine own_cast (own_ef6_own_rm_c5 m a (0 : Int32) b (0 : Int32) (2 : Int32)) ?_
  refine own_iconst (n := 1) (z := (0 : Int32)) X0 hx (hb hby d6_0) rfl rfl ?_
  refine own_istore (n := 3) (l' := #[.val (.ref a), .val (.int (0 : Int32)), .val (.ref b), .val (.int (0 : Int32)), .val (.int (2 : Int32)), .val (.int (0 : Int32)), .unset]) X0 hx (hb hby d6_1) rfl rfl ?_
  refine own_iload (n := 5) X0 hx (hb hby d6_3) rfl rfl ?_
  refine own_iload (n := 7) X0 hx (hb hby d6_5) rfl rfl ?_
  refine own_icmpNo (n := 10) X0 hx (hb hby d6_7) (tlt (by decide : (0 : Int32) < (2 : Int32))).2.1 rfl ?_
  refine own_aloadN (n := 11) X0 hx (hb hby d6_10) rfl rfl rfl ?_
  refine own_iloadN (n := 12) X0 hx (hb hby d6_11) rfl rfl ?_
  refine own_ld_caload (n := 13) (v := (.int c0)) X0 hx hZ hE0 V0 ⟨by decide, by decide⟩ rfl (hb hby d6_12) rfl ?_
  refine own_istore (n := 15) (l' := #[.val (.ref a), .val (.int (0 : Int32)), .val (.ref b), .val (.int (0 : Int32)), .val (.int (2 : Int32)), .val (.int (0 : Int32)), .val (.int c0)]) X0 hx (hb hby d6_13) rfl rfl ?_
  refine own_iload (n := 17) X0 hx (hb hby d6_15) rfl rfl ?_
  refine own_sipush (n := 20) (z := (255 : Int32)) X0 hx (hb hby d6_17) rfl rfl ?_
  refine own_icmpYes (n := 26) X0 hx (hb hby d6_20) (flt h0c).2.2.2 (by decide) (by decide) ?_
  refine own_aloadN (n := 27) X0 hx (hb hby d6_26) rfl rfl rfl ?_
  refine own_iloadN (n := 28) X0 hx (hb hby d6_27) rfl rfl ?_
  refine own_iload (n := 30) X0 hx (hb hby d6_28) rfl rfl ?_
  refine own_i2b (n := 31) X0 hx (hb hby d6_30) rfl rfl ?_
  refine own_st_bastore (n := 32) X0 hx hZ hE0 V1 ⟨by decide, by decide⟩ 0 rfl (Nat.le_of_ble_eq_true rfl) (hb hby d6_31) rfl ?_
  intro T1 h1 X1 e1 W1 V1q
  have V1 : Arv Z h1 b kb .byte (2 : Int32) [(.int ((c0).toInt8.toInt32).toInt8.toInt32), (.int (0 : Int32))] (.int (0 : Int32)) := V1q
  have N1 := Fr.snoc X1 N0 g_b
  have A_2 := V0.other W1 hab
  have K_3 := (Keep.refl h0 [b]).wr W1 (Or.inl (by simp))
  have Z_4 : n0 ≤ h1.size := by rw [W1.size]; exact Z0
  refine own_iinc (n := 35) (z := (1 : Int32)) (l' := #[.val (.ref a), .val (.int (1 : Int32)), .val (.ref b), .val (.int (0 : Int32)), .val (.int (2 : Int32)), .val (.int (0 : Int32)), .val (.int c0)]) X1 hx (hb hby d6_32) rfl rfl rfl rfl ?_
  refine own_iinc (n := 38) (z := (1 : Int32)) (l' := #[.val (.ref a), .val (.int (1 : Int32)), .val (.ref b), .val (.int (1 : Int32)), .val (.int (2 : Int32)), .val (.int (0 : Int32)), .val (.int c0)]) X1 hx (hb hby d6_35) rfl rfl rfl rfl ?_
  refine own_iinc (n := 41) (z := (1 : Int32)) (l' := #[.val (.ref a), .val (.int (1 : Int32)), .val (.ref b), .val (.int (1 : Int32)), .val (.int (2 : Int32)), .val (.int (1 : Int32)), .val (.int c0)]) X1 hx (hb hby d6_38) rfl rfl rfl rfl ?_
  refine own_goto (n := 3) X1 hx (hb hby d6_41) (by decide) (by decide) ?_
  refine own_iload (n := 5) X1 hx (hb hby d6_3) rfl rfl ?_
  refine own_iload (n := 7) X1 hx (hb hby d6_5) rfl rfl ?_
  refine own_icmpNo (n := 10) X1 hx (hb hby d6_7) (tlt (by decide : (1 : Int32) < (2 : Int32))).2.1 rfl ?_
  refine own_aloadN (n := 11) X1 hx (hb hby d6_10) rfl rfl rfl ?_
  refine own_iloadN (n := 12) X1 hx (hb hby d6_11) rfl rfl ?_
  refine own_ld_caload (n := 13) (v := (.int c1)) X1 hx hZ e1 A_2 ⟨by decide, by decide⟩ rfl (hb hby d6_12) rfl ?_
  refine own_istore (n := 15) (l' := #[.val (.ref a), .val (.int (1 : Int32)), .val (.ref b), .val (.int (1 : Int32)), .val (.int (2 : Int32)), .val (.int (1 : Int32)), .val (.int c1)]) X1 hx (hb hby d6_13) rfl rfl ?_
  refine own_iload (n := 17) X1 hx (hb hby d6_15) rfl rfl ?_
  refine own_sipush (n := 20) (z := (255 : Int32)) X1 hx (hb hby d6_17) rfl rfl ?_
  refine own_icmpYes (n := 26) X1 hx (hb hby d6_20) (flt h1c).2.2.2 (by decide) (by decide) ?_
  refine own_aloadN (n := 27) X1 hx (hb hby d6_26) rfl rfl rfl ?_
  refine own_iloadN (n := 28) X1 hx (hb hby d6_27) rfl rfl ?_
  refine own_iload (n := 30) X1 hx (hb hby d6_28) rfl rfl ?_
  refine own_i2b (n := 31) X1 hx (hb hby d6_30) rfl rfl ?_
  refine own_st_bastore (n := 32) X1 hx hZ e1 V1 ⟨by decide, by decide⟩ 1 rfl (Nat.le_of_ble_eq_true rfl) (hb hby d6_31) rfl ?_
  intro T5 h5 X5 e5 W5 V5q
  have V5 : Arv Z h5 b kb .byte (2 : Int32) [(.int ((c0).toInt8.toInt32).toInt8.toInt32), (.int ((c1).toInt8.toInt32).toInt8.toInt32)] (.int (0 : Int32)) := V5q
  have N5 := Fr.snoc X5 N1 g_b
  have A_6 := A_2.other W5 hab
  have K_7 := K_3.wr W5 (Or.inl (by simp))
  have Z_8 : n0 ≤ h5.size := by rw [W5.size]; exact Z_4
  refine own_iinc (n := 35) (z := (2 : Int32)) (l' := #[.val (.ref a), .val (.int (2 : Int32)), .val (.ref b), .val (.int (1 : Int32)), .val (.int (2 : Int32)), .val (.int (1 : Int32)), .val (.int c1)]) X5 hx (hb hby d6_32) rfl rfl rfl rfl ?_
  refine own_iinc (n := 38) (z := (2 : Int32)) (l' := #[.val (.ref a), .val (.int (2 : Int32)), .val (.ref b), .val (.int (2 : Int32)), .val (.int (2 : Int32)), .val (.int (1 : Int32)), .val (.int c1)]) X5 hx (hb hby d6_35) rfl rfl rfl rfl ?_
  refine own_iinc (n := 41) (z := (2 : Int32)) (l' := #[.val (.ref a), .val (.int (2 : Int32)), .val (.ref b), .val (.int (2 : Int32)), .val (.int (2 : Int32)), .val (.int (2 : Int32)), .val (.int c1)]) X5 hx (hb hby d6_38) rfl rfl rfl rfl ?_
  refine own_goto (n := 3) X5 hx (hb hby d6_41) (by decide) (by decide) ?_
  refine own_iload (n := 5) X5 hx (hb hby d6_3) rfl rfl ?_
  refine own_iload (n := 7) X5 hx (hb hby d6_5) rfl rfl ?_
  refine own_icmpYes (n := 44) X5 hx (hb hby d6_7) (flt (by decide : ¬ ((2 : Int32) < (2 : Int32)))).2.1 (by decide) (by decide) ?_
  refine own_iload (n := 46) X5 hx (hb hby d6_44) rfl rfl ?_
  refine own_retI X5 hx hlk hret e5 (hb hby d6_46) (by decide) (by decide) ?_
  exact ⟨_, _, rfl, N5, K_7, V5⟩
theorem own_pn5 : plainFor (⟨"java/lang/StringUTF16", "compress", "([CII)[B"⟩ : MethodName) = true := plainFor_of_name (by first | (simp [plainName, overriddenIn]; done) | decide +kernel)
theorem d5_0 : decode jdk_52_method_16_code 0 = .ok (.iload_n 2, 1) := by decide +kernel
theorem d5_1 : decode jdk_52_method_16_code 1 = .ok (.newarray .byte, 2) := by decide +kernel
theorem d5_3 : decode jdk_52_method_16_code 3 = .ok (.astore_n 3, 1) := by decide +kernel
theorem d5_4 : decode jdk_52_method_16_code 4 = .ok (.aload_n 0, 1) := by decide +kernel
theorem d5_5 : decode jdk_52_method_16_code 5 = .ok (.iload_n 1, 1) := by decide +kernel
theorem d5_6 : decode jdk_52_method_16_code 6 = .ok (.aload_n 3, 1) := by decide +kernel
theorem d5_7 : decode jdk_52_method_16_code 7 = .ok (.iconst 0, 1) := by decide +kernel
theorem d5_8 : decode jdk_52_method_16_code 8 = .ok (.iload_n 2, 1) := by decide +kernel
theorem d5_9 : decode jdk_52_method_16_code 9 = .ok (.invokestatic 115, 3) := by decide +kernel
theorem own_pd3 : parseMethodDescriptor "([CI[BII)I" = some ⟨[(.array .char), .int, (.array .byte), .int, .int], some .int⟩ := by decide +kernel
theorem d5_12 : decode jdk_52_method_16_code 12 = .ok (.istore 4, 2) := by decide +kernel
theorem d5_14 : decode jdk_52_method_16_code 14 = .ok (.iload 4, 2) := by decide +kernel
theorem d5_16 : decode jdk_52_method_16_code 16 = .ok (.iload_n 2, 1) := by decide +kernel
theorem d5_17 : decode jdk_52_method_16_code 17 = .ok (.if_icmp .eq 40, 3) := by decide +kernel
theorem d5_57 : decode jdk_52_method_16_code 57 = .ok (.aload_n 3, 1) := by decide +kernel
theorem d5_58 : decode jdk_52_method_16_code 58 = .ok (.areturn, 1) := by decide +kernel
theorem own_ef5_own_rm_c6 (m : MethodId) (y0 : Addr) (y1 : Int32) (y2 : Int32) : entryFrame m #[(.ref y0), (.int y1), (.int y2)] 6 = mkF m 0 #[.val (.ref y0), .val (.int y1), .val (.int y2), .unset, .unset, .unset] [] := by first | (simp [entryFrame, mkF, argsToLocals, Value.category]; done) | rfl
set_option maxRecDepth 65536 in
set_option maxHeartbeats 40000000 in
theorem own_rm_c6 (l : Launch) (Z : State) (a0 : Array Value) (hw : ∀ d ∈ tables_1, d.before a0 Z = true) (a : Addr) (ka : ClassId) (c0 c1 : Int32) (h0 : Heap) (n0 : Nat) (Z0 : n0 ≤ h0.size) (V0 : Arv Z h0 a ka .char (2 : Int32) [(.int c0), (.int c1)] (.int (0 : Int32))) (h0c : ¬ (255 : Int32) < c0) (h1c : ¬ (255 : Int32) < c1) :
    own_Met l Z (⟨"java/lang/StringUTF16", "compress", "([CII)[B"⟩ : MethodName) jdk_52_method_16_code 6 (some (.array .byte)) [] ({ frames := 1, cells := 1, slots := 2, locals := 18 } : Room) #[(.ref a), (.int (0 : Int32)), (.int (2 : Int32))] h0 (fun v h L => ∃ (b : Addr) (kb : ClassId) (w0 w1 : Int32), v = some (.ref b) ∧ Fr n0 L ∧ Keep h0 h [] ∧ Arv Z h b kb .byte (2 : Int32) [(.int w0), (.int w1)] (.int (0 : Int32)) ∧ h0.size ≤ b) := by
  refine own_met own_pn5 ?_
  intro p e s m below meth c s₁ hx hby hml hown hnm hret hlk hZ X0 hE0
  have N0 := Fr.nil n0
  refine own_cast (own_ef5_own_rm_c6 m a (0 : Int32) (2 : Int32)) ?_
  refine own_iloadN (n := 1) X0 hx (hb hby d5_0) rfl rfl ?_
  refine own_newA (n := 3) X0 hx hZ own_an_byte (ww23 hw) hE0 (hb hby d5_1) (by decide) (cap := 2) (by decide) (by decide) (by decide) (by decide) rfl ?_
  intro T1 h1 k1 b1 g1 X1 e1 E1 A1 B1
  have g_b1 : n0 ≤ b1 := Nat.le_trans Z0 (Nat.le_of_eq g1.symm)
  have sz_b1 : h0.size ≤ b1 := Nat.le_trans (Keep.refl h0 []).1 (Nat.le_of_eq g1.symm)
  have ne_a_b1 : a ≠ b1 := own_ne V0.lt g1
  have A_2 := V0.ext E1
  have K_3 := (Keep.refl h0 []).ext E1
  have Z_4 : n0 ≤ h1.size := Nat.le_trans Z0 E1.1
  have V1 : Arv Z h1 b1 k1 .byte (2 : Int32) [(.int (0 : Int32)), (.int (0 : Int32))] (.int (0 : Int32)) := (Arv.new A1 (by decide)).pad (pad_rep [] (.int (0 : Int32)) 2)
  refine own_astoreN (n := 4) (l' := #[.val (.ref a), .val (.int (0 : Int32)), .val (.int (2 : Int32)), .val (.ref b1), .unset, .unset]) X1 hx (hb hby d5_3) rfl rfl rfl ?_
  refine own_aloadN (n := 5) X1 hx (hb hby d5_4) rfl rfl rfl ?_
  refine own_iloadN (n := 6) X1 hx (hb hby d5_5) rfl rfl ?_
  refine own_aloadN (n := 7) X1 hx (hb hby d5_6) rfl rfl rfl ?_
  refine own_iconst (n := 8) (z := (0 : Int32)) X1 hx (hb hby d5_7) rfl rfl ?_
  refine own_iloadN (n := 9) X1 hx (hb hby d5_8) rfl rfl ?_
  refine own_S (n := 12) (argsL := [(.ref a), (.int (0 : Int32)), (.ref b1), (.int (0 : Int32)), (.int (2 : Int32))]) (rest := []) X1 hx hZ hown (own_rm_c5 l Z a0 hw a b1 ka k1 c0 c1 h1 n0 Z_4 A_2 V1 (ne_a_b1) g_b1 h0c h1c) (ww24 hw) (ww25 hw) (ww21 hw) (ww26 hw) (by decide) e1 (by rw [hml]; rfl) (lenOf own_pd3 rfl) rfl (hb hby d5_9) (Nat.le_of_ble_eq_true rfl) (Nat.le_of_ble_eq_true rfl) (Nat.le_of_ble_eq_true rfl) (Nat.le_of_ble_eq_true rfl) rfl ?_
  rintro v5 T5 L5 X5 ⟨w05, w15, rfl, Nq5, K5, Vq5⟩
  have N5 := Fr.app N0 Nq5
  have A_6 := A_2.keep K5 (by simp [ne_a_b1])
  have K_7 := K_3.trans K5 (fun x hx => by cases List.mem_singleton.mp hx; exact (Or.inr sz_b1))
  have Z_8 : n0 ≤ T5.heap.size := Nat.le_trans Z_4 K5.1
  change own_G p e below _ _ (mkF m 12 _ [(.int (2 : Int32))])
  refine own_istore (n := 14) (l' := #[.val (.ref a), .val (.int (0 : Int32)), .val (.int (2 : Int32)), .val (.ref b1), .val (.int (2 : Int32)), .unset]) X5 hx (hb hby d5_12) rfl rfl ?_
  refine own_iload (n := 16) X5 hx (hb hby d5_14) rfl rfl ?_
  refine own_iloadN (n := 17) X5 hx (hb hby d5_16) rfl rfl ?_
  refine own_icmpYes (n := 57) X5 hx (hb hby d5_17) (teq (by decide : (2 : Int32) = (2 : Int32))).1 (by decide) (by decide) ?_
  refine own_aloadN (n := 58) X5 hx (hb hby d5_57) rfl rfl rfl ?_
  refine own_retA X5 hx hlk hret rfl rfl rfl rfl (hb hby d5_58) (by decide) (by decide) ?_
  exact ⟨b1, k1, _, _, rfl, N5, K_7, Vq5, sz_b1⟩
theorem own_pn7 : plainFor (⟨"java/lang/StringUTF16", "coderFromArrayLen", "([BI)B"⟩ : MethodName) = true := plainFor_of_name (by first | (simp [plainName, overriddenIn]; done) | decide +kernel)
theorem d7_0 : decode jdk_52_method_15_code 0 = .ok (.iload_n 1, 1) := by decide +kernel
theorem d7_1 : decode jdk_52_method_15_code 1 = .ok (.aload_n 0, 1) := by decide +kernel
theorem d7_2 : decode jdk_52_method_15_code 2 = .ok (.arraylength, 1) := by decide +kernel
theorem d7_3 : decode jdk_52_method_15_code 3 = .ok (.isub, 1) := by decide +kernel
theorem d7_4 : decode jdk_52_method_15_code 4 = .ok (.bipush 31, 2) := by decide +kernel
theorem d7_6 : decode jdk_52_method_15_code 6 = .ok (.iushr, 1) := by decide +kernel
theorem d7_7 : decode jdk_52_method_15_code 7 = .ok (.i2b, 1) := by decide +kernel
theorem d7_8 : decode jdk_52_method_15_code 8 = .ok (.ireturn, 1) := by decide +kernel
theorem own_ef7_own_rm_cf (m : MethodId) (y0 : Addr) (y1 : Int32) : entryFrame m #[(.ref y0), (.int y1)] 2 = mkF m 0 #[.val (.ref y0), .val (.int y1)] [] := by first | (simp [entryFrame, mkF, argsToLocals, Value.category]; done) | rfl
set_option maxRecDepth 65536 in
set_option maxHeartbeats 40000000 in
theorem own_rm_cf (l : Launch) (Z : State) (a0 : Array Value) (hw : ∀ d ∈ tables_1, d.before a0 Z = true) (a : Addr) (ka : ClassId) (c0 c1 : Int32) (h0 : Heap) (n0 : Nat) (Z0 : n0 ≤ h0.size) (V0 : Arv Z h0 a ka .byte (2 : Int32) [(.int c0), (.int c1)] (.int (0 : Int32))) :
    own_Met l Z (⟨"java/lang/StringUTF16", "coderFromArrayLen", "([BI)B"⟩ : MethodName) jdk_52_method_15_code 2 (some .byte) [] ({ frames := 0, cells := 0, slots := 0, locals := 0 } : Room) #[(.ref a), (.int (2 : Int32))] h0 (fun v h L => v = some (.int (0 : Int32)) ∧ Fr n0 L ∧ h = h0) := by
  refine own_met own_pn7 ?_
  intro p e s m below meth c s₁ hx hby hml hown hnm hret hlk hZ X0 hE0
  have N0 := Fr.nil n0
  refine own_cast (own_ef7_own_rm_cf m a (2 : Int32)) ?_
  refine own_iloadN (n := 1) X0 hx (hb hby d7_0) rfl rfl ?_
  refine own_aloadN (n := 2) X0 hx (hb hby d7_1) rfl rfl rfl ?_
  refine own_len (n := 3) X0 hx hZ hE0 V0 (hb hby d7_2) rfl ?_
  refine own_isub (n := 4) (z := (0 : Int32)) X0 hx (hb hby d7_3) rfl rfl ?_
  refine own_bipush (n := 6) (z := (31 : Int32)) X0 hx (hb hby d7_4) rfl rfl ?_
  refine own_iushr (n := 7) (z := (0 : Int32)) X0 hx (hb hby d7_6) rfl rfl ?_
  refine own_i2b (n := 8) (z := (0 : Int32)) X0 hx (hb hby d7_7) rfl rfl ?_
  refine own_retZ X0 hx hlk hret (by simp) hE0 (w := (0 : Int32)) rfl (hb hby d7_8) (by decide) (by decide) ?_
  exact ⟨rfl, N0, rfl⟩
theorem own_pn3 : plainFor (⟨"java/lang/String", "<init>", "([CIILjava/lang/Void;)V"⟩ : MethodName) = true := plainFor_of_name (by first | (simp [plainName, overriddenIn]; done) | decide +kernel)
theorem d3_0 : decode jdk_42_method_149_code 0 = .ok (.aload_n 0, 1) := by decide +kernel
theorem d3_1 : decode jdk_42_method_149_code 1 = .ok (.invokespecial 1, 3) := by decide +kernel
theorem d3_4 : decode jdk_42_method_149_code 4 = .ok (.iload_n 3, 1) := by decide +kernel
theorem d3_5 : decode jdk_42_method_149_code 5 = .ok (.ifCond .ne 22, 3) := by decide +kernel
theorem d3_27 : decode jdk_42_method_149_code 27 = .ok (.getstatic 38, 3) := by decide +kernel
theorem d3_30 : decode jdk_42_method_149_code 30 = .ok (.ifCond .eq 28, 3) := by decide +kernel
theorem d3_33 : decode jdk_42_method_149_code 33 = .ok (.aload_n 1, 1) := by decide +kernel
theorem d3_34 : decode jdk_42_method_149_code 34 = .ok (.iload_n 2, 1) := by decide +kernel
theorem d3_35 : decode jdk_42_method_149_code 35 = .ok (.iload_n 3, 1) := by decide +kernel
theorem d3_36 : decode jdk_42_method_149_code 36 = .ok (.invokestatic 177, 3) := by decide +kernel
theorem own_pd4 : parseMethodDescriptor "([CII)[B" = some ⟨[(.array .char), .int, .int], some (.array .byte)⟩ := by decide +kernel
theorem d3_39 : decode jdk_42_method_149_code 39 = .ok (.astore 5, 2) := by decide +kernel
theorem d3_41 : decode jdk_42_method_149_code 41 = .ok (.aload_n 0, 1) := by decide +kernel
theorem d3_42 : decode jdk_42_method_149_code 42 = .ok (.aload 5, 2) := by decide +kernel
theorem d3_44 : decode jdk_42_method_149_code 44 = .ok (.iload_n 3, 1) := by decide +kernel
theorem d3_45 : decode jdk_42_method_149_code 45 = .ok (.invokestatic 47, 3) := by decide +kernel
theorem own_pd5 : parseMethodDescriptor "([BI)B" = some ⟨[(.array .byte), .int], some .byte⟩ := by decide +kernel
theorem d3_48 : decode jdk_42_method_149_code 48 = .ok (.putfield 15, 3) := by decide +kernel
theorem d3_51 : decode jdk_42_method_149_code 51 = .ok (.aload_n 0, 1) := by decide +kernel
theorem d3_52 : decode jdk_42_method_149_code 52 = .ok (.aload 5, 2) := by decide +kernel
theorem d3_54 : decode jdk_42_method_149_code 54 = .ok (.putfield 9, 3) := by decide +kernel
theorem d3_57 : decode jdk_42_method_149_code 57 = .ok (.return_, 1) := by decide +kernel
theorem own_ef3_own_rm_s8 (m : MethodId) (y0 : Addr) (y1 : Addr) (y2 : Int32) (y3 : Int32) : entryFrame m #[(.ref y0), (.ref y1), (.int y2), (.int y3), .null] 6 = mkF m 0 #[.val (.ref y0), .val (.ref y1), .val (.int y2), .val (.int y3), .val .null, .unset] [] := by first | (simp [entryFrame, mkF, argsToLocals, Value.category]; done) | rfl
set_option maxRecDepth 65536 in
set_option maxHeartbeats 40000000 in
theorem own_rm_s8 (l : Launch) (Z : State) (a0 : Array Value) (hw : ∀ d ∈ tables_1, d.before a0 Z = true) (a b : Addr) (kb : ClassId) (c0 c1 cst : Int32) (h0 : Heap) (n0 : Nat) (Z0 : n0 ≤ h0.size) (S0 : Sta Z h0 "java/lang/String" "COMPACT_STRINGS" "Z" (.int cst)) (E0 : Exa Z h0 a "java/lang/String") (F1 : Fld Z h0 a "java/lang/String" "value" "[B" .null) (F2 : Fld Z h0 a "java/lang/String" "coder" "B" (.int (0 : Int32))) (V0 : Arv Z h0 b kb .char (2 : Int32) [(.int c0), (.int c1)] (.int (0 : Int32))) (g_a : n0 ≤ a) (hcs : ¬ cst = (0 : Int32)) (h0c : ¬ (255 : Int32) < c0) (h1c : ¬ (255 : Int32) < c1) :
    own_Met l Z (⟨"java/lang/String", "<init>", "([CIILjava/lang/Void;)V"⟩ : MethodName) jdk_42_method_149_code 6 none [] ({ frames := 2, cells := 1, slots := 2, locals := 35 } : Room) #[(.ref a), (.ref b), (.int (0 : Int32)), (.int (2 : Int32)), .null] h0 (fun v h L => v = none ∧ Fr n0 L ∧ Keep h0 h [a]) := by
  refine own_met own_pn3 ?_
  intro p e s m below meth c s₁ hx hby hml hown hnm hret hlk hZ X0 hE0
  have N0 := Fr.nil n0
  refine own_cast (own_ef3_own_rm_s8 m a b (0 : Int32) (2 : Int32)) ?_
  refine own_aloadN (n := 1) X0 hx (hb hby d3_0) rfl rfl rfl ?_
  refine own_initO (n := 4) X0 hx hZ hown (ww15 hw) (ww16 hw) (ww17 hw) hE0 (by rw [hml]; rfl) (hb hby d3_1) (Nat.le_of_ble_eq_true rfl) (Nat.le_of_ble_eq_true rfl) rfl ?_
  intro T1 X1 e1
  refine own_iloadN (n := 5) X1 hx (hb hby d3_4) rfl rfl ?_
  refine own_ifYes (n := 27) X1 hx (hb hby d3_5) (feq (by decide : ¬ ((2 : Int32) = (0 : Int32)))).2 (by decide) (by decide) ?_
  refine own_getS (n := 30) X1 hx hZ hown (host := "") (Or.inl (ww18 hw)) Via.refl e1 S0 (hb hby d3_27) rfl ?_
  intro T2 X2 e2
  refine own_ifNo (n := 33) X2 hx (hb hby d3_30) (feq hcs).1 rfl ?_
  refine own_aloadN (n := 34) X2 hx (hb hby d3_33) rfl rfl rfl ?_
  refine own_iloadN (n := 35) X2 hx (hb hby d3_34) rfl rfl ?_
  refine own_iloadN (n := 36) X2 hx (hb hby d3_35) rfl rfl ?_
  refine own_S (n := 39) (argsL := [(.ref b), (.int (0 : Int32)), (.int (2 : Int32))]) (rest := []) X2 hx hZ hown (own_rm_c6 l Z a0 hw b kb c0 c1 h0 n0 Z0 V0 h0c h1c) (ww19 hw) (ww20 hw) (ww21 hw) (ww22 hw) (by decide) e2 (by rw [hml]; rfl) (lenOf own_pd4 rfl) rfl (hb hby d3_36) (Nat.le_of_ble_eq_true rfl) (Nat.le_of_ble_eq_true rfl) (Nat.le_of_ble_eq_true rfl) (Nat.le_of_ble_eq_true rfl) rfl ?_
  rintro v3 T3 L3 X3 ⟨y3, k3, w03, w13, rfl, Nq3, K3, Vq3, sz3⟩
  have N3 := Fr.app N0 Nq3
  have S_4 := own_StaKeep0 S0 K3
  have E_5 := E0.keep K3
  have F_6 := F1.keep K3 (by simp)
  have F_7 := F2.keep K3 (by simp)
  have A_8 := V0.keep K3 (by simp)
  have K_9 := (Keep.refl h0 [a]).trans K3 (fun x hx => nomatch hx)
  have Z_10 : n0 ≤ T3.heap.size := Nat.le_trans Z0 K3.1
  change own_G p e below _ _ (mkF m 39 _ [(.ref y3)])
  refine own_astore (n := 41) (l' := #[.val (.ref a), .val (.ref b), .val (.int (0 : Int32)), .val (.int (2 : Int32)), .val .null, .val (.ref y3)]) X3 hx (hb hby d3_39) rfl rfl rfl ?_
  refine own_aloadN (n := 42) X3 hx (hb hby d3_41) rfl rfl rfl ?_
  refine own_aload (n := 44) X3 hx (hb hby d3_42) rfl rfl rfl ?_
  refine own_iloadN (n := 45) X3 hx (hb hby d3_44) rfl rfl ?_
  refine own_S (n := 48) (argsL := [(.ref y3), (.int (2 : Int32))]) (rest := [(.ref a)]) X3 hx hZ hown (own_rm_cf l Z a0 hw y3 k3 w03 w13 T3.heap n0 Z_10 Vq3) (ww27 hw) (ww28 hw) (ww21 hw) (ww29 hw) (by decide) rfl (by rw [hml]; rfl) (lenOf own_pd5 rfl) rfl (hb hby d3_45) (Nat.le_of_ble_eq_true rfl) (Nat.le_of_ble_eq_true rfl) (Nat.le_of_ble_eq_true rfl) (Nat.le_of_ble_eq_true rfl) rfl ?_
  rintro v11 T11 L11 X11 ⟨rfl, Nq11, eq11⟩
  have N11 := Fr.app N3 Nq11
  change own_G p e below _ _ (mkF m 48 _ [(.int (0 : Int32)), (.ref a)])
  refine own_putFN (n := 51) X11 hx hZ hown (ww30 hw) Via.refl eq11 F_7 E_5 (Or.inr ⟨(ww31 hw), rfl, hnm⟩) (ww6 hw) (ty := .byte) (v' := (.int (0 : Int32))) (by decide) rfl (by decide) (hb hby d3_48) rfl ?_
  intro T12 h12 X12 e12 W12
  have F_13 := F_7.same W12
  have N12 := Fr.snoc X12 N11 g_a
  have S_14 := S_4.wr W12
  have E_15 := E_5.wr W12
  have F_16 := F_6.other W12 (Or.inr (slot_ne (Or.inr (ww33 hw)) (Or.inr (ww31 hw)) (by decide) (t := (.array .byte)) (t' := .byte) (by decide) (by decide)))
  have A_17 := A_8.other W12 (Ne.symm (own_neEA E_5 (ww6 hw) A_8))
  have K_18 := K_9.wr W12 (Or.inl (by simp))
  have A_19 := Vq3.other W12 (Ne.symm (Nat.ne_of_lt (Nat.lt_of_lt_of_le E0.lt sz3)))
  have Z_20 : n0 ≤ h12.size := by rw [W12.size]; exact Z_10
  refine own_aloadN (n := 52) X12 hx (hb hby d3_51) rfl rfl rfl ?_
  refine own_aload (n := 54) X12 hx (hb hby d3_52) rfl rfl rfl ?_
  refine own_putF (n := 57) X12 hx hZ hown (host := "") (Or.inl (ww32 hw)) Via.refl e12 F_16 E_15 (Or.inr ⟨(ww33 hw), rfl, hnm⟩) (ww6 hw) (ty := (.array .byte)) (by decide) rfl rfl (hb hby d3_54) rfl ?_
  intro T21 h21 X21 e21 W21
  have F_22 := F_16.same W21
  have N21 := Fr.snoc X21 N12 g_a
  have S_23 := S_14.wr W21
  have E_24 := E_15.wr W21
  have A_25 := A_17.other W21 (Ne.symm (own_neEA E_15 (ww6 hw) A_17))
  have K_26 := K_18.wr W21 (Or.inl (by simp))
  have A_27 := A_19.other W21 (Ne.symm (Nat.ne_of_lt (Nat.lt_of_lt_of_le E0.lt sz3)))
  have F_28 := F_13.other W21 (Or.inr (slot_ne (Or.inr (ww31 hw)) (Or.inr (ww33 hw)) (by decide) (t := .byte) (t' := (.array .byte)) (by decide) (by decide)))
  have Z_29 : n0 ≤ h21.size := by rw [W21.size]; exact Z_20
  refine own_retV X21 hx hlk hret e21 (hb hby d3_57) (by decide) (by decide) ?_
  exact ⟨rfl, N21, K_26⟩
theorem own_pn2 : plainFor (⟨"java/lang/String", "<init>", "([C)V"⟩ : MethodName) = true := plainFor_of_name (by first | (simp [plainName, overriddenIn]; done) | decide +kernel)
theorem d2_0 : decode jdk_42_method_3_code 0 = .ok (.aload_n 0, 1) := by decide +kernel
theorem d2_1 : decode jdk_42_method_3_code 1 = .ok (.aload_n 1, 1) := by decide +kernel
theorem d2_2 : decode jdk_42_method_3_code 2 = .ok (.iconst 0, 1) := by decide +kernel
theorem d2_3 : decode jdk_42_method_3_code 3 = .ok (.aload_n 1, 1) := by decide +kernel
theorem d2_4 : decode jdk_42_method_3_code 4 = .ok (.arraylength, 1) := by decide +kernel
theorem d2_5 : decode jdk_42_method_3_code 5 = .ok (.aconst_null, 1) := by decide +kernel
theorem d2_6 : decode jdk_42_method_3_code 6 = .ok (.invokespecial 27, 3) := by decide +kernel
theorem own_pd6 : parseMethodDescriptor "([CIILjava/lang/Void;)V" = some ⟨[(.array .char), .int, .int, (.object "java/lang/Void")], none⟩ := by decide +kernel
theorem d2_9 : decode jdk_42_method_3_code 9 = .ok (.return_, 1) := by decide +kernel
theorem own_ef2_own_rm_s9 (m : MethodId) (y0 : Addr) (y1 : Addr) : entryFrame m #[(.ref y0), (.ref y1)] 2 = mkF m 0 #[.val (.ref y0), .val (.ref y1)] [] := by first | (simp [entryFrame, mkF, argsToLocals, Value.category]; done) | rfl
set_option maxRecDepth 65536 in
set_option maxHeartbeats 40000000 in
theorem own_rm_s9 (l : Launch) (Z : State) (a0 : Array Value) (hw : ∀ d ∈ tables_1, d.before a0 Z = true) (a b : Addr) (kb : ClassId) (c0 c1 cst : Int32) (h0 : Heap) (n0 : Nat) (Z0 : n0 ≤ h0.size) (S0 : Sta Z h0 "java/lang/String" "COMPACT_STRINGS" "Z" (.int cst)) (E0 : Exa Z h0 a "java/lang/String") (F1 : Fld Z h0 a "java/lang/String" "value" "[B" .null) (F2 : Fld Z h0 a "java/lang/String" "coder" "B" (.int (0 : Int32))) (V0 : Arv Z h0 b kb .char (2 : Int32) [(.int c0), (.int c1)] (.int (0 : Int32))) (g_a : n0 ≤ a) (hcs : ¬ cst = (0 : Int32)) (h0c : ¬ (255 : Int32) < c0) (h1c : ¬ (255 : Int32) < c1) :
    own_Met l Z (⟨"java/lang/String", "<init>", "([C)V"⟩ : MethodName) jdk_42_method_3_code 2 none [] ({ frames := 3, cells := 1, slots := 2, locals := 52 } : Room) #[(.ref a), (.ref b)] h0 (fun v h L => v = none ∧ Fr n0 L ∧ Keep h0 h [a]) := by
  refine own_met own_pn2 ?_
  intro p e s m below meth c s₁ hx hby hml hown hnm hret hlk hZ X0 hE0
  have N0 := Fr.nil n0
  refine own_cast (own_ef2_own_rm_s9 m a b) ?_
  refine own_aloadN (n := 1) X0 hx (hb hby d2_0) rfl rfl rfl ?_
  refine own_aloadN (n := 2) X0 hx (hb hby d2_1) rfl rfl rfl ?_
  refine own_iconst (n := 3) (z := (0 : Int32)) X0 hx (hb hby d2_2) rfl rfl ?_
  refine own_aloadN (n := 4) X0 hx (hb hby d2_3) rfl rfl rfl ?_
  refine own_len (n := 5) X0 hx hZ hE0 V0 (hb hby d2_4) rfl ?_
  refine own_aconst_null (n := 6) X0 hx (hb hby d2_5) rfl ?_
  refine own_I (n := 9) (argsL := [(.ref b), (.int (0 : Int32)), (.int (2 : Int32)), .null]) (rest := []) (a := a) (by rfl) X0 hx hZ hown (own_rm_s8 l Z a0 hw a b kb c0 c1 cst h0 n0 Z0 S0 E0 F1 F2 V0 g_a hcs h0c h1c) (ww11 hw) (ww12 hw) (ww7 hw) (ww14 hw) (by decide) hE0 (by rw [hml]; rfl) (lenOf own_pd6 rfl) rfl (hb hby d2_6) (Nat.le_of_ble_eq_true rfl) (Nat.le_of_ble_eq_true rfl) (Nat.le_of_ble_eq_true rfl) (Nat.le_of_ble_eq_true rfl) rfl ?_
  rintro v1 T1 L1 X1 ⟨rfl, Nq1, K1⟩
  have N1 := Fr.app N0 Nq1
  have S_2 := own_StaKeep S0 K1 E0
  have E_3 := E0.keep K1
  have A_4 := V0.keep K1 (by simp [(Ne.symm (own_neEA E0 (ww6 hw) V0))])
  have K_5 := (Keep.refl h0 [a]).trans K1 (fun x hx => by cases List.mem_singleton.mp hx; exact (Or.inl (by simp)))
  have Z_6 : n0 ≤ T1.heap.size := Nat.le_trans Z0 K1.1
  change own_G p e below _ _ (mkF m 9 _ [])
  refine own_retV X1 hx hlk hret rfl (hb hby d2_9) (by decide) (by decide) ?_
  exact ⟨rfl, N1, K_5⟩
theorem own_nc (y : Int32) : nar .char (y &&& (255 : Int32)) = (y &&& (255 : Int32)) := by
  have q := (own_ch y).1
  rw [own_ch1] at q
  exact q
theorem own_pn1 : plainFor (⟨"com/example/xml_stream_transform/xmlstreamtransform/stxpath/NameTestDefaultPriorityPinLaw", "name", "(II)Ljava/lang/String;"⟩ : MethodName) = true := plainFor_of_name (by first | (simp [plainName, overriddenIn]; done) | decide +kernel)
theorem d1_0 : decode method_3_code 0 = .ok (.iload_n 0, 1) := by decide +kernel
theorem d1_1 : decode method_3_code 1 = .ok (.iconst 3, 1) := by decide +kernel
theorem d1_2 : decode method_3_code 2 = .ok (.iand, 1) := by decide +kernel
theorem d1_3 : decode method_3_code 3 = .ok (.istore_n 2, 1) := by decide +kernel
theorem d1_4 : decode method_3_code 4 = .ok (.iload_n 2, 1) := by decide +kernel
theorem d1_5 : decode method_3_code 5 = .ok (.ifCond .ne 5, 3) := by decide +kernel
theorem d1_8 : decode method_3_code 8 = .ok (.aconst_null, 1) := by decide +kernel
theorem d1_9 : decode method_3_code 9 = .ok (.areturn, 1) := by decide +kernel
theorem d1_10 : decode method_3_code 10 = .ok (.iload_n 2, 1) := by decide +kernel
theorem d1_11 : decode method_3_code 11 = .ok (.iconst 1, 1) := by decide +kernel
theorem d1_12 : decode method_3_code 12 = .ok (.if_icmp .ne 6, 3) := by decide +kernel
theorem d1_15 : decode method_3_code 15 = .ok (.ldc 34, 2) := by decide +kernel
theorem d1_17 : decode method_3_code 17 = .ok (.areturn, 1) := by decide +kernel
theorem d1_18 : decode method_3_code 18 = .ok (.iload_n 2, 1) := by decide +kernel
theorem d1_19 : decode method_3_code 19 = .ok (.iconst 2, 1) := by decide +kernel
theorem d1_20 : decode method_3_code 20 = .ok (.if_icmp .ne 13, 3) := by decide +kernel
theorem d1_23 : decode method_3_code 23 = .ok (.iload_n 1, 1) := by decide +kernel
theorem d1_24 : decode method_3_code 24 = .ok (.sipush 255, 3) := by decide +kernel
theorem d1_27 : decode method_3_code 27 = .ok (.iand, 1) := by decide +kernel
theorem d1_28 : decode method_3_code 28 = .ok (.i2c, 1) := by decide +kernel
theorem d1_29 : decode method_3_code 29 = .ok (.invokestatic 36, 3) := by decide +kernel
theorem own_pd7 : parseMethodDescriptor "(C)Ljava/lang/String;" = some ⟨[.char], some (.object "java/lang/String")⟩ := by decide +kernel
theorem d1_32 : decode method_3_code 32 = .ok (.areturn, 1) := by decide +kernel
theorem d1_33 : decode method_3_code 33 = .ok (.iconst 2, 1) := by decide +kernel
theorem d1_34 : decode method_3_code 34 = .ok (.newarray .char, 2) := by decide +kernel
theorem d1_36 : decode method_3_code 36 = .ok (.astore_n 3, 1) := by decide +kernel
theorem d1_37 : decode method_3_code 37 = .ok (.aload_n 3, 1) := by decide +kernel
theorem d1_38 : decode method_3_code 38 = .ok (.iconst 0, 1) := by decide +kernel
theorem d1_39 : decode method_3_code 39 = .ok (.iload_n 1, 1) := by decide +kernel
theorem d1_40 : decode method_3_code 40 = .ok (.sipush 255, 3) := by decide +kernel
theorem d1_43 : decode method_3_code 43 = .ok (.iand, 1) := by decide +kernel
theorem d1_44 : decode method_3_code 44 = .ok (.i2c, 1) := by decide +kernel
theorem d1_45 : decode method_3_code 45 = .ok (.castore, 1) := by decide +kernel
theorem d1_46 : decode method_3_code 46 = .ok (.aload_n 3, 1) := by decide +kernel
theorem d1_47 : decode method_3_code 47 = .ok (.iconst 1, 1) := by decide +kernel
theorem d1_48 : decode method_3_code 48 = .ok (.iload_n 1, 1) := by decide +kernel
theorem d1_49 : decode method_3_code 49 = .ok (.bipush 8, 2) := by decide +kernel
theorem d1_51 : decode method_3_code 51 = .ok (.iushr, 1) := by decide +kernel
theorem d1_52 : decode method_3_code 52 = .ok (.sipush 255, 3) := by decide +kernel
theorem d1_55 : decode method_3_code 55 = .ok (.iand, 1) := by decide +kernel
theorem d1_56 : decode method_3_code 56 = .ok (.i2c, 1) := by decide +kernel
theorem d1_57 : decode method_3_code 57 = .ok (.castore, 1) := by decide +kernel
theorem d1_58 : decode method_3_code 58 = .ok (.new 37, 3) := by decide +kernel
theorem d1_61 : decode method_3_code 61 = .ok (.dup, 1) := by decide +kernel
theorem d1_62 : decode method_3_code 62 = .ok (.aload_n 3, 1) := by decide +kernel
theorem d1_63 : decode method_3_code 63 = .ok (.invokespecial 42, 3) := by decide +kernel
theorem own_pd8 : parseMethodDescriptor "([C)V" = some ⟨[(.array .char)], none⟩ := by decide +kernel
theorem d1_66 : decode method_3_code 66 = .ok (.areturn, 1) := by decide +kernel
theorem own_ef1_own_rmN (m : MethodId) (y0 : Int32) (y1 : Int32) : entryFrame m #[(.int y0), (.int y1)] 4 = mkF m 0 #[.val (.int y0), .val (.int y1), .unset, .unset] [] := by first | (simp [entryFrame, mkF, argsToLocals, Value.category]; done) | rfl
set_option maxRecDepth 65536 in
set_option maxHeartbeats 40000000 in
theorem own_rmN (l : Launch) (Z : State) (a0 : Array Value) (hw : ∀ d ∈ tables_1, d.before a0 Z = true) (p0 p1 cst : Int32) (h0 : Heap) (n0 : Nat) (Z0 : n0 ≤ h0.size) (S0 : Sta Z h0 "java/lang/String" "COMPACT_STRINGS" "Z" (.int cst)) (hcs : ¬ cst = (0 : Int32)) :
    own_MetW l Z (⟨"com/example/xml_stream_transform/xmlstreamtransform/stxpath/NameTestDefaultPriorityPinLaw", "name", "(II)Ljava/lang/String;"⟩ : MethodName) method_3_code 4 (some (.object "java/lang/String")) [] ({ frames := 4, cells := 3, slots := 8, locals := 66 } : Room) #[(.int p0), (.int p1)] h0 (fun v h L => (v = some .null ∨ ∃ r : Addr, v = some (.ref r)) ∧ Fr n0 L ∧ Keep h0 h []) := by
  refine own_metW own_pn1 ?_
  intro p e s m below meth c s₁ vm0 hx hby hml hown hnm hret hlk hZ hS0 X0 hE0
  have hk0 : 0 ≤ h0.size := Nat.zero_le _
  have N0 := Fr.nil n0
  refine own_cast (own_ef1_own_rmN m p0 p1) ?_
  have wS : ∀ a ∈ Bundle.stringAtoms, a.before a0 Z = true := by
    intro a ha
    simp only [Bundle.stringAtoms, List.mem_cons, List.not_mem_nil, or_false] at ha
    rcases ha with rfl | rfl | rfl | rfl | rfl | rfl | rfl
    · exact (ww7 hw)
    · exact (ww6 hw)
    · exact (ww23 hw)
    · exact (ww33 hw)
    · exact (ww31 hw)
    · exact (ww35 hw)
    · exact (ww36 hw)
  refine own_iloadN (n := 1) X0 hx (hb hby d1_0) rfl rfl ?_
  refine own_iconst (n := 2) (z := (3 : Int32)) X0 hx (hb hby d1_1) rfl rfl ?_
  refine own_iand (n := 3) X0 hx (hb hby d1_2) rfl rfl ?_
  refine own_istoreN (n := 4) (l' := #[.val (.int p0), .val (.int p1), .val (.int (p0 &&& (3 : Int32))), .unset]) X0 hx (hb hby d1_3) rfl rfl ?_
  refine own_iloadN (n := 5) X0 hx (hb hby d1_4) rfl rfl ?_
  by_cases hc5_1 : (p0 &&& (3 : Int32)) = (0 : Int32)
  · skip
    refine own_ifNo (n := 8) X0 hx (hb hby d1_5) (teq hc5_1).2 rfl ?_
    refine own_aconst_null (n := 9) X0 hx (hb hby d1_8) rfl ?_
    refine own_retAW X0 hx hlk hret rfl rfl rfl hE0 hS0 hk0 (hb hby d1_9) (by decide) (by decide) ?_
    exact ⟨Or.inl rfl, N0, (Keep.refl h0 [])⟩
  · skip
    refine own_ifYes (n := 10) X0 hx (hb hby d1_5) (feq hc5_1).2 (by decide) (by decide) ?_
    refine own_iloadN (n := 11) X0 hx (hb hby d1_10) rfl rfl ?_
    refine own_iconst (n := 12) (z := (1 : Int32)) X0 hx (hb hby d1_11) rfl rfl ?_
    by_cases hc12_2 : (p0 &&& (3 : Int32)) = (1 : Int32)
    · skip
      refine own_icmpNo (n := 15) X0 hx (hb hby d1_12) (teq hc12_2).2 rfl ?_
      refine own_ldcStr (n := 17) X0 hx hZ hown (ww34 hw) wS hE0 hS0 hk0 (hb hby d1_15) (nn := 0) (by decide) (by decide) (by decide) (by decide) rfl ?_
      intro b3 T3 h3 kq3 X3 e3 E3 hS3 hk3 hZ hown
      have S_4 := S0.ext E3
      have K_5 := (Keep.refl h0 []).ext E3
      have Z_6 : n0 ≤ h3.size := Nat.le_trans Z0 E3.1
      refine own_retAW X3 hx hlk hret rfl rfl rfl e3 hS3 hk3 (hb hby d1_17) (by decide) (by decide) ?_
      exact ⟨Or.inr ⟨_, rfl⟩, N0, K_5⟩
    · skip
      refine own_icmpYes (n := 18) X0 hx (hb hby d1_12) (feq hc12_2).2 (by decide) (by decide) ?_
      refine own_iloadN (n := 19) X0 hx (hb hby d1_18) rfl rfl ?_
      refine own_iconst (n := 20) (z := (2 : Int32)) X0 hx (hb hby d1_19) rfl rfl ?_
      by_cases hc20_7 : (p0 &&& (3 : Int32)) = (2 : Int32)
      · skip
        refine own_icmpNo (n := 23) X0 hx (hb hby d1_20) (teq hc20_7).2 rfl ?_
        refine own_iloadN (n := 24) X0 hx (hb hby d1_23) rfl rfl ?_
        refine own_sipush (n := 27) (z := (255 : Int32)) X0 hx (hb hby d1_24) rfl rfl ?_
        refine own_iand (n := 28) X0 hx (hb hby d1_27) rfl rfl ?_
        refine own_i2c (n := 29) X0 hx (hb hby d1_28) rfl rfl ?_
        rw [own_ch1 (p1)]
        refine own_S (n := 32) (argsL := [(.int (p1 &&& (255 : Int32)))]) (rest := []) X0 hx hZ hown (own_rm_vo l Z a0 hw (p1 &&& (255 : Int32)) cst h0 n0 Z0 S0 hcs (own_ch _).2) (ww70 hw) (ww71 hw) (ww7 hw) (ww72 hw) (by decide) hE0 (by rw [hml]; rfl) (lenOf own_pd7 rfl) rfl (hb hby d1_29) (Nat.le_of_ble_eq_true rfl) (Nat.le_of_ble_eq_true rfl) (Nat.le_of_ble_eq_true rfl) (Nat.le_of_ble_eq_true rfl) rfl ?_
        rintro v8 T8 L8 X8 ⟨y8, rfl, Nq8, K8⟩
        have N8 := Fr.app N0 Nq8
        have S_9 := own_StaKeep0 S0 K8
        have K_10 := (Keep.refl h0 []).trans K8 (fun x hx => nomatch hx)
        have Z_11 : n0 ≤ T8.heap.size := Nat.le_trans Z0 K8.1
        have hk_12 := Nat.le_trans hk0 K8.1
        change own_G p e below _ _ (mkF m 32 _ [(.ref y8)])
        refine own_retAW X8 hx hlk hret rfl rfl rfl rfl hS0 hk_12 (hb hby d1_32) (by decide) (by decide) ?_
        exact ⟨Or.inr ⟨_, rfl⟩, N8, K_10⟩
      · skip
        refine own_icmpYes (n := 33) X0 hx (hb hby d1_20) (feq hc20_7).2 (by decide) (by decide) ?_
        refine own_iconst (n := 34) (z := (2 : Int32)) X0 hx (hb hby d1_33) rfl rfl ?_
        refine own_newA (n := 36) X0 hx hZ own_an_char (ww4 hw) hE0 (hb hby d1_34) (by decide) (cap := 2) (by decide) (by decide) (by decide) (by decide) rfl ?_
        intro T13 h13 k13 b13 g13 X13 e13 E13 A13 B13
        have g_b13 : n0 ≤ b13 := Nat.le_trans Z0 (Nat.le_of_eq g13.symm)
        have sz_b13 : h0.size ≤ b13 := Nat.le_trans (Keep.refl h0 []).1 (Nat.le_of_eq g13.symm)
        have S_14 := S0.ext E13
        have K_15 := (Keep.refl h0 []).ext E13
        have Z_16 : n0 ≤ h13.size := Nat.le_trans Z0 E13.1
        have hk_17 := Nat.le_trans hk0 E13.1
        have V13 : Arv Z h13 b13 k13 .char (2 : Int32) [(.int (0 : Int32)), (.int (0 : Int32))] (.int (0 : Int32)) := (Arv.new A13 (by decide)).pad (pad_rep [] (.int (0 : Int32)) 2)
        refine own_astoreN (n := 37) (l' := #[.val (.int p0), .val (.int p1), .val (.int (p0 &&& (3 : Int32))), .val (.ref b13)]) X13 hx (hb hby d1_36) rfl rfl rfl ?_
        refine own_aloadN (n := 38) X13 hx (hb hby d1_37) rfl rfl rfl ?_
        refine own_iconst (n := 39) (z := (0 : Int32)) X13 hx (hb hby d1_38) rfl rfl ?_
        refine own_iloadN (n := 40) X13 hx (hb hby d1_39) rfl rfl ?_
        refine own_sipush (n := 43) (z := (255 : Int32)) X13 hx (hb hby d1_40) rfl rfl ?_
        refine own_iand (n := 44) X13 hx (hb hby d1_43) rfl rfl ?_
        refine own_i2c (n := 45) X13 hx (hb hby d1_44) rfl rfl ?_
        rw [own_ch1 (p1)]
        refine own_st_castore (n := 46) X13 hx hZ e13 V13 ⟨by decide, by decide⟩ 0 rfl (Nat.le_of_ble_eq_true rfl) (hb hby d1_45) rfl ?_
        intro T18 h18 X18 e18 W18 V18q
        rw [own_nc (p1)] at V18q
        have V18 : Arv Z h18 b13 k13 .char (2 : Int32) [(.int (p1 &&& (255 : Int32))), (.int (0 : Int32))] (.int (0 : Int32)) := V18q
        have N18 := Fr.snoc X18 N0 g_b13
        have S_19 := S_14.wr W18
        have K_20 := K_15.wr W18 (Or.inr sz_b13)
        have Z_21 : n0 ≤ h18.size := by rw [W18.size]; exact Z_16
        have hk_22 := Nat.le_trans hk_17 (Keep.of_wr W18).1
        refine own_aloadN (n := 47) X18 hx (hb hby d1_46) rfl rfl rfl ?_
        refine own_iconst (n := 48) (z := (1 : Int32)) X18 hx (hb hby d1_47) rfl rfl ?_
        refine own_iloadN (n := 49) X18 hx (hb hby d1_48) rfl rfl ?_
        refine own_bipush (n := 51) (z := (8 : Int32)) X18 hx (hb hby d1_49) rfl rfl ?_
        refine own_iushr (n := 52) X18 hx (hb hby d1_51) rfl rfl ?_
        refine own_sipush (n := 55) (z := (255 : Int32)) X18 hx (hb hby d1_52) rfl rfl ?_
        refine own_iand (n := 56) X18 hx (hb hby d1_55) rfl rfl ?_
        refine own_i2c (n := 57) X18 hx (hb hby d1_56) rfl rfl ?_
        rw [own_ch1 (((p1).toUInt32 >>> ((8 : Int32) &&& 31).toUInt32).toInt32)]
        refine own_st_castore (n := 58) X18 hx hZ e18 V18 ⟨by decide, by decide⟩ 1 rfl (Nat.le_of_ble_eq_true rfl) (hb hby d1_57) rfl ?_
        intro T23 h23 X23 e23 W23 V23q
        rw [own_nc (((p1).toUInt32 >>> ((8 : Int32) &&& 31).toUInt32).toInt32)] at V23q
        have V23 : Arv Z h23 b13 k13 .char (2 : Int32) [(.int (p1 &&& (255 : Int32))), (.int (((p1).toUInt32 >>> ((8 : Int32) &&& 31).toUInt32).toInt32 &&& (255 : Int32)))] (.int (0 : Int32)) := V23q
        have N23 := Fr.snoc X23 N18 g_b13
        have S_24 := S_19.wr W23
        have K_25 := K_20.wr W23 (Or.inr sz_b13)
        have Z_26 : n0 ≤ h23.size := by rw [W23.size]; exact Z_21
        have hk_27 := Nat.le_trans hk_22 (Keep.of_wr W23).1
        have h0c := (own_ch (p1)).2
        have h1c := (own_ch (((p1).toUInt32 >>> ((8 : Int32) &&& 31).toUInt32).toInt32)).2
        refine own_new (n := 61) X23 hx hZ hown (ww5 hw) (ww6 hw) (ww7 hw) e23 (hb hby d1_58) (by decide) (by decide) rfl ?_
        intro T28 h28 b28 g28 X28 e28 E28 A28 D28
        have g_b28 : n0 ≤ b28 := Nat.le_trans Z_26 (Nat.le_of_eq g28.symm)
        have sz_b28 : h0.size ≤ b28 := Nat.le_trans K_25.1 (Nat.le_of_eq g28.symm)
        have ne_b13_b28 : b13 ≠ b28 := own_ne V23.lt g28
        have S_29 := S_24.ext E28
        have K_30 := K_25.ext E28
        have A_31 := V23.ext E28
        have Z_32 : n0 ≤ h28.size := Nat.le_trans Z_26 E28.1
        have hk_33 := Nat.le_trans hk_27 E28.1
        have F_34 : Fld Z h28 b28 "java/lang/String" "coder" "B" (.int (0 : Int32)) := D28 (Or.inr (ww31 hw)) (ty := .byte) (by decide)
        have F_35 : Fld Z h28 b28 "java/lang/String" "value" "[B" .null := D28 (Or.inr (ww33 hw)) (ty := (.array .byte)) (by decide)
        refine own_dup (n := 62) X28 hx (hb hby d1_61) rfl rfl ?_
        refine own_aloadN (n := 63) X28 hx (hb hby d1_62) rfl rfl rfl ?_
        refine own_I (n := 66) (argsL := [(.ref b13)]) (rest := [(.ref b28)]) (a := b28) (by rfl) X28 hx hZ hown (own_rm_s9 l Z a0 hw b28 b13 k13 (p1 &&& (255 : Int32)) (((p1).toUInt32 >>> ((8 : Int32) &&& 31).toUInt32).toInt32 &&& (255 : Int32)) cst h28 n0 Z_32 S_29 A28 F_35 F_34 A_31 g_b28 hcs h0c h1c) (ww8 hw) (ww9 hw) (ww7 hw) (ww10 hw) (by decide) e28 (by rw [hml]; rfl) (lenOf own_pd8 rfl) rfl (hb hby d1_63) (Nat.le_of_ble_eq_true rfl) (Nat.le_of_ble_eq_true rfl) (Nat.le_of_ble_eq_true rfl) (Nat.le_of_ble_eq_true rfl) rfl ?_
        rintro v36 T36 L36 X36 ⟨rfl, Nq36, K36⟩
        have N36 := Fr.app N23 Nq36
        have S_37 := own_StaKeep S_29 K36 A28
        have K_38 := K_30.trans K36 (fun x hx => by cases List.mem_singleton.mp hx; exact (Or.inr sz_b28))
        have A_39 := A_31.keep K36 (by simp [ne_b13_b28])
        have E_40 := A28.keep K36
        have Z_41 : n0 ≤ T36.heap.size := Nat.le_trans Z_32 K36.1
        have hk_42 := Nat.le_trans hk_33 K36.1
        change own_G p e below _ _ (mkF m 66 _ [(.ref b28)])
        refine own_retAW X36 hx hlk hret rfl rfl rfl rfl hS0 hk_42 (hb hby d1_66) (by decide) (by decide) ?_
        exact ⟨Or.inr ⟨_, rfl⟩, N36, K_38⟩
theorem own_pn8 : plainFor (⟨"com/example/xml_stream_transform/xmlstreamtransform/stxpath/NameTestDefaultPriorityPinLaw", "kind", "(I)Lcom/example/xml_stream_transform/xmlstreamtransform/model/NodeKind;"⟩ : MethodName) = true := plainFor_of_name (by first | (simp [plainName, overriddenIn]; done) | decide +kernel)
theorem d8_0 : decode method_2_code 0 = .ok (.iload_n 0, 1) := by decide +kernel
theorem d8_1 : decode method_2_code 1 = .ok (.bipush 7, 2) := by decide +kernel
theorem d8_3 : decode method_2_code 3 = .ok (.iand, 1) := by decide +kernel
theorem d8_4 : decode method_2_code 4 = .ok (.istore_n 1, 1) := by decide +kernel
theorem d8_5 : decode method_2_code 5 = .ok (.iload_n 1, 1) := by decide +kernel
theorem d8_6 : decode method_2_code 6 = .ok (.ifCond .ne 7, 3) := by decide +kernel
theorem d8_9 : decode method_2_code 9 = .ok (.getstatic 7, 3) := by decide +kernel
theorem d8_12 : decode method_2_code 12 = .ok (.areturn, 1) := by decide +kernel
theorem d8_13 : decode method_2_code 13 = .ok (.iload_n 1, 1) := by decide +kernel
theorem d8_14 : decode method_2_code 14 = .ok (.iconst 1, 1) := by decide +kernel
theorem d8_15 : decode method_2_code 15 = .ok (.if_icmp .ne 7, 3) := by decide +kernel
theorem d8_18 : decode method_2_code 18 = .ok (.getstatic 13, 3) := by decide +kernel
theorem d8_21 : decode method_2_code 21 = .ok (.areturn, 1) := by decide +kernel
theorem d8_22 : decode method_2_code 22 = .ok (.iload_n 1, 1) := by decide +kernel
theorem d8_23 : decode method_2_code 23 = .ok (.iconst 2, 1) := by decide +kernel
theorem d8_24 : decode method_2_code 24 = .ok (.if_icmp .ne 7, 3) := by decide +kernel
theorem d8_27 : decode method_2_code 27 = .ok (.getstatic 16, 3) := by decide +kernel
theorem d8_30 : decode method_2_code 30 = .ok (.areturn, 1) := by decide +kernel
theorem d8_31 : decode method_2_code 31 = .ok (.iload_n 1, 1) := by decide +kernel
theorem d8_32 : decode method_2_code 32 = .ok (.iconst 3, 1) := by decide +kernel
theorem d8_33 : decode method_2_code 33 = .ok (.if_icmp .ne 7, 3) := by decide +kernel
theorem d8_36 : decode method_2_code 36 = .ok (.getstatic 19, 3) := by decide +kernel
theorem d8_39 : decode method_2_code 39 = .ok (.areturn, 1) := by decide +kernel
theorem d8_40 : decode method_2_code 40 = .ok (.iload_n 1, 1) := by decide +kernel
theorem d8_41 : decode method_2_code 41 = .ok (.iconst 4, 1) := by decide +kernel
theorem d8_42 : decode method_2_code 42 = .ok (.if_icmp .ne 7, 3) := by decide +kernel
theorem d8_45 : decode method_2_code 45 = .ok (.getstatic 22, 3) := by decide +kernel
theorem d8_48 : decode method_2_code 48 = .ok (.areturn, 1) := by decide +kernel
theorem d8_49 : decode method_2_code 49 = .ok (.iload_n 1, 1) := by decide +kernel
theorem d8_50 : decode method_2_code 50 = .ok (.iconst 5, 1) := by decide +kernel
theorem d8_51 : decode method_2_code 51 = .ok (.if_icmp .ne 7, 3) := by decide +kernel
theorem d8_54 : decode method_2_code 54 = .ok (.getstatic 25, 3) := by decide +kernel
theorem d8_57 : decode method_2_code 57 = .ok (.areturn, 1) := by decide +kernel
theorem d8_58 : decode method_2_code 58 = .ok (.iload_n 1, 1) := by decide +kernel
theorem d8_59 : decode method_2_code 59 = .ok (.bipush 6, 2) := by decide +kernel
theorem d8_61 : decode method_2_code 61 = .ok (.if_icmp .ne 7, 3) := by decide +kernel
theorem d8_64 : decode method_2_code 64 = .ok (.getstatic 28, 3) := by decide +kernel
theorem d8_67 : decode method_2_code 67 = .ok (.areturn, 1) := by decide +kernel
theorem d8_68 : decode method_2_code 68 = .ok (.getstatic 31, 3) := by decide +kernel
theorem d8_71 : decode method_2_code 71 = .ok (.areturn, 1) := by decide +kernel
theorem own_ef8_own_rmK (m : MethodId) (y0 : Int32) : entryFrame m #[(.int y0)] 2 = mkF m 0 #[.val (.int y0), .unset] [] := by first | (simp [entryFrame, mkF, argsToLocals, Value.category]; done) | rfl
set_option maxRecDepth 65536 in
set_option maxHeartbeats 40000000 in
theorem own_rmK (l : Launch) (Z : State) (a0 : Array Value) (hw : ∀ d ∈ tables_1, d.before a0 Z = true) (p0 : Int32) (t0 t1 t2 t3 t4 t5 t6 t7 : Addr) (h0 : Heap) (n0 : Nat) (Z0 : n0 ≤ h0.size) (SK0 : Sta Z h0 "com/example/xml_stream_transform/xmlstreamtransform/model/NodeKind" "DOCUMENT" "Lcom/example/xml_stream_transform/xmlstreamtransform/model/NodeKind;" (.ref t0)) (SK1 : Sta Z h0 "com/example/xml_stream_transform/xmlstreamtransform/model/NodeKind" "ELEMENT" "Lcom/example/xml_stream_transform/xmlstreamtransform/model/NodeKind;" (.ref t1)) (SK2 : Sta Z h0 "com/example/xml_stream_transform/xmlstreamtransform/model/NodeKind" "ATTRIBUTE" "Lcom/example/xml_stream_transform/xmlstreamtransform/model/NodeKind;" (.ref t2)) (SK3 : Sta Z h0 "com/example/xml_stream_transform/xmlstreamtransform/model/NodeKind" "TEXT" "Lcom/example/xml_stream_transform/xmlstreamtransform/model/NodeKind;" (.ref t3)) (SK4 : Sta Z h0 "com/example/xml_stream_transform/xmlstreamtransform/model/NodeKind" "CDATA" "Lcom/example/xml_stream_transform/xmlstreamtransform/model/NodeKind;" (.ref t4)) (SK5 : Sta Z h0 "com/example/xml_stream_transform/xmlstreamtransform/model/NodeKind" "COMMENT" "Lcom/example/xml_stream_transform/xmlstreamtransform/model/NodeKind;" (.ref t5)) (SK6 : Sta Z h0 "com/example/xml_stream_transform/xmlstreamtransform/model/NodeKind" "PROCESSING_INSTRUCTION" "Lcom/example/xml_stream_transform/xmlstreamtransform/model/NodeKind;" (.ref t6)) (SK7 : Sta Z h0 "com/example/xml_stream_transform/xmlstreamtransform/model/NodeKind" "DOCTYPE" "Lcom/example/xml_stream_transform/xmlstreamtransform/model/NodeKind;" (.ref t7)) :
    own_Met l Z (⟨"com/example/xml_stream_transform/xmlstreamtransform/stxpath/NameTestDefaultPriorityPinLaw", "kind", "(I)Lcom/example/xml_stream_transform/xmlstreamtransform/model/NodeKind;"⟩ : MethodName) method_2_code 2 (some (.object "com/example/xml_stream_transform/xmlstreamtransform/model/NodeKind")) [] ({ frames := 0, cells := 0, slots := 0, locals := 0 } : Room) #[(.int p0)] h0 (fun v h L => ∃ r : Addr, v = some (.ref r) ∧ Fr n0 L ∧ h = h0) := by
  refine own_met own_pn8 ?_
  intro p e s m below meth c s₁ hx hby hml hown hnm hret hlk hZ X0 hE0
  have N0 := Fr.nil n0
  refine own_cast (own_ef8_own_rmK m p0) ?_
  refine own_iloadN (n := 1) X0 hx (hb hby d8_0) rfl rfl ?_
  refine own_bipush (n := 3) (z := (7 : Int32)) X0 hx (hb hby d8_1) rfl rfl ?_
  refine own_iand (n := 4) X0 hx (hb hby d8_3) rfl rfl ?_
  refine own_istoreN (n := 5) (l' := #[.val (.int p0), .val (.int (p0 &&& (7 : Int32)))]) X0 hx (hb hby d8_4) rfl rfl ?_
  refine own_iloadN (n := 6) X0 hx (hb hby d8_5) rfl rfl ?_
  by_cases hc6_1 : (p0 &&& (7 : Int32)) = (0 : Int32)
  · skip
    refine own_ifNo (n := 9) X0 hx (hb hby d8_6) (teq hc6_1).2 rfl ?_
    refine own_getS (n := 12) X0 hx hZ hown (host := "") (Or.inl (ww43 hw)) Via.refl hE0 SK0 (hb hby d8_9) rfl ?_
    intro T2 X2 e2
    refine own_retA X2 hx hlk hret rfl rfl rfl e2 (hb hby d8_12) (by decide) (by decide) ?_
    exact ⟨_, rfl, N0, rfl⟩
  · skip
    refine own_ifYes (n := 13) X0 hx (hb hby d8_6) (feq hc6_1).2 (by decide) (by decide) ?_
    refine own_iloadN (n := 14) X0 hx (hb hby d8_13) rfl rfl ?_
    refine own_iconst (n := 15) (z := (1 : Int32)) X0 hx (hb hby d8_14) rfl rfl ?_
    by_cases hc15_3 : (p0 &&& (7 : Int32)) = (1 : Int32)
    · skip
      refine own_icmpNo (n := 18) X0 hx (hb hby d8_15) (teq hc15_3).2 rfl ?_
      refine own_getS (n := 21) X0 hx hZ hown (host := "") (Or.inl (ww95 hw)) Via.refl hE0 SK1 (hb hby d8_18) rfl ?_
      intro T4 X4 e4
      refine own_retA X4 hx hlk hret rfl rfl rfl e4 (hb hby d8_21) (by decide) (by decide) ?_
      exact ⟨_, rfl, N0, rfl⟩
    · skip
      refine own_icmpYes (n := 22) X0 hx (hb hby d8_15) (feq hc15_3).2 (by decide) (by decide) ?_
      refine own_iloadN (n := 23) X0 hx (hb hby d8_22) rfl rfl ?_
      refine own_iconst (n := 24) (z := (2 : Int32)) X0 hx (hb hby d8_23) rfl rfl ?_
      by_cases hc24_5 : (p0 &&& (7 : Int32)) = (2 : Int32)
      · skip
        refine own_icmpNo (n := 27) X0 hx (hb hby d8_24) (teq hc24_5).2 rfl ?_
        refine own_getS (n := 30) X0 hx hZ hown (host := "") (Or.inl (ww86 hw)) Via.refl hE0 SK2 (hb hby d8_27) rfl ?_
        intro T6 X6 e6
        refine own_retA X6 hx hlk hret rfl rfl rfl e6 (hb hby d8_30) (by decide) (by decide) ?_
        exact ⟨_, rfl, N0, rfl⟩
      · skip
        refine own_icmpYes (n := 31) X0 hx (hb hby d8_24) (feq hc24_5).2 (by decide) (by decide) ?_
        refine own_iloadN (n := 32) X0 hx (hb hby d8_31) rfl rfl ?_
        refine own_iconst (n := 33) (z := (3 : Int32)) X0 hx (hb hby d8_32) rfl rfl ?_
        by_cases hc33_7 : (p0 &&& (7 : Int32)) = (3 : Int32)
        · skip
          refine own_icmpNo (n := 36) X0 hx (hb hby d8_33) (teq hc33_7).2 rfl ?_
          refine own_getS (n := 39) X0 hx hZ hown (host := "") (Or.inl (ww67 hw)) Via.refl hE0 SK3 (hb hby d8_36) rfl ?_
          intro T8 X8 e8
          refine own_retA X8 hx hlk hret rfl rfl rfl e8 (hb hby d8_39) (by decide) (by decide) ?_
          exact ⟨_, rfl, N0, rfl⟩
        · skip
          refine own_icmpYes (n := 40) X0 hx (hb hby d8_33) (feq hc33_7).2 (by decide) (by decide) ?_
          refine own_iloadN (n := 41) X0 hx (hb hby d8_40) rfl rfl ?_
          refine own_iconst (n := 42) (z := (4 : Int32)) X0 hx (hb hby d8_41) rfl rfl ?_
          by_cases hc42_9 : (p0 &&& (7 : Int32)) = (4 : Int32)
          · skip
            refine own_icmpNo (n := 45) X0 hx (hb hby d8_42) (teq hc42_9).2 rfl ?_
            refine own_getS (n := 48) X0 hx hZ hown (host := "") (Or.inl (ww92 hw)) Via.refl hE0 SK4 (hb hby d8_45) rfl ?_
            intro T10 X10 e10
            refine own_retA X10 hx hlk hret rfl rfl rfl e10 (hb hby d8_48) (by decide) (by decide) ?_
            exact ⟨_, rfl, N0, rfl⟩
          · skip
            refine own_icmpYes (n := 49) X0 hx (hb hby d8_42) (feq hc42_9).2 (by decide) (by decide) ?_
            refine own_iloadN (n := 50) X0 hx (hb hby d8_49) rfl rfl ?_
            refine own_iconst (n := 51) (z := (5 : Int32)) X0 hx (hb hby d8_50) rfl rfl ?_
            by_cases hc51_11 : (p0 &&& (7 : Int32)) = (5 : Int32)
            · skip
              refine own_icmpNo (n := 54) X0 hx (hb hby d8_51) (teq hc51_11).2 rfl ?_
              refine own_getS (n := 57) X0 hx hZ hown (host := "") (Or.inl (ww90 hw)) Via.refl hE0 SK5 (hb hby d8_54) rfl ?_
              intro T12 X12 e12
              refine own_retA X12 hx hlk hret rfl rfl rfl e12 (hb hby d8_57) (by decide) (by decide) ?_
              exact ⟨_, rfl, N0, rfl⟩
            · skip
              refine own_icmpYes (n := 58) X0 hx (hb hby d8_51) (feq hc51_11).2 (by decide) (by decide) ?_
              refine own_iloadN (n := 59) X0 hx (hb hby d8_58) rfl rfl ?_
              refine own_bipush (n := 61) (z := (6 : Int32)) X0 hx (hb hby d8_59) rfl rfl ?_
              by_cases hc61_13 : (p0 &&& (7 : Int32)) = (6 : Int32)
              · skip
                refine own_icmpNo (n := 64) X0 hx (hb hby d8_61) (teq hc61_13).2 rfl ?_
                refine own_getS (n := 67) X0 hx hZ hown (host := "") (Or.inl (ww88 hw)) Via.refl hE0 SK6 (hb hby d8_64) rfl ?_
                intro T14 X14 e14
                refine own_retA X14 hx hlk hret rfl rfl rfl e14 (hb hby d8_67) (by decide) (by decide) ?_
                exact ⟨_, rfl, N0, rfl⟩
              · skip
                refine own_icmpYes (n := 68) X0 hx (hb hby d8_61) (feq hc61_13).2 (by decide) (by decide) ?_
                refine own_getS (n := 71) X0 hx hZ hown (host := "") (Or.inl (ww84 hw)) Via.refl hE0 SK7 (hb hby d8_68) rfl ?_
                intro T15 X15 e15
                refine own_retA X15 hx hlk hret rfl rfl rfl e15 (hb hby d8_71) (by decide) (by decide) ?_
                exact ⟨_, rfl, N0, rfl⟩
theorem own_pn10 : plainFor (⟨"java/lang/Record", "<init>", "()V"⟩ : MethodName) = true := plainFor_of_name (by first | (simp [plainName, overriddenIn]; done) | decide +kernel)
theorem d10_0 : decode jdk_30_method_1_code 0 = .ok (.aload_n 0, 1) := by decide +kernel
theorem d10_1 : decode jdk_30_method_1_code 1 = .ok (.invokespecial 1, 3) := by decide +kernel
theorem d10_4 : decode jdk_30_method_1_code 4 = .ok (.return_, 1) := by decide +kernel
theorem own_ef10_own_rmR (m : MethodId) (y0 : Addr) : entryFrame m #[(.ref y0)] 1 = mkF m 0 #[.val (.ref y0)] [] := by first | (simp [entryFrame, mkF, argsToLocals, Value.category]; done) | rfl
set_option maxRecDepth 65536 in
set_option maxHeartbeats 40000000 in
theorem own_rmR (l : Launch) (Z : State) (a0 : Array Value) (hw : ∀ d ∈ tables_1, d.before a0 Z = true) (a : Addr) (h0 : Heap) (n0 : Nat) (Z0 : n0 ≤ h0.size)  :
    own_Met l Z (⟨"java/lang/Record", "<init>", "()V"⟩ : MethodName) jdk_30_method_1_code 1 none [] ({ frames := 1, cells := 0, slots := 0, locals := 12 } : Room) #[(.ref a)] h0 (fun v h L => v = none ∧ Fr n0 L ∧ h = h0) := by
  refine own_met own_pn10 ?_
  intro p e s m below meth c s₁ hx hby hml hown hnm hret hlk hZ X0 hE0
  have N0 := Fr.nil n0
  refine own_cast (own_ef10_own_rmR m a) ?_
  refine own_aloadN (n := 1) X0 hx (hb hby d10_0) rfl rfl rfl ?_
  refine own_initO (n := 4) X0 hx hZ hown (ww54 hw) (ww16 hw) (ww17 hw) hE0 (by rw [hml]; rfl) (hb hby d10_1) (Nat.le_of_ble_eq_true rfl) (Nat.le_of_ble_eq_true rfl) rfl ?_
  intro T1 X1 e1
  refine own_retV X1 hx hlk hret e1 (hb hby d10_4) (by decide) (by decide) ?_
  exact ⟨rfl, N0, rfl⟩
theorem own_nn0 : FP.dmul (13821547256400052224 : UInt64) (0 : UInt64) &&& 0x7fffffffffffffff ≤ 0x7ff0000000000000 := by decide +kernel
theorem own_nn1 : FP.dmul (13821547256400052224 : UInt64) (4607182418800017408 : UInt64) &&& 0x7fffffffffffffff ≤ 0x7ff0000000000000 := by decide +kernel
theorem own_nn2 : FP.dmul (13821547256400052224 : UInt64) (4611686018427387904 : UInt64) &&& 0x7fffffffffffffff ≤ 0x7ff0000000000000 := by decide +kernel
theorem own_pn0 : plainFor x = true := plainFor_of_name (by first | (simp [plainName, overriddenIn]; done) | decide +kernel)
theorem own_pd9 : parseMethodDescriptor "(II)Ljava/lang/String;" = some ⟨[.int, .int], some (.object "java/lang/String")⟩ := by decide +kernel
theorem own_pd10 : parseMethodDescriptor "(I)Lcom/example/xml_stream_transform/xmlstreamtransform/model/NodeKind;" = some ⟨[.int], some (.object "com/example/xml_stream_transform/xmlstreamtransform/model/NodeKind")⟩ := by decide +kernel
theorem own_pn9 : plainFor (⟨"com/example/xml_stream_transform/xmlstreamtransform/stxpath/NameTest", "<init>", "(Lcom/example/xml_stream_transform/xmlstreamtransform/model/NodeKind;Ljava/lang/String;Ljava/lang/String;)V"⟩ : MethodName) = true := plainFor_of_name (by first | (simp [plainName, overriddenIn]; done) | decide +kernel)
theorem d9_0 : decode prog_191_method_1_code 0 = .ok (.aload_n 0, 1) := by decide +kernel
theorem d9_1 : decode prog_191_method_1_code 1 = .ok (.invokespecial 1, 3) := by decide +kernel
theorem own_pd11 : parseMethodDescriptor "()V" = some ⟨[], none⟩ := by decide +kernel
theorem d9_4 : decode prog_191_method_1_code 4 = .ok (.aload_n 0, 1) := by decide +kernel
theorem d9_5 : decode prog_191_method_1_code 5 = .ok (.aload_n 1, 1) := by decide +kernel
theorem d9_6 : decode prog_191_method_1_code 6 = .ok (.putfield 7, 3) := by decide +kernel
theorem d9_9 : decode prog_191_method_1_code 9 = .ok (.aload_n 0, 1) := by decide +kernel
theorem d9_10 : decode prog_191_method_1_code 10 = .ok (.aload_n 2, 1) := by decide +kernel
theorem d9_11 : decode prog_191_method_1_code 11 = .ok (.putfield 13, 3) := by decide +kernel
theorem d9_14 : decode prog_191_method_1_code 14 = .ok (.aload_n 0, 1) := by decide +kernel
theorem d9_15 : decode prog_191_method_1_code 15 = .ok (.aload_n 3, 1) := by decide +kernel
theorem d9_16 : decode prog_191_method_1_code 16 = .ok (.putfield 17, 3) := by decide +kernel
theorem d9_19 : decode prog_191_method_1_code 19 = .ok (.return_, 1) := by decide +kernel
theorem own_ef9_own_rmI_00 (m : MethodId) (y0 : Addr) (y1 : Addr) : entryFrame m #[(.ref y0), (.ref y1), .null, .null] 4 = mkF m 0 #[.val (.ref y0), .val (.ref y1), .val .null, .val .null] [] := by first | (simp [entryFrame, mkF, argsToLocals, Value.category]; done) | rfl
set_option maxRecDepth 65536 in
set_option maxHeartbeats 40000000 in
theorem own_rmI_00 (l : Launch) (Z : State) (a0 : Array Value) (hw : ∀ d ∈ tables_1, d.before a0 Z = true) (a kd : Addr)  (h0 : Heap) (n0 : Nat) (Z0 : n0 ≤ h0.size) (E0 : Exa Z h0 a "com/example/xml_stream_transform/xmlstreamtransform/stxpath/NameTest") (F1 : Fld Z h0 a "com/example/xml_stream_transform/xmlstreamtransform/stxpath/NameTest" "kind" "Lcom/example/xml_stream_transform/xmlstreamtransform/model/NodeKind;" .null) (F2 : Fld Z h0 a "com/example/xml_stream_transform/xmlstreamtransform/stxpath/NameTest" "namespaceUri" "Ljava/lang/String;" .null) (F3 : Fld Z h0 a "com/example/xml_stream_transform/xmlstreamtransform/stxpath/NameTest" "localName" "Ljava/lang/String;" .null) (g_a : n0 ≤ a) :
    own_Met l Z (⟨"com/example/xml_stream_transform/xmlstreamtransform/stxpath/NameTest", "<init>", "(Lcom/example/xml_stream_transform/xmlstreamtransform/model/NodeKind;Ljava/lang/String;Ljava/lang/String;)V"⟩ : MethodName) prog_191_method_1_code 4 none [] ({ frames := 2, cells := 0, slots := 0, locals := 24 } : Room) #[(.ref a), (.ref kd), .null, .null] h0 (fun v h L => v = none ∧ Fr n0 L ∧ Keep h0 h [a] ∧ Fld Z h a "com/example/xml_stream_transform/xmlstreamtransform/stxpath/NameTest" "namespaceUri" "Ljava/lang/String;" .null ∧ Fld Z h a "com/example/xml_stream_transform/xmlstreamtransform/stxpath/NameTest" "localName" "Ljava/lang/String;" .null) := by
  refine own_met own_pn9 ?_
  intro p e s m below meth c s₁ hx hby hml hown hnm hret hlk hZ X0 hE0
  have N0 := Fr.nil n0
  refine own_cast (own_ef9_own_rmI_00 m a kd) ?_
  refine own_aloadN (n := 1) X0 hx (hb hby d9_0) rfl rfl rfl ?_
  refine own_I (n := 4) (argsL := []) (rest := []) (a := a) (by rfl) X0 hx hZ hown (own_rmR l Z a0 hw a h0 n0 Z0) (ww49 hw) (ww50 hw) (ww52 hw) (ww53 hw) (by decide) hE0 (by rw [hml]; rfl) (lenOf own_pd11 rfl) rfl (hb hby d9_1) (Nat.le_of_ble_eq_true rfl) (Nat.le_of_ble_eq_true rfl) (Nat.le_of_ble_eq_true rfl) (Nat.le_of_ble_eq_true rfl) rfl ?_
  rintro v1 T1 L1 X1 ⟨rfl, Nq1, eq1⟩
  have N1 := Fr.app N0 Nq1
  change own_G p e below _ _ (mkF m 4 _ [])
  refine own_aloadN (n := 5) X1 hx (hb hby d9_4) rfl rfl rfl ?_
  refine own_aloadN (n := 6) X1 hx (hb hby d9_5) rfl rfl rfl ?_
  refine own_putF (n := 9) X1 hx hZ hown (host := "") (Or.inl (ww55 hw)) Via.refl eq1 F1 E0 (Or.inr ⟨(ww56 hw), rfl, hnm⟩) (ww38 hw) (ty := (.object "com/example/xml_stream_transform/xmlstreamtransform/model/NodeKind")) (by decide) rfl rfl (hb hby d9_6) rfl ?_
  intro T2 h2 X2 e2 W2
  have F_3 := F1.same W2
  have N2 := Fr.snoc X2 N1 g_a
  have E_4 := E0.wr W2
  have F_5 := F2.other W2 (Or.inr (slot_ne (Or.inr (ww58 hw)) (Or.inr (ww56 hw)) (by decide) (t := (.object "java/lang/String")) (t' := (.object "com/example/xml_stream_transform/xmlstreamtransform/model/NodeKind")) (by decide) (by decide)))
  have F_6 := F3.other W2 (Or.inr (slot_ne (Or.inr (ww60 hw)) (Or.inr (ww56 hw)) (by decide) (t := (.object "java/lang/String")) (t' := (.object "com/example/xml_stream_transform/xmlstreamtransform/model/NodeKind")) (by decide) (by decide)))
  have K_7 := (Keep.refl h0 [a]).wr W2 (Or.inl (by simp))
  have Z_8 : n0 ≤ h2.size := by rw [W2.size]; exact Z0
  refine own_aloadN (n := 10) X2 hx (hb hby d9_9) rfl rfl rfl ?_
  refine own_aloadN (n := 11) X2 hx (hb hby d9_10) rfl rfl rfl ?_
  refine own_putF (n := 14) X2 hx hZ hown (host := "") (Or.inl (ww57 hw)) Via.refl e2 F_5 E_4 (Or.inr ⟨(ww58 hw), rfl, hnm⟩) (ww38 hw) (ty := (.object "java/lang/String")) (by decide) rfl rfl (hb hby d9_11) rfl ?_
  intro T9 h9 X9 e9 W9
  have F_10 := F_5.same W9
  have N9 := Fr.snoc X9 N2 g_a
  have E_11 := E_4.wr W9
  have F_12 := F_6.other W9 (Or.inr (slot_ne (Or.inr (ww60 hw)) (Or.inr (ww58 hw)) (by decide) (t := (.object "java/lang/String")) (t' := (.object "java/lang/String")) (by decide) (by decide)))
  have K_13 := K_7.wr W9 (Or.inl (by simp))
  have F_14 := F_3.other W9 (Or.inr (slot_ne (Or.inr (ww56 hw)) (Or.inr (ww58 hw)) (by decide) (t := (.object "com/example/xml_stream_transform/xmlstreamtransform/model/NodeKind")) (t' := (.object "java/lang/String")) (by decide) (by decide)))
  have Z_15 : n0 ≤ h9.size := by rw [W9.size]; exact Z_8
  refine own_aloadN (n := 15) X9 hx (hb hby d9_14) rfl rfl rfl ?_
  refine own_aloadN (n := 16) X9 hx (hb hby d9_15) rfl rfl rfl ?_
  refine own_putF (n := 19) X9 hx hZ hown (host := "") (Or.inl (ww59 hw)) Via.refl e9 F_12 E_11 (Or.inr ⟨(ww60 hw), rfl, hnm⟩) (ww38 hw) (ty := (.object "java/lang/String")) (by decide) rfl rfl (hb hby d9_16) rfl ?_
  intro T16 h16 X16 e16 W16
  have F_17 := F_12.same W16
  have N16 := Fr.snoc X16 N9 g_a
  have E_18 := E_11.wr W16
  have K_19 := K_13.wr W16 (Or.inl (by simp))
  have F_20 := F_14.other W16 (Or.inr (slot_ne (Or.inr (ww56 hw)) (Or.inr (ww60 hw)) (by decide) (t := (.object "com/example/xml_stream_transform/xmlstreamtransform/model/NodeKind")) (t' := (.object "java/lang/String")) (by decide) (by decide)))
  have F_21 := F_10.other W16 (Or.inr (slot_ne (Or.inr (ww58 hw)) (Or.inr (ww60 hw)) (by decide) (t := (.object "java/lang/String")) (t' := (.object "java/lang/String")) (by decide) (by decide)))
  have Z_22 : n0 ≤ h16.size := by rw [W16.size]; exact Z_15
  refine own_retV X16 hx hlk hret e16 (hb hby d9_19) (by decide) (by decide) ?_
  exact ⟨rfl, N16, K_19, F_21, F_17⟩
theorem own_pd12 : parseMethodDescriptor "(Lcom/example/xml_stream_transform/xmlstreamtransform/model/NodeKind;Ljava/lang/String;Ljava/lang/String;)V" = some ⟨[(.object "com/example/xml_stream_transform/xmlstreamtransform/model/NodeKind"), (.object "java/lang/String"), (.object "java/lang/String")], none⟩ := by decide +kernel
theorem own_pn11 : plainFor (⟨"com/example/xml_stream_transform/xmlstreamtransform/stxpath/NameTest", "defaultPriority", "()D"⟩ : MethodName) = true := plainFor_of_name (by first | (simp [plainName, overriddenIn]; done) | decide +kernel)
theorem d11_0 : decode prog_191_method_4_code 0 = .ok (.aload_n 0, 1) := by decide +kernel
theorem d11_1 : decode prog_191_method_4_code 1 = .ok (.getfield 13, 3) := by decide +kernel
theorem d11_4 : decode prog_191_method_4_code 4 = .ok (.ifnull 12, 3) := by decide +kernel
theorem d11_16 : decode prog_191_method_4_code 16 = .ok (.aload_n 0, 1) := by decide +kernel
theorem d11_17 : decode prog_191_method_4_code 17 = .ok (.getfield 13, 3) := by decide +kernel
theorem d11_20 : decode prog_191_method_4_code 20 = .ok (.ifnonnull 16, 3) := by decide +kernel
theorem d11_23 : decode prog_191_method_4_code 23 = .ok (.aload_n 0, 1) := by decide +kernel
theorem d11_24 : decode prog_191_method_4_code 24 = .ok (.getfield 17, 3) := by decide +kernel
theorem d11_27 : decode prog_191_method_4_code 27 = .ok (.ifnonnull 9, 3) := by decide +kernel
theorem d11_30 : decode prog_191_method_4_code 30 = .ok (.ldc2_w 36, 3) := by decide +kernel
theorem d11_33 : decode prog_191_method_4_code 33 = .ok (.goto 6, 3) := by decide +kernel
theorem d11_39 : decode prog_191_method_4_code 39 = .ok (.dreturn, 1) := by decide +kernel
theorem own_ef11_own_rmP_00 (m : MethodId) (y0 : Addr) : entryFrame m #[(.ref y0)] 1 = mkF m 0 #[.val (.ref y0)] [] := by first | (simp [entryFrame, mkF, argsToLocals, Value.category]; done) | rfl
set_option maxRecDepth 65536 in
set_option maxHeartbeats 40000000 in
theorem own_rmP_00 (l : Launch) (Z : State) (a0 : Array Value) (hw : ∀ d ∈ tables_1, d.before a0 Z = true) (a : Addr)  (h0 : Heap) (n0 : Nat) (Z0 : n0 ≤ h0.size) (F2 : Fld Z h0 a "com/example/xml_stream_transform/xmlstreamtransform/stxpath/NameTest" "namespaceUri" "Ljava/lang/String;" .null) (F3 : Fld Z h0 a "com/example/xml_stream_transform/xmlstreamtransform/stxpath/NameTest" "localName" "Ljava/lang/String;" .null) :
    own_Met l Z (⟨"com/example/xml_stream_transform/xmlstreamtransform/stxpath/NameTest", "defaultPriority", "()D"⟩ : MethodName) prog_191_method_4_code 1 (some .double) [] ({ frames := 0, cells := 0, slots := 0, locals := 0 } : Room) #[(.ref a)] h0 (fun v h L => v = some (.double (13826050856027422720 : UInt64)) ∧ Fr n0 L ∧ h = h0) := by
  refine own_met own_pn11 ?_
  intro p e s m below meth c s₁ hx hby hml hown hnm hret hlk hZ X0 hE0
  have N0 := Fr.nil n0
  refine own_cast (own_ef11_own_rmP_00 m a) ?_
  refine own_aloadN (n := 1) X0 hx (hb hby d11_0) rfl rfl rfl ?_
  refine own_getF (n := 4) X0 hx hZ hown (host := "") (Or.inl (ww57 hw)) Via.refl hE0 F2 (hb hby d11_1) rfl ?_
  intro T1 X1 e1
  refine own_ifnullYes (n := 16) X1 hx (hb hby d11_4) (by decide) (by decide) ?_
  refine own_aloadN (n := 17) X1 hx (hb hby d11_16) rfl rfl rfl ?_
  refine own_getF (n := 20) X1 hx hZ hown (host := "") (Or.inl (ww57 hw)) Via.refl e1 F2 (hb hby d11_17) rfl ?_
  intro T2 X2 e2
  refine own_ifnonnullNo (n := 23) X2 hx (hb hby d11_20) rfl ?_
  refine own_aloadN (n := 24) X2 hx (hb hby d11_23) rfl rfl rfl ?_
  refine own_getF (n := 27) X2 hx hZ hown (host := "") (Or.inl (ww59 hw)) Via.refl e2 F3 (hb hby d11_24) rfl ?_
  intro T3 X3 e3
  refine own_ifnonnullNo (n := 30) X3 hx (hb hby d11_27) rfl ?_
  refine own_ldcD (n := 33) (v := (13826050856027422720 : UInt64)) X3 hx hZ hown (ww94 hw) (hb hby d11_30) rfl ?_
  refine own_goto (n := 39) X3 hx (hb hby d11_33) (by decide) (by decide) ?_
  refine own_retD X3 hx hlk hret e3 (hb hby d11_39) (by decide) (by decide) ?_
  exact ⟨rfl, N0, rfl⟩
theorem own_pd13 : parseMethodDescriptor "()D" = some ⟨[], some .double⟩ := by decide +kernel
theorem own_ef9_own_rmI_01 (m : MethodId) (y0 : Addr) (y1 : Addr) (y3 : Addr) : entryFrame m #[(.ref y0), (.ref y1), .null, (.ref y3)] 4 = mkF m 0 #[.val (.ref y0), .val (.ref y1), .val .null, .val (.ref y3)] [] := by first | (simp [entryFrame, mkF, argsToLocals, Value.category]; done) | rfl
set_option maxRecDepth 65536 in
set_option maxHeartbeats 40000000 in
theorem own_rmI_01 (l : Launch) (Z : State) (a0 : Array Value) (hw : ∀ d ∈ tables_1, d.before a0 Z = true) (a kd : Addr) (x1 : Addr) (h0 : Heap) (n0 : Nat) (Z0 : n0 ≤ h0.size) (E0 : Exa Z h0 a "com/example/xml_stream_transform/xmlstreamtransform/stxpath/NameTest") (F1 : Fld Z h0 a "com/example/xml_stream_transform/xmlstreamtransform/stxpath/NameTest" "kind" "Lcom/example/xml_stream_transform/xmlstreamtransform/model/NodeKind;" .null) (F2 : Fld Z h0 a "com/example/xml_stream_transform/xmlstreamtransform/stxpath/NameTest" "namespaceUri" "Ljava/lang/String;" .null) (F3 : Fld Z h0 a "com/example/xml_stream_transform/xmlstreamtransform/stxpath/NameTest" "localName" "Ljava/lang/String;" .null) (g_a : n0 ≤ a) :
    own_Met l Z (⟨"com/example/xml_stream_transform/xmlstreamtransform/stxpath/NameTest", "<init>", "(Lcom/example/xml_stream_transform/xmlstreamtransform/model/NodeKind;Ljava/lang/String;Ljava/lang/String;)V"⟩ : MethodName) prog_191_method_1_code 4 none [] ({ frames := 2, cells := 0, slots := 0, locals := 24 } : Room) #[(.ref a), (.ref kd), .null, (.ref x1)] h0 (fun v h L => v = none ∧ Fr n0 L ∧ Keep h0 h [a] ∧ Fld Z h a "com/example/xml_stream_transform/xmlstreamtransform/stxpath/NameTest" "namespaceUri" "Ljava/lang/String;" .null ∧ Fld Z h a "com/example/xml_stream_transform/xmlstreamtransform/stxpath/NameTest" "localName" "Ljava/lang/String;" (.ref x1)) := by
  refine own_met own_pn9 ?_
  intro p e s m below meth c s₁ hx hby hml hown hnm hret hlk hZ X0 hE0
  have N0 := Fr.nil n0
  refine own_cast (own_ef9_own_rmI_01 m a kd x1) ?_
  refine own_aloadN (n := 1) X0 hx (hb hby d9_0) rfl rfl rfl ?_
  refine own_I (n := 4) (argsL := []) (rest := []) (a := a) (by rfl) X0 hx hZ hown (own_rmR l Z a0 hw a h0 n0 Z0) (ww49 hw) (ww50 hw) (ww52 hw) (ww53 hw) (by decide) hE0 (by rw [hml]; rfl) (lenOf own_pd11 rfl) rfl (hb hby d9_1) (Nat.le_of_ble_eq_true rfl) (Nat.le_of_ble_eq_true rfl) (Nat.le_of_ble_eq_true rfl) (Nat.le_of_ble_eq_true rfl) rfl ?_
  rintro v1 T1 L1 X1 ⟨rfl, Nq1, eq1⟩
  have N1 := Fr.app N0 Nq1
  change own_G p e below _ _ (mkF m 4 _ [])
  refine own_aloadN (n := 5) X1 hx (hb hby d9_4) rfl rfl rfl ?_
  refine own_aloadN (n := 6) X1 hx (hb hby d9_5) rfl rfl rfl ?_
  refine own_putF (n := 9) X1 hx hZ hown (host := "") (Or.inl (ww55 hw)) Via.refl eq1 F1 E0 (Or.inr ⟨(ww56 hw), rfl, hnm⟩) (ww38 hw) (ty := (.object "com/example/xml_stream_transform/xmlstreamtransform/model/NodeKind")) (by decide) rfl rfl (hb hby d9_6) rfl ?_
  intro T2 h2 X2 e2 W2
  have F_3 := F1.same W2
  have N2 := Fr.snoc X2 N1 g_a
  have E_4 := E0.wr W2
  have F_5 := F2.other W2 (Or.inr (slot_ne (Or.inr (ww58 hw)) (Or.inr (ww56 hw)) (by decide) (t := (.object "java/lang/String")) (t' := (.object "com/example/xml_stream_transform/xmlstreamtransform/model/NodeKind")) (by decide) (by decide)))
  have F_6 := F3.other W2 (Or.inr (slot_ne (Or.inr (ww60 hw)) (Or.inr (ww56 hw)) (by decide) (t := (.object "java/lang/String")) (t' := (.object "com/example/xml_stream_transform/xmlstreamtransform/model/NodeKind")) (by decide) (by decide)))
  have K_7 := (Keep.refl h0 [a]).wr W2 (Or.inl (by simp))
  have Z_8 : n0 ≤ h2.size := by rw [W2.size]; exact Z0
  refine own_aloadN (n := 10) X2 hx (hb hby d9_9) rfl rfl rfl ?_
  refine own_aloadN (n := 11) X2 hx (hb hby d9_10) rfl rfl rfl ?_
  refine own_putF (n := 14) X2 hx hZ hown (host := "") (Or.inl (ww57 hw)) Via.refl e2 F_5 E_4 (Or.inr ⟨(ww58 hw), rfl, hnm⟩) (ww38 hw) (ty := (.object "java/lang/String")) (by decide) rfl rfl (hb hby d9_11) rfl ?_
  intro T9 h9 X9 e9 W9
  have F_10 := F_5.same W9
  have N9 := Fr.snoc X9 N2 g_a
  have E_11 := E_4.wr W9
  have F_12 := F_6.other W9 (Or.inr (slot_ne (Or.inr (ww60 hw)) (Or.inr (ww58 hw)) (by decide) (t := (.object "java/lang/String")) (t' := (.object "java/lang/String")) (by decide) (by decide)))
  have K_13 := K_7.wr W9 (Or.inl (by simp))
  have F_14 := F_3.other W9 (Or.inr (slot_ne (Or.inr (ww56 hw)) (Or.inr (ww58 hw)) (by decide) (t := (.object "com/example/xml_stream_transform/xmlstreamtransform/model/NodeKind")) (t' := (.object "java/lang/String")) (by decide) (by decide)))
  have Z_15 : n0 ≤ h9.size := by rw [W9.size]; exact Z_8
  refine own_aloadN (n := 15) X9 hx (hb hby d9_14) rfl rfl rfl ?_
  refine own_aloadN (n := 16) X9 hx (hb hby d9_15) rfl rfl rfl ?_
  refine own_putF (n := 19) X9 hx hZ hown (host := "") (Or.inl (ww59 hw)) Via.refl e9 F_12 E_11 (Or.inr ⟨(ww60 hw), rfl, hnm⟩) (ww38 hw) (ty := (.object "java/lang/String")) (by decide) rfl rfl (hb hby d9_16) rfl ?_
  intro T16 h16 X16 e16 W16
  have F_17 := F_12.same W16
  have N16 := Fr.snoc X16 N9 g_a
  have E_18 := E_11.wr W16
  have K_19 := K_13.wr W16 (Or.inl (by simp))
  have F_20 := F_14.other W16 (Or.inr (slot_ne (Or.inr (ww56 hw)) (Or.inr (ww60 hw)) (by decide) (t := (.object "com/example/xml_stream_transform/xmlstreamtransform/model/NodeKind")) (t' := (.object "java/lang/String")) (by decide) (by decide)))
  have F_21 := F_10.other W16 (Or.inr (slot_ne (Or.inr (ww58 hw)) (Or.inr (ww60 hw)) (by decide) (t := (.object "java/lang/String")) (t' := (.object "java/lang/String")) (by decide) (by decide)))
  have Z_22 : n0 ≤ h16.size := by rw [W16.size]; exact Z_15
  refine own_retV X16 hx hlk hret e16 (hb hby d9_19) (by decide) (by decide) ?_
  exact ⟨rfl, N16, K_19, F_21, F_17⟩
theorem d11_36 : decode prog_191_method_4_code 36 = .ok (.ldc2_w 38, 3) := by decide +kernel
theorem own_ef11_own_rmP_01 (m : MethodId) (y0 : Addr) : entryFrame m #[(.ref y0)] 1 = mkF m 0 #[.val (.ref y0)] [] := by first | (simp [entryFrame, mkF, argsToLocals, Value.category]; done) | rfl
set_option maxRecDepth 65536 in
set_option maxHeartbeats 40000000 in
theorem own_rmP_01 (l : Launch) (Z : State) (a0 : Array Value) (hw : ∀ d ∈ tables_1, d.before a0 Z = true) (a : Addr) (x1 : Addr) (h0 : Heap) (n0 : Nat) (Z0 : n0 ≤ h0.size) (F2 : Fld Z h0 a "com/example/xml_stream_transform/xmlstreamtransform/stxpath/NameTest" "namespaceUri" "Ljava/lang/String;" .null) (F3 : Fld Z h0 a "com/example/xml_stream_transform/xmlstreamtransform/stxpath/NameTest" "localName" "Ljava/lang/String;" (.ref x1)) :
    own_Met l Z (⟨"com/example/xml_stream_transform/xmlstreamtransform/stxpath/NameTest", "defaultPriority", "()D"⟩ : MethodName) prog_191_method_4_code 1 (some .double) [] ({ frames := 0, cells := 0, slots := 0, locals := 0 } : Room) #[(.ref a)] h0 (fun v h L => v = some (.double (13821547256400052224 : UInt64)) ∧ Fr n0 L ∧ h = h0) := by
  refine own_met own_pn11 ?_
  intro p e s m below meth c s₁ hx hby hml hown hnm hret hlk hZ X0 hE0
  have N0 := Fr.nil n0
  refine own_cast (own_ef11_own_rmP_01 m a) ?_
  refine own_aloadN (n := 1) X0 hx (hb hby d11_0) rfl rfl rfl ?_
  refine own_getF (n := 4) X0 hx hZ hown (host := "") (Or.inl (ww57 hw)) Via.refl hE0 F2 (hb hby d11_1) rfl ?_
  intro T1 X1 e1
  refine own_ifnullYes (n := 16) X1 hx (hb hby d11_4) (by decide) (by decide) ?_
  refine own_aloadN (n := 17) X1 hx (hb hby d11_16) rfl rfl rfl ?_
  refine own_getF (n := 20) X1 hx hZ hown (host := "") (Or.inl (ww57 hw)) Via.refl e1 F2 (hb hby d11_17) rfl ?_
  intro T2 X2 e2
  refine own_ifnonnullNo (n := 23) X2 hx (hb hby d11_20) rfl ?_
  refine own_aloadN (n := 24) X2 hx (hb hby d11_23) rfl rfl rfl ?_
  refine own_getF (n := 27) X2 hx hZ hown (host := "") (Or.inl (ww59 hw)) Via.refl e2 F3 (hb hby d11_24) rfl ?_
  intro T3 X3 e3
  refine own_ifnonnullYes (n := 36) X3 hx (hb hby d11_27) (by decide) (by decide) ?_
  refine own_ldcD (n := 39) (v := (13821547256400052224 : UInt64)) X3 hx hZ hown (ww69 hw) (hb hby d11_36) rfl ?_
  refine own_retD X3 hx hlk hret e3 (hb hby d11_39) (by decide) (by decide) ?_
  exact ⟨rfl, N0, rfl⟩
theorem own_ef9_own_rmI_10 (m : MethodId) (y0 : Addr) (y1 : Addr) (y2 : Addr) : entryFrame m #[(.ref y0), (.ref y1), (.ref y2), .null] 4 = mkF m 0 #[.val (.ref y0), .val (.ref y1), .val (.ref y2), .val .null] [] := by first | (simp [entryFrame, mkF, argsToLocals, Value.category]; done) | rfl
set_option maxRecDepth 65536 in
set_option maxHeartbeats 40000000 in
theorem own_rmI_10 (l : Launch) (Z : State) (a0 : Array Value) (hw : ∀ d ∈ tables_1, d.before a0 Z = true) (a kd : Addr) (x0 : Addr) (h0 : Heap) (n0 : Nat) (Z0 : n0 ≤ h0.size) (E0 : Exa Z h0 a "com/example/xml_stream_transform/xmlstreamtransform/stxpath/NameTest") (F1 : Fld Z h0 a "com/example/xml_stream_transform/xmlstreamtransform/stxpath/NameTest" "kind" "Lcom/example/xml_stream_transform/xmlstreamtransform/model/NodeKind;" .null) (F2 : Fld Z h0 a "com/example/xml_stream_transform/xmlstreamtransform/stxpath/NameTest" "namespaceUri" "Ljava/lang/String;" .null) (F3 : Fld Z h0 a "com/example/xml_stream_transform/xmlstreamtransform/stxpath/NameTest" "localName" "Ljava/lang/String;" .null) (g_a : n0 ≤ a) :
    own_Met l Z (⟨"com/example/xml_stream_transform/xmlstreamtransform/stxpath/NameTest", "<init>", "(Lcom/example/xml_stream_transform/xmlstreamtransform/model/NodeKind;Ljava/lang/String;Ljava/lang/String;)V"⟩ : MethodName) prog_191_method_1_code 4 none [] ({ frames := 2, cells := 0, slots := 0, locals := 24 } : Room) #[(.ref a), (.ref kd), (.ref x0), .null] h0 (fun v h L => v = none ∧ Fr n0 L ∧ Keep h0 h [a] ∧ Fld Z h a "com/example/xml_stream_transform/xmlstreamtransform/stxpath/NameTest" "namespaceUri" "Ljava/lang/String;" (.ref x0) ∧ Fld Z h a "com/example/xml_stream_transform/xmlstreamtransform/stxpath/NameTest" "localName" "Ljava/lang/String;" .null) := by
  refine own_met own_pn9 ?_
  intro p e s m below meth c s₁ hx hby hml hown hnm hret hlk hZ X0 hE0
  have N0 := Fr.nil n0
  refine own_cast (own_ef9_own_rmI_10 m a kd x0) ?_
  refine own_aloadN (n := 1) X0 hx (hb hby d9_0) rfl rfl rfl ?_
  refine own_I (n := 4) (argsL := []) (rest := []) (a := a) (by rfl) X0 hx hZ hown (own_rmR l Z a0 hw a h0 n0 Z0) (ww49 hw) (ww50 hw) (ww52 hw) (ww53 hw) (by decide) hE0 (by rw [hml]; rfl) (lenOf own_pd11 rfl) rfl (hb hby d9_1) (Nat.le_of_ble_eq_true rfl) (Nat.le_of_ble_eq_true rfl) (Nat.le_of_ble_eq_true rfl) (Nat.le_of_ble_eq_true rfl) rfl ?_
  rintro v1 T1 L1 X1 ⟨rfl, Nq1, eq1⟩
  have N1 := Fr.app N0 Nq1
  change own_G p e below _ _ (mkF m 4 _ [])
  refine own_aloadN (n := 5) X1 hx (hb hby d9_4) rfl rfl rfl ?_
  refine own_aloadN (n := 6) X1 hx (hb hby d9_5) rfl rfl rfl ?_
  refine own_putF (n := 9) X1 hx hZ hown (host := "") (Or.inl (ww55 hw)) Via.refl eq1 F1 E0 (Or.inr ⟨(ww56 hw), rfl, hnm⟩) (ww38 hw) (ty := (.object "com/example/xml_stream_transform/xmlstreamtransform/model/NodeKind")) (by decide) rfl rfl (hb hby d9_6) rfl ?_
  intro T2 h2 X2 e2 W2
  have F_3 := F1.same W2
  have N2 := Fr.snoc X2 N1 g_a
  have E_4 := E0.wr W2
  have F_5 := F2.other W2 (Or.inr (slot_ne (Or.inr (ww58 hw)) (Or.inr (ww56 hw)) (by decide) (t := (.object "java/lang/String")) (t' := (.object "com/example/xml_stream_transform/xmlstreamtransform/model/NodeKind")) (by decide) (by decide)))
  have F_6 := F3.other W2 (Or.inr (slot_ne (Or.inr (ww60 hw)) (Or.inr (ww56 hw)) (by decide) (t := (.object "java/lang/String")) (t' := (.object "com/example/xml_stream_transform/xmlstreamtransform/model/NodeKind")) (by decide) (by decide)))
  have K_7 := (Keep.refl h0 [a]).wr W2 (Or.inl (by simp))
  have Z_8 : n0 ≤ h2.size := by rw [W2.size]; exact Z0
  refine own_aloadN (n := 10) X2 hx (hb hby d9_9) rfl rfl rfl ?_
  refine own_aloadN (n := 11) X2 hx (hb hby d9_10) rfl rfl rfl ?_
  refine own_putF (n := 14) X2 hx hZ hown (host := "") (Or.inl (ww57 hw)) Via.refl e2 F_5 E_4 (Or.inr ⟨(ww58 hw), rfl, hnm⟩) (ww38 hw) (ty := (.object "java/lang/String")) (by decide) rfl rfl (hb hby d9_11) rfl ?_
  intro T9 h9 X9 e9 W9
  have F_10 := F_5.same W9
  have N9 := Fr.snoc X9 N2 g_a
  have E_11 := E_4.wr W9
  have F_12 := F_6.other W9 (Or.inr (slot_ne (Or.inr (ww60 hw)) (Or.inr (ww58 hw)) (by decide) (t := (.object "java/lang/String")) (t' := (.object "java/lang/String")) (by decide) (by decide)))
  have K_13 := K_7.wr W9 (Or.inl (by simp))
  have F_14 := F_3.other W9 (Or.inr (slot_ne (Or.inr (ww56 hw)) (Or.inr (ww58 hw)) (by decide) (t := (.object "com/example/xml_stream_transform/xmlstreamtransform/model/NodeKind")) (t' := (.object "java/lang/String")) (by decide) (by decide)))
  have Z_15 : n0 ≤ h9.size := by rw [W9.size]; exact Z_8
  refine own_aloadN (n := 15) X9 hx (hb hby d9_14) rfl rfl rfl ?_
  refine own_aloadN (n := 16) X9 hx (hb hby d9_15) rfl rfl rfl ?_
  refine own_putF (n := 19) X9 hx hZ hown (host := "") (Or.inl (ww59 hw)) Via.refl e9 F_12 E_11 (Or.inr ⟨(ww60 hw), rfl, hnm⟩) (ww38 hw) (ty := (.object "java/lang/String")) (by decide) rfl rfl (hb hby d9_16) rfl ?_
  intro T16 h16 X16 e16 W16
  have F_17 := F_12.same W16
  have N16 := Fr.snoc X16 N9 g_a
  have E_18 := E_11.wr W16
  have K_19 := K_13.wr W16 (Or.inl (by simp))
  have F_20 := F_14.other W16 (Or.inr (slot_ne (Or.inr (ww56 hw)) (Or.inr (ww60 hw)) (by decide) (t := (.object "com/example/xml_stream_transform/xmlstreamtransform/model/NodeKind")) (t' := (.object "java/lang/String")) (by decide) (by decide)))
  have F_21 := F_10.other W16 (Or.inr (slot_ne (Or.inr (ww58 hw)) (Or.inr (ww60 hw)) (by decide) (t := (.object "java/lang/String")) (t' := (.object "java/lang/String")) (by decide) (by decide)))
  have Z_22 : n0 ≤ h16.size := by rw [W16.size]; exact Z_15
  refine own_retV X16 hx hlk hret e16 (hb hby d9_19) (by decide) (by decide) ?_
  exact ⟨rfl, N16, K_19, F_21, F_17⟩
theorem d11_7 : decode prog_191_method_4_code 7 = .ok (.aload_n 0, 1) := by decide +kernel
theorem d11_8 : decode prog_191_method_4_code 8 = .ok (.getfield 17, 3) := by decide +kernel
theorem d11_11 : decode prog_191_method_4_code 11 = .ok (.ifnull 5, 3) := by decide +kernel
theorem own_ef11_own_rmP_10 (m : MethodId) (y0 : Addr) : entryFrame m #[(.ref y0)] 1 = mkF m 0 #[.val (.ref y0)] [] := by first | (simp [entryFrame, mkF, argsToLocals, Value.category]; done) | rfl
set_option maxRecDepth 65536 in
set_option maxHeartbeats 40000000 in
theorem own_rmP_10 (l : Launch) (Z : State) (a0 : Array Value) (hw : ∀ d ∈ tables_1, d.before a0 Z = true) (a : Addr) (x0 : Addr) (h0 : Heap) (n0 : Nat) (Z0 : n0 ≤ h0.size) (F2 : Fld Z h0 a "com/example/xml_stream_transform/xmlstreamtransform/stxpath/NameTest" "namespaceUri" "Ljava/lang/String;" (.ref x0)) (F3 : Fld Z h0 a "com/example/xml_stream_transform/xmlstreamtransform/stxpath/NameTest" "localName" "Ljava/lang/String;" .null) :
    own_Met l Z (⟨"com/example/xml_stream_transform/xmlstreamtransform/stxpath/NameTest", "defaultPriority", "()D"⟩ : MethodName) prog_191_method_4_code 1 (some .double) [] ({ frames := 0, cells := 0, slots := 0, locals := 0 } : Room) #[(.ref a)] h0 (fun v h L => v = some (.double (13821547256400052224 : UInt64)) ∧ Fr n0 L ∧ h = h0) := by
  refine own_met own_pn11 ?_
  intro p e s m below meth c s₁ hx hby hml hown hnm hret hlk hZ X0 hE0
  have N0 := Fr.nil n0
  refine own_cast (own_ef11_own_rmP_10 m a) ?_
  refine own_aloadN (n := 1) X0 hx (hb hby d11_0) rfl rfl rfl ?_
  refine own_getF (n := 4) X0 hx hZ hown (host := "") (Or.inl (ww57 hw)) Via.refl hE0 F2 (hb hby d11_1) rfl ?_
  intro T1 X1 e1
  refine own_ifnullNo (n := 7) X1 hx (hb hby d11_4) rfl ?_
  refine own_aloadN (n := 8) X1 hx (hb hby d11_7) rfl rfl rfl ?_
  refine own_getF (n := 11) X1 hx hZ hown (host := "") (Or.inl (ww59 hw)) Via.refl e1 F3 (hb hby d11_8) rfl ?_
  intro T2 X2 e2
  refine own_ifnullYes (n := 16) X2 hx (hb hby d11_11) (by decide) (by decide) ?_
  refine own_aloadN (n := 17) X2 hx (hb hby d11_16) rfl rfl rfl ?_
  refine own_getF (n := 20) X2 hx hZ hown (host := "") (Or.inl (ww57 hw)) Via.refl e2 F2 (hb hby d11_17) rfl ?_
  intro T3 X3 e3
  refine own_ifnonnullYes (n := 36) X3 hx (hb hby d11_20) (by decide) (by decide) ?_
  refine own_ldcD (n := 39) (v := (13821547256400052224 : UInt64)) X3 hx hZ hown (ww69 hw) (hb hby d11_36) rfl ?_
  refine own_retD X3 hx hlk hret e3 (hb hby d11_39) (by decide) (by decide) ?_
  exact ⟨rfl, N0, rfl⟩
theorem own_ef9_own_rmI_11 (m : MethodId) (y0 : Addr) (y1 : Addr) (y2 : Addr) (y3 : Addr) : entryFrame m #[(.ref y0), (.ref y1), (.ref y2), (.ref y3)] 4 = mkF m 0 #[.val (.ref y0), .val (.ref y1), .val (.ref y2), .val (.ref y3)] [] := by first | (simp [entryFrame, mkF, argsToLocals, Value.category]; done) | rfl
set_option maxRecDepth 65536 in
set_option maxHeartbeats 40000000 in
theorem own_rmI_11 (l : Launch) (Z : State) (a0 : Array Value) (hw : ∀ d ∈ tables_1, d.before a0 Z = true) (a kd : Addr) (x0 : Addr) (x1 : Addr) (h0 : Heap) (n0 : Nat) (Z0 : n0 ≤ h0.size) (E0 : Exa Z h0 a "com/example/xml_stream_transform/xmlstreamtransform/stxpath/NameTest") (F1 : Fld Z h0 a "com/example/xml_stream_transform/xmlstreamtransform/stxpath/NameTest" "kind" "Lcom/example/xml_stream_transform/xmlstreamtransform/model/NodeKind;" .null) (F2 : Fld Z h0 a "com/example/xml_stream_transform/xmlstreamtransform/stxpath/NameTest" "namespaceUri" "Ljava/lang/String;" .null) (F3 : Fld Z h0 a "com/example/xml_stream_transform/xmlstreamtransform/stxpath/NameTest" "localName" "Ljava/lang/String;" .null) (g_a : n0 ≤ a) :
    own_Met l Z (⟨"com/example/xml_stream_transform/xmlstreamtransform/stxpath/NameTest", "<init>", "(Lcom/example/xml_stream_transform/xmlstreamtransform/model/NodeKind;Ljava/lang/String;Ljava/lang/String;)V"⟩ : MethodName) prog_191_method_1_code 4 none [] ({ frames := 2, cells := 0, slots := 0, locals := 24 } : Room) #[(.ref a), (.ref kd), (.ref x0), (.ref x1)] h0 (fun v h L => v = none ∧ Fr n0 L ∧ Keep h0 h [a] ∧ Fld Z h a "com/example/xml_stream_transform/xmlstreamtransform/stxpath/NameTest" "namespaceUri" "Ljava/lang/String;" (.ref x0) ∧ Fld Z h a "com/example/xml_stream_transform/xmlstreamtransform/stxpath/NameTest" "localName" "Ljava/lang/String;" (.ref x1)) := by
  refine own_met own_pn9 ?_
  intro p e s m below meth c s₁ hx hby hml hown hnm hret hlk hZ X0 hE0
  have N0 := Fr.nil n0
  refine own_cast (own_ef9_own_rmI_11 m a kd x0 x1) ?_
  refine own_aloadN (n := 1) X0 hx (hb hby d9_0) rfl rfl rfl ?_
  refine own_I (n := 4) (argsL := []) (rest := []) (a := a) (by rfl) X0 hx hZ hown (own_rmR l Z a0 hw a h0 n0 Z0) (ww49 hw) (ww50 hw) (ww52 hw) (ww53 hw) (by decide) hE0 (by rw [hml]; rfl) (lenOf own_pd11 rfl) rfl (hb hby d9_1) (Nat.le_of_ble_eq_true rfl) (Nat.le_of_ble_eq_true rfl) (Nat.le_of_ble_eq_true rfl) (Nat.le_of_ble_eq_true rfl) rfl ?_
  rintro v1 T1 L1 X1 ⟨rfl, Nq1, eq1⟩
  have N1 := Fr.app N0 Nq1
  change own_G p e below _ _ (mkF m 4 _ [])
  refine own_aloadN (n := 5) X1 hx (hb hby d9_4) rfl rfl rfl ?_
  refine own_aloadN (n := 6) X1 hx (hb hby d9_5) rfl rfl rfl ?_
  refine own_putF (n := 9) X1 hx hZ hown (host := "") (Or.inl (ww55 hw)) Via.refl eq1 F1 E0 (Or.inr ⟨(ww56 hw), rfl, hnm⟩) (ww38 hw) (ty := (.object "com/example/xml_stream_transform/xmlstreamtransform/model/NodeKind")) (by decide) rfl rfl (hb hby d9_6) rfl ?_
  intro T2 h2 X2 e2 W2
  have F_3 := F1.same W2
  have N2 := Fr.snoc X2 N1 g_a
  have E_4 := E0.wr W2
  have F_5 := F2.other W2 (Or.inr (slot_ne (Or.inr (ww58 hw)) (Or.inr (ww56 hw)) (by decide) (t := (.object "java/lang/String")) (t' := (.object "com/example/xml_stream_transform/xmlstreamtransform/model/NodeKind")) (by decide) (by decide)))
  have F_6 := F3.other W2 (Or.inr (slot_ne (Or.inr (ww60 hw)) (Or.inr (ww56 hw)) (by decide) (t := (.object "java/lang/String")) (t' := (.object "com/example/xml_stream_transform/xmlstreamtransform/model/NodeKind")) (by decide) (by decide)))
  have K_7 := (Keep.refl h0 [a]).wr W2 (Or.inl (by simp))
  have Z_8 : n0 ≤ h2.size := by rw [W2.size]; exact Z0
  refine own_aloadN (n := 10) X2 hx (hb hby d9_9) rfl rfl rfl ?_
  refine own_aloadN (n := 11) X2 hx (hb hby d9_10) rfl rfl rfl ?_
  refine own_putF (n := 14) X2 hx hZ hown (host := "") (Or.inl (ww57 hw)) Via.refl e2 F_5 E_4 (Or.inr ⟨(ww58 hw), rfl, hnm⟩) (ww38 hw) (ty := (.object "java/lang/String")) (by decide) rfl rfl (hb hby d9_11) rfl ?_
  intro T9 h9 X9 e9 W9
  have F_10 := F_5.same W9
  have N9 := Fr.snoc X9 N2 g_a
  have E_11 := E_4.wr W9
  have F_12 := F_6.other W9 (Or.inr (slot_ne (Or.inr (ww60 hw)) (Or.inr (ww58 hw)) (by decide) (t := (.object "java/lang/String")) (t' := (.object "java/lang/String")) (by decide) (by decide)))
  have K_13 := K_7.wr W9 (Or.inl (by simp))
  have F_14 := F_3.other W9 (Or.inr (slot_ne (Or.inr (ww56 hw)) (Or.inr (ww58 hw)) (by decide) (t := (.object "com/example/xml_stream_transform/xmlstreamtransform/model/NodeKind")) (t' := (.object "java/lang/String")) (by decide) (by decide)))
  have Z_15 : n0 ≤ h9.size := by rw [W9.size]; exact Z_8
  refine own_aloadN (n := 15) X9 hx (hb hby d9_14) rfl rfl rfl ?_
  refine own_aloadN (n := 16) X9 hx (hb hby d9_15) rfl rfl rfl ?_
  refine own_putF (n := 19) X9 hx hZ hown (host := "") (Or.inl (ww59 hw)) Via.refl e9 F_12 E_11 (Or.inr ⟨(ww60 hw), rfl, hnm⟩) (ww38 hw) (ty := (.object "java/lang/String")) (by decide) rfl rfl (hb hby d9_16) rfl ?_
  intro T16 h16 X16 e16 W16
  have F_17 := F_12.same W16
  have N16 := Fr.snoc X16 N9 g_a
  have E_18 := E_11.wr W16
  have K_19 := K_13.wr W16 (Or.inl (by simp))
  have F_20 := F_14.other W16 (Or.inr (slot_ne (Or.inr (ww56 hw)) (Or.inr (ww60 hw)) (by decide) (t := (.object "com/example/xml_stream_transform/xmlstreamtransform/model/NodeKind")) (t' := (.object "java/lang/String")) (by decide) (by decide)))
  have F_21 := F_10.other W16 (Or.inr (slot_ne (Or.inr (ww58 hw)) (Or.inr (ww60 hw)) (by decide) (t := (.object "java/lang/String")) (t' := (.object "java/lang/String")) (by decide) (by decide)))
  have Z_22 : n0 ≤ h16.size := by rw [W16.size]; exact Z_15
  refine own_retV X16 hx hlk hret e16 (hb hby d9_19) (by decide) (by decide) ?_
  exact ⟨rfl, N16, K_19, F_21, F_17⟩
theorem d11_14 : decode prog_191_method_4_code 14 = .ok (.dconst 0, 1) := by decide +kernel
theorem d11_15 : decode prog_191_method_4_code 15 = .ok (.dreturn, 1) := by decide +kernel
theorem own_ef11_own_rmP_11 (m : MethodId) (y0 : Addr) : entryFrame m #[(.ref y0)] 1 = mkF m 0 #[.val (.ref y0)] [] := by first | (simp [entryFrame, mkF, argsToLocals, Value.category]; done) | rfl
set_option maxRecDepth 65536 in
set_option maxHeartbeats 40000000 in
theorem own_rmP_11 (l : Launch) (Z : State) (a0 : Array Value) (hw : ∀ d ∈ tables_1, d.before a0 Z = true) (a : Addr) (x0 : Addr) (x1 : Addr) (h0 : Heap) (n0 : Nat) (Z0 : n0 ≤ h0.size) (F2 : Fld Z h0 a "com/example/xml_stream_transform/xmlstreamtransform/stxpath/NameTest" "namespaceUri" "Ljava/lang/String;" (.ref x0)) (F3 : Fld Z h0 a "com/example/xml_stream_transform/xmlstreamtransform/stxpath/NameTest" "localName" "Ljava/lang/String;" (.ref x1)) :
    own_Met l Z (⟨"com/example/xml_stream_transform/xmlstreamtransform/stxpath/NameTest", "defaultPriority", "()D"⟩ : MethodName) prog_191_method_4_code 1 (some .double) [] ({ frames := 0, cells := 0, slots := 0, locals := 0 } : Room) #[(.ref a)] h0 (fun v h L => v = some (.double (0 : UInt64)) ∧ Fr n0 L ∧ h = h0) := by
  refine own_met own_pn11 ?_
  intro p e s m below meth c s₁ hx hby hml hown hnm hret hlk hZ X0 hE0
  have N0 := Fr.nil n0
  refine own_cast (own_ef11_own_rmP_11 m a) ?_
  refine own_aloadN (n := 1) X0 hx (hb hby d11_0) rfl rfl rfl ?_
  refine own_getF (n := 4) X0 hx hZ hown (host := "") (Or.inl (ww57 hw)) Via.refl hE0 F2 (hb hby d11_1) rfl ?_
  intro T1 X1 e1
  refine own_ifnullNo (n := 7) X1 hx (hb hby d11_4) rfl ?_
  refine own_aloadN (n := 8) X1 hx (hb hby d11_7) rfl rfl rfl ?_
  refine own_getF (n := 11) X1 hx hZ hown (host := "") (Or.inl (ww59 hw)) Via.refl e1 F3 (hb hby d11_8) rfl ?_
  intro T2 X2 e2
  refine own_ifnullNo (n := 14) X2 hx (hb hby d11_11) rfl ?_
  refine own_dconst0 (n := 15) (z := (0 : UInt64)) X2 hx (hb hby d11_14) (by decide +kernel) rfl ?_
  refine own_retD X2 hx hlk hret e2 (hb hby d11_15) (by decide) (by decide) ?_
  exact ⟨rfl, N0, rfl⟩
theorem own_ef0_own_rm0 (m : MethodId) (y0 : Int32) (y1 : Int32) (y2 : Int32) (y3 : Int32) (y4 : Int32) : entryFrame m #[(.int y0), (.int y1), (.int y2), (.int y3), (.int y4)] maxLocals = mkF m 0 #[.val (.int y0), .val (.int y1), .val (.int y2), .val (.int y3), .val (.int y4), .unset, .unset, .unset, .unset, .unset, .unset] [] := by first | (simp [entryFrame, mkF, argsToLocals, Value.category, maxLocals]; done) | rfl
set_option maxRecDepth 65536 in
set_option maxHeartbeats 40000000 in
theorem own_rm0 (l : Launch) (Z : State) (a0 : Array Value) (hw : ∀ d ∈ tables_1, d.before a0 Z = true) (p0 p1 p2 p3 p4 cst : Int32) (t0 t1 t2 t3 t4 t5 t6 t7 : Addr) (h0 : Heap) (n0 : Nat) (Z0 : n0 ≤ h0.size) (S0 : Sta Z h0 "java/lang/String" "COMPACT_STRINGS" "Z" (.int cst)) (SK0 : Sta Z h0 "com/example/xml_stream_transform/xmlstreamtransform/model/NodeKind" "DOCUMENT" "Lcom/example/xml_stream_transform/xmlstreamtransform/model/NodeKind;" (.ref t0)) (SK1 : Sta Z h0 "com/example/xml_stream_transform/xmlstreamtransform/model/NodeKind" "ELEMENT" "Lcom/example/xml_stream_transform/xmlstreamtransform/model/NodeKind;" (.ref t1)) (SK2 : Sta Z h0 "com/example/xml_stream_transform/xmlstreamtransform/model/NodeKind" "ATTRIBUTE" "Lcom/example/xml_stream_transform/xmlstreamtransform/model/NodeKind;" (.ref t2)) (SK3 : Sta Z h0 "com/example/xml_stream_transform/xmlstreamtransform/model/NodeKind" "TEXT" "Lcom/example/xml_stream_transform/xmlstreamtransform/model/NodeKind;" (.ref t3)) (SK4 : Sta Z h0 "com/example/xml_stream_transform/xmlstreamtransform/model/NodeKind" "CDATA" "Lcom/example/xml_stream_transform/xmlstreamtransform/model/NodeKind;" (.ref t4)) (SK5 : Sta Z h0 "com/example/xml_stream_transform/xmlstreamtransform/model/NodeKind" "COMMENT" "Lcom/example/xml_stream_transform/xmlstreamtransform/model/NodeKind;" (.ref t5)) (SK6 : Sta Z h0 "com/example/xml_stream_transform/xmlstreamtransform/model/NodeKind" "PROCESSING_INSTRUCTION" "Lcom/example/xml_stream_transform/xmlstreamtransform/model/NodeKind;" (.ref t6)) (SK7 : Sta Z h0 "com/example/xml_stream_transform/xmlstreamtransform/model/NodeKind" "DOCTYPE" "Lcom/example/xml_stream_transform/xmlstreamtransform/model/NodeKind;" (.ref t7)) (hcs : ¬ cst = (0 : Int32)) :
    own_MetW l Z x code maxLocals ret tables_1 room_1 #[(.int p0), (.int p1), (.int p2), (.int p3), (.int p4)] h0 (fun v h L => v = some (.int 1) ∧ Fr n0 L) := by
  refine own_metW own_pn0 ?_
  intro p e s m below meth c s₁ vm0 hx hby hml hown hnm hret hlk hZ hS0 X0 hE0
  have hk0 : 0 ≤ h0.size := Nat.zero_le _
  have N0 := Fr.nil n0
  refine own_cast (own_ef0_own_rm0 m p0 p1 p2 p3 p4) ?_
  refine own_iloadN (n := 1) X0 hx (hb hby at_0) rfl rfl ?_
  refine own_iloadN (n := 2) X0 hx (hb hby at_1) rfl rfl ?_
  refine own_SS (n := 5) (argsL := [(.int p1), (.int p2)]) (rest := []) X0 hx hZ hown (own_rmN l Z a0 hw p1 p2 cst h0 n0 Z0 S0 hcs) (ww0 hw) (ww1 hw) (ww2 hw) (ww3 hw) (by decide) hE0 hS0 hk0 (by rw [hml]; rfl) (lenOf own_pd9 rfl) rfl (hb hby at_2) (Nat.le_of_ble_eq_true rfl) (Nat.le_of_ble_eq_true rfl) (Nat.le_of_ble_eq_true rfl) (Nat.le_of_ble_eq_true rfl) rfl ?_
  rintro v1 T1 L1 X1 hS1 hZ hown ⟨hv1, Nq1, K1⟩
  have N1 := Fr.app N0 Nq1
  have S_2 := own_StaKeep0 S0 K1
  have S_3 := own_StaKeep0 SK0 K1
  have S_4 := own_StaKeep0 SK1 K1
  have S_5 := own_StaKeep0 SK2 K1
  have S_6 := own_StaKeep0 SK3 K1
  have S_7 := own_StaKeep0 SK4 K1
  have S_8 := own_StaKeep0 SK5 K1
  have S_9 := own_StaKeep0 SK6 K1
  have S_10 := own_StaKeep0 SK7 K1
  have Z_11 : n0 ≤ T1.heap.size := Nat.le_trans Z0 K1.1
  rcases hv1 with rfl | ⟨r1, rfl⟩
  · change own_G p e below _ _ (mkF m 5 _ [.null])
    refine own_astore (n := 7) (l' := #[.val (.int p0), .val (.int p1), .val (.int p2), .val (.int p3), .val (.int p4), .val .null, .unset, .unset, .unset, .unset, .unset]) X1 hx (hb hby at_5) rfl rfl rfl ?_
    refine own_iloadN (n := 8) X1 hx (hb hby at_7) rfl rfl ?_
    refine own_iload (n := 10) X1 hx (hb hby at_8) rfl rfl ?_
    refine own_SS (n := 13) (argsL := [(.int p3), (.int p4)]) (rest := []) X1 hx hZ hown (own_rmN l Z a0 hw p3 p4 cst T1.heap n0 Z_11 S_2 hcs) (ww0 hw) (ww1 hw) (ww2 hw) (ww3 hw) (by decide) rfl hS1 (Nat.le_refl T1.heap.size) (by rw [hml]; rfl) (lenOf own_pd9 rfl) rfl (hb hby at_10) (Nat.le_of_ble_eq_true rfl) (Nat.le_of_ble_eq_true rfl) (Nat.le_of_ble_eq_true rfl) (Nat.le_of_ble_eq_true rfl) rfl ?_
    rintro v12 T12 L12 X12 hS12 hZ hown ⟨hv12, Nq12, K12⟩
    have N12 := Fr.app N1 Nq12
    have S_13 := own_StaKeep0 S_2 K12
    have S_14 := own_StaKeep0 S_3 K12
    have S_15 := own_StaKeep0 S_4 K12
    have S_16 := own_StaKeep0 S_5 K12
    have S_17 := own_StaKeep0 S_6 K12
    have S_18 := own_StaKeep0 S_7 K12
    have S_19 := own_StaKeep0 S_8 K12
    have S_20 := own_StaKeep0 S_9 K12
    have S_21 := own_StaKeep0 S_10 K12
    have Z_22 : n0 ≤ T12.heap.size := Nat.le_trans Z_11 K12.1
    rcases hv12 with rfl | ⟨r12, rfl⟩
    · change own_G p e below _ _ (mkF m 13 _ [.null])
      refine own_astore (n := 15) (l' := #[.val (.int p0), .val (.int p1), .val (.int p2), .val (.int p3), .val (.int p4), .val .null, .val .null, .unset, .unset, .unset, .unset]) X12 hx (hb hby at_13) rfl rfl rfl ?_
      refine own_new (n := 18) X12 hx hZ hown (ww37 hw) (ww38 hw) (ww39 hw) rfl (hb hby at_15) (by decide) (by decide) rfl ?_
      intro T23 h23 b23 g23 X23 e23 E23 A23 D23
      have g_b23 : n0 ≤ b23 := Nat.le_trans Z_22 (Nat.le_of_eq g23.symm)
      have S_24 := S_13.ext E23
      have S_25 := S_14.ext E23
      have S_26 := S_15.ext E23
      have S_27 := S_16.ext E23
      have S_28 := S_17.ext E23
      have S_29 := S_18.ext E23
      have S_30 := S_19.ext E23
      have S_31 := S_20.ext E23
      have S_32 := S_21.ext E23
      have Z_33 : n0 ≤ h23.size := Nat.le_trans Z_22 E23.1
      have hk_34 := Nat.le_trans (Nat.le_refl T12.heap.size) E23.1
      have F_35 : Fld Z h23 b23 "com/example/xml_stream_transform/xmlstreamtransform/stxpath/NameTest" "kind" "Lcom/example/xml_stream_transform/xmlstreamtransform/model/NodeKind;" .null := D23 (Or.inr (ww56 hw)) (ty := (.object "com/example/xml_stream_transform/xmlstreamtransform/model/NodeKind")) (by decide)
      have F_36 : Fld Z h23 b23 "com/example/xml_stream_transform/xmlstreamtransform/stxpath/NameTest" "namespaceUri" "Ljava/lang/String;" .null := D23 (Or.inr (ww58 hw)) (ty := (.object "java/lang/String")) (by decide)
      have F_37 : Fld Z h23 b23 "com/example/xml_stream_transform/xmlstreamtransform/stxpath/NameTest" "localName" "Ljava/lang/String;" .null := D23 (Or.inr (ww60 hw)) (ty := (.object "java/lang/String")) (by decide)
      refine own_dup (n := 19) X23 hx (hb hby at_18) rfl rfl ?_
      refine own_iloadN (n := 20) X23 hx (hb hby at_19) rfl rfl ?_
      refine own_S (n := 23) (argsL := [(.int p0)]) (rest := [(.ref b23), (.ref b23)]) X23 hx hZ hown (own_rmK l Z a0 hw p0 t0 t1 t2 t3 t4 t5 t6 t7 h23 n0 Z_33 S_25 S_26 S_27 S_28 S_29 S_30 S_31 S_32) (ww40 hw) (ww41 hw) (ww2 hw) (ww42 hw) (by decide) e23 (by rw [hml]; rfl) (lenOf own_pd10 rfl) rfl (hb hby at_20) (Nat.le_of_ble_eq_true rfl) (Nat.le_of_ble_eq_true rfl) (Nat.le_of_ble_eq_true rfl) (Nat.le_of_ble_eq_true rfl) rfl ?_
      rintro v38 T38 L38 X38 ⟨y38, rfl, Nq38, eq38⟩
      have N38 := Fr.app N12 Nq38
      change own_G p e below _ _ (mkF m 23 _ [(.ref y38), (.ref b23), (.ref b23)])
      refine own_aload (n := 25) X38 hx (hb hby at_23) rfl rfl rfl ?_
      refine own_aload (n := 27) X38 hx (hb hby at_25) rfl rfl rfl ?_
      refine own_I (n := 30) (argsL := [(.ref y38), .null, .null]) (rest := [(.ref b23)]) (a := b23) (by rfl) X38 hx hZ hown (own_rmI_00 l Z a0 hw b23 y38  h23 n0 Z_33 A23 F_35 F_36 F_37 g_b23) (ww46 hw) (ww47 hw) (ww39 hw) (ww48 hw) (by decide) eq38 (by rw [hml]; rfl) (lenOf own_pd12 rfl) rfl (hb hby at_27) (Nat.le_of_ble_eq_true rfl) (Nat.le_of_ble_eq_true rfl) (Nat.le_of_ble_eq_true rfl) (Nat.le_of_ble_eq_true rfl) rfl ?_
      rintro v39 T39 L39 X39 ⟨rfl, Nq39, K39, Fa39, Fb39⟩
      have N39 := Fr.app N38 Nq39
      have S_40 := own_StaKeep S_24 K39 A23
      have S_41 := own_StaKeep S_25 K39 A23
      have S_42 := own_StaKeep S_26 K39 A23
      have S_43 := own_StaKeep S_27 K39 A23
      have S_44 := own_StaKeep S_28 K39 A23
      have S_45 := own_StaKeep S_29 K39 A23
      have S_46 := own_StaKeep S_30 K39 A23
      have S_47 := own_StaKeep S_31 K39 A23
      have S_48 := own_StaKeep S_32 K39 A23
      have E_49 := A23.keep K39
      have Z_50 : n0 ≤ T39.heap.size := Nat.le_trans Z_33 K39.1
      have hk_51 := Nat.le_trans hk_34 K39.1
      change own_G p e below _ _ (mkF m 30 _ [(.ref b23)])
      refine own_astore (n := 32) (l' := #[.val (.int p0), .val (.int p1), .val (.int p2), .val (.int p3), .val (.int p4), .val .null, .val .null, .val (.ref b23), .unset, .unset, .unset]) X39 hx (hb hby at_30) rfl rfl rfl ?_
      refine own_aload (n := 34) X39 hx (hb hby at_32) rfl rfl rfl ?_
      refine own_ifnonnullNo (n := 37) X39 hx (hb hby at_34) rfl ?_
      refine own_iconst (n := 38) (z := (1 : Int32)) X39 hx (hb hby at_37) rfl rfl ?_
      refine own_goto (n := 42) X39 hx (hb hby at_38) (by decide) (by decide) ?_
      refine own_aload (n := 44) X39 hx (hb hby at_42) rfl rfl rfl ?_
      refine own_ifnonnullNo (n := 47) X39 hx (hb hby at_44) rfl ?_
      refine own_iconst (n := 48) (z := (1 : Int32)) X39 hx (hb hby at_47) rfl rfl ?_
      refine own_goto (n := 52) X39 hx (hb hby at_48) (by decide) (by decide) ?_
      refine own_iadd (n := 53) (z := (2 : Int32)) X39 hx (hb hby at_52) rfl rfl ?_
      refine own_istore (n := 55) (l' := #[.val (.int p0), .val (.int p1), .val (.int p2), .val (.int p3), .val (.int p4), .val .null, .val .null, .val (.ref b23), .val (.int (2 : Int32)), .unset, .unset]) X39 hx (hb hby at_53) rfl rfl ?_
      refine own_ldcD (n := 58) (v := (13821547256400052224 : UInt64)) X39 hx hZ hown (ww61 hw) (hb hby at_55) rfl ?_
      refine own_iload (n := 60) X39 hx (hb hby at_58) rfl rfl ?_
      refine own_i2d (n := 61) (z := (4611686018427387904 : UInt64)) X39 hx (hb hby at_60) (by decide +kernel) rfl ?_
      refine own_dmul (n := 62) (z := (13826050856027422720 : UInt64)) X39 hx (hb hby at_61) own_nn2 (by decide +kernel) rfl ?_
      refine own_dstore (n := 64) (l' := #[.val (.int p0), .val (.int p1), .val (.int p2), .val (.int p3), .val (.int p4), .val .null, .val .null, .val (.ref b23), .val (.int (2 : Int32)), .val (.double (13826050856027422720 : UInt64)), .second]) X39 hx (hb hby at_62) rfl rfl ?_
      refine own_aload (n := 66) X39 hx (hb hby at_64) rfl rfl rfl ?_
      refine own_V (n := 69) (argsL := []) (rest := []) (a := b23) X39 hx hZ hown (own_rmP_00 l Z a0 hw b23  T39.heap n0 Z_50 Fa39 Fb39) (ww62 hw) (ww63 hw) (notFace_of_selects (args := #[]) (mvT hZ (ww65 hw))) (ww65 hw) (ww64 hw) (ww39 hw) (ww66 hw) (by decide) rfl E_49 (by rw [hml]; rfl) (lenOf own_pd13 rfl) rfl (hb hby at_66) (Nat.le_of_ble_eq_true rfl) (Nat.le_of_ble_eq_true rfl) (Nat.le_of_ble_eq_true rfl) (Nat.le_of_ble_eq_true rfl) rfl ?_
      rintro v52 T52 L52 X52 ⟨rfl, Nq52, eq52⟩
      have N52 := Fr.app N39 Nq52
      change own_G p e below _ _ (mkF m 69 _ [(.double (13826050856027422720 : UInt64))])
      refine own_dload (n := 71) X52 hx (hb hby at_69) rfl rfl ?_
      refine own_dcmp (n := 72) (z := (0 : Int32)) X52 hx (hb hby at_71) (by decide +kernel) rfl ?_
      refine own_ifNo (n := 75) X52 hx (hb hby at_72) (teq (by decide : (0 : Int32) = (0 : Int32))).2 rfl ?_
      refine own_iconst (n := 76) (z := (1 : Int32)) X52 hx (hb hby at_75) rfl rfl ?_
      refine own_goto (n := 80) X52 hx (hb hby at_76) (by decide) (by decide) ?_
      refine own_retZW X52 hx hlk hret (by simp) eq52 (w := (1 : Int32)) rfl hS12 hk_51 (hb hby at_80) (by decide) (by decide) ?_
      exact ⟨rfl, N52⟩
    · change own_G p e below _ _ (mkF m 13 _ [(.ref r12)])
      refine own_astore (n := 15) (l' := #[.val (.int p0), .val (.int p1), .val (.int p2), .val (.int p3), .val (.int p4), .val .null, .val (.ref r12), .unset, .unset, .unset, .unset]) X12 hx (hb hby at_13) rfl rfl rfl ?_
      refine own_new (n := 18) X12 hx hZ hown (ww37 hw) (ww38 hw) (ww39 hw) rfl (hb hby at_15) (by decide) (by decide) rfl ?_
      intro T53 h53 b53 g53 X53 e53 E53 A53 D53
      have g_b53 : n0 ≤ b53 := Nat.le_trans Z_22 (Nat.le_of_eq g53.symm)
      have S_54 := S_13.ext E53
      have S_55 := S_14.ext E53
      have S_56 := S_15.ext E53
      have S_57 := S_16.ext E53
      have S_58 := S_17.ext E53
      have S_59 := S_18.ext E53
      have S_60 := S_19.ext E53
      have S_61 := S_20.ext E53
      have S_62 := S_21.ext E53
      have Z_63 : n0 ≤ h53.size := Nat.le_trans Z_22 E53.1
      have hk_64 := Nat.le_trans (Nat.le_refl T12.heap.size) E53.1
      have F_65 : Fld Z h53 b53 "com/example/xml_stream_transform/xmlstreamtransform/stxpath/NameTest" "kind" "Lcom/example/xml_stream_transform/xmlstreamtransform/model/NodeKind;" .null := D53 (Or.inr (ww56 hw)) (ty := (.object "com/example/xml_stream_transform/xmlstreamtransform/model/NodeKind")) (by decide)
      have F_66 : Fld Z h53 b53 "com/example/xml_stream_transform/xmlstreamtransform/stxpath/NameTest" "namespaceUri" "Ljava/lang/String;" .null := D53 (Or.inr (ww58 hw)) (ty := (.object "java/lang/String")) (by decide)
      have F_67 : Fld Z h53 b53 "com/example/xml_stream_transform/xmlstreamtransform/stxpath/NameTest" "localName" "Ljava/lang/String;" .null := D53 (Or.inr (ww60 hw)) (ty := (.object "java/lang/String")) (by decide)
      refine own_dup (n := 19) X53 hx (hb hby at_18) rfl rfl ?_
      refine own_iloadN (n := 20) X53 hx (hb hby at_19) rfl rfl ?_
      refine own_S (n := 23) (argsL := [(.int p0)]) (rest := [(.ref b53), (.ref b53)]) X53 hx hZ hown (own_rmK l Z a0 hw p0 t0 t1 t2 t3 t4 t5 t6 t7 h53 n0 Z_63 S_55 S_56 S_57 S_58 S_59 S_60 S_61 S_62) (ww40 hw) (ww41 hw) (ww2 hw) (ww42 hw) (by decide) e53 (by rw [hml]; rfl) (lenOf own_pd10 rfl) rfl (hb hby at_20) (Nat.le_of_ble_eq_true rfl) (Nat.le_of_ble_eq_true rfl) (Nat.le_of_ble_eq_true rfl) (Nat.le_of_ble_eq_true rfl) rfl ?_
      rintro v68 T68 L68 X68 ⟨y68, rfl, Nq68, eq68⟩
      have N68 := Fr.app N12 Nq68
      change own_G p e below _ _ (mkF m 23 _ [(.ref y68), (.ref b53), (.ref b53)])
      refine own_aload (n := 25) X68 hx (hb hby at_23) rfl rfl rfl ?_
      refine own_aload (n := 27) X68 hx (hb hby at_25) rfl rfl rfl ?_
      refine own_I (n := 30) (argsL := [(.ref y68), .null, (.ref r12)]) (rest := [(.ref b53)]) (a := b53) (by rfl) X68 hx hZ hown (own_rmI_01 l Z a0 hw b53 y68 r12 h53 n0 Z_63 A53 F_65 F_66 F_67 g_b53) (ww46 hw) (ww47 hw) (ww39 hw) (ww48 hw) (by decide) eq68 (by rw [hml]; rfl) (lenOf own_pd12 rfl) rfl (hb hby at_27) (Nat.le_of_ble_eq_true rfl) (Nat.le_of_ble_eq_true rfl) (Nat.le_of_ble_eq_true rfl) (Nat.le_of_ble_eq_true rfl) rfl ?_
      rintro v69 T69 L69 X69 ⟨rfl, Nq69, K69, Fa69, Fb69⟩
      have N69 := Fr.app N68 Nq69
      have S_70 := own_StaKeep S_54 K69 A53
      have S_71 := own_StaKeep S_55 K69 A53
      have S_72 := own_StaKeep S_56 K69 A53
      have S_73 := own_StaKeep S_57 K69 A53
      have S_74 := own_StaKeep S_58 K69 A53
      have S_75 := own_StaKeep S_59 K69 A53
      have S_76 := own_StaKeep S_60 K69 A53
      have S_77 := own_StaKeep S_61 K69 A53
      have S_78 := own_StaKeep S_62 K69 A53
      have E_79 := A53.keep K69
      have Z_80 : n0 ≤ T69.heap.size := Nat.le_trans Z_63 K69.1
      have hk_81 := Nat.le_trans hk_64 K69.1
      change own_G p e below _ _ (mkF m 30 _ [(.ref b53)])
      refine own_astore (n := 32) (l' := #[.val (.int p0), .val (.int p1), .val (.int p2), .val (.int p3), .val (.int p4), .val .null, .val (.ref r12), .val (.ref b53), .unset, .unset, .unset]) X69 hx (hb hby at_30) rfl rfl rfl ?_
      refine own_aload (n := 34) X69 hx (hb hby at_32) rfl rfl rfl ?_
      refine own_ifnonnullNo (n := 37) X69 hx (hb hby at_34) rfl ?_
      refine own_iconst (n := 38) (z := (1 : Int32)) X69 hx (hb hby at_37) rfl rfl ?_
      refine own_goto (n := 42) X69 hx (hb hby at_38) (by decide) (by decide) ?_
      refine own_aload (n := 44) X69 hx (hb hby at_42) rfl rfl rfl ?_
      refine own_ifnonnullYes (n := 51) X69 hx (hb hby at_44) (by decide) (by decide) ?_
      refine own_iconst (n := 52) (z := (0 : Int32)) X69 hx (hb hby at_51) rfl rfl ?_
      refine own_iadd (n := 53) (z := (1 : Int32)) X69 hx (hb hby at_52) rfl rfl ?_
      refine own_istore (n := 55) (l' := #[.val (.int p0), .val (.int p1), .val (.int p2), .val (.int p3), .val (.int p4), .val .null, .val (.ref r12), .val (.ref b53), .val (.int (1 : Int32)), .unset, .unset]) X69 hx (hb hby at_53) rfl rfl ?_
      refine own_ldcD (n := 58) (v := (13821547256400052224 : UInt64)) X69 hx hZ hown (ww61 hw) (hb hby at_55) rfl ?_
      refine own_iload (n := 60) X69 hx (hb hby at_58) rfl rfl ?_
      refine own_i2d (n := 61) (z := (4607182418800017408 : UInt64)) X69 hx (hb hby at_60) (by decide +kernel) rfl ?_
      refine own_dmul (n := 62) (z := (13821547256400052224 : UInt64)) X69 hx (hb hby at_61) own_nn1 (by decide +kernel) rfl ?_
      refine own_dstore (n := 64) (l' := #[.val (.int p0), .val (.int p1), .val (.int p2), .val (.int p3), .val (.int p4), .val .null, .val (.ref r12), .val (.ref b53), .val (.int (1 : Int32)), .val (.double (13821547256400052224 : UInt64)), .second]) X69 hx (hb hby at_62) rfl rfl ?_
      refine own_aload (n := 66) X69 hx (hb hby at_64) rfl rfl rfl ?_
      refine own_V (n := 69) (argsL := []) (rest := []) (a := b53) X69 hx hZ hown (own_rmP_01 l Z a0 hw b53 r12 T69.heap n0 Z_80 Fa69 Fb69) (ww62 hw) (ww63 hw) (notFace_of_selects (args := #[]) (mvT hZ (ww65 hw))) (ww65 hw) (ww64 hw) (ww39 hw) (ww66 hw) (by decide) rfl E_79 (by rw [hml]; rfl) (lenOf own_pd13 rfl) rfl (hb hby at_66) (Nat.le_of_ble_eq_true rfl) (Nat.le_of_ble_eq_true rfl) (Nat.le_of_ble_eq_true rfl) (Nat.le_of_ble_eq_true rfl) rfl ?_
      rintro v82 T82 L82 X82 ⟨rfl, Nq82, eq82⟩
      have N82 := Fr.app N69 Nq82
      change own_G p e below _ _ (mkF m 69 _ [(.double (13821547256400052224 : UInt64))])
      refine own_dload (n := 71) X82 hx (hb hby at_69) rfl rfl ?_
      refine own_dcmp (n := 72) (z := (0 : Int32)) X82 hx (hb hby at_71) (by decide +kernel) rfl ?_
      refine own_ifNo (n := 75) X82 hx (hb hby at_72) (teq (by decide : (0 : Int32) = (0 : Int32))).2 rfl ?_
      refine own_iconst (n := 76) (z := (1 : Int32)) X82 hx (hb hby at_75) rfl rfl ?_
      refine own_goto (n := 80) X82 hx (hb hby at_76) (by decide) (by decide) ?_
      refine own_retZW X82 hx hlk hret (by simp) eq82 (w := (1 : Int32)) rfl hS12 hk_81 (hb hby at_80) (by decide) (by decide) ?_
      exact ⟨rfl, N82⟩
  · change own_G p e below _ _ (mkF m 5 _ [(.ref r1)])
    refine own_astore (n := 7) (l' := #[.val (.int p0), .val (.int p1), .val (.int p2), .val (.int p3), .val (.int p4), .val (.ref r1), .unset, .unset, .unset, .unset, .unset]) X1 hx (hb hby at_5) rfl rfl rfl ?_
    refine own_iloadN (n := 8) X1 hx (hb hby at_7) rfl rfl ?_
    refine own_iload (n := 10) X1 hx (hb hby at_8) rfl rfl ?_
    refine own_SS (n := 13) (argsL := [(.int p3), (.int p4)]) (rest := []) X1 hx hZ hown (own_rmN l Z a0 hw p3 p4 cst T1.heap n0 Z_11 S_2 hcs) (ww0 hw) (ww1 hw) (ww2 hw) (ww3 hw) (by decide) rfl hS1 (Nat.le_refl T1.heap.size) (by rw [hml]; rfl) (lenOf own_pd9 rfl) rfl (hb hby at_10) (Nat.le_of_ble_eq_true rfl) (Nat.le_of_ble_eq_true rfl) (Nat.le_of_ble_eq_true rfl) (Nat.le_of_ble_eq_true rfl) rfl ?_
    rintro v83 T83 L83 X83 hS83 hZ hown ⟨hv83, Nq83, K83⟩
    have N83 := Fr.app N1 Nq83
    have S_84 := own_StaKeep0 S_2 K83
    have S_85 := own_StaKeep0 S_3 K83
    have S_86 := own_StaKeep0 S_4 K83
    have S_87 := own_StaKeep0 S_5 K83
    have S_88 := own_StaKeep0 S_6 K83
    have S_89 := own_StaKeep0 S_7 K83
    have S_90 := own_StaKeep0 S_8 K83
    have S_91 := own_StaKeep0 S_9 K83
    have S_92 := own_StaKeep0 S_10 K83
    have Z_93 : n0 ≤ T83.heap.size := Nat.le_trans Z_11 K83.1
    rcases hv83 with rfl | ⟨r83, rfl⟩
    · change own_G p e below _ _ (mkF m 13 _ [.null])
      refine own_astore (n := 15) (l' := #[.val (.int p0), .val (.int p1), .val (.int p2), .val (.int p3), .val (.int p4), .val (.ref r1), .val .null, .unset, .unset, .unset, .unset]) X83 hx (hb hby at_13) rfl rfl rfl ?_
      refine own_new (n := 18) X83 hx hZ hown (ww37 hw) (ww38 hw) (ww39 hw) rfl (hb hby at_15) (by decide) (by decide) rfl ?_
      intro T94 h94 b94 g94 X94 e94 E94 A94 D94
      have g_b94 : n0 ≤ b94 := Nat.le_trans Z_93 (Nat.le_of_eq g94.symm)
      have S_95 := S_84.ext E94
      have S_96 := S_85.ext E94
      have S_97 := S_86.ext E94
      have S_98 := S_87.ext E94
      have S_99 := S_88.ext E94
      have S_100 := S_89.ext E94
      have S_101 := S_90.ext E94
      have S_102 := S_91.ext E94
      have S_103 := S_92.ext E94
      have Z_104 : n0 ≤ h94.size := Nat.le_trans Z_93 E94.1
      have hk_105 := Nat.le_trans (Nat.le_refl T83.heap.size) E94.1
      have F_106 : Fld Z h94 b94 "com/example/xml_stream_transform/xmlstreamtransform/stxpath/NameTest" "kind" "Lcom/example/xml_stream_transform/xmlstreamtransform/model/NodeKind;" .null := D94 (Or.inr (ww56 hw)) (ty := (.object "com/example/xml_stream_transform/xmlstreamtransform/model/NodeKind")) (by decide)
      have F_107 : Fld Z h94 b94 "com/example/xml_stream_transform/xmlstreamtransform/stxpath/NameTest" "namespaceUri" "Ljava/lang/String;" .null := D94 (Or.inr (ww58 hw)) (ty := (.object "java/lang/String")) (by decide)
      have F_108 : Fld Z h94 b94 "com/example/xml_stream_transform/xmlstreamtransform/stxpath/NameTest" "localName" "Ljava/lang/String;" .null := D94 (Or.inr (ww60 hw)) (ty := (.object "java/lang/String")) (by decide)
      refine own_dup (n := 19) X94 hx (hb hby at_18) rfl rfl ?_
      refine own_iloadN (n := 20) X94 hx (hb hby at_19) rfl rfl ?_
      refine own_S (n := 23) (argsL := [(.int p0)]) (rest := [(.ref b94), (.ref b94)]) X94 hx hZ hown (own_rmK l Z a0 hw p0 t0 t1 t2 t3 t4 t5 t6 t7 h94 n0 Z_104 S_96 S_97 S_98 S_99 S_100 S_101 S_102 S_103) (ww40 hw) (ww41 hw) (ww2 hw) (ww42 hw) (by decide) e94 (by rw [hml]; rfl) (lenOf own_pd10 rfl) rfl (hb hby at_20) (Nat.le_of_ble_eq_true rfl) (Nat.le_of_ble_eq_true rfl) (Nat.le_of_ble_eq_true rfl) (Nat.le_of_ble_eq_true rfl) rfl ?_
      rintro v109 T109 L109 X109 ⟨y109, rfl, Nq109, eq109⟩
      have N109 := Fr.app N83 Nq109
      change own_G p e below _ _ (mkF m 23 _ [(.ref y109), (.ref b94), (.ref b94)])
      refine own_aload (n := 25) X109 hx (hb hby at_23) rfl rfl rfl ?_
      refine own_aload (n := 27) X109 hx (hb hby at_25) rfl rfl rfl ?_
      refine own_I (n := 30) (argsL := [(.ref y109), (.ref r1), .null]) (rest := [(.ref b94)]) (a := b94) (by rfl) X109 hx hZ hown (own_rmI_10 l Z a0 hw b94 y109 r1 h94 n0 Z_104 A94 F_106 F_107 F_108 g_b94) (ww46 hw) (ww47 hw) (ww39 hw) (ww48 hw) (by decide) eq109 (by rw [hml]; rfl) (lenOf own_pd12 rfl) rfl (hb hby at_27) (Nat.le_of_ble_eq_true rfl) (Nat.le_of_ble_eq_true rfl) (Nat.le_of_ble_eq_true rfl) (Nat.le_of_ble_eq_true rfl) rfl ?_
      rintro v110 T110 L110 X110 ⟨rfl, Nq110, K110, Fa110, Fb110⟩
      have N110 := Fr.app N109 Nq110
      have S_111 := own_StaKeep S_95 K110 A94
      have S_112 := own_StaKeep S_96 K110 A94
      have S_113 := own_StaKeep S_97 K110 A94
      have S_114 := own_StaKeep S_98 K110 A94
      have S_115 := own_StaKeep S_99 K110 A94
      have S_116 := own_StaKeep S_100 K110 A94
      have S_117 := own_StaKeep S_101 K110 A94
      have S_118 := own_StaKeep S_102 K110 A94
      have S_119 := own_StaKeep S_103 K110 A94
      have E_120 := A94.keep K110
      have Z_121 : n0 ≤ T110.heap.size := Nat.le_trans Z_104 K110.1
      have hk_122 := Nat.le_trans hk_105 K110.1
      change own_G p e below _ _ (mkF m 30 _ [(.ref b94)])
      refine own_astore (n := 32) (l' := #[.val (.int p0), .val (.int p1), .val (.int p2), .val (.int p3), .val (.int p4), .val (.ref r1), .val .null, .val (.ref b94), .unset, .unset, .unset]) X110 hx (hb hby at_30) rfl rfl rfl ?_
      refine own_aload (n := 34) X110 hx (hb hby at_32) rfl rfl rfl ?_
      refine own_ifnonnullYes (n := 41) X110 hx (hb hby at_34) (by decide) (by decide) ?_
      refine own_iconst (n := 42) (z := (0 : Int32)) X110 hx (hb hby at_41) rfl rfl ?_
      refine own_aload (n := 44) X110 hx (hb hby at_42) rfl rfl rfl ?_
      refine own_ifnonnullNo (n := 47) X110 hx (hb hby at_44) rfl ?_
      refine own_iconst (n := 48) (z := (1 : Int32)) X110 hx (hb hby at_47) rfl rfl ?_
      refine own_goto (n := 52) X110 hx (hb hby at_48) (by decide) (by decide) ?_
      refine own_iadd (n := 53) (z := (1 : Int32)) X110 hx (hb hby at_52) rfl rfl ?_
      refine own_istore (n := 55) (l' := #[.val (.int p0), .val (.int p1), .val (.int p2), .val (.int p3), .val (.int p4), .val (.ref r1), .val .null, .val (.ref b94), .val (.int (1 : Int32)), .unset, .unset]) X110 hx (hb hby at_53) rfl rfl ?_
      refine own_ldcD (n := 58) (v := (13821547256400052224 : UInt64)) X110 hx hZ hown (ww61 hw) (hb hby at_55) rfl ?_
      refine own_iload (n := 60) X110 hx (hb hby at_58) rfl rfl ?_
      refine own_i2d (n := 61) (z := (4607182418800017408 : UInt64)) X110 hx (hb hby at_60) (by decide +kernel) rfl ?_
      refine own_dmul (n := 62) (z := (13821547256400052224 : UInt64)) X110 hx (hb hby at_61) own_nn1 (by decide +kernel) rfl ?_
      refine own_dstore (n := 64) (l' := #[.val (.int p0), .val (.int p1), .val (.int p2), .val (.int p3), .val (.int p4), .val (.ref r1), .val .null, .val (.ref b94), .val (.int (1 : Int32)), .val (.double (13821547256400052224 : UInt64)), .second]) X110 hx (hb hby at_62) rfl rfl ?_
      refine own_aload (n := 66) X110 hx (hb hby at_64) rfl rfl rfl ?_
      refine own_V (n := 69) (argsL := []) (rest := []) (a := b94) X110 hx hZ hown (own_rmP_10 l Z a0 hw b94 r1 T110.heap n0 Z_121 Fa110 Fb110) (ww62 hw) (ww63 hw) (notFace_of_selects (args := #[]) (mvT hZ (ww65 hw))) (ww65 hw) (ww64 hw) (ww39 hw) (ww66 hw) (by decide) rfl E_120 (by rw [hml]; rfl) (lenOf own_pd13 rfl) rfl (hb hby at_66) (Nat.le_of_ble_eq_true rfl) (Nat.le_of_ble_eq_true rfl) (Nat.le_of_ble_eq_true rfl) (Nat.le_of_ble_eq_true rfl) rfl ?_
      rintro v123 T123 L123 X123 ⟨rfl, Nq123, eq123⟩
      have N123 := Fr.app N110 Nq123
      change own_G p e below _ _ (mkF m 69 _ [(.double (13821547256400052224 : UInt64))])
      refine own_dload (n := 71) X123 hx (hb hby at_69) rfl rfl ?_
      refine own_dcmp (n := 72) (z := (0 : Int32)) X123 hx (hb hby at_71) (by decide +kernel) rfl ?_
      refine own_ifNo (n := 75) X123 hx (hb hby at_72) (teq (by decide : (0 : Int32) = (0 : Int32))).2 rfl ?_
      refine own_iconst (n := 76) (z := (1 : Int32)) X123 hx (hb hby at_75) rfl rfl ?_
      refine own_goto (n := 80) X123 hx (hb hby at_76) (by decide) (by decide) ?_
      refine own_retZW X123 hx hlk hret (by simp) eq123 (w := (1 : Int32)) rfl hS83 hk_122 (hb hby at_80) (by decide) (by decide) ?_
      exact ⟨rfl, N123⟩
    · change own_G p e below _ _ (mkF m 13 _ [(.ref r83)])
      refine own_astore (n := 15) (l' := #[.val (.int p0), .val (.int p1), .val (.int p2), .val (.int p3), .val (.int p4), .val (.ref r1), .val (.ref r83), .unset, .unset, .unset, .unset]) X83 hx (hb hby at_13) rfl rfl rfl ?_
      refine own_new (n := 18) X83 hx hZ hown (ww37 hw) (ww38 hw) (ww39 hw) rfl (hb hby at_15) (by decide) (by decide) rfl ?_
      intro T124 h124 b124 g124 X124 e124 E124 A124 D124
      have g_b124 : n0 ≤ b124 := Nat.le_trans Z_93 (Nat.le_of_eq g124.symm)
      have S_125 := S_84.ext E124
      have S_126 := S_85.ext E124
      have S_127 := S_86.ext E124
      have S_128 := S_87.ext E124
      have S_129 := S_88.ext E124
      have S_130 := S_89.ext E124
      have S_131 := S_90.ext E124
      have S_132 := S_91.ext E124
      have S_133 := S_92.ext E124
      have Z_134 : n0 ≤ h124.size := Nat.le_trans Z_93 E124.1
      have hk_135 := Nat.le_trans (Nat.le_refl T83.heap.size) E124.1
      have F_136 : Fld Z h124 b124 "com/example/xml_stream_transform/xmlstreamtransform/stxpath/NameTest" "kind" "Lcom/example/xml_stream_transform/xmlstreamtransform/model/NodeKind;" .null := D124 (Or.inr (ww56 hw)) (ty := (.object "com/example/xml_stream_transform/xmlstreamtransform/model/NodeKind")) (by decide)
      have F_137 : Fld Z h124 b124 "com/example/xml_stream_transform/xmlstreamtransform/stxpath/NameTest" "namespaceUri" "Ljava/lang/String;" .null := D124 (Or.inr (ww58 hw)) (ty := (.object "java/lang/String")) (by decide)
      have F_138 : Fld Z h124 b124 "com/example/xml_stream_transform/xmlstreamtransform/stxpath/NameTest" "localName" "Ljava/lang/String;" .null := D124 (Or.inr (ww60 hw)) (ty := (.object "java/lang/String")) (by decide)
      refine own_dup (n := 19) X124 hx (hb hby at_18) rfl rfl ?_
      refine own_iloadN (n := 20) X124 hx (hb hby at_19) rfl rfl ?_
      refine own_S (n := 23) (argsL := [(.int p0)]) (rest := [(.ref b124), (.ref b124)]) X124 hx hZ hown (own_rmK l Z a0 hw p0 t0 t1 t2 t3 t4 t5 t6 t7 h124 n0 Z_134 S_126 S_127 S_128 S_129 S_130 S_131 S_132 S_133) (ww40 hw) (ww41 hw) (ww2 hw) (ww42 hw) (by decide) e124 (by rw [hml]; rfl) (lenOf own_pd10 rfl) rfl (hb hby at_20) (Nat.le_of_ble_eq_true rfl) (Nat.le_of_ble_eq_true rfl) (Nat.le_of_ble_eq_true rfl) (Nat.le_of_ble_eq_true rfl) rfl ?_
      rintro v139 T139 L139 X139 ⟨y139, rfl, Nq139, eq139⟩
      have N139 := Fr.app N83 Nq139
      change own_G p e below _ _ (mkF m 23 _ [(.ref y139), (.ref b124), (.ref b124)])
      refine own_aload (n := 25) X139 hx (hb hby at_23) rfl rfl rfl ?_
      refine own_aload (n := 27) X139 hx (hb hby at_25) rfl rfl rfl ?_
      refine own_I (n := 30) (argsL := [(.ref y139), (.ref r1), (.ref r83)]) (rest := [(.ref b124)]) (a := b124) (by rfl) X139 hx hZ hown (own_rmI_11 l Z a0 hw b124 y139 r1 r83 h124 n0 Z_134 A124 F_136 F_137 F_138 g_b124) (ww46 hw) (ww47 hw) (ww39 hw) (ww48 hw) (by decide) eq139 (by rw [hml]; rfl) (lenOf own_pd12 rfl) rfl (hb hby at_27) (Nat.le_of_ble_eq_true rfl) (Nat.le_of_ble_eq_true rfl) (Nat.le_of_ble_eq_true rfl) (Nat.le_of_ble_eq_true rfl) rfl ?_
      rintro v140 T140 L140 X140 ⟨rfl, Nq140, K140, Fa140, Fb140⟩
      have N140 := Fr.app N139 Nq140
      have S_141 := own_StaKeep S_125 K140 A124
      have S_142 := own_StaKeep S_126 K140 A124
      have S_143 := own_StaKeep S_127 K140 A124
      have S_144 := own_StaKeep S_128 K140 A124
      have S_145 := own_StaKeep S_129 K140 A124
      have S_146 := own_StaKeep S_130 K140 A124
      have S_147 := own_StaKeep S_131 K140 A124
      have S_148 := own_StaKeep S_132 K140 A124
      have S_149 := own_StaKeep S_133 K140 A124
      have E_150 := A124.keep K140
      have Z_151 : n0 ≤ T140.heap.size := Nat.le_trans Z_134 K140.1
      have hk_152 := Nat.le_trans hk_135 K140.1
      change own_G p e below _ _ (mkF m 30 _ [(.ref b124)])
      refine own_astore (n := 32) (l' := #[.val (.int p0), .val (.int p1), .val (.int p2), .val (.int p3), .val (.int p4), .val (.ref r1), .val (.ref r83), .val (.ref b124), .unset, .unset, .unset]) X140 hx (hb hby at_30) rfl rfl rfl ?_
      refine own_aload (n := 34) X140 hx (hb hby at_32) rfl rfl rfl ?_
      refine own_ifnonnullYes (n := 41) X140 hx (hb hby at_34) (by decide) (by decide) ?_
      refine own_iconst (n := 42) (z := (0 : Int32)) X140 hx (hb hby at_41) rfl rfl ?_
      refine own_aload (n := 44) X140 hx (hb hby at_42) rfl rfl rfl ?_
      refine own_ifnonnullYes (n := 51) X140 hx (hb hby at_44) (by decide) (by decide) ?_
      refine own_iconst (n := 52) (z := (0 : Int32)) X140 hx (hb hby at_51) rfl rfl ?_
      refine own_iadd (n := 53) (z := (0 : Int32)) X140 hx (hb hby at_52) rfl rfl ?_
      refine own_istore (n := 55) (l' := #[.val (.int p0), .val (.int p1), .val (.int p2), .val (.int p3), .val (.int p4), .val (.ref r1), .val (.ref r83), .val (.ref b124), .val (.int (0 : Int32)), .unset, .unset]) X140 hx (hb hby at_53) rfl rfl ?_
      refine own_ldcD (n := 58) (v := (13821547256400052224 : UInt64)) X140 hx hZ hown (ww61 hw) (hb hby at_55) rfl ?_
      refine own_iload (n := 60) X140 hx (hb hby at_58) rfl rfl ?_
      refine own_i2d (n := 61) (z := (0 : UInt64)) X140 hx (hb hby at_60) (by decide +kernel) rfl ?_
      refine own_dmul (n := 62) (z := (9223372036854775808 : UInt64)) X140 hx (hb hby at_61) own_nn0 (by decide +kernel) rfl ?_
      refine own_dstore (n := 64) (l' := #[.val (.int p0), .val (.int p1), .val (.int p2), .val (.int p3), .val (.int p4), .val (.ref r1), .val (.ref r83), .val (.ref b124), .val (.int (0 : Int32)), .val (.double (9223372036854775808 : UInt64)), .second]) X140 hx (hb hby at_62) rfl rfl ?_
      refine own_aload (n := 66) X140 hx (hb hby at_64) rfl rfl rfl ?_
      refine own_V (n := 69) (argsL := []) (rest := []) (a := b124) X140 hx hZ hown (own_rmP_11 l Z a0 hw b124 r1 r83 T140.heap n0 Z_151 Fa140 Fb140) (ww62 hw) (ww63 hw) (notFace_of_selects (args := #[]) (mvT hZ (ww65 hw))) (ww65 hw) (ww64 hw) (ww39 hw) (ww66 hw) (by decide) rfl E_150 (by rw [hml]; rfl) (lenOf own_pd13 rfl) rfl (hb hby at_66) (Nat.le_of_ble_eq_true rfl) (Nat.le_of_ble_eq_true rfl) (Nat.le_of_ble_eq_true rfl) (Nat.le_of_ble_eq_true rfl) rfl ?_
      rintro v153 T153 L153 X153 ⟨rfl, Nq153, eq153⟩
      have N153 := Fr.app N140 Nq153
      change own_G p e below _ _ (mkF m 69 _ [(.double (0 : UInt64))])
      refine own_dload (n := 71) X153 hx (hb hby at_69) rfl rfl ?_
      refine own_dcmp (n := 72) (z := (0 : Int32)) X153 hx (hb hby at_71) (by decide +kernel) rfl ?_
      refine own_ifNo (n := 75) X153 hx (hb hby at_72) (teq (by decide : (0 : Int32) = (0 : Int32))).2 rfl ?_
      refine own_iconst (n := 76) (z := (1 : Int32)) X153 hx (hb hby at_75) rfl rfl ?_
      refine own_goto (n := 80) X153 hx (hb hby at_76) (by decide) (by decide) ?_
      refine own_retZW X153 hx hlk hret (by simp) eq153 (w := (1 : Int32)) rfl hS83 hk_152 (hb hby at_80) (by decide) (by decide) ?_
      exact ⟨rfl, N153⟩
set_option maxRecDepth 65536 in
set_option maxHeartbeats 40000000 in
theorem comes_1 {Post : Tables → Env → Array Value → State → Outcome → State → Prop} (hpost : ∀ tb e args s v u, (limb_1_1.after args s (.returned v) u = true ∧ limb_1_2.after args s (.returned v) u = true ∧ True) → ReturnedEndW s (.returned v) u (Jvm.fieldLocs frame_1_writes args s ++ Jvm.arrayLocs frame_1_arrays args s ++ Jvm.staticLocs frame_1_statics s) 24 1152 → Post tb e args s (.returned v) u) :
    ArmFor flags0 classFile x code maxLocals ret World_1 tables_1 room_1 Calls_1 rest_1 Pre_1 Post := by
  intro l hfl _ _ p e ha hc hk s m args below hf hA hF happ hP
  obtain ⟨hcalls, hrest, hpre⟩ := hP
  obtain ⟨-, -, -, hnamed, -, -, -, hat⟩ := (Spec.applies_iff hf).mp happ
  obtain ⟨hg, hn⟩ := and_e (Cond.before_iff.mp (show (Jvm.Cond.and given_1 narrow_1).before args s = true from hpre))
  obtain ⟨hcount, hr0⟩ := and_e hg
  obtain ⟨ha0, hr1⟩ := and_e hr0
  obtain ⟨ha1, hr2⟩ := and_e hr1
  obtain ⟨ha2, hr3⟩ := and_e hr2
  obtain ⟨ha3, hr4⟩ := and_e hr3
  obtain ⟨w0, w1, w2, w3, w4, rfl⟩ : ∃ w0 w1 w2 w3 w4 : Value, args = #[w0, w1, w2, w3, w4] := by
    have hs : args.size = 5 := by simpa [Cond.value, given_1] using hcount
    obtain ⟨L⟩ := args
    match L, hs with
    | [w0, w1, w2, w3, w4], _ => exact ⟨w0, w1, w2, w3, w4, rfl⟩
  have hw := fun d (hd : d ∈ tables_1) => atoms_spec (ws := Jvm.Cond.code x code maxLocals ret :: tables_1) hat d (List.mem_cons_of_mem _ hd)
  have hfit : Fit s := fun {y c} hc i hi => by
    obtain ⟨ha, rfl⟩ := Array.getElem?_eq_some_iff.mp hc
    have q := List.all_eq_true.mp ((Array.all_eq_true_iff_forall_mem.mp hF) _ (Array.getElem_mem ha)) i (List.mem_range.mpr hi)
    simpa [Array.getElem?_eq_getElem hi] using q
  obtain ⟨i0, ev0⟩ := is_v ha0
  obtain rfl : w0 = (.int i0) := Option.some.inj ev0
  obtain ⟨i1, ev1⟩ := is_v ha1
  obtain rfl : w1 = (.int i1) := Option.some.inj ev1
  obtain ⟨i2, ev2⟩ := is_v ha2
  obtain rfl : w2 = (.int i2) := Option.some.inj ev2
  obtain ⟨i3, ev3⟩ := is_v ha3
  obtain rfl : w3 = (.int i3) := Option.some.inj ev3
  obtain ⟨i4, ev4⟩ := is_v hr4
  obtain rfl : w4 = (.int i4) := Option.some.inj ev4
  obtain ⟨hn_0, hm_0⟩ := and_e hn
  obtain ⟨hn_1, hm_1⟩ := and_e hm_0
  obtain ⟨hn_2, hm_2⟩ := and_e hm_1
  obtain ⟨hn_3, hm_3⟩ := and_e hm_2
  obtain ⟨hn_4, hm_4⟩ := and_e hm_3
  obtain ⟨hn_5, hm_5⟩ := and_e hm_4
  obtain ⟨hn_6, hm_6⟩ := and_e hm_5
  have hn_7 := hm_6
  obtain ⟨t0, evk0⟩ := exa_v hn_0
  have SK0 := Sta.start evk0 (Or.inr ⟨(ww44 hw), (ww45 hw)⟩)
  obtain ⟨t3, evk3⟩ := exa_v hn_1
  have SK3 := Sta.start evk3 (Or.inr ⟨(ww44 hw), (ww68 hw)⟩)
  obtain ⟨t7, evk7⟩ := exa_v hn_2
  have SK7 := Sta.start evk7 (Or.inr ⟨(ww44 hw), (ww85 hw)⟩)
  obtain ⟨t2, evk2⟩ := exa_v hn_3
  have SK2 := Sta.start evk2 (Or.inr ⟨(ww44 hw), (ww87 hw)⟩)
  obtain ⟨t6, evk6⟩ := exa_v hn_4
  have SK6 := Sta.start evk6 (Or.inr ⟨(ww44 hw), (ww89 hw)⟩)
  obtain ⟨t5, evk5⟩ := exa_v hn_5
  have SK5 := Sta.start evk5 (Or.inr ⟨(ww44 hw), (ww91 hw)⟩)
  obtain ⟨t4, evk4⟩ := exa_v hn_6
  have SK4 := Sta.start evk4 (Or.inr ⟨(ww44 hw), (ww93 hw)⟩)
  obtain ⟨t1, evk1⟩ := exa_v hn_7
  have SK1 := Sta.start evk1 (Or.inr ⟨(ww44 hw), (ww96 hw)⟩)
  have hrc : ∀ c ∈ jdkStatics_1, c.before _ s = true := (atoms_of (own := restOwn_1) jdkStatics_1 hrest).1
  have q0 := hrc _ (List.mem_of_getElem? (i := 0) rfl)
  obtain ⟨cst, evc⟩ := is_v (Cond.before_iff.mp (hrc _ (List.mem_of_getElem? (i := 1) rfl)))
  have S0 := Sta.start evc (Or.inl q0)
  have hcs : ¬ cst = (0 : Int32) := by
    have q2 := Cond.before_iff.mp (hrc _ (List.mem_of_getElem? (i := 2) rfl))
    intro z
    rw [Cond.value, Cond.eq_ints evc (Term.int_eval _)] at q2
    simp [z] at q2
  obtain ⟨n, o, h1, h2, h3, _, L, rfl, ⟨rfl, N⟩, hq⟩ := own_rm0 l s _ hw i0 i1 i2 i3 i4 cst t0 t1 t2 t3 t4 t5 t6 t7 s.heap s.heap.size (Nat.le_refl _) S0 SK0 SK1 SK2 SK3 SK4 SK5 SK6 SK7 hcs p e ha hc hk s m _ below hf ((Spec.applies_iff_loose hf).mp happ).1 ⟨rfl, State.Warmed39.refl s, rfl⟩ trivial
  refine ⟨n, _, h1, h2, h3, hpost _ _ _ _ _ _ ⟨Cond.after_iff.mpr rfl, Cond.after_iff.mpr (eq_i res_at (Term.int_eval (1)) rfl), trivial⟩ ⟨hq.1, hq.2.1, hq.2.2.1, (hq.2.2.2.sift fun y hy => Or.inr (N y hy)).mono (by decide) (by decide)⟩⟩
theorem main_1_1 : Claimed_1_1 := comes_1 fun _ _ _ _ _ _ h hF => ⟨h.1, hF⟩
theorem main_1_2 : Claimed_1_2 := comes_1 fun _ _ _ _ _ _ h hF => ⟨h.2.1, hF⟩
end Jvm.Pilot.@@N@@
namespace Jvm.Pilot.@@N@@
open Jvm Jvm.ClassFile Sem Op Lib Jvm.Free Jvm.Stand Jvm.Pilot.@@N@@.Jvm.D
/-! MADE BY PROGRAM (witnessworld.py) out of the Statement's table words and the real class files: 24 classes; the members and pool entries that the words name. The judged class is class 1, her method 3. -/
namespace start1
open Jvm.ClassFile
def u (s : String) : CpInfo := .utf8 (stringToUtf16 s)
/-- a pool by its gaps: so many unusable entries, then the entry; so many at the end -/
def gap : Nat → List CpInfo → List CpInfo
  | 0, r => r
  | n + 1, r => .unusable :: gap n r
def poolList (es : List (Nat × CpInfo)) (last : Nat) : List CpInfo := es.foldr (fun e r => gap e.1 (e.2 :: r)) (gap last [])
def pool (es : List (Nat × CpInfo)) (last : Nat) : Array CpInfo := ⟨poolList es last⟩
def fileOf (pool : Array CpInfo) (this : Nat) (attrs : Array Attribute := #[]) (ms : Array MethodInfo := #[]) (fl : Nat := 33) (sup : Nat := 0) (ifs : Array Nat := #[]) (fds : Array FieldInfo := #[]) : ClassFile where
  minorVersion := 0
  majorVersion := 65
  constantPool := pool
  accessFlags := fl
  thisClass := this
  superClass := sup
  interfaces := ifs
  fields := fds
  methods := ms
  attributes := attrs
def plain (name : String) (sup : Option ClassId) : Class where
  name := name
  kind := .ordinary
  loader := none
  accessFlags := 33
  super := sup
  interfaces := #[]
  cf := none
  fields := #[]
  methods := #[]
  instanceTypes := #[]
  staticTypes := #[]
  resolved := #[]
  callSites := []
  init := .initialized
  statics := none
  mirror := none

def pool0 : Array CpInfo := pool [(5, u "<init>"), (0, u "()V"), (1, .class_ 10), (1, u "java/lang/Object")] 113

def k0c0 : Code := { maxStack := 0, maxLocals := 1, code := object_method_1_code, exceptionTable := #[], attributes := #[] }
def k0m0 : Method := { name := "<init>", desc := "()V", sig := { parameters := [], returnType := none }, accessFlags := 1, code := some k0c0 }
/-- java/lang/Object -/
def k0 : Class := { plain "java/lang/Object" none with
  accessFlags := 33
  interfaces := #[]
  cf := some (fileOf pool0 8 #[] #[{ accessFlags := 1, nameIndex := 5, descriptorIndex := 6, attributes := #[] }] 33 0 #[] #[])
  fields := #[]
  methods := #[k0m0]
  instanceTypes := #[]
  staticTypes := #[]
  resolved := Array.replicate 124 none
  statics := none }

def pool1 : Array CpInfo := pool [(2, .class_ 4), (1, u "java/lang/Object"), (0, u "<init>"), (0, u "()V"), (0, .fieldref 8 9), (0, .class_ 10), (0, .nameAndType 11 12), (0, u "com/example/xml_stream_transform/xmlstreamtransform/model/NodeKind"), (0, u "DOCUMENT"), (0, u "Lcom/example/xml_stream_transform/xmlstreamtransform/model/NodeKind;"), (0, .fieldref 8 14), (0, .nameAndType 15 12), (0, u "ELEMENT"), (0, .fieldref 8 17), (0, .nameAndType 18 12), (0, u "ATTRIBUTE"), (0, .fieldref 8 20), (0, .nameAndType 21 12), (0, u "TEXT"), (0, .fieldref 8 23), (0, .nameAndType 24 12), (0, u "CDATA"), (0, .fieldref 8 26), (0, .nameAndType 27 12), (0, u "COMMENT"), (0, .fieldref 8 29), (0, .nameAndType 30 12), (0, u "PROCESSING_INSTRUCTION"), (0, .fieldref 8 32), (0, .nameAndType 33 12), (0, u "DOCTYPE"), (0, .string 35), (0, u ""), (0, .methodref 37 38), (0, .class_ 39), (0, .nameAndType 40 41), (0, u "java/lang/String"), (0, u "valueOf"), (0, u "(C)Ljava/lang/String;"), (0, .methodref 37 43), (0, .nameAndType 5 44), (0, u "([C)V"), (0, .methodref 46 47), (0, .class_ 48), (0, .nameAndType 49 50), (0, u "com/example/xml_stream_transform/xmlstreamtransform/stxpath/NameTestDefaultPriorityPinLaw"), (0, u "name"), (0, u "(II)Ljava/lang/String;"), (0, .class_ 52), (0, u "com/example/xml_stream_transform/xmlstreamtransform/stxpath/NameTest"), (0, .methodref 46 54), (0, .nameAndType 55 56), (0, u "kind"), (0, u "(I)Lcom/example/xml_stream_transform/xmlstreamtransform/model/NodeKind;"), (0, .methodref 51 58), (0, .nameAndType 5 59), (0, u "(Lcom/example/xml_stream_transform/xmlstreamtransform/model/NodeKind;Ljava/lang/String;Ljava/lang/String;)V"), (0, .double 13821547256400052224), (1, .methodref 51 63), (0, .nameAndType 64 65), (0, u "defaultPriority"), (0, u "()D"), (3, u "law"), (0, u "(IIIII)Z")] 2

def k1m0 : Method := { name := "<init>", desc := "()V", sig := { parameters := [], returnType := none }, accessFlags := 1, code := none }
def k1c1 : Code := { maxStack := 2, maxLocals := 2, code := method_2_code, exceptionTable := #[], attributes := #[] }
def k1m1 : Method := { name := "kind", desc := "(I)Lcom/example/xml_stream_transform/xmlstreamtransform/model/NodeKind;", sig := { parameters := [.int], returnType := some (.object "com/example/xml_stream_transform/xmlstreamtransform/model/NodeKind") }, accessFlags := 10, code := some k1c1 }
def k1c2 : Code := { maxStack := 4, maxLocals := 4, code := method_3_code, exceptionTable := #[], attributes := #[] }
def k1m2 : Method := { name := "name", desc := "(II)Ljava/lang/String;", sig := { parameters := [.int, .int], returnType := some (.object "java/lang/String") }, accessFlags := 10, code := some k1c2 }
def k1c3 : Code := { maxStack := 5, maxLocals := 11, code := code, exceptionTable := #[], attributes := #[] }
def k1m3 : Method := { name := "law", desc := "(IIIII)Z", sig := { parameters := [.int, .int, .int, .int, .int], returnType := some .boolean }, accessFlags := 9, code := some k1c3 }
/-- com/example/xml_stream_transform/xmlstreamtransform/stxpath/NameTestDefaultPriorityPinLaw -/
def k1 : Class := { plain "com/example/xml_stream_transform/xmlstreamtransform/stxpath/NameTestDefaultPriorityPinLaw" (some 0) with
  accessFlags := 49
  interfaces := #[]
  cf := some (fileOf pool1 46 #[] #[{ accessFlags := 1, nameIndex := 5, descriptorIndex := 6, attributes := #[] }, { accessFlags := 10, nameIndex := 55, descriptorIndex := 56, attributes := #[] }, { accessFlags := 10, nameIndex := 49, descriptorIndex := 50, attributes := #[] }, { accessFlags := 9, nameIndex := 69, descriptorIndex := 70, attributes := #[] }] 49 2 #[] #[])
  fields := #[]
  methods := #[k1m0, k1m1, k1m2, k1m3]
  instanceTypes := #[]
  staticTypes := #[]
  resolved := Array.replicate 73 none
  statics := none }

def pool2 : Array CpInfo := pool [(1, .class_ 2), (0, u "java/io/Serializable"), (0, .class_ 4), (0, u "java/lang/Object")] 2

/-- java/io/Serializable -/
def k2 : Class := { plain "java/io/Serializable" (some 0) with
  accessFlags := 1537
  interfaces := #[]
  cf := some (fileOf pool2 1 #[] #[] 1537 3 #[] #[])
  fields := #[]
  methods := #[]
  instanceTypes := #[]
  staticTypes := #[]
  resolved := Array.replicate 7 none
  statics := none }

def pool3 : Array CpInfo := pool [(1, .class_ 2), (0, u "java/lang/Comparable"), (0, .class_ 4), (0, u "java/lang/Object")] 7

/-- java/lang/Comparable -/
def k3 : Class := { plain "java/lang/Comparable" (some 0) with
  accessFlags := 1537
  interfaces := #[]
  cf := some (fileOf pool3 1 #[] #[] 1537 3 #[] #[])
  fields := #[]
  methods := #[]
  instanceTypes := #[]
  staticTypes := #[]
  resolved := Array.replicate 12 none
  statics := none }

def pool4 : Array CpInfo := pool [(2, .class_ 4), (1, u "java/lang/CharSequence"), (42, .class_ 48), (0, u "java/lang/CharSequence$1CodePointIterator"), (10, .class_ 60), (0, u "java/lang/CharSequence$1CharIterator"), (5, .class_ 67), (0, u "java/lang/Object")] 63

/-- java/lang/CharSequence -/
def k4 : Class := { plain "java/lang/CharSequence" (some 0) with
  accessFlags := 1537
  interfaces := #[]
  cf := some (fileOf pool4 2 #[.nestMembers #[47, 59]] #[] 1537 66 #[] #[])
  fields := #[]
  methods := #[]
  instanceTypes := #[]
  staticTypes := #[]
  resolved := Array.replicate 131 none
  statics := none }

def pool5 : Array CpInfo := pool [(1, .class_ 2), (0, u "java/lang/constant/Constable"), (0, .class_ 4), (0, u "java/lang/Object")] 6

/-- java/lang/constant/Constable -/
def k5 : Class := { plain "java/lang/constant/Constable" (some 0) with
  accessFlags := 1537
  interfaces := #[]
  cf := some (fileOf pool5 1 #[] #[] 1537 3 #[] #[])
  fields := #[]
  methods := #[]
  instanceTypes := #[]
  staticTypes := #[]
  resolved := Array.replicate 11 none
  statics := none }

def pool6 : Array CpInfo := pool [(1, .class_ 2), (0, u "java/lang/constant/ConstantDesc"), (0, .class_ 4), (0, u "java/lang/Object")] 32

/-- java/lang/constant/ConstantDesc -/
def k6 : Class := { plain "java/lang/constant/ConstantDesc" (some 0) with
  accessFlags := 1537
  interfaces := #[]
  cf := some (fileOf pool6 1 #[] #[] 1537 3 #[] #[])
  fields := #[]
  methods := #[]
  instanceTypes := #[]
  staticTypes := #[]
  resolved := Array.replicate 37 none
  statics := none }

def pool7 : Array CpInfo := pool [(1, .methodref 2 3), (0, .class_ 4), (0, .nameAndType 5 6), (0, u "java/lang/Object"), (0, u "<init>"), (0, u "()V"), (2, .fieldref 10 11), (0, .class_ 12), (0, .nameAndType 13 14), (0, u "java/lang/String"), (0, u "value"), (0, u "[B"), (0, .fieldref 10 16), (0, .nameAndType 17 18), (0, u "coder"), (0, u "B"), (2, u "hash"), (0, u "I"), (2, u "hashIsZero"), (0, u "Z"), (0, .methodref 10 28), (0, .nameAndType 5 29), (0, u "([CIILjava/lang/Void;)V"), (8, .fieldref 10 39), (0, .nameAndType 40 26), (0, u "COMPACT_STRINGS"), (1, .class_ 44), (1, u "java/lang/StringUTF16"), (0, u "compress"), (1, .methodref 42 48), (0, .nameAndType 49 50), (0, u "coderFromArrayLen"), (0, u "([BI)B"), (2, u "toBytes"), (53, .class_ 109), (1, u "java/lang/StringLatin1"), (67, .methodref 42 178), (0, .nameAndType 45 179), (0, u "([CII)[B"), (29, .methodref 10 210), (0, .nameAndType 5 211), (0, u "([BB)V"), (157, u "(C)Z"), (205, .class_ 576), (0, u "java/lang/CharSequence"), (22, u "CASE_INSENSITIVE_ORDER"), (0, u "Ljava/util/Comparator;"), (181, u "valueOf"), (0, u "(C)Ljava/lang/String;"), (226, u "([C)V"), (4, .methodref 107 1016), (0, .nameAndType 1017 369), (0, u "canEncode"), (0, .methodref 107 1019), (0, .nameAndType 53 1020), (0, u "(C)[B"), (80, u "serialPersistentFields"), (0, u "[Ljava/io/ObjectStreamField;"), (0, .class_ 1104), (0, u "java/lang/String$CaseInsensitiveComparator"), (1, .class_ 1107), (0, u "java/io/Serializable"), (0, .class_ 1109), (0, u "java/lang/Comparable"), (0, .class_ 1111), (0, u "java/lang/constant/Constable"), (0, .class_ 1113), (0, u "java/lang/constant/ConstantDesc"), (2, u "serialVersionUID"), (0, u "J"), (3, u "REPL"), (0, u "C"), (2, u "LATIN1"), (1, u "UTF16")] 323

def k7m0 : Method := { name := "<init>", desc := "()V", sig := { parameters := [], returnType := none }, accessFlags := 1, code := none }
def k7c1 : Code := { maxStack := 5, maxLocals := 2, code := jdk_42_method_3_code, exceptionTable := #[], attributes := #[] }
def k7m1 : Method := { name := "<init>", desc := "([C)V", sig := { parameters := [(.array .char)], returnType := none }, accessFlags := 1, code := some k7c1 }
def k7c2 : Code := { maxStack := 4, maxLocals := 1, code := jdk_42_method_139_code, exceptionTable := #[], attributes := #[] }
def k7m2 : Method := { name := "valueOf", desc := "(C)Ljava/lang/String;", sig := { parameters := [.char], returnType := some (.object "java/lang/String") }, accessFlags := 9, code := some k7c2 }
def k7c3 : Code := { maxStack := 4, maxLocals := 6, code := jdk_42_method_149_code, exceptionTable := #[], attributes := #[] }
def k7m3 : Method := { name := "<init>", desc := "([CIILjava/lang/Void;)V", sig := { parameters := [(.array .char), .int, .int, (.object "java/lang/Void")], returnType := none }, accessFlags := 2, code := some k7c3 }
def k7c4 : Code := { maxStack := 2, maxLocals := 3, code := jdk_42_method_151_code, exceptionTable := #[], attributes := #[] }
def k7m4 : Method := { name := "<init>", desc := "([BB)V", sig := { parameters := [(.array .byte), .byte], returnType := none }, accessFlags := 0, code := some k7c4 }
/-- java/lang/String -/
def k7 : Class := { plain "java/lang/String" (some 0) with
  accessFlags := 49
  interfaces := #[2, 3, 4, 5, 6]
  cf := some (fileOf pool7 10 #[.nestMembers #[1103]] #[{ accessFlags := 1, nameIndex := 5, descriptorIndex := 6, attributes := #[] }, { accessFlags := 1, nameIndex := 5, descriptorIndex := 1010, attributes := #[] }, { accessFlags := 9, nameIndex := 782, descriptorIndex := 783, attributes := #[] }, { accessFlags := 2, nameIndex := 5, descriptorIndex := 29, attributes := #[] }, { accessFlags := 0, nameIndex := 5, descriptorIndex := 211, attributes := #[] }] 49 2 #[1106, 1108, 575, 1110, 1112] #[{ accessFlags := 18, nameIndex := 13, descriptorIndex := 14, attributes := #[] }, { accessFlags := 18, nameIndex := 17, descriptorIndex := 18, attributes := #[] }, { accessFlags := 2, nameIndex := 21, descriptorIndex := 22, attributes := #[] }, { accessFlags := 2, nameIndex := 25, descriptorIndex := 26, attributes := #[] }, { accessFlags := 26, nameIndex := 1116, descriptorIndex := 1117, attributes := #[] }, { accessFlags := 24, nameIndex := 40, descriptorIndex := 26, attributes := #[] }, { accessFlags := 26, nameIndex := 1101, descriptorIndex := 1102, attributes := #[] }, { accessFlags := 26, nameIndex := 1121, descriptorIndex := 1122, attributes := #[] }, { accessFlags := 25, nameIndex := 599, descriptorIndex := 600, attributes := #[] }, { accessFlags := 24, nameIndex := 1125, descriptorIndex := 18, attributes := #[] }, { accessFlags := 24, nameIndex := 1127, descriptorIndex := 18, attributes := #[] }])
  fields := #[{ name := "value", type := (.array .byte), accessFlags := 18, slot := 0, constantValue := 0 }, { name := "coder", type := .byte, accessFlags := 18, slot := 1, constantValue := 0 }, { name := "hash", type := .int, accessFlags := 2, slot := 2, constantValue := 0 }, { name := "hashIsZero", type := .boolean, accessFlags := 2, slot := 3, constantValue := 0 }, { name := "serialVersionUID", type := .long, accessFlags := 26, slot := 0, constantValue := 0 }, { name := "COMPACT_STRINGS", type := .boolean, accessFlags := 24, slot := 1, constantValue := 0 }, { name := "serialPersistentFields", type := (.array (.object "java/io/ObjectStreamField")), accessFlags := 26, slot := 2, constantValue := 0 }, { name := "REPL", type := .char, accessFlags := 26, slot := 3, constantValue := 0 }, { name := "CASE_INSENSITIVE_ORDER", type := (.object "java/util/Comparator"), accessFlags := 25, slot := 4, constantValue := 0 }, { name := "LATIN1", type := .byte, accessFlags := 24, slot := 5, constantValue := 0 }, { name := "UTF16", type := .byte, accessFlags := 24, slot := 6, constantValue := 0 }]
  methods := #[k7m0, k7m1, k7m2, k7m3, k7m4]
  instanceTypes := #[(.array .byte), .byte, .int, .boolean]
  staticTypes := #[.long, .boolean, (.array (.object "java/io/ObjectStreamField")), .char, (.object "java/util/Comparator"), .byte, .byte]
  resolved := Array.replicate 1451 none
  statics := some 0 }

def pool8 : Array CpInfo := pool [(6, .class_ 8), (1, u "java/lang/Object"), (0, u "<init>"), (0, u "()V"), (1, .class_ 14), (1, u "java/lang/StringUTF16"), (31, u "$assertionsDisabled"), (0, u "Z"), (13, u "HI_BYTE_SHIFT"), (0, u "I"), (2, u "LO_BYTE_SHIFT"), (49, .methodref 12 116), (0, .nameAndType 117 118), (0, u "compress"), (0, u "([CI[BII)I"), (3, u "([CII)[B"), (138, u "coderFromArrayLen"), (0, u "([BI)B"), (106, .class_ 371), (1, u "java/lang/StringUTF16$LinesSpliterator"), (58, u "MAX_LENGTH"), (196, .class_ 628), (0, u "java/lang/StringUTF16$CodePointsSpliterator"), (0, .class_ 630), (0, u "java/lang/StringUTF16$CharsSpliterator")] 4

def k8m0 : Method := { name := "<init>", desc := "()V", sig := { parameters := [], returnType := none }, accessFlags := 0, code := none }
def k8c1 : Code := { maxStack := 2, maxLocals := 2, code := jdk_52_method_15_code, exceptionTable := #[], attributes := #[] }
def k8m1 : Method := { name := "coderFromArrayLen", desc := "([BI)B", sig := { parameters := [(.array .byte), .int], returnType := some .byte }, accessFlags := 8, code := some k8c1 }
def k8c2 : Code := { maxStack := 5, maxLocals := 6, code := jdk_52_method_16_code, exceptionTable := #[], attributes := #[] }
def k8m2 : Method := { name := "compress", desc := "([CII)[B", sig := { parameters := [(.array .char), .int, .int], returnType := some (.array .byte) }, accessFlags := 9, code := some k8c2 }
def k8c3 : Code := { maxStack := 3, maxLocals := 7, code := jdk_52_method_21_code, exceptionTable := #[], attributes := #[] }
def k8m3 : Method := { name := "compress", desc := "([CI[BII)I", sig := { parameters := [(.array .char), .int, (.array .byte), .int, .int], returnType := some .int }, accessFlags := 9, code := some k8c3 }
/-- java/lang/StringUTF16 -/
def k8 : Class := { plain "java/lang/StringUTF16" (some 0) with
  accessFlags := 48
  interfaces := #[]
  cf := some (fileOf pool8 12 #[.nestMembers #[627, 629, 369]] #[{ accessFlags := 0, nameIndex := 9, descriptorIndex := 10, attributes := #[] }, { accessFlags := 8, nameIndex := 261, descriptorIndex := 262, attributes := #[] }, { accessFlags := 9, nameIndex := 117, descriptorIndex := 122, attributes := #[] }, { accessFlags := 9, nameIndex := 117, descriptorIndex := 118, attributes := #[] }] 48 6 #[] #[{ accessFlags := 26, nameIndex := 61, descriptorIndex := 62, attributes := #[] }, { accessFlags := 26, nameIndex := 65, descriptorIndex := 62, attributes := #[] }, { accessFlags := 24, nameIndex := 430, descriptorIndex := 62, attributes := #[] }, { accessFlags := 4120, nameIndex := 46, descriptorIndex := 47, attributes := #[] }])
  fields := #[{ name := "HI_BYTE_SHIFT", type := .int, accessFlags := 26, slot := 0, constantValue := 0 }, { name := "LO_BYTE_SHIFT", type := .int, accessFlags := 26, slot := 1, constantValue := 0 }, { name := "MAX_LENGTH", type := .int, accessFlags := 24, slot := 2, constantValue := 0 }, { name := "$assertionsDisabled", type := .boolean, accessFlags := 4120, slot := 3, constantValue := 0 }]
  methods := #[k8m0, k8m1, k8m2, k8m3]
  instanceTypes := #[]
  staticTypes := #[.int, .int, .int, .boolean]
  resolved := Array.replicate 635 none
  statics := none }

def pool9 : Array CpInfo := pool [(1, .methodref 2 3), (0, .class_ 4), (0, .nameAndType 5 6), (0, u "java/lang/Object"), (0, u "<init>"), (0, u "()V"), (0, .class_ 8), (0, u "java/lang/Record")] 13

def k9c0 : Code := { maxStack := 1, maxLocals := 1, code := jdk_30_method_1_code, exceptionTable := #[], attributes := #[] }
def k9m0 : Method := { name := "<init>", desc := "()V", sig := { parameters := [], returnType := none }, accessFlags := 4, code := some k9c0 }
/-- java/lang/Record -/
def k9 : Class := { plain "java/lang/Record" (some 0) with
  accessFlags := 1057
  interfaces := #[]
  cf := some (fileOf pool9 7 #[] #[{ accessFlags := 4, nameIndex := 5, descriptorIndex := 6, attributes := #[] }] 1057 2 #[] #[])
  fields := #[]
  methods := #[k9m0]
  instanceTypes := #[]
  staticTypes := #[]
  resolved := Array.replicate 22 none
  statics := none }

def pool10 : Array CpInfo := pool [(1, .class_ 2), (0, u "com/example/xml_stream_transform/xmlstreamtransform/stxpath/NodeTest"), (0, .class_ 4), (0, u "java/lang/Object")] 8

/-- com/example/xml_stream_transform/xmlstreamtransform/stxpath/NodeTest -/
def k10 : Class := { plain "com/example/xml_stream_transform/xmlstreamtransform/stxpath/NodeTest" (some 0) with
  accessFlags := 1536
  interfaces := #[]
  cf := some (fileOf pool10 1 #[] #[] 1536 3 #[] #[])
  fields := #[]
  methods := #[]
  instanceTypes := #[]
  staticTypes := #[]
  resolved := Array.replicate 13 none
  statics := none }

def pool11 : Array CpInfo := pool [(1, .methodref 2 3), (0, .class_ 4), (0, .nameAndType 5 6), (0, u "java/lang/Record"), (0, u "<init>"), (0, u "()V"), (0, .fieldref 8 9), (0, .class_ 10), (0, .nameAndType 11 12), (0, u "com/example/xml_stream_transform/xmlstreamtransform/stxpath/NameTest"), (0, u "kind"), (0, u "Lcom/example/xml_stream_transform/xmlstreamtransform/model/NodeKind;"), (0, .fieldref 8 14), (0, .nameAndType 15 16), (0, u "namespaceUri"), (0, u "Ljava/lang/String;"), (0, .fieldref 8 18), (0, .nameAndType 19 16), (0, u "localName"), (16, .double 13826050856027422720), (1, .double 13821547256400052224), (12, .class_ 52), (0, u "com/example/xml_stream_transform/xmlstreamtransform/stxpath/NodeTest"), (0, u "(Lcom/example/xml_stream_transform/xmlstreamtransform/model/NodeKind;Ljava/lang/String;Ljava/lang/String;)V"), (8, u "defaultPriority"), (0, u "()D")] 23

def k11c0 : Code := { maxStack := 2, maxLocals := 4, code := prog_191_method_1_code, exceptionTable := #[], attributes := #[] }
def k11m0 : Method := { name := "<init>", desc := "(Lcom/example/xml_stream_transform/xmlstreamtransform/model/NodeKind;Ljava/lang/String;Ljava/lang/String;)V", sig := { parameters := [(.object "com/example/xml_stream_transform/xmlstreamtransform/model/NodeKind"), (.object "java/lang/String"), (.object "java/lang/String")], returnType := none }, accessFlags := 0, code := some k11c0 }
def k11c1 : Code := { maxStack := 2, maxLocals := 1, code := prog_191_method_4_code, exceptionTable := #[], attributes := #[] }
def k11m1 : Method := { name := "defaultPriority", desc := "()D", sig := { parameters := [], returnType := some .double }, accessFlags := 1, code := some k11c1 }
/-- com/example/xml_stream_transform/xmlstreamtransform/stxpath/NameTest -/
def k11 : Class := { plain "com/example/xml_stream_transform/xmlstreamtransform/stxpath/NameTest" (some 9) with
  accessFlags := 48
  interfaces := #[10]
  cf := some (fileOf pool11 8 #[] #[{ accessFlags := 0, nameIndex := 5, descriptorIndex := 53, attributes := #[] }, { accessFlags := 1, nameIndex := 62, descriptorIndex := 63, attributes := #[] }] 48 2 #[51] #[{ accessFlags := 18, nameIndex := 11, descriptorIndex := 12, attributes := #[] }, { accessFlags := 18, nameIndex := 15, descriptorIndex := 16, attributes := #[] }, { accessFlags := 18, nameIndex := 19, descriptorIndex := 16, attributes := #[] }])
  fields := #[{ name := "kind", type := (.object "com/example/xml_stream_transform/xmlstreamtransform/model/NodeKind"), accessFlags := 18, slot := 0, constantValue := 0 }, { name := "namespaceUri", type := (.object "java/lang/String"), accessFlags := 18, slot := 1, constantValue := 0 }, { name := "localName", type := (.object "java/lang/String"), accessFlags := 18, slot := 2, constantValue := 0 }]
  methods := #[k11m0, k11m1]
  instanceTypes := #[(.object "com/example/xml_stream_transform/xmlstreamtransform/model/NodeKind"), (.object "java/lang/String"), (.object "java/lang/String")]
  staticTypes := #[]
  resolved := Array.replicate 87 none
  statics := none }

def pool12 : Array CpInfo := pool [(2, .class_ 4), (1, u "java/lang/Enum"), (0, u "name"), (0, u "Ljava/lang/String;"), (2, u "ordinal"), (0, u "I"), (1, .class_ 14), (1, u "java/lang/Object"), (4, u "hash"), (86, .class_ 108), (1, u "java/lang/Enum$EnumDesc"), (2, .class_ 112), (0, u "java/lang/constant/Constable"), (0, .class_ 114), (0, u "java/lang/Comparable"), (0, .class_ 116), (0, u "java/io/Serializable")] 87

/-- java/lang/Enum -/
def k12 : Class := { plain "java/lang/Enum" (some 0) with
  accessFlags := 1057
  interfaces := #[5, 3, 2]
  cf := some (fileOf pool12 2 #[.nestMembers #[106]] #[] 1057 12 #[111, 113, 115] #[{ accessFlags := 18, nameIndex := 5, descriptorIndex := 6, attributes := #[] }, { accessFlags := 18, nameIndex := 9, descriptorIndex := 10, attributes := #[] }, { accessFlags := 2, nameIndex := 19, descriptorIndex := 10, attributes := #[] }])
  fields := #[{ name := "name", type := (.object "java/lang/String"), accessFlags := 18, slot := 0, constantValue := 0 }, { name := "ordinal", type := .int, accessFlags := 18, slot := 1, constantValue := 0 }, { name := "hash", type := .int, accessFlags := 2, slot := 2, constantValue := 0 }]
  methods := #[]
  instanceTypes := #[(.object "java/lang/String"), .int, .int]
  staticTypes := #[]
  resolved := Array.replicate 204 none
  statics := none }

def pool13 : Array CpInfo := pool [(1, .class_ 2), (0, u "com/example/xml_stream_transform/xmlstreamtransform/model/NodeKind"), (2, u "DOCUMENT"), (0, u "Lcom/example/xml_stream_transform/xmlstreamtransform/model/NodeKind;"), (2, u "ELEMENT"), (2, u "ATTRIBUTE"), (2, u "TEXT"), (2, u "CDATA"), (2, u "COMMENT"), (2, u "PROCESSING_INSTRUCTION"), (2, u "DOCTYPE"), (2, u "$VALUES"), (0, u "[Lcom/example/xml_stream_transform/xmlstreamtransform/model/NodeKind;"), (6, .class_ 40), (1, u "java/lang/Enum")] 33

/-- com/example/xml_stream_transform/xmlstreamtransform/model/NodeKind -/
def k13 : Class := { plain "com/example/xml_stream_transform/xmlstreamtransform/model/NodeKind" (some 12) with
  accessFlags := 16433
  interfaces := #[]
  cf := some (fileOf pool13 1 #[] #[] 16433 38 #[] #[{ accessFlags := 16409, nameIndex := 5, descriptorIndex := 6, attributes := #[] }, { accessFlags := 16409, nameIndex := 9, descriptorIndex := 6, attributes := #[] }, { accessFlags := 16409, nameIndex := 12, descriptorIndex := 6, attributes := #[] }, { accessFlags := 16409, nameIndex := 15, descriptorIndex := 6, attributes := #[] }, { accessFlags := 16409, nameIndex := 18, descriptorIndex := 6, attributes := #[] }, { accessFlags := 16409, nameIndex := 21, descriptorIndex := 6, attributes := #[] }, { accessFlags := 16409, nameIndex := 24, descriptorIndex := 6, attributes := #[] }, { accessFlags := 16409, nameIndex := 27, descriptorIndex := 6, attributes := #[] }, { accessFlags := 4122, nameIndex := 30, descriptorIndex := 31, attributes := #[] }])
  fields := #[{ name := "DOCUMENT", type := (.object "com/example/xml_stream_transform/xmlstreamtransform/model/NodeKind"), accessFlags := 16409, slot := 0, constantValue := 0 }, { name := "ELEMENT", type := (.object "com/example/xml_stream_transform/xmlstreamtransform/model/NodeKind"), accessFlags := 16409, slot := 1, constantValue := 0 }, { name := "ATTRIBUTE", type := (.object "com/example/xml_stream_transform/xmlstreamtransform/model/NodeKind"), accessFlags := 16409, slot := 2, constantValue := 0 }, { name := "TEXT", type := (.object "com/example/xml_stream_transform/xmlstreamtransform/model/NodeKind"), accessFlags := 16409, slot := 3, constantValue := 0 }, { name := "CDATA", type := (.object "com/example/xml_stream_transform/xmlstreamtransform/model/NodeKind"), accessFlags := 16409, slot := 4, constantValue := 0 }, { name := "COMMENT", type := (.object "com/example/xml_stream_transform/xmlstreamtransform/model/NodeKind"), accessFlags := 16409, slot := 5, constantValue := 0 }, { name := "PROCESSING_INSTRUCTION", type := (.object "com/example/xml_stream_transform/xmlstreamtransform/model/NodeKind"), accessFlags := 16409, slot := 6, constantValue := 0 }, { name := "DOCTYPE", type := (.object "com/example/xml_stream_transform/xmlstreamtransform/model/NodeKind"), accessFlags := 16409, slot := 7, constantValue := 0 }, { name := "$VALUES", type := (.array (.object "com/example/xml_stream_transform/xmlstreamtransform/model/NodeKind")), accessFlags := 4122, slot := 8, constantValue := 0 }]
  methods := #[]
  instanceTypes := #[(.object "java/lang/String"), .int, .int]
  staticTypes := #[(.object "com/example/xml_stream_transform/xmlstreamtransform/model/NodeKind"), (.object "com/example/xml_stream_transform/xmlstreamtransform/model/NodeKind"), (.object "com/example/xml_stream_transform/xmlstreamtransform/model/NodeKind"), (.object "com/example/xml_stream_transform/xmlstreamtransform/model/NodeKind"), (.object "com/example/xml_stream_transform/xmlstreamtransform/model/NodeKind"), (.object "com/example/xml_stream_transform/xmlstreamtransform/model/NodeKind"), (.object "com/example/xml_stream_transform/xmlstreamtransform/model/NodeKind"), (.object "com/example/xml_stream_transform/xmlstreamtransform/model/NodeKind"), (.array (.object "com/example/xml_stream_transform/xmlstreamtransform/model/NodeKind"))]
  resolved := Array.replicate 74 none
  statics := some 1 }

def pool14 : Array CpInfo := pool [(4, .class_ 6), (1, u "java/lang/Object"), (0, u "<init>"), (0, u "()V"), (5, .class_ 16), (1, u "java/lang/StringLatin1"), (73, u "canEncode"), (14, u "(C)Z"), (15, u "$assertionsDisabled"), (0, u "Z"), (98, .class_ 223), (1, u "java/lang/StringLatin1$LinesSpliterator"), (156, u "toBytes"), (1, u "(C)[B"), (7, .class_ 391), (0, u "java/lang/StringLatin1$CharsSpliterator")] 3

def k14m0 : Method := { name := "<init>", desc := "()V", sig := { parameters := [], returnType := none }, accessFlags := 0, code := none }
def k14c1 : Code := { maxStack := 2, maxLocals := 1, code := jdk_43_method_3_code, exceptionTable := #[], attributes := #[] }
def k14m1 : Method := { name := "canEncode", desc := "(C)Z", sig := { parameters := [.char], returnType := some .boolean }, accessFlags := 9, code := some k14c1 }
def k14c2 : Code := { maxStack := 4, maxLocals := 1, code := jdk_43_method_46_code, exceptionTable := #[], attributes := #[] }
def k14m2 : Method := { name := "toBytes", desc := "(C)[B", sig := { parameters := [.char], returnType := some (.array .byte) }, accessFlags := 9, code := some k14c2 }
/-- java/lang/StringLatin1 -/
def k14 : Class := { plain "java/lang/StringLatin1" (some 0) with
  accessFlags := 48
  interfaces := #[]
  cf := some (fileOf pool14 14 #[.nestMembers #[390, 221]] #[{ accessFlags := 0, nameIndex := 7, descriptorIndex := 8, attributes := #[] }, { accessFlags := 9, nameIndex := 90, descriptorIndex := 105, attributes := #[] }, { accessFlags := 9, nameIndex := 380, descriptorIndex := 382, attributes := #[] }] 48 4 #[] #[{ accessFlags := 4120, nameIndex := 121, descriptorIndex := 122, attributes := #[] }])
  fields := #[{ name := "$assertionsDisabled", type := .boolean, accessFlags := 4120, slot := 0, constantValue := 0 }]
  methods := #[k14m0, k14m1, k14m2]
  instanceTypes := #[]
  staticTypes := #[.boolean]
  resolved := Array.replicate 395 none
  statics := none }

def pool15 : Array CpInfo := pool [(2, .class_ 4), (1, u "java/lang/Object"), (0, u "<init>"), (0, u "()V"), (17, .class_ 26), (1, u "jdk/internal/util/Preconditions"), (28, .class_ 56), (0, u "jdk/internal/util/Preconditions$4"), (57, .class_ 115), (0, u "jdk/internal/util/Preconditions$1"), (7, u "SIOOBE_FORMATTER"), (0, u "Ljava/util/function/BiFunction;"), (0, .class_ 126), (0, u "jdk/internal/util/Preconditions$2"), (3, u "AIOOBE_FORMATTER"), (0, .class_ 132), (0, u "jdk/internal/util/Preconditions$3"), (3, u "IOOBE_FORMATTER")] 57

def k15m0 : Method := { name := "<init>", desc := "()V", sig := { parameters := [], returnType := none }, accessFlags := 1, code := none }
/-- jdk/internal/util/Preconditions -/
def k15 : Class := { plain "jdk/internal/util/Preconditions" (some 0) with
  accessFlags := 33
  interfaces := #[]
  cf := some (fileOf pool15 24 #[.nestMembers #[55, 131, 125, 114]] #[{ accessFlags := 1, nameIndex := 5, descriptorIndex := 6, attributes := #[] }] 33 2 #[] #[{ accessFlags := 25, nameIndex := 123, descriptorIndex := 124, attributes := #[] }, { accessFlags := 25, nameIndex := 130, descriptorIndex := 124, attributes := #[] }, { accessFlags := 25, nameIndex := 136, descriptorIndex := 124, attributes := #[] }])
  fields := #[{ name := "SIOOBE_FORMATTER", type := (.object "java/util/function/BiFunction"), accessFlags := 25, slot := 0, constantValue := 0 }, { name := "AIOOBE_FORMATTER", type := (.object "java/util/function/BiFunction"), accessFlags := 25, slot := 1, constantValue := 0 }, { name := "IOOBE_FORMATTER", type := (.object "java/util/function/BiFunction"), accessFlags := 25, slot := 2, constantValue := 0 }]
  methods := #[k15m0]
  instanceTypes := #[]
  staticTypes := #[(.object "java/util/function/BiFunction"), (.object "java/util/function/BiFunction"), (.object "java/util/function/BiFunction")]
  resolved := Array.replicate 194 none
  statics := some 2 }

def pool16 : Array CpInfo := pool [(9, u "<init>"), (6, .class_ 18), (1, u "java/lang/Object"), (0, u "()V"), (1, .class_ 23), (1, u "jdk/internal/util/ArraysSupport"), (0, u "LOG2_ARRAY_LONG_INDEX_SCALE"), (0, u "I"), (2, u "U"), (0, u "Ljdk/internal/misc/Unsafe;"), (8, u "BIG_ENDIAN"), (0, u "Z"), (8, u "LOG2_BYTE_BIT_SIZE"), (4, u "LOG2_ARRAY_INT_INDEX_SCALE"), (54, u "JLA"), (0, u "Ljdk/internal/access/JavaLangAccess;"), (11, u "LOG2_ARRAY_BOOLEAN_INDEX_SCALE"), (9, u "LOG2_ARRAY_BYTE_INDEX_SCALE"), (5, u "LOG2_ARRAY_CHAR_INDEX_SCALE"), (5, u "LOG2_ARRAY_SHORT_INDEX_SCALE"), (18, u "LOG2_ARRAY_FLOAT_INDEX_SCALE"), (24, u "LOG2_ARRAY_DOUBLE_INDEX_SCALE"), (89, u "T_BOOLEAN"), (2, u "T_CHAR"), (1, u "T_FLOAT"), (1, u "T_DOUBLE"), (1, u "T_BYTE"), (1, u "T_SHORT"), (1, u "T_INT"), (1, u "T_LONG"), (1, u "SOFT_MAX_ARRAY_LENGTH")] 83

def k16m0 : Method := { name := "<init>", desc := "()V", sig := { parameters := [], returnType := none }, accessFlags := 2, code := none }
/-- jdk/internal/util/ArraysSupport -/
def k16 : Class := { plain "jdk/internal/util/ArraysSupport" (some 0) with
  accessFlags := 33
  interfaces := #[]
  cf := some (fileOf pool16 21 #[] #[{ accessFlags := 2, nameIndex := 9, descriptorIndex := 19, attributes := #[] }] 33 16 #[] #[{ accessFlags := 24, nameIndex := 28, descriptorIndex := 29, attributes := #[] }, { accessFlags := 26, nameIndex := 38, descriptorIndex := 39, attributes := #[] }, { accessFlags := 25, nameIndex := 121, descriptorIndex := 25, attributes := #[] }, { accessFlags := 25, nameIndex := 131, descriptorIndex := 25, attributes := #[] }, { accessFlags := 25, nameIndex := 137, descriptorIndex := 25, attributes := #[] }, { accessFlags := 25, nameIndex := 143, descriptorIndex := 25, attributes := #[] }, { accessFlags := 25, nameIndex := 53, descriptorIndex := 25, attributes := #[] }, { accessFlags := 25, nameIndex := 24, descriptorIndex := 25, attributes := #[] }, { accessFlags := 25, nameIndex := 162, descriptorIndex := 25, attributes := #[] }, { accessFlags := 25, nameIndex := 187, descriptorIndex := 25, attributes := #[] }, { accessFlags := 26, nameIndex := 48, descriptorIndex := 25, attributes := #[] }, { accessFlags := 25, nameIndex := 277, descriptorIndex := 25, attributes := #[] }, { accessFlags := 25, nameIndex := 280, descriptorIndex := 25, attributes := #[] }, { accessFlags := 25, nameIndex := 282, descriptorIndex := 25, attributes := #[] }, { accessFlags := 25, nameIndex := 284, descriptorIndex := 25, attributes := #[] }, { accessFlags := 25, nameIndex := 286, descriptorIndex := 25, attributes := #[] }, { accessFlags := 25, nameIndex := 288, descriptorIndex := 25, attributes := #[] }, { accessFlags := 25, nameIndex := 290, descriptorIndex := 25, attributes := #[] }, { accessFlags := 25, nameIndex := 292, descriptorIndex := 25, attributes := #[] }, { accessFlags := 26, nameIndex := 108, descriptorIndex := 109, attributes := #[] }, { accessFlags := 25, nameIndex := 294, descriptorIndex := 25, attributes := #[] }])
  fields := #[{ name := "U", type := (.object "jdk/internal/misc/Unsafe"), accessFlags := 24, slot := 0, constantValue := 0 }, { name := "BIG_ENDIAN", type := .boolean, accessFlags := 26, slot := 1, constantValue := 0 }, { name := "LOG2_ARRAY_BOOLEAN_INDEX_SCALE", type := .int, accessFlags := 25, slot := 2, constantValue := 0 }, { name := "LOG2_ARRAY_BYTE_INDEX_SCALE", type := .int, accessFlags := 25, slot := 3, constantValue := 0 }, { name := "LOG2_ARRAY_CHAR_INDEX_SCALE", type := .int, accessFlags := 25, slot := 4, constantValue := 0 }, { name := "LOG2_ARRAY_SHORT_INDEX_SCALE", type := .int, accessFlags := 25, slot := 5, constantValue := 0 }, { name := "LOG2_ARRAY_INT_INDEX_SCALE", type := .int, accessFlags := 25, slot := 6, constantValue := 0 }, { name := "LOG2_ARRAY_LONG_INDEX_SCALE", type := .int, accessFlags := 25, slot := 7, constantValue := 0 }, { name := "LOG2_ARRAY_FLOAT_INDEX_SCALE", type := .int, accessFlags := 25, slot := 8, constantValue := 0 }, { name := "LOG2_ARRAY_DOUBLE_INDEX_SCALE", type := .int, accessFlags := 25, slot := 9, constantValue := 0 }, { name := "LOG2_BYTE_BIT_SIZE", type := .int, accessFlags := 26, slot := 10, constantValue := 0 }, { name := "T_BOOLEAN", type := .int, accessFlags := 25, slot := 11, constantValue := 0 }, { name := "T_CHAR", type := .int, accessFlags := 25, slot := 12, constantValue := 0 }, { name := "T_FLOAT", type := .int, accessFlags := 25, slot := 13, constantValue := 0 }, { name := "T_DOUBLE", type := .int, accessFlags := 25, slot := 14, constantValue := 0 }, { name := "T_BYTE", type := .int, accessFlags := 25, slot := 15, constantValue := 0 }, { name := "T_SHORT", type := .int, accessFlags := 25, slot := 16, constantValue := 0 }, { name := "T_INT", type := .int, accessFlags := 25, slot := 17, constantValue := 0 }, { name := "T_LONG", type := .int, accessFlags := 25, slot := 18, constantValue := 0 }, { name := "JLA", type := (.object "jdk/internal/access/JavaLangAccess"), accessFlags := 26, slot := 19, constantValue := 0 }, { name := "SOFT_MAX_ARRAY_LENGTH", type := .int, accessFlags := 25, slot := 20, constantValue := 0 }]
  methods := #[k16m0]
  instanceTypes := #[]
  staticTypes := #[(.object "jdk/internal/misc/Unsafe"), .boolean, .int, .int, .int, .int, .int, .int, .int, .int, .int, .int, .int, .int, .int, .int, .int, .int, .int, (.object "jdk/internal/access/JavaLangAccess"), .int]
  resolved := Array.replicate 378 none
  statics := none }

def pool17 : Array CpInfo := pool [(1, u "java/lang/Cloneable"), (0, .class_ 1), (0, u "java/lang/Object"), (0, .class_ 3)] 3

/-- java/lang/Cloneable -/
def k17 : Class := { plain "java/lang/Cloneable" (some 0) with
  accessFlags := 1537
  interfaces := #[]
  cf := some (fileOf pool17 2 #[] #[] 1537 4 #[] #[])
  fields := #[]
  methods := #[]
  instanceTypes := #[]
  staticTypes := #[]
  resolved := Array.replicate 8 none
  statics := none }

/-- the primitive byte -/
def k18 : Class := { plain "byte" none with kind := .primitive 'B', accessFlags := 0x411 }
/-- [B -/
def k19 : Class := { plain "[B" (some 0) with kind := .array 18 .byte, interfaces := #[17, 2], accessFlags := 1041 }

/-- the primitive char -/
def k20 : Class := { plain "char" none with kind := .primitive 'C', accessFlags := 0x411 }
/-- [C -/
def k21 : Class := { plain "[C" (some 0) with kind := .array 20 .char, interfaces := #[17, 2], accessFlags := 1041 }

/-- the primitive int -/
def k22 : Class := { plain "int" none with kind := .primitive 'I', accessFlags := 0x411 }
/-- [I -/
def k23 : Class := { plain "[I" (some 0) with kind := .array 22 .int, interfaces := #[17, 2], accessFlags := 1041 }

def heap : Heap := #[{ cls := 7, slots := #[.long 0, .int 1, .null, .int 0, .null, .int 0, .int 0], vm := .statics 7 },
  { cls := 13, slots := #[.ref 3, .ref 4, .ref 5, .ref 6, .ref 7, .ref 9, .ref 8, .ref 10, .null], vm := .statics 13 },
  { cls := 15, slots := #[.null, .null, .null], vm := .statics 15 },
  { cls := 13, slots := #[.null, .int 0, .int 0], vm := .none },
  { cls := 13, slots := #[.null, .int 1, .int 0], vm := .none },
  { cls := 13, slots := #[.null, .int 2, .int 0], vm := .none },
  { cls := 13, slots := #[.null, .int 3, .int 0], vm := .none },
  { cls := 13, slots := #[.null, .int 4, .int 0], vm := .none },
  { cls := 13, slots := #[.null, .int 5, .int 0], vm := .none },
  { cls := 13, slots := #[.null, .int 6, .int 0], vm := .none },
  { cls := 13, slots := #[.null, .int 7, .int 0], vm := .none }]
def classes : Array Class := #[k0, k1, k2, k3, k4, k5, k6, k7, k8, k9, k10, k11, k12, k13, k14, k15, k16, k17, k18, k19, k20, k21, k22, k23]
def interned : List (Array UInt16 × Addr) := []
def slotsUsed : Nat := 43
def theMethod : MethodId := ⟨1, 3⟩
def args0 : Array Value := #[.int 5, .int 6, .int 7, .int 8, .int 9]
def aboutOver (below : List Frame) : State where
  vm := { classes := classes, interned := interned.toArray }
  heap := heap
  slotsUsed := slotsUsed
  threads := #[{ frames := .invoking theMethod args0 :: below }]
def below0 : List Frame := [.native { method := ⟨0, 0⟩, args := #[] }]
def about1 : State := aboutOver below0
def p0 : Program := .bare "" "" ""
def e0 : Env := launch0.env 0 0 0
theorem w_frames : about1.frames = Frame.invoking theMethod args0 :: below0 := rfl
set_option maxRecDepth 65536 in
theorem w_args : argsFit about1.vm theMethod args0 = true := by decide +kernel
set_option maxRecDepth 65536 in
theorem w_heap : heapFits about1 = true := by decide +kernel
set_option maxRecDepth 65536 in
theorem w_runnable : about1.curStatus? = some .runnable := by decide +kernel
set_option maxRecDepth 65536 in
theorem w_alone : about1.alone = true := by decide +kernel
set_option maxRecDepth 65536 in
theorem w_named : about1.methodNamed? x = some theMethod := by decide +kernel
set_option maxRecDepth 65536 in
theorem w_hears : about1.hears theMethod below0 = true := by decide +kernel
set_option maxRecDepth 65536 in
theorem w_ripe : about1.ripe theMethod args0 below0 = true := by decide +kernel
theorem w_running : about1.status = .running := rfl
set_option maxRecDepth 65536 in
theorem w_room : about1.hasRoom e0.platform room_1 = true :=
  launch0.hasRoom_least _ room_1 (by decide +kernel) (by decide +kernel) (by decide +kernel) (by decide +kernel) (by decide +kernel) (by decide +kernel)
theorem allAtoms_all (ts : List Jvm.Cond) (a : Array Jvm.Value) (st : Jvm.State) : (allAtoms ts).before a st = ts.all (fun c => c.before a st) := by
  induction ts with
  | nil => rfl
  | cons c t ih =>
    show (Jvm.Cond.and c (allAtoms t)).before a st = _
    rw [Jvm.Cond.before_and, ih, List.all_cons]
def words1 : List Jvm.Cond := Jvm.Cond.code x code maxLocals ret :: tables_1
/-- a 'code' word, met by the world's own term for the bytes: nothing is compared byte by byte -/
theorem code_word {y : MethodName} {bytes : ByteArray} {mx : Nat} {rt : Option FieldType} {a : Array Value} {s : State} {m : MethodId} {meth : Method} {c : Code} (h1 : s.methodNamed? y = some m) (h2 : s.vm.method? m = some meth) (h3 : meth.code = some c) (h4 : c.code = bytes)
    (h5 : (c.maxLocals == mx && c.exceptionTable.isEmpty && decide (c.maxStack ≤ mostOperands) && decide (meth.sig.returnType = rt) && !meth.locks && decide (parseMethodDescriptor y.desc = some meth.sig)) = true) : (Jvm.Cond.code y bytes mx rt).before a s = true := by
  simp only [Bool.and_eq_true, beq_iff_eq, Bool.not_eq_true', decide_eq_true_eq] at h5
  obtain ⟨⟨⟨⟨⟨g1, g2⟩, g3⟩, g4⟩, g5⟩, g6⟩ := h5
  simp [Cond.before, Cond.holds, Cond.value, h1, h2, h3, h4, g1, g2, g3, g4, g5, g6]
def isCode : Jvm.Cond → Bool
  | .code _ _ _ _ => true
  | _ => false
theorem all_split {L : List Jvm.Cond} {P : Jvm.Cond → Bool} (h1 : L.all (fun c => isCode c || P c) = true) (h2 : ∀ c ∈ L.filter isCode, P c = true) : L.all P = true := by
  refine List.all_eq_true.mpr fun c hc => ?_
  have h := List.all_eq_true.mp h1 c hc
  rcases Bool.eq_false_or_eq_true (isCode c) with hi | hi
  · exact h2 c (List.mem_filter.mpr ⟨hc, hi⟩)
  · simpa [hi] using h
set_option maxRecDepth 65536 in
theorem w_c0 : (Jvm.Cond.code x code maxLocals ret).before args0 about1 = true := code_word (m := ⟨1, 3⟩) (meth := k1m3) (c := k1c3) (by decide +kernel) rfl rfl rfl (by decide +kernel)
set_option maxRecDepth 65536 in
theorem w_c1 : (Jvm.Cond.code ({ cls := "com/example/xml_stream_transform/xmlstreamtransform/stxpath/NameTestDefaultPriorityPinLaw", name := "name", desc := "(II)Ljava/lang/String;" } : Jvm.MethodName) method_3_code (4 : Nat) (Option.some (Jvm.ClassFile.FieldType.object "java/lang/String"))).before args0 about1 = true := code_word (m := ⟨1, 2⟩) (meth := k1m2) (c := k1c2) (by decide +kernel) rfl rfl rfl (by decide +kernel)
set_option maxRecDepth 65536 in
theorem w_c2 : (Jvm.Cond.code ({ cls := "java/lang/String", name := "<init>", desc := "([C)V" } : Jvm.MethodName) jdk_42_method_3_code (2 : Nat) (Option.none : Option Jvm.ClassFile.FieldType)).before args0 about1 = true := code_word (m := ⟨7, 1⟩) (meth := k7m1) (c := k7c1) (by decide +kernel) rfl rfl rfl (by decide +kernel)
set_option maxRecDepth 65536 in
theorem w_c3 : (Jvm.Cond.code ({ cls := "java/lang/String", name := "<init>", desc := "([CIILjava/lang/Void;)V" } : Jvm.MethodName) jdk_42_method_149_code (6 : Nat) (Option.none : Option Jvm.ClassFile.FieldType)).before args0 about1 = true := code_word (m := ⟨7, 3⟩) (meth := k7m3) (c := k7c3) (by decide +kernel) rfl rfl rfl (by decide +kernel)
set_option maxRecDepth 65536 in
theorem w_c4 : (Jvm.Cond.code ({ cls := "java/lang/Object", name := "<init>", desc := "()V" } : Jvm.MethodName) object_method_1_code (1 : Nat) (Option.none : Option Jvm.ClassFile.FieldType)).before args0 about1 = true := code_word (m := ⟨0, 0⟩) (meth := k0m0) (c := k0c0) (by decide +kernel) rfl rfl rfl (by decide +kernel)
set_option maxRecDepth 65536 in
theorem w_c5 : (Jvm.Cond.code ({ cls := "java/lang/StringUTF16", name := "compress", desc := "([CII)[B" } : Jvm.MethodName) jdk_52_method_16_code (6 : Nat) (Option.some (Jvm.ClassFile.FieldType.array Jvm.ClassFile.FieldType.byte))).before args0 about1 = true := code_word (m := ⟨8, 2⟩) (meth := k8m2) (c := k8c2) (by decide +kernel) rfl rfl rfl (by decide +kernel)
set_option maxRecDepth 65536 in
theorem w_c6 : (Jvm.Cond.code ({ cls := "java/lang/StringUTF16", name := "compress", desc := "([CI[BII)I" } : Jvm.MethodName) jdk_52_method_21_code (7 : Nat) (Option.some Jvm.ClassFile.FieldType.int)).before args0 about1 = true := code_word (m := ⟨8, 3⟩) (meth := k8m3) (c := k8c3) (by decide +kernel) rfl rfl rfl (by decide +kernel)
set_option maxRecDepth 65536 in
theorem w_c7 : (Jvm.Cond.code ({ cls := "java/lang/StringUTF16", name := "coderFromArrayLen", desc := "([BI)B" } : Jvm.MethodName) jdk_52_method_15_code (2 : Nat) (Option.some Jvm.ClassFile.FieldType.byte)).before args0 about1 = true := code_word (m := ⟨8, 1⟩) (meth := k8m1) (c := k8c1) (by decide +kernel) rfl rfl rfl (by decide +kernel)
set_option maxRecDepth 65536 in
theorem w_c8 : (Jvm.Cond.code ({ cls := "com/example/xml_stream_transform/xmlstreamtransform/stxpath/NameTestDefaultPriorityPinLaw", name := "kind", desc := "(I)Lcom/example/xml_stream_transform/xmlstreamtransform/model/NodeKind;" } : Jvm.MethodName) method_2_code (2 : Nat) (Option.some (Jvm.ClassFile.FieldType.object "com/example/xml_stream_transform/xmlstreamtransform/model/NodeKind"))).before args0 about1 = true := code_word (m := ⟨1, 1⟩) (meth := k1m1) (c := k1c1) (by decide +kernel) rfl rfl rfl (by decide +kernel)
set_option maxRecDepth 65536 in
theorem w_c9 : (Jvm.Cond.code ({ cls := "com/example/xml_stream_transform/xmlstreamtransform/stxpath/NameTest", name := "<init>", desc := "(Lcom/example/xml_stream_transform/xmlstreamtransform/model/NodeKind;Ljava/lang/String;Ljava/lang/String;)V" } : Jvm.MethodName) prog_191_method_1_code (4 : Nat) (Option.none : Option Jvm.ClassFile.FieldType)).before args0 about1 = true := code_word (m := ⟨11, 0⟩) (meth := k11m0) (c := k11c0) (by decide +kernel) rfl rfl rfl (by decide +kernel)
set_option maxRecDepth 65536 in
theorem w_c10 : (Jvm.Cond.code ({ cls := "java/lang/Record", name := "<init>", desc := "()V" } : Jvm.MethodName) jdk_30_method_1_code (1 : Nat) (Option.none : Option Jvm.ClassFile.FieldType)).before args0 about1 = true := code_word (m := ⟨9, 0⟩) (meth := k9m0) (c := k9c0) (by decide +kernel) rfl rfl rfl (by decide +kernel)
set_option maxRecDepth 65536 in
theorem w_c11 : (Jvm.Cond.code ({ cls := "com/example/xml_stream_transform/xmlstreamtransform/stxpath/NameTest", name := "defaultPriority", desc := "()D" } : Jvm.MethodName) prog_191_method_4_code (1 : Nat) (Option.some Jvm.ClassFile.FieldType.double)).before args0 about1 = true := code_word (m := ⟨11, 1⟩) (meth := k11m1) (c := k11c1) (by decide +kernel) rfl rfl rfl (by decide +kernel)
set_option maxRecDepth 65536 in
theorem w_c12 : (Jvm.Cond.code ({ cls := "java/lang/String", name := "valueOf", desc := "(C)Ljava/lang/String;" } : Jvm.MethodName) jdk_42_method_139_code (1 : Nat) (Option.some (Jvm.ClassFile.FieldType.object "java/lang/String"))).before args0 about1 = true := code_word (m := ⟨7, 2⟩) (meth := k7m2) (c := k7c2) (by decide +kernel) rfl rfl rfl (by decide +kernel)
set_option maxRecDepth 65536 in
theorem w_c13 : (Jvm.Cond.code ({ cls := "java/lang/StringLatin1", name := "canEncode", desc := "(C)Z" } : Jvm.MethodName) jdk_43_method_3_code (1 : Nat) (Option.some Jvm.ClassFile.FieldType.boolean)).before args0 about1 = true := code_word (m := ⟨14, 1⟩) (meth := k14m1) (c := k14c1) (by decide +kernel) rfl rfl rfl (by decide +kernel)
set_option maxRecDepth 65536 in
theorem w_c14 : (Jvm.Cond.code ({ cls := "java/lang/StringLatin1", name := "toBytes", desc := "(C)[B" } : Jvm.MethodName) jdk_43_method_46_code (1 : Nat) (Option.some (Jvm.ClassFile.FieldType.array Jvm.ClassFile.FieldType.byte))).before args0 about1 = true := code_word (m := ⟨14, 2⟩) (meth := k14m2) (c := k14c2) (by decide +kernel) rfl rfl rfl (by decide +kernel)
set_option maxRecDepth 65536 in
theorem w_c15 : (Jvm.Cond.code ({ cls := "java/lang/String", name := "<init>", desc := "([BB)V" } : Jvm.MethodName) jdk_42_method_151_code (3 : Nat) (Option.none : Option Jvm.ClassFile.FieldType)).before args0 about1 = true := code_word (m := ⟨7, 4⟩) (meth := k7m4) (c := k7c4) (by decide +kernel) rfl rfl rfl (by decide +kernel)
def codes1 : List Jvm.Cond := [Jvm.Cond.code x code maxLocals ret, Jvm.Cond.code ({ cls := "com/example/xml_stream_transform/xmlstreamtransform/stxpath/NameTestDefaultPriorityPinLaw", name := "name", desc := "(II)Ljava/lang/String;" } : Jvm.MethodName) method_3_code (4 : Nat) (Option.some (Jvm.ClassFile.FieldType.object "java/lang/String")), Jvm.Cond.code ({ cls := "java/lang/String", name := "<init>", desc := "([C)V" } : Jvm.MethodName) jdk_42_method_3_code (2 : Nat) (Option.none : Option Jvm.ClassFile.FieldType), Jvm.Cond.code ({ cls := "java/lang/String", name := "<init>", desc := "([CIILjava/lang/Void;)V" } : Jvm.MethodName) jdk_42_method_149_code (6 : Nat) (Option.none : Option Jvm.ClassFile.FieldType), Jvm.Cond.code ({ cls := "java/lang/Object", name := "<init>", desc := "()V" } : Jvm.MethodName) object_method_1_code (1 : Nat) (Option.none : Option Jvm.ClassFile.FieldType), Jvm.Cond.code ({ cls := "java/lang/StringUTF16", name := "compress", desc := "([CII)[B" } : Jvm.MethodName) jdk_52_method_16_code (6 : Nat) (Option.some (Jvm.ClassFile.FieldType.array Jvm.ClassFile.FieldType.byte)), Jvm.Cond.code ({ cls := "java/lang/StringUTF16", name := "compress", desc := "([CI[BII)I" } : Jvm.MethodName) jdk_52_method_21_code (7 : Nat) (Option.some Jvm.ClassFile.FieldType.int), Jvm.Cond.code ({ cls := "java/lang/StringUTF16", name := "coderFromArrayLen", desc := "([BI)B" } : Jvm.MethodName) jdk_52_method_15_code (2 : Nat) (Option.some Jvm.ClassFile.FieldType.byte), Jvm.Cond.code ({ cls := "com/example/xml_stream_transform/xmlstreamtransform/stxpath/NameTestDefaultPriorityPinLaw", name := "kind", desc := "(I)Lcom/example/xml_stream_transform/xmlstreamtransform/model/NodeKind;" } : Jvm.MethodName) method_2_code (2 : Nat) (Option.some (Jvm.ClassFile.FieldType.object "com/example/xml_stream_transform/xmlstreamtransform/model/NodeKind")), Jvm.Cond.code ({ cls := "com/example/xml_stream_transform/xmlstreamtransform/stxpath/NameTest", name := "<init>", desc := "(Lcom/example/xml_stream_transform/xmlstreamtransform/model/NodeKind;Ljava/lang/String;Ljava/lang/String;)V" } : Jvm.MethodName) prog_191_method_1_code (4 : Nat) (Option.none : Option Jvm.ClassFile.FieldType), Jvm.Cond.code ({ cls := "java/lang/Record", name := "<init>", desc := "()V" } : Jvm.MethodName) jdk_30_method_1_code (1 : Nat) (Option.none : Option Jvm.ClassFile.FieldType), Jvm.Cond.code ({ cls := "com/example/xml_stream_transform/xmlstreamtransform/stxpath/NameTest", name := "defaultPriority", desc := "()D" } : Jvm.MethodName) prog_191_method_4_code (1 : Nat) (Option.some Jvm.ClassFile.FieldType.double), Jvm.Cond.code ({ cls := "java/lang/String", name := "valueOf", desc := "(C)Ljava/lang/String;" } : Jvm.MethodName) jdk_42_method_139_code (1 : Nat) (Option.some (Jvm.ClassFile.FieldType.object "java/lang/String")), Jvm.Cond.code ({ cls := "java/lang/StringLatin1", name := "canEncode", desc := "(C)Z" } : Jvm.MethodName) jdk_43_method_3_code (1 : Nat) (Option.some Jvm.ClassFile.FieldType.boolean), Jvm.Cond.code ({ cls := "java/lang/StringLatin1", name := "toBytes", desc := "(C)[B" } : Jvm.MethodName) jdk_43_method_46_code (1 : Nat) (Option.some (Jvm.ClassFile.FieldType.array Jvm.ClassFile.FieldType.byte)), Jvm.Cond.code ({ cls := "java/lang/String", name := "<init>", desc := "([BB)V" } : Jvm.MethodName) jdk_42_method_151_code (3 : Nat) (Option.none : Option Jvm.ClassFile.FieldType)]
set_option maxRecDepth 65536 in
theorem codes_eq : words1.filter isCode = codes1 := rfl
theorem w_codes : ∀ c ∈ words1.filter isCode, c.before args0 about1 = true := by
  rw [codes_eq]
  intro c hc
  simp only [codes1, List.mem_cons, List.not_mem_nil, or_false] at hc
  rcases hc with rfl | rfl | rfl | rfl | rfl | rfl | rfl | rfl | rfl | rfl | rfl | rfl | rfl | rfl | rfl | rfl
  · exact w_c0
  · exact w_c1
  · exact w_c2
  · exact w_c3
  · exact w_c4
  · exact w_c5
  · exact w_c6
  · exact w_c7
  · exact w_c8
  · exact w_c9
  · exact w_c10
  · exact w_c11
  · exact w_c12
  · exact w_c13
  · exact w_c14
  · exact w_c15
set_option maxRecDepth 65536 in
theorem w_t1 : (words1.take 24).all (fun c => isCode c || c.before args0 about1) = true := by decide +kernel
set_option maxRecDepth 65536 in
theorem w_t2 : ((words1.drop 24).take 24).all (fun c => isCode c || c.before args0 about1) = true := by decide +kernel
set_option maxRecDepth 65536 in
theorem w_t3 : (((words1.drop 24).drop 24).take 24).all (fun c => isCode c || c.before args0 about1) = true := by decide +kernel
set_option maxRecDepth 65536 in
theorem w_t4 : ((((words1.drop 24).drop 24).drop 24).take 24).all (fun c => isCode c || c.before args0 about1) = true := by decide +kernel
set_option maxRecDepth 65536 in
theorem w_t5 : ((((words1.drop 24).drop 24).drop 24).drop 24).all (fun c => isCode c || c.before args0 about1) = true := by decide +kernel
theorem w_tables : (allAtoms (Jvm.Cond.code x code maxLocals ret :: tables_1)).before args0 about1 = true := by
  rw [allAtoms_all]
  show words1.all (fun c => c.before args0 about1) = true
  refine all_split ?_ w_codes
  rw [← List.take_append_drop 24 words1, List.all_append, w_t1, ← List.take_append_drop 24 (words1.drop 24), List.all_append, w_t2, ← List.take_append_drop 24 ((words1.drop 24).drop 24), List.all_append, w_t3, ← List.take_append_drop 24 (((words1.drop 24).drop 24).drop 24), List.all_append, w_t4, w_t5]
  rfl
set_option maxRecDepth 65536 in
theorem w_rest : rest_1_c.before args0 about1 = true := by decide +kernel
set_option maxRecDepth 65536 in
theorem w_case : (Jvm.Cond.and given_1 narrow_1).before args0 about1 = true := by decide +kernel
theorem w_applies : (headSpec (Jvm.Cond.code x code maxLocals ret :: tables_1) room_1).applies x e0.platform about1 = true :=
  (Spec.applies_iff w_frames).mpr ⟨w_running, w_runnable, w_alone, w_named, w_hears, w_ripe, w_room, w_tables⟩
theorem atStart : AtStart classFile x code maxLocals ret World_1 tables_1 room_1 Calls_1 rest_1 Pre_1 launch0 p0 e0 about1 theMethod args0 below0 :=
  ⟨lists_1, trivial, launch0.admits_env _ _ _, launch0.least_env, fairChoices_fair.cas, fairChoices_fair.clock, w_frames, w_args, w_heap, w_applies, trivial, w_rest, w_case⟩
end start1
theorem witness_1 : WitnessClaimed_1 := ⟨start1.p0, start1.e0, start1.about1, start1.theMethod, start1.args0, start1.below0, start1.atStart⟩
end Jvm.Pilot.@@N@@
