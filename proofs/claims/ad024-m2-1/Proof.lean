import JvmDerived
import JvmDerived.Pilot.@@N@@Statement
import JvmDerived.Pilot.@@N@@Code
set_option linter.unusedVariables false
set_option linter.unusedSimpArgs false

namespace Jvm.Pilot.@@N@@
open Jvm Jvm.ClassFile Sem Op Lib Jvm.Free Jvm.Stand Jvm.LawKit Jvm.RoadKit Bundle Jvm.Pilot.@@N@@.Jvm.D
section OwnKit
variable {p : Program} {l : Launch} {e : Env} {R : Room} {s : State} {m : MethodId} {args : Array Value} {below : List Frame} {meth : Method} {c : Code} {T : State} {locs : List Loc} {cells slots : Nat} {Z : State} {a0 : Array Value} {h : Heap}
/-- the run goes on from T with the frame f on top to an end that K says -/
def own_G (p : Program) (e : Env) (below : List Frame) (K : Outcome → State → Prop) (T : State) (f : JFrame) : Prop := ∃ s₂ o, Steps p.tables e below (T.setTop f) s₂ ∧ s₂.status = .running ∧ Ended s₂ below o ∧ K o s₂
theorem own_go {K : Outcome → State → Prop} {T' : State} {f f' : JFrame} (st : ∀ t, Steps p.tables e below (T'.setTop f') t → Steps p.tables e below (T.setTop f) t) (h : own_G p e below K T' f') : own_G p e below K T f := by
  obtain ⟨s₂, o, h1, h2⟩ := h
  exact ⟨s₂, o, st _ h1, h2⟩
theorem own_cast {K : Outcome → State → Prop} {f f' : JFrame} (q : f = f') (h : own_G p e below K T f') : own_G p e below K T f := q ▸ h
def own_K (Q : Option Value → Heap → List Loc → Prop) (s : State) (C S : Nat) : Outcome → State → Prop := fun o U => ∃ v L, o = .returned v ∧ Q v U.heap L ∧ FrameEnd s o U L C S
def own_Met (l : Launch) (Z : State) (y : MethodName) (bytes : ByteArray) (maxL : Nat) (ret : Option FieldType) (ws : List Jvm.Cond) (rm : Room) (as' : Array Value) (h0 : Heap) (Q : Option Value → Heap → List Loc → Prop) : Prop :=
  MetFree l y (head1 (Jvm.Cond.code y bytes maxL ret :: ws) rm) (fun a U => a = as' ∧ Z.Warmed39 U.vm ∧ U.heap = h0) (fun _ _ _ _ _ => True) (fun _ U o U' => own_K Q U rm.cells rm.slots o U')
theorem own_met {y : MethodName} {bytes : ByteArray} {maxL : Nat} {ret : Option FieldType} {ws : List Jvm.Cond} {rm : Room} {as' : Array Value} {h0 : Heap} {Q : Option Value → Heap → List Loc → Prop} (hpl : plainFor y = true)
    (body : ∀ (p : Program) (e : Env) (s : State) (m : MethodId) (below : List Frame) (meth : Method) (c : Code) (s₁ : State), p.tables.exec = Jvm.exec → c.code = bytes → c.maxLocals = maxL → s.vm.findClass y.cls = some m.cls → meth.name = y.name → meth.sig.returnType = ret → meth.locks = false →
      Z.Warmed39 s.vm → Stand p l e rm s m as' below meth c s₁ [] 0 0 → s₁.heap = h0 → own_G p e below (own_K Q s rm.cells rm.slots) s₁ (entryFrame m as' maxL)) :
    own_Met l Z y bytes maxL ret ws rm as' h0 Q := by
  refine MetFree.of_bodySF hpl hisR ?_
  intro p e s m args below meth c s₁ Bd hml hP hK
  obtain ⟨rfl, hZ, hh⟩ := hP
  have e0 : s₁.heap = h0 := by rw [← hh, Bd.state]; rfl
  have q := body p e s m below meth c s₁ Bd.exec Bd.bytes hml (findClass_of_methodNamed Bd.named) (name_of_methodNamed Bd.named Bd.method).1 Bd.returns (BodyLoose.notSynchronized Bd) hZ (Stand.of_body Bd) e0
  obtain ⟨s₂, o, h1, h2, h3, h4⟩ := q
  exact ⟨s₂, o, h1, h2, h3, h4⟩
theorem own_end (X : Stand p l e R s m args below meth c T locs cells slots) (hlk : meth.locks = false) {v : Option Value} {f : JFrame} {Q : Option Value → Heap → List Loc → Prop} {C S : Nat} (hv : meth.sig.returnType = none → v = none) (hc : cells ≤ C) (hs : slots ≤ S)
    (st : ∀ fs, (∀ (f : JFrame) (acts : List Action), f.method = m → f.locked = none → f.entered = [] → (doReturn e (T.setTop f) acts v).1 = T.setFrames fs) → Steps p.tables e below (T.setTop f) (T.setFrames fs)) (hq : Q v T.heap locs) : own_G p e below (own_K Q s C S) T f := by
  obtain ⟨fs, hr, hrun, hended, hW, hsame⟩ := X.leave (v := v) hv
  exact ⟨_, _, st fs hr, hrun, hended, v, locs, rfl, hq, ⟨_, rfl⟩, hW, hsame.mono hc hs⟩
theorem own_retZ (X : Stand p l e R s m args below meth c T locs cells slots) (hx : p.tables.exec = Jvm.exec) (hlk : meth.locks = false) {t : FieldType} (hret : meth.sig.returnType = some t) (ht : t = .boolean ∨ t = .byte ∨ t = .char ∨ t = .short) {pc : Nat} {Ls : Array Slot} {z : Int32} {rest : List Value} {Q : Option Value → Heap → List Loc → Prop} {C S : Nat}
    (eT : T.heap = h) {w : Int32} (hz : nar t z = w) (hd : decode c.code pc = .ok (.ireturn, 1)) (hc : cells ≤ C) (hs : slots ≤ S) (hq : Q (some (.int w)) h locs) : own_G p e below (own_K Q s C S) T (mkF m pc Ls (.int z :: rest)) := by
  subst eT hz
  exact own_end X hlk (fun q => by rw [hret] at q; cases q) hc hs (fun fs hr => retN X hx hret ht hd hr) hq
theorem own_retI (X : Stand p l e R s m args below meth c T locs cells slots) (hx : p.tables.exec = Jvm.exec) (hlk : meth.locks = false) (hret : meth.sig.returnType = some .int) {pc : Nat} {Ls : Array Slot} {z : Int32} {rest : List Value} {Q : Option Value → Heap → List Loc → Prop} {C S : Nat}
    (eT : T.heap = h) (hd : decode c.code pc = .ok (.ireturn, 1)) (hc : cells ≤ C) (hs : slots ≤ S) (hq : Q (some (.int z)) h locs) : own_G p e below (own_K Q s C S) T (mkF m pc Ls (.int z :: rest)) := by
  subst eT
  exact own_end X hlk (fun q => by rw [hret] at q; cases q) hc hs (fun fs hr => retOut X hx hret rfl (Or.inl ⟨rfl, Or.inl rfl, z, rfl⟩) hd hr) hq
theorem own_retA (X : Stand p l e R s m args below meth c T locs cells slots) (hx : p.tables.exec = Jvm.exec) (hlk : meth.locks = false) {t : FieldType} (hret : meth.sig.returnType = some t) (ht : t.isReference = true) {pc : Nat} {Ls : Array Slot} {w : Value} (hw : w.isRef = true) (hn : narrow t w = w) {rest : List Value} {Q : Option Value → Heap → List Loc → Prop} {C S : Nat}
    (eT : T.heap = h) (hd : decode c.code pc = .ok (.areturn, 1)) (hc : cells ≤ C) (hs : slots ≤ S) (hq : Q (some w) h locs) : own_G p e below (own_K Q s C S) T (mkF m pc Ls (w :: rest)) := by
  subst eT
  exact own_end X hlk (fun q => by rw [hret] at q; cases q) hc hs (fun fs hr => retOut X hx hret hn (Or.inr (Or.inr (Or.inr (Or.inr ⟨rfl, ht, hw⟩)))) hd hr) hq
theorem own_retV (X : Stand p l e R s m args below meth c T locs cells slots) (hx : p.tables.exec = Jvm.exec) (hlk : meth.locks = false) (hret : meth.sig.returnType = none) {pc : Nat} {Ls : Array Slot} {Q : Option Value → Heap → List Loc → Prop} {C S : Nat}
    (eT : T.heap = h) (hd : decode c.code pc = .ok (.return_, 1)) (hc : cells ≤ C) (hs : slots ≤ S) (hq : Q none h locs) : own_G p e below (own_K Q s C S) T (mkF m pc Ls []) := by
  subst eT
  exact own_end X hlk (fun _ => rfl) hc hs (fun fs hr => X.returnOut hx hret hd hr) hq
/-- a static call by the callee's contract -/
theorem own_callS {own : String} {index maxL : Nat} {y : MethodName} {bytes : ByteArray} {ret : Option FieldType} {rm : Room} {Q : Option Value → Heap → List Loc → Prop} {argsL rest stk : List Value} {pc : Nat} {Ls : Array Slot}
    (X : Stand p l e R s m args below meth c T locs cells slots) (hx : p.tables.exec = Jvm.exec) (hZ : Z.Warmed39 s.vm) (hown : s.vm.findClass own = some m.cls) (hM : own_Met l Z y bytes maxL ret [] rm argsL.toArray h Q)
    (w1 : (Jvm.Cond.methodLink own index y).before a0 Z = true) (w2 : (Jvm.Cond.static y).before a0 Z = true) (w3 : (Jvm.Cond.initialized y.cls).before a0 Z = true) (w4 : (Jvm.Cond.code y bytes maxL ret).before a0 Z = true) (hy : y.cls ≠ "java/lang/invoke/MethodHandle" ∧ y.cls ≠ "java/lang/invoke/VarHandle")
    (eT : T.heap = h) (hsz : Ls.size = c.maxLocals) (hlen : ∀ sig, parseMethodDescriptor y.desc = some sig → argsL.length = sig.parameters.length) (hstk : stk = argsL.reverse ++ rest) (hd : decode c.code pc = .ok (.invokestatic index, 3))
    (hf : rm.frames + 1 ≤ R.frames) (hl : (rest.map fun v => v.category).sum + (maxL + 11) + rm.locals ≤ R.locals) (hc : cells + rm.cells ≤ R.cells) (hs : slots + rm.slots ≤ R.slots) :
    ∃ (v : Option Value) (T' : State) (L : List Loc), Stand p l e R s m args below meth c T' (locs ++ L) (cells + rm.cells) (slots + rm.slots) ∧ Q v T'.heap L ∧ ∀ t, Steps p.tables e below (T'.setTop (mkF m (pc + 3) Ls (v.toList ++ rest))) t → Steps p.tables e below (T.setTop (mkF m pc Ls stk)) t := by
  obtain ⟨v, _, ⟨T', L', k', n'⟩, -, X', ⟨L, hQ, l1, y1, z1⟩, st⟩ := Jvm.LawKit.callS X hx (y := y) hown (mvT hZ w1) (mvT hZ w2) (mvT hZ w3) (mvT hZ w4) hy (backOf (Q := Q) hM hZ w4 w3 hf hl) (g := mkF m pc Ls stk) rfl hsz (argsL := argsL) (rest := rest) hlen hstk (by show 2 * 0 + _ ≤ _; exact Nat.le_of_eq (Nat.zero_add _)) hd (fun _ _ => ⟨rfl, eT, hc, hs⟩)
  dsimp only [Pt.U, Pt.locs, Pt.cells, Pt.slots] at X' l1 y1 z1 st hQ
  subst l1 y1 z1
  exact ⟨v, T', L, X', hQ, st⟩
/-- a constructor's call by its contract -/
theorem own_callI {own : String} {index maxL : Nat} {y : MethodName} {bytes : ByteArray} {rm : Room} {Q : Option Value → Heap → List Loc → Prop} {argsL rest stk : List Value} {pc : Nat} {Ls : Array Slot} {a : Addr} (hy1 : y.name = "<init>")
    (X : Stand p l e R s m args below meth c T locs cells slots) (hx : p.tables.exec = Jvm.exec) (hZ : Z.Warmed39 s.vm) (hown : s.vm.findClass own = some m.cls) (hM : own_Met l Z y bytes maxL none [] rm (.ref a :: argsL).toArray h Q)
    (w1 : (Jvm.Cond.methodLink own index y).before a0 Z = true) (w2 : (Jvm.Cond.instanceMethod y).before a0 Z = true) (w3 : (Jvm.Cond.initialized y.cls).before a0 Z = true) (w4 : (Jvm.Cond.code y bytes maxL none).before a0 Z = true) (hy : y.cls ≠ "java/lang/invoke/MethodHandle" ∧ y.cls ≠ "java/lang/invoke/VarHandle")
    (eT : T.heap = h) (hsz : Ls.size = c.maxLocals) (hlen : ∀ sig, parseMethodDescriptor y.desc = some sig → argsL.length = sig.parameters.length) (hstk : stk = argsL.reverse ++ .ref a :: rest) (hd : decode c.code pc = .ok (.invokespecial index, 3))
    (hf : rm.frames + 1 ≤ R.frames) (hl : (rest.map fun v => v.category).sum + (maxL + 11) + rm.locals ≤ R.locals) (hc : cells + rm.cells ≤ R.cells) (hs : slots + rm.slots ≤ R.slots) :
    ∃ (v : Option Value) (T' : State) (L : List Loc), Stand p l e R s m args below meth c T' (locs ++ L) (cells + rm.cells) (slots + rm.slots) ∧ Q v T'.heap L ∧ ∀ t, Steps p.tables e below (T'.setTop (mkF m (pc + 3) Ls (v.toList ++ rest))) t → Steps p.tables e below (T.setTop (mkF m pc Ls stk)) t := by
  obtain ⟨v, _, ⟨T', L', k', n'⟩, -, X', ⟨L, hQ, l1, y1, z1⟩, st⟩ := X.specialBack hx (y := y) hy1 hown (mvT hZ w1) (mvT hZ w2) (mvT hZ w4) hy (backOf (Q := Q) hM hZ w4 w3 hf hl) (g := mkF m pc Ls stk) rfl hsz (Steps.refl _) (a := a) (argsL := argsL) (rest := rest) hlen hstk (by show 2 * 0 + _ ≤ _; exact Nat.le_of_eq (Nat.zero_add _)) hd (fun _ _ => ⟨rfl, eT, hc, hs⟩)
  dsimp only [Pt.U, Pt.locs, Pt.cells, Pt.slots] at X' l1 y1 z1 st hQ
  subst l1 y1 z1
  exact ⟨v, T', L, X', hQ, fun t k => st.trans k⟩
/-- an instance method's call by the contract of the body that the receiver's class selects -/
theorem own_callV {own C : String} {index maxL : Nat} {y z : MethodName} {bytes : ByteArray} {ret : Option FieldType} {rm : Room} {Q : Option Value → Heap → List Loc → Prop} {argsL rest stk : List Value} {pc : Nat} {Ls : Array Slot} {a : Addr}
    (X : Stand p l e R s m args below meth c T locs cells slots) (hx : p.tables.exec = Jvm.exec) (hZ : Z.Warmed39 s.vm) (hown : s.vm.findClass own = some m.cls) (hM : own_Met l Z z bytes maxL ret [] rm (.ref a :: argsL).toArray h Q)
    (w1 : (Jvm.Cond.methodLink own index y).before a0 Z = true) (w2 : (Jvm.Cond.declares y).before a0 Z = true) (nf : NotFace s y) (w5 : (Jvm.Cond.selects C y z).before a0 Z = true) (w6 : (Jvm.Cond.instanceMethod z).before a0 Z = true) (w3 : (Jvm.Cond.initialized z.cls).before a0 Z = true) (w4 : (Jvm.Cond.code z bytes maxL ret).before a0 Z = true) (hy : y.cls ≠ "java/lang/invoke/MethodHandle" ∧ y.cls ≠ "java/lang/invoke/VarHandle")
    (eT : T.heap = h) (E : Exa Z h a C) (hsz : Ls.size = c.maxLocals) (hlen : ∀ sig, parseMethodDescriptor y.desc = some sig → argsL.length = sig.parameters.length) (hstk : stk = argsL.reverse ++ .ref a :: rest) (hd : decode c.code pc = .ok (.invokevirtual index, 3))
    (hf : rm.frames + 1 ≤ R.frames) (hl : (rest.map fun v => v.category).sum + (maxL + 11) + rm.locals ≤ R.locals) (hc : cells + rm.cells ≤ R.cells) (hs : slots + rm.slots ≤ R.slots) :
    ∃ (v : Option Value) (T' : State) (L : List Loc), Stand p l e R s m args below meth c T' (locs ++ L) (cells + rm.cells) (slots + rm.slots) ∧ Q v T'.heap L ∧ ∀ t, Steps p.tables e below (T'.setTop (mkF m (pc + 3) Ls (v.toList ++ rest))) t → Steps p.tables e below (T.setTop (mkF m pc Ls stk)) t := by
  obtain ⟨cB, kB, q1, q2, q3⟩ := isOf hZ eT E
  obtain ⟨v, _, ⟨T', L', k', n'⟩, -, X', ⟨L, hQ, l1, y1, z1⟩, st⟩ := X.virtualBack hx (y := y) (z := z) hown (mvT hZ w1) (mvT hZ w2) nf (mvT hZ w5) (mvT hZ w6) hy (backOf (Q := Q) hM hZ w4 w3 hf hl) q1 q3 (g := mkF m pc Ls stk) rfl hsz (Steps.refl _) (argsL := argsL) (rest := rest) hlen hstk (by show 2 * 0 + _ ≤ _; exact Nat.le_of_eq (Nat.zero_add _)) hd (fun _ _ => ⟨rfl, eT, hc, hs⟩)
  dsimp only [Pt.U, Pt.locs, Pt.cells, Pt.slots] at X' l1 y1 z1 st hQ
  subst l1 y1 z1
  exact ⟨v, T', L, X', hQ, fun t k => st.trans k⟩
/-- a private method's call (invokevirtual) by its contract -/
theorem own_callP {own : String} {index maxL : Nat} {y : MethodName} {bytes : ByteArray} {ret : Option FieldType} {rm : Room} {Q : Option Value → Heap → List Loc → Prop} {argsL rest stk : List Value} {pc : Nat} {Ls : Array Slot} {a : Addr} {C : String}
    (X : Stand p l e R s m args below meth c T locs cells slots) (hx : p.tables.exec = Jvm.exec) (hZ : Z.Warmed39 s.vm) (hown : s.vm.findClass own = some m.cls) (hM : own_Met l Z y bytes maxL ret [] rm (.ref a :: argsL).toArray h Q)
    (w1 : (Jvm.Cond.methodLink own index y).before a0 Z = true) (w2 : (Jvm.Cond.instanceMethod y).before a0 Z = true) {u z : MethodName} {C' : String} (hz : z.cls = y.cls) (w5 : (Jvm.Cond.selects C' u z).before a0 Z = true) (w6 : (Jvm.Cond.privateMethod y).before a0 Z = true) (w3 : (Jvm.Cond.initialized y.cls).before a0 Z = true) (w4 : (Jvm.Cond.code y bytes maxL ret).before a0 Z = true) (hy : y.cls ≠ "java/lang/invoke/MethodHandle" ∧ y.cls ≠ "java/lang/invoke/VarHandle")
    (eT : T.heap = h) (E : Exa Z h a C) (hsz : Ls.size = c.maxLocals) (hlen : ∀ sig, parseMethodDescriptor y.desc = some sig → argsL.length = sig.parameters.length) (hstk : stk = argsL.reverse ++ .ref a :: rest) (hd : decode c.code pc = .ok (.invokevirtual index, 3))
    (hf : rm.frames + 1 ≤ R.frames) (hl : (rest.map fun v => v.category).sum + (maxL + 11) + rm.locals ≤ R.locals) (hc : cells + rm.cells ≤ R.cells) (hs : slots + rm.slots ≤ R.slots) :
    ∃ (v : Option Value) (T' : State) (L : List Loc), Stand p l e R s m args below meth c T' (locs ++ L) (cells + rm.cells) (slots + rm.slots) ∧ Q v T'.heap L ∧ ∀ t, Steps p.tables e below (T'.setTop (mkF m (pc + 3) Ls (v.toList ++ rest))) t → Steps p.tables e below (T.setTop (mkF m pc Ls stk)) t := by
  obtain ⟨cq, q1, q2⟩ := E.cell
  obtain ⟨-, -, mz, -, -, f1, -, kz, f2, f3⟩ := Cond.selects_spec (mvT (args := args) hZ w5)
  have f4 : s.vm.findClass y.cls = some mz.cls := hz ▸ findClass_of_methodNamed f1
  have hpr : s.PrivateAt y := Cond.privateMethod_at (mvP hZ w6 (args := #[]))
  have hsel : (Jvm.Cond.selects y.cls y y).before args s = true := selects_self_of_private f4 f2 f3 hpr (mvT hZ w2) hy
  obtain ⟨v, _, ⟨T', L', k', n'⟩, -, X', ⟨L, hQ, l1, y1, z1⟩, st⟩ := X.privateBack hx (y := y) hown (mvT hZ w1) (mvT hZ w2) hsel hpr (mvT hZ w4) hy (backOf (Q := Q) hM hZ w4 w3 hf hl) (g := mkF m pc Ls stk) rfl hsz (Steps.refl _) (a := a) (cell := cq) (by rw [eT]; exact q1) q2 (argsL := argsL) (rest := rest) hlen hstk (by show 2 * 0 + _ ≤ _; exact Nat.le_of_eq (Nat.zero_add _)) hd (fun _ _ => ⟨rfl, eT, hc, hs⟩)
  dsimp only [Pt.U, Pt.locs, Pt.cells, Pt.slots] at X' l1 y1 z1 st hQ
  subst l1 y1 z1
  exact ⟨v, T', L, X', hQ, fun t k => st.trans k⟩
/-! arrays by Arv -/
theorem own_alen {a : Addr} {k : ClassId} {ty : FieldType} {n : Int32} {vs : List Value} {dv : Value} (X : Stand p l e R s m args below meth c T locs cells slots) (hx : p.tables.exec = Jvm.exec) (hZ : Z.Warmed39 s.vm) (eT : T.heap = h) (V : Arv Z h a k ty n vs dv) {pc : Nat} {Ls : Array Slot} {rest : List Value} (hd : decode c.code pc = .ok (.arraylength, 1)) :
    ∀ t, Steps p.tables e below (T.setTop (mkF m (pc + 1) Ls (.int n :: rest))) t → Steps p.tables e below (T.setTop (mkF m pc Ls (.ref a :: rest))) t := fun t kt => by
  obtain ⟨cl, A, -, S, q, -, -⟩ := V
  refine X.arraylength hx (by rw [eT]; exact A.1) (State.isArrayOf_alike hZ.alike A.2.1) (g := mkF m pc Ls (.ref a :: rest)) rfl rfl hd _ ?_
  rw [len_of S q]
  exact kt
theorem own_open {a : Addr} {k : ClassId} {ty : FieldType} {n j : Int32} {vs : List Value} {dv v : Value} (V : Arv Z h a k ty n vs dv) (hj : ¬ j < 0 ∧ j < n) (hv : vs.getD j.toNatClampNeg dv = v) : ∃ cl : Cell, Arr Z h a cl ty ∧ ¬ (j < 0 ∨ cl.slots.size ≤ j.toNatClampNeg) ∧ cl.slots[j.toNatClampNeg]? = some v ∧ fits ty v = true := by
  obtain ⟨cl, A, -, S, q, H, G⟩ := V
  have hi := inb_of S hj
  have hlt : j.toNatClampNeg < cl.slots.size := Nat.lt_of_not_le fun x => hi (Or.inr x)
  exact ⟨cl, A, hi, by rw [H _ hlt, hv], by rw [← hv]; exact G _ hlt⟩
theorem own_baload {a : Addr} {k : ClassId} {n j : Int32} {vs : List Value} {dv v : Value} (X : Stand p l e R s m args below meth c T locs cells slots) (hx : p.tables.exec = Jvm.exec) (hZ : Z.Warmed39 s.vm) (eT : T.heap = h) (V : Arv Z h a k .byte n vs dv) (hj : ¬ j < 0 ∧ j < n) (hv : vs.getD j.toNatClampNeg dv = v) {pc : Nat} {Ls : Array Slot} {rest : List Value} (hd : decode c.code pc = .ok (.baload, 1)) :
    ∀ t, Steps p.tables e below (T.setTop (mkF m (pc + 1) Ls (v :: rest))) t → Steps p.tables e below (T.setTop (mkF m pc Ls (.int j :: .ref a :: rest))) t := fun t kt => by
  obtain ⟨cl, A, hi, hat, -⟩ := own_open V hj hv
  exact X.baloadBytes hx (by rw [eT]; exact A.1) (State.isArrayOf_alike hZ.alike A.2.1) A.2.2 hi hat (g := mkF m pc Ls (.int j :: .ref a :: rest)) rfl rfl hd _ kt
theorem own_bastore {a : Addr} {k : ClassId} {n j x : Int32} {vs : List Value} {dv : Value} (X : Stand p l e R s m args below meth c T locs cells slots) (hx : p.tables.exec = Jvm.exec) (hZ : Z.Warmed39 s.vm) (eT : T.heap = h) (V : Arv Z h a k .byte n vs dv) (hj : ¬ j < 0 ∧ j < n) (i : Nat) (hi : j.toNatClampNeg = i) (hl : i < vs.length) {pc : Nat} {Ls : Array Slot} {rest : List Value} (hd : decode c.code pc = .ok (.bastore, 1)) :
    ∃ T' h', Stand p l e R s m args below meth c T' (locs ++ [⟨a, j.toNatClampNeg⟩]) cells slots ∧ T'.heap = h' ∧ Wr h h' a j.toNatClampNeg (.int x.toInt8.toInt32) ∧ Arv Z h' a k .byte n (vs.set i (.int x.toInt8.toInt32)) dv ∧ ∀ t, Steps p.tables e below (T'.setTop (mkF m (pc + 1) Ls rest)) t → Steps p.tables e below (T.setTop (mkF m pc Ls (.int x :: .int j :: .ref a :: rest))) t := by
  obtain ⟨cl, A, q1, S, q, H, G⟩ := V
  obtain ⟨T', h', X', e', W, st⟩ := stB X hx hZ eT A (j := j) (x := x) (inb_of S hj) (g := mkF m pc Ls (.int x :: .int j :: .ref a :: rest)) rfl rfl hd
  exact ⟨T', h', X', e', W, Arv.set A q1 S q H G (fits_nar_byte _) W i hi hl, st⟩
/-- newarray of a primitive kind; the class found by its name is said too -/
theorem own_newP (X : Stand p l e R s m args below meth c T locs cells slots) (hx : p.tables.exec = Jvm.exec) (hZ : Z.Warmed39 s.vm) {aty : ArrayType} {nm : String} (hnm : "[" ++ (newarray.typeOf aty).toString = nm) (w : (Jvm.Cond.arrayClass (newarray.typeOf aty)).before a0 Z = true) (eT : T.heap = h) {pc : Nat} {Ls : Array Slot} (hd : decode c.code pc = .ok (.newarray aty, 2)) {n : Int32} {rest : List Value}
    (hn : ¬ n < 0) {cap : Nat} (hcap : n.toNatClampNeg ≤ cap) (hb : cap * 8 ≤ 536870912) (hc : cells + 1 ≤ R.cells) (hl : slots + cap ≤ R.slots) :
    ∃ T' h' cA, Stand p l e R s m args below meth c T' locs (cells + 1) (slots + cap) ∧ T'.heap = h' ∧ Ext h h' ∧ Arr Z h' h.size (newA cA (newarray.typeOf aty) n) (newarray.typeOf aty) ∧ Exa Z h' h.size nm ∧
      ∀ t, Steps p.tables e below (T'.setTop (mkF m (pc + 2) Ls (.ref h.size :: rest))) t → Steps p.tables e below (T.setTop (mkF m pc Ls (.int n :: rest))) t := by
  have hcb : componentBytes (newarray.typeOf aty) ≤ 8 := by cases aty <;> decide
  obtain ⟨cA, kA, comp, f1, f2, f3, X', st⟩ := X.newarrayPrim hx (mvA hZ w) (g := mkF m pc Ls (.int n :: rest)) rfl hd rfl hn (Nat.le_trans (Nat.mul_le_mul hcap hcb) hb) hc (by omega)
  subst eT hnm
  have fZ : Z.vm.findClass ("[" ++ (newarray.typeOf aty).toString) = some cA := by rw [← hZ.alike.findClass]; exact f1
  obtain ⟨kZ, z1, -⟩ := Vm.findClass_spec fZ
  obtain ⟨k', z2, z3⟩ := hZ.alike.2.2 _ _ z1
  cases f2.symm.trans z2
  have kk : kZ.kind = .array comp (newarray.typeOf aty) := by rw [← f3, z3]
  have at' : (T.heap.push (newA cA (newarray.typeOf aty) n))[T.heap.size]? = some (newA cA (newarray.typeOf aty) n) := by simp
  refine ⟨_, T.heap.push (newA cA (newarray.typeOf aty) n), cA, X'.more (Nat.le_refl _) (by omega), rfl, ⟨by simp, fun a cc q => ?_⟩, ⟨at', ⟨by simp [newA], kZ, z1, comp, kk⟩, by simp [newA]⟩, ⟨_, kZ, at', fZ, z1, rfl, fun q => ?_⟩, st⟩
  · rw [Array.getElem?_push_lt (Array.getElem?_eq_some_iff.mp q).1]; exact (Array.getElem?_eq_getElem _).symm.trans q
  · rw [kk] at q; cases q
end OwnKit
section OwnSteps
variable {p : Program} {l : Launch} {e : Env} {R : Room} {s : State} {m : MethodId} {args : Array Value} {below : List Frame} {meth : Method} {c : Code} {T : State} {locs : List Loc} {cells slots : Nat} {Z : State} {a0 : Array Value} {h0 : Heap}
theorem own_iloadN {K : Outcome → State → Prop} {pc n : Nat} {Ls : Array Slot} {S : List Value} (X : Stand p l e R s m args below meth c T locs cells slots) (hx : p.tables.exec = Jvm.exec) {k : Fin 4} {v : Int32} (hd : decode c.code pc = .ok (.iload_n k, 1)) (hl : Ls[k.val]? = some (.val (.int v))) (hn : pc + 1 = n)
    (h : own_G p e below K T (mkF m n Ls (.int v :: S))) : own_G p e below K T (mkF m pc Ls S) := by
  subst hn
  exact own_go (fun t k => XS.iloadN X.here hx rfl hd hl k) h
theorem own_iload {K : Outcome → State → Prop} {pc n : Nat} {Ls : Array Slot} {S : List Value} (X : Stand p l e R s m args below meth c T locs cells slots) (hx : p.tables.exec = Jvm.exec) {k : Nat} {v : Int32} (hd : decode c.code pc = .ok (.iload k, 2)) (hl : Ls[k]? = some (.val (.int v))) (hn : pc + 2 = n)
    (h : own_G p e below K T (mkF m n Ls (.int v :: S))) : own_G p e below K T (mkF m pc Ls S) := by
  subst hn
  exact own_go (fun t k => XS.iload X.here hx rfl hd hl k) h
theorem own_lloadN {K : Outcome → State → Prop} {pc n : Nat} {Ls : Array Slot} {S : List Value} (X : Stand p l e R s m args below meth c T locs cells slots) (hx : p.tables.exec = Jvm.exec) {k : Fin 4} {v : Int64} (hd : decode c.code pc = .ok (.lload_n k, 1)) (hl : Ls[k.val]? = some (.val (.long v))) (hn : pc + 1 = n)
    (h : own_G p e below K T (mkF m n Ls (.long v :: S))) : own_G p e below K T (mkF m pc Ls S) := by
  subst hn
  exact own_go (fun t k => XS.lloadN X.here hx rfl hd hl k) h
theorem own_aloadN {K : Outcome → State → Prop} {pc n : Nat} {Ls : Array Slot} {S : List Value} (X : Stand p l e R s m args below meth c T locs cells slots) (hx : p.tables.exec = Jvm.exec) {k : Fin 4} {v : Value} (hd : decode c.code pc = .ok (.aload_n k, 1)) (hl : Ls[k.val]? = some (.val v)) (hv : v.isRef = true) (hn : pc + 1 = n)
    (h : own_G p e below K T (mkF m n Ls (v :: S))) : own_G p e below K T (mkF m pc Ls S) := by
  subst hn
  exact own_go (fun t k => XS.aloadN X.here hx rfl hd hl hv k) h
theorem own_aload {K : Outcome → State → Prop} {pc n : Nat} {Ls : Array Slot} {S : List Value} (X : Stand p l e R s m args below meth c T locs cells slots) (hx : p.tables.exec = Jvm.exec) {k : Nat} {v : Value} (hd : decode c.code pc = .ok (.aload k, 2)) (hl : Ls[k]? = some (.val v)) (hv : v.isRef = true) (hn : pc + 2 = n)
    (h : own_G p e below K T (mkF m n Ls (v :: S))) : own_G p e below K T (mkF m pc Ls S) := by
  subst hn
  exact own_go (fun t k => XS.aload X.here hx rfl hd hl hv k) h
theorem own_istore {K : Outcome → State → Prop} {pc n : Nat} {Ls : Array Slot} {S : List Value} (X : Stand p l e R s m args below meth c T locs cells slots) (hx : p.tables.exec = Jvm.exec) {k : Nat} {v : Int32} {l' : Array Slot} (hd : decode c.code pc = .ok (.istore k, 2)) (hl : storeLocals Ls k (.int v) = some l') (hn : pc + 2 = n)
    (h : own_G p e below K T (mkF m n l' S)) : own_G p e below K T (mkF m pc Ls (.int v :: S)) := by
  subst hn
  exact own_go (fun t k => XS.istore X.here hx rfl hd rfl hl k) h
theorem own_astoreN {K : Outcome → State → Prop} {pc n : Nat} {Ls : Array Slot} {S : List Value} (X : Stand p l e R s m args below meth c T locs cells slots) (hx : p.tables.exec = Jvm.exec) {k : Fin 4} {v : Value} {l' : Array Slot} (hd : decode c.code pc = .ok (.astore_n k, 1)) (hv : v.isRef = true) (hl : storeLocals Ls k.val v = some l') (hn : pc + 1 = n)
    (h : own_G p e below K T (mkF m n l' S)) : own_G p e below K T (mkF m pc Ls (v :: S)) := by
  subst hn
  exact own_go (fun t k => XS.astoreN X.here hx rfl hd rfl hv hl k) h
theorem own_astore {K : Outcome → State → Prop} {pc n : Nat} {Ls : Array Slot} {S : List Value} (X : Stand p l e R s m args below meth c T locs cells slots) (hx : p.tables.exec = Jvm.exec) {k : Nat} {v : Value} {l' : Array Slot} (hd : decode c.code pc = .ok (.astore k, 2)) (hv : v.isRef = true) (hl : storeLocals Ls k v = some l') (hn : pc + 2 = n)
    (h : own_G p e below K T (mkF m n l' S)) : own_G p e below K T (mkF m pc Ls (v :: S)) := by
  subst hn
  exact own_go (fun t k => XS.astore X.here hx rfl hd rfl hv hl k) h
theorem own_iconst {K : Outcome → State → Prop} {pc n : Nat} {Ls : Array Slot} {S : List Value} (X : Stand p l e R s m args below meth c T locs cells slots) (hx : p.tables.exec = Jvm.exec) {i : Int} {z : Int32} (hd : decode c.code pc = .ok (.iconst i, 1)) (hz : Int32.ofInt i = z) (hn : pc + 1 = n)
    (h : own_G p e below K T (mkF m n Ls (.int z :: S))) : own_G p e below K T (mkF m pc Ls S) := by
  subst hz hn
  exact own_go (fun t k => XS.iconst X.here hx rfl hd k) h
theorem own_bipush {K : Outcome → State → Prop} {pc n : Nat} {Ls : Array Slot} {S : List Value} (X : Stand p l e R s m args below meth c T locs cells slots) (hx : p.tables.exec = Jvm.exec) {i : Int} {z : Int32} (hd : decode c.code pc = .ok (.bipush i, 2)) (hz : (Int8.ofInt i).toInt32 = z) (hn : pc + 2 = n)
    (h : own_G p e below K T (mkF m n Ls (.int z :: S))) : own_G p e below K T (mkF m pc Ls S) := by
  subst hz hn
  exact own_go (fun t k => XS.bipush X.here hx rfl hd k) h
theorem own_iadd {K : Outcome → State → Prop} {pc n : Nat} {Ls : Array Slot} {S : List Value} (X : Stand p l e R s m args below meth c T locs cells slots) (hx : p.tables.exec = Jvm.exec) {x y z : Int32} (hd : decode c.code pc = .ok (.iadd, 1)) (hz : x + y = z) (hn : pc + 1 = n)
    (h : own_G p e below K T (mkF m n Ls (.int z :: S))) : own_G p e below K T (mkF m pc Ls (.int y :: .int x :: S)) := by
  subst hz hn
  exact own_go (fun t k => XS.iadd X.here hx rfl hd rfl k) h
theorem own_isub {K : Outcome → State → Prop} {pc n : Nat} {Ls : Array Slot} {S : List Value} (X : Stand p l e R s m args below meth c T locs cells slots) (hx : p.tables.exec = Jvm.exec) {x y z : Int32} (hd : decode c.code pc = .ok (.isub, 1)) (hz : x - y = z) (hn : pc + 1 = n)
    (h : own_G p e below K T (mkF m n Ls (.int z :: S))) : own_G p e below K T (mkF m pc Ls (.int y :: .int x :: S)) := by
  subst hz hn
  exact own_go (fun t k => XS.isub X.here hx rfl hd rfl k) h
theorem own_imul {K : Outcome → State → Prop} {pc n : Nat} {Ls : Array Slot} {S : List Value} (X : Stand p l e R s m args below meth c T locs cells slots) (hx : p.tables.exec = Jvm.exec) {x y z : Int32} (hd : decode c.code pc = .ok (.imul, 1)) (hz : x * y = z) (hn : pc + 1 = n)
    (h : own_G p e below K T (mkF m n Ls (.int z :: S))) : own_G p e below K T (mkF m pc Ls (.int y :: .int x :: S)) := by
  subst hz hn
  exact own_go (fun t k => XS.imul X.here hx rfl hd rfl k) h
theorem own_iand {K : Outcome → State → Prop} {pc n : Nat} {Ls : Array Slot} {S : List Value} (X : Stand p l e R s m args below meth c T locs cells slots) (hx : p.tables.exec = Jvm.exec) {x y z : Int32} (hd : decode c.code pc = .ok (.iand, 1)) (hz : x &&& y = z) (hn : pc + 1 = n)
    (h : own_G p e below K T (mkF m n Ls (.int z :: S))) : own_G p e below K T (mkF m pc Ls (.int y :: .int x :: S)) := by
  subst hz hn
  exact own_go (fun t k => XS.iand X.here hx rfl hd rfl k) h
theorem own_ixor {K : Outcome → State → Prop} {pc n : Nat} {Ls : Array Slot} {S : List Value} (X : Stand p l e R s m args below meth c T locs cells slots) (hx : p.tables.exec = Jvm.exec) {x y z : Int32} (hd : decode c.code pc = .ok (.ixor, 1)) (hz : x ^^^ y = z) (hn : pc + 1 = n)
    (h : own_G p e below K T (mkF m n Ls (.int z :: S))) : own_G p e below K T (mkF m pc Ls (.int y :: .int x :: S)) := by
  subst hz hn
  exact own_go (fun t k => XS.ixor X.here hx rfl hd rfl k) h
theorem own_l2i {K : Outcome → State → Prop} {pc n : Nat} {Ls : Array Slot} {S : List Value} (X : Stand p l e R s m args below meth c T locs cells slots) (hx : p.tables.exec = Jvm.exec) {x : Int64} {z : Int32} (hd : decode c.code pc = .ok (.l2i, 1)) (hz : x.toInt32 = z) (hn : pc + 1 = n)
    (h : own_G p e below K T (mkF m n Ls (.int z :: S))) : own_G p e below K T (mkF m pc Ls (.long x :: S)) := by
  subst hz hn
  exact own_go (fun t k => XS.l2i X.here hx rfl hd rfl k) h
theorem own_i2b {K : Outcome → State → Prop} {pc n : Nat} {Ls : Array Slot} {S : List Value} (X : Stand p l e R s m args below meth c T locs cells slots) (hx : p.tables.exec = Jvm.exec) {x : Int32} {z : Int32} (hd : decode c.code pc = .ok (.i2b, 1)) (hz : x.toInt8.toInt32 = z) (hn : pc + 1 = n)
    (h : own_G p e below K T (mkF m n Ls (.int z :: S))) : own_G p e below K T (mkF m pc Ls (.int x :: S)) := by
  subst hz hn
  exact own_go (fun t k => XS.i2b X.here hx rfl hd rfl k) h
theorem own_lushr {K : Outcome → State → Prop} {pc n : Nat} {Ls : Array Slot} {S : List Value} (X : Stand p l e R s m args below meth c T locs cells slots) (hx : p.tables.exec = Jvm.exec) {x : Int64} {y : Int32} {z : Int64} (hd : decode c.code pc = .ok (.lushr, 1)) (hz : (x.toUInt64 >>> (y &&& 63).toInt64.toUInt64).toInt64 = z) (hn : pc + 1 = n)
    (h : own_G p e below K T (mkF m n Ls (.long z :: S))) : own_G p e below K T (mkF m pc Ls (.int y :: .long x :: S)) := by
  subst hz hn
  exact own_go (fun t k => XS.lushr X.here hx rfl hd rfl k) h
theorem own_iinc {K : Outcome → State → Prop} {pc n : Nat} {Ls : Array Slot} {S : List Value} (X : Stand p l e R s m args below meth c T locs cells slots) (hx : p.tables.exec = Jvm.exec) {k : Nat} {cst : Int} {x z : Int32} {l' : Array Slot} (hd : decode c.code pc = .ok (.iinc k cst, 3)) (hl : Ls[k]? = some (.val (.int x))) (hz : x + Int32.ofInt cst = z) (hl' : storeLocals Ls k (.int z) = some l') (hn : pc + 3 = n)
    (h : own_G p e below K T (mkF m n l' S)) : own_G p e below K T (mkF m pc Ls S) := by
  subst hz hn
  exact own_go (fun t k => XS.iinc X.here hx rfl hd hl hl' k) h
theorem own_dup {K : Outcome → State → Prop} {pc n : Nat} {Ls : Array Slot} {S : List Value} (X : Stand p l e R s m args below meth c T locs cells slots) (hx : p.tables.exec = Jvm.exec) {v : Value} (hd : decode c.code pc = .ok (.dup, 1)) (hc : v.category = 1) (hn : pc + 1 = n)
    (h : own_G p e below K T (mkF m n Ls (v :: v :: S))) : own_G p e below K T (mkF m pc Ls (v :: S)) := by
  subst hn
  exact own_go (fun t k => XS.dup X.here hx rfl hd rfl hc k) h
theorem own_dup_x1 {K : Outcome → State → Prop} {pc n : Nat} {Ls : Array Slot} {S : List Value} (X : Stand p l e R s m args below meth c T locs cells slots) (hx : p.tables.exec = Jvm.exec) {v w : Value} (hd : decode c.code pc = .ok (.dup_x1, 1)) (hc : v.category = 1) (hc' : w.category = 1) (hn : pc + 1 = n)
    (h : own_G p e below K T (mkF m n Ls (v :: w :: v :: S))) : own_G p e below K T (mkF m pc Ls (v :: w :: S)) := by
  subst hn
  exact own_go (fun t k => XS.dupX1 X.here hx rfl hd rfl hc hc' k) h
theorem own_goto {K : Outcome → State → Prop} {pc n : Nat} {Ls : Array Slot} {S : List Value} (X : Stand p l e R s m args below meth c T locs cells slots) (hx : p.tables.exec = Jvm.exec) {o : Int} (hd : decode c.code pc = .ok (.goto o, 3)) (ho : 0 ≤ (pc : Int) + o) (hp : ((pc : Int) + o).toNat = n)
    (h : own_G p e below K T (mkF m n Ls S)) : own_G p e below K T (mkF m pc Ls S) := by
  subst hp
  exact own_go (fun t k => XS.goto X.here hx rfl (pc0 := pc) rfl hd ho rfl k) h
theorem own_ifYes {K : Outcome → State → Prop} {pc n : Nat} {Ls : Array Slot} {S : List Value} (X : Stand p l e R s m args below meth c T locs cells slots) (hx : p.tables.exec = Jvm.exec) {cd : ClassFile.Cond} {x : Int32} {o : Int} (hd : decode c.code pc = .ok (.ifCond cd o, 3)) (hc : if_icmp.holds cd x 0 = true) (ho : 0 ≤ (pc : Int) + o) (hp : ((pc : Int) + o).toNat = n)
    (h : own_G p e below K T (mkF m n Ls S)) : own_G p e below K T (mkF m pc Ls (.int x :: S)) := by
  subst hp
  exact own_go (fun t k => XS.ifYes X.here hx rfl (pc0 := pc) rfl hd rfl ((if0 _ _).trans hc) ho rfl k) h
theorem own_ifNo {K : Outcome → State → Prop} {pc n : Nat} {Ls : Array Slot} {S : List Value} (X : Stand p l e R s m args below meth c T locs cells slots) (hx : p.tables.exec = Jvm.exec) {cd : ClassFile.Cond} {x : Int32} {o : Int} (hd : decode c.code pc = .ok (.ifCond cd o, 3)) (hc : if_icmp.holds cd x 0 = false) (hn : pc + 3 = n)
    (h : own_G p e below K T (mkF m n Ls S)) : own_G p e below K T (mkF m pc Ls (.int x :: S)) := by
  subst hn
  exact own_go (fun t k => XS.ifNo X.here hx rfl hd rfl ((if0 _ _).trans hc) k) h
theorem own_icmpYes {K : Outcome → State → Prop} {pc n : Nat} {Ls : Array Slot} {S : List Value} (X : Stand p l e R s m args below meth c T locs cells slots) (hx : p.tables.exec = Jvm.exec) {cd : ClassFile.Cond} {x y : Int32} {o : Int} (hd : decode c.code pc = .ok (.if_icmp cd o, 3)) (hc : if_icmp.holds cd x y = true) (ho : 0 ≤ (pc : Int) + o) (hp : ((pc : Int) + o).toNat = n)
    (h : own_G p e below K T (mkF m n Ls S)) : own_G p e below K T (mkF m pc Ls (.int y :: .int x :: S)) := by
  subst hp
  exact own_go (fun t k => XS.icmpYes X.here hx rfl (pc0 := pc) rfl hd rfl hc ho rfl k) h
theorem own_icmpNo {K : Outcome → State → Prop} {pc n : Nat} {Ls : Array Slot} {S : List Value} (X : Stand p l e R s m args below meth c T locs cells slots) (hx : p.tables.exec = Jvm.exec) {cd : ClassFile.Cond} {x y : Int32} {o : Int} (hd : decode c.code pc = .ok (.if_icmp cd o, 3)) (hc : if_icmp.holds cd x y = false) (hn : pc + 3 = n)
    (h : own_G p e below K T (mkF m n Ls S)) : own_G p e below K T (mkF m pc Ls (.int y :: .int x :: S)) := by
  subst hn
  exact own_go (fun t k => XS.icmpNo X.here hx rfl hd rfl hc k) h
theorem own_ifnullNo {K : Outcome → State → Prop} {pc n : Nat} {Ls : Array Slot} {S : List Value} (X : Stand p l e R s m args below meth c T locs cells slots) (hx : p.tables.exec = Jvm.exec) {a : Addr} {o : Int} (hd : decode c.code pc = .ok (.ifnull o, 3)) (hn : pc + 3 = n)
    (h : own_G p e below K T (mkF m n Ls S)) : own_G p e below K T (mkF m pc Ls ((.ref a) :: S)) := by
  subst hn
  exact own_go (fun t k => XS.ifnullNo X.here hx rfl hd rfl k) h
theorem own_getF {K : Outcome → State → Prop} {pc n : Nat} {Ls : Array Slot} {S : List Value} {h : Heap} (X : Stand p l e R s m args below meth c T locs cells slots) (hx : p.tables.exec = Jvm.exec) (hZ : Z.Warmed39 s.vm) {own R0 O nm d host : String} {index : Nat} (hown : s.vm.findClass own = some m.cls) (w : (Jvm.Cond.fieldLink own index R0 nm d).before a0 Z = true ∨ (Jvm.Cond.fieldLinkNest own index R0 nm d host).before a0 Z = true) (via : Via Z R0 O nm d) (eT : T.heap = h) {a : Addr} {v : Value} (F : Fld Z h a O nm d v) (hd : decode c.code pc = .ok (.getfield index, 3)) (hn : pc + 3 = n)
    (kk : ∀ T' : State, Stand p l e R s m args below meth c T' locs cells slots → T'.heap = h → own_G p e below K T' (mkF m n Ls (v :: S))) : own_G p e below K T (mkF m pc Ls (.ref a :: S)) := by
  subst hn
  obtain ⟨T', X', e', st⟩ := Jvm.RoadKit.getF X hx hZ hown w via eT F (g := mkF m pc Ls (.ref a :: S)) rfl rfl hd
  exact own_go st (kk T' X' e')
theorem own_putF {K : Outcome → State → Prop} {pc n : Nat} {Ls : Array Slot} {S : List Value} {h : Heap} (X : Stand p l e R s m args below meth c T locs cells slots) (hx : p.tables.exec = Jvm.exec) (hZ : Z.Warmed39 s.vm) {own R0 O nm d host C : String} {index kk' : Nat} {ty : FieldType} (hown : s.vm.findClass own = some m.cls) (w : (Jvm.Cond.fieldLink own index R0 nm d).before a0 Z = true ∨ (Jvm.Cond.fieldLinkNest own index R0 nm d host).before a0 Z = true) (via : Via Z R0 O nm d) (eT : T.heap = h) {a : Addr} {v old : Value} (F : Fld Z h a O nm d old) (E : Exa Z h a C) (L : (Jvm.Cond.lays C O nm d).before a0 Z = true ∨ ((Jvm.Cond.laysFinal C O nm d).before a0 Z = true ∧ own = O ∧ meth.name = "<init>")) (wi : (Jvm.Cond.instantiable C kk').before a0 Z = true) (hty : parseFieldDescriptor d = some ty) (hnr : narrow ty v = v) (hf : fits ty v = true) (hd : decode c.code pc = .ok (.putfield index, 3)) (hn : pc + 3 = n)
    (kk : ∀ (T' : State) (h' : Heap), Stand p l e R s m args below meth c T' (locs ++ [⟨a, Jvm.RoadKit.slotOf Z O nm d⟩]) cells slots → T'.heap = h' → Wr h h' a (Jvm.RoadKit.slotOf Z O nm d) v → own_G p e below K T' (mkF m n Ls S)) : own_G p e below K T (mkF m pc Ls (v :: .ref a :: S)) := by
  subst hn
  obtain ⟨T', h', X', e', W, st⟩ := Jvm.RoadKit.putF X hx hZ hown w via eT F E L wi hty hnr hf (g := mkF m pc Ls (v :: .ref a :: S)) rfl rfl hd
  exact own_go st (kk T' h' X' e' W)
theorem own_putFN {K : Outcome → State → Prop} {pc n : Nat} {Ls : Array Slot} {S : List Value} {h : Heap} (X : Stand p l e R s m args below meth c T locs cells slots) (hx : p.tables.exec = Jvm.exec) (hZ : Z.Warmed39 s.vm) {own R0 O nm d C : String} {index kk' : Nat} {ty : FieldType} (hown : s.vm.findClass own = some m.cls) (w : (Jvm.Cond.fieldLink own index R0 nm d).before a0 Z = true) (via : Via Z R0 O nm d) (eT : T.heap = h) {a : Addr} {v v' old : Value} (F : Fld Z h a O nm d old) (E : Exa Z h a C) (L : (Jvm.Cond.lays C O nm d).before a0 Z = true ∨ ((Jvm.Cond.laysFinal C O nm d).before a0 Z = true ∧ own = O ∧ meth.name = "<init>")) (wi : (Jvm.Cond.instantiable C kk').before a0 Z = true) (hty : parseFieldDescriptor d = some ty) (hnr : narrow ty v = v') (hf : fits ty v' = true) (hd : decode c.code pc = .ok (.putfield index, 3)) (hn : pc + 3 = n)
    (kk : ∀ (T' : State) (h' : Heap), Stand p l e R s m args below meth c T' (locs ++ [⟨a, Jvm.RoadKit.slotOf Z O nm d⟩]) cells slots → T'.heap = h' → Wr h h' a (Jvm.RoadKit.slotOf Z O nm d) v' → own_G p e below K T' (mkF m n Ls S)) : own_G p e below K T (mkF m pc Ls (v :: .ref a :: S)) := by
  subst hn
  obtain ⟨T', h', X', e', W, st⟩ := Jvm.RoadKit.putFN X hx hZ hown w via eT F E L wi hty hnr hf (g := mkF m pc Ls (v :: .ref a :: S)) rfl rfl hd
  exact own_go st (kk T' h' X' e' W)
theorem own_new {K : Outcome → State → Prop} {pc n : Nat} {Ls : Array Slot} {S : List Value} {h : Heap} (X : Stand p l e R s m args below meth c T locs cells slots) (hx : p.tables.exec = Jvm.exec) (hZ : Z.Warmed39 s.vm) {own C : String} {index k : Nat} (hown : s.vm.findClass own = some m.cls) (w : (Jvm.Cond.classLink own index C).before a0 Z = true) (wi : (Jvm.Cond.instantiable C k).before a0 Z = true) (wz : (Jvm.Cond.initialized C).before a0 Z = true) (eT : T.heap = h) (hd : decode c.code pc = .ok (.new index, 3)) (hc : cells + 1 ≤ R.cells) (hl : slots + k ≤ R.slots) (hn : pc + 3 = n)
    (kk : ∀ (T' : State) (h' : Heap) (b : Addr), b = h.size → Stand p l e R s m args below meth c T' locs (cells + 1) (slots + k) → T'.heap = h' → Ext h h' → Exa Z h' b C → (∀ {O nm d : String} {ty : FieldType}, Laid Z a0 C O nm d → parseFieldDescriptor d = some ty → Fld Z h' b O nm d (defaultValue ty)) → own_G p e below K T' (mkF m n Ls (.ref b :: S))) : own_G p e below K T (mkF m pc Ls S) := by
  subst hn
  obtain ⟨T', h', X', e', E, A, D, -, st⟩ := newO X hx hZ hown w wi wz eT (g := mkF m pc Ls S) rfl hd hc hl
  exact own_go st (kk T' h' _ rfl X' e' E A D)
theorem own_newA {K : Outcome → State → Prop} {pc n : Nat} {Ls : Array Slot} {S : List Value} {h : Heap} (X : Stand p l e R s m args below meth c T locs cells slots) (hx : p.tables.exec = Jvm.exec) (hZ : Z.Warmed39 s.vm) {aty : ArrayType} {nm : String} (hnm : "[" ++ (newarray.typeOf aty).toString = nm) (w : (Jvm.Cond.arrayClass (newarray.typeOf aty)).before a0 Z = true) (eT : T.heap = h) (hd : decode c.code pc = .ok (.newarray aty, 2)) {k : Int32} (hk : ¬ k < 0) {cap : Nat} (hcap : k.toNatClampNeg ≤ cap) (hb : cap * 8 ≤ 536870912) (hc : cells + 1 ≤ R.cells) (hl : slots + cap ≤ R.slots) (hn : pc + 2 = n)
    (kk : ∀ (T' : State) (h' : Heap) (cA : ClassId) (b : Addr), b = h.size → Stand p l e R s m args below meth c T' locs (cells + 1) (slots + cap) → T'.heap = h' → Ext h h' → Arr Z h' b (newA cA (newarray.typeOf aty) k) (newarray.typeOf aty) → Exa Z h' b nm → own_G p e below K T' (mkF m n Ls (.ref b :: S))) : own_G p e below K T (mkF m pc Ls (.int k :: S)) := by
  subst hn
  obtain ⟨T', h', cA, X', e', E, A, B, st⟩ := own_newP X hx hZ hnm w eT (pc := pc) (Ls := Ls) (rest := S) hd hk hcap hb hc hl
  exact own_go st (kk T' h' cA _ rfl X' e' E A B)
theorem own_st_bastore {K : Outcome → State → Prop} {pc n : Nat} {Ls : Array Slot} {S : List Value} {h : Heap} (X : Stand p l e R s m args below meth c T locs cells slots) (hx : p.tables.exec = Jvm.exec) (hZ : Z.Warmed39 s.vm) {a : Addr} {k : ClassId} {z j : Int32} {x : Int32} {vs : List Value} {dv : Value} (eT : T.heap = h) (V : Arv Z h a k .byte z vs dv) (hj : ¬ j < 0 ∧ j < z) (i : Nat) (hi : j.toNatClampNeg = i) (hl : i < vs.length) (hd : decode c.code pc = .ok (.bastore, 1)) (hn : pc + 1 = n)
    (kk : ∀ (T' : State) (h' : Heap), Stand p l e R s m args below meth c T' (locs ++ [⟨a, j.toNatClampNeg⟩]) cells slots → T'.heap = h' → Wr h h' a j.toNatClampNeg (.int x.toInt8.toInt32) → Arv Z h' a k .byte z (vs.set i (.int x.toInt8.toInt32)) dv → own_G p e below K T' (mkF m n Ls S)) : own_G p e below K T (mkF m pc Ls (.int x :: .int j :: .ref a :: S)) := by
  subst hn
  obtain ⟨T', h', X', e', W, V', st⟩ := own_bastore X hx hZ eT V hj i hi hl (pc := pc) (Ls := Ls) (rest := S) hd
  exact own_go st (kk T' h' X' e' W V')
theorem own_ld_baload {K : Outcome → State → Prop} {pc n : Nat} {Ls : Array Slot} {S : List Value} {h : Heap} (X : Stand p l e R s m args below meth c T locs cells slots) (hx : p.tables.exec = Jvm.exec) (hZ : Z.Warmed39 s.vm) {a : Addr} {k : ClassId} {z j : Int32} {vs : List Value} {dv v : Value} (eT : T.heap = h) (V : Arv Z h a k .byte z vs dv) (hj : ¬ j < 0 ∧ j < z) (hv : vs.getD j.toNatClampNeg dv = v) (hd : decode c.code pc = .ok (.baload, 1)) (hn : pc + 1 = n) (kk : own_G p e below K T (mkF m n Ls (v :: S))) : own_G p e below K T (mkF m pc Ls (.int j :: .ref a :: S)) := by
  subst hn
  exact own_go (own_baload X hx hZ eT V hj hv hd) kk
theorem own_len {K : Outcome → State → Prop} {pc n : Nat} {Ls : Array Slot} {S : List Value} {h : Heap} (X : Stand p l e R s m args below meth c T locs cells slots) (hx : p.tables.exec = Jvm.exec) (hZ : Z.Warmed39 s.vm) {a : Addr} {k : ClassId} {ty : FieldType} {z : Int32} {vs : List Value} {dv : Value} (eT : T.heap = h) (V : Arv Z h a k ty z vs dv) (hd : decode c.code pc = .ok (.arraylength, 1)) (hn : pc + 1 = n) (kk : own_G p e below K T (mkF m n Ls (.int z :: S))) : own_G p e below K T (mkF m pc Ls (.ref a :: S)) := by
  subst hn
  exact own_go (own_alen X hx hZ eT V hd) kk
theorem own_ccast {K : Outcome → State → Prop} {pc n : Nat} {Ls : Array Slot} {S : List Value} {h : Heap} (X : Stand p l e R s m args below meth c T locs cells slots) (hx : p.tables.exec = Jvm.exec) (hZ : Z.Warmed39 s.vm) {own C : String} {index : Nat} (hown : s.vm.findClass own = some m.cls) (w : (Jvm.Cond.classLink own index C).before a0 Z = true) (eT : T.heap = h) {a : Addr} (F : Ins Z h a C true) (hd : decode c.code pc = .ok (.checkcast index, 3)) (hn : pc + 3 = n)
    (kk : ∀ T' : State, Stand p l e R s m args below meth c T' locs cells slots → T'.heap = h → own_G p e below K T' (mkF m n Ls (.ref a :: S))) : own_G p e below K T (mkF m pc Ls (.ref a :: S)) := by
  subst hn
  obtain ⟨T', X', e', st⟩ := castY X hx hZ hown w eT F (g := mkF m pc Ls (.ref a :: S)) rfl rfl hd
  exact own_go st (kk T' X' e')
theorem own_initO {K : Outcome → State → Prop} {pc n : Nat} {Ls : Array Slot} {S : List Value} {h : Heap} (X : Stand p l e R s m args below meth c T locs cells slots) (hx : p.tables.exec = Jvm.exec) (hZ : Z.Warmed39 s.vm) {own : String} {index : Nat} (hown : s.vm.findClass own = some m.cls) (w1 : (Jvm.Cond.methodLink own index Lib.objectInit).before a0 Z = true) (w2 : (Jvm.Cond.instanceMethod Lib.objectInit).before a0 Z = true) (w3 : (Jvm.Cond.code Lib.objectInit ⟨#[0xb1]⟩ 1 none).before a0 Z = true) (eT : T.heap = h) (hsz : Ls.size = c.maxLocals) {a : Addr} (hd : decode c.code pc = .ok (.invokespecial index, 3)) (hf : 1 ≤ R.frames) (hl : (S.map fun v => v.category).sum + 12 ≤ R.locals) (hn : pc + 3 = n)
    (kk : ∀ T' : State, Stand p l e R s m args below meth c T' locs cells slots → T'.heap = h → own_G p e below K T' (mkF m n Ls (S))) : own_G p e below K T (mkF m pc Ls (.ref a :: S)) := by
  subst hn
  obtain ⟨T', X', e', st⟩ := Jvm.RoadKit.initO X hx hZ hown w1 w2 w3 eT (g := mkF m pc Ls (.ref a :: S)) rfl hsz rfl hd hf (W := (S.map fun v => v.category).sum) (by show 2 * 0 + _ ≤ _; exact Nat.le_of_eq (Nat.zero_add _)) hl
  exact own_go st (kk T' X' e')
theorem own_S {K : Outcome → State → Prop} {pc n : Nat} {Ls : Array Slot} {h : Heap} {own : String} {index maxL : Nat} {y : MethodName} {bytes : ByteArray} {rm : Room} {Q : Option Value → Heap → List Loc → Prop} {argsL rest stk : List Value} {ret : Option FieldType} (X : Stand p l e R s m args below meth c T locs cells slots) (hx : p.tables.exec = Jvm.exec) (hZ : Z.Warmed39 s.vm) (hown : s.vm.findClass own = some m.cls) (hM : own_Met l Z y bytes maxL ret [] rm argsL.toArray h Q) (w1 : (Jvm.Cond.methodLink own index y).before a0 Z = true) (w2 : (Jvm.Cond.static y).before a0 Z = true) (w3 : (Jvm.Cond.initialized y.cls).before a0 Z = true) (w4 : (Jvm.Cond.code y bytes maxL ret).before a0 Z = true) (hy : y.cls ≠ "java/lang/invoke/MethodHandle" ∧ y.cls ≠ "java/lang/invoke/VarHandle") (eT : T.heap = h) (hsz : Ls.size = c.maxLocals) (hlen : ∀ sig, parseMethodDescriptor y.desc = some sig → argsL.length = sig.parameters.length) (hstk : stk = argsL.reverse ++ rest) (hd : decode c.code pc = .ok (.invokestatic index, 3)) (hf : rm.frames + 1 ≤ R.frames) (hl : (rest.map fun v => v.category).sum + (maxL + 11) + rm.locals ≤ R.locals) (hc : cells + rm.cells ≤ R.cells) (hs : slots + rm.slots ≤ R.slots) (hn : pc + 3 = n)
    (kk : ∀ (v : Option Value) (T' : State) (L : List Loc), Stand p l e R s m args below meth c T' (locs ++ L) (cells + rm.cells) (slots + rm.slots) → Q v T'.heap L → own_G p e below K T' (mkF m n Ls (v.toList ++ rest))) : own_G p e below K T (mkF m pc Ls stk) := by
  subst hn
  obtain ⟨v, T', L, X', hQ, st⟩ := own_callS X hx hZ hown hM w1 w2 w3 w4 hy eT hsz hlen hstk hd hf hl hc hs
  exact own_go st (kk v T' L X' hQ)
theorem own_I {K : Outcome → State → Prop} {pc n : Nat} {Ls : Array Slot} {h : Heap} {own : String} {index maxL : Nat} {y : MethodName} {bytes : ByteArray} {rm : Room} {Q : Option Value → Heap → List Loc → Prop} {argsL rest stk : List Value} {a : Addr} (hy1 : y.name = "<init>") (X : Stand p l e R s m args below meth c T locs cells slots) (hx : p.tables.exec = Jvm.exec) (hZ : Z.Warmed39 s.vm) (hown : s.vm.findClass own = some m.cls) (hM : own_Met l Z y bytes maxL none [] rm (.ref a :: argsL).toArray h Q) (w1 : (Jvm.Cond.methodLink own index y).before a0 Z = true) (w2 : (Jvm.Cond.instanceMethod y).before a0 Z = true) (w3 : (Jvm.Cond.initialized y.cls).before a0 Z = true) (w4 : (Jvm.Cond.code y bytes maxL none).before a0 Z = true) (hy : y.cls ≠ "java/lang/invoke/MethodHandle" ∧ y.cls ≠ "java/lang/invoke/VarHandle") (eT : T.heap = h) (hsz : Ls.size = c.maxLocals) (hlen : ∀ sig, parseMethodDescriptor y.desc = some sig → argsL.length = sig.parameters.length) (hstk : stk = argsL.reverse ++ .ref a :: rest) (hd : decode c.code pc = .ok (.invokespecial index, 3)) (hf : rm.frames + 1 ≤ R.frames) (hl : (rest.map fun v => v.category).sum + (maxL + 11) + rm.locals ≤ R.locals) (hc : cells + rm.cells ≤ R.cells) (hs : slots + rm.slots ≤ R.slots) (hn : pc + 3 = n)
    (kk : ∀ (v : Option Value) (T' : State) (L : List Loc), Stand p l e R s m args below meth c T' (locs ++ L) (cells + rm.cells) (slots + rm.slots) → Q v T'.heap L → own_G p e below K T' (mkF m n Ls (v.toList ++ rest))) : own_G p e below K T (mkF m pc Ls stk) := by
  subst hn
  obtain ⟨v, T', L, X', hQ, st⟩ := own_callI hy1 X hx hZ hown hM w1 w2 w3 w4 hy eT hsz hlen hstk hd hf hl hc hs
  exact own_go st (kk v T' L X' hQ)
theorem own_V {K : Outcome → State → Prop} {pc n : Nat} {Ls : Array Slot} {h : Heap} {own : String} {index maxL : Nat} {y : MethodName} {bytes : ByteArray} {rm : Room} {Q : Option Value → Heap → List Loc → Prop} {argsL rest stk : List Value} {ret : Option FieldType} {C : String} {z : MethodName} {a : Addr} (X : Stand p l e R s m args below meth c T locs cells slots) (hx : p.tables.exec = Jvm.exec) (hZ : Z.Warmed39 s.vm) (hown : s.vm.findClass own = some m.cls) (hM : own_Met l Z z bytes maxL ret [] rm (.ref a :: argsL).toArray h Q) (w1 : (Jvm.Cond.methodLink own index y).before a0 Z = true) (w2 : (Jvm.Cond.declares y).before a0 Z = true) (nf : NotFace s y) (w5 : (Jvm.Cond.selects C y z).before a0 Z = true) (w6 : (Jvm.Cond.instanceMethod z).before a0 Z = true) (w3 : (Jvm.Cond.initialized z.cls).before a0 Z = true) (w4 : (Jvm.Cond.code z bytes maxL ret).before a0 Z = true) (hy : y.cls ≠ "java/lang/invoke/MethodHandle" ∧ y.cls ≠ "java/lang/invoke/VarHandle") (eT : T.heap = h) (E : Exa Z h a C) (hsz : Ls.size = c.maxLocals) (hlen : ∀ sig, parseMethodDescriptor y.desc = some sig → argsL.length = sig.parameters.length) (hstk : stk = argsL.reverse ++ .ref a :: rest) (hd : decode c.code pc = .ok (.invokevirtual index, 3)) (hf : rm.frames + 1 ≤ R.frames) (hl : (rest.map fun v => v.category).sum + (maxL + 11) + rm.locals ≤ R.locals) (hc : cells + rm.cells ≤ R.cells) (hs : slots + rm.slots ≤ R.slots) (hn : pc + 3 = n)
    (kk : ∀ (v : Option Value) (T' : State) (L : List Loc), Stand p l e R s m args below meth c T' (locs ++ L) (cells + rm.cells) (slots + rm.slots) → Q v T'.heap L → own_G p e below K T' (mkF m n Ls (v.toList ++ rest))) : own_G p e below K T (mkF m pc Ls stk) := by
  subst hn
  obtain ⟨v, T', L, X', hQ, st⟩ := own_callV X hx hZ hown hM w1 w2 nf w5 w6 w3 w4 hy eT E hsz hlen hstk hd hf hl hc hs
  exact own_go st (kk v T' L X' hQ)
theorem own_P {K : Outcome → State → Prop} {pc n : Nat} {Ls : Array Slot} {h : Heap} {own : String} {index maxL : Nat} {y : MethodName} {bytes : ByteArray} {rm : Room} {Q : Option Value → Heap → List Loc → Prop} {argsL rest stk : List Value} {ret : Option FieldType} {C : String} {a : Addr} (X : Stand p l e R s m args below meth c T locs cells slots) (hx : p.tables.exec = Jvm.exec) (hZ : Z.Warmed39 s.vm) (hown : s.vm.findClass own = some m.cls) (hM : own_Met l Z y bytes maxL ret [] rm (.ref a :: argsL).toArray h Q) (w1 : (Jvm.Cond.methodLink own index y).before a0 Z = true) (w2 : (Jvm.Cond.instanceMethod y).before a0 Z = true) {u z : MethodName} {C' : String} (hz : z.cls = y.cls) (w5 : (Jvm.Cond.selects C' u z).before a0 Z = true) (w6 : (Jvm.Cond.privateMethod y).before a0 Z = true) (w3 : (Jvm.Cond.initialized y.cls).before a0 Z = true) (w4 : (Jvm.Cond.code y bytes maxL ret).before a0 Z = true) (hy : y.cls ≠ "java/lang/invoke/MethodHandle" ∧ y.cls ≠ "java/lang/invoke/VarHandle") (eT : T.heap = h) (E : Exa Z h a C) (hsz : Ls.size = c.maxLocals) (hlen : ∀ sig, parseMethodDescriptor y.desc = some sig → argsL.length = sig.parameters.length) (hstk : stk = argsL.reverse ++ .ref a :: rest) (hd : decode c.code pc = .ok (.invokevirtual index, 3)) (hf : rm.frames + 1 ≤ R.frames) (hl : (rest.map fun v => v.category).sum + (maxL + 11) + rm.locals ≤ R.locals) (hc : cells + rm.cells ≤ R.cells) (hs : slots + rm.slots ≤ R.slots) (hn : pc + 3 = n)
    (kk : ∀ (v : Option Value) (T' : State) (L : List Loc), Stand p l e R s m args below meth c T' (locs ++ L) (cells + rm.cells) (slots + rm.slots) → Q v T'.heap L → own_G p e below K T' (mkF m n Ls (v.toList ++ rest))) : own_G p e below K T (mkF m pc Ls stk) := by
  subst hn
  obtain ⟨v, T', L, X', hQ, st⟩ := own_callP X hx hZ hown hM w1 w2 hz w5 w6 w3 w4 hy eT E hsz hlen hstk hd hf hl hc hs
  exact own_go st (kk v T' L X' hQ)
end OwnSteps

theorem own_an_int : "[" ++ (newarray.typeOf .int).toString = "[I" := by decide +kernel
theorem own_an_long : "[" ++ (newarray.typeOf .long).toString = "[J" := by decide +kernel
theorem own_an_byte : "[" ++ (newarray.typeOf .byte).toString = "[B" := by decide +kernel
theorem own_an_char : "[" ++ (newarray.typeOf .char).toString = "[C" := by decide +kernel
theorem own_an_J : (FieldType.array .long).toString = "[J" := by decide +kernel
theorem own_an_JJ : "[" ++ "[J" = "[[J" := by decide +kernel
theorem own_ne {b z : Addr} {h : Heap} (hb : b < h.size) (g : z = h.size) : b ≠ z := Nat.ne_of_lt (Nat.lt_of_lt_of_le hb (Nat.le_of_eq g.symm))
theorem own_neEA {Z : State} {h : Heap} {a b : Addr} {C : String} {a0 : Array Value} {kk : Nat} {k : ClassId} {ty : FieldType} {n : Int32} {vs : List Value} {dv : Value} (E : Exa Z h a C) (w : (Jvm.Cond.instantiable C kk).before a0 Z = true) (V : Arv Z h b k ty n vs dv) : a ≠ b := by
  obtain ⟨c, A, -⟩ := V
  exact ne_arr E w A
theorem ww0 {Z : State} {a0 : Array Value} (hw : ∀ d ∈ tables_1, d.before a0 Z = true) : (Jvm.Cond.arrayClass Jvm.ClassFile.FieldType.byte).before a0 Z = true := hw _ (List.mem_of_getElem? (i := 0) rfl)
theorem ww1 {Z : State} {a0 : Array Value} (hw : ∀ d ∈ tables_1, d.before a0 Z = true) : (Jvm.Cond.classLink "com/example/doseline/doseline/fhir/JsonWriterToByteArrayPinLaw" (13 : Nat) "com/example/doseline/doseline/fhir/JsonWriter").before a0 Z = true := hw _ (List.mem_of_getElem? (i := 1) rfl)
theorem ww2 {Z : State} {a0 : Array Value} (hw : ∀ d ∈ tables_1, d.before a0 Z = true) : (Jvm.Cond.instantiable "com/example/doseline/doseline/fhir/JsonWriter" (3 : Nat)).before a0 Z = true := hw _ (List.mem_of_getElem? (i := 2) rfl)
theorem ww3 {Z : State} {a0 : Array Value} (hw : ∀ d ∈ tables_1, d.before a0 Z = true) : (Jvm.Cond.initialized "com/example/doseline/doseline/fhir/JsonWriter").before a0 Z = true := hw _ (List.mem_of_getElem? (i := 3) rfl)
theorem ww4 {Z : State} {a0 : Array Value} (hw : ∀ d ∈ tables_1, d.before a0 Z = true) : (Jvm.Cond.methodLink "com/example/doseline/doseline/fhir/JsonWriterToByteArrayPinLaw" (15 : Nat) ({ cls := "com/example/doseline/doseline/fhir/JsonWriter", name := "<init>", desc := "(I)V" } : Jvm.MethodName)).before a0 Z = true := hw _ (List.mem_of_getElem? (i := 4) rfl)
theorem ww5 {Z : State} {a0 : Array Value} (hw : ∀ d ∈ tables_1, d.before a0 Z = true) : (Jvm.Cond.instanceMethod ({ cls := "com/example/doseline/doseline/fhir/JsonWriter", name := "<init>", desc := "(I)V" } : Jvm.MethodName)).before a0 Z = true := hw _ (List.mem_of_getElem? (i := 5) rfl)
theorem ww6 {Z : State} {a0 : Array Value} (hw : ∀ d ∈ tables_1, d.before a0 Z = true) : (Jvm.Cond.code ({ cls := "com/example/doseline/doseline/fhir/JsonWriter", name := "<init>", desc := "(I)V" } : Jvm.MethodName) prog_96_method_1_code (2 : Nat) (Option.none : Option Jvm.ClassFile.FieldType)).before a0 Z = true := hw _ (List.mem_of_getElem? (i := 6) rfl)
theorem ww7 {Z : State} {a0 : Array Value} (hw : ∀ d ∈ tables_1, d.before a0 Z = true) : (Jvm.Cond.methodLink "com/example/doseline/doseline/fhir/JsonWriter" (1 : Nat) ({ cls := "java/lang/Object", name := "<init>", desc := "()V" } : Jvm.MethodName)).before a0 Z = true := hw _ (List.mem_of_getElem? (i := 7) rfl)
theorem ww8 {Z : State} {a0 : Array Value} (hw : ∀ d ∈ tables_1, d.before a0 Z = true) : (Jvm.Cond.instanceMethod ({ cls := "java/lang/Object", name := "<init>", desc := "()V" } : Jvm.MethodName)).before a0 Z = true := hw _ (List.mem_of_getElem? (i := 8) rfl)
theorem ww9 {Z : State} {a0 : Array Value} (hw : ∀ d ∈ tables_1, d.before a0 Z = true) : (Jvm.Cond.code ({ cls := "java/lang/Object", name := "<init>", desc := "()V" } : Jvm.MethodName) object_method_1_code (1 : Nat) (Option.none : Option Jvm.ClassFile.FieldType)).before a0 Z = true := hw _ (List.mem_of_getElem? (i := 9) rfl)
theorem ww10 {Z : State} {a0 : Array Value} (hw : ∀ d ∈ tables_1, d.before a0 Z = true) : (Jvm.Cond.fieldLink "com/example/doseline/doseline/fhir/JsonWriter" (7 : Nat) "com/example/doseline/doseline/fhir/JsonWriter" "bytes" "[B").before a0 Z = true := hw _ (List.mem_of_getElem? (i := 10) rfl)
theorem ww11 {Z : State} {a0 : Array Value} (hw : ∀ d ∈ tables_1, d.before a0 Z = true) : (Jvm.Cond.lays "com/example/doseline/doseline/fhir/JsonWriter" "com/example/doseline/doseline/fhir/JsonWriter" "bytes" "[B").before a0 Z = true := hw _ (List.mem_of_getElem? (i := 11) rfl)
theorem ww12 {Z : State} {a0 : Array Value} (hw : ∀ d ∈ tables_1, d.before a0 Z = true) : (Jvm.Cond.methodLink "com/example/doseline/doseline/fhir/JsonWriterToByteArrayPinLaw" (18 : Nat) ({ cls := "com/example/doseline/doseline/fhir/JsonWriter", name := "startArray", desc := "()V" } : Jvm.MethodName)).before a0 Z = true := hw _ (List.mem_of_getElem? (i := 12) rfl)
theorem ww13 {Z : State} {a0 : Array Value} (hw : ∀ d ∈ tables_1, d.before a0 Z = true) : (Jvm.Cond.declares ({ cls := "com/example/doseline/doseline/fhir/JsonWriter", name := "startArray", desc := "()V" } : Jvm.MethodName)).before a0 Z = true := hw _ (List.mem_of_getElem? (i := 13) rfl)
theorem ww14 {Z : State} {a0 : Array Value} (hw : ∀ d ∈ tables_1, d.before a0 Z = true) : (Jvm.Cond.instanceMethod ({ cls := "com/example/doseline/doseline/fhir/JsonWriter", name := "startArray", desc := "()V" } : Jvm.MethodName)).before a0 Z = true := hw _ (List.mem_of_getElem? (i := 14) rfl)
theorem ww15 {Z : State} {a0 : Array Value} (hw : ∀ d ∈ tables_1, d.before a0 Z = true) : (Jvm.Cond.selects "com/example/doseline/doseline/fhir/JsonWriter" ({ cls := "com/example/doseline/doseline/fhir/JsonWriter", name := "startArray", desc := "()V" } : Jvm.MethodName) ({ cls := "com/example/doseline/doseline/fhir/JsonWriter", name := "startArray", desc := "()V" } : Jvm.MethodName)).before a0 Z = true := hw _ (List.mem_of_getElem? (i := 15) rfl)
theorem ww16 {Z : State} {a0 : Array Value} (hw : ∀ d ∈ tables_1, d.before a0 Z = true) : (Jvm.Cond.code ({ cls := "com/example/doseline/doseline/fhir/JsonWriter", name := "startArray", desc := "()V" } : Jvm.MethodName) prog_96_method_9_code (1 : Nat) (Option.none : Option Jvm.ClassFile.FieldType)).before a0 Z = true := hw _ (List.mem_of_getElem? (i := 16) rfl)
theorem ww17 {Z : State} {a0 : Array Value} (hw : ∀ d ∈ tables_1, d.before a0 Z = true) : (Jvm.Cond.methodLink "com/example/doseline/doseline/fhir/JsonWriter" (51 : Nat) ({ cls := "com/example/doseline/doseline/fhir/JsonWriter", name := "start", desc := "(B)V" } : Jvm.MethodName)).before a0 Z = true := hw _ (List.mem_of_getElem? (i := 17) rfl)
theorem ww18 {Z : State} {a0 : Array Value} (hw : ∀ d ∈ tables_1, d.before a0 Z = true) : (Jvm.Cond.instanceMethod ({ cls := "com/example/doseline/doseline/fhir/JsonWriter", name := "start", desc := "(B)V" } : Jvm.MethodName)).before a0 Z = true := hw _ (List.mem_of_getElem? (i := 18) rfl)
theorem ww19 {Z : State} {a0 : Array Value} (hw : ∀ d ∈ tables_1, d.before a0 Z = true) : (Jvm.Cond.privateMethod ({ cls := "com/example/doseline/doseline/fhir/JsonWriter", name := "start", desc := "(B)V" } : Jvm.MethodName)).before a0 Z = true := hw _ (List.mem_of_getElem? (i := 19) rfl)
theorem ww20 {Z : State} {a0 : Array Value} (hw : ∀ d ∈ tables_1, d.before a0 Z = true) : (Jvm.Cond.code ({ cls := "com/example/doseline/doseline/fhir/JsonWriter", name := "start", desc := "(B)V" } : Jvm.MethodName) prog_96_method_21_code (2 : Nat) (Option.none : Option Jvm.ClassFile.FieldType)).before a0 Z = true := hw _ (List.mem_of_getElem? (i := 20) rfl)
theorem ww21 {Z : State} {a0 : Array Value} (hw : ∀ d ∈ tables_1, d.before a0 Z = true) : (Jvm.Cond.methodLink "com/example/doseline/doseline/fhir/JsonWriter" (58 : Nat) ({ cls := "com/example/doseline/doseline/fhir/JsonWriter", name := "separate", desc := "()V" } : Jvm.MethodName)).before a0 Z = true := hw _ (List.mem_of_getElem? (i := 21) rfl)
theorem ww22 {Z : State} {a0 : Array Value} (hw : ∀ d ∈ tables_1, d.before a0 Z = true) : (Jvm.Cond.instanceMethod ({ cls := "com/example/doseline/doseline/fhir/JsonWriter", name := "separate", desc := "()V" } : Jvm.MethodName)).before a0 Z = true := hw _ (List.mem_of_getElem? (i := 22) rfl)
theorem ww23 {Z : State} {a0 : Array Value} (hw : ∀ d ∈ tables_1, d.before a0 Z = true) : (Jvm.Cond.privateMethod ({ cls := "com/example/doseline/doseline/fhir/JsonWriter", name := "separate", desc := "()V" } : Jvm.MethodName)).before a0 Z = true := hw _ (List.mem_of_getElem? (i := 23) rfl)
theorem ww24 {Z : State} {a0 : Array Value} (hw : ∀ d ∈ tables_1, d.before a0 Z = true) : (Jvm.Cond.code ({ cls := "com/example/doseline/doseline/fhir/JsonWriter", name := "separate", desc := "()V" } : Jvm.MethodName) prog_96_method_24_code (1 : Nat) (Option.none : Option Jvm.ClassFile.FieldType)).before a0 Z = true := hw _ (List.mem_of_getElem? (i := 24) rfl)
theorem ww25 {Z : State} {a0 : Array Value} (hw : ∀ d ∈ tables_1, d.before a0 Z = true) : (Jvm.Cond.fieldLink "com/example/doseline/doseline/fhir/JsonWriter" (41 : Nat) "com/example/doseline/doseline/fhir/JsonWriter" "afterElement" "Z").before a0 Z = true := hw _ (List.mem_of_getElem? (i := 25) rfl)
theorem ww26 {Z : State} {a0 : Array Value} (hw : ∀ d ∈ tables_1, d.before a0 Z = true) : (Jvm.Cond.lays "com/example/doseline/doseline/fhir/JsonWriter" "com/example/doseline/doseline/fhir/JsonWriter" "afterElement" "Z").before a0 Z = true := hw _ (List.mem_of_getElem? (i := 26) rfl)
theorem ww27 {Z : State} {a0 : Array Value} (hw : ∀ d ∈ tables_1, d.before a0 Z = true) : (Jvm.Cond.methodLink "com/example/doseline/doseline/fhir/JsonWriter" (68 : Nat) ({ cls := "com/example/doseline/doseline/fhir/JsonWriter", name := "write", desc := "(B)V" } : Jvm.MethodName)).before a0 Z = true := hw _ (List.mem_of_getElem? (i := 27) rfl)
theorem ww28 {Z : State} {a0 : Array Value} (hw : ∀ d ∈ tables_1, d.before a0 Z = true) : (Jvm.Cond.instanceMethod ({ cls := "com/example/doseline/doseline/fhir/JsonWriter", name := "write", desc := "(B)V" } : Jvm.MethodName)).before a0 Z = true := hw _ (List.mem_of_getElem? (i := 28) rfl)
theorem ww29 {Z : State} {a0 : Array Value} (hw : ∀ d ∈ tables_1, d.before a0 Z = true) : (Jvm.Cond.privateMethod ({ cls := "com/example/doseline/doseline/fhir/JsonWriter", name := "write", desc := "(B)V" } : Jvm.MethodName)).before a0 Z = true := hw _ (List.mem_of_getElem? (i := 29) rfl)
theorem ww30 {Z : State} {a0 : Array Value} (hw : ∀ d ∈ tables_1, d.before a0 Z = true) : (Jvm.Cond.code ({ cls := "com/example/doseline/doseline/fhir/JsonWriter", name := "write", desc := "(B)V" } : Jvm.MethodName) prog_96_method_26_code (2 : Nat) (Option.none : Option Jvm.ClassFile.FieldType)).before a0 Z = true := hw _ (List.mem_of_getElem? (i := 30) rfl)
theorem ww31 {Z : State} {a0 : Array Value} (hw : ∀ d ∈ tables_1, d.before a0 Z = true) : (Jvm.Cond.methodLink "com/example/doseline/doseline/fhir/JsonWriter" (111 : Nat) ({ cls := "com/example/doseline/doseline/fhir/JsonWriter", name := "room", desc := "(I)V" } : Jvm.MethodName)).before a0 Z = true := hw _ (List.mem_of_getElem? (i := 31) rfl)
theorem ww32 {Z : State} {a0 : Array Value} (hw : ∀ d ∈ tables_1, d.before a0 Z = true) : (Jvm.Cond.instanceMethod ({ cls := "com/example/doseline/doseline/fhir/JsonWriter", name := "room", desc := "(I)V" } : Jvm.MethodName)).before a0 Z = true := hw _ (List.mem_of_getElem? (i := 32) rfl)
theorem ww33 {Z : State} {a0 : Array Value} (hw : ∀ d ∈ tables_1, d.before a0 Z = true) : (Jvm.Cond.privateMethod ({ cls := "com/example/doseline/doseline/fhir/JsonWriter", name := "room", desc := "(I)V" } : Jvm.MethodName)).before a0 Z = true := hw _ (List.mem_of_getElem? (i := 33) rfl)
theorem ww34 {Z : State} {a0 : Array Value} (hw : ∀ d ∈ tables_1, d.before a0 Z = true) : (Jvm.Cond.code ({ cls := "com/example/doseline/doseline/fhir/JsonWriter", name := "room", desc := "(I)V" } : Jvm.MethodName) prog_96_method_28_code (2 : Nat) (Option.none : Option Jvm.ClassFile.FieldType)).before a0 Z = true := hw _ (List.mem_of_getElem? (i := 34) rfl)
theorem ww35 {Z : State} {a0 : Array Value} (hw : ∀ d ∈ tables_1, d.before a0 Z = true) : (Jvm.Cond.fieldLink "com/example/doseline/doseline/fhir/JsonWriter" (48 : Nat) "com/example/doseline/doseline/fhir/JsonWriter" "length" "I").before a0 Z = true := hw _ (List.mem_of_getElem? (i := 35) rfl)
theorem ww36 {Z : State} {a0 : Array Value} (hw : ∀ d ∈ tables_1, d.before a0 Z = true) : (Jvm.Cond.lays "com/example/doseline/doseline/fhir/JsonWriter" "com/example/doseline/doseline/fhir/JsonWriter" "length" "I").before a0 Z = true := hw _ (List.mem_of_getElem? (i := 36) rfl)
theorem ww37 {Z : State} {a0 : Array Value} (hw : ∀ d ∈ tables_1, d.before a0 Z = true) : (Jvm.Cond.methodLink "com/example/doseline/doseline/fhir/JsonWriter" (137 : Nat) ({ cls := "java/lang/Math", name := "max", desc := "(II)I" } : Jvm.MethodName)).before a0 Z = true := hw _ (List.mem_of_getElem? (i := 37) rfl)
theorem ww38 {Z : State} {a0 : Array Value} (hw : ∀ d ∈ tables_1, d.before a0 Z = true) : (Jvm.Cond.static ({ cls := "java/lang/Math", name := "max", desc := "(II)I" } : Jvm.MethodName)).before a0 Z = true := hw _ (List.mem_of_getElem? (i := 38) rfl)
theorem ww39 {Z : State} {a0 : Array Value} (hw : ∀ d ∈ tables_1, d.before a0 Z = true) : (Jvm.Cond.initialized "java/lang/Math").before a0 Z = true := hw _ (List.mem_of_getElem? (i := 39) rfl)
theorem ww40 {Z : State} {a0 : Array Value} (hw : ∀ d ∈ tables_1, d.before a0 Z = true) : (Jvm.Cond.code ({ cls := "java/lang/Math", name := "max", desc := "(II)I" } : Jvm.MethodName) jdk_29_method_65_code (2 : Nat) (Option.some Jvm.ClassFile.FieldType.int)).before a0 Z = true := hw _ (List.mem_of_getElem? (i := 40) rfl)
theorem ww41 {Z : State} {a0 : Array Value} (hw : ∀ d ∈ tables_1, d.before a0 Z = true) : (Jvm.Cond.methodLink "com/example/doseline/doseline/fhir/JsonWriter" (96 : Nat) ({ cls := "java/util/Arrays", name := "copyOf", desc := "([BI)[B" } : Jvm.MethodName)).before a0 Z = true := hw _ (List.mem_of_getElem? (i := 41) rfl)
theorem ww42 {Z : State} {a0 : Array Value} (hw : ∀ d ∈ tables_1, d.before a0 Z = true) : (Jvm.Cond.static ({ cls := "java/util/Arrays", name := "copyOf", desc := "([BI)[B" } : Jvm.MethodName)).before a0 Z = true := hw _ (List.mem_of_getElem? (i := 42) rfl)
theorem ww43 {Z : State} {a0 : Array Value} (hw : ∀ d ∈ tables_1, d.before a0 Z = true) : (Jvm.Cond.initialized "java/util/Arrays").before a0 Z = true := hw _ (List.mem_of_getElem? (i := 43) rfl)
theorem ww44 {Z : State} {a0 : Array Value} (hw : ∀ d ∈ tables_1, d.before a0 Z = true) : (Jvm.Cond.code ({ cls := "java/util/Arrays", name := "copyOf", desc := "([BI)[B" } : Jvm.MethodName) jdk_65_method_121_code (3 : Nat) (Option.some (Jvm.ClassFile.FieldType.array Jvm.ClassFile.FieldType.byte))).before a0 Z = true := hw _ (List.mem_of_getElem? (i := 44) rfl)
theorem ww45 {Z : State} {a0 : Array Value} (hw : ∀ d ∈ tables_1, d.before a0 Z = true) : (Jvm.Cond.methodLink "java/util/Arrays" (304 : Nat) ({ cls := "java/lang/Math", name := "min", desc := "(II)I" } : Jvm.MethodName)).before a0 Z = true := hw _ (List.mem_of_getElem? (i := 45) rfl)
theorem ww46 {Z : State} {a0 : Array Value} (hw : ∀ d ∈ tables_1, d.before a0 Z = true) : (Jvm.Cond.static ({ cls := "java/lang/Math", name := "min", desc := "(II)I" } : Jvm.MethodName)).before a0 Z = true := hw _ (List.mem_of_getElem? (i := 46) rfl)
theorem ww47 {Z : State} {a0 : Array Value} (hw : ∀ d ∈ tables_1, d.before a0 Z = true) : (Jvm.Cond.code ({ cls := "java/lang/Math", name := "min", desc := "(II)I" } : Jvm.MethodName) jdk_29_method_69_code (2 : Nat) (Option.some Jvm.ClassFile.FieldType.int)).before a0 Z = true := hw _ (List.mem_of_getElem? (i := 47) rfl)
theorem ww48 {Z : State} {a0 : Array Value} (hw : ∀ d ∈ tables_1, d.before a0 Z = true) : (Jvm.Cond.methodLink "java/util/Arrays" (150 : Nat) ({ cls := "java/lang/System", name := "arraycopy", desc := "(Ljava/lang/Object;ILjava/lang/Object;II)V" } : Jvm.MethodName)).before a0 Z = true := hw _ (List.mem_of_getElem? (i := 48) rfl)
theorem ww49 {Z : State} {a0 : Array Value} (hw : ∀ d ∈ tables_1, d.before a0 Z = true) : (Jvm.Cond.static ({ cls := "java/lang/System", name := "arraycopy", desc := "(Ljava/lang/Object;ILjava/lang/Object;II)V" } : Jvm.MethodName)).before a0 Z = true := hw _ (List.mem_of_getElem? (i := 49) rfl)
theorem ww50 {Z : State} {a0 : Array Value} (hw : ∀ d ∈ tables_1, d.before a0 Z = true) : (Jvm.Cond.initialized "java/lang/System").before a0 Z = true := hw _ (List.mem_of_getElem? (i := 50) rfl)
theorem ww51 {Z : State} {a0 : Array Value} (hw : ∀ d ∈ tables_1, d.before a0 Z = true) : (Jvm.Cond.native ({ cls := "java/lang/System", name := "arraycopy", desc := "(Ljava/lang/Object;ILjava/lang/Object;II)V" } : Jvm.MethodName)).before a0 Z = true := hw _ (List.mem_of_getElem? (i := 51) rfl)
theorem ww52 {Z : State} {a0 : Array Value} (hw : ∀ d ∈ tables_1, d.before a0 Z = true) : (Jvm.Cond.methodLink "com/example/doseline/doseline/fhir/JsonWriterToByteArrayPinLaw" (21 : Nat) ({ cls := "com/example/doseline/doseline/fhir/JsonWriter", name := "value", desc := "([B)V" } : Jvm.MethodName)).before a0 Z = true := hw _ (List.mem_of_getElem? (i := 52) rfl)
theorem ww53 {Z : State} {a0 : Array Value} (hw : ∀ d ∈ tables_1, d.before a0 Z = true) : (Jvm.Cond.declares ({ cls := "com/example/doseline/doseline/fhir/JsonWriter", name := "value", desc := "([B)V" } : Jvm.MethodName)).before a0 Z = true := hw _ (List.mem_of_getElem? (i := 53) rfl)
theorem ww54 {Z : State} {a0 : Array Value} (hw : ∀ d ∈ tables_1, d.before a0 Z = true) : (Jvm.Cond.instanceMethod ({ cls := "com/example/doseline/doseline/fhir/JsonWriter", name := "value", desc := "([B)V" } : Jvm.MethodName)).before a0 Z = true := hw _ (List.mem_of_getElem? (i := 54) rfl)
theorem ww55 {Z : State} {a0 : Array Value} (hw : ∀ d ∈ tables_1, d.before a0 Z = true) : (Jvm.Cond.selects "com/example/doseline/doseline/fhir/JsonWriter" ({ cls := "com/example/doseline/doseline/fhir/JsonWriter", name := "value", desc := "([B)V" } : Jvm.MethodName) ({ cls := "com/example/doseline/doseline/fhir/JsonWriter", name := "value", desc := "([B)V" } : Jvm.MethodName)).before a0 Z = true := hw _ (List.mem_of_getElem? (i := 55) rfl)
theorem ww56 {Z : State} {a0 : Array Value} (hw : ∀ d ∈ tables_1, d.before a0 Z = true) : (Jvm.Cond.code ({ cls := "com/example/doseline/doseline/fhir/JsonWriter", name := "value", desc := "([B)V" } : Jvm.MethodName) prog_96_method_12_code (2 : Nat) (Option.none : Option Jvm.ClassFile.FieldType)).before a0 Z = true := hw _ (List.mem_of_getElem? (i := 56) rfl)
theorem ww57 {Z : State} {a0 : Array Value} (hw : ∀ d ∈ tables_1, d.before a0 Z = true) : (Jvm.Cond.methodLink "com/example/doseline/doseline/fhir/JsonWriter" (61 : Nat) ({ cls := "com/example/doseline/doseline/fhir/JsonWriter", name := "write", desc := "([B)V" } : Jvm.MethodName)).before a0 Z = true := hw _ (List.mem_of_getElem? (i := 57) rfl)
theorem ww58 {Z : State} {a0 : Array Value} (hw : ∀ d ∈ tables_1, d.before a0 Z = true) : (Jvm.Cond.instanceMethod ({ cls := "com/example/doseline/doseline/fhir/JsonWriter", name := "write", desc := "([B)V" } : Jvm.MethodName)).before a0 Z = true := hw _ (List.mem_of_getElem? (i := 58) rfl)
theorem ww59 {Z : State} {a0 : Array Value} (hw : ∀ d ∈ tables_1, d.before a0 Z = true) : (Jvm.Cond.privateMethod ({ cls := "com/example/doseline/doseline/fhir/JsonWriter", name := "write", desc := "([B)V" } : Jvm.MethodName)).before a0 Z = true := hw _ (List.mem_of_getElem? (i := 59) rfl)
theorem ww60 {Z : State} {a0 : Array Value} (hw : ∀ d ∈ tables_1, d.before a0 Z = true) : (Jvm.Cond.code ({ cls := "com/example/doseline/doseline/fhir/JsonWriter", name := "write", desc := "([B)V" } : Jvm.MethodName) prog_96_method_27_code (2 : Nat) (Option.none : Option Jvm.ClassFile.FieldType)).before a0 Z = true := hw _ (List.mem_of_getElem? (i := 60) rfl)
theorem ww61 {Z : State} {a0 : Array Value} (hw : ∀ d ∈ tables_1, d.before a0 Z = true) : (Jvm.Cond.methodLink "com/example/doseline/doseline/fhir/JsonWriter" (131 : Nat) ({ cls := "java/lang/System", name := "arraycopy", desc := "(Ljava/lang/Object;ILjava/lang/Object;II)V" } : Jvm.MethodName)).before a0 Z = true := hw _ (List.mem_of_getElem? (i := 61) rfl)
theorem ww62 {Z : State} {a0 : Array Value} (hw : ∀ d ∈ tables_1, d.before a0 Z = true) : (Jvm.Cond.methodLink "com/example/doseline/doseline/fhir/JsonWriterToByteArrayPinLaw" (25 : Nat) ({ cls := "com/example/doseline/doseline/fhir/JsonWriter", name := "endArray", desc := "()V" } : Jvm.MethodName)).before a0 Z = true := hw _ (List.mem_of_getElem? (i := 62) rfl)
theorem ww63 {Z : State} {a0 : Array Value} (hw : ∀ d ∈ tables_1, d.before a0 Z = true) : (Jvm.Cond.declares ({ cls := "com/example/doseline/doseline/fhir/JsonWriter", name := "endArray", desc := "()V" } : Jvm.MethodName)).before a0 Z = true := hw _ (List.mem_of_getElem? (i := 63) rfl)
theorem ww64 {Z : State} {a0 : Array Value} (hw : ∀ d ∈ tables_1, d.before a0 Z = true) : (Jvm.Cond.instanceMethod ({ cls := "com/example/doseline/doseline/fhir/JsonWriter", name := "endArray", desc := "()V" } : Jvm.MethodName)).before a0 Z = true := hw _ (List.mem_of_getElem? (i := 64) rfl)
theorem ww65 {Z : State} {a0 : Array Value} (hw : ∀ d ∈ tables_1, d.before a0 Z = true) : (Jvm.Cond.selects "com/example/doseline/doseline/fhir/JsonWriter" ({ cls := "com/example/doseline/doseline/fhir/JsonWriter", name := "endArray", desc := "()V" } : Jvm.MethodName) ({ cls := "com/example/doseline/doseline/fhir/JsonWriter", name := "endArray", desc := "()V" } : Jvm.MethodName)).before a0 Z = true := hw _ (List.mem_of_getElem? (i := 65) rfl)
theorem ww66 {Z : State} {a0 : Array Value} (hw : ∀ d ∈ tables_1, d.before a0 Z = true) : (Jvm.Cond.code ({ cls := "com/example/doseline/doseline/fhir/JsonWriter", name := "endArray", desc := "()V" } : Jvm.MethodName) prog_96_method_10_code (1 : Nat) (Option.none : Option Jvm.ClassFile.FieldType)).before a0 Z = true := hw _ (List.mem_of_getElem? (i := 66) rfl)
theorem ww67 {Z : State} {a0 : Array Value} (hw : ∀ d ∈ tables_1, d.before a0 Z = true) : (Jvm.Cond.methodLink "com/example/doseline/doseline/fhir/JsonWriter" (55 : Nat) ({ cls := "com/example/doseline/doseline/fhir/JsonWriter", name := "end", desc := "(B)V" } : Jvm.MethodName)).before a0 Z = true := hw _ (List.mem_of_getElem? (i := 67) rfl)
theorem ww68 {Z : State} {a0 : Array Value} (hw : ∀ d ∈ tables_1, d.before a0 Z = true) : (Jvm.Cond.instanceMethod ({ cls := "com/example/doseline/doseline/fhir/JsonWriter", name := "end", desc := "(B)V" } : Jvm.MethodName)).before a0 Z = true := hw _ (List.mem_of_getElem? (i := 68) rfl)
theorem ww69 {Z : State} {a0 : Array Value} (hw : ∀ d ∈ tables_1, d.before a0 Z = true) : (Jvm.Cond.privateMethod ({ cls := "com/example/doseline/doseline/fhir/JsonWriter", name := "end", desc := "(B)V" } : Jvm.MethodName)).before a0 Z = true := hw _ (List.mem_of_getElem? (i := 69) rfl)
theorem ww70 {Z : State} {a0 : Array Value} (hw : ∀ d ∈ tables_1, d.before a0 Z = true) : (Jvm.Cond.code ({ cls := "com/example/doseline/doseline/fhir/JsonWriter", name := "end", desc := "(B)V" } : Jvm.MethodName) prog_96_method_22_code (2 : Nat) (Option.none : Option Jvm.ClassFile.FieldType)).before a0 Z = true := hw _ (List.mem_of_getElem? (i := 70) rfl)
theorem ww71 {Z : State} {a0 : Array Value} (hw : ∀ d ∈ tables_1, d.before a0 Z = true) : (Jvm.Cond.methodLink "com/example/doseline/doseline/fhir/JsonWriterToByteArrayPinLaw" (28 : Nat) ({ cls := "com/example/doseline/doseline/fhir/JsonWriter", name := "toByteArray", desc := "()[B" } : Jvm.MethodName)).before a0 Z = true := hw _ (List.mem_of_getElem? (i := 71) rfl)
theorem ww72 {Z : State} {a0 : Array Value} (hw : ∀ d ∈ tables_1, d.before a0 Z = true) : (Jvm.Cond.declares ({ cls := "com/example/doseline/doseline/fhir/JsonWriter", name := "toByteArray", desc := "()[B" } : Jvm.MethodName)).before a0 Z = true := hw _ (List.mem_of_getElem? (i := 72) rfl)
theorem ww73 {Z : State} {a0 : Array Value} (hw : ∀ d ∈ tables_1, d.before a0 Z = true) : (Jvm.Cond.instanceMethod ({ cls := "com/example/doseline/doseline/fhir/JsonWriter", name := "toByteArray", desc := "()[B" } : Jvm.MethodName)).before a0 Z = true := hw _ (List.mem_of_getElem? (i := 73) rfl)
theorem ww74 {Z : State} {a0 : Array Value} (hw : ∀ d ∈ tables_1, d.before a0 Z = true) : (Jvm.Cond.selects "com/example/doseline/doseline/fhir/JsonWriter" ({ cls := "com/example/doseline/doseline/fhir/JsonWriter", name := "toByteArray", desc := "()[B" } : Jvm.MethodName) ({ cls := "com/example/doseline/doseline/fhir/JsonWriter", name := "toByteArray", desc := "()[B" } : Jvm.MethodName)).before a0 Z = true := hw _ (List.mem_of_getElem? (i := 74) rfl)
theorem ww75 {Z : State} {a0 : Array Value} (hw : ∀ d ∈ tables_1, d.before a0 Z = true) : (Jvm.Cond.code ({ cls := "com/example/doseline/doseline/fhir/JsonWriter", name := "toByteArray", desc := "()[B" } : Jvm.MethodName) prog_96_method_20_code (1 : Nat) (Option.some (Jvm.ClassFile.FieldType.array Jvm.ClassFile.FieldType.byte))).before a0 Z = true := hw _ (List.mem_of_getElem? (i := 75) rfl)
theorem ww76 {Z : State} {a0 : Array Value} (hw : ∀ d ∈ tables_1, d.before a0 Z = true) : (Jvm.Cond.methodLink "com/example/doseline/doseline/fhir/JsonWriterToByteArrayPinLaw" (32 : Nat) ({ cls := "com/example/doseline/doseline/fhir/JsonWriterToByteArrayPinLaw", name := "same", desc := "([B[BI)Z" } : Jvm.MethodName)).before a0 Z = true := hw _ (List.mem_of_getElem? (i := 76) rfl)
theorem ww77 {Z : State} {a0 : Array Value} (hw : ∀ d ∈ tables_1, d.before a0 Z = true) : (Jvm.Cond.static ({ cls := "com/example/doseline/doseline/fhir/JsonWriterToByteArrayPinLaw", name := "same", desc := "([B[BI)Z" } : Jvm.MethodName)).before a0 Z = true := hw _ (List.mem_of_getElem? (i := 77) rfl)
theorem ww78 {Z : State} {a0 : Array Value} (hw : ∀ d ∈ tables_1, d.before a0 Z = true) : (Jvm.Cond.initialized "com/example/doseline/doseline/fhir/JsonWriterToByteArrayPinLaw").before a0 Z = true := hw _ (List.mem_of_getElem? (i := 78) rfl)
theorem ww79 {Z : State} {a0 : Array Value} (hw : ∀ d ∈ tables_1, d.before a0 Z = true) : (Jvm.Cond.code ({ cls := "com/example/doseline/doseline/fhir/JsonWriterToByteArrayPinLaw", name := "same", desc := "([B[BI)Z" } : Jvm.MethodName) method_3_code (3 : Nat) (Option.some Jvm.ClassFile.FieldType.boolean)).before a0 Z = true := hw _ (List.mem_of_getElem? (i := 79) rfl)
theorem ww80 {Z : State} {a0 : Array Value} (hw : ∀ d ∈ tables_1, d.before a0 Z = true) : (Jvm.Cond.methodLink "com/example/doseline/doseline/fhir/JsonWriterToByteArrayPinLaw" (7 : Nat) ({ cls := "com/example/doseline/doseline/fhir/JsonWriterToByteArrayPinLaw", name := "at", desc := "([B[BII)Z" } : Jvm.MethodName)).before a0 Z = true := hw _ (List.mem_of_getElem? (i := 80) rfl)
theorem ww81 {Z : State} {a0 : Array Value} (hw : ∀ d ∈ tables_1, d.before a0 Z = true) : (Jvm.Cond.static ({ cls := "com/example/doseline/doseline/fhir/JsonWriterToByteArrayPinLaw", name := "at", desc := "([B[BII)Z" } : Jvm.MethodName)).before a0 Z = true := hw _ (List.mem_of_getElem? (i := 81) rfl)
theorem ww82 {Z : State} {a0 : Array Value} (hw : ∀ d ∈ tables_1, d.before a0 Z = true) : (Jvm.Cond.code ({ cls := "com/example/doseline/doseline/fhir/JsonWriterToByteArrayPinLaw", name := "at", desc := "([B[BII)Z" } : Jvm.MethodName) method_2_code (4 : Nat) (Option.some Jvm.ClassFile.FieldType.boolean)).before a0 Z = true := hw _ (List.mem_of_getElem? (i := 82) rfl)
theorem ww83 {Z : State} {a0 : Array Value} (hw : ∀ d ∈ tables_1, d.before a0 Z = true) : (Jvm.Cond.methodLink "com/example/doseline/doseline/fhir/JsonWriterToByteArrayPinLaw" (36 : Nat) ({ cls := "com/example/doseline/doseline/fhir/JsonWriter", name := "clear", desc := "()V" } : Jvm.MethodName)).before a0 Z = true := hw _ (List.mem_of_getElem? (i := 83) rfl)
theorem ww84 {Z : State} {a0 : Array Value} (hw : ∀ d ∈ tables_1, d.before a0 Z = true) : (Jvm.Cond.declares ({ cls := "com/example/doseline/doseline/fhir/JsonWriter", name := "clear", desc := "()V" } : Jvm.MethodName)).before a0 Z = true := hw _ (List.mem_of_getElem? (i := 84) rfl)
theorem ww85 {Z : State} {a0 : Array Value} (hw : ∀ d ∈ tables_1, d.before a0 Z = true) : (Jvm.Cond.instanceMethod ({ cls := "com/example/doseline/doseline/fhir/JsonWriter", name := "clear", desc := "()V" } : Jvm.MethodName)).before a0 Z = true := hw _ (List.mem_of_getElem? (i := 85) rfl)
theorem ww86 {Z : State} {a0 : Array Value} (hw : ∀ d ∈ tables_1, d.before a0 Z = true) : (Jvm.Cond.selects "com/example/doseline/doseline/fhir/JsonWriter" ({ cls := "com/example/doseline/doseline/fhir/JsonWriter", name := "clear", desc := "()V" } : Jvm.MethodName) ({ cls := "com/example/doseline/doseline/fhir/JsonWriter", name := "clear", desc := "()V" } : Jvm.MethodName)).before a0 Z = true := hw _ (List.mem_of_getElem? (i := 86) rfl)
theorem ww87 {Z : State} {a0 : Array Value} (hw : ∀ d ∈ tables_1, d.before a0 Z = true) : (Jvm.Cond.code ({ cls := "com/example/doseline/doseline/fhir/JsonWriter", name := "clear", desc := "()V" } : Jvm.MethodName) prog_96_method_5_code (1 : Nat) (Option.none : Option Jvm.ClassFile.FieldType)).before a0 Z = true := hw _ (List.mem_of_getElem? (i := 87) rfl)
theorem ww88 {Z : State} {a0 : Array Value} (hw : ∀ d ∈ tables_1, d.before a0 Z = true) : (Jvm.Cond.methodLink "java/util/Arrays" (310 : Nat) ({ cls := "[B", name := "clone", desc := "()Ljava/lang/Object;" } : Jvm.MethodName)).before a0 Z = true := hw _ (List.mem_of_getElem? (i := 88) rfl)
theorem ww89 {Z : State} {a0 : Array Value} (hw : ∀ d ∈ tables_1, d.before a0 Z = true) : (Jvm.Cond.sameMethod "[B" "java/lang/Object" "clone" "()Ljava/lang/Object;").before a0 Z = true := hw _ (List.mem_of_getElem? (i := 89) rfl)
theorem ww91 {Z : State} {a0 : Array Value} (hw : ∀ d ∈ tables_1, d.before a0 Z = true) : (Jvm.Cond.instanceMethod ({ cls := "java/lang/Object", name := "clone", desc := "()Ljava/lang/Object;" } : Jvm.MethodName)).before a0 Z = true := hw _ (List.mem_of_getElem? (i := 91) rfl)
theorem ww92 {Z : State} {a0 : Array Value} (hw : ∀ d ∈ tables_1, d.before a0 Z = true) : (Jvm.Cond.selects "[B" ({ cls := "[B", name := "clone", desc := "()Ljava/lang/Object;" } : Jvm.MethodName) ({ cls := "java/lang/Object", name := "clone", desc := "()Ljava/lang/Object;" } : Jvm.MethodName)).before a0 Z = true := hw _ (List.mem_of_getElem? (i := 92) rfl)
theorem ww93 {Z : State} {a0 : Array Value} (hw : ∀ d ∈ tables_1, d.before a0 Z = true) : (Jvm.Cond.native ({ cls := "java/lang/Object", name := "clone", desc := "()Ljava/lang/Object;" } : Jvm.MethodName)).before a0 Z = true := hw _ (List.mem_of_getElem? (i := 93) rfl)
theorem ww94 {Z : State} {a0 : Array Value} (hw : ∀ d ∈ tables_1, d.before a0 Z = true) : (Jvm.Cond.castable "[B" "java/lang/Cloneable").before a0 Z = true := hw _ (List.mem_of_getElem? (i := 94) rfl)
theorem ww95 {Z : State} {a0 : Array Value} (hw : ∀ d ∈ tables_1, d.before a0 Z = true) : (Jvm.Cond.classLink "java/util/Arrays" (311 : Nat) "[B").before a0 Z = true := hw _ (List.mem_of_getElem? (i := 95) rfl)
/-! the plain law -/
def own_max (a b : Int32) : Int32 := if a < b then b else a
def own_min (a b : Int32) : Int32 := if b < a then b else a
theorem own_arvn {Z : State} {h : Heap} {a : Addr} {k : ClassId} {ty : FieldType} {n : Int32} {vs : List Value} {dv : Value} (V : Arv Z h a k ty n vs dv) : ¬ n < 0 := by obtain ⟨_, _, _, _, q, _⟩ := V; exact q
theorem own_nn {n : Int32} (h : ¬ n < 0) : 0 ≤ n.toInt ∧ (n.toNatClampNeg : Int) = n.toInt := by
  rw [Int32.lt_iff_toInt_lt] at h
  have e0 : (0 : Int32).toInt = 0 := rfl
  have e : n.toNatClampNeg = n.toInt.toNat := rfl
  omega
theorem own_neOr {x b b' : Addr} {h : Heap} (hb : b' = b ∨ h.size ≤ b') (hn : x ≠ b) (hl : x < h.size) : x ≠ b' := by
  rcases hb with q | q
  · rw [q]; exact hn
  · exact Nat.ne_of_lt (Nat.lt_of_lt_of_le hl q)
theorem own_orTr {b b' b'' : Addr} {n n' : Nat} (h1 : b' = b ∨ n ≤ b') (h2 : b'' = b' ∨ n' ≤ b'') (hn : n ≤ n') : b'' = b ∨ n ≤ b'' := by
  rcases h2 with q | q
  · rw [q]; exact h1
  · exact Or.inr (Nat.le_trans hn q)
theorem own_again (y : Int32) : (y.toInt8.toInt32).toInt8.toInt32 = y.toInt8.toInt32 := by
  apply Int32.toInt_inj.mp
  have a := c_i2b y
  have b := c_i2b y.toInt8.toInt32
  omega
/-- there is room already -/
theorem own_roomle {N l n : Int32} {r : List Value} {L m : Nat} (hL : l.toInt = L) (hm : n.toInt = m) (hLm : L ≤ 8 ∧ m ≤ 8) (h0 : ¬ N < 0) (hN : N.toInt ≤ 15) (hl : r.length + L = N.toNatClampNeg) (h : ¬ (N - l) < n) : m ≤ r.length := by
  have a := own_nn h0
  have s := c_isub N l
  have b1 := Int32.le_toInt (N - l)
  have b2 := Int32.toInt_lt (N - l)
  rw [Int32.lt_iff_toInt_lt] at h
  omega
/-- the new length -/
theorem own_grow {N l n q : Int32} {r : List Value} {L m : Nat} (hL : l.toInt = L) (hm : n.toInt = m) (hq : q.toInt = L + m) (hLm : L + m ≤ 8) (h0 : ¬ N < 0) (hN : N.toInt ≤ 15) (hl : r.length + L = N.toNatClampNeg) (h : (N - l) < n) :
    ¬ own_max (N * (2 : Int32)) q < 0 ∧ (own_max (N * (2 : Int32)) q).toNatClampNeg ≤ 15 ∧ (own_max (N * (2 : Int32)) q).toInt ≤ 15 ∧ N.toNatClampNeg ≤ (own_max (N * (2 : Int32)) q).toNatClampNeg ∧ L + m ≤ (own_max (N * (2 : Int32)) q).toNatClampNeg := by
  have a := own_nn h0
  have s := c_isub N l
  have b1 := Int32.le_toInt (N - l)
  have b2 := Int32.toInt_lt (N - l)
  rw [Int32.lt_iff_toInt_lt] at h
  have e2 : (2 : Int32).toInt = 2 := rfl
  have t := c_imul N 2
  rw [e2] at t
  have b3 := Int32.le_toInt (N * 2)
  have b4 := Int32.toInt_lt (N * 2)
  have hmx : (own_max (N * (2 : Int32)) q).toInt = (if (N * 2).toInt < q.toInt then q.toInt else (N * 2).toInt) := by
    unfold own_max
    by_cases c : (N * 2) < q
    · rw [if_pos c, if_pos (Int32.lt_iff_toInt_lt.mp c)]
    · rw [if_neg c, if_neg (fun z => c (Int32.lt_iff_toInt_lt.mpr z))]
  have e : (own_max (N * (2 : Int32)) q).toNatClampNeg = (own_max (N * (2 : Int32)) q).toInt.toNat := rfl
  have e0 : (0 : Int32).toInt = 0 := rfl
  rw [Int32.lt_iff_toInt_lt, e]
  generalize (own_max (N * (2 : Int32)) q).toInt = M at *
  split at hmx <;> refine ⟨?_, ?_, ?_, ?_, ?_⟩ <;> omega
theorem own_inN {N l : Int32} {r : List Value} {L : Nat} (hL : l.toInt = L) (h0 : ¬ N < 0) (hl : r.length + L = N.toNatClampNeg) (h1 : 1 ≤ r.length) : ¬ l < 0 ∧ l < N := by
  have a := own_nn h0
  have e0 : (0 : Int32).toInt = 0 := rfl
  rw [Int32.lt_iff_toInt_lt, Int32.lt_iff_toInt_lt]
  omega
theorem own_minv {N M : Int32} (h0 : ¬ N < 0) (h1 : ¬ M < 0) : ¬ own_min N M < 0 ∧ (own_min N M).toNatClampNeg = min N.toNatClampNeg M.toNatClampNeg := by
  have a := own_nn h0
  have b := own_nn h1
  unfold own_min
  by_cases c : M < N
  · rw [if_pos c]
    rw [Int32.lt_iff_toInt_lt] at c
    exact ⟨h1, by omega⟩
  · rw [if_neg c]
    rw [Int32.lt_iff_toInt_lt] at c
    exact ⟨h0, by omega⟩
theorem own_rangeget (vs : List Value) (d : Value) : ∀ k, k ≤ vs.length → (List.range k).map (fun i => vs.getD (0 + i) d) = vs.take k := by
  intro k hk
  apply List.ext_getElem
  · simp; omega
  · intro i h1 h2
    simp at h1 h2
    simp [List.getD, List.getElem?_eq_getElem (show i < vs.length by omega)]
theorem own_cpl (vs : List Value) (d : Value) (n m : Nat) (hn : vs.length = n) : List.take 0 (List.replicate m d) ++ (List.range (min n m)).map (fun i => vs.getD (0 + i) d) ++ (List.replicate m d).drop (0 + min n m) = vs.take m ++ List.replicate (m - n) d := by
  rw [own_rangeget vs d _ (by omega), List.take_zero, List.nil_append, Nat.zero_add, List.drop_replicate]
  by_cases h : n ≤ m
  · rw [Nat.min_eq_left h, List.take_of_length_le (by omega), List.take_of_length_le (by omega)]
  · rw [Nat.min_eq_right (by omega), show m - m = 0 by omega, show m - n = 0 by omega]
theorem own_ex1 {r : List Value} (h : 1 ≤ r.length) : ∃ x0 t, r = x0 :: t := by
  match r, h with
  | x0 :: t, _ => exact ⟨x0, t, rfl⟩
theorem own_ex2 {r : List Value} (h : 2 ≤ r.length) : ∃ x0 x1 t, r = x0 :: x1 :: t := by
  match r, h with
  | x0 :: x1 :: t, _ => exact ⟨x0, x1, t, rfl⟩
theorem own_ex3 {r : List Value} (h : 3 ≤ r.length) : ∃ x0 x1 x2 t, r = x0 :: x1 :: x2 :: t := by
  match r, h with
  | x0 :: x1 :: x2 :: t, _ => exact ⟨x0, x1, x2, t, rfl⟩
theorem own_cap (y : Int32) : ¬ (y &&& (15 : Int32)) < 0 ∧ (y &&& (15 : Int32)).toNatClampNeg ≤ 15 ∧ (y &&& (15 : Int32)).toInt ≤ 15 := by
  have a := c_and y 15 (by decide)
  have e15 : (15 : Int32).toInt = 15 := rfl
  have e0 : (0 : Int32).toInt = 0 := rfl
  have e : (y &&& (15 : Int32)).toNatClampNeg = (y &&& (15 : Int32)).toInt.toNat := rfl
  rw [Int32.lt_iff_toInt_lt]
  omega
theorem own_pn8 : plainFor (⟨"java/lang/Math", "max", "(II)I"⟩ : MethodName) = true := Jvm.Free.JP.mathPlain rfl (by decide +kernel)
theorem d8_0 : decode jdk_29_method_65_code 0 = .ok (.iload_n 0, 1) := by decide +kernel
theorem d8_1 : decode jdk_29_method_65_code 1 = .ok (.iload_n 1, 1) := by decide +kernel
theorem d8_2 : decode jdk_29_method_65_code 2 = .ok (.if_icmp .lt 7, 3) := by decide +kernel
theorem d8_9 : decode jdk_29_method_65_code 9 = .ok (.iload_n 1, 1) := by decide +kernel
theorem d8_10 : decode jdk_29_method_65_code 10 = .ok (.ireturn, 1) := by decide +kernel
theorem d8_5 : decode jdk_29_method_65_code 5 = .ok (.iload_n 0, 1) := by decide +kernel
theorem d8_6 : decode jdk_29_method_65_code 6 = .ok (.goto 4, 3) := by decide +kernel
theorem own_ef8_own_rm_max (m : MethodId) (y0 : Int32) (y1 : Int32) : entryFrame m #[(.int y0), (.int y1)] 2 = mkF m 0 #[.val (.int y0), .val (.int y1)] [] := by first | (simp [entryFrame, mkF, argsToLocals, Value.category]; done) | rfl
set_option maxRecDepth 65536 in
set_option maxHeartbeats 40000000 in
theorem own_rm_max (l : Launch) (Z : State) (a0 : Array Value) (hw : ∀ d ∈ tables_1, d.before a0 Z = true) (p0 p1 : Int32) (h0 : Heap) (n0 : Nat) (Z0 : n0 ≤ h0.size)  :
    own_Met l Z (⟨"java/lang/Math", "max", "(II)I"⟩ : MethodName) jdk_29_method_65_code 2 (some .int) [] ({ frames := 0, cells := 0, slots := 0, locals := 0 } : Room) #[(.int p0), (.int p1)] h0 (fun v h L => v = some (.int (own_max p0 p1)) ∧ Fr n0 L ∧ h = h0) := by
  refine own_met own_pn8 ?_
  intro p e s m below meth c s₁ hx hby hml hown hnm hret hlk hZ X0 hE0
  have N0 := Fr.nil n0
  refine own_cast (own_ef8_own_rm_max m p0 p1) ?_
  refine own_iloadN (n := 1) X0 hx (hb hby d8_0) rfl rfl ?_
  refine own_iloadN (n := 2) X0 hx (hb hby d8_1) rfl rfl ?_
  by_cases hc2_1 : p0 < p1
  · skip
    refine own_icmpYes (n := 9) X0 hx (hb hby d8_2) (tlt hc2_1).1 (by decide) (by decide) ?_
    refine own_iloadN (n := 10) X0 hx (hb hby d8_9) rfl rfl ?_
    refine own_retI X0 hx hlk hret hE0 (hb hby d8_10) (by decide) (by decide) ?_
    exact ⟨by simp [own_max, hc2_1], N0, rfl⟩
  · skip
    refine own_icmpNo (n := 5) X0 hx (hb hby d8_2) (flt hc2_1).1 rfl ?_
    refine own_iloadN (n := 6) X0 hx (hb hby d8_5) rfl rfl ?_
    refine own_goto (n := 10) X0 hx (hb hby d8_6) (by decide) (by decide) ?_
    refine own_retI X0 hx hlk hret hE0 (hb hby d8_10) (by decide) (by decide) ?_
    exact ⟨by simp [own_max, hc2_1], N0, rfl⟩
theorem own_pn10 : plainFor (⟨"java/lang/Math", "min", "(II)I"⟩ : MethodName) = true := Jvm.Free.JP.mathPlain rfl (by decide +kernel)
theorem d10_0 : decode jdk_29_method_69_code 0 = .ok (.iload_n 0, 1) := by decide +kernel
theorem d10_1 : decode jdk_29_method_69_code 1 = .ok (.iload_n 1, 1) := by decide +kernel
theorem d10_2 : decode jdk_29_method_69_code 2 = .ok (.if_icmp .gt 7, 3) := by decide +kernel
theorem d10_9 : decode jdk_29_method_69_code 9 = .ok (.iload_n 1, 1) := by decide +kernel
theorem d10_10 : decode jdk_29_method_69_code 10 = .ok (.ireturn, 1) := by decide +kernel
theorem d10_5 : decode jdk_29_method_69_code 5 = .ok (.iload_n 0, 1) := by decide +kernel
theorem d10_6 : decode jdk_29_method_69_code 6 = .ok (.goto 4, 3) := by decide +kernel
theorem own_ef10_own_rm_min (m : MethodId) (y0 : Int32) (y1 : Int32) : entryFrame m #[(.int y0), (.int y1)] 2 = mkF m 0 #[.val (.int y0), .val (.int y1)] [] := by first | (simp [entryFrame, mkF, argsToLocals, Value.category]; done) | rfl
set_option maxRecDepth 65536 in
set_option maxHeartbeats 40000000 in
theorem own_rm_min (l : Launch) (Z : State) (a0 : Array Value) (hw : ∀ d ∈ tables_1, d.before a0 Z = true) (p0 p1 : Int32) (h0 : Heap) (n0 : Nat) (Z0 : n0 ≤ h0.size)  :
    own_Met l Z (⟨"java/lang/Math", "min", "(II)I"⟩ : MethodName) jdk_29_method_69_code 2 (some .int) [] ({ frames := 0, cells := 0, slots := 0, locals := 0 } : Room) #[(.int p0), (.int p1)] h0 (fun v h L => v = some (.int (own_min p0 p1)) ∧ Fr n0 L ∧ h = h0) := by
  refine own_met own_pn10 ?_
  intro p e s m below meth c s₁ hx hby hml hown hnm hret hlk hZ X0 hE0
  have N0 := Fr.nil n0
  refine own_cast (own_ef10_own_rm_min m p0 p1) ?_
  refine own_iloadN (n := 1) X0 hx (hb hby d10_0) rfl rfl ?_
  refine own_iloadN (n := 2) X0 hx (hb hby d10_1) rfl rfl ?_
  by_cases hc2_1 : p1 < p0
  · skip
    refine own_icmpYes (n := 9) X0 hx (hb hby d10_2) (tlt hc2_1).2.2.1 (by decide) (by decide) ?_
    refine own_iloadN (n := 10) X0 hx (hb hby d10_9) rfl rfl ?_
    refine own_retI X0 hx hlk hret hE0 (hb hby d10_10) (by decide) (by decide) ?_
    exact ⟨by simp [own_min, hc2_1], N0, rfl⟩
  · skip
    refine own_icmpNo (n := 5) X0 hx (hb hby d10_2) (flt hc2_1).2.2.1 rfl ?_
    refine own_iloadN (n := 6) X0 hx (hb hby d10_5) rfl rfl ?_
    refine own_goto (n := 10) X0 hx (hb hby d10_6) (by decide) (by decide) ?_
    refine own_retI X0 hx hlk hret hE0 (hb hby d10_10) (by decide) (by decide) ?_
    exact ⟨by simp [own_min, hc2_1], N0, rfl⟩
theorem own_pn18 : plainFor (⟨"com/example/doseline/doseline/fhir/JsonWriter", "clear", "()V"⟩ : MethodName) = true := plainFor_of_name (by first | (simp [plainName, overriddenIn]; done) | decide +kernel)
theorem d18_0 : decode prog_96_method_5_code 0 = .ok (.aload_n 0, 1) := by decide +kernel
theorem d18_1 : decode prog_96_method_5_code 1 = .ok (.iconst 0, 1) := by decide +kernel
theorem d18_2 : decode prog_96_method_5_code 2 = .ok (.putfield 48, 3) := by decide +kernel
theorem d18_5 : decode prog_96_method_5_code 5 = .ok (.aload_n 0, 1) := by decide +kernel
theorem d18_6 : decode prog_96_method_5_code 6 = .ok (.iconst 0, 1) := by decide +kernel
theorem d18_7 : decode prog_96_method_5_code 7 = .ok (.putfield 41, 3) := by decide +kernel
theorem d18_10 : decode prog_96_method_5_code 10 = .ok (.return_, 1) := by decide +kernel
theorem own_ef18_own_rm_clear (m : MethodId) (y0 : Addr) : entryFrame m #[(.ref y0)] 1 = mkF m 0 #[.val (.ref y0)] [] := by first | (simp [entryFrame, mkF, argsToLocals, Value.category]; done) | rfl
set_option maxRecDepth 65536 in
set_option maxHeartbeats 40000000 in
theorem own_rm_clear (l : Launch) (Z : State) (a0 : Array Value) (hw : ∀ d ∈ tables_1, d.before a0 Z = true) (a b : Addr) (ln ae : Int32) (h0 : Heap) (n0 : Nat) (Z0 : n0 ≤ h0.size) (E0 : Exa Z h0 a "com/example/doseline/doseline/fhir/JsonWriter") (FL : Fld Z h0 a "com/example/doseline/doseline/fhir/JsonWriter" "length" "I" (.int ln)) (FA : Fld Z h0 a "com/example/doseline/doseline/fhir/JsonWriter" "afterElement" "Z" (.int ae)) (FB : Fld Z h0 a "com/example/doseline/doseline/fhir/JsonWriter" "bytes" "[B" (.ref b)) (g_a : n0 ≤ a) :
    own_Met l Z (⟨"com/example/doseline/doseline/fhir/JsonWriter", "clear", "()V"⟩ : MethodName) prog_96_method_5_code 1 none [] ({ frames := 0, cells := 0, slots := 0, locals := 0 } : Room) #[(.ref a)] h0 (fun v h L => v = none ∧ Fr n0 L ∧ Keep h0 h [a] ∧ Exa Z h a "com/example/doseline/doseline/fhir/JsonWriter" ∧ Fld Z h a "com/example/doseline/doseline/fhir/JsonWriter" "bytes" "[B" (.ref b) ∧ Fld Z h a "com/example/doseline/doseline/fhir/JsonWriter" "length" "I" (.int (0 : Int32)) ∧ Fld Z h a "com/example/doseline/doseline/fhir/JsonWriter" "afterElement" "Z" (.int (0 : Int32))) := by
  refine own_met own_pn18 ?_
  intro p e s m below meth c s₁ hx hby hml hown hnm hret hlk hZ X0 hE0
  have N0 := Fr.nil n0
  refine own_cast (own_ef18_own_rm_clear m a) ?_
  refine own_aloadN (n := 1) X0 hx (hb hby d18_0) rfl rfl rfl ?_
  refine own_iconst (n := 2) (z := (0 : Int32)) X0 hx (hb hby d18_1) rfl rfl ?_
  refine own_putF (n := 5) X0 hx hZ hown (host := "") (Or.inl (ww35 hw)) Via.refl hE0 FL E0 (Or.inl (ww36 hw)) (ww2 hw) (ty := .int) (by decide) rfl rfl (hb hby d18_2) rfl ?_
  intro T1 h1 X1 e1 W1
  have F_2 := FL.same W1
  have N1 := Fr.snoc X1 N0 g_a
  have E_3 := E0.wr W1
  have F_4 := FA.other W1 (Or.inr (slot_ne (Or.inl (ww26 hw)) (Or.inl (ww36 hw)) (by decide) (t := .boolean) (t' := .int) (by decide) (by decide)))
  have F_5 := FB.other W1 (Or.inr (slot_ne (Or.inl (ww11 hw)) (Or.inl (ww36 hw)) (by decide) (t := (.array .byte)) (t' := .int) (by decide) (by decide)))
  have K_6 := (Keep.refl h0 [a]).wr W1 (Or.inl (by first | exact List.mem_cons_self | exact List.mem_cons_of_mem _ List.mem_cons_self | exact List.mem_cons_of_mem _ (List.mem_cons_of_mem _ List.mem_cons_self) | (simp; done)))
  have Z_7 : n0 ≤ h1.size := by rw [W1.size]; exact Z0
  refine own_aloadN (n := 6) X1 hx (hb hby d18_5) rfl rfl rfl ?_
  refine own_iconst (n := 7) (z := (0 : Int32)) X1 hx (hb hby d18_6) rfl rfl ?_
  refine own_putFN (n := 10) X1 hx hZ hown (ww25 hw) Via.refl e1 F_4 E_3 (Or.inl (ww26 hw)) (ww2 hw) (ty := .boolean) (v' := (.int (0 : Int32))) (by decide) rfl (by decide) (hb hby d18_7) rfl ?_
  intro T8 h8 X8 e8 W8
  have F_9 := F_4.same W8
  have N8 := Fr.snoc X8 N1 g_a
  have E_10 := E_3.wr W8
  have F_11 := F_5.other W8 (Or.inr (slot_ne (Or.inl (ww11 hw)) (Or.inl (ww26 hw)) (by decide) (t := (.array .byte)) (t' := .boolean) (by decide) (by decide)))
  have K_12 := K_6.wr W8 (Or.inl (by first | exact List.mem_cons_self | exact List.mem_cons_of_mem _ List.mem_cons_self | exact List.mem_cons_of_mem _ (List.mem_cons_of_mem _ List.mem_cons_self) | (simp; done)))
  have F_13 := F_2.other W8 (Or.inr (slot_ne (Or.inl (ww36 hw)) (Or.inl (ww26 hw)) (by decide) (t := .int) (t' := .boolean) (by decide) (by decide)))
  have Z_14 : n0 ≤ h8.size := by rw [W8.size]; exact Z_7
  refine own_retV X8 hx hlk hret e8 (hb hby d18_10) (by decide) (by decide) ?_
  exact ⟨rfl, N8, K_12, E_10, F_11, F_13, F_9⟩
theorem own_pn1 : plainFor (⟨"com/example/doseline/doseline/fhir/JsonWriter", "<init>", "(I)V"⟩ : MethodName) = true := plainFor_of_name (by first | (simp [plainName, overriddenIn]; done) | decide +kernel)
theorem d1_0 : decode prog_96_method_1_code 0 = .ok (.aload_n 0, 1) := by decide +kernel
theorem d1_1 : decode prog_96_method_1_code 1 = .ok (.invokespecial 1, 3) := by decide +kernel
theorem d1_4 : decode prog_96_method_1_code 4 = .ok (.aload_n 0, 1) := by decide +kernel
theorem d1_5 : decode prog_96_method_1_code 5 = .ok (.iload_n 1, 1) := by decide +kernel
theorem d1_6 : decode prog_96_method_1_code 6 = .ok (.newarray .byte, 2) := by decide +kernel
theorem d1_8 : decode prog_96_method_1_code 8 = .ok (.putfield 7, 3) := by decide +kernel
theorem d1_11 : decode prog_96_method_1_code 11 = .ok (.return_, 1) := by decide +kernel
theorem own_ef1_own_rm_init (m : MethodId) (y0 : Addr) (y1 : Int32) : entryFrame m #[(.ref y0), (.int y1)] 2 = mkF m 0 #[.val (.ref y0), .val (.int y1)] [] := by first | (simp [entryFrame, mkF, argsToLocals, Value.category]; done) | rfl
set_option maxRecDepth 65536 in
set_option maxHeartbeats 40000000 in
theorem own_rm_init (l : Launch) (Z : State) (a0 : Array Value) (hw : ∀ d ∈ tables_1, d.before a0 Z = true) (a : Addr) (p1 : Int32) (h0 : Heap) (n0 : Nat) (Z0 : n0 ≤ h0.size) (E0 : Exa Z h0 a "com/example/doseline/doseline/fhir/JsonWriter") (FB : Fld Z h0 a "com/example/doseline/doseline/fhir/JsonWriter" "bytes" "[B" .null) (FL : Fld Z h0 a "com/example/doseline/doseline/fhir/JsonWriter" "length" "I" (.int (0 : Int32))) (FA : Fld Z h0 a "com/example/doseline/doseline/fhir/JsonWriter" "afterElement" "Z" (.int (0 : Int32))) (hp0 : ¬ p1 < 0) (hpc : p1.toNatClampNeg ≤ 15) (g_a : n0 ≤ a) :
    own_Met l Z (⟨"com/example/doseline/doseline/fhir/JsonWriter", "<init>", "(I)V"⟩ : MethodName) prog_96_method_1_code 2 none [] ({ frames := 1, cells := 1, slots := 15, locals := 12 } : Room) #[(.ref a), (.int p1)] h0 (fun v h L => ∃ (b : Addr) (k : ClassId), v = none ∧ Fr n0 L ∧ Keep h0 h [a] ∧ Exa Z h a "com/example/doseline/doseline/fhir/JsonWriter" ∧ Fld Z h a "com/example/doseline/doseline/fhir/JsonWriter" "bytes" "[B" (.ref b) ∧ Fld Z h a "com/example/doseline/doseline/fhir/JsonWriter" "length" "I" (.int (0 : Int32)) ∧ Fld Z h a "com/example/doseline/doseline/fhir/JsonWriter" "afterElement" "Z" (.int (0 : Int32)) ∧ Arv Z h b k .byte p1 (List.replicate p1.toNatClampNeg (.int (0 : Int32))) (.int (0 : Int32)) ∧ Exa Z h b "[B" ∧ h0.size ≤ b ∧ n0 ≤ b) := by
  refine own_met own_pn1 ?_
  intro p e s m below meth c s₁ hx hby hml hown hnm hret hlk hZ X0 hE0
  have N0 := Fr.nil n0
  refine own_cast (own_ef1_own_rm_init m a p1) ?_
  refine own_aloadN (n := 1) X0 hx (hb hby d1_0) rfl rfl rfl ?_
  refine own_initO (n := 4) X0 hx hZ hown (ww7 hw) (ww8 hw) (ww9 hw) hE0 (by rw [hml]; rfl) (hb hby d1_1) (Nat.le_of_ble_eq_true rfl) (Nat.le_of_ble_eq_true rfl) rfl ?_
  intro T1 X1 e1
  refine own_aloadN (n := 5) X1 hx (hb hby d1_4) rfl rfl rfl ?_
  refine own_iloadN (n := 6) X1 hx (hb hby d1_5) rfl rfl ?_
  refine own_newA (n := 8) X1 hx hZ own_an_byte (ww0 hw) e1 (hb hby d1_6) hp0 (cap := 15) hpc (by decide) (by decide) (by decide) rfl ?_
  intro T2 h2 k2 b2 g2 X2 e2 E2 A2 B2
  have g_b2 : n0 ≤ b2 := Nat.le_trans Z0 (Nat.le_of_eq g2.symm)
  have sz_b2 : h0.size ≤ b2 := Nat.le_trans (Keep.refl h0 [a]).1 (Nat.le_of_eq g2.symm)
  have ne_a_b2 : a ≠ b2 := own_ne E0.lt g2
  have E_3 := E0.ext E2
  have F_4 := FB.ext E2
  have F_5 := FL.ext E2
  have F_6 := FA.ext E2
  have K_7 := (Keep.refl h0 [a]).ext E2
  have Z_8 : n0 ≤ h2.size := Nat.le_trans Z0 E2.1
  have V2 : Arv Z h2 b2 k2 .byte p1 [] (.int (0 : Int32)) := Arv.new A2 hp0
  have V2p : Arv Z h2 b2 k2 .byte p1 (List.replicate p1.toNatClampNeg (.int (0 : Int32))) (.int (0 : Int32)) := V2.pad (pad_rep [] (.int (0 : Int32)) p1.toNatClampNeg)
  refine own_putF (n := 11) X2 hx hZ hown (host := "") (Or.inl (ww10 hw)) Via.refl e2 F_4 E_3 (Or.inl (ww11 hw)) (ww2 hw) (ty := (.array .byte)) (by decide) rfl rfl (hb hby d1_8) rfl ?_
  intro T9 h9 X9 e9 W9
  have F_10 := F_4.same W9
  have N9 := Fr.snoc X9 N0 g_a
  have E_11 := E_3.wr W9
  have F_12 := F_5.other W9 (Or.inr (slot_ne (Or.inl (ww36 hw)) (Or.inl (ww11 hw)) (by decide) (t := .int) (t' := (.array .byte)) (by decide) (by decide)))
  have F_13 := F_6.other W9 (Or.inr (slot_ne (Or.inl (ww26 hw)) (Or.inl (ww11 hw)) (by decide) (t := .boolean) (t' := (.array .byte)) (by decide) (by decide)))
  have K_14 := K_7.wr W9 (Or.inl (by first | exact List.mem_cons_self | exact List.mem_cons_of_mem _ List.mem_cons_self | exact List.mem_cons_of_mem _ (List.mem_cons_of_mem _ List.mem_cons_self) | (simp; done)))
  have E_15 := B2.wr W9
  have A_16 := V2p.other W9 (Ne.symm ne_a_b2)
  have Z_17 : n0 ≤ h9.size := by rw [W9.size]; exact Z_8
  refine own_retV X9 hx hlk hret e9 (hb hby d1_11) (by decide) (by decide) ?_
  exact ⟨b2, k2, rfl, N9, K_14, E_11, F_10, F_12, F_13, A_16, E_15, sz_b2, g_b2⟩
theorem own_pn0 : plainFor x = true := plainFor_of_name (by first | (simp [plainName, overriddenIn]; done) | decide +kernel)
theorem own_pd0 : parseMethodDescriptor "(I)V" = some ⟨[.int], none⟩ := by decide +kernel
theorem own_pn11 : plainFor (⟨"com/example/doseline/doseline/fhir/JsonWriter", "value", "([B)V"⟩ : MethodName) = true := plainFor_of_name (by first | (simp [plainName, overriddenIn]; done) | decide +kernel)
theorem d11_0 : decode prog_96_method_12_code 0 = .ok (.aload_n 0, 1) := by decide +kernel
theorem d11_1 : decode prog_96_method_12_code 1 = .ok (.invokevirtual 58, 3) := by decide +kernel
theorem own_pn5 : plainFor (⟨"com/example/doseline/doseline/fhir/JsonWriter", "separate", "()V"⟩ : MethodName) = true := plainFor_of_name (by first | (simp [plainName, overriddenIn]; done) | decide +kernel)
theorem d5_0 : decode prog_96_method_24_code 0 = .ok (.aload_n 0, 1) := by decide +kernel
theorem d5_1 : decode prog_96_method_24_code 1 = .ok (.getfield 41, 3) := by decide +kernel
theorem d5_4 : decode prog_96_method_24_code 4 = .ok (.ifCond .eq 9, 3) := by decide +kernel
theorem d5_13 : decode prog_96_method_24_code 13 = .ok (.return_, 1) := by decide +kernel
theorem own_ef5_own_rm_sep0 (m : MethodId) (y0 : Addr) : entryFrame m #[(.ref y0)] 1 = mkF m 0 #[.val (.ref y0)] [] := by first | (simp [entryFrame, mkF, argsToLocals, Value.category]; done) | rfl
set_option maxRecDepth 65536 in
set_option maxHeartbeats 40000000 in
theorem own_rm_sep0 (l : Launch) (Z : State) (a0 : Array Value) (hw : ∀ d ∈ tables_1, d.before a0 Z = true) (a : Addr) (h0 : Heap) (n0 : Nat) (Z0 : n0 ≤ h0.size) (FA : Fld Z h0 a "com/example/doseline/doseline/fhir/JsonWriter" "afterElement" "Z" (.int (0 : Int32))) :
    own_Met l Z (⟨"com/example/doseline/doseline/fhir/JsonWriter", "separate", "()V"⟩ : MethodName) prog_96_method_24_code 1 none [] ({ frames := 0, cells := 0, slots := 0, locals := 0 } : Room) #[(.ref a)] h0 (fun v h L => v = none ∧ Fr n0 L ∧ h = h0) := by
  refine own_met own_pn5 ?_
  intro p e s m below meth c s₁ hx hby hml hown hnm hret hlk hZ X0 hE0
  have N0 := Fr.nil n0
  refine own_cast (own_ef5_own_rm_sep0 m a) ?_
  refine own_aloadN (n := 1) X0 hx (hb hby d5_0) rfl rfl rfl ?_
  refine own_getF (n := 4) X0 hx hZ hown (host := "") (Or.inl (ww25 hw)) Via.refl hE0 FA (hb hby d5_1) rfl ?_
  intro T1 X1 e1
  refine own_ifYes (n := 13) X1 hx (hb hby d5_4) (teq (by decide : (0 : Int32) = (0 : Int32))).1 (by decide) (by decide) ?_
  refine own_retV X1 hx hlk hret e1 (hb hby d5_13) (by decide) (by decide) ?_
  exact ⟨rfl, N0, rfl⟩
theorem own_pd1 : parseMethodDescriptor "()V" = some ⟨[], none⟩ := by decide +kernel
theorem d11_4 : decode prog_96_method_12_code 4 = .ok (.aload_n 0, 1) := by decide +kernel
theorem d11_5 : decode prog_96_method_12_code 5 = .ok (.aload_n 1, 1) := by decide +kernel
theorem d11_6 : decode prog_96_method_12_code 6 = .ok (.invokevirtual 61, 3) := by decide +kernel
theorem own_pn12 : plainFor (⟨"com/example/doseline/doseline/fhir/JsonWriter", "write", "([B)V"⟩ : MethodName) = true := plainFor_of_name (by first | (simp [plainName, overriddenIn]; done) | decide +kernel)
theorem d12_0 : decode prog_96_method_27_code 0 = .ok (.aload_n 0, 1) := by decide +kernel
theorem d12_1 : decode prog_96_method_27_code 1 = .ok (.aload_n 1, 1) := by decide +kernel
theorem d12_2 : decode prog_96_method_27_code 2 = .ok (.arraylength, 1) := by decide +kernel
theorem d12_3 : decode prog_96_method_27_code 3 = .ok (.invokevirtual 111, 3) := by decide +kernel
theorem own_pn9 : plainFor (⟨"java/util/Arrays", "copyOf", "([BI)[B"⟩ : MethodName) = true := plainFor_of_name (by first | (simp [plainName, overriddenIn]; done) | decide +kernel)
theorem d9_0 : decode jdk_65_method_121_code 0 = .ok (.iload_n 1, 1) := by decide +kernel
theorem d9_1 : decode jdk_65_method_121_code 1 = .ok (.aload_n 0, 1) := by decide +kernel
theorem d9_2 : decode jdk_65_method_121_code 2 = .ok (.arraylength, 1) := by decide +kernel
theorem d9_3 : decode jdk_65_method_121_code 3 = .ok (.if_icmp .ne 11, 3) := by decide +kernel
theorem d9_6 : decode jdk_65_method_121_code 6 = .ok (.aload_n 0, 1) := by decide +kernel
theorem d9_7 : decode jdk_65_method_121_code 7 = .ok (.invokevirtual 310, 3) := by decide +kernel
theorem d9_10 : decode jdk_65_method_121_code 10 = .ok (.checkcast 311, 3) := by decide +kernel
theorem d9_13 : decode jdk_65_method_121_code 13 = .ok (.areturn, 1) := by decide +kernel
theorem d9_14 : decode jdk_65_method_121_code 14 = .ok (.iload_n 1, 1) := by decide +kernel
theorem d9_15 : decode jdk_65_method_121_code 15 = .ok (.newarray .byte, 2) := by decide +kernel
theorem d9_17 : decode jdk_65_method_121_code 17 = .ok (.astore_n 2, 1) := by decide +kernel
theorem d9_18 : decode jdk_65_method_121_code 18 = .ok (.aload_n 0, 1) := by decide +kernel
theorem d9_19 : decode jdk_65_method_121_code 19 = .ok (.iconst 0, 1) := by decide +kernel
theorem d9_20 : decode jdk_65_method_121_code 20 = .ok (.aload_n 2, 1) := by decide +kernel
theorem d9_21 : decode jdk_65_method_121_code 21 = .ok (.iconst 0, 1) := by decide +kernel
theorem d9_22 : decode jdk_65_method_121_code 22 = .ok (.aload_n 0, 1) := by decide +kernel
theorem d9_23 : decode jdk_65_method_121_code 23 = .ok (.arraylength, 1) := by decide +kernel
theorem d9_24 : decode jdk_65_method_121_code 24 = .ok (.iload_n 1, 1) := by decide +kernel
theorem d9_25 : decode jdk_65_method_121_code 25 = .ok (.invokestatic 304, 3) := by decide +kernel
theorem own_pd2 : parseMethodDescriptor "(II)I" = some ⟨[.int, .int], some .int⟩ := by decide +kernel
theorem d9_28 : decode jdk_65_method_121_code 28 = .ok (.invokestatic 150, 3) := by decide +kernel
theorem d9_31 : decode jdk_65_method_121_code 31 = .ok (.aload_n 2, 1) := by decide +kernel
theorem d9_32 : decode jdk_65_method_121_code 32 = .ok (.areturn, 1) := by decide +kernel
theorem own_ef9_own_rm_copy15 (m : MethodId) (y0 : Addr) (y1 : Int32) : entryFrame m #[(.ref y0), (.int y1)] 3 = mkF m 0 #[.val (.ref y0), .val (.int y1), .unset] [] := by first | (simp [entryFrame, mkF, argsToLocals, Value.category]; done) | rfl
set_option maxRecDepth 65536 in
set_option maxHeartbeats 40000000 in
theorem own_rm_copy15 (l : Launch) (Z : State) (a0 : Array Value) (hw : ∀ d ∈ tables_1, d.before a0 Z = true) (a : Addr) (k : ClassId) (N M : Int32) (vs : List Value) (h0 : Heap) (n0 : Nat) (Z0 : n0 ≤ h0.size) (V0 : Arv Z h0 a k .byte N vs (.int (0 : Int32))) (hvl : vs.length = N.toNatClampNeg) (E0 : Exa Z h0 a "[B") (hM0 : ¬ M < 0) (hMc : M.toNatClampNeg ≤ 15) :
    own_Met l Z (⟨"java/util/Arrays", "copyOf", "([BI)[B"⟩ : MethodName) jdk_65_method_121_code 3 (some (.array .byte)) [] ({ frames := 1, cells := 1, slots := 15, locals := 40 } : Room) #[(.ref a), (.int M)] h0 (fun v h L => ∃ (b : Addr) (k' : ClassId), v = some (.ref b) ∧ Fr n0 L ∧ Keep h0 h [] ∧ h0.size ≤ b ∧ n0 ≤ b ∧ Arv Z h b k' .byte M (vs.take M.toNatClampNeg ++ List.replicate (M.toNatClampNeg - N.toNatClampNeg) (.int (0 : Int32))) (.int (0 : Int32)) ∧ Exa Z h b "[B") := by
  refine own_met own_pn9 ?_
  intro p e s m below meth c s₁ hx hby hml hown hnm hret hlk hZ X0 hE0
  have N0 := Fr.nil n0
  refine own_cast (own_ef9_own_rm_copy15 m a M) ?_
  have hN0 := own_arvn V0
  have hmn := own_minv hN0 hM0
  refine own_iloadN (n := 1) X0 hx (hb hby d9_0) rfl rfl ?_
  refine own_aloadN (n := 2) X0 hx (hb hby d9_1) rfl rfl rfl ?_
  refine own_len (n := 3) X0 hx hZ hE0 V0 (hb hby d9_2) rfl ?_
  by_cases hc3_1 : M = N
  · skip
    refine own_icmpNo (n := 6) X0 hx (hb hby d9_3) (teq hc3_1).2 rfl ?_
    refine own_aloadN (n := 7) X0 hx (hb hby d9_6) rfl rfl rfl ?_
    obtain ⟨T2, h2, X2, e2, E2, A2, B2, st2⟩ := cloneH X0 hx hZ hown (ww88 hw) (ww89 hw) (ww93 hw) (ww91 hw) (ww92 hw) (ww94 hw) hE0 (Arv.arh V0) E0 (g := (mkF m 7 #[.val (.ref a), .val (.int M), .unset] [(.ref a)])) rfl (by rw [hml]; rfl) rfl (hb hby d9_7) (by decide) (W := 0) (cap := 15) (by show 2 * 0 + _ ≤ _; exact Nat.le_of_eq rfl) (by decide) (by rw [← hc3_1]; exact hMc) (by decide) (by decide)
    obtain ⟨b2, g2⟩ : ∃ z, z = h0.size := ⟨_, rfl⟩
    rw [← g2] at A2 B2 st2
    have g_b2 : n0 ≤ b2 := Nat.le_trans Z0 (Nat.le_of_eq g2.symm)
    have sz_b2 : h0.size ≤ b2 := Nat.le_trans (Keep.refl h0 []).1 (Nat.le_of_eq g2.symm)
    have ne_a_b2 : a ≠ b2 := own_ne V0.lt g2
    have A_3 := V0.ext E2
    have E_4 := E0.ext E2
    have K_5 := (Keep.refl h0 []).ext E2
    have Z_6 : n0 ≤ h2.size := Nat.le_trans Z0 E2.1
    have V2 : Arv Z h2 b2 k .byte N vs (.int (0 : Int32)) := A2
    refine own_go (T' := T2) (f' := (mkF m 10 #[.val (.ref a), .val (.int M), .unset] [(.ref b2)])) st2 ?_
    refine own_ccast (n := 13) X2 hx hZ hown (ww95 hw) e2 (Ins.self B2) (hb hby d9_10) rfl ?_
    intro T7 X7 e7
    refine own_retA X7 hx hlk hret rfl rfl rfl e7 (hb hby d9_13) (by decide) (by decide) ?_
    exact ⟨b2, k, rfl, N0, K_5, sz_b2, g_b2, by rw [hc3_1, List.take_of_length_le (by omega), Nat.sub_self, List.replicate_zero, List.append_nil]; exact V2, B2⟩
  · skip
    refine own_icmpYes (n := 14) X0 hx (hb hby d9_3) (feq hc3_1).2 (by decide) (by decide) ?_
    refine own_iloadN (n := 15) X0 hx (hb hby d9_14) rfl rfl ?_
    refine own_newA (n := 17) X0 hx hZ own_an_byte (ww0 hw) hE0 (hb hby d9_15) hM0 (cap := 15) hMc (by decide) (by decide) (by decide) rfl ?_
    intro T8 h8 k8 b8 g8 X8 e8 E8 A8 B8
    have g_b8 : n0 ≤ b8 := Nat.le_trans Z0 (Nat.le_of_eq g8.symm)
    have sz_b8 : h0.size ≤ b8 := Nat.le_trans (Keep.refl h0 []).1 (Nat.le_of_eq g8.symm)
    have ne_a_b8 : a ≠ b8 := own_ne V0.lt g8
    have A_9 := V0.ext E8
    have E_10 := E0.ext E8
    have K_11 := (Keep.refl h0 []).ext E8
    have Z_12 : n0 ≤ h8.size := Nat.le_trans Z0 E8.1
    have V8 : Arv Z h8 b8 k8 .byte M [] (.int (0 : Int32)) := Arv.new A8 hM0
    have V8p : Arv Z h8 b8 k8 .byte M (List.replicate M.toNatClampNeg (.int (0 : Int32))) (.int (0 : Int32)) := V8.pad (pad_rep [] (.int (0 : Int32)) M.toNatClampNeg)
    refine own_astoreN (n := 18) (l' := #[.val (.ref a), .val (.int M), .val (.ref b8)]) X8 hx (hb hby d9_17) rfl rfl rfl ?_
    refine own_aloadN (n := 19) X8 hx (hb hby d9_18) rfl rfl rfl ?_
    refine own_iconst (n := 20) (z := (0 : Int32)) X8 hx (hb hby d9_19) rfl rfl ?_
    refine own_aloadN (n := 21) X8 hx (hb hby d9_20) rfl rfl rfl ?_
    refine own_iconst (n := 22) (z := (0 : Int32)) X8 hx (hb hby d9_21) rfl rfl ?_
    refine own_aloadN (n := 23) X8 hx (hb hby d9_22) rfl rfl rfl ?_
    refine own_len (n := 24) X8 hx hZ e8 A_9 (hb hby d9_23) rfl ?_
    refine own_iloadN (n := 25) X8 hx (hb hby d9_24) rfl rfl ?_
    refine own_S (n := 28) (argsL := [(.int N), (.int M)]) (rest := [(.int (0 : Int32)), (.ref b8), (.int (0 : Int32)), (.ref a)]) X8 hx hZ hown (own_rm_min l Z a0 hw N M h8 n0 Z_12) (ww45 hw) (ww46 hw) (ww39 hw) (ww47 hw) (by decide) e8 (by rw [hml]; rfl) (lenOf own_pd2 rfl) rfl (hb hby d9_25) (Nat.le_of_ble_eq_true rfl) (Nat.le_of_ble_eq_true rfl) (Nat.le_of_ble_eq_true rfl) (Nat.le_of_ble_eq_true rfl) rfl ?_
    rintro v13 T13 L13 X13 ⟨rfl, Nq13, eq13⟩
    have N13 := Fr.app N0 Nq13
    change own_G p e below _ _ (mkF m 28 _ [(.int (own_min N M)), (.int (0 : Int32)), (.ref b8), (.int (0 : Int32)), (.ref a)])
    obtain ⟨T14, h14, L14, X14, e14, N14, K14, V14q, st14⟩ := cpA X13 hx hZ hown (ww48 hw) (ww51 hw) (ww49 hw) (ww50 hw) eq13 A_9 V8p (Or.inl ⟨rfl, rfl⟩) (by decide) (by decide) hmn.1 (by show 0 + (own_min N M).toNatClampNeg ≤ _; omega) (by show 0 + (own_min N M).toNatClampNeg ≤ _; omega) rfl (by show 0 + (own_min N M).toNatClampNeg ≤ _; rw [List.length_replicate]; omega) N13 g_b8 (g := (mkF m 28 #[.val (.ref a), .val (.int M), .val (.ref b8)] [(.int (own_min N M)), (.int (0 : Int32)), (.ref b8), (.int (0 : Int32)), (.ref a)])) rfl (by rw [hml]; rfl) rfl (hb hby d9_28) (by decide) (W := 0) (by show 2 * 0 + _ ≤ _; exact Nat.le_of_eq rfl) (by decide)
    have V14 : Arv Z h14 b8 k8 .byte M (vs.take M.toNatClampNeg ++ List.replicate (M.toNatClampNeg - N.toNatClampNeg) (.int (0 : Int32))) (.int (0 : Int32)) := (by have q := V14q; rw [hmn.2] at q; rw [← own_cpl vs (.int (0 : Int32)) N.toNatClampNeg M.toNatClampNeg hvl]; exact q)
    have A_15 := A_9.keep K14 (by simp [ne_a_b8])
    have E_16 := E_10.keep K14
    have K_17 := K_11.trans K14 (fun x hx => by cases List.mem_singleton.mp hx; exact (Or.inr sz_b8))
    have E_18 := B8.keep K14
    have Z_19 : n0 ≤ h14.size := Nat.le_trans Z_12 K14.1
    refine own_go (T' := T14) (f' := (mkF m 31 #[.val (.ref a), .val (.int M), .val (.ref b8)] [])) st14 ?_
    refine own_aloadN (n := 32) X14 hx (hb hby d9_31) rfl rfl rfl ?_
    refine own_retA X14 hx hlk hret rfl rfl rfl e14 (hb hby d9_32) (by decide) (by decide) ?_
    exact ⟨b8, k8, rfl, N14, K_17, sz_b8, g_b8, V14, E_18⟩
theorem own_pn7 : plainFor (⟨"com/example/doseline/doseline/fhir/JsonWriter", "room", "(I)V"⟩ : MethodName) = true := plainFor_of_name (by first | (simp [plainName, overriddenIn]; done) | decide +kernel)
theorem d7_0 : decode prog_96_method_28_code 0 = .ok (.iload_n 1, 1) := by decide +kernel
theorem d7_1 : decode prog_96_method_28_code 1 = .ok (.aload_n 0, 1) := by decide +kernel
theorem d7_2 : decode prog_96_method_28_code 2 = .ok (.getfield 7, 3) := by decide +kernel
theorem d7_5 : decode prog_96_method_28_code 5 = .ok (.arraylength, 1) := by decide +kernel
theorem d7_6 : decode prog_96_method_28_code 6 = .ok (.aload_n 0, 1) := by decide +kernel
theorem d7_7 : decode prog_96_method_28_code 7 = .ok (.getfield 48, 3) := by decide +kernel
theorem d7_10 : decode prog_96_method_28_code 10 = .ok (.isub, 1) := by decide +kernel
theorem d7_11 : decode prog_96_method_28_code 11 = .ok (.if_icmp .le 30, 3) := by decide +kernel
theorem d7_14 : decode prog_96_method_28_code 14 = .ok (.aload_n 0, 1) := by decide +kernel
theorem d7_15 : decode prog_96_method_28_code 15 = .ok (.aload_n 0, 1) := by decide +kernel
theorem d7_16 : decode prog_96_method_28_code 16 = .ok (.getfield 7, 3) := by decide +kernel
theorem d7_19 : decode prog_96_method_28_code 19 = .ok (.aload_n 0, 1) := by decide +kernel
theorem d7_20 : decode prog_96_method_28_code 20 = .ok (.getfield 7, 3) := by decide +kernel
theorem d7_23 : decode prog_96_method_28_code 23 = .ok (.arraylength, 1) := by decide +kernel
theorem d7_24 : decode prog_96_method_28_code 24 = .ok (.iconst 2, 1) := by decide +kernel
theorem d7_25 : decode prog_96_method_28_code 25 = .ok (.imul, 1) := by decide +kernel
theorem d7_26 : decode prog_96_method_28_code 26 = .ok (.aload_n 0, 1) := by decide +kernel
theorem d7_27 : decode prog_96_method_28_code 27 = .ok (.getfield 48, 3) := by decide +kernel
theorem d7_30 : decode prog_96_method_28_code 30 = .ok (.iload_n 1, 1) := by decide +kernel
theorem d7_31 : decode prog_96_method_28_code 31 = .ok (.iadd, 1) := by decide +kernel
theorem d7_32 : decode prog_96_method_28_code 32 = .ok (.invokestatic 137, 3) := by decide +kernel
theorem d7_35 : decode prog_96_method_28_code 35 = .ok (.invokestatic 96, 3) := by decide +kernel
theorem own_pd3 : parseMethodDescriptor "([BI)[B" = some ⟨[(.array .byte), .int], some (.array .byte)⟩ := by decide +kernel
theorem d7_38 : decode prog_96_method_28_code 38 = .ok (.putfield 7, 3) := by decide +kernel
theorem d7_41 : decode prog_96_method_28_code 41 = .ok (.return_, 1) := by decide +kernel
theorem own_ef7_own_rm_room_0_3 (m : MethodId) (y0 : Addr) (y1 : Int32) : entryFrame m #[(.ref y0), (.int y1)] 2 = mkF m 0 #[.val (.ref y0), .val (.int y1)] [] := by first | (simp [entryFrame, mkF, argsToLocals, Value.category]; done) | rfl
set_option maxRecDepth 65536 in
set_option maxHeartbeats 40000000 in
theorem own_rm_room_0_3 (l : Launch) (Z : State) (a0 : Array Value) (hw : ∀ d ∈ tables_1, d.before a0 Z = true) (a b : Addr) (kb : ClassId) (N : Int32) (rest : List Value) (ae : Int32) (h0 : Heap) (n0 : Nat) (Z0 : n0 ≤ h0.size) (E0 : Exa Z h0 a "com/example/doseline/doseline/fhir/JsonWriter") (FB : Fld Z h0 a "com/example/doseline/doseline/fhir/JsonWriter" "bytes" "[B" (.ref b)) (FL : Fld Z h0 a "com/example/doseline/doseline/fhir/JsonWriter" "length" "I" (.int (0 : Int32))) (FA : Fld Z h0 a "com/example/doseline/doseline/fhir/JsonWriter" "afterElement" "Z" (.int ae)) (VB : Arv Z h0 b kb .byte N (rest) (.int (0 : Int32))) (EB : Exa Z h0 b "[B") (hl : rest.length + 0 = N.toNatClampNeg) (hN : N.toInt ≤ 15) (g_a : n0 ≤ a) (g_b : n0 ≤ b) :
    own_Met l Z (⟨"com/example/doseline/doseline/fhir/JsonWriter", "room", "(I)V"⟩ : MethodName) prog_96_method_28_code 2 none [] ({ frames := 2, cells := 1, slots := 15, locals := 55 } : Room) #[(.ref a), (.int (3 : Int32))] h0 (fun v h L => ∃ (b' : Addr) (k' : ClassId) (N' : Int32) (r' : List Value), v = none ∧ Fr n0 L ∧ Keep h0 h [a] ∧ Exa Z h a "com/example/doseline/doseline/fhir/JsonWriter" ∧ Fld Z h a "com/example/doseline/doseline/fhir/JsonWriter" "bytes" "[B" (.ref b') ∧ Fld Z h a "com/example/doseline/doseline/fhir/JsonWriter" "length" "I" (.int (0 : Int32)) ∧ Fld Z h a "com/example/doseline/doseline/fhir/JsonWriter" "afterElement" "Z" (.int ae) ∧ Arv Z h b' k' .byte N' (r') (.int (0 : Int32)) ∧ Exa Z h b' "[B" ∧ r'.length + 0 = N'.toNatClampNeg ∧ N'.toInt ≤ 15 ∧ (b' = b ∨ h0.size ≤ b') ∧ n0 ≤ b' ∧ 3 ≤ r'.length) := by
  refine own_met own_pn7 ?_
  intro p e s m below meth c s₁ hx hby hml hown hnm hret hlk hZ X0 hE0
  have N0 := Fr.nil n0
  refine own_cast (own_ef7_own_rm_room_0_3 m a (3 : Int32)) ?_
  have hN0 := own_arvn VB
  refine own_iloadN (n := 1) X0 hx (hb hby d7_0) rfl rfl ?_
  refine own_aloadN (n := 2) X0 hx (hb hby d7_1) rfl rfl rfl ?_
  refine own_getF (n := 5) X0 hx hZ hown (host := "") (Or.inl (ww10 hw)) Via.refl hE0 FB (hb hby d7_2) rfl ?_
  intro T1 X1 e1
  refine own_len (n := 6) X1 hx hZ e1 VB (hb hby d7_5) rfl ?_
  refine own_aloadN (n := 7) X1 hx (hb hby d7_6) rfl rfl rfl ?_
  refine own_getF (n := 10) X1 hx hZ hown (host := "") (Or.inl (ww35 hw)) Via.refl e1 FL (hb hby d7_7) rfl ?_
  intro T2 X2 e2
  refine own_isub (n := 11) X2 hx (hb hby d7_10) rfl rfl ?_
  by_cases hc11_3 : (N - (0 : Int32)) < (3 : Int32)
  · skip
    have hgr := own_grow (N := N) (l := (0 : Int32)) (n := (3 : Int32)) (q := (3 : Int32)) (r := rest) (L := 0) (m := 3) rfl rfl rfl (by decide) hN0 hN hl hc11_3
    refine own_icmpNo (n := 14) X2 hx (hb hby d7_11) (tlt hc11_3).2.2.2 rfl ?_
    refine own_aloadN (n := 15) X2 hx (hb hby d7_14) rfl rfl rfl ?_
    refine own_aloadN (n := 16) X2 hx (hb hby d7_15) rfl rfl rfl ?_
    refine own_getF (n := 19) X2 hx hZ hown (host := "") (Or.inl (ww10 hw)) Via.refl e2 FB (hb hby d7_16) rfl ?_
    intro T4 X4 e4
    refine own_aloadN (n := 20) X4 hx (hb hby d7_19) rfl rfl rfl ?_
    refine own_getF (n := 23) X4 hx hZ hown (host := "") (Or.inl (ww10 hw)) Via.refl e4 FB (hb hby d7_20) rfl ?_
    intro T5 X5 e5
    refine own_len (n := 24) X5 hx hZ e5 VB (hb hby d7_23) rfl ?_
    refine own_iconst (n := 25) (z := (2 : Int32)) X5 hx (hb hby d7_24) rfl rfl ?_
    refine own_imul (n := 26) X5 hx (hb hby d7_25) rfl rfl ?_
    refine own_aloadN (n := 27) X5 hx (hb hby d7_26) rfl rfl rfl ?_
    refine own_getF (n := 30) X5 hx hZ hown (host := "") (Or.inl (ww35 hw)) Via.refl e5 FL (hb hby d7_27) rfl ?_
    intro T6 X6 e6
    refine own_iloadN (n := 31) X6 hx (hb hby d7_30) rfl rfl ?_
    refine own_iadd (n := 32) (z := (3 : Int32)) X6 hx (hb hby d7_31) rfl rfl ?_
    refine own_S (n := 35) (argsL := [(.int (N * (2 : Int32))), (.int (3 : Int32))]) (rest := [(.ref b), (.ref a)]) X6 hx hZ hown (own_rm_max l Z a0 hw (N * (2 : Int32)) (3 : Int32) h0 n0 Z0) (ww37 hw) (ww38 hw) (ww39 hw) (ww40 hw) (by decide) e6 (by rw [hml]; rfl) (lenOf own_pd2 rfl) rfl (hb hby d7_32) (Nat.le_of_ble_eq_true rfl) (Nat.le_of_ble_eq_true rfl) (Nat.le_of_ble_eq_true rfl) (Nat.le_of_ble_eq_true rfl) rfl ?_
    rintro v7 T7 L7 X7 ⟨rfl, Nq7, eq7⟩
    have N7 := Fr.app N0 Nq7
    change own_G p e below _ _ (mkF m 35 _ [(.int (own_max (N * (2 : Int32)) (3 : Int32))), (.ref b), (.ref a)])
    refine own_S (n := 38) (argsL := [(.ref b), (.int (own_max (N * (2 : Int32)) (3 : Int32)))]) (rest := [(.ref a)]) X7 hx hZ hown (own_rm_copy15 l Z a0 hw b kb N (own_max (N * (2 : Int32)) (3 : Int32)) (rest) h0 n0 Z0 VB (by (try simp only [List.length_cons]); omega) EB hgr.1 hgr.2.1) (ww41 hw) (ww42 hw) (ww43 hw) (ww44 hw) (by decide) eq7 (by rw [hml]; rfl) (lenOf own_pd3 rfl) rfl (hb hby d7_35) (Nat.le_of_ble_eq_true rfl) (Nat.le_of_ble_eq_true rfl) (Nat.le_of_ble_eq_true rfl) (Nat.le_of_ble_eq_true rfl) rfl ?_
    rintro v8 T8 L8 X8 ⟨y8, k8, rfl, Nq8, K8, sz8, gb8, Vb8, Ec8⟩
    have N8 := Fr.app N7 Nq8
    have E_9 := E0.keep K8
    have F_10 := FB.keep K8 (by simp)
    have F_11 := FL.keep K8 (by simp)
    have F_12 := FA.keep K8 (by simp)
    have A_13 := VB.keep K8 (by simp)
    have E_14 := EB.keep K8
    have K_15 := (Keep.refl h0 [a]).trans K8 (fun x hx => nomatch hx)
    have Z_16 : n0 ≤ T8.heap.size := Nat.le_trans Z0 K8.1
    have Vc8 : Arv Z T8.heap y8 k8 .byte (own_max (N * (2 : Int32)) (3 : Int32)) ((rest ++ List.replicate (α := Value) (((own_max (N * (2 : Int32)) (3 : Int32))).toNatClampNeg - N.toNatClampNeg) (.int (0 : Int32)))) (.int (0 : Int32)) := by have q := Vb8; rw [List.take_of_length_le (by (try simp only [List.length_cons]); omega)] at q; exact q
    have hl8 : (rest ++ List.replicate (α := Value) (((own_max (N * (2 : Int32)) (3 : Int32))).toNatClampNeg - N.toNatClampNeg) (.int (0 : Int32))).length + 0 = ((own_max (N * (2 : Int32)) (3 : Int32))).toNatClampNeg := by rw [List.length_append, List.length_replicate]; omega
    have hx8 : 3 ≤ (rest ++ List.replicate (α := Value) (((own_max (N * (2 : Int32)) (3 : Int32))).toNatClampNeg - N.toNatClampNeg) (.int (0 : Int32))).length := by have := hl8; omega
    change own_G p e below _ _ (mkF m 38 _ [(.ref y8), (.ref a)])
    refine own_putF (n := 41) X8 hx hZ hown (host := "") (Or.inl (ww10 hw)) Via.refl rfl F_10 E_9 (Or.inl (ww11 hw)) (ww2 hw) (ty := (.array .byte)) (by decide) rfl rfl (hb hby d7_38) rfl ?_
    intro T17 h17 X17 e17 W17
    have F_18 := F_10.same W17
    have N17 := Fr.snoc X17 N8 g_a
    have E_19 := E_9.wr W17
    have F_20 := F_11.other W17 (Or.inr (slot_ne (Or.inl (ww36 hw)) (Or.inl (ww11 hw)) (by decide) (t := .int) (t' := (.array .byte)) (by decide) (by decide)))
    have F_21 := F_12.other W17 (Or.inr (slot_ne (Or.inl (ww26 hw)) (Or.inl (ww11 hw)) (by decide) (t := .boolean) (t' := (.array .byte)) (by decide) (by decide)))
    have A_22 := A_13.other W17 (Ne.symm (own_neEA E_9 (ww2 hw) A_13))
    have E_23 := E_14.wr W17
    have K_24 := K_15.wr W17 (Or.inl (by first | exact List.mem_cons_self | exact List.mem_cons_of_mem _ List.mem_cons_self | exact List.mem_cons_of_mem _ (List.mem_cons_of_mem _ List.mem_cons_self) | (simp; done)))
    have A_25 := Vc8.other W17 (Ne.symm (Nat.ne_of_lt (Nat.lt_of_lt_of_le E0.lt sz8)))
    have E_26 := Ec8.wr W17
    have Z_27 : n0 ≤ h17.size := by rw [W17.size]; exact Z_16
    refine own_retV X17 hx hlk hret e17 (hb hby d7_41) (by decide) (by decide) ?_
    exact ⟨y8, k8, ((own_max (N * (2 : Int32)) (3 : Int32))), (rest ++ List.replicate (α := Value) (((own_max (N * (2 : Int32)) (3 : Int32))).toNatClampNeg - N.toNatClampNeg) (.int (0 : Int32))), rfl, N17, K_24, E_19, F_18, F_20, F_21, A_25, E_26, hl8, hgr.2.2.1, (Or.inr sz8 : y8 = b ∨ h0.size ≤ y8), gb8, hx8⟩
  · skip
    have hx0 : 3 ≤ rest.length := own_roomle (N := N) (l := (0 : Int32)) (n := (3 : Int32)) (L := 0) (m := 3) rfl rfl (by decide) hN0 hN hl hc11_3
    refine own_icmpYes (n := 41) X2 hx (hb hby d7_11) (flt hc11_3).2.2.2 (by decide) (by decide) ?_
    refine own_retV X2 hx hlk hret e2 (hb hby d7_41) (by decide) (by decide) ?_
    exact ⟨b, kb, N, rest, rfl, N0, (Keep.refl h0 [a]), E0, FB, FL, FA, VB, EB, hl, hN, (Or.inl rfl : b = b ∨ h0.size ≤ b), g_b, hx0⟩
theorem d12_6 : decode prog_96_method_27_code 6 = .ok (.aload_n 1, 1) := by decide +kernel
theorem d12_7 : decode prog_96_method_27_code 7 = .ok (.iconst 0, 1) := by decide +kernel
theorem d12_8 : decode prog_96_method_27_code 8 = .ok (.aload_n 0, 1) := by decide +kernel
theorem d12_9 : decode prog_96_method_27_code 9 = .ok (.getfield 7, 3) := by decide +kernel
theorem d12_12 : decode prog_96_method_27_code 12 = .ok (.aload_n 0, 1) := by decide +kernel
theorem d12_13 : decode prog_96_method_27_code 13 = .ok (.getfield 48, 3) := by decide +kernel
theorem d12_16 : decode prog_96_method_27_code 16 = .ok (.aload_n 1, 1) := by decide +kernel
theorem d12_17 : decode prog_96_method_27_code 17 = .ok (.arraylength, 1) := by decide +kernel
theorem d12_18 : decode prog_96_method_27_code 18 = .ok (.invokestatic 131, 3) := by decide +kernel
theorem d12_21 : decode prog_96_method_27_code 21 = .ok (.aload_n 0, 1) := by decide +kernel
theorem d12_22 : decode prog_96_method_27_code 22 = .ok (.dup, 1) := by decide +kernel
theorem d12_23 : decode prog_96_method_27_code 23 = .ok (.getfield 48, 3) := by decide +kernel
theorem d12_26 : decode prog_96_method_27_code 26 = .ok (.aload_n 1, 1) := by decide +kernel
theorem d12_27 : decode prog_96_method_27_code 27 = .ok (.arraylength, 1) := by decide +kernel
theorem d12_28 : decode prog_96_method_27_code 28 = .ok (.iadd, 1) := by decide +kernel
theorem d12_29 : decode prog_96_method_27_code 29 = .ok (.putfield 48, 3) := by decide +kernel
theorem d12_32 : decode prog_96_method_27_code 32 = .ok (.return_, 1) := by decide +kernel
theorem own_ef12_own_rm_wa_0_3 (m : MethodId) (y0 : Addr) (y1 : Addr) : entryFrame m #[(.ref y0), (.ref y1)] 2 = mkF m 0 #[.val (.ref y0), .val (.ref y1)] [] := by first | (simp [entryFrame, mkF, argsToLocals, Value.category]; done) | rfl
set_option maxRecDepth 65536 in
set_option maxHeartbeats 40000000 in
theorem own_rm_wa_0_3 (l : Launch) (Z : State) (a0 : Array Value) (hw : ∀ d ∈ tables_1, d.before a0 Z = true) (a b : Addr) (kb : ClassId) (N : Int32) (rest : List Value) (ae : Int32) (sa : Addr) (ks : ClassId) (d0 d1 d2 : Int32) (h0 : Heap) (n0 : Nat) (Z0 : n0 ≤ h0.size) (E0 : Exa Z h0 a "com/example/doseline/doseline/fhir/JsonWriter") (FB : Fld Z h0 a "com/example/doseline/doseline/fhir/JsonWriter" "bytes" "[B" (.ref b)) (FL : Fld Z h0 a "com/example/doseline/doseline/fhir/JsonWriter" "length" "I" (.int (0 : Int32))) (FA : Fld Z h0 a "com/example/doseline/doseline/fhir/JsonWriter" "afterElement" "Z" (.int ae)) (VB : Arv Z h0 b kb .byte N (rest) (.int (0 : Int32))) (EB : Exa Z h0 b "[B") (hl : rest.length + 0 = N.toNatClampNeg) (hN : N.toInt ≤ 15) (g_a : n0 ≤ a) (g_b : n0 ≤ b) (VS : Arv Z h0 sa ks .byte (3 : Int32) [(.int d0), (.int d1), (.int d2)] (.int (0 : Int32))) (hsb : sa ≠ b) :
    own_Met l Z (⟨"com/example/doseline/doseline/fhir/JsonWriter", "write", "([B)V"⟩ : MethodName) prog_96_method_27_code 2 none [] ({ frames := 3, cells := 1, slots := 15, locals := 68 } : Room) #[(.ref a), (.ref sa)] h0 (fun v h L => ∃ (b' : Addr) (k' : ClassId) (N' : Int32) (r' : List Value), v = none ∧ Fr n0 L ∧ Keep h0 h [a, b] ∧ Exa Z h a "com/example/doseline/doseline/fhir/JsonWriter" ∧ Fld Z h a "com/example/doseline/doseline/fhir/JsonWriter" "bytes" "[B" (.ref b') ∧ Fld Z h a "com/example/doseline/doseline/fhir/JsonWriter" "length" "I" (.int (3 : Int32)) ∧ Fld Z h a "com/example/doseline/doseline/fhir/JsonWriter" "afterElement" "Z" (.int ae) ∧ Arv Z h b' k' .byte N' ((.int d0) :: (.int d1) :: (.int d2) :: r') (.int (0 : Int32)) ∧ Exa Z h b' "[B" ∧ r'.length + 3 = N'.toNatClampNeg ∧ N'.toInt ≤ 15 ∧ (b' = b ∨ h0.size ≤ b') ∧ n0 ≤ b') := by
  refine own_met own_pn12 ?_
  intro p e s m below meth c s₁ hx hby hml hown hnm hret hlk hZ X0 hE0
  have N0 := Fr.nil n0
  refine own_cast (own_ef12_own_rm_wa_0_3 m a sa) ?_
  have hN0 := own_arvn VB
  refine own_aloadN (n := 1) X0 hx (hb hby d12_0) rfl rfl rfl ?_
  refine own_aloadN (n := 2) X0 hx (hb hby d12_1) rfl rfl rfl ?_
  refine own_len (n := 3) X0 hx hZ hE0 VS (hb hby d12_2) rfl ?_
  refine own_P (n := 6) (argsL := [(.int (3 : Int32))]) (rest := []) (a := a) X0 hx hZ hown (own_rm_room_0_3 l Z a0 hw a b kb N rest ae h0 n0 Z0 E0 FB FL FA VB EB hl hN g_a g_b) (ww31 hw) (ww32 hw) (by rfl) (ww15 hw) (ww33 hw) (ww3 hw) (ww34 hw) (by decide) hE0 E0 (by rw [hml]; rfl) (lenOf own_pd0 rfl) rfl (hb hby d12_3) (Nat.le_of_ble_eq_true rfl) (Nat.le_of_ble_eq_true rfl) (Nat.le_of_ble_eq_true rfl) (Nat.le_of_ble_eq_true rfl) rfl ?_
  rintro v1 T1 L1 X1 ⟨y1, k1, M1, r1, rfl, Nq1, K1, Eq1, Fb1, Fl1, Fa1, Vb1, Ec1, hl1, hN1, hq1, gb1, hx1⟩
  have N1 := Fr.app N0 Nq1
  have E_2 := E0.keep K1
  have A_3 := VB.keep K1 (by simp [(Ne.symm (own_neEA E0 (ww2 hw) VB))])
  have E_4 := EB.keep K1
  have A_5 := VS.keep K1 (by simp [(Ne.symm (own_neEA E0 (ww2 hw) VS))])
  have K_6 := (Keep.refl h0 [a, b]).trans K1 (fun x hx => by cases List.mem_singleton.mp hx; exact (Or.inl (by first | exact List.mem_cons_self | exact List.mem_cons_of_mem _ List.mem_cons_self | exact List.mem_cons_of_mem _ (List.mem_cons_of_mem _ List.mem_cons_self) | (simp; done))))
  have Z_7 : n0 ≤ T1.heap.size := Nat.le_trans Z0 K1.1
  have nw_sa_1 : sa ≠ y1 := own_neOr hq1 hsb VS.lt
  have hb1 : y1 = b ∨ h0.size ≤ y1 := own_orTr (Or.inl rfl : b = b ∨ h0.size ≤ b) hq1 (Keep.refl h0 [a, b]).1
  obtain ⟨x1_0, x1_1, x1_2, t1, rfl⟩ := own_ex3 hx1
  change own_G p e below _ _ (mkF m 6 _ [])
  refine own_aloadN (n := 7) X1 hx (hb hby d12_6) rfl rfl rfl ?_
  refine own_iconst (n := 8) (z := (0 : Int32)) X1 hx (hb hby d12_7) rfl rfl ?_
  refine own_aloadN (n := 9) X1 hx (hb hby d12_8) rfl rfl rfl ?_
  refine own_getF (n := 12) X1 hx hZ hown (host := "") (Or.inl (ww10 hw)) Via.refl rfl Fb1 (hb hby d12_9) rfl ?_
  intro T8 X8 e8
  refine own_aloadN (n := 13) X8 hx (hb hby d12_12) rfl rfl rfl ?_
  refine own_getF (n := 16) X8 hx hZ hown (host := "") (Or.inl (ww35 hw)) Via.refl e8 Fl1 (hb hby d12_13) rfl ?_
  intro T9 X9 e9
  refine own_aloadN (n := 17) X9 hx (hb hby d12_16) rfl rfl rfl ?_
  refine own_len (n := 18) X9 hx hZ e9 A_5 (hb hby d12_17) rfl ?_
  obtain ⟨T10, h10, L10, X10, e10, N10, K10, V10q, st10⟩ := cpA X9 hx hZ hown (ww61 hw) (ww51 hw) (ww49 hw) (ww50 hw) e9 A_5 Vb1 (Or.inl ⟨rfl, rfl⟩) (by decide) (by decide) (by decide) (by decide) (by show 0 + 3 ≤ _; have q := hl1; (try simp only [List.length_cons] at q); omega) (us := [(.int d0), (.int d1), (.int d2)]) rfl (by show 0 + 3 ≤ _; (try simp only [List.length_cons]); omega) N1 gb1 (g := (mkF m 18 #[.val (.ref a), .val (.ref sa)] [(.int (3 : Int32)), (.int (0 : Int32)), (.ref y1), (.int (0 : Int32)), (.ref sa)])) rfl (by rw [hml]; rfl) rfl (hb hby d12_18) (by decide) (W := 0) (by show 2 * 0 + _ ≤ _; exact Nat.le_of_eq rfl) (by decide)
  have V10 : Arv Z h10 y1 k1 .byte M1 ((.int d0) :: (.int d1) :: (.int d2) :: t1) (.int (0 : Int32)) := V10q
  have E_11 := E_2.keep K10
  have A_12 := A_5.keep K10 (by simp [nw_sa_1])
  have K_13 := K_6.trans K10 (fun x hx => by cases List.mem_singleton.mp hx; exact (hb1.elim (fun q => Or.inl (by simp [q])) Or.inr))
  have F_14 := Fb1.keep K10 (by simp [(own_neEA E_2 (ww2 hw) Vb1)])
  have F_15 := Fl1.keep K10 (by simp [(own_neEA E_2 (ww2 hw) Vb1)])
  have F_16 := Fa1.keep K10 (by simp [(own_neEA E_2 (ww2 hw) Vb1)])
  have E_17 := Ec1.keep K10
  have Z_18 : n0 ≤ h10.size := Nat.le_trans Z_7 K10.1
  refine own_go (T' := T10) (f' := (mkF m 21 #[.val (.ref a), .val (.ref sa)] [])) st10 ?_
  refine own_aloadN (n := 22) X10 hx (hb hby d12_21) rfl rfl rfl ?_
  refine own_dup (n := 23) X10 hx (hb hby d12_22) rfl rfl ?_
  refine own_getF (n := 26) X10 hx hZ hown (host := "") (Or.inl (ww35 hw)) Via.refl e10 F_15 (hb hby d12_23) rfl ?_
  intro T19 X19 e19
  refine own_aloadN (n := 27) X19 hx (hb hby d12_26) rfl rfl rfl ?_
  refine own_len (n := 28) X19 hx hZ e19 A_12 (hb hby d12_27) rfl ?_
  refine own_iadd (n := 29) (z := (3 : Int32)) X19 hx (hb hby d12_28) rfl rfl ?_
  refine own_putF (n := 32) X19 hx hZ hown (host := "") (Or.inl (ww35 hw)) Via.refl e19 F_15 E_11 (Or.inl (ww36 hw)) (ww2 hw) (ty := .int) (by decide) rfl rfl (hb hby d12_29) rfl ?_
  intro T20 h20 X20 e20 W20
  have F_21 := F_15.same W20
  have N20 := Fr.snoc X20 N10 g_a
  have E_22 := E_11.wr W20
  have A_23 := A_12.other W20 (Ne.symm (own_neEA E_11 (ww2 hw) A_12))
  have K_24 := K_13.wr W20 (Or.inl (by first | exact List.mem_cons_self | exact List.mem_cons_of_mem _ List.mem_cons_self | exact List.mem_cons_of_mem _ (List.mem_cons_of_mem _ List.mem_cons_self) | (simp; done)))
  have F_25 := F_14.other W20 (Or.inr (slot_ne (Or.inl (ww11 hw)) (Or.inl (ww36 hw)) (by decide) (t := (.array .byte)) (t' := .int) (by decide) (by decide)))
  have F_26 := F_16.other W20 (Or.inr (slot_ne (Or.inl (ww26 hw)) (Or.inl (ww36 hw)) (by decide) (t := .boolean) (t' := .int) (by decide) (by decide)))
  have E_27 := E_17.wr W20
  have A_28 := V10.other W20 (Ne.symm (own_neEA E_11 (ww2 hw) V10))
  have Z_29 : n0 ≤ h20.size := by rw [W20.size]; exact Z_18
  have hl_30 : t1.length + 3 = M1.toNatClampNeg := by have q := hl1; (try simp only [List.length_cons] at q); omega
  refine own_retV X20 hx hlk hret e20 (hb hby d12_32) (by decide) (by decide) ?_
  exact ⟨y1, k1, M1, t1, rfl, N20, K_24, E_22, F_25, F_21, F_26, A_28, E_27, hl_30, hN1, hb1, gb1⟩
theorem own_pd4 : parseMethodDescriptor "([B)V" = some ⟨[(.array .byte)], none⟩ := by decide +kernel
theorem d11_9 : decode prog_96_method_12_code 9 = .ok (.aload_n 0, 1) := by decide +kernel
theorem d11_10 : decode prog_96_method_12_code 10 = .ok (.iconst 1, 1) := by decide +kernel
theorem d11_11 : decode prog_96_method_12_code 11 = .ok (.putfield 41, 3) := by decide +kernel
theorem d11_14 : decode prog_96_method_12_code 14 = .ok (.return_, 1) := by decide +kernel
theorem own_ef11_own_rm_val_0_0_3 (m : MethodId) (y0 : Addr) (y1 : Addr) : entryFrame m #[(.ref y0), (.ref y1)] 2 = mkF m 0 #[.val (.ref y0), .val (.ref y1)] [] := by first | (simp [entryFrame, mkF, argsToLocals, Value.category]; done) | rfl
set_option maxRecDepth 65536 in
set_option maxHeartbeats 40000000 in
theorem own_rm_val_0_0_3 (l : Launch) (Z : State) (a0 : Array Value) (hw : ∀ d ∈ tables_1, d.before a0 Z = true) (a b : Addr) (kb : ClassId) (N : Int32) (rest : List Value) (sa : Addr) (ks : ClassId) (d0 d1 d2 : Int32) (h0 : Heap) (n0 : Nat) (Z0 : n0 ≤ h0.size) (E0 : Exa Z h0 a "com/example/doseline/doseline/fhir/JsonWriter") (FB : Fld Z h0 a "com/example/doseline/doseline/fhir/JsonWriter" "bytes" "[B" (.ref b)) (FL : Fld Z h0 a "com/example/doseline/doseline/fhir/JsonWriter" "length" "I" (.int (0 : Int32))) (FA : Fld Z h0 a "com/example/doseline/doseline/fhir/JsonWriter" "afterElement" "Z" (.int (0 : Int32))) (VB : Arv Z h0 b kb .byte N (rest) (.int (0 : Int32))) (EB : Exa Z h0 b "[B") (hl : rest.length + 0 = N.toNatClampNeg) (hN : N.toInt ≤ 15) (g_a : n0 ≤ a) (g_b : n0 ≤ b) (VS : Arv Z h0 sa ks .byte (3 : Int32) [(.int d0), (.int d1), (.int d2)] (.int (0 : Int32))) (hsb : sa ≠ b) :
    own_Met l Z (⟨"com/example/doseline/doseline/fhir/JsonWriter", "value", "([B)V"⟩ : MethodName) prog_96_method_12_code 2 none [] ({ frames := 4, cells := 1, slots := 15, locals := 81 } : Room) #[(.ref a), (.ref sa)] h0 (fun v h L => ∃ (b' : Addr) (k' : ClassId) (N' : Int32) (r' : List Value), v = none ∧ Fr n0 L ∧ Keep h0 h [a, b] ∧ Exa Z h a "com/example/doseline/doseline/fhir/JsonWriter" ∧ Fld Z h a "com/example/doseline/doseline/fhir/JsonWriter" "bytes" "[B" (.ref b') ∧ Fld Z h a "com/example/doseline/doseline/fhir/JsonWriter" "length" "I" (.int (3 : Int32)) ∧ Fld Z h a "com/example/doseline/doseline/fhir/JsonWriter" "afterElement" "Z" (.int (1 : Int32)) ∧ Arv Z h b' k' .byte N' ((.int d0) :: (.int d1) :: (.int d2) :: r') (.int (0 : Int32)) ∧ Exa Z h b' "[B" ∧ r'.length + 3 = N'.toNatClampNeg ∧ N'.toInt ≤ 15 ∧ (b' = b ∨ h0.size ≤ b') ∧ n0 ≤ b') := by
  refine own_met own_pn11 ?_
  intro p e s m below meth c s₁ hx hby hml hown hnm hret hlk hZ X0 hE0
  have N0 := Fr.nil n0
  refine own_cast (own_ef11_own_rm_val_0_0_3 m a sa) ?_
  have hN0 := own_arvn VB
  refine own_aloadN (n := 1) X0 hx (hb hby d11_0) rfl rfl rfl ?_
  refine own_P (n := 4) (argsL := []) (rest := []) (a := a) X0 hx hZ hown (own_rm_sep0 l Z a0 hw a h0 n0 Z0 FA) (ww21 hw) (ww22 hw) (by rfl) (ww15 hw) (ww23 hw) (ww3 hw) (ww24 hw) (by decide) hE0 E0 (by rw [hml]; rfl) (lenOf own_pd1 rfl) rfl (hb hby d11_1) (Nat.le_of_ble_eq_true rfl) (Nat.le_of_ble_eq_true rfl) (Nat.le_of_ble_eq_true rfl) (Nat.le_of_ble_eq_true rfl) rfl ?_
  rintro v1 T1 L1 X1 ⟨rfl, Nq1, eq1⟩
  have N1 := Fr.app N0 Nq1
  change own_G p e below _ _ (mkF m 4 _ [])
  refine own_aloadN (n := 5) X1 hx (hb hby d11_4) rfl rfl rfl ?_
  refine own_aloadN (n := 6) X1 hx (hb hby d11_5) rfl rfl rfl ?_
  refine own_P (n := 9) (argsL := [(.ref sa)]) (rest := []) (a := a) X1 hx hZ hown (own_rm_wa_0_3 l Z a0 hw a b kb N rest (0 : Int32) sa ks d0 d1 d2 h0 n0 Z0 E0 FB FL FA VB EB hl hN g_a g_b VS (hsb)) (ww57 hw) (ww58 hw) (by rfl) (ww15 hw) (ww59 hw) (ww3 hw) (ww60 hw) (by decide) eq1 E0 (by rw [hml]; rfl) (lenOf own_pd4 rfl) rfl (hb hby d11_6) (Nat.le_of_ble_eq_true rfl) (Nat.le_of_ble_eq_true rfl) (Nat.le_of_ble_eq_true rfl) (Nat.le_of_ble_eq_true rfl) rfl ?_
  rintro v2 T2 L2 X2 ⟨y2, k2, M2, r2, rfl, Nq2, K2, Eq2, Fb2, Fl2, Fa2, Vb2, Ec2, hl2, hN2, hq2, gb2⟩
  have N2 := Fr.app N1 Nq2
  have E_3 := E0.keep K2
  have E_4 := EB.keep K2
  have A_5 := VS.keep K2 (by simp [(Ne.symm (own_neEA E0 (ww2 hw) VS)), hsb])
  have K_6 := (Keep.refl h0 [a, b]).trans K2 (fun x hx => by simp only [List.mem_cons, List.not_mem_nil, or_false] at hx; rcases hx with rfl | rfl <;> first | exact (Or.inl (by first | exact List.mem_cons_self | exact List.mem_cons_of_mem _ List.mem_cons_self | exact List.mem_cons_of_mem _ (List.mem_cons_of_mem _ List.mem_cons_self) | (simp; done))))
  have Z_7 : n0 ≤ T2.heap.size := Nat.le_trans Z0 K2.1
  have nw_sa_2 : sa ≠ y2 := own_neOr hq2 hsb VS.lt
  have hb2 : y2 = b ∨ h0.size ≤ y2 := own_orTr (Or.inl rfl : b = b ∨ h0.size ≤ b) hq2 (Keep.refl h0 [a, b]).1
  change own_G p e below _ _ (mkF m 9 _ [])
  refine own_aloadN (n := 10) X2 hx (hb hby d11_9) rfl rfl rfl ?_
  refine own_iconst (n := 11) (z := (1 : Int32)) X2 hx (hb hby d11_10) rfl rfl ?_
  refine own_putFN (n := 14) X2 hx hZ hown (ww25 hw) Via.refl rfl Fa2 E_3 (Or.inl (ww26 hw)) (ww2 hw) (ty := .boolean) (v' := (.int (1 : Int32))) (by decide) rfl (by decide) (hb hby d11_11) rfl ?_
  intro T8 h8 X8 e8 W8
  have F_9 := Fa2.same W8
  have N8 := Fr.snoc X8 N2 g_a
  have E_10 := E_3.wr W8
  have A_11 := A_5.other W8 (Ne.symm (own_neEA E_3 (ww2 hw) A_5))
  have K_12 := K_6.wr W8 (Or.inl (by first | exact List.mem_cons_self | exact List.mem_cons_of_mem _ List.mem_cons_self | exact List.mem_cons_of_mem _ (List.mem_cons_of_mem _ List.mem_cons_self) | (simp; done)))
  have F_13 := Fb2.other W8 (Or.inr (slot_ne (Or.inl (ww11 hw)) (Or.inl (ww26 hw)) (by decide) (t := (.array .byte)) (t' := .boolean) (by decide) (by decide)))
  have F_14 := Fl2.other W8 (Or.inr (slot_ne (Or.inl (ww36 hw)) (Or.inl (ww26 hw)) (by decide) (t := .int) (t' := .boolean) (by decide) (by decide)))
  have A_15 := Vb2.other W8 (Ne.symm (own_neEA E_3 (ww2 hw) Vb2))
  have E_16 := Ec2.wr W8
  have Z_17 : n0 ≤ h8.size := by rw [W8.size]; exact Z_7
  refine own_retV X8 hx hlk hret e8 (hb hby d11_14) (by decide) (by decide) ?_
  exact ⟨y2, k2, M2, r2, rfl, N8, K_12, E_10, F_13, F_14, F_9, A_15, E_16, hl2, hN2, hb2, gb2⟩
theorem own_ef9_own_rm_copy8 (m : MethodId) (y0 : Addr) (y1 : Int32) : entryFrame m #[(.ref y0), (.int y1)] 3 = mkF m 0 #[.val (.ref y0), .val (.int y1), .unset] [] := by first | (simp [entryFrame, mkF, argsToLocals, Value.category]; done) | rfl
set_option maxRecDepth 65536 in
set_option maxHeartbeats 40000000 in
theorem own_rm_copy8 (l : Launch) (Z : State) (a0 : Array Value) (hw : ∀ d ∈ tables_1, d.before a0 Z = true) (a : Addr) (k : ClassId) (N M : Int32) (vs : List Value) (h0 : Heap) (n0 : Nat) (Z0 : n0 ≤ h0.size) (V0 : Arv Z h0 a k .byte N vs (.int (0 : Int32))) (hvl : vs.length = N.toNatClampNeg) (E0 : Exa Z h0 a "[B") (hM0 : ¬ M < 0) (hMc : M.toNatClampNeg ≤ 8) :
    own_Met l Z (⟨"java/util/Arrays", "copyOf", "([BI)[B"⟩ : MethodName) jdk_65_method_121_code 3 (some (.array .byte)) [] ({ frames := 1, cells := 1, slots := 8, locals := 40 } : Room) #[(.ref a), (.int M)] h0 (fun v h L => ∃ (b : Addr) (k' : ClassId), v = some (.ref b) ∧ Fr n0 L ∧ Keep h0 h [] ∧ h0.size ≤ b ∧ n0 ≤ b ∧ Arv Z h b k' .byte M (vs.take M.toNatClampNeg ++ List.replicate (M.toNatClampNeg - N.toNatClampNeg) (.int (0 : Int32))) (.int (0 : Int32)) ∧ Exa Z h b "[B") := by
  refine own_met own_pn9 ?_
  intro p e s m below meth c s₁ hx hby hml hown hnm hret hlk hZ X0 hE0
  have N0 := Fr.nil n0
  refine own_cast (own_ef9_own_rm_copy8 m a M) ?_
  have hN0 := own_arvn V0
  have hmn := own_minv hN0 hM0
  refine own_iloadN (n := 1) X0 hx (hb hby d9_0) rfl rfl ?_
  refine own_aloadN (n := 2) X0 hx (hb hby d9_1) rfl rfl rfl ?_
  refine own_len (n := 3) X0 hx hZ hE0 V0 (hb hby d9_2) rfl ?_
  by_cases hc3_1 : M = N
  · skip
    refine own_icmpNo (n := 6) X0 hx (hb hby d9_3) (teq hc3_1).2 rfl ?_
    refine own_aloadN (n := 7) X0 hx (hb hby d9_6) rfl rfl rfl ?_
    obtain ⟨T2, h2, X2, e2, E2, A2, B2, st2⟩ := cloneH X0 hx hZ hown (ww88 hw) (ww89 hw) (ww93 hw) (ww91 hw) (ww92 hw) (ww94 hw) hE0 (Arv.arh V0) E0 (g := (mkF m 7 #[.val (.ref a), .val (.int M), .unset] [(.ref a)])) rfl (by rw [hml]; rfl) rfl (hb hby d9_7) (by decide) (W := 0) (cap := 8) (by show 2 * 0 + _ ≤ _; exact Nat.le_of_eq rfl) (by decide) (by rw [← hc3_1]; exact hMc) (by decide) (by decide)
    obtain ⟨b2, g2⟩ : ∃ z, z = h0.size := ⟨_, rfl⟩
    rw [← g2] at A2 B2 st2
    have g_b2 : n0 ≤ b2 := Nat.le_trans Z0 (Nat.le_of_eq g2.symm)
    have sz_b2 : h0.size ≤ b2 := Nat.le_trans (Keep.refl h0 []).1 (Nat.le_of_eq g2.symm)
    have ne_a_b2 : a ≠ b2 := own_ne V0.lt g2
    have A_3 := V0.ext E2
    have E_4 := E0.ext E2
    have K_5 := (Keep.refl h0 []).ext E2
    have Z_6 : n0 ≤ h2.size := Nat.le_trans Z0 E2.1
    have V2 : Arv Z h2 b2 k .byte N vs (.int (0 : Int32)) := A2
    refine own_go (T' := T2) (f' := (mkF m 10 #[.val (.ref a), .val (.int M), .unset] [(.ref b2)])) st2 ?_
    refine own_ccast (n := 13) X2 hx hZ hown (ww95 hw) e2 (Ins.self B2) (hb hby d9_10) rfl ?_
    intro T7 X7 e7
    refine own_retA X7 hx hlk hret rfl rfl rfl e7 (hb hby d9_13) (by decide) (by decide) ?_
    exact ⟨b2, k, rfl, N0, K_5, sz_b2, g_b2, by rw [hc3_1, List.take_of_length_le (by omega), Nat.sub_self, List.replicate_zero, List.append_nil]; exact V2, B2⟩
  · skip
    refine own_icmpYes (n := 14) X0 hx (hb hby d9_3) (feq hc3_1).2 (by decide) (by decide) ?_
    refine own_iloadN (n := 15) X0 hx (hb hby d9_14) rfl rfl ?_
    refine own_newA (n := 17) X0 hx hZ own_an_byte (ww0 hw) hE0 (hb hby d9_15) hM0 (cap := 8) hMc (by decide) (by decide) (by decide) rfl ?_
    intro T8 h8 k8 b8 g8 X8 e8 E8 A8 B8
    have g_b8 : n0 ≤ b8 := Nat.le_trans Z0 (Nat.le_of_eq g8.symm)
    have sz_b8 : h0.size ≤ b8 := Nat.le_trans (Keep.refl h0 []).1 (Nat.le_of_eq g8.symm)
    have ne_a_b8 : a ≠ b8 := own_ne V0.lt g8
    have A_9 := V0.ext E8
    have E_10 := E0.ext E8
    have K_11 := (Keep.refl h0 []).ext E8
    have Z_12 : n0 ≤ h8.size := Nat.le_trans Z0 E8.1
    have V8 : Arv Z h8 b8 k8 .byte M [] (.int (0 : Int32)) := Arv.new A8 hM0
    have V8p : Arv Z h8 b8 k8 .byte M (List.replicate M.toNatClampNeg (.int (0 : Int32))) (.int (0 : Int32)) := V8.pad (pad_rep [] (.int (0 : Int32)) M.toNatClampNeg)
    refine own_astoreN (n := 18) (l' := #[.val (.ref a), .val (.int M), .val (.ref b8)]) X8 hx (hb hby d9_17) rfl rfl rfl ?_
    refine own_aloadN (n := 19) X8 hx (hb hby d9_18) rfl rfl rfl ?_
    refine own_iconst (n := 20) (z := (0 : Int32)) X8 hx (hb hby d9_19) rfl rfl ?_
    refine own_aloadN (n := 21) X8 hx (hb hby d9_20) rfl rfl rfl ?_
    refine own_iconst (n := 22) (z := (0 : Int32)) X8 hx (hb hby d9_21) rfl rfl ?_
    refine own_aloadN (n := 23) X8 hx (hb hby d9_22) rfl rfl rfl ?_
    refine own_len (n := 24) X8 hx hZ e8 A_9 (hb hby d9_23) rfl ?_
    refine own_iloadN (n := 25) X8 hx (hb hby d9_24) rfl rfl ?_
    refine own_S (n := 28) (argsL := [(.int N), (.int M)]) (rest := [(.int (0 : Int32)), (.ref b8), (.int (0 : Int32)), (.ref a)]) X8 hx hZ hown (own_rm_min l Z a0 hw N M h8 n0 Z_12) (ww45 hw) (ww46 hw) (ww39 hw) (ww47 hw) (by decide) e8 (by rw [hml]; rfl) (lenOf own_pd2 rfl) rfl (hb hby d9_25) (Nat.le_of_ble_eq_true rfl) (Nat.le_of_ble_eq_true rfl) (Nat.le_of_ble_eq_true rfl) (Nat.le_of_ble_eq_true rfl) rfl ?_
    rintro v13 T13 L13 X13 ⟨rfl, Nq13, eq13⟩
    have N13 := Fr.app N0 Nq13
    change own_G p e below _ _ (mkF m 28 _ [(.int (own_min N M)), (.int (0 : Int32)), (.ref b8), (.int (0 : Int32)), (.ref a)])
    obtain ⟨T14, h14, L14, X14, e14, N14, K14, V14q, st14⟩ := cpA X13 hx hZ hown (ww48 hw) (ww51 hw) (ww49 hw) (ww50 hw) eq13 A_9 V8p (Or.inl ⟨rfl, rfl⟩) (by decide) (by decide) hmn.1 (by show 0 + (own_min N M).toNatClampNeg ≤ _; omega) (by show 0 + (own_min N M).toNatClampNeg ≤ _; omega) rfl (by show 0 + (own_min N M).toNatClampNeg ≤ _; rw [List.length_replicate]; omega) N13 g_b8 (g := (mkF m 28 #[.val (.ref a), .val (.int M), .val (.ref b8)] [(.int (own_min N M)), (.int (0 : Int32)), (.ref b8), (.int (0 : Int32)), (.ref a)])) rfl (by rw [hml]; rfl) rfl (hb hby d9_28) (by decide) (W := 0) (by show 2 * 0 + _ ≤ _; exact Nat.le_of_eq rfl) (by decide)
    have V14 : Arv Z h14 b8 k8 .byte M (vs.take M.toNatClampNeg ++ List.replicate (M.toNatClampNeg - N.toNatClampNeg) (.int (0 : Int32))) (.int (0 : Int32)) := (by have q := V14q; rw [hmn.2] at q; rw [← own_cpl vs (.int (0 : Int32)) N.toNatClampNeg M.toNatClampNeg hvl]; exact q)
    have A_15 := A_9.keep K14 (by simp [ne_a_b8])
    have E_16 := E_10.keep K14
    have K_17 := K_11.trans K14 (fun x hx => by cases List.mem_singleton.mp hx; exact (Or.inr sz_b8))
    have E_18 := B8.keep K14
    have Z_19 : n0 ≤ h14.size := Nat.le_trans Z_12 K14.1
    refine own_go (T' := T14) (f' := (mkF m 31 #[.val (.ref a), .val (.int M), .val (.ref b8)] [])) st14 ?_
    refine own_aloadN (n := 32) X14 hx (hb hby d9_31) rfl rfl rfl ?_
    refine own_retA X14 hx hlk hret rfl rfl rfl e14 (hb hby d9_32) (by decide) (by decide) ?_
    exact ⟨b8, k8, rfl, N14, K_17, sz_b8, g_b8, V14, E_18⟩
theorem own_pn15 : plainFor (⟨"com/example/doseline/doseline/fhir/JsonWriter", "toByteArray", "()[B"⟩ : MethodName) = true := plainFor_of_name (by first | (simp [plainName, overriddenIn]; done) | decide +kernel)
theorem d15_0 : decode prog_96_method_20_code 0 = .ok (.aload_n 0, 1) := by decide +kernel
theorem d15_1 : decode prog_96_method_20_code 1 = .ok (.getfield 7, 3) := by decide +kernel
theorem d15_4 : decode prog_96_method_20_code 4 = .ok (.aload_n 0, 1) := by decide +kernel
theorem d15_5 : decode prog_96_method_20_code 5 = .ok (.getfield 48, 3) := by decide +kernel
theorem d15_8 : decode prog_96_method_20_code 8 = .ok (.invokestatic 96, 3) := by decide +kernel
theorem d15_11 : decode prog_96_method_20_code 11 = .ok (.areturn, 1) := by decide +kernel
theorem own_ef15_own_rm_tba_3 (m : MethodId) (y0 : Addr) : entryFrame m #[(.ref y0)] 1 = mkF m 0 #[.val (.ref y0)] [] := by first | (simp [entryFrame, mkF, argsToLocals, Value.category]; done) | rfl
set_option maxRecDepth 65536 in
set_option maxHeartbeats 40000000 in
theorem own_rm_tba_3 (l : Launch) (Z : State) (a0 : Array Value) (hw : ∀ d ∈ tables_1, d.before a0 Z = true) (a b : Addr) (kb : ClassId) (N : Int32) (rest : List Value) (ae : Int32) (c0 c1 c2 : Int32) (h0 : Heap) (n0 : Nat) (Z0 : n0 ≤ h0.size) (E0 : Exa Z h0 a "com/example/doseline/doseline/fhir/JsonWriter") (FB : Fld Z h0 a "com/example/doseline/doseline/fhir/JsonWriter" "bytes" "[B" (.ref b)) (FL : Fld Z h0 a "com/example/doseline/doseline/fhir/JsonWriter" "length" "I" (.int (3 : Int32))) (FA : Fld Z h0 a "com/example/doseline/doseline/fhir/JsonWriter" "afterElement" "Z" (.int ae)) (VB : Arv Z h0 b kb .byte N ((.int c0) :: (.int c1) :: (.int c2) :: rest) (.int (0 : Int32))) (EB : Exa Z h0 b "[B") (hl : rest.length + 3 = N.toNatClampNeg) (hN : N.toInt ≤ 15) (g_a : n0 ≤ a) (g_b : n0 ≤ b) :
    own_Met l Z (⟨"com/example/doseline/doseline/fhir/JsonWriter", "toByteArray", "()[B"⟩ : MethodName) prog_96_method_20_code 1 (some (.array .byte)) [] ({ frames := 2, cells := 1, slots := 8, locals := 54 } : Room) #[(.ref a)] h0 (fun v h L => ∃ (r : Addr) (k' : ClassId), v = some (.ref r) ∧ Fr n0 L ∧ Keep h0 h [] ∧ h0.size ≤ r ∧ n0 ≤ r ∧ Arv Z h r k' .byte (3 : Int32) [(.int c0), (.int c1), (.int c2)] (.int (0 : Int32))) := by
  refine own_met own_pn15 ?_
  intro p e s m below meth c s₁ hx hby hml hown hnm hret hlk hZ X0 hE0
  have N0 := Fr.nil n0
  refine own_cast (own_ef15_own_rm_tba_3 m a) ?_
  have hN0 := own_arvn VB
  refine own_aloadN (n := 1) X0 hx (hb hby d15_0) rfl rfl rfl ?_
  refine own_getF (n := 4) X0 hx hZ hown (host := "") (Or.inl (ww10 hw)) Via.refl hE0 FB (hb hby d15_1) rfl ?_
  intro T1 X1 e1
  refine own_aloadN (n := 5) X1 hx (hb hby d15_4) rfl rfl rfl ?_
  refine own_getF (n := 8) X1 hx hZ hown (host := "") (Or.inl (ww35 hw)) Via.refl e1 FL (hb hby d15_5) rfl ?_
  intro T2 X2 e2
  refine own_S (n := 11) (argsL := [(.ref b), (.int (3 : Int32))]) (rest := []) X2 hx hZ hown (own_rm_copy8 l Z a0 hw b kb N (3 : Int32) ((.int c0) :: (.int c1) :: (.int c2) :: rest) h0 n0 Z0 VB (by (try simp only [List.length_cons]); omega) EB (by decide) (by decide)) (ww41 hw) (ww42 hw) (ww43 hw) (ww44 hw) (by decide) e2 (by rw [hml]; rfl) (lenOf own_pd3 rfl) rfl (hb hby d15_8) (Nat.le_of_ble_eq_true rfl) (Nat.le_of_ble_eq_true rfl) (Nat.le_of_ble_eq_true rfl) (Nat.le_of_ble_eq_true rfl) rfl ?_
  rintro v3 T3 L3 X3 ⟨y3, k3, rfl, Nq3, K3, sz3, gb3, Vb3, Ec3⟩
  have N3 := Fr.app N0 Nq3
  have E_4 := E0.keep K3
  have F_5 := FB.keep K3 (by simp)
  have F_6 := FL.keep K3 (by simp)
  have F_7 := FA.keep K3 (by simp)
  have A_8 := VB.keep K3 (by simp)
  have E_9 := EB.keep K3
  have K_10 := (Keep.refl h0 []).trans K3 (fun x hx => nomatch hx)
  have Z_11 : n0 ≤ T3.heap.size := Nat.le_trans Z0 K3.1
  have Vc3 : Arv Z T3.heap y3 k3 .byte (3 : Int32) [(.int c0), (.int c1), (.int c2)] (.int (0 : Int32)) := by have q := Vb3; rw [show (3 : Int32).toNatClampNeg - N.toNatClampNeg = 0 by show 3 - N.toNatClampNeg = 0; omega] at q; exact q
  change own_G p e below _ _ (mkF m 11 _ [(.ref y3)])
  refine own_retA X3 hx hlk hret rfl rfl rfl rfl (hb hby d15_11) (by decide) (by decide) ?_
  exact ⟨y3, k3, rfl, N3, K_10, sz3, gb3, Vc3⟩
theorem own_pd5 : parseMethodDescriptor "()[B" = some ⟨[], some (.array .byte)⟩ := by decide +kernel
theorem own_pn16 : plainFor (⟨"com/example/doseline/doseline/fhir/JsonWriterToByteArrayPinLaw", "same", "([B[BI)Z"⟩ : MethodName) = true := plainFor_of_name (by first | (simp [plainName, overriddenIn]; done) | decide +kernel)
theorem d16_0 : decode method_3_code 0 = .ok (.aload_n 0, 1) := by decide +kernel
theorem d16_1 : decode method_3_code 1 = .ok (.ifnull 9, 3) := by decide +kernel
theorem d16_4 : decode method_3_code 4 = .ok (.aload_n 0, 1) := by decide +kernel
theorem d16_5 : decode method_3_code 5 = .ok (.arraylength, 1) := by decide +kernel
theorem d16_6 : decode method_3_code 6 = .ok (.iload_n 2, 1) := by decide +kernel
theorem d16_7 : decode method_3_code 7 = .ok (.if_icmp .eq 5, 3) := by decide +kernel
theorem d16_12 : decode method_3_code 12 = .ok (.aload_n 0, 1) := by decide +kernel
theorem d16_13 : decode method_3_code 13 = .ok (.aload_n 1, 1) := by decide +kernel
theorem d16_14 : decode method_3_code 14 = .ok (.iconst 0, 1) := by decide +kernel
theorem d16_15 : decode method_3_code 15 = .ok (.iload_n 2, 1) := by decide +kernel
theorem d16_16 : decode method_3_code 16 = .ok (.invokestatic 7, 3) := by decide +kernel
theorem own_pn17 : plainFor (⟨"com/example/doseline/doseline/fhir/JsonWriterToByteArrayPinLaw", "at", "([B[BII)Z"⟩ : MethodName) = true := plainFor_of_name (by first | (simp [plainName, overriddenIn]; done) | decide +kernel)
theorem d17_0 : decode method_2_code 0 = .ok (.iload_n 2, 1) := by decide +kernel
theorem d17_1 : decode method_2_code 1 = .ok (.iload_n 3, 1) := by decide +kernel
theorem d17_2 : decode method_2_code 2 = .ok (.if_icmp .ge 12, 3) := by decide +kernel
theorem d17_5 : decode method_2_code 5 = .ok (.aload_n 0, 1) := by decide +kernel
theorem d17_6 : decode method_2_code 6 = .ok (.iload_n 2, 1) := by decide +kernel
theorem d17_7 : decode method_2_code 7 = .ok (.baload, 1) := by decide +kernel
theorem d17_8 : decode method_2_code 8 = .ok (.aload_n 1, 1) := by decide +kernel
theorem d17_9 : decode method_2_code 9 = .ok (.iload_n 2, 1) := by decide +kernel
theorem d17_10 : decode method_2_code 10 = .ok (.baload, 1) := by decide +kernel
theorem d17_11 : decode method_2_code 11 = .ok (.if_icmp .ne 7, 3) := by decide +kernel
theorem d17_14 : decode method_2_code 14 = .ok (.iconst 1, 1) := by decide +kernel
theorem d17_15 : decode method_2_code 15 = .ok (.goto 4, 3) := by decide +kernel
theorem d17_19 : decode method_2_code 19 = .ok (.ireturn, 1) := by decide +kernel
theorem own_ef17_own_rm_at_0_3 (m : MethodId) (y0 : Addr) (y1 : Addr) (y2 : Int32) (y3 : Int32) : entryFrame m #[(.ref y0), (.ref y1), (.int y2), (.int y3)] 4 = mkF m 0 #[.val (.ref y0), .val (.ref y1), .val (.int y2), .val (.int y3)] [] := by first | (simp [entryFrame, mkF, argsToLocals, Value.category]; done) | rfl
set_option maxRecDepth 65536 in
set_option maxHeartbeats 40000000 in
theorem own_rm_at_0_3 (l : Launch) (Z : State) (a0 : Array Value) (hw : ∀ d ∈ tables_1, d.before a0 Z = true) (a b : Addr) (kr kx : ClassId) (c0 c1 c2 e3 e4 e5 e6 e7 : Int32) (h0 : Heap) (n0 : Nat) (Z0 : n0 ≤ h0.size) (V0 : Arv Z h0 a kr .byte (3 : Int32) [(.int c0), (.int c1), (.int c2)] (.int (0 : Int32))) (V1 : Arv Z h0 b kx .byte (8 : Int32) [(.int c0), (.int c1), (.int c2), (.int e3), (.int e4), (.int e5), (.int e6), (.int e7)] (.int (0 : Int32))) :
    own_Met l Z (⟨"com/example/doseline/doseline/fhir/JsonWriterToByteArrayPinLaw", "at", "([B[BII)Z"⟩ : MethodName) method_2_code 4 (some .boolean) [] ({ frames := 0, cells := 0, slots := 0, locals := 0 } : Room) #[(.ref a), (.ref b), (.int (0 : Int32)), (.int (3 : Int32))] h0 (fun v h L => v = some (.int (1 : Int32)) ∧ Fr n0 L ∧ h = h0) := by
  refine own_met own_pn17 ?_
  intro p e s m below meth c s₁ hx hby hml hown hnm hret hlk hZ X0 hE0
  have N0 := Fr.nil n0
  refine own_cast (own_ef17_own_rm_at_0_3 m a b (0 : Int32) (3 : Int32)) ?_
  refine own_iloadN (n := 1) X0 hx (hb hby d17_0) rfl rfl ?_
  refine own_iloadN (n := 2) X0 hx (hb hby d17_1) rfl rfl ?_
  refine own_icmpNo (n := 5) X0 hx (hb hby d17_2) (tlt (by decide : (0 : Int32) < (3 : Int32))).2.1 rfl ?_
  refine own_aloadN (n := 6) X0 hx (hb hby d17_5) rfl rfl rfl ?_
  refine own_iloadN (n := 7) X0 hx (hb hby d17_6) rfl rfl ?_
  refine own_ld_baload (n := 8) (v := (.int c0)) X0 hx hZ hE0 V0 ⟨by decide, by decide⟩ rfl (hb hby d17_7) rfl ?_
  refine own_aloadN (n := 9) X0 hx (hb hby d17_8) rfl rfl rfl ?_
  refine own_iloadN (n := 10) X0 hx (hb hby d17_9) rfl rfl ?_
  refine own_ld_baload (n := 11) (v := (.int c0)) X0 hx hZ hE0 V1 ⟨by decide, by decide⟩ rfl (hb hby d17_10) rfl ?_
  refine own_icmpNo (n := 14) X0 hx (hb hby d17_11) (teq (rfl : c0 = c0)).2 rfl ?_
  refine own_iconst (n := 15) (z := (1 : Int32)) X0 hx (hb hby d17_14) rfl rfl ?_
  refine own_goto (n := 19) X0 hx (hb hby d17_15) (by decide) (by decide) ?_
  refine own_retZ X0 hx hlk hret (by simp) hE0 (w := (1 : Int32)) rfl (hb hby d17_19) (by decide) (by decide) ?_
  exact ⟨rfl, N0, rfl⟩
theorem own_pd6 : parseMethodDescriptor "([B[BII)Z" = some ⟨[(.array .byte), (.array .byte), .int, .int], some .boolean⟩ := by decide +kernel
theorem d16_19 : decode method_3_code 19 = .ok (.ifCond .eq 79, 3) := by decide +kernel
theorem d16_22 : decode method_3_code 22 = .ok (.aload_n 0, 1) := by decide +kernel
theorem d16_23 : decode method_3_code 23 = .ok (.aload_n 1, 1) := by decide +kernel
theorem d16_24 : decode method_3_code 24 = .ok (.iconst 1, 1) := by decide +kernel
theorem d16_25 : decode method_3_code 25 = .ok (.iload_n 2, 1) := by decide +kernel
theorem d16_26 : decode method_3_code 26 = .ok (.invokestatic 7, 3) := by decide +kernel
theorem own_ef17_own_rm_at_1_3 (m : MethodId) (y0 : Addr) (y1 : Addr) (y2 : Int32) (y3 : Int32) : entryFrame m #[(.ref y0), (.ref y1), (.int y2), (.int y3)] 4 = mkF m 0 #[.val (.ref y0), .val (.ref y1), .val (.int y2), .val (.int y3)] [] := by first | (simp [entryFrame, mkF, argsToLocals, Value.category]; done) | rfl
set_option maxRecDepth 65536 in
set_option maxHeartbeats 40000000 in
theorem own_rm_at_1_3 (l : Launch) (Z : State) (a0 : Array Value) (hw : ∀ d ∈ tables_1, d.before a0 Z = true) (a b : Addr) (kr kx : ClassId) (c0 c1 c2 e3 e4 e5 e6 e7 : Int32) (h0 : Heap) (n0 : Nat) (Z0 : n0 ≤ h0.size) (V0 : Arv Z h0 a kr .byte (3 : Int32) [(.int c0), (.int c1), (.int c2)] (.int (0 : Int32))) (V1 : Arv Z h0 b kx .byte (8 : Int32) [(.int c0), (.int c1), (.int c2), (.int e3), (.int e4), (.int e5), (.int e6), (.int e7)] (.int (0 : Int32))) :
    own_Met l Z (⟨"com/example/doseline/doseline/fhir/JsonWriterToByteArrayPinLaw", "at", "([B[BII)Z"⟩ : MethodName) method_2_code 4 (some .boolean) [] ({ frames := 0, cells := 0, slots := 0, locals := 0 } : Room) #[(.ref a), (.ref b), (.int (1 : Int32)), (.int (3 : Int32))] h0 (fun v h L => v = some (.int (1 : Int32)) ∧ Fr n0 L ∧ h = h0) := by
  refine own_met own_pn17 ?_
  intro p e s m below meth c s₁ hx hby hml hown hnm hret hlk hZ X0 hE0
  have N0 := Fr.nil n0
  refine own_cast (own_ef17_own_rm_at_1_3 m a b (1 : Int32) (3 : Int32)) ?_
  refine own_iloadN (n := 1) X0 hx (hb hby d17_0) rfl rfl ?_
  refine own_iloadN (n := 2) X0 hx (hb hby d17_1) rfl rfl ?_
  refine own_icmpNo (n := 5) X0 hx (hb hby d17_2) (tlt (by decide : (1 : Int32) < (3 : Int32))).2.1 rfl ?_
  refine own_aloadN (n := 6) X0 hx (hb hby d17_5) rfl rfl rfl ?_
  refine own_iloadN (n := 7) X0 hx (hb hby d17_6) rfl rfl ?_
  refine own_ld_baload (n := 8) (v := (.int c1)) X0 hx hZ hE0 V0 ⟨by decide, by decide⟩ rfl (hb hby d17_7) rfl ?_
  refine own_aloadN (n := 9) X0 hx (hb hby d17_8) rfl rfl rfl ?_
  refine own_iloadN (n := 10) X0 hx (hb hby d17_9) rfl rfl ?_
  refine own_ld_baload (n := 11) (v := (.int c1)) X0 hx hZ hE0 V1 ⟨by decide, by decide⟩ rfl (hb hby d17_10) rfl ?_
  refine own_icmpNo (n := 14) X0 hx (hb hby d17_11) (teq (rfl : c1 = c1)).2 rfl ?_
  refine own_iconst (n := 15) (z := (1 : Int32)) X0 hx (hb hby d17_14) rfl rfl ?_
  refine own_goto (n := 19) X0 hx (hb hby d17_15) (by decide) (by decide) ?_
  refine own_retZ X0 hx hlk hret (by simp) hE0 (w := (1 : Int32)) rfl (hb hby d17_19) (by decide) (by decide) ?_
  exact ⟨rfl, N0, rfl⟩
theorem d16_29 : decode method_3_code 29 = .ok (.ifCond .eq 69, 3) := by decide +kernel
theorem d16_32 : decode method_3_code 32 = .ok (.aload_n 0, 1) := by decide +kernel
theorem d16_33 : decode method_3_code 33 = .ok (.aload_n 1, 1) := by decide +kernel
theorem d16_34 : decode method_3_code 34 = .ok (.iconst 2, 1) := by decide +kernel
theorem d16_35 : decode method_3_code 35 = .ok (.iload_n 2, 1) := by decide +kernel
theorem d16_36 : decode method_3_code 36 = .ok (.invokestatic 7, 3) := by decide +kernel
theorem own_ef17_own_rm_at_2_3 (m : MethodId) (y0 : Addr) (y1 : Addr) (y2 : Int32) (y3 : Int32) : entryFrame m #[(.ref y0), (.ref y1), (.int y2), (.int y3)] 4 = mkF m 0 #[.val (.ref y0), .val (.ref y1), .val (.int y2), .val (.int y3)] [] := by first | (simp [entryFrame, mkF, argsToLocals, Value.category]; done) | rfl
set_option maxRecDepth 65536 in
set_option maxHeartbeats 40000000 in
theorem own_rm_at_2_3 (l : Launch) (Z : State) (a0 : Array Value) (hw : ∀ d ∈ tables_1, d.before a0 Z = true) (a b : Addr) (kr kx : ClassId) (c0 c1 c2 e3 e4 e5 e6 e7 : Int32) (h0 : Heap) (n0 : Nat) (Z0 : n0 ≤ h0.size) (V0 : Arv Z h0 a kr .byte (3 : Int32) [(.int c0), (.int c1), (.int c2)] (.int (0 : Int32))) (V1 : Arv Z h0 b kx .byte (8 : Int32) [(.int c0), (.int c1), (.int c2), (.int e3), (.int e4), (.int e5), (.int e6), (.int e7)] (.int (0 : Int32))) :
    own_Met l Z (⟨"com/example/doseline/doseline/fhir/JsonWriterToByteArrayPinLaw", "at", "([B[BII)Z"⟩ : MethodName) method_2_code 4 (some .boolean) [] ({ frames := 0, cells := 0, slots := 0, locals := 0 } : Room) #[(.ref a), (.ref b), (.int (2 : Int32)), (.int (3 : Int32))] h0 (fun v h L => v = some (.int (1 : Int32)) ∧ Fr n0 L ∧ h = h0) := by
  refine own_met own_pn17 ?_
  intro p e s m below meth c s₁ hx hby hml hown hnm hret hlk hZ X0 hE0
  have N0 := Fr.nil n0
  refine own_cast (own_ef17_own_rm_at_2_3 m a b (2 : Int32) (3 : Int32)) ?_
  refine own_iloadN (n := 1) X0 hx (hb hby d17_0) rfl rfl ?_
  refine own_iloadN (n := 2) X0 hx (hb hby d17_1) rfl rfl ?_
  refine own_icmpNo (n := 5) X0 hx (hb hby d17_2) (tlt (by decide : (2 : Int32) < (3 : Int32))).2.1 rfl ?_
  refine own_aloadN (n := 6) X0 hx (hb hby d17_5) rfl rfl rfl ?_
  refine own_iloadN (n := 7) X0 hx (hb hby d17_6) rfl rfl ?_
  refine own_ld_baload (n := 8) (v := (.int c2)) X0 hx hZ hE0 V0 ⟨by decide, by decide⟩ rfl (hb hby d17_7) rfl ?_
  refine own_aloadN (n := 9) X0 hx (hb hby d17_8) rfl rfl rfl ?_
  refine own_iloadN (n := 10) X0 hx (hb hby d17_9) rfl rfl ?_
  refine own_ld_baload (n := 11) (v := (.int c2)) X0 hx hZ hE0 V1 ⟨by decide, by decide⟩ rfl (hb hby d17_10) rfl ?_
  refine own_icmpNo (n := 14) X0 hx (hb hby d17_11) (teq (rfl : c2 = c2)).2 rfl ?_
  refine own_iconst (n := 15) (z := (1 : Int32)) X0 hx (hb hby d17_14) rfl rfl ?_
  refine own_goto (n := 19) X0 hx (hb hby d17_15) (by decide) (by decide) ?_
  refine own_retZ X0 hx hlk hret (by simp) hE0 (w := (1 : Int32)) rfl (hb hby d17_19) (by decide) (by decide) ?_
  exact ⟨rfl, N0, rfl⟩
theorem d16_39 : decode method_3_code 39 = .ok (.ifCond .eq 59, 3) := by decide +kernel
theorem d16_42 : decode method_3_code 42 = .ok (.aload_n 0, 1) := by decide +kernel
theorem d16_43 : decode method_3_code 43 = .ok (.aload_n 1, 1) := by decide +kernel
theorem d16_44 : decode method_3_code 44 = .ok (.iconst 3, 1) := by decide +kernel
theorem d16_45 : decode method_3_code 45 = .ok (.iload_n 2, 1) := by decide +kernel
theorem d16_46 : decode method_3_code 46 = .ok (.invokestatic 7, 3) := by decide +kernel
theorem own_ef17_own_rm_at_3_3 (m : MethodId) (y0 : Addr) (y1 : Addr) (y2 : Int32) (y3 : Int32) : entryFrame m #[(.ref y0), (.ref y1), (.int y2), (.int y3)] 4 = mkF m 0 #[.val (.ref y0), .val (.ref y1), .val (.int y2), .val (.int y3)] [] := by first | (simp [entryFrame, mkF, argsToLocals, Value.category]; done) | rfl
set_option maxRecDepth 65536 in
set_option maxHeartbeats 40000000 in
theorem own_rm_at_3_3 (l : Launch) (Z : State) (a0 : Array Value) (hw : ∀ d ∈ tables_1, d.before a0 Z = true) (a b : Addr) (kr kx : ClassId) (c0 c1 c2 e3 e4 e5 e6 e7 : Int32) (h0 : Heap) (n0 : Nat) (Z0 : n0 ≤ h0.size) (V0 : Arv Z h0 a kr .byte (3 : Int32) [(.int c0), (.int c1), (.int c2)] (.int (0 : Int32))) (V1 : Arv Z h0 b kx .byte (8 : Int32) [(.int c0), (.int c1), (.int c2), (.int e3), (.int e4), (.int e5), (.int e6), (.int e7)] (.int (0 : Int32))) :
    own_Met l Z (⟨"com/example/doseline/doseline/fhir/JsonWriterToByteArrayPinLaw", "at", "([B[BII)Z"⟩ : MethodName) method_2_code 4 (some .boolean) [] ({ frames := 0, cells := 0, slots := 0, locals := 0 } : Room) #[(.ref a), (.ref b), (.int (3 : Int32)), (.int (3 : Int32))] h0 (fun v h L => v = some (.int (1 : Int32)) ∧ Fr n0 L ∧ h = h0) := by
  refine own_met own_pn17 ?_
  intro p e s m below meth c s₁ hx hby hml hown hnm hret hlk hZ X0 hE0
  have N0 := Fr.nil n0
  refine own_cast (own_ef17_own_rm_at_3_3 m a b (3 : Int32) (3 : Int32)) ?_
  refine own_iloadN (n := 1) X0 hx (hb hby d17_0) rfl rfl ?_
  refine own_iloadN (n := 2) X0 hx (hb hby d17_1) rfl rfl ?_
  refine own_icmpYes (n := 14) X0 hx (hb hby d17_2) (flt (by decide : ¬ ((3 : Int32) < (3 : Int32)))).2.1 (by decide) (by decide) ?_
  refine own_iconst (n := 15) (z := (1 : Int32)) X0 hx (hb hby d17_14) rfl rfl ?_
  refine own_goto (n := 19) X0 hx (hb hby d17_15) (by decide) (by decide) ?_
  refine own_retZ X0 hx hlk hret (by simp) hE0 (w := (1 : Int32)) rfl (hb hby d17_19) (by decide) (by decide) ?_
  exact ⟨rfl, N0, rfl⟩
theorem d16_49 : decode method_3_code 49 = .ok (.ifCond .eq 49, 3) := by decide +kernel
theorem d16_52 : decode method_3_code 52 = .ok (.aload_n 0, 1) := by decide +kernel
theorem d16_53 : decode method_3_code 53 = .ok (.aload_n 1, 1) := by decide +kernel
theorem d16_54 : decode method_3_code 54 = .ok (.iconst 4, 1) := by decide +kernel
theorem d16_55 : decode method_3_code 55 = .ok (.iload_n 2, 1) := by decide +kernel
theorem d16_56 : decode method_3_code 56 = .ok (.invokestatic 7, 3) := by decide +kernel
theorem own_ef17_own_rm_at_4_3 (m : MethodId) (y0 : Addr) (y1 : Addr) (y2 : Int32) (y3 : Int32) : entryFrame m #[(.ref y0), (.ref y1), (.int y2), (.int y3)] 4 = mkF m 0 #[.val (.ref y0), .val (.ref y1), .val (.int y2), .val (.int y3)] [] := by first | (simp [entryFrame, mkF, argsToLocals, Value.category]; done) | rfl
set_option maxRecDepth 65536 in
set_option maxHeartbeats 40000000 in
theorem own_rm_at_4_3 (l : Launch) (Z : State) (a0 : Array Value) (hw : ∀ d ∈ tables_1, d.before a0 Z = true) (a b : Addr) (kr kx : ClassId) (c0 c1 c2 e3 e4 e5 e6 e7 : Int32) (h0 : Heap) (n0 : Nat) (Z0 : n0 ≤ h0.size) (V0 : Arv Z h0 a kr .byte (3 : Int32) [(.int c0), (.int c1), (.int c2)] (.int (0 : Int32))) (V1 : Arv Z h0 b kx .byte (8 : Int32) [(.int c0), (.int c1), (.int c2), (.int e3), (.int e4), (.int e5), (.int e6), (.int e7)] (.int (0 : Int32))) :
    own_Met l Z (⟨"com/example/doseline/doseline/fhir/JsonWriterToByteArrayPinLaw", "at", "([B[BII)Z"⟩ : MethodName) method_2_code 4 (some .boolean) [] ({ frames := 0, cells := 0, slots := 0, locals := 0 } : Room) #[(.ref a), (.ref b), (.int (4 : Int32)), (.int (3 : Int32))] h0 (fun v h L => v = some (.int (1 : Int32)) ∧ Fr n0 L ∧ h = h0) := by
  refine own_met own_pn17 ?_
  intro p e s m below meth c s₁ hx hby hml hown hnm hret hlk hZ X0 hE0
  have N0 := Fr.nil n0
  refine own_cast (own_ef17_own_rm_at_4_3 m a b (4 : Int32) (3 : Int32)) ?_
  refine own_iloadN (n := 1) X0 hx (hb hby d17_0) rfl rfl ?_
  refine own_iloadN (n := 2) X0 hx (hb hby d17_1) rfl rfl ?_
  refine own_icmpYes (n := 14) X0 hx (hb hby d17_2) (flt (by decide : ¬ ((4 : Int32) < (3 : Int32)))).2.1 (by decide) (by decide) ?_
  refine own_iconst (n := 15) (z := (1 : Int32)) X0 hx (hb hby d17_14) rfl rfl ?_
  refine own_goto (n := 19) X0 hx (hb hby d17_15) (by decide) (by decide) ?_
  refine own_retZ X0 hx hlk hret (by simp) hE0 (w := (1 : Int32)) rfl (hb hby d17_19) (by decide) (by decide) ?_
  exact ⟨rfl, N0, rfl⟩
theorem d16_59 : decode method_3_code 59 = .ok (.ifCond .eq 39, 3) := by decide +kernel
theorem d16_62 : decode method_3_code 62 = .ok (.aload_n 0, 1) := by decide +kernel
theorem d16_63 : decode method_3_code 63 = .ok (.aload_n 1, 1) := by decide +kernel
theorem d16_64 : decode method_3_code 64 = .ok (.iconst 5, 1) := by decide +kernel
theorem d16_65 : decode method_3_code 65 = .ok (.iload_n 2, 1) := by decide +kernel
theorem d16_66 : decode method_3_code 66 = .ok (.invokestatic 7, 3) := by decide +kernel
theorem own_ef17_own_rm_at_5_3 (m : MethodId) (y0 : Addr) (y1 : Addr) (y2 : Int32) (y3 : Int32) : entryFrame m #[(.ref y0), (.ref y1), (.int y2), (.int y3)] 4 = mkF m 0 #[.val (.ref y0), .val (.ref y1), .val (.int y2), .val (.int y3)] [] := by first | (simp [entryFrame, mkF, argsToLocals, Value.category]; done) | rfl
set_option maxRecDepth 65536 in
set_option maxHeartbeats 40000000 in
theorem own_rm_at_5_3 (l : Launch) (Z : State) (a0 : Array Value) (hw : ∀ d ∈ tables_1, d.before a0 Z = true) (a b : Addr) (kr kx : ClassId) (c0 c1 c2 e3 e4 e5 e6 e7 : Int32) (h0 : Heap) (n0 : Nat) (Z0 : n0 ≤ h0.size) (V0 : Arv Z h0 a kr .byte (3 : Int32) [(.int c0), (.int c1), (.int c2)] (.int (0 : Int32))) (V1 : Arv Z h0 b kx .byte (8 : Int32) [(.int c0), (.int c1), (.int c2), (.int e3), (.int e4), (.int e5), (.int e6), (.int e7)] (.int (0 : Int32))) :
    own_Met l Z (⟨"com/example/doseline/doseline/fhir/JsonWriterToByteArrayPinLaw", "at", "([B[BII)Z"⟩ : MethodName) method_2_code 4 (some .boolean) [] ({ frames := 0, cells := 0, slots := 0, locals := 0 } : Room) #[(.ref a), (.ref b), (.int (5 : Int32)), (.int (3 : Int32))] h0 (fun v h L => v = some (.int (1 : Int32)) ∧ Fr n0 L ∧ h = h0) := by
  refine own_met own_pn17 ?_
  intro p e s m below meth c s₁ hx hby hml hown hnm hret hlk hZ X0 hE0
  have N0 := Fr.nil n0
  refine own_cast (own_ef17_own_rm_at_5_3 m a b (5 : Int32) (3 : Int32)) ?_
  refine own_iloadN (n := 1) X0 hx (hb hby d17_0) rfl rfl ?_
  refine own_iloadN (n := 2) X0 hx (hb hby d17_1) rfl rfl ?_
  refine own_icmpYes (n := 14) X0 hx (hb hby d17_2) (flt (by decide : ¬ ((5 : Int32) < (3 : Int32)))).2.1 (by decide) (by decide) ?_
  refine own_iconst (n := 15) (z := (1 : Int32)) X0 hx (hb hby d17_14) rfl rfl ?_
  refine own_goto (n := 19) X0 hx (hb hby d17_15) (by decide) (by decide) ?_
  refine own_retZ X0 hx hlk hret (by simp) hE0 (w := (1 : Int32)) rfl (hb hby d17_19) (by decide) (by decide) ?_
  exact ⟨rfl, N0, rfl⟩
theorem d16_69 : decode method_3_code 69 = .ok (.ifCond .eq 29, 3) := by decide +kernel
theorem d16_72 : decode method_3_code 72 = .ok (.aload_n 0, 1) := by decide +kernel
theorem d16_73 : decode method_3_code 73 = .ok (.aload_n 1, 1) := by decide +kernel
theorem d16_74 : decode method_3_code 74 = .ok (.bipush 6, 2) := by decide +kernel
theorem d16_76 : decode method_3_code 76 = .ok (.iload_n 2, 1) := by decide +kernel
theorem d16_77 : decode method_3_code 77 = .ok (.invokestatic 7, 3) := by decide +kernel
theorem own_ef17_own_rm_at_6_3 (m : MethodId) (y0 : Addr) (y1 : Addr) (y2 : Int32) (y3 : Int32) : entryFrame m #[(.ref y0), (.ref y1), (.int y2), (.int y3)] 4 = mkF m 0 #[.val (.ref y0), .val (.ref y1), .val (.int y2), .val (.int y3)] [] := by first | (simp [entryFrame, mkF, argsToLocals, Value.category]; done) | rfl
set_option maxRecDepth 65536 in
set_option maxHeartbeats 40000000 in
theorem own_rm_at_6_3 (l : Launch) (Z : State) (a0 : Array Value) (hw : ∀ d ∈ tables_1, d.before a0 Z = true) (a b : Addr) (kr kx : ClassId) (c0 c1 c2 e3 e4 e5 e6 e7 : Int32) (h0 : Heap) (n0 : Nat) (Z0 : n0 ≤ h0.size) (V0 : Arv Z h0 a kr .byte (3 : Int32) [(.int c0), (.int c1), (.int c2)] (.int (0 : Int32))) (V1 : Arv Z h0 b kx .byte (8 : Int32) [(.int c0), (.int c1), (.int c2), (.int e3), (.int e4), (.int e5), (.int e6), (.int e7)] (.int (0 : Int32))) :
    own_Met l Z (⟨"com/example/doseline/doseline/fhir/JsonWriterToByteArrayPinLaw", "at", "([B[BII)Z"⟩ : MethodName) method_2_code 4 (some .boolean) [] ({ frames := 0, cells := 0, slots := 0, locals := 0 } : Room) #[(.ref a), (.ref b), (.int (6 : Int32)), (.int (3 : Int32))] h0 (fun v h L => v = some (.int (1 : Int32)) ∧ Fr n0 L ∧ h = h0) := by
  refine own_met own_pn17 ?_
  intro p e s m below meth c s₁ hx hby hml hown hnm hret hlk hZ X0 hE0
  have N0 := Fr.nil n0
  refine own_cast (own_ef17_own_rm_at_6_3 m a b (6 : Int32) (3 : Int32)) ?_
  refine own_iloadN (n := 1) X0 hx (hb hby d17_0) rfl rfl ?_
  refine own_iloadN (n := 2) X0 hx (hb hby d17_1) rfl rfl ?_
  refine own_icmpYes (n := 14) X0 hx (hb hby d17_2) (flt (by decide : ¬ ((6 : Int32) < (3 : Int32)))).2.1 (by decide) (by decide) ?_
  refine own_iconst (n := 15) (z := (1 : Int32)) X0 hx (hb hby d17_14) rfl rfl ?_
  refine own_goto (n := 19) X0 hx (hb hby d17_15) (by decide) (by decide) ?_
  refine own_retZ X0 hx hlk hret (by simp) hE0 (w := (1 : Int32)) rfl (hb hby d17_19) (by decide) (by decide) ?_
  exact ⟨rfl, N0, rfl⟩
theorem d16_80 : decode method_3_code 80 = .ok (.ifCond .eq 18, 3) := by decide +kernel
theorem d16_83 : decode method_3_code 83 = .ok (.aload_n 0, 1) := by decide +kernel
theorem d16_84 : decode method_3_code 84 = .ok (.aload_n 1, 1) := by decide +kernel
theorem d16_85 : decode method_3_code 85 = .ok (.bipush 7, 2) := by decide +kernel
theorem d16_87 : decode method_3_code 87 = .ok (.iload_n 2, 1) := by decide +kernel
theorem d16_88 : decode method_3_code 88 = .ok (.invokestatic 7, 3) := by decide +kernel
theorem own_ef17_own_rm_at_7_3 (m : MethodId) (y0 : Addr) (y1 : Addr) (y2 : Int32) (y3 : Int32) : entryFrame m #[(.ref y0), (.ref y1), (.int y2), (.int y3)] 4 = mkF m 0 #[.val (.ref y0), .val (.ref y1), .val (.int y2), .val (.int y3)] [] := by first | (simp [entryFrame, mkF, argsToLocals, Value.category]; done) | rfl
set_option maxRecDepth 65536 in
set_option maxHeartbeats 40000000 in
theorem own_rm_at_7_3 (l : Launch) (Z : State) (a0 : Array Value) (hw : ∀ d ∈ tables_1, d.before a0 Z = true) (a b : Addr) (kr kx : ClassId) (c0 c1 c2 e3 e4 e5 e6 e7 : Int32) (h0 : Heap) (n0 : Nat) (Z0 : n0 ≤ h0.size) (V0 : Arv Z h0 a kr .byte (3 : Int32) [(.int c0), (.int c1), (.int c2)] (.int (0 : Int32))) (V1 : Arv Z h0 b kx .byte (8 : Int32) [(.int c0), (.int c1), (.int c2), (.int e3), (.int e4), (.int e5), (.int e6), (.int e7)] (.int (0 : Int32))) :
    own_Met l Z (⟨"com/example/doseline/doseline/fhir/JsonWriterToByteArrayPinLaw", "at", "([B[BII)Z"⟩ : MethodName) method_2_code 4 (some .boolean) [] ({ frames := 0, cells := 0, slots := 0, locals := 0 } : Room) #[(.ref a), (.ref b), (.int (7 : Int32)), (.int (3 : Int32))] h0 (fun v h L => v = some (.int (1 : Int32)) ∧ Fr n0 L ∧ h = h0) := by
  refine own_met own_pn17 ?_
  intro p e s m below meth c s₁ hx hby hml hown hnm hret hlk hZ X0 hE0
  have N0 := Fr.nil n0
  refine own_cast (own_ef17_own_rm_at_7_3 m a b (7 : Int32) (3 : Int32)) ?_
  refine own_iloadN (n := 1) X0 hx (hb hby d17_0) rfl rfl ?_
  refine own_iloadN (n := 2) X0 hx (hb hby d17_1) rfl rfl ?_
  refine own_icmpYes (n := 14) X0 hx (hb hby d17_2) (flt (by decide : ¬ ((7 : Int32) < (3 : Int32)))).2.1 (by decide) (by decide) ?_
  refine own_iconst (n := 15) (z := (1 : Int32)) X0 hx (hb hby d17_14) rfl rfl ?_
  refine own_goto (n := 19) X0 hx (hb hby d17_15) (by decide) (by decide) ?_
  refine own_retZ X0 hx hlk hret (by simp) hE0 (w := (1 : Int32)) rfl (hb hby d17_19) (by decide) (by decide) ?_
  exact ⟨rfl, N0, rfl⟩
theorem d16_91 : decode method_3_code 91 = .ok (.ifCond .eq 7, 3) := by decide +kernel
theorem d16_94 : decode method_3_code 94 = .ok (.iconst 1, 1) := by decide +kernel
theorem d16_95 : decode method_3_code 95 = .ok (.goto 4, 3) := by decide +kernel
theorem d16_99 : decode method_3_code 99 = .ok (.ireturn, 1) := by decide +kernel
theorem own_ef16_own_rm_same_3 (m : MethodId) (y0 : Addr) (y1 : Addr) (y2 : Int32) : entryFrame m #[(.ref y0), (.ref y1), (.int y2)] 3 = mkF m 0 #[.val (.ref y0), .val (.ref y1), .val (.int y2)] [] := by first | (simp [entryFrame, mkF, argsToLocals, Value.category]; done) | rfl
set_option maxRecDepth 65536 in
set_option maxHeartbeats 40000000 in
theorem own_rm_same_3 (l : Launch) (Z : State) (a0 : Array Value) (hw : ∀ d ∈ tables_1, d.before a0 Z = true) (a b : Addr) (kr kx : ClassId) (c0 c1 c2 e3 e4 e5 e6 e7 : Int32) (h0 : Heap) (n0 : Nat) (Z0 : n0 ≤ h0.size) (V0 : Arv Z h0 a kr .byte (3 : Int32) [(.int c0), (.int c1), (.int c2)] (.int (0 : Int32))) (V1 : Arv Z h0 b kx .byte (8 : Int32) [(.int c0), (.int c1), (.int c2), (.int e3), (.int e4), (.int e5), (.int e6), (.int e7)] (.int (0 : Int32))) :
    own_Met l Z (⟨"com/example/doseline/doseline/fhir/JsonWriterToByteArrayPinLaw", "same", "([B[BI)Z"⟩ : MethodName) method_3_code 3 (some .boolean) [] ({ frames := 1, cells := 0, slots := 0, locals := 15 } : Room) #[(.ref a), (.ref b), (.int (3 : Int32))] h0 (fun v h L => v = some (.int (1 : Int32)) ∧ Fr n0 L ∧ h = h0) := by
  refine own_met own_pn16 ?_
  intro p e s m below meth c s₁ hx hby hml hown hnm hret hlk hZ X0 hE0
  have N0 := Fr.nil n0
  refine own_cast (own_ef16_own_rm_same_3 m a b (3 : Int32)) ?_
  refine own_aloadN (n := 1) X0 hx (hb hby d16_0) rfl rfl rfl ?_
  refine own_ifnullNo (n := 4) X0 hx (hb hby d16_1) rfl ?_
  refine own_aloadN (n := 5) X0 hx (hb hby d16_4) rfl rfl rfl ?_
  refine own_len (n := 6) X0 hx hZ hE0 V0 (hb hby d16_5) rfl ?_
  refine own_iloadN (n := 7) X0 hx (hb hby d16_6) rfl rfl ?_
  refine own_icmpYes (n := 12) X0 hx (hb hby d16_7) (teq (by decide : (3 : Int32) = (3 : Int32))).1 (by decide) (by decide) ?_
  refine own_aloadN (n := 13) X0 hx (hb hby d16_12) rfl rfl rfl ?_
  refine own_aloadN (n := 14) X0 hx (hb hby d16_13) rfl rfl rfl ?_
  refine own_iconst (n := 15) (z := (0 : Int32)) X0 hx (hb hby d16_14) rfl rfl ?_
  refine own_iloadN (n := 16) X0 hx (hb hby d16_15) rfl rfl ?_
  refine own_S (n := 19) (argsL := [(.ref a), (.ref b), (.int (0 : Int32)), (.int (3 : Int32))]) (rest := []) X0 hx hZ hown (own_rm_at_0_3 l Z a0 hw a b kr kx c0 c1 c2 e3 e4 e5 e6 e7 h0 n0 Z0 V0 V1) (ww80 hw) (ww81 hw) (ww78 hw) (ww82 hw) (by decide) hE0 (by rw [hml]; rfl) (lenOf own_pd6 rfl) rfl (hb hby d16_16) (Nat.le_of_ble_eq_true rfl) (Nat.le_of_ble_eq_true rfl) (Nat.le_of_ble_eq_true rfl) (Nat.le_of_ble_eq_true rfl) rfl ?_
  rintro v1 T1 L1 X1 ⟨rfl, Nq1, eq1⟩
  have N1 := Fr.app N0 Nq1
  change own_G p e below _ _ (mkF m 19 _ [(.int (1 : Int32))])
  refine own_ifNo (n := 22) X1 hx (hb hby d16_19) (feq (by decide : ¬ ((1 : Int32) = (0 : Int32)))).1 rfl ?_
  refine own_aloadN (n := 23) X1 hx (hb hby d16_22) rfl rfl rfl ?_
  refine own_aloadN (n := 24) X1 hx (hb hby d16_23) rfl rfl rfl ?_
  refine own_iconst (n := 25) (z := (1 : Int32)) X1 hx (hb hby d16_24) rfl rfl ?_
  refine own_iloadN (n := 26) X1 hx (hb hby d16_25) rfl rfl ?_
  refine own_S (n := 29) (argsL := [(.ref a), (.ref b), (.int (1 : Int32)), (.int (3 : Int32))]) (rest := []) X1 hx hZ hown (own_rm_at_1_3 l Z a0 hw a b kr kx c0 c1 c2 e3 e4 e5 e6 e7 h0 n0 Z0 V0 V1) (ww80 hw) (ww81 hw) (ww78 hw) (ww82 hw) (by decide) eq1 (by rw [hml]; rfl) (lenOf own_pd6 rfl) rfl (hb hby d16_26) (Nat.le_of_ble_eq_true rfl) (Nat.le_of_ble_eq_true rfl) (Nat.le_of_ble_eq_true rfl) (Nat.le_of_ble_eq_true rfl) rfl ?_
  rintro v2 T2 L2 X2 ⟨rfl, Nq2, eq2⟩
  have N2 := Fr.app N1 Nq2
  change own_G p e below _ _ (mkF m 29 _ [(.int (1 : Int32))])
  refine own_ifNo (n := 32) X2 hx (hb hby d16_29) (feq (by decide : ¬ ((1 : Int32) = (0 : Int32)))).1 rfl ?_
  refine own_aloadN (n := 33) X2 hx (hb hby d16_32) rfl rfl rfl ?_
  refine own_aloadN (n := 34) X2 hx (hb hby d16_33) rfl rfl rfl ?_
  refine own_iconst (n := 35) (z := (2 : Int32)) X2 hx (hb hby d16_34) rfl rfl ?_
  refine own_iloadN (n := 36) X2 hx (hb hby d16_35) rfl rfl ?_
  refine own_S (n := 39) (argsL := [(.ref a), (.ref b), (.int (2 : Int32)), (.int (3 : Int32))]) (rest := []) X2 hx hZ hown (own_rm_at_2_3 l Z a0 hw a b kr kx c0 c1 c2 e3 e4 e5 e6 e7 h0 n0 Z0 V0 V1) (ww80 hw) (ww81 hw) (ww78 hw) (ww82 hw) (by decide) eq2 (by rw [hml]; rfl) (lenOf own_pd6 rfl) rfl (hb hby d16_36) (Nat.le_of_ble_eq_true rfl) (Nat.le_of_ble_eq_true rfl) (Nat.le_of_ble_eq_true rfl) (Nat.le_of_ble_eq_true rfl) rfl ?_
  rintro v3 T3 L3 X3 ⟨rfl, Nq3, eq3⟩
  have N3 := Fr.app N2 Nq3
  change own_G p e below _ _ (mkF m 39 _ [(.int (1 : Int32))])
  refine own_ifNo (n := 42) X3 hx (hb hby d16_39) (feq (by decide : ¬ ((1 : Int32) = (0 : Int32)))).1 rfl ?_
  refine own_aloadN (n := 43) X3 hx (hb hby d16_42) rfl rfl rfl ?_
  refine own_aloadN (n := 44) X3 hx (hb hby d16_43) rfl rfl rfl ?_
  refine own_iconst (n := 45) (z := (3 : Int32)) X3 hx (hb hby d16_44) rfl rfl ?_
  refine own_iloadN (n := 46) X3 hx (hb hby d16_45) rfl rfl ?_
  refine own_S (n := 49) (argsL := [(.ref a), (.ref b), (.int (3 : Int32)), (.int (3 : Int32))]) (rest := []) X3 hx hZ hown (own_rm_at_3_3 l Z a0 hw a b kr kx c0 c1 c2 e3 e4 e5 e6 e7 h0 n0 Z0 V0 V1) (ww80 hw) (ww81 hw) (ww78 hw) (ww82 hw) (by decide) eq3 (by rw [hml]; rfl) (lenOf own_pd6 rfl) rfl (hb hby d16_46) (Nat.le_of_ble_eq_true rfl) (Nat.le_of_ble_eq_true rfl) (Nat.le_of_ble_eq_true rfl) (Nat.le_of_ble_eq_true rfl) rfl ?_
  rintro v4 T4 L4 X4 ⟨rfl, Nq4, eq4⟩
  have N4 := Fr.app N3 Nq4
  change own_G p e below _ _ (mkF m 49 _ [(.int (1 : Int32))])
  refine own_ifNo (n := 52) X4 hx (hb hby d16_49) (feq (by decide : ¬ ((1 : Int32) = (0 : Int32)))).1 rfl ?_
  refine own_aloadN (n := 53) X4 hx (hb hby d16_52) rfl rfl rfl ?_
  refine own_aloadN (n := 54) X4 hx (hb hby d16_53) rfl rfl rfl ?_
  refine own_iconst (n := 55) (z := (4 : Int32)) X4 hx (hb hby d16_54) rfl rfl ?_
  refine own_iloadN (n := 56) X4 hx (hb hby d16_55) rfl rfl ?_
  refine own_S (n := 59) (argsL := [(.ref a), (.ref b), (.int (4 : Int32)), (.int (3 : Int32))]) (rest := []) X4 hx hZ hown (own_rm_at_4_3 l Z a0 hw a b kr kx c0 c1 c2 e3 e4 e5 e6 e7 h0 n0 Z0 V0 V1) (ww80 hw) (ww81 hw) (ww78 hw) (ww82 hw) (by decide) eq4 (by rw [hml]; rfl) (lenOf own_pd6 rfl) rfl (hb hby d16_56) (Nat.le_of_ble_eq_true rfl) (Nat.le_of_ble_eq_true rfl) (Nat.le_of_ble_eq_true rfl) (Nat.le_of_ble_eq_true rfl) rfl ?_
  rintro v5 T5 L5 X5 ⟨rfl, Nq5, eq5⟩
  have N5 := Fr.app N4 Nq5
  change own_G p e below _ _ (mkF m 59 _ [(.int (1 : Int32))])
  refine own_ifNo (n := 62) X5 hx (hb hby d16_59) (feq (by decide : ¬ ((1 : Int32) = (0 : Int32)))).1 rfl ?_
  refine own_aloadN (n := 63) X5 hx (hb hby d16_62) rfl rfl rfl ?_
  refine own_aloadN (n := 64) X5 hx (hb hby d16_63) rfl rfl rfl ?_
  refine own_iconst (n := 65) (z := (5 : Int32)) X5 hx (hb hby d16_64) rfl rfl ?_
  refine own_iloadN (n := 66) X5 hx (hb hby d16_65) rfl rfl ?_
  refine own_S (n := 69) (argsL := [(.ref a), (.ref b), (.int (5 : Int32)), (.int (3 : Int32))]) (rest := []) X5 hx hZ hown (own_rm_at_5_3 l Z a0 hw a b kr kx c0 c1 c2 e3 e4 e5 e6 e7 h0 n0 Z0 V0 V1) (ww80 hw) (ww81 hw) (ww78 hw) (ww82 hw) (by decide) eq5 (by rw [hml]; rfl) (lenOf own_pd6 rfl) rfl (hb hby d16_66) (Nat.le_of_ble_eq_true rfl) (Nat.le_of_ble_eq_true rfl) (Nat.le_of_ble_eq_true rfl) (Nat.le_of_ble_eq_true rfl) rfl ?_
  rintro v6 T6 L6 X6 ⟨rfl, Nq6, eq6⟩
  have N6 := Fr.app N5 Nq6
  change own_G p e below _ _ (mkF m 69 _ [(.int (1 : Int32))])
  refine own_ifNo (n := 72) X6 hx (hb hby d16_69) (feq (by decide : ¬ ((1 : Int32) = (0 : Int32)))).1 rfl ?_
  refine own_aloadN (n := 73) X6 hx (hb hby d16_72) rfl rfl rfl ?_
  refine own_aloadN (n := 74) X6 hx (hb hby d16_73) rfl rfl rfl ?_
  refine own_bipush (n := 76) (z := (6 : Int32)) X6 hx (hb hby d16_74) rfl rfl ?_
  refine own_iloadN (n := 77) X6 hx (hb hby d16_76) rfl rfl ?_
  refine own_S (n := 80) (argsL := [(.ref a), (.ref b), (.int (6 : Int32)), (.int (3 : Int32))]) (rest := []) X6 hx hZ hown (own_rm_at_6_3 l Z a0 hw a b kr kx c0 c1 c2 e3 e4 e5 e6 e7 h0 n0 Z0 V0 V1) (ww80 hw) (ww81 hw) (ww78 hw) (ww82 hw) (by decide) eq6 (by rw [hml]; rfl) (lenOf own_pd6 rfl) rfl (hb hby d16_77) (Nat.le_of_ble_eq_true rfl) (Nat.le_of_ble_eq_true rfl) (Nat.le_of_ble_eq_true rfl) (Nat.le_of_ble_eq_true rfl) rfl ?_
  rintro v7 T7 L7 X7 ⟨rfl, Nq7, eq7⟩
  have N7 := Fr.app N6 Nq7
  change own_G p e below _ _ (mkF m 80 _ [(.int (1 : Int32))])
  refine own_ifNo (n := 83) X7 hx (hb hby d16_80) (feq (by decide : ¬ ((1 : Int32) = (0 : Int32)))).1 rfl ?_
  refine own_aloadN (n := 84) X7 hx (hb hby d16_83) rfl rfl rfl ?_
  refine own_aloadN (n := 85) X7 hx (hb hby d16_84) rfl rfl rfl ?_
  refine own_bipush (n := 87) (z := (7 : Int32)) X7 hx (hb hby d16_85) rfl rfl ?_
  refine own_iloadN (n := 88) X7 hx (hb hby d16_87) rfl rfl ?_
  refine own_S (n := 91) (argsL := [(.ref a), (.ref b), (.int (7 : Int32)), (.int (3 : Int32))]) (rest := []) X7 hx hZ hown (own_rm_at_7_3 l Z a0 hw a b kr kx c0 c1 c2 e3 e4 e5 e6 e7 h0 n0 Z0 V0 V1) (ww80 hw) (ww81 hw) (ww78 hw) (ww82 hw) (by decide) eq7 (by rw [hml]; rfl) (lenOf own_pd6 rfl) rfl (hb hby d16_88) (Nat.le_of_ble_eq_true rfl) (Nat.le_of_ble_eq_true rfl) (Nat.le_of_ble_eq_true rfl) (Nat.le_of_ble_eq_true rfl) rfl ?_
  rintro v8 T8 L8 X8 ⟨rfl, Nq8, eq8⟩
  have N8 := Fr.app N7 Nq8
  change own_G p e below _ _ (mkF m 91 _ [(.int (1 : Int32))])
  refine own_ifNo (n := 94) X8 hx (hb hby d16_91) (feq (by decide : ¬ ((1 : Int32) = (0 : Int32)))).1 rfl ?_
  refine own_iconst (n := 95) (z := (1 : Int32)) X8 hx (hb hby d16_94) rfl rfl ?_
  refine own_goto (n := 99) X8 hx (hb hby d16_95) (by decide) (by decide) ?_
  refine own_retZ X8 hx hlk hret (by simp) eq8 (w := (1 : Int32)) rfl (hb hby d16_99) (by decide) (by decide) ?_
  exact ⟨rfl, N8, rfl⟩
theorem own_pd7 : parseMethodDescriptor "([B[BI)Z" = some ⟨[(.array .byte), (.array .byte), .int], some .boolean⟩ := by decide +kernel
theorem own_ef7_own_rm_room_0_2 (m : MethodId) (y0 : Addr) (y1 : Int32) : entryFrame m #[(.ref y0), (.int y1)] 2 = mkF m 0 #[.val (.ref y0), .val (.int y1)] [] := by first | (simp [entryFrame, mkF, argsToLocals, Value.category]; done) | rfl
set_option maxRecDepth 65536 in
set_option maxHeartbeats 40000000 in
theorem own_rm_room_0_2 (l : Launch) (Z : State) (a0 : Array Value) (hw : ∀ d ∈ tables_1, d.before a0 Z = true) (a b : Addr) (kb : ClassId) (N : Int32) (rest : List Value) (ae : Int32) (h0 : Heap) (n0 : Nat) (Z0 : n0 ≤ h0.size) (E0 : Exa Z h0 a "com/example/doseline/doseline/fhir/JsonWriter") (FB : Fld Z h0 a "com/example/doseline/doseline/fhir/JsonWriter" "bytes" "[B" (.ref b)) (FL : Fld Z h0 a "com/example/doseline/doseline/fhir/JsonWriter" "length" "I" (.int (0 : Int32))) (FA : Fld Z h0 a "com/example/doseline/doseline/fhir/JsonWriter" "afterElement" "Z" (.int ae)) (VB : Arv Z h0 b kb .byte N (rest) (.int (0 : Int32))) (EB : Exa Z h0 b "[B") (hl : rest.length + 0 = N.toNatClampNeg) (hN : N.toInt ≤ 15) (g_a : n0 ≤ a) (g_b : n0 ≤ b) :
    own_Met l Z (⟨"com/example/doseline/doseline/fhir/JsonWriter", "room", "(I)V"⟩ : MethodName) prog_96_method_28_code 2 none [] ({ frames := 2, cells := 1, slots := 15, locals := 55 } : Room) #[(.ref a), (.int (2 : Int32))] h0 (fun v h L => ∃ (b' : Addr) (k' : ClassId) (N' : Int32) (r' : List Value), v = none ∧ Fr n0 L ∧ Keep h0 h [a] ∧ Exa Z h a "com/example/doseline/doseline/fhir/JsonWriter" ∧ Fld Z h a "com/example/doseline/doseline/fhir/JsonWriter" "bytes" "[B" (.ref b') ∧ Fld Z h a "com/example/doseline/doseline/fhir/JsonWriter" "length" "I" (.int (0 : Int32)) ∧ Fld Z h a "com/example/doseline/doseline/fhir/JsonWriter" "afterElement" "Z" (.int ae) ∧ Arv Z h b' k' .byte N' (r') (.int (0 : Int32)) ∧ Exa Z h b' "[B" ∧ r'.length + 0 = N'.toNatClampNeg ∧ N'.toInt ≤ 15 ∧ (b' = b ∨ h0.size ≤ b') ∧ n0 ≤ b' ∧ 2 ≤ r'.length) := by
  refine own_met own_pn7 ?_
  intro p e s m below meth c s₁ hx hby hml hown hnm hret hlk hZ X0 hE0
  have N0 := Fr.nil n0
  refine own_cast (own_ef7_own_rm_room_0_2 m a (2 : Int32)) ?_
  have hN0 := own_arvn VB
  refine own_iloadN (n := 1) X0 hx (hb hby d7_0) rfl rfl ?_
  refine own_aloadN (n := 2) X0 hx (hb hby d7_1) rfl rfl rfl ?_
  refine own_getF (n := 5) X0 hx hZ hown (host := "") (Or.inl (ww10 hw)) Via.refl hE0 FB (hb hby d7_2) rfl ?_
  intro T1 X1 e1
  refine own_len (n := 6) X1 hx hZ e1 VB (hb hby d7_5) rfl ?_
  refine own_aloadN (n := 7) X1 hx (hb hby d7_6) rfl rfl rfl ?_
  refine own_getF (n := 10) X1 hx hZ hown (host := "") (Or.inl (ww35 hw)) Via.refl e1 FL (hb hby d7_7) rfl ?_
  intro T2 X2 e2
  refine own_isub (n := 11) X2 hx (hb hby d7_10) rfl rfl ?_
  by_cases hc11_3 : (N - (0 : Int32)) < (2 : Int32)
  · skip
    have hgr := own_grow (N := N) (l := (0 : Int32)) (n := (2 : Int32)) (q := (2 : Int32)) (r := rest) (L := 0) (m := 2) rfl rfl rfl (by decide) hN0 hN hl hc11_3
    refine own_icmpNo (n := 14) X2 hx (hb hby d7_11) (tlt hc11_3).2.2.2 rfl ?_
    refine own_aloadN (n := 15) X2 hx (hb hby d7_14) rfl rfl rfl ?_
    refine own_aloadN (n := 16) X2 hx (hb hby d7_15) rfl rfl rfl ?_
    refine own_getF (n := 19) X2 hx hZ hown (host := "") (Or.inl (ww10 hw)) Via.refl e2 FB (hb hby d7_16) rfl ?_
    intro T4 X4 e4
    refine own_aloadN (n := 20) X4 hx (hb hby d7_19) rfl rfl rfl ?_
    refine own_getF (n := 23) X4 hx hZ hown (host := "") (Or.inl (ww10 hw)) Via.refl e4 FB (hb hby d7_20) rfl ?_
    intro T5 X5 e5
    refine own_len (n := 24) X5 hx hZ e5 VB (hb hby d7_23) rfl ?_
    refine own_iconst (n := 25) (z := (2 : Int32)) X5 hx (hb hby d7_24) rfl rfl ?_
    refine own_imul (n := 26) X5 hx (hb hby d7_25) rfl rfl ?_
    refine own_aloadN (n := 27) X5 hx (hb hby d7_26) rfl rfl rfl ?_
    refine own_getF (n := 30) X5 hx hZ hown (host := "") (Or.inl (ww35 hw)) Via.refl e5 FL (hb hby d7_27) rfl ?_
    intro T6 X6 e6
    refine own_iloadN (n := 31) X6 hx (hb hby d7_30) rfl rfl ?_
    refine own_iadd (n := 32) (z := (2 : Int32)) X6 hx (hb hby d7_31) rfl rfl ?_
    refine own_S (n := 35) (argsL := [(.int (N * (2 : Int32))), (.int (2 : Int32))]) (rest := [(.ref b), (.ref a)]) X6 hx hZ hown (own_rm_max l Z a0 hw (N * (2 : Int32)) (2 : Int32) h0 n0 Z0) (ww37 hw) (ww38 hw) (ww39 hw) (ww40 hw) (by decide) e6 (by rw [hml]; rfl) (lenOf own_pd2 rfl) rfl (hb hby d7_32) (Nat.le_of_ble_eq_true rfl) (Nat.le_of_ble_eq_true rfl) (Nat.le_of_ble_eq_true rfl) (Nat.le_of_ble_eq_true rfl) rfl ?_
    rintro v7 T7 L7 X7 ⟨rfl, Nq7, eq7⟩
    have N7 := Fr.app N0 Nq7
    change own_G p e below _ _ (mkF m 35 _ [(.int (own_max (N * (2 : Int32)) (2 : Int32))), (.ref b), (.ref a)])
    refine own_S (n := 38) (argsL := [(.ref b), (.int (own_max (N * (2 : Int32)) (2 : Int32)))]) (rest := [(.ref a)]) X7 hx hZ hown (own_rm_copy15 l Z a0 hw b kb N (own_max (N * (2 : Int32)) (2 : Int32)) (rest) h0 n0 Z0 VB (by (try simp only [List.length_cons]); omega) EB hgr.1 hgr.2.1) (ww41 hw) (ww42 hw) (ww43 hw) (ww44 hw) (by decide) eq7 (by rw [hml]; rfl) (lenOf own_pd3 rfl) rfl (hb hby d7_35) (Nat.le_of_ble_eq_true rfl) (Nat.le_of_ble_eq_true rfl) (Nat.le_of_ble_eq_true rfl) (Nat.le_of_ble_eq_true rfl) rfl ?_
    rintro v8 T8 L8 X8 ⟨y8, k8, rfl, Nq8, K8, sz8, gb8, Vb8, Ec8⟩
    have N8 := Fr.app N7 Nq8
    have E_9 := E0.keep K8
    have F_10 := FB.keep K8 (by simp)
    have F_11 := FL.keep K8 (by simp)
    have F_12 := FA.keep K8 (by simp)
    have A_13 := VB.keep K8 (by simp)
    have E_14 := EB.keep K8
    have K_15 := (Keep.refl h0 [a]).trans K8 (fun x hx => nomatch hx)
    have Z_16 : n0 ≤ T8.heap.size := Nat.le_trans Z0 K8.1
    have Vc8 : Arv Z T8.heap y8 k8 .byte (own_max (N * (2 : Int32)) (2 : Int32)) ((rest ++ List.replicate (α := Value) (((own_max (N * (2 : Int32)) (2 : Int32))).toNatClampNeg - N.toNatClampNeg) (.int (0 : Int32)))) (.int (0 : Int32)) := by have q := Vb8; rw [List.take_of_length_le (by (try simp only [List.length_cons]); omega)] at q; exact q
    have hl8 : (rest ++ List.replicate (α := Value) (((own_max (N * (2 : Int32)) (2 : Int32))).toNatClampNeg - N.toNatClampNeg) (.int (0 : Int32))).length + 0 = ((own_max (N * (2 : Int32)) (2 : Int32))).toNatClampNeg := by rw [List.length_append, List.length_replicate]; omega
    have hx8 : 2 ≤ (rest ++ List.replicate (α := Value) (((own_max (N * (2 : Int32)) (2 : Int32))).toNatClampNeg - N.toNatClampNeg) (.int (0 : Int32))).length := by have := hl8; omega
    change own_G p e below _ _ (mkF m 38 _ [(.ref y8), (.ref a)])
    refine own_putF (n := 41) X8 hx hZ hown (host := "") (Or.inl (ww10 hw)) Via.refl rfl F_10 E_9 (Or.inl (ww11 hw)) (ww2 hw) (ty := (.array .byte)) (by decide) rfl rfl (hb hby d7_38) rfl ?_
    intro T17 h17 X17 e17 W17
    have F_18 := F_10.same W17
    have N17 := Fr.snoc X17 N8 g_a
    have E_19 := E_9.wr W17
    have F_20 := F_11.other W17 (Or.inr (slot_ne (Or.inl (ww36 hw)) (Or.inl (ww11 hw)) (by decide) (t := .int) (t' := (.array .byte)) (by decide) (by decide)))
    have F_21 := F_12.other W17 (Or.inr (slot_ne (Or.inl (ww26 hw)) (Or.inl (ww11 hw)) (by decide) (t := .boolean) (t' := (.array .byte)) (by decide) (by decide)))
    have A_22 := A_13.other W17 (Ne.symm (own_neEA E_9 (ww2 hw) A_13))
    have E_23 := E_14.wr W17
    have K_24 := K_15.wr W17 (Or.inl (by first | exact List.mem_cons_self | exact List.mem_cons_of_mem _ List.mem_cons_self | exact List.mem_cons_of_mem _ (List.mem_cons_of_mem _ List.mem_cons_self) | (simp; done)))
    have A_25 := Vc8.other W17 (Ne.symm (Nat.ne_of_lt (Nat.lt_of_lt_of_le E0.lt sz8)))
    have E_26 := Ec8.wr W17
    have Z_27 : n0 ≤ h17.size := by rw [W17.size]; exact Z_16
    refine own_retV X17 hx hlk hret e17 (hb hby d7_41) (by decide) (by decide) ?_
    exact ⟨y8, k8, ((own_max (N * (2 : Int32)) (2 : Int32))), (rest ++ List.replicate (α := Value) (((own_max (N * (2 : Int32)) (2 : Int32))).toNatClampNeg - N.toNatClampNeg) (.int (0 : Int32))), rfl, N17, K_24, E_19, F_18, F_20, F_21, A_25, E_26, hl8, hgr.2.2.1, (Or.inr sz8 : y8 = b ∨ h0.size ≤ y8), gb8, hx8⟩
  · skip
    have hx0 : 2 ≤ rest.length := own_roomle (N := N) (l := (0 : Int32)) (n := (2 : Int32)) (L := 0) (m := 2) rfl rfl (by decide) hN0 hN hl hc11_3
    refine own_icmpYes (n := 41) X2 hx (hb hby d7_11) (flt hc11_3).2.2.2 (by decide) (by decide) ?_
    refine own_retV X2 hx hlk hret e2 (hb hby d7_41) (by decide) (by decide) ?_
    exact ⟨b, kb, N, rest, rfl, N0, (Keep.refl h0 [a]), E0, FB, FL, FA, VB, EB, hl, hN, (Or.inl rfl : b = b ∨ h0.size ≤ b), g_b, hx0⟩
theorem own_ef12_own_rm_wa_0_2 (m : MethodId) (y0 : Addr) (y1 : Addr) : entryFrame m #[(.ref y0), (.ref y1)] 2 = mkF m 0 #[.val (.ref y0), .val (.ref y1)] [] := by first | (simp [entryFrame, mkF, argsToLocals, Value.category]; done) | rfl
set_option maxRecDepth 65536 in
set_option maxHeartbeats 40000000 in
theorem own_rm_wa_0_2 (l : Launch) (Z : State) (a0 : Array Value) (hw : ∀ d ∈ tables_1, d.before a0 Z = true) (a b : Addr) (kb : ClassId) (N : Int32) (rest : List Value) (ae : Int32) (sa : Addr) (ks : ClassId) (d0 d1 : Int32) (h0 : Heap) (n0 : Nat) (Z0 : n0 ≤ h0.size) (E0 : Exa Z h0 a "com/example/doseline/doseline/fhir/JsonWriter") (FB : Fld Z h0 a "com/example/doseline/doseline/fhir/JsonWriter" "bytes" "[B" (.ref b)) (FL : Fld Z h0 a "com/example/doseline/doseline/fhir/JsonWriter" "length" "I" (.int (0 : Int32))) (FA : Fld Z h0 a "com/example/doseline/doseline/fhir/JsonWriter" "afterElement" "Z" (.int ae)) (VB : Arv Z h0 b kb .byte N (rest) (.int (0 : Int32))) (EB : Exa Z h0 b "[B") (hl : rest.length + 0 = N.toNatClampNeg) (hN : N.toInt ≤ 15) (g_a : n0 ≤ a) (g_b : n0 ≤ b) (VS : Arv Z h0 sa ks .byte (2 : Int32) [(.int d0), (.int d1)] (.int (0 : Int32))) (hsb : sa ≠ b) :
    own_Met l Z (⟨"com/example/doseline/doseline/fhir/JsonWriter", "write", "([B)V"⟩ : MethodName) prog_96_method_27_code 2 none [] ({ frames := 3, cells := 1, slots := 15, locals := 68 } : Room) #[(.ref a), (.ref sa)] h0 (fun v h L => ∃ (b' : Addr) (k' : ClassId) (N' : Int32) (r' : List Value), v = none ∧ Fr n0 L ∧ Keep h0 h [a, b] ∧ Exa Z h a "com/example/doseline/doseline/fhir/JsonWriter" ∧ Fld Z h a "com/example/doseline/doseline/fhir/JsonWriter" "bytes" "[B" (.ref b') ∧ Fld Z h a "com/example/doseline/doseline/fhir/JsonWriter" "length" "I" (.int (2 : Int32)) ∧ Fld Z h a "com/example/doseline/doseline/fhir/JsonWriter" "afterElement" "Z" (.int ae) ∧ Arv Z h b' k' .byte N' ((.int d0) :: (.int d1) :: r') (.int (0 : Int32)) ∧ Exa Z h b' "[B" ∧ r'.length + 2 = N'.toNatClampNeg ∧ N'.toInt ≤ 15 ∧ (b' = b ∨ h0.size ≤ b') ∧ n0 ≤ b') := by
  refine own_met own_pn12 ?_
  intro p e s m below meth c s₁ hx hby hml hown hnm hret hlk hZ X0 hE0
  have N0 := Fr.nil n0
  refine own_cast (own_ef12_own_rm_wa_0_2 m a sa) ?_
  have hN0 := own_arvn VB
  refine own_aloadN (n := 1) X0 hx (hb hby d12_0) rfl rfl rfl ?_
  refine own_aloadN (n := 2) X0 hx (hb hby d12_1) rfl rfl rfl ?_
  refine own_len (n := 3) X0 hx hZ hE0 VS (hb hby d12_2) rfl ?_
  refine own_P (n := 6) (argsL := [(.int (2 : Int32))]) (rest := []) (a := a) X0 hx hZ hown (own_rm_room_0_2 l Z a0 hw a b kb N rest ae h0 n0 Z0 E0 FB FL FA VB EB hl hN g_a g_b) (ww31 hw) (ww32 hw) (by rfl) (ww15 hw) (ww33 hw) (ww3 hw) (ww34 hw) (by decide) hE0 E0 (by rw [hml]; rfl) (lenOf own_pd0 rfl) rfl (hb hby d12_3) (Nat.le_of_ble_eq_true rfl) (Nat.le_of_ble_eq_true rfl) (Nat.le_of_ble_eq_true rfl) (Nat.le_of_ble_eq_true rfl) rfl ?_
  rintro v1 T1 L1 X1 ⟨y1, k1, M1, r1, rfl, Nq1, K1, Eq1, Fb1, Fl1, Fa1, Vb1, Ec1, hl1, hN1, hq1, gb1, hx1⟩
  have N1 := Fr.app N0 Nq1
  have E_2 := E0.keep K1
  have A_3 := VB.keep K1 (by simp [(Ne.symm (own_neEA E0 (ww2 hw) VB))])
  have E_4 := EB.keep K1
  have A_5 := VS.keep K1 (by simp [(Ne.symm (own_neEA E0 (ww2 hw) VS))])
  have K_6 := (Keep.refl h0 [a, b]).trans K1 (fun x hx => by cases List.mem_singleton.mp hx; exact (Or.inl (by first | exact List.mem_cons_self | exact List.mem_cons_of_mem _ List.mem_cons_self | exact List.mem_cons_of_mem _ (List.mem_cons_of_mem _ List.mem_cons_self) | (simp; done))))
  have Z_7 : n0 ≤ T1.heap.size := Nat.le_trans Z0 K1.1
  have nw_sa_1 : sa ≠ y1 := own_neOr hq1 hsb VS.lt
  have hb1 : y1 = b ∨ h0.size ≤ y1 := own_orTr (Or.inl rfl : b = b ∨ h0.size ≤ b) hq1 (Keep.refl h0 [a, b]).1
  obtain ⟨x1_0, x1_1, t1, rfl⟩ := own_ex2 hx1
  change own_G p e below _ _ (mkF m 6 _ [])
  refine own_aloadN (n := 7) X1 hx (hb hby d12_6) rfl rfl rfl ?_
  refine own_iconst (n := 8) (z := (0 : Int32)) X1 hx (hb hby d12_7) rfl rfl ?_
  refine own_aloadN (n := 9) X1 hx (hb hby d12_8) rfl rfl rfl ?_
  refine own_getF (n := 12) X1 hx hZ hown (host := "") (Or.inl (ww10 hw)) Via.refl rfl Fb1 (hb hby d12_9) rfl ?_
  intro T8 X8 e8
  refine own_aloadN (n := 13) X8 hx (hb hby d12_12) rfl rfl rfl ?_
  refine own_getF (n := 16) X8 hx hZ hown (host := "") (Or.inl (ww35 hw)) Via.refl e8 Fl1 (hb hby d12_13) rfl ?_
  intro T9 X9 e9
  refine own_aloadN (n := 17) X9 hx (hb hby d12_16) rfl rfl rfl ?_
  refine own_len (n := 18) X9 hx hZ e9 A_5 (hb hby d12_17) rfl ?_
  obtain ⟨T10, h10, L10, X10, e10, N10, K10, V10q, st10⟩ := cpA X9 hx hZ hown (ww61 hw) (ww51 hw) (ww49 hw) (ww50 hw) e9 A_5 Vb1 (Or.inl ⟨rfl, rfl⟩) (by decide) (by decide) (by decide) (by decide) (by show 0 + 2 ≤ _; have q := hl1; (try simp only [List.length_cons] at q); omega) (us := [(.int d0), (.int d1)]) rfl (by show 0 + 2 ≤ _; (try simp only [List.length_cons]); omega) N1 gb1 (g := (mkF m 18 #[.val (.ref a), .val (.ref sa)] [(.int (2 : Int32)), (.int (0 : Int32)), (.ref y1), (.int (0 : Int32)), (.ref sa)])) rfl (by rw [hml]; rfl) rfl (hb hby d12_18) (by decide) (W := 0) (by show 2 * 0 + _ ≤ _; exact Nat.le_of_eq rfl) (by decide)
  have V10 : Arv Z h10 y1 k1 .byte M1 ((.int d0) :: (.int d1) :: t1) (.int (0 : Int32)) := V10q
  have E_11 := E_2.keep K10
  have A_12 := A_5.keep K10 (by simp [nw_sa_1])
  have K_13 := K_6.trans K10 (fun x hx => by cases List.mem_singleton.mp hx; exact (hb1.elim (fun q => Or.inl (by simp [q])) Or.inr))
  have F_14 := Fb1.keep K10 (by simp [(own_neEA E_2 (ww2 hw) Vb1)])
  have F_15 := Fl1.keep K10 (by simp [(own_neEA E_2 (ww2 hw) Vb1)])
  have F_16 := Fa1.keep K10 (by simp [(own_neEA E_2 (ww2 hw) Vb1)])
  have E_17 := Ec1.keep K10
  have Z_18 : n0 ≤ h10.size := Nat.le_trans Z_7 K10.1
  refine own_go (T' := T10) (f' := (mkF m 21 #[.val (.ref a), .val (.ref sa)] [])) st10 ?_
  refine own_aloadN (n := 22) X10 hx (hb hby d12_21) rfl rfl rfl ?_
  refine own_dup (n := 23) X10 hx (hb hby d12_22) rfl rfl ?_
  refine own_getF (n := 26) X10 hx hZ hown (host := "") (Or.inl (ww35 hw)) Via.refl e10 F_15 (hb hby d12_23) rfl ?_
  intro T19 X19 e19
  refine own_aloadN (n := 27) X19 hx (hb hby d12_26) rfl rfl rfl ?_
  refine own_len (n := 28) X19 hx hZ e19 A_12 (hb hby d12_27) rfl ?_
  refine own_iadd (n := 29) (z := (2 : Int32)) X19 hx (hb hby d12_28) rfl rfl ?_
  refine own_putF (n := 32) X19 hx hZ hown (host := "") (Or.inl (ww35 hw)) Via.refl e19 F_15 E_11 (Or.inl (ww36 hw)) (ww2 hw) (ty := .int) (by decide) rfl rfl (hb hby d12_29) rfl ?_
  intro T20 h20 X20 e20 W20
  have F_21 := F_15.same W20
  have N20 := Fr.snoc X20 N10 g_a
  have E_22 := E_11.wr W20
  have A_23 := A_12.other W20 (Ne.symm (own_neEA E_11 (ww2 hw) A_12))
  have K_24 := K_13.wr W20 (Or.inl (by first | exact List.mem_cons_self | exact List.mem_cons_of_mem _ List.mem_cons_self | exact List.mem_cons_of_mem _ (List.mem_cons_of_mem _ List.mem_cons_self) | (simp; done)))
  have F_25 := F_14.other W20 (Or.inr (slot_ne (Or.inl (ww11 hw)) (Or.inl (ww36 hw)) (by decide) (t := (.array .byte)) (t' := .int) (by decide) (by decide)))
  have F_26 := F_16.other W20 (Or.inr (slot_ne (Or.inl (ww26 hw)) (Or.inl (ww36 hw)) (by decide) (t := .boolean) (t' := .int) (by decide) (by decide)))
  have E_27 := E_17.wr W20
  have A_28 := V10.other W20 (Ne.symm (own_neEA E_11 (ww2 hw) V10))
  have Z_29 : n0 ≤ h20.size := by rw [W20.size]; exact Z_18
  have hl_30 : t1.length + 2 = M1.toNatClampNeg := by have q := hl1; (try simp only [List.length_cons] at q); omega
  refine own_retV X20 hx hlk hret e20 (hb hby d12_32) (by decide) (by decide) ?_
  exact ⟨y1, k1, M1, t1, rfl, N20, K_24, E_22, F_25, F_21, F_26, A_28, E_27, hl_30, hN1, hb1, gb1⟩
theorem own_ef11_own_rm_val_0_0_2 (m : MethodId) (y0 : Addr) (y1 : Addr) : entryFrame m #[(.ref y0), (.ref y1)] 2 = mkF m 0 #[.val (.ref y0), .val (.ref y1)] [] := by first | (simp [entryFrame, mkF, argsToLocals, Value.category]; done) | rfl
set_option maxRecDepth 65536 in
set_option maxHeartbeats 40000000 in
theorem own_rm_val_0_0_2 (l : Launch) (Z : State) (a0 : Array Value) (hw : ∀ d ∈ tables_1, d.before a0 Z = true) (a b : Addr) (kb : ClassId) (N : Int32) (rest : List Value) (sa : Addr) (ks : ClassId) (d0 d1 : Int32) (h0 : Heap) (n0 : Nat) (Z0 : n0 ≤ h0.size) (E0 : Exa Z h0 a "com/example/doseline/doseline/fhir/JsonWriter") (FB : Fld Z h0 a "com/example/doseline/doseline/fhir/JsonWriter" "bytes" "[B" (.ref b)) (FL : Fld Z h0 a "com/example/doseline/doseline/fhir/JsonWriter" "length" "I" (.int (0 : Int32))) (FA : Fld Z h0 a "com/example/doseline/doseline/fhir/JsonWriter" "afterElement" "Z" (.int (0 : Int32))) (VB : Arv Z h0 b kb .byte N (rest) (.int (0 : Int32))) (EB : Exa Z h0 b "[B") (hl : rest.length + 0 = N.toNatClampNeg) (hN : N.toInt ≤ 15) (g_a : n0 ≤ a) (g_b : n0 ≤ b) (VS : Arv Z h0 sa ks .byte (2 : Int32) [(.int d0), (.int d1)] (.int (0 : Int32))) (hsb : sa ≠ b) :
    own_Met l Z (⟨"com/example/doseline/doseline/fhir/JsonWriter", "value", "([B)V"⟩ : MethodName) prog_96_method_12_code 2 none [] ({ frames := 4, cells := 1, slots := 15, locals := 81 } : Room) #[(.ref a), (.ref sa)] h0 (fun v h L => ∃ (b' : Addr) (k' : ClassId) (N' : Int32) (r' : List Value), v = none ∧ Fr n0 L ∧ Keep h0 h [a, b] ∧ Exa Z h a "com/example/doseline/doseline/fhir/JsonWriter" ∧ Fld Z h a "com/example/doseline/doseline/fhir/JsonWriter" "bytes" "[B" (.ref b') ∧ Fld Z h a "com/example/doseline/doseline/fhir/JsonWriter" "length" "I" (.int (2 : Int32)) ∧ Fld Z h a "com/example/doseline/doseline/fhir/JsonWriter" "afterElement" "Z" (.int (1 : Int32)) ∧ Arv Z h b' k' .byte N' ((.int d0) :: (.int d1) :: r') (.int (0 : Int32)) ∧ Exa Z h b' "[B" ∧ r'.length + 2 = N'.toNatClampNeg ∧ N'.toInt ≤ 15 ∧ (b' = b ∨ h0.size ≤ b') ∧ n0 ≤ b') := by
  refine own_met own_pn11 ?_
  intro p e s m below meth c s₁ hx hby hml hown hnm hret hlk hZ X0 hE0
  have N0 := Fr.nil n0
  refine own_cast (own_ef11_own_rm_val_0_0_2 m a sa) ?_
  have hN0 := own_arvn VB
  refine own_aloadN (n := 1) X0 hx (hb hby d11_0) rfl rfl rfl ?_
  refine own_P (n := 4) (argsL := []) (rest := []) (a := a) X0 hx hZ hown (own_rm_sep0 l Z a0 hw a h0 n0 Z0 FA) (ww21 hw) (ww22 hw) (by rfl) (ww15 hw) (ww23 hw) (ww3 hw) (ww24 hw) (by decide) hE0 E0 (by rw [hml]; rfl) (lenOf own_pd1 rfl) rfl (hb hby d11_1) (Nat.le_of_ble_eq_true rfl) (Nat.le_of_ble_eq_true rfl) (Nat.le_of_ble_eq_true rfl) (Nat.le_of_ble_eq_true rfl) rfl ?_
  rintro v1 T1 L1 X1 ⟨rfl, Nq1, eq1⟩
  have N1 := Fr.app N0 Nq1
  change own_G p e below _ _ (mkF m 4 _ [])
  refine own_aloadN (n := 5) X1 hx (hb hby d11_4) rfl rfl rfl ?_
  refine own_aloadN (n := 6) X1 hx (hb hby d11_5) rfl rfl rfl ?_
  refine own_P (n := 9) (argsL := [(.ref sa)]) (rest := []) (a := a) X1 hx hZ hown (own_rm_wa_0_2 l Z a0 hw a b kb N rest (0 : Int32) sa ks d0 d1 h0 n0 Z0 E0 FB FL FA VB EB hl hN g_a g_b VS (hsb)) (ww57 hw) (ww58 hw) (by rfl) (ww15 hw) (ww59 hw) (ww3 hw) (ww60 hw) (by decide) eq1 E0 (by rw [hml]; rfl) (lenOf own_pd4 rfl) rfl (hb hby d11_6) (Nat.le_of_ble_eq_true rfl) (Nat.le_of_ble_eq_true rfl) (Nat.le_of_ble_eq_true rfl) (Nat.le_of_ble_eq_true rfl) rfl ?_
  rintro v2 T2 L2 X2 ⟨y2, k2, M2, r2, rfl, Nq2, K2, Eq2, Fb2, Fl2, Fa2, Vb2, Ec2, hl2, hN2, hq2, gb2⟩
  have N2 := Fr.app N1 Nq2
  have E_3 := E0.keep K2
  have E_4 := EB.keep K2
  have A_5 := VS.keep K2 (by simp [(Ne.symm (own_neEA E0 (ww2 hw) VS)), hsb])
  have K_6 := (Keep.refl h0 [a, b]).trans K2 (fun x hx => by simp only [List.mem_cons, List.not_mem_nil, or_false] at hx; rcases hx with rfl | rfl <;> first | exact (Or.inl (by first | exact List.mem_cons_self | exact List.mem_cons_of_mem _ List.mem_cons_self | exact List.mem_cons_of_mem _ (List.mem_cons_of_mem _ List.mem_cons_self) | (simp; done))))
  have Z_7 : n0 ≤ T2.heap.size := Nat.le_trans Z0 K2.1
  have nw_sa_2 : sa ≠ y2 := own_neOr hq2 hsb VS.lt
  have hb2 : y2 = b ∨ h0.size ≤ y2 := own_orTr (Or.inl rfl : b = b ∨ h0.size ≤ b) hq2 (Keep.refl h0 [a, b]).1
  change own_G p e below _ _ (mkF m 9 _ [])
  refine own_aloadN (n := 10) X2 hx (hb hby d11_9) rfl rfl rfl ?_
  refine own_iconst (n := 11) (z := (1 : Int32)) X2 hx (hb hby d11_10) rfl rfl ?_
  refine own_putFN (n := 14) X2 hx hZ hown (ww25 hw) Via.refl rfl Fa2 E_3 (Or.inl (ww26 hw)) (ww2 hw) (ty := .boolean) (v' := (.int (1 : Int32))) (by decide) rfl (by decide) (hb hby d11_11) rfl ?_
  intro T8 h8 X8 e8 W8
  have F_9 := Fa2.same W8
  have N8 := Fr.snoc X8 N2 g_a
  have E_10 := E_3.wr W8
  have A_11 := A_5.other W8 (Ne.symm (own_neEA E_3 (ww2 hw) A_5))
  have K_12 := K_6.wr W8 (Or.inl (by first | exact List.mem_cons_self | exact List.mem_cons_of_mem _ List.mem_cons_self | exact List.mem_cons_of_mem _ (List.mem_cons_of_mem _ List.mem_cons_self) | (simp; done)))
  have F_13 := Fb2.other W8 (Or.inr (slot_ne (Or.inl (ww11 hw)) (Or.inl (ww26 hw)) (by decide) (t := (.array .byte)) (t' := .boolean) (by decide) (by decide)))
  have F_14 := Fl2.other W8 (Or.inr (slot_ne (Or.inl (ww36 hw)) (Or.inl (ww26 hw)) (by decide) (t := .int) (t' := .boolean) (by decide) (by decide)))
  have A_15 := Vb2.other W8 (Ne.symm (own_neEA E_3 (ww2 hw) Vb2))
  have E_16 := Ec2.wr W8
  have Z_17 : n0 ≤ h8.size := by rw [W8.size]; exact Z_7
  refine own_retV X8 hx hlk hret e8 (hb hby d11_14) (by decide) (by decide) ?_
  exact ⟨y2, k2, M2, r2, rfl, N8, K_12, E_10, F_13, F_14, F_9, A_15, E_16, hl2, hN2, hb2, gb2⟩
theorem own_ef15_own_rm_tba_2 (m : MethodId) (y0 : Addr) : entryFrame m #[(.ref y0)] 1 = mkF m 0 #[.val (.ref y0)] [] := by first | (simp [entryFrame, mkF, argsToLocals, Value.category]; done) | rfl
set_option maxRecDepth 65536 in
set_option maxHeartbeats 40000000 in
theorem own_rm_tba_2 (l : Launch) (Z : State) (a0 : Array Value) (hw : ∀ d ∈ tables_1, d.before a0 Z = true) (a b : Addr) (kb : ClassId) (N : Int32) (rest : List Value) (ae : Int32) (c0 c1 : Int32) (h0 : Heap) (n0 : Nat) (Z0 : n0 ≤ h0.size) (E0 : Exa Z h0 a "com/example/doseline/doseline/fhir/JsonWriter") (FB : Fld Z h0 a "com/example/doseline/doseline/fhir/JsonWriter" "bytes" "[B" (.ref b)) (FL : Fld Z h0 a "com/example/doseline/doseline/fhir/JsonWriter" "length" "I" (.int (2 : Int32))) (FA : Fld Z h0 a "com/example/doseline/doseline/fhir/JsonWriter" "afterElement" "Z" (.int ae)) (VB : Arv Z h0 b kb .byte N ((.int c0) :: (.int c1) :: rest) (.int (0 : Int32))) (EB : Exa Z h0 b "[B") (hl : rest.length + 2 = N.toNatClampNeg) (hN : N.toInt ≤ 15) (g_a : n0 ≤ a) (g_b : n0 ≤ b) :
    own_Met l Z (⟨"com/example/doseline/doseline/fhir/JsonWriter", "toByteArray", "()[B"⟩ : MethodName) prog_96_method_20_code 1 (some (.array .byte)) [] ({ frames := 2, cells := 1, slots := 8, locals := 54 } : Room) #[(.ref a)] h0 (fun v h L => ∃ (r : Addr) (k' : ClassId), v = some (.ref r) ∧ Fr n0 L ∧ Keep h0 h [] ∧ h0.size ≤ r ∧ n0 ≤ r ∧ Arv Z h r k' .byte (2 : Int32) [(.int c0), (.int c1)] (.int (0 : Int32))) := by
  refine own_met own_pn15 ?_
  intro p e s m below meth c s₁ hx hby hml hown hnm hret hlk hZ X0 hE0
  have N0 := Fr.nil n0
  refine own_cast (own_ef15_own_rm_tba_2 m a) ?_
  have hN0 := own_arvn VB
  refine own_aloadN (n := 1) X0 hx (hb hby d15_0) rfl rfl rfl ?_
  refine own_getF (n := 4) X0 hx hZ hown (host := "") (Or.inl (ww10 hw)) Via.refl hE0 FB (hb hby d15_1) rfl ?_
  intro T1 X1 e1
  refine own_aloadN (n := 5) X1 hx (hb hby d15_4) rfl rfl rfl ?_
  refine own_getF (n := 8) X1 hx hZ hown (host := "") (Or.inl (ww35 hw)) Via.refl e1 FL (hb hby d15_5) rfl ?_
  intro T2 X2 e2
  refine own_S (n := 11) (argsL := [(.ref b), (.int (2 : Int32))]) (rest := []) X2 hx hZ hown (own_rm_copy8 l Z a0 hw b kb N (2 : Int32) ((.int c0) :: (.int c1) :: rest) h0 n0 Z0 VB (by (try simp only [List.length_cons]); omega) EB (by decide) (by decide)) (ww41 hw) (ww42 hw) (ww43 hw) (ww44 hw) (by decide) e2 (by rw [hml]; rfl) (lenOf own_pd3 rfl) rfl (hb hby d15_8) (Nat.le_of_ble_eq_true rfl) (Nat.le_of_ble_eq_true rfl) (Nat.le_of_ble_eq_true rfl) (Nat.le_of_ble_eq_true rfl) rfl ?_
  rintro v3 T3 L3 X3 ⟨y3, k3, rfl, Nq3, K3, sz3, gb3, Vb3, Ec3⟩
  have N3 := Fr.app N0 Nq3
  have E_4 := E0.keep K3
  have F_5 := FB.keep K3 (by simp)
  have F_6 := FL.keep K3 (by simp)
  have F_7 := FA.keep K3 (by simp)
  have A_8 := VB.keep K3 (by simp)
  have E_9 := EB.keep K3
  have K_10 := (Keep.refl h0 []).trans K3 (fun x hx => nomatch hx)
  have Z_11 : n0 ≤ T3.heap.size := Nat.le_trans Z0 K3.1
  have Vc3 : Arv Z T3.heap y3 k3 .byte (2 : Int32) [(.int c0), (.int c1)] (.int (0 : Int32)) := by have q := Vb3; rw [show (2 : Int32).toNatClampNeg - N.toNatClampNeg = 0 by show 2 - N.toNatClampNeg = 0; omega] at q; exact q
  change own_G p e below _ _ (mkF m 11 _ [(.ref y3)])
  refine own_retA X3 hx hlk hret rfl rfl rfl rfl (hb hby d15_11) (by decide) (by decide) ?_
  exact ⟨y3, k3, rfl, N3, K_10, sz3, gb3, Vc3⟩
theorem own_ef17_own_rm_at_0_2 (m : MethodId) (y0 : Addr) (y1 : Addr) (y2 : Int32) (y3 : Int32) : entryFrame m #[(.ref y0), (.ref y1), (.int y2), (.int y3)] 4 = mkF m 0 #[.val (.ref y0), .val (.ref y1), .val (.int y2), .val (.int y3)] [] := by first | (simp [entryFrame, mkF, argsToLocals, Value.category]; done) | rfl
set_option maxRecDepth 65536 in
set_option maxHeartbeats 40000000 in
theorem own_rm_at_0_2 (l : Launch) (Z : State) (a0 : Array Value) (hw : ∀ d ∈ tables_1, d.before a0 Z = true) (a b : Addr) (kr kx : ClassId) (c0 c1 e2 e3 e4 e5 e6 e7 : Int32) (h0 : Heap) (n0 : Nat) (Z0 : n0 ≤ h0.size) (V0 : Arv Z h0 a kr .byte (2 : Int32) [(.int c0), (.int c1)] (.int (0 : Int32))) (V1 : Arv Z h0 b kx .byte (8 : Int32) [(.int c0), (.int c1), (.int e2), (.int e3), (.int e4), (.int e5), (.int e6), (.int e7)] (.int (0 : Int32))) :
    own_Met l Z (⟨"com/example/doseline/doseline/fhir/JsonWriterToByteArrayPinLaw", "at", "([B[BII)Z"⟩ : MethodName) method_2_code 4 (some .boolean) [] ({ frames := 0, cells := 0, slots := 0, locals := 0 } : Room) #[(.ref a), (.ref b), (.int (0 : Int32)), (.int (2 : Int32))] h0 (fun v h L => v = some (.int (1 : Int32)) ∧ Fr n0 L ∧ h = h0) := by
  refine own_met own_pn17 ?_
  intro p e s m below meth c s₁ hx hby hml hown hnm hret hlk hZ X0 hE0
  have N0 := Fr.nil n0
  refine own_cast (own_ef17_own_rm_at_0_2 m a b (0 : Int32) (2 : Int32)) ?_
  refine own_iloadN (n := 1) X0 hx (hb hby d17_0) rfl rfl ?_
  refine own_iloadN (n := 2) X0 hx (hb hby d17_1) rfl rfl ?_
  refine own_icmpNo (n := 5) X0 hx (hb hby d17_2) (tlt (by decide : (0 : Int32) < (2 : Int32))).2.1 rfl ?_
  refine own_aloadN (n := 6) X0 hx (hb hby d17_5) rfl rfl rfl ?_
  refine own_iloadN (n := 7) X0 hx (hb hby d17_6) rfl rfl ?_
  refine own_ld_baload (n := 8) (v := (.int c0)) X0 hx hZ hE0 V0 ⟨by decide, by decide⟩ rfl (hb hby d17_7) rfl ?_
  refine own_aloadN (n := 9) X0 hx (hb hby d17_8) rfl rfl rfl ?_
  refine own_iloadN (n := 10) X0 hx (hb hby d17_9) rfl rfl ?_
  refine own_ld_baload (n := 11) (v := (.int c0)) X0 hx hZ hE0 V1 ⟨by decide, by decide⟩ rfl (hb hby d17_10) rfl ?_
  refine own_icmpNo (n := 14) X0 hx (hb hby d17_11) (teq (rfl : c0 = c0)).2 rfl ?_
  refine own_iconst (n := 15) (z := (1 : Int32)) X0 hx (hb hby d17_14) rfl rfl ?_
  refine own_goto (n := 19) X0 hx (hb hby d17_15) (by decide) (by decide) ?_
  refine own_retZ X0 hx hlk hret (by simp) hE0 (w := (1 : Int32)) rfl (hb hby d17_19) (by decide) (by decide) ?_
  exact ⟨rfl, N0, rfl⟩
theorem own_ef17_own_rm_at_1_2 (m : MethodId) (y0 : Addr) (y1 : Addr) (y2 : Int32) (y3 : Int32) : entryFrame m #[(.ref y0), (.ref y1), (.int y2), (.int y3)] 4 = mkF m 0 #[.val (.ref y0), .val (.ref y1), .val (.int y2), .val (.int y3)] [] := by first | (simp [entryFrame, mkF, argsToLocals, Value.category]; done) | rfl
set_option maxRecDepth 65536 in
set_option maxHeartbeats 40000000 in
theorem own_rm_at_1_2 (l : Launch) (Z : State) (a0 : Array Value) (hw : ∀ d ∈ tables_1, d.before a0 Z = true) (a b : Addr) (kr kx : ClassId) (c0 c1 e2 e3 e4 e5 e6 e7 : Int32) (h0 : Heap) (n0 : Nat) (Z0 : n0 ≤ h0.size) (V0 : Arv Z h0 a kr .byte (2 : Int32) [(.int c0), (.int c1)] (.int (0 : Int32))) (V1 : Arv Z h0 b kx .byte (8 : Int32) [(.int c0), (.int c1), (.int e2), (.int e3), (.int e4), (.int e5), (.int e6), (.int e7)] (.int (0 : Int32))) :
    own_Met l Z (⟨"com/example/doseline/doseline/fhir/JsonWriterToByteArrayPinLaw", "at", "([B[BII)Z"⟩ : MethodName) method_2_code 4 (some .boolean) [] ({ frames := 0, cells := 0, slots := 0, locals := 0 } : Room) #[(.ref a), (.ref b), (.int (1 : Int32)), (.int (2 : Int32))] h0 (fun v h L => v = some (.int (1 : Int32)) ∧ Fr n0 L ∧ h = h0) := by
  refine own_met own_pn17 ?_
  intro p e s m below meth c s₁ hx hby hml hown hnm hret hlk hZ X0 hE0
  have N0 := Fr.nil n0
  refine own_cast (own_ef17_own_rm_at_1_2 m a b (1 : Int32) (2 : Int32)) ?_
  refine own_iloadN (n := 1) X0 hx (hb hby d17_0) rfl rfl ?_
  refine own_iloadN (n := 2) X0 hx (hb hby d17_1) rfl rfl ?_
  refine own_icmpNo (n := 5) X0 hx (hb hby d17_2) (tlt (by decide : (1 : Int32) < (2 : Int32))).2.1 rfl ?_
  refine own_aloadN (n := 6) X0 hx (hb hby d17_5) rfl rfl rfl ?_
  refine own_iloadN (n := 7) X0 hx (hb hby d17_6) rfl rfl ?_
  refine own_ld_baload (n := 8) (v := (.int c1)) X0 hx hZ hE0 V0 ⟨by decide, by decide⟩ rfl (hb hby d17_7) rfl ?_
  refine own_aloadN (n := 9) X0 hx (hb hby d17_8) rfl rfl rfl ?_
  refine own_iloadN (n := 10) X0 hx (hb hby d17_9) rfl rfl ?_
  refine own_ld_baload (n := 11) (v := (.int c1)) X0 hx hZ hE0 V1 ⟨by decide, by decide⟩ rfl (hb hby d17_10) rfl ?_
  refine own_icmpNo (n := 14) X0 hx (hb hby d17_11) (teq (rfl : c1 = c1)).2 rfl ?_
  refine own_iconst (n := 15) (z := (1 : Int32)) X0 hx (hb hby d17_14) rfl rfl ?_
  refine own_goto (n := 19) X0 hx (hb hby d17_15) (by decide) (by decide) ?_
  refine own_retZ X0 hx hlk hret (by simp) hE0 (w := (1 : Int32)) rfl (hb hby d17_19) (by decide) (by decide) ?_
  exact ⟨rfl, N0, rfl⟩
theorem own_ef17_own_rm_at_2_2 (m : MethodId) (y0 : Addr) (y1 : Addr) (y2 : Int32) (y3 : Int32) : entryFrame m #[(.ref y0), (.ref y1), (.int y2), (.int y3)] 4 = mkF m 0 #[.val (.ref y0), .val (.ref y1), .val (.int y2), .val (.int y3)] [] := by first | (simp [entryFrame, mkF, argsToLocals, Value.category]; done) | rfl
set_option maxRecDepth 65536 in
set_option maxHeartbeats 40000000 in
theorem own_rm_at_2_2 (l : Launch) (Z : State) (a0 : Array Value) (hw : ∀ d ∈ tables_1, d.before a0 Z = true) (a b : Addr) (kr kx : ClassId) (c0 c1 e2 e3 e4 e5 e6 e7 : Int32) (h0 : Heap) (n0 : Nat) (Z0 : n0 ≤ h0.size) (V0 : Arv Z h0 a kr .byte (2 : Int32) [(.int c0), (.int c1)] (.int (0 : Int32))) (V1 : Arv Z h0 b kx .byte (8 : Int32) [(.int c0), (.int c1), (.int e2), (.int e3), (.int e4), (.int e5), (.int e6), (.int e7)] (.int (0 : Int32))) :
    own_Met l Z (⟨"com/example/doseline/doseline/fhir/JsonWriterToByteArrayPinLaw", "at", "([B[BII)Z"⟩ : MethodName) method_2_code 4 (some .boolean) [] ({ frames := 0, cells := 0, slots := 0, locals := 0 } : Room) #[(.ref a), (.ref b), (.int (2 : Int32)), (.int (2 : Int32))] h0 (fun v h L => v = some (.int (1 : Int32)) ∧ Fr n0 L ∧ h = h0) := by
  refine own_met own_pn17 ?_
  intro p e s m below meth c s₁ hx hby hml hown hnm hret hlk hZ X0 hE0
  have N0 := Fr.nil n0
  refine own_cast (own_ef17_own_rm_at_2_2 m a b (2 : Int32) (2 : Int32)) ?_
  refine own_iloadN (n := 1) X0 hx (hb hby d17_0) rfl rfl ?_
  refine own_iloadN (n := 2) X0 hx (hb hby d17_1) rfl rfl ?_
  refine own_icmpYes (n := 14) X0 hx (hb hby d17_2) (flt (by decide : ¬ ((2 : Int32) < (2 : Int32)))).2.1 (by decide) (by decide) ?_
  refine own_iconst (n := 15) (z := (1 : Int32)) X0 hx (hb hby d17_14) rfl rfl ?_
  refine own_goto (n := 19) X0 hx (hb hby d17_15) (by decide) (by decide) ?_
  refine own_retZ X0 hx hlk hret (by simp) hE0 (w := (1 : Int32)) rfl (hb hby d17_19) (by decide) (by decide) ?_
  exact ⟨rfl, N0, rfl⟩
theorem own_ef17_own_rm_at_3_2 (m : MethodId) (y0 : Addr) (y1 : Addr) (y2 : Int32) (y3 : Int32) : entryFrame m #[(.ref y0), (.ref y1), (.int y2), (.int y3)] 4 = mkF m 0 #[.val (.ref y0), .val (.ref y1), .val (.int y2), .val (.int y3)] [] := by first | (simp [entryFrame, mkF, argsToLocals, Value.category]; done) | rfl
set_option maxRecDepth 65536 in
set_option maxHeartbeats 40000000 in
theorem own_rm_at_3_2 (l : Launch) (Z : State) (a0 : Array Value) (hw : ∀ d ∈ tables_1, d.before a0 Z = true) (a b : Addr) (kr kx : ClassId) (c0 c1 e2 e3 e4 e5 e6 e7 : Int32) (h0 : Heap) (n0 : Nat) (Z0 : n0 ≤ h0.size) (V0 : Arv Z h0 a kr .byte (2 : Int32) [(.int c0), (.int c1)] (.int (0 : Int32))) (V1 : Arv Z h0 b kx .byte (8 : Int32) [(.int c0), (.int c1), (.int e2), (.int e3), (.int e4), (.int e5), (.int e6), (.int e7)] (.int (0 : Int32))) :
    own_Met l Z (⟨"com/example/doseline/doseline/fhir/JsonWriterToByteArrayPinLaw", "at", "([B[BII)Z"⟩ : MethodName) method_2_code 4 (some .boolean) [] ({ frames := 0, cells := 0, slots := 0, locals := 0 } : Room) #[(.ref a), (.ref b), (.int (3 : Int32)), (.int (2 : Int32))] h0 (fun v h L => v = some (.int (1 : Int32)) ∧ Fr n0 L ∧ h = h0) := by
  refine own_met own_pn17 ?_
  intro p e s m below meth c s₁ hx hby hml hown hnm hret hlk hZ X0 hE0
  have N0 := Fr.nil n0
  refine own_cast (own_ef17_own_rm_at_3_2 m a b (3 : Int32) (2 : Int32)) ?_
  refine own_iloadN (n := 1) X0 hx (hb hby d17_0) rfl rfl ?_
  refine own_iloadN (n := 2) X0 hx (hb hby d17_1) rfl rfl ?_
  refine own_icmpYes (n := 14) X0 hx (hb hby d17_2) (flt (by decide : ¬ ((3 : Int32) < (2 : Int32)))).2.1 (by decide) (by decide) ?_
  refine own_iconst (n := 15) (z := (1 : Int32)) X0 hx (hb hby d17_14) rfl rfl ?_
  refine own_goto (n := 19) X0 hx (hb hby d17_15) (by decide) (by decide) ?_
  refine own_retZ X0 hx hlk hret (by simp) hE0 (w := (1 : Int32)) rfl (hb hby d17_19) (by decide) (by decide) ?_
  exact ⟨rfl, N0, rfl⟩
theorem own_ef17_own_rm_at_4_2 (m : MethodId) (y0 : Addr) (y1 : Addr) (y2 : Int32) (y3 : Int32) : entryFrame m #[(.ref y0), (.ref y1), (.int y2), (.int y3)] 4 = mkF m 0 #[.val (.ref y0), .val (.ref y1), .val (.int y2), .val (.int y3)] [] := by first | (simp [entryFrame, mkF, argsToLocals, Value.category]; done) | rfl
set_option maxRecDepth 65536 in
set_option maxHeartbeats 40000000 in
theorem own_rm_at_4_2 (l : Launch) (Z : State) (a0 : Array Value) (hw : ∀ d ∈ tables_1, d.before a0 Z = true) (a b : Addr) (kr kx : ClassId) (c0 c1 e2 e3 e4 e5 e6 e7 : Int32) (h0 : Heap) (n0 : Nat) (Z0 : n0 ≤ h0.size) (V0 : Arv Z h0 a kr .byte (2 : Int32) [(.int c0), (.int c1)] (.int (0 : Int32))) (V1 : Arv Z h0 b kx .byte (8 : Int32) [(.int c0), (.int c1), (.int e2), (.int e3), (.int e4), (.int e5), (.int e6), (.int e7)] (.int (0 : Int32))) :
    own_Met l Z (⟨"com/example/doseline/doseline/fhir/JsonWriterToByteArrayPinLaw", "at", "([B[BII)Z"⟩ : MethodName) method_2_code 4 (some .boolean) [] ({ frames := 0, cells := 0, slots := 0, locals := 0 } : Room) #[(.ref a), (.ref b), (.int (4 : Int32)), (.int (2 : Int32))] h0 (fun v h L => v = some (.int (1 : Int32)) ∧ Fr n0 L ∧ h = h0) := by
  refine own_met own_pn17 ?_
  intro p e s m below meth c s₁ hx hby hml hown hnm hret hlk hZ X0 hE0
  have N0 := Fr.nil n0
  refine own_cast (own_ef17_own_rm_at_4_2 m a b (4 : Int32) (2 : Int32)) ?_
  refine own_iloadN (n := 1) X0 hx (hb hby d17_0) rfl rfl ?_
  refine own_iloadN (n := 2) X0 hx (hb hby d17_1) rfl rfl ?_
  refine own_icmpYes (n := 14) X0 hx (hb hby d17_2) (flt (by decide : ¬ ((4 : Int32) < (2 : Int32)))).2.1 (by decide) (by decide) ?_
  refine own_iconst (n := 15) (z := (1 : Int32)) X0 hx (hb hby d17_14) rfl rfl ?_
  refine own_goto (n := 19) X0 hx (hb hby d17_15) (by decide) (by decide) ?_
  refine own_retZ X0 hx hlk hret (by simp) hE0 (w := (1 : Int32)) rfl (hb hby d17_19) (by decide) (by decide) ?_
  exact ⟨rfl, N0, rfl⟩
theorem own_ef17_own_rm_at_5_2 (m : MethodId) (y0 : Addr) (y1 : Addr) (y2 : Int32) (y3 : Int32) : entryFrame m #[(.ref y0), (.ref y1), (.int y2), (.int y3)] 4 = mkF m 0 #[.val (.ref y0), .val (.ref y1), .val (.int y2), .val (.int y3)] [] := by first | (simp [entryFrame, mkF, argsToLocals, Value.category]; done) | rfl
set_option maxRecDepth 65536 in
set_option maxHeartbeats 40000000 in
theorem own_rm_at_5_2 (l : Launch) (Z : State) (a0 : Array Value) (hw : ∀ d ∈ tables_1, d.before a0 Z = true) (a b : Addr) (kr kx : ClassId) (c0 c1 e2 e3 e4 e5 e6 e7 : Int32) (h0 : Heap) (n0 : Nat) (Z0 : n0 ≤ h0.size) (V0 : Arv Z h0 a kr .byte (2 : Int32) [(.int c0), (.int c1)] (.int (0 : Int32))) (V1 : Arv Z h0 b kx .byte (8 : Int32) [(.int c0), (.int c1), (.int e2), (.int e3), (.int e4), (.int e5), (.int e6), (.int e7)] (.int (0 : Int32))) :
    own_Met l Z (⟨"com/example/doseline/doseline/fhir/JsonWriterToByteArrayPinLaw", "at", "([B[BII)Z"⟩ : MethodName) method_2_code 4 (some .boolean) [] ({ frames := 0, cells := 0, slots := 0, locals := 0 } : Room) #[(.ref a), (.ref b), (.int (5 : Int32)), (.int (2 : Int32))] h0 (fun v h L => v = some (.int (1 : Int32)) ∧ Fr n0 L ∧ h = h0) := by
  refine own_met own_pn17 ?_
  intro p e s m below meth c s₁ hx hby hml hown hnm hret hlk hZ X0 hE0
  have N0 := Fr.nil n0
  refine own_cast (own_ef17_own_rm_at_5_2 m a b (5 : Int32) (2 : Int32)) ?_
  refine own_iloadN (n := 1) X0 hx (hb hby d17_0) rfl rfl ?_
  refine own_iloadN (n := 2) X0 hx (hb hby d17_1) rfl rfl ?_
  refine own_icmpYes (n := 14) X0 hx (hb hby d17_2) (flt (by decide : ¬ ((5 : Int32) < (2 : Int32)))).2.1 (by decide) (by decide) ?_
  refine own_iconst (n := 15) (z := (1 : Int32)) X0 hx (hb hby d17_14) rfl rfl ?_
  refine own_goto (n := 19) X0 hx (hb hby d17_15) (by decide) (by decide) ?_
  refine own_retZ X0 hx hlk hret (by simp) hE0 (w := (1 : Int32)) rfl (hb hby d17_19) (by decide) (by decide) ?_
  exact ⟨rfl, N0, rfl⟩
theorem own_ef17_own_rm_at_6_2 (m : MethodId) (y0 : Addr) (y1 : Addr) (y2 : Int32) (y3 : Int32) : entryFrame m #[(.ref y0), (.ref y1), (.int y2), (.int y3)] 4 = mkF m 0 #[.val (.ref y0), .val (.ref y1), .val (.int y2), .val (.int y3)] [] := by first | (simp [entryFrame, mkF, argsToLocals, Value.category]; done) | rfl
set_option maxRecDepth 65536 in
set_option maxHeartbeats 40000000 in
theorem own_rm_at_6_2 (l : Launch) (Z : State) (a0 : Array Value) (hw : ∀ d ∈ tables_1, d.before a0 Z = true) (a b : Addr) (kr kx : ClassId) (c0 c1 e2 e3 e4 e5 e6 e7 : Int32) (h0 : Heap) (n0 : Nat) (Z0 : n0 ≤ h0.size) (V0 : Arv Z h0 a kr .byte (2 : Int32) [(.int c0), (.int c1)] (.int (0 : Int32))) (V1 : Arv Z h0 b kx .byte (8 : Int32) [(.int c0), (.int c1), (.int e2), (.int e3), (.int e4), (.int e5), (.int e6), (.int e7)] (.int (0 : Int32))) :
    own_Met l Z (⟨"com/example/doseline/doseline/fhir/JsonWriterToByteArrayPinLaw", "at", "([B[BII)Z"⟩ : MethodName) method_2_code 4 (some .boolean) [] ({ frames := 0, cells := 0, slots := 0, locals := 0 } : Room) #[(.ref a), (.ref b), (.int (6 : Int32)), (.int (2 : Int32))] h0 (fun v h L => v = some (.int (1 : Int32)) ∧ Fr n0 L ∧ h = h0) := by
  refine own_met own_pn17 ?_
  intro p e s m below meth c s₁ hx hby hml hown hnm hret hlk hZ X0 hE0
  have N0 := Fr.nil n0
  refine own_cast (own_ef17_own_rm_at_6_2 m a b (6 : Int32) (2 : Int32)) ?_
  refine own_iloadN (n := 1) X0 hx (hb hby d17_0) rfl rfl ?_
  refine own_iloadN (n := 2) X0 hx (hb hby d17_1) rfl rfl ?_
  refine own_icmpYes (n := 14) X0 hx (hb hby d17_2) (flt (by decide : ¬ ((6 : Int32) < (2 : Int32)))).2.1 (by decide) (by decide) ?_
  refine own_iconst (n := 15) (z := (1 : Int32)) X0 hx (hb hby d17_14) rfl rfl ?_
  refine own_goto (n := 19) X0 hx (hb hby d17_15) (by decide) (by decide) ?_
  refine own_retZ X0 hx hlk hret (by simp) hE0 (w := (1 : Int32)) rfl (hb hby d17_19) (by decide) (by decide) ?_
  exact ⟨rfl, N0, rfl⟩
theorem own_ef17_own_rm_at_7_2 (m : MethodId) (y0 : Addr) (y1 : Addr) (y2 : Int32) (y3 : Int32) : entryFrame m #[(.ref y0), (.ref y1), (.int y2), (.int y3)] 4 = mkF m 0 #[.val (.ref y0), .val (.ref y1), .val (.int y2), .val (.int y3)] [] := by first | (simp [entryFrame, mkF, argsToLocals, Value.category]; done) | rfl
set_option maxRecDepth 65536 in
set_option maxHeartbeats 40000000 in
theorem own_rm_at_7_2 (l : Launch) (Z : State) (a0 : Array Value) (hw : ∀ d ∈ tables_1, d.before a0 Z = true) (a b : Addr) (kr kx : ClassId) (c0 c1 e2 e3 e4 e5 e6 e7 : Int32) (h0 : Heap) (n0 : Nat) (Z0 : n0 ≤ h0.size) (V0 : Arv Z h0 a kr .byte (2 : Int32) [(.int c0), (.int c1)] (.int (0 : Int32))) (V1 : Arv Z h0 b kx .byte (8 : Int32) [(.int c0), (.int c1), (.int e2), (.int e3), (.int e4), (.int e5), (.int e6), (.int e7)] (.int (0 : Int32))) :
    own_Met l Z (⟨"com/example/doseline/doseline/fhir/JsonWriterToByteArrayPinLaw", "at", "([B[BII)Z"⟩ : MethodName) method_2_code 4 (some .boolean) [] ({ frames := 0, cells := 0, slots := 0, locals := 0 } : Room) #[(.ref a), (.ref b), (.int (7 : Int32)), (.int (2 : Int32))] h0 (fun v h L => v = some (.int (1 : Int32)) ∧ Fr n0 L ∧ h = h0) := by
  refine own_met own_pn17 ?_
  intro p e s m below meth c s₁ hx hby hml hown hnm hret hlk hZ X0 hE0
  have N0 := Fr.nil n0
  refine own_cast (own_ef17_own_rm_at_7_2 m a b (7 : Int32) (2 : Int32)) ?_
  refine own_iloadN (n := 1) X0 hx (hb hby d17_0) rfl rfl ?_
  refine own_iloadN (n := 2) X0 hx (hb hby d17_1) rfl rfl ?_
  refine own_icmpYes (n := 14) X0 hx (hb hby d17_2) (flt (by decide : ¬ ((7 : Int32) < (2 : Int32)))).2.1 (by decide) (by decide) ?_
  refine own_iconst (n := 15) (z := (1 : Int32)) X0 hx (hb hby d17_14) rfl rfl ?_
  refine own_goto (n := 19) X0 hx (hb hby d17_15) (by decide) (by decide) ?_
  refine own_retZ X0 hx hlk hret (by simp) hE0 (w := (1 : Int32)) rfl (hb hby d17_19) (by decide) (by decide) ?_
  exact ⟨rfl, N0, rfl⟩
theorem own_ef16_own_rm_same_2 (m : MethodId) (y0 : Addr) (y1 : Addr) (y2 : Int32) : entryFrame m #[(.ref y0), (.ref y1), (.int y2)] 3 = mkF m 0 #[.val (.ref y0), .val (.ref y1), .val (.int y2)] [] := by first | (simp [entryFrame, mkF, argsToLocals, Value.category]; done) | rfl
set_option maxRecDepth 65536 in
set_option maxHeartbeats 40000000 in
theorem own_rm_same_2 (l : Launch) (Z : State) (a0 : Array Value) (hw : ∀ d ∈ tables_1, d.before a0 Z = true) (a b : Addr) (kr kx : ClassId) (c0 c1 e2 e3 e4 e5 e6 e7 : Int32) (h0 : Heap) (n0 : Nat) (Z0 : n0 ≤ h0.size) (V0 : Arv Z h0 a kr .byte (2 : Int32) [(.int c0), (.int c1)] (.int (0 : Int32))) (V1 : Arv Z h0 b kx .byte (8 : Int32) [(.int c0), (.int c1), (.int e2), (.int e3), (.int e4), (.int e5), (.int e6), (.int e7)] (.int (0 : Int32))) :
    own_Met l Z (⟨"com/example/doseline/doseline/fhir/JsonWriterToByteArrayPinLaw", "same", "([B[BI)Z"⟩ : MethodName) method_3_code 3 (some .boolean) [] ({ frames := 1, cells := 0, slots := 0, locals := 15 } : Room) #[(.ref a), (.ref b), (.int (2 : Int32))] h0 (fun v h L => v = some (.int (1 : Int32)) ∧ Fr n0 L ∧ h = h0) := by
  refine own_met own_pn16 ?_
  intro p e s m below meth c s₁ hx hby hml hown hnm hret hlk hZ X0 hE0
  have N0 := Fr.nil n0
  refine own_cast (own_ef16_own_rm_same_2 m a b (2 : Int32)) ?_
  refine own_aloadN (n := 1) X0 hx (hb hby d16_0) rfl rfl rfl ?_
  refine own_ifnullNo (n := 4) X0 hx (hb hby d16_1) rfl ?_
  refine own_aloadN (n := 5) X0 hx (hb hby d16_4) rfl rfl rfl ?_
  refine own_len (n := 6) X0 hx hZ hE0 V0 (hb hby d16_5) rfl ?_
  refine own_iloadN (n := 7) X0 hx (hb hby d16_6) rfl rfl ?_
  refine own_icmpYes (n := 12) X0 hx (hb hby d16_7) (teq (by decide : (2 : Int32) = (2 : Int32))).1 (by decide) (by decide) ?_
  refine own_aloadN (n := 13) X0 hx (hb hby d16_12) rfl rfl rfl ?_
  refine own_aloadN (n := 14) X0 hx (hb hby d16_13) rfl rfl rfl ?_
  refine own_iconst (n := 15) (z := (0 : Int32)) X0 hx (hb hby d16_14) rfl rfl ?_
  refine own_iloadN (n := 16) X0 hx (hb hby d16_15) rfl rfl ?_
  refine own_S (n := 19) (argsL := [(.ref a), (.ref b), (.int (0 : Int32)), (.int (2 : Int32))]) (rest := []) X0 hx hZ hown (own_rm_at_0_2 l Z a0 hw a b kr kx c0 c1 e2 e3 e4 e5 e6 e7 h0 n0 Z0 V0 V1) (ww80 hw) (ww81 hw) (ww78 hw) (ww82 hw) (by decide) hE0 (by rw [hml]; rfl) (lenOf own_pd6 rfl) rfl (hb hby d16_16) (Nat.le_of_ble_eq_true rfl) (Nat.le_of_ble_eq_true rfl) (Nat.le_of_ble_eq_true rfl) (Nat.le_of_ble_eq_true rfl) rfl ?_
  rintro v1 T1 L1 X1 ⟨rfl, Nq1, eq1⟩
  have N1 := Fr.app N0 Nq1
  change own_G p e below _ _ (mkF m 19 _ [(.int (1 : Int32))])
  refine own_ifNo (n := 22) X1 hx (hb hby d16_19) (feq (by decide : ¬ ((1 : Int32) = (0 : Int32)))).1 rfl ?_
  refine own_aloadN (n := 23) X1 hx (hb hby d16_22) rfl rfl rfl ?_
  refine own_aloadN (n := 24) X1 hx (hb hby d16_23) rfl rfl rfl ?_
  refine own_iconst (n := 25) (z := (1 : Int32)) X1 hx (hb hby d16_24) rfl rfl ?_
  refine own_iloadN (n := 26) X1 hx (hb hby d16_25) rfl rfl ?_
  refine own_S (n := 29) (argsL := [(.ref a), (.ref b), (.int (1 : Int32)), (.int (2 : Int32))]) (rest := []) X1 hx hZ hown (own_rm_at_1_2 l Z a0 hw a b kr kx c0 c1 e2 e3 e4 e5 e6 e7 h0 n0 Z0 V0 V1) (ww80 hw) (ww81 hw) (ww78 hw) (ww82 hw) (by decide) eq1 (by rw [hml]; rfl) (lenOf own_pd6 rfl) rfl (hb hby d16_26) (Nat.le_of_ble_eq_true rfl) (Nat.le_of_ble_eq_true rfl) (Nat.le_of_ble_eq_true rfl) (Nat.le_of_ble_eq_true rfl) rfl ?_
  rintro v2 T2 L2 X2 ⟨rfl, Nq2, eq2⟩
  have N2 := Fr.app N1 Nq2
  change own_G p e below _ _ (mkF m 29 _ [(.int (1 : Int32))])
  refine own_ifNo (n := 32) X2 hx (hb hby d16_29) (feq (by decide : ¬ ((1 : Int32) = (0 : Int32)))).1 rfl ?_
  refine own_aloadN (n := 33) X2 hx (hb hby d16_32) rfl rfl rfl ?_
  refine own_aloadN (n := 34) X2 hx (hb hby d16_33) rfl rfl rfl ?_
  refine own_iconst (n := 35) (z := (2 : Int32)) X2 hx (hb hby d16_34) rfl rfl ?_
  refine own_iloadN (n := 36) X2 hx (hb hby d16_35) rfl rfl ?_
  refine own_S (n := 39) (argsL := [(.ref a), (.ref b), (.int (2 : Int32)), (.int (2 : Int32))]) (rest := []) X2 hx hZ hown (own_rm_at_2_2 l Z a0 hw a b kr kx c0 c1 e2 e3 e4 e5 e6 e7 h0 n0 Z0 V0 V1) (ww80 hw) (ww81 hw) (ww78 hw) (ww82 hw) (by decide) eq2 (by rw [hml]; rfl) (lenOf own_pd6 rfl) rfl (hb hby d16_36) (Nat.le_of_ble_eq_true rfl) (Nat.le_of_ble_eq_true rfl) (Nat.le_of_ble_eq_true rfl) (Nat.le_of_ble_eq_true rfl) rfl ?_
  rintro v3 T3 L3 X3 ⟨rfl, Nq3, eq3⟩
  have N3 := Fr.app N2 Nq3
  change own_G p e below _ _ (mkF m 39 _ [(.int (1 : Int32))])
  refine own_ifNo (n := 42) X3 hx (hb hby d16_39) (feq (by decide : ¬ ((1 : Int32) = (0 : Int32)))).1 rfl ?_
  refine own_aloadN (n := 43) X3 hx (hb hby d16_42) rfl rfl rfl ?_
  refine own_aloadN (n := 44) X3 hx (hb hby d16_43) rfl rfl rfl ?_
  refine own_iconst (n := 45) (z := (3 : Int32)) X3 hx (hb hby d16_44) rfl rfl ?_
  refine own_iloadN (n := 46) X3 hx (hb hby d16_45) rfl rfl ?_
  refine own_S (n := 49) (argsL := [(.ref a), (.ref b), (.int (3 : Int32)), (.int (2 : Int32))]) (rest := []) X3 hx hZ hown (own_rm_at_3_2 l Z a0 hw a b kr kx c0 c1 e2 e3 e4 e5 e6 e7 h0 n0 Z0 V0 V1) (ww80 hw) (ww81 hw) (ww78 hw) (ww82 hw) (by decide) eq3 (by rw [hml]; rfl) (lenOf own_pd6 rfl) rfl (hb hby d16_46) (Nat.le_of_ble_eq_true rfl) (Nat.le_of_ble_eq_true rfl) (Nat.le_of_ble_eq_true rfl) (Nat.le_of_ble_eq_true rfl) rfl ?_
  rintro v4 T4 L4 X4 ⟨rfl, Nq4, eq4⟩
  have N4 := Fr.app N3 Nq4
  change own_G p e below _ _ (mkF m 49 _ [(.int (1 : Int32))])
  refine own_ifNo (n := 52) X4 hx (hb hby d16_49) (feq (by decide : ¬ ((1 : Int32) = (0 : Int32)))).1 rfl ?_
  refine own_aloadN (n := 53) X4 hx (hb hby d16_52) rfl rfl rfl ?_
  refine own_aloadN (n := 54) X4 hx (hb hby d16_53) rfl rfl rfl ?_
  refine own_iconst (n := 55) (z := (4 : Int32)) X4 hx (hb hby d16_54) rfl rfl ?_
  refine own_iloadN (n := 56) X4 hx (hb hby d16_55) rfl rfl ?_
  refine own_S (n := 59) (argsL := [(.ref a), (.ref b), (.int (4 : Int32)), (.int (2 : Int32))]) (rest := []) X4 hx hZ hown (own_rm_at_4_2 l Z a0 hw a b kr kx c0 c1 e2 e3 e4 e5 e6 e7 h0 n0 Z0 V0 V1) (ww80 hw) (ww81 hw) (ww78 hw) (ww82 hw) (by decide) eq4 (by rw [hml]; rfl) (lenOf own_pd6 rfl) rfl (hb hby d16_56) (Nat.le_of_ble_eq_true rfl) (Nat.le_of_ble_eq_true rfl) (Nat.le_of_ble_eq_true rfl) (Nat.le_of_ble_eq_true rfl) rfl ?_
  rintro v5 T5 L5 X5 ⟨rfl, Nq5, eq5⟩
  have N5 := Fr.app N4 Nq5
  change own_G p e below _ _ (mkF m 59 _ [(.int (1 : Int32))])
  refine own_ifNo (n := 62) X5 hx (hb hby d16_59) (feq (by decide : ¬ ((1 : Int32) = (0 : Int32)))).1 rfl ?_
  refine own_aloadN (n := 63) X5 hx (hb hby d16_62) rfl rfl rfl ?_
  refine own_aloadN (n := 64) X5 hx (hb hby d16_63) rfl rfl rfl ?_
  refine own_iconst (n := 65) (z := (5 : Int32)) X5 hx (hb hby d16_64) rfl rfl ?_
  refine own_iloadN (n := 66) X5 hx (hb hby d16_65) rfl rfl ?_
  refine own_S (n := 69) (argsL := [(.ref a), (.ref b), (.int (5 : Int32)), (.int (2 : Int32))]) (rest := []) X5 hx hZ hown (own_rm_at_5_2 l Z a0 hw a b kr kx c0 c1 e2 e3 e4 e5 e6 e7 h0 n0 Z0 V0 V1) (ww80 hw) (ww81 hw) (ww78 hw) (ww82 hw) (by decide) eq5 (by rw [hml]; rfl) (lenOf own_pd6 rfl) rfl (hb hby d16_66) (Nat.le_of_ble_eq_true rfl) (Nat.le_of_ble_eq_true rfl) (Nat.le_of_ble_eq_true rfl) (Nat.le_of_ble_eq_true rfl) rfl ?_
  rintro v6 T6 L6 X6 ⟨rfl, Nq6, eq6⟩
  have N6 := Fr.app N5 Nq6
  change own_G p e below _ _ (mkF m 69 _ [(.int (1 : Int32))])
  refine own_ifNo (n := 72) X6 hx (hb hby d16_69) (feq (by decide : ¬ ((1 : Int32) = (0 : Int32)))).1 rfl ?_
  refine own_aloadN (n := 73) X6 hx (hb hby d16_72) rfl rfl rfl ?_
  refine own_aloadN (n := 74) X6 hx (hb hby d16_73) rfl rfl rfl ?_
  refine own_bipush (n := 76) (z := (6 : Int32)) X6 hx (hb hby d16_74) rfl rfl ?_
  refine own_iloadN (n := 77) X6 hx (hb hby d16_76) rfl rfl ?_
  refine own_S (n := 80) (argsL := [(.ref a), (.ref b), (.int (6 : Int32)), (.int (2 : Int32))]) (rest := []) X6 hx hZ hown (own_rm_at_6_2 l Z a0 hw a b kr kx c0 c1 e2 e3 e4 e5 e6 e7 h0 n0 Z0 V0 V1) (ww80 hw) (ww81 hw) (ww78 hw) (ww82 hw) (by decide) eq6 (by rw [hml]; rfl) (lenOf own_pd6 rfl) rfl (hb hby d16_77) (Nat.le_of_ble_eq_true rfl) (Nat.le_of_ble_eq_true rfl) (Nat.le_of_ble_eq_true rfl) (Nat.le_of_ble_eq_true rfl) rfl ?_
  rintro v7 T7 L7 X7 ⟨rfl, Nq7, eq7⟩
  have N7 := Fr.app N6 Nq7
  change own_G p e below _ _ (mkF m 80 _ [(.int (1 : Int32))])
  refine own_ifNo (n := 83) X7 hx (hb hby d16_80) (feq (by decide : ¬ ((1 : Int32) = (0 : Int32)))).1 rfl ?_
  refine own_aloadN (n := 84) X7 hx (hb hby d16_83) rfl rfl rfl ?_
  refine own_aloadN (n := 85) X7 hx (hb hby d16_84) rfl rfl rfl ?_
  refine own_bipush (n := 87) (z := (7 : Int32)) X7 hx (hb hby d16_85) rfl rfl ?_
  refine own_iloadN (n := 88) X7 hx (hb hby d16_87) rfl rfl ?_
  refine own_S (n := 91) (argsL := [(.ref a), (.ref b), (.int (7 : Int32)), (.int (2 : Int32))]) (rest := []) X7 hx hZ hown (own_rm_at_7_2 l Z a0 hw a b kr kx c0 c1 e2 e3 e4 e5 e6 e7 h0 n0 Z0 V0 V1) (ww80 hw) (ww81 hw) (ww78 hw) (ww82 hw) (by decide) eq7 (by rw [hml]; rfl) (lenOf own_pd6 rfl) rfl (hb hby d16_88) (Nat.le_of_ble_eq_true rfl) (Nat.le_of_ble_eq_true rfl) (Nat.le_of_ble_eq_true rfl) (Nat.le_of_ble_eq_true rfl) rfl ?_
  rintro v8 T8 L8 X8 ⟨rfl, Nq8, eq8⟩
  have N8 := Fr.app N7 Nq8
  change own_G p e below _ _ (mkF m 91 _ [(.int (1 : Int32))])
  refine own_ifNo (n := 94) X8 hx (hb hby d16_91) (feq (by decide : ¬ ((1 : Int32) = (0 : Int32)))).1 rfl ?_
  refine own_iconst (n := 95) (z := (1 : Int32)) X8 hx (hb hby d16_94) rfl rfl ?_
  refine own_goto (n := 99) X8 hx (hb hby d16_95) (by decide) (by decide) ?_
  refine own_retZ X8 hx hlk hret (by simp) eq8 (w := (1 : Int32)) rfl (hb hby d16_99) (by decide) (by decide) ?_
  exact ⟨rfl, N8, rfl⟩
theorem d5_7 : decode prog_96_method_24_code 7 = .ok (.aload_n 0, 1) := by decide +kernel
theorem d5_8 : decode prog_96_method_24_code 8 = .ok (.bipush 44, 2) := by decide +kernel
theorem d5_10 : decode prog_96_method_24_code 10 = .ok (.invokevirtual 68, 3) := by decide +kernel
theorem own_pn6 : plainFor (⟨"com/example/doseline/doseline/fhir/JsonWriter", "write", "(B)V"⟩ : MethodName) = true := plainFor_of_name (by first | (simp [plainName, overriddenIn]; done) | decide +kernel)
theorem d6_0 : decode prog_96_method_26_code 0 = .ok (.aload_n 0, 1) := by decide +kernel
theorem d6_1 : decode prog_96_method_26_code 1 = .ok (.iconst 1, 1) := by decide +kernel
theorem d6_2 : decode prog_96_method_26_code 2 = .ok (.invokevirtual 111, 3) := by decide +kernel
theorem own_ef7_own_rm_room_3_1 (m : MethodId) (y0 : Addr) (y1 : Int32) : entryFrame m #[(.ref y0), (.int y1)] 2 = mkF m 0 #[.val (.ref y0), .val (.int y1)] [] := by first | (simp [entryFrame, mkF, argsToLocals, Value.category]; done) | rfl
set_option maxRecDepth 65536 in
set_option maxHeartbeats 40000000 in
theorem own_rm_room_3_1 (l : Launch) (Z : State) (a0 : Array Value) (hw : ∀ d ∈ tables_1, d.before a0 Z = true) (a b : Addr) (kb : ClassId) (N : Int32) (rest : List Value) (ae : Int32) (c0 c1 c2 : Int32) (h0 : Heap) (n0 : Nat) (Z0 : n0 ≤ h0.size) (E0 : Exa Z h0 a "com/example/doseline/doseline/fhir/JsonWriter") (FB : Fld Z h0 a "com/example/doseline/doseline/fhir/JsonWriter" "bytes" "[B" (.ref b)) (FL : Fld Z h0 a "com/example/doseline/doseline/fhir/JsonWriter" "length" "I" (.int (3 : Int32))) (FA : Fld Z h0 a "com/example/doseline/doseline/fhir/JsonWriter" "afterElement" "Z" (.int ae)) (VB : Arv Z h0 b kb .byte N ((.int c0) :: (.int c1) :: (.int c2) :: rest) (.int (0 : Int32))) (EB : Exa Z h0 b "[B") (hl : rest.length + 3 = N.toNatClampNeg) (hN : N.toInt ≤ 15) (g_a : n0 ≤ a) (g_b : n0 ≤ b) :
    own_Met l Z (⟨"com/example/doseline/doseline/fhir/JsonWriter", "room", "(I)V"⟩ : MethodName) prog_96_method_28_code 2 none [] ({ frames := 2, cells := 1, slots := 15, locals := 55 } : Room) #[(.ref a), (.int (1 : Int32))] h0 (fun v h L => ∃ (b' : Addr) (k' : ClassId) (N' : Int32) (r' : List Value), v = none ∧ Fr n0 L ∧ Keep h0 h [a] ∧ Exa Z h a "com/example/doseline/doseline/fhir/JsonWriter" ∧ Fld Z h a "com/example/doseline/doseline/fhir/JsonWriter" "bytes" "[B" (.ref b') ∧ Fld Z h a "com/example/doseline/doseline/fhir/JsonWriter" "length" "I" (.int (3 : Int32)) ∧ Fld Z h a "com/example/doseline/doseline/fhir/JsonWriter" "afterElement" "Z" (.int ae) ∧ Arv Z h b' k' .byte N' ((.int c0) :: (.int c1) :: (.int c2) :: r') (.int (0 : Int32)) ∧ Exa Z h b' "[B" ∧ r'.length + 3 = N'.toNatClampNeg ∧ N'.toInt ≤ 15 ∧ (b' = b ∨ h0.size ≤ b') ∧ n0 ≤ b' ∧ 1 ≤ r'.length) := by
  refine own_met own_pn7 ?_
  intro p e s m below meth c s₁ hx hby hml hown hnm hret hlk hZ X0 hE0
  have N0 := Fr.nil n0
  refine own_cast (own_ef7_own_rm_room_3_1 m a (1 : Int32)) ?_
  have hN0 := own_arvn VB
  refine own_iloadN (n := 1) X0 hx (hb hby d7_0) rfl rfl ?_
  refine own_aloadN (n := 2) X0 hx (hb hby d7_1) rfl rfl rfl ?_
  refine own_getF (n := 5) X0 hx hZ hown (host := "") (Or.inl (ww10 hw)) Via.refl hE0 FB (hb hby d7_2) rfl ?_
  intro T1 X1 e1
  refine own_len (n := 6) X1 hx hZ e1 VB (hb hby d7_5) rfl ?_
  refine own_aloadN (n := 7) X1 hx (hb hby d7_6) rfl rfl rfl ?_
  refine own_getF (n := 10) X1 hx hZ hown (host := "") (Or.inl (ww35 hw)) Via.refl e1 FL (hb hby d7_7) rfl ?_
  intro T2 X2 e2
  refine own_isub (n := 11) X2 hx (hb hby d7_10) rfl rfl ?_
  by_cases hc11_3 : (N - (3 : Int32)) < (1 : Int32)
  · skip
    have hgr := own_grow (N := N) (l := (3 : Int32)) (n := (1 : Int32)) (q := (4 : Int32)) (r := rest) (L := 3) (m := 1) rfl rfl rfl (by decide) hN0 hN hl hc11_3
    refine own_icmpNo (n := 14) X2 hx (hb hby d7_11) (tlt hc11_3).2.2.2 rfl ?_
    refine own_aloadN (n := 15) X2 hx (hb hby d7_14) rfl rfl rfl ?_
    refine own_aloadN (n := 16) X2 hx (hb hby d7_15) rfl rfl rfl ?_
    refine own_getF (n := 19) X2 hx hZ hown (host := "") (Or.inl (ww10 hw)) Via.refl e2 FB (hb hby d7_16) rfl ?_
    intro T4 X4 e4
    refine own_aloadN (n := 20) X4 hx (hb hby d7_19) rfl rfl rfl ?_
    refine own_getF (n := 23) X4 hx hZ hown (host := "") (Or.inl (ww10 hw)) Via.refl e4 FB (hb hby d7_20) rfl ?_
    intro T5 X5 e5
    refine own_len (n := 24) X5 hx hZ e5 VB (hb hby d7_23) rfl ?_
    refine own_iconst (n := 25) (z := (2 : Int32)) X5 hx (hb hby d7_24) rfl rfl ?_
    refine own_imul (n := 26) X5 hx (hb hby d7_25) rfl rfl ?_
    refine own_aloadN (n := 27) X5 hx (hb hby d7_26) rfl rfl rfl ?_
    refine own_getF (n := 30) X5 hx hZ hown (host := "") (Or.inl (ww35 hw)) Via.refl e5 FL (hb hby d7_27) rfl ?_
    intro T6 X6 e6
    refine own_iloadN (n := 31) X6 hx (hb hby d7_30) rfl rfl ?_
    refine own_iadd (n := 32) (z := (4 : Int32)) X6 hx (hb hby d7_31) rfl rfl ?_
    refine own_S (n := 35) (argsL := [(.int (N * (2 : Int32))), (.int (4 : Int32))]) (rest := [(.ref b), (.ref a)]) X6 hx hZ hown (own_rm_max l Z a0 hw (N * (2 : Int32)) (4 : Int32) h0 n0 Z0) (ww37 hw) (ww38 hw) (ww39 hw) (ww40 hw) (by decide) e6 (by rw [hml]; rfl) (lenOf own_pd2 rfl) rfl (hb hby d7_32) (Nat.le_of_ble_eq_true rfl) (Nat.le_of_ble_eq_true rfl) (Nat.le_of_ble_eq_true rfl) (Nat.le_of_ble_eq_true rfl) rfl ?_
    rintro v7 T7 L7 X7 ⟨rfl, Nq7, eq7⟩
    have N7 := Fr.app N0 Nq7
    change own_G p e below _ _ (mkF m 35 _ [(.int (own_max (N * (2 : Int32)) (4 : Int32))), (.ref b), (.ref a)])
    refine own_S (n := 38) (argsL := [(.ref b), (.int (own_max (N * (2 : Int32)) (4 : Int32)))]) (rest := [(.ref a)]) X7 hx hZ hown (own_rm_copy15 l Z a0 hw b kb N (own_max (N * (2 : Int32)) (4 : Int32)) ((.int c0) :: (.int c1) :: (.int c2) :: rest) h0 n0 Z0 VB (by (try simp only [List.length_cons]); omega) EB hgr.1 hgr.2.1) (ww41 hw) (ww42 hw) (ww43 hw) (ww44 hw) (by decide) eq7 (by rw [hml]; rfl) (lenOf own_pd3 rfl) rfl (hb hby d7_35) (Nat.le_of_ble_eq_true rfl) (Nat.le_of_ble_eq_true rfl) (Nat.le_of_ble_eq_true rfl) (Nat.le_of_ble_eq_true rfl) rfl ?_
    rintro v8 T8 L8 X8 ⟨y8, k8, rfl, Nq8, K8, sz8, gb8, Vb8, Ec8⟩
    have N8 := Fr.app N7 Nq8
    have E_9 := E0.keep K8
    have F_10 := FB.keep K8 (by simp)
    have F_11 := FL.keep K8 (by simp)
    have F_12 := FA.keep K8 (by simp)
    have A_13 := VB.keep K8 (by simp)
    have E_14 := EB.keep K8
    have K_15 := (Keep.refl h0 [a]).trans K8 (fun x hx => nomatch hx)
    have Z_16 : n0 ≤ T8.heap.size := Nat.le_trans Z0 K8.1
    have Vc8 : Arv Z T8.heap y8 k8 .byte (own_max (N * (2 : Int32)) (4 : Int32)) ((.int c0) :: (.int c1) :: (.int c2) :: (rest ++ List.replicate (α := Value) (((own_max (N * (2 : Int32)) (4 : Int32))).toNatClampNeg - N.toNatClampNeg) (.int (0 : Int32)))) (.int (0 : Int32)) := by have q := Vb8; rw [List.take_of_length_le (by (try simp only [List.length_cons]); omega)] at q; exact q
    have hl8 : (rest ++ List.replicate (α := Value) (((own_max (N * (2 : Int32)) (4 : Int32))).toNatClampNeg - N.toNatClampNeg) (.int (0 : Int32))).length + 3 = ((own_max (N * (2 : Int32)) (4 : Int32))).toNatClampNeg := by rw [List.length_append, List.length_replicate]; omega
    have hx8 : 1 ≤ (rest ++ List.replicate (α := Value) (((own_max (N * (2 : Int32)) (4 : Int32))).toNatClampNeg - N.toNatClampNeg) (.int (0 : Int32))).length := by have := hl8; omega
    change own_G p e below _ _ (mkF m 38 _ [(.ref y8), (.ref a)])
    refine own_putF (n := 41) X8 hx hZ hown (host := "") (Or.inl (ww10 hw)) Via.refl rfl F_10 E_9 (Or.inl (ww11 hw)) (ww2 hw) (ty := (.array .byte)) (by decide) rfl rfl (hb hby d7_38) rfl ?_
    intro T17 h17 X17 e17 W17
    have F_18 := F_10.same W17
    have N17 := Fr.snoc X17 N8 g_a
    have E_19 := E_9.wr W17
    have F_20 := F_11.other W17 (Or.inr (slot_ne (Or.inl (ww36 hw)) (Or.inl (ww11 hw)) (by decide) (t := .int) (t' := (.array .byte)) (by decide) (by decide)))
    have F_21 := F_12.other W17 (Or.inr (slot_ne (Or.inl (ww26 hw)) (Or.inl (ww11 hw)) (by decide) (t := .boolean) (t' := (.array .byte)) (by decide) (by decide)))
    have A_22 := A_13.other W17 (Ne.symm (own_neEA E_9 (ww2 hw) A_13))
    have E_23 := E_14.wr W17
    have K_24 := K_15.wr W17 (Or.inl (by first | exact List.mem_cons_self | exact List.mem_cons_of_mem _ List.mem_cons_self | exact List.mem_cons_of_mem _ (List.mem_cons_of_mem _ List.mem_cons_self) | (simp; done)))
    have A_25 := Vc8.other W17 (Ne.symm (Nat.ne_of_lt (Nat.lt_of_lt_of_le E0.lt sz8)))
    have E_26 := Ec8.wr W17
    have Z_27 : n0 ≤ h17.size := by rw [W17.size]; exact Z_16
    refine own_retV X17 hx hlk hret e17 (hb hby d7_41) (by decide) (by decide) ?_
    exact ⟨y8, k8, ((own_max (N * (2 : Int32)) (4 : Int32))), (rest ++ List.replicate (α := Value) (((own_max (N * (2 : Int32)) (4 : Int32))).toNatClampNeg - N.toNatClampNeg) (.int (0 : Int32))), rfl, N17, K_24, E_19, F_18, F_20, F_21, A_25, E_26, hl8, hgr.2.2.1, (Or.inr sz8 : y8 = b ∨ h0.size ≤ y8), gb8, hx8⟩
  · skip
    have hx0 : 1 ≤ rest.length := own_roomle (N := N) (l := (3 : Int32)) (n := (1 : Int32)) (L := 3) (m := 1) rfl rfl (by decide) hN0 hN hl hc11_3
    refine own_icmpYes (n := 41) X2 hx (hb hby d7_11) (flt hc11_3).2.2.2 (by decide) (by decide) ?_
    refine own_retV X2 hx hlk hret e2 (hb hby d7_41) (by decide) (by decide) ?_
    exact ⟨b, kb, N, rest, rfl, N0, (Keep.refl h0 [a]), E0, FB, FL, FA, VB, EB, hl, hN, (Or.inl rfl : b = b ∨ h0.size ≤ b), g_b, hx0⟩
theorem d6_5 : decode prog_96_method_26_code 5 = .ok (.aload_n 0, 1) := by decide +kernel
theorem d6_6 : decode prog_96_method_26_code 6 = .ok (.getfield 7, 3) := by decide +kernel
theorem d6_9 : decode prog_96_method_26_code 9 = .ok (.aload_n 0, 1) := by decide +kernel
theorem d6_10 : decode prog_96_method_26_code 10 = .ok (.dup, 1) := by decide +kernel
theorem d6_11 : decode prog_96_method_26_code 11 = .ok (.getfield 48, 3) := by decide +kernel
theorem d6_14 : decode prog_96_method_26_code 14 = .ok (.dup_x1, 1) := by decide +kernel
theorem d6_15 : decode prog_96_method_26_code 15 = .ok (.iconst 1, 1) := by decide +kernel
theorem d6_16 : decode prog_96_method_26_code 16 = .ok (.iadd, 1) := by decide +kernel
theorem d6_17 : decode prog_96_method_26_code 17 = .ok (.putfield 48, 3) := by decide +kernel
theorem d6_20 : decode prog_96_method_26_code 20 = .ok (.iload_n 1, 1) := by decide +kernel
theorem d6_21 : decode prog_96_method_26_code 21 = .ok (.bastore, 1) := by decide +kernel
theorem d6_22 : decode prog_96_method_26_code 22 = .ok (.return_, 1) := by decide +kernel
theorem own_ef6_own_rm_wb_3 (m : MethodId) (y0 : Addr) (y1 : Int32) : entryFrame m #[(.ref y0), (.int y1)] 2 = mkF m 0 #[.val (.ref y0), .val (.int y1)] [] := by first | (simp [entryFrame, mkF, argsToLocals, Value.category]; done) | rfl
set_option maxRecDepth 65536 in
set_option maxHeartbeats 40000000 in
theorem own_rm_wb_3 (l : Launch) (Z : State) (a0 : Array Value) (hw : ∀ d ∈ tables_1, d.before a0 Z = true) (a b : Addr) (kb : ClassId) (N : Int32) (rest : List Value) (ae : Int32) (c0 c1 c2 : Int32) (p1 : Int32) (h0 : Heap) (n0 : Nat) (Z0 : n0 ≤ h0.size) (E0 : Exa Z h0 a "com/example/doseline/doseline/fhir/JsonWriter") (FB : Fld Z h0 a "com/example/doseline/doseline/fhir/JsonWriter" "bytes" "[B" (.ref b)) (FL : Fld Z h0 a "com/example/doseline/doseline/fhir/JsonWriter" "length" "I" (.int (3 : Int32))) (FA : Fld Z h0 a "com/example/doseline/doseline/fhir/JsonWriter" "afterElement" "Z" (.int ae)) (VB : Arv Z h0 b kb .byte N ((.int c0) :: (.int c1) :: (.int c2) :: rest) (.int (0 : Int32))) (EB : Exa Z h0 b "[B") (hl : rest.length + 3 = N.toNatClampNeg) (hN : N.toInt ≤ 15) (g_a : n0 ≤ a) (g_b : n0 ≤ b) (hp : (p1).toInt8.toInt32 = p1) :
    own_Met l Z (⟨"com/example/doseline/doseline/fhir/JsonWriter", "write", "(B)V"⟩ : MethodName) prog_96_method_26_code 2 none [] ({ frames := 3, cells := 1, slots := 15, locals := 68 } : Room) #[(.ref a), (.int p1)] h0 (fun v h L => ∃ (b' : Addr) (k' : ClassId) (N' : Int32) (r' : List Value), v = none ∧ Fr n0 L ∧ Keep h0 h [a, b] ∧ Exa Z h a "com/example/doseline/doseline/fhir/JsonWriter" ∧ Fld Z h a "com/example/doseline/doseline/fhir/JsonWriter" "bytes" "[B" (.ref b') ∧ Fld Z h a "com/example/doseline/doseline/fhir/JsonWriter" "length" "I" (.int (4 : Int32)) ∧ Fld Z h a "com/example/doseline/doseline/fhir/JsonWriter" "afterElement" "Z" (.int ae) ∧ Arv Z h b' k' .byte N' ((.int c0) :: (.int c1) :: (.int c2) :: (.int p1) :: r') (.int (0 : Int32)) ∧ Exa Z h b' "[B" ∧ r'.length + 4 = N'.toNatClampNeg ∧ N'.toInt ≤ 15 ∧ (b' = b ∨ h0.size ≤ b') ∧ n0 ≤ b') := by
  refine own_met own_pn6 ?_
  intro p e s m below meth c s₁ hx hby hml hown hnm hret hlk hZ X0 hE0
  have N0 := Fr.nil n0
  refine own_cast (own_ef6_own_rm_wb_3 m a p1) ?_
  have hN0 := own_arvn VB
  refine own_aloadN (n := 1) X0 hx (hb hby d6_0) rfl rfl rfl ?_
  refine own_iconst (n := 2) (z := (1 : Int32)) X0 hx (hb hby d6_1) rfl rfl ?_
  refine own_P (n := 5) (argsL := [(.int (1 : Int32))]) (rest := []) (a := a) X0 hx hZ hown (own_rm_room_3_1 l Z a0 hw a b kb N rest ae c0 c1 c2 h0 n0 Z0 E0 FB FL FA VB EB hl hN g_a g_b) (ww31 hw) (ww32 hw) (by rfl) (ww15 hw) (ww33 hw) (ww3 hw) (ww34 hw) (by decide) hE0 E0 (by rw [hml]; rfl) (lenOf own_pd0 rfl) rfl (hb hby d6_2) (Nat.le_of_ble_eq_true rfl) (Nat.le_of_ble_eq_true rfl) (Nat.le_of_ble_eq_true rfl) (Nat.le_of_ble_eq_true rfl) rfl ?_
  rintro v1 T1 L1 X1 ⟨y1, k1, M1, r1, rfl, Nq1, K1, Eq1, Fb1, Fl1, Fa1, Vb1, Ec1, hl1, hN1, hq1, gb1, hx1⟩
  have N1 := Fr.app N0 Nq1
  have E_2 := E0.keep K1
  have A_3 := VB.keep K1 (by simp [(Ne.symm (own_neEA E0 (ww2 hw) VB))])
  have E_4 := EB.keep K1
  have K_5 := (Keep.refl h0 [a, b]).trans K1 (fun x hx => by cases List.mem_singleton.mp hx; exact (Or.inl (by first | exact List.mem_cons_self | exact List.mem_cons_of_mem _ List.mem_cons_self | exact List.mem_cons_of_mem _ (List.mem_cons_of_mem _ List.mem_cons_self) | (simp; done))))
  have Z_6 : n0 ≤ T1.heap.size := Nat.le_trans Z0 K1.1
  have hb1 : y1 = b ∨ h0.size ≤ y1 := own_orTr (Or.inl rfl : b = b ∨ h0.size ≤ b) hq1 (Keep.refl h0 [a, b]).1
  obtain ⟨x1_0, t1, rfl⟩ := own_ex1 hx1
  change own_G p e below _ _ (mkF m 5 _ [])
  refine own_aloadN (n := 6) X1 hx (hb hby d6_5) rfl rfl rfl ?_
  refine own_getF (n := 9) X1 hx hZ hown (host := "") (Or.inl (ww10 hw)) Via.refl rfl Fb1 (hb hby d6_6) rfl ?_
  intro T7 X7 e7
  refine own_aloadN (n := 10) X7 hx (hb hby d6_9) rfl rfl rfl ?_
  refine own_dup (n := 11) X7 hx (hb hby d6_10) rfl rfl ?_
  refine own_getF (n := 14) X7 hx hZ hown (host := "") (Or.inl (ww35 hw)) Via.refl e7 Fl1 (hb hby d6_11) rfl ?_
  intro T8 X8 e8
  refine own_dup_x1 (n := 15) X8 hx (hb hby d6_14) rfl rfl rfl ?_
  refine own_iconst (n := 16) (z := (1 : Int32)) X8 hx (hb hby d6_15) rfl rfl ?_
  refine own_iadd (n := 17) (z := (4 : Int32)) X8 hx (hb hby d6_16) rfl rfl ?_
  refine own_putF (n := 20) X8 hx hZ hown (host := "") (Or.inl (ww35 hw)) Via.refl e8 Fl1 E_2 (Or.inl (ww36 hw)) (ww2 hw) (ty := .int) (by decide) rfl rfl (hb hby d6_17) rfl ?_
  intro T9 h9 X9 e9 W9
  have F_10 := Fl1.same W9
  have N9 := Fr.snoc X9 N1 g_a
  have E_11 := E_2.wr W9
  have K_12 := K_5.wr W9 (Or.inl (by first | exact List.mem_cons_self | exact List.mem_cons_of_mem _ List.mem_cons_self | exact List.mem_cons_of_mem _ (List.mem_cons_of_mem _ List.mem_cons_self) | (simp; done)))
  have F_13 := Fb1.other W9 (Or.inr (slot_ne (Or.inl (ww11 hw)) (Or.inl (ww36 hw)) (by decide) (t := (.array .byte)) (t' := .int) (by decide) (by decide)))
  have F_14 := Fa1.other W9 (Or.inr (slot_ne (Or.inl (ww26 hw)) (Or.inl (ww36 hw)) (by decide) (t := .boolean) (t' := .int) (by decide) (by decide)))
  have A_15 := Vb1.other W9 (Ne.symm (own_neEA E_2 (ww2 hw) Vb1))
  have E_16 := Ec1.wr W9
  have Z_17 : n0 ≤ h9.size := by rw [W9.size]; exact Z_6
  refine own_iloadN (n := 21) X9 hx (hb hby d6_20) rfl rfl ?_
  refine own_st_bastore (n := 22) X9 hx hZ e9 A_15 (own_inN (L := 3) rfl (own_arvn A_15) hl1 (by (try simp only [List.length_cons]); omega)) 3 rfl (by (try simp only [List.length_cons]); omega) (hb hby d6_21) rfl ?_
  intro T18 h18 X18 e18 W18 V18q
  rw [hp] at V18q
  have V18 : Arv Z h18 y1 k1 .byte M1 ((.int c0) :: (.int c1) :: (.int c2) :: (.int p1) :: t1) (.int (0 : Int32)) := V18q
  have N18 := Fr.snoc X18 N9 gb1
  have E_19 := E_11.wr W18
  have K_20 := K_12.wr W18 (hb1.elim (fun q => Or.inl (by simp [q])) Or.inr)
  have F_21 := F_13.other W18 (Or.inl (own_neEA E_11 (ww2 hw) A_15))
  have F_22 := F_14.other W18 (Or.inl (own_neEA E_11 (ww2 hw) A_15))
  have E_23 := E_16.wr W18
  have F_24 := F_10.other W18 (Or.inl (own_neEA E_11 (ww2 hw) A_15))
  have Z_25 : n0 ≤ h18.size := by rw [W18.size]; exact Z_17
  have hl_26 : t1.length + 4 = M1.toNatClampNeg := by have q := hl1; (try simp only [List.length_cons] at q); omega
  refine own_retV X18 hx hlk hret e18 (hb hby d6_22) (by decide) (by decide) ?_
  exact ⟨y1, k1, M1, t1, rfl, N18, K_20, E_19, F_21, F_24, F_22, V18, E_23, hl_26, hN1, hb1, gb1⟩
theorem own_pd8 : parseMethodDescriptor "(B)V" = some ⟨[.byte], none⟩ := by decide +kernel
theorem own_ef5_own_rm_sep1_3 (m : MethodId) (y0 : Addr) : entryFrame m #[(.ref y0)] 1 = mkF m 0 #[.val (.ref y0)] [] := by first | (simp [entryFrame, mkF, argsToLocals, Value.category]; done) | rfl
set_option maxRecDepth 65536 in
set_option maxHeartbeats 40000000 in
theorem own_rm_sep1_3 (l : Launch) (Z : State) (a0 : Array Value) (hw : ∀ d ∈ tables_1, d.before a0 Z = true) (a b : Addr) (kb : ClassId) (N : Int32) (rest : List Value) (c0 c1 c2 : Int32) (h0 : Heap) (n0 : Nat) (Z0 : n0 ≤ h0.size) (E0 : Exa Z h0 a "com/example/doseline/doseline/fhir/JsonWriter") (FB : Fld Z h0 a "com/example/doseline/doseline/fhir/JsonWriter" "bytes" "[B" (.ref b)) (FL : Fld Z h0 a "com/example/doseline/doseline/fhir/JsonWriter" "length" "I" (.int (3 : Int32))) (FA : Fld Z h0 a "com/example/doseline/doseline/fhir/JsonWriter" "afterElement" "Z" (.int (1 : Int32))) (VB : Arv Z h0 b kb .byte N ((.int c0) :: (.int c1) :: (.int c2) :: rest) (.int (0 : Int32))) (EB : Exa Z h0 b "[B") (hl : rest.length + 3 = N.toNatClampNeg) (hN : N.toInt ≤ 15) (g_a : n0 ≤ a) (g_b : n0 ≤ b) :
    own_Met l Z (⟨"com/example/doseline/doseline/fhir/JsonWriter", "separate", "()V"⟩ : MethodName) prog_96_method_24_code 1 none [] ({ frames := 4, cells := 1, slots := 15, locals := 81 } : Room) #[(.ref a)] h0 (fun v h L => ∃ (b' : Addr) (k' : ClassId) (N' : Int32) (r' : List Value), v = none ∧ Fr n0 L ∧ Keep h0 h [a, b] ∧ Exa Z h a "com/example/doseline/doseline/fhir/JsonWriter" ∧ Fld Z h a "com/example/doseline/doseline/fhir/JsonWriter" "bytes" "[B" (.ref b') ∧ Fld Z h a "com/example/doseline/doseline/fhir/JsonWriter" "length" "I" (.int (4 : Int32)) ∧ Fld Z h a "com/example/doseline/doseline/fhir/JsonWriter" "afterElement" "Z" (.int (1 : Int32)) ∧ Arv Z h b' k' .byte N' ((.int c0) :: (.int c1) :: (.int c2) :: (.int (44 : Int32)) :: r') (.int (0 : Int32)) ∧ Exa Z h b' "[B" ∧ r'.length + 4 = N'.toNatClampNeg ∧ N'.toInt ≤ 15 ∧ (b' = b ∨ h0.size ≤ b') ∧ n0 ≤ b') := by
  refine own_met own_pn5 ?_
  intro p e s m below meth c s₁ hx hby hml hown hnm hret hlk hZ X0 hE0
  have N0 := Fr.nil n0
  refine own_cast (own_ef5_own_rm_sep1_3 m a) ?_
  have hN0 := own_arvn VB
  refine own_aloadN (n := 1) X0 hx (hb hby d5_0) rfl rfl rfl ?_
  refine own_getF (n := 4) X0 hx hZ hown (host := "") (Or.inl (ww25 hw)) Via.refl hE0 FA (hb hby d5_1) rfl ?_
  intro T1 X1 e1
  refine own_ifNo (n := 7) X1 hx (hb hby d5_4) (feq (by decide : ¬ ((1 : Int32) = (0 : Int32)))).1 rfl ?_
  refine own_aloadN (n := 8) X1 hx (hb hby d5_7) rfl rfl rfl ?_
  refine own_bipush (n := 10) (z := (44 : Int32)) X1 hx (hb hby d5_8) rfl rfl ?_
  refine own_P (n := 13) (argsL := [(.int (44 : Int32))]) (rest := []) (a := a) X1 hx hZ hown (own_rm_wb_3 l Z a0 hw a b kb N rest (1 : Int32) c0 c1 c2 (44 : Int32) h0 n0 Z0 E0 FB FL FA VB EB hl hN g_a g_b (by decide)) (ww27 hw) (ww28 hw) (by rfl) (ww15 hw) (ww29 hw) (ww3 hw) (ww30 hw) (by decide) e1 E0 (by rw [hml]; rfl) (lenOf own_pd8 rfl) rfl (hb hby d5_10) (Nat.le_of_ble_eq_true rfl) (Nat.le_of_ble_eq_true rfl) (Nat.le_of_ble_eq_true rfl) (Nat.le_of_ble_eq_true rfl) rfl ?_
  rintro v2 T2 L2 X2 ⟨y2, k2, M2, r2, rfl, Nq2, K2, Eq2, Fb2, Fl2, Fa2, Vb2, Ec2, hl2, hN2, hq2, gb2⟩
  have N2 := Fr.app N0 Nq2
  have E_3 := E0.keep K2
  have E_4 := EB.keep K2
  have K_5 := (Keep.refl h0 [a, b]).trans K2 (fun x hx => by simp only [List.mem_cons, List.not_mem_nil, or_false] at hx; rcases hx with rfl | rfl <;> first | exact (Or.inl (by first | exact List.mem_cons_self | exact List.mem_cons_of_mem _ List.mem_cons_self | exact List.mem_cons_of_mem _ (List.mem_cons_of_mem _ List.mem_cons_self) | (simp; done))))
  have Z_6 : n0 ≤ T2.heap.size := Nat.le_trans Z0 K2.1
  have hb2 : y2 = b ∨ h0.size ≤ y2 := own_orTr (Or.inl rfl : b = b ∨ h0.size ≤ b) hq2 (Keep.refl h0 [a, b]).1
  change own_G p e below _ _ (mkF m 13 _ [])
  refine own_retV X2 hx hlk hret rfl (hb hby d5_13) (by decide) (by decide) ?_
  exact ⟨y2, k2, M2, r2, rfl, N2, K_5, E_3, Fb2, Fl2, Fa2, Vb2, Ec2, hl2, hN2, hb2, gb2⟩
theorem own_ef7_own_rm_room_4_2 (m : MethodId) (y0 : Addr) (y1 : Int32) : entryFrame m #[(.ref y0), (.int y1)] 2 = mkF m 0 #[.val (.ref y0), .val (.int y1)] [] := by first | (simp [entryFrame, mkF, argsToLocals, Value.category]; done) | rfl
set_option maxRecDepth 65536 in
set_option maxHeartbeats 40000000 in
theorem own_rm_room_4_2 (l : Launch) (Z : State) (a0 : Array Value) (hw : ∀ d ∈ tables_1, d.before a0 Z = true) (a b : Addr) (kb : ClassId) (N : Int32) (rest : List Value) (ae : Int32) (c0 c1 c2 c3 : Int32) (h0 : Heap) (n0 : Nat) (Z0 : n0 ≤ h0.size) (E0 : Exa Z h0 a "com/example/doseline/doseline/fhir/JsonWriter") (FB : Fld Z h0 a "com/example/doseline/doseline/fhir/JsonWriter" "bytes" "[B" (.ref b)) (FL : Fld Z h0 a "com/example/doseline/doseline/fhir/JsonWriter" "length" "I" (.int (4 : Int32))) (FA : Fld Z h0 a "com/example/doseline/doseline/fhir/JsonWriter" "afterElement" "Z" (.int ae)) (VB : Arv Z h0 b kb .byte N ((.int c0) :: (.int c1) :: (.int c2) :: (.int c3) :: rest) (.int (0 : Int32))) (EB : Exa Z h0 b "[B") (hl : rest.length + 4 = N.toNatClampNeg) (hN : N.toInt ≤ 15) (g_a : n0 ≤ a) (g_b : n0 ≤ b) :
    own_Met l Z (⟨"com/example/doseline/doseline/fhir/JsonWriter", "room", "(I)V"⟩ : MethodName) prog_96_method_28_code 2 none [] ({ frames := 2, cells := 1, slots := 15, locals := 55 } : Room) #[(.ref a), (.int (2 : Int32))] h0 (fun v h L => ∃ (b' : Addr) (k' : ClassId) (N' : Int32) (r' : List Value), v = none ∧ Fr n0 L ∧ Keep h0 h [a] ∧ Exa Z h a "com/example/doseline/doseline/fhir/JsonWriter" ∧ Fld Z h a "com/example/doseline/doseline/fhir/JsonWriter" "bytes" "[B" (.ref b') ∧ Fld Z h a "com/example/doseline/doseline/fhir/JsonWriter" "length" "I" (.int (4 : Int32)) ∧ Fld Z h a "com/example/doseline/doseline/fhir/JsonWriter" "afterElement" "Z" (.int ae) ∧ Arv Z h b' k' .byte N' ((.int c0) :: (.int c1) :: (.int c2) :: (.int c3) :: r') (.int (0 : Int32)) ∧ Exa Z h b' "[B" ∧ r'.length + 4 = N'.toNatClampNeg ∧ N'.toInt ≤ 15 ∧ (b' = b ∨ h0.size ≤ b') ∧ n0 ≤ b' ∧ 2 ≤ r'.length) := by
  refine own_met own_pn7 ?_
  intro p e s m below meth c s₁ hx hby hml hown hnm hret hlk hZ X0 hE0
  have N0 := Fr.nil n0
  refine own_cast (own_ef7_own_rm_room_4_2 m a (2 : Int32)) ?_
  have hN0 := own_arvn VB
  refine own_iloadN (n := 1) X0 hx (hb hby d7_0) rfl rfl ?_
  refine own_aloadN (n := 2) X0 hx (hb hby d7_1) rfl rfl rfl ?_
  refine own_getF (n := 5) X0 hx hZ hown (host := "") (Or.inl (ww10 hw)) Via.refl hE0 FB (hb hby d7_2) rfl ?_
  intro T1 X1 e1
  refine own_len (n := 6) X1 hx hZ e1 VB (hb hby d7_5) rfl ?_
  refine own_aloadN (n := 7) X1 hx (hb hby d7_6) rfl rfl rfl ?_
  refine own_getF (n := 10) X1 hx hZ hown (host := "") (Or.inl (ww35 hw)) Via.refl e1 FL (hb hby d7_7) rfl ?_
  intro T2 X2 e2
  refine own_isub (n := 11) X2 hx (hb hby d7_10) rfl rfl ?_
  by_cases hc11_3 : (N - (4 : Int32)) < (2 : Int32)
  · skip
    have hgr := own_grow (N := N) (l := (4 : Int32)) (n := (2 : Int32)) (q := (6 : Int32)) (r := rest) (L := 4) (m := 2) rfl rfl rfl (by decide) hN0 hN hl hc11_3
    refine own_icmpNo (n := 14) X2 hx (hb hby d7_11) (tlt hc11_3).2.2.2 rfl ?_
    refine own_aloadN (n := 15) X2 hx (hb hby d7_14) rfl rfl rfl ?_
    refine own_aloadN (n := 16) X2 hx (hb hby d7_15) rfl rfl rfl ?_
    refine own_getF (n := 19) X2 hx hZ hown (host := "") (Or.inl (ww10 hw)) Via.refl e2 FB (hb hby d7_16) rfl ?_
    intro T4 X4 e4
    refine own_aloadN (n := 20) X4 hx (hb hby d7_19) rfl rfl rfl ?_
    refine own_getF (n := 23) X4 hx hZ hown (host := "") (Or.inl (ww10 hw)) Via.refl e4 FB (hb hby d7_20) rfl ?_
    intro T5 X5 e5
    refine own_len (n := 24) X5 hx hZ e5 VB (hb hby d7_23) rfl ?_
    refine own_iconst (n := 25) (z := (2 : Int32)) X5 hx (hb hby d7_24) rfl rfl ?_
    refine own_imul (n := 26) X5 hx (hb hby d7_25) rfl rfl ?_
    refine own_aloadN (n := 27) X5 hx (hb hby d7_26) rfl rfl rfl ?_
    refine own_getF (n := 30) X5 hx hZ hown (host := "") (Or.inl (ww35 hw)) Via.refl e5 FL (hb hby d7_27) rfl ?_
    intro T6 X6 e6
    refine own_iloadN (n := 31) X6 hx (hb hby d7_30) rfl rfl ?_
    refine own_iadd (n := 32) (z := (6 : Int32)) X6 hx (hb hby d7_31) rfl rfl ?_
    refine own_S (n := 35) (argsL := [(.int (N * (2 : Int32))), (.int (6 : Int32))]) (rest := [(.ref b), (.ref a)]) X6 hx hZ hown (own_rm_max l Z a0 hw (N * (2 : Int32)) (6 : Int32) h0 n0 Z0) (ww37 hw) (ww38 hw) (ww39 hw) (ww40 hw) (by decide) e6 (by rw [hml]; rfl) (lenOf own_pd2 rfl) rfl (hb hby d7_32) (Nat.le_of_ble_eq_true rfl) (Nat.le_of_ble_eq_true rfl) (Nat.le_of_ble_eq_true rfl) (Nat.le_of_ble_eq_true rfl) rfl ?_
    rintro v7 T7 L7 X7 ⟨rfl, Nq7, eq7⟩
    have N7 := Fr.app N0 Nq7
    change own_G p e below _ _ (mkF m 35 _ [(.int (own_max (N * (2 : Int32)) (6 : Int32))), (.ref b), (.ref a)])
    refine own_S (n := 38) (argsL := [(.ref b), (.int (own_max (N * (2 : Int32)) (6 : Int32)))]) (rest := [(.ref a)]) X7 hx hZ hown (own_rm_copy15 l Z a0 hw b kb N (own_max (N * (2 : Int32)) (6 : Int32)) ((.int c0) :: (.int c1) :: (.int c2) :: (.int c3) :: rest) h0 n0 Z0 VB (by (try simp only [List.length_cons]); omega) EB hgr.1 hgr.2.1) (ww41 hw) (ww42 hw) (ww43 hw) (ww44 hw) (by decide) eq7 (by rw [hml]; rfl) (lenOf own_pd3 rfl) rfl (hb hby d7_35) (Nat.le_of_ble_eq_true rfl) (Nat.le_of_ble_eq_true rfl) (Nat.le_of_ble_eq_true rfl) (Nat.le_of_ble_eq_true rfl) rfl ?_
    rintro v8 T8 L8 X8 ⟨y8, k8, rfl, Nq8, K8, sz8, gb8, Vb8, Ec8⟩
    have N8 := Fr.app N7 Nq8
    have E_9 := E0.keep K8
    have F_10 := FB.keep K8 (by simp)
    have F_11 := FL.keep K8 (by simp)
    have F_12 := FA.keep K8 (by simp)
    have A_13 := VB.keep K8 (by simp)
    have E_14 := EB.keep K8
    have K_15 := (Keep.refl h0 [a]).trans K8 (fun x hx => nomatch hx)
    have Z_16 : n0 ≤ T8.heap.size := Nat.le_trans Z0 K8.1
    have Vc8 : Arv Z T8.heap y8 k8 .byte (own_max (N * (2 : Int32)) (6 : Int32)) ((.int c0) :: (.int c1) :: (.int c2) :: (.int c3) :: (rest ++ List.replicate (α := Value) (((own_max (N * (2 : Int32)) (6 : Int32))).toNatClampNeg - N.toNatClampNeg) (.int (0 : Int32)))) (.int (0 : Int32)) := by have q := Vb8; rw [List.take_of_length_le (by (try simp only [List.length_cons]); omega)] at q; exact q
    have hl8 : (rest ++ List.replicate (α := Value) (((own_max (N * (2 : Int32)) (6 : Int32))).toNatClampNeg - N.toNatClampNeg) (.int (0 : Int32))).length + 4 = ((own_max (N * (2 : Int32)) (6 : Int32))).toNatClampNeg := by rw [List.length_append, List.length_replicate]; omega
    have hx8 : 2 ≤ (rest ++ List.replicate (α := Value) (((own_max (N * (2 : Int32)) (6 : Int32))).toNatClampNeg - N.toNatClampNeg) (.int (0 : Int32))).length := by have := hl8; omega
    change own_G p e below _ _ (mkF m 38 _ [(.ref y8), (.ref a)])
    refine own_putF (n := 41) X8 hx hZ hown (host := "") (Or.inl (ww10 hw)) Via.refl rfl F_10 E_9 (Or.inl (ww11 hw)) (ww2 hw) (ty := (.array .byte)) (by decide) rfl rfl (hb hby d7_38) rfl ?_
    intro T17 h17 X17 e17 W17
    have F_18 := F_10.same W17
    have N17 := Fr.snoc X17 N8 g_a
    have E_19 := E_9.wr W17
    have F_20 := F_11.other W17 (Or.inr (slot_ne (Or.inl (ww36 hw)) (Or.inl (ww11 hw)) (by decide) (t := .int) (t' := (.array .byte)) (by decide) (by decide)))
    have F_21 := F_12.other W17 (Or.inr (slot_ne (Or.inl (ww26 hw)) (Or.inl (ww11 hw)) (by decide) (t := .boolean) (t' := (.array .byte)) (by decide) (by decide)))
    have A_22 := A_13.other W17 (Ne.symm (own_neEA E_9 (ww2 hw) A_13))
    have E_23 := E_14.wr W17
    have K_24 := K_15.wr W17 (Or.inl (by first | exact List.mem_cons_self | exact List.mem_cons_of_mem _ List.mem_cons_self | exact List.mem_cons_of_mem _ (List.mem_cons_of_mem _ List.mem_cons_self) | (simp; done)))
    have A_25 := Vc8.other W17 (Ne.symm (Nat.ne_of_lt (Nat.lt_of_lt_of_le E0.lt sz8)))
    have E_26 := Ec8.wr W17
    have Z_27 : n0 ≤ h17.size := by rw [W17.size]; exact Z_16
    refine own_retV X17 hx hlk hret e17 (hb hby d7_41) (by decide) (by decide) ?_
    exact ⟨y8, k8, ((own_max (N * (2 : Int32)) (6 : Int32))), (rest ++ List.replicate (α := Value) (((own_max (N * (2 : Int32)) (6 : Int32))).toNatClampNeg - N.toNatClampNeg) (.int (0 : Int32))), rfl, N17, K_24, E_19, F_18, F_20, F_21, A_25, E_26, hl8, hgr.2.2.1, (Or.inr sz8 : y8 = b ∨ h0.size ≤ y8), gb8, hx8⟩
  · skip
    have hx0 : 2 ≤ rest.length := own_roomle (N := N) (l := (4 : Int32)) (n := (2 : Int32)) (L := 4) (m := 2) rfl rfl (by decide) hN0 hN hl hc11_3
    refine own_icmpYes (n := 41) X2 hx (hb hby d7_11) (flt hc11_3).2.2.2 (by decide) (by decide) ?_
    refine own_retV X2 hx hlk hret e2 (hb hby d7_41) (by decide) (by decide) ?_
    exact ⟨b, kb, N, rest, rfl, N0, (Keep.refl h0 [a]), E0, FB, FL, FA, VB, EB, hl, hN, (Or.inl rfl : b = b ∨ h0.size ≤ b), g_b, hx0⟩
theorem own_ef12_own_rm_wa_4_2 (m : MethodId) (y0 : Addr) (y1 : Addr) : entryFrame m #[(.ref y0), (.ref y1)] 2 = mkF m 0 #[.val (.ref y0), .val (.ref y1)] [] := by first | (simp [entryFrame, mkF, argsToLocals, Value.category]; done) | rfl
set_option maxRecDepth 65536 in
set_option maxHeartbeats 40000000 in
theorem own_rm_wa_4_2 (l : Launch) (Z : State) (a0 : Array Value) (hw : ∀ d ∈ tables_1, d.before a0 Z = true) (a b : Addr) (kb : ClassId) (N : Int32) (rest : List Value) (ae : Int32) (c0 c1 c2 c3 : Int32) (sa : Addr) (ks : ClassId) (d0 d1 : Int32) (h0 : Heap) (n0 : Nat) (Z0 : n0 ≤ h0.size) (E0 : Exa Z h0 a "com/example/doseline/doseline/fhir/JsonWriter") (FB : Fld Z h0 a "com/example/doseline/doseline/fhir/JsonWriter" "bytes" "[B" (.ref b)) (FL : Fld Z h0 a "com/example/doseline/doseline/fhir/JsonWriter" "length" "I" (.int (4 : Int32))) (FA : Fld Z h0 a "com/example/doseline/doseline/fhir/JsonWriter" "afterElement" "Z" (.int ae)) (VB : Arv Z h0 b kb .byte N ((.int c0) :: (.int c1) :: (.int c2) :: (.int c3) :: rest) (.int (0 : Int32))) (EB : Exa Z h0 b "[B") (hl : rest.length + 4 = N.toNatClampNeg) (hN : N.toInt ≤ 15) (g_a : n0 ≤ a) (g_b : n0 ≤ b) (VS : Arv Z h0 sa ks .byte (2 : Int32) [(.int d0), (.int d1)] (.int (0 : Int32))) (hsb : sa ≠ b) :
    own_Met l Z (⟨"com/example/doseline/doseline/fhir/JsonWriter", "write", "([B)V"⟩ : MethodName) prog_96_method_27_code 2 none [] ({ frames := 3, cells := 1, slots := 15, locals := 68 } : Room) #[(.ref a), (.ref sa)] h0 (fun v h L => ∃ (b' : Addr) (k' : ClassId) (N' : Int32) (r' : List Value), v = none ∧ Fr n0 L ∧ Keep h0 h [a, b] ∧ Exa Z h a "com/example/doseline/doseline/fhir/JsonWriter" ∧ Fld Z h a "com/example/doseline/doseline/fhir/JsonWriter" "bytes" "[B" (.ref b') ∧ Fld Z h a "com/example/doseline/doseline/fhir/JsonWriter" "length" "I" (.int (6 : Int32)) ∧ Fld Z h a "com/example/doseline/doseline/fhir/JsonWriter" "afterElement" "Z" (.int ae) ∧ Arv Z h b' k' .byte N' ((.int c0) :: (.int c1) :: (.int c2) :: (.int c3) :: (.int d0) :: (.int d1) :: r') (.int (0 : Int32)) ∧ Exa Z h b' "[B" ∧ r'.length + 6 = N'.toNatClampNeg ∧ N'.toInt ≤ 15 ∧ (b' = b ∨ h0.size ≤ b') ∧ n0 ≤ b') := by
  refine own_met own_pn12 ?_
  intro p e s m below meth c s₁ hx hby hml hown hnm hret hlk hZ X0 hE0
  have N0 := Fr.nil n0
  refine own_cast (own_ef12_own_rm_wa_4_2 m a sa) ?_
  have hN0 := own_arvn VB
  refine own_aloadN (n := 1) X0 hx (hb hby d12_0) rfl rfl rfl ?_
  refine own_aloadN (n := 2) X0 hx (hb hby d12_1) rfl rfl rfl ?_
  refine own_len (n := 3) X0 hx hZ hE0 VS (hb hby d12_2) rfl ?_
  refine own_P (n := 6) (argsL := [(.int (2 : Int32))]) (rest := []) (a := a) X0 hx hZ hown (own_rm_room_4_2 l Z a0 hw a b kb N rest ae c0 c1 c2 c3 h0 n0 Z0 E0 FB FL FA VB EB hl hN g_a g_b) (ww31 hw) (ww32 hw) (by rfl) (ww15 hw) (ww33 hw) (ww3 hw) (ww34 hw) (by decide) hE0 E0 (by rw [hml]; rfl) (lenOf own_pd0 rfl) rfl (hb hby d12_3) (Nat.le_of_ble_eq_true rfl) (Nat.le_of_ble_eq_true rfl) (Nat.le_of_ble_eq_true rfl) (Nat.le_of_ble_eq_true rfl) rfl ?_
  rintro v1 T1 L1 X1 ⟨y1, k1, M1, r1, rfl, Nq1, K1, Eq1, Fb1, Fl1, Fa1, Vb1, Ec1, hl1, hN1, hq1, gb1, hx1⟩
  have N1 := Fr.app N0 Nq1
  have E_2 := E0.keep K1
  have A_3 := VB.keep K1 (by simp [(Ne.symm (own_neEA E0 (ww2 hw) VB))])
  have E_4 := EB.keep K1
  have A_5 := VS.keep K1 (by simp [(Ne.symm (own_neEA E0 (ww2 hw) VS))])
  have K_6 := (Keep.refl h0 [a, b]).trans K1 (fun x hx => by cases List.mem_singleton.mp hx; exact (Or.inl (by first | exact List.mem_cons_self | exact List.mem_cons_of_mem _ List.mem_cons_self | exact List.mem_cons_of_mem _ (List.mem_cons_of_mem _ List.mem_cons_self) | (simp; done))))
  have Z_7 : n0 ≤ T1.heap.size := Nat.le_trans Z0 K1.1
  have nw_sa_1 : sa ≠ y1 := own_neOr hq1 hsb VS.lt
  have hb1 : y1 = b ∨ h0.size ≤ y1 := own_orTr (Or.inl rfl : b = b ∨ h0.size ≤ b) hq1 (Keep.refl h0 [a, b]).1
  obtain ⟨x1_0, x1_1, t1, rfl⟩ := own_ex2 hx1
  change own_G p e below _ _ (mkF m 6 _ [])
  refine own_aloadN (n := 7) X1 hx (hb hby d12_6) rfl rfl rfl ?_
  refine own_iconst (n := 8) (z := (0 : Int32)) X1 hx (hb hby d12_7) rfl rfl ?_
  refine own_aloadN (n := 9) X1 hx (hb hby d12_8) rfl rfl rfl ?_
  refine own_getF (n := 12) X1 hx hZ hown (host := "") (Or.inl (ww10 hw)) Via.refl rfl Fb1 (hb hby d12_9) rfl ?_
  intro T8 X8 e8
  refine own_aloadN (n := 13) X8 hx (hb hby d12_12) rfl rfl rfl ?_
  refine own_getF (n := 16) X8 hx hZ hown (host := "") (Or.inl (ww35 hw)) Via.refl e8 Fl1 (hb hby d12_13) rfl ?_
  intro T9 X9 e9
  refine own_aloadN (n := 17) X9 hx (hb hby d12_16) rfl rfl rfl ?_
  refine own_len (n := 18) X9 hx hZ e9 A_5 (hb hby d12_17) rfl ?_
  obtain ⟨T10, h10, L10, X10, e10, N10, K10, V10q, st10⟩ := cpA X9 hx hZ hown (ww61 hw) (ww51 hw) (ww49 hw) (ww50 hw) e9 A_5 Vb1 (Or.inl ⟨rfl, rfl⟩) (by decide) (by decide) (by decide) (by decide) (by show 4 + 2 ≤ _; have q := hl1; (try simp only [List.length_cons] at q); omega) (us := [(.int d0), (.int d1)]) rfl (by show 4 + 2 ≤ _; (try simp only [List.length_cons]); omega) N1 gb1 (g := (mkF m 18 #[.val (.ref a), .val (.ref sa)] [(.int (2 : Int32)), (.int (4 : Int32)), (.ref y1), (.int (0 : Int32)), (.ref sa)])) rfl (by rw [hml]; rfl) rfl (hb hby d12_18) (by decide) (W := 0) (by show 2 * 0 + _ ≤ _; exact Nat.le_of_eq rfl) (by decide)
  have V10 : Arv Z h10 y1 k1 .byte M1 ((.int c0) :: (.int c1) :: (.int c2) :: (.int c3) :: (.int d0) :: (.int d1) :: t1) (.int (0 : Int32)) := V10q
  have E_11 := E_2.keep K10
  have A_12 := A_5.keep K10 (by simp [nw_sa_1])
  have K_13 := K_6.trans K10 (fun x hx => by cases List.mem_singleton.mp hx; exact (hb1.elim (fun q => Or.inl (by simp [q])) Or.inr))
  have F_14 := Fb1.keep K10 (by simp [(own_neEA E_2 (ww2 hw) Vb1)])
  have F_15 := Fl1.keep K10 (by simp [(own_neEA E_2 (ww2 hw) Vb1)])
  have F_16 := Fa1.keep K10 (by simp [(own_neEA E_2 (ww2 hw) Vb1)])
  have E_17 := Ec1.keep K10
  have Z_18 : n0 ≤ h10.size := Nat.le_trans Z_7 K10.1
  refine own_go (T' := T10) (f' := (mkF m 21 #[.val (.ref a), .val (.ref sa)] [])) st10 ?_
  refine own_aloadN (n := 22) X10 hx (hb hby d12_21) rfl rfl rfl ?_
  refine own_dup (n := 23) X10 hx (hb hby d12_22) rfl rfl ?_
  refine own_getF (n := 26) X10 hx hZ hown (host := "") (Or.inl (ww35 hw)) Via.refl e10 F_15 (hb hby d12_23) rfl ?_
  intro T19 X19 e19
  refine own_aloadN (n := 27) X19 hx (hb hby d12_26) rfl rfl rfl ?_
  refine own_len (n := 28) X19 hx hZ e19 A_12 (hb hby d12_27) rfl ?_
  refine own_iadd (n := 29) (z := (6 : Int32)) X19 hx (hb hby d12_28) rfl rfl ?_
  refine own_putF (n := 32) X19 hx hZ hown (host := "") (Or.inl (ww35 hw)) Via.refl e19 F_15 E_11 (Or.inl (ww36 hw)) (ww2 hw) (ty := .int) (by decide) rfl rfl (hb hby d12_29) rfl ?_
  intro T20 h20 X20 e20 W20
  have F_21 := F_15.same W20
  have N20 := Fr.snoc X20 N10 g_a
  have E_22 := E_11.wr W20
  have A_23 := A_12.other W20 (Ne.symm (own_neEA E_11 (ww2 hw) A_12))
  have K_24 := K_13.wr W20 (Or.inl (by first | exact List.mem_cons_self | exact List.mem_cons_of_mem _ List.mem_cons_self | exact List.mem_cons_of_mem _ (List.mem_cons_of_mem _ List.mem_cons_self) | (simp; done)))
  have F_25 := F_14.other W20 (Or.inr (slot_ne (Or.inl (ww11 hw)) (Or.inl (ww36 hw)) (by decide) (t := (.array .byte)) (t' := .int) (by decide) (by decide)))
  have F_26 := F_16.other W20 (Or.inr (slot_ne (Or.inl (ww26 hw)) (Or.inl (ww36 hw)) (by decide) (t := .boolean) (t' := .int) (by decide) (by decide)))
  have E_27 := E_17.wr W20
  have A_28 := V10.other W20 (Ne.symm (own_neEA E_11 (ww2 hw) V10))
  have Z_29 : n0 ≤ h20.size := by rw [W20.size]; exact Z_18
  have hl_30 : t1.length + 6 = M1.toNatClampNeg := by have q := hl1; (try simp only [List.length_cons] at q); omega
  refine own_retV X20 hx hlk hret e20 (hb hby d12_32) (by decide) (by decide) ?_
  exact ⟨y1, k1, M1, t1, rfl, N20, K_24, E_22, F_25, F_21, F_26, A_28, E_27, hl_30, hN1, hb1, gb1⟩
theorem own_ef11_own_rm_val_3_1_2 (m : MethodId) (y0 : Addr) (y1 : Addr) : entryFrame m #[(.ref y0), (.ref y1)] 2 = mkF m 0 #[.val (.ref y0), .val (.ref y1)] [] := by first | (simp [entryFrame, mkF, argsToLocals, Value.category]; done) | rfl
set_option maxRecDepth 65536 in
set_option maxHeartbeats 40000000 in
theorem own_rm_val_3_1_2 (l : Launch) (Z : State) (a0 : Array Value) (hw : ∀ d ∈ tables_1, d.before a0 Z = true) (a b : Addr) (kb : ClassId) (N : Int32) (rest : List Value) (c0 c1 c2 : Int32) (sa : Addr) (ks : ClassId) (d0 d1 : Int32) (h0 : Heap) (n0 : Nat) (Z0 : n0 ≤ h0.size) (E0 : Exa Z h0 a "com/example/doseline/doseline/fhir/JsonWriter") (FB : Fld Z h0 a "com/example/doseline/doseline/fhir/JsonWriter" "bytes" "[B" (.ref b)) (FL : Fld Z h0 a "com/example/doseline/doseline/fhir/JsonWriter" "length" "I" (.int (3 : Int32))) (FA : Fld Z h0 a "com/example/doseline/doseline/fhir/JsonWriter" "afterElement" "Z" (.int (1 : Int32))) (VB : Arv Z h0 b kb .byte N ((.int c0) :: (.int c1) :: (.int c2) :: rest) (.int (0 : Int32))) (EB : Exa Z h0 b "[B") (hl : rest.length + 3 = N.toNatClampNeg) (hN : N.toInt ≤ 15) (g_a : n0 ≤ a) (g_b : n0 ≤ b) (VS : Arv Z h0 sa ks .byte (2 : Int32) [(.int d0), (.int d1)] (.int (0 : Int32))) (hsb : sa ≠ b) :
    own_Met l Z (⟨"com/example/doseline/doseline/fhir/JsonWriter", "value", "([B)V"⟩ : MethodName) prog_96_method_12_code 2 none [] ({ frames := 5, cells := 2, slots := 30, locals := 93 } : Room) #[(.ref a), (.ref sa)] h0 (fun v h L => ∃ (b' : Addr) (k' : ClassId) (N' : Int32) (r' : List Value), v = none ∧ Fr n0 L ∧ Keep h0 h [a, b] ∧ Exa Z h a "com/example/doseline/doseline/fhir/JsonWriter" ∧ Fld Z h a "com/example/doseline/doseline/fhir/JsonWriter" "bytes" "[B" (.ref b') ∧ Fld Z h a "com/example/doseline/doseline/fhir/JsonWriter" "length" "I" (.int (6 : Int32)) ∧ Fld Z h a "com/example/doseline/doseline/fhir/JsonWriter" "afterElement" "Z" (.int (1 : Int32)) ∧ Arv Z h b' k' .byte N' ((.int c0) :: (.int c1) :: (.int c2) :: (.int (44 : Int32)) :: (.int d0) :: (.int d1) :: r') (.int (0 : Int32)) ∧ Exa Z h b' "[B" ∧ r'.length + 6 = N'.toNatClampNeg ∧ N'.toInt ≤ 15 ∧ (b' = b ∨ h0.size ≤ b') ∧ n0 ≤ b') := by
  refine own_met own_pn11 ?_
  intro p e s m below meth c s₁ hx hby hml hown hnm hret hlk hZ X0 hE0
  have N0 := Fr.nil n0
  refine own_cast (own_ef11_own_rm_val_3_1_2 m a sa) ?_
  have hN0 := own_arvn VB
  refine own_aloadN (n := 1) X0 hx (hb hby d11_0) rfl rfl rfl ?_
  refine own_P (n := 4) (argsL := []) (rest := []) (a := a) X0 hx hZ hown (own_rm_sep1_3 l Z a0 hw a b kb N rest c0 c1 c2 h0 n0 Z0 E0 FB FL FA VB EB hl hN g_a g_b) (ww21 hw) (ww22 hw) (by rfl) (ww15 hw) (ww23 hw) (ww3 hw) (ww24 hw) (by decide) hE0 E0 (by rw [hml]; rfl) (lenOf own_pd1 rfl) rfl (hb hby d11_1) (Nat.le_of_ble_eq_true rfl) (Nat.le_of_ble_eq_true rfl) (Nat.le_of_ble_eq_true rfl) (Nat.le_of_ble_eq_true rfl) rfl ?_
  rintro v1 T1 L1 X1 ⟨y1, k1, M1, r1, rfl, Nq1, K1, Eq1, Fb1, Fl1, Fa1, Vb1, Ec1, hl1, hN1, hq1, gb1⟩
  have N1 := Fr.app N0 Nq1
  have E_2 := E0.keep K1
  have E_3 := EB.keep K1
  have A_4 := VS.keep K1 (by simp [(Ne.symm (own_neEA E0 (ww2 hw) VS)), hsb])
  have K_5 := (Keep.refl h0 [a, b]).trans K1 (fun x hx => by simp only [List.mem_cons, List.not_mem_nil, or_false] at hx; rcases hx with rfl | rfl <;> first | exact (Or.inl (by first | exact List.mem_cons_self | exact List.mem_cons_of_mem _ List.mem_cons_self | exact List.mem_cons_of_mem _ (List.mem_cons_of_mem _ List.mem_cons_self) | (simp; done))))
  have Z_6 : n0 ≤ T1.heap.size := Nat.le_trans Z0 K1.1
  have nw_sa_1 : sa ≠ y1 := own_neOr hq1 hsb VS.lt
  have hb1 : y1 = b ∨ h0.size ≤ y1 := own_orTr (Or.inl rfl : b = b ∨ h0.size ≤ b) hq1 (Keep.refl h0 [a, b]).1
  change own_G p e below _ _ (mkF m 4 _ [])
  refine own_aloadN (n := 5) X1 hx (hb hby d11_4) rfl rfl rfl ?_
  refine own_aloadN (n := 6) X1 hx (hb hby d11_5) rfl rfl rfl ?_
  refine own_P (n := 9) (argsL := [(.ref sa)]) (rest := []) (a := a) X1 hx hZ hown (own_rm_wa_4_2 l Z a0 hw a y1 k1 M1 r1 (1 : Int32) c0 c1 c2 (44 : Int32) sa ks d0 d1 T1.heap n0 Z_6 E_2 Fb1 Fl1 Fa1 Vb1 Ec1 hl1 hN1 g_a gb1 A_4 (nw_sa_1)) (ww57 hw) (ww58 hw) (by rfl) (ww15 hw) (ww59 hw) (ww3 hw) (ww60 hw) (by decide) rfl E_2 (by rw [hml]; rfl) (lenOf own_pd4 rfl) rfl (hb hby d11_6) (Nat.le_of_ble_eq_true rfl) (Nat.le_of_ble_eq_true rfl) (Nat.le_of_ble_eq_true rfl) (Nat.le_of_ble_eq_true rfl) rfl ?_
  rintro v7 T7 L7 X7 ⟨y7, k7, M7, r7, rfl, Nq7, K7, Eq7, Fb7, Fl7, Fa7, Vb7, Ec7, hl7, hN7, hq7, gb7⟩
  have N7 := Fr.app N1 Nq7
  have E_8 := E_2.keep K7
  have A_9 := A_4.keep K7 (by simp [(Ne.symm (own_neEA E_2 (ww2 hw) A_4)), nw_sa_1])
  have K_10 := K_5.trans K7 (fun x hx => by simp only [List.mem_cons, List.not_mem_nil, or_false] at hx; rcases hx with rfl | rfl <;> first | exact (hb1.elim (fun q => Or.inl (by simp [q])) Or.inr) | exact (Or.inl (by first | exact List.mem_cons_self | exact List.mem_cons_of_mem _ List.mem_cons_self | exact List.mem_cons_of_mem _ (List.mem_cons_of_mem _ List.mem_cons_self) | (simp; done))))
  have E_11 := Ec1.keep K7
  have Z_12 : n0 ≤ T7.heap.size := Nat.le_trans Z_6 K7.1
  have nw_sa_7 : sa ≠ y7 := own_neOr hq7 nw_sa_1 A_4.lt
  have hb7 : y7 = b ∨ h0.size ≤ y7 := own_orTr hb1 hq7 K_5.1
  change own_G p e below _ _ (mkF m 9 _ [])
  refine own_aloadN (n := 10) X7 hx (hb hby d11_9) rfl rfl rfl ?_
  refine own_iconst (n := 11) (z := (1 : Int32)) X7 hx (hb hby d11_10) rfl rfl ?_
  refine own_putFN (n := 14) X7 hx hZ hown (ww25 hw) Via.refl rfl Fa7 E_8 (Or.inl (ww26 hw)) (ww2 hw) (ty := .boolean) (v' := (.int (1 : Int32))) (by decide) rfl (by decide) (hb hby d11_11) rfl ?_
  intro T13 h13 X13 e13 W13
  have F_14 := Fa7.same W13
  have N13 := Fr.snoc X13 N7 g_a
  have E_15 := E_8.wr W13
  have A_16 := A_9.other W13 (Ne.symm (own_neEA E_8 (ww2 hw) A_9))
  have K_17 := K_10.wr W13 (Or.inl (by first | exact List.mem_cons_self | exact List.mem_cons_of_mem _ List.mem_cons_self | exact List.mem_cons_of_mem _ (List.mem_cons_of_mem _ List.mem_cons_self) | (simp; done)))
  have F_18 := Fb7.other W13 (Or.inr (slot_ne (Or.inl (ww11 hw)) (Or.inl (ww26 hw)) (by decide) (t := (.array .byte)) (t' := .boolean) (by decide) (by decide)))
  have F_19 := Fl7.other W13 (Or.inr (slot_ne (Or.inl (ww36 hw)) (Or.inl (ww26 hw)) (by decide) (t := .int) (t' := .boolean) (by decide) (by decide)))
  have A_20 := Vb7.other W13 (Ne.symm (own_neEA E_8 (ww2 hw) Vb7))
  have E_21 := Ec7.wr W13
  have Z_22 : n0 ≤ h13.size := by rw [W13.size]; exact Z_12
  refine own_retV X13 hx hlk hret e13 (hb hby d11_14) (by decide) (by decide) ?_
  exact ⟨y7, k7, M7, r7, rfl, N13, K_17, E_15, F_18, F_19, F_14, A_20, E_21, hl7, hN7, hb7, gb7⟩
theorem own_ef15_own_rm_tba_6 (m : MethodId) (y0 : Addr) : entryFrame m #[(.ref y0)] 1 = mkF m 0 #[.val (.ref y0)] [] := by first | (simp [entryFrame, mkF, argsToLocals, Value.category]; done) | rfl
set_option maxRecDepth 65536 in
set_option maxHeartbeats 40000000 in
theorem own_rm_tba_6 (l : Launch) (Z : State) (a0 : Array Value) (hw : ∀ d ∈ tables_1, d.before a0 Z = true) (a b : Addr) (kb : ClassId) (N : Int32) (rest : List Value) (ae : Int32) (c0 c1 c2 c3 c4 c5 : Int32) (h0 : Heap) (n0 : Nat) (Z0 : n0 ≤ h0.size) (E0 : Exa Z h0 a "com/example/doseline/doseline/fhir/JsonWriter") (FB : Fld Z h0 a "com/example/doseline/doseline/fhir/JsonWriter" "bytes" "[B" (.ref b)) (FL : Fld Z h0 a "com/example/doseline/doseline/fhir/JsonWriter" "length" "I" (.int (6 : Int32))) (FA : Fld Z h0 a "com/example/doseline/doseline/fhir/JsonWriter" "afterElement" "Z" (.int ae)) (VB : Arv Z h0 b kb .byte N ((.int c0) :: (.int c1) :: (.int c2) :: (.int c3) :: (.int c4) :: (.int c5) :: rest) (.int (0 : Int32))) (EB : Exa Z h0 b "[B") (hl : rest.length + 6 = N.toNatClampNeg) (hN : N.toInt ≤ 15) (g_a : n0 ≤ a) (g_b : n0 ≤ b) :
    own_Met l Z (⟨"com/example/doseline/doseline/fhir/JsonWriter", "toByteArray", "()[B"⟩ : MethodName) prog_96_method_20_code 1 (some (.array .byte)) [] ({ frames := 2, cells := 1, slots := 8, locals := 54 } : Room) #[(.ref a)] h0 (fun v h L => ∃ (r : Addr) (k' : ClassId), v = some (.ref r) ∧ Fr n0 L ∧ Keep h0 h [] ∧ h0.size ≤ r ∧ n0 ≤ r ∧ Arv Z h r k' .byte (6 : Int32) [(.int c0), (.int c1), (.int c2), (.int c3), (.int c4), (.int c5)] (.int (0 : Int32))) := by
  refine own_met own_pn15 ?_
  intro p e s m below meth c s₁ hx hby hml hown hnm hret hlk hZ X0 hE0
  have N0 := Fr.nil n0
  refine own_cast (own_ef15_own_rm_tba_6 m a) ?_
  have hN0 := own_arvn VB
  refine own_aloadN (n := 1) X0 hx (hb hby d15_0) rfl rfl rfl ?_
  refine own_getF (n := 4) X0 hx hZ hown (host := "") (Or.inl (ww10 hw)) Via.refl hE0 FB (hb hby d15_1) rfl ?_
  intro T1 X1 e1
  refine own_aloadN (n := 5) X1 hx (hb hby d15_4) rfl rfl rfl ?_
  refine own_getF (n := 8) X1 hx hZ hown (host := "") (Or.inl (ww35 hw)) Via.refl e1 FL (hb hby d15_5) rfl ?_
  intro T2 X2 e2
  refine own_S (n := 11) (argsL := [(.ref b), (.int (6 : Int32))]) (rest := []) X2 hx hZ hown (own_rm_copy8 l Z a0 hw b kb N (6 : Int32) ((.int c0) :: (.int c1) :: (.int c2) :: (.int c3) :: (.int c4) :: (.int c5) :: rest) h0 n0 Z0 VB (by (try simp only [List.length_cons]); omega) EB (by decide) (by decide)) (ww41 hw) (ww42 hw) (ww43 hw) (ww44 hw) (by decide) e2 (by rw [hml]; rfl) (lenOf own_pd3 rfl) rfl (hb hby d15_8) (Nat.le_of_ble_eq_true rfl) (Nat.le_of_ble_eq_true rfl) (Nat.le_of_ble_eq_true rfl) (Nat.le_of_ble_eq_true rfl) rfl ?_
  rintro v3 T3 L3 X3 ⟨y3, k3, rfl, Nq3, K3, sz3, gb3, Vb3, Ec3⟩
  have N3 := Fr.app N0 Nq3
  have E_4 := E0.keep K3
  have F_5 := FB.keep K3 (by simp)
  have F_6 := FL.keep K3 (by simp)
  have F_7 := FA.keep K3 (by simp)
  have A_8 := VB.keep K3 (by simp)
  have E_9 := EB.keep K3
  have K_10 := (Keep.refl h0 []).trans K3 (fun x hx => nomatch hx)
  have Z_11 : n0 ≤ T3.heap.size := Nat.le_trans Z0 K3.1
  have Vc3 : Arv Z T3.heap y3 k3 .byte (6 : Int32) [(.int c0), (.int c1), (.int c2), (.int c3), (.int c4), (.int c5)] (.int (0 : Int32)) := by have q := Vb3; rw [show (6 : Int32).toNatClampNeg - N.toNatClampNeg = 0 by show 6 - N.toNatClampNeg = 0; omega] at q; exact q
  change own_G p e below _ _ (mkF m 11 _ [(.ref y3)])
  refine own_retA X3 hx hlk hret rfl rfl rfl rfl (hb hby d15_11) (by decide) (by decide) ?_
  exact ⟨y3, k3, rfl, N3, K_10, sz3, gb3, Vc3⟩
theorem own_ef17_own_rm_at_0_6 (m : MethodId) (y0 : Addr) (y1 : Addr) (y2 : Int32) (y3 : Int32) : entryFrame m #[(.ref y0), (.ref y1), (.int y2), (.int y3)] 4 = mkF m 0 #[.val (.ref y0), .val (.ref y1), .val (.int y2), .val (.int y3)] [] := by first | (simp [entryFrame, mkF, argsToLocals, Value.category]; done) | rfl
set_option maxRecDepth 65536 in
set_option maxHeartbeats 40000000 in
theorem own_rm_at_0_6 (l : Launch) (Z : State) (a0 : Array Value) (hw : ∀ d ∈ tables_1, d.before a0 Z = true) (a b : Addr) (kr kx : ClassId) (c0 c1 c2 c3 c4 c5 e6 e7 : Int32) (h0 : Heap) (n0 : Nat) (Z0 : n0 ≤ h0.size) (V0 : Arv Z h0 a kr .byte (6 : Int32) [(.int c0), (.int c1), (.int c2), (.int c3), (.int c4), (.int c5)] (.int (0 : Int32))) (V1 : Arv Z h0 b kx .byte (8 : Int32) [(.int c0), (.int c1), (.int c2), (.int c3), (.int c4), (.int c5), (.int e6), (.int e7)] (.int (0 : Int32))) :
    own_Met l Z (⟨"com/example/doseline/doseline/fhir/JsonWriterToByteArrayPinLaw", "at", "([B[BII)Z"⟩ : MethodName) method_2_code 4 (some .boolean) [] ({ frames := 0, cells := 0, slots := 0, locals := 0 } : Room) #[(.ref a), (.ref b), (.int (0 : Int32)), (.int (6 : Int32))] h0 (fun v h L => v = some (.int (1 : Int32)) ∧ Fr n0 L ∧ h = h0) := by
  refine own_met own_pn17 ?_
  intro p e s m below meth c s₁ hx hby hml hown hnm hret hlk hZ X0 hE0
  have N0 := Fr.nil n0
  refine own_cast (own_ef17_own_rm_at_0_6 m a b (0 : Int32) (6 : Int32)) ?_
  refine own_iloadN (n := 1) X0 hx (hb hby d17_0) rfl rfl ?_
  refine own_iloadN (n := 2) X0 hx (hb hby d17_1) rfl rfl ?_
  refine own_icmpNo (n := 5) X0 hx (hb hby d17_2) (tlt (by decide : (0 : Int32) < (6 : Int32))).2.1 rfl ?_
  refine own_aloadN (n := 6) X0 hx (hb hby d17_5) rfl rfl rfl ?_
  refine own_iloadN (n := 7) X0 hx (hb hby d17_6) rfl rfl ?_
  refine own_ld_baload (n := 8) (v := (.int c0)) X0 hx hZ hE0 V0 ⟨by decide, by decide⟩ rfl (hb hby d17_7) rfl ?_
  refine own_aloadN (n := 9) X0 hx (hb hby d17_8) rfl rfl rfl ?_
  refine own_iloadN (n := 10) X0 hx (hb hby d17_9) rfl rfl ?_
  refine own_ld_baload (n := 11) (v := (.int c0)) X0 hx hZ hE0 V1 ⟨by decide, by decide⟩ rfl (hb hby d17_10) rfl ?_
  refine own_icmpNo (n := 14) X0 hx (hb hby d17_11) (teq (rfl : c0 = c0)).2 rfl ?_
  refine own_iconst (n := 15) (z := (1 : Int32)) X0 hx (hb hby d17_14) rfl rfl ?_
  refine own_goto (n := 19) X0 hx (hb hby d17_15) (by decide) (by decide) ?_
  refine own_retZ X0 hx hlk hret (by simp) hE0 (w := (1 : Int32)) rfl (hb hby d17_19) (by decide) (by decide) ?_
  exact ⟨rfl, N0, rfl⟩
theorem own_ef17_own_rm_at_1_6 (m : MethodId) (y0 : Addr) (y1 : Addr) (y2 : Int32) (y3 : Int32) : entryFrame m #[(.ref y0), (.ref y1), (.int y2), (.int y3)] 4 = mkF m 0 #[.val (.ref y0), .val (.ref y1), .val (.int y2), .val (.int y3)] [] := by first | (simp [entryFrame, mkF, argsToLocals, Value.category]; done) | rfl
set_option maxRecDepth 65536 in
set_option maxHeartbeats 40000000 in
theorem own_rm_at_1_6 (l : Launch) (Z : State) (a0 : Array Value) (hw : ∀ d ∈ tables_1, d.before a0 Z = true) (a b : Addr) (kr kx : ClassId) (c0 c1 c2 c3 c4 c5 e6 e7 : Int32) (h0 : Heap) (n0 : Nat) (Z0 : n0 ≤ h0.size) (V0 : Arv Z h0 a kr .byte (6 : Int32) [(.int c0), (.int c1), (.int c2), (.int c3), (.int c4), (.int c5)] (.int (0 : Int32))) (V1 : Arv Z h0 b kx .byte (8 : Int32) [(.int c0), (.int c1), (.int c2), (.int c3), (.int c4), (.int c5), (.int e6), (.int e7)] (.int (0 : Int32))) :
    own_Met l Z (⟨"com/example/doseline/doseline/fhir/JsonWriterToByteArrayPinLaw", "at", "([B[BII)Z"⟩ : MethodName) method_2_code 4 (some .boolean) [] ({ frames := 0, cells := 0, slots := 0, locals := 0 } : Room) #[(.ref a), (.ref b), (.int (1 : Int32)), (.int (6 : Int32))] h0 (fun v h L => v = some (.int (1 : Int32)) ∧ Fr n0 L ∧ h = h0) := by
  refine own_met own_pn17 ?_
  intro p e s m below meth c s₁ hx hby hml hown hnm hret hlk hZ X0 hE0
  have N0 := Fr.nil n0
  refine own_cast (own_ef17_own_rm_at_1_6 m a b (1 : Int32) (6 : Int32)) ?_
  refine own_iloadN (n := 1) X0 hx (hb hby d17_0) rfl rfl ?_
  refine own_iloadN (n := 2) X0 hx (hb hby d17_1) rfl rfl ?_
  refine own_icmpNo (n := 5) X0 hx (hb hby d17_2) (tlt (by decide : (1 : Int32) < (6 : Int32))).2.1 rfl ?_
  refine own_aloadN (n := 6) X0 hx (hb hby d17_5) rfl rfl rfl ?_
  refine own_iloadN (n := 7) X0 hx (hb hby d17_6) rfl rfl ?_
  refine own_ld_baload (n := 8) (v := (.int c1)) X0 hx hZ hE0 V0 ⟨by decide, by decide⟩ rfl (hb hby d17_7) rfl ?_
  refine own_aloadN (n := 9) X0 hx (hb hby d17_8) rfl rfl rfl ?_
  refine own_iloadN (n := 10) X0 hx (hb hby d17_9) rfl rfl ?_
  refine own_ld_baload (n := 11) (v := (.int c1)) X0 hx hZ hE0 V1 ⟨by decide, by decide⟩ rfl (hb hby d17_10) rfl ?_
  refine own_icmpNo (n := 14) X0 hx (hb hby d17_11) (teq (rfl : c1 = c1)).2 rfl ?_
  refine own_iconst (n := 15) (z := (1 : Int32)) X0 hx (hb hby d17_14) rfl rfl ?_
  refine own_goto (n := 19) X0 hx (hb hby d17_15) (by decide) (by decide) ?_
  refine own_retZ X0 hx hlk hret (by simp) hE0 (w := (1 : Int32)) rfl (hb hby d17_19) (by decide) (by decide) ?_
  exact ⟨rfl, N0, rfl⟩
theorem own_ef17_own_rm_at_2_6 (m : MethodId) (y0 : Addr) (y1 : Addr) (y2 : Int32) (y3 : Int32) : entryFrame m #[(.ref y0), (.ref y1), (.int y2), (.int y3)] 4 = mkF m 0 #[.val (.ref y0), .val (.ref y1), .val (.int y2), .val (.int y3)] [] := by first | (simp [entryFrame, mkF, argsToLocals, Value.category]; done) | rfl
set_option maxRecDepth 65536 in
set_option maxHeartbeats 40000000 in
theorem own_rm_at_2_6 (l : Launch) (Z : State) (a0 : Array Value) (hw : ∀ d ∈ tables_1, d.before a0 Z = true) (a b : Addr) (kr kx : ClassId) (c0 c1 c2 c3 c4 c5 e6 e7 : Int32) (h0 : Heap) (n0 : Nat) (Z0 : n0 ≤ h0.size) (V0 : Arv Z h0 a kr .byte (6 : Int32) [(.int c0), (.int c1), (.int c2), (.int c3), (.int c4), (.int c5)] (.int (0 : Int32))) (V1 : Arv Z h0 b kx .byte (8 : Int32) [(.int c0), (.int c1), (.int c2), (.int c3), (.int c4), (.int c5), (.int e6), (.int e7)] (.int (0 : Int32))) :
    own_Met l Z (⟨"com/example/doseline/doseline/fhir/JsonWriterToByteArrayPinLaw", "at", "([B[BII)Z"⟩ : MethodName) method_2_code 4 (some .boolean) [] ({ frames := 0, cells := 0, slots := 0, locals := 0 } : Room) #[(.ref a), (.ref b), (.int (2 : Int32)), (.int (6 : Int32))] h0 (fun v h L => v = some (.int (1 : Int32)) ∧ Fr n0 L ∧ h = h0) := by
  refine own_met own_pn17 ?_
  intro p e s m below meth c s₁ hx hby hml hown hnm hret hlk hZ X0 hE0
  have N0 := Fr.nil n0
  refine own_cast (own_ef17_own_rm_at_2_6 m a b (2 : Int32) (6 : Int32)) ?_
  refine own_iloadN (n := 1) X0 hx (hb hby d17_0) rfl rfl ?_
  refine own_iloadN (n := 2) X0 hx (hb hby d17_1) rfl rfl ?_
  refine own_icmpNo (n := 5) X0 hx (hb hby d17_2) (tlt (by decide : (2 : Int32) < (6 : Int32))).2.1 rfl ?_
  refine own_aloadN (n := 6) X0 hx (hb hby d17_5) rfl rfl rfl ?_
  refine own_iloadN (n := 7) X0 hx (hb hby d17_6) rfl rfl ?_
  refine own_ld_baload (n := 8) (v := (.int c2)) X0 hx hZ hE0 V0 ⟨by decide, by decide⟩ rfl (hb hby d17_7) rfl ?_
  refine own_aloadN (n := 9) X0 hx (hb hby d17_8) rfl rfl rfl ?_
  refine own_iloadN (n := 10) X0 hx (hb hby d17_9) rfl rfl ?_
  refine own_ld_baload (n := 11) (v := (.int c2)) X0 hx hZ hE0 V1 ⟨by decide, by decide⟩ rfl (hb hby d17_10) rfl ?_
  refine own_icmpNo (n := 14) X0 hx (hb hby d17_11) (teq (rfl : c2 = c2)).2 rfl ?_
  refine own_iconst (n := 15) (z := (1 : Int32)) X0 hx (hb hby d17_14) rfl rfl ?_
  refine own_goto (n := 19) X0 hx (hb hby d17_15) (by decide) (by decide) ?_
  refine own_retZ X0 hx hlk hret (by simp) hE0 (w := (1 : Int32)) rfl (hb hby d17_19) (by decide) (by decide) ?_
  exact ⟨rfl, N0, rfl⟩
theorem own_ef17_own_rm_at_3_6 (m : MethodId) (y0 : Addr) (y1 : Addr) (y2 : Int32) (y3 : Int32) : entryFrame m #[(.ref y0), (.ref y1), (.int y2), (.int y3)] 4 = mkF m 0 #[.val (.ref y0), .val (.ref y1), .val (.int y2), .val (.int y3)] [] := by first | (simp [entryFrame, mkF, argsToLocals, Value.category]; done) | rfl
set_option maxRecDepth 65536 in
set_option maxHeartbeats 40000000 in
theorem own_rm_at_3_6 (l : Launch) (Z : State) (a0 : Array Value) (hw : ∀ d ∈ tables_1, d.before a0 Z = true) (a b : Addr) (kr kx : ClassId) (c0 c1 c2 c3 c4 c5 e6 e7 : Int32) (h0 : Heap) (n0 : Nat) (Z0 : n0 ≤ h0.size) (V0 : Arv Z h0 a kr .byte (6 : Int32) [(.int c0), (.int c1), (.int c2), (.int c3), (.int c4), (.int c5)] (.int (0 : Int32))) (V1 : Arv Z h0 b kx .byte (8 : Int32) [(.int c0), (.int c1), (.int c2), (.int c3), (.int c4), (.int c5), (.int e6), (.int e7)] (.int (0 : Int32))) :
    own_Met l Z (⟨"com/example/doseline/doseline/fhir/JsonWriterToByteArrayPinLaw", "at", "([B[BII)Z"⟩ : MethodName) method_2_code 4 (some .boolean) [] ({ frames := 0, cells := 0, slots := 0, locals := 0 } : Room) #[(.ref a), (.ref b), (.int (3 : Int32)), (.int (6 : Int32))] h0 (fun v h L => v = some (.int (1 : Int32)) ∧ Fr n0 L ∧ h = h0) := by
  refine own_met own_pn17 ?_
  intro p e s m below meth c s₁ hx hby hml hown hnm hret hlk hZ X0 hE0
  have N0 := Fr.nil n0
  refine own_cast (own_ef17_own_rm_at_3_6 m a b (3 : Int32) (6 : Int32)) ?_
  refine own_iloadN (n := 1) X0 hx (hb hby d17_0) rfl rfl ?_
  refine own_iloadN (n := 2) X0 hx (hb hby d17_1) rfl rfl ?_
  refine own_icmpNo (n := 5) X0 hx (hb hby d17_2) (tlt (by decide : (3 : Int32) < (6 : Int32))).2.1 rfl ?_
  refine own_aloadN (n := 6) X0 hx (hb hby d17_5) rfl rfl rfl ?_
  refine own_iloadN (n := 7) X0 hx (hb hby d17_6) rfl rfl ?_
  refine own_ld_baload (n := 8) (v := (.int c3)) X0 hx hZ hE0 V0 ⟨by decide, by decide⟩ rfl (hb hby d17_7) rfl ?_
  refine own_aloadN (n := 9) X0 hx (hb hby d17_8) rfl rfl rfl ?_
  refine own_iloadN (n := 10) X0 hx (hb hby d17_9) rfl rfl ?_
  refine own_ld_baload (n := 11) (v := (.int c3)) X0 hx hZ hE0 V1 ⟨by decide, by decide⟩ rfl (hb hby d17_10) rfl ?_
  refine own_icmpNo (n := 14) X0 hx (hb hby d17_11) (teq (rfl : c3 = c3)).2 rfl ?_
  refine own_iconst (n := 15) (z := (1 : Int32)) X0 hx (hb hby d17_14) rfl rfl ?_
  refine own_goto (n := 19) X0 hx (hb hby d17_15) (by decide) (by decide) ?_
  refine own_retZ X0 hx hlk hret (by simp) hE0 (w := (1 : Int32)) rfl (hb hby d17_19) (by decide) (by decide) ?_
  exact ⟨rfl, N0, rfl⟩
theorem own_ef17_own_rm_at_4_6 (m : MethodId) (y0 : Addr) (y1 : Addr) (y2 : Int32) (y3 : Int32) : entryFrame m #[(.ref y0), (.ref y1), (.int y2), (.int y3)] 4 = mkF m 0 #[.val (.ref y0), .val (.ref y1), .val (.int y2), .val (.int y3)] [] := by first | (simp [entryFrame, mkF, argsToLocals, Value.category]; done) | rfl
set_option maxRecDepth 65536 in
set_option maxHeartbeats 40000000 in
theorem own_rm_at_4_6 (l : Launch) (Z : State) (a0 : Array Value) (hw : ∀ d ∈ tables_1, d.before a0 Z = true) (a b : Addr) (kr kx : ClassId) (c0 c1 c2 c3 c4 c5 e6 e7 : Int32) (h0 : Heap) (n0 : Nat) (Z0 : n0 ≤ h0.size) (V0 : Arv Z h0 a kr .byte (6 : Int32) [(.int c0), (.int c1), (.int c2), (.int c3), (.int c4), (.int c5)] (.int (0 : Int32))) (V1 : Arv Z h0 b kx .byte (8 : Int32) [(.int c0), (.int c1), (.int c2), (.int c3), (.int c4), (.int c5), (.int e6), (.int e7)] (.int (0 : Int32))) :
    own_Met l Z (⟨"com/example/doseline/doseline/fhir/JsonWriterToByteArrayPinLaw", "at", "([B[BII)Z"⟩ : MethodName) method_2_code 4 (some .boolean) [] ({ frames := 0, cells := 0, slots := 0, locals := 0 } : Room) #[(.ref a), (.ref b), (.int (4 : Int32)), (.int (6 : Int32))] h0 (fun v h L => v = some (.int (1 : Int32)) ∧ Fr n0 L ∧ h = h0) := by
  refine own_met own_pn17 ?_
  intro p e s m below meth c s₁ hx hby hml hown hnm hret hlk hZ X0 hE0
  have N0 := Fr.nil n0
  refine own_cast (own_ef17_own_rm_at_4_6 m a b (4 : Int32) (6 : Int32)) ?_
  refine own_iloadN (n := 1) X0 hx (hb hby d17_0) rfl rfl ?_
  refine own_iloadN (n := 2) X0 hx (hb hby d17_1) rfl rfl ?_
  refine own_icmpNo (n := 5) X0 hx (hb hby d17_2) (tlt (by decide : (4 : Int32) < (6 : Int32))).2.1 rfl ?_
  refine own_aloadN (n := 6) X0 hx (hb hby d17_5) rfl rfl rfl ?_
  refine own_iloadN (n := 7) X0 hx (hb hby d17_6) rfl rfl ?_
  refine own_ld_baload (n := 8) (v := (.int c4)) X0 hx hZ hE0 V0 ⟨by decide, by decide⟩ rfl (hb hby d17_7) rfl ?_
  refine own_aloadN (n := 9) X0 hx (hb hby d17_8) rfl rfl rfl ?_
  refine own_iloadN (n := 10) X0 hx (hb hby d17_9) rfl rfl ?_
  refine own_ld_baload (n := 11) (v := (.int c4)) X0 hx hZ hE0 V1 ⟨by decide, by decide⟩ rfl (hb hby d17_10) rfl ?_
  refine own_icmpNo (n := 14) X0 hx (hb hby d17_11) (teq (rfl : c4 = c4)).2 rfl ?_
  refine own_iconst (n := 15) (z := (1 : Int32)) X0 hx (hb hby d17_14) rfl rfl ?_
  refine own_goto (n := 19) X0 hx (hb hby d17_15) (by decide) (by decide) ?_
  refine own_retZ X0 hx hlk hret (by simp) hE0 (w := (1 : Int32)) rfl (hb hby d17_19) (by decide) (by decide) ?_
  exact ⟨rfl, N0, rfl⟩
theorem own_ef17_own_rm_at_5_6 (m : MethodId) (y0 : Addr) (y1 : Addr) (y2 : Int32) (y3 : Int32) : entryFrame m #[(.ref y0), (.ref y1), (.int y2), (.int y3)] 4 = mkF m 0 #[.val (.ref y0), .val (.ref y1), .val (.int y2), .val (.int y3)] [] := by first | (simp [entryFrame, mkF, argsToLocals, Value.category]; done) | rfl
set_option maxRecDepth 65536 in
set_option maxHeartbeats 40000000 in
theorem own_rm_at_5_6 (l : Launch) (Z : State) (a0 : Array Value) (hw : ∀ d ∈ tables_1, d.before a0 Z = true) (a b : Addr) (kr kx : ClassId) (c0 c1 c2 c3 c4 c5 e6 e7 : Int32) (h0 : Heap) (n0 : Nat) (Z0 : n0 ≤ h0.size) (V0 : Arv Z h0 a kr .byte (6 : Int32) [(.int c0), (.int c1), (.int c2), (.int c3), (.int c4), (.int c5)] (.int (0 : Int32))) (V1 : Arv Z h0 b kx .byte (8 : Int32) [(.int c0), (.int c1), (.int c2), (.int c3), (.int c4), (.int c5), (.int e6), (.int e7)] (.int (0 : Int32))) :
    own_Met l Z (⟨"com/example/doseline/doseline/fhir/JsonWriterToByteArrayPinLaw", "at", "([B[BII)Z"⟩ : MethodName) method_2_code 4 (some .boolean) [] ({ frames := 0, cells := 0, slots := 0, locals := 0 } : Room) #[(.ref a), (.ref b), (.int (5 : Int32)), (.int (6 : Int32))] h0 (fun v h L => v = some (.int (1 : Int32)) ∧ Fr n0 L ∧ h = h0) := by
  refine own_met own_pn17 ?_
  intro p e s m below meth c s₁ hx hby hml hown hnm hret hlk hZ X0 hE0
  have N0 := Fr.nil n0
  refine own_cast (own_ef17_own_rm_at_5_6 m a b (5 : Int32) (6 : Int32)) ?_
  refine own_iloadN (n := 1) X0 hx (hb hby d17_0) rfl rfl ?_
  refine own_iloadN (n := 2) X0 hx (hb hby d17_1) rfl rfl ?_
  refine own_icmpNo (n := 5) X0 hx (hb hby d17_2) (tlt (by decide : (5 : Int32) < (6 : Int32))).2.1 rfl ?_
  refine own_aloadN (n := 6) X0 hx (hb hby d17_5) rfl rfl rfl ?_
  refine own_iloadN (n := 7) X0 hx (hb hby d17_6) rfl rfl ?_
  refine own_ld_baload (n := 8) (v := (.int c5)) X0 hx hZ hE0 V0 ⟨by decide, by decide⟩ rfl (hb hby d17_7) rfl ?_
  refine own_aloadN (n := 9) X0 hx (hb hby d17_8) rfl rfl rfl ?_
  refine own_iloadN (n := 10) X0 hx (hb hby d17_9) rfl rfl ?_
  refine own_ld_baload (n := 11) (v := (.int c5)) X0 hx hZ hE0 V1 ⟨by decide, by decide⟩ rfl (hb hby d17_10) rfl ?_
  refine own_icmpNo (n := 14) X0 hx (hb hby d17_11) (teq (rfl : c5 = c5)).2 rfl ?_
  refine own_iconst (n := 15) (z := (1 : Int32)) X0 hx (hb hby d17_14) rfl rfl ?_
  refine own_goto (n := 19) X0 hx (hb hby d17_15) (by decide) (by decide) ?_
  refine own_retZ X0 hx hlk hret (by simp) hE0 (w := (1 : Int32)) rfl (hb hby d17_19) (by decide) (by decide) ?_
  exact ⟨rfl, N0, rfl⟩
theorem own_ef17_own_rm_at_6_6 (m : MethodId) (y0 : Addr) (y1 : Addr) (y2 : Int32) (y3 : Int32) : entryFrame m #[(.ref y0), (.ref y1), (.int y2), (.int y3)] 4 = mkF m 0 #[.val (.ref y0), .val (.ref y1), .val (.int y2), .val (.int y3)] [] := by first | (simp [entryFrame, mkF, argsToLocals, Value.category]; done) | rfl
set_option maxRecDepth 65536 in
set_option maxHeartbeats 40000000 in
theorem own_rm_at_6_6 (l : Launch) (Z : State) (a0 : Array Value) (hw : ∀ d ∈ tables_1, d.before a0 Z = true) (a b : Addr) (kr kx : ClassId) (c0 c1 c2 c3 c4 c5 e6 e7 : Int32) (h0 : Heap) (n0 : Nat) (Z0 : n0 ≤ h0.size) (V0 : Arv Z h0 a kr .byte (6 : Int32) [(.int c0), (.int c1), (.int c2), (.int c3), (.int c4), (.int c5)] (.int (0 : Int32))) (V1 : Arv Z h0 b kx .byte (8 : Int32) [(.int c0), (.int c1), (.int c2), (.int c3), (.int c4), (.int c5), (.int e6), (.int e7)] (.int (0 : Int32))) :
    own_Met l Z (⟨"com/example/doseline/doseline/fhir/JsonWriterToByteArrayPinLaw", "at", "([B[BII)Z"⟩ : MethodName) method_2_code 4 (some .boolean) [] ({ frames := 0, cells := 0, slots := 0, locals := 0 } : Room) #[(.ref a), (.ref b), (.int (6 : Int32)), (.int (6 : Int32))] h0 (fun v h L => v = some (.int (1 : Int32)) ∧ Fr n0 L ∧ h = h0) := by
  refine own_met own_pn17 ?_
  intro p e s m below meth c s₁ hx hby hml hown hnm hret hlk hZ X0 hE0
  have N0 := Fr.nil n0
  refine own_cast (own_ef17_own_rm_at_6_6 m a b (6 : Int32) (6 : Int32)) ?_
  refine own_iloadN (n := 1) X0 hx (hb hby d17_0) rfl rfl ?_
  refine own_iloadN (n := 2) X0 hx (hb hby d17_1) rfl rfl ?_
  refine own_icmpYes (n := 14) X0 hx (hb hby d17_2) (flt (by decide : ¬ ((6 : Int32) < (6 : Int32)))).2.1 (by decide) (by decide) ?_
  refine own_iconst (n := 15) (z := (1 : Int32)) X0 hx (hb hby d17_14) rfl rfl ?_
  refine own_goto (n := 19) X0 hx (hb hby d17_15) (by decide) (by decide) ?_
  refine own_retZ X0 hx hlk hret (by simp) hE0 (w := (1 : Int32)) rfl (hb hby d17_19) (by decide) (by decide) ?_
  exact ⟨rfl, N0, rfl⟩
theorem own_ef17_own_rm_at_7_6 (m : MethodId) (y0 : Addr) (y1 : Addr) (y2 : Int32) (y3 : Int32) : entryFrame m #[(.ref y0), (.ref y1), (.int y2), (.int y3)] 4 = mkF m 0 #[.val (.ref y0), .val (.ref y1), .val (.int y2), .val (.int y3)] [] := by first | (simp [entryFrame, mkF, argsToLocals, Value.category]; done) | rfl
set_option maxRecDepth 65536 in
set_option maxHeartbeats 40000000 in
theorem own_rm_at_7_6 (l : Launch) (Z : State) (a0 : Array Value) (hw : ∀ d ∈ tables_1, d.before a0 Z = true) (a b : Addr) (kr kx : ClassId) (c0 c1 c2 c3 c4 c5 e6 e7 : Int32) (h0 : Heap) (n0 : Nat) (Z0 : n0 ≤ h0.size) (V0 : Arv Z h0 a kr .byte (6 : Int32) [(.int c0), (.int c1), (.int c2), (.int c3), (.int c4), (.int c5)] (.int (0 : Int32))) (V1 : Arv Z h0 b kx .byte (8 : Int32) [(.int c0), (.int c1), (.int c2), (.int c3), (.int c4), (.int c5), (.int e6), (.int e7)] (.int (0 : Int32))) :
    own_Met l Z (⟨"com/example/doseline/doseline/fhir/JsonWriterToByteArrayPinLaw", "at", "([B[BII)Z"⟩ : MethodName) method_2_code 4 (some .boolean) [] ({ frames := 0, cells := 0, slots := 0, locals := 0 } : Room) #[(.ref a), (.ref b), (.int (7 : Int32)), (.int (6 : Int32))] h0 (fun v h L => v = some (.int (1 : Int32)) ∧ Fr n0 L ∧ h = h0) := by
  refine own_met own_pn17 ?_
  intro p e s m below meth c s₁ hx hby hml hown hnm hret hlk hZ X0 hE0
  have N0 := Fr.nil n0
  refine own_cast (own_ef17_own_rm_at_7_6 m a b (7 : Int32) (6 : Int32)) ?_
  refine own_iloadN (n := 1) X0 hx (hb hby d17_0) rfl rfl ?_
  refine own_iloadN (n := 2) X0 hx (hb hby d17_1) rfl rfl ?_
  refine own_icmpYes (n := 14) X0 hx (hb hby d17_2) (flt (by decide : ¬ ((7 : Int32) < (6 : Int32)))).2.1 (by decide) (by decide) ?_
  refine own_iconst (n := 15) (z := (1 : Int32)) X0 hx (hb hby d17_14) rfl rfl ?_
  refine own_goto (n := 19) X0 hx (hb hby d17_15) (by decide) (by decide) ?_
  refine own_retZ X0 hx hlk hret (by simp) hE0 (w := (1 : Int32)) rfl (hb hby d17_19) (by decide) (by decide) ?_
  exact ⟨rfl, N0, rfl⟩
theorem own_ef16_own_rm_same_6 (m : MethodId) (y0 : Addr) (y1 : Addr) (y2 : Int32) : entryFrame m #[(.ref y0), (.ref y1), (.int y2)] 3 = mkF m 0 #[.val (.ref y0), .val (.ref y1), .val (.int y2)] [] := by first | (simp [entryFrame, mkF, argsToLocals, Value.category]; done) | rfl
set_option maxRecDepth 65536 in
set_option maxHeartbeats 40000000 in
theorem own_rm_same_6 (l : Launch) (Z : State) (a0 : Array Value) (hw : ∀ d ∈ tables_1, d.before a0 Z = true) (a b : Addr) (kr kx : ClassId) (c0 c1 c2 c3 c4 c5 e6 e7 : Int32) (h0 : Heap) (n0 : Nat) (Z0 : n0 ≤ h0.size) (V0 : Arv Z h0 a kr .byte (6 : Int32) [(.int c0), (.int c1), (.int c2), (.int c3), (.int c4), (.int c5)] (.int (0 : Int32))) (V1 : Arv Z h0 b kx .byte (8 : Int32) [(.int c0), (.int c1), (.int c2), (.int c3), (.int c4), (.int c5), (.int e6), (.int e7)] (.int (0 : Int32))) :
    own_Met l Z (⟨"com/example/doseline/doseline/fhir/JsonWriterToByteArrayPinLaw", "same", "([B[BI)Z"⟩ : MethodName) method_3_code 3 (some .boolean) [] ({ frames := 1, cells := 0, slots := 0, locals := 15 } : Room) #[(.ref a), (.ref b), (.int (6 : Int32))] h0 (fun v h L => v = some (.int (1 : Int32)) ∧ Fr n0 L ∧ h = h0) := by
  refine own_met own_pn16 ?_
  intro p e s m below meth c s₁ hx hby hml hown hnm hret hlk hZ X0 hE0
  have N0 := Fr.nil n0
  refine own_cast (own_ef16_own_rm_same_6 m a b (6 : Int32)) ?_
  refine own_aloadN (n := 1) X0 hx (hb hby d16_0) rfl rfl rfl ?_
  refine own_ifnullNo (n := 4) X0 hx (hb hby d16_1) rfl ?_
  refine own_aloadN (n := 5) X0 hx (hb hby d16_4) rfl rfl rfl ?_
  refine own_len (n := 6) X0 hx hZ hE0 V0 (hb hby d16_5) rfl ?_
  refine own_iloadN (n := 7) X0 hx (hb hby d16_6) rfl rfl ?_
  refine own_icmpYes (n := 12) X0 hx (hb hby d16_7) (teq (by decide : (6 : Int32) = (6 : Int32))).1 (by decide) (by decide) ?_
  refine own_aloadN (n := 13) X0 hx (hb hby d16_12) rfl rfl rfl ?_
  refine own_aloadN (n := 14) X0 hx (hb hby d16_13) rfl rfl rfl ?_
  refine own_iconst (n := 15) (z := (0 : Int32)) X0 hx (hb hby d16_14) rfl rfl ?_
  refine own_iloadN (n := 16) X0 hx (hb hby d16_15) rfl rfl ?_
  refine own_S (n := 19) (argsL := [(.ref a), (.ref b), (.int (0 : Int32)), (.int (6 : Int32))]) (rest := []) X0 hx hZ hown (own_rm_at_0_6 l Z a0 hw a b kr kx c0 c1 c2 c3 c4 c5 e6 e7 h0 n0 Z0 V0 V1) (ww80 hw) (ww81 hw) (ww78 hw) (ww82 hw) (by decide) hE0 (by rw [hml]; rfl) (lenOf own_pd6 rfl) rfl (hb hby d16_16) (Nat.le_of_ble_eq_true rfl) (Nat.le_of_ble_eq_true rfl) (Nat.le_of_ble_eq_true rfl) (Nat.le_of_ble_eq_true rfl) rfl ?_
  rintro v1 T1 L1 X1 ⟨rfl, Nq1, eq1⟩
  have N1 := Fr.app N0 Nq1
  change own_G p e below _ _ (mkF m 19 _ [(.int (1 : Int32))])
  refine own_ifNo (n := 22) X1 hx (hb hby d16_19) (feq (by decide : ¬ ((1 : Int32) = (0 : Int32)))).1 rfl ?_
  refine own_aloadN (n := 23) X1 hx (hb hby d16_22) rfl rfl rfl ?_
  refine own_aloadN (n := 24) X1 hx (hb hby d16_23) rfl rfl rfl ?_
  refine own_iconst (n := 25) (z := (1 : Int32)) X1 hx (hb hby d16_24) rfl rfl ?_
  refine own_iloadN (n := 26) X1 hx (hb hby d16_25) rfl rfl ?_
  refine own_S (n := 29) (argsL := [(.ref a), (.ref b), (.int (1 : Int32)), (.int (6 : Int32))]) (rest := []) X1 hx hZ hown (own_rm_at_1_6 l Z a0 hw a b kr kx c0 c1 c2 c3 c4 c5 e6 e7 h0 n0 Z0 V0 V1) (ww80 hw) (ww81 hw) (ww78 hw) (ww82 hw) (by decide) eq1 (by rw [hml]; rfl) (lenOf own_pd6 rfl) rfl (hb hby d16_26) (Nat.le_of_ble_eq_true rfl) (Nat.le_of_ble_eq_true rfl) (Nat.le_of_ble_eq_true rfl) (Nat.le_of_ble_eq_true rfl) rfl ?_
  rintro v2 T2 L2 X2 ⟨rfl, Nq2, eq2⟩
  have N2 := Fr.app N1 Nq2
  change own_G p e below _ _ (mkF m 29 _ [(.int (1 : Int32))])
  refine own_ifNo (n := 32) X2 hx (hb hby d16_29) (feq (by decide : ¬ ((1 : Int32) = (0 : Int32)))).1 rfl ?_
  refine own_aloadN (n := 33) X2 hx (hb hby d16_32) rfl rfl rfl ?_
  refine own_aloadN (n := 34) X2 hx (hb hby d16_33) rfl rfl rfl ?_
  refine own_iconst (n := 35) (z := (2 : Int32)) X2 hx (hb hby d16_34) rfl rfl ?_
  refine own_iloadN (n := 36) X2 hx (hb hby d16_35) rfl rfl ?_
  refine own_S (n := 39) (argsL := [(.ref a), (.ref b), (.int (2 : Int32)), (.int (6 : Int32))]) (rest := []) X2 hx hZ hown (own_rm_at_2_6 l Z a0 hw a b kr kx c0 c1 c2 c3 c4 c5 e6 e7 h0 n0 Z0 V0 V1) (ww80 hw) (ww81 hw) (ww78 hw) (ww82 hw) (by decide) eq2 (by rw [hml]; rfl) (lenOf own_pd6 rfl) rfl (hb hby d16_36) (Nat.le_of_ble_eq_true rfl) (Nat.le_of_ble_eq_true rfl) (Nat.le_of_ble_eq_true rfl) (Nat.le_of_ble_eq_true rfl) rfl ?_
  rintro v3 T3 L3 X3 ⟨rfl, Nq3, eq3⟩
  have N3 := Fr.app N2 Nq3
  change own_G p e below _ _ (mkF m 39 _ [(.int (1 : Int32))])
  refine own_ifNo (n := 42) X3 hx (hb hby d16_39) (feq (by decide : ¬ ((1 : Int32) = (0 : Int32)))).1 rfl ?_
  refine own_aloadN (n := 43) X3 hx (hb hby d16_42) rfl rfl rfl ?_
  refine own_aloadN (n := 44) X3 hx (hb hby d16_43) rfl rfl rfl ?_
  refine own_iconst (n := 45) (z := (3 : Int32)) X3 hx (hb hby d16_44) rfl rfl ?_
  refine own_iloadN (n := 46) X3 hx (hb hby d16_45) rfl rfl ?_
  refine own_S (n := 49) (argsL := [(.ref a), (.ref b), (.int (3 : Int32)), (.int (6 : Int32))]) (rest := []) X3 hx hZ hown (own_rm_at_3_6 l Z a0 hw a b kr kx c0 c1 c2 c3 c4 c5 e6 e7 h0 n0 Z0 V0 V1) (ww80 hw) (ww81 hw) (ww78 hw) (ww82 hw) (by decide) eq3 (by rw [hml]; rfl) (lenOf own_pd6 rfl) rfl (hb hby d16_46) (Nat.le_of_ble_eq_true rfl) (Nat.le_of_ble_eq_true rfl) (Nat.le_of_ble_eq_true rfl) (Nat.le_of_ble_eq_true rfl) rfl ?_
  rintro v4 T4 L4 X4 ⟨rfl, Nq4, eq4⟩
  have N4 := Fr.app N3 Nq4
  change own_G p e below _ _ (mkF m 49 _ [(.int (1 : Int32))])
  refine own_ifNo (n := 52) X4 hx (hb hby d16_49) (feq (by decide : ¬ ((1 : Int32) = (0 : Int32)))).1 rfl ?_
  refine own_aloadN (n := 53) X4 hx (hb hby d16_52) rfl rfl rfl ?_
  refine own_aloadN (n := 54) X4 hx (hb hby d16_53) rfl rfl rfl ?_
  refine own_iconst (n := 55) (z := (4 : Int32)) X4 hx (hb hby d16_54) rfl rfl ?_
  refine own_iloadN (n := 56) X4 hx (hb hby d16_55) rfl rfl ?_
  refine own_S (n := 59) (argsL := [(.ref a), (.ref b), (.int (4 : Int32)), (.int (6 : Int32))]) (rest := []) X4 hx hZ hown (own_rm_at_4_6 l Z a0 hw a b kr kx c0 c1 c2 c3 c4 c5 e6 e7 h0 n0 Z0 V0 V1) (ww80 hw) (ww81 hw) (ww78 hw) (ww82 hw) (by decide) eq4 (by rw [hml]; rfl) (lenOf own_pd6 rfl) rfl (hb hby d16_56) (Nat.le_of_ble_eq_true rfl) (Nat.le_of_ble_eq_true rfl) (Nat.le_of_ble_eq_true rfl) (Nat.le_of_ble_eq_true rfl) rfl ?_
  rintro v5 T5 L5 X5 ⟨rfl, Nq5, eq5⟩
  have N5 := Fr.app N4 Nq5
  change own_G p e below _ _ (mkF m 59 _ [(.int (1 : Int32))])
  refine own_ifNo (n := 62) X5 hx (hb hby d16_59) (feq (by decide : ¬ ((1 : Int32) = (0 : Int32)))).1 rfl ?_
  refine own_aloadN (n := 63) X5 hx (hb hby d16_62) rfl rfl rfl ?_
  refine own_aloadN (n := 64) X5 hx (hb hby d16_63) rfl rfl rfl ?_
  refine own_iconst (n := 65) (z := (5 : Int32)) X5 hx (hb hby d16_64) rfl rfl ?_
  refine own_iloadN (n := 66) X5 hx (hb hby d16_65) rfl rfl ?_
  refine own_S (n := 69) (argsL := [(.ref a), (.ref b), (.int (5 : Int32)), (.int (6 : Int32))]) (rest := []) X5 hx hZ hown (own_rm_at_5_6 l Z a0 hw a b kr kx c0 c1 c2 c3 c4 c5 e6 e7 h0 n0 Z0 V0 V1) (ww80 hw) (ww81 hw) (ww78 hw) (ww82 hw) (by decide) eq5 (by rw [hml]; rfl) (lenOf own_pd6 rfl) rfl (hb hby d16_66) (Nat.le_of_ble_eq_true rfl) (Nat.le_of_ble_eq_true rfl) (Nat.le_of_ble_eq_true rfl) (Nat.le_of_ble_eq_true rfl) rfl ?_
  rintro v6 T6 L6 X6 ⟨rfl, Nq6, eq6⟩
  have N6 := Fr.app N5 Nq6
  change own_G p e below _ _ (mkF m 69 _ [(.int (1 : Int32))])
  refine own_ifNo (n := 72) X6 hx (hb hby d16_69) (feq (by decide : ¬ ((1 : Int32) = (0 : Int32)))).1 rfl ?_
  refine own_aloadN (n := 73) X6 hx (hb hby d16_72) rfl rfl rfl ?_
  refine own_aloadN (n := 74) X6 hx (hb hby d16_73) rfl rfl rfl ?_
  refine own_bipush (n := 76) (z := (6 : Int32)) X6 hx (hb hby d16_74) rfl rfl ?_
  refine own_iloadN (n := 77) X6 hx (hb hby d16_76) rfl rfl ?_
  refine own_S (n := 80) (argsL := [(.ref a), (.ref b), (.int (6 : Int32)), (.int (6 : Int32))]) (rest := []) X6 hx hZ hown (own_rm_at_6_6 l Z a0 hw a b kr kx c0 c1 c2 c3 c4 c5 e6 e7 h0 n0 Z0 V0 V1) (ww80 hw) (ww81 hw) (ww78 hw) (ww82 hw) (by decide) eq6 (by rw [hml]; rfl) (lenOf own_pd6 rfl) rfl (hb hby d16_77) (Nat.le_of_ble_eq_true rfl) (Nat.le_of_ble_eq_true rfl) (Nat.le_of_ble_eq_true rfl) (Nat.le_of_ble_eq_true rfl) rfl ?_
  rintro v7 T7 L7 X7 ⟨rfl, Nq7, eq7⟩
  have N7 := Fr.app N6 Nq7
  change own_G p e below _ _ (mkF m 80 _ [(.int (1 : Int32))])
  refine own_ifNo (n := 83) X7 hx (hb hby d16_80) (feq (by decide : ¬ ((1 : Int32) = (0 : Int32)))).1 rfl ?_
  refine own_aloadN (n := 84) X7 hx (hb hby d16_83) rfl rfl rfl ?_
  refine own_aloadN (n := 85) X7 hx (hb hby d16_84) rfl rfl rfl ?_
  refine own_bipush (n := 87) (z := (7 : Int32)) X7 hx (hb hby d16_85) rfl rfl ?_
  refine own_iloadN (n := 88) X7 hx (hb hby d16_87) rfl rfl ?_
  refine own_S (n := 91) (argsL := [(.ref a), (.ref b), (.int (7 : Int32)), (.int (6 : Int32))]) (rest := []) X7 hx hZ hown (own_rm_at_7_6 l Z a0 hw a b kr kx c0 c1 c2 c3 c4 c5 e6 e7 h0 n0 Z0 V0 V1) (ww80 hw) (ww81 hw) (ww78 hw) (ww82 hw) (by decide) eq7 (by rw [hml]; rfl) (lenOf own_pd6 rfl) rfl (hb hby d16_88) (Nat.le_of_ble_eq_true rfl) (Nat.le_of_ble_eq_true rfl) (Nat.le_of_ble_eq_true rfl) (Nat.le_of_ble_eq_true rfl) rfl ?_
  rintro v8 T8 L8 X8 ⟨rfl, Nq8, eq8⟩
  have N8 := Fr.app N7 Nq8
  change own_G p e below _ _ (mkF m 91 _ [(.int (1 : Int32))])
  refine own_ifNo (n := 94) X8 hx (hb hby d16_91) (feq (by decide : ¬ ((1 : Int32) = (0 : Int32)))).1 rfl ?_
  refine own_iconst (n := 95) (z := (1 : Int32)) X8 hx (hb hby d16_94) rfl rfl ?_
  refine own_goto (n := 99) X8 hx (hb hby d16_95) (by decide) (by decide) ?_
  refine own_retZ X8 hx hlk hret (by simp) eq8 (w := (1 : Int32)) rfl (hb hby d16_99) (by decide) (by decide) ?_
  exact ⟨rfl, N8, rfl⟩
theorem own_pn3 : plainFor (⟨"com/example/doseline/doseline/fhir/JsonWriter", "startArray", "()V"⟩ : MethodName) = true := plainFor_of_name (by first | (simp [plainName, overriddenIn]; done) | decide +kernel)
theorem d3_0 : decode prog_96_method_9_code 0 = .ok (.aload_n 0, 1) := by decide +kernel
theorem d3_1 : decode prog_96_method_9_code 1 = .ok (.bipush 91, 2) := by decide +kernel
theorem d3_3 : decode prog_96_method_9_code 3 = .ok (.invokevirtual 51, 3) := by decide +kernel
theorem own_pn4 : plainFor (⟨"com/example/doseline/doseline/fhir/JsonWriter", "start", "(B)V"⟩ : MethodName) = true := plainFor_of_name (by first | (simp [plainName, overriddenIn]; done) | decide +kernel)
theorem d4_0 : decode prog_96_method_21_code 0 = .ok (.aload_n 0, 1) := by decide +kernel
theorem d4_1 : decode prog_96_method_21_code 1 = .ok (.invokevirtual 58, 3) := by decide +kernel
theorem d4_4 : decode prog_96_method_21_code 4 = .ok (.aload_n 0, 1) := by decide +kernel
theorem d4_5 : decode prog_96_method_21_code 5 = .ok (.iload_n 1, 1) := by decide +kernel
theorem d4_6 : decode prog_96_method_21_code 6 = .ok (.invokevirtual 68, 3) := by decide +kernel
theorem own_ef7_own_rm_room_0_1 (m : MethodId) (y0 : Addr) (y1 : Int32) : entryFrame m #[(.ref y0), (.int y1)] 2 = mkF m 0 #[.val (.ref y0), .val (.int y1)] [] := by first | (simp [entryFrame, mkF, argsToLocals, Value.category]; done) | rfl
set_option maxRecDepth 65536 in
set_option maxHeartbeats 40000000 in
theorem own_rm_room_0_1 (l : Launch) (Z : State) (a0 : Array Value) (hw : ∀ d ∈ tables_1, d.before a0 Z = true) (a b : Addr) (kb : ClassId) (N : Int32) (rest : List Value) (ae : Int32) (h0 : Heap) (n0 : Nat) (Z0 : n0 ≤ h0.size) (E0 : Exa Z h0 a "com/example/doseline/doseline/fhir/JsonWriter") (FB : Fld Z h0 a "com/example/doseline/doseline/fhir/JsonWriter" "bytes" "[B" (.ref b)) (FL : Fld Z h0 a "com/example/doseline/doseline/fhir/JsonWriter" "length" "I" (.int (0 : Int32))) (FA : Fld Z h0 a "com/example/doseline/doseline/fhir/JsonWriter" "afterElement" "Z" (.int ae)) (VB : Arv Z h0 b kb .byte N (rest) (.int (0 : Int32))) (EB : Exa Z h0 b "[B") (hl : rest.length + 0 = N.toNatClampNeg) (hN : N.toInt ≤ 15) (g_a : n0 ≤ a) (g_b : n0 ≤ b) :
    own_Met l Z (⟨"com/example/doseline/doseline/fhir/JsonWriter", "room", "(I)V"⟩ : MethodName) prog_96_method_28_code 2 none [] ({ frames := 2, cells := 1, slots := 15, locals := 55 } : Room) #[(.ref a), (.int (1 : Int32))] h0 (fun v h L => ∃ (b' : Addr) (k' : ClassId) (N' : Int32) (r' : List Value), v = none ∧ Fr n0 L ∧ Keep h0 h [a] ∧ Exa Z h a "com/example/doseline/doseline/fhir/JsonWriter" ∧ Fld Z h a "com/example/doseline/doseline/fhir/JsonWriter" "bytes" "[B" (.ref b') ∧ Fld Z h a "com/example/doseline/doseline/fhir/JsonWriter" "length" "I" (.int (0 : Int32)) ∧ Fld Z h a "com/example/doseline/doseline/fhir/JsonWriter" "afterElement" "Z" (.int ae) ∧ Arv Z h b' k' .byte N' (r') (.int (0 : Int32)) ∧ Exa Z h b' "[B" ∧ r'.length + 0 = N'.toNatClampNeg ∧ N'.toInt ≤ 15 ∧ (b' = b ∨ h0.size ≤ b') ∧ n0 ≤ b' ∧ 1 ≤ r'.length) := by
  refine own_met own_pn7 ?_
  intro p e s m below meth c s₁ hx hby hml hown hnm hret hlk hZ X0 hE0
  have N0 := Fr.nil n0
  refine own_cast (own_ef7_own_rm_room_0_1 m a (1 : Int32)) ?_
  have hN0 := own_arvn VB
  refine own_iloadN (n := 1) X0 hx (hb hby d7_0) rfl rfl ?_
  refine own_aloadN (n := 2) X0 hx (hb hby d7_1) rfl rfl rfl ?_
  refine own_getF (n := 5) X0 hx hZ hown (host := "") (Or.inl (ww10 hw)) Via.refl hE0 FB (hb hby d7_2) rfl ?_
  intro T1 X1 e1
  refine own_len (n := 6) X1 hx hZ e1 VB (hb hby d7_5) rfl ?_
  refine own_aloadN (n := 7) X1 hx (hb hby d7_6) rfl rfl rfl ?_
  refine own_getF (n := 10) X1 hx hZ hown (host := "") (Or.inl (ww35 hw)) Via.refl e1 FL (hb hby d7_7) rfl ?_
  intro T2 X2 e2
  refine own_isub (n := 11) X2 hx (hb hby d7_10) rfl rfl ?_
  by_cases hc11_3 : (N - (0 : Int32)) < (1 : Int32)
  · skip
    have hgr := own_grow (N := N) (l := (0 : Int32)) (n := (1 : Int32)) (q := (1 : Int32)) (r := rest) (L := 0) (m := 1) rfl rfl rfl (by decide) hN0 hN hl hc11_3
    refine own_icmpNo (n := 14) X2 hx (hb hby d7_11) (tlt hc11_3).2.2.2 rfl ?_
    refine own_aloadN (n := 15) X2 hx (hb hby d7_14) rfl rfl rfl ?_
    refine own_aloadN (n := 16) X2 hx (hb hby d7_15) rfl rfl rfl ?_
    refine own_getF (n := 19) X2 hx hZ hown (host := "") (Or.inl (ww10 hw)) Via.refl e2 FB (hb hby d7_16) rfl ?_
    intro T4 X4 e4
    refine own_aloadN (n := 20) X4 hx (hb hby d7_19) rfl rfl rfl ?_
    refine own_getF (n := 23) X4 hx hZ hown (host := "") (Or.inl (ww10 hw)) Via.refl e4 FB (hb hby d7_20) rfl ?_
    intro T5 X5 e5
    refine own_len (n := 24) X5 hx hZ e5 VB (hb hby d7_23) rfl ?_
    refine own_iconst (n := 25) (z := (2 : Int32)) X5 hx (hb hby d7_24) rfl rfl ?_
    refine own_imul (n := 26) X5 hx (hb hby d7_25) rfl rfl ?_
    refine own_aloadN (n := 27) X5 hx (hb hby d7_26) rfl rfl rfl ?_
    refine own_getF (n := 30) X5 hx hZ hown (host := "") (Or.inl (ww35 hw)) Via.refl e5 FL (hb hby d7_27) rfl ?_
    intro T6 X6 e6
    refine own_iloadN (n := 31) X6 hx (hb hby d7_30) rfl rfl ?_
    refine own_iadd (n := 32) (z := (1 : Int32)) X6 hx (hb hby d7_31) rfl rfl ?_
    refine own_S (n := 35) (argsL := [(.int (N * (2 : Int32))), (.int (1 : Int32))]) (rest := [(.ref b), (.ref a)]) X6 hx hZ hown (own_rm_max l Z a0 hw (N * (2 : Int32)) (1 : Int32) h0 n0 Z0) (ww37 hw) (ww38 hw) (ww39 hw) (ww40 hw) (by decide) e6 (by rw [hml]; rfl) (lenOf own_pd2 rfl) rfl (hb hby d7_32) (Nat.le_of_ble_eq_true rfl) (Nat.le_of_ble_eq_true rfl) (Nat.le_of_ble_eq_true rfl) (Nat.le_of_ble_eq_true rfl) rfl ?_
    rintro v7 T7 L7 X7 ⟨rfl, Nq7, eq7⟩
    have N7 := Fr.app N0 Nq7
    change own_G p e below _ _ (mkF m 35 _ [(.int (own_max (N * (2 : Int32)) (1 : Int32))), (.ref b), (.ref a)])
    refine own_S (n := 38) (argsL := [(.ref b), (.int (own_max (N * (2 : Int32)) (1 : Int32)))]) (rest := [(.ref a)]) X7 hx hZ hown (own_rm_copy15 l Z a0 hw b kb N (own_max (N * (2 : Int32)) (1 : Int32)) (rest) h0 n0 Z0 VB (by (try simp only [List.length_cons]); omega) EB hgr.1 hgr.2.1) (ww41 hw) (ww42 hw) (ww43 hw) (ww44 hw) (by decide) eq7 (by rw [hml]; rfl) (lenOf own_pd3 rfl) rfl (hb hby d7_35) (Nat.le_of_ble_eq_true rfl) (Nat.le_of_ble_eq_true rfl) (Nat.le_of_ble_eq_true rfl) (Nat.le_of_ble_eq_true rfl) rfl ?_
    rintro v8 T8 L8 X8 ⟨y8, k8, rfl, Nq8, K8, sz8, gb8, Vb8, Ec8⟩
    have N8 := Fr.app N7 Nq8
    have E_9 := E0.keep K8
    have F_10 := FB.keep K8 (by simp)
    have F_11 := FL.keep K8 (by simp)
    have F_12 := FA.keep K8 (by simp)
    have A_13 := VB.keep K8 (by simp)
    have E_14 := EB.keep K8
    have K_15 := (Keep.refl h0 [a]).trans K8 (fun x hx => nomatch hx)
    have Z_16 : n0 ≤ T8.heap.size := Nat.le_trans Z0 K8.1
    have Vc8 : Arv Z T8.heap y8 k8 .byte (own_max (N * (2 : Int32)) (1 : Int32)) ((rest ++ List.replicate (α := Value) (((own_max (N * (2 : Int32)) (1 : Int32))).toNatClampNeg - N.toNatClampNeg) (.int (0 : Int32)))) (.int (0 : Int32)) := by have q := Vb8; rw [List.take_of_length_le (by (try simp only [List.length_cons]); omega)] at q; exact q
    have hl8 : (rest ++ List.replicate (α := Value) (((own_max (N * (2 : Int32)) (1 : Int32))).toNatClampNeg - N.toNatClampNeg) (.int (0 : Int32))).length + 0 = ((own_max (N * (2 : Int32)) (1 : Int32))).toNatClampNeg := by rw [List.length_append, List.length_replicate]; omega
    have hx8 : 1 ≤ (rest ++ List.replicate (α := Value) (((own_max (N * (2 : Int32)) (1 : Int32))).toNatClampNeg - N.toNatClampNeg) (.int (0 : Int32))).length := by have := hl8; omega
    change own_G p e below _ _ (mkF m 38 _ [(.ref y8), (.ref a)])
    refine own_putF (n := 41) X8 hx hZ hown (host := "") (Or.inl (ww10 hw)) Via.refl rfl F_10 E_9 (Or.inl (ww11 hw)) (ww2 hw) (ty := (.array .byte)) (by decide) rfl rfl (hb hby d7_38) rfl ?_
    intro T17 h17 X17 e17 W17
    have F_18 := F_10.same W17
    have N17 := Fr.snoc X17 N8 g_a
    have E_19 := E_9.wr W17
    have F_20 := F_11.other W17 (Or.inr (slot_ne (Or.inl (ww36 hw)) (Or.inl (ww11 hw)) (by decide) (t := .int) (t' := (.array .byte)) (by decide) (by decide)))
    have F_21 := F_12.other W17 (Or.inr (slot_ne (Or.inl (ww26 hw)) (Or.inl (ww11 hw)) (by decide) (t := .boolean) (t' := (.array .byte)) (by decide) (by decide)))
    have A_22 := A_13.other W17 (Ne.symm (own_neEA E_9 (ww2 hw) A_13))
    have E_23 := E_14.wr W17
    have K_24 := K_15.wr W17 (Or.inl (by first | exact List.mem_cons_self | exact List.mem_cons_of_mem _ List.mem_cons_self | exact List.mem_cons_of_mem _ (List.mem_cons_of_mem _ List.mem_cons_self) | (simp; done)))
    have A_25 := Vc8.other W17 (Ne.symm (Nat.ne_of_lt (Nat.lt_of_lt_of_le E0.lt sz8)))
    have E_26 := Ec8.wr W17
    have Z_27 : n0 ≤ h17.size := by rw [W17.size]; exact Z_16
    refine own_retV X17 hx hlk hret e17 (hb hby d7_41) (by decide) (by decide) ?_
    exact ⟨y8, k8, ((own_max (N * (2 : Int32)) (1 : Int32))), (rest ++ List.replicate (α := Value) (((own_max (N * (2 : Int32)) (1 : Int32))).toNatClampNeg - N.toNatClampNeg) (.int (0 : Int32))), rfl, N17, K_24, E_19, F_18, F_20, F_21, A_25, E_26, hl8, hgr.2.2.1, (Or.inr sz8 : y8 = b ∨ h0.size ≤ y8), gb8, hx8⟩
  · skip
    have hx0 : 1 ≤ rest.length := own_roomle (N := N) (l := (0 : Int32)) (n := (1 : Int32)) (L := 0) (m := 1) rfl rfl (by decide) hN0 hN hl hc11_3
    refine own_icmpYes (n := 41) X2 hx (hb hby d7_11) (flt hc11_3).2.2.2 (by decide) (by decide) ?_
    refine own_retV X2 hx hlk hret e2 (hb hby d7_41) (by decide) (by decide) ?_
    exact ⟨b, kb, N, rest, rfl, N0, (Keep.refl h0 [a]), E0, FB, FL, FA, VB, EB, hl, hN, (Or.inl rfl : b = b ∨ h0.size ≤ b), g_b, hx0⟩
theorem own_ef6_own_rm_wb_0 (m : MethodId) (y0 : Addr) (y1 : Int32) : entryFrame m #[(.ref y0), (.int y1)] 2 = mkF m 0 #[.val (.ref y0), .val (.int y1)] [] := by first | (simp [entryFrame, mkF, argsToLocals, Value.category]; done) | rfl
set_option maxRecDepth 65536 in
set_option maxHeartbeats 40000000 in
theorem own_rm_wb_0 (l : Launch) (Z : State) (a0 : Array Value) (hw : ∀ d ∈ tables_1, d.before a0 Z = true) (a b : Addr) (kb : ClassId) (N : Int32) (rest : List Value) (ae : Int32) (p1 : Int32) (h0 : Heap) (n0 : Nat) (Z0 : n0 ≤ h0.size) (E0 : Exa Z h0 a "com/example/doseline/doseline/fhir/JsonWriter") (FB : Fld Z h0 a "com/example/doseline/doseline/fhir/JsonWriter" "bytes" "[B" (.ref b)) (FL : Fld Z h0 a "com/example/doseline/doseline/fhir/JsonWriter" "length" "I" (.int (0 : Int32))) (FA : Fld Z h0 a "com/example/doseline/doseline/fhir/JsonWriter" "afterElement" "Z" (.int ae)) (VB : Arv Z h0 b kb .byte N (rest) (.int (0 : Int32))) (EB : Exa Z h0 b "[B") (hl : rest.length + 0 = N.toNatClampNeg) (hN : N.toInt ≤ 15) (g_a : n0 ≤ a) (g_b : n0 ≤ b) (hp : (p1).toInt8.toInt32 = p1) :
    own_Met l Z (⟨"com/example/doseline/doseline/fhir/JsonWriter", "write", "(B)V"⟩ : MethodName) prog_96_method_26_code 2 none [] ({ frames := 3, cells := 1, slots := 15, locals := 68 } : Room) #[(.ref a), (.int p1)] h0 (fun v h L => ∃ (b' : Addr) (k' : ClassId) (N' : Int32) (r' : List Value), v = none ∧ Fr n0 L ∧ Keep h0 h [a, b] ∧ Exa Z h a "com/example/doseline/doseline/fhir/JsonWriter" ∧ Fld Z h a "com/example/doseline/doseline/fhir/JsonWriter" "bytes" "[B" (.ref b') ∧ Fld Z h a "com/example/doseline/doseline/fhir/JsonWriter" "length" "I" (.int (1 : Int32)) ∧ Fld Z h a "com/example/doseline/doseline/fhir/JsonWriter" "afterElement" "Z" (.int ae) ∧ Arv Z h b' k' .byte N' ((.int p1) :: r') (.int (0 : Int32)) ∧ Exa Z h b' "[B" ∧ r'.length + 1 = N'.toNatClampNeg ∧ N'.toInt ≤ 15 ∧ (b' = b ∨ h0.size ≤ b') ∧ n0 ≤ b') := by
  refine own_met own_pn6 ?_
  intro p e s m below meth c s₁ hx hby hml hown hnm hret hlk hZ X0 hE0
  have N0 := Fr.nil n0
  refine own_cast (own_ef6_own_rm_wb_0 m a p1) ?_
  have hN0 := own_arvn VB
  refine own_aloadN (n := 1) X0 hx (hb hby d6_0) rfl rfl rfl ?_
  refine own_iconst (n := 2) (z := (1 : Int32)) X0 hx (hb hby d6_1) rfl rfl ?_
  refine own_P (n := 5) (argsL := [(.int (1 : Int32))]) (rest := []) (a := a) X0 hx hZ hown (own_rm_room_0_1 l Z a0 hw a b kb N rest ae h0 n0 Z0 E0 FB FL FA VB EB hl hN g_a g_b) (ww31 hw) (ww32 hw) (by rfl) (ww15 hw) (ww33 hw) (ww3 hw) (ww34 hw) (by decide) hE0 E0 (by rw [hml]; rfl) (lenOf own_pd0 rfl) rfl (hb hby d6_2) (Nat.le_of_ble_eq_true rfl) (Nat.le_of_ble_eq_true rfl) (Nat.le_of_ble_eq_true rfl) (Nat.le_of_ble_eq_true rfl) rfl ?_
  rintro v1 T1 L1 X1 ⟨y1, k1, M1, r1, rfl, Nq1, K1, Eq1, Fb1, Fl1, Fa1, Vb1, Ec1, hl1, hN1, hq1, gb1, hx1⟩
  have N1 := Fr.app N0 Nq1
  have E_2 := E0.keep K1
  have A_3 := VB.keep K1 (by simp [(Ne.symm (own_neEA E0 (ww2 hw) VB))])
  have E_4 := EB.keep K1
  have K_5 := (Keep.refl h0 [a, b]).trans K1 (fun x hx => by cases List.mem_singleton.mp hx; exact (Or.inl (by first | exact List.mem_cons_self | exact List.mem_cons_of_mem _ List.mem_cons_self | exact List.mem_cons_of_mem _ (List.mem_cons_of_mem _ List.mem_cons_self) | (simp; done))))
  have Z_6 : n0 ≤ T1.heap.size := Nat.le_trans Z0 K1.1
  have hb1 : y1 = b ∨ h0.size ≤ y1 := own_orTr (Or.inl rfl : b = b ∨ h0.size ≤ b) hq1 (Keep.refl h0 [a, b]).1
  obtain ⟨x1_0, t1, rfl⟩ := own_ex1 hx1
  change own_G p e below _ _ (mkF m 5 _ [])
  refine own_aloadN (n := 6) X1 hx (hb hby d6_5) rfl rfl rfl ?_
  refine own_getF (n := 9) X1 hx hZ hown (host := "") (Or.inl (ww10 hw)) Via.refl rfl Fb1 (hb hby d6_6) rfl ?_
  intro T7 X7 e7
  refine own_aloadN (n := 10) X7 hx (hb hby d6_9) rfl rfl rfl ?_
  refine own_dup (n := 11) X7 hx (hb hby d6_10) rfl rfl ?_
  refine own_getF (n := 14) X7 hx hZ hown (host := "") (Or.inl (ww35 hw)) Via.refl e7 Fl1 (hb hby d6_11) rfl ?_
  intro T8 X8 e8
  refine own_dup_x1 (n := 15) X8 hx (hb hby d6_14) rfl rfl rfl ?_
  refine own_iconst (n := 16) (z := (1 : Int32)) X8 hx (hb hby d6_15) rfl rfl ?_
  refine own_iadd (n := 17) (z := (1 : Int32)) X8 hx (hb hby d6_16) rfl rfl ?_
  refine own_putF (n := 20) X8 hx hZ hown (host := "") (Or.inl (ww35 hw)) Via.refl e8 Fl1 E_2 (Or.inl (ww36 hw)) (ww2 hw) (ty := .int) (by decide) rfl rfl (hb hby d6_17) rfl ?_
  intro T9 h9 X9 e9 W9
  have F_10 := Fl1.same W9
  have N9 := Fr.snoc X9 N1 g_a
  have E_11 := E_2.wr W9
  have K_12 := K_5.wr W9 (Or.inl (by first | exact List.mem_cons_self | exact List.mem_cons_of_mem _ List.mem_cons_self | exact List.mem_cons_of_mem _ (List.mem_cons_of_mem _ List.mem_cons_self) | (simp; done)))
  have F_13 := Fb1.other W9 (Or.inr (slot_ne (Or.inl (ww11 hw)) (Or.inl (ww36 hw)) (by decide) (t := (.array .byte)) (t' := .int) (by decide) (by decide)))
  have F_14 := Fa1.other W9 (Or.inr (slot_ne (Or.inl (ww26 hw)) (Or.inl (ww36 hw)) (by decide) (t := .boolean) (t' := .int) (by decide) (by decide)))
  have A_15 := Vb1.other W9 (Ne.symm (own_neEA E_2 (ww2 hw) Vb1))
  have E_16 := Ec1.wr W9
  have Z_17 : n0 ≤ h9.size := by rw [W9.size]; exact Z_6
  refine own_iloadN (n := 21) X9 hx (hb hby d6_20) rfl rfl ?_
  refine own_st_bastore (n := 22) X9 hx hZ e9 A_15 (own_inN (L := 0) rfl (own_arvn A_15) hl1 (by (try simp only [List.length_cons]); omega)) 0 rfl (by (try simp only [List.length_cons]); omega) (hb hby d6_21) rfl ?_
  intro T18 h18 X18 e18 W18 V18q
  rw [hp] at V18q
  have V18 : Arv Z h18 y1 k1 .byte M1 ((.int p1) :: t1) (.int (0 : Int32)) := V18q
  have N18 := Fr.snoc X18 N9 gb1
  have E_19 := E_11.wr W18
  have K_20 := K_12.wr W18 (hb1.elim (fun q => Or.inl (by simp [q])) Or.inr)
  have F_21 := F_13.other W18 (Or.inl (own_neEA E_11 (ww2 hw) A_15))
  have F_22 := F_14.other W18 (Or.inl (own_neEA E_11 (ww2 hw) A_15))
  have E_23 := E_16.wr W18
  have F_24 := F_10.other W18 (Or.inl (own_neEA E_11 (ww2 hw) A_15))
  have Z_25 : n0 ≤ h18.size := by rw [W18.size]; exact Z_17
  have hl_26 : t1.length + 1 = M1.toNatClampNeg := by have q := hl1; (try simp only [List.length_cons] at q); omega
  refine own_retV X18 hx hlk hret e18 (hb hby d6_22) (by decide) (by decide) ?_
  exact ⟨y1, k1, M1, t1, rfl, N18, K_20, E_19, F_21, F_24, F_22, V18, E_23, hl_26, hN1, hb1, gb1⟩
theorem d4_9 : decode prog_96_method_21_code 9 = .ok (.aload_n 0, 1) := by decide +kernel
theorem d4_10 : decode prog_96_method_21_code 10 = .ok (.iconst 0, 1) := by decide +kernel
theorem d4_11 : decode prog_96_method_21_code 11 = .ok (.putfield 41, 3) := by decide +kernel
theorem d4_14 : decode prog_96_method_21_code 14 = .ok (.return_, 1) := by decide +kernel
theorem own_ef4_own_rm_start_0_0 (m : MethodId) (y0 : Addr) (y1 : Int32) : entryFrame m #[(.ref y0), (.int y1)] 2 = mkF m 0 #[.val (.ref y0), .val (.int y1)] [] := by first | (simp [entryFrame, mkF, argsToLocals, Value.category]; done) | rfl
set_option maxRecDepth 65536 in
set_option maxHeartbeats 40000000 in
theorem own_rm_start_0_0 (l : Launch) (Z : State) (a0 : Array Value) (hw : ∀ d ∈ tables_1, d.before a0 Z = true) (a b : Addr) (kb : ClassId) (N : Int32) (rest : List Value) (h0 : Heap) (n0 : Nat) (Z0 : n0 ≤ h0.size) (E0 : Exa Z h0 a "com/example/doseline/doseline/fhir/JsonWriter") (FB : Fld Z h0 a "com/example/doseline/doseline/fhir/JsonWriter" "bytes" "[B" (.ref b)) (FL : Fld Z h0 a "com/example/doseline/doseline/fhir/JsonWriter" "length" "I" (.int (0 : Int32))) (FA : Fld Z h0 a "com/example/doseline/doseline/fhir/JsonWriter" "afterElement" "Z" (.int (0 : Int32))) (VB : Arv Z h0 b kb .byte N (rest) (.int (0 : Int32))) (EB : Exa Z h0 b "[B") (hl : rest.length + 0 = N.toNatClampNeg) (hN : N.toInt ≤ 15) (g_a : n0 ≤ a) (g_b : n0 ≤ b) :
    own_Met l Z (⟨"com/example/doseline/doseline/fhir/JsonWriter", "start", "(B)V"⟩ : MethodName) prog_96_method_21_code 2 none [] ({ frames := 4, cells := 1, slots := 15, locals := 81 } : Room) #[(.ref a), (.int (91 : Int32))] h0 (fun v h L => ∃ (b' : Addr) (k' : ClassId) (N' : Int32) (r' : List Value), v = none ∧ Fr n0 L ∧ Keep h0 h [a, b] ∧ Exa Z h a "com/example/doseline/doseline/fhir/JsonWriter" ∧ Fld Z h a "com/example/doseline/doseline/fhir/JsonWriter" "bytes" "[B" (.ref b') ∧ Fld Z h a "com/example/doseline/doseline/fhir/JsonWriter" "length" "I" (.int (1 : Int32)) ∧ Fld Z h a "com/example/doseline/doseline/fhir/JsonWriter" "afterElement" "Z" (.int (0 : Int32)) ∧ Arv Z h b' k' .byte N' ((.int (91 : Int32)) :: r') (.int (0 : Int32)) ∧ Exa Z h b' "[B" ∧ r'.length + 1 = N'.toNatClampNeg ∧ N'.toInt ≤ 15 ∧ (b' = b ∨ h0.size ≤ b') ∧ n0 ≤ b') := by
  refine own_met own_pn4 ?_
  intro p e s m below meth c s₁ hx hby hml hown hnm hret hlk hZ X0 hE0
  have N0 := Fr.nil n0
  refine own_cast (own_ef4_own_rm_start_0_0 m a (91 : Int32)) ?_
  have hN0 := own_arvn VB
  refine own_aloadN (n := 1) X0 hx (hb hby d4_0) rfl rfl rfl ?_
  refine own_P (n := 4) (argsL := []) (rest := []) (a := a) X0 hx hZ hown (own_rm_sep0 l Z a0 hw a h0 n0 Z0 FA) (ww21 hw) (ww22 hw) (by rfl) (ww15 hw) (ww23 hw) (ww3 hw) (ww24 hw) (by decide) hE0 E0 (by rw [hml]; rfl) (lenOf own_pd1 rfl) rfl (hb hby d4_1) (Nat.le_of_ble_eq_true rfl) (Nat.le_of_ble_eq_true rfl) (Nat.le_of_ble_eq_true rfl) (Nat.le_of_ble_eq_true rfl) rfl ?_
  rintro v1 T1 L1 X1 ⟨rfl, Nq1, eq1⟩
  have N1 := Fr.app N0 Nq1
  change own_G p e below _ _ (mkF m 4 _ [])
  refine own_aloadN (n := 5) X1 hx (hb hby d4_4) rfl rfl rfl ?_
  refine own_iloadN (n := 6) X1 hx (hb hby d4_5) rfl rfl ?_
  refine own_P (n := 9) (argsL := [(.int (91 : Int32))]) (rest := []) (a := a) X1 hx hZ hown (own_rm_wb_0 l Z a0 hw a b kb N rest (0 : Int32) (91 : Int32) h0 n0 Z0 E0 FB FL FA VB EB hl hN g_a g_b (by decide)) (ww27 hw) (ww28 hw) (by rfl) (ww15 hw) (ww29 hw) (ww3 hw) (ww30 hw) (by decide) eq1 E0 (by rw [hml]; rfl) (lenOf own_pd8 rfl) rfl (hb hby d4_6) (Nat.le_of_ble_eq_true rfl) (Nat.le_of_ble_eq_true rfl) (Nat.le_of_ble_eq_true rfl) (Nat.le_of_ble_eq_true rfl) rfl ?_
  rintro v2 T2 L2 X2 ⟨y2, k2, M2, r2, rfl, Nq2, K2, Eq2, Fb2, Fl2, Fa2, Vb2, Ec2, hl2, hN2, hq2, gb2⟩
  have N2 := Fr.app N1 Nq2
  have E_3 := E0.keep K2
  have E_4 := EB.keep K2
  have K_5 := (Keep.refl h0 [a, b]).trans K2 (fun x hx => by simp only [List.mem_cons, List.not_mem_nil, or_false] at hx; rcases hx with rfl | rfl <;> first | exact (Or.inl (by first | exact List.mem_cons_self | exact List.mem_cons_of_mem _ List.mem_cons_self | exact List.mem_cons_of_mem _ (List.mem_cons_of_mem _ List.mem_cons_self) | (simp; done))))
  have Z_6 : n0 ≤ T2.heap.size := Nat.le_trans Z0 K2.1
  have hb2 : y2 = b ∨ h0.size ≤ y2 := own_orTr (Or.inl rfl : b = b ∨ h0.size ≤ b) hq2 (Keep.refl h0 [a, b]).1
  change own_G p e below _ _ (mkF m 9 _ [])
  refine own_aloadN (n := 10) X2 hx (hb hby d4_9) rfl rfl rfl ?_
  refine own_iconst (n := 11) (z := (0 : Int32)) X2 hx (hb hby d4_10) rfl rfl ?_
  refine own_putFN (n := 14) X2 hx hZ hown (ww25 hw) Via.refl rfl Fa2 E_3 (Or.inl (ww26 hw)) (ww2 hw) (ty := .boolean) (v' := (.int (0 : Int32))) (by decide) rfl (by decide) (hb hby d4_11) rfl ?_
  intro T7 h7 X7 e7 W7
  have F_8 := Fa2.same W7
  have N7 := Fr.snoc X7 N2 g_a
  have E_9 := E_3.wr W7
  have K_10 := K_5.wr W7 (Or.inl (by first | exact List.mem_cons_self | exact List.mem_cons_of_mem _ List.mem_cons_self | exact List.mem_cons_of_mem _ (List.mem_cons_of_mem _ List.mem_cons_self) | (simp; done)))
  have F_11 := Fb2.other W7 (Or.inr (slot_ne (Or.inl (ww11 hw)) (Or.inl (ww26 hw)) (by decide) (t := (.array .byte)) (t' := .boolean) (by decide) (by decide)))
  have F_12 := Fl2.other W7 (Or.inr (slot_ne (Or.inl (ww36 hw)) (Or.inl (ww26 hw)) (by decide) (t := .int) (t' := .boolean) (by decide) (by decide)))
  have A_13 := Vb2.other W7 (Ne.symm (own_neEA E_3 (ww2 hw) Vb2))
  have E_14 := Ec2.wr W7
  have Z_15 : n0 ≤ h7.size := by rw [W7.size]; exact Z_6
  refine own_retV X7 hx hlk hret e7 (hb hby d4_14) (by decide) (by decide) ?_
  exact ⟨y2, k2, M2, r2, rfl, N7, K_10, E_9, F_11, F_12, F_8, A_13, E_14, hl2, hN2, hb2, gb2⟩
theorem d3_6 : decode prog_96_method_9_code 6 = .ok (.return_, 1) := by decide +kernel
theorem own_ef3_own_rm_startArray_0_0 (m : MethodId) (y0 : Addr) : entryFrame m #[(.ref y0)] 1 = mkF m 0 #[.val (.ref y0)] [] := by first | (simp [entryFrame, mkF, argsToLocals, Value.category]; done) | rfl
set_option maxRecDepth 65536 in
set_option maxHeartbeats 40000000 in
theorem own_rm_startArray_0_0 (l : Launch) (Z : State) (a0 : Array Value) (hw : ∀ d ∈ tables_1, d.before a0 Z = true) (a b : Addr) (kb : ClassId) (N : Int32) (rest : List Value) (h0 : Heap) (n0 : Nat) (Z0 : n0 ≤ h0.size) (E0 : Exa Z h0 a "com/example/doseline/doseline/fhir/JsonWriter") (FB : Fld Z h0 a "com/example/doseline/doseline/fhir/JsonWriter" "bytes" "[B" (.ref b)) (FL : Fld Z h0 a "com/example/doseline/doseline/fhir/JsonWriter" "length" "I" (.int (0 : Int32))) (FA : Fld Z h0 a "com/example/doseline/doseline/fhir/JsonWriter" "afterElement" "Z" (.int (0 : Int32))) (VB : Arv Z h0 b kb .byte N (rest) (.int (0 : Int32))) (EB : Exa Z h0 b "[B") (hl : rest.length + 0 = N.toNatClampNeg) (hN : N.toInt ≤ 15) (g_a : n0 ≤ a) (g_b : n0 ≤ b) :
    own_Met l Z (⟨"com/example/doseline/doseline/fhir/JsonWriter", "startArray", "()V"⟩ : MethodName) prog_96_method_9_code 1 none [] ({ frames := 5, cells := 1, slots := 15, locals := 94 } : Room) #[(.ref a)] h0 (fun v h L => ∃ (b' : Addr) (k' : ClassId) (N' : Int32) (r' : List Value), v = none ∧ Fr n0 L ∧ Keep h0 h [a, b] ∧ Exa Z h a "com/example/doseline/doseline/fhir/JsonWriter" ∧ Fld Z h a "com/example/doseline/doseline/fhir/JsonWriter" "bytes" "[B" (.ref b') ∧ Fld Z h a "com/example/doseline/doseline/fhir/JsonWriter" "length" "I" (.int (1 : Int32)) ∧ Fld Z h a "com/example/doseline/doseline/fhir/JsonWriter" "afterElement" "Z" (.int (0 : Int32)) ∧ Arv Z h b' k' .byte N' ((.int (91 : Int32)) :: r') (.int (0 : Int32)) ∧ Exa Z h b' "[B" ∧ r'.length + 1 = N'.toNatClampNeg ∧ N'.toInt ≤ 15 ∧ (b' = b ∨ h0.size ≤ b') ∧ n0 ≤ b') := by
  refine own_met own_pn3 ?_
  intro p e s m below meth c s₁ hx hby hml hown hnm hret hlk hZ X0 hE0
  have N0 := Fr.nil n0
  refine own_cast (own_ef3_own_rm_startArray_0_0 m a) ?_
  have hN0 := own_arvn VB
  refine own_aloadN (n := 1) X0 hx (hb hby d3_0) rfl rfl rfl ?_
  refine own_bipush (n := 3) (z := (91 : Int32)) X0 hx (hb hby d3_1) rfl rfl ?_
  refine own_P (n := 6) (argsL := [(.int (91 : Int32))]) (rest := []) (a := a) X0 hx hZ hown (own_rm_start_0_0 l Z a0 hw a b kb N rest h0 n0 Z0 E0 FB FL FA VB EB hl hN g_a g_b) (ww17 hw) (ww18 hw) (by rfl) (ww15 hw) (ww19 hw) (ww3 hw) (ww20 hw) (by decide) hE0 E0 (by rw [hml]; rfl) (lenOf own_pd8 rfl) rfl (hb hby d3_3) (Nat.le_of_ble_eq_true rfl) (Nat.le_of_ble_eq_true rfl) (Nat.le_of_ble_eq_true rfl) (Nat.le_of_ble_eq_true rfl) rfl ?_
  rintro v1 T1 L1 X1 ⟨y1, k1, M1, r1, rfl, Nq1, K1, Eq1, Fb1, Fl1, Fa1, Vb1, Ec1, hl1, hN1, hq1, gb1⟩
  have N1 := Fr.app N0 Nq1
  have E_2 := E0.keep K1
  have E_3 := EB.keep K1
  have K_4 := (Keep.refl h0 [a, b]).trans K1 (fun x hx => by simp only [List.mem_cons, List.not_mem_nil, or_false] at hx; rcases hx with rfl | rfl <;> first | exact (Or.inl (by first | exact List.mem_cons_self | exact List.mem_cons_of_mem _ List.mem_cons_self | exact List.mem_cons_of_mem _ (List.mem_cons_of_mem _ List.mem_cons_self) | (simp; done))))
  have Z_5 : n0 ≤ T1.heap.size := Nat.le_trans Z0 K1.1
  have hb1 : y1 = b ∨ h0.size ≤ y1 := own_orTr (Or.inl rfl : b = b ∨ h0.size ≤ b) hq1 (Keep.refl h0 [a, b]).1
  change own_G p e below _ _ (mkF m 6 _ [])
  refine own_retV X1 hx hlk hret rfl (hb hby d3_6) (by decide) (by decide) ?_
  exact ⟨y1, k1, M1, r1, rfl, N1, K_4, E_2, Fb1, Fl1, Fa1, Vb1, Ec1, hl1, hN1, hb1, gb1⟩
theorem own_ef7_own_rm_room_1_3 (m : MethodId) (y0 : Addr) (y1 : Int32) : entryFrame m #[(.ref y0), (.int y1)] 2 = mkF m 0 #[.val (.ref y0), .val (.int y1)] [] := by first | (simp [entryFrame, mkF, argsToLocals, Value.category]; done) | rfl
set_option maxRecDepth 65536 in
set_option maxHeartbeats 40000000 in
theorem own_rm_room_1_3 (l : Launch) (Z : State) (a0 : Array Value) (hw : ∀ d ∈ tables_1, d.before a0 Z = true) (a b : Addr) (kb : ClassId) (N : Int32) (rest : List Value) (ae : Int32) (c0 : Int32) (h0 : Heap) (n0 : Nat) (Z0 : n0 ≤ h0.size) (E0 : Exa Z h0 a "com/example/doseline/doseline/fhir/JsonWriter") (FB : Fld Z h0 a "com/example/doseline/doseline/fhir/JsonWriter" "bytes" "[B" (.ref b)) (FL : Fld Z h0 a "com/example/doseline/doseline/fhir/JsonWriter" "length" "I" (.int (1 : Int32))) (FA : Fld Z h0 a "com/example/doseline/doseline/fhir/JsonWriter" "afterElement" "Z" (.int ae)) (VB : Arv Z h0 b kb .byte N ((.int c0) :: rest) (.int (0 : Int32))) (EB : Exa Z h0 b "[B") (hl : rest.length + 1 = N.toNatClampNeg) (hN : N.toInt ≤ 15) (g_a : n0 ≤ a) (g_b : n0 ≤ b) :
    own_Met l Z (⟨"com/example/doseline/doseline/fhir/JsonWriter", "room", "(I)V"⟩ : MethodName) prog_96_method_28_code 2 none [] ({ frames := 2, cells := 1, slots := 15, locals := 55 } : Room) #[(.ref a), (.int (3 : Int32))] h0 (fun v h L => ∃ (b' : Addr) (k' : ClassId) (N' : Int32) (r' : List Value), v = none ∧ Fr n0 L ∧ Keep h0 h [a] ∧ Exa Z h a "com/example/doseline/doseline/fhir/JsonWriter" ∧ Fld Z h a "com/example/doseline/doseline/fhir/JsonWriter" "bytes" "[B" (.ref b') ∧ Fld Z h a "com/example/doseline/doseline/fhir/JsonWriter" "length" "I" (.int (1 : Int32)) ∧ Fld Z h a "com/example/doseline/doseline/fhir/JsonWriter" "afterElement" "Z" (.int ae) ∧ Arv Z h b' k' .byte N' ((.int c0) :: r') (.int (0 : Int32)) ∧ Exa Z h b' "[B" ∧ r'.length + 1 = N'.toNatClampNeg ∧ N'.toInt ≤ 15 ∧ (b' = b ∨ h0.size ≤ b') ∧ n0 ≤ b' ∧ 3 ≤ r'.length) := by
  refine own_met own_pn7 ?_
  intro p e s m below meth c s₁ hx hby hml hown hnm hret hlk hZ X0 hE0
  have N0 := Fr.nil n0
  refine own_cast (own_ef7_own_rm_room_1_3 m a (3 : Int32)) ?_
  have hN0 := own_arvn VB
  refine own_iloadN (n := 1) X0 hx (hb hby d7_0) rfl rfl ?_
  refine own_aloadN (n := 2) X0 hx (hb hby d7_1) rfl rfl rfl ?_
  refine own_getF (n := 5) X0 hx hZ hown (host := "") (Or.inl (ww10 hw)) Via.refl hE0 FB (hb hby d7_2) rfl ?_
  intro T1 X1 e1
  refine own_len (n := 6) X1 hx hZ e1 VB (hb hby d7_5) rfl ?_
  refine own_aloadN (n := 7) X1 hx (hb hby d7_6) rfl rfl rfl ?_
  refine own_getF (n := 10) X1 hx hZ hown (host := "") (Or.inl (ww35 hw)) Via.refl e1 FL (hb hby d7_7) rfl ?_
  intro T2 X2 e2
  refine own_isub (n := 11) X2 hx (hb hby d7_10) rfl rfl ?_
  by_cases hc11_3 : (N - (1 : Int32)) < (3 : Int32)
  · skip
    have hgr := own_grow (N := N) (l := (1 : Int32)) (n := (3 : Int32)) (q := (4 : Int32)) (r := rest) (L := 1) (m := 3) rfl rfl rfl (by decide) hN0 hN hl hc11_3
    refine own_icmpNo (n := 14) X2 hx (hb hby d7_11) (tlt hc11_3).2.2.2 rfl ?_
    refine own_aloadN (n := 15) X2 hx (hb hby d7_14) rfl rfl rfl ?_
    refine own_aloadN (n := 16) X2 hx (hb hby d7_15) rfl rfl rfl ?_
    refine own_getF (n := 19) X2 hx hZ hown (host := "") (Or.inl (ww10 hw)) Via.refl e2 FB (hb hby d7_16) rfl ?_
    intro T4 X4 e4
    refine own_aloadN (n := 20) X4 hx (hb hby d7_19) rfl rfl rfl ?_
    refine own_getF (n := 23) X4 hx hZ hown (host := "") (Or.inl (ww10 hw)) Via.refl e4 FB (hb hby d7_20) rfl ?_
    intro T5 X5 e5
    refine own_len (n := 24) X5 hx hZ e5 VB (hb hby d7_23) rfl ?_
    refine own_iconst (n := 25) (z := (2 : Int32)) X5 hx (hb hby d7_24) rfl rfl ?_
    refine own_imul (n := 26) X5 hx (hb hby d7_25) rfl rfl ?_
    refine own_aloadN (n := 27) X5 hx (hb hby d7_26) rfl rfl rfl ?_
    refine own_getF (n := 30) X5 hx hZ hown (host := "") (Or.inl (ww35 hw)) Via.refl e5 FL (hb hby d7_27) rfl ?_
    intro T6 X6 e6
    refine own_iloadN (n := 31) X6 hx (hb hby d7_30) rfl rfl ?_
    refine own_iadd (n := 32) (z := (4 : Int32)) X6 hx (hb hby d7_31) rfl rfl ?_
    refine own_S (n := 35) (argsL := [(.int (N * (2 : Int32))), (.int (4 : Int32))]) (rest := [(.ref b), (.ref a)]) X6 hx hZ hown (own_rm_max l Z a0 hw (N * (2 : Int32)) (4 : Int32) h0 n0 Z0) (ww37 hw) (ww38 hw) (ww39 hw) (ww40 hw) (by decide) e6 (by rw [hml]; rfl) (lenOf own_pd2 rfl) rfl (hb hby d7_32) (Nat.le_of_ble_eq_true rfl) (Nat.le_of_ble_eq_true rfl) (Nat.le_of_ble_eq_true rfl) (Nat.le_of_ble_eq_true rfl) rfl ?_
    rintro v7 T7 L7 X7 ⟨rfl, Nq7, eq7⟩
    have N7 := Fr.app N0 Nq7
    change own_G p e below _ _ (mkF m 35 _ [(.int (own_max (N * (2 : Int32)) (4 : Int32))), (.ref b), (.ref a)])
    refine own_S (n := 38) (argsL := [(.ref b), (.int (own_max (N * (2 : Int32)) (4 : Int32)))]) (rest := [(.ref a)]) X7 hx hZ hown (own_rm_copy15 l Z a0 hw b kb N (own_max (N * (2 : Int32)) (4 : Int32)) ((.int c0) :: rest) h0 n0 Z0 VB (by (try simp only [List.length_cons]); omega) EB hgr.1 hgr.2.1) (ww41 hw) (ww42 hw) (ww43 hw) (ww44 hw) (by decide) eq7 (by rw [hml]; rfl) (lenOf own_pd3 rfl) rfl (hb hby d7_35) (Nat.le_of_ble_eq_true rfl) (Nat.le_of_ble_eq_true rfl) (Nat.le_of_ble_eq_true rfl) (Nat.le_of_ble_eq_true rfl) rfl ?_
    rintro v8 T8 L8 X8 ⟨y8, k8, rfl, Nq8, K8, sz8, gb8, Vb8, Ec8⟩
    have N8 := Fr.app N7 Nq8
    have E_9 := E0.keep K8
    have F_10 := FB.keep K8 (by simp)
    have F_11 := FL.keep K8 (by simp)
    have F_12 := FA.keep K8 (by simp)
    have A_13 := VB.keep K8 (by simp)
    have E_14 := EB.keep K8
    have K_15 := (Keep.refl h0 [a]).trans K8 (fun x hx => nomatch hx)
    have Z_16 : n0 ≤ T8.heap.size := Nat.le_trans Z0 K8.1
    have Vc8 : Arv Z T8.heap y8 k8 .byte (own_max (N * (2 : Int32)) (4 : Int32)) ((.int c0) :: (rest ++ List.replicate (α := Value) (((own_max (N * (2 : Int32)) (4 : Int32))).toNatClampNeg - N.toNatClampNeg) (.int (0 : Int32)))) (.int (0 : Int32)) := by have q := Vb8; rw [List.take_of_length_le (by (try simp only [List.length_cons]); omega)] at q; exact q
    have hl8 : (rest ++ List.replicate (α := Value) (((own_max (N * (2 : Int32)) (4 : Int32))).toNatClampNeg - N.toNatClampNeg) (.int (0 : Int32))).length + 1 = ((own_max (N * (2 : Int32)) (4 : Int32))).toNatClampNeg := by rw [List.length_append, List.length_replicate]; omega
    have hx8 : 3 ≤ (rest ++ List.replicate (α := Value) (((own_max (N * (2 : Int32)) (4 : Int32))).toNatClampNeg - N.toNatClampNeg) (.int (0 : Int32))).length := by have := hl8; omega
    change own_G p e below _ _ (mkF m 38 _ [(.ref y8), (.ref a)])
    refine own_putF (n := 41) X8 hx hZ hown (host := "") (Or.inl (ww10 hw)) Via.refl rfl F_10 E_9 (Or.inl (ww11 hw)) (ww2 hw) (ty := (.array .byte)) (by decide) rfl rfl (hb hby d7_38) rfl ?_
    intro T17 h17 X17 e17 W17
    have F_18 := F_10.same W17
    have N17 := Fr.snoc X17 N8 g_a
    have E_19 := E_9.wr W17
    have F_20 := F_11.other W17 (Or.inr (slot_ne (Or.inl (ww36 hw)) (Or.inl (ww11 hw)) (by decide) (t := .int) (t' := (.array .byte)) (by decide) (by decide)))
    have F_21 := F_12.other W17 (Or.inr (slot_ne (Or.inl (ww26 hw)) (Or.inl (ww11 hw)) (by decide) (t := .boolean) (t' := (.array .byte)) (by decide) (by decide)))
    have A_22 := A_13.other W17 (Ne.symm (own_neEA E_9 (ww2 hw) A_13))
    have E_23 := E_14.wr W17
    have K_24 := K_15.wr W17 (Or.inl (by first | exact List.mem_cons_self | exact List.mem_cons_of_mem _ List.mem_cons_self | exact List.mem_cons_of_mem _ (List.mem_cons_of_mem _ List.mem_cons_self) | (simp; done)))
    have A_25 := Vc8.other W17 (Ne.symm (Nat.ne_of_lt (Nat.lt_of_lt_of_le E0.lt sz8)))
    have E_26 := Ec8.wr W17
    have Z_27 : n0 ≤ h17.size := by rw [W17.size]; exact Z_16
    refine own_retV X17 hx hlk hret e17 (hb hby d7_41) (by decide) (by decide) ?_
    exact ⟨y8, k8, ((own_max (N * (2 : Int32)) (4 : Int32))), (rest ++ List.replicate (α := Value) (((own_max (N * (2 : Int32)) (4 : Int32))).toNatClampNeg - N.toNatClampNeg) (.int (0 : Int32))), rfl, N17, K_24, E_19, F_18, F_20, F_21, A_25, E_26, hl8, hgr.2.2.1, (Or.inr sz8 : y8 = b ∨ h0.size ≤ y8), gb8, hx8⟩
  · skip
    have hx0 : 3 ≤ rest.length := own_roomle (N := N) (l := (1 : Int32)) (n := (3 : Int32)) (L := 1) (m := 3) rfl rfl (by decide) hN0 hN hl hc11_3
    refine own_icmpYes (n := 41) X2 hx (hb hby d7_11) (flt hc11_3).2.2.2 (by decide) (by decide) ?_
    refine own_retV X2 hx hlk hret e2 (hb hby d7_41) (by decide) (by decide) ?_
    exact ⟨b, kb, N, rest, rfl, N0, (Keep.refl h0 [a]), E0, FB, FL, FA, VB, EB, hl, hN, (Or.inl rfl : b = b ∨ h0.size ≤ b), g_b, hx0⟩
theorem own_ef12_own_rm_wa_1_3 (m : MethodId) (y0 : Addr) (y1 : Addr) : entryFrame m #[(.ref y0), (.ref y1)] 2 = mkF m 0 #[.val (.ref y0), .val (.ref y1)] [] := by first | (simp [entryFrame, mkF, argsToLocals, Value.category]; done) | rfl
set_option maxRecDepth 65536 in
set_option maxHeartbeats 40000000 in
theorem own_rm_wa_1_3 (l : Launch) (Z : State) (a0 : Array Value) (hw : ∀ d ∈ tables_1, d.before a0 Z = true) (a b : Addr) (kb : ClassId) (N : Int32) (rest : List Value) (ae : Int32) (c0 : Int32) (sa : Addr) (ks : ClassId) (d0 d1 d2 : Int32) (h0 : Heap) (n0 : Nat) (Z0 : n0 ≤ h0.size) (E0 : Exa Z h0 a "com/example/doseline/doseline/fhir/JsonWriter") (FB : Fld Z h0 a "com/example/doseline/doseline/fhir/JsonWriter" "bytes" "[B" (.ref b)) (FL : Fld Z h0 a "com/example/doseline/doseline/fhir/JsonWriter" "length" "I" (.int (1 : Int32))) (FA : Fld Z h0 a "com/example/doseline/doseline/fhir/JsonWriter" "afterElement" "Z" (.int ae)) (VB : Arv Z h0 b kb .byte N ((.int c0) :: rest) (.int (0 : Int32))) (EB : Exa Z h0 b "[B") (hl : rest.length + 1 = N.toNatClampNeg) (hN : N.toInt ≤ 15) (g_a : n0 ≤ a) (g_b : n0 ≤ b) (VS : Arv Z h0 sa ks .byte (3 : Int32) [(.int d0), (.int d1), (.int d2)] (.int (0 : Int32))) (hsb : sa ≠ b) :
    own_Met l Z (⟨"com/example/doseline/doseline/fhir/JsonWriter", "write", "([B)V"⟩ : MethodName) prog_96_method_27_code 2 none [] ({ frames := 3, cells := 1, slots := 15, locals := 68 } : Room) #[(.ref a), (.ref sa)] h0 (fun v h L => ∃ (b' : Addr) (k' : ClassId) (N' : Int32) (r' : List Value), v = none ∧ Fr n0 L ∧ Keep h0 h [a, b] ∧ Exa Z h a "com/example/doseline/doseline/fhir/JsonWriter" ∧ Fld Z h a "com/example/doseline/doseline/fhir/JsonWriter" "bytes" "[B" (.ref b') ∧ Fld Z h a "com/example/doseline/doseline/fhir/JsonWriter" "length" "I" (.int (4 : Int32)) ∧ Fld Z h a "com/example/doseline/doseline/fhir/JsonWriter" "afterElement" "Z" (.int ae) ∧ Arv Z h b' k' .byte N' ((.int c0) :: (.int d0) :: (.int d1) :: (.int d2) :: r') (.int (0 : Int32)) ∧ Exa Z h b' "[B" ∧ r'.length + 4 = N'.toNatClampNeg ∧ N'.toInt ≤ 15 ∧ (b' = b ∨ h0.size ≤ b') ∧ n0 ≤ b') := by
  refine own_met own_pn12 ?_
  intro p e s m below meth c s₁ hx hby hml hown hnm hret hlk hZ X0 hE0
  have N0 := Fr.nil n0
  refine own_cast (own_ef12_own_rm_wa_1_3 m a sa) ?_
  have hN0 := own_arvn VB
  refine own_aloadN (n := 1) X0 hx (hb hby d12_0) rfl rfl rfl ?_
  refine own_aloadN (n := 2) X0 hx (hb hby d12_1) rfl rfl rfl ?_
  refine own_len (n := 3) X0 hx hZ hE0 VS (hb hby d12_2) rfl ?_
  refine own_P (n := 6) (argsL := [(.int (3 : Int32))]) (rest := []) (a := a) X0 hx hZ hown (own_rm_room_1_3 l Z a0 hw a b kb N rest ae c0 h0 n0 Z0 E0 FB FL FA VB EB hl hN g_a g_b) (ww31 hw) (ww32 hw) (by rfl) (ww15 hw) (ww33 hw) (ww3 hw) (ww34 hw) (by decide) hE0 E0 (by rw [hml]; rfl) (lenOf own_pd0 rfl) rfl (hb hby d12_3) (Nat.le_of_ble_eq_true rfl) (Nat.le_of_ble_eq_true rfl) (Nat.le_of_ble_eq_true rfl) (Nat.le_of_ble_eq_true rfl) rfl ?_
  rintro v1 T1 L1 X1 ⟨y1, k1, M1, r1, rfl, Nq1, K1, Eq1, Fb1, Fl1, Fa1, Vb1, Ec1, hl1, hN1, hq1, gb1, hx1⟩
  have N1 := Fr.app N0 Nq1
  have E_2 := E0.keep K1
  have A_3 := VB.keep K1 (by simp [(Ne.symm (own_neEA E0 (ww2 hw) VB))])
  have E_4 := EB.keep K1
  have A_5 := VS.keep K1 (by simp [(Ne.symm (own_neEA E0 (ww2 hw) VS))])
  have K_6 := (Keep.refl h0 [a, b]).trans K1 (fun x hx => by cases List.mem_singleton.mp hx; exact (Or.inl (by first | exact List.mem_cons_self | exact List.mem_cons_of_mem _ List.mem_cons_self | exact List.mem_cons_of_mem _ (List.mem_cons_of_mem _ List.mem_cons_self) | (simp; done))))
  have Z_7 : n0 ≤ T1.heap.size := Nat.le_trans Z0 K1.1
  have nw_sa_1 : sa ≠ y1 := own_neOr hq1 hsb VS.lt
  have hb1 : y1 = b ∨ h0.size ≤ y1 := own_orTr (Or.inl rfl : b = b ∨ h0.size ≤ b) hq1 (Keep.refl h0 [a, b]).1
  obtain ⟨x1_0, x1_1, x1_2, t1, rfl⟩ := own_ex3 hx1
  change own_G p e below _ _ (mkF m 6 _ [])
  refine own_aloadN (n := 7) X1 hx (hb hby d12_6) rfl rfl rfl ?_
  refine own_iconst (n := 8) (z := (0 : Int32)) X1 hx (hb hby d12_7) rfl rfl ?_
  refine own_aloadN (n := 9) X1 hx (hb hby d12_8) rfl rfl rfl ?_
  refine own_getF (n := 12) X1 hx hZ hown (host := "") (Or.inl (ww10 hw)) Via.refl rfl Fb1 (hb hby d12_9) rfl ?_
  intro T8 X8 e8
  refine own_aloadN (n := 13) X8 hx (hb hby d12_12) rfl rfl rfl ?_
  refine own_getF (n := 16) X8 hx hZ hown (host := "") (Or.inl (ww35 hw)) Via.refl e8 Fl1 (hb hby d12_13) rfl ?_
  intro T9 X9 e9
  refine own_aloadN (n := 17) X9 hx (hb hby d12_16) rfl rfl rfl ?_
  refine own_len (n := 18) X9 hx hZ e9 A_5 (hb hby d12_17) rfl ?_
  obtain ⟨T10, h10, L10, X10, e10, N10, K10, V10q, st10⟩ := cpA X9 hx hZ hown (ww61 hw) (ww51 hw) (ww49 hw) (ww50 hw) e9 A_5 Vb1 (Or.inl ⟨rfl, rfl⟩) (by decide) (by decide) (by decide) (by decide) (by show 1 + 3 ≤ _; have q := hl1; (try simp only [List.length_cons] at q); omega) (us := [(.int d0), (.int d1), (.int d2)]) rfl (by show 1 + 3 ≤ _; (try simp only [List.length_cons]); omega) N1 gb1 (g := (mkF m 18 #[.val (.ref a), .val (.ref sa)] [(.int (3 : Int32)), (.int (1 : Int32)), (.ref y1), (.int (0 : Int32)), (.ref sa)])) rfl (by rw [hml]; rfl) rfl (hb hby d12_18) (by decide) (W := 0) (by show 2 * 0 + _ ≤ _; exact Nat.le_of_eq rfl) (by decide)
  have V10 : Arv Z h10 y1 k1 .byte M1 ((.int c0) :: (.int d0) :: (.int d1) :: (.int d2) :: t1) (.int (0 : Int32)) := V10q
  have E_11 := E_2.keep K10
  have A_12 := A_5.keep K10 (by simp [nw_sa_1])
  have K_13 := K_6.trans K10 (fun x hx => by cases List.mem_singleton.mp hx; exact (hb1.elim (fun q => Or.inl (by simp [q])) Or.inr))
  have F_14 := Fb1.keep K10 (by simp [(own_neEA E_2 (ww2 hw) Vb1)])
  have F_15 := Fl1.keep K10 (by simp [(own_neEA E_2 (ww2 hw) Vb1)])
  have F_16 := Fa1.keep K10 (by simp [(own_neEA E_2 (ww2 hw) Vb1)])
  have E_17 := Ec1.keep K10
  have Z_18 : n0 ≤ h10.size := Nat.le_trans Z_7 K10.1
  refine own_go (T' := T10) (f' := (mkF m 21 #[.val (.ref a), .val (.ref sa)] [])) st10 ?_
  refine own_aloadN (n := 22) X10 hx (hb hby d12_21) rfl rfl rfl ?_
  refine own_dup (n := 23) X10 hx (hb hby d12_22) rfl rfl ?_
  refine own_getF (n := 26) X10 hx hZ hown (host := "") (Or.inl (ww35 hw)) Via.refl e10 F_15 (hb hby d12_23) rfl ?_
  intro T19 X19 e19
  refine own_aloadN (n := 27) X19 hx (hb hby d12_26) rfl rfl rfl ?_
  refine own_len (n := 28) X19 hx hZ e19 A_12 (hb hby d12_27) rfl ?_
  refine own_iadd (n := 29) (z := (4 : Int32)) X19 hx (hb hby d12_28) rfl rfl ?_
  refine own_putF (n := 32) X19 hx hZ hown (host := "") (Or.inl (ww35 hw)) Via.refl e19 F_15 E_11 (Or.inl (ww36 hw)) (ww2 hw) (ty := .int) (by decide) rfl rfl (hb hby d12_29) rfl ?_
  intro T20 h20 X20 e20 W20
  have F_21 := F_15.same W20
  have N20 := Fr.snoc X20 N10 g_a
  have E_22 := E_11.wr W20
  have A_23 := A_12.other W20 (Ne.symm (own_neEA E_11 (ww2 hw) A_12))
  have K_24 := K_13.wr W20 (Or.inl (by first | exact List.mem_cons_self | exact List.mem_cons_of_mem _ List.mem_cons_self | exact List.mem_cons_of_mem _ (List.mem_cons_of_mem _ List.mem_cons_self) | (simp; done)))
  have F_25 := F_14.other W20 (Or.inr (slot_ne (Or.inl (ww11 hw)) (Or.inl (ww36 hw)) (by decide) (t := (.array .byte)) (t' := .int) (by decide) (by decide)))
  have F_26 := F_16.other W20 (Or.inr (slot_ne (Or.inl (ww26 hw)) (Or.inl (ww36 hw)) (by decide) (t := .boolean) (t' := .int) (by decide) (by decide)))
  have E_27 := E_17.wr W20
  have A_28 := V10.other W20 (Ne.symm (own_neEA E_11 (ww2 hw) V10))
  have Z_29 : n0 ≤ h20.size := by rw [W20.size]; exact Z_18
  have hl_30 : t1.length + 4 = M1.toNatClampNeg := by have q := hl1; (try simp only [List.length_cons] at q); omega
  refine own_retV X20 hx hlk hret e20 (hb hby d12_32) (by decide) (by decide) ?_
  exact ⟨y1, k1, M1, t1, rfl, N20, K_24, E_22, F_25, F_21, F_26, A_28, E_27, hl_30, hN1, hb1, gb1⟩
theorem own_ef11_own_rm_val_1_0_3 (m : MethodId) (y0 : Addr) (y1 : Addr) : entryFrame m #[(.ref y0), (.ref y1)] 2 = mkF m 0 #[.val (.ref y0), .val (.ref y1)] [] := by first | (simp [entryFrame, mkF, argsToLocals, Value.category]; done) | rfl
set_option maxRecDepth 65536 in
set_option maxHeartbeats 40000000 in
theorem own_rm_val_1_0_3 (l : Launch) (Z : State) (a0 : Array Value) (hw : ∀ d ∈ tables_1, d.before a0 Z = true) (a b : Addr) (kb : ClassId) (N : Int32) (rest : List Value) (c0 : Int32) (sa : Addr) (ks : ClassId) (d0 d1 d2 : Int32) (h0 : Heap) (n0 : Nat) (Z0 : n0 ≤ h0.size) (E0 : Exa Z h0 a "com/example/doseline/doseline/fhir/JsonWriter") (FB : Fld Z h0 a "com/example/doseline/doseline/fhir/JsonWriter" "bytes" "[B" (.ref b)) (FL : Fld Z h0 a "com/example/doseline/doseline/fhir/JsonWriter" "length" "I" (.int (1 : Int32))) (FA : Fld Z h0 a "com/example/doseline/doseline/fhir/JsonWriter" "afterElement" "Z" (.int (0 : Int32))) (VB : Arv Z h0 b kb .byte N ((.int c0) :: rest) (.int (0 : Int32))) (EB : Exa Z h0 b "[B") (hl : rest.length + 1 = N.toNatClampNeg) (hN : N.toInt ≤ 15) (g_a : n0 ≤ a) (g_b : n0 ≤ b) (VS : Arv Z h0 sa ks .byte (3 : Int32) [(.int d0), (.int d1), (.int d2)] (.int (0 : Int32))) (hsb : sa ≠ b) :
    own_Met l Z (⟨"com/example/doseline/doseline/fhir/JsonWriter", "value", "([B)V"⟩ : MethodName) prog_96_method_12_code 2 none [] ({ frames := 4, cells := 1, slots := 15, locals := 81 } : Room) #[(.ref a), (.ref sa)] h0 (fun v h L => ∃ (b' : Addr) (k' : ClassId) (N' : Int32) (r' : List Value), v = none ∧ Fr n0 L ∧ Keep h0 h [a, b] ∧ Exa Z h a "com/example/doseline/doseline/fhir/JsonWriter" ∧ Fld Z h a "com/example/doseline/doseline/fhir/JsonWriter" "bytes" "[B" (.ref b') ∧ Fld Z h a "com/example/doseline/doseline/fhir/JsonWriter" "length" "I" (.int (4 : Int32)) ∧ Fld Z h a "com/example/doseline/doseline/fhir/JsonWriter" "afterElement" "Z" (.int (1 : Int32)) ∧ Arv Z h b' k' .byte N' ((.int c0) :: (.int d0) :: (.int d1) :: (.int d2) :: r') (.int (0 : Int32)) ∧ Exa Z h b' "[B" ∧ r'.length + 4 = N'.toNatClampNeg ∧ N'.toInt ≤ 15 ∧ (b' = b ∨ h0.size ≤ b') ∧ n0 ≤ b') := by
  refine own_met own_pn11 ?_
  intro p e s m below meth c s₁ hx hby hml hown hnm hret hlk hZ X0 hE0
  have N0 := Fr.nil n0
  refine own_cast (own_ef11_own_rm_val_1_0_3 m a sa) ?_
  have hN0 := own_arvn VB
  refine own_aloadN (n := 1) X0 hx (hb hby d11_0) rfl rfl rfl ?_
  refine own_P (n := 4) (argsL := []) (rest := []) (a := a) X0 hx hZ hown (own_rm_sep0 l Z a0 hw a h0 n0 Z0 FA) (ww21 hw) (ww22 hw) (by rfl) (ww15 hw) (ww23 hw) (ww3 hw) (ww24 hw) (by decide) hE0 E0 (by rw [hml]; rfl) (lenOf own_pd1 rfl) rfl (hb hby d11_1) (Nat.le_of_ble_eq_true rfl) (Nat.le_of_ble_eq_true rfl) (Nat.le_of_ble_eq_true rfl) (Nat.le_of_ble_eq_true rfl) rfl ?_
  rintro v1 T1 L1 X1 ⟨rfl, Nq1, eq1⟩
  have N1 := Fr.app N0 Nq1
  change own_G p e below _ _ (mkF m 4 _ [])
  refine own_aloadN (n := 5) X1 hx (hb hby d11_4) rfl rfl rfl ?_
  refine own_aloadN (n := 6) X1 hx (hb hby d11_5) rfl rfl rfl ?_
  refine own_P (n := 9) (argsL := [(.ref sa)]) (rest := []) (a := a) X1 hx hZ hown (own_rm_wa_1_3 l Z a0 hw a b kb N rest (0 : Int32) c0 sa ks d0 d1 d2 h0 n0 Z0 E0 FB FL FA VB EB hl hN g_a g_b VS (hsb)) (ww57 hw) (ww58 hw) (by rfl) (ww15 hw) (ww59 hw) (ww3 hw) (ww60 hw) (by decide) eq1 E0 (by rw [hml]; rfl) (lenOf own_pd4 rfl) rfl (hb hby d11_6) (Nat.le_of_ble_eq_true rfl) (Nat.le_of_ble_eq_true rfl) (Nat.le_of_ble_eq_true rfl) (Nat.le_of_ble_eq_true rfl) rfl ?_
  rintro v2 T2 L2 X2 ⟨y2, k2, M2, r2, rfl, Nq2, K2, Eq2, Fb2, Fl2, Fa2, Vb2, Ec2, hl2, hN2, hq2, gb2⟩
  have N2 := Fr.app N1 Nq2
  have E_3 := E0.keep K2
  have E_4 := EB.keep K2
  have A_5 := VS.keep K2 (by simp [(Ne.symm (own_neEA E0 (ww2 hw) VS)), hsb])
  have K_6 := (Keep.refl h0 [a, b]).trans K2 (fun x hx => by simp only [List.mem_cons, List.not_mem_nil, or_false] at hx; rcases hx with rfl | rfl <;> first | exact (Or.inl (by first | exact List.mem_cons_self | exact List.mem_cons_of_mem _ List.mem_cons_self | exact List.mem_cons_of_mem _ (List.mem_cons_of_mem _ List.mem_cons_self) | (simp; done))))
  have Z_7 : n0 ≤ T2.heap.size := Nat.le_trans Z0 K2.1
  have nw_sa_2 : sa ≠ y2 := own_neOr hq2 hsb VS.lt
  have hb2 : y2 = b ∨ h0.size ≤ y2 := own_orTr (Or.inl rfl : b = b ∨ h0.size ≤ b) hq2 (Keep.refl h0 [a, b]).1
  change own_G p e below _ _ (mkF m 9 _ [])
  refine own_aloadN (n := 10) X2 hx (hb hby d11_9) rfl rfl rfl ?_
  refine own_iconst (n := 11) (z := (1 : Int32)) X2 hx (hb hby d11_10) rfl rfl ?_
  refine own_putFN (n := 14) X2 hx hZ hown (ww25 hw) Via.refl rfl Fa2 E_3 (Or.inl (ww26 hw)) (ww2 hw) (ty := .boolean) (v' := (.int (1 : Int32))) (by decide) rfl (by decide) (hb hby d11_11) rfl ?_
  intro T8 h8 X8 e8 W8
  have F_9 := Fa2.same W8
  have N8 := Fr.snoc X8 N2 g_a
  have E_10 := E_3.wr W8
  have A_11 := A_5.other W8 (Ne.symm (own_neEA E_3 (ww2 hw) A_5))
  have K_12 := K_6.wr W8 (Or.inl (by first | exact List.mem_cons_self | exact List.mem_cons_of_mem _ List.mem_cons_self | exact List.mem_cons_of_mem _ (List.mem_cons_of_mem _ List.mem_cons_self) | (simp; done)))
  have F_13 := Fb2.other W8 (Or.inr (slot_ne (Or.inl (ww11 hw)) (Or.inl (ww26 hw)) (by decide) (t := (.array .byte)) (t' := .boolean) (by decide) (by decide)))
  have F_14 := Fl2.other W8 (Or.inr (slot_ne (Or.inl (ww36 hw)) (Or.inl (ww26 hw)) (by decide) (t := .int) (t' := .boolean) (by decide) (by decide)))
  have A_15 := Vb2.other W8 (Ne.symm (own_neEA E_3 (ww2 hw) Vb2))
  have E_16 := Ec2.wr W8
  have Z_17 : n0 ≤ h8.size := by rw [W8.size]; exact Z_7
  refine own_retV X8 hx hlk hret e8 (hb hby d11_14) (by decide) (by decide) ?_
  exact ⟨y2, k2, M2, r2, rfl, N8, K_12, E_10, F_13, F_14, F_9, A_15, E_16, hl2, hN2, hb2, gb2⟩
theorem own_pn13 : plainFor (⟨"com/example/doseline/doseline/fhir/JsonWriter", "endArray", "()V"⟩ : MethodName) = true := plainFor_of_name (by first | (simp [plainName, overriddenIn]; done) | decide +kernel)
theorem d13_0 : decode prog_96_method_10_code 0 = .ok (.aload_n 0, 1) := by decide +kernel
theorem d13_1 : decode prog_96_method_10_code 1 = .ok (.bipush 93, 2) := by decide +kernel
theorem d13_3 : decode prog_96_method_10_code 3 = .ok (.invokevirtual 55, 3) := by decide +kernel
theorem own_pn14 : plainFor (⟨"com/example/doseline/doseline/fhir/JsonWriter", "end", "(B)V"⟩ : MethodName) = true := plainFor_of_name (by first | (simp [plainName, overriddenIn]; done) | decide +kernel)
theorem d14_0 : decode prog_96_method_22_code 0 = .ok (.aload_n 0, 1) := by decide +kernel
theorem d14_1 : decode prog_96_method_22_code 1 = .ok (.iload_n 1, 1) := by decide +kernel
theorem d14_2 : decode prog_96_method_22_code 2 = .ok (.invokevirtual 68, 3) := by decide +kernel
theorem own_ef7_own_rm_room_4_1 (m : MethodId) (y0 : Addr) (y1 : Int32) : entryFrame m #[(.ref y0), (.int y1)] 2 = mkF m 0 #[.val (.ref y0), .val (.int y1)] [] := by first | (simp [entryFrame, mkF, argsToLocals, Value.category]; done) | rfl
set_option maxRecDepth 65536 in
set_option maxHeartbeats 40000000 in
theorem own_rm_room_4_1 (l : Launch) (Z : State) (a0 : Array Value) (hw : ∀ d ∈ tables_1, d.before a0 Z = true) (a b : Addr) (kb : ClassId) (N : Int32) (rest : List Value) (ae : Int32) (c0 c1 c2 c3 : Int32) (h0 : Heap) (n0 : Nat) (Z0 : n0 ≤ h0.size) (E0 : Exa Z h0 a "com/example/doseline/doseline/fhir/JsonWriter") (FB : Fld Z h0 a "com/example/doseline/doseline/fhir/JsonWriter" "bytes" "[B" (.ref b)) (FL : Fld Z h0 a "com/example/doseline/doseline/fhir/JsonWriter" "length" "I" (.int (4 : Int32))) (FA : Fld Z h0 a "com/example/doseline/doseline/fhir/JsonWriter" "afterElement" "Z" (.int ae)) (VB : Arv Z h0 b kb .byte N ((.int c0) :: (.int c1) :: (.int c2) :: (.int c3) :: rest) (.int (0 : Int32))) (EB : Exa Z h0 b "[B") (hl : rest.length + 4 = N.toNatClampNeg) (hN : N.toInt ≤ 15) (g_a : n0 ≤ a) (g_b : n0 ≤ b) :
    own_Met l Z (⟨"com/example/doseline/doseline/fhir/JsonWriter", "room", "(I)V"⟩ : MethodName) prog_96_method_28_code 2 none [] ({ frames := 2, cells := 1, slots := 15, locals := 55 } : Room) #[(.ref a), (.int (1 : Int32))] h0 (fun v h L => ∃ (b' : Addr) (k' : ClassId) (N' : Int32) (r' : List Value), v = none ∧ Fr n0 L ∧ Keep h0 h [a] ∧ Exa Z h a "com/example/doseline/doseline/fhir/JsonWriter" ∧ Fld Z h a "com/example/doseline/doseline/fhir/JsonWriter" "bytes" "[B" (.ref b') ∧ Fld Z h a "com/example/doseline/doseline/fhir/JsonWriter" "length" "I" (.int (4 : Int32)) ∧ Fld Z h a "com/example/doseline/doseline/fhir/JsonWriter" "afterElement" "Z" (.int ae) ∧ Arv Z h b' k' .byte N' ((.int c0) :: (.int c1) :: (.int c2) :: (.int c3) :: r') (.int (0 : Int32)) ∧ Exa Z h b' "[B" ∧ r'.length + 4 = N'.toNatClampNeg ∧ N'.toInt ≤ 15 ∧ (b' = b ∨ h0.size ≤ b') ∧ n0 ≤ b' ∧ 1 ≤ r'.length) := by
  refine own_met own_pn7 ?_
  intro p e s m below meth c s₁ hx hby hml hown hnm hret hlk hZ X0 hE0
  have N0 := Fr.nil n0
  refine own_cast (own_ef7_own_rm_room_4_1 m a (1 : Int32)) ?_
  have hN0 := own_arvn VB
  refine own_iloadN (n := 1) X0 hx (hb hby d7_0) rfl rfl ?_
  refine own_aloadN (n := 2) X0 hx (hb hby d7_1) rfl rfl rfl ?_
  refine own_getF (n := 5) X0 hx hZ hown (host := "") (Or.inl (ww10 hw)) Via.refl hE0 FB (hb hby d7_2) rfl ?_
  intro T1 X1 e1
  refine own_len (n := 6) X1 hx hZ e1 VB (hb hby d7_5) rfl ?_
  refine own_aloadN (n := 7) X1 hx (hb hby d7_6) rfl rfl rfl ?_
  refine own_getF (n := 10) X1 hx hZ hown (host := "") (Or.inl (ww35 hw)) Via.refl e1 FL (hb hby d7_7) rfl ?_
  intro T2 X2 e2
  refine own_isub (n := 11) X2 hx (hb hby d7_10) rfl rfl ?_
  by_cases hc11_3 : (N - (4 : Int32)) < (1 : Int32)
  · skip
    have hgr := own_grow (N := N) (l := (4 : Int32)) (n := (1 : Int32)) (q := (5 : Int32)) (r := rest) (L := 4) (m := 1) rfl rfl rfl (by decide) hN0 hN hl hc11_3
    refine own_icmpNo (n := 14) X2 hx (hb hby d7_11) (tlt hc11_3).2.2.2 rfl ?_
    refine own_aloadN (n := 15) X2 hx (hb hby d7_14) rfl rfl rfl ?_
    refine own_aloadN (n := 16) X2 hx (hb hby d7_15) rfl rfl rfl ?_
    refine own_getF (n := 19) X2 hx hZ hown (host := "") (Or.inl (ww10 hw)) Via.refl e2 FB (hb hby d7_16) rfl ?_
    intro T4 X4 e4
    refine own_aloadN (n := 20) X4 hx (hb hby d7_19) rfl rfl rfl ?_
    refine own_getF (n := 23) X4 hx hZ hown (host := "") (Or.inl (ww10 hw)) Via.refl e4 FB (hb hby d7_20) rfl ?_
    intro T5 X5 e5
    refine own_len (n := 24) X5 hx hZ e5 VB (hb hby d7_23) rfl ?_
    refine own_iconst (n := 25) (z := (2 : Int32)) X5 hx (hb hby d7_24) rfl rfl ?_
    refine own_imul (n := 26) X5 hx (hb hby d7_25) rfl rfl ?_
    refine own_aloadN (n := 27) X5 hx (hb hby d7_26) rfl rfl rfl ?_
    refine own_getF (n := 30) X5 hx hZ hown (host := "") (Or.inl (ww35 hw)) Via.refl e5 FL (hb hby d7_27) rfl ?_
    intro T6 X6 e6
    refine own_iloadN (n := 31) X6 hx (hb hby d7_30) rfl rfl ?_
    refine own_iadd (n := 32) (z := (5 : Int32)) X6 hx (hb hby d7_31) rfl rfl ?_
    refine own_S (n := 35) (argsL := [(.int (N * (2 : Int32))), (.int (5 : Int32))]) (rest := [(.ref b), (.ref a)]) X6 hx hZ hown (own_rm_max l Z a0 hw (N * (2 : Int32)) (5 : Int32) h0 n0 Z0) (ww37 hw) (ww38 hw) (ww39 hw) (ww40 hw) (by decide) e6 (by rw [hml]; rfl) (lenOf own_pd2 rfl) rfl (hb hby d7_32) (Nat.le_of_ble_eq_true rfl) (Nat.le_of_ble_eq_true rfl) (Nat.le_of_ble_eq_true rfl) (Nat.le_of_ble_eq_true rfl) rfl ?_
    rintro v7 T7 L7 X7 ⟨rfl, Nq7, eq7⟩
    have N7 := Fr.app N0 Nq7
    change own_G p e below _ _ (mkF m 35 _ [(.int (own_max (N * (2 : Int32)) (5 : Int32))), (.ref b), (.ref a)])
    refine own_S (n := 38) (argsL := [(.ref b), (.int (own_max (N * (2 : Int32)) (5 : Int32)))]) (rest := [(.ref a)]) X7 hx hZ hown (own_rm_copy15 l Z a0 hw b kb N (own_max (N * (2 : Int32)) (5 : Int32)) ((.int c0) :: (.int c1) :: (.int c2) :: (.int c3) :: rest) h0 n0 Z0 VB (by (try simp only [List.length_cons]); omega) EB hgr.1 hgr.2.1) (ww41 hw) (ww42 hw) (ww43 hw) (ww44 hw) (by decide) eq7 (by rw [hml]; rfl) (lenOf own_pd3 rfl) rfl (hb hby d7_35) (Nat.le_of_ble_eq_true rfl) (Nat.le_of_ble_eq_true rfl) (Nat.le_of_ble_eq_true rfl) (Nat.le_of_ble_eq_true rfl) rfl ?_
    rintro v8 T8 L8 X8 ⟨y8, k8, rfl, Nq8, K8, sz8, gb8, Vb8, Ec8⟩
    have N8 := Fr.app N7 Nq8
    have E_9 := E0.keep K8
    have F_10 := FB.keep K8 (by simp)
    have F_11 := FL.keep K8 (by simp)
    have F_12 := FA.keep K8 (by simp)
    have A_13 := VB.keep K8 (by simp)
    have E_14 := EB.keep K8
    have K_15 := (Keep.refl h0 [a]).trans K8 (fun x hx => nomatch hx)
    have Z_16 : n0 ≤ T8.heap.size := Nat.le_trans Z0 K8.1
    have Vc8 : Arv Z T8.heap y8 k8 .byte (own_max (N * (2 : Int32)) (5 : Int32)) ((.int c0) :: (.int c1) :: (.int c2) :: (.int c3) :: (rest ++ List.replicate (α := Value) (((own_max (N * (2 : Int32)) (5 : Int32))).toNatClampNeg - N.toNatClampNeg) (.int (0 : Int32)))) (.int (0 : Int32)) := by have q := Vb8; rw [List.take_of_length_le (by (try simp only [List.length_cons]); omega)] at q; exact q
    have hl8 : (rest ++ List.replicate (α := Value) (((own_max (N * (2 : Int32)) (5 : Int32))).toNatClampNeg - N.toNatClampNeg) (.int (0 : Int32))).length + 4 = ((own_max (N * (2 : Int32)) (5 : Int32))).toNatClampNeg := by rw [List.length_append, List.length_replicate]; omega
    have hx8 : 1 ≤ (rest ++ List.replicate (α := Value) (((own_max (N * (2 : Int32)) (5 : Int32))).toNatClampNeg - N.toNatClampNeg) (.int (0 : Int32))).length := by have := hl8; omega
    change own_G p e below _ _ (mkF m 38 _ [(.ref y8), (.ref a)])
    refine own_putF (n := 41) X8 hx hZ hown (host := "") (Or.inl (ww10 hw)) Via.refl rfl F_10 E_9 (Or.inl (ww11 hw)) (ww2 hw) (ty := (.array .byte)) (by decide) rfl rfl (hb hby d7_38) rfl ?_
    intro T17 h17 X17 e17 W17
    have F_18 := F_10.same W17
    have N17 := Fr.snoc X17 N8 g_a
    have E_19 := E_9.wr W17
    have F_20 := F_11.other W17 (Or.inr (slot_ne (Or.inl (ww36 hw)) (Or.inl (ww11 hw)) (by decide) (t := .int) (t' := (.array .byte)) (by decide) (by decide)))
    have F_21 := F_12.other W17 (Or.inr (slot_ne (Or.inl (ww26 hw)) (Or.inl (ww11 hw)) (by decide) (t := .boolean) (t' := (.array .byte)) (by decide) (by decide)))
    have A_22 := A_13.other W17 (Ne.symm (own_neEA E_9 (ww2 hw) A_13))
    have E_23 := E_14.wr W17
    have K_24 := K_15.wr W17 (Or.inl (by first | exact List.mem_cons_self | exact List.mem_cons_of_mem _ List.mem_cons_self | exact List.mem_cons_of_mem _ (List.mem_cons_of_mem _ List.mem_cons_self) | (simp; done)))
    have A_25 := Vc8.other W17 (Ne.symm (Nat.ne_of_lt (Nat.lt_of_lt_of_le E0.lt sz8)))
    have E_26 := Ec8.wr W17
    have Z_27 : n0 ≤ h17.size := by rw [W17.size]; exact Z_16
    refine own_retV X17 hx hlk hret e17 (hb hby d7_41) (by decide) (by decide) ?_
    exact ⟨y8, k8, ((own_max (N * (2 : Int32)) (5 : Int32))), (rest ++ List.replicate (α := Value) (((own_max (N * (2 : Int32)) (5 : Int32))).toNatClampNeg - N.toNatClampNeg) (.int (0 : Int32))), rfl, N17, K_24, E_19, F_18, F_20, F_21, A_25, E_26, hl8, hgr.2.2.1, (Or.inr sz8 : y8 = b ∨ h0.size ≤ y8), gb8, hx8⟩
  · skip
    have hx0 : 1 ≤ rest.length := own_roomle (N := N) (l := (4 : Int32)) (n := (1 : Int32)) (L := 4) (m := 1) rfl rfl (by decide) hN0 hN hl hc11_3
    refine own_icmpYes (n := 41) X2 hx (hb hby d7_11) (flt hc11_3).2.2.2 (by decide) (by decide) ?_
    refine own_retV X2 hx hlk hret e2 (hb hby d7_41) (by decide) (by decide) ?_
    exact ⟨b, kb, N, rest, rfl, N0, (Keep.refl h0 [a]), E0, FB, FL, FA, VB, EB, hl, hN, (Or.inl rfl : b = b ∨ h0.size ≤ b), g_b, hx0⟩
theorem own_ef6_own_rm_wb_4 (m : MethodId) (y0 : Addr) (y1 : Int32) : entryFrame m #[(.ref y0), (.int y1)] 2 = mkF m 0 #[.val (.ref y0), .val (.int y1)] [] := by first | (simp [entryFrame, mkF, argsToLocals, Value.category]; done) | rfl
set_option maxRecDepth 65536 in
set_option maxHeartbeats 40000000 in
theorem own_rm_wb_4 (l : Launch) (Z : State) (a0 : Array Value) (hw : ∀ d ∈ tables_1, d.before a0 Z = true) (a b : Addr) (kb : ClassId) (N : Int32) (rest : List Value) (ae : Int32) (c0 c1 c2 c3 : Int32) (p1 : Int32) (h0 : Heap) (n0 : Nat) (Z0 : n0 ≤ h0.size) (E0 : Exa Z h0 a "com/example/doseline/doseline/fhir/JsonWriter") (FB : Fld Z h0 a "com/example/doseline/doseline/fhir/JsonWriter" "bytes" "[B" (.ref b)) (FL : Fld Z h0 a "com/example/doseline/doseline/fhir/JsonWriter" "length" "I" (.int (4 : Int32))) (FA : Fld Z h0 a "com/example/doseline/doseline/fhir/JsonWriter" "afterElement" "Z" (.int ae)) (VB : Arv Z h0 b kb .byte N ((.int c0) :: (.int c1) :: (.int c2) :: (.int c3) :: rest) (.int (0 : Int32))) (EB : Exa Z h0 b "[B") (hl : rest.length + 4 = N.toNatClampNeg) (hN : N.toInt ≤ 15) (g_a : n0 ≤ a) (g_b : n0 ≤ b) (hp : (p1).toInt8.toInt32 = p1) :
    own_Met l Z (⟨"com/example/doseline/doseline/fhir/JsonWriter", "write", "(B)V"⟩ : MethodName) prog_96_method_26_code 2 none [] ({ frames := 3, cells := 1, slots := 15, locals := 68 } : Room) #[(.ref a), (.int p1)] h0 (fun v h L => ∃ (b' : Addr) (k' : ClassId) (N' : Int32) (r' : List Value), v = none ∧ Fr n0 L ∧ Keep h0 h [a, b] ∧ Exa Z h a "com/example/doseline/doseline/fhir/JsonWriter" ∧ Fld Z h a "com/example/doseline/doseline/fhir/JsonWriter" "bytes" "[B" (.ref b') ∧ Fld Z h a "com/example/doseline/doseline/fhir/JsonWriter" "length" "I" (.int (5 : Int32)) ∧ Fld Z h a "com/example/doseline/doseline/fhir/JsonWriter" "afterElement" "Z" (.int ae) ∧ Arv Z h b' k' .byte N' ((.int c0) :: (.int c1) :: (.int c2) :: (.int c3) :: (.int p1) :: r') (.int (0 : Int32)) ∧ Exa Z h b' "[B" ∧ r'.length + 5 = N'.toNatClampNeg ∧ N'.toInt ≤ 15 ∧ (b' = b ∨ h0.size ≤ b') ∧ n0 ≤ b') := by
  refine own_met own_pn6 ?_
  intro p e s m below meth c s₁ hx hby hml hown hnm hret hlk hZ X0 hE0
  have N0 := Fr.nil n0
  refine own_cast (own_ef6_own_rm_wb_4 m a p1) ?_
  have hN0 := own_arvn VB
  refine own_aloadN (n := 1) X0 hx (hb hby d6_0) rfl rfl rfl ?_
  refine own_iconst (n := 2) (z := (1 : Int32)) X0 hx (hb hby d6_1) rfl rfl ?_
  refine own_P (n := 5) (argsL := [(.int (1 : Int32))]) (rest := []) (a := a) X0 hx hZ hown (own_rm_room_4_1 l Z a0 hw a b kb N rest ae c0 c1 c2 c3 h0 n0 Z0 E0 FB FL FA VB EB hl hN g_a g_b) (ww31 hw) (ww32 hw) (by rfl) (ww15 hw) (ww33 hw) (ww3 hw) (ww34 hw) (by decide) hE0 E0 (by rw [hml]; rfl) (lenOf own_pd0 rfl) rfl (hb hby d6_2) (Nat.le_of_ble_eq_true rfl) (Nat.le_of_ble_eq_true rfl) (Nat.le_of_ble_eq_true rfl) (Nat.le_of_ble_eq_true rfl) rfl ?_
  rintro v1 T1 L1 X1 ⟨y1, k1, M1, r1, rfl, Nq1, K1, Eq1, Fb1, Fl1, Fa1, Vb1, Ec1, hl1, hN1, hq1, gb1, hx1⟩
  have N1 := Fr.app N0 Nq1
  have E_2 := E0.keep K1
  have A_3 := VB.keep K1 (by simp [(Ne.symm (own_neEA E0 (ww2 hw) VB))])
  have E_4 := EB.keep K1
  have K_5 := (Keep.refl h0 [a, b]).trans K1 (fun x hx => by cases List.mem_singleton.mp hx; exact (Or.inl (by first | exact List.mem_cons_self | exact List.mem_cons_of_mem _ List.mem_cons_self | exact List.mem_cons_of_mem _ (List.mem_cons_of_mem _ List.mem_cons_self) | (simp; done))))
  have Z_6 : n0 ≤ T1.heap.size := Nat.le_trans Z0 K1.1
  have hb1 : y1 = b ∨ h0.size ≤ y1 := own_orTr (Or.inl rfl : b = b ∨ h0.size ≤ b) hq1 (Keep.refl h0 [a, b]).1
  obtain ⟨x1_0, t1, rfl⟩ := own_ex1 hx1
  change own_G p e below _ _ (mkF m 5 _ [])
  refine own_aloadN (n := 6) X1 hx (hb hby d6_5) rfl rfl rfl ?_
  refine own_getF (n := 9) X1 hx hZ hown (host := "") (Or.inl (ww10 hw)) Via.refl rfl Fb1 (hb hby d6_6) rfl ?_
  intro T7 X7 e7
  refine own_aloadN (n := 10) X7 hx (hb hby d6_9) rfl rfl rfl ?_
  refine own_dup (n := 11) X7 hx (hb hby d6_10) rfl rfl ?_
  refine own_getF (n := 14) X7 hx hZ hown (host := "") (Or.inl (ww35 hw)) Via.refl e7 Fl1 (hb hby d6_11) rfl ?_
  intro T8 X8 e8
  refine own_dup_x1 (n := 15) X8 hx (hb hby d6_14) rfl rfl rfl ?_
  refine own_iconst (n := 16) (z := (1 : Int32)) X8 hx (hb hby d6_15) rfl rfl ?_
  refine own_iadd (n := 17) (z := (5 : Int32)) X8 hx (hb hby d6_16) rfl rfl ?_
  refine own_putF (n := 20) X8 hx hZ hown (host := "") (Or.inl (ww35 hw)) Via.refl e8 Fl1 E_2 (Or.inl (ww36 hw)) (ww2 hw) (ty := .int) (by decide) rfl rfl (hb hby d6_17) rfl ?_
  intro T9 h9 X9 e9 W9
  have F_10 := Fl1.same W9
  have N9 := Fr.snoc X9 N1 g_a
  have E_11 := E_2.wr W9
  have K_12 := K_5.wr W9 (Or.inl (by first | exact List.mem_cons_self | exact List.mem_cons_of_mem _ List.mem_cons_self | exact List.mem_cons_of_mem _ (List.mem_cons_of_mem _ List.mem_cons_self) | (simp; done)))
  have F_13 := Fb1.other W9 (Or.inr (slot_ne (Or.inl (ww11 hw)) (Or.inl (ww36 hw)) (by decide) (t := (.array .byte)) (t' := .int) (by decide) (by decide)))
  have F_14 := Fa1.other W9 (Or.inr (slot_ne (Or.inl (ww26 hw)) (Or.inl (ww36 hw)) (by decide) (t := .boolean) (t' := .int) (by decide) (by decide)))
  have A_15 := Vb1.other W9 (Ne.symm (own_neEA E_2 (ww2 hw) Vb1))
  have E_16 := Ec1.wr W9
  have Z_17 : n0 ≤ h9.size := by rw [W9.size]; exact Z_6
  refine own_iloadN (n := 21) X9 hx (hb hby d6_20) rfl rfl ?_
  refine own_st_bastore (n := 22) X9 hx hZ e9 A_15 (own_inN (L := 4) rfl (own_arvn A_15) hl1 (by (try simp only [List.length_cons]); omega)) 4 rfl (by (try simp only [List.length_cons]); omega) (hb hby d6_21) rfl ?_
  intro T18 h18 X18 e18 W18 V18q
  rw [hp] at V18q
  have V18 : Arv Z h18 y1 k1 .byte M1 ((.int c0) :: (.int c1) :: (.int c2) :: (.int c3) :: (.int p1) :: t1) (.int (0 : Int32)) := V18q
  have N18 := Fr.snoc X18 N9 gb1
  have E_19 := E_11.wr W18
  have K_20 := K_12.wr W18 (hb1.elim (fun q => Or.inl (by simp [q])) Or.inr)
  have F_21 := F_13.other W18 (Or.inl (own_neEA E_11 (ww2 hw) A_15))
  have F_22 := F_14.other W18 (Or.inl (own_neEA E_11 (ww2 hw) A_15))
  have E_23 := E_16.wr W18
  have F_24 := F_10.other W18 (Or.inl (own_neEA E_11 (ww2 hw) A_15))
  have Z_25 : n0 ≤ h18.size := by rw [W18.size]; exact Z_17
  have hl_26 : t1.length + 5 = M1.toNatClampNeg := by have q := hl1; (try simp only [List.length_cons] at q); omega
  refine own_retV X18 hx hlk hret e18 (hb hby d6_22) (by decide) (by decide) ?_
  exact ⟨y1, k1, M1, t1, rfl, N18, K_20, E_19, F_21, F_24, F_22, V18, E_23, hl_26, hN1, hb1, gb1⟩
theorem d14_5 : decode prog_96_method_22_code 5 = .ok (.aload_n 0, 1) := by decide +kernel
theorem d14_6 : decode prog_96_method_22_code 6 = .ok (.iconst 1, 1) := by decide +kernel
theorem d14_7 : decode prog_96_method_22_code 7 = .ok (.putfield 41, 3) := by decide +kernel
theorem d14_10 : decode prog_96_method_22_code 10 = .ok (.return_, 1) := by decide +kernel
theorem own_ef14_own_rm_end_4_1 (m : MethodId) (y0 : Addr) (y1 : Int32) : entryFrame m #[(.ref y0), (.int y1)] 2 = mkF m 0 #[.val (.ref y0), .val (.int y1)] [] := by first | (simp [entryFrame, mkF, argsToLocals, Value.category]; done) | rfl
set_option maxRecDepth 65536 in
set_option maxHeartbeats 40000000 in
theorem own_rm_end_4_1 (l : Launch) (Z : State) (a0 : Array Value) (hw : ∀ d ∈ tables_1, d.before a0 Z = true) (a b : Addr) (kb : ClassId) (N : Int32) (rest : List Value) (c0 c1 c2 c3 : Int32) (h0 : Heap) (n0 : Nat) (Z0 : n0 ≤ h0.size) (E0 : Exa Z h0 a "com/example/doseline/doseline/fhir/JsonWriter") (FB : Fld Z h0 a "com/example/doseline/doseline/fhir/JsonWriter" "bytes" "[B" (.ref b)) (FL : Fld Z h0 a "com/example/doseline/doseline/fhir/JsonWriter" "length" "I" (.int (4 : Int32))) (FA : Fld Z h0 a "com/example/doseline/doseline/fhir/JsonWriter" "afterElement" "Z" (.int (1 : Int32))) (VB : Arv Z h0 b kb .byte N ((.int c0) :: (.int c1) :: (.int c2) :: (.int c3) :: rest) (.int (0 : Int32))) (EB : Exa Z h0 b "[B") (hl : rest.length + 4 = N.toNatClampNeg) (hN : N.toInt ≤ 15) (g_a : n0 ≤ a) (g_b : n0 ≤ b) :
    own_Met l Z (⟨"com/example/doseline/doseline/fhir/JsonWriter", "end", "(B)V"⟩ : MethodName) prog_96_method_22_code 2 none [] ({ frames := 4, cells := 1, slots := 15, locals := 81 } : Room) #[(.ref a), (.int (93 : Int32))] h0 (fun v h L => ∃ (b' : Addr) (k' : ClassId) (N' : Int32) (r' : List Value), v = none ∧ Fr n0 L ∧ Keep h0 h [a, b] ∧ Exa Z h a "com/example/doseline/doseline/fhir/JsonWriter" ∧ Fld Z h a "com/example/doseline/doseline/fhir/JsonWriter" "bytes" "[B" (.ref b') ∧ Fld Z h a "com/example/doseline/doseline/fhir/JsonWriter" "length" "I" (.int (5 : Int32)) ∧ Fld Z h a "com/example/doseline/doseline/fhir/JsonWriter" "afterElement" "Z" (.int (1 : Int32)) ∧ Arv Z h b' k' .byte N' ((.int c0) :: (.int c1) :: (.int c2) :: (.int c3) :: (.int (93 : Int32)) :: r') (.int (0 : Int32)) ∧ Exa Z h b' "[B" ∧ r'.length + 5 = N'.toNatClampNeg ∧ N'.toInt ≤ 15 ∧ (b' = b ∨ h0.size ≤ b') ∧ n0 ≤ b') := by
  refine own_met own_pn14 ?_
  intro p e s m below meth c s₁ hx hby hml hown hnm hret hlk hZ X0 hE0
  have N0 := Fr.nil n0
  refine own_cast (own_ef14_own_rm_end_4_1 m a (93 : Int32)) ?_
  have hN0 := own_arvn VB
  refine own_aloadN (n := 1) X0 hx (hb hby d14_0) rfl rfl rfl ?_
  refine own_iloadN (n := 2) X0 hx (hb hby d14_1) rfl rfl ?_
  refine own_P (n := 5) (argsL := [(.int (93 : Int32))]) (rest := []) (a := a) X0 hx hZ hown (own_rm_wb_4 l Z a0 hw a b kb N rest (1 : Int32) c0 c1 c2 c3 (93 : Int32) h0 n0 Z0 E0 FB FL FA VB EB hl hN g_a g_b (by decide)) (ww27 hw) (ww28 hw) (by rfl) (ww15 hw) (ww29 hw) (ww3 hw) (ww30 hw) (by decide) hE0 E0 (by rw [hml]; rfl) (lenOf own_pd8 rfl) rfl (hb hby d14_2) (Nat.le_of_ble_eq_true rfl) (Nat.le_of_ble_eq_true rfl) (Nat.le_of_ble_eq_true rfl) (Nat.le_of_ble_eq_true rfl) rfl ?_
  rintro v1 T1 L1 X1 ⟨y1, k1, M1, r1, rfl, Nq1, K1, Eq1, Fb1, Fl1, Fa1, Vb1, Ec1, hl1, hN1, hq1, gb1⟩
  have N1 := Fr.app N0 Nq1
  have E_2 := E0.keep K1
  have E_3 := EB.keep K1
  have K_4 := (Keep.refl h0 [a, b]).trans K1 (fun x hx => by simp only [List.mem_cons, List.not_mem_nil, or_false] at hx; rcases hx with rfl | rfl <;> first | exact (Or.inl (by first | exact List.mem_cons_self | exact List.mem_cons_of_mem _ List.mem_cons_self | exact List.mem_cons_of_mem _ (List.mem_cons_of_mem _ List.mem_cons_self) | (simp; done))))
  have Z_5 : n0 ≤ T1.heap.size := Nat.le_trans Z0 K1.1
  have hb1 : y1 = b ∨ h0.size ≤ y1 := own_orTr (Or.inl rfl : b = b ∨ h0.size ≤ b) hq1 (Keep.refl h0 [a, b]).1
  change own_G p e below _ _ (mkF m 5 _ [])
  refine own_aloadN (n := 6) X1 hx (hb hby d14_5) rfl rfl rfl ?_
  refine own_iconst (n := 7) (z := (1 : Int32)) X1 hx (hb hby d14_6) rfl rfl ?_
  refine own_putFN (n := 10) X1 hx hZ hown (ww25 hw) Via.refl rfl Fa1 E_2 (Or.inl (ww26 hw)) (ww2 hw) (ty := .boolean) (v' := (.int (1 : Int32))) (by decide) rfl (by decide) (hb hby d14_7) rfl ?_
  intro T6 h6 X6 e6 W6
  have F_7 := Fa1.same W6
  have N6 := Fr.snoc X6 N1 g_a
  have E_8 := E_2.wr W6
  have K_9 := K_4.wr W6 (Or.inl (by first | exact List.mem_cons_self | exact List.mem_cons_of_mem _ List.mem_cons_self | exact List.mem_cons_of_mem _ (List.mem_cons_of_mem _ List.mem_cons_self) | (simp; done)))
  have F_10 := Fb1.other W6 (Or.inr (slot_ne (Or.inl (ww11 hw)) (Or.inl (ww26 hw)) (by decide) (t := (.array .byte)) (t' := .boolean) (by decide) (by decide)))
  have F_11 := Fl1.other W6 (Or.inr (slot_ne (Or.inl (ww36 hw)) (Or.inl (ww26 hw)) (by decide) (t := .int) (t' := .boolean) (by decide) (by decide)))
  have A_12 := Vb1.other W6 (Ne.symm (own_neEA E_2 (ww2 hw) Vb1))
  have E_13 := Ec1.wr W6
  have Z_14 : n0 ≤ h6.size := by rw [W6.size]; exact Z_5
  refine own_retV X6 hx hlk hret e6 (hb hby d14_10) (by decide) (by decide) ?_
  exact ⟨y1, k1, M1, r1, rfl, N6, K_9, E_8, F_10, F_11, F_7, A_12, E_13, hl1, hN1, hb1, gb1⟩
theorem d13_6 : decode prog_96_method_10_code 6 = .ok (.return_, 1) := by decide +kernel
theorem own_ef13_own_rm_endArray_4_1 (m : MethodId) (y0 : Addr) : entryFrame m #[(.ref y0)] 1 = mkF m 0 #[.val (.ref y0)] [] := by first | (simp [entryFrame, mkF, argsToLocals, Value.category]; done) | rfl
set_option maxRecDepth 65536 in
set_option maxHeartbeats 40000000 in
theorem own_rm_endArray_4_1 (l : Launch) (Z : State) (a0 : Array Value) (hw : ∀ d ∈ tables_1, d.before a0 Z = true) (a b : Addr) (kb : ClassId) (N : Int32) (rest : List Value) (c0 c1 c2 c3 : Int32) (h0 : Heap) (n0 : Nat) (Z0 : n0 ≤ h0.size) (E0 : Exa Z h0 a "com/example/doseline/doseline/fhir/JsonWriter") (FB : Fld Z h0 a "com/example/doseline/doseline/fhir/JsonWriter" "bytes" "[B" (.ref b)) (FL : Fld Z h0 a "com/example/doseline/doseline/fhir/JsonWriter" "length" "I" (.int (4 : Int32))) (FA : Fld Z h0 a "com/example/doseline/doseline/fhir/JsonWriter" "afterElement" "Z" (.int (1 : Int32))) (VB : Arv Z h0 b kb .byte N ((.int c0) :: (.int c1) :: (.int c2) :: (.int c3) :: rest) (.int (0 : Int32))) (EB : Exa Z h0 b "[B") (hl : rest.length + 4 = N.toNatClampNeg) (hN : N.toInt ≤ 15) (g_a : n0 ≤ a) (g_b : n0 ≤ b) :
    own_Met l Z (⟨"com/example/doseline/doseline/fhir/JsonWriter", "endArray", "()V"⟩ : MethodName) prog_96_method_10_code 1 none [] ({ frames := 5, cells := 1, slots := 15, locals := 94 } : Room) #[(.ref a)] h0 (fun v h L => ∃ (b' : Addr) (k' : ClassId) (N' : Int32) (r' : List Value), v = none ∧ Fr n0 L ∧ Keep h0 h [a, b] ∧ Exa Z h a "com/example/doseline/doseline/fhir/JsonWriter" ∧ Fld Z h a "com/example/doseline/doseline/fhir/JsonWriter" "bytes" "[B" (.ref b') ∧ Fld Z h a "com/example/doseline/doseline/fhir/JsonWriter" "length" "I" (.int (5 : Int32)) ∧ Fld Z h a "com/example/doseline/doseline/fhir/JsonWriter" "afterElement" "Z" (.int (1 : Int32)) ∧ Arv Z h b' k' .byte N' ((.int c0) :: (.int c1) :: (.int c2) :: (.int c3) :: (.int (93 : Int32)) :: r') (.int (0 : Int32)) ∧ Exa Z h b' "[B" ∧ r'.length + 5 = N'.toNatClampNeg ∧ N'.toInt ≤ 15 ∧ (b' = b ∨ h0.size ≤ b') ∧ n0 ≤ b') := by
  refine own_met own_pn13 ?_
  intro p e s m below meth c s₁ hx hby hml hown hnm hret hlk hZ X0 hE0
  have N0 := Fr.nil n0
  refine own_cast (own_ef13_own_rm_endArray_4_1 m a) ?_
  have hN0 := own_arvn VB
  refine own_aloadN (n := 1) X0 hx (hb hby d13_0) rfl rfl rfl ?_
  refine own_bipush (n := 3) (z := (93 : Int32)) X0 hx (hb hby d13_1) rfl rfl ?_
  refine own_P (n := 6) (argsL := [(.int (93 : Int32))]) (rest := []) (a := a) X0 hx hZ hown (own_rm_end_4_1 l Z a0 hw a b kb N rest c0 c1 c2 c3 h0 n0 Z0 E0 FB FL FA VB EB hl hN g_a g_b) (ww67 hw) (ww68 hw) (by rfl) (ww15 hw) (ww69 hw) (ww3 hw) (ww70 hw) (by decide) hE0 E0 (by rw [hml]; rfl) (lenOf own_pd8 rfl) rfl (hb hby d13_3) (Nat.le_of_ble_eq_true rfl) (Nat.le_of_ble_eq_true rfl) (Nat.le_of_ble_eq_true rfl) (Nat.le_of_ble_eq_true rfl) rfl ?_
  rintro v1 T1 L1 X1 ⟨y1, k1, M1, r1, rfl, Nq1, K1, Eq1, Fb1, Fl1, Fa1, Vb1, Ec1, hl1, hN1, hq1, gb1⟩
  have N1 := Fr.app N0 Nq1
  have E_2 := E0.keep K1
  have E_3 := EB.keep K1
  have K_4 := (Keep.refl h0 [a, b]).trans K1 (fun x hx => by simp only [List.mem_cons, List.not_mem_nil, or_false] at hx; rcases hx with rfl | rfl <;> first | exact (Or.inl (by first | exact List.mem_cons_self | exact List.mem_cons_of_mem _ List.mem_cons_self | exact List.mem_cons_of_mem _ (List.mem_cons_of_mem _ List.mem_cons_self) | (simp; done))))
  have Z_5 : n0 ≤ T1.heap.size := Nat.le_trans Z0 K1.1
  have hb1 : y1 = b ∨ h0.size ≤ y1 := own_orTr (Or.inl rfl : b = b ∨ h0.size ≤ b) hq1 (Keep.refl h0 [a, b]).1
  change own_G p e below _ _ (mkF m 6 _ [])
  refine own_retV X1 hx hlk hret rfl (hb hby d13_6) (by decide) (by decide) ?_
  exact ⟨y1, k1, M1, r1, rfl, N1, K_4, E_2, Fb1, Fl1, Fa1, Vb1, Ec1, hl1, hN1, hb1, gb1⟩
theorem own_ef15_own_rm_tba_5 (m : MethodId) (y0 : Addr) : entryFrame m #[(.ref y0)] 1 = mkF m 0 #[.val (.ref y0)] [] := by first | (simp [entryFrame, mkF, argsToLocals, Value.category]; done) | rfl
set_option maxRecDepth 65536 in
set_option maxHeartbeats 40000000 in
theorem own_rm_tba_5 (l : Launch) (Z : State) (a0 : Array Value) (hw : ∀ d ∈ tables_1, d.before a0 Z = true) (a b : Addr) (kb : ClassId) (N : Int32) (rest : List Value) (ae : Int32) (c0 c1 c2 c3 c4 : Int32) (h0 : Heap) (n0 : Nat) (Z0 : n0 ≤ h0.size) (E0 : Exa Z h0 a "com/example/doseline/doseline/fhir/JsonWriter") (FB : Fld Z h0 a "com/example/doseline/doseline/fhir/JsonWriter" "bytes" "[B" (.ref b)) (FL : Fld Z h0 a "com/example/doseline/doseline/fhir/JsonWriter" "length" "I" (.int (5 : Int32))) (FA : Fld Z h0 a "com/example/doseline/doseline/fhir/JsonWriter" "afterElement" "Z" (.int ae)) (VB : Arv Z h0 b kb .byte N ((.int c0) :: (.int c1) :: (.int c2) :: (.int c3) :: (.int c4) :: rest) (.int (0 : Int32))) (EB : Exa Z h0 b "[B") (hl : rest.length + 5 = N.toNatClampNeg) (hN : N.toInt ≤ 15) (g_a : n0 ≤ a) (g_b : n0 ≤ b) :
    own_Met l Z (⟨"com/example/doseline/doseline/fhir/JsonWriter", "toByteArray", "()[B"⟩ : MethodName) prog_96_method_20_code 1 (some (.array .byte)) [] ({ frames := 2, cells := 1, slots := 8, locals := 54 } : Room) #[(.ref a)] h0 (fun v h L => ∃ (r : Addr) (k' : ClassId), v = some (.ref r) ∧ Fr n0 L ∧ Keep h0 h [] ∧ h0.size ≤ r ∧ n0 ≤ r ∧ Arv Z h r k' .byte (5 : Int32) [(.int c0), (.int c1), (.int c2), (.int c3), (.int c4)] (.int (0 : Int32))) := by
  refine own_met own_pn15 ?_
  intro p e s m below meth c s₁ hx hby hml hown hnm hret hlk hZ X0 hE0
  have N0 := Fr.nil n0
  refine own_cast (own_ef15_own_rm_tba_5 m a) ?_
  have hN0 := own_arvn VB
  refine own_aloadN (n := 1) X0 hx (hb hby d15_0) rfl rfl rfl ?_
  refine own_getF (n := 4) X0 hx hZ hown (host := "") (Or.inl (ww10 hw)) Via.refl hE0 FB (hb hby d15_1) rfl ?_
  intro T1 X1 e1
  refine own_aloadN (n := 5) X1 hx (hb hby d15_4) rfl rfl rfl ?_
  refine own_getF (n := 8) X1 hx hZ hown (host := "") (Or.inl (ww35 hw)) Via.refl e1 FL (hb hby d15_5) rfl ?_
  intro T2 X2 e2
  refine own_S (n := 11) (argsL := [(.ref b), (.int (5 : Int32))]) (rest := []) X2 hx hZ hown (own_rm_copy8 l Z a0 hw b kb N (5 : Int32) ((.int c0) :: (.int c1) :: (.int c2) :: (.int c3) :: (.int c4) :: rest) h0 n0 Z0 VB (by (try simp only [List.length_cons]); omega) EB (by decide) (by decide)) (ww41 hw) (ww42 hw) (ww43 hw) (ww44 hw) (by decide) e2 (by rw [hml]; rfl) (lenOf own_pd3 rfl) rfl (hb hby d15_8) (Nat.le_of_ble_eq_true rfl) (Nat.le_of_ble_eq_true rfl) (Nat.le_of_ble_eq_true rfl) (Nat.le_of_ble_eq_true rfl) rfl ?_
  rintro v3 T3 L3 X3 ⟨y3, k3, rfl, Nq3, K3, sz3, gb3, Vb3, Ec3⟩
  have N3 := Fr.app N0 Nq3
  have E_4 := E0.keep K3
  have F_5 := FB.keep K3 (by simp)
  have F_6 := FL.keep K3 (by simp)
  have F_7 := FA.keep K3 (by simp)
  have A_8 := VB.keep K3 (by simp)
  have E_9 := EB.keep K3
  have K_10 := (Keep.refl h0 []).trans K3 (fun x hx => nomatch hx)
  have Z_11 : n0 ≤ T3.heap.size := Nat.le_trans Z0 K3.1
  have Vc3 : Arv Z T3.heap y3 k3 .byte (5 : Int32) [(.int c0), (.int c1), (.int c2), (.int c3), (.int c4)] (.int (0 : Int32)) := by have q := Vb3; rw [show (5 : Int32).toNatClampNeg - N.toNatClampNeg = 0 by show 5 - N.toNatClampNeg = 0; omega] at q; exact q
  change own_G p e below _ _ (mkF m 11 _ [(.ref y3)])
  refine own_retA X3 hx hlk hret rfl rfl rfl rfl (hb hby d15_11) (by decide) (by decide) ?_
  exact ⟨y3, k3, rfl, N3, K_10, sz3, gb3, Vc3⟩
theorem own_ef17_own_rm_at_0_5 (m : MethodId) (y0 : Addr) (y1 : Addr) (y2 : Int32) (y3 : Int32) : entryFrame m #[(.ref y0), (.ref y1), (.int y2), (.int y3)] 4 = mkF m 0 #[.val (.ref y0), .val (.ref y1), .val (.int y2), .val (.int y3)] [] := by first | (simp [entryFrame, mkF, argsToLocals, Value.category]; done) | rfl
set_option maxRecDepth 65536 in
set_option maxHeartbeats 40000000 in
theorem own_rm_at_0_5 (l : Launch) (Z : State) (a0 : Array Value) (hw : ∀ d ∈ tables_1, d.before a0 Z = true) (a b : Addr) (kr kx : ClassId) (c0 c1 c2 c3 c4 e5 e6 e7 : Int32) (h0 : Heap) (n0 : Nat) (Z0 : n0 ≤ h0.size) (V0 : Arv Z h0 a kr .byte (5 : Int32) [(.int c0), (.int c1), (.int c2), (.int c3), (.int c4)] (.int (0 : Int32))) (V1 : Arv Z h0 b kx .byte (8 : Int32) [(.int c0), (.int c1), (.int c2), (.int c3), (.int c4), (.int e5), (.int e6), (.int e7)] (.int (0 : Int32))) :
    own_Met l Z (⟨"com/example/doseline/doseline/fhir/JsonWriterToByteArrayPinLaw", "at", "([B[BII)Z"⟩ : MethodName) method_2_code 4 (some .boolean) [] ({ frames := 0, cells := 0, slots := 0, locals := 0 } : Room) #[(.ref a), (.ref b), (.int (0 : Int32)), (.int (5 : Int32))] h0 (fun v h L => v = some (.int (1 : Int32)) ∧ Fr n0 L ∧ h = h0) := by
  refine own_met own_pn17 ?_
  intro p e s m below meth c s₁ hx hby hml hown hnm hret hlk hZ X0 hE0
  have N0 := Fr.nil n0
  refine own_cast (own_ef17_own_rm_at_0_5 m a b (0 : Int32) (5 : Int32)) ?_
  refine own_iloadN (n := 1) X0 hx (hb hby d17_0) rfl rfl ?_
  refine own_iloadN (n := 2) X0 hx (hb hby d17_1) rfl rfl ?_
  refine own_icmpNo (n := 5) X0 hx (hb hby d17_2) (tlt (by decide : (0 : Int32) < (5 : Int32))).2.1 rfl ?_
  refine own_aloadN (n := 6) X0 hx (hb hby d17_5) rfl rfl rfl ?_
  refine own_iloadN (n := 7) X0 hx (hb hby d17_6) rfl rfl ?_
  refine own_ld_baload (n := 8) (v := (.int c0)) X0 hx hZ hE0 V0 ⟨by decide, by decide⟩ rfl (hb hby d17_7) rfl ?_
  refine own_aloadN (n := 9) X0 hx (hb hby d17_8) rfl rfl rfl ?_
  refine own_iloadN (n := 10) X0 hx (hb hby d17_9) rfl rfl ?_
  refine own_ld_baload (n := 11) (v := (.int c0)) X0 hx hZ hE0 V1 ⟨by decide, by decide⟩ rfl (hb hby d17_10) rfl ?_
  refine own_icmpNo (n := 14) X0 hx (hb hby d17_11) (teq (rfl : c0 = c0)).2 rfl ?_
  refine own_iconst (n := 15) (z := (1 : Int32)) X0 hx (hb hby d17_14) rfl rfl ?_
  refine own_goto (n := 19) X0 hx (hb hby d17_15) (by decide) (by decide) ?_
  refine own_retZ X0 hx hlk hret (by simp) hE0 (w := (1 : Int32)) rfl (hb hby d17_19) (by decide) (by decide) ?_
  exact ⟨rfl, N0, rfl⟩
theorem own_ef17_own_rm_at_1_5 (m : MethodId) (y0 : Addr) (y1 : Addr) (y2 : Int32) (y3 : Int32) : entryFrame m #[(.ref y0), (.ref y1), (.int y2), (.int y3)] 4 = mkF m 0 #[.val (.ref y0), .val (.ref y1), .val (.int y2), .val (.int y3)] [] := by first | (simp [entryFrame, mkF, argsToLocals, Value.category]; done) | rfl
set_option maxRecDepth 65536 in
set_option maxHeartbeats 40000000 in
theorem own_rm_at_1_5 (l : Launch) (Z : State) (a0 : Array Value) (hw : ∀ d ∈ tables_1, d.before a0 Z = true) (a b : Addr) (kr kx : ClassId) (c0 c1 c2 c3 c4 e5 e6 e7 : Int32) (h0 : Heap) (n0 : Nat) (Z0 : n0 ≤ h0.size) (V0 : Arv Z h0 a kr .byte (5 : Int32) [(.int c0), (.int c1), (.int c2), (.int c3), (.int c4)] (.int (0 : Int32))) (V1 : Arv Z h0 b kx .byte (8 : Int32) [(.int c0), (.int c1), (.int c2), (.int c3), (.int c4), (.int e5), (.int e6), (.int e7)] (.int (0 : Int32))) :
    own_Met l Z (⟨"com/example/doseline/doseline/fhir/JsonWriterToByteArrayPinLaw", "at", "([B[BII)Z"⟩ : MethodName) method_2_code 4 (some .boolean) [] ({ frames := 0, cells := 0, slots := 0, locals := 0 } : Room) #[(.ref a), (.ref b), (.int (1 : Int32)), (.int (5 : Int32))] h0 (fun v h L => v = some (.int (1 : Int32)) ∧ Fr n0 L ∧ h = h0) := by
  refine own_met own_pn17 ?_
  intro p e s m below meth c s₁ hx hby hml hown hnm hret hlk hZ X0 hE0
  have N0 := Fr.nil n0
  refine own_cast (own_ef17_own_rm_at_1_5 m a b (1 : Int32) (5 : Int32)) ?_
  refine own_iloadN (n := 1) X0 hx (hb hby d17_0) rfl rfl ?_
  refine own_iloadN (n := 2) X0 hx (hb hby d17_1) rfl rfl ?_
  refine own_icmpNo (n := 5) X0 hx (hb hby d17_2) (tlt (by decide : (1 : Int32) < (5 : Int32))).2.1 rfl ?_
  refine own_aloadN (n := 6) X0 hx (hb hby d17_5) rfl rfl rfl ?_
  refine own_iloadN (n := 7) X0 hx (hb hby d17_6) rfl rfl ?_
  refine own_ld_baload (n := 8) (v := (.int c1)) X0 hx hZ hE0 V0 ⟨by decide, by decide⟩ rfl (hb hby d17_7) rfl ?_
  refine own_aloadN (n := 9) X0 hx (hb hby d17_8) rfl rfl rfl ?_
  refine own_iloadN (n := 10) X0 hx (hb hby d17_9) rfl rfl ?_
  refine own_ld_baload (n := 11) (v := (.int c1)) X0 hx hZ hE0 V1 ⟨by decide, by decide⟩ rfl (hb hby d17_10) rfl ?_
  refine own_icmpNo (n := 14) X0 hx (hb hby d17_11) (teq (rfl : c1 = c1)).2 rfl ?_
  refine own_iconst (n := 15) (z := (1 : Int32)) X0 hx (hb hby d17_14) rfl rfl ?_
  refine own_goto (n := 19) X0 hx (hb hby d17_15) (by decide) (by decide) ?_
  refine own_retZ X0 hx hlk hret (by simp) hE0 (w := (1 : Int32)) rfl (hb hby d17_19) (by decide) (by decide) ?_
  exact ⟨rfl, N0, rfl⟩
theorem own_ef17_own_rm_at_2_5 (m : MethodId) (y0 : Addr) (y1 : Addr) (y2 : Int32) (y3 : Int32) : entryFrame m #[(.ref y0), (.ref y1), (.int y2), (.int y3)] 4 = mkF m 0 #[.val (.ref y0), .val (.ref y1), .val (.int y2), .val (.int y3)] [] := by first | (simp [entryFrame, mkF, argsToLocals, Value.category]; done) | rfl
set_option maxRecDepth 65536 in
set_option maxHeartbeats 40000000 in
theorem own_rm_at_2_5 (l : Launch) (Z : State) (a0 : Array Value) (hw : ∀ d ∈ tables_1, d.before a0 Z = true) (a b : Addr) (kr kx : ClassId) (c0 c1 c2 c3 c4 e5 e6 e7 : Int32) (h0 : Heap) (n0 : Nat) (Z0 : n0 ≤ h0.size) (V0 : Arv Z h0 a kr .byte (5 : Int32) [(.int c0), (.int c1), (.int c2), (.int c3), (.int c4)] (.int (0 : Int32))) (V1 : Arv Z h0 b kx .byte (8 : Int32) [(.int c0), (.int c1), (.int c2), (.int c3), (.int c4), (.int e5), (.int e6), (.int e7)] (.int (0 : Int32))) :
    own_Met l Z (⟨"com/example/doseline/doseline/fhir/JsonWriterToByteArrayPinLaw", "at", "([B[BII)Z"⟩ : MethodName) method_2_code 4 (some .boolean) [] ({ frames := 0, cells := 0, slots := 0, locals := 0 } : Room) #[(.ref a), (.ref b), (.int (2 : Int32)), (.int (5 : Int32))] h0 (fun v h L => v = some (.int (1 : Int32)) ∧ Fr n0 L ∧ h = h0) := by
  refine own_met own_pn17 ?_
  intro p e s m below meth c s₁ hx hby hml hown hnm hret hlk hZ X0 hE0
  have N0 := Fr.nil n0
  refine own_cast (own_ef17_own_rm_at_2_5 m a b (2 : Int32) (5 : Int32)) ?_
  refine own_iloadN (n := 1) X0 hx (hb hby d17_0) rfl rfl ?_
  refine own_iloadN (n := 2) X0 hx (hb hby d17_1) rfl rfl ?_
  refine own_icmpNo (n := 5) X0 hx (hb hby d17_2) (tlt (by decide : (2 : Int32) < (5 : Int32))).2.1 rfl ?_
  refine own_aloadN (n := 6) X0 hx (hb hby d17_5) rfl rfl rfl ?_
  refine own_iloadN (n := 7) X0 hx (hb hby d17_6) rfl rfl ?_
  refine own_ld_baload (n := 8) (v := (.int c2)) X0 hx hZ hE0 V0 ⟨by decide, by decide⟩ rfl (hb hby d17_7) rfl ?_
  refine own_aloadN (n := 9) X0 hx (hb hby d17_8) rfl rfl rfl ?_
  refine own_iloadN (n := 10) X0 hx (hb hby d17_9) rfl rfl ?_
  refine own_ld_baload (n := 11) (v := (.int c2)) X0 hx hZ hE0 V1 ⟨by decide, by decide⟩ rfl (hb hby d17_10) rfl ?_
  refine own_icmpNo (n := 14) X0 hx (hb hby d17_11) (teq (rfl : c2 = c2)).2 rfl ?_
  refine own_iconst (n := 15) (z := (1 : Int32)) X0 hx (hb hby d17_14) rfl rfl ?_
  refine own_goto (n := 19) X0 hx (hb hby d17_15) (by decide) (by decide) ?_
  refine own_retZ X0 hx hlk hret (by simp) hE0 (w := (1 : Int32)) rfl (hb hby d17_19) (by decide) (by decide) ?_
  exact ⟨rfl, N0, rfl⟩
theorem own_ef17_own_rm_at_3_5 (m : MethodId) (y0 : Addr) (y1 : Addr) (y2 : Int32) (y3 : Int32) : entryFrame m #[(.ref y0), (.ref y1), (.int y2), (.int y3)] 4 = mkF m 0 #[.val (.ref y0), .val (.ref y1), .val (.int y2), .val (.int y3)] [] := by first | (simp [entryFrame, mkF, argsToLocals, Value.category]; done) | rfl
set_option maxRecDepth 65536 in
set_option maxHeartbeats 40000000 in
theorem own_rm_at_3_5 (l : Launch) (Z : State) (a0 : Array Value) (hw : ∀ d ∈ tables_1, d.before a0 Z = true) (a b : Addr) (kr kx : ClassId) (c0 c1 c2 c3 c4 e5 e6 e7 : Int32) (h0 : Heap) (n0 : Nat) (Z0 : n0 ≤ h0.size) (V0 : Arv Z h0 a kr .byte (5 : Int32) [(.int c0), (.int c1), (.int c2), (.int c3), (.int c4)] (.int (0 : Int32))) (V1 : Arv Z h0 b kx .byte (8 : Int32) [(.int c0), (.int c1), (.int c2), (.int c3), (.int c4), (.int e5), (.int e6), (.int e7)] (.int (0 : Int32))) :
    own_Met l Z (⟨"com/example/doseline/doseline/fhir/JsonWriterToByteArrayPinLaw", "at", "([B[BII)Z"⟩ : MethodName) method_2_code 4 (some .boolean) [] ({ frames := 0, cells := 0, slots := 0, locals := 0 } : Room) #[(.ref a), (.ref b), (.int (3 : Int32)), (.int (5 : Int32))] h0 (fun v h L => v = some (.int (1 : Int32)) ∧ Fr n0 L ∧ h = h0) := by
  refine own_met own_pn17 ?_
  intro p e s m below meth c s₁ hx hby hml hown hnm hret hlk hZ X0 hE0
  have N0 := Fr.nil n0
  refine own_cast (own_ef17_own_rm_at_3_5 m a b (3 : Int32) (5 : Int32)) ?_
  refine own_iloadN (n := 1) X0 hx (hb hby d17_0) rfl rfl ?_
  refine own_iloadN (n := 2) X0 hx (hb hby d17_1) rfl rfl ?_
  refine own_icmpNo (n := 5) X0 hx (hb hby d17_2) (tlt (by decide : (3 : Int32) < (5 : Int32))).2.1 rfl ?_
  refine own_aloadN (n := 6) X0 hx (hb hby d17_5) rfl rfl rfl ?_
  refine own_iloadN (n := 7) X0 hx (hb hby d17_6) rfl rfl ?_
  refine own_ld_baload (n := 8) (v := (.int c3)) X0 hx hZ hE0 V0 ⟨by decide, by decide⟩ rfl (hb hby d17_7) rfl ?_
  refine own_aloadN (n := 9) X0 hx (hb hby d17_8) rfl rfl rfl ?_
  refine own_iloadN (n := 10) X0 hx (hb hby d17_9) rfl rfl ?_
  refine own_ld_baload (n := 11) (v := (.int c3)) X0 hx hZ hE0 V1 ⟨by decide, by decide⟩ rfl (hb hby d17_10) rfl ?_
  refine own_icmpNo (n := 14) X0 hx (hb hby d17_11) (teq (rfl : c3 = c3)).2 rfl ?_
  refine own_iconst (n := 15) (z := (1 : Int32)) X0 hx (hb hby d17_14) rfl rfl ?_
  refine own_goto (n := 19) X0 hx (hb hby d17_15) (by decide) (by decide) ?_
  refine own_retZ X0 hx hlk hret (by simp) hE0 (w := (1 : Int32)) rfl (hb hby d17_19) (by decide) (by decide) ?_
  exact ⟨rfl, N0, rfl⟩
theorem own_ef17_own_rm_at_4_5 (m : MethodId) (y0 : Addr) (y1 : Addr) (y2 : Int32) (y3 : Int32) : entryFrame m #[(.ref y0), (.ref y1), (.int y2), (.int y3)] 4 = mkF m 0 #[.val (.ref y0), .val (.ref y1), .val (.int y2), .val (.int y3)] [] := by first | (simp [entryFrame, mkF, argsToLocals, Value.category]; done) | rfl
set_option maxRecDepth 65536 in
set_option maxHeartbeats 40000000 in
theorem own_rm_at_4_5 (l : Launch) (Z : State) (a0 : Array Value) (hw : ∀ d ∈ tables_1, d.before a0 Z = true) (a b : Addr) (kr kx : ClassId) (c0 c1 c2 c3 c4 e5 e6 e7 : Int32) (h0 : Heap) (n0 : Nat) (Z0 : n0 ≤ h0.size) (V0 : Arv Z h0 a kr .byte (5 : Int32) [(.int c0), (.int c1), (.int c2), (.int c3), (.int c4)] (.int (0 : Int32))) (V1 : Arv Z h0 b kx .byte (8 : Int32) [(.int c0), (.int c1), (.int c2), (.int c3), (.int c4), (.int e5), (.int e6), (.int e7)] (.int (0 : Int32))) :
    own_Met l Z (⟨"com/example/doseline/doseline/fhir/JsonWriterToByteArrayPinLaw", "at", "([B[BII)Z"⟩ : MethodName) method_2_code 4 (some .boolean) [] ({ frames := 0, cells := 0, slots := 0, locals := 0 } : Room) #[(.ref a), (.ref b), (.int (4 : Int32)), (.int (5 : Int32))] h0 (fun v h L => v = some (.int (1 : Int32)) ∧ Fr n0 L ∧ h = h0) := by
  refine own_met own_pn17 ?_
  intro p e s m below meth c s₁ hx hby hml hown hnm hret hlk hZ X0 hE0
  have N0 := Fr.nil n0
  refine own_cast (own_ef17_own_rm_at_4_5 m a b (4 : Int32) (5 : Int32)) ?_
  refine own_iloadN (n := 1) X0 hx (hb hby d17_0) rfl rfl ?_
  refine own_iloadN (n := 2) X0 hx (hb hby d17_1) rfl rfl ?_
  refine own_icmpNo (n := 5) X0 hx (hb hby d17_2) (tlt (by decide : (4 : Int32) < (5 : Int32))).2.1 rfl ?_
  refine own_aloadN (n := 6) X0 hx (hb hby d17_5) rfl rfl rfl ?_
  refine own_iloadN (n := 7) X0 hx (hb hby d17_6) rfl rfl ?_
  refine own_ld_baload (n := 8) (v := (.int c4)) X0 hx hZ hE0 V0 ⟨by decide, by decide⟩ rfl (hb hby d17_7) rfl ?_
  refine own_aloadN (n := 9) X0 hx (hb hby d17_8) rfl rfl rfl ?_
  refine own_iloadN (n := 10) X0 hx (hb hby d17_9) rfl rfl ?_
  refine own_ld_baload (n := 11) (v := (.int c4)) X0 hx hZ hE0 V1 ⟨by decide, by decide⟩ rfl (hb hby d17_10) rfl ?_
  refine own_icmpNo (n := 14) X0 hx (hb hby d17_11) (teq (rfl : c4 = c4)).2 rfl ?_
  refine own_iconst (n := 15) (z := (1 : Int32)) X0 hx (hb hby d17_14) rfl rfl ?_
  refine own_goto (n := 19) X0 hx (hb hby d17_15) (by decide) (by decide) ?_
  refine own_retZ X0 hx hlk hret (by simp) hE0 (w := (1 : Int32)) rfl (hb hby d17_19) (by decide) (by decide) ?_
  exact ⟨rfl, N0, rfl⟩
theorem own_ef17_own_rm_at_5_5 (m : MethodId) (y0 : Addr) (y1 : Addr) (y2 : Int32) (y3 : Int32) : entryFrame m #[(.ref y0), (.ref y1), (.int y2), (.int y3)] 4 = mkF m 0 #[.val (.ref y0), .val (.ref y1), .val (.int y2), .val (.int y3)] [] := by first | (simp [entryFrame, mkF, argsToLocals, Value.category]; done) | rfl
set_option maxRecDepth 65536 in
set_option maxHeartbeats 40000000 in
theorem own_rm_at_5_5 (l : Launch) (Z : State) (a0 : Array Value) (hw : ∀ d ∈ tables_1, d.before a0 Z = true) (a b : Addr) (kr kx : ClassId) (c0 c1 c2 c3 c4 e5 e6 e7 : Int32) (h0 : Heap) (n0 : Nat) (Z0 : n0 ≤ h0.size) (V0 : Arv Z h0 a kr .byte (5 : Int32) [(.int c0), (.int c1), (.int c2), (.int c3), (.int c4)] (.int (0 : Int32))) (V1 : Arv Z h0 b kx .byte (8 : Int32) [(.int c0), (.int c1), (.int c2), (.int c3), (.int c4), (.int e5), (.int e6), (.int e7)] (.int (0 : Int32))) :
    own_Met l Z (⟨"com/example/doseline/doseline/fhir/JsonWriterToByteArrayPinLaw", "at", "([B[BII)Z"⟩ : MethodName) method_2_code 4 (some .boolean) [] ({ frames := 0, cells := 0, slots := 0, locals := 0 } : Room) #[(.ref a), (.ref b), (.int (5 : Int32)), (.int (5 : Int32))] h0 (fun v h L => v = some (.int (1 : Int32)) ∧ Fr n0 L ∧ h = h0) := by
  refine own_met own_pn17 ?_
  intro p e s m below meth c s₁ hx hby hml hown hnm hret hlk hZ X0 hE0
  have N0 := Fr.nil n0
  refine own_cast (own_ef17_own_rm_at_5_5 m a b (5 : Int32) (5 : Int32)) ?_
  refine own_iloadN (n := 1) X0 hx (hb hby d17_0) rfl rfl ?_
  refine own_iloadN (n := 2) X0 hx (hb hby d17_1) rfl rfl ?_
  refine own_icmpYes (n := 14) X0 hx (hb hby d17_2) (flt (by decide : ¬ ((5 : Int32) < (5 : Int32)))).2.1 (by decide) (by decide) ?_
  refine own_iconst (n := 15) (z := (1 : Int32)) X0 hx (hb hby d17_14) rfl rfl ?_
  refine own_goto (n := 19) X0 hx (hb hby d17_15) (by decide) (by decide) ?_
  refine own_retZ X0 hx hlk hret (by simp) hE0 (w := (1 : Int32)) rfl (hb hby d17_19) (by decide) (by decide) ?_
  exact ⟨rfl, N0, rfl⟩
theorem own_ef17_own_rm_at_6_5 (m : MethodId) (y0 : Addr) (y1 : Addr) (y2 : Int32) (y3 : Int32) : entryFrame m #[(.ref y0), (.ref y1), (.int y2), (.int y3)] 4 = mkF m 0 #[.val (.ref y0), .val (.ref y1), .val (.int y2), .val (.int y3)] [] := by first | (simp [entryFrame, mkF, argsToLocals, Value.category]; done) | rfl
set_option maxRecDepth 65536 in
set_option maxHeartbeats 40000000 in
theorem own_rm_at_6_5 (l : Launch) (Z : State) (a0 : Array Value) (hw : ∀ d ∈ tables_1, d.before a0 Z = true) (a b : Addr) (kr kx : ClassId) (c0 c1 c2 c3 c4 e5 e6 e7 : Int32) (h0 : Heap) (n0 : Nat) (Z0 : n0 ≤ h0.size) (V0 : Arv Z h0 a kr .byte (5 : Int32) [(.int c0), (.int c1), (.int c2), (.int c3), (.int c4)] (.int (0 : Int32))) (V1 : Arv Z h0 b kx .byte (8 : Int32) [(.int c0), (.int c1), (.int c2), (.int c3), (.int c4), (.int e5), (.int e6), (.int e7)] (.int (0 : Int32))) :
    own_Met l Z (⟨"com/example/doseline/doseline/fhir/JsonWriterToByteArrayPinLaw", "at", "([B[BII)Z"⟩ : MethodName) method_2_code 4 (some .boolean) [] ({ frames := 0, cells := 0, slots := 0, locals := 0 } : Room) #[(.ref a), (.ref b), (.int (6 : Int32)), (.int (5 : Int32))] h0 (fun v h L => v = some (.int (1 : Int32)) ∧ Fr n0 L ∧ h = h0) := by
  refine own_met own_pn17 ?_
  intro p e s m below meth c s₁ hx hby hml hown hnm hret hlk hZ X0 hE0
  have N0 := Fr.nil n0
  refine own_cast (own_ef17_own_rm_at_6_5 m a b (6 : Int32) (5 : Int32)) ?_
  refine own_iloadN (n := 1) X0 hx (hb hby d17_0) rfl rfl ?_
  refine own_iloadN (n := 2) X0 hx (hb hby d17_1) rfl rfl ?_
  refine own_icmpYes (n := 14) X0 hx (hb hby d17_2) (flt (by decide : ¬ ((6 : Int32) < (5 : Int32)))).2.1 (by decide) (by decide) ?_
  refine own_iconst (n := 15) (z := (1 : Int32)) X0 hx (hb hby d17_14) rfl rfl ?_
  refine own_goto (n := 19) X0 hx (hb hby d17_15) (by decide) (by decide) ?_
  refine own_retZ X0 hx hlk hret (by simp) hE0 (w := (1 : Int32)) rfl (hb hby d17_19) (by decide) (by decide) ?_
  exact ⟨rfl, N0, rfl⟩
theorem own_ef17_own_rm_at_7_5 (m : MethodId) (y0 : Addr) (y1 : Addr) (y2 : Int32) (y3 : Int32) : entryFrame m #[(.ref y0), (.ref y1), (.int y2), (.int y3)] 4 = mkF m 0 #[.val (.ref y0), .val (.ref y1), .val (.int y2), .val (.int y3)] [] := by first | (simp [entryFrame, mkF, argsToLocals, Value.category]; done) | rfl
set_option maxRecDepth 65536 in
set_option maxHeartbeats 40000000 in
theorem own_rm_at_7_5 (l : Launch) (Z : State) (a0 : Array Value) (hw : ∀ d ∈ tables_1, d.before a0 Z = true) (a b : Addr) (kr kx : ClassId) (c0 c1 c2 c3 c4 e5 e6 e7 : Int32) (h0 : Heap) (n0 : Nat) (Z0 : n0 ≤ h0.size) (V0 : Arv Z h0 a kr .byte (5 : Int32) [(.int c0), (.int c1), (.int c2), (.int c3), (.int c4)] (.int (0 : Int32))) (V1 : Arv Z h0 b kx .byte (8 : Int32) [(.int c0), (.int c1), (.int c2), (.int c3), (.int c4), (.int e5), (.int e6), (.int e7)] (.int (0 : Int32))) :
    own_Met l Z (⟨"com/example/doseline/doseline/fhir/JsonWriterToByteArrayPinLaw", "at", "([B[BII)Z"⟩ : MethodName) method_2_code 4 (some .boolean) [] ({ frames := 0, cells := 0, slots := 0, locals := 0 } : Room) #[(.ref a), (.ref b), (.int (7 : Int32)), (.int (5 : Int32))] h0 (fun v h L => v = some (.int (1 : Int32)) ∧ Fr n0 L ∧ h = h0) := by
  refine own_met own_pn17 ?_
  intro p e s m below meth c s₁ hx hby hml hown hnm hret hlk hZ X0 hE0
  have N0 := Fr.nil n0
  refine own_cast (own_ef17_own_rm_at_7_5 m a b (7 : Int32) (5 : Int32)) ?_
  refine own_iloadN (n := 1) X0 hx (hb hby d17_0) rfl rfl ?_
  refine own_iloadN (n := 2) X0 hx (hb hby d17_1) rfl rfl ?_
  refine own_icmpYes (n := 14) X0 hx (hb hby d17_2) (flt (by decide : ¬ ((7 : Int32) < (5 : Int32)))).2.1 (by decide) (by decide) ?_
  refine own_iconst (n := 15) (z := (1 : Int32)) X0 hx (hb hby d17_14) rfl rfl ?_
  refine own_goto (n := 19) X0 hx (hb hby d17_15) (by decide) (by decide) ?_
  refine own_retZ X0 hx hlk hret (by simp) hE0 (w := (1 : Int32)) rfl (hb hby d17_19) (by decide) (by decide) ?_
  exact ⟨rfl, N0, rfl⟩
theorem own_ef16_own_rm_same_5 (m : MethodId) (y0 : Addr) (y1 : Addr) (y2 : Int32) : entryFrame m #[(.ref y0), (.ref y1), (.int y2)] 3 = mkF m 0 #[.val (.ref y0), .val (.ref y1), .val (.int y2)] [] := by first | (simp [entryFrame, mkF, argsToLocals, Value.category]; done) | rfl
set_option maxRecDepth 65536 in
set_option maxHeartbeats 40000000 in
theorem own_rm_same_5 (l : Launch) (Z : State) (a0 : Array Value) (hw : ∀ d ∈ tables_1, d.before a0 Z = true) (a b : Addr) (kr kx : ClassId) (c0 c1 c2 c3 c4 e5 e6 e7 : Int32) (h0 : Heap) (n0 : Nat) (Z0 : n0 ≤ h0.size) (V0 : Arv Z h0 a kr .byte (5 : Int32) [(.int c0), (.int c1), (.int c2), (.int c3), (.int c4)] (.int (0 : Int32))) (V1 : Arv Z h0 b kx .byte (8 : Int32) [(.int c0), (.int c1), (.int c2), (.int c3), (.int c4), (.int e5), (.int e6), (.int e7)] (.int (0 : Int32))) :
    own_Met l Z (⟨"com/example/doseline/doseline/fhir/JsonWriterToByteArrayPinLaw", "same", "([B[BI)Z"⟩ : MethodName) method_3_code 3 (some .boolean) [] ({ frames := 1, cells := 0, slots := 0, locals := 15 } : Room) #[(.ref a), (.ref b), (.int (5 : Int32))] h0 (fun v h L => v = some (.int (1 : Int32)) ∧ Fr n0 L ∧ h = h0) := by
  refine own_met own_pn16 ?_
  intro p e s m below meth c s₁ hx hby hml hown hnm hret hlk hZ X0 hE0
  have N0 := Fr.nil n0
  refine own_cast (own_ef16_own_rm_same_5 m a b (5 : Int32)) ?_
  refine own_aloadN (n := 1) X0 hx (hb hby d16_0) rfl rfl rfl ?_
  refine own_ifnullNo (n := 4) X0 hx (hb hby d16_1) rfl ?_
  refine own_aloadN (n := 5) X0 hx (hb hby d16_4) rfl rfl rfl ?_
  refine own_len (n := 6) X0 hx hZ hE0 V0 (hb hby d16_5) rfl ?_
  refine own_iloadN (n := 7) X0 hx (hb hby d16_6) rfl rfl ?_
  refine own_icmpYes (n := 12) X0 hx (hb hby d16_7) (teq (by decide : (5 : Int32) = (5 : Int32))).1 (by decide) (by decide) ?_
  refine own_aloadN (n := 13) X0 hx (hb hby d16_12) rfl rfl rfl ?_
  refine own_aloadN (n := 14) X0 hx (hb hby d16_13) rfl rfl rfl ?_
  refine own_iconst (n := 15) (z := (0 : Int32)) X0 hx (hb hby d16_14) rfl rfl ?_
  refine own_iloadN (n := 16) X0 hx (hb hby d16_15) rfl rfl ?_
  refine own_S (n := 19) (argsL := [(.ref a), (.ref b), (.int (0 : Int32)), (.int (5 : Int32))]) (rest := []) X0 hx hZ hown (own_rm_at_0_5 l Z a0 hw a b kr kx c0 c1 c2 c3 c4 e5 e6 e7 h0 n0 Z0 V0 V1) (ww80 hw) (ww81 hw) (ww78 hw) (ww82 hw) (by decide) hE0 (by rw [hml]; rfl) (lenOf own_pd6 rfl) rfl (hb hby d16_16) (Nat.le_of_ble_eq_true rfl) (Nat.le_of_ble_eq_true rfl) (Nat.le_of_ble_eq_true rfl) (Nat.le_of_ble_eq_true rfl) rfl ?_
  rintro v1 T1 L1 X1 ⟨rfl, Nq1, eq1⟩
  have N1 := Fr.app N0 Nq1
  change own_G p e below _ _ (mkF m 19 _ [(.int (1 : Int32))])
  refine own_ifNo (n := 22) X1 hx (hb hby d16_19) (feq (by decide : ¬ ((1 : Int32) = (0 : Int32)))).1 rfl ?_
  refine own_aloadN (n := 23) X1 hx (hb hby d16_22) rfl rfl rfl ?_
  refine own_aloadN (n := 24) X1 hx (hb hby d16_23) rfl rfl rfl ?_
  refine own_iconst (n := 25) (z := (1 : Int32)) X1 hx (hb hby d16_24) rfl rfl ?_
  refine own_iloadN (n := 26) X1 hx (hb hby d16_25) rfl rfl ?_
  refine own_S (n := 29) (argsL := [(.ref a), (.ref b), (.int (1 : Int32)), (.int (5 : Int32))]) (rest := []) X1 hx hZ hown (own_rm_at_1_5 l Z a0 hw a b kr kx c0 c1 c2 c3 c4 e5 e6 e7 h0 n0 Z0 V0 V1) (ww80 hw) (ww81 hw) (ww78 hw) (ww82 hw) (by decide) eq1 (by rw [hml]; rfl) (lenOf own_pd6 rfl) rfl (hb hby d16_26) (Nat.le_of_ble_eq_true rfl) (Nat.le_of_ble_eq_true rfl) (Nat.le_of_ble_eq_true rfl) (Nat.le_of_ble_eq_true rfl) rfl ?_
  rintro v2 T2 L2 X2 ⟨rfl, Nq2, eq2⟩
  have N2 := Fr.app N1 Nq2
  change own_G p e below _ _ (mkF m 29 _ [(.int (1 : Int32))])
  refine own_ifNo (n := 32) X2 hx (hb hby d16_29) (feq (by decide : ¬ ((1 : Int32) = (0 : Int32)))).1 rfl ?_
  refine own_aloadN (n := 33) X2 hx (hb hby d16_32) rfl rfl rfl ?_
  refine own_aloadN (n := 34) X2 hx (hb hby d16_33) rfl rfl rfl ?_
  refine own_iconst (n := 35) (z := (2 : Int32)) X2 hx (hb hby d16_34) rfl rfl ?_
  refine own_iloadN (n := 36) X2 hx (hb hby d16_35) rfl rfl ?_
  refine own_S (n := 39) (argsL := [(.ref a), (.ref b), (.int (2 : Int32)), (.int (5 : Int32))]) (rest := []) X2 hx hZ hown (own_rm_at_2_5 l Z a0 hw a b kr kx c0 c1 c2 c3 c4 e5 e6 e7 h0 n0 Z0 V0 V1) (ww80 hw) (ww81 hw) (ww78 hw) (ww82 hw) (by decide) eq2 (by rw [hml]; rfl) (lenOf own_pd6 rfl) rfl (hb hby d16_36) (Nat.le_of_ble_eq_true rfl) (Nat.le_of_ble_eq_true rfl) (Nat.le_of_ble_eq_true rfl) (Nat.le_of_ble_eq_true rfl) rfl ?_
  rintro v3 T3 L3 X3 ⟨rfl, Nq3, eq3⟩
  have N3 := Fr.app N2 Nq3
  change own_G p e below _ _ (mkF m 39 _ [(.int (1 : Int32))])
  refine own_ifNo (n := 42) X3 hx (hb hby d16_39) (feq (by decide : ¬ ((1 : Int32) = (0 : Int32)))).1 rfl ?_
  refine own_aloadN (n := 43) X3 hx (hb hby d16_42) rfl rfl rfl ?_
  refine own_aloadN (n := 44) X3 hx (hb hby d16_43) rfl rfl rfl ?_
  refine own_iconst (n := 45) (z := (3 : Int32)) X3 hx (hb hby d16_44) rfl rfl ?_
  refine own_iloadN (n := 46) X3 hx (hb hby d16_45) rfl rfl ?_
  refine own_S (n := 49) (argsL := [(.ref a), (.ref b), (.int (3 : Int32)), (.int (5 : Int32))]) (rest := []) X3 hx hZ hown (own_rm_at_3_5 l Z a0 hw a b kr kx c0 c1 c2 c3 c4 e5 e6 e7 h0 n0 Z0 V0 V1) (ww80 hw) (ww81 hw) (ww78 hw) (ww82 hw) (by decide) eq3 (by rw [hml]; rfl) (lenOf own_pd6 rfl) rfl (hb hby d16_46) (Nat.le_of_ble_eq_true rfl) (Nat.le_of_ble_eq_true rfl) (Nat.le_of_ble_eq_true rfl) (Nat.le_of_ble_eq_true rfl) rfl ?_
  rintro v4 T4 L4 X4 ⟨rfl, Nq4, eq4⟩
  have N4 := Fr.app N3 Nq4
  change own_G p e below _ _ (mkF m 49 _ [(.int (1 : Int32))])
  refine own_ifNo (n := 52) X4 hx (hb hby d16_49) (feq (by decide : ¬ ((1 : Int32) = (0 : Int32)))).1 rfl ?_
  refine own_aloadN (n := 53) X4 hx (hb hby d16_52) rfl rfl rfl ?_
  refine own_aloadN (n := 54) X4 hx (hb hby d16_53) rfl rfl rfl ?_
  refine own_iconst (n := 55) (z := (4 : Int32)) X4 hx (hb hby d16_54) rfl rfl ?_
  refine own_iloadN (n := 56) X4 hx (hb hby d16_55) rfl rfl ?_
  refine own_S (n := 59) (argsL := [(.ref a), (.ref b), (.int (4 : Int32)), (.int (5 : Int32))]) (rest := []) X4 hx hZ hown (own_rm_at_4_5 l Z a0 hw a b kr kx c0 c1 c2 c3 c4 e5 e6 e7 h0 n0 Z0 V0 V1) (ww80 hw) (ww81 hw) (ww78 hw) (ww82 hw) (by decide) eq4 (by rw [hml]; rfl) (lenOf own_pd6 rfl) rfl (hb hby d16_56) (Nat.le_of_ble_eq_true rfl) (Nat.le_of_ble_eq_true rfl) (Nat.le_of_ble_eq_true rfl) (Nat.le_of_ble_eq_true rfl) rfl ?_
  rintro v5 T5 L5 X5 ⟨rfl, Nq5, eq5⟩
  have N5 := Fr.app N4 Nq5
  change own_G p e below _ _ (mkF m 59 _ [(.int (1 : Int32))])
  refine own_ifNo (n := 62) X5 hx (hb hby d16_59) (feq (by decide : ¬ ((1 : Int32) = (0 : Int32)))).1 rfl ?_
  refine own_aloadN (n := 63) X5 hx (hb hby d16_62) rfl rfl rfl ?_
  refine own_aloadN (n := 64) X5 hx (hb hby d16_63) rfl rfl rfl ?_
  refine own_iconst (n := 65) (z := (5 : Int32)) X5 hx (hb hby d16_64) rfl rfl ?_
  refine own_iloadN (n := 66) X5 hx (hb hby d16_65) rfl rfl ?_
  refine own_S (n := 69) (argsL := [(.ref a), (.ref b), (.int (5 : Int32)), (.int (5 : Int32))]) (rest := []) X5 hx hZ hown (own_rm_at_5_5 l Z a0 hw a b kr kx c0 c1 c2 c3 c4 e5 e6 e7 h0 n0 Z0 V0 V1) (ww80 hw) (ww81 hw) (ww78 hw) (ww82 hw) (by decide) eq5 (by rw [hml]; rfl) (lenOf own_pd6 rfl) rfl (hb hby d16_66) (Nat.le_of_ble_eq_true rfl) (Nat.le_of_ble_eq_true rfl) (Nat.le_of_ble_eq_true rfl) (Nat.le_of_ble_eq_true rfl) rfl ?_
  rintro v6 T6 L6 X6 ⟨rfl, Nq6, eq6⟩
  have N6 := Fr.app N5 Nq6
  change own_G p e below _ _ (mkF m 69 _ [(.int (1 : Int32))])
  refine own_ifNo (n := 72) X6 hx (hb hby d16_69) (feq (by decide : ¬ ((1 : Int32) = (0 : Int32)))).1 rfl ?_
  refine own_aloadN (n := 73) X6 hx (hb hby d16_72) rfl rfl rfl ?_
  refine own_aloadN (n := 74) X6 hx (hb hby d16_73) rfl rfl rfl ?_
  refine own_bipush (n := 76) (z := (6 : Int32)) X6 hx (hb hby d16_74) rfl rfl ?_
  refine own_iloadN (n := 77) X6 hx (hb hby d16_76) rfl rfl ?_
  refine own_S (n := 80) (argsL := [(.ref a), (.ref b), (.int (6 : Int32)), (.int (5 : Int32))]) (rest := []) X6 hx hZ hown (own_rm_at_6_5 l Z a0 hw a b kr kx c0 c1 c2 c3 c4 e5 e6 e7 h0 n0 Z0 V0 V1) (ww80 hw) (ww81 hw) (ww78 hw) (ww82 hw) (by decide) eq6 (by rw [hml]; rfl) (lenOf own_pd6 rfl) rfl (hb hby d16_77) (Nat.le_of_ble_eq_true rfl) (Nat.le_of_ble_eq_true rfl) (Nat.le_of_ble_eq_true rfl) (Nat.le_of_ble_eq_true rfl) rfl ?_
  rintro v7 T7 L7 X7 ⟨rfl, Nq7, eq7⟩
  have N7 := Fr.app N6 Nq7
  change own_G p e below _ _ (mkF m 80 _ [(.int (1 : Int32))])
  refine own_ifNo (n := 83) X7 hx (hb hby d16_80) (feq (by decide : ¬ ((1 : Int32) = (0 : Int32)))).1 rfl ?_
  refine own_aloadN (n := 84) X7 hx (hb hby d16_83) rfl rfl rfl ?_
  refine own_aloadN (n := 85) X7 hx (hb hby d16_84) rfl rfl rfl ?_
  refine own_bipush (n := 87) (z := (7 : Int32)) X7 hx (hb hby d16_85) rfl rfl ?_
  refine own_iloadN (n := 88) X7 hx (hb hby d16_87) rfl rfl ?_
  refine own_S (n := 91) (argsL := [(.ref a), (.ref b), (.int (7 : Int32)), (.int (5 : Int32))]) (rest := []) X7 hx hZ hown (own_rm_at_7_5 l Z a0 hw a b kr kx c0 c1 c2 c3 c4 e5 e6 e7 h0 n0 Z0 V0 V1) (ww80 hw) (ww81 hw) (ww78 hw) (ww82 hw) (by decide) eq7 (by rw [hml]; rfl) (lenOf own_pd6 rfl) rfl (hb hby d16_88) (Nat.le_of_ble_eq_true rfl) (Nat.le_of_ble_eq_true rfl) (Nat.le_of_ble_eq_true rfl) (Nat.le_of_ble_eq_true rfl) rfl ?_
  rintro v8 T8 L8 X8 ⟨rfl, Nq8, eq8⟩
  have N8 := Fr.app N7 Nq8
  change own_G p e below _ _ (mkF m 91 _ [(.int (1 : Int32))])
  refine own_ifNo (n := 94) X8 hx (hb hby d16_91) (feq (by decide : ¬ ((1 : Int32) = (0 : Int32)))).1 rfl ?_
  refine own_iconst (n := 95) (z := (1 : Int32)) X8 hx (hb hby d16_94) rfl rfl ?_
  refine own_goto (n := 99) X8 hx (hb hby d16_95) (by decide) (by decide) ?_
  refine own_retZ X8 hx hlk hret (by simp) eq8 (w := (1 : Int32)) rfl (hb hby d16_99) (by decide) (by decide) ?_
  exact ⟨rfl, N8, rfl⟩
theorem own_ef5_own_rm_sep1_4 (m : MethodId) (y0 : Addr) : entryFrame m #[(.ref y0)] 1 = mkF m 0 #[.val (.ref y0)] [] := by first | (simp [entryFrame, mkF, argsToLocals, Value.category]; done) | rfl
set_option maxRecDepth 65536 in
set_option maxHeartbeats 40000000 in
theorem own_rm_sep1_4 (l : Launch) (Z : State) (a0 : Array Value) (hw : ∀ d ∈ tables_1, d.before a0 Z = true) (a b : Addr) (kb : ClassId) (N : Int32) (rest : List Value) (c0 c1 c2 c3 : Int32) (h0 : Heap) (n0 : Nat) (Z0 : n0 ≤ h0.size) (E0 : Exa Z h0 a "com/example/doseline/doseline/fhir/JsonWriter") (FB : Fld Z h0 a "com/example/doseline/doseline/fhir/JsonWriter" "bytes" "[B" (.ref b)) (FL : Fld Z h0 a "com/example/doseline/doseline/fhir/JsonWriter" "length" "I" (.int (4 : Int32))) (FA : Fld Z h0 a "com/example/doseline/doseline/fhir/JsonWriter" "afterElement" "Z" (.int (1 : Int32))) (VB : Arv Z h0 b kb .byte N ((.int c0) :: (.int c1) :: (.int c2) :: (.int c3) :: rest) (.int (0 : Int32))) (EB : Exa Z h0 b "[B") (hl : rest.length + 4 = N.toNatClampNeg) (hN : N.toInt ≤ 15) (g_a : n0 ≤ a) (g_b : n0 ≤ b) :
    own_Met l Z (⟨"com/example/doseline/doseline/fhir/JsonWriter", "separate", "()V"⟩ : MethodName) prog_96_method_24_code 1 none [] ({ frames := 4, cells := 1, slots := 15, locals := 81 } : Room) #[(.ref a)] h0 (fun v h L => ∃ (b' : Addr) (k' : ClassId) (N' : Int32) (r' : List Value), v = none ∧ Fr n0 L ∧ Keep h0 h [a, b] ∧ Exa Z h a "com/example/doseline/doseline/fhir/JsonWriter" ∧ Fld Z h a "com/example/doseline/doseline/fhir/JsonWriter" "bytes" "[B" (.ref b') ∧ Fld Z h a "com/example/doseline/doseline/fhir/JsonWriter" "length" "I" (.int (5 : Int32)) ∧ Fld Z h a "com/example/doseline/doseline/fhir/JsonWriter" "afterElement" "Z" (.int (1 : Int32)) ∧ Arv Z h b' k' .byte N' ((.int c0) :: (.int c1) :: (.int c2) :: (.int c3) :: (.int (44 : Int32)) :: r') (.int (0 : Int32)) ∧ Exa Z h b' "[B" ∧ r'.length + 5 = N'.toNatClampNeg ∧ N'.toInt ≤ 15 ∧ (b' = b ∨ h0.size ≤ b') ∧ n0 ≤ b') := by
  refine own_met own_pn5 ?_
  intro p e s m below meth c s₁ hx hby hml hown hnm hret hlk hZ X0 hE0
  have N0 := Fr.nil n0
  refine own_cast (own_ef5_own_rm_sep1_4 m a) ?_
  have hN0 := own_arvn VB
  refine own_aloadN (n := 1) X0 hx (hb hby d5_0) rfl rfl rfl ?_
  refine own_getF (n := 4) X0 hx hZ hown (host := "") (Or.inl (ww25 hw)) Via.refl hE0 FA (hb hby d5_1) rfl ?_
  intro T1 X1 e1
  refine own_ifNo (n := 7) X1 hx (hb hby d5_4) (feq (by decide : ¬ ((1 : Int32) = (0 : Int32)))).1 rfl ?_
  refine own_aloadN (n := 8) X1 hx (hb hby d5_7) rfl rfl rfl ?_
  refine own_bipush (n := 10) (z := (44 : Int32)) X1 hx (hb hby d5_8) rfl rfl ?_
  refine own_P (n := 13) (argsL := [(.int (44 : Int32))]) (rest := []) (a := a) X1 hx hZ hown (own_rm_wb_4 l Z a0 hw a b kb N rest (1 : Int32) c0 c1 c2 c3 (44 : Int32) h0 n0 Z0 E0 FB FL FA VB EB hl hN g_a g_b (by decide)) (ww27 hw) (ww28 hw) (by rfl) (ww15 hw) (ww29 hw) (ww3 hw) (ww30 hw) (by decide) e1 E0 (by rw [hml]; rfl) (lenOf own_pd8 rfl) rfl (hb hby d5_10) (Nat.le_of_ble_eq_true rfl) (Nat.le_of_ble_eq_true rfl) (Nat.le_of_ble_eq_true rfl) (Nat.le_of_ble_eq_true rfl) rfl ?_
  rintro v2 T2 L2 X2 ⟨y2, k2, M2, r2, rfl, Nq2, K2, Eq2, Fb2, Fl2, Fa2, Vb2, Ec2, hl2, hN2, hq2, gb2⟩
  have N2 := Fr.app N0 Nq2
  have E_3 := E0.keep K2
  have E_4 := EB.keep K2
  have K_5 := (Keep.refl h0 [a, b]).trans K2 (fun x hx => by simp only [List.mem_cons, List.not_mem_nil, or_false] at hx; rcases hx with rfl | rfl <;> first | exact (Or.inl (by first | exact List.mem_cons_self | exact List.mem_cons_of_mem _ List.mem_cons_self | exact List.mem_cons_of_mem _ (List.mem_cons_of_mem _ List.mem_cons_self) | (simp; done))))
  have Z_6 : n0 ≤ T2.heap.size := Nat.le_trans Z0 K2.1
  have hb2 : y2 = b ∨ h0.size ≤ y2 := own_orTr (Or.inl rfl : b = b ∨ h0.size ≤ b) hq2 (Keep.refl h0 [a, b]).1
  change own_G p e below _ _ (mkF m 13 _ [])
  refine own_retV X2 hx hlk hret rfl (hb hby d5_13) (by decide) (by decide) ?_
  exact ⟨y2, k2, M2, r2, rfl, N2, K_5, E_3, Fb2, Fl2, Fa2, Vb2, Ec2, hl2, hN2, hb2, gb2⟩
theorem own_ef7_own_rm_room_5_2 (m : MethodId) (y0 : Addr) (y1 : Int32) : entryFrame m #[(.ref y0), (.int y1)] 2 = mkF m 0 #[.val (.ref y0), .val (.int y1)] [] := by first | (simp [entryFrame, mkF, argsToLocals, Value.category]; done) | rfl
set_option maxRecDepth 65536 in
set_option maxHeartbeats 40000000 in
theorem own_rm_room_5_2 (l : Launch) (Z : State) (a0 : Array Value) (hw : ∀ d ∈ tables_1, d.before a0 Z = true) (a b : Addr) (kb : ClassId) (N : Int32) (rest : List Value) (ae : Int32) (c0 c1 c2 c3 c4 : Int32) (h0 : Heap) (n0 : Nat) (Z0 : n0 ≤ h0.size) (E0 : Exa Z h0 a "com/example/doseline/doseline/fhir/JsonWriter") (FB : Fld Z h0 a "com/example/doseline/doseline/fhir/JsonWriter" "bytes" "[B" (.ref b)) (FL : Fld Z h0 a "com/example/doseline/doseline/fhir/JsonWriter" "length" "I" (.int (5 : Int32))) (FA : Fld Z h0 a "com/example/doseline/doseline/fhir/JsonWriter" "afterElement" "Z" (.int ae)) (VB : Arv Z h0 b kb .byte N ((.int c0) :: (.int c1) :: (.int c2) :: (.int c3) :: (.int c4) :: rest) (.int (0 : Int32))) (EB : Exa Z h0 b "[B") (hl : rest.length + 5 = N.toNatClampNeg) (hN : N.toInt ≤ 15) (g_a : n0 ≤ a) (g_b : n0 ≤ b) :
    own_Met l Z (⟨"com/example/doseline/doseline/fhir/JsonWriter", "room", "(I)V"⟩ : MethodName) prog_96_method_28_code 2 none [] ({ frames := 2, cells := 1, slots := 15, locals := 55 } : Room) #[(.ref a), (.int (2 : Int32))] h0 (fun v h L => ∃ (b' : Addr) (k' : ClassId) (N' : Int32) (r' : List Value), v = none ∧ Fr n0 L ∧ Keep h0 h [a] ∧ Exa Z h a "com/example/doseline/doseline/fhir/JsonWriter" ∧ Fld Z h a "com/example/doseline/doseline/fhir/JsonWriter" "bytes" "[B" (.ref b') ∧ Fld Z h a "com/example/doseline/doseline/fhir/JsonWriter" "length" "I" (.int (5 : Int32)) ∧ Fld Z h a "com/example/doseline/doseline/fhir/JsonWriter" "afterElement" "Z" (.int ae) ∧ Arv Z h b' k' .byte N' ((.int c0) :: (.int c1) :: (.int c2) :: (.int c3) :: (.int c4) :: r') (.int (0 : Int32)) ∧ Exa Z h b' "[B" ∧ r'.length + 5 = N'.toNatClampNeg ∧ N'.toInt ≤ 15 ∧ (b' = b ∨ h0.size ≤ b') ∧ n0 ≤ b' ∧ 2 ≤ r'.length) := by
  refine own_met own_pn7 ?_
  intro p e s m below meth c s₁ hx hby hml hown hnm hret hlk hZ X0 hE0
  have N0 := Fr.nil n0
  refine own_cast (own_ef7_own_rm_room_5_2 m a (2 : Int32)) ?_
  have hN0 := own_arvn VB
  refine own_iloadN (n := 1) X0 hx (hb hby d7_0) rfl rfl ?_
  refine own_aloadN (n := 2) X0 hx (hb hby d7_1) rfl rfl rfl ?_
  refine own_getF (n := 5) X0 hx hZ hown (host := "") (Or.inl (ww10 hw)) Via.refl hE0 FB (hb hby d7_2) rfl ?_
  intro T1 X1 e1
  refine own_len (n := 6) X1 hx hZ e1 VB (hb hby d7_5) rfl ?_
  refine own_aloadN (n := 7) X1 hx (hb hby d7_6) rfl rfl rfl ?_
  refine own_getF (n := 10) X1 hx hZ hown (host := "") (Or.inl (ww35 hw)) Via.refl e1 FL (hb hby d7_7) rfl ?_
  intro T2 X2 e2
  refine own_isub (n := 11) X2 hx (hb hby d7_10) rfl rfl ?_
  by_cases hc11_3 : (N - (5 : Int32)) < (2 : Int32)
  · skip
    have hgr := own_grow (N := N) (l := (5 : Int32)) (n := (2 : Int32)) (q := (7 : Int32)) (r := rest) (L := 5) (m := 2) rfl rfl rfl (by decide) hN0 hN hl hc11_3
    refine own_icmpNo (n := 14) X2 hx (hb hby d7_11) (tlt hc11_3).2.2.2 rfl ?_
    refine own_aloadN (n := 15) X2 hx (hb hby d7_14) rfl rfl rfl ?_
    refine own_aloadN (n := 16) X2 hx (hb hby d7_15) rfl rfl rfl ?_
    refine own_getF (n := 19) X2 hx hZ hown (host := "") (Or.inl (ww10 hw)) Via.refl e2 FB (hb hby d7_16) rfl ?_
    intro T4 X4 e4
    refine own_aloadN (n := 20) X4 hx (hb hby d7_19) rfl rfl rfl ?_
    refine own_getF (n := 23) X4 hx hZ hown (host := "") (Or.inl (ww10 hw)) Via.refl e4 FB (hb hby d7_20) rfl ?_
    intro T5 X5 e5
    refine own_len (n := 24) X5 hx hZ e5 VB (hb hby d7_23) rfl ?_
    refine own_iconst (n := 25) (z := (2 : Int32)) X5 hx (hb hby d7_24) rfl rfl ?_
    refine own_imul (n := 26) X5 hx (hb hby d7_25) rfl rfl ?_
    refine own_aloadN (n := 27) X5 hx (hb hby d7_26) rfl rfl rfl ?_
    refine own_getF (n := 30) X5 hx hZ hown (host := "") (Or.inl (ww35 hw)) Via.refl e5 FL (hb hby d7_27) rfl ?_
    intro T6 X6 e6
    refine own_iloadN (n := 31) X6 hx (hb hby d7_30) rfl rfl ?_
    refine own_iadd (n := 32) (z := (7 : Int32)) X6 hx (hb hby d7_31) rfl rfl ?_
    refine own_S (n := 35) (argsL := [(.int (N * (2 : Int32))), (.int (7 : Int32))]) (rest := [(.ref b), (.ref a)]) X6 hx hZ hown (own_rm_max l Z a0 hw (N * (2 : Int32)) (7 : Int32) h0 n0 Z0) (ww37 hw) (ww38 hw) (ww39 hw) (ww40 hw) (by decide) e6 (by rw [hml]; rfl) (lenOf own_pd2 rfl) rfl (hb hby d7_32) (Nat.le_of_ble_eq_true rfl) (Nat.le_of_ble_eq_true rfl) (Nat.le_of_ble_eq_true rfl) (Nat.le_of_ble_eq_true rfl) rfl ?_
    rintro v7 T7 L7 X7 ⟨rfl, Nq7, eq7⟩
    have N7 := Fr.app N0 Nq7
    change own_G p e below _ _ (mkF m 35 _ [(.int (own_max (N * (2 : Int32)) (7 : Int32))), (.ref b), (.ref a)])
    refine own_S (n := 38) (argsL := [(.ref b), (.int (own_max (N * (2 : Int32)) (7 : Int32)))]) (rest := [(.ref a)]) X7 hx hZ hown (own_rm_copy15 l Z a0 hw b kb N (own_max (N * (2 : Int32)) (7 : Int32)) ((.int c0) :: (.int c1) :: (.int c2) :: (.int c3) :: (.int c4) :: rest) h0 n0 Z0 VB (by (try simp only [List.length_cons]); omega) EB hgr.1 hgr.2.1) (ww41 hw) (ww42 hw) (ww43 hw) (ww44 hw) (by decide) eq7 (by rw [hml]; rfl) (lenOf own_pd3 rfl) rfl (hb hby d7_35) (Nat.le_of_ble_eq_true rfl) (Nat.le_of_ble_eq_true rfl) (Nat.le_of_ble_eq_true rfl) (Nat.le_of_ble_eq_true rfl) rfl ?_
    rintro v8 T8 L8 X8 ⟨y8, k8, rfl, Nq8, K8, sz8, gb8, Vb8, Ec8⟩
    have N8 := Fr.app N7 Nq8
    have E_9 := E0.keep K8
    have F_10 := FB.keep K8 (by simp)
    have F_11 := FL.keep K8 (by simp)
    have F_12 := FA.keep K8 (by simp)
    have A_13 := VB.keep K8 (by simp)
    have E_14 := EB.keep K8
    have K_15 := (Keep.refl h0 [a]).trans K8 (fun x hx => nomatch hx)
    have Z_16 : n0 ≤ T8.heap.size := Nat.le_trans Z0 K8.1
    have Vc8 : Arv Z T8.heap y8 k8 .byte (own_max (N * (2 : Int32)) (7 : Int32)) ((.int c0) :: (.int c1) :: (.int c2) :: (.int c3) :: (.int c4) :: (rest ++ List.replicate (α := Value) (((own_max (N * (2 : Int32)) (7 : Int32))).toNatClampNeg - N.toNatClampNeg) (.int (0 : Int32)))) (.int (0 : Int32)) := by have q := Vb8; rw [List.take_of_length_le (by (try simp only [List.length_cons]); omega)] at q; exact q
    have hl8 : (rest ++ List.replicate (α := Value) (((own_max (N * (2 : Int32)) (7 : Int32))).toNatClampNeg - N.toNatClampNeg) (.int (0 : Int32))).length + 5 = ((own_max (N * (2 : Int32)) (7 : Int32))).toNatClampNeg := by rw [List.length_append, List.length_replicate]; omega
    have hx8 : 2 ≤ (rest ++ List.replicate (α := Value) (((own_max (N * (2 : Int32)) (7 : Int32))).toNatClampNeg - N.toNatClampNeg) (.int (0 : Int32))).length := by have := hl8; omega
    change own_G p e below _ _ (mkF m 38 _ [(.ref y8), (.ref a)])
    refine own_putF (n := 41) X8 hx hZ hown (host := "") (Or.inl (ww10 hw)) Via.refl rfl F_10 E_9 (Or.inl (ww11 hw)) (ww2 hw) (ty := (.array .byte)) (by decide) rfl rfl (hb hby d7_38) rfl ?_
    intro T17 h17 X17 e17 W17
    have F_18 := F_10.same W17
    have N17 := Fr.snoc X17 N8 g_a
    have E_19 := E_9.wr W17
    have F_20 := F_11.other W17 (Or.inr (slot_ne (Or.inl (ww36 hw)) (Or.inl (ww11 hw)) (by decide) (t := .int) (t' := (.array .byte)) (by decide) (by decide)))
    have F_21 := F_12.other W17 (Or.inr (slot_ne (Or.inl (ww26 hw)) (Or.inl (ww11 hw)) (by decide) (t := .boolean) (t' := (.array .byte)) (by decide) (by decide)))
    have A_22 := A_13.other W17 (Ne.symm (own_neEA E_9 (ww2 hw) A_13))
    have E_23 := E_14.wr W17
    have K_24 := K_15.wr W17 (Or.inl (by first | exact List.mem_cons_self | exact List.mem_cons_of_mem _ List.mem_cons_self | exact List.mem_cons_of_mem _ (List.mem_cons_of_mem _ List.mem_cons_self) | (simp; done)))
    have A_25 := Vc8.other W17 (Ne.symm (Nat.ne_of_lt (Nat.lt_of_lt_of_le E0.lt sz8)))
    have E_26 := Ec8.wr W17
    have Z_27 : n0 ≤ h17.size := by rw [W17.size]; exact Z_16
    refine own_retV X17 hx hlk hret e17 (hb hby d7_41) (by decide) (by decide) ?_
    exact ⟨y8, k8, ((own_max (N * (2 : Int32)) (7 : Int32))), (rest ++ List.replicate (α := Value) (((own_max (N * (2 : Int32)) (7 : Int32))).toNatClampNeg - N.toNatClampNeg) (.int (0 : Int32))), rfl, N17, K_24, E_19, F_18, F_20, F_21, A_25, E_26, hl8, hgr.2.2.1, (Or.inr sz8 : y8 = b ∨ h0.size ≤ y8), gb8, hx8⟩
  · skip
    have hx0 : 2 ≤ rest.length := own_roomle (N := N) (l := (5 : Int32)) (n := (2 : Int32)) (L := 5) (m := 2) rfl rfl (by decide) hN0 hN hl hc11_3
    refine own_icmpYes (n := 41) X2 hx (hb hby d7_11) (flt hc11_3).2.2.2 (by decide) (by decide) ?_
    refine own_retV X2 hx hlk hret e2 (hb hby d7_41) (by decide) (by decide) ?_
    exact ⟨b, kb, N, rest, rfl, N0, (Keep.refl h0 [a]), E0, FB, FL, FA, VB, EB, hl, hN, (Or.inl rfl : b = b ∨ h0.size ≤ b), g_b, hx0⟩
theorem own_ef12_own_rm_wa_5_2 (m : MethodId) (y0 : Addr) (y1 : Addr) : entryFrame m #[(.ref y0), (.ref y1)] 2 = mkF m 0 #[.val (.ref y0), .val (.ref y1)] [] := by first | (simp [entryFrame, mkF, argsToLocals, Value.category]; done) | rfl
set_option maxRecDepth 65536 in
set_option maxHeartbeats 40000000 in
theorem own_rm_wa_5_2 (l : Launch) (Z : State) (a0 : Array Value) (hw : ∀ d ∈ tables_1, d.before a0 Z = true) (a b : Addr) (kb : ClassId) (N : Int32) (rest : List Value) (ae : Int32) (c0 c1 c2 c3 c4 : Int32) (sa : Addr) (ks : ClassId) (d0 d1 : Int32) (h0 : Heap) (n0 : Nat) (Z0 : n0 ≤ h0.size) (E0 : Exa Z h0 a "com/example/doseline/doseline/fhir/JsonWriter") (FB : Fld Z h0 a "com/example/doseline/doseline/fhir/JsonWriter" "bytes" "[B" (.ref b)) (FL : Fld Z h0 a "com/example/doseline/doseline/fhir/JsonWriter" "length" "I" (.int (5 : Int32))) (FA : Fld Z h0 a "com/example/doseline/doseline/fhir/JsonWriter" "afterElement" "Z" (.int ae)) (VB : Arv Z h0 b kb .byte N ((.int c0) :: (.int c1) :: (.int c2) :: (.int c3) :: (.int c4) :: rest) (.int (0 : Int32))) (EB : Exa Z h0 b "[B") (hl : rest.length + 5 = N.toNatClampNeg) (hN : N.toInt ≤ 15) (g_a : n0 ≤ a) (g_b : n0 ≤ b) (VS : Arv Z h0 sa ks .byte (2 : Int32) [(.int d0), (.int d1)] (.int (0 : Int32))) (hsb : sa ≠ b) :
    own_Met l Z (⟨"com/example/doseline/doseline/fhir/JsonWriter", "write", "([B)V"⟩ : MethodName) prog_96_method_27_code 2 none [] ({ frames := 3, cells := 1, slots := 15, locals := 68 } : Room) #[(.ref a), (.ref sa)] h0 (fun v h L => ∃ (b' : Addr) (k' : ClassId) (N' : Int32) (r' : List Value), v = none ∧ Fr n0 L ∧ Keep h0 h [a, b] ∧ Exa Z h a "com/example/doseline/doseline/fhir/JsonWriter" ∧ Fld Z h a "com/example/doseline/doseline/fhir/JsonWriter" "bytes" "[B" (.ref b') ∧ Fld Z h a "com/example/doseline/doseline/fhir/JsonWriter" "length" "I" (.int (7 : Int32)) ∧ Fld Z h a "com/example/doseline/doseline/fhir/JsonWriter" "afterElement" "Z" (.int ae) ∧ Arv Z h b' k' .byte N' ((.int c0) :: (.int c1) :: (.int c2) :: (.int c3) :: (.int c4) :: (.int d0) :: (.int d1) :: r') (.int (0 : Int32)) ∧ Exa Z h b' "[B" ∧ r'.length + 7 = N'.toNatClampNeg ∧ N'.toInt ≤ 15 ∧ (b' = b ∨ h0.size ≤ b') ∧ n0 ≤ b') := by
  refine own_met own_pn12 ?_
  intro p e s m below meth c s₁ hx hby hml hown hnm hret hlk hZ X0 hE0
  have N0 := Fr.nil n0
  refine own_cast (own_ef12_own_rm_wa_5_2 m a sa) ?_
  have hN0 := own_arvn VB
  refine own_aloadN (n := 1) X0 hx (hb hby d12_0) rfl rfl rfl ?_
  refine own_aloadN (n := 2) X0 hx (hb hby d12_1) rfl rfl rfl ?_
  refine own_len (n := 3) X0 hx hZ hE0 VS (hb hby d12_2) rfl ?_
  refine own_P (n := 6) (argsL := [(.int (2 : Int32))]) (rest := []) (a := a) X0 hx hZ hown (own_rm_room_5_2 l Z a0 hw a b kb N rest ae c0 c1 c2 c3 c4 h0 n0 Z0 E0 FB FL FA VB EB hl hN g_a g_b) (ww31 hw) (ww32 hw) (by rfl) (ww15 hw) (ww33 hw) (ww3 hw) (ww34 hw) (by decide) hE0 E0 (by rw [hml]; rfl) (lenOf own_pd0 rfl) rfl (hb hby d12_3) (Nat.le_of_ble_eq_true rfl) (Nat.le_of_ble_eq_true rfl) (Nat.le_of_ble_eq_true rfl) (Nat.le_of_ble_eq_true rfl) rfl ?_
  rintro v1 T1 L1 X1 ⟨y1, k1, M1, r1, rfl, Nq1, K1, Eq1, Fb1, Fl1, Fa1, Vb1, Ec1, hl1, hN1, hq1, gb1, hx1⟩
  have N1 := Fr.app N0 Nq1
  have E_2 := E0.keep K1
  have A_3 := VB.keep K1 (by simp [(Ne.symm (own_neEA E0 (ww2 hw) VB))])
  have E_4 := EB.keep K1
  have A_5 := VS.keep K1 (by simp [(Ne.symm (own_neEA E0 (ww2 hw) VS))])
  have K_6 := (Keep.refl h0 [a, b]).trans K1 (fun x hx => by cases List.mem_singleton.mp hx; exact (Or.inl (by first | exact List.mem_cons_self | exact List.mem_cons_of_mem _ List.mem_cons_self | exact List.mem_cons_of_mem _ (List.mem_cons_of_mem _ List.mem_cons_self) | (simp; done))))
  have Z_7 : n0 ≤ T1.heap.size := Nat.le_trans Z0 K1.1
  have nw_sa_1 : sa ≠ y1 := own_neOr hq1 hsb VS.lt
  have hb1 : y1 = b ∨ h0.size ≤ y1 := own_orTr (Or.inl rfl : b = b ∨ h0.size ≤ b) hq1 (Keep.refl h0 [a, b]).1
  obtain ⟨x1_0, x1_1, t1, rfl⟩ := own_ex2 hx1
  change own_G p e below _ _ (mkF m 6 _ [])
  refine own_aloadN (n := 7) X1 hx (hb hby d12_6) rfl rfl rfl ?_
  refine own_iconst (n := 8) (z := (0 : Int32)) X1 hx (hb hby d12_7) rfl rfl ?_
  refine own_aloadN (n := 9) X1 hx (hb hby d12_8) rfl rfl rfl ?_
  refine own_getF (n := 12) X1 hx hZ hown (host := "") (Or.inl (ww10 hw)) Via.refl rfl Fb1 (hb hby d12_9) rfl ?_
  intro T8 X8 e8
  refine own_aloadN (n := 13) X8 hx (hb hby d12_12) rfl rfl rfl ?_
  refine own_getF (n := 16) X8 hx hZ hown (host := "") (Or.inl (ww35 hw)) Via.refl e8 Fl1 (hb hby d12_13) rfl ?_
  intro T9 X9 e9
  refine own_aloadN (n := 17) X9 hx (hb hby d12_16) rfl rfl rfl ?_
  refine own_len (n := 18) X9 hx hZ e9 A_5 (hb hby d12_17) rfl ?_
  obtain ⟨T10, h10, L10, X10, e10, N10, K10, V10q, st10⟩ := cpA X9 hx hZ hown (ww61 hw) (ww51 hw) (ww49 hw) (ww50 hw) e9 A_5 Vb1 (Or.inl ⟨rfl, rfl⟩) (by decide) (by decide) (by decide) (by decide) (by show 5 + 2 ≤ _; have q := hl1; (try simp only [List.length_cons] at q); omega) (us := [(.int d0), (.int d1)]) rfl (by show 5 + 2 ≤ _; (try simp only [List.length_cons]); omega) N1 gb1 (g := (mkF m 18 #[.val (.ref a), .val (.ref sa)] [(.int (2 : Int32)), (.int (5 : Int32)), (.ref y1), (.int (0 : Int32)), (.ref sa)])) rfl (by rw [hml]; rfl) rfl (hb hby d12_18) (by decide) (W := 0) (by show 2 * 0 + _ ≤ _; exact Nat.le_of_eq rfl) (by decide)
  have V10 : Arv Z h10 y1 k1 .byte M1 ((.int c0) :: (.int c1) :: (.int c2) :: (.int c3) :: (.int c4) :: (.int d0) :: (.int d1) :: t1) (.int (0 : Int32)) := V10q
  have E_11 := E_2.keep K10
  have A_12 := A_5.keep K10 (by simp [nw_sa_1])
  have K_13 := K_6.trans K10 (fun x hx => by cases List.mem_singleton.mp hx; exact (hb1.elim (fun q => Or.inl (by simp [q])) Or.inr))
  have F_14 := Fb1.keep K10 (by simp [(own_neEA E_2 (ww2 hw) Vb1)])
  have F_15 := Fl1.keep K10 (by simp [(own_neEA E_2 (ww2 hw) Vb1)])
  have F_16 := Fa1.keep K10 (by simp [(own_neEA E_2 (ww2 hw) Vb1)])
  have E_17 := Ec1.keep K10
  have Z_18 : n0 ≤ h10.size := Nat.le_trans Z_7 K10.1
  refine own_go (T' := T10) (f' := (mkF m 21 #[.val (.ref a), .val (.ref sa)] [])) st10 ?_
  refine own_aloadN (n := 22) X10 hx (hb hby d12_21) rfl rfl rfl ?_
  refine own_dup (n := 23) X10 hx (hb hby d12_22) rfl rfl ?_
  refine own_getF (n := 26) X10 hx hZ hown (host := "") (Or.inl (ww35 hw)) Via.refl e10 F_15 (hb hby d12_23) rfl ?_
  intro T19 X19 e19
  refine own_aloadN (n := 27) X19 hx (hb hby d12_26) rfl rfl rfl ?_
  refine own_len (n := 28) X19 hx hZ e19 A_12 (hb hby d12_27) rfl ?_
  refine own_iadd (n := 29) (z := (7 : Int32)) X19 hx (hb hby d12_28) rfl rfl ?_
  refine own_putF (n := 32) X19 hx hZ hown (host := "") (Or.inl (ww35 hw)) Via.refl e19 F_15 E_11 (Or.inl (ww36 hw)) (ww2 hw) (ty := .int) (by decide) rfl rfl (hb hby d12_29) rfl ?_
  intro T20 h20 X20 e20 W20
  have F_21 := F_15.same W20
  have N20 := Fr.snoc X20 N10 g_a
  have E_22 := E_11.wr W20
  have A_23 := A_12.other W20 (Ne.symm (own_neEA E_11 (ww2 hw) A_12))
  have K_24 := K_13.wr W20 (Or.inl (by first | exact List.mem_cons_self | exact List.mem_cons_of_mem _ List.mem_cons_self | exact List.mem_cons_of_mem _ (List.mem_cons_of_mem _ List.mem_cons_self) | (simp; done)))
  have F_25 := F_14.other W20 (Or.inr (slot_ne (Or.inl (ww11 hw)) (Or.inl (ww36 hw)) (by decide) (t := (.array .byte)) (t' := .int) (by decide) (by decide)))
  have F_26 := F_16.other W20 (Or.inr (slot_ne (Or.inl (ww26 hw)) (Or.inl (ww36 hw)) (by decide) (t := .boolean) (t' := .int) (by decide) (by decide)))
  have E_27 := E_17.wr W20
  have A_28 := V10.other W20 (Ne.symm (own_neEA E_11 (ww2 hw) V10))
  have Z_29 : n0 ≤ h20.size := by rw [W20.size]; exact Z_18
  have hl_30 : t1.length + 7 = M1.toNatClampNeg := by have q := hl1; (try simp only [List.length_cons] at q); omega
  refine own_retV X20 hx hlk hret e20 (hb hby d12_32) (by decide) (by decide) ?_
  exact ⟨y1, k1, M1, t1, rfl, N20, K_24, E_22, F_25, F_21, F_26, A_28, E_27, hl_30, hN1, hb1, gb1⟩
theorem own_ef11_own_rm_val_4_1_2 (m : MethodId) (y0 : Addr) (y1 : Addr) : entryFrame m #[(.ref y0), (.ref y1)] 2 = mkF m 0 #[.val (.ref y0), .val (.ref y1)] [] := by first | (simp [entryFrame, mkF, argsToLocals, Value.category]; done) | rfl
set_option maxRecDepth 65536 in
set_option maxHeartbeats 40000000 in
theorem own_rm_val_4_1_2 (l : Launch) (Z : State) (a0 : Array Value) (hw : ∀ d ∈ tables_1, d.before a0 Z = true) (a b : Addr) (kb : ClassId) (N : Int32) (rest : List Value) (c0 c1 c2 c3 : Int32) (sa : Addr) (ks : ClassId) (d0 d1 : Int32) (h0 : Heap) (n0 : Nat) (Z0 : n0 ≤ h0.size) (E0 : Exa Z h0 a "com/example/doseline/doseline/fhir/JsonWriter") (FB : Fld Z h0 a "com/example/doseline/doseline/fhir/JsonWriter" "bytes" "[B" (.ref b)) (FL : Fld Z h0 a "com/example/doseline/doseline/fhir/JsonWriter" "length" "I" (.int (4 : Int32))) (FA : Fld Z h0 a "com/example/doseline/doseline/fhir/JsonWriter" "afterElement" "Z" (.int (1 : Int32))) (VB : Arv Z h0 b kb .byte N ((.int c0) :: (.int c1) :: (.int c2) :: (.int c3) :: rest) (.int (0 : Int32))) (EB : Exa Z h0 b "[B") (hl : rest.length + 4 = N.toNatClampNeg) (hN : N.toInt ≤ 15) (g_a : n0 ≤ a) (g_b : n0 ≤ b) (VS : Arv Z h0 sa ks .byte (2 : Int32) [(.int d0), (.int d1)] (.int (0 : Int32))) (hsb : sa ≠ b) :
    own_Met l Z (⟨"com/example/doseline/doseline/fhir/JsonWriter", "value", "([B)V"⟩ : MethodName) prog_96_method_12_code 2 none [] ({ frames := 5, cells := 2, slots := 30, locals := 93 } : Room) #[(.ref a), (.ref sa)] h0 (fun v h L => ∃ (b' : Addr) (k' : ClassId) (N' : Int32) (r' : List Value), v = none ∧ Fr n0 L ∧ Keep h0 h [a, b] ∧ Exa Z h a "com/example/doseline/doseline/fhir/JsonWriter" ∧ Fld Z h a "com/example/doseline/doseline/fhir/JsonWriter" "bytes" "[B" (.ref b') ∧ Fld Z h a "com/example/doseline/doseline/fhir/JsonWriter" "length" "I" (.int (7 : Int32)) ∧ Fld Z h a "com/example/doseline/doseline/fhir/JsonWriter" "afterElement" "Z" (.int (1 : Int32)) ∧ Arv Z h b' k' .byte N' ((.int c0) :: (.int c1) :: (.int c2) :: (.int c3) :: (.int (44 : Int32)) :: (.int d0) :: (.int d1) :: r') (.int (0 : Int32)) ∧ Exa Z h b' "[B" ∧ r'.length + 7 = N'.toNatClampNeg ∧ N'.toInt ≤ 15 ∧ (b' = b ∨ h0.size ≤ b') ∧ n0 ≤ b') := by
  refine own_met own_pn11 ?_
  intro p e s m below meth c s₁ hx hby hml hown hnm hret hlk hZ X0 hE0
  have N0 := Fr.nil n0
  refine own_cast (own_ef11_own_rm_val_4_1_2 m a sa) ?_
  have hN0 := own_arvn VB
  refine own_aloadN (n := 1) X0 hx (hb hby d11_0) rfl rfl rfl ?_
  refine own_P (n := 4) (argsL := []) (rest := []) (a := a) X0 hx hZ hown (own_rm_sep1_4 l Z a0 hw a b kb N rest c0 c1 c2 c3 h0 n0 Z0 E0 FB FL FA VB EB hl hN g_a g_b) (ww21 hw) (ww22 hw) (by rfl) (ww15 hw) (ww23 hw) (ww3 hw) (ww24 hw) (by decide) hE0 E0 (by rw [hml]; rfl) (lenOf own_pd1 rfl) rfl (hb hby d11_1) (Nat.le_of_ble_eq_true rfl) (Nat.le_of_ble_eq_true rfl) (Nat.le_of_ble_eq_true rfl) (Nat.le_of_ble_eq_true rfl) rfl ?_
  rintro v1 T1 L1 X1 ⟨y1, k1, M1, r1, rfl, Nq1, K1, Eq1, Fb1, Fl1, Fa1, Vb1, Ec1, hl1, hN1, hq1, gb1⟩
  have N1 := Fr.app N0 Nq1
  have E_2 := E0.keep K1
  have E_3 := EB.keep K1
  have A_4 := VS.keep K1 (by simp [(Ne.symm (own_neEA E0 (ww2 hw) VS)), hsb])
  have K_5 := (Keep.refl h0 [a, b]).trans K1 (fun x hx => by simp only [List.mem_cons, List.not_mem_nil, or_false] at hx; rcases hx with rfl | rfl <;> first | exact (Or.inl (by first | exact List.mem_cons_self | exact List.mem_cons_of_mem _ List.mem_cons_self | exact List.mem_cons_of_mem _ (List.mem_cons_of_mem _ List.mem_cons_self) | (simp; done))))
  have Z_6 : n0 ≤ T1.heap.size := Nat.le_trans Z0 K1.1
  have nw_sa_1 : sa ≠ y1 := own_neOr hq1 hsb VS.lt
  have hb1 : y1 = b ∨ h0.size ≤ y1 := own_orTr (Or.inl rfl : b = b ∨ h0.size ≤ b) hq1 (Keep.refl h0 [a, b]).1
  change own_G p e below _ _ (mkF m 4 _ [])
  refine own_aloadN (n := 5) X1 hx (hb hby d11_4) rfl rfl rfl ?_
  refine own_aloadN (n := 6) X1 hx (hb hby d11_5) rfl rfl rfl ?_
  refine own_P (n := 9) (argsL := [(.ref sa)]) (rest := []) (a := a) X1 hx hZ hown (own_rm_wa_5_2 l Z a0 hw a y1 k1 M1 r1 (1 : Int32) c0 c1 c2 c3 (44 : Int32) sa ks d0 d1 T1.heap n0 Z_6 E_2 Fb1 Fl1 Fa1 Vb1 Ec1 hl1 hN1 g_a gb1 A_4 (nw_sa_1)) (ww57 hw) (ww58 hw) (by rfl) (ww15 hw) (ww59 hw) (ww3 hw) (ww60 hw) (by decide) rfl E_2 (by rw [hml]; rfl) (lenOf own_pd4 rfl) rfl (hb hby d11_6) (Nat.le_of_ble_eq_true rfl) (Nat.le_of_ble_eq_true rfl) (Nat.le_of_ble_eq_true rfl) (Nat.le_of_ble_eq_true rfl) rfl ?_
  rintro v7 T7 L7 X7 ⟨y7, k7, M7, r7, rfl, Nq7, K7, Eq7, Fb7, Fl7, Fa7, Vb7, Ec7, hl7, hN7, hq7, gb7⟩
  have N7 := Fr.app N1 Nq7
  have E_8 := E_2.keep K7
  have A_9 := A_4.keep K7 (by simp [(Ne.symm (own_neEA E_2 (ww2 hw) A_4)), nw_sa_1])
  have K_10 := K_5.trans K7 (fun x hx => by simp only [List.mem_cons, List.not_mem_nil, or_false] at hx; rcases hx with rfl | rfl <;> first | exact (hb1.elim (fun q => Or.inl (by simp [q])) Or.inr) | exact (Or.inl (by first | exact List.mem_cons_self | exact List.mem_cons_of_mem _ List.mem_cons_self | exact List.mem_cons_of_mem _ (List.mem_cons_of_mem _ List.mem_cons_self) | (simp; done))))
  have E_11 := Ec1.keep K7
  have Z_12 : n0 ≤ T7.heap.size := Nat.le_trans Z_6 K7.1
  have nw_sa_7 : sa ≠ y7 := own_neOr hq7 nw_sa_1 A_4.lt
  have hb7 : y7 = b ∨ h0.size ≤ y7 := own_orTr hb1 hq7 K_5.1
  change own_G p e below _ _ (mkF m 9 _ [])
  refine own_aloadN (n := 10) X7 hx (hb hby d11_9) rfl rfl rfl ?_
  refine own_iconst (n := 11) (z := (1 : Int32)) X7 hx (hb hby d11_10) rfl rfl ?_
  refine own_putFN (n := 14) X7 hx hZ hown (ww25 hw) Via.refl rfl Fa7 E_8 (Or.inl (ww26 hw)) (ww2 hw) (ty := .boolean) (v' := (.int (1 : Int32))) (by decide) rfl (by decide) (hb hby d11_11) rfl ?_
  intro T13 h13 X13 e13 W13
  have F_14 := Fa7.same W13
  have N13 := Fr.snoc X13 N7 g_a
  have E_15 := E_8.wr W13
  have A_16 := A_9.other W13 (Ne.symm (own_neEA E_8 (ww2 hw) A_9))
  have K_17 := K_10.wr W13 (Or.inl (by first | exact List.mem_cons_self | exact List.mem_cons_of_mem _ List.mem_cons_self | exact List.mem_cons_of_mem _ (List.mem_cons_of_mem _ List.mem_cons_self) | (simp; done)))
  have F_18 := Fb7.other W13 (Or.inr (slot_ne (Or.inl (ww11 hw)) (Or.inl (ww26 hw)) (by decide) (t := (.array .byte)) (t' := .boolean) (by decide) (by decide)))
  have F_19 := Fl7.other W13 (Or.inr (slot_ne (Or.inl (ww36 hw)) (Or.inl (ww26 hw)) (by decide) (t := .int) (t' := .boolean) (by decide) (by decide)))
  have A_20 := Vb7.other W13 (Ne.symm (own_neEA E_8 (ww2 hw) Vb7))
  have E_21 := Ec7.wr W13
  have Z_22 : n0 ≤ h13.size := by rw [W13.size]; exact Z_12
  refine own_retV X13 hx hlk hret e13 (hb hby d11_14) (by decide) (by decide) ?_
  exact ⟨y7, k7, M7, r7, rfl, N13, K_17, E_15, F_18, F_19, F_14, A_20, E_21, hl7, hN7, hb7, gb7⟩
theorem own_ef7_own_rm_room_7_1 (m : MethodId) (y0 : Addr) (y1 : Int32) : entryFrame m #[(.ref y0), (.int y1)] 2 = mkF m 0 #[.val (.ref y0), .val (.int y1)] [] := by first | (simp [entryFrame, mkF, argsToLocals, Value.category]; done) | rfl
set_option maxRecDepth 65536 in
set_option maxHeartbeats 40000000 in
theorem own_rm_room_7_1 (l : Launch) (Z : State) (a0 : Array Value) (hw : ∀ d ∈ tables_1, d.before a0 Z = true) (a b : Addr) (kb : ClassId) (N : Int32) (rest : List Value) (ae : Int32) (c0 c1 c2 c3 c4 c5 c6 : Int32) (h0 : Heap) (n0 : Nat) (Z0 : n0 ≤ h0.size) (E0 : Exa Z h0 a "com/example/doseline/doseline/fhir/JsonWriter") (FB : Fld Z h0 a "com/example/doseline/doseline/fhir/JsonWriter" "bytes" "[B" (.ref b)) (FL : Fld Z h0 a "com/example/doseline/doseline/fhir/JsonWriter" "length" "I" (.int (7 : Int32))) (FA : Fld Z h0 a "com/example/doseline/doseline/fhir/JsonWriter" "afterElement" "Z" (.int ae)) (VB : Arv Z h0 b kb .byte N ((.int c0) :: (.int c1) :: (.int c2) :: (.int c3) :: (.int c4) :: (.int c5) :: (.int c6) :: rest) (.int (0 : Int32))) (EB : Exa Z h0 b "[B") (hl : rest.length + 7 = N.toNatClampNeg) (hN : N.toInt ≤ 15) (g_a : n0 ≤ a) (g_b : n0 ≤ b) :
    own_Met l Z (⟨"com/example/doseline/doseline/fhir/JsonWriter", "room", "(I)V"⟩ : MethodName) prog_96_method_28_code 2 none [] ({ frames := 2, cells := 1, slots := 15, locals := 55 } : Room) #[(.ref a), (.int (1 : Int32))] h0 (fun v h L => ∃ (b' : Addr) (k' : ClassId) (N' : Int32) (r' : List Value), v = none ∧ Fr n0 L ∧ Keep h0 h [a] ∧ Exa Z h a "com/example/doseline/doseline/fhir/JsonWriter" ∧ Fld Z h a "com/example/doseline/doseline/fhir/JsonWriter" "bytes" "[B" (.ref b') ∧ Fld Z h a "com/example/doseline/doseline/fhir/JsonWriter" "length" "I" (.int (7 : Int32)) ∧ Fld Z h a "com/example/doseline/doseline/fhir/JsonWriter" "afterElement" "Z" (.int ae) ∧ Arv Z h b' k' .byte N' ((.int c0) :: (.int c1) :: (.int c2) :: (.int c3) :: (.int c4) :: (.int c5) :: (.int c6) :: r') (.int (0 : Int32)) ∧ Exa Z h b' "[B" ∧ r'.length + 7 = N'.toNatClampNeg ∧ N'.toInt ≤ 15 ∧ (b' = b ∨ h0.size ≤ b') ∧ n0 ≤ b' ∧ 1 ≤ r'.length) := by
  refine own_met own_pn7 ?_
  intro p e s m below meth c s₁ hx hby hml hown hnm hret hlk hZ X0 hE0
  have N0 := Fr.nil n0
  refine own_cast (own_ef7_own_rm_room_7_1 m a (1 : Int32)) ?_
  have hN0 := own_arvn VB
  refine own_iloadN (n := 1) X0 hx (hb hby d7_0) rfl rfl ?_
  refine own_aloadN (n := 2) X0 hx (hb hby d7_1) rfl rfl rfl ?_
  refine own_getF (n := 5) X0 hx hZ hown (host := "") (Or.inl (ww10 hw)) Via.refl hE0 FB (hb hby d7_2) rfl ?_
  intro T1 X1 e1
  refine own_len (n := 6) X1 hx hZ e1 VB (hb hby d7_5) rfl ?_
  refine own_aloadN (n := 7) X1 hx (hb hby d7_6) rfl rfl rfl ?_
  refine own_getF (n := 10) X1 hx hZ hown (host := "") (Or.inl (ww35 hw)) Via.refl e1 FL (hb hby d7_7) rfl ?_
  intro T2 X2 e2
  refine own_isub (n := 11) X2 hx (hb hby d7_10) rfl rfl ?_
  by_cases hc11_3 : (N - (7 : Int32)) < (1 : Int32)
  · skip
    have hgr := own_grow (N := N) (l := (7 : Int32)) (n := (1 : Int32)) (q := (8 : Int32)) (r := rest) (L := 7) (m := 1) rfl rfl rfl (by decide) hN0 hN hl hc11_3
    refine own_icmpNo (n := 14) X2 hx (hb hby d7_11) (tlt hc11_3).2.2.2 rfl ?_
    refine own_aloadN (n := 15) X2 hx (hb hby d7_14) rfl rfl rfl ?_
    refine own_aloadN (n := 16) X2 hx (hb hby d7_15) rfl rfl rfl ?_
    refine own_getF (n := 19) X2 hx hZ hown (host := "") (Or.inl (ww10 hw)) Via.refl e2 FB (hb hby d7_16) rfl ?_
    intro T4 X4 e4
    refine own_aloadN (n := 20) X4 hx (hb hby d7_19) rfl rfl rfl ?_
    refine own_getF (n := 23) X4 hx hZ hown (host := "") (Or.inl (ww10 hw)) Via.refl e4 FB (hb hby d7_20) rfl ?_
    intro T5 X5 e5
    refine own_len (n := 24) X5 hx hZ e5 VB (hb hby d7_23) rfl ?_
    refine own_iconst (n := 25) (z := (2 : Int32)) X5 hx (hb hby d7_24) rfl rfl ?_
    refine own_imul (n := 26) X5 hx (hb hby d7_25) rfl rfl ?_
    refine own_aloadN (n := 27) X5 hx (hb hby d7_26) rfl rfl rfl ?_
    refine own_getF (n := 30) X5 hx hZ hown (host := "") (Or.inl (ww35 hw)) Via.refl e5 FL (hb hby d7_27) rfl ?_
    intro T6 X6 e6
    refine own_iloadN (n := 31) X6 hx (hb hby d7_30) rfl rfl ?_
    refine own_iadd (n := 32) (z := (8 : Int32)) X6 hx (hb hby d7_31) rfl rfl ?_
    refine own_S (n := 35) (argsL := [(.int (N * (2 : Int32))), (.int (8 : Int32))]) (rest := [(.ref b), (.ref a)]) X6 hx hZ hown (own_rm_max l Z a0 hw (N * (2 : Int32)) (8 : Int32) h0 n0 Z0) (ww37 hw) (ww38 hw) (ww39 hw) (ww40 hw) (by decide) e6 (by rw [hml]; rfl) (lenOf own_pd2 rfl) rfl (hb hby d7_32) (Nat.le_of_ble_eq_true rfl) (Nat.le_of_ble_eq_true rfl) (Nat.le_of_ble_eq_true rfl) (Nat.le_of_ble_eq_true rfl) rfl ?_
    rintro v7 T7 L7 X7 ⟨rfl, Nq7, eq7⟩
    have N7 := Fr.app N0 Nq7
    change own_G p e below _ _ (mkF m 35 _ [(.int (own_max (N * (2 : Int32)) (8 : Int32))), (.ref b), (.ref a)])
    refine own_S (n := 38) (argsL := [(.ref b), (.int (own_max (N * (2 : Int32)) (8 : Int32)))]) (rest := [(.ref a)]) X7 hx hZ hown (own_rm_copy15 l Z a0 hw b kb N (own_max (N * (2 : Int32)) (8 : Int32)) ((.int c0) :: (.int c1) :: (.int c2) :: (.int c3) :: (.int c4) :: (.int c5) :: (.int c6) :: rest) h0 n0 Z0 VB (by (try simp only [List.length_cons]); omega) EB hgr.1 hgr.2.1) (ww41 hw) (ww42 hw) (ww43 hw) (ww44 hw) (by decide) eq7 (by rw [hml]; rfl) (lenOf own_pd3 rfl) rfl (hb hby d7_35) (Nat.le_of_ble_eq_true rfl) (Nat.le_of_ble_eq_true rfl) (Nat.le_of_ble_eq_true rfl) (Nat.le_of_ble_eq_true rfl) rfl ?_
    rintro v8 T8 L8 X8 ⟨y8, k8, rfl, Nq8, K8, sz8, gb8, Vb8, Ec8⟩
    have N8 := Fr.app N7 Nq8
    have E_9 := E0.keep K8
    have F_10 := FB.keep K8 (by simp)
    have F_11 := FL.keep K8 (by simp)
    have F_12 := FA.keep K8 (by simp)
    have A_13 := VB.keep K8 (by simp)
    have E_14 := EB.keep K8
    have K_15 := (Keep.refl h0 [a]).trans K8 (fun x hx => nomatch hx)
    have Z_16 : n0 ≤ T8.heap.size := Nat.le_trans Z0 K8.1
    have Vc8 : Arv Z T8.heap y8 k8 .byte (own_max (N * (2 : Int32)) (8 : Int32)) ((.int c0) :: (.int c1) :: (.int c2) :: (.int c3) :: (.int c4) :: (.int c5) :: (.int c6) :: (rest ++ List.replicate (α := Value) (((own_max (N * (2 : Int32)) (8 : Int32))).toNatClampNeg - N.toNatClampNeg) (.int (0 : Int32)))) (.int (0 : Int32)) := by have q := Vb8; rw [List.take_of_length_le (by (try simp only [List.length_cons]); omega)] at q; exact q
    have hl8 : (rest ++ List.replicate (α := Value) (((own_max (N * (2 : Int32)) (8 : Int32))).toNatClampNeg - N.toNatClampNeg) (.int (0 : Int32))).length + 7 = ((own_max (N * (2 : Int32)) (8 : Int32))).toNatClampNeg := by rw [List.length_append, List.length_replicate]; omega
    have hx8 : 1 ≤ (rest ++ List.replicate (α := Value) (((own_max (N * (2 : Int32)) (8 : Int32))).toNatClampNeg - N.toNatClampNeg) (.int (0 : Int32))).length := by have := hl8; omega
    change own_G p e below _ _ (mkF m 38 _ [(.ref y8), (.ref a)])
    refine own_putF (n := 41) X8 hx hZ hown (host := "") (Or.inl (ww10 hw)) Via.refl rfl F_10 E_9 (Or.inl (ww11 hw)) (ww2 hw) (ty := (.array .byte)) (by decide) rfl rfl (hb hby d7_38) rfl ?_
    intro T17 h17 X17 e17 W17
    have F_18 := F_10.same W17
    have N17 := Fr.snoc X17 N8 g_a
    have E_19 := E_9.wr W17
    have F_20 := F_11.other W17 (Or.inr (slot_ne (Or.inl (ww36 hw)) (Or.inl (ww11 hw)) (by decide) (t := .int) (t' := (.array .byte)) (by decide) (by decide)))
    have F_21 := F_12.other W17 (Or.inr (slot_ne (Or.inl (ww26 hw)) (Or.inl (ww11 hw)) (by decide) (t := .boolean) (t' := (.array .byte)) (by decide) (by decide)))
    have A_22 := A_13.other W17 (Ne.symm (own_neEA E_9 (ww2 hw) A_13))
    have E_23 := E_14.wr W17
    have K_24 := K_15.wr W17 (Or.inl (by first | exact List.mem_cons_self | exact List.mem_cons_of_mem _ List.mem_cons_self | exact List.mem_cons_of_mem _ (List.mem_cons_of_mem _ List.mem_cons_self) | (simp; done)))
    have A_25 := Vc8.other W17 (Ne.symm (Nat.ne_of_lt (Nat.lt_of_lt_of_le E0.lt sz8)))
    have E_26 := Ec8.wr W17
    have Z_27 : n0 ≤ h17.size := by rw [W17.size]; exact Z_16
    refine own_retV X17 hx hlk hret e17 (hb hby d7_41) (by decide) (by decide) ?_
    exact ⟨y8, k8, ((own_max (N * (2 : Int32)) (8 : Int32))), (rest ++ List.replicate (α := Value) (((own_max (N * (2 : Int32)) (8 : Int32))).toNatClampNeg - N.toNatClampNeg) (.int (0 : Int32))), rfl, N17, K_24, E_19, F_18, F_20, F_21, A_25, E_26, hl8, hgr.2.2.1, (Or.inr sz8 : y8 = b ∨ h0.size ≤ y8), gb8, hx8⟩
  · skip
    have hx0 : 1 ≤ rest.length := own_roomle (N := N) (l := (7 : Int32)) (n := (1 : Int32)) (L := 7) (m := 1) rfl rfl (by decide) hN0 hN hl hc11_3
    refine own_icmpYes (n := 41) X2 hx (hb hby d7_11) (flt hc11_3).2.2.2 (by decide) (by decide) ?_
    refine own_retV X2 hx hlk hret e2 (hb hby d7_41) (by decide) (by decide) ?_
    exact ⟨b, kb, N, rest, rfl, N0, (Keep.refl h0 [a]), E0, FB, FL, FA, VB, EB, hl, hN, (Or.inl rfl : b = b ∨ h0.size ≤ b), g_b, hx0⟩
theorem own_ef6_own_rm_wb_7 (m : MethodId) (y0 : Addr) (y1 : Int32) : entryFrame m #[(.ref y0), (.int y1)] 2 = mkF m 0 #[.val (.ref y0), .val (.int y1)] [] := by first | (simp [entryFrame, mkF, argsToLocals, Value.category]; done) | rfl
set_option maxRecDepth 65536 in
set_option maxHeartbeats 40000000 in
theorem own_rm_wb_7 (l : Launch) (Z : State) (a0 : Array Value) (hw : ∀ d ∈ tables_1, d.before a0 Z = true) (a b : Addr) (kb : ClassId) (N : Int32) (rest : List Value) (ae : Int32) (c0 c1 c2 c3 c4 c5 c6 : Int32) (p1 : Int32) (h0 : Heap) (n0 : Nat) (Z0 : n0 ≤ h0.size) (E0 : Exa Z h0 a "com/example/doseline/doseline/fhir/JsonWriter") (FB : Fld Z h0 a "com/example/doseline/doseline/fhir/JsonWriter" "bytes" "[B" (.ref b)) (FL : Fld Z h0 a "com/example/doseline/doseline/fhir/JsonWriter" "length" "I" (.int (7 : Int32))) (FA : Fld Z h0 a "com/example/doseline/doseline/fhir/JsonWriter" "afterElement" "Z" (.int ae)) (VB : Arv Z h0 b kb .byte N ((.int c0) :: (.int c1) :: (.int c2) :: (.int c3) :: (.int c4) :: (.int c5) :: (.int c6) :: rest) (.int (0 : Int32))) (EB : Exa Z h0 b "[B") (hl : rest.length + 7 = N.toNatClampNeg) (hN : N.toInt ≤ 15) (g_a : n0 ≤ a) (g_b : n0 ≤ b) (hp : (p1).toInt8.toInt32 = p1) :
    own_Met l Z (⟨"com/example/doseline/doseline/fhir/JsonWriter", "write", "(B)V"⟩ : MethodName) prog_96_method_26_code 2 none [] ({ frames := 3, cells := 1, slots := 15, locals := 68 } : Room) #[(.ref a), (.int p1)] h0 (fun v h L => ∃ (b' : Addr) (k' : ClassId) (N' : Int32) (r' : List Value), v = none ∧ Fr n0 L ∧ Keep h0 h [a, b] ∧ Exa Z h a "com/example/doseline/doseline/fhir/JsonWriter" ∧ Fld Z h a "com/example/doseline/doseline/fhir/JsonWriter" "bytes" "[B" (.ref b') ∧ Fld Z h a "com/example/doseline/doseline/fhir/JsonWriter" "length" "I" (.int (8 : Int32)) ∧ Fld Z h a "com/example/doseline/doseline/fhir/JsonWriter" "afterElement" "Z" (.int ae) ∧ Arv Z h b' k' .byte N' ((.int c0) :: (.int c1) :: (.int c2) :: (.int c3) :: (.int c4) :: (.int c5) :: (.int c6) :: (.int p1) :: r') (.int (0 : Int32)) ∧ Exa Z h b' "[B" ∧ r'.length + 8 = N'.toNatClampNeg ∧ N'.toInt ≤ 15 ∧ (b' = b ∨ h0.size ≤ b') ∧ n0 ≤ b') := by
  refine own_met own_pn6 ?_
  intro p e s m below meth c s₁ hx hby hml hown hnm hret hlk hZ X0 hE0
  have N0 := Fr.nil n0
  refine own_cast (own_ef6_own_rm_wb_7 m a p1) ?_
  have hN0 := own_arvn VB
  refine own_aloadN (n := 1) X0 hx (hb hby d6_0) rfl rfl rfl ?_
  refine own_iconst (n := 2) (z := (1 : Int32)) X0 hx (hb hby d6_1) rfl rfl ?_
  refine own_P (n := 5) (argsL := [(.int (1 : Int32))]) (rest := []) (a := a) X0 hx hZ hown (own_rm_room_7_1 l Z a0 hw a b kb N rest ae c0 c1 c2 c3 c4 c5 c6 h0 n0 Z0 E0 FB FL FA VB EB hl hN g_a g_b) (ww31 hw) (ww32 hw) (by rfl) (ww15 hw) (ww33 hw) (ww3 hw) (ww34 hw) (by decide) hE0 E0 (by rw [hml]; rfl) (lenOf own_pd0 rfl) rfl (hb hby d6_2) (Nat.le_of_ble_eq_true rfl) (Nat.le_of_ble_eq_true rfl) (Nat.le_of_ble_eq_true rfl) (Nat.le_of_ble_eq_true rfl) rfl ?_
  rintro v1 T1 L1 X1 ⟨y1, k1, M1, r1, rfl, Nq1, K1, Eq1, Fb1, Fl1, Fa1, Vb1, Ec1, hl1, hN1, hq1, gb1, hx1⟩
  have N1 := Fr.app N0 Nq1
  have E_2 := E0.keep K1
  have A_3 := VB.keep K1 (by simp [(Ne.symm (own_neEA E0 (ww2 hw) VB))])
  have E_4 := EB.keep K1
  have K_5 := (Keep.refl h0 [a, b]).trans K1 (fun x hx => by cases List.mem_singleton.mp hx; exact (Or.inl (by first | exact List.mem_cons_self | exact List.mem_cons_of_mem _ List.mem_cons_self | exact List.mem_cons_of_mem _ (List.mem_cons_of_mem _ List.mem_cons_self) | (simp; done))))
  have Z_6 : n0 ≤ T1.heap.size := Nat.le_trans Z0 K1.1
  have hb1 : y1 = b ∨ h0.size ≤ y1 := own_orTr (Or.inl rfl : b = b ∨ h0.size ≤ b) hq1 (Keep.refl h0 [a, b]).1
  obtain ⟨x1_0, t1, rfl⟩ := own_ex1 hx1
  change own_G p e below _ _ (mkF m 5 _ [])
  refine own_aloadN (n := 6) X1 hx (hb hby d6_5) rfl rfl rfl ?_
  refine own_getF (n := 9) X1 hx hZ hown (host := "") (Or.inl (ww10 hw)) Via.refl rfl Fb1 (hb hby d6_6) rfl ?_
  intro T7 X7 e7
  refine own_aloadN (n := 10) X7 hx (hb hby d6_9) rfl rfl rfl ?_
  refine own_dup (n := 11) X7 hx (hb hby d6_10) rfl rfl ?_
  refine own_getF (n := 14) X7 hx hZ hown (host := "") (Or.inl (ww35 hw)) Via.refl e7 Fl1 (hb hby d6_11) rfl ?_
  intro T8 X8 e8
  refine own_dup_x1 (n := 15) X8 hx (hb hby d6_14) rfl rfl rfl ?_
  refine own_iconst (n := 16) (z := (1 : Int32)) X8 hx (hb hby d6_15) rfl rfl ?_
  refine own_iadd (n := 17) (z := (8 : Int32)) X8 hx (hb hby d6_16) rfl rfl ?_
  refine own_putF (n := 20) X8 hx hZ hown (host := "") (Or.inl (ww35 hw)) Via.refl e8 Fl1 E_2 (Or.inl (ww36 hw)) (ww2 hw) (ty := .int) (by decide) rfl rfl (hb hby d6_17) rfl ?_
  intro T9 h9 X9 e9 W9
  have F_10 := Fl1.same W9
  have N9 := Fr.snoc X9 N1 g_a
  have E_11 := E_2.wr W9
  have K_12 := K_5.wr W9 (Or.inl (by first | exact List.mem_cons_self | exact List.mem_cons_of_mem _ List.mem_cons_self | exact List.mem_cons_of_mem _ (List.mem_cons_of_mem _ List.mem_cons_self) | (simp; done)))
  have F_13 := Fb1.other W9 (Or.inr (slot_ne (Or.inl (ww11 hw)) (Or.inl (ww36 hw)) (by decide) (t := (.array .byte)) (t' := .int) (by decide) (by decide)))
  have F_14 := Fa1.other W9 (Or.inr (slot_ne (Or.inl (ww26 hw)) (Or.inl (ww36 hw)) (by decide) (t := .boolean) (t' := .int) (by decide) (by decide)))
  have A_15 := Vb1.other W9 (Ne.symm (own_neEA E_2 (ww2 hw) Vb1))
  have E_16 := Ec1.wr W9
  have Z_17 : n0 ≤ h9.size := by rw [W9.size]; exact Z_6
  refine own_iloadN (n := 21) X9 hx (hb hby d6_20) rfl rfl ?_
  refine own_st_bastore (n := 22) X9 hx hZ e9 A_15 (own_inN (L := 7) rfl (own_arvn A_15) hl1 (by (try simp only [List.length_cons]); omega)) 7 rfl (by (try simp only [List.length_cons]); omega) (hb hby d6_21) rfl ?_
  intro T18 h18 X18 e18 W18 V18q
  rw [hp] at V18q
  have V18 : Arv Z h18 y1 k1 .byte M1 ((.int c0) :: (.int c1) :: (.int c2) :: (.int c3) :: (.int c4) :: (.int c5) :: (.int c6) :: (.int p1) :: t1) (.int (0 : Int32)) := V18q
  have N18 := Fr.snoc X18 N9 gb1
  have E_19 := E_11.wr W18
  have K_20 := K_12.wr W18 (hb1.elim (fun q => Or.inl (by simp [q])) Or.inr)
  have F_21 := F_13.other W18 (Or.inl (own_neEA E_11 (ww2 hw) A_15))
  have F_22 := F_14.other W18 (Or.inl (own_neEA E_11 (ww2 hw) A_15))
  have E_23 := E_16.wr W18
  have F_24 := F_10.other W18 (Or.inl (own_neEA E_11 (ww2 hw) A_15))
  have Z_25 : n0 ≤ h18.size := by rw [W18.size]; exact Z_17
  have hl_26 : t1.length + 8 = M1.toNatClampNeg := by have q := hl1; (try simp only [List.length_cons] at q); omega
  refine own_retV X18 hx hlk hret e18 (hb hby d6_22) (by decide) (by decide) ?_
  exact ⟨y1, k1, M1, t1, rfl, N18, K_20, E_19, F_21, F_24, F_22, V18, E_23, hl_26, hN1, hb1, gb1⟩
theorem own_ef14_own_rm_end_7_1 (m : MethodId) (y0 : Addr) (y1 : Int32) : entryFrame m #[(.ref y0), (.int y1)] 2 = mkF m 0 #[.val (.ref y0), .val (.int y1)] [] := by first | (simp [entryFrame, mkF, argsToLocals, Value.category]; done) | rfl
set_option maxRecDepth 65536 in
set_option maxHeartbeats 40000000 in
theorem own_rm_end_7_1 (l : Launch) (Z : State) (a0 : Array Value) (hw : ∀ d ∈ tables_1, d.before a0 Z = true) (a b : Addr) (kb : ClassId) (N : Int32) (rest : List Value) (c0 c1 c2 c3 c4 c5 c6 : Int32) (h0 : Heap) (n0 : Nat) (Z0 : n0 ≤ h0.size) (E0 : Exa Z h0 a "com/example/doseline/doseline/fhir/JsonWriter") (FB : Fld Z h0 a "com/example/doseline/doseline/fhir/JsonWriter" "bytes" "[B" (.ref b)) (FL : Fld Z h0 a "com/example/doseline/doseline/fhir/JsonWriter" "length" "I" (.int (7 : Int32))) (FA : Fld Z h0 a "com/example/doseline/doseline/fhir/JsonWriter" "afterElement" "Z" (.int (1 : Int32))) (VB : Arv Z h0 b kb .byte N ((.int c0) :: (.int c1) :: (.int c2) :: (.int c3) :: (.int c4) :: (.int c5) :: (.int c6) :: rest) (.int (0 : Int32))) (EB : Exa Z h0 b "[B") (hl : rest.length + 7 = N.toNatClampNeg) (hN : N.toInt ≤ 15) (g_a : n0 ≤ a) (g_b : n0 ≤ b) :
    own_Met l Z (⟨"com/example/doseline/doseline/fhir/JsonWriter", "end", "(B)V"⟩ : MethodName) prog_96_method_22_code 2 none [] ({ frames := 4, cells := 1, slots := 15, locals := 81 } : Room) #[(.ref a), (.int (93 : Int32))] h0 (fun v h L => ∃ (b' : Addr) (k' : ClassId) (N' : Int32) (r' : List Value), v = none ∧ Fr n0 L ∧ Keep h0 h [a, b] ∧ Exa Z h a "com/example/doseline/doseline/fhir/JsonWriter" ∧ Fld Z h a "com/example/doseline/doseline/fhir/JsonWriter" "bytes" "[B" (.ref b') ∧ Fld Z h a "com/example/doseline/doseline/fhir/JsonWriter" "length" "I" (.int (8 : Int32)) ∧ Fld Z h a "com/example/doseline/doseline/fhir/JsonWriter" "afterElement" "Z" (.int (1 : Int32)) ∧ Arv Z h b' k' .byte N' ((.int c0) :: (.int c1) :: (.int c2) :: (.int c3) :: (.int c4) :: (.int c5) :: (.int c6) :: (.int (93 : Int32)) :: r') (.int (0 : Int32)) ∧ Exa Z h b' "[B" ∧ r'.length + 8 = N'.toNatClampNeg ∧ N'.toInt ≤ 15 ∧ (b' = b ∨ h0.size ≤ b') ∧ n0 ≤ b') := by
  refine own_met own_pn14 ?_
  intro p e s m below meth c s₁ hx hby hml hown hnm hret hlk hZ X0 hE0
  have N0 := Fr.nil n0
  refine own_cast (own_ef14_own_rm_end_7_1 m a (93 : Int32)) ?_
  have hN0 := own_arvn VB
  refine own_aloadN (n := 1) X0 hx (hb hby d14_0) rfl rfl rfl ?_
  refine own_iloadN (n := 2) X0 hx (hb hby d14_1) rfl rfl ?_
  refine own_P (n := 5) (argsL := [(.int (93 : Int32))]) (rest := []) (a := a) X0 hx hZ hown (own_rm_wb_7 l Z a0 hw a b kb N rest (1 : Int32) c0 c1 c2 c3 c4 c5 c6 (93 : Int32) h0 n0 Z0 E0 FB FL FA VB EB hl hN g_a g_b (by decide)) (ww27 hw) (ww28 hw) (by rfl) (ww15 hw) (ww29 hw) (ww3 hw) (ww30 hw) (by decide) hE0 E0 (by rw [hml]; rfl) (lenOf own_pd8 rfl) rfl (hb hby d14_2) (Nat.le_of_ble_eq_true rfl) (Nat.le_of_ble_eq_true rfl) (Nat.le_of_ble_eq_true rfl) (Nat.le_of_ble_eq_true rfl) rfl ?_
  rintro v1 T1 L1 X1 ⟨y1, k1, M1, r1, rfl, Nq1, K1, Eq1, Fb1, Fl1, Fa1, Vb1, Ec1, hl1, hN1, hq1, gb1⟩
  have N1 := Fr.app N0 Nq1
  have E_2 := E0.keep K1
  have E_3 := EB.keep K1
  have K_4 := (Keep.refl h0 [a, b]).trans K1 (fun x hx => by simp only [List.mem_cons, List.not_mem_nil, or_false] at hx; rcases hx with rfl | rfl <;> first | exact (Or.inl (by first | exact List.mem_cons_self | exact List.mem_cons_of_mem _ List.mem_cons_self | exact List.mem_cons_of_mem _ (List.mem_cons_of_mem _ List.mem_cons_self) | (simp; done))))
  have Z_5 : n0 ≤ T1.heap.size := Nat.le_trans Z0 K1.1
  have hb1 : y1 = b ∨ h0.size ≤ y1 := own_orTr (Or.inl rfl : b = b ∨ h0.size ≤ b) hq1 (Keep.refl h0 [a, b]).1
  change own_G p e below _ _ (mkF m 5 _ [])
  refine own_aloadN (n := 6) X1 hx (hb hby d14_5) rfl rfl rfl ?_
  refine own_iconst (n := 7) (z := (1 : Int32)) X1 hx (hb hby d14_6) rfl rfl ?_
  refine own_putFN (n := 10) X1 hx hZ hown (ww25 hw) Via.refl rfl Fa1 E_2 (Or.inl (ww26 hw)) (ww2 hw) (ty := .boolean) (v' := (.int (1 : Int32))) (by decide) rfl (by decide) (hb hby d14_7) rfl ?_
  intro T6 h6 X6 e6 W6
  have F_7 := Fa1.same W6
  have N6 := Fr.snoc X6 N1 g_a
  have E_8 := E_2.wr W6
  have K_9 := K_4.wr W6 (Or.inl (by first | exact List.mem_cons_self | exact List.mem_cons_of_mem _ List.mem_cons_self | exact List.mem_cons_of_mem _ (List.mem_cons_of_mem _ List.mem_cons_self) | (simp; done)))
  have F_10 := Fb1.other W6 (Or.inr (slot_ne (Or.inl (ww11 hw)) (Or.inl (ww26 hw)) (by decide) (t := (.array .byte)) (t' := .boolean) (by decide) (by decide)))
  have F_11 := Fl1.other W6 (Or.inr (slot_ne (Or.inl (ww36 hw)) (Or.inl (ww26 hw)) (by decide) (t := .int) (t' := .boolean) (by decide) (by decide)))
  have A_12 := Vb1.other W6 (Ne.symm (own_neEA E_2 (ww2 hw) Vb1))
  have E_13 := Ec1.wr W6
  have Z_14 : n0 ≤ h6.size := by rw [W6.size]; exact Z_5
  refine own_retV X6 hx hlk hret e6 (hb hby d14_10) (by decide) (by decide) ?_
  exact ⟨y1, k1, M1, r1, rfl, N6, K_9, E_8, F_10, F_11, F_7, A_12, E_13, hl1, hN1, hb1, gb1⟩
theorem own_ef13_own_rm_endArray_7_1 (m : MethodId) (y0 : Addr) : entryFrame m #[(.ref y0)] 1 = mkF m 0 #[.val (.ref y0)] [] := by first | (simp [entryFrame, mkF, argsToLocals, Value.category]; done) | rfl
set_option maxRecDepth 65536 in
set_option maxHeartbeats 40000000 in
theorem own_rm_endArray_7_1 (l : Launch) (Z : State) (a0 : Array Value) (hw : ∀ d ∈ tables_1, d.before a0 Z = true) (a b : Addr) (kb : ClassId) (N : Int32) (rest : List Value) (c0 c1 c2 c3 c4 c5 c6 : Int32) (h0 : Heap) (n0 : Nat) (Z0 : n0 ≤ h0.size) (E0 : Exa Z h0 a "com/example/doseline/doseline/fhir/JsonWriter") (FB : Fld Z h0 a "com/example/doseline/doseline/fhir/JsonWriter" "bytes" "[B" (.ref b)) (FL : Fld Z h0 a "com/example/doseline/doseline/fhir/JsonWriter" "length" "I" (.int (7 : Int32))) (FA : Fld Z h0 a "com/example/doseline/doseline/fhir/JsonWriter" "afterElement" "Z" (.int (1 : Int32))) (VB : Arv Z h0 b kb .byte N ((.int c0) :: (.int c1) :: (.int c2) :: (.int c3) :: (.int c4) :: (.int c5) :: (.int c6) :: rest) (.int (0 : Int32))) (EB : Exa Z h0 b "[B") (hl : rest.length + 7 = N.toNatClampNeg) (hN : N.toInt ≤ 15) (g_a : n0 ≤ a) (g_b : n0 ≤ b) :
    own_Met l Z (⟨"com/example/doseline/doseline/fhir/JsonWriter", "endArray", "()V"⟩ : MethodName) prog_96_method_10_code 1 none [] ({ frames := 5, cells := 1, slots := 15, locals := 94 } : Room) #[(.ref a)] h0 (fun v h L => ∃ (b' : Addr) (k' : ClassId) (N' : Int32) (r' : List Value), v = none ∧ Fr n0 L ∧ Keep h0 h [a, b] ∧ Exa Z h a "com/example/doseline/doseline/fhir/JsonWriter" ∧ Fld Z h a "com/example/doseline/doseline/fhir/JsonWriter" "bytes" "[B" (.ref b') ∧ Fld Z h a "com/example/doseline/doseline/fhir/JsonWriter" "length" "I" (.int (8 : Int32)) ∧ Fld Z h a "com/example/doseline/doseline/fhir/JsonWriter" "afterElement" "Z" (.int (1 : Int32)) ∧ Arv Z h b' k' .byte N' ((.int c0) :: (.int c1) :: (.int c2) :: (.int c3) :: (.int c4) :: (.int c5) :: (.int c6) :: (.int (93 : Int32)) :: r') (.int (0 : Int32)) ∧ Exa Z h b' "[B" ∧ r'.length + 8 = N'.toNatClampNeg ∧ N'.toInt ≤ 15 ∧ (b' = b ∨ h0.size ≤ b') ∧ n0 ≤ b') := by
  refine own_met own_pn13 ?_
  intro p e s m below meth c s₁ hx hby hml hown hnm hret hlk hZ X0 hE0
  have N0 := Fr.nil n0
  refine own_cast (own_ef13_own_rm_endArray_7_1 m a) ?_
  have hN0 := own_arvn VB
  refine own_aloadN (n := 1) X0 hx (hb hby d13_0) rfl rfl rfl ?_
  refine own_bipush (n := 3) (z := (93 : Int32)) X0 hx (hb hby d13_1) rfl rfl ?_
  refine own_P (n := 6) (argsL := [(.int (93 : Int32))]) (rest := []) (a := a) X0 hx hZ hown (own_rm_end_7_1 l Z a0 hw a b kb N rest c0 c1 c2 c3 c4 c5 c6 h0 n0 Z0 E0 FB FL FA VB EB hl hN g_a g_b) (ww67 hw) (ww68 hw) (by rfl) (ww15 hw) (ww69 hw) (ww3 hw) (ww70 hw) (by decide) hE0 E0 (by rw [hml]; rfl) (lenOf own_pd8 rfl) rfl (hb hby d13_3) (Nat.le_of_ble_eq_true rfl) (Nat.le_of_ble_eq_true rfl) (Nat.le_of_ble_eq_true rfl) (Nat.le_of_ble_eq_true rfl) rfl ?_
  rintro v1 T1 L1 X1 ⟨y1, k1, M1, r1, rfl, Nq1, K1, Eq1, Fb1, Fl1, Fa1, Vb1, Ec1, hl1, hN1, hq1, gb1⟩
  have N1 := Fr.app N0 Nq1
  have E_2 := E0.keep K1
  have E_3 := EB.keep K1
  have K_4 := (Keep.refl h0 [a, b]).trans K1 (fun x hx => by simp only [List.mem_cons, List.not_mem_nil, or_false] at hx; rcases hx with rfl | rfl <;> first | exact (Or.inl (by first | exact List.mem_cons_self | exact List.mem_cons_of_mem _ List.mem_cons_self | exact List.mem_cons_of_mem _ (List.mem_cons_of_mem _ List.mem_cons_self) | (simp; done))))
  have Z_5 : n0 ≤ T1.heap.size := Nat.le_trans Z0 K1.1
  have hb1 : y1 = b ∨ h0.size ≤ y1 := own_orTr (Or.inl rfl : b = b ∨ h0.size ≤ b) hq1 (Keep.refl h0 [a, b]).1
  change own_G p e below _ _ (mkF m 6 _ [])
  refine own_retV X1 hx hlk hret rfl (hb hby d13_6) (by decide) (by decide) ?_
  exact ⟨y1, k1, M1, r1, rfl, N1, K_4, E_2, Fb1, Fl1, Fa1, Vb1, Ec1, hl1, hN1, hb1, gb1⟩
theorem own_ef15_own_rm_tba_8 (m : MethodId) (y0 : Addr) : entryFrame m #[(.ref y0)] 1 = mkF m 0 #[.val (.ref y0)] [] := by first | (simp [entryFrame, mkF, argsToLocals, Value.category]; done) | rfl
set_option maxRecDepth 65536 in
set_option maxHeartbeats 40000000 in
theorem own_rm_tba_8 (l : Launch) (Z : State) (a0 : Array Value) (hw : ∀ d ∈ tables_1, d.before a0 Z = true) (a b : Addr) (kb : ClassId) (N : Int32) (rest : List Value) (ae : Int32) (c0 c1 c2 c3 c4 c5 c6 c7 : Int32) (h0 : Heap) (n0 : Nat) (Z0 : n0 ≤ h0.size) (E0 : Exa Z h0 a "com/example/doseline/doseline/fhir/JsonWriter") (FB : Fld Z h0 a "com/example/doseline/doseline/fhir/JsonWriter" "bytes" "[B" (.ref b)) (FL : Fld Z h0 a "com/example/doseline/doseline/fhir/JsonWriter" "length" "I" (.int (8 : Int32))) (FA : Fld Z h0 a "com/example/doseline/doseline/fhir/JsonWriter" "afterElement" "Z" (.int ae)) (VB : Arv Z h0 b kb .byte N ((.int c0) :: (.int c1) :: (.int c2) :: (.int c3) :: (.int c4) :: (.int c5) :: (.int c6) :: (.int c7) :: rest) (.int (0 : Int32))) (EB : Exa Z h0 b "[B") (hl : rest.length + 8 = N.toNatClampNeg) (hN : N.toInt ≤ 15) (g_a : n0 ≤ a) (g_b : n0 ≤ b) :
    own_Met l Z (⟨"com/example/doseline/doseline/fhir/JsonWriter", "toByteArray", "()[B"⟩ : MethodName) prog_96_method_20_code 1 (some (.array .byte)) [] ({ frames := 2, cells := 1, slots := 8, locals := 54 } : Room) #[(.ref a)] h0 (fun v h L => ∃ (r : Addr) (k' : ClassId), v = some (.ref r) ∧ Fr n0 L ∧ Keep h0 h [] ∧ h0.size ≤ r ∧ n0 ≤ r ∧ Arv Z h r k' .byte (8 : Int32) [(.int c0), (.int c1), (.int c2), (.int c3), (.int c4), (.int c5), (.int c6), (.int c7)] (.int (0 : Int32))) := by
  refine own_met own_pn15 ?_
  intro p e s m below meth c s₁ hx hby hml hown hnm hret hlk hZ X0 hE0
  have N0 := Fr.nil n0
  refine own_cast (own_ef15_own_rm_tba_8 m a) ?_
  have hN0 := own_arvn VB
  refine own_aloadN (n := 1) X0 hx (hb hby d15_0) rfl rfl rfl ?_
  refine own_getF (n := 4) X0 hx hZ hown (host := "") (Or.inl (ww10 hw)) Via.refl hE0 FB (hb hby d15_1) rfl ?_
  intro T1 X1 e1
  refine own_aloadN (n := 5) X1 hx (hb hby d15_4) rfl rfl rfl ?_
  refine own_getF (n := 8) X1 hx hZ hown (host := "") (Or.inl (ww35 hw)) Via.refl e1 FL (hb hby d15_5) rfl ?_
  intro T2 X2 e2
  refine own_S (n := 11) (argsL := [(.ref b), (.int (8 : Int32))]) (rest := []) X2 hx hZ hown (own_rm_copy8 l Z a0 hw b kb N (8 : Int32) ((.int c0) :: (.int c1) :: (.int c2) :: (.int c3) :: (.int c4) :: (.int c5) :: (.int c6) :: (.int c7) :: rest) h0 n0 Z0 VB (by (try simp only [List.length_cons]); omega) EB (by decide) (by decide)) (ww41 hw) (ww42 hw) (ww43 hw) (ww44 hw) (by decide) e2 (by rw [hml]; rfl) (lenOf own_pd3 rfl) rfl (hb hby d15_8) (Nat.le_of_ble_eq_true rfl) (Nat.le_of_ble_eq_true rfl) (Nat.le_of_ble_eq_true rfl) (Nat.le_of_ble_eq_true rfl) rfl ?_
  rintro v3 T3 L3 X3 ⟨y3, k3, rfl, Nq3, K3, sz3, gb3, Vb3, Ec3⟩
  have N3 := Fr.app N0 Nq3
  have E_4 := E0.keep K3
  have F_5 := FB.keep K3 (by simp)
  have F_6 := FL.keep K3 (by simp)
  have F_7 := FA.keep K3 (by simp)
  have A_8 := VB.keep K3 (by simp)
  have E_9 := EB.keep K3
  have K_10 := (Keep.refl h0 []).trans K3 (fun x hx => nomatch hx)
  have Z_11 : n0 ≤ T3.heap.size := Nat.le_trans Z0 K3.1
  have Vc3 : Arv Z T3.heap y3 k3 .byte (8 : Int32) [(.int c0), (.int c1), (.int c2), (.int c3), (.int c4), (.int c5), (.int c6), (.int c7)] (.int (0 : Int32)) := by have q := Vb3; rw [show (8 : Int32).toNatClampNeg - N.toNatClampNeg = 0 by show 8 - N.toNatClampNeg = 0; omega] at q; exact q
  change own_G p e below _ _ (mkF m 11 _ [(.ref y3)])
  refine own_retA X3 hx hlk hret rfl rfl rfl rfl (hb hby d15_11) (by decide) (by decide) ?_
  exact ⟨y3, k3, rfl, N3, K_10, sz3, gb3, Vc3⟩
theorem own_ef17_own_rm_at_0_8 (m : MethodId) (y0 : Addr) (y1 : Addr) (y2 : Int32) (y3 : Int32) : entryFrame m #[(.ref y0), (.ref y1), (.int y2), (.int y3)] 4 = mkF m 0 #[.val (.ref y0), .val (.ref y1), .val (.int y2), .val (.int y3)] [] := by first | (simp [entryFrame, mkF, argsToLocals, Value.category]; done) | rfl
set_option maxRecDepth 65536 in
set_option maxHeartbeats 40000000 in
theorem own_rm_at_0_8 (l : Launch) (Z : State) (a0 : Array Value) (hw : ∀ d ∈ tables_1, d.before a0 Z = true) (a b : Addr) (kr kx : ClassId) (c0 c1 c2 c3 c4 c5 c6 c7 : Int32) (h0 : Heap) (n0 : Nat) (Z0 : n0 ≤ h0.size) (V0 : Arv Z h0 a kr .byte (8 : Int32) [(.int c0), (.int c1), (.int c2), (.int c3), (.int c4), (.int c5), (.int c6), (.int c7)] (.int (0 : Int32))) (V1 : Arv Z h0 b kx .byte (8 : Int32) [(.int c0), (.int c1), (.int c2), (.int c3), (.int c4), (.int c5), (.int c6), (.int c7)] (.int (0 : Int32))) :
    own_Met l Z (⟨"com/example/doseline/doseline/fhir/JsonWriterToByteArrayPinLaw", "at", "([B[BII)Z"⟩ : MethodName) method_2_code 4 (some .boolean) [] ({ frames := 0, cells := 0, slots := 0, locals := 0 } : Room) #[(.ref a), (.ref b), (.int (0 : Int32)), (.int (8 : Int32))] h0 (fun v h L => v = some (.int (1 : Int32)) ∧ Fr n0 L ∧ h = h0) := by
  refine own_met own_pn17 ?_
  intro p e s m below meth c s₁ hx hby hml hown hnm hret hlk hZ X0 hE0
  have N0 := Fr.nil n0
  refine own_cast (own_ef17_own_rm_at_0_8 m a b (0 : Int32) (8 : Int32)) ?_
  refine own_iloadN (n := 1) X0 hx (hb hby d17_0) rfl rfl ?_
  refine own_iloadN (n := 2) X0 hx (hb hby d17_1) rfl rfl ?_
  refine own_icmpNo (n := 5) X0 hx (hb hby d17_2) (tlt (by decide : (0 : Int32) < (8 : Int32))).2.1 rfl ?_
  refine own_aloadN (n := 6) X0 hx (hb hby d17_5) rfl rfl rfl ?_
  refine own_iloadN (n := 7) X0 hx (hb hby d17_6) rfl rfl ?_
  refine own_ld_baload (n := 8) (v := (.int c0)) X0 hx hZ hE0 V0 ⟨by decide, by decide⟩ rfl (hb hby d17_7) rfl ?_
  refine own_aloadN (n := 9) X0 hx (hb hby d17_8) rfl rfl rfl ?_
  refine own_iloadN (n := 10) X0 hx (hb hby d17_9) rfl rfl ?_
  refine own_ld_baload (n := 11) (v := (.int c0)) X0 hx hZ hE0 V1 ⟨by decide, by decide⟩ rfl (hb hby d17_10) rfl ?_
  refine own_icmpNo (n := 14) X0 hx (hb hby d17_11) (teq (rfl : c0 = c0)).2 rfl ?_
  refine own_iconst (n := 15) (z := (1 : Int32)) X0 hx (hb hby d17_14) rfl rfl ?_
  refine own_goto (n := 19) X0 hx (hb hby d17_15) (by decide) (by decide) ?_
  refine own_retZ X0 hx hlk hret (by simp) hE0 (w := (1 : Int32)) rfl (hb hby d17_19) (by decide) (by decide) ?_
  exact ⟨rfl, N0, rfl⟩
theorem own_ef17_own_rm_at_1_8 (m : MethodId) (y0 : Addr) (y1 : Addr) (y2 : Int32) (y3 : Int32) : entryFrame m #[(.ref y0), (.ref y1), (.int y2), (.int y3)] 4 = mkF m 0 #[.val (.ref y0), .val (.ref y1), .val (.int y2), .val (.int y3)] [] := by first | (simp [entryFrame, mkF, argsToLocals, Value.category]; done) | rfl
set_option maxRecDepth 65536 in
set_option maxHeartbeats 40000000 in
theorem own_rm_at_1_8 (l : Launch) (Z : State) (a0 : Array Value) (hw : ∀ d ∈ tables_1, d.before a0 Z = true) (a b : Addr) (kr kx : ClassId) (c0 c1 c2 c3 c4 c5 c6 c7 : Int32) (h0 : Heap) (n0 : Nat) (Z0 : n0 ≤ h0.size) (V0 : Arv Z h0 a kr .byte (8 : Int32) [(.int c0), (.int c1), (.int c2), (.int c3), (.int c4), (.int c5), (.int c6), (.int c7)] (.int (0 : Int32))) (V1 : Arv Z h0 b kx .byte (8 : Int32) [(.int c0), (.int c1), (.int c2), (.int c3), (.int c4), (.int c5), (.int c6), (.int c7)] (.int (0 : Int32))) :
    own_Met l Z (⟨"com/example/doseline/doseline/fhir/JsonWriterToByteArrayPinLaw", "at", "([B[BII)Z"⟩ : MethodName) method_2_code 4 (some .boolean) [] ({ frames := 0, cells := 0, slots := 0, locals := 0 } : Room) #[(.ref a), (.ref b), (.int (1 : Int32)), (.int (8 : Int32))] h0 (fun v h L => v = some (.int (1 : Int32)) ∧ Fr n0 L ∧ h = h0) := by
  refine own_met own_pn17 ?_
  intro p e s m below meth c s₁ hx hby hml hown hnm hret hlk hZ X0 hE0
  have N0 := Fr.nil n0
  refine own_cast (own_ef17_own_rm_at_1_8 m a b (1 : Int32) (8 : Int32)) ?_
  refine own_iloadN (n := 1) X0 hx (hb hby d17_0) rfl rfl ?_
  refine own_iloadN (n := 2) X0 hx (hb hby d17_1) rfl rfl ?_
  refine own_icmpNo (n := 5) X0 hx (hb hby d17_2) (tlt (by decide : (1 : Int32) < (8 : Int32))).2.1 rfl ?_
  refine own_aloadN (n := 6) X0 hx (hb hby d17_5) rfl rfl rfl ?_
  refine own_iloadN (n := 7) X0 hx (hb hby d17_6) rfl rfl ?_
  refine own_ld_baload (n := 8) (v := (.int c1)) X0 hx hZ hE0 V0 ⟨by decide, by decide⟩ rfl (hb hby d17_7) rfl ?_
  refine own_aloadN (n := 9) X0 hx (hb hby d17_8) rfl rfl rfl ?_
  refine own_iloadN (n := 10) X0 hx (hb hby d17_9) rfl rfl ?_
  refine own_ld_baload (n := 11) (v := (.int c1)) X0 hx hZ hE0 V1 ⟨by decide, by decide⟩ rfl (hb hby d17_10) rfl ?_
  refine own_icmpNo (n := 14) X0 hx (hb hby d17_11) (teq (rfl : c1 = c1)).2 rfl ?_
  refine own_iconst (n := 15) (z := (1 : Int32)) X0 hx (hb hby d17_14) rfl rfl ?_
  refine own_goto (n := 19) X0 hx (hb hby d17_15) (by decide) (by decide) ?_
  refine own_retZ X0 hx hlk hret (by simp) hE0 (w := (1 : Int32)) rfl (hb hby d17_19) (by decide) (by decide) ?_
  exact ⟨rfl, N0, rfl⟩
theorem own_ef17_own_rm_at_2_8 (m : MethodId) (y0 : Addr) (y1 : Addr) (y2 : Int32) (y3 : Int32) : entryFrame m #[(.ref y0), (.ref y1), (.int y2), (.int y3)] 4 = mkF m 0 #[.val (.ref y0), .val (.ref y1), .val (.int y2), .val (.int y3)] [] := by first | (simp [entryFrame, mkF, argsToLocals, Value.category]; done) | rfl
set_option maxRecDepth 65536 in
set_option maxHeartbeats 40000000 in
theorem own_rm_at_2_8 (l : Launch) (Z : State) (a0 : Array Value) (hw : ∀ d ∈ tables_1, d.before a0 Z = true) (a b : Addr) (kr kx : ClassId) (c0 c1 c2 c3 c4 c5 c6 c7 : Int32) (h0 : Heap) (n0 : Nat) (Z0 : n0 ≤ h0.size) (V0 : Arv Z h0 a kr .byte (8 : Int32) [(.int c0), (.int c1), (.int c2), (.int c3), (.int c4), (.int c5), (.int c6), (.int c7)] (.int (0 : Int32))) (V1 : Arv Z h0 b kx .byte (8 : Int32) [(.int c0), (.int c1), (.int c2), (.int c3), (.int c4), (.int c5), (.int c6), (.int c7)] (.int (0 : Int32))) :
    own_Met l Z (⟨"com/example/doseline/doseline/fhir/JsonWriterToByteArrayPinLaw", "at", "([B[BII)Z"⟩ : MethodName) method_2_code 4 (some .boolean) [] ({ frames := 0, cells := 0, slots := 0, locals := 0 } : Room) #[(.ref a), (.ref b), (.int (2 : Int32)), (.int (8 : Int32))] h0 (fun v h L => v = some (.int (1 : Int32)) ∧ Fr n0 L ∧ h = h0) := by
  refine own_met own_pn17 ?_
  intro p e s m below meth c s₁ hx hby hml hown hnm hret hlk hZ X0 hE0
  have N0 := Fr.nil n0
  refine own_cast (own_ef17_own_rm_at_2_8 m a b (2 : Int32) (8 : Int32)) ?_
  refine own_iloadN (n := 1) X0 hx (hb hby d17_0) rfl rfl ?_
  refine own_iloadN (n := 2) X0 hx (hb hby d17_1) rfl rfl ?_
  refine own_icmpNo (n := 5) X0 hx (hb hby d17_2) (tlt (by decide : (2 : Int32) < (8 : Int32))).2.1 rfl ?_
  refine own_aloadN (n := 6) X0 hx (hb hby d17_5) rfl rfl rfl ?_
  refine own_iloadN (n := 7) X0 hx (hb hby d17_6) rfl rfl ?_
  refine own_ld_baload (n := 8) (v := (.int c2)) X0 hx hZ hE0 V0 ⟨by decide, by decide⟩ rfl (hb hby d17_7) rfl ?_
  refine own_aloadN (n := 9) X0 hx (hb hby d17_8) rfl rfl rfl ?_
  refine own_iloadN (n := 10) X0 hx (hb hby d17_9) rfl rfl ?_
  refine own_ld_baload (n := 11) (v := (.int c2)) X0 hx hZ hE0 V1 ⟨by decide, by decide⟩ rfl (hb hby d17_10) rfl ?_
  refine own_icmpNo (n := 14) X0 hx (hb hby d17_11) (teq (rfl : c2 = c2)).2 rfl ?_
  refine own_iconst (n := 15) (z := (1 : Int32)) X0 hx (hb hby d17_14) rfl rfl ?_
  refine own_goto (n := 19) X0 hx (hb hby d17_15) (by decide) (by decide) ?_
  refine own_retZ X0 hx hlk hret (by simp) hE0 (w := (1 : Int32)) rfl (hb hby d17_19) (by decide) (by decide) ?_
  exact ⟨rfl, N0, rfl⟩
theorem own_ef17_own_rm_at_3_8 (m : MethodId) (y0 : Addr) (y1 : Addr) (y2 : Int32) (y3 : Int32) : entryFrame m #[(.ref y0), (.ref y1), (.int y2), (.int y3)] 4 = mkF m 0 #[.val (.ref y0), .val (.ref y1), .val (.int y2), .val (.int y3)] [] := by first | (simp [entryFrame, mkF, argsToLocals, Value.category]; done) | rfl
set_option maxRecDepth 65536 in
set_option maxHeartbeats 40000000 in
theorem own_rm_at_3_8 (l : Launch) (Z : State) (a0 : Array Value) (hw : ∀ d ∈ tables_1, d.before a0 Z = true) (a b : Addr) (kr kx : ClassId) (c0 c1 c2 c3 c4 c5 c6 c7 : Int32) (h0 : Heap) (n0 : Nat) (Z0 : n0 ≤ h0.size) (V0 : Arv Z h0 a kr .byte (8 : Int32) [(.int c0), (.int c1), (.int c2), (.int c3), (.int c4), (.int c5), (.int c6), (.int c7)] (.int (0 : Int32))) (V1 : Arv Z h0 b kx .byte (8 : Int32) [(.int c0), (.int c1), (.int c2), (.int c3), (.int c4), (.int c5), (.int c6), (.int c7)] (.int (0 : Int32))) :
    own_Met l Z (⟨"com/example/doseline/doseline/fhir/JsonWriterToByteArrayPinLaw", "at", "([B[BII)Z"⟩ : MethodName) method_2_code 4 (some .boolean) [] ({ frames := 0, cells := 0, slots := 0, locals := 0 } : Room) #[(.ref a), (.ref b), (.int (3 : Int32)), (.int (8 : Int32))] h0 (fun v h L => v = some (.int (1 : Int32)) ∧ Fr n0 L ∧ h = h0) := by
  refine own_met own_pn17 ?_
  intro p e s m below meth c s₁ hx hby hml hown hnm hret hlk hZ X0 hE0
  have N0 := Fr.nil n0
  refine own_cast (own_ef17_own_rm_at_3_8 m a b (3 : Int32) (8 : Int32)) ?_
  refine own_iloadN (n := 1) X0 hx (hb hby d17_0) rfl rfl ?_
  refine own_iloadN (n := 2) X0 hx (hb hby d17_1) rfl rfl ?_
  refine own_icmpNo (n := 5) X0 hx (hb hby d17_2) (tlt (by decide : (3 : Int32) < (8 : Int32))).2.1 rfl ?_
  refine own_aloadN (n := 6) X0 hx (hb hby d17_5) rfl rfl rfl ?_
  refine own_iloadN (n := 7) X0 hx (hb hby d17_6) rfl rfl ?_
  refine own_ld_baload (n := 8) (v := (.int c3)) X0 hx hZ hE0 V0 ⟨by decide, by decide⟩ rfl (hb hby d17_7) rfl ?_
  refine own_aloadN (n := 9) X0 hx (hb hby d17_8) rfl rfl rfl ?_
  refine own_iloadN (n := 10) X0 hx (hb hby d17_9) rfl rfl ?_
  refine own_ld_baload (n := 11) (v := (.int c3)) X0 hx hZ hE0 V1 ⟨by decide, by decide⟩ rfl (hb hby d17_10) rfl ?_
  refine own_icmpNo (n := 14) X0 hx (hb hby d17_11) (teq (rfl : c3 = c3)).2 rfl ?_
  refine own_iconst (n := 15) (z := (1 : Int32)) X0 hx (hb hby d17_14) rfl rfl ?_
  refine own_goto (n := 19) X0 hx (hb hby d17_15) (by decide) (by decide) ?_
  refine own_retZ X0 hx hlk hret (by simp) hE0 (w := (1 : Int32)) rfl (hb hby d17_19) (by decide) (by decide) ?_
  exact ⟨rfl, N0, rfl⟩
theorem own_ef17_own_rm_at_4_8 (m : MethodId) (y0 : Addr) (y1 : Addr) (y2 : Int32) (y3 : Int32) : entryFrame m #[(.ref y0), (.ref y1), (.int y2), (.int y3)] 4 = mkF m 0 #[.val (.ref y0), .val (.ref y1), .val (.int y2), .val (.int y3)] [] := by first | (simp [entryFrame, mkF, argsToLocals, Value.category]; done) | rfl
set_option maxRecDepth 65536 in
set_option maxHeartbeats 40000000 in
theorem own_rm_at_4_8 (l : Launch) (Z : State) (a0 : Array Value) (hw : ∀ d ∈ tables_1, d.before a0 Z = true) (a b : Addr) (kr kx : ClassId) (c0 c1 c2 c3 c4 c5 c6 c7 : Int32) (h0 : Heap) (n0 : Nat) (Z0 : n0 ≤ h0.size) (V0 : Arv Z h0 a kr .byte (8 : Int32) [(.int c0), (.int c1), (.int c2), (.int c3), (.int c4), (.int c5), (.int c6), (.int c7)] (.int (0 : Int32))) (V1 : Arv Z h0 b kx .byte (8 : Int32) [(.int c0), (.int c1), (.int c2), (.int c3), (.int c4), (.int c5), (.int c6), (.int c7)] (.int (0 : Int32))) :
    own_Met l Z (⟨"com/example/doseline/doseline/fhir/JsonWriterToByteArrayPinLaw", "at", "([B[BII)Z"⟩ : MethodName) method_2_code 4 (some .boolean) [] ({ frames := 0, cells := 0, slots := 0, locals := 0 } : Room) #[(.ref a), (.ref b), (.int (4 : Int32)), (.int (8 : Int32))] h0 (fun v h L => v = some (.int (1 : Int32)) ∧ Fr n0 L ∧ h = h0) := by
  refine own_met own_pn17 ?_
  intro p e s m below meth c s₁ hx hby hml hown hnm hret hlk hZ X0 hE0
  have N0 := Fr.nil n0
  refine own_cast (own_ef17_own_rm_at_4_8 m a b (4 : Int32) (8 : Int32)) ?_
  refine own_iloadN (n := 1) X0 hx (hb hby d17_0) rfl rfl ?_
  refine own_iloadN (n := 2) X0 hx (hb hby d17_1) rfl rfl ?_
  refine own_icmpNo (n := 5) X0 hx (hb hby d17_2) (tlt (by decide : (4 : Int32) < (8 : Int32))).2.1 rfl ?_
  refine own_aloadN (n := 6) X0 hx (hb hby d17_5) rfl rfl rfl ?_
  refine own_iloadN (n := 7) X0 hx (hb hby d17_6) rfl rfl ?_
  refine own_ld_baload (n := 8) (v := (.int c4)) X0 hx hZ hE0 V0 ⟨by decide, by decide⟩ rfl (hb hby d17_7) rfl ?_
  refine own_aloadN (n := 9) X0 hx (hb hby d17_8) rfl rfl rfl ?_
  refine own_iloadN (n := 10) X0 hx (hb hby d17_9) rfl rfl ?_
  refine own_ld_baload (n := 11) (v := (.int c4)) X0 hx hZ hE0 V1 ⟨by decide, by decide⟩ rfl (hb hby d17_10) rfl ?_
  refine own_icmpNo (n := 14) X0 hx (hb hby d17_11) (teq (rfl : c4 = c4)).2 rfl ?_
  refine own_iconst (n := 15) (z := (1 : Int32)) X0 hx (hb hby d17_14) rfl rfl ?_
  refine own_goto (n := 19) X0 hx (hb hby d17_15) (by decide) (by decide) ?_
  refine own_retZ X0 hx hlk hret (by simp) hE0 (w := (1 : Int32)) rfl (hb hby d17_19) (by decide) (by decide) ?_
  exact ⟨rfl, N0, rfl⟩
theorem own_ef17_own_rm_at_5_8 (m : MethodId) (y0 : Addr) (y1 : Addr) (y2 : Int32) (y3 : Int32) : entryFrame m #[(.ref y0), (.ref y1), (.int y2), (.int y3)] 4 = mkF m 0 #[.val (.ref y0), .val (.ref y1), .val (.int y2), .val (.int y3)] [] := by first | (simp [entryFrame, mkF, argsToLocals, Value.category]; done) | rfl
set_option maxRecDepth 65536 in
set_option maxHeartbeats 40000000 in
theorem own_rm_at_5_8 (l : Launch) (Z : State) (a0 : Array Value) (hw : ∀ d ∈ tables_1, d.before a0 Z = true) (a b : Addr) (kr kx : ClassId) (c0 c1 c2 c3 c4 c5 c6 c7 : Int32) (h0 : Heap) (n0 : Nat) (Z0 : n0 ≤ h0.size) (V0 : Arv Z h0 a kr .byte (8 : Int32) [(.int c0), (.int c1), (.int c2), (.int c3), (.int c4), (.int c5), (.int c6), (.int c7)] (.int (0 : Int32))) (V1 : Arv Z h0 b kx .byte (8 : Int32) [(.int c0), (.int c1), (.int c2), (.int c3), (.int c4), (.int c5), (.int c6), (.int c7)] (.int (0 : Int32))) :
    own_Met l Z (⟨"com/example/doseline/doseline/fhir/JsonWriterToByteArrayPinLaw", "at", "([B[BII)Z"⟩ : MethodName) method_2_code 4 (some .boolean) [] ({ frames := 0, cells := 0, slots := 0, locals := 0 } : Room) #[(.ref a), (.ref b), (.int (5 : Int32)), (.int (8 : Int32))] h0 (fun v h L => v = some (.int (1 : Int32)) ∧ Fr n0 L ∧ h = h0) := by
  refine own_met own_pn17 ?_
  intro p e s m below meth c s₁ hx hby hml hown hnm hret hlk hZ X0 hE0
  have N0 := Fr.nil n0
  refine own_cast (own_ef17_own_rm_at_5_8 m a b (5 : Int32) (8 : Int32)) ?_
  refine own_iloadN (n := 1) X0 hx (hb hby d17_0) rfl rfl ?_
  refine own_iloadN (n := 2) X0 hx (hb hby d17_1) rfl rfl ?_
  refine own_icmpNo (n := 5) X0 hx (hb hby d17_2) (tlt (by decide : (5 : Int32) < (8 : Int32))).2.1 rfl ?_
  refine own_aloadN (n := 6) X0 hx (hb hby d17_5) rfl rfl rfl ?_
  refine own_iloadN (n := 7) X0 hx (hb hby d17_6) rfl rfl ?_
  refine own_ld_baload (n := 8) (v := (.int c5)) X0 hx hZ hE0 V0 ⟨by decide, by decide⟩ rfl (hb hby d17_7) rfl ?_
  refine own_aloadN (n := 9) X0 hx (hb hby d17_8) rfl rfl rfl ?_
  refine own_iloadN (n := 10) X0 hx (hb hby d17_9) rfl rfl ?_
  refine own_ld_baload (n := 11) (v := (.int c5)) X0 hx hZ hE0 V1 ⟨by decide, by decide⟩ rfl (hb hby d17_10) rfl ?_
  refine own_icmpNo (n := 14) X0 hx (hb hby d17_11) (teq (rfl : c5 = c5)).2 rfl ?_
  refine own_iconst (n := 15) (z := (1 : Int32)) X0 hx (hb hby d17_14) rfl rfl ?_
  refine own_goto (n := 19) X0 hx (hb hby d17_15) (by decide) (by decide) ?_
  refine own_retZ X0 hx hlk hret (by simp) hE0 (w := (1 : Int32)) rfl (hb hby d17_19) (by decide) (by decide) ?_
  exact ⟨rfl, N0, rfl⟩
theorem own_ef17_own_rm_at_6_8 (m : MethodId) (y0 : Addr) (y1 : Addr) (y2 : Int32) (y3 : Int32) : entryFrame m #[(.ref y0), (.ref y1), (.int y2), (.int y3)] 4 = mkF m 0 #[.val (.ref y0), .val (.ref y1), .val (.int y2), .val (.int y3)] [] := by first | (simp [entryFrame, mkF, argsToLocals, Value.category]; done) | rfl
set_option maxRecDepth 65536 in
set_option maxHeartbeats 40000000 in
theorem own_rm_at_6_8 (l : Launch) (Z : State) (a0 : Array Value) (hw : ∀ d ∈ tables_1, d.before a0 Z = true) (a b : Addr) (kr kx : ClassId) (c0 c1 c2 c3 c4 c5 c6 c7 : Int32) (h0 : Heap) (n0 : Nat) (Z0 : n0 ≤ h0.size) (V0 : Arv Z h0 a kr .byte (8 : Int32) [(.int c0), (.int c1), (.int c2), (.int c3), (.int c4), (.int c5), (.int c6), (.int c7)] (.int (0 : Int32))) (V1 : Arv Z h0 b kx .byte (8 : Int32) [(.int c0), (.int c1), (.int c2), (.int c3), (.int c4), (.int c5), (.int c6), (.int c7)] (.int (0 : Int32))) :
    own_Met l Z (⟨"com/example/doseline/doseline/fhir/JsonWriterToByteArrayPinLaw", "at", "([B[BII)Z"⟩ : MethodName) method_2_code 4 (some .boolean) [] ({ frames := 0, cells := 0, slots := 0, locals := 0 } : Room) #[(.ref a), (.ref b), (.int (6 : Int32)), (.int (8 : Int32))] h0 (fun v h L => v = some (.int (1 : Int32)) ∧ Fr n0 L ∧ h = h0) := by
  refine own_met own_pn17 ?_
  intro p e s m below meth c s₁ hx hby hml hown hnm hret hlk hZ X0 hE0
  have N0 := Fr.nil n0
  refine own_cast (own_ef17_own_rm_at_6_8 m a b (6 : Int32) (8 : Int32)) ?_
  refine own_iloadN (n := 1) X0 hx (hb hby d17_0) rfl rfl ?_
  refine own_iloadN (n := 2) X0 hx (hb hby d17_1) rfl rfl ?_
  refine own_icmpNo (n := 5) X0 hx (hb hby d17_2) (tlt (by decide : (6 : Int32) < (8 : Int32))).2.1 rfl ?_
  refine own_aloadN (n := 6) X0 hx (hb hby d17_5) rfl rfl rfl ?_
  refine own_iloadN (n := 7) X0 hx (hb hby d17_6) rfl rfl ?_
  refine own_ld_baload (n := 8) (v := (.int c6)) X0 hx hZ hE0 V0 ⟨by decide, by decide⟩ rfl (hb hby d17_7) rfl ?_
  refine own_aloadN (n := 9) X0 hx (hb hby d17_8) rfl rfl rfl ?_
  refine own_iloadN (n := 10) X0 hx (hb hby d17_9) rfl rfl ?_
  refine own_ld_baload (n := 11) (v := (.int c6)) X0 hx hZ hE0 V1 ⟨by decide, by decide⟩ rfl (hb hby d17_10) rfl ?_
  refine own_icmpNo (n := 14) X0 hx (hb hby d17_11) (teq (rfl : c6 = c6)).2 rfl ?_
  refine own_iconst (n := 15) (z := (1 : Int32)) X0 hx (hb hby d17_14) rfl rfl ?_
  refine own_goto (n := 19) X0 hx (hb hby d17_15) (by decide) (by decide) ?_
  refine own_retZ X0 hx hlk hret (by simp) hE0 (w := (1 : Int32)) rfl (hb hby d17_19) (by decide) (by decide) ?_
  exact ⟨rfl, N0, rfl⟩
theorem own_ef17_own_rm_at_7_8 (m : MethodId) (y0 : Addr) (y1 : Addr) (y2 : Int32) (y3 : Int32) : entryFrame m #[(.ref y0), (.ref y1), (.int y2), (.int y3)] 4 = mkF m 0 #[.val (.ref y0), .val (.ref y1), .val (.int y2), .val (.int y3)] [] := by first | (simp [entryFrame, mkF, argsToLocals, Value.category]; done) | rfl
set_option maxRecDepth 65536 in
set_option maxHeartbeats 40000000 in
theorem own_rm_at_7_8 (l : Launch) (Z : State) (a0 : Array Value) (hw : ∀ d ∈ tables_1, d.before a0 Z = true) (a b : Addr) (kr kx : ClassId) (c0 c1 c2 c3 c4 c5 c6 c7 : Int32) (h0 : Heap) (n0 : Nat) (Z0 : n0 ≤ h0.size) (V0 : Arv Z h0 a kr .byte (8 : Int32) [(.int c0), (.int c1), (.int c2), (.int c3), (.int c4), (.int c5), (.int c6), (.int c7)] (.int (0 : Int32))) (V1 : Arv Z h0 b kx .byte (8 : Int32) [(.int c0), (.int c1), (.int c2), (.int c3), (.int c4), (.int c5), (.int c6), (.int c7)] (.int (0 : Int32))) :
    own_Met l Z (⟨"com/example/doseline/doseline/fhir/JsonWriterToByteArrayPinLaw", "at", "([B[BII)Z"⟩ : MethodName) method_2_code 4 (some .boolean) [] ({ frames := 0, cells := 0, slots := 0, locals := 0 } : Room) #[(.ref a), (.ref b), (.int (7 : Int32)), (.int (8 : Int32))] h0 (fun v h L => v = some (.int (1 : Int32)) ∧ Fr n0 L ∧ h = h0) := by
  refine own_met own_pn17 ?_
  intro p e s m below meth c s₁ hx hby hml hown hnm hret hlk hZ X0 hE0
  have N0 := Fr.nil n0
  refine own_cast (own_ef17_own_rm_at_7_8 m a b (7 : Int32) (8 : Int32)) ?_
  refine own_iloadN (n := 1) X0 hx (hb hby d17_0) rfl rfl ?_
  refine own_iloadN (n := 2) X0 hx (hb hby d17_1) rfl rfl ?_
  refine own_icmpNo (n := 5) X0 hx (hb hby d17_2) (tlt (by decide : (7 : Int32) < (8 : Int32))).2.1 rfl ?_
  refine own_aloadN (n := 6) X0 hx (hb hby d17_5) rfl rfl rfl ?_
  refine own_iloadN (n := 7) X0 hx (hb hby d17_6) rfl rfl ?_
  refine own_ld_baload (n := 8) (v := (.int c7)) X0 hx hZ hE0 V0 ⟨by decide, by decide⟩ rfl (hb hby d17_7) rfl ?_
  refine own_aloadN (n := 9) X0 hx (hb hby d17_8) rfl rfl rfl ?_
  refine own_iloadN (n := 10) X0 hx (hb hby d17_9) rfl rfl ?_
  refine own_ld_baload (n := 11) (v := (.int c7)) X0 hx hZ hE0 V1 ⟨by decide, by decide⟩ rfl (hb hby d17_10) rfl ?_
  refine own_icmpNo (n := 14) X0 hx (hb hby d17_11) (teq (rfl : c7 = c7)).2 rfl ?_
  refine own_iconst (n := 15) (z := (1 : Int32)) X0 hx (hb hby d17_14) rfl rfl ?_
  refine own_goto (n := 19) X0 hx (hb hby d17_15) (by decide) (by decide) ?_
  refine own_retZ X0 hx hlk hret (by simp) hE0 (w := (1 : Int32)) rfl (hb hby d17_19) (by decide) (by decide) ?_
  exact ⟨rfl, N0, rfl⟩
theorem own_ef16_own_rm_same_8 (m : MethodId) (y0 : Addr) (y1 : Addr) (y2 : Int32) : entryFrame m #[(.ref y0), (.ref y1), (.int y2)] 3 = mkF m 0 #[.val (.ref y0), .val (.ref y1), .val (.int y2)] [] := by first | (simp [entryFrame, mkF, argsToLocals, Value.category]; done) | rfl
set_option maxRecDepth 65536 in
set_option maxHeartbeats 40000000 in
theorem own_rm_same_8 (l : Launch) (Z : State) (a0 : Array Value) (hw : ∀ d ∈ tables_1, d.before a0 Z = true) (a b : Addr) (kr kx : ClassId) (c0 c1 c2 c3 c4 c5 c6 c7 : Int32) (h0 : Heap) (n0 : Nat) (Z0 : n0 ≤ h0.size) (V0 : Arv Z h0 a kr .byte (8 : Int32) [(.int c0), (.int c1), (.int c2), (.int c3), (.int c4), (.int c5), (.int c6), (.int c7)] (.int (0 : Int32))) (V1 : Arv Z h0 b kx .byte (8 : Int32) [(.int c0), (.int c1), (.int c2), (.int c3), (.int c4), (.int c5), (.int c6), (.int c7)] (.int (0 : Int32))) :
    own_Met l Z (⟨"com/example/doseline/doseline/fhir/JsonWriterToByteArrayPinLaw", "same", "([B[BI)Z"⟩ : MethodName) method_3_code 3 (some .boolean) [] ({ frames := 1, cells := 0, slots := 0, locals := 15 } : Room) #[(.ref a), (.ref b), (.int (8 : Int32))] h0 (fun v h L => v = some (.int (1 : Int32)) ∧ Fr n0 L ∧ h = h0) := by
  refine own_met own_pn16 ?_
  intro p e s m below meth c s₁ hx hby hml hown hnm hret hlk hZ X0 hE0
  have N0 := Fr.nil n0
  refine own_cast (own_ef16_own_rm_same_8 m a b (8 : Int32)) ?_
  refine own_aloadN (n := 1) X0 hx (hb hby d16_0) rfl rfl rfl ?_
  refine own_ifnullNo (n := 4) X0 hx (hb hby d16_1) rfl ?_
  refine own_aloadN (n := 5) X0 hx (hb hby d16_4) rfl rfl rfl ?_
  refine own_len (n := 6) X0 hx hZ hE0 V0 (hb hby d16_5) rfl ?_
  refine own_iloadN (n := 7) X0 hx (hb hby d16_6) rfl rfl ?_
  refine own_icmpYes (n := 12) X0 hx (hb hby d16_7) (teq (by decide : (8 : Int32) = (8 : Int32))).1 (by decide) (by decide) ?_
  refine own_aloadN (n := 13) X0 hx (hb hby d16_12) rfl rfl rfl ?_
  refine own_aloadN (n := 14) X0 hx (hb hby d16_13) rfl rfl rfl ?_
  refine own_iconst (n := 15) (z := (0 : Int32)) X0 hx (hb hby d16_14) rfl rfl ?_
  refine own_iloadN (n := 16) X0 hx (hb hby d16_15) rfl rfl ?_
  refine own_S (n := 19) (argsL := [(.ref a), (.ref b), (.int (0 : Int32)), (.int (8 : Int32))]) (rest := []) X0 hx hZ hown (own_rm_at_0_8 l Z a0 hw a b kr kx c0 c1 c2 c3 c4 c5 c6 c7 h0 n0 Z0 V0 V1) (ww80 hw) (ww81 hw) (ww78 hw) (ww82 hw) (by decide) hE0 (by rw [hml]; rfl) (lenOf own_pd6 rfl) rfl (hb hby d16_16) (Nat.le_of_ble_eq_true rfl) (Nat.le_of_ble_eq_true rfl) (Nat.le_of_ble_eq_true rfl) (Nat.le_of_ble_eq_true rfl) rfl ?_
  rintro v1 T1 L1 X1 ⟨rfl, Nq1, eq1⟩
  have N1 := Fr.app N0 Nq1
  change own_G p e below _ _ (mkF m 19 _ [(.int (1 : Int32))])
  refine own_ifNo (n := 22) X1 hx (hb hby d16_19) (feq (by decide : ¬ ((1 : Int32) = (0 : Int32)))).1 rfl ?_
  refine own_aloadN (n := 23) X1 hx (hb hby d16_22) rfl rfl rfl ?_
  refine own_aloadN (n := 24) X1 hx (hb hby d16_23) rfl rfl rfl ?_
  refine own_iconst (n := 25) (z := (1 : Int32)) X1 hx (hb hby d16_24) rfl rfl ?_
  refine own_iloadN (n := 26) X1 hx (hb hby d16_25) rfl rfl ?_
  refine own_S (n := 29) (argsL := [(.ref a), (.ref b), (.int (1 : Int32)), (.int (8 : Int32))]) (rest := []) X1 hx hZ hown (own_rm_at_1_8 l Z a0 hw a b kr kx c0 c1 c2 c3 c4 c5 c6 c7 h0 n0 Z0 V0 V1) (ww80 hw) (ww81 hw) (ww78 hw) (ww82 hw) (by decide) eq1 (by rw [hml]; rfl) (lenOf own_pd6 rfl) rfl (hb hby d16_26) (Nat.le_of_ble_eq_true rfl) (Nat.le_of_ble_eq_true rfl) (Nat.le_of_ble_eq_true rfl) (Nat.le_of_ble_eq_true rfl) rfl ?_
  rintro v2 T2 L2 X2 ⟨rfl, Nq2, eq2⟩
  have N2 := Fr.app N1 Nq2
  change own_G p e below _ _ (mkF m 29 _ [(.int (1 : Int32))])
  refine own_ifNo (n := 32) X2 hx (hb hby d16_29) (feq (by decide : ¬ ((1 : Int32) = (0 : Int32)))).1 rfl ?_
  refine own_aloadN (n := 33) X2 hx (hb hby d16_32) rfl rfl rfl ?_
  refine own_aloadN (n := 34) X2 hx (hb hby d16_33) rfl rfl rfl ?_
  refine own_iconst (n := 35) (z := (2 : Int32)) X2 hx (hb hby d16_34) rfl rfl ?_
  refine own_iloadN (n := 36) X2 hx (hb hby d16_35) rfl rfl ?_
  refine own_S (n := 39) (argsL := [(.ref a), (.ref b), (.int (2 : Int32)), (.int (8 : Int32))]) (rest := []) X2 hx hZ hown (own_rm_at_2_8 l Z a0 hw a b kr kx c0 c1 c2 c3 c4 c5 c6 c7 h0 n0 Z0 V0 V1) (ww80 hw) (ww81 hw) (ww78 hw) (ww82 hw) (by decide) eq2 (by rw [hml]; rfl) (lenOf own_pd6 rfl) rfl (hb hby d16_36) (Nat.le_of_ble_eq_true rfl) (Nat.le_of_ble_eq_true rfl) (Nat.le_of_ble_eq_true rfl) (Nat.le_of_ble_eq_true rfl) rfl ?_
  rintro v3 T3 L3 X3 ⟨rfl, Nq3, eq3⟩
  have N3 := Fr.app N2 Nq3
  change own_G p e below _ _ (mkF m 39 _ [(.int (1 : Int32))])
  refine own_ifNo (n := 42) X3 hx (hb hby d16_39) (feq (by decide : ¬ ((1 : Int32) = (0 : Int32)))).1 rfl ?_
  refine own_aloadN (n := 43) X3 hx (hb hby d16_42) rfl rfl rfl ?_
  refine own_aloadN (n := 44) X3 hx (hb hby d16_43) rfl rfl rfl ?_
  refine own_iconst (n := 45) (z := (3 : Int32)) X3 hx (hb hby d16_44) rfl rfl ?_
  refine own_iloadN (n := 46) X3 hx (hb hby d16_45) rfl rfl ?_
  refine own_S (n := 49) (argsL := [(.ref a), (.ref b), (.int (3 : Int32)), (.int (8 : Int32))]) (rest := []) X3 hx hZ hown (own_rm_at_3_8 l Z a0 hw a b kr kx c0 c1 c2 c3 c4 c5 c6 c7 h0 n0 Z0 V0 V1) (ww80 hw) (ww81 hw) (ww78 hw) (ww82 hw) (by decide) eq3 (by rw [hml]; rfl) (lenOf own_pd6 rfl) rfl (hb hby d16_46) (Nat.le_of_ble_eq_true rfl) (Nat.le_of_ble_eq_true rfl) (Nat.le_of_ble_eq_true rfl) (Nat.le_of_ble_eq_true rfl) rfl ?_
  rintro v4 T4 L4 X4 ⟨rfl, Nq4, eq4⟩
  have N4 := Fr.app N3 Nq4
  change own_G p e below _ _ (mkF m 49 _ [(.int (1 : Int32))])
  refine own_ifNo (n := 52) X4 hx (hb hby d16_49) (feq (by decide : ¬ ((1 : Int32) = (0 : Int32)))).1 rfl ?_
  refine own_aloadN (n := 53) X4 hx (hb hby d16_52) rfl rfl rfl ?_
  refine own_aloadN (n := 54) X4 hx (hb hby d16_53) rfl rfl rfl ?_
  refine own_iconst (n := 55) (z := (4 : Int32)) X4 hx (hb hby d16_54) rfl rfl ?_
  refine own_iloadN (n := 56) X4 hx (hb hby d16_55) rfl rfl ?_
  refine own_S (n := 59) (argsL := [(.ref a), (.ref b), (.int (4 : Int32)), (.int (8 : Int32))]) (rest := []) X4 hx hZ hown (own_rm_at_4_8 l Z a0 hw a b kr kx c0 c1 c2 c3 c4 c5 c6 c7 h0 n0 Z0 V0 V1) (ww80 hw) (ww81 hw) (ww78 hw) (ww82 hw) (by decide) eq4 (by rw [hml]; rfl) (lenOf own_pd6 rfl) rfl (hb hby d16_56) (Nat.le_of_ble_eq_true rfl) (Nat.le_of_ble_eq_true rfl) (Nat.le_of_ble_eq_true rfl) (Nat.le_of_ble_eq_true rfl) rfl ?_
  rintro v5 T5 L5 X5 ⟨rfl, Nq5, eq5⟩
  have N5 := Fr.app N4 Nq5
  change own_G p e below _ _ (mkF m 59 _ [(.int (1 : Int32))])
  refine own_ifNo (n := 62) X5 hx (hb hby d16_59) (feq (by decide : ¬ ((1 : Int32) = (0 : Int32)))).1 rfl ?_
  refine own_aloadN (n := 63) X5 hx (hb hby d16_62) rfl rfl rfl ?_
  refine own_aloadN (n := 64) X5 hx (hb hby d16_63) rfl rfl rfl ?_
  refine own_iconst (n := 65) (z := (5 : Int32)) X5 hx (hb hby d16_64) rfl rfl ?_
  refine own_iloadN (n := 66) X5 hx (hb hby d16_65) rfl rfl ?_
  refine own_S (n := 69) (argsL := [(.ref a), (.ref b), (.int (5 : Int32)), (.int (8 : Int32))]) (rest := []) X5 hx hZ hown (own_rm_at_5_8 l Z a0 hw a b kr kx c0 c1 c2 c3 c4 c5 c6 c7 h0 n0 Z0 V0 V1) (ww80 hw) (ww81 hw) (ww78 hw) (ww82 hw) (by decide) eq5 (by rw [hml]; rfl) (lenOf own_pd6 rfl) rfl (hb hby d16_66) (Nat.le_of_ble_eq_true rfl) (Nat.le_of_ble_eq_true rfl) (Nat.le_of_ble_eq_true rfl) (Nat.le_of_ble_eq_true rfl) rfl ?_
  rintro v6 T6 L6 X6 ⟨rfl, Nq6, eq6⟩
  have N6 := Fr.app N5 Nq6
  change own_G p e below _ _ (mkF m 69 _ [(.int (1 : Int32))])
  refine own_ifNo (n := 72) X6 hx (hb hby d16_69) (feq (by decide : ¬ ((1 : Int32) = (0 : Int32)))).1 rfl ?_
  refine own_aloadN (n := 73) X6 hx (hb hby d16_72) rfl rfl rfl ?_
  refine own_aloadN (n := 74) X6 hx (hb hby d16_73) rfl rfl rfl ?_
  refine own_bipush (n := 76) (z := (6 : Int32)) X6 hx (hb hby d16_74) rfl rfl ?_
  refine own_iloadN (n := 77) X6 hx (hb hby d16_76) rfl rfl ?_
  refine own_S (n := 80) (argsL := [(.ref a), (.ref b), (.int (6 : Int32)), (.int (8 : Int32))]) (rest := []) X6 hx hZ hown (own_rm_at_6_8 l Z a0 hw a b kr kx c0 c1 c2 c3 c4 c5 c6 c7 h0 n0 Z0 V0 V1) (ww80 hw) (ww81 hw) (ww78 hw) (ww82 hw) (by decide) eq6 (by rw [hml]; rfl) (lenOf own_pd6 rfl) rfl (hb hby d16_77) (Nat.le_of_ble_eq_true rfl) (Nat.le_of_ble_eq_true rfl) (Nat.le_of_ble_eq_true rfl) (Nat.le_of_ble_eq_true rfl) rfl ?_
  rintro v7 T7 L7 X7 ⟨rfl, Nq7, eq7⟩
  have N7 := Fr.app N6 Nq7
  change own_G p e below _ _ (mkF m 80 _ [(.int (1 : Int32))])
  refine own_ifNo (n := 83) X7 hx (hb hby d16_80) (feq (by decide : ¬ ((1 : Int32) = (0 : Int32)))).1 rfl ?_
  refine own_aloadN (n := 84) X7 hx (hb hby d16_83) rfl rfl rfl ?_
  refine own_aloadN (n := 85) X7 hx (hb hby d16_84) rfl rfl rfl ?_
  refine own_bipush (n := 87) (z := (7 : Int32)) X7 hx (hb hby d16_85) rfl rfl ?_
  refine own_iloadN (n := 88) X7 hx (hb hby d16_87) rfl rfl ?_
  refine own_S (n := 91) (argsL := [(.ref a), (.ref b), (.int (7 : Int32)), (.int (8 : Int32))]) (rest := []) X7 hx hZ hown (own_rm_at_7_8 l Z a0 hw a b kr kx c0 c1 c2 c3 c4 c5 c6 c7 h0 n0 Z0 V0 V1) (ww80 hw) (ww81 hw) (ww78 hw) (ww82 hw) (by decide) eq7 (by rw [hml]; rfl) (lenOf own_pd6 rfl) rfl (hb hby d16_88) (Nat.le_of_ble_eq_true rfl) (Nat.le_of_ble_eq_true rfl) (Nat.le_of_ble_eq_true rfl) (Nat.le_of_ble_eq_true rfl) rfl ?_
  rintro v8 T8 L8 X8 ⟨rfl, Nq8, eq8⟩
  have N8 := Fr.app N7 Nq8
  change own_G p e below _ _ (mkF m 91 _ [(.int (1 : Int32))])
  refine own_ifNo (n := 94) X8 hx (hb hby d16_91) (feq (by decide : ¬ ((1 : Int32) = (0 : Int32)))).1 rfl ?_
  refine own_iconst (n := 95) (z := (1 : Int32)) X8 hx (hb hby d16_94) rfl rfl ?_
  refine own_goto (n := 99) X8 hx (hb hby d16_95) (by decide) (by decide) ?_
  refine own_retZ X8 hx hlk hret (by simp) eq8 (w := (1 : Int32)) rfl (hb hby d16_99) (by decide) (by decide) ?_
  exact ⟨rfl, N8, rfl⟩
theorem own_ef0_own_rm0 (m : MethodId) (y0 : Int32) (y1 : Int64) (y2 : Int32) : entryFrame m #[(.int y0), (.long y1), (.int y2)] maxLocals = mkF m 0 #[.val (.int y0), .val (.long y1), .second, .val (.int y2), .unset, .unset, .unset, .unset, .unset, .unset, .unset, .unset, .unset, .unset, .unset, .unset, .unset, .unset, .unset, .unset, .unset, .unset, .unset, .unset] [] := by first | (simp [entryFrame, mkF, argsToLocals, Value.category, maxLocals]; done) | rfl
set_option maxRecDepth 65536 in
set_option maxHeartbeats 40000000 in
theorem own_rm0 (l : Launch) (Z : State) (a0 : Array Value) (hw : ∀ d ∈ tables_1, d.before a0 Z = true) (p0 : Int32) (q : Int64) (p2 : Int32) (h0 : Heap) (n0 : Nat) (Z0 : n0 ≤ h0.size)  :
    own_Met l Z x code maxLocals ret tables_1 room_1 #[(.int p0), (.long q), (.int p2)] h0 (fun v h L => v = some (.int 1) ∧ Fr n0 L) := by
  refine own_met own_pn0 ?_
  intro p e s m below meth c s₁ hx hby hml hown hnm hret hlk hZ X0 hE0
  have N0 := Fr.nil n0
  refine own_cast (own_ef0_own_rm0 m p0 q p2) ?_
  refine own_iloadN (n := 1) X0 hx (hb hby at_0) rfl rfl ?_
  refine own_bipush (n := 3) (z := (15 : Int32)) X0 hx (hb hby at_1) rfl rfl ?_
  refine own_iand (n := 4) X0 hx (hb hby at_3) rfl rfl ?_
  refine own_istore (n := 6) (l' := #[.val (.int p0), .val (.long q), .second, .val (.int p2), .val (.int (p0 &&& (15 : Int32))), .unset, .unset, .unset, .unset, .unset, .unset, .unset, .unset, .unset, .unset, .unset, .unset, .unset, .unset, .unset, .unset, .unset, .unset, .unset]) X0 hx (hb hby at_4) rfl rfl ?_
  refine own_iloadN (n := 7) X0 hx (hb hby at_6) rfl rfl ?_
  refine own_iconst (n := 8) (z := (1 : Int32)) X0 hx (hb hby at_7) rfl rfl ?_
  refine own_iand (n := 9) X0 hx (hb hby at_8) rfl rfl ?_
  by_cases hc9_1 : (p2 &&& (1 : Int32)) = (0 : Int32)
  · skip
    refine own_ifYes (n := 16) X0 hx (hb hby at_9) (teq hc9_1).1 (by decide) (by decide) ?_
    refine own_iconst (n := 17) (z := (0 : Int32)) X0 hx (hb hby at_16) rfl rfl ?_
    refine own_istore (n := 19) (l' := #[.val (.int p0), .val (.long q), .second, .val (.int p2), .val (.int (p0 &&& (15 : Int32))), .val (.int (0 : Int32)), .unset, .unset, .unset, .unset, .unset, .unset, .unset, .unset, .unset, .unset, .unset, .unset, .unset, .unset, .unset, .unset, .unset, .unset]) X0 hx (hb hby at_17) rfl rfl ?_
    refine own_iloadN (n := 20) X0 hx (hb hby at_19) rfl rfl ?_
    refine own_iconst (n := 21) (z := (2 : Int32)) X0 hx (hb hby at_20) rfl rfl ?_
    refine own_iand (n := 22) X0 hx (hb hby at_21) rfl rfl ?_
    by_cases hc22_2 : (p2 &&& (2 : Int32)) = (0 : Int32)
    · skip
      refine own_ifYes (n := 29) X0 hx (hb hby at_22) (teq hc22_2).1 (by decide) (by decide) ?_
      refine own_iconst (n := 30) (z := (0 : Int32)) X0 hx (hb hby at_29) rfl rfl ?_
      refine own_istore (n := 32) (l' := #[.val (.int p0), .val (.long q), .second, .val (.int p2), .val (.int (p0 &&& (15 : Int32))), .val (.int (0 : Int32)), .val (.int (0 : Int32)), .unset, .unset, .unset, .unset, .unset, .unset, .unset, .unset, .unset, .unset, .unset, .unset, .unset, .unset, .unset, .unset, .unset]) X0 hx (hb hby at_30) rfl rfl ?_
      refine own_lloadN (n := 33) X0 hx (hb hby at_32) rfl rfl ?_
      refine own_l2i (n := 34) X0 hx (hb hby at_33) rfl rfl ?_
      refine own_i2b (n := 35) X0 hx (hb hby at_34) rfl rfl ?_
      refine own_istore (n := 37) (l' := #[.val (.int p0), .val (.long q), .second, .val (.int p2), .val (.int (p0 &&& (15 : Int32))), .val (.int (0 : Int32)), .val (.int (0 : Int32)), .val (.int ((q).toInt32).toInt8.toInt32), .unset, .unset, .unset, .unset, .unset, .unset, .unset, .unset, .unset, .unset, .unset, .unset, .unset, .unset, .unset, .unset]) X0 hx (hb hby at_35) rfl rfl ?_
      refine own_lloadN (n := 38) X0 hx (hb hby at_37) rfl rfl ?_
      refine own_bipush (n := 40) (z := (8 : Int32)) X0 hx (hb hby at_38) rfl rfl ?_
      refine own_lushr (n := 41) X0 hx (hb hby at_40) rfl rfl ?_
      refine own_l2i (n := 42) X0 hx (hb hby at_41) rfl rfl ?_
      refine own_i2b (n := 43) X0 hx (hb hby at_42) rfl rfl ?_
      refine own_istore (n := 45) (l' := #[.val (.int p0), .val (.long q), .second, .val (.int p2), .val (.int (p0 &&& (15 : Int32))), .val (.int (0 : Int32)), .val (.int (0 : Int32)), .val (.int ((q).toInt32).toInt8.toInt32), .val (.int ((((q).toUInt64 >>> ((8 : Int32) &&& 63).toInt64.toUInt64).toInt64).toInt32).toInt8.toInt32), .unset, .unset, .unset, .unset, .unset, .unset, .unset, .unset, .unset, .unset, .unset, .unset, .unset, .unset, .unset]) X0 hx (hb hby at_43) rfl rfl ?_
      refine own_lloadN (n := 46) X0 hx (hb hby at_45) rfl rfl ?_
      refine own_bipush (n := 48) (z := (16 : Int32)) X0 hx (hb hby at_46) rfl rfl ?_
      refine own_lushr (n := 49) X0 hx (hb hby at_48) rfl rfl ?_
      refine own_l2i (n := 50) X0 hx (hb hby at_49) rfl rfl ?_
      refine own_i2b (n := 51) X0 hx (hb hby at_50) rfl rfl ?_
      refine own_istore (n := 53) (l' := #[.val (.int p0), .val (.long q), .second, .val (.int p2), .val (.int (p0 &&& (15 : Int32))), .val (.int (0 : Int32)), .val (.int (0 : Int32)), .val (.int ((q).toInt32).toInt8.toInt32), .val (.int ((((q).toUInt64 >>> ((8 : Int32) &&& 63).toInt64.toUInt64).toInt64).toInt32).toInt8.toInt32), .val (.int ((((q).toUInt64 >>> ((16 : Int32) &&& 63).toInt64.toUInt64).toInt64).toInt32).toInt8.toInt32), .unset, .unset, .unset, .unset, .unset, .unset, .unset, .unset, .unset, .unset, .unset, .unset, .unset, .unset]) X0 hx (hb hby at_51) rfl rfl ?_
      refine own_lloadN (n := 54) X0 hx (hb hby at_53) rfl rfl ?_
      refine own_bipush (n := 56) (z := (24 : Int32)) X0 hx (hb hby at_54) rfl rfl ?_
      refine own_lushr (n := 57) X0 hx (hb hby at_56) rfl rfl ?_
      refine own_l2i (n := 58) X0 hx (hb hby at_57) rfl rfl ?_
      refine own_i2b (n := 59) X0 hx (hb hby at_58) rfl rfl ?_
      refine own_istore (n := 61) (l' := #[.val (.int p0), .val (.long q), .second, .val (.int p2), .val (.int (p0 &&& (15 : Int32))), .val (.int (0 : Int32)), .val (.int (0 : Int32)), .val (.int ((q).toInt32).toInt8.toInt32), .val (.int ((((q).toUInt64 >>> ((8 : Int32) &&& 63).toInt64.toUInt64).toInt64).toInt32).toInt8.toInt32), .val (.int ((((q).toUInt64 >>> ((16 : Int32) &&& 63).toInt64.toUInt64).toInt64).toInt32).toInt8.toInt32), .val (.int ((((q).toUInt64 >>> ((24 : Int32) &&& 63).toInt64.toUInt64).toInt64).toInt32).toInt8.toInt32), .unset, .unset, .unset, .unset, .unset, .unset, .unset, .unset, .unset, .unset, .unset, .unset, .unset]) X0 hx (hb hby at_59) rfl rfl ?_
      refine own_lloadN (n := 62) X0 hx (hb hby at_61) rfl rfl ?_
      refine own_bipush (n := 64) (z := (32 : Int32)) X0 hx (hb hby at_62) rfl rfl ?_
      refine own_lushr (n := 65) X0 hx (hb hby at_64) rfl rfl ?_
      refine own_l2i (n := 66) X0 hx (hb hby at_65) rfl rfl ?_
      refine own_i2b (n := 67) X0 hx (hb hby at_66) rfl rfl ?_
      refine own_istore (n := 69) (l' := #[.val (.int p0), .val (.long q), .second, .val (.int p2), .val (.int (p0 &&& (15 : Int32))), .val (.int (0 : Int32)), .val (.int (0 : Int32)), .val (.int ((q).toInt32).toInt8.toInt32), .val (.int ((((q).toUInt64 >>> ((8 : Int32) &&& 63).toInt64.toUInt64).toInt64).toInt32).toInt8.toInt32), .val (.int ((((q).toUInt64 >>> ((16 : Int32) &&& 63).toInt64.toUInt64).toInt64).toInt32).toInt8.toInt32), .val (.int ((((q).toUInt64 >>> ((24 : Int32) &&& 63).toInt64.toUInt64).toInt64).toInt32).toInt8.toInt32), .val (.int ((((q).toUInt64 >>> ((32 : Int32) &&& 63).toInt64.toUInt64).toInt64).toInt32).toInt8.toInt32), .unset, .unset, .unset, .unset, .unset, .unset, .unset, .unset, .unset, .unset, .unset, .unset]) X0 hx (hb hby at_67) rfl rfl ?_
      have hcap := own_cap p0
      obtain ⟨cp, hcp⟩ : ∃ z, z = (p0 &&& (15 : Int32)) := ⟨_, rfl⟩
      rw [← hcp] at hcap
      rw [← hcp]
      obtain ⟨q0, hq0⟩ : ∃ z, z = ((q).toInt32).toInt8.toInt32 := ⟨_, rfl⟩
      rw [← hq0]
      have hN0 : (q0).toInt8.toInt32 = q0 := by rw [hq0]; exact own_again _
      obtain ⟨q1, hq1⟩ : ∃ z, z = ((((q).toUInt64 >>> ((8 : Int32) &&& 63).toInt64.toUInt64).toInt64).toInt32).toInt8.toInt32 := ⟨_, rfl⟩
      rw [← hq1]
      have hN1 : (q1).toInt8.toInt32 = q1 := by rw [hq1]; exact own_again _
      obtain ⟨q2, hq2⟩ : ∃ z, z = ((((q).toUInt64 >>> ((16 : Int32) &&& 63).toInt64.toUInt64).toInt64).toInt32).toInt8.toInt32 := ⟨_, rfl⟩
      rw [← hq2]
      have hN2 : (q2).toInt8.toInt32 = q2 := by rw [hq2]; exact own_again _
      obtain ⟨q3, hq3⟩ : ∃ z, z = ((((q).toUInt64 >>> ((24 : Int32) &&& 63).toInt64.toUInt64).toInt64).toInt32).toInt8.toInt32 := ⟨_, rfl⟩
      rw [← hq3]
      have hN3 : (q3).toInt8.toInt32 = q3 := by rw [hq3]; exact own_again _
      obtain ⟨q4, hq4⟩ : ∃ z, z = ((((q).toUInt64 >>> ((32 : Int32) &&& 63).toInt64.toUInt64).toInt64).toInt32).toInt8.toInt32 := ⟨_, rfl⟩
      rw [← hq4]
      have hN4 : (q4).toInt8.toInt32 = q4 := by rw [hq4]; exact own_again _
      refine own_iconst (n := 70) (z := (3 : Int32)) X0 hx (hb hby at_69) rfl rfl ?_
      refine own_newA (n := 72) X0 hx hZ own_an_byte (ww0 hw) hE0 (hb hby at_70) (by decide) (cap := 3) (by decide) (by decide) (by decide) (by decide) rfl ?_
      intro T3 h3 k3 b3 g3 X3 e3 E3 A3 B3
      have g_b3 : n0 ≤ b3 := Nat.le_trans Z0 (Nat.le_of_eq g3.symm)
      have Z_4 : n0 ≤ h3.size := Nat.le_trans Z0 E3.1
      have V3 : Arv Z h3 b3 k3 .byte (3 : Int32) [(.int (0 : Int32)), (.int (0 : Int32)), (.int (0 : Int32))] (.int (0 : Int32)) := (Arv.new A3 (by decide)).pad (pad_rep [] (.int (0 : Int32)) 3)
      refine own_astore (n := 74) (l' := #[.val (.int p0), .val (.long q), .second, .val (.int p2), .val (.int cp), .val (.int (0 : Int32)), .val (.int (0 : Int32)), .val (.int q0), .val (.int q1), .val (.int q2), .val (.int q3), .val (.int q4), .val (.ref b3), .unset, .unset, .unset, .unset, .unset, .unset, .unset, .unset, .unset, .unset, .unset]) X3 hx (hb hby at_72) rfl rfl rfl ?_
      refine own_aload (n := 76) X3 hx (hb hby at_74) rfl rfl rfl ?_
      refine own_iconst (n := 77) (z := (0 : Int32)) X3 hx (hb hby at_76) rfl rfl ?_
      refine own_iload (n := 79) X3 hx (hb hby at_77) rfl rfl ?_
      refine own_st_bastore (n := 80) X3 hx hZ e3 V3 ⟨by decide, by decide⟩ 0 rfl (Nat.le_of_ble_eq_true rfl) (hb hby at_79) rfl ?_
      intro T5 h5 X5 e5 W5 V5q
      rw [hN0] at V5q
      have V5 : Arv Z h5 b3 k3 .byte (3 : Int32) [(.int q0), (.int (0 : Int32)), (.int (0 : Int32))] (.int (0 : Int32)) := V5q
      have N5 := Fr.snoc X5 N0 g_b3
      have Z_6 : n0 ≤ h5.size := by rw [W5.size]; exact Z_4
      refine own_aload (n := 82) X5 hx (hb hby at_80) rfl rfl rfl ?_
      refine own_iconst (n := 83) (z := (1 : Int32)) X5 hx (hb hby at_82) rfl rfl ?_
      refine own_iload (n := 85) X5 hx (hb hby at_83) rfl rfl ?_
      refine own_st_bastore (n := 86) X5 hx hZ e5 V5 ⟨by decide, by decide⟩ 1 rfl (Nat.le_of_ble_eq_true rfl) (hb hby at_85) rfl ?_
      intro T7 h7 X7 e7 W7 V7q
      rw [hN1] at V7q
      have V7 : Arv Z h7 b3 k3 .byte (3 : Int32) [(.int q0), (.int q1), (.int (0 : Int32))] (.int (0 : Int32)) := V7q
      have N7 := Fr.snoc X7 N5 g_b3
      have Z_8 : n0 ≤ h7.size := by rw [W7.size]; exact Z_6
      refine own_aload (n := 88) X7 hx (hb hby at_86) rfl rfl rfl ?_
      refine own_iconst (n := 89) (z := (2 : Int32)) X7 hx (hb hby at_88) rfl rfl ?_
      refine own_iload (n := 91) X7 hx (hb hby at_89) rfl rfl ?_
      refine own_st_bastore (n := 92) X7 hx hZ e7 V7 ⟨by decide, by decide⟩ 2 rfl (Nat.le_of_ble_eq_true rfl) (hb hby at_91) rfl ?_
      intro T9 h9 X9 e9 W9 V9q
      rw [hN2] at V9q
      have V9 : Arv Z h9 b3 k3 .byte (3 : Int32) [(.int q0), (.int q1), (.int q2)] (.int (0 : Int32)) := V9q
      have N9 := Fr.snoc X9 N7 g_b3
      have Z_10 : n0 ≤ h9.size := by rw [W9.size]; exact Z_8
      refine own_iconst (n := 93) (z := (2 : Int32)) X9 hx (hb hby at_92) rfl rfl ?_
      refine own_newA (n := 95) X9 hx hZ own_an_byte (ww0 hw) e9 (hb hby at_93) (by decide) (cap := 2) (by decide) (by decide) (by decide) (by decide) rfl ?_
      intro T11 h11 k11 b11 g11 X11 e11 E11 A11 B11
      have g_b11 : n0 ≤ b11 := Nat.le_trans Z_10 (Nat.le_of_eq g11.symm)
      have ne_b3_b11 : b3 ≠ b11 := own_ne V9.lt g11
      have A_12 := V9.ext E11
      have Z_13 : n0 ≤ h11.size := Nat.le_trans Z_10 E11.1
      have V11 : Arv Z h11 b11 k11 .byte (2 : Int32) [(.int (0 : Int32)), (.int (0 : Int32))] (.int (0 : Int32)) := (Arv.new A11 (by decide)).pad (pad_rep [] (.int (0 : Int32)) 2)
      refine own_astore (n := 97) (l' := #[.val (.int p0), .val (.long q), .second, .val (.int p2), .val (.int cp), .val (.int (0 : Int32)), .val (.int (0 : Int32)), .val (.int q0), .val (.int q1), .val (.int q2), .val (.int q3), .val (.int q4), .val (.ref b3), .val (.ref b11), .unset, .unset, .unset, .unset, .unset, .unset, .unset, .unset, .unset, .unset]) X11 hx (hb hby at_95) rfl rfl rfl ?_
      refine own_aload (n := 99) X11 hx (hb hby at_97) rfl rfl rfl ?_
      refine own_iconst (n := 100) (z := (0 : Int32)) X11 hx (hb hby at_99) rfl rfl ?_
      refine own_iload (n := 102) X11 hx (hb hby at_100) rfl rfl ?_
      refine own_st_bastore (n := 103) X11 hx hZ e11 V11 ⟨by decide, by decide⟩ 0 rfl (Nat.le_of_ble_eq_true rfl) (hb hby at_102) rfl ?_
      intro T14 h14 X14 e14 W14 V14q
      rw [hN3] at V14q
      have V14 : Arv Z h14 b11 k11 .byte (2 : Int32) [(.int q3), (.int (0 : Int32))] (.int (0 : Int32)) := V14q
      have N14 := Fr.snoc X14 N9 g_b11
      have A_15 := A_12.other W14 ne_b3_b11
      have Z_16 : n0 ≤ h14.size := by rw [W14.size]; exact Z_13
      refine own_aload (n := 105) X14 hx (hb hby at_103) rfl rfl rfl ?_
      refine own_iconst (n := 106) (z := (1 : Int32)) X14 hx (hb hby at_105) rfl rfl ?_
      refine own_iload (n := 108) X14 hx (hb hby at_106) rfl rfl ?_
      refine own_st_bastore (n := 109) X14 hx hZ e14 V14 ⟨by decide, by decide⟩ 1 rfl (Nat.le_of_ble_eq_true rfl) (hb hby at_108) rfl ?_
      intro T17 h17 X17 e17 W17 V17q
      rw [hN4] at V17q
      have V17 : Arv Z h17 b11 k11 .byte (2 : Int32) [(.int q3), (.int q4)] (.int (0 : Int32)) := V17q
      have N17 := Fr.snoc X17 N14 g_b11
      have A_18 := A_15.other W17 ne_b3_b11
      have Z_19 : n0 ≤ h17.size := by rw [W17.size]; exact Z_16
      refine own_bipush (n := 111) (z := (8 : Int32)) X17 hx (hb hby at_109) rfl rfl ?_
      refine own_newA (n := 113) X17 hx hZ own_an_byte (ww0 hw) e17 (hb hby at_111) (by decide) (cap := 8) (by decide) (by decide) (by decide) (by decide) rfl ?_
      intro T20 h20 k20 b20 g20 X20 e20 E20 A20 B20
      have g_b20 : n0 ≤ b20 := Nat.le_trans Z_19 (Nat.le_of_eq g20.symm)
      have ne_b3_b20 : b3 ≠ b20 := own_ne A_18.lt g20
      have ne_b11_b20 : b11 ≠ b20 := own_ne V17.lt g20
      have A_21 := A_18.ext E20
      have A_22 := V17.ext E20
      have Z_23 : n0 ≤ h20.size := Nat.le_trans Z_19 E20.1
      have V20 : Arv Z h20 b20 k20 .byte (8 : Int32) [(.int (0 : Int32)), (.int (0 : Int32)), (.int (0 : Int32)), (.int (0 : Int32)), (.int (0 : Int32)), (.int (0 : Int32)), (.int (0 : Int32)), (.int (0 : Int32))] (.int (0 : Int32)) := (Arv.new A20 (by decide)).pad (pad_rep [] (.int (0 : Int32)) 8)
      refine own_astore (n := 115) (l' := #[.val (.int p0), .val (.long q), .second, .val (.int p2), .val (.int cp), .val (.int (0 : Int32)), .val (.int (0 : Int32)), .val (.int q0), .val (.int q1), .val (.int q2), .val (.int q3), .val (.int q4), .val (.ref b3), .val (.ref b11), .val (.ref b20), .unset, .unset, .unset, .unset, .unset, .unset, .unset, .unset, .unset]) X20 hx (hb hby at_113) rfl rfl rfl ?_
      refine own_iconst (n := 116) (z := (0 : Int32)) X20 hx (hb hby at_115) rfl rfl ?_
      refine own_istore (n := 118) (l' := #[.val (.int p0), .val (.long q), .second, .val (.int p2), .val (.int cp), .val (.int (0 : Int32)), .val (.int (0 : Int32)), .val (.int q0), .val (.int q1), .val (.int q2), .val (.int q3), .val (.int q4), .val (.ref b3), .val (.ref b11), .val (.ref b20), .val (.int (0 : Int32)), .unset, .unset, .unset, .unset, .unset, .unset, .unset, .unset]) X20 hx (hb hby at_116) rfl rfl ?_
      refine own_iload (n := 120) X20 hx (hb hby at_118) rfl rfl ?_
      refine own_ifYes (n := 133) X20 hx (hb hby at_120) (teq (by decide : (0 : Int32) = (0 : Int32))).1 (by decide) (by decide) ?_
      refine own_aload (n := 135) X20 hx (hb hby at_133) rfl rfl rfl ?_
      refine own_iload (n := 137) X20 hx (hb hby at_135) rfl rfl ?_
      refine own_iinc (n := 140) (z := (1 : Int32)) (l' := #[.val (.int p0), .val (.long q), .second, .val (.int p2), .val (.int cp), .val (.int (0 : Int32)), .val (.int (0 : Int32)), .val (.int q0), .val (.int q1), .val (.int q2), .val (.int q3), .val (.int q4), .val (.ref b3), .val (.ref b11), .val (.ref b20), .val (.int (1 : Int32)), .unset, .unset, .unset, .unset, .unset, .unset, .unset, .unset]) X20 hx (hb hby at_137) rfl rfl rfl rfl ?_
      refine own_iload (n := 142) X20 hx (hb hby at_140) rfl rfl ?_
      refine own_st_bastore (n := 143) X20 hx hZ e20 V20 ⟨by decide, by decide⟩ 0 rfl (Nat.le_of_ble_eq_true rfl) (hb hby at_142) rfl ?_
      intro T24 h24 X24 e24 W24 V24q
      rw [hN0] at V24q
      have V24 : Arv Z h24 b20 k20 .byte (8 : Int32) [(.int q0), (.int (0 : Int32)), (.int (0 : Int32)), (.int (0 : Int32)), (.int (0 : Int32)), (.int (0 : Int32)), (.int (0 : Int32)), (.int (0 : Int32))] (.int (0 : Int32)) := V24q
      have N24 := Fr.snoc X24 N17 g_b20
      have A_25 := A_21.other W24 ne_b3_b20
      have A_26 := A_22.other W24 ne_b11_b20
      have Z_27 : n0 ≤ h24.size := by rw [W24.size]; exact Z_23
      refine own_aload (n := 145) X24 hx (hb hby at_143) rfl rfl rfl ?_
      refine own_iload (n := 147) X24 hx (hb hby at_145) rfl rfl ?_
      refine own_iinc (n := 150) (z := (2 : Int32)) (l' := #[.val (.int p0), .val (.long q), .second, .val (.int p2), .val (.int cp), .val (.int (0 : Int32)), .val (.int (0 : Int32)), .val (.int q0), .val (.int q1), .val (.int q2), .val (.int q3), .val (.int q4), .val (.ref b3), .val (.ref b11), .val (.ref b20), .val (.int (2 : Int32)), .unset, .unset, .unset, .unset, .unset, .unset, .unset, .unset]) X24 hx (hb hby at_147) rfl rfl rfl rfl ?_
      refine own_iload (n := 152) X24 hx (hb hby at_150) rfl rfl ?_
      refine own_st_bastore (n := 153) X24 hx hZ e24 V24 ⟨by decide, by decide⟩ 1 rfl (Nat.le_of_ble_eq_true rfl) (hb hby at_152) rfl ?_
      intro T28 h28 X28 e28 W28 V28q
      rw [hN1] at V28q
      have V28 : Arv Z h28 b20 k20 .byte (8 : Int32) [(.int q0), (.int q1), (.int (0 : Int32)), (.int (0 : Int32)), (.int (0 : Int32)), (.int (0 : Int32)), (.int (0 : Int32)), (.int (0 : Int32))] (.int (0 : Int32)) := V28q
      have N28 := Fr.snoc X28 N24 g_b20
      have A_29 := A_25.other W28 ne_b3_b20
      have A_30 := A_26.other W28 ne_b11_b20
      have Z_31 : n0 ≤ h28.size := by rw [W28.size]; exact Z_27
      refine own_aload (n := 155) X28 hx (hb hby at_153) rfl rfl rfl ?_
      refine own_iload (n := 157) X28 hx (hb hby at_155) rfl rfl ?_
      refine own_iinc (n := 160) (z := (3 : Int32)) (l' := #[.val (.int p0), .val (.long q), .second, .val (.int p2), .val (.int cp), .val (.int (0 : Int32)), .val (.int (0 : Int32)), .val (.int q0), .val (.int q1), .val (.int q2), .val (.int q3), .val (.int q4), .val (.ref b3), .val (.ref b11), .val (.ref b20), .val (.int (3 : Int32)), .unset, .unset, .unset, .unset, .unset, .unset, .unset, .unset]) X28 hx (hb hby at_157) rfl rfl rfl rfl ?_
      refine own_iload (n := 162) X28 hx (hb hby at_160) rfl rfl ?_
      refine own_st_bastore (n := 163) X28 hx hZ e28 V28 ⟨by decide, by decide⟩ 2 rfl (Nat.le_of_ble_eq_true rfl) (hb hby at_162) rfl ?_
      intro T32 h32 X32 e32 W32 V32q
      rw [hN2] at V32q
      have V32 : Arv Z h32 b20 k20 .byte (8 : Int32) [(.int q0), (.int q1), (.int q2), (.int (0 : Int32)), (.int (0 : Int32)), (.int (0 : Int32)), (.int (0 : Int32)), (.int (0 : Int32))] (.int (0 : Int32)) := V32q
      have N32 := Fr.snoc X32 N28 g_b20
      have A_33 := A_29.other W32 ne_b3_b20
      have A_34 := A_30.other W32 ne_b11_b20
      have Z_35 : n0 ≤ h32.size := by rw [W32.size]; exact Z_31
      refine own_iload (n := 165) X32 hx (hb hby at_163) rfl rfl ?_
      refine own_ifYes (n := 198) X32 hx (hb hby at_165) (teq (by decide : (0 : Int32) = (0 : Int32))).1 (by decide) (by decide) ?_
      refine own_iload (n := 200) X32 hx (hb hby at_198) rfl rfl ?_
      refine own_ifYes (n := 213) X32 hx (hb hby at_200) (teq (by decide : (0 : Int32) = (0 : Int32))).1 (by decide) (by decide) ?_
      refine own_bipush (n := 215) (z := (8 : Int32)) X32 hx (hb hby at_213) rfl rfl ?_
      refine own_newA (n := 217) X32 hx hZ own_an_byte (ww0 hw) e32 (hb hby at_215) (by decide) (cap := 8) (by decide) (by decide) (by decide) (by decide) rfl ?_
      intro T36 h36 k36 b36 g36 X36 e36 E36 A36 B36
      have g_b36 : n0 ≤ b36 := Nat.le_trans Z_35 (Nat.le_of_eq g36.symm)
      have ne_b3_b36 : b3 ≠ b36 := own_ne A_33.lt g36
      have ne_b11_b36 : b11 ≠ b36 := own_ne A_34.lt g36
      have ne_b20_b36 : b20 ≠ b36 := own_ne V32.lt g36
      have A_37 := A_33.ext E36
      have A_38 := A_34.ext E36
      have A_39 := V32.ext E36
      have Z_40 : n0 ≤ h36.size := Nat.le_trans Z_35 E36.1
      have V36 : Arv Z h36 b36 k36 .byte (8 : Int32) [(.int (0 : Int32)), (.int (0 : Int32)), (.int (0 : Int32)), (.int (0 : Int32)), (.int (0 : Int32)), (.int (0 : Int32)), (.int (0 : Int32)), (.int (0 : Int32))] (.int (0 : Int32)) := (Arv.new A36 (by decide)).pad (pad_rep [] (.int (0 : Int32)) 8)
      refine own_astore (n := 219) (l' := #[.val (.int p0), .val (.long q), .second, .val (.int p2), .val (.int cp), .val (.int (0 : Int32)), .val (.int (0 : Int32)), .val (.int q0), .val (.int q1), .val (.int q2), .val (.int q3), .val (.int q4), .val (.ref b3), .val (.ref b11), .val (.ref b20), .val (.int (3 : Int32)), .val (.ref b36), .unset, .unset, .unset, .unset, .unset, .unset, .unset]) X36 hx (hb hby at_217) rfl rfl rfl ?_
      refine own_aload (n := 221) X36 hx (hb hby at_219) rfl rfl rfl ?_
      refine own_iconst (n := 222) (z := (0 : Int32)) X36 hx (hb hby at_221) rfl rfl ?_
      refine own_iload (n := 224) X36 hx (hb hby at_222) rfl rfl ?_
      refine own_st_bastore (n := 225) X36 hx hZ e36 V36 ⟨by decide, by decide⟩ 0 rfl (Nat.le_of_ble_eq_true rfl) (hb hby at_224) rfl ?_
      intro T41 h41 X41 e41 W41 V41q
      rw [hN3] at V41q
      have V41 : Arv Z h41 b36 k36 .byte (8 : Int32) [(.int q3), (.int (0 : Int32)), (.int (0 : Int32)), (.int (0 : Int32)), (.int (0 : Int32)), (.int (0 : Int32)), (.int (0 : Int32)), (.int (0 : Int32))] (.int (0 : Int32)) := V41q
      have N41 := Fr.snoc X41 N32 g_b36
      have A_42 := A_37.other W41 ne_b3_b36
      have A_43 := A_38.other W41 ne_b11_b36
      have A_44 := A_39.other W41 ne_b20_b36
      have Z_45 : n0 ≤ h41.size := by rw [W41.size]; exact Z_40
      refine own_aload (n := 227) X41 hx (hb hby at_225) rfl rfl rfl ?_
      refine own_iconst (n := 228) (z := (1 : Int32)) X41 hx (hb hby at_227) rfl rfl ?_
      refine own_iload (n := 230) X41 hx (hb hby at_228) rfl rfl ?_
      refine own_st_bastore (n := 231) X41 hx hZ e41 V41 ⟨by decide, by decide⟩ 1 rfl (Nat.le_of_ble_eq_true rfl) (hb hby at_230) rfl ?_
      intro T46 h46 X46 e46 W46 V46q
      rw [hN4] at V46q
      have V46 : Arv Z h46 b36 k36 .byte (8 : Int32) [(.int q3), (.int q4), (.int (0 : Int32)), (.int (0 : Int32)), (.int (0 : Int32)), (.int (0 : Int32)), (.int (0 : Int32)), (.int (0 : Int32))] (.int (0 : Int32)) := V46q
      have N46 := Fr.snoc X46 N41 g_b36
      have A_47 := A_42.other W46 ne_b3_b36
      have A_48 := A_43.other W46 ne_b11_b36
      have A_49 := A_44.other W46 ne_b20_b36
      have Z_50 : n0 ≤ h46.size := by rw [W46.size]; exact Z_45
      refine own_new (n := 234) X46 hx hZ hown (ww1 hw) (ww2 hw) (ww3 hw) e46 (hb hby at_231) (by decide) (by decide) rfl ?_
      intro T51 h51 b51 g51 X51 e51 E51 A51 D51
      have g_b51 : n0 ≤ b51 := Nat.le_trans Z_50 (Nat.le_of_eq g51.symm)
      have ne_b3_b51 : b3 ≠ b51 := own_ne A_47.lt g51
      have ne_b11_b51 : b11 ≠ b51 := own_ne A_48.lt g51
      have ne_b20_b51 : b20 ≠ b51 := own_ne A_49.lt g51
      have ne_b36_b51 : b36 ≠ b51 := own_ne V46.lt g51
      have A_52 := A_47.ext E51
      have A_53 := A_48.ext E51
      have A_54 := A_49.ext E51
      have A_55 := V46.ext E51
      have Z_56 : n0 ≤ h51.size := Nat.le_trans Z_50 E51.1
      have F_57 : Fld Z h51 b51 "com/example/doseline/doseline/fhir/JsonWriter" "bytes" "[B" .null := D51 (Or.inl (ww11 hw)) (ty := (.array .byte)) (by decide)
      have F_58 : Fld Z h51 b51 "com/example/doseline/doseline/fhir/JsonWriter" "afterElement" "Z" (.int (0 : Int32)) := D51 (Or.inl (ww26 hw)) (ty := .boolean) (by decide)
      have F_59 : Fld Z h51 b51 "com/example/doseline/doseline/fhir/JsonWriter" "length" "I" (.int (0 : Int32)) := D51 (Or.inl (ww36 hw)) (ty := .int) (by decide)
      refine own_dup (n := 235) X51 hx (hb hby at_234) rfl rfl ?_
      refine own_iload (n := 237) X51 hx (hb hby at_235) rfl rfl ?_
      refine own_I (n := 240) (argsL := [(.int cp)]) (rest := [(.ref b51)]) (a := b51) (by rfl) X51 hx hZ hown (own_rm_init l Z a0 hw b51 cp h51 n0 Z_56 A51 F_57 F_59 F_58 hcap.1 hcap.2.1 g_b51) (ww4 hw) (ww5 hw) (ww3 hw) (ww6 hw) (by decide) e51 (by rw [hml]; rfl) (lenOf own_pd0 rfl) rfl (hb hby at_237) (Nat.le_of_ble_eq_true rfl) (Nat.le_of_ble_eq_true rfl) (Nat.le_of_ble_eq_true rfl) (Nat.le_of_ble_eq_true rfl) rfl ?_
      rintro v60 T60 L60 X60 ⟨y60, k60, rfl, Nq60, K60, Eq60, Fb60, Fl60, Fa60, Vb60, Ec60, sz60, gb60⟩
      have N60 := Fr.app N46 Nq60
      have A_61 := A_52.keep K60 (by simp [ne_b3_b51])
      have A_62 := A_53.keep K60 (by simp [ne_b11_b51])
      have A_63 := A_54.keep K60 (by simp [ne_b20_b51])
      have A_64 := A_55.keep K60 (by simp [ne_b36_b51])
      have E_65 := A51.keep K60
      have Z_66 : n0 ≤ T60.heap.size := Nat.le_trans Z_56 K60.1
      have nr_b3_60 : b3 ≠ y60 := Nat.ne_of_lt (Nat.lt_of_lt_of_le A_52.lt sz60)
      have nr_b11_60 : b11 ≠ y60 := Nat.ne_of_lt (Nat.lt_of_lt_of_le A_53.lt sz60)
      have nr_b20_60 : b20 ≠ y60 := Nat.ne_of_lt (Nat.lt_of_lt_of_le A_54.lt sz60)
      have nr_b36_60 : b36 ≠ y60 := Nat.ne_of_lt (Nat.lt_of_lt_of_le A_55.lt sz60)
      have nr_b51_60 : b51 ≠ y60 := Nat.ne_of_lt (Nat.lt_of_lt_of_le A51.lt sz60)
      have hl60 : (List.replicate (α := Value) cp.toNatClampNeg (.int (0 : Int32))).length + 0 = cp.toNatClampNeg := by rw [List.length_replicate]; rfl
      change own_G p e below _ _ (mkF m 240 _ [(.ref b51)])
      refine own_astore (n := 242) (l' := #[.val (.int p0), .val (.long q), .second, .val (.int p2), .val (.int cp), .val (.int (0 : Int32)), .val (.int (0 : Int32)), .val (.int q0), .val (.int q1), .val (.int q2), .val (.int q3), .val (.int q4), .val (.ref b3), .val (.ref b11), .val (.ref b20), .val (.int (3 : Int32)), .val (.ref b36), .val (.ref b51), .unset, .unset, .unset, .unset, .unset, .unset]) X60 hx (hb hby at_240) rfl rfl rfl ?_
      refine own_iload (n := 244) X60 hx (hb hby at_242) rfl rfl ?_
      refine own_ifYes (n := 252) X60 hx (hb hby at_244) (teq (by decide : (0 : Int32) = (0 : Int32))).1 (by decide) (by decide) ?_
      refine own_aload (n := 254) X60 hx (hb hby at_252) rfl rfl rfl ?_
      refine own_aload (n := 256) X60 hx (hb hby at_254) rfl rfl rfl ?_
      refine own_V (n := 259) (argsL := [(.ref b3)]) (rest := []) (a := b51) X60 hx hZ hown (own_rm_val_0_0_3 l Z a0 hw b51 y60 k60 cp (List.replicate (α := Value) cp.toNatClampNeg (.int (0 : Int32))) b3 k3 q0 q1 q2 T60.heap n0 Z_66 E_65 Fb60 Fl60 Fa60 Vb60 Ec60 hl60 hcap.2.2 g_b51 gb60 A_61 (nr_b3_60)) (ww52 hw) (ww53 hw) (notFace_of_selects (args := #[]) (mvT hZ (ww55 hw))) (ww55 hw) (ww54 hw) (ww3 hw) (ww56 hw) (by decide) rfl E_65 (by rw [hml]; rfl) (lenOf own_pd4 rfl) rfl (hb hby at_256) (Nat.le_of_ble_eq_true rfl) (Nat.le_of_ble_eq_true rfl) (Nat.le_of_ble_eq_true rfl) (Nat.le_of_ble_eq_true rfl) rfl ?_
      rintro v67 T67 L67 X67 ⟨y67, k67, M67, r67, rfl, Nq67, K67, Eq67, Fb67, Fl67, Fa67, Vb67, Ec67, hl67, hN67, hq67, gb67⟩
      have N67 := Fr.app N60 Nq67
      have A_68 := A_61.keep K67 (by simp [ne_b3_b51, nr_b3_60])
      have A_69 := A_62.keep K67 (by simp [ne_b11_b51, nr_b11_60])
      have A_70 := A_63.keep K67 (by simp [ne_b20_b51, nr_b20_60])
      have A_71 := A_64.keep K67 (by simp [ne_b36_b51, nr_b36_60])
      have E_72 := E_65.keep K67
      have E_73 := Ec60.keep K67
      have Z_74 : n0 ≤ T67.heap.size := Nat.le_trans Z_66 K67.1
      have nw_b3_67 : b3 ≠ y67 := own_neOr hq67 nr_b3_60 A_61.lt
      have nw_b11_67 : b11 ≠ y67 := own_neOr hq67 nr_b11_60 A_62.lt
      have nw_b20_67 : b20 ≠ y67 := own_neOr hq67 nr_b20_60 A_63.lt
      have nw_b36_67 : b36 ≠ y67 := own_neOr hq67 nr_b36_60 A_64.lt
      change own_G p e below _ _ (mkF m 259 _ [])
      refine own_iload (n := 261) X67 hx (hb hby at_259) rfl rfl ?_
      refine own_ifYes (n := 271) X67 hx (hb hby at_261) (teq (by decide : (0 : Int32) = (0 : Int32))).1 (by decide) (by decide) ?_
      refine own_iload (n := 273) X67 hx (hb hby at_271) rfl rfl ?_
      refine own_ifYes (n := 281) X67 hx (hb hby at_273) (teq (by decide : (0 : Int32) = (0 : Int32))).1 (by decide) (by decide) ?_
      refine own_aload (n := 283) X67 hx (hb hby at_281) rfl rfl rfl ?_
      refine own_V (n := 286) (argsL := []) (rest := []) (a := b51) X67 hx hZ hown (own_rm_tba_3 l Z a0 hw b51 y67 k67 M67 r67 (1 : Int32) q0 q1 q2 T67.heap n0 Z_74 E_72 Fb67 Fl67 Fa67 Vb67 Ec67 hl67 hN67 g_b51 gb67) (ww71 hw) (ww72 hw) (notFace_of_selects (args := #[]) (mvT hZ (ww74 hw))) (ww74 hw) (ww73 hw) (ww3 hw) (ww75 hw) (by decide) rfl E_72 (by rw [hml]; rfl) (lenOf own_pd5 rfl) rfl (hb hby at_283) (Nat.le_of_ble_eq_true rfl) (Nat.le_of_ble_eq_true rfl) (Nat.le_of_ble_eq_true rfl) (Nat.le_of_ble_eq_true rfl) rfl ?_
      rintro v75 T75 L75 X75 ⟨y75, k75, rfl, Nq75, K75, sz75, gb75, Vb75⟩
      have N75 := Fr.app N67 Nq75
      have A_76 := A_68.keep K75 (by simp)
      have A_77 := A_69.keep K75 (by simp)
      have A_78 := A_70.keep K75 (by simp)
      have A_79 := A_71.keep K75 (by simp)
      have E_80 := E_72.keep K75
      have F_81 := Fb67.keep K75 (by simp)
      have F_82 := Fl67.keep K75 (by simp)
      have F_83 := Fa67.keep K75 (by simp)
      have A_84 := Vb67.keep K75 (by simp)
      have E_85 := Ec67.keep K75
      have Z_86 : n0 ≤ T75.heap.size := Nat.le_trans Z_74 K75.1
      have nr_b3_75 : b3 ≠ y75 := Nat.ne_of_lt (Nat.lt_of_lt_of_le A_68.lt sz75)
      have nr_b11_75 : b11 ≠ y75 := Nat.ne_of_lt (Nat.lt_of_lt_of_le A_69.lt sz75)
      have nr_b20_75 : b20 ≠ y75 := Nat.ne_of_lt (Nat.lt_of_lt_of_le A_70.lt sz75)
      have nr_b36_75 : b36 ≠ y75 := Nat.ne_of_lt (Nat.lt_of_lt_of_le A_71.lt sz75)
      have nr_b51_75 : b51 ≠ y75 := Nat.ne_of_lt (Nat.lt_of_lt_of_le E_72.lt sz75)
      have nr_y67_75 : y67 ≠ y75 := Nat.ne_of_lt (Nat.lt_of_lt_of_le Vb67.lt sz75)
      change own_G p e below _ _ (mkF m 286 _ [(.ref y75)])
      refine own_astore (n := 288) (l' := #[.val (.int p0), .val (.long q), .second, .val (.int p2), .val (.int cp), .val (.int (0 : Int32)), .val (.int (0 : Int32)), .val (.int q0), .val (.int q1), .val (.int q2), .val (.int q3), .val (.int q4), .val (.ref b3), .val (.ref b11), .val (.ref b20), .val (.int (3 : Int32)), .val (.ref b36), .val (.ref b51), .val (.ref y75), .unset, .unset, .unset, .unset, .unset]) X75 hx (hb hby at_286) rfl rfl rfl ?_
      refine own_aload (n := 290) X75 hx (hb hby at_288) rfl rfl rfl ?_
      refine own_aload (n := 292) X75 hx (hb hby at_290) rfl rfl rfl ?_
      refine own_iload (n := 294) X75 hx (hb hby at_292) rfl rfl ?_
      refine own_S (n := 297) (argsL := [(.ref y75), (.ref b20), (.int (3 : Int32))]) (rest := []) X75 hx hZ hown (own_rm_same_3 l Z a0 hw y75 b20 k75 k20 q0 q1 q2 (0 : Int32) (0 : Int32) (0 : Int32) (0 : Int32) (0 : Int32) T75.heap n0 Z_86 Vb75 A_78) (ww76 hw) (ww77 hw) (ww78 hw) (ww79 hw) (by decide) rfl (by rw [hml]; rfl) (lenOf own_pd7 rfl) rfl (hb hby at_294) (Nat.le_of_ble_eq_true rfl) (Nat.le_of_ble_eq_true rfl) (Nat.le_of_ble_eq_true rfl) (Nat.le_of_ble_eq_true rfl) rfl ?_
      rintro v87 T87 L87 X87 ⟨rfl, Nq87, eq87⟩
      have N87 := Fr.app N75 Nq87
      change own_G p e below _ _ (mkF m 297 _ [(.int (1 : Int32))])
      refine own_istore (n := 299) (l' := #[.val (.int p0), .val (.long q), .second, .val (.int p2), .val (.int cp), .val (.int (0 : Int32)), .val (.int (0 : Int32)), .val (.int q0), .val (.int q1), .val (.int q2), .val (.int q3), .val (.int q4), .val (.ref b3), .val (.ref b11), .val (.ref b20), .val (.int (3 : Int32)), .val (.ref b36), .val (.ref b51), .val (.ref y75), .val (.int (1 : Int32)), .unset, .unset, .unset, .unset]) X87 hx (hb hby at_297) rfl rfl ?_
      refine own_aload (n := 301) X87 hx (hb hby at_299) rfl rfl rfl ?_
      refine own_ifnullNo (n := 304) X87 hx (hb hby at_301) rfl ?_
      refine own_aload (n := 306) X87 hx (hb hby at_304) rfl rfl rfl ?_
      refine own_len (n := 307) X87 hx hZ eq87 Vb75 (hb hby at_306) rfl ?_
      refine own_ifNo (n := 310) X87 hx (hb hby at_307) (tlt (by decide : (0 : Int32) < (3 : Int32))).2.2.2 rfl ?_
      refine own_aload (n := 312) X87 hx (hb hby at_310) rfl rfl rfl ?_
      refine own_iconst (n := 313) (z := (0 : Int32)) X87 hx (hb hby at_312) rfl rfl ?_
      refine own_aload (n := 315) X87 hx (hb hby at_313) rfl rfl rfl ?_
      refine own_iconst (n := 316) (z := (0 : Int32)) X87 hx (hb hby at_315) rfl rfl ?_
      refine own_ld_baload (n := 317) (v := (.int q0)) X87 hx hZ eq87 Vb75 ⟨by decide, by decide⟩ rfl (hb hby at_316) rfl ?_
      refine own_iconst (n := 318) (z := (1 : Int32)) X87 hx (hb hby at_317) rfl rfl ?_
      refine own_ixor (n := 319) X87 hx (hb hby at_318) rfl rfl ?_
      refine own_i2b (n := 320) X87 hx (hb hby at_319) rfl rfl ?_
      refine own_st_bastore (n := 321) X87 hx hZ eq87 Vb75 ⟨by decide, by decide⟩ 0 rfl (Nat.le_of_ble_eq_true rfl) (hb hby at_320) rfl ?_
      intro T88 h88 X88 e88 W88 V88q
      have V88 : Arv Z h88 y75 k75 .byte (3 : Int32) [(.int (((q0 ^^^ (1 : Int32))).toInt8.toInt32).toInt8.toInt32), (.int q1), (.int q2)] (.int (0 : Int32)) := V88q
      have N88 := Fr.snoc X88 N87 gb75
      have A_89 := A_76.other W88 nr_b3_75
      have A_90 := A_77.other W88 nr_b11_75
      have A_91 := A_78.other W88 nr_b20_75
      have A_92 := A_79.other W88 nr_b36_75
      have E_93 := E_80.wr W88
      have F_94 := F_81.other W88 (Or.inl nr_b51_75)
      have F_95 := F_82.other W88 (Or.inl nr_b51_75)
      have F_96 := F_83.other W88 (Or.inl nr_b51_75)
      have A_97 := A_84.other W88 nr_y67_75
      have E_98 := E_85.wr W88
      have Z_99 : n0 ≤ h88.size := by rw [W88.size]; exact Z_86
      refine own_aload (n := 323) X88 hx (hb hby at_321) rfl rfl rfl ?_
      refine own_V (n := 326) (argsL := []) (rest := []) (a := b51) X88 hx hZ hown (own_rm_tba_3 l Z a0 hw b51 y67 k67 M67 r67 (1 : Int32) q0 q1 q2 h88 n0 Z_99 E_93 F_94 F_95 F_96 A_97 E_98 hl67 hN67 g_b51 gb67) (ww71 hw) (ww72 hw) (notFace_of_selects (args := #[]) (mvT hZ (ww74 hw))) (ww74 hw) (ww73 hw) (ww3 hw) (ww75 hw) (by decide) e88 E_93 (by rw [hml]; rfl) (lenOf own_pd5 rfl) rfl (hb hby at_323) (Nat.le_of_ble_eq_true rfl) (Nat.le_of_ble_eq_true rfl) (Nat.le_of_ble_eq_true rfl) (Nat.le_of_ble_eq_true rfl) rfl ?_
      rintro v100 T100 L100 X100 ⟨y100, k100, rfl, Nq100, K100, sz100, gb100, Vb100⟩
      have N100 := Fr.app N88 Nq100
      have A_101 := A_89.keep K100 (by simp)
      have A_102 := A_90.keep K100 (by simp)
      have A_103 := A_91.keep K100 (by simp)
      have A_104 := A_92.keep K100 (by simp)
      have E_105 := E_93.keep K100
      have F_106 := F_94.keep K100 (by simp)
      have F_107 := F_95.keep K100 (by simp)
      have F_108 := F_96.keep K100 (by simp)
      have A_109 := A_97.keep K100 (by simp)
      have E_110 := E_98.keep K100
      have A_111 := V88.keep K100 (by simp)
      have Z_112 : n0 ≤ T100.heap.size := Nat.le_trans Z_99 K100.1
      have nr_b3_100 : b3 ≠ y100 := Nat.ne_of_lt (Nat.lt_of_lt_of_le A_89.lt sz100)
      have nr_b11_100 : b11 ≠ y100 := Nat.ne_of_lt (Nat.lt_of_lt_of_le A_90.lt sz100)
      have nr_b20_100 : b20 ≠ y100 := Nat.ne_of_lt (Nat.lt_of_lt_of_le A_91.lt sz100)
      have nr_b36_100 : b36 ≠ y100 := Nat.ne_of_lt (Nat.lt_of_lt_of_le A_92.lt sz100)
      have nr_b51_100 : b51 ≠ y100 := Nat.ne_of_lt (Nat.lt_of_lt_of_le E_93.lt sz100)
      have nr_y67_100 : y67 ≠ y100 := Nat.ne_of_lt (Nat.lt_of_lt_of_le A_97.lt sz100)
      have nr_y75_100 : y75 ≠ y100 := Nat.ne_of_lt (Nat.lt_of_lt_of_le V88.lt sz100)
      change own_G p e below _ _ (mkF m 326 _ [(.ref y100)])
      refine own_astore (n := 328) (l' := #[.val (.int p0), .val (.long q), .second, .val (.int p2), .val (.int cp), .val (.int (0 : Int32)), .val (.int (0 : Int32)), .val (.int q0), .val (.int q1), .val (.int q2), .val (.int q3), .val (.int q4), .val (.ref b3), .val (.ref b11), .val (.ref b20), .val (.int (3 : Int32)), .val (.ref b36), .val (.ref b51), .val (.ref y75), .val (.int (1 : Int32)), .val (.ref y100), .unset, .unset, .unset]) X100 hx (hb hby at_326) rfl rfl rfl ?_
      refine own_aload (n := 330) X100 hx (hb hby at_328) rfl rfl rfl ?_
      refine own_aload (n := 332) X100 hx (hb hby at_330) rfl rfl rfl ?_
      refine own_iload (n := 334) X100 hx (hb hby at_332) rfl rfl ?_
      refine own_S (n := 337) (argsL := [(.ref y100), (.ref b20), (.int (3 : Int32))]) (rest := []) X100 hx hZ hown (own_rm_same_3 l Z a0 hw y100 b20 k100 k20 q0 q1 q2 (0 : Int32) (0 : Int32) (0 : Int32) (0 : Int32) (0 : Int32) T100.heap n0 Z_112 Vb100 A_103) (ww76 hw) (ww77 hw) (ww78 hw) (ww79 hw) (by decide) rfl (by rw [hml]; rfl) (lenOf own_pd7 rfl) rfl (hb hby at_334) (Nat.le_of_ble_eq_true rfl) (Nat.le_of_ble_eq_true rfl) (Nat.le_of_ble_eq_true rfl) (Nat.le_of_ble_eq_true rfl) rfl ?_
      rintro v113 T113 L113 X113 ⟨rfl, Nq113, eq113⟩
      have N113 := Fr.app N100 Nq113
      change own_G p e below _ _ (mkF m 337 _ [(.int (1 : Int32))])
      refine own_istore (n := 339) (l' := #[.val (.int p0), .val (.long q), .second, .val (.int p2), .val (.int cp), .val (.int (0 : Int32)), .val (.int (0 : Int32)), .val (.int q0), .val (.int q1), .val (.int q2), .val (.int q3), .val (.int q4), .val (.ref b3), .val (.ref b11), .val (.ref b20), .val (.int (3 : Int32)), .val (.ref b36), .val (.ref b51), .val (.ref y75), .val (.int (1 : Int32)), .val (.ref y100), .val (.int (1 : Int32)), .unset, .unset]) X113 hx (hb hby at_337) rfl rfl ?_
      refine own_aload (n := 341) X113 hx (hb hby at_339) rfl rfl rfl ?_
      refine own_V (n := 344) (argsL := []) (rest := []) (a := b51) X113 hx hZ hown (own_rm_clear l Z a0 hw b51 y67 (3 : Int32) (1 : Int32) T100.heap n0 Z_112 E_105 F_107 F_108 F_106 g_b51) (ww83 hw) (ww84 hw) (notFace_of_selects (args := #[]) (mvT hZ (ww86 hw))) (ww86 hw) (ww85 hw) (ww3 hw) (ww87 hw) (by decide) eq113 E_105 (by rw [hml]; rfl) (lenOf own_pd1 rfl) rfl (hb hby at_341) (Nat.le_of_ble_eq_true rfl) (Nat.le_of_ble_eq_true rfl) (Nat.le_of_ble_eq_true rfl) (Nat.le_of_ble_eq_true rfl) rfl ?_
      rintro v114 T114 L114 X114 ⟨rfl, Nq114, K114, Eq114, Fb114, Fl114, Fa114⟩
      have N114 := Fr.app N113 Nq114
      have A_115 := A_101.keep K114 (by simp [ne_b3_b51])
      have A_116 := A_102.keep K114 (by simp [ne_b11_b51])
      have A_117 := A_103.keep K114 (by simp [ne_b20_b51])
      have A_118 := A_104.keep K114 (by simp [ne_b36_b51])
      have E_119 := E_105.keep K114
      have A_120 := A_109.keep K114 (by simp [(Ne.symm (own_neEA E_105 (ww2 hw) A_109))])
      have E_121 := E_110.keep K114
      have A_122 := A_111.keep K114 (by simp [(Ne.symm nr_b51_75)])
      have A_123 := Vb100.keep K114 (by simp [(Ne.symm nr_b51_100)])
      have Z_124 : n0 ≤ T114.heap.size := Nat.le_trans Z_112 K114.1
      have hl114 : ((.int q0) :: (.int q1) :: (.int q2) :: r67).length + 0 = M67.toNatClampNeg := by have q := hl67; (try simp only [List.length_cons]); omega
      change own_G p e below _ _ (mkF m 344 _ [])
      refine own_aload (n := 346) X114 hx (hb hby at_344) rfl rfl rfl ?_
      refine own_aload (n := 348) X114 hx (hb hby at_346) rfl rfl rfl ?_
      refine own_V (n := 351) (argsL := [(.ref b11)]) (rest := []) (a := b51) X114 hx hZ hown (own_rm_val_0_0_2 l Z a0 hw b51 y67 k67 M67 ((.int q0) :: (.int q1) :: (.int q2) :: r67) b11 k11 q3 q4 T114.heap n0 Z_124 E_119 Fb114 Fl114 Fa114 A_120 E_121 hl114 hN67 g_b51 gb67 A_116 (nw_b11_67)) (ww52 hw) (ww53 hw) (notFace_of_selects (args := #[]) (mvT hZ (ww55 hw))) (ww55 hw) (ww54 hw) (ww3 hw) (ww56 hw) (by decide) rfl E_119 (by rw [hml]; rfl) (lenOf own_pd4 rfl) rfl (hb hby at_348) (Nat.le_of_ble_eq_true rfl) (Nat.le_of_ble_eq_true rfl) (Nat.le_of_ble_eq_true rfl) (Nat.le_of_ble_eq_true rfl) rfl ?_
      rintro v125 T125 L125 X125 ⟨y125, k125, M125, r125, rfl, Nq125, K125, Eq125, Fb125, Fl125, Fa125, Vb125, Ec125, hl125, hN125, hq125, gb125⟩
      have N125 := Fr.app N114 Nq125
      have A_126 := A_115.keep K125 (by simp [ne_b3_b51, nw_b3_67])
      have A_127 := A_116.keep K125 (by simp [ne_b11_b51, nw_b11_67])
      have A_128 := A_117.keep K125 (by simp [ne_b20_b51, nw_b20_67])
      have A_129 := A_118.keep K125 (by simp [ne_b36_b51, nw_b36_67])
      have E_130 := E_119.keep K125
      have E_131 := E_121.keep K125
      have A_132 := A_122.keep K125 (by simp [(Ne.symm nr_b51_75), (Ne.symm nr_y67_75)])
      have A_133 := A_123.keep K125 (by simp [(Ne.symm nr_b51_100), (Ne.symm nr_y67_100)])
      have Z_134 : n0 ≤ T125.heap.size := Nat.le_trans Z_124 K125.1
      have nw_b3_125 : b3 ≠ y125 := own_neOr hq125 nw_b3_67 A_115.lt
      have nw_b11_125 : b11 ≠ y125 := own_neOr hq125 nw_b11_67 A_116.lt
      have nw_b20_125 : b20 ≠ y125 := own_neOr hq125 nw_b20_67 A_117.lt
      have nw_b36_125 : b36 ≠ y125 := own_neOr hq125 nw_b36_67 A_118.lt
      have nw_y75_125 : y75 ≠ y125 := own_neOr hq125 (Ne.symm nr_y67_75) A_122.lt
      have nw_y100_125 : y100 ≠ y125 := own_neOr hq125 (Ne.symm nr_y67_100) A_123.lt
      change own_G p e below _ _ (mkF m 351 _ [])
      refine own_aload (n := 353) X125 hx (hb hby at_351) rfl rfl rfl ?_
      refine own_V (n := 356) (argsL := []) (rest := []) (a := b51) X125 hx hZ hown (own_rm_tba_2 l Z a0 hw b51 y125 k125 M125 r125 (1 : Int32) q3 q4 T125.heap n0 Z_134 E_130 Fb125 Fl125 Fa125 Vb125 Ec125 hl125 hN125 g_b51 gb125) (ww71 hw) (ww72 hw) (notFace_of_selects (args := #[]) (mvT hZ (ww74 hw))) (ww74 hw) (ww73 hw) (ww3 hw) (ww75 hw) (by decide) rfl E_130 (by rw [hml]; rfl) (lenOf own_pd5 rfl) rfl (hb hby at_353) (Nat.le_of_ble_eq_true rfl) (Nat.le_of_ble_eq_true rfl) (Nat.le_of_ble_eq_true rfl) (Nat.le_of_ble_eq_true rfl) rfl ?_
      rintro v135 T135 L135 X135 ⟨y135, k135, rfl, Nq135, K135, sz135, gb135, Vb135⟩
      have N135 := Fr.app N125 Nq135
      have A_136 := A_126.keep K135 (by simp)
      have A_137 := A_127.keep K135 (by simp)
      have A_138 := A_128.keep K135 (by simp)
      have A_139 := A_129.keep K135 (by simp)
      have E_140 := E_130.keep K135
      have A_141 := A_132.keep K135 (by simp)
      have A_142 := A_133.keep K135 (by simp)
      have F_143 := Fb125.keep K135 (by simp)
      have F_144 := Fl125.keep K135 (by simp)
      have F_145 := Fa125.keep K135 (by simp)
      have A_146 := Vb125.keep K135 (by simp)
      have E_147 := Ec125.keep K135
      have Z_148 : n0 ≤ T135.heap.size := Nat.le_trans Z_134 K135.1
      have nr_b3_135 : b3 ≠ y135 := Nat.ne_of_lt (Nat.lt_of_lt_of_le A_126.lt sz135)
      have nr_b11_135 : b11 ≠ y135 := Nat.ne_of_lt (Nat.lt_of_lt_of_le A_127.lt sz135)
      have nr_b20_135 : b20 ≠ y135 := Nat.ne_of_lt (Nat.lt_of_lt_of_le A_128.lt sz135)
      have nr_b36_135 : b36 ≠ y135 := Nat.ne_of_lt (Nat.lt_of_lt_of_le A_129.lt sz135)
      have nr_b51_135 : b51 ≠ y135 := Nat.ne_of_lt (Nat.lt_of_lt_of_le E_130.lt sz135)
      have nr_y75_135 : y75 ≠ y135 := Nat.ne_of_lt (Nat.lt_of_lt_of_le A_132.lt sz135)
      have nr_y100_135 : y100 ≠ y135 := Nat.ne_of_lt (Nat.lt_of_lt_of_le A_133.lt sz135)
      have nr_y125_135 : y125 ≠ y135 := Nat.ne_of_lt (Nat.lt_of_lt_of_le Vb125.lt sz135)
      change own_G p e below _ _ (mkF m 356 _ [(.ref y135)])
      refine own_astore (n := 358) (l' := #[.val (.int p0), .val (.long q), .second, .val (.int p2), .val (.int cp), .val (.int (0 : Int32)), .val (.int (0 : Int32)), .val (.int q0), .val (.int q1), .val (.int q2), .val (.int q3), .val (.int q4), .val (.ref b3), .val (.ref b11), .val (.ref b20), .val (.int (3 : Int32)), .val (.ref b36), .val (.ref b51), .val (.ref y75), .val (.int (1 : Int32)), .val (.ref y100), .val (.int (1 : Int32)), .val (.ref y135), .unset]) X135 hx (hb hby at_356) rfl rfl rfl ?_
      refine own_aload (n := 360) X135 hx (hb hby at_358) rfl rfl rfl ?_
      refine own_aload (n := 362) X135 hx (hb hby at_360) rfl rfl rfl ?_
      refine own_iconst (n := 363) (z := (2 : Int32)) X135 hx (hb hby at_362) rfl rfl ?_
      refine own_S (n := 366) (argsL := [(.ref y135), (.ref b36), (.int (2 : Int32))]) (rest := []) X135 hx hZ hown (own_rm_same_2 l Z a0 hw y135 b36 k135 k36 q3 q4 (0 : Int32) (0 : Int32) (0 : Int32) (0 : Int32) (0 : Int32) (0 : Int32) T135.heap n0 Z_148 Vb135 A_139) (ww76 hw) (ww77 hw) (ww78 hw) (ww79 hw) (by decide) rfl (by rw [hml]; rfl) (lenOf own_pd7 rfl) rfl (hb hby at_363) (Nat.le_of_ble_eq_true rfl) (Nat.le_of_ble_eq_true rfl) (Nat.le_of_ble_eq_true rfl) (Nat.le_of_ble_eq_true rfl) rfl ?_
      rintro v149 T149 L149 X149 ⟨rfl, Nq149, eq149⟩
      have N149 := Fr.app N135 Nq149
      change own_G p e below _ _ (mkF m 366 _ [(.int (1 : Int32))])
      refine own_istore (n := 368) (l' := #[.val (.int p0), .val (.long q), .second, .val (.int p2), .val (.int cp), .val (.int (0 : Int32)), .val (.int (0 : Int32)), .val (.int q0), .val (.int q1), .val (.int q2), .val (.int q3), .val (.int q4), .val (.ref b3), .val (.ref b11), .val (.ref b20), .val (.int (3 : Int32)), .val (.ref b36), .val (.ref b51), .val (.ref y75), .val (.int (1 : Int32)), .val (.ref y100), .val (.int (1 : Int32)), .val (.ref y135), .val (.int (1 : Int32))]) X149 hx (hb hby at_366) rfl rfl ?_
      refine own_iload (n := 370) X149 hx (hb hby at_368) rfl rfl ?_
      refine own_ifNo (n := 373) X149 hx (hb hby at_370) (feq (by decide : ¬ ((1 : Int32) = (0 : Int32)))).1 rfl ?_
      refine own_iload (n := 375) X149 hx (hb hby at_373) rfl rfl ?_
      refine own_ifNo (n := 378) X149 hx (hb hby at_375) (feq (by decide : ¬ ((1 : Int32) = (0 : Int32)))).1 rfl ?_
      refine own_iload (n := 380) X149 hx (hb hby at_378) rfl rfl ?_
      refine own_ifNo (n := 383) X149 hx (hb hby at_380) (feq (by decide : ¬ ((1 : Int32) = (0 : Int32)))).1 rfl ?_
      refine own_iconst (n := 384) (z := (1 : Int32)) X149 hx (hb hby at_383) rfl rfl ?_
      refine own_goto (n := 388) X149 hx (hb hby at_384) (by decide) (by decide) ?_
      refine own_retZ X149 hx hlk hret (by simp) eq149 (w := (1 : Int32)) rfl (hb hby at_388) (by decide) (by decide) ?_
      exact ⟨rfl, N149⟩
    · skip
      refine own_ifNo (n := 25) X0 hx (hb hby at_22) (feq hc22_2).1 rfl ?_
      refine own_iconst (n := 26) (z := (1 : Int32)) X0 hx (hb hby at_25) rfl rfl ?_
      refine own_goto (n := 30) X0 hx (hb hby at_26) (by decide) (by decide) ?_
      refine own_istore (n := 32) (l' := #[.val (.int p0), .val (.long q), .second, .val (.int p2), .val (.int (p0 &&& (15 : Int32))), .val (.int (0 : Int32)), .val (.int (1 : Int32)), .unset, .unset, .unset, .unset, .unset, .unset, .unset, .unset, .unset, .unset, .unset, .unset, .unset, .unset, .unset, .unset, .unset]) X0 hx (hb hby at_30) rfl rfl ?_
      refine own_lloadN (n := 33) X0 hx (hb hby at_32) rfl rfl ?_
      refine own_l2i (n := 34) X0 hx (hb hby at_33) rfl rfl ?_
      refine own_i2b (n := 35) X0 hx (hb hby at_34) rfl rfl ?_
      refine own_istore (n := 37) (l' := #[.val (.int p0), .val (.long q), .second, .val (.int p2), .val (.int (p0 &&& (15 : Int32))), .val (.int (0 : Int32)), .val (.int (1 : Int32)), .val (.int ((q).toInt32).toInt8.toInt32), .unset, .unset, .unset, .unset, .unset, .unset, .unset, .unset, .unset, .unset, .unset, .unset, .unset, .unset, .unset, .unset]) X0 hx (hb hby at_35) rfl rfl ?_
      refine own_lloadN (n := 38) X0 hx (hb hby at_37) rfl rfl ?_
      refine own_bipush (n := 40) (z := (8 : Int32)) X0 hx (hb hby at_38) rfl rfl ?_
      refine own_lushr (n := 41) X0 hx (hb hby at_40) rfl rfl ?_
      refine own_l2i (n := 42) X0 hx (hb hby at_41) rfl rfl ?_
      refine own_i2b (n := 43) X0 hx (hb hby at_42) rfl rfl ?_
      refine own_istore (n := 45) (l' := #[.val (.int p0), .val (.long q), .second, .val (.int p2), .val (.int (p0 &&& (15 : Int32))), .val (.int (0 : Int32)), .val (.int (1 : Int32)), .val (.int ((q).toInt32).toInt8.toInt32), .val (.int ((((q).toUInt64 >>> ((8 : Int32) &&& 63).toInt64.toUInt64).toInt64).toInt32).toInt8.toInt32), .unset, .unset, .unset, .unset, .unset, .unset, .unset, .unset, .unset, .unset, .unset, .unset, .unset, .unset, .unset]) X0 hx (hb hby at_43) rfl rfl ?_
      refine own_lloadN (n := 46) X0 hx (hb hby at_45) rfl rfl ?_
      refine own_bipush (n := 48) (z := (16 : Int32)) X0 hx (hb hby at_46) rfl rfl ?_
      refine own_lushr (n := 49) X0 hx (hb hby at_48) rfl rfl ?_
      refine own_l2i (n := 50) X0 hx (hb hby at_49) rfl rfl ?_
      refine own_i2b (n := 51) X0 hx (hb hby at_50) rfl rfl ?_
      refine own_istore (n := 53) (l' := #[.val (.int p0), .val (.long q), .second, .val (.int p2), .val (.int (p0 &&& (15 : Int32))), .val (.int (0 : Int32)), .val (.int (1 : Int32)), .val (.int ((q).toInt32).toInt8.toInt32), .val (.int ((((q).toUInt64 >>> ((8 : Int32) &&& 63).toInt64.toUInt64).toInt64).toInt32).toInt8.toInt32), .val (.int ((((q).toUInt64 >>> ((16 : Int32) &&& 63).toInt64.toUInt64).toInt64).toInt32).toInt8.toInt32), .unset, .unset, .unset, .unset, .unset, .unset, .unset, .unset, .unset, .unset, .unset, .unset, .unset, .unset]) X0 hx (hb hby at_51) rfl rfl ?_
      refine own_lloadN (n := 54) X0 hx (hb hby at_53) rfl rfl ?_
      refine own_bipush (n := 56) (z := (24 : Int32)) X0 hx (hb hby at_54) rfl rfl ?_
      refine own_lushr (n := 57) X0 hx (hb hby at_56) rfl rfl ?_
      refine own_l2i (n := 58) X0 hx (hb hby at_57) rfl rfl ?_
      refine own_i2b (n := 59) X0 hx (hb hby at_58) rfl rfl ?_
      refine own_istore (n := 61) (l' := #[.val (.int p0), .val (.long q), .second, .val (.int p2), .val (.int (p0 &&& (15 : Int32))), .val (.int (0 : Int32)), .val (.int (1 : Int32)), .val (.int ((q).toInt32).toInt8.toInt32), .val (.int ((((q).toUInt64 >>> ((8 : Int32) &&& 63).toInt64.toUInt64).toInt64).toInt32).toInt8.toInt32), .val (.int ((((q).toUInt64 >>> ((16 : Int32) &&& 63).toInt64.toUInt64).toInt64).toInt32).toInt8.toInt32), .val (.int ((((q).toUInt64 >>> ((24 : Int32) &&& 63).toInt64.toUInt64).toInt64).toInt32).toInt8.toInt32), .unset, .unset, .unset, .unset, .unset, .unset, .unset, .unset, .unset, .unset, .unset, .unset, .unset]) X0 hx (hb hby at_59) rfl rfl ?_
      refine own_lloadN (n := 62) X0 hx (hb hby at_61) rfl rfl ?_
      refine own_bipush (n := 64) (z := (32 : Int32)) X0 hx (hb hby at_62) rfl rfl ?_
      refine own_lushr (n := 65) X0 hx (hb hby at_64) rfl rfl ?_
      refine own_l2i (n := 66) X0 hx (hb hby at_65) rfl rfl ?_
      refine own_i2b (n := 67) X0 hx (hb hby at_66) rfl rfl ?_
      refine own_istore (n := 69) (l' := #[.val (.int p0), .val (.long q), .second, .val (.int p2), .val (.int (p0 &&& (15 : Int32))), .val (.int (0 : Int32)), .val (.int (1 : Int32)), .val (.int ((q).toInt32).toInt8.toInt32), .val (.int ((((q).toUInt64 >>> ((8 : Int32) &&& 63).toInt64.toUInt64).toInt64).toInt32).toInt8.toInt32), .val (.int ((((q).toUInt64 >>> ((16 : Int32) &&& 63).toInt64.toUInt64).toInt64).toInt32).toInt8.toInt32), .val (.int ((((q).toUInt64 >>> ((24 : Int32) &&& 63).toInt64.toUInt64).toInt64).toInt32).toInt8.toInt32), .val (.int ((((q).toUInt64 >>> ((32 : Int32) &&& 63).toInt64.toUInt64).toInt64).toInt32).toInt8.toInt32), .unset, .unset, .unset, .unset, .unset, .unset, .unset, .unset, .unset, .unset, .unset, .unset]) X0 hx (hb hby at_67) rfl rfl ?_
      have hcap := own_cap p0
      obtain ⟨cp, hcp⟩ : ∃ z, z = (p0 &&& (15 : Int32)) := ⟨_, rfl⟩
      rw [← hcp] at hcap
      rw [← hcp]
      obtain ⟨q0, hq0⟩ : ∃ z, z = ((q).toInt32).toInt8.toInt32 := ⟨_, rfl⟩
      rw [← hq0]
      have hN0 : (q0).toInt8.toInt32 = q0 := by rw [hq0]; exact own_again _
      obtain ⟨q1, hq1⟩ : ∃ z, z = ((((q).toUInt64 >>> ((8 : Int32) &&& 63).toInt64.toUInt64).toInt64).toInt32).toInt8.toInt32 := ⟨_, rfl⟩
      rw [← hq1]
      have hN1 : (q1).toInt8.toInt32 = q1 := by rw [hq1]; exact own_again _
      obtain ⟨q2, hq2⟩ : ∃ z, z = ((((q).toUInt64 >>> ((16 : Int32) &&& 63).toInt64.toUInt64).toInt64).toInt32).toInt8.toInt32 := ⟨_, rfl⟩
      rw [← hq2]
      have hN2 : (q2).toInt8.toInt32 = q2 := by rw [hq2]; exact own_again _
      obtain ⟨q3, hq3⟩ : ∃ z, z = ((((q).toUInt64 >>> ((24 : Int32) &&& 63).toInt64.toUInt64).toInt64).toInt32).toInt8.toInt32 := ⟨_, rfl⟩
      rw [← hq3]
      have hN3 : (q3).toInt8.toInt32 = q3 := by rw [hq3]; exact own_again _
      obtain ⟨q4, hq4⟩ : ∃ z, z = ((((q).toUInt64 >>> ((32 : Int32) &&& 63).toInt64.toUInt64).toInt64).toInt32).toInt8.toInt32 := ⟨_, rfl⟩
      rw [← hq4]
      have hN4 : (q4).toInt8.toInt32 = q4 := by rw [hq4]; exact own_again _
      refine own_iconst (n := 70) (z := (3 : Int32)) X0 hx (hb hby at_69) rfl rfl ?_
      refine own_newA (n := 72) X0 hx hZ own_an_byte (ww0 hw) hE0 (hb hby at_70) (by decide) (cap := 3) (by decide) (by decide) (by decide) (by decide) rfl ?_
      intro T150 h150 k150 b150 g150 X150 e150 E150 A150 B150
      have g_b150 : n0 ≤ b150 := Nat.le_trans Z0 (Nat.le_of_eq g150.symm)
      have Z_151 : n0 ≤ h150.size := Nat.le_trans Z0 E150.1
      have V150 : Arv Z h150 b150 k150 .byte (3 : Int32) [(.int (0 : Int32)), (.int (0 : Int32)), (.int (0 : Int32))] (.int (0 : Int32)) := (Arv.new A150 (by decide)).pad (pad_rep [] (.int (0 : Int32)) 3)
      refine own_astore (n := 74) (l' := #[.val (.int p0), .val (.long q), .second, .val (.int p2), .val (.int cp), .val (.int (0 : Int32)), .val (.int (1 : Int32)), .val (.int q0), .val (.int q1), .val (.int q2), .val (.int q3), .val (.int q4), .val (.ref b150), .unset, .unset, .unset, .unset, .unset, .unset, .unset, .unset, .unset, .unset, .unset]) X150 hx (hb hby at_72) rfl rfl rfl ?_
      refine own_aload (n := 76) X150 hx (hb hby at_74) rfl rfl rfl ?_
      refine own_iconst (n := 77) (z := (0 : Int32)) X150 hx (hb hby at_76) rfl rfl ?_
      refine own_iload (n := 79) X150 hx (hb hby at_77) rfl rfl ?_
      refine own_st_bastore (n := 80) X150 hx hZ e150 V150 ⟨by decide, by decide⟩ 0 rfl (Nat.le_of_ble_eq_true rfl) (hb hby at_79) rfl ?_
      intro T152 h152 X152 e152 W152 V152q
      rw [hN0] at V152q
      have V152 : Arv Z h152 b150 k150 .byte (3 : Int32) [(.int q0), (.int (0 : Int32)), (.int (0 : Int32))] (.int (0 : Int32)) := V152q
      have N152 := Fr.snoc X152 N0 g_b150
      have Z_153 : n0 ≤ h152.size := by rw [W152.size]; exact Z_151
      refine own_aload (n := 82) X152 hx (hb hby at_80) rfl rfl rfl ?_
      refine own_iconst (n := 83) (z := (1 : Int32)) X152 hx (hb hby at_82) rfl rfl ?_
      refine own_iload (n := 85) X152 hx (hb hby at_83) rfl rfl ?_
      refine own_st_bastore (n := 86) X152 hx hZ e152 V152 ⟨by decide, by decide⟩ 1 rfl (Nat.le_of_ble_eq_true rfl) (hb hby at_85) rfl ?_
      intro T154 h154 X154 e154 W154 V154q
      rw [hN1] at V154q
      have V154 : Arv Z h154 b150 k150 .byte (3 : Int32) [(.int q0), (.int q1), (.int (0 : Int32))] (.int (0 : Int32)) := V154q
      have N154 := Fr.snoc X154 N152 g_b150
      have Z_155 : n0 ≤ h154.size := by rw [W154.size]; exact Z_153
      refine own_aload (n := 88) X154 hx (hb hby at_86) rfl rfl rfl ?_
      refine own_iconst (n := 89) (z := (2 : Int32)) X154 hx (hb hby at_88) rfl rfl ?_
      refine own_iload (n := 91) X154 hx (hb hby at_89) rfl rfl ?_
      refine own_st_bastore (n := 92) X154 hx hZ e154 V154 ⟨by decide, by decide⟩ 2 rfl (Nat.le_of_ble_eq_true rfl) (hb hby at_91) rfl ?_
      intro T156 h156 X156 e156 W156 V156q
      rw [hN2] at V156q
      have V156 : Arv Z h156 b150 k150 .byte (3 : Int32) [(.int q0), (.int q1), (.int q2)] (.int (0 : Int32)) := V156q
      have N156 := Fr.snoc X156 N154 g_b150
      have Z_157 : n0 ≤ h156.size := by rw [W156.size]; exact Z_155
      refine own_iconst (n := 93) (z := (2 : Int32)) X156 hx (hb hby at_92) rfl rfl ?_
      refine own_newA (n := 95) X156 hx hZ own_an_byte (ww0 hw) e156 (hb hby at_93) (by decide) (cap := 2) (by decide) (by decide) (by decide) (by decide) rfl ?_
      intro T158 h158 k158 b158 g158 X158 e158 E158 A158 B158
      have g_b158 : n0 ≤ b158 := Nat.le_trans Z_157 (Nat.le_of_eq g158.symm)
      have ne_b150_b158 : b150 ≠ b158 := own_ne V156.lt g158
      have A_159 := V156.ext E158
      have Z_160 : n0 ≤ h158.size := Nat.le_trans Z_157 E158.1
      have V158 : Arv Z h158 b158 k158 .byte (2 : Int32) [(.int (0 : Int32)), (.int (0 : Int32))] (.int (0 : Int32)) := (Arv.new A158 (by decide)).pad (pad_rep [] (.int (0 : Int32)) 2)
      refine own_astore (n := 97) (l' := #[.val (.int p0), .val (.long q), .second, .val (.int p2), .val (.int cp), .val (.int (0 : Int32)), .val (.int (1 : Int32)), .val (.int q0), .val (.int q1), .val (.int q2), .val (.int q3), .val (.int q4), .val (.ref b150), .val (.ref b158), .unset, .unset, .unset, .unset, .unset, .unset, .unset, .unset, .unset, .unset]) X158 hx (hb hby at_95) rfl rfl rfl ?_
      refine own_aload (n := 99) X158 hx (hb hby at_97) rfl rfl rfl ?_
      refine own_iconst (n := 100) (z := (0 : Int32)) X158 hx (hb hby at_99) rfl rfl ?_
      refine own_iload (n := 102) X158 hx (hb hby at_100) rfl rfl ?_
      refine own_st_bastore (n := 103) X158 hx hZ e158 V158 ⟨by decide, by decide⟩ 0 rfl (Nat.le_of_ble_eq_true rfl) (hb hby at_102) rfl ?_
      intro T161 h161 X161 e161 W161 V161q
      rw [hN3] at V161q
      have V161 : Arv Z h161 b158 k158 .byte (2 : Int32) [(.int q3), (.int (0 : Int32))] (.int (0 : Int32)) := V161q
      have N161 := Fr.snoc X161 N156 g_b158
      have A_162 := A_159.other W161 ne_b150_b158
      have Z_163 : n0 ≤ h161.size := by rw [W161.size]; exact Z_160
      refine own_aload (n := 105) X161 hx (hb hby at_103) rfl rfl rfl ?_
      refine own_iconst (n := 106) (z := (1 : Int32)) X161 hx (hb hby at_105) rfl rfl ?_
      refine own_iload (n := 108) X161 hx (hb hby at_106) rfl rfl ?_
      refine own_st_bastore (n := 109) X161 hx hZ e161 V161 ⟨by decide, by decide⟩ 1 rfl (Nat.le_of_ble_eq_true rfl) (hb hby at_108) rfl ?_
      intro T164 h164 X164 e164 W164 V164q
      rw [hN4] at V164q
      have V164 : Arv Z h164 b158 k158 .byte (2 : Int32) [(.int q3), (.int q4)] (.int (0 : Int32)) := V164q
      have N164 := Fr.snoc X164 N161 g_b158
      have A_165 := A_162.other W164 ne_b150_b158
      have Z_166 : n0 ≤ h164.size := by rw [W164.size]; exact Z_163
      refine own_bipush (n := 111) (z := (8 : Int32)) X164 hx (hb hby at_109) rfl rfl ?_
      refine own_newA (n := 113) X164 hx hZ own_an_byte (ww0 hw) e164 (hb hby at_111) (by decide) (cap := 8) (by decide) (by decide) (by decide) (by decide) rfl ?_
      intro T167 h167 k167 b167 g167 X167 e167 E167 A167 B167
      have g_b167 : n0 ≤ b167 := Nat.le_trans Z_166 (Nat.le_of_eq g167.symm)
      have ne_b150_b167 : b150 ≠ b167 := own_ne A_165.lt g167
      have ne_b158_b167 : b158 ≠ b167 := own_ne V164.lt g167
      have A_168 := A_165.ext E167
      have A_169 := V164.ext E167
      have Z_170 : n0 ≤ h167.size := Nat.le_trans Z_166 E167.1
      have V167 : Arv Z h167 b167 k167 .byte (8 : Int32) [(.int (0 : Int32)), (.int (0 : Int32)), (.int (0 : Int32)), (.int (0 : Int32)), (.int (0 : Int32)), (.int (0 : Int32)), (.int (0 : Int32)), (.int (0 : Int32))] (.int (0 : Int32)) := (Arv.new A167 (by decide)).pad (pad_rep [] (.int (0 : Int32)) 8)
      refine own_astore (n := 115) (l' := #[.val (.int p0), .val (.long q), .second, .val (.int p2), .val (.int cp), .val (.int (0 : Int32)), .val (.int (1 : Int32)), .val (.int q0), .val (.int q1), .val (.int q2), .val (.int q3), .val (.int q4), .val (.ref b150), .val (.ref b158), .val (.ref b167), .unset, .unset, .unset, .unset, .unset, .unset, .unset, .unset, .unset]) X167 hx (hb hby at_113) rfl rfl rfl ?_
      refine own_iconst (n := 116) (z := (0 : Int32)) X167 hx (hb hby at_115) rfl rfl ?_
      refine own_istore (n := 118) (l' := #[.val (.int p0), .val (.long q), .second, .val (.int p2), .val (.int cp), .val (.int (0 : Int32)), .val (.int (1 : Int32)), .val (.int q0), .val (.int q1), .val (.int q2), .val (.int q3), .val (.int q4), .val (.ref b150), .val (.ref b158), .val (.ref b167), .val (.int (0 : Int32)), .unset, .unset, .unset, .unset, .unset, .unset, .unset, .unset]) X167 hx (hb hby at_116) rfl rfl ?_
      refine own_iload (n := 120) X167 hx (hb hby at_118) rfl rfl ?_
      refine own_ifYes (n := 133) X167 hx (hb hby at_120) (teq (by decide : (0 : Int32) = (0 : Int32))).1 (by decide) (by decide) ?_
      refine own_aload (n := 135) X167 hx (hb hby at_133) rfl rfl rfl ?_
      refine own_iload (n := 137) X167 hx (hb hby at_135) rfl rfl ?_
      refine own_iinc (n := 140) (z := (1 : Int32)) (l' := #[.val (.int p0), .val (.long q), .second, .val (.int p2), .val (.int cp), .val (.int (0 : Int32)), .val (.int (1 : Int32)), .val (.int q0), .val (.int q1), .val (.int q2), .val (.int q3), .val (.int q4), .val (.ref b150), .val (.ref b158), .val (.ref b167), .val (.int (1 : Int32)), .unset, .unset, .unset, .unset, .unset, .unset, .unset, .unset]) X167 hx (hb hby at_137) rfl rfl rfl rfl ?_
      refine own_iload (n := 142) X167 hx (hb hby at_140) rfl rfl ?_
      refine own_st_bastore (n := 143) X167 hx hZ e167 V167 ⟨by decide, by decide⟩ 0 rfl (Nat.le_of_ble_eq_true rfl) (hb hby at_142) rfl ?_
      intro T171 h171 X171 e171 W171 V171q
      rw [hN0] at V171q
      have V171 : Arv Z h171 b167 k167 .byte (8 : Int32) [(.int q0), (.int (0 : Int32)), (.int (0 : Int32)), (.int (0 : Int32)), (.int (0 : Int32)), (.int (0 : Int32)), (.int (0 : Int32)), (.int (0 : Int32))] (.int (0 : Int32)) := V171q
      have N171 := Fr.snoc X171 N164 g_b167
      have A_172 := A_168.other W171 ne_b150_b167
      have A_173 := A_169.other W171 ne_b158_b167
      have Z_174 : n0 ≤ h171.size := by rw [W171.size]; exact Z_170
      refine own_aload (n := 145) X171 hx (hb hby at_143) rfl rfl rfl ?_
      refine own_iload (n := 147) X171 hx (hb hby at_145) rfl rfl ?_
      refine own_iinc (n := 150) (z := (2 : Int32)) (l' := #[.val (.int p0), .val (.long q), .second, .val (.int p2), .val (.int cp), .val (.int (0 : Int32)), .val (.int (1 : Int32)), .val (.int q0), .val (.int q1), .val (.int q2), .val (.int q3), .val (.int q4), .val (.ref b150), .val (.ref b158), .val (.ref b167), .val (.int (2 : Int32)), .unset, .unset, .unset, .unset, .unset, .unset, .unset, .unset]) X171 hx (hb hby at_147) rfl rfl rfl rfl ?_
      refine own_iload (n := 152) X171 hx (hb hby at_150) rfl rfl ?_
      refine own_st_bastore (n := 153) X171 hx hZ e171 V171 ⟨by decide, by decide⟩ 1 rfl (Nat.le_of_ble_eq_true rfl) (hb hby at_152) rfl ?_
      intro T175 h175 X175 e175 W175 V175q
      rw [hN1] at V175q
      have V175 : Arv Z h175 b167 k167 .byte (8 : Int32) [(.int q0), (.int q1), (.int (0 : Int32)), (.int (0 : Int32)), (.int (0 : Int32)), (.int (0 : Int32)), (.int (0 : Int32)), (.int (0 : Int32))] (.int (0 : Int32)) := V175q
      have N175 := Fr.snoc X175 N171 g_b167
      have A_176 := A_172.other W175 ne_b150_b167
      have A_177 := A_173.other W175 ne_b158_b167
      have Z_178 : n0 ≤ h175.size := by rw [W175.size]; exact Z_174
      refine own_aload (n := 155) X175 hx (hb hby at_153) rfl rfl rfl ?_
      refine own_iload (n := 157) X175 hx (hb hby at_155) rfl rfl ?_
      refine own_iinc (n := 160) (z := (3 : Int32)) (l' := #[.val (.int p0), .val (.long q), .second, .val (.int p2), .val (.int cp), .val (.int (0 : Int32)), .val (.int (1 : Int32)), .val (.int q0), .val (.int q1), .val (.int q2), .val (.int q3), .val (.int q4), .val (.ref b150), .val (.ref b158), .val (.ref b167), .val (.int (3 : Int32)), .unset, .unset, .unset, .unset, .unset, .unset, .unset, .unset]) X175 hx (hb hby at_157) rfl rfl rfl rfl ?_
      refine own_iload (n := 162) X175 hx (hb hby at_160) rfl rfl ?_
      refine own_st_bastore (n := 163) X175 hx hZ e175 V175 ⟨by decide, by decide⟩ 2 rfl (Nat.le_of_ble_eq_true rfl) (hb hby at_162) rfl ?_
      intro T179 h179 X179 e179 W179 V179q
      rw [hN2] at V179q
      have V179 : Arv Z h179 b167 k167 .byte (8 : Int32) [(.int q0), (.int q1), (.int q2), (.int (0 : Int32)), (.int (0 : Int32)), (.int (0 : Int32)), (.int (0 : Int32)), (.int (0 : Int32))] (.int (0 : Int32)) := V179q
      have N179 := Fr.snoc X179 N175 g_b167
      have A_180 := A_176.other W179 ne_b150_b167
      have A_181 := A_177.other W179 ne_b158_b167
      have Z_182 : n0 ≤ h179.size := by rw [W179.size]; exact Z_178
      refine own_iload (n := 165) X179 hx (hb hby at_163) rfl rfl ?_
      refine own_ifNo (n := 168) X179 hx (hb hby at_165) (feq (by decide : ¬ ((1 : Int32) = (0 : Int32)))).1 rfl ?_
      refine own_aload (n := 170) X179 hx (hb hby at_168) rfl rfl rfl ?_
      refine own_iload (n := 172) X179 hx (hb hby at_170) rfl rfl ?_
      refine own_iinc (n := 175) (z := (4 : Int32)) (l' := #[.val (.int p0), .val (.long q), .second, .val (.int p2), .val (.int cp), .val (.int (0 : Int32)), .val (.int (1 : Int32)), .val (.int q0), .val (.int q1), .val (.int q2), .val (.int q3), .val (.int q4), .val (.ref b150), .val (.ref b158), .val (.ref b167), .val (.int (4 : Int32)), .unset, .unset, .unset, .unset, .unset, .unset, .unset, .unset]) X179 hx (hb hby at_172) rfl rfl rfl rfl ?_
      refine own_bipush (n := 177) (z := (44 : Int32)) X179 hx (hb hby at_175) rfl rfl ?_
      refine own_st_bastore (n := 178) X179 hx hZ e179 V179 ⟨by decide, by decide⟩ 3 rfl (Nat.le_of_ble_eq_true rfl) (hb hby at_177) rfl ?_
      intro T183 h183 X183 e183 W183 V183q
      have V183 : Arv Z h183 b167 k167 .byte (8 : Int32) [(.int q0), (.int q1), (.int q2), (.int (44 : Int32)), (.int (0 : Int32)), (.int (0 : Int32)), (.int (0 : Int32)), (.int (0 : Int32))] (.int (0 : Int32)) := V183q
      have N183 := Fr.snoc X183 N179 g_b167
      have A_184 := A_180.other W183 ne_b150_b167
      have A_185 := A_181.other W183 ne_b158_b167
      have Z_186 : n0 ≤ h183.size := by rw [W183.size]; exact Z_182
      refine own_aload (n := 180) X183 hx (hb hby at_178) rfl rfl rfl ?_
      refine own_iload (n := 182) X183 hx (hb hby at_180) rfl rfl ?_
      refine own_iinc (n := 185) (z := (5 : Int32)) (l' := #[.val (.int p0), .val (.long q), .second, .val (.int p2), .val (.int cp), .val (.int (0 : Int32)), .val (.int (1 : Int32)), .val (.int q0), .val (.int q1), .val (.int q2), .val (.int q3), .val (.int q4), .val (.ref b150), .val (.ref b158), .val (.ref b167), .val (.int (5 : Int32)), .unset, .unset, .unset, .unset, .unset, .unset, .unset, .unset]) X183 hx (hb hby at_182) rfl rfl rfl rfl ?_
      refine own_iload (n := 187) X183 hx (hb hby at_185) rfl rfl ?_
      refine own_st_bastore (n := 188) X183 hx hZ e183 V183 ⟨by decide, by decide⟩ 4 rfl (Nat.le_of_ble_eq_true rfl) (hb hby at_187) rfl ?_
      intro T187 h187 X187 e187 W187 V187q
      rw [hN3] at V187q
      have V187 : Arv Z h187 b167 k167 .byte (8 : Int32) [(.int q0), (.int q1), (.int q2), (.int (44 : Int32)), (.int q3), (.int (0 : Int32)), (.int (0 : Int32)), (.int (0 : Int32))] (.int (0 : Int32)) := V187q
      have N187 := Fr.snoc X187 N183 g_b167
      have A_188 := A_184.other W187 ne_b150_b167
      have A_189 := A_185.other W187 ne_b158_b167
      have Z_190 : n0 ≤ h187.size := by rw [W187.size]; exact Z_186
      refine own_aload (n := 190) X187 hx (hb hby at_188) rfl rfl rfl ?_
      refine own_iload (n := 192) X187 hx (hb hby at_190) rfl rfl ?_
      refine own_iinc (n := 195) (z := (6 : Int32)) (l' := #[.val (.int p0), .val (.long q), .second, .val (.int p2), .val (.int cp), .val (.int (0 : Int32)), .val (.int (1 : Int32)), .val (.int q0), .val (.int q1), .val (.int q2), .val (.int q3), .val (.int q4), .val (.ref b150), .val (.ref b158), .val (.ref b167), .val (.int (6 : Int32)), .unset, .unset, .unset, .unset, .unset, .unset, .unset, .unset]) X187 hx (hb hby at_192) rfl rfl rfl rfl ?_
      refine own_iload (n := 197) X187 hx (hb hby at_195) rfl rfl ?_
      refine own_st_bastore (n := 198) X187 hx hZ e187 V187 ⟨by decide, by decide⟩ 5 rfl (Nat.le_of_ble_eq_true rfl) (hb hby at_197) rfl ?_
      intro T191 h191 X191 e191 W191 V191q
      rw [hN4] at V191q
      have V191 : Arv Z h191 b167 k167 .byte (8 : Int32) [(.int q0), (.int q1), (.int q2), (.int (44 : Int32)), (.int q3), (.int q4), (.int (0 : Int32)), (.int (0 : Int32))] (.int (0 : Int32)) := V191q
      have N191 := Fr.snoc X191 N187 g_b167
      have A_192 := A_188.other W191 ne_b150_b167
      have A_193 := A_189.other W191 ne_b158_b167
      have Z_194 : n0 ≤ h191.size := by rw [W191.size]; exact Z_190
      refine own_iload (n := 200) X191 hx (hb hby at_198) rfl rfl ?_
      refine own_ifYes (n := 213) X191 hx (hb hby at_200) (teq (by decide : (0 : Int32) = (0 : Int32))).1 (by decide) (by decide) ?_
      refine own_bipush (n := 215) (z := (8 : Int32)) X191 hx (hb hby at_213) rfl rfl ?_
      refine own_newA (n := 217) X191 hx hZ own_an_byte (ww0 hw) e191 (hb hby at_215) (by decide) (cap := 8) (by decide) (by decide) (by decide) (by decide) rfl ?_
      intro T195 h195 k195 b195 g195 X195 e195 E195 A195 B195
      have g_b195 : n0 ≤ b195 := Nat.le_trans Z_194 (Nat.le_of_eq g195.symm)
      have ne_b150_b195 : b150 ≠ b195 := own_ne A_192.lt g195
      have ne_b158_b195 : b158 ≠ b195 := own_ne A_193.lt g195
      have ne_b167_b195 : b167 ≠ b195 := own_ne V191.lt g195
      have A_196 := A_192.ext E195
      have A_197 := A_193.ext E195
      have A_198 := V191.ext E195
      have Z_199 : n0 ≤ h195.size := Nat.le_trans Z_194 E195.1
      have V195 : Arv Z h195 b195 k195 .byte (8 : Int32) [(.int (0 : Int32)), (.int (0 : Int32)), (.int (0 : Int32)), (.int (0 : Int32)), (.int (0 : Int32)), (.int (0 : Int32)), (.int (0 : Int32)), (.int (0 : Int32))] (.int (0 : Int32)) := (Arv.new A195 (by decide)).pad (pad_rep [] (.int (0 : Int32)) 8)
      refine own_astore (n := 219) (l' := #[.val (.int p0), .val (.long q), .second, .val (.int p2), .val (.int cp), .val (.int (0 : Int32)), .val (.int (1 : Int32)), .val (.int q0), .val (.int q1), .val (.int q2), .val (.int q3), .val (.int q4), .val (.ref b150), .val (.ref b158), .val (.ref b167), .val (.int (6 : Int32)), .val (.ref b195), .unset, .unset, .unset, .unset, .unset, .unset, .unset]) X195 hx (hb hby at_217) rfl rfl rfl ?_
      refine own_aload (n := 221) X195 hx (hb hby at_219) rfl rfl rfl ?_
      refine own_iconst (n := 222) (z := (0 : Int32)) X195 hx (hb hby at_221) rfl rfl ?_
      refine own_iload (n := 224) X195 hx (hb hby at_222) rfl rfl ?_
      refine own_st_bastore (n := 225) X195 hx hZ e195 V195 ⟨by decide, by decide⟩ 0 rfl (Nat.le_of_ble_eq_true rfl) (hb hby at_224) rfl ?_
      intro T200 h200 X200 e200 W200 V200q
      rw [hN3] at V200q
      have V200 : Arv Z h200 b195 k195 .byte (8 : Int32) [(.int q3), (.int (0 : Int32)), (.int (0 : Int32)), (.int (0 : Int32)), (.int (0 : Int32)), (.int (0 : Int32)), (.int (0 : Int32)), (.int (0 : Int32))] (.int (0 : Int32)) := V200q
      have N200 := Fr.snoc X200 N191 g_b195
      have A_201 := A_196.other W200 ne_b150_b195
      have A_202 := A_197.other W200 ne_b158_b195
      have A_203 := A_198.other W200 ne_b167_b195
      have Z_204 : n0 ≤ h200.size := by rw [W200.size]; exact Z_199
      refine own_aload (n := 227) X200 hx (hb hby at_225) rfl rfl rfl ?_
      refine own_iconst (n := 228) (z := (1 : Int32)) X200 hx (hb hby at_227) rfl rfl ?_
      refine own_iload (n := 230) X200 hx (hb hby at_228) rfl rfl ?_
      refine own_st_bastore (n := 231) X200 hx hZ e200 V200 ⟨by decide, by decide⟩ 1 rfl (Nat.le_of_ble_eq_true rfl) (hb hby at_230) rfl ?_
      intro T205 h205 X205 e205 W205 V205q
      rw [hN4] at V205q
      have V205 : Arv Z h205 b195 k195 .byte (8 : Int32) [(.int q3), (.int q4), (.int (0 : Int32)), (.int (0 : Int32)), (.int (0 : Int32)), (.int (0 : Int32)), (.int (0 : Int32)), (.int (0 : Int32))] (.int (0 : Int32)) := V205q
      have N205 := Fr.snoc X205 N200 g_b195
      have A_206 := A_201.other W205 ne_b150_b195
      have A_207 := A_202.other W205 ne_b158_b195
      have A_208 := A_203.other W205 ne_b167_b195
      have Z_209 : n0 ≤ h205.size := by rw [W205.size]; exact Z_204
      refine own_new (n := 234) X205 hx hZ hown (ww1 hw) (ww2 hw) (ww3 hw) e205 (hb hby at_231) (by decide) (by decide) rfl ?_
      intro T210 h210 b210 g210 X210 e210 E210 A210 D210
      have g_b210 : n0 ≤ b210 := Nat.le_trans Z_209 (Nat.le_of_eq g210.symm)
      have ne_b150_b210 : b150 ≠ b210 := own_ne A_206.lt g210
      have ne_b158_b210 : b158 ≠ b210 := own_ne A_207.lt g210
      have ne_b167_b210 : b167 ≠ b210 := own_ne A_208.lt g210
      have ne_b195_b210 : b195 ≠ b210 := own_ne V205.lt g210
      have A_211 := A_206.ext E210
      have A_212 := A_207.ext E210
      have A_213 := A_208.ext E210
      have A_214 := V205.ext E210
      have Z_215 : n0 ≤ h210.size := Nat.le_trans Z_209 E210.1
      have F_216 : Fld Z h210 b210 "com/example/doseline/doseline/fhir/JsonWriter" "bytes" "[B" .null := D210 (Or.inl (ww11 hw)) (ty := (.array .byte)) (by decide)
      have F_217 : Fld Z h210 b210 "com/example/doseline/doseline/fhir/JsonWriter" "afterElement" "Z" (.int (0 : Int32)) := D210 (Or.inl (ww26 hw)) (ty := .boolean) (by decide)
      have F_218 : Fld Z h210 b210 "com/example/doseline/doseline/fhir/JsonWriter" "length" "I" (.int (0 : Int32)) := D210 (Or.inl (ww36 hw)) (ty := .int) (by decide)
      refine own_dup (n := 235) X210 hx (hb hby at_234) rfl rfl ?_
      refine own_iload (n := 237) X210 hx (hb hby at_235) rfl rfl ?_
      refine own_I (n := 240) (argsL := [(.int cp)]) (rest := [(.ref b210)]) (a := b210) (by rfl) X210 hx hZ hown (own_rm_init l Z a0 hw b210 cp h210 n0 Z_215 A210 F_216 F_218 F_217 hcap.1 hcap.2.1 g_b210) (ww4 hw) (ww5 hw) (ww3 hw) (ww6 hw) (by decide) e210 (by rw [hml]; rfl) (lenOf own_pd0 rfl) rfl (hb hby at_237) (Nat.le_of_ble_eq_true rfl) (Nat.le_of_ble_eq_true rfl) (Nat.le_of_ble_eq_true rfl) (Nat.le_of_ble_eq_true rfl) rfl ?_
      rintro v219 T219 L219 X219 ⟨y219, k219, rfl, Nq219, K219, Eq219, Fb219, Fl219, Fa219, Vb219, Ec219, sz219, gb219⟩
      have N219 := Fr.app N205 Nq219
      have A_220 := A_211.keep K219 (by simp [ne_b150_b210])
      have A_221 := A_212.keep K219 (by simp [ne_b158_b210])
      have A_222 := A_213.keep K219 (by simp [ne_b167_b210])
      have A_223 := A_214.keep K219 (by simp [ne_b195_b210])
      have E_224 := A210.keep K219
      have Z_225 : n0 ≤ T219.heap.size := Nat.le_trans Z_215 K219.1
      have nr_b150_219 : b150 ≠ y219 := Nat.ne_of_lt (Nat.lt_of_lt_of_le A_211.lt sz219)
      have nr_b158_219 : b158 ≠ y219 := Nat.ne_of_lt (Nat.lt_of_lt_of_le A_212.lt sz219)
      have nr_b167_219 : b167 ≠ y219 := Nat.ne_of_lt (Nat.lt_of_lt_of_le A_213.lt sz219)
      have nr_b195_219 : b195 ≠ y219 := Nat.ne_of_lt (Nat.lt_of_lt_of_le A_214.lt sz219)
      have nr_b210_219 : b210 ≠ y219 := Nat.ne_of_lt (Nat.lt_of_lt_of_le A210.lt sz219)
      have hl219 : (List.replicate (α := Value) cp.toNatClampNeg (.int (0 : Int32))).length + 0 = cp.toNatClampNeg := by rw [List.length_replicate]; rfl
      change own_G p e below _ _ (mkF m 240 _ [(.ref b210)])
      refine own_astore (n := 242) (l' := #[.val (.int p0), .val (.long q), .second, .val (.int p2), .val (.int cp), .val (.int (0 : Int32)), .val (.int (1 : Int32)), .val (.int q0), .val (.int q1), .val (.int q2), .val (.int q3), .val (.int q4), .val (.ref b150), .val (.ref b158), .val (.ref b167), .val (.int (6 : Int32)), .val (.ref b195), .val (.ref b210), .unset, .unset, .unset, .unset, .unset, .unset]) X219 hx (hb hby at_240) rfl rfl rfl ?_
      refine own_iload (n := 244) X219 hx (hb hby at_242) rfl rfl ?_
      refine own_ifYes (n := 252) X219 hx (hb hby at_244) (teq (by decide : (0 : Int32) = (0 : Int32))).1 (by decide) (by decide) ?_
      refine own_aload (n := 254) X219 hx (hb hby at_252) rfl rfl rfl ?_
      refine own_aload (n := 256) X219 hx (hb hby at_254) rfl rfl rfl ?_
      refine own_V (n := 259) (argsL := [(.ref b150)]) (rest := []) (a := b210) X219 hx hZ hown (own_rm_val_0_0_3 l Z a0 hw b210 y219 k219 cp (List.replicate (α := Value) cp.toNatClampNeg (.int (0 : Int32))) b150 k150 q0 q1 q2 T219.heap n0 Z_225 E_224 Fb219 Fl219 Fa219 Vb219 Ec219 hl219 hcap.2.2 g_b210 gb219 A_220 (nr_b150_219)) (ww52 hw) (ww53 hw) (notFace_of_selects (args := #[]) (mvT hZ (ww55 hw))) (ww55 hw) (ww54 hw) (ww3 hw) (ww56 hw) (by decide) rfl E_224 (by rw [hml]; rfl) (lenOf own_pd4 rfl) rfl (hb hby at_256) (Nat.le_of_ble_eq_true rfl) (Nat.le_of_ble_eq_true rfl) (Nat.le_of_ble_eq_true rfl) (Nat.le_of_ble_eq_true rfl) rfl ?_
      rintro v226 T226 L226 X226 ⟨y226, k226, M226, r226, rfl, Nq226, K226, Eq226, Fb226, Fl226, Fa226, Vb226, Ec226, hl226, hN226, hq226, gb226⟩
      have N226 := Fr.app N219 Nq226
      have A_227 := A_220.keep K226 (by simp [ne_b150_b210, nr_b150_219])
      have A_228 := A_221.keep K226 (by simp [ne_b158_b210, nr_b158_219])
      have A_229 := A_222.keep K226 (by simp [ne_b167_b210, nr_b167_219])
      have A_230 := A_223.keep K226 (by simp [ne_b195_b210, nr_b195_219])
      have E_231 := E_224.keep K226
      have E_232 := Ec219.keep K226
      have Z_233 : n0 ≤ T226.heap.size := Nat.le_trans Z_225 K226.1
      have nw_b150_226 : b150 ≠ y226 := own_neOr hq226 nr_b150_219 A_220.lt
      have nw_b158_226 : b158 ≠ y226 := own_neOr hq226 nr_b158_219 A_221.lt
      have nw_b167_226 : b167 ≠ y226 := own_neOr hq226 nr_b167_219 A_222.lt
      have nw_b195_226 : b195 ≠ y226 := own_neOr hq226 nr_b195_219 A_223.lt
      change own_G p e below _ _ (mkF m 259 _ [])
      refine own_iload (n := 261) X226 hx (hb hby at_259) rfl rfl ?_
      refine own_ifNo (n := 264) X226 hx (hb hby at_261) (feq (by decide : ¬ ((1 : Int32) = (0 : Int32)))).1 rfl ?_
      refine own_aload (n := 266) X226 hx (hb hby at_264) rfl rfl rfl ?_
      refine own_aload (n := 268) X226 hx (hb hby at_266) rfl rfl rfl ?_
      refine own_V (n := 271) (argsL := [(.ref b158)]) (rest := []) (a := b210) X226 hx hZ hown (own_rm_val_3_1_2 l Z a0 hw b210 y226 k226 M226 r226 q0 q1 q2 b158 k158 q3 q4 T226.heap n0 Z_233 E_231 Fb226 Fl226 Fa226 Vb226 Ec226 hl226 hN226 g_b210 gb226 A_228 (nw_b158_226)) (ww52 hw) (ww53 hw) (notFace_of_selects (args := #[]) (mvT hZ (ww55 hw))) (ww55 hw) (ww54 hw) (ww3 hw) (ww56 hw) (by decide) rfl E_231 (by rw [hml]; rfl) (lenOf own_pd4 rfl) rfl (hb hby at_268) (Nat.le_of_ble_eq_true rfl) (Nat.le_of_ble_eq_true rfl) (Nat.le_of_ble_eq_true rfl) (Nat.le_of_ble_eq_true rfl) rfl ?_
      rintro v234 T234 L234 X234 ⟨y234, k234, M234, r234, rfl, Nq234, K234, Eq234, Fb234, Fl234, Fa234, Vb234, Ec234, hl234, hN234, hq234, gb234⟩
      have N234 := Fr.app N226 Nq234
      have A_235 := A_227.keep K234 (by simp [ne_b150_b210, nw_b150_226])
      have A_236 := A_228.keep K234 (by simp [ne_b158_b210, nw_b158_226])
      have A_237 := A_229.keep K234 (by simp [ne_b167_b210, nw_b167_226])
      have A_238 := A_230.keep K234 (by simp [ne_b195_b210, nw_b195_226])
      have E_239 := E_231.keep K234
      have E_240 := Ec226.keep K234
      have Z_241 : n0 ≤ T234.heap.size := Nat.le_trans Z_233 K234.1
      have nw_b150_234 : b150 ≠ y234 := own_neOr hq234 nw_b150_226 A_227.lt
      have nw_b158_234 : b158 ≠ y234 := own_neOr hq234 nw_b158_226 A_228.lt
      have nw_b167_234 : b167 ≠ y234 := own_neOr hq234 nw_b167_226 A_229.lt
      have nw_b195_234 : b195 ≠ y234 := own_neOr hq234 nw_b195_226 A_230.lt
      change own_G p e below _ _ (mkF m 271 _ [])
      refine own_iload (n := 273) X234 hx (hb hby at_271) rfl rfl ?_
      refine own_ifYes (n := 281) X234 hx (hb hby at_273) (teq (by decide : (0 : Int32) = (0 : Int32))).1 (by decide) (by decide) ?_
      refine own_aload (n := 283) X234 hx (hb hby at_281) rfl rfl rfl ?_
      refine own_V (n := 286) (argsL := []) (rest := []) (a := b210) X234 hx hZ hown (own_rm_tba_6 l Z a0 hw b210 y234 k234 M234 r234 (1 : Int32) q0 q1 q2 (44 : Int32) q3 q4 T234.heap n0 Z_241 E_239 Fb234 Fl234 Fa234 Vb234 Ec234 hl234 hN234 g_b210 gb234) (ww71 hw) (ww72 hw) (notFace_of_selects (args := #[]) (mvT hZ (ww74 hw))) (ww74 hw) (ww73 hw) (ww3 hw) (ww75 hw) (by decide) rfl E_239 (by rw [hml]; rfl) (lenOf own_pd5 rfl) rfl (hb hby at_283) (Nat.le_of_ble_eq_true rfl) (Nat.le_of_ble_eq_true rfl) (Nat.le_of_ble_eq_true rfl) (Nat.le_of_ble_eq_true rfl) rfl ?_
      rintro v242 T242 L242 X242 ⟨y242, k242, rfl, Nq242, K242, sz242, gb242, Vb242⟩
      have N242 := Fr.app N234 Nq242
      have A_243 := A_235.keep K242 (by simp)
      have A_244 := A_236.keep K242 (by simp)
      have A_245 := A_237.keep K242 (by simp)
      have A_246 := A_238.keep K242 (by simp)
      have E_247 := E_239.keep K242
      have F_248 := Fb234.keep K242 (by simp)
      have F_249 := Fl234.keep K242 (by simp)
      have F_250 := Fa234.keep K242 (by simp)
      have A_251 := Vb234.keep K242 (by simp)
      have E_252 := Ec234.keep K242
      have Z_253 : n0 ≤ T242.heap.size := Nat.le_trans Z_241 K242.1
      have nr_b150_242 : b150 ≠ y242 := Nat.ne_of_lt (Nat.lt_of_lt_of_le A_235.lt sz242)
      have nr_b158_242 : b158 ≠ y242 := Nat.ne_of_lt (Nat.lt_of_lt_of_le A_236.lt sz242)
      have nr_b167_242 : b167 ≠ y242 := Nat.ne_of_lt (Nat.lt_of_lt_of_le A_237.lt sz242)
      have nr_b195_242 : b195 ≠ y242 := Nat.ne_of_lt (Nat.lt_of_lt_of_le A_238.lt sz242)
      have nr_b210_242 : b210 ≠ y242 := Nat.ne_of_lt (Nat.lt_of_lt_of_le E_239.lt sz242)
      have nr_y234_242 : y234 ≠ y242 := Nat.ne_of_lt (Nat.lt_of_lt_of_le Vb234.lt sz242)
      change own_G p e below _ _ (mkF m 286 _ [(.ref y242)])
      refine own_astore (n := 288) (l' := #[.val (.int p0), .val (.long q), .second, .val (.int p2), .val (.int cp), .val (.int (0 : Int32)), .val (.int (1 : Int32)), .val (.int q0), .val (.int q1), .val (.int q2), .val (.int q3), .val (.int q4), .val (.ref b150), .val (.ref b158), .val (.ref b167), .val (.int (6 : Int32)), .val (.ref b195), .val (.ref b210), .val (.ref y242), .unset, .unset, .unset, .unset, .unset]) X242 hx (hb hby at_286) rfl rfl rfl ?_
      refine own_aload (n := 290) X242 hx (hb hby at_288) rfl rfl rfl ?_
      refine own_aload (n := 292) X242 hx (hb hby at_290) rfl rfl rfl ?_
      refine own_iload (n := 294) X242 hx (hb hby at_292) rfl rfl ?_
      refine own_S (n := 297) (argsL := [(.ref y242), (.ref b167), (.int (6 : Int32))]) (rest := []) X242 hx hZ hown (own_rm_same_6 l Z a0 hw y242 b167 k242 k167 q0 q1 q2 (44 : Int32) q3 q4 (0 : Int32) (0 : Int32) T242.heap n0 Z_253 Vb242 A_245) (ww76 hw) (ww77 hw) (ww78 hw) (ww79 hw) (by decide) rfl (by rw [hml]; rfl) (lenOf own_pd7 rfl) rfl (hb hby at_294) (Nat.le_of_ble_eq_true rfl) (Nat.le_of_ble_eq_true rfl) (Nat.le_of_ble_eq_true rfl) (Nat.le_of_ble_eq_true rfl) rfl ?_
      rintro v254 T254 L254 X254 ⟨rfl, Nq254, eq254⟩
      have N254 := Fr.app N242 Nq254
      change own_G p e below _ _ (mkF m 297 _ [(.int (1 : Int32))])
      refine own_istore (n := 299) (l' := #[.val (.int p0), .val (.long q), .second, .val (.int p2), .val (.int cp), .val (.int (0 : Int32)), .val (.int (1 : Int32)), .val (.int q0), .val (.int q1), .val (.int q2), .val (.int q3), .val (.int q4), .val (.ref b150), .val (.ref b158), .val (.ref b167), .val (.int (6 : Int32)), .val (.ref b195), .val (.ref b210), .val (.ref y242), .val (.int (1 : Int32)), .unset, .unset, .unset, .unset]) X254 hx (hb hby at_297) rfl rfl ?_
      refine own_aload (n := 301) X254 hx (hb hby at_299) rfl rfl rfl ?_
      refine own_ifnullNo (n := 304) X254 hx (hb hby at_301) rfl ?_
      refine own_aload (n := 306) X254 hx (hb hby at_304) rfl rfl rfl ?_
      refine own_len (n := 307) X254 hx hZ eq254 Vb242 (hb hby at_306) rfl ?_
      refine own_ifNo (n := 310) X254 hx (hb hby at_307) (tlt (by decide : (0 : Int32) < (6 : Int32))).2.2.2 rfl ?_
      refine own_aload (n := 312) X254 hx (hb hby at_310) rfl rfl rfl ?_
      refine own_iconst (n := 313) (z := (0 : Int32)) X254 hx (hb hby at_312) rfl rfl ?_
      refine own_aload (n := 315) X254 hx (hb hby at_313) rfl rfl rfl ?_
      refine own_iconst (n := 316) (z := (0 : Int32)) X254 hx (hb hby at_315) rfl rfl ?_
      refine own_ld_baload (n := 317) (v := (.int q0)) X254 hx hZ eq254 Vb242 ⟨by decide, by decide⟩ rfl (hb hby at_316) rfl ?_
      refine own_iconst (n := 318) (z := (1 : Int32)) X254 hx (hb hby at_317) rfl rfl ?_
      refine own_ixor (n := 319) X254 hx (hb hby at_318) rfl rfl ?_
      refine own_i2b (n := 320) X254 hx (hb hby at_319) rfl rfl ?_
      refine own_st_bastore (n := 321) X254 hx hZ eq254 Vb242 ⟨by decide, by decide⟩ 0 rfl (Nat.le_of_ble_eq_true rfl) (hb hby at_320) rfl ?_
      intro T255 h255 X255 e255 W255 V255q
      have V255 : Arv Z h255 y242 k242 .byte (6 : Int32) [(.int (((q0 ^^^ (1 : Int32))).toInt8.toInt32).toInt8.toInt32), (.int q1), (.int q2), (.int (44 : Int32)), (.int q3), (.int q4)] (.int (0 : Int32)) := V255q
      have N255 := Fr.snoc X255 N254 gb242
      have A_256 := A_243.other W255 nr_b150_242
      have A_257 := A_244.other W255 nr_b158_242
      have A_258 := A_245.other W255 nr_b167_242
      have A_259 := A_246.other W255 nr_b195_242
      have E_260 := E_247.wr W255
      have F_261 := F_248.other W255 (Or.inl nr_b210_242)
      have F_262 := F_249.other W255 (Or.inl nr_b210_242)
      have F_263 := F_250.other W255 (Or.inl nr_b210_242)
      have A_264 := A_251.other W255 nr_y234_242
      have E_265 := E_252.wr W255
      have Z_266 : n0 ≤ h255.size := by rw [W255.size]; exact Z_253
      refine own_aload (n := 323) X255 hx (hb hby at_321) rfl rfl rfl ?_
      refine own_V (n := 326) (argsL := []) (rest := []) (a := b210) X255 hx hZ hown (own_rm_tba_6 l Z a0 hw b210 y234 k234 M234 r234 (1 : Int32) q0 q1 q2 (44 : Int32) q3 q4 h255 n0 Z_266 E_260 F_261 F_262 F_263 A_264 E_265 hl234 hN234 g_b210 gb234) (ww71 hw) (ww72 hw) (notFace_of_selects (args := #[]) (mvT hZ (ww74 hw))) (ww74 hw) (ww73 hw) (ww3 hw) (ww75 hw) (by decide) e255 E_260 (by rw [hml]; rfl) (lenOf own_pd5 rfl) rfl (hb hby at_323) (Nat.le_of_ble_eq_true rfl) (Nat.le_of_ble_eq_true rfl) (Nat.le_of_ble_eq_true rfl) (Nat.le_of_ble_eq_true rfl) rfl ?_
      rintro v267 T267 L267 X267 ⟨y267, k267, rfl, Nq267, K267, sz267, gb267, Vb267⟩
      have N267 := Fr.app N255 Nq267
      have A_268 := A_256.keep K267 (by simp)
      have A_269 := A_257.keep K267 (by simp)
      have A_270 := A_258.keep K267 (by simp)
      have A_271 := A_259.keep K267 (by simp)
      have E_272 := E_260.keep K267
      have F_273 := F_261.keep K267 (by simp)
      have F_274 := F_262.keep K267 (by simp)
      have F_275 := F_263.keep K267 (by simp)
      have A_276 := A_264.keep K267 (by simp)
      have E_277 := E_265.keep K267
      have A_278 := V255.keep K267 (by simp)
      have Z_279 : n0 ≤ T267.heap.size := Nat.le_trans Z_266 K267.1
      have nr_b150_267 : b150 ≠ y267 := Nat.ne_of_lt (Nat.lt_of_lt_of_le A_256.lt sz267)
      have nr_b158_267 : b158 ≠ y267 := Nat.ne_of_lt (Nat.lt_of_lt_of_le A_257.lt sz267)
      have nr_b167_267 : b167 ≠ y267 := Nat.ne_of_lt (Nat.lt_of_lt_of_le A_258.lt sz267)
      have nr_b195_267 : b195 ≠ y267 := Nat.ne_of_lt (Nat.lt_of_lt_of_le A_259.lt sz267)
      have nr_b210_267 : b210 ≠ y267 := Nat.ne_of_lt (Nat.lt_of_lt_of_le E_260.lt sz267)
      have nr_y234_267 : y234 ≠ y267 := Nat.ne_of_lt (Nat.lt_of_lt_of_le A_264.lt sz267)
      have nr_y242_267 : y242 ≠ y267 := Nat.ne_of_lt (Nat.lt_of_lt_of_le V255.lt sz267)
      change own_G p e below _ _ (mkF m 326 _ [(.ref y267)])
      refine own_astore (n := 328) (l' := #[.val (.int p0), .val (.long q), .second, .val (.int p2), .val (.int cp), .val (.int (0 : Int32)), .val (.int (1 : Int32)), .val (.int q0), .val (.int q1), .val (.int q2), .val (.int q3), .val (.int q4), .val (.ref b150), .val (.ref b158), .val (.ref b167), .val (.int (6 : Int32)), .val (.ref b195), .val (.ref b210), .val (.ref y242), .val (.int (1 : Int32)), .val (.ref y267), .unset, .unset, .unset]) X267 hx (hb hby at_326) rfl rfl rfl ?_
      refine own_aload (n := 330) X267 hx (hb hby at_328) rfl rfl rfl ?_
      refine own_aload (n := 332) X267 hx (hb hby at_330) rfl rfl rfl ?_
      refine own_iload (n := 334) X267 hx (hb hby at_332) rfl rfl ?_
      refine own_S (n := 337) (argsL := [(.ref y267), (.ref b167), (.int (6 : Int32))]) (rest := []) X267 hx hZ hown (own_rm_same_6 l Z a0 hw y267 b167 k267 k167 q0 q1 q2 (44 : Int32) q3 q4 (0 : Int32) (0 : Int32) T267.heap n0 Z_279 Vb267 A_270) (ww76 hw) (ww77 hw) (ww78 hw) (ww79 hw) (by decide) rfl (by rw [hml]; rfl) (lenOf own_pd7 rfl) rfl (hb hby at_334) (Nat.le_of_ble_eq_true rfl) (Nat.le_of_ble_eq_true rfl) (Nat.le_of_ble_eq_true rfl) (Nat.le_of_ble_eq_true rfl) rfl ?_
      rintro v280 T280 L280 X280 ⟨rfl, Nq280, eq280⟩
      have N280 := Fr.app N267 Nq280
      change own_G p e below _ _ (mkF m 337 _ [(.int (1 : Int32))])
      refine own_istore (n := 339) (l' := #[.val (.int p0), .val (.long q), .second, .val (.int p2), .val (.int cp), .val (.int (0 : Int32)), .val (.int (1 : Int32)), .val (.int q0), .val (.int q1), .val (.int q2), .val (.int q3), .val (.int q4), .val (.ref b150), .val (.ref b158), .val (.ref b167), .val (.int (6 : Int32)), .val (.ref b195), .val (.ref b210), .val (.ref y242), .val (.int (1 : Int32)), .val (.ref y267), .val (.int (1 : Int32)), .unset, .unset]) X280 hx (hb hby at_337) rfl rfl ?_
      refine own_aload (n := 341) X280 hx (hb hby at_339) rfl rfl rfl ?_
      refine own_V (n := 344) (argsL := []) (rest := []) (a := b210) X280 hx hZ hown (own_rm_clear l Z a0 hw b210 y234 (6 : Int32) (1 : Int32) T267.heap n0 Z_279 E_272 F_274 F_275 F_273 g_b210) (ww83 hw) (ww84 hw) (notFace_of_selects (args := #[]) (mvT hZ (ww86 hw))) (ww86 hw) (ww85 hw) (ww3 hw) (ww87 hw) (by decide) eq280 E_272 (by rw [hml]; rfl) (lenOf own_pd1 rfl) rfl (hb hby at_341) (Nat.le_of_ble_eq_true rfl) (Nat.le_of_ble_eq_true rfl) (Nat.le_of_ble_eq_true rfl) (Nat.le_of_ble_eq_true rfl) rfl ?_
      rintro v281 T281 L281 X281 ⟨rfl, Nq281, K281, Eq281, Fb281, Fl281, Fa281⟩
      have N281 := Fr.app N280 Nq281
      have A_282 := A_268.keep K281 (by simp [ne_b150_b210])
      have A_283 := A_269.keep K281 (by simp [ne_b158_b210])
      have A_284 := A_270.keep K281 (by simp [ne_b167_b210])
      have A_285 := A_271.keep K281 (by simp [ne_b195_b210])
      have E_286 := E_272.keep K281
      have A_287 := A_276.keep K281 (by simp [(Ne.symm (own_neEA E_272 (ww2 hw) A_276))])
      have E_288 := E_277.keep K281
      have A_289 := A_278.keep K281 (by simp [(Ne.symm nr_b210_242)])
      have A_290 := Vb267.keep K281 (by simp [(Ne.symm nr_b210_267)])
      have Z_291 : n0 ≤ T281.heap.size := Nat.le_trans Z_279 K281.1
      have hl281 : ((.int q0) :: (.int q1) :: (.int q2) :: (.int (44 : Int32)) :: (.int q3) :: (.int q4) :: r234).length + 0 = M234.toNatClampNeg := by have q := hl234; (try simp only [List.length_cons]); omega
      change own_G p e below _ _ (mkF m 344 _ [])
      refine own_aload (n := 346) X281 hx (hb hby at_344) rfl rfl rfl ?_
      refine own_aload (n := 348) X281 hx (hb hby at_346) rfl rfl rfl ?_
      refine own_V (n := 351) (argsL := [(.ref b158)]) (rest := []) (a := b210) X281 hx hZ hown (own_rm_val_0_0_2 l Z a0 hw b210 y234 k234 M234 ((.int q0) :: (.int q1) :: (.int q2) :: (.int (44 : Int32)) :: (.int q3) :: (.int q4) :: r234) b158 k158 q3 q4 T281.heap n0 Z_291 E_286 Fb281 Fl281 Fa281 A_287 E_288 hl281 hN234 g_b210 gb234 A_283 (nw_b158_234)) (ww52 hw) (ww53 hw) (notFace_of_selects (args := #[]) (mvT hZ (ww55 hw))) (ww55 hw) (ww54 hw) (ww3 hw) (ww56 hw) (by decide) rfl E_286 (by rw [hml]; rfl) (lenOf own_pd4 rfl) rfl (hb hby at_348) (Nat.le_of_ble_eq_true rfl) (Nat.le_of_ble_eq_true rfl) (Nat.le_of_ble_eq_true rfl) (Nat.le_of_ble_eq_true rfl) rfl ?_
      rintro v292 T292 L292 X292 ⟨y292, k292, M292, r292, rfl, Nq292, K292, Eq292, Fb292, Fl292, Fa292, Vb292, Ec292, hl292, hN292, hq292, gb292⟩
      have N292 := Fr.app N281 Nq292
      have A_293 := A_282.keep K292 (by simp [ne_b150_b210, nw_b150_234])
      have A_294 := A_283.keep K292 (by simp [ne_b158_b210, nw_b158_234])
      have A_295 := A_284.keep K292 (by simp [ne_b167_b210, nw_b167_234])
      have A_296 := A_285.keep K292 (by simp [ne_b195_b210, nw_b195_234])
      have E_297 := E_286.keep K292
      have E_298 := E_288.keep K292
      have A_299 := A_289.keep K292 (by simp [(Ne.symm nr_b210_242), (Ne.symm nr_y234_242)])
      have A_300 := A_290.keep K292 (by simp [(Ne.symm nr_b210_267), (Ne.symm nr_y234_267)])
      have Z_301 : n0 ≤ T292.heap.size := Nat.le_trans Z_291 K292.1
      have nw_b150_292 : b150 ≠ y292 := own_neOr hq292 nw_b150_234 A_282.lt
      have nw_b158_292 : b158 ≠ y292 := own_neOr hq292 nw_b158_234 A_283.lt
      have nw_b167_292 : b167 ≠ y292 := own_neOr hq292 nw_b167_234 A_284.lt
      have nw_b195_292 : b195 ≠ y292 := own_neOr hq292 nw_b195_234 A_285.lt
      have nw_y242_292 : y242 ≠ y292 := own_neOr hq292 (Ne.symm nr_y234_242) A_289.lt
      have nw_y267_292 : y267 ≠ y292 := own_neOr hq292 (Ne.symm nr_y234_267) A_290.lt
      change own_G p e below _ _ (mkF m 351 _ [])
      refine own_aload (n := 353) X292 hx (hb hby at_351) rfl rfl rfl ?_
      refine own_V (n := 356) (argsL := []) (rest := []) (a := b210) X292 hx hZ hown (own_rm_tba_2 l Z a0 hw b210 y292 k292 M292 r292 (1 : Int32) q3 q4 T292.heap n0 Z_301 E_297 Fb292 Fl292 Fa292 Vb292 Ec292 hl292 hN292 g_b210 gb292) (ww71 hw) (ww72 hw) (notFace_of_selects (args := #[]) (mvT hZ (ww74 hw))) (ww74 hw) (ww73 hw) (ww3 hw) (ww75 hw) (by decide) rfl E_297 (by rw [hml]; rfl) (lenOf own_pd5 rfl) rfl (hb hby at_353) (Nat.le_of_ble_eq_true rfl) (Nat.le_of_ble_eq_true rfl) (Nat.le_of_ble_eq_true rfl) (Nat.le_of_ble_eq_true rfl) rfl ?_
      rintro v302 T302 L302 X302 ⟨y302, k302, rfl, Nq302, K302, sz302, gb302, Vb302⟩
      have N302 := Fr.app N292 Nq302
      have A_303 := A_293.keep K302 (by simp)
      have A_304 := A_294.keep K302 (by simp)
      have A_305 := A_295.keep K302 (by simp)
      have A_306 := A_296.keep K302 (by simp)
      have E_307 := E_297.keep K302
      have A_308 := A_299.keep K302 (by simp)
      have A_309 := A_300.keep K302 (by simp)
      have F_310 := Fb292.keep K302 (by simp)
      have F_311 := Fl292.keep K302 (by simp)
      have F_312 := Fa292.keep K302 (by simp)
      have A_313 := Vb292.keep K302 (by simp)
      have E_314 := Ec292.keep K302
      have Z_315 : n0 ≤ T302.heap.size := Nat.le_trans Z_301 K302.1
      have nr_b150_302 : b150 ≠ y302 := Nat.ne_of_lt (Nat.lt_of_lt_of_le A_293.lt sz302)
      have nr_b158_302 : b158 ≠ y302 := Nat.ne_of_lt (Nat.lt_of_lt_of_le A_294.lt sz302)
      have nr_b167_302 : b167 ≠ y302 := Nat.ne_of_lt (Nat.lt_of_lt_of_le A_295.lt sz302)
      have nr_b195_302 : b195 ≠ y302 := Nat.ne_of_lt (Nat.lt_of_lt_of_le A_296.lt sz302)
      have nr_b210_302 : b210 ≠ y302 := Nat.ne_of_lt (Nat.lt_of_lt_of_le E_297.lt sz302)
      have nr_y242_302 : y242 ≠ y302 := Nat.ne_of_lt (Nat.lt_of_lt_of_le A_299.lt sz302)
      have nr_y267_302 : y267 ≠ y302 := Nat.ne_of_lt (Nat.lt_of_lt_of_le A_300.lt sz302)
      have nr_y292_302 : y292 ≠ y302 := Nat.ne_of_lt (Nat.lt_of_lt_of_le Vb292.lt sz302)
      change own_G p e below _ _ (mkF m 356 _ [(.ref y302)])
      refine own_astore (n := 358) (l' := #[.val (.int p0), .val (.long q), .second, .val (.int p2), .val (.int cp), .val (.int (0 : Int32)), .val (.int (1 : Int32)), .val (.int q0), .val (.int q1), .val (.int q2), .val (.int q3), .val (.int q4), .val (.ref b150), .val (.ref b158), .val (.ref b167), .val (.int (6 : Int32)), .val (.ref b195), .val (.ref b210), .val (.ref y242), .val (.int (1 : Int32)), .val (.ref y267), .val (.int (1 : Int32)), .val (.ref y302), .unset]) X302 hx (hb hby at_356) rfl rfl rfl ?_
      refine own_aload (n := 360) X302 hx (hb hby at_358) rfl rfl rfl ?_
      refine own_aload (n := 362) X302 hx (hb hby at_360) rfl rfl rfl ?_
      refine own_iconst (n := 363) (z := (2 : Int32)) X302 hx (hb hby at_362) rfl rfl ?_
      refine own_S (n := 366) (argsL := [(.ref y302), (.ref b195), (.int (2 : Int32))]) (rest := []) X302 hx hZ hown (own_rm_same_2 l Z a0 hw y302 b195 k302 k195 q3 q4 (0 : Int32) (0 : Int32) (0 : Int32) (0 : Int32) (0 : Int32) (0 : Int32) T302.heap n0 Z_315 Vb302 A_306) (ww76 hw) (ww77 hw) (ww78 hw) (ww79 hw) (by decide) rfl (by rw [hml]; rfl) (lenOf own_pd7 rfl) rfl (hb hby at_363) (Nat.le_of_ble_eq_true rfl) (Nat.le_of_ble_eq_true rfl) (Nat.le_of_ble_eq_true rfl) (Nat.le_of_ble_eq_true rfl) rfl ?_
      rintro v316 T316 L316 X316 ⟨rfl, Nq316, eq316⟩
      have N316 := Fr.app N302 Nq316
      change own_G p e below _ _ (mkF m 366 _ [(.int (1 : Int32))])
      refine own_istore (n := 368) (l' := #[.val (.int p0), .val (.long q), .second, .val (.int p2), .val (.int cp), .val (.int (0 : Int32)), .val (.int (1 : Int32)), .val (.int q0), .val (.int q1), .val (.int q2), .val (.int q3), .val (.int q4), .val (.ref b150), .val (.ref b158), .val (.ref b167), .val (.int (6 : Int32)), .val (.ref b195), .val (.ref b210), .val (.ref y242), .val (.int (1 : Int32)), .val (.ref y267), .val (.int (1 : Int32)), .val (.ref y302), .val (.int (1 : Int32))]) X316 hx (hb hby at_366) rfl rfl ?_
      refine own_iload (n := 370) X316 hx (hb hby at_368) rfl rfl ?_
      refine own_ifNo (n := 373) X316 hx (hb hby at_370) (feq (by decide : ¬ ((1 : Int32) = (0 : Int32)))).1 rfl ?_
      refine own_iload (n := 375) X316 hx (hb hby at_373) rfl rfl ?_
      refine own_ifNo (n := 378) X316 hx (hb hby at_375) (feq (by decide : ¬ ((1 : Int32) = (0 : Int32)))).1 rfl ?_
      refine own_iload (n := 380) X316 hx (hb hby at_378) rfl rfl ?_
      refine own_ifNo (n := 383) X316 hx (hb hby at_380) (feq (by decide : ¬ ((1 : Int32) = (0 : Int32)))).1 rfl ?_
      refine own_iconst (n := 384) (z := (1 : Int32)) X316 hx (hb hby at_383) rfl rfl ?_
      refine own_goto (n := 388) X316 hx (hb hby at_384) (by decide) (by decide) ?_
      refine own_retZ X316 hx hlk hret (by simp) eq316 (w := (1 : Int32)) rfl (hb hby at_388) (by decide) (by decide) ?_
      exact ⟨rfl, N316⟩
  · skip
    refine own_ifNo (n := 12) X0 hx (hb hby at_9) (feq hc9_1).1 rfl ?_
    refine own_iconst (n := 13) (z := (1 : Int32)) X0 hx (hb hby at_12) rfl rfl ?_
    refine own_goto (n := 17) X0 hx (hb hby at_13) (by decide) (by decide) ?_
    refine own_istore (n := 19) (l' := #[.val (.int p0), .val (.long q), .second, .val (.int p2), .val (.int (p0 &&& (15 : Int32))), .val (.int (1 : Int32)), .unset, .unset, .unset, .unset, .unset, .unset, .unset, .unset, .unset, .unset, .unset, .unset, .unset, .unset, .unset, .unset, .unset, .unset]) X0 hx (hb hby at_17) rfl rfl ?_
    refine own_iloadN (n := 20) X0 hx (hb hby at_19) rfl rfl ?_
    refine own_iconst (n := 21) (z := (2 : Int32)) X0 hx (hb hby at_20) rfl rfl ?_
    refine own_iand (n := 22) X0 hx (hb hby at_21) rfl rfl ?_
    by_cases hc22_317 : (p2 &&& (2 : Int32)) = (0 : Int32)
    · skip
      refine own_ifYes (n := 29) X0 hx (hb hby at_22) (teq hc22_317).1 (by decide) (by decide) ?_
      refine own_iconst (n := 30) (z := (0 : Int32)) X0 hx (hb hby at_29) rfl rfl ?_
      refine own_istore (n := 32) (l' := #[.val (.int p0), .val (.long q), .second, .val (.int p2), .val (.int (p0 &&& (15 : Int32))), .val (.int (1 : Int32)), .val (.int (0 : Int32)), .unset, .unset, .unset, .unset, .unset, .unset, .unset, .unset, .unset, .unset, .unset, .unset, .unset, .unset, .unset, .unset, .unset]) X0 hx (hb hby at_30) rfl rfl ?_
      refine own_lloadN (n := 33) X0 hx (hb hby at_32) rfl rfl ?_
      refine own_l2i (n := 34) X0 hx (hb hby at_33) rfl rfl ?_
      refine own_i2b (n := 35) X0 hx (hb hby at_34) rfl rfl ?_
      refine own_istore (n := 37) (l' := #[.val (.int p0), .val (.long q), .second, .val (.int p2), .val (.int (p0 &&& (15 : Int32))), .val (.int (1 : Int32)), .val (.int (0 : Int32)), .val (.int ((q).toInt32).toInt8.toInt32), .unset, .unset, .unset, .unset, .unset, .unset, .unset, .unset, .unset, .unset, .unset, .unset, .unset, .unset, .unset, .unset]) X0 hx (hb hby at_35) rfl rfl ?_
      refine own_lloadN (n := 38) X0 hx (hb hby at_37) rfl rfl ?_
      refine own_bipush (n := 40) (z := (8 : Int32)) X0 hx (hb hby at_38) rfl rfl ?_
      refine own_lushr (n := 41) X0 hx (hb hby at_40) rfl rfl ?_
      refine own_l2i (n := 42) X0 hx (hb hby at_41) rfl rfl ?_
      refine own_i2b (n := 43) X0 hx (hb hby at_42) rfl rfl ?_
      refine own_istore (n := 45) (l' := #[.val (.int p0), .val (.long q), .second, .val (.int p2), .val (.int (p0 &&& (15 : Int32))), .val (.int (1 : Int32)), .val (.int (0 : Int32)), .val (.int ((q).toInt32).toInt8.toInt32), .val (.int ((((q).toUInt64 >>> ((8 : Int32) &&& 63).toInt64.toUInt64).toInt64).toInt32).toInt8.toInt32), .unset, .unset, .unset, .unset, .unset, .unset, .unset, .unset, .unset, .unset, .unset, .unset, .unset, .unset, .unset]) X0 hx (hb hby at_43) rfl rfl ?_
      refine own_lloadN (n := 46) X0 hx (hb hby at_45) rfl rfl ?_
      refine own_bipush (n := 48) (z := (16 : Int32)) X0 hx (hb hby at_46) rfl rfl ?_
      refine own_lushr (n := 49) X0 hx (hb hby at_48) rfl rfl ?_
      refine own_l2i (n := 50) X0 hx (hb hby at_49) rfl rfl ?_
      refine own_i2b (n := 51) X0 hx (hb hby at_50) rfl rfl ?_
      refine own_istore (n := 53) (l' := #[.val (.int p0), .val (.long q), .second, .val (.int p2), .val (.int (p0 &&& (15 : Int32))), .val (.int (1 : Int32)), .val (.int (0 : Int32)), .val (.int ((q).toInt32).toInt8.toInt32), .val (.int ((((q).toUInt64 >>> ((8 : Int32) &&& 63).toInt64.toUInt64).toInt64).toInt32).toInt8.toInt32), .val (.int ((((q).toUInt64 >>> ((16 : Int32) &&& 63).toInt64.toUInt64).toInt64).toInt32).toInt8.toInt32), .unset, .unset, .unset, .unset, .unset, .unset, .unset, .unset, .unset, .unset, .unset, .unset, .unset, .unset]) X0 hx (hb hby at_51) rfl rfl ?_
      refine own_lloadN (n := 54) X0 hx (hb hby at_53) rfl rfl ?_
      refine own_bipush (n := 56) (z := (24 : Int32)) X0 hx (hb hby at_54) rfl rfl ?_
      refine own_lushr (n := 57) X0 hx (hb hby at_56) rfl rfl ?_
      refine own_l2i (n := 58) X0 hx (hb hby at_57) rfl rfl ?_
      refine own_i2b (n := 59) X0 hx (hb hby at_58) rfl rfl ?_
      refine own_istore (n := 61) (l' := #[.val (.int p0), .val (.long q), .second, .val (.int p2), .val (.int (p0 &&& (15 : Int32))), .val (.int (1 : Int32)), .val (.int (0 : Int32)), .val (.int ((q).toInt32).toInt8.toInt32), .val (.int ((((q).toUInt64 >>> ((8 : Int32) &&& 63).toInt64.toUInt64).toInt64).toInt32).toInt8.toInt32), .val (.int ((((q).toUInt64 >>> ((16 : Int32) &&& 63).toInt64.toUInt64).toInt64).toInt32).toInt8.toInt32), .val (.int ((((q).toUInt64 >>> ((24 : Int32) &&& 63).toInt64.toUInt64).toInt64).toInt32).toInt8.toInt32), .unset, .unset, .unset, .unset, .unset, .unset, .unset, .unset, .unset, .unset, .unset, .unset, .unset]) X0 hx (hb hby at_59) rfl rfl ?_
      refine own_lloadN (n := 62) X0 hx (hb hby at_61) rfl rfl ?_
      refine own_bipush (n := 64) (z := (32 : Int32)) X0 hx (hb hby at_62) rfl rfl ?_
      refine own_lushr (n := 65) X0 hx (hb hby at_64) rfl rfl ?_
      refine own_l2i (n := 66) X0 hx (hb hby at_65) rfl rfl ?_
      refine own_i2b (n := 67) X0 hx (hb hby at_66) rfl rfl ?_
      refine own_istore (n := 69) (l' := #[.val (.int p0), .val (.long q), .second, .val (.int p2), .val (.int (p0 &&& (15 : Int32))), .val (.int (1 : Int32)), .val (.int (0 : Int32)), .val (.int ((q).toInt32).toInt8.toInt32), .val (.int ((((q).toUInt64 >>> ((8 : Int32) &&& 63).toInt64.toUInt64).toInt64).toInt32).toInt8.toInt32), .val (.int ((((q).toUInt64 >>> ((16 : Int32) &&& 63).toInt64.toUInt64).toInt64).toInt32).toInt8.toInt32), .val (.int ((((q).toUInt64 >>> ((24 : Int32) &&& 63).toInt64.toUInt64).toInt64).toInt32).toInt8.toInt32), .val (.int ((((q).toUInt64 >>> ((32 : Int32) &&& 63).toInt64.toUInt64).toInt64).toInt32).toInt8.toInt32), .unset, .unset, .unset, .unset, .unset, .unset, .unset, .unset, .unset, .unset, .unset, .unset]) X0 hx (hb hby at_67) rfl rfl ?_
      have hcap := own_cap p0
      obtain ⟨cp, hcp⟩ : ∃ z, z = (p0 &&& (15 : Int32)) := ⟨_, rfl⟩
      rw [← hcp] at hcap
      rw [← hcp]
      obtain ⟨q0, hq0⟩ : ∃ z, z = ((q).toInt32).toInt8.toInt32 := ⟨_, rfl⟩
      rw [← hq0]
      have hN0 : (q0).toInt8.toInt32 = q0 := by rw [hq0]; exact own_again _
      obtain ⟨q1, hq1⟩ : ∃ z, z = ((((q).toUInt64 >>> ((8 : Int32) &&& 63).toInt64.toUInt64).toInt64).toInt32).toInt8.toInt32 := ⟨_, rfl⟩
      rw [← hq1]
      have hN1 : (q1).toInt8.toInt32 = q1 := by rw [hq1]; exact own_again _
      obtain ⟨q2, hq2⟩ : ∃ z, z = ((((q).toUInt64 >>> ((16 : Int32) &&& 63).toInt64.toUInt64).toInt64).toInt32).toInt8.toInt32 := ⟨_, rfl⟩
      rw [← hq2]
      have hN2 : (q2).toInt8.toInt32 = q2 := by rw [hq2]; exact own_again _
      obtain ⟨q3, hq3⟩ : ∃ z, z = ((((q).toUInt64 >>> ((24 : Int32) &&& 63).toInt64.toUInt64).toInt64).toInt32).toInt8.toInt32 := ⟨_, rfl⟩
      rw [← hq3]
      have hN3 : (q3).toInt8.toInt32 = q3 := by rw [hq3]; exact own_again _
      obtain ⟨q4, hq4⟩ : ∃ z, z = ((((q).toUInt64 >>> ((32 : Int32) &&& 63).toInt64.toUInt64).toInt64).toInt32).toInt8.toInt32 := ⟨_, rfl⟩
      rw [← hq4]
      have hN4 : (q4).toInt8.toInt32 = q4 := by rw [hq4]; exact own_again _
      refine own_iconst (n := 70) (z := (3 : Int32)) X0 hx (hb hby at_69) rfl rfl ?_
      refine own_newA (n := 72) X0 hx hZ own_an_byte (ww0 hw) hE0 (hb hby at_70) (by decide) (cap := 3) (by decide) (by decide) (by decide) (by decide) rfl ?_
      intro T318 h318 k318 b318 g318 X318 e318 E318 A318 B318
      have g_b318 : n0 ≤ b318 := Nat.le_trans Z0 (Nat.le_of_eq g318.symm)
      have Z_319 : n0 ≤ h318.size := Nat.le_trans Z0 E318.1
      have V318 : Arv Z h318 b318 k318 .byte (3 : Int32) [(.int (0 : Int32)), (.int (0 : Int32)), (.int (0 : Int32))] (.int (0 : Int32)) := (Arv.new A318 (by decide)).pad (pad_rep [] (.int (0 : Int32)) 3)
      refine own_astore (n := 74) (l' := #[.val (.int p0), .val (.long q), .second, .val (.int p2), .val (.int cp), .val (.int (1 : Int32)), .val (.int (0 : Int32)), .val (.int q0), .val (.int q1), .val (.int q2), .val (.int q3), .val (.int q4), .val (.ref b318), .unset, .unset, .unset, .unset, .unset, .unset, .unset, .unset, .unset, .unset, .unset]) X318 hx (hb hby at_72) rfl rfl rfl ?_
      refine own_aload (n := 76) X318 hx (hb hby at_74) rfl rfl rfl ?_
      refine own_iconst (n := 77) (z := (0 : Int32)) X318 hx (hb hby at_76) rfl rfl ?_
      refine own_iload (n := 79) X318 hx (hb hby at_77) rfl rfl ?_
      refine own_st_bastore (n := 80) X318 hx hZ e318 V318 ⟨by decide, by decide⟩ 0 rfl (Nat.le_of_ble_eq_true rfl) (hb hby at_79) rfl ?_
      intro T320 h320 X320 e320 W320 V320q
      rw [hN0] at V320q
      have V320 : Arv Z h320 b318 k318 .byte (3 : Int32) [(.int q0), (.int (0 : Int32)), (.int (0 : Int32))] (.int (0 : Int32)) := V320q
      have N320 := Fr.snoc X320 N0 g_b318
      have Z_321 : n0 ≤ h320.size := by rw [W320.size]; exact Z_319
      refine own_aload (n := 82) X320 hx (hb hby at_80) rfl rfl rfl ?_
      refine own_iconst (n := 83) (z := (1 : Int32)) X320 hx (hb hby at_82) rfl rfl ?_
      refine own_iload (n := 85) X320 hx (hb hby at_83) rfl rfl ?_
      refine own_st_bastore (n := 86) X320 hx hZ e320 V320 ⟨by decide, by decide⟩ 1 rfl (Nat.le_of_ble_eq_true rfl) (hb hby at_85) rfl ?_
      intro T322 h322 X322 e322 W322 V322q
      rw [hN1] at V322q
      have V322 : Arv Z h322 b318 k318 .byte (3 : Int32) [(.int q0), (.int q1), (.int (0 : Int32))] (.int (0 : Int32)) := V322q
      have N322 := Fr.snoc X322 N320 g_b318
      have Z_323 : n0 ≤ h322.size := by rw [W322.size]; exact Z_321
      refine own_aload (n := 88) X322 hx (hb hby at_86) rfl rfl rfl ?_
      refine own_iconst (n := 89) (z := (2 : Int32)) X322 hx (hb hby at_88) rfl rfl ?_
      refine own_iload (n := 91) X322 hx (hb hby at_89) rfl rfl ?_
      refine own_st_bastore (n := 92) X322 hx hZ e322 V322 ⟨by decide, by decide⟩ 2 rfl (Nat.le_of_ble_eq_true rfl) (hb hby at_91) rfl ?_
      intro T324 h324 X324 e324 W324 V324q
      rw [hN2] at V324q
      have V324 : Arv Z h324 b318 k318 .byte (3 : Int32) [(.int q0), (.int q1), (.int q2)] (.int (0 : Int32)) := V324q
      have N324 := Fr.snoc X324 N322 g_b318
      have Z_325 : n0 ≤ h324.size := by rw [W324.size]; exact Z_323
      refine own_iconst (n := 93) (z := (2 : Int32)) X324 hx (hb hby at_92) rfl rfl ?_
      refine own_newA (n := 95) X324 hx hZ own_an_byte (ww0 hw) e324 (hb hby at_93) (by decide) (cap := 2) (by decide) (by decide) (by decide) (by decide) rfl ?_
      intro T326 h326 k326 b326 g326 X326 e326 E326 A326 B326
      have g_b326 : n0 ≤ b326 := Nat.le_trans Z_325 (Nat.le_of_eq g326.symm)
      have ne_b318_b326 : b318 ≠ b326 := own_ne V324.lt g326
      have A_327 := V324.ext E326
      have Z_328 : n0 ≤ h326.size := Nat.le_trans Z_325 E326.1
      have V326 : Arv Z h326 b326 k326 .byte (2 : Int32) [(.int (0 : Int32)), (.int (0 : Int32))] (.int (0 : Int32)) := (Arv.new A326 (by decide)).pad (pad_rep [] (.int (0 : Int32)) 2)
      refine own_astore (n := 97) (l' := #[.val (.int p0), .val (.long q), .second, .val (.int p2), .val (.int cp), .val (.int (1 : Int32)), .val (.int (0 : Int32)), .val (.int q0), .val (.int q1), .val (.int q2), .val (.int q3), .val (.int q4), .val (.ref b318), .val (.ref b326), .unset, .unset, .unset, .unset, .unset, .unset, .unset, .unset, .unset, .unset]) X326 hx (hb hby at_95) rfl rfl rfl ?_
      refine own_aload (n := 99) X326 hx (hb hby at_97) rfl rfl rfl ?_
      refine own_iconst (n := 100) (z := (0 : Int32)) X326 hx (hb hby at_99) rfl rfl ?_
      refine own_iload (n := 102) X326 hx (hb hby at_100) rfl rfl ?_
      refine own_st_bastore (n := 103) X326 hx hZ e326 V326 ⟨by decide, by decide⟩ 0 rfl (Nat.le_of_ble_eq_true rfl) (hb hby at_102) rfl ?_
      intro T329 h329 X329 e329 W329 V329q
      rw [hN3] at V329q
      have V329 : Arv Z h329 b326 k326 .byte (2 : Int32) [(.int q3), (.int (0 : Int32))] (.int (0 : Int32)) := V329q
      have N329 := Fr.snoc X329 N324 g_b326
      have A_330 := A_327.other W329 ne_b318_b326
      have Z_331 : n0 ≤ h329.size := by rw [W329.size]; exact Z_328
      refine own_aload (n := 105) X329 hx (hb hby at_103) rfl rfl rfl ?_
      refine own_iconst (n := 106) (z := (1 : Int32)) X329 hx (hb hby at_105) rfl rfl ?_
      refine own_iload (n := 108) X329 hx (hb hby at_106) rfl rfl ?_
      refine own_st_bastore (n := 109) X329 hx hZ e329 V329 ⟨by decide, by decide⟩ 1 rfl (Nat.le_of_ble_eq_true rfl) (hb hby at_108) rfl ?_
      intro T332 h332 X332 e332 W332 V332q
      rw [hN4] at V332q
      have V332 : Arv Z h332 b326 k326 .byte (2 : Int32) [(.int q3), (.int q4)] (.int (0 : Int32)) := V332q
      have N332 := Fr.snoc X332 N329 g_b326
      have A_333 := A_330.other W332 ne_b318_b326
      have Z_334 : n0 ≤ h332.size := by rw [W332.size]; exact Z_331
      refine own_bipush (n := 111) (z := (8 : Int32)) X332 hx (hb hby at_109) rfl rfl ?_
      refine own_newA (n := 113) X332 hx hZ own_an_byte (ww0 hw) e332 (hb hby at_111) (by decide) (cap := 8) (by decide) (by decide) (by decide) (by decide) rfl ?_
      intro T335 h335 k335 b335 g335 X335 e335 E335 A335 B335
      have g_b335 : n0 ≤ b335 := Nat.le_trans Z_334 (Nat.le_of_eq g335.symm)
      have ne_b318_b335 : b318 ≠ b335 := own_ne A_333.lt g335
      have ne_b326_b335 : b326 ≠ b335 := own_ne V332.lt g335
      have A_336 := A_333.ext E335
      have A_337 := V332.ext E335
      have Z_338 : n0 ≤ h335.size := Nat.le_trans Z_334 E335.1
      have V335 : Arv Z h335 b335 k335 .byte (8 : Int32) [(.int (0 : Int32)), (.int (0 : Int32)), (.int (0 : Int32)), (.int (0 : Int32)), (.int (0 : Int32)), (.int (0 : Int32)), (.int (0 : Int32)), (.int (0 : Int32))] (.int (0 : Int32)) := (Arv.new A335 (by decide)).pad (pad_rep [] (.int (0 : Int32)) 8)
      refine own_astore (n := 115) (l' := #[.val (.int p0), .val (.long q), .second, .val (.int p2), .val (.int cp), .val (.int (1 : Int32)), .val (.int (0 : Int32)), .val (.int q0), .val (.int q1), .val (.int q2), .val (.int q3), .val (.int q4), .val (.ref b318), .val (.ref b326), .val (.ref b335), .unset, .unset, .unset, .unset, .unset, .unset, .unset, .unset, .unset]) X335 hx (hb hby at_113) rfl rfl rfl ?_
      refine own_iconst (n := 116) (z := (0 : Int32)) X335 hx (hb hby at_115) rfl rfl ?_
      refine own_istore (n := 118) (l' := #[.val (.int p0), .val (.long q), .second, .val (.int p2), .val (.int cp), .val (.int (1 : Int32)), .val (.int (0 : Int32)), .val (.int q0), .val (.int q1), .val (.int q2), .val (.int q3), .val (.int q4), .val (.ref b318), .val (.ref b326), .val (.ref b335), .val (.int (0 : Int32)), .unset, .unset, .unset, .unset, .unset, .unset, .unset, .unset]) X335 hx (hb hby at_116) rfl rfl ?_
      refine own_iload (n := 120) X335 hx (hb hby at_118) rfl rfl ?_
      refine own_ifNo (n := 123) X335 hx (hb hby at_120) (feq (by decide : ¬ ((1 : Int32) = (0 : Int32)))).1 rfl ?_
      refine own_aload (n := 125) X335 hx (hb hby at_123) rfl rfl rfl ?_
      refine own_iload (n := 127) X335 hx (hb hby at_125) rfl rfl ?_
      refine own_iinc (n := 130) (z := (1 : Int32)) (l' := #[.val (.int p0), .val (.long q), .second, .val (.int p2), .val (.int cp), .val (.int (1 : Int32)), .val (.int (0 : Int32)), .val (.int q0), .val (.int q1), .val (.int q2), .val (.int q3), .val (.int q4), .val (.ref b318), .val (.ref b326), .val (.ref b335), .val (.int (1 : Int32)), .unset, .unset, .unset, .unset, .unset, .unset, .unset, .unset]) X335 hx (hb hby at_127) rfl rfl rfl rfl ?_
      refine own_bipush (n := 132) (z := (91 : Int32)) X335 hx (hb hby at_130) rfl rfl ?_
      refine own_st_bastore (n := 133) X335 hx hZ e335 V335 ⟨by decide, by decide⟩ 0 rfl (Nat.le_of_ble_eq_true rfl) (hb hby at_132) rfl ?_
      intro T339 h339 X339 e339 W339 V339q
      have V339 : Arv Z h339 b335 k335 .byte (8 : Int32) [(.int (91 : Int32)), (.int (0 : Int32)), (.int (0 : Int32)), (.int (0 : Int32)), (.int (0 : Int32)), (.int (0 : Int32)), (.int (0 : Int32)), (.int (0 : Int32))] (.int (0 : Int32)) := V339q
      have N339 := Fr.snoc X339 N332 g_b335
      have A_340 := A_336.other W339 ne_b318_b335
      have A_341 := A_337.other W339 ne_b326_b335
      have Z_342 : n0 ≤ h339.size := by rw [W339.size]; exact Z_338
      refine own_aload (n := 135) X339 hx (hb hby at_133) rfl rfl rfl ?_
      refine own_iload (n := 137) X339 hx (hb hby at_135) rfl rfl ?_
      refine own_iinc (n := 140) (z := (2 : Int32)) (l' := #[.val (.int p0), .val (.long q), .second, .val (.int p2), .val (.int cp), .val (.int (1 : Int32)), .val (.int (0 : Int32)), .val (.int q0), .val (.int q1), .val (.int q2), .val (.int q3), .val (.int q4), .val (.ref b318), .val (.ref b326), .val (.ref b335), .val (.int (2 : Int32)), .unset, .unset, .unset, .unset, .unset, .unset, .unset, .unset]) X339 hx (hb hby at_137) rfl rfl rfl rfl ?_
      refine own_iload (n := 142) X339 hx (hb hby at_140) rfl rfl ?_
      refine own_st_bastore (n := 143) X339 hx hZ e339 V339 ⟨by decide, by decide⟩ 1 rfl (Nat.le_of_ble_eq_true rfl) (hb hby at_142) rfl ?_
      intro T343 h343 X343 e343 W343 V343q
      rw [hN0] at V343q
      have V343 : Arv Z h343 b335 k335 .byte (8 : Int32) [(.int (91 : Int32)), (.int q0), (.int (0 : Int32)), (.int (0 : Int32)), (.int (0 : Int32)), (.int (0 : Int32)), (.int (0 : Int32)), (.int (0 : Int32))] (.int (0 : Int32)) := V343q
      have N343 := Fr.snoc X343 N339 g_b335
      have A_344 := A_340.other W343 ne_b318_b335
      have A_345 := A_341.other W343 ne_b326_b335
      have Z_346 : n0 ≤ h343.size := by rw [W343.size]; exact Z_342
      refine own_aload (n := 145) X343 hx (hb hby at_143) rfl rfl rfl ?_
      refine own_iload (n := 147) X343 hx (hb hby at_145) rfl rfl ?_
      refine own_iinc (n := 150) (z := (3 : Int32)) (l' := #[.val (.int p0), .val (.long q), .second, .val (.int p2), .val (.int cp), .val (.int (1 : Int32)), .val (.int (0 : Int32)), .val (.int q0), .val (.int q1), .val (.int q2), .val (.int q3), .val (.int q4), .val (.ref b318), .val (.ref b326), .val (.ref b335), .val (.int (3 : Int32)), .unset, .unset, .unset, .unset, .unset, .unset, .unset, .unset]) X343 hx (hb hby at_147) rfl rfl rfl rfl ?_
      refine own_iload (n := 152) X343 hx (hb hby at_150) rfl rfl ?_
      refine own_st_bastore (n := 153) X343 hx hZ e343 V343 ⟨by decide, by decide⟩ 2 rfl (Nat.le_of_ble_eq_true rfl) (hb hby at_152) rfl ?_
      intro T347 h347 X347 e347 W347 V347q
      rw [hN1] at V347q
      have V347 : Arv Z h347 b335 k335 .byte (8 : Int32) [(.int (91 : Int32)), (.int q0), (.int q1), (.int (0 : Int32)), (.int (0 : Int32)), (.int (0 : Int32)), (.int (0 : Int32)), (.int (0 : Int32))] (.int (0 : Int32)) := V347q
      have N347 := Fr.snoc X347 N343 g_b335
      have A_348 := A_344.other W347 ne_b318_b335
      have A_349 := A_345.other W347 ne_b326_b335
      have Z_350 : n0 ≤ h347.size := by rw [W347.size]; exact Z_346
      refine own_aload (n := 155) X347 hx (hb hby at_153) rfl rfl rfl ?_
      refine own_iload (n := 157) X347 hx (hb hby at_155) rfl rfl ?_
      refine own_iinc (n := 160) (z := (4 : Int32)) (l' := #[.val (.int p0), .val (.long q), .second, .val (.int p2), .val (.int cp), .val (.int (1 : Int32)), .val (.int (0 : Int32)), .val (.int q0), .val (.int q1), .val (.int q2), .val (.int q3), .val (.int q4), .val (.ref b318), .val (.ref b326), .val (.ref b335), .val (.int (4 : Int32)), .unset, .unset, .unset, .unset, .unset, .unset, .unset, .unset]) X347 hx (hb hby at_157) rfl rfl rfl rfl ?_
      refine own_iload (n := 162) X347 hx (hb hby at_160) rfl rfl ?_
      refine own_st_bastore (n := 163) X347 hx hZ e347 V347 ⟨by decide, by decide⟩ 3 rfl (Nat.le_of_ble_eq_true rfl) (hb hby at_162) rfl ?_
      intro T351 h351 X351 e351 W351 V351q
      rw [hN2] at V351q
      have V351 : Arv Z h351 b335 k335 .byte (8 : Int32) [(.int (91 : Int32)), (.int q0), (.int q1), (.int q2), (.int (0 : Int32)), (.int (0 : Int32)), (.int (0 : Int32)), (.int (0 : Int32))] (.int (0 : Int32)) := V351q
      have N351 := Fr.snoc X351 N347 g_b335
      have A_352 := A_348.other W351 ne_b318_b335
      have A_353 := A_349.other W351 ne_b326_b335
      have Z_354 : n0 ≤ h351.size := by rw [W351.size]; exact Z_350
      refine own_iload (n := 165) X351 hx (hb hby at_163) rfl rfl ?_
      refine own_ifYes (n := 198) X351 hx (hb hby at_165) (teq (by decide : (0 : Int32) = (0 : Int32))).1 (by decide) (by decide) ?_
      refine own_iload (n := 200) X351 hx (hb hby at_198) rfl rfl ?_
      refine own_ifNo (n := 203) X351 hx (hb hby at_200) (feq (by decide : ¬ ((1 : Int32) = (0 : Int32)))).1 rfl ?_
      refine own_aload (n := 205) X351 hx (hb hby at_203) rfl rfl rfl ?_
      refine own_iload (n := 207) X351 hx (hb hby at_205) rfl rfl ?_
      refine own_iinc (n := 210) (z := (5 : Int32)) (l' := #[.val (.int p0), .val (.long q), .second, .val (.int p2), .val (.int cp), .val (.int (1 : Int32)), .val (.int (0 : Int32)), .val (.int q0), .val (.int q1), .val (.int q2), .val (.int q3), .val (.int q4), .val (.ref b318), .val (.ref b326), .val (.ref b335), .val (.int (5 : Int32)), .unset, .unset, .unset, .unset, .unset, .unset, .unset, .unset]) X351 hx (hb hby at_207) rfl rfl rfl rfl ?_
      refine own_bipush (n := 212) (z := (93 : Int32)) X351 hx (hb hby at_210) rfl rfl ?_
      refine own_st_bastore (n := 213) X351 hx hZ e351 V351 ⟨by decide, by decide⟩ 4 rfl (Nat.le_of_ble_eq_true rfl) (hb hby at_212) rfl ?_
      intro T355 h355 X355 e355 W355 V355q
      have V355 : Arv Z h355 b335 k335 .byte (8 : Int32) [(.int (91 : Int32)), (.int q0), (.int q1), (.int q2), (.int (93 : Int32)), (.int (0 : Int32)), (.int (0 : Int32)), (.int (0 : Int32))] (.int (0 : Int32)) := V355q
      have N355 := Fr.snoc X355 N351 g_b335
      have A_356 := A_352.other W355 ne_b318_b335
      have A_357 := A_353.other W355 ne_b326_b335
      have Z_358 : n0 ≤ h355.size := by rw [W355.size]; exact Z_354
      refine own_bipush (n := 215) (z := (8 : Int32)) X355 hx (hb hby at_213) rfl rfl ?_
      refine own_newA (n := 217) X355 hx hZ own_an_byte (ww0 hw) e355 (hb hby at_215) (by decide) (cap := 8) (by decide) (by decide) (by decide) (by decide) rfl ?_
      intro T359 h359 k359 b359 g359 X359 e359 E359 A359 B359
      have g_b359 : n0 ≤ b359 := Nat.le_trans Z_358 (Nat.le_of_eq g359.symm)
      have ne_b318_b359 : b318 ≠ b359 := own_ne A_356.lt g359
      have ne_b326_b359 : b326 ≠ b359 := own_ne A_357.lt g359
      have ne_b335_b359 : b335 ≠ b359 := own_ne V355.lt g359
      have A_360 := A_356.ext E359
      have A_361 := A_357.ext E359
      have A_362 := V355.ext E359
      have Z_363 : n0 ≤ h359.size := Nat.le_trans Z_358 E359.1
      have V359 : Arv Z h359 b359 k359 .byte (8 : Int32) [(.int (0 : Int32)), (.int (0 : Int32)), (.int (0 : Int32)), (.int (0 : Int32)), (.int (0 : Int32)), (.int (0 : Int32)), (.int (0 : Int32)), (.int (0 : Int32))] (.int (0 : Int32)) := (Arv.new A359 (by decide)).pad (pad_rep [] (.int (0 : Int32)) 8)
      refine own_astore (n := 219) (l' := #[.val (.int p0), .val (.long q), .second, .val (.int p2), .val (.int cp), .val (.int (1 : Int32)), .val (.int (0 : Int32)), .val (.int q0), .val (.int q1), .val (.int q2), .val (.int q3), .val (.int q4), .val (.ref b318), .val (.ref b326), .val (.ref b335), .val (.int (5 : Int32)), .val (.ref b359), .unset, .unset, .unset, .unset, .unset, .unset, .unset]) X359 hx (hb hby at_217) rfl rfl rfl ?_
      refine own_aload (n := 221) X359 hx (hb hby at_219) rfl rfl rfl ?_
      refine own_iconst (n := 222) (z := (0 : Int32)) X359 hx (hb hby at_221) rfl rfl ?_
      refine own_iload (n := 224) X359 hx (hb hby at_222) rfl rfl ?_
      refine own_st_bastore (n := 225) X359 hx hZ e359 V359 ⟨by decide, by decide⟩ 0 rfl (Nat.le_of_ble_eq_true rfl) (hb hby at_224) rfl ?_
      intro T364 h364 X364 e364 W364 V364q
      rw [hN3] at V364q
      have V364 : Arv Z h364 b359 k359 .byte (8 : Int32) [(.int q3), (.int (0 : Int32)), (.int (0 : Int32)), (.int (0 : Int32)), (.int (0 : Int32)), (.int (0 : Int32)), (.int (0 : Int32)), (.int (0 : Int32))] (.int (0 : Int32)) := V364q
      have N364 := Fr.snoc X364 N355 g_b359
      have A_365 := A_360.other W364 ne_b318_b359
      have A_366 := A_361.other W364 ne_b326_b359
      have A_367 := A_362.other W364 ne_b335_b359
      have Z_368 : n0 ≤ h364.size := by rw [W364.size]; exact Z_363
      refine own_aload (n := 227) X364 hx (hb hby at_225) rfl rfl rfl ?_
      refine own_iconst (n := 228) (z := (1 : Int32)) X364 hx (hb hby at_227) rfl rfl ?_
      refine own_iload (n := 230) X364 hx (hb hby at_228) rfl rfl ?_
      refine own_st_bastore (n := 231) X364 hx hZ e364 V364 ⟨by decide, by decide⟩ 1 rfl (Nat.le_of_ble_eq_true rfl) (hb hby at_230) rfl ?_
      intro T369 h369 X369 e369 W369 V369q
      rw [hN4] at V369q
      have V369 : Arv Z h369 b359 k359 .byte (8 : Int32) [(.int q3), (.int q4), (.int (0 : Int32)), (.int (0 : Int32)), (.int (0 : Int32)), (.int (0 : Int32)), (.int (0 : Int32)), (.int (0 : Int32))] (.int (0 : Int32)) := V369q
      have N369 := Fr.snoc X369 N364 g_b359
      have A_370 := A_365.other W369 ne_b318_b359
      have A_371 := A_366.other W369 ne_b326_b359
      have A_372 := A_367.other W369 ne_b335_b359
      have Z_373 : n0 ≤ h369.size := by rw [W369.size]; exact Z_368
      refine own_new (n := 234) X369 hx hZ hown (ww1 hw) (ww2 hw) (ww3 hw) e369 (hb hby at_231) (by decide) (by decide) rfl ?_
      intro T374 h374 b374 g374 X374 e374 E374 A374 D374
      have g_b374 : n0 ≤ b374 := Nat.le_trans Z_373 (Nat.le_of_eq g374.symm)
      have ne_b318_b374 : b318 ≠ b374 := own_ne A_370.lt g374
      have ne_b326_b374 : b326 ≠ b374 := own_ne A_371.lt g374
      have ne_b335_b374 : b335 ≠ b374 := own_ne A_372.lt g374
      have ne_b359_b374 : b359 ≠ b374 := own_ne V369.lt g374
      have A_375 := A_370.ext E374
      have A_376 := A_371.ext E374
      have A_377 := A_372.ext E374
      have A_378 := V369.ext E374
      have Z_379 : n0 ≤ h374.size := Nat.le_trans Z_373 E374.1
      have F_380 : Fld Z h374 b374 "com/example/doseline/doseline/fhir/JsonWriter" "bytes" "[B" .null := D374 (Or.inl (ww11 hw)) (ty := (.array .byte)) (by decide)
      have F_381 : Fld Z h374 b374 "com/example/doseline/doseline/fhir/JsonWriter" "afterElement" "Z" (.int (0 : Int32)) := D374 (Or.inl (ww26 hw)) (ty := .boolean) (by decide)
      have F_382 : Fld Z h374 b374 "com/example/doseline/doseline/fhir/JsonWriter" "length" "I" (.int (0 : Int32)) := D374 (Or.inl (ww36 hw)) (ty := .int) (by decide)
      refine own_dup (n := 235) X374 hx (hb hby at_234) rfl rfl ?_
      refine own_iload (n := 237) X374 hx (hb hby at_235) rfl rfl ?_
      refine own_I (n := 240) (argsL := [(.int cp)]) (rest := [(.ref b374)]) (a := b374) (by rfl) X374 hx hZ hown (own_rm_init l Z a0 hw b374 cp h374 n0 Z_379 A374 F_380 F_382 F_381 hcap.1 hcap.2.1 g_b374) (ww4 hw) (ww5 hw) (ww3 hw) (ww6 hw) (by decide) e374 (by rw [hml]; rfl) (lenOf own_pd0 rfl) rfl (hb hby at_237) (Nat.le_of_ble_eq_true rfl) (Nat.le_of_ble_eq_true rfl) (Nat.le_of_ble_eq_true rfl) (Nat.le_of_ble_eq_true rfl) rfl ?_
      rintro v383 T383 L383 X383 ⟨y383, k383, rfl, Nq383, K383, Eq383, Fb383, Fl383, Fa383, Vb383, Ec383, sz383, gb383⟩
      have N383 := Fr.app N369 Nq383
      have A_384 := A_375.keep K383 (by simp [ne_b318_b374])
      have A_385 := A_376.keep K383 (by simp [ne_b326_b374])
      have A_386 := A_377.keep K383 (by simp [ne_b335_b374])
      have A_387 := A_378.keep K383 (by simp [ne_b359_b374])
      have E_388 := A374.keep K383
      have Z_389 : n0 ≤ T383.heap.size := Nat.le_trans Z_379 K383.1
      have nr_b318_383 : b318 ≠ y383 := Nat.ne_of_lt (Nat.lt_of_lt_of_le A_375.lt sz383)
      have nr_b326_383 : b326 ≠ y383 := Nat.ne_of_lt (Nat.lt_of_lt_of_le A_376.lt sz383)
      have nr_b335_383 : b335 ≠ y383 := Nat.ne_of_lt (Nat.lt_of_lt_of_le A_377.lt sz383)
      have nr_b359_383 : b359 ≠ y383 := Nat.ne_of_lt (Nat.lt_of_lt_of_le A_378.lt sz383)
      have nr_b374_383 : b374 ≠ y383 := Nat.ne_of_lt (Nat.lt_of_lt_of_le A374.lt sz383)
      have hl383 : (List.replicate (α := Value) cp.toNatClampNeg (.int (0 : Int32))).length + 0 = cp.toNatClampNeg := by rw [List.length_replicate]; rfl
      change own_G p e below _ _ (mkF m 240 _ [(.ref b374)])
      refine own_astore (n := 242) (l' := #[.val (.int p0), .val (.long q), .second, .val (.int p2), .val (.int cp), .val (.int (1 : Int32)), .val (.int (0 : Int32)), .val (.int q0), .val (.int q1), .val (.int q2), .val (.int q3), .val (.int q4), .val (.ref b318), .val (.ref b326), .val (.ref b335), .val (.int (5 : Int32)), .val (.ref b359), .val (.ref b374), .unset, .unset, .unset, .unset, .unset, .unset]) X383 hx (hb hby at_240) rfl rfl rfl ?_
      refine own_iload (n := 244) X383 hx (hb hby at_242) rfl rfl ?_
      refine own_ifNo (n := 247) X383 hx (hb hby at_244) (feq (by decide : ¬ ((1 : Int32) = (0 : Int32)))).1 rfl ?_
      refine own_aload (n := 249) X383 hx (hb hby at_247) rfl rfl rfl ?_
      refine own_V (n := 252) (argsL := []) (rest := []) (a := b374) X383 hx hZ hown (own_rm_startArray_0_0 l Z a0 hw b374 y383 k383 cp (List.replicate (α := Value) cp.toNatClampNeg (.int (0 : Int32))) T383.heap n0 Z_389 E_388 Fb383 Fl383 Fa383 Vb383 Ec383 hl383 hcap.2.2 g_b374 gb383) (ww12 hw) (ww13 hw) (notFace_of_selects (args := #[]) (mvT hZ (ww15 hw))) (ww15 hw) (ww14 hw) (ww3 hw) (ww16 hw) (by decide) rfl E_388 (by rw [hml]; rfl) (lenOf own_pd1 rfl) rfl (hb hby at_249) (Nat.le_of_ble_eq_true rfl) (Nat.le_of_ble_eq_true rfl) (Nat.le_of_ble_eq_true rfl) (Nat.le_of_ble_eq_true rfl) rfl ?_
      rintro v390 T390 L390 X390 ⟨y390, k390, M390, r390, rfl, Nq390, K390, Eq390, Fb390, Fl390, Fa390, Vb390, Ec390, hl390, hN390, hq390, gb390⟩
      have N390 := Fr.app N383 Nq390
      have A_391 := A_384.keep K390 (by simp [ne_b318_b374, nr_b318_383])
      have A_392 := A_385.keep K390 (by simp [ne_b326_b374, nr_b326_383])
      have A_393 := A_386.keep K390 (by simp [ne_b335_b374, nr_b335_383])
      have A_394 := A_387.keep K390 (by simp [ne_b359_b374, nr_b359_383])
      have E_395 := E_388.keep K390
      have E_396 := Ec383.keep K390
      have Z_397 : n0 ≤ T390.heap.size := Nat.le_trans Z_389 K390.1
      have nw_b318_390 : b318 ≠ y390 := own_neOr hq390 nr_b318_383 A_384.lt
      have nw_b326_390 : b326 ≠ y390 := own_neOr hq390 nr_b326_383 A_385.lt
      have nw_b335_390 : b335 ≠ y390 := own_neOr hq390 nr_b335_383 A_386.lt
      have nw_b359_390 : b359 ≠ y390 := own_neOr hq390 nr_b359_383 A_387.lt
      change own_G p e below _ _ (mkF m 252 _ [])
      refine own_aload (n := 254) X390 hx (hb hby at_252) rfl rfl rfl ?_
      refine own_aload (n := 256) X390 hx (hb hby at_254) rfl rfl rfl ?_
      refine own_V (n := 259) (argsL := [(.ref b318)]) (rest := []) (a := b374) X390 hx hZ hown (own_rm_val_1_0_3 l Z a0 hw b374 y390 k390 M390 r390 (91 : Int32) b318 k318 q0 q1 q2 T390.heap n0 Z_397 E_395 Fb390 Fl390 Fa390 Vb390 Ec390 hl390 hN390 g_b374 gb390 A_391 (nw_b318_390)) (ww52 hw) (ww53 hw) (notFace_of_selects (args := #[]) (mvT hZ (ww55 hw))) (ww55 hw) (ww54 hw) (ww3 hw) (ww56 hw) (by decide) rfl E_395 (by rw [hml]; rfl) (lenOf own_pd4 rfl) rfl (hb hby at_256) (Nat.le_of_ble_eq_true rfl) (Nat.le_of_ble_eq_true rfl) (Nat.le_of_ble_eq_true rfl) (Nat.le_of_ble_eq_true rfl) rfl ?_
      rintro v398 T398 L398 X398 ⟨y398, k398, M398, r398, rfl, Nq398, K398, Eq398, Fb398, Fl398, Fa398, Vb398, Ec398, hl398, hN398, hq398, gb398⟩
      have N398 := Fr.app N390 Nq398
      have A_399 := A_391.keep K398 (by simp [ne_b318_b374, nw_b318_390])
      have A_400 := A_392.keep K398 (by simp [ne_b326_b374, nw_b326_390])
      have A_401 := A_393.keep K398 (by simp [ne_b335_b374, nw_b335_390])
      have A_402 := A_394.keep K398 (by simp [ne_b359_b374, nw_b359_390])
      have E_403 := E_395.keep K398
      have E_404 := Ec390.keep K398
      have Z_405 : n0 ≤ T398.heap.size := Nat.le_trans Z_397 K398.1
      have nw_b318_398 : b318 ≠ y398 := own_neOr hq398 nw_b318_390 A_391.lt
      have nw_b326_398 : b326 ≠ y398 := own_neOr hq398 nw_b326_390 A_392.lt
      have nw_b335_398 : b335 ≠ y398 := own_neOr hq398 nw_b335_390 A_393.lt
      have nw_b359_398 : b359 ≠ y398 := own_neOr hq398 nw_b359_390 A_394.lt
      change own_G p e below _ _ (mkF m 259 _ [])
      refine own_iload (n := 261) X398 hx (hb hby at_259) rfl rfl ?_
      refine own_ifYes (n := 271) X398 hx (hb hby at_261) (teq (by decide : (0 : Int32) = (0 : Int32))).1 (by decide) (by decide) ?_
      refine own_iload (n := 273) X398 hx (hb hby at_271) rfl rfl ?_
      refine own_ifNo (n := 276) X398 hx (hb hby at_273) (feq (by decide : ¬ ((1 : Int32) = (0 : Int32)))).1 rfl ?_
      refine own_aload (n := 278) X398 hx (hb hby at_276) rfl rfl rfl ?_
      refine own_V (n := 281) (argsL := []) (rest := []) (a := b374) X398 hx hZ hown (own_rm_endArray_4_1 l Z a0 hw b374 y398 k398 M398 r398 (91 : Int32) q0 q1 q2 T398.heap n0 Z_405 E_403 Fb398 Fl398 Fa398 Vb398 Ec398 hl398 hN398 g_b374 gb398) (ww62 hw) (ww63 hw) (notFace_of_selects (args := #[]) (mvT hZ (ww65 hw))) (ww65 hw) (ww64 hw) (ww3 hw) (ww66 hw) (by decide) rfl E_403 (by rw [hml]; rfl) (lenOf own_pd1 rfl) rfl (hb hby at_278) (Nat.le_of_ble_eq_true rfl) (Nat.le_of_ble_eq_true rfl) (Nat.le_of_ble_eq_true rfl) (Nat.le_of_ble_eq_true rfl) rfl ?_
      rintro v406 T406 L406 X406 ⟨y406, k406, M406, r406, rfl, Nq406, K406, Eq406, Fb406, Fl406, Fa406, Vb406, Ec406, hl406, hN406, hq406, gb406⟩
      have N406 := Fr.app N398 Nq406
      have A_407 := A_399.keep K406 (by simp [ne_b318_b374, nw_b318_398])
      have A_408 := A_400.keep K406 (by simp [ne_b326_b374, nw_b326_398])
      have A_409 := A_401.keep K406 (by simp [ne_b335_b374, nw_b335_398])
      have A_410 := A_402.keep K406 (by simp [ne_b359_b374, nw_b359_398])
      have E_411 := E_403.keep K406
      have E_412 := Ec398.keep K406
      have Z_413 : n0 ≤ T406.heap.size := Nat.le_trans Z_405 K406.1
      have nw_b318_406 : b318 ≠ y406 := own_neOr hq406 nw_b318_398 A_399.lt
      have nw_b326_406 : b326 ≠ y406 := own_neOr hq406 nw_b326_398 A_400.lt
      have nw_b335_406 : b335 ≠ y406 := own_neOr hq406 nw_b335_398 A_401.lt
      have nw_b359_406 : b359 ≠ y406 := own_neOr hq406 nw_b359_398 A_402.lt
      change own_G p e below _ _ (mkF m 281 _ [])
      refine own_aload (n := 283) X406 hx (hb hby at_281) rfl rfl rfl ?_
      refine own_V (n := 286) (argsL := []) (rest := []) (a := b374) X406 hx hZ hown (own_rm_tba_5 l Z a0 hw b374 y406 k406 M406 r406 (1 : Int32) (91 : Int32) q0 q1 q2 (93 : Int32) T406.heap n0 Z_413 E_411 Fb406 Fl406 Fa406 Vb406 Ec406 hl406 hN406 g_b374 gb406) (ww71 hw) (ww72 hw) (notFace_of_selects (args := #[]) (mvT hZ (ww74 hw))) (ww74 hw) (ww73 hw) (ww3 hw) (ww75 hw) (by decide) rfl E_411 (by rw [hml]; rfl) (lenOf own_pd5 rfl) rfl (hb hby at_283) (Nat.le_of_ble_eq_true rfl) (Nat.le_of_ble_eq_true rfl) (Nat.le_of_ble_eq_true rfl) (Nat.le_of_ble_eq_true rfl) rfl ?_
      rintro v414 T414 L414 X414 ⟨y414, k414, rfl, Nq414, K414, sz414, gb414, Vb414⟩
      have N414 := Fr.app N406 Nq414
      have A_415 := A_407.keep K414 (by simp)
      have A_416 := A_408.keep K414 (by simp)
      have A_417 := A_409.keep K414 (by simp)
      have A_418 := A_410.keep K414 (by simp)
      have E_419 := E_411.keep K414
      have F_420 := Fb406.keep K414 (by simp)
      have F_421 := Fl406.keep K414 (by simp)
      have F_422 := Fa406.keep K414 (by simp)
      have A_423 := Vb406.keep K414 (by simp)
      have E_424 := Ec406.keep K414
      have Z_425 : n0 ≤ T414.heap.size := Nat.le_trans Z_413 K414.1
      have nr_b318_414 : b318 ≠ y414 := Nat.ne_of_lt (Nat.lt_of_lt_of_le A_407.lt sz414)
      have nr_b326_414 : b326 ≠ y414 := Nat.ne_of_lt (Nat.lt_of_lt_of_le A_408.lt sz414)
      have nr_b335_414 : b335 ≠ y414 := Nat.ne_of_lt (Nat.lt_of_lt_of_le A_409.lt sz414)
      have nr_b359_414 : b359 ≠ y414 := Nat.ne_of_lt (Nat.lt_of_lt_of_le A_410.lt sz414)
      have nr_b374_414 : b374 ≠ y414 := Nat.ne_of_lt (Nat.lt_of_lt_of_le E_411.lt sz414)
      have nr_y406_414 : y406 ≠ y414 := Nat.ne_of_lt (Nat.lt_of_lt_of_le Vb406.lt sz414)
      change own_G p e below _ _ (mkF m 286 _ [(.ref y414)])
      refine own_astore (n := 288) (l' := #[.val (.int p0), .val (.long q), .second, .val (.int p2), .val (.int cp), .val (.int (1 : Int32)), .val (.int (0 : Int32)), .val (.int q0), .val (.int q1), .val (.int q2), .val (.int q3), .val (.int q4), .val (.ref b318), .val (.ref b326), .val (.ref b335), .val (.int (5 : Int32)), .val (.ref b359), .val (.ref b374), .val (.ref y414), .unset, .unset, .unset, .unset, .unset]) X414 hx (hb hby at_286) rfl rfl rfl ?_
      refine own_aload (n := 290) X414 hx (hb hby at_288) rfl rfl rfl ?_
      refine own_aload (n := 292) X414 hx (hb hby at_290) rfl rfl rfl ?_
      refine own_iload (n := 294) X414 hx (hb hby at_292) rfl rfl ?_
      refine own_S (n := 297) (argsL := [(.ref y414), (.ref b335), (.int (5 : Int32))]) (rest := []) X414 hx hZ hown (own_rm_same_5 l Z a0 hw y414 b335 k414 k335 (91 : Int32) q0 q1 q2 (93 : Int32) (0 : Int32) (0 : Int32) (0 : Int32) T414.heap n0 Z_425 Vb414 A_417) (ww76 hw) (ww77 hw) (ww78 hw) (ww79 hw) (by decide) rfl (by rw [hml]; rfl) (lenOf own_pd7 rfl) rfl (hb hby at_294) (Nat.le_of_ble_eq_true rfl) (Nat.le_of_ble_eq_true rfl) (Nat.le_of_ble_eq_true rfl) (Nat.le_of_ble_eq_true rfl) rfl ?_
      rintro v426 T426 L426 X426 ⟨rfl, Nq426, eq426⟩
      have N426 := Fr.app N414 Nq426
      change own_G p e below _ _ (mkF m 297 _ [(.int (1 : Int32))])
      refine own_istore (n := 299) (l' := #[.val (.int p0), .val (.long q), .second, .val (.int p2), .val (.int cp), .val (.int (1 : Int32)), .val (.int (0 : Int32)), .val (.int q0), .val (.int q1), .val (.int q2), .val (.int q3), .val (.int q4), .val (.ref b318), .val (.ref b326), .val (.ref b335), .val (.int (5 : Int32)), .val (.ref b359), .val (.ref b374), .val (.ref y414), .val (.int (1 : Int32)), .unset, .unset, .unset, .unset]) X426 hx (hb hby at_297) rfl rfl ?_
      refine own_aload (n := 301) X426 hx (hb hby at_299) rfl rfl rfl ?_
      refine own_ifnullNo (n := 304) X426 hx (hb hby at_301) rfl ?_
      refine own_aload (n := 306) X426 hx (hb hby at_304) rfl rfl rfl ?_
      refine own_len (n := 307) X426 hx hZ eq426 Vb414 (hb hby at_306) rfl ?_
      refine own_ifNo (n := 310) X426 hx (hb hby at_307) (tlt (by decide : (0 : Int32) < (5 : Int32))).2.2.2 rfl ?_
      refine own_aload (n := 312) X426 hx (hb hby at_310) rfl rfl rfl ?_
      refine own_iconst (n := 313) (z := (0 : Int32)) X426 hx (hb hby at_312) rfl rfl ?_
      refine own_aload (n := 315) X426 hx (hb hby at_313) rfl rfl rfl ?_
      refine own_iconst (n := 316) (z := (0 : Int32)) X426 hx (hb hby at_315) rfl rfl ?_
      refine own_ld_baload (n := 317) (v := (.int (91 : Int32))) X426 hx hZ eq426 Vb414 ⟨by decide, by decide⟩ rfl (hb hby at_316) rfl ?_
      refine own_iconst (n := 318) (z := (1 : Int32)) X426 hx (hb hby at_317) rfl rfl ?_
      refine own_ixor (n := 319) (z := (90 : Int32)) X426 hx (hb hby at_318) rfl rfl ?_
      refine own_i2b (n := 320) (z := (90 : Int32)) X426 hx (hb hby at_319) rfl rfl ?_
      refine own_st_bastore (n := 321) X426 hx hZ eq426 Vb414 ⟨by decide, by decide⟩ 0 rfl (Nat.le_of_ble_eq_true rfl) (hb hby at_320) rfl ?_
      intro T427 h427 X427 e427 W427 V427q
      have V427 : Arv Z h427 y414 k414 .byte (5 : Int32) [(.int (90 : Int32)), (.int q0), (.int q1), (.int q2), (.int (93 : Int32))] (.int (0 : Int32)) := V427q
      have N427 := Fr.snoc X427 N426 gb414
      have A_428 := A_415.other W427 nr_b318_414
      have A_429 := A_416.other W427 nr_b326_414
      have A_430 := A_417.other W427 nr_b335_414
      have A_431 := A_418.other W427 nr_b359_414
      have E_432 := E_419.wr W427
      have F_433 := F_420.other W427 (Or.inl nr_b374_414)
      have F_434 := F_421.other W427 (Or.inl nr_b374_414)
      have F_435 := F_422.other W427 (Or.inl nr_b374_414)
      have A_436 := A_423.other W427 nr_y406_414
      have E_437 := E_424.wr W427
      have Z_438 : n0 ≤ h427.size := by rw [W427.size]; exact Z_425
      refine own_aload (n := 323) X427 hx (hb hby at_321) rfl rfl rfl ?_
      refine own_V (n := 326) (argsL := []) (rest := []) (a := b374) X427 hx hZ hown (own_rm_tba_5 l Z a0 hw b374 y406 k406 M406 r406 (1 : Int32) (91 : Int32) q0 q1 q2 (93 : Int32) h427 n0 Z_438 E_432 F_433 F_434 F_435 A_436 E_437 hl406 hN406 g_b374 gb406) (ww71 hw) (ww72 hw) (notFace_of_selects (args := #[]) (mvT hZ (ww74 hw))) (ww74 hw) (ww73 hw) (ww3 hw) (ww75 hw) (by decide) e427 E_432 (by rw [hml]; rfl) (lenOf own_pd5 rfl) rfl (hb hby at_323) (Nat.le_of_ble_eq_true rfl) (Nat.le_of_ble_eq_true rfl) (Nat.le_of_ble_eq_true rfl) (Nat.le_of_ble_eq_true rfl) rfl ?_
      rintro v439 T439 L439 X439 ⟨y439, k439, rfl, Nq439, K439, sz439, gb439, Vb439⟩
      have N439 := Fr.app N427 Nq439
      have A_440 := A_428.keep K439 (by simp)
      have A_441 := A_429.keep K439 (by simp)
      have A_442 := A_430.keep K439 (by simp)
      have A_443 := A_431.keep K439 (by simp)
      have E_444 := E_432.keep K439
      have F_445 := F_433.keep K439 (by simp)
      have F_446 := F_434.keep K439 (by simp)
      have F_447 := F_435.keep K439 (by simp)
      have A_448 := A_436.keep K439 (by simp)
      have E_449 := E_437.keep K439
      have A_450 := V427.keep K439 (by simp)
      have Z_451 : n0 ≤ T439.heap.size := Nat.le_trans Z_438 K439.1
      have nr_b318_439 : b318 ≠ y439 := Nat.ne_of_lt (Nat.lt_of_lt_of_le A_428.lt sz439)
      have nr_b326_439 : b326 ≠ y439 := Nat.ne_of_lt (Nat.lt_of_lt_of_le A_429.lt sz439)
      have nr_b335_439 : b335 ≠ y439 := Nat.ne_of_lt (Nat.lt_of_lt_of_le A_430.lt sz439)
      have nr_b359_439 : b359 ≠ y439 := Nat.ne_of_lt (Nat.lt_of_lt_of_le A_431.lt sz439)
      have nr_b374_439 : b374 ≠ y439 := Nat.ne_of_lt (Nat.lt_of_lt_of_le E_432.lt sz439)
      have nr_y406_439 : y406 ≠ y439 := Nat.ne_of_lt (Nat.lt_of_lt_of_le A_436.lt sz439)
      have nr_y414_439 : y414 ≠ y439 := Nat.ne_of_lt (Nat.lt_of_lt_of_le V427.lt sz439)
      change own_G p e below _ _ (mkF m 326 _ [(.ref y439)])
      refine own_astore (n := 328) (l' := #[.val (.int p0), .val (.long q), .second, .val (.int p2), .val (.int cp), .val (.int (1 : Int32)), .val (.int (0 : Int32)), .val (.int q0), .val (.int q1), .val (.int q2), .val (.int q3), .val (.int q4), .val (.ref b318), .val (.ref b326), .val (.ref b335), .val (.int (5 : Int32)), .val (.ref b359), .val (.ref b374), .val (.ref y414), .val (.int (1 : Int32)), .val (.ref y439), .unset, .unset, .unset]) X439 hx (hb hby at_326) rfl rfl rfl ?_
      refine own_aload (n := 330) X439 hx (hb hby at_328) rfl rfl rfl ?_
      refine own_aload (n := 332) X439 hx (hb hby at_330) rfl rfl rfl ?_
      refine own_iload (n := 334) X439 hx (hb hby at_332) rfl rfl ?_
      refine own_S (n := 337) (argsL := [(.ref y439), (.ref b335), (.int (5 : Int32))]) (rest := []) X439 hx hZ hown (own_rm_same_5 l Z a0 hw y439 b335 k439 k335 (91 : Int32) q0 q1 q2 (93 : Int32) (0 : Int32) (0 : Int32) (0 : Int32) T439.heap n0 Z_451 Vb439 A_442) (ww76 hw) (ww77 hw) (ww78 hw) (ww79 hw) (by decide) rfl (by rw [hml]; rfl) (lenOf own_pd7 rfl) rfl (hb hby at_334) (Nat.le_of_ble_eq_true rfl) (Nat.le_of_ble_eq_true rfl) (Nat.le_of_ble_eq_true rfl) (Nat.le_of_ble_eq_true rfl) rfl ?_
      rintro v452 T452 L452 X452 ⟨rfl, Nq452, eq452⟩
      have N452 := Fr.app N439 Nq452
      change own_G p e below _ _ (mkF m 337 _ [(.int (1 : Int32))])
      refine own_istore (n := 339) (l' := #[.val (.int p0), .val (.long q), .second, .val (.int p2), .val (.int cp), .val (.int (1 : Int32)), .val (.int (0 : Int32)), .val (.int q0), .val (.int q1), .val (.int q2), .val (.int q3), .val (.int q4), .val (.ref b318), .val (.ref b326), .val (.ref b335), .val (.int (5 : Int32)), .val (.ref b359), .val (.ref b374), .val (.ref y414), .val (.int (1 : Int32)), .val (.ref y439), .val (.int (1 : Int32)), .unset, .unset]) X452 hx (hb hby at_337) rfl rfl ?_
      refine own_aload (n := 341) X452 hx (hb hby at_339) rfl rfl rfl ?_
      refine own_V (n := 344) (argsL := []) (rest := []) (a := b374) X452 hx hZ hown (own_rm_clear l Z a0 hw b374 y406 (5 : Int32) (1 : Int32) T439.heap n0 Z_451 E_444 F_446 F_447 F_445 g_b374) (ww83 hw) (ww84 hw) (notFace_of_selects (args := #[]) (mvT hZ (ww86 hw))) (ww86 hw) (ww85 hw) (ww3 hw) (ww87 hw) (by decide) eq452 E_444 (by rw [hml]; rfl) (lenOf own_pd1 rfl) rfl (hb hby at_341) (Nat.le_of_ble_eq_true rfl) (Nat.le_of_ble_eq_true rfl) (Nat.le_of_ble_eq_true rfl) (Nat.le_of_ble_eq_true rfl) rfl ?_
      rintro v453 T453 L453 X453 ⟨rfl, Nq453, K453, Eq453, Fb453, Fl453, Fa453⟩
      have N453 := Fr.app N452 Nq453
      have A_454 := A_440.keep K453 (by simp [ne_b318_b374])
      have A_455 := A_441.keep K453 (by simp [ne_b326_b374])
      have A_456 := A_442.keep K453 (by simp [ne_b335_b374])
      have A_457 := A_443.keep K453 (by simp [ne_b359_b374])
      have E_458 := E_444.keep K453
      have A_459 := A_448.keep K453 (by simp [(Ne.symm (own_neEA E_444 (ww2 hw) A_448))])
      have E_460 := E_449.keep K453
      have A_461 := A_450.keep K453 (by simp [(Ne.symm nr_b374_414)])
      have A_462 := Vb439.keep K453 (by simp [(Ne.symm nr_b374_439)])
      have Z_463 : n0 ≤ T453.heap.size := Nat.le_trans Z_451 K453.1
      have hl453 : ((.int (91 : Int32)) :: (.int q0) :: (.int q1) :: (.int q2) :: (.int (93 : Int32)) :: r406).length + 0 = M406.toNatClampNeg := by have q := hl406; (try simp only [List.length_cons]); omega
      change own_G p e below _ _ (mkF m 344 _ [])
      refine own_aload (n := 346) X453 hx (hb hby at_344) rfl rfl rfl ?_
      refine own_aload (n := 348) X453 hx (hb hby at_346) rfl rfl rfl ?_
      refine own_V (n := 351) (argsL := [(.ref b326)]) (rest := []) (a := b374) X453 hx hZ hown (own_rm_val_0_0_2 l Z a0 hw b374 y406 k406 M406 ((.int (91 : Int32)) :: (.int q0) :: (.int q1) :: (.int q2) :: (.int (93 : Int32)) :: r406) b326 k326 q3 q4 T453.heap n0 Z_463 E_458 Fb453 Fl453 Fa453 A_459 E_460 hl453 hN406 g_b374 gb406 A_455 (nw_b326_406)) (ww52 hw) (ww53 hw) (notFace_of_selects (args := #[]) (mvT hZ (ww55 hw))) (ww55 hw) (ww54 hw) (ww3 hw) (ww56 hw) (by decide) rfl E_458 (by rw [hml]; rfl) (lenOf own_pd4 rfl) rfl (hb hby at_348) (Nat.le_of_ble_eq_true rfl) (Nat.le_of_ble_eq_true rfl) (Nat.le_of_ble_eq_true rfl) (Nat.le_of_ble_eq_true rfl) rfl ?_
      rintro v464 T464 L464 X464 ⟨y464, k464, M464, r464, rfl, Nq464, K464, Eq464, Fb464, Fl464, Fa464, Vb464, Ec464, hl464, hN464, hq464, gb464⟩
      have N464 := Fr.app N453 Nq464
      have A_465 := A_454.keep K464 (by simp [ne_b318_b374, nw_b318_406])
      have A_466 := A_455.keep K464 (by simp [ne_b326_b374, nw_b326_406])
      have A_467 := A_456.keep K464 (by simp [ne_b335_b374, nw_b335_406])
      have A_468 := A_457.keep K464 (by simp [ne_b359_b374, nw_b359_406])
      have E_469 := E_458.keep K464
      have E_470 := E_460.keep K464
      have A_471 := A_461.keep K464 (by simp [(Ne.symm nr_b374_414), (Ne.symm nr_y406_414)])
      have A_472 := A_462.keep K464 (by simp [(Ne.symm nr_b374_439), (Ne.symm nr_y406_439)])
      have Z_473 : n0 ≤ T464.heap.size := Nat.le_trans Z_463 K464.1
      have nw_b318_464 : b318 ≠ y464 := own_neOr hq464 nw_b318_406 A_454.lt
      have nw_b326_464 : b326 ≠ y464 := own_neOr hq464 nw_b326_406 A_455.lt
      have nw_b335_464 : b335 ≠ y464 := own_neOr hq464 nw_b335_406 A_456.lt
      have nw_b359_464 : b359 ≠ y464 := own_neOr hq464 nw_b359_406 A_457.lt
      have nw_y414_464 : y414 ≠ y464 := own_neOr hq464 (Ne.symm nr_y406_414) A_461.lt
      have nw_y439_464 : y439 ≠ y464 := own_neOr hq464 (Ne.symm nr_y406_439) A_462.lt
      change own_G p e below _ _ (mkF m 351 _ [])
      refine own_aload (n := 353) X464 hx (hb hby at_351) rfl rfl rfl ?_
      refine own_V (n := 356) (argsL := []) (rest := []) (a := b374) X464 hx hZ hown (own_rm_tba_2 l Z a0 hw b374 y464 k464 M464 r464 (1 : Int32) q3 q4 T464.heap n0 Z_473 E_469 Fb464 Fl464 Fa464 Vb464 Ec464 hl464 hN464 g_b374 gb464) (ww71 hw) (ww72 hw) (notFace_of_selects (args := #[]) (mvT hZ (ww74 hw))) (ww74 hw) (ww73 hw) (ww3 hw) (ww75 hw) (by decide) rfl E_469 (by rw [hml]; rfl) (lenOf own_pd5 rfl) rfl (hb hby at_353) (Nat.le_of_ble_eq_true rfl) (Nat.le_of_ble_eq_true rfl) (Nat.le_of_ble_eq_true rfl) (Nat.le_of_ble_eq_true rfl) rfl ?_
      rintro v474 T474 L474 X474 ⟨y474, k474, rfl, Nq474, K474, sz474, gb474, Vb474⟩
      have N474 := Fr.app N464 Nq474
      have A_475 := A_465.keep K474 (by simp)
      have A_476 := A_466.keep K474 (by simp)
      have A_477 := A_467.keep K474 (by simp)
      have A_478 := A_468.keep K474 (by simp)
      have E_479 := E_469.keep K474
      have A_480 := A_471.keep K474 (by simp)
      have A_481 := A_472.keep K474 (by simp)
      have F_482 := Fb464.keep K474 (by simp)
      have F_483 := Fl464.keep K474 (by simp)
      have F_484 := Fa464.keep K474 (by simp)
      have A_485 := Vb464.keep K474 (by simp)
      have E_486 := Ec464.keep K474
      have Z_487 : n0 ≤ T474.heap.size := Nat.le_trans Z_473 K474.1
      have nr_b318_474 : b318 ≠ y474 := Nat.ne_of_lt (Nat.lt_of_lt_of_le A_465.lt sz474)
      have nr_b326_474 : b326 ≠ y474 := Nat.ne_of_lt (Nat.lt_of_lt_of_le A_466.lt sz474)
      have nr_b335_474 : b335 ≠ y474 := Nat.ne_of_lt (Nat.lt_of_lt_of_le A_467.lt sz474)
      have nr_b359_474 : b359 ≠ y474 := Nat.ne_of_lt (Nat.lt_of_lt_of_le A_468.lt sz474)
      have nr_b374_474 : b374 ≠ y474 := Nat.ne_of_lt (Nat.lt_of_lt_of_le E_469.lt sz474)
      have nr_y414_474 : y414 ≠ y474 := Nat.ne_of_lt (Nat.lt_of_lt_of_le A_471.lt sz474)
      have nr_y439_474 : y439 ≠ y474 := Nat.ne_of_lt (Nat.lt_of_lt_of_le A_472.lt sz474)
      have nr_y464_474 : y464 ≠ y474 := Nat.ne_of_lt (Nat.lt_of_lt_of_le Vb464.lt sz474)
      change own_G p e below _ _ (mkF m 356 _ [(.ref y474)])
      refine own_astore (n := 358) (l' := #[.val (.int p0), .val (.long q), .second, .val (.int p2), .val (.int cp), .val (.int (1 : Int32)), .val (.int (0 : Int32)), .val (.int q0), .val (.int q1), .val (.int q2), .val (.int q3), .val (.int q4), .val (.ref b318), .val (.ref b326), .val (.ref b335), .val (.int (5 : Int32)), .val (.ref b359), .val (.ref b374), .val (.ref y414), .val (.int (1 : Int32)), .val (.ref y439), .val (.int (1 : Int32)), .val (.ref y474), .unset]) X474 hx (hb hby at_356) rfl rfl rfl ?_
      refine own_aload (n := 360) X474 hx (hb hby at_358) rfl rfl rfl ?_
      refine own_aload (n := 362) X474 hx (hb hby at_360) rfl rfl rfl ?_
      refine own_iconst (n := 363) (z := (2 : Int32)) X474 hx (hb hby at_362) rfl rfl ?_
      refine own_S (n := 366) (argsL := [(.ref y474), (.ref b359), (.int (2 : Int32))]) (rest := []) X474 hx hZ hown (own_rm_same_2 l Z a0 hw y474 b359 k474 k359 q3 q4 (0 : Int32) (0 : Int32) (0 : Int32) (0 : Int32) (0 : Int32) (0 : Int32) T474.heap n0 Z_487 Vb474 A_478) (ww76 hw) (ww77 hw) (ww78 hw) (ww79 hw) (by decide) rfl (by rw [hml]; rfl) (lenOf own_pd7 rfl) rfl (hb hby at_363) (Nat.le_of_ble_eq_true rfl) (Nat.le_of_ble_eq_true rfl) (Nat.le_of_ble_eq_true rfl) (Nat.le_of_ble_eq_true rfl) rfl ?_
      rintro v488 T488 L488 X488 ⟨rfl, Nq488, eq488⟩
      have N488 := Fr.app N474 Nq488
      change own_G p e below _ _ (mkF m 366 _ [(.int (1 : Int32))])
      refine own_istore (n := 368) (l' := #[.val (.int p0), .val (.long q), .second, .val (.int p2), .val (.int cp), .val (.int (1 : Int32)), .val (.int (0 : Int32)), .val (.int q0), .val (.int q1), .val (.int q2), .val (.int q3), .val (.int q4), .val (.ref b318), .val (.ref b326), .val (.ref b335), .val (.int (5 : Int32)), .val (.ref b359), .val (.ref b374), .val (.ref y414), .val (.int (1 : Int32)), .val (.ref y439), .val (.int (1 : Int32)), .val (.ref y474), .val (.int (1 : Int32))]) X488 hx (hb hby at_366) rfl rfl ?_
      refine own_iload (n := 370) X488 hx (hb hby at_368) rfl rfl ?_
      refine own_ifNo (n := 373) X488 hx (hb hby at_370) (feq (by decide : ¬ ((1 : Int32) = (0 : Int32)))).1 rfl ?_
      refine own_iload (n := 375) X488 hx (hb hby at_373) rfl rfl ?_
      refine own_ifNo (n := 378) X488 hx (hb hby at_375) (feq (by decide : ¬ ((1 : Int32) = (0 : Int32)))).1 rfl ?_
      refine own_iload (n := 380) X488 hx (hb hby at_378) rfl rfl ?_
      refine own_ifNo (n := 383) X488 hx (hb hby at_380) (feq (by decide : ¬ ((1 : Int32) = (0 : Int32)))).1 rfl ?_
      refine own_iconst (n := 384) (z := (1 : Int32)) X488 hx (hb hby at_383) rfl rfl ?_
      refine own_goto (n := 388) X488 hx (hb hby at_384) (by decide) (by decide) ?_
      refine own_retZ X488 hx hlk hret (by simp) eq488 (w := (1 : Int32)) rfl (hb hby at_388) (by decide) (by decide) ?_
      exact ⟨rfl, N488⟩
    · skip
      refine own_ifNo (n := 25) X0 hx (hb hby at_22) (feq hc22_317).1 rfl ?_
      refine own_iconst (n := 26) (z := (1 : Int32)) X0 hx (hb hby at_25) rfl rfl ?_
      refine own_goto (n := 30) X0 hx (hb hby at_26) (by decide) (by decide) ?_
      refine own_istore (n := 32) (l' := #[.val (.int p0), .val (.long q), .second, .val (.int p2), .val (.int (p0 &&& (15 : Int32))), .val (.int (1 : Int32)), .val (.int (1 : Int32)), .unset, .unset, .unset, .unset, .unset, .unset, .unset, .unset, .unset, .unset, .unset, .unset, .unset, .unset, .unset, .unset, .unset]) X0 hx (hb hby at_30) rfl rfl ?_
      refine own_lloadN (n := 33) X0 hx (hb hby at_32) rfl rfl ?_
      refine own_l2i (n := 34) X0 hx (hb hby at_33) rfl rfl ?_
      refine own_i2b (n := 35) X0 hx (hb hby at_34) rfl rfl ?_
      refine own_istore (n := 37) (l' := #[.val (.int p0), .val (.long q), .second, .val (.int p2), .val (.int (p0 &&& (15 : Int32))), .val (.int (1 : Int32)), .val (.int (1 : Int32)), .val (.int ((q).toInt32).toInt8.toInt32), .unset, .unset, .unset, .unset, .unset, .unset, .unset, .unset, .unset, .unset, .unset, .unset, .unset, .unset, .unset, .unset]) X0 hx (hb hby at_35) rfl rfl ?_
      refine own_lloadN (n := 38) X0 hx (hb hby at_37) rfl rfl ?_
      refine own_bipush (n := 40) (z := (8 : Int32)) X0 hx (hb hby at_38) rfl rfl ?_
      refine own_lushr (n := 41) X0 hx (hb hby at_40) rfl rfl ?_
      refine own_l2i (n := 42) X0 hx (hb hby at_41) rfl rfl ?_
      refine own_i2b (n := 43) X0 hx (hb hby at_42) rfl rfl ?_
      refine own_istore (n := 45) (l' := #[.val (.int p0), .val (.long q), .second, .val (.int p2), .val (.int (p0 &&& (15 : Int32))), .val (.int (1 : Int32)), .val (.int (1 : Int32)), .val (.int ((q).toInt32).toInt8.toInt32), .val (.int ((((q).toUInt64 >>> ((8 : Int32) &&& 63).toInt64.toUInt64).toInt64).toInt32).toInt8.toInt32), .unset, .unset, .unset, .unset, .unset, .unset, .unset, .unset, .unset, .unset, .unset, .unset, .unset, .unset, .unset]) X0 hx (hb hby at_43) rfl rfl ?_
      refine own_lloadN (n := 46) X0 hx (hb hby at_45) rfl rfl ?_
      refine own_bipush (n := 48) (z := (16 : Int32)) X0 hx (hb hby at_46) rfl rfl ?_
      refine own_lushr (n := 49) X0 hx (hb hby at_48) rfl rfl ?_
      refine own_l2i (n := 50) X0 hx (hb hby at_49) rfl rfl ?_
      refine own_i2b (n := 51) X0 hx (hb hby at_50) rfl rfl ?_
      refine own_istore (n := 53) (l' := #[.val (.int p0), .val (.long q), .second, .val (.int p2), .val (.int (p0 &&& (15 : Int32))), .val (.int (1 : Int32)), .val (.int (1 : Int32)), .val (.int ((q).toInt32).toInt8.toInt32), .val (.int ((((q).toUInt64 >>> ((8 : Int32) &&& 63).toInt64.toUInt64).toInt64).toInt32).toInt8.toInt32), .val (.int ((((q).toUInt64 >>> ((16 : Int32) &&& 63).toInt64.toUInt64).toInt64).toInt32).toInt8.toInt32), .unset, .unset, .unset, .unset, .unset, .unset, .unset, .unset, .unset, .unset, .unset, .unset, .unset, .unset]) X0 hx (hb hby at_51) rfl rfl ?_
      refine own_lloadN (n := 54) X0 hx (hb hby at_53) rfl rfl ?_
      refine own_bipush (n := 56) (z := (24 : Int32)) X0 hx (hb hby at_54) rfl rfl ?_
      refine own_lushr (n := 57) X0 hx (hb hby at_56) rfl rfl ?_
      refine own_l2i (n := 58) X0 hx (hb hby at_57) rfl rfl ?_
      refine own_i2b (n := 59) X0 hx (hb hby at_58) rfl rfl ?_
      refine own_istore (n := 61) (l' := #[.val (.int p0), .val (.long q), .second, .val (.int p2), .val (.int (p0 &&& (15 : Int32))), .val (.int (1 : Int32)), .val (.int (1 : Int32)), .val (.int ((q).toInt32).toInt8.toInt32), .val (.int ((((q).toUInt64 >>> ((8 : Int32) &&& 63).toInt64.toUInt64).toInt64).toInt32).toInt8.toInt32), .val (.int ((((q).toUInt64 >>> ((16 : Int32) &&& 63).toInt64.toUInt64).toInt64).toInt32).toInt8.toInt32), .val (.int ((((q).toUInt64 >>> ((24 : Int32) &&& 63).toInt64.toUInt64).toInt64).toInt32).toInt8.toInt32), .unset, .unset, .unset, .unset, .unset, .unset, .unset, .unset, .unset, .unset, .unset, .unset, .unset]) X0 hx (hb hby at_59) rfl rfl ?_
      refine own_lloadN (n := 62) X0 hx (hb hby at_61) rfl rfl ?_
      refine own_bipush (n := 64) (z := (32 : Int32)) X0 hx (hb hby at_62) rfl rfl ?_
      refine own_lushr (n := 65) X0 hx (hb hby at_64) rfl rfl ?_
      refine own_l2i (n := 66) X0 hx (hb hby at_65) rfl rfl ?_
      refine own_i2b (n := 67) X0 hx (hb hby at_66) rfl rfl ?_
      refine own_istore (n := 69) (l' := #[.val (.int p0), .val (.long q), .second, .val (.int p2), .val (.int (p0 &&& (15 : Int32))), .val (.int (1 : Int32)), .val (.int (1 : Int32)), .val (.int ((q).toInt32).toInt8.toInt32), .val (.int ((((q).toUInt64 >>> ((8 : Int32) &&& 63).toInt64.toUInt64).toInt64).toInt32).toInt8.toInt32), .val (.int ((((q).toUInt64 >>> ((16 : Int32) &&& 63).toInt64.toUInt64).toInt64).toInt32).toInt8.toInt32), .val (.int ((((q).toUInt64 >>> ((24 : Int32) &&& 63).toInt64.toUInt64).toInt64).toInt32).toInt8.toInt32), .val (.int ((((q).toUInt64 >>> ((32 : Int32) &&& 63).toInt64.toUInt64).toInt64).toInt32).toInt8.toInt32), .unset, .unset, .unset, .unset, .unset, .unset, .unset, .unset, .unset, .unset, .unset, .unset]) X0 hx (hb hby at_67) rfl rfl ?_
      have hcap := own_cap p0
      obtain ⟨cp, hcp⟩ : ∃ z, z = (p0 &&& (15 : Int32)) := ⟨_, rfl⟩
      rw [← hcp] at hcap
      rw [← hcp]
      obtain ⟨q0, hq0⟩ : ∃ z, z = ((q).toInt32).toInt8.toInt32 := ⟨_, rfl⟩
      rw [← hq0]
      have hN0 : (q0).toInt8.toInt32 = q0 := by rw [hq0]; exact own_again _
      obtain ⟨q1, hq1⟩ : ∃ z, z = ((((q).toUInt64 >>> ((8 : Int32) &&& 63).toInt64.toUInt64).toInt64).toInt32).toInt8.toInt32 := ⟨_, rfl⟩
      rw [← hq1]
      have hN1 : (q1).toInt8.toInt32 = q1 := by rw [hq1]; exact own_again _
      obtain ⟨q2, hq2⟩ : ∃ z, z = ((((q).toUInt64 >>> ((16 : Int32) &&& 63).toInt64.toUInt64).toInt64).toInt32).toInt8.toInt32 := ⟨_, rfl⟩
      rw [← hq2]
      have hN2 : (q2).toInt8.toInt32 = q2 := by rw [hq2]; exact own_again _
      obtain ⟨q3, hq3⟩ : ∃ z, z = ((((q).toUInt64 >>> ((24 : Int32) &&& 63).toInt64.toUInt64).toInt64).toInt32).toInt8.toInt32 := ⟨_, rfl⟩
      rw [← hq3]
      have hN3 : (q3).toInt8.toInt32 = q3 := by rw [hq3]; exact own_again _
      obtain ⟨q4, hq4⟩ : ∃ z, z = ((((q).toUInt64 >>> ((32 : Int32) &&& 63).toInt64.toUInt64).toInt64).toInt32).toInt8.toInt32 := ⟨_, rfl⟩
      rw [← hq4]
      have hN4 : (q4).toInt8.toInt32 = q4 := by rw [hq4]; exact own_again _
      refine own_iconst (n := 70) (z := (3 : Int32)) X0 hx (hb hby at_69) rfl rfl ?_
      refine own_newA (n := 72) X0 hx hZ own_an_byte (ww0 hw) hE0 (hb hby at_70) (by decide) (cap := 3) (by decide) (by decide) (by decide) (by decide) rfl ?_
      intro T489 h489 k489 b489 g489 X489 e489 E489 A489 B489
      have g_b489 : n0 ≤ b489 := Nat.le_trans Z0 (Nat.le_of_eq g489.symm)
      have Z_490 : n0 ≤ h489.size := Nat.le_trans Z0 E489.1
      have V489 : Arv Z h489 b489 k489 .byte (3 : Int32) [(.int (0 : Int32)), (.int (0 : Int32)), (.int (0 : Int32))] (.int (0 : Int32)) := (Arv.new A489 (by decide)).pad (pad_rep [] (.int (0 : Int32)) 3)
      refine own_astore (n := 74) (l' := #[.val (.int p0), .val (.long q), .second, .val (.int p2), .val (.int cp), .val (.int (1 : Int32)), .val (.int (1 : Int32)), .val (.int q0), .val (.int q1), .val (.int q2), .val (.int q3), .val (.int q4), .val (.ref b489), .unset, .unset, .unset, .unset, .unset, .unset, .unset, .unset, .unset, .unset, .unset]) X489 hx (hb hby at_72) rfl rfl rfl ?_
      refine own_aload (n := 76) X489 hx (hb hby at_74) rfl rfl rfl ?_
      refine own_iconst (n := 77) (z := (0 : Int32)) X489 hx (hb hby at_76) rfl rfl ?_
      refine own_iload (n := 79) X489 hx (hb hby at_77) rfl rfl ?_
      refine own_st_bastore (n := 80) X489 hx hZ e489 V489 ⟨by decide, by decide⟩ 0 rfl (Nat.le_of_ble_eq_true rfl) (hb hby at_79) rfl ?_
      intro T491 h491 X491 e491 W491 V491q
      rw [hN0] at V491q
      have V491 : Arv Z h491 b489 k489 .byte (3 : Int32) [(.int q0), (.int (0 : Int32)), (.int (0 : Int32))] (.int (0 : Int32)) := V491q
      have N491 := Fr.snoc X491 N0 g_b489
      have Z_492 : n0 ≤ h491.size := by rw [W491.size]; exact Z_490
      refine own_aload (n := 82) X491 hx (hb hby at_80) rfl rfl rfl ?_
      refine own_iconst (n := 83) (z := (1 : Int32)) X491 hx (hb hby at_82) rfl rfl ?_
      refine own_iload (n := 85) X491 hx (hb hby at_83) rfl rfl ?_
      refine own_st_bastore (n := 86) X491 hx hZ e491 V491 ⟨by decide, by decide⟩ 1 rfl (Nat.le_of_ble_eq_true rfl) (hb hby at_85) rfl ?_
      intro T493 h493 X493 e493 W493 V493q
      rw [hN1] at V493q
      have V493 : Arv Z h493 b489 k489 .byte (3 : Int32) [(.int q0), (.int q1), (.int (0 : Int32))] (.int (0 : Int32)) := V493q
      have N493 := Fr.snoc X493 N491 g_b489
      have Z_494 : n0 ≤ h493.size := by rw [W493.size]; exact Z_492
      refine own_aload (n := 88) X493 hx (hb hby at_86) rfl rfl rfl ?_
      refine own_iconst (n := 89) (z := (2 : Int32)) X493 hx (hb hby at_88) rfl rfl ?_
      refine own_iload (n := 91) X493 hx (hb hby at_89) rfl rfl ?_
      refine own_st_bastore (n := 92) X493 hx hZ e493 V493 ⟨by decide, by decide⟩ 2 rfl (Nat.le_of_ble_eq_true rfl) (hb hby at_91) rfl ?_
      intro T495 h495 X495 e495 W495 V495q
      rw [hN2] at V495q
      have V495 : Arv Z h495 b489 k489 .byte (3 : Int32) [(.int q0), (.int q1), (.int q2)] (.int (0 : Int32)) := V495q
      have N495 := Fr.snoc X495 N493 g_b489
      have Z_496 : n0 ≤ h495.size := by rw [W495.size]; exact Z_494
      refine own_iconst (n := 93) (z := (2 : Int32)) X495 hx (hb hby at_92) rfl rfl ?_
      refine own_newA (n := 95) X495 hx hZ own_an_byte (ww0 hw) e495 (hb hby at_93) (by decide) (cap := 2) (by decide) (by decide) (by decide) (by decide) rfl ?_
      intro T497 h497 k497 b497 g497 X497 e497 E497 A497 B497
      have g_b497 : n0 ≤ b497 := Nat.le_trans Z_496 (Nat.le_of_eq g497.symm)
      have ne_b489_b497 : b489 ≠ b497 := own_ne V495.lt g497
      have A_498 := V495.ext E497
      have Z_499 : n0 ≤ h497.size := Nat.le_trans Z_496 E497.1
      have V497 : Arv Z h497 b497 k497 .byte (2 : Int32) [(.int (0 : Int32)), (.int (0 : Int32))] (.int (0 : Int32)) := (Arv.new A497 (by decide)).pad (pad_rep [] (.int (0 : Int32)) 2)
      refine own_astore (n := 97) (l' := #[.val (.int p0), .val (.long q), .second, .val (.int p2), .val (.int cp), .val (.int (1 : Int32)), .val (.int (1 : Int32)), .val (.int q0), .val (.int q1), .val (.int q2), .val (.int q3), .val (.int q4), .val (.ref b489), .val (.ref b497), .unset, .unset, .unset, .unset, .unset, .unset, .unset, .unset, .unset, .unset]) X497 hx (hb hby at_95) rfl rfl rfl ?_
      refine own_aload (n := 99) X497 hx (hb hby at_97) rfl rfl rfl ?_
      refine own_iconst (n := 100) (z := (0 : Int32)) X497 hx (hb hby at_99) rfl rfl ?_
      refine own_iload (n := 102) X497 hx (hb hby at_100) rfl rfl ?_
      refine own_st_bastore (n := 103) X497 hx hZ e497 V497 ⟨by decide, by decide⟩ 0 rfl (Nat.le_of_ble_eq_true rfl) (hb hby at_102) rfl ?_
      intro T500 h500 X500 e500 W500 V500q
      rw [hN3] at V500q
      have V500 : Arv Z h500 b497 k497 .byte (2 : Int32) [(.int q3), (.int (0 : Int32))] (.int (0 : Int32)) := V500q
      have N500 := Fr.snoc X500 N495 g_b497
      have A_501 := A_498.other W500 ne_b489_b497
      have Z_502 : n0 ≤ h500.size := by rw [W500.size]; exact Z_499
      refine own_aload (n := 105) X500 hx (hb hby at_103) rfl rfl rfl ?_
      refine own_iconst (n := 106) (z := (1 : Int32)) X500 hx (hb hby at_105) rfl rfl ?_
      refine own_iload (n := 108) X500 hx (hb hby at_106) rfl rfl ?_
      refine own_st_bastore (n := 109) X500 hx hZ e500 V500 ⟨by decide, by decide⟩ 1 rfl (Nat.le_of_ble_eq_true rfl) (hb hby at_108) rfl ?_
      intro T503 h503 X503 e503 W503 V503q
      rw [hN4] at V503q
      have V503 : Arv Z h503 b497 k497 .byte (2 : Int32) [(.int q3), (.int q4)] (.int (0 : Int32)) := V503q
      have N503 := Fr.snoc X503 N500 g_b497
      have A_504 := A_501.other W503 ne_b489_b497
      have Z_505 : n0 ≤ h503.size := by rw [W503.size]; exact Z_502
      refine own_bipush (n := 111) (z := (8 : Int32)) X503 hx (hb hby at_109) rfl rfl ?_
      refine own_newA (n := 113) X503 hx hZ own_an_byte (ww0 hw) e503 (hb hby at_111) (by decide) (cap := 8) (by decide) (by decide) (by decide) (by decide) rfl ?_
      intro T506 h506 k506 b506 g506 X506 e506 E506 A506 B506
      have g_b506 : n0 ≤ b506 := Nat.le_trans Z_505 (Nat.le_of_eq g506.symm)
      have ne_b489_b506 : b489 ≠ b506 := own_ne A_504.lt g506
      have ne_b497_b506 : b497 ≠ b506 := own_ne V503.lt g506
      have A_507 := A_504.ext E506
      have A_508 := V503.ext E506
      have Z_509 : n0 ≤ h506.size := Nat.le_trans Z_505 E506.1
      have V506 : Arv Z h506 b506 k506 .byte (8 : Int32) [(.int (0 : Int32)), (.int (0 : Int32)), (.int (0 : Int32)), (.int (0 : Int32)), (.int (0 : Int32)), (.int (0 : Int32)), (.int (0 : Int32)), (.int (0 : Int32))] (.int (0 : Int32)) := (Arv.new A506 (by decide)).pad (pad_rep [] (.int (0 : Int32)) 8)
      refine own_astore (n := 115) (l' := #[.val (.int p0), .val (.long q), .second, .val (.int p2), .val (.int cp), .val (.int (1 : Int32)), .val (.int (1 : Int32)), .val (.int q0), .val (.int q1), .val (.int q2), .val (.int q3), .val (.int q4), .val (.ref b489), .val (.ref b497), .val (.ref b506), .unset, .unset, .unset, .unset, .unset, .unset, .unset, .unset, .unset]) X506 hx (hb hby at_113) rfl rfl rfl ?_
      refine own_iconst (n := 116) (z := (0 : Int32)) X506 hx (hb hby at_115) rfl rfl ?_
      refine own_istore (n := 118) (l' := #[.val (.int p0), .val (.long q), .second, .val (.int p2), .val (.int cp), .val (.int (1 : Int32)), .val (.int (1 : Int32)), .val (.int q0), .val (.int q1), .val (.int q2), .val (.int q3), .val (.int q4), .val (.ref b489), .val (.ref b497), .val (.ref b506), .val (.int (0 : Int32)), .unset, .unset, .unset, .unset, .unset, .unset, .unset, .unset]) X506 hx (hb hby at_116) rfl rfl ?_
      refine own_iload (n := 120) X506 hx (hb hby at_118) rfl rfl ?_
      refine own_ifNo (n := 123) X506 hx (hb hby at_120) (feq (by decide : ¬ ((1 : Int32) = (0 : Int32)))).1 rfl ?_
      refine own_aload (n := 125) X506 hx (hb hby at_123) rfl rfl rfl ?_
      refine own_iload (n := 127) X506 hx (hb hby at_125) rfl rfl ?_
      refine own_iinc (n := 130) (z := (1 : Int32)) (l' := #[.val (.int p0), .val (.long q), .second, .val (.int p2), .val (.int cp), .val (.int (1 : Int32)), .val (.int (1 : Int32)), .val (.int q0), .val (.int q1), .val (.int q2), .val (.int q3), .val (.int q4), .val (.ref b489), .val (.ref b497), .val (.ref b506), .val (.int (1 : Int32)), .unset, .unset, .unset, .unset, .unset, .unset, .unset, .unset]) X506 hx (hb hby at_127) rfl rfl rfl rfl ?_
      refine own_bipush (n := 132) (z := (91 : Int32)) X506 hx (hb hby at_130) rfl rfl ?_
      refine own_st_bastore (n := 133) X506 hx hZ e506 V506 ⟨by decide, by decide⟩ 0 rfl (Nat.le_of_ble_eq_true rfl) (hb hby at_132) rfl ?_
      intro T510 h510 X510 e510 W510 V510q
      have V510 : Arv Z h510 b506 k506 .byte (8 : Int32) [(.int (91 : Int32)), (.int (0 : Int32)), (.int (0 : Int32)), (.int (0 : Int32)), (.int (0 : Int32)), (.int (0 : Int32)), (.int (0 : Int32)), (.int (0 : Int32))] (.int (0 : Int32)) := V510q
      have N510 := Fr.snoc X510 N503 g_b506
      have A_511 := A_507.other W510 ne_b489_b506
      have A_512 := A_508.other W510 ne_b497_b506
      have Z_513 : n0 ≤ h510.size := by rw [W510.size]; exact Z_509
      refine own_aload (n := 135) X510 hx (hb hby at_133) rfl rfl rfl ?_
      refine own_iload (n := 137) X510 hx (hb hby at_135) rfl rfl ?_
      refine own_iinc (n := 140) (z := (2 : Int32)) (l' := #[.val (.int p0), .val (.long q), .second, .val (.int p2), .val (.int cp), .val (.int (1 : Int32)), .val (.int (1 : Int32)), .val (.int q0), .val (.int q1), .val (.int q2), .val (.int q3), .val (.int q4), .val (.ref b489), .val (.ref b497), .val (.ref b506), .val (.int (2 : Int32)), .unset, .unset, .unset, .unset, .unset, .unset, .unset, .unset]) X510 hx (hb hby at_137) rfl rfl rfl rfl ?_
      refine own_iload (n := 142) X510 hx (hb hby at_140) rfl rfl ?_
      refine own_st_bastore (n := 143) X510 hx hZ e510 V510 ⟨by decide, by decide⟩ 1 rfl (Nat.le_of_ble_eq_true rfl) (hb hby at_142) rfl ?_
      intro T514 h514 X514 e514 W514 V514q
      rw [hN0] at V514q
      have V514 : Arv Z h514 b506 k506 .byte (8 : Int32) [(.int (91 : Int32)), (.int q0), (.int (0 : Int32)), (.int (0 : Int32)), (.int (0 : Int32)), (.int (0 : Int32)), (.int (0 : Int32)), (.int (0 : Int32))] (.int (0 : Int32)) := V514q
      have N514 := Fr.snoc X514 N510 g_b506
      have A_515 := A_511.other W514 ne_b489_b506
      have A_516 := A_512.other W514 ne_b497_b506
      have Z_517 : n0 ≤ h514.size := by rw [W514.size]; exact Z_513
      refine own_aload (n := 145) X514 hx (hb hby at_143) rfl rfl rfl ?_
      refine own_iload (n := 147) X514 hx (hb hby at_145) rfl rfl ?_
      refine own_iinc (n := 150) (z := (3 : Int32)) (l' := #[.val (.int p0), .val (.long q), .second, .val (.int p2), .val (.int cp), .val (.int (1 : Int32)), .val (.int (1 : Int32)), .val (.int q0), .val (.int q1), .val (.int q2), .val (.int q3), .val (.int q4), .val (.ref b489), .val (.ref b497), .val (.ref b506), .val (.int (3 : Int32)), .unset, .unset, .unset, .unset, .unset, .unset, .unset, .unset]) X514 hx (hb hby at_147) rfl rfl rfl rfl ?_
      refine own_iload (n := 152) X514 hx (hb hby at_150) rfl rfl ?_
      refine own_st_bastore (n := 153) X514 hx hZ e514 V514 ⟨by decide, by decide⟩ 2 rfl (Nat.le_of_ble_eq_true rfl) (hb hby at_152) rfl ?_
      intro T518 h518 X518 e518 W518 V518q
      rw [hN1] at V518q
      have V518 : Arv Z h518 b506 k506 .byte (8 : Int32) [(.int (91 : Int32)), (.int q0), (.int q1), (.int (0 : Int32)), (.int (0 : Int32)), (.int (0 : Int32)), (.int (0 : Int32)), (.int (0 : Int32))] (.int (0 : Int32)) := V518q
      have N518 := Fr.snoc X518 N514 g_b506
      have A_519 := A_515.other W518 ne_b489_b506
      have A_520 := A_516.other W518 ne_b497_b506
      have Z_521 : n0 ≤ h518.size := by rw [W518.size]; exact Z_517
      refine own_aload (n := 155) X518 hx (hb hby at_153) rfl rfl rfl ?_
      refine own_iload (n := 157) X518 hx (hb hby at_155) rfl rfl ?_
      refine own_iinc (n := 160) (z := (4 : Int32)) (l' := #[.val (.int p0), .val (.long q), .second, .val (.int p2), .val (.int cp), .val (.int (1 : Int32)), .val (.int (1 : Int32)), .val (.int q0), .val (.int q1), .val (.int q2), .val (.int q3), .val (.int q4), .val (.ref b489), .val (.ref b497), .val (.ref b506), .val (.int (4 : Int32)), .unset, .unset, .unset, .unset, .unset, .unset, .unset, .unset]) X518 hx (hb hby at_157) rfl rfl rfl rfl ?_
      refine own_iload (n := 162) X518 hx (hb hby at_160) rfl rfl ?_
      refine own_st_bastore (n := 163) X518 hx hZ e518 V518 ⟨by decide, by decide⟩ 3 rfl (Nat.le_of_ble_eq_true rfl) (hb hby at_162) rfl ?_
      intro T522 h522 X522 e522 W522 V522q
      rw [hN2] at V522q
      have V522 : Arv Z h522 b506 k506 .byte (8 : Int32) [(.int (91 : Int32)), (.int q0), (.int q1), (.int q2), (.int (0 : Int32)), (.int (0 : Int32)), (.int (0 : Int32)), (.int (0 : Int32))] (.int (0 : Int32)) := V522q
      have N522 := Fr.snoc X522 N518 g_b506
      have A_523 := A_519.other W522 ne_b489_b506
      have A_524 := A_520.other W522 ne_b497_b506
      have Z_525 : n0 ≤ h522.size := by rw [W522.size]; exact Z_521
      refine own_iload (n := 165) X522 hx (hb hby at_163) rfl rfl ?_
      refine own_ifNo (n := 168) X522 hx (hb hby at_165) (feq (by decide : ¬ ((1 : Int32) = (0 : Int32)))).1 rfl ?_
      refine own_aload (n := 170) X522 hx (hb hby at_168) rfl rfl rfl ?_
      refine own_iload (n := 172) X522 hx (hb hby at_170) rfl rfl ?_
      refine own_iinc (n := 175) (z := (5 : Int32)) (l' := #[.val (.int p0), .val (.long q), .second, .val (.int p2), .val (.int cp), .val (.int (1 : Int32)), .val (.int (1 : Int32)), .val (.int q0), .val (.int q1), .val (.int q2), .val (.int q3), .val (.int q4), .val (.ref b489), .val (.ref b497), .val (.ref b506), .val (.int (5 : Int32)), .unset, .unset, .unset, .unset, .unset, .unset, .unset, .unset]) X522 hx (hb hby at_172) rfl rfl rfl rfl ?_
      refine own_bipush (n := 177) (z := (44 : Int32)) X522 hx (hb hby at_175) rfl rfl ?_
      refine own_st_bastore (n := 178) X522 hx hZ e522 V522 ⟨by decide, by decide⟩ 4 rfl (Nat.le_of_ble_eq_true rfl) (hb hby at_177) rfl ?_
      intro T526 h526 X526 e526 W526 V526q
      have V526 : Arv Z h526 b506 k506 .byte (8 : Int32) [(.int (91 : Int32)), (.int q0), (.int q1), (.int q2), (.int (44 : Int32)), (.int (0 : Int32)), (.int (0 : Int32)), (.int (0 : Int32))] (.int (0 : Int32)) := V526q
      have N526 := Fr.snoc X526 N522 g_b506
      have A_527 := A_523.other W526 ne_b489_b506
      have A_528 := A_524.other W526 ne_b497_b506
      have Z_529 : n0 ≤ h526.size := by rw [W526.size]; exact Z_525
      refine own_aload (n := 180) X526 hx (hb hby at_178) rfl rfl rfl ?_
      refine own_iload (n := 182) X526 hx (hb hby at_180) rfl rfl ?_
      refine own_iinc (n := 185) (z := (6 : Int32)) (l' := #[.val (.int p0), .val (.long q), .second, .val (.int p2), .val (.int cp), .val (.int (1 : Int32)), .val (.int (1 : Int32)), .val (.int q0), .val (.int q1), .val (.int q2), .val (.int q3), .val (.int q4), .val (.ref b489), .val (.ref b497), .val (.ref b506), .val (.int (6 : Int32)), .unset, .unset, .unset, .unset, .unset, .unset, .unset, .unset]) X526 hx (hb hby at_182) rfl rfl rfl rfl ?_
      refine own_iload (n := 187) X526 hx (hb hby at_185) rfl rfl ?_
      refine own_st_bastore (n := 188) X526 hx hZ e526 V526 ⟨by decide, by decide⟩ 5 rfl (Nat.le_of_ble_eq_true rfl) (hb hby at_187) rfl ?_
      intro T530 h530 X530 e530 W530 V530q
      rw [hN3] at V530q
      have V530 : Arv Z h530 b506 k506 .byte (8 : Int32) [(.int (91 : Int32)), (.int q0), (.int q1), (.int q2), (.int (44 : Int32)), (.int q3), (.int (0 : Int32)), (.int (0 : Int32))] (.int (0 : Int32)) := V530q
      have N530 := Fr.snoc X530 N526 g_b506
      have A_531 := A_527.other W530 ne_b489_b506
      have A_532 := A_528.other W530 ne_b497_b506
      have Z_533 : n0 ≤ h530.size := by rw [W530.size]; exact Z_529
      refine own_aload (n := 190) X530 hx (hb hby at_188) rfl rfl rfl ?_
      refine own_iload (n := 192) X530 hx (hb hby at_190) rfl rfl ?_
      refine own_iinc (n := 195) (z := (7 : Int32)) (l' := #[.val (.int p0), .val (.long q), .second, .val (.int p2), .val (.int cp), .val (.int (1 : Int32)), .val (.int (1 : Int32)), .val (.int q0), .val (.int q1), .val (.int q2), .val (.int q3), .val (.int q4), .val (.ref b489), .val (.ref b497), .val (.ref b506), .val (.int (7 : Int32)), .unset, .unset, .unset, .unset, .unset, .unset, .unset, .unset]) X530 hx (hb hby at_192) rfl rfl rfl rfl ?_
      refine own_iload (n := 197) X530 hx (hb hby at_195) rfl rfl ?_
      refine own_st_bastore (n := 198) X530 hx hZ e530 V530 ⟨by decide, by decide⟩ 6 rfl (Nat.le_of_ble_eq_true rfl) (hb hby at_197) rfl ?_
      intro T534 h534 X534 e534 W534 V534q
      rw [hN4] at V534q
      have V534 : Arv Z h534 b506 k506 .byte (8 : Int32) [(.int (91 : Int32)), (.int q0), (.int q1), (.int q2), (.int (44 : Int32)), (.int q3), (.int q4), (.int (0 : Int32))] (.int (0 : Int32)) := V534q
      have N534 := Fr.snoc X534 N530 g_b506
      have A_535 := A_531.other W534 ne_b489_b506
      have A_536 := A_532.other W534 ne_b497_b506
      have Z_537 : n0 ≤ h534.size := by rw [W534.size]; exact Z_533
      refine own_iload (n := 200) X534 hx (hb hby at_198) rfl rfl ?_
      refine own_ifNo (n := 203) X534 hx (hb hby at_200) (feq (by decide : ¬ ((1 : Int32) = (0 : Int32)))).1 rfl ?_
      refine own_aload (n := 205) X534 hx (hb hby at_203) rfl rfl rfl ?_
      refine own_iload (n := 207) X534 hx (hb hby at_205) rfl rfl ?_
      refine own_iinc (n := 210) (z := (8 : Int32)) (l' := #[.val (.int p0), .val (.long q), .second, .val (.int p2), .val (.int cp), .val (.int (1 : Int32)), .val (.int (1 : Int32)), .val (.int q0), .val (.int q1), .val (.int q2), .val (.int q3), .val (.int q4), .val (.ref b489), .val (.ref b497), .val (.ref b506), .val (.int (8 : Int32)), .unset, .unset, .unset, .unset, .unset, .unset, .unset, .unset]) X534 hx (hb hby at_207) rfl rfl rfl rfl ?_
      refine own_bipush (n := 212) (z := (93 : Int32)) X534 hx (hb hby at_210) rfl rfl ?_
      refine own_st_bastore (n := 213) X534 hx hZ e534 V534 ⟨by decide, by decide⟩ 7 rfl (Nat.le_of_ble_eq_true rfl) (hb hby at_212) rfl ?_
      intro T538 h538 X538 e538 W538 V538q
      have V538 : Arv Z h538 b506 k506 .byte (8 : Int32) [(.int (91 : Int32)), (.int q0), (.int q1), (.int q2), (.int (44 : Int32)), (.int q3), (.int q4), (.int (93 : Int32))] (.int (0 : Int32)) := V538q
      have N538 := Fr.snoc X538 N534 g_b506
      have A_539 := A_535.other W538 ne_b489_b506
      have A_540 := A_536.other W538 ne_b497_b506
      have Z_541 : n0 ≤ h538.size := by rw [W538.size]; exact Z_537
      refine own_bipush (n := 215) (z := (8 : Int32)) X538 hx (hb hby at_213) rfl rfl ?_
      refine own_newA (n := 217) X538 hx hZ own_an_byte (ww0 hw) e538 (hb hby at_215) (by decide) (cap := 8) (by decide) (by decide) (by decide) (by decide) rfl ?_
      intro T542 h542 k542 b542 g542 X542 e542 E542 A542 B542
      have g_b542 : n0 ≤ b542 := Nat.le_trans Z_541 (Nat.le_of_eq g542.symm)
      have ne_b489_b542 : b489 ≠ b542 := own_ne A_539.lt g542
      have ne_b497_b542 : b497 ≠ b542 := own_ne A_540.lt g542
      have ne_b506_b542 : b506 ≠ b542 := own_ne V538.lt g542
      have A_543 := A_539.ext E542
      have A_544 := A_540.ext E542
      have A_545 := V538.ext E542
      have Z_546 : n0 ≤ h542.size := Nat.le_trans Z_541 E542.1
      have V542 : Arv Z h542 b542 k542 .byte (8 : Int32) [(.int (0 : Int32)), (.int (0 : Int32)), (.int (0 : Int32)), (.int (0 : Int32)), (.int (0 : Int32)), (.int (0 : Int32)), (.int (0 : Int32)), (.int (0 : Int32))] (.int (0 : Int32)) := (Arv.new A542 (by decide)).pad (pad_rep [] (.int (0 : Int32)) 8)
      refine own_astore (n := 219) (l' := #[.val (.int p0), .val (.long q), .second, .val (.int p2), .val (.int cp), .val (.int (1 : Int32)), .val (.int (1 : Int32)), .val (.int q0), .val (.int q1), .val (.int q2), .val (.int q3), .val (.int q4), .val (.ref b489), .val (.ref b497), .val (.ref b506), .val (.int (8 : Int32)), .val (.ref b542), .unset, .unset, .unset, .unset, .unset, .unset, .unset]) X542 hx (hb hby at_217) rfl rfl rfl ?_
      refine own_aload (n := 221) X542 hx (hb hby at_219) rfl rfl rfl ?_
      refine own_iconst (n := 222) (z := (0 : Int32)) X542 hx (hb hby at_221) rfl rfl ?_
      refine own_iload (n := 224) X542 hx (hb hby at_222) rfl rfl ?_
      refine own_st_bastore (n := 225) X542 hx hZ e542 V542 ⟨by decide, by decide⟩ 0 rfl (Nat.le_of_ble_eq_true rfl) (hb hby at_224) rfl ?_
      intro T547 h547 X547 e547 W547 V547q
      rw [hN3] at V547q
      have V547 : Arv Z h547 b542 k542 .byte (8 : Int32) [(.int q3), (.int (0 : Int32)), (.int (0 : Int32)), (.int (0 : Int32)), (.int (0 : Int32)), (.int (0 : Int32)), (.int (0 : Int32)), (.int (0 : Int32))] (.int (0 : Int32)) := V547q
      have N547 := Fr.snoc X547 N538 g_b542
      have A_548 := A_543.other W547 ne_b489_b542
      have A_549 := A_544.other W547 ne_b497_b542
      have A_550 := A_545.other W547 ne_b506_b542
      have Z_551 : n0 ≤ h547.size := by rw [W547.size]; exact Z_546
      refine own_aload (n := 227) X547 hx (hb hby at_225) rfl rfl rfl ?_
      refine own_iconst (n := 228) (z := (1 : Int32)) X547 hx (hb hby at_227) rfl rfl ?_
      refine own_iload (n := 230) X547 hx (hb hby at_228) rfl rfl ?_
      refine own_st_bastore (n := 231) X547 hx hZ e547 V547 ⟨by decide, by decide⟩ 1 rfl (Nat.le_of_ble_eq_true rfl) (hb hby at_230) rfl ?_
      intro T552 h552 X552 e552 W552 V552q
      rw [hN4] at V552q
      have V552 : Arv Z h552 b542 k542 .byte (8 : Int32) [(.int q3), (.int q4), (.int (0 : Int32)), (.int (0 : Int32)), (.int (0 : Int32)), (.int (0 : Int32)), (.int (0 : Int32)), (.int (0 : Int32))] (.int (0 : Int32)) := V552q
      have N552 := Fr.snoc X552 N547 g_b542
      have A_553 := A_548.other W552 ne_b489_b542
      have A_554 := A_549.other W552 ne_b497_b542
      have A_555 := A_550.other W552 ne_b506_b542
      have Z_556 : n0 ≤ h552.size := by rw [W552.size]; exact Z_551
      refine own_new (n := 234) X552 hx hZ hown (ww1 hw) (ww2 hw) (ww3 hw) e552 (hb hby at_231) (by decide) (by decide) rfl ?_
      intro T557 h557 b557 g557 X557 e557 E557 A557 D557
      have g_b557 : n0 ≤ b557 := Nat.le_trans Z_556 (Nat.le_of_eq g557.symm)
      have ne_b489_b557 : b489 ≠ b557 := own_ne A_553.lt g557
      have ne_b497_b557 : b497 ≠ b557 := own_ne A_554.lt g557
      have ne_b506_b557 : b506 ≠ b557 := own_ne A_555.lt g557
      have ne_b542_b557 : b542 ≠ b557 := own_ne V552.lt g557
      have A_558 := A_553.ext E557
      have A_559 := A_554.ext E557
      have A_560 := A_555.ext E557
      have A_561 := V552.ext E557
      have Z_562 : n0 ≤ h557.size := Nat.le_trans Z_556 E557.1
      have F_563 : Fld Z h557 b557 "com/example/doseline/doseline/fhir/JsonWriter" "bytes" "[B" .null := D557 (Or.inl (ww11 hw)) (ty := (.array .byte)) (by decide)
      have F_564 : Fld Z h557 b557 "com/example/doseline/doseline/fhir/JsonWriter" "afterElement" "Z" (.int (0 : Int32)) := D557 (Or.inl (ww26 hw)) (ty := .boolean) (by decide)
      have F_565 : Fld Z h557 b557 "com/example/doseline/doseline/fhir/JsonWriter" "length" "I" (.int (0 : Int32)) := D557 (Or.inl (ww36 hw)) (ty := .int) (by decide)
      refine own_dup (n := 235) X557 hx (hb hby at_234) rfl rfl ?_
      refine own_iload (n := 237) X557 hx (hb hby at_235) rfl rfl ?_
      refine own_I (n := 240) (argsL := [(.int cp)]) (rest := [(.ref b557)]) (a := b557) (by rfl) X557 hx hZ hown (own_rm_init l Z a0 hw b557 cp h557 n0 Z_562 A557 F_563 F_565 F_564 hcap.1 hcap.2.1 g_b557) (ww4 hw) (ww5 hw) (ww3 hw) (ww6 hw) (by decide) e557 (by rw [hml]; rfl) (lenOf own_pd0 rfl) rfl (hb hby at_237) (Nat.le_of_ble_eq_true rfl) (Nat.le_of_ble_eq_true rfl) (Nat.le_of_ble_eq_true rfl) (Nat.le_of_ble_eq_true rfl) rfl ?_
      rintro v566 T566 L566 X566 ⟨y566, k566, rfl, Nq566, K566, Eq566, Fb566, Fl566, Fa566, Vb566, Ec566, sz566, gb566⟩
      have N566 := Fr.app N552 Nq566
      have A_567 := A_558.keep K566 (by simp [ne_b489_b557])
      have A_568 := A_559.keep K566 (by simp [ne_b497_b557])
      have A_569 := A_560.keep K566 (by simp [ne_b506_b557])
      have A_570 := A_561.keep K566 (by simp [ne_b542_b557])
      have E_571 := A557.keep K566
      have Z_572 : n0 ≤ T566.heap.size := Nat.le_trans Z_562 K566.1
      have nr_b489_566 : b489 ≠ y566 := Nat.ne_of_lt (Nat.lt_of_lt_of_le A_558.lt sz566)
      have nr_b497_566 : b497 ≠ y566 := Nat.ne_of_lt (Nat.lt_of_lt_of_le A_559.lt sz566)
      have nr_b506_566 : b506 ≠ y566 := Nat.ne_of_lt (Nat.lt_of_lt_of_le A_560.lt sz566)
      have nr_b542_566 : b542 ≠ y566 := Nat.ne_of_lt (Nat.lt_of_lt_of_le A_561.lt sz566)
      have nr_b557_566 : b557 ≠ y566 := Nat.ne_of_lt (Nat.lt_of_lt_of_le A557.lt sz566)
      have hl566 : (List.replicate (α := Value) cp.toNatClampNeg (.int (0 : Int32))).length + 0 = cp.toNatClampNeg := by rw [List.length_replicate]; rfl
      change own_G p e below _ _ (mkF m 240 _ [(.ref b557)])
      refine own_astore (n := 242) (l' := #[.val (.int p0), .val (.long q), .second, .val (.int p2), .val (.int cp), .val (.int (1 : Int32)), .val (.int (1 : Int32)), .val (.int q0), .val (.int q1), .val (.int q2), .val (.int q3), .val (.int q4), .val (.ref b489), .val (.ref b497), .val (.ref b506), .val (.int (8 : Int32)), .val (.ref b542), .val (.ref b557), .unset, .unset, .unset, .unset, .unset, .unset]) X566 hx (hb hby at_240) rfl rfl rfl ?_
      refine own_iload (n := 244) X566 hx (hb hby at_242) rfl rfl ?_
      refine own_ifNo (n := 247) X566 hx (hb hby at_244) (feq (by decide : ¬ ((1 : Int32) = (0 : Int32)))).1 rfl ?_
      refine own_aload (n := 249) X566 hx (hb hby at_247) rfl rfl rfl ?_
      refine own_V (n := 252) (argsL := []) (rest := []) (a := b557) X566 hx hZ hown (own_rm_startArray_0_0 l Z a0 hw b557 y566 k566 cp (List.replicate (α := Value) cp.toNatClampNeg (.int (0 : Int32))) T566.heap n0 Z_572 E_571 Fb566 Fl566 Fa566 Vb566 Ec566 hl566 hcap.2.2 g_b557 gb566) (ww12 hw) (ww13 hw) (notFace_of_selects (args := #[]) (mvT hZ (ww15 hw))) (ww15 hw) (ww14 hw) (ww3 hw) (ww16 hw) (by decide) rfl E_571 (by rw [hml]; rfl) (lenOf own_pd1 rfl) rfl (hb hby at_249) (Nat.le_of_ble_eq_true rfl) (Nat.le_of_ble_eq_true rfl) (Nat.le_of_ble_eq_true rfl) (Nat.le_of_ble_eq_true rfl) rfl ?_
      rintro v573 T573 L573 X573 ⟨y573, k573, M573, r573, rfl, Nq573, K573, Eq573, Fb573, Fl573, Fa573, Vb573, Ec573, hl573, hN573, hq573, gb573⟩
      have N573 := Fr.app N566 Nq573
      have A_574 := A_567.keep K573 (by simp [ne_b489_b557, nr_b489_566])
      have A_575 := A_568.keep K573 (by simp [ne_b497_b557, nr_b497_566])
      have A_576 := A_569.keep K573 (by simp [ne_b506_b557, nr_b506_566])
      have A_577 := A_570.keep K573 (by simp [ne_b542_b557, nr_b542_566])
      have E_578 := E_571.keep K573
      have E_579 := Ec566.keep K573
      have Z_580 : n0 ≤ T573.heap.size := Nat.le_trans Z_572 K573.1
      have nw_b489_573 : b489 ≠ y573 := own_neOr hq573 nr_b489_566 A_567.lt
      have nw_b497_573 : b497 ≠ y573 := own_neOr hq573 nr_b497_566 A_568.lt
      have nw_b506_573 : b506 ≠ y573 := own_neOr hq573 nr_b506_566 A_569.lt
      have nw_b542_573 : b542 ≠ y573 := own_neOr hq573 nr_b542_566 A_570.lt
      change own_G p e below _ _ (mkF m 252 _ [])
      refine own_aload (n := 254) X573 hx (hb hby at_252) rfl rfl rfl ?_
      refine own_aload (n := 256) X573 hx (hb hby at_254) rfl rfl rfl ?_
      refine own_V (n := 259) (argsL := [(.ref b489)]) (rest := []) (a := b557) X573 hx hZ hown (own_rm_val_1_0_3 l Z a0 hw b557 y573 k573 M573 r573 (91 : Int32) b489 k489 q0 q1 q2 T573.heap n0 Z_580 E_578 Fb573 Fl573 Fa573 Vb573 Ec573 hl573 hN573 g_b557 gb573 A_574 (nw_b489_573)) (ww52 hw) (ww53 hw) (notFace_of_selects (args := #[]) (mvT hZ (ww55 hw))) (ww55 hw) (ww54 hw) (ww3 hw) (ww56 hw) (by decide) rfl E_578 (by rw [hml]; rfl) (lenOf own_pd4 rfl) rfl (hb hby at_256) (Nat.le_of_ble_eq_true rfl) (Nat.le_of_ble_eq_true rfl) (Nat.le_of_ble_eq_true rfl) (Nat.le_of_ble_eq_true rfl) rfl ?_
      rintro v581 T581 L581 X581 ⟨y581, k581, M581, r581, rfl, Nq581, K581, Eq581, Fb581, Fl581, Fa581, Vb581, Ec581, hl581, hN581, hq581, gb581⟩
      have N581 := Fr.app N573 Nq581
      have A_582 := A_574.keep K581 (by simp [ne_b489_b557, nw_b489_573])
      have A_583 := A_575.keep K581 (by simp [ne_b497_b557, nw_b497_573])
      have A_584 := A_576.keep K581 (by simp [ne_b506_b557, nw_b506_573])
      have A_585 := A_577.keep K581 (by simp [ne_b542_b557, nw_b542_573])
      have E_586 := E_578.keep K581
      have E_587 := Ec573.keep K581
      have Z_588 : n0 ≤ T581.heap.size := Nat.le_trans Z_580 K581.1
      have nw_b489_581 : b489 ≠ y581 := own_neOr hq581 nw_b489_573 A_574.lt
      have nw_b497_581 : b497 ≠ y581 := own_neOr hq581 nw_b497_573 A_575.lt
      have nw_b506_581 : b506 ≠ y581 := own_neOr hq581 nw_b506_573 A_576.lt
      have nw_b542_581 : b542 ≠ y581 := own_neOr hq581 nw_b542_573 A_577.lt
      change own_G p e below _ _ (mkF m 259 _ [])
      refine own_iload (n := 261) X581 hx (hb hby at_259) rfl rfl ?_
      refine own_ifNo (n := 264) X581 hx (hb hby at_261) (feq (by decide : ¬ ((1 : Int32) = (0 : Int32)))).1 rfl ?_
      refine own_aload (n := 266) X581 hx (hb hby at_264) rfl rfl rfl ?_
      refine own_aload (n := 268) X581 hx (hb hby at_266) rfl rfl rfl ?_
      refine own_V (n := 271) (argsL := [(.ref b497)]) (rest := []) (a := b557) X581 hx hZ hown (own_rm_val_4_1_2 l Z a0 hw b557 y581 k581 M581 r581 (91 : Int32) q0 q1 q2 b497 k497 q3 q4 T581.heap n0 Z_588 E_586 Fb581 Fl581 Fa581 Vb581 Ec581 hl581 hN581 g_b557 gb581 A_583 (nw_b497_581)) (ww52 hw) (ww53 hw) (notFace_of_selects (args := #[]) (mvT hZ (ww55 hw))) (ww55 hw) (ww54 hw) (ww3 hw) (ww56 hw) (by decide) rfl E_586 (by rw [hml]; rfl) (lenOf own_pd4 rfl) rfl (hb hby at_268) (Nat.le_of_ble_eq_true rfl) (Nat.le_of_ble_eq_true rfl) (Nat.le_of_ble_eq_true rfl) (Nat.le_of_ble_eq_true rfl) rfl ?_
      rintro v589 T589 L589 X589 ⟨y589, k589, M589, r589, rfl, Nq589, K589, Eq589, Fb589, Fl589, Fa589, Vb589, Ec589, hl589, hN589, hq589, gb589⟩
      have N589 := Fr.app N581 Nq589
      have A_590 := A_582.keep K589 (by simp [ne_b489_b557, nw_b489_581])
      have A_591 := A_583.keep K589 (by simp [ne_b497_b557, nw_b497_581])
      have A_592 := A_584.keep K589 (by simp [ne_b506_b557, nw_b506_581])
      have A_593 := A_585.keep K589 (by simp [ne_b542_b557, nw_b542_581])
      have E_594 := E_586.keep K589
      have E_595 := Ec581.keep K589
      have Z_596 : n0 ≤ T589.heap.size := Nat.le_trans Z_588 K589.1
      have nw_b489_589 : b489 ≠ y589 := own_neOr hq589 nw_b489_581 A_582.lt
      have nw_b497_589 : b497 ≠ y589 := own_neOr hq589 nw_b497_581 A_583.lt
      have nw_b506_589 : b506 ≠ y589 := own_neOr hq589 nw_b506_581 A_584.lt
      have nw_b542_589 : b542 ≠ y589 := own_neOr hq589 nw_b542_581 A_585.lt
      change own_G p e below _ _ (mkF m 271 _ [])
      refine own_iload (n := 273) X589 hx (hb hby at_271) rfl rfl ?_
      refine own_ifNo (n := 276) X589 hx (hb hby at_273) (feq (by decide : ¬ ((1 : Int32) = (0 : Int32)))).1 rfl ?_
      refine own_aload (n := 278) X589 hx (hb hby at_276) rfl rfl rfl ?_
      refine own_V (n := 281) (argsL := []) (rest := []) (a := b557) X589 hx hZ hown (own_rm_endArray_7_1 l Z a0 hw b557 y589 k589 M589 r589 (91 : Int32) q0 q1 q2 (44 : Int32) q3 q4 T589.heap n0 Z_596 E_594 Fb589 Fl589 Fa589 Vb589 Ec589 hl589 hN589 g_b557 gb589) (ww62 hw) (ww63 hw) (notFace_of_selects (args := #[]) (mvT hZ (ww65 hw))) (ww65 hw) (ww64 hw) (ww3 hw) (ww66 hw) (by decide) rfl E_594 (by rw [hml]; rfl) (lenOf own_pd1 rfl) rfl (hb hby at_278) (Nat.le_of_ble_eq_true rfl) (Nat.le_of_ble_eq_true rfl) (Nat.le_of_ble_eq_true rfl) (Nat.le_of_ble_eq_true rfl) rfl ?_
      rintro v597 T597 L597 X597 ⟨y597, k597, M597, r597, rfl, Nq597, K597, Eq597, Fb597, Fl597, Fa597, Vb597, Ec597, hl597, hN597, hq597, gb597⟩
      have N597 := Fr.app N589 Nq597
      have A_598 := A_590.keep K597 (by simp [ne_b489_b557, nw_b489_589])
      have A_599 := A_591.keep K597 (by simp [ne_b497_b557, nw_b497_589])
      have A_600 := A_592.keep K597 (by simp [ne_b506_b557, nw_b506_589])
      have A_601 := A_593.keep K597 (by simp [ne_b542_b557, nw_b542_589])
      have E_602 := E_594.keep K597
      have E_603 := Ec589.keep K597
      have Z_604 : n0 ≤ T597.heap.size := Nat.le_trans Z_596 K597.1
      have nw_b489_597 : b489 ≠ y597 := own_neOr hq597 nw_b489_589 A_590.lt
      have nw_b497_597 : b497 ≠ y597 := own_neOr hq597 nw_b497_589 A_591.lt
      have nw_b506_597 : b506 ≠ y597 := own_neOr hq597 nw_b506_589 A_592.lt
      have nw_b542_597 : b542 ≠ y597 := own_neOr hq597 nw_b542_589 A_593.lt
      change own_G p e below _ _ (mkF m 281 _ [])
      refine own_aload (n := 283) X597 hx (hb hby at_281) rfl rfl rfl ?_
      refine own_V (n := 286) (argsL := []) (rest := []) (a := b557) X597 hx hZ hown (own_rm_tba_8 l Z a0 hw b557 y597 k597 M597 r597 (1 : Int32) (91 : Int32) q0 q1 q2 (44 : Int32) q3 q4 (93 : Int32) T597.heap n0 Z_604 E_602 Fb597 Fl597 Fa597 Vb597 Ec597 hl597 hN597 g_b557 gb597) (ww71 hw) (ww72 hw) (notFace_of_selects (args := #[]) (mvT hZ (ww74 hw))) (ww74 hw) (ww73 hw) (ww3 hw) (ww75 hw) (by decide) rfl E_602 (by rw [hml]; rfl) (lenOf own_pd5 rfl) rfl (hb hby at_283) (Nat.le_of_ble_eq_true rfl) (Nat.le_of_ble_eq_true rfl) (Nat.le_of_ble_eq_true rfl) (Nat.le_of_ble_eq_true rfl) rfl ?_
      rintro v605 T605 L605 X605 ⟨y605, k605, rfl, Nq605, K605, sz605, gb605, Vb605⟩
      have N605 := Fr.app N597 Nq605
      have A_606 := A_598.keep K605 (by simp)
      have A_607 := A_599.keep K605 (by simp)
      have A_608 := A_600.keep K605 (by simp)
      have A_609 := A_601.keep K605 (by simp)
      have E_610 := E_602.keep K605
      have F_611 := Fb597.keep K605 (by simp)
      have F_612 := Fl597.keep K605 (by simp)
      have F_613 := Fa597.keep K605 (by simp)
      have A_614 := Vb597.keep K605 (by simp)
      have E_615 := Ec597.keep K605
      have Z_616 : n0 ≤ T605.heap.size := Nat.le_trans Z_604 K605.1
      have nr_b489_605 : b489 ≠ y605 := Nat.ne_of_lt (Nat.lt_of_lt_of_le A_598.lt sz605)
      have nr_b497_605 : b497 ≠ y605 := Nat.ne_of_lt (Nat.lt_of_lt_of_le A_599.lt sz605)
      have nr_b506_605 : b506 ≠ y605 := Nat.ne_of_lt (Nat.lt_of_lt_of_le A_600.lt sz605)
      have nr_b542_605 : b542 ≠ y605 := Nat.ne_of_lt (Nat.lt_of_lt_of_le A_601.lt sz605)
      have nr_b557_605 : b557 ≠ y605 := Nat.ne_of_lt (Nat.lt_of_lt_of_le E_602.lt sz605)
      have nr_y597_605 : y597 ≠ y605 := Nat.ne_of_lt (Nat.lt_of_lt_of_le Vb597.lt sz605)
      change own_G p e below _ _ (mkF m 286 _ [(.ref y605)])
      refine own_astore (n := 288) (l' := #[.val (.int p0), .val (.long q), .second, .val (.int p2), .val (.int cp), .val (.int (1 : Int32)), .val (.int (1 : Int32)), .val (.int q0), .val (.int q1), .val (.int q2), .val (.int q3), .val (.int q4), .val (.ref b489), .val (.ref b497), .val (.ref b506), .val (.int (8 : Int32)), .val (.ref b542), .val (.ref b557), .val (.ref y605), .unset, .unset, .unset, .unset, .unset]) X605 hx (hb hby at_286) rfl rfl rfl ?_
      refine own_aload (n := 290) X605 hx (hb hby at_288) rfl rfl rfl ?_
      refine own_aload (n := 292) X605 hx (hb hby at_290) rfl rfl rfl ?_
      refine own_iload (n := 294) X605 hx (hb hby at_292) rfl rfl ?_
      refine own_S (n := 297) (argsL := [(.ref y605), (.ref b506), (.int (8 : Int32))]) (rest := []) X605 hx hZ hown (own_rm_same_8 l Z a0 hw y605 b506 k605 k506 (91 : Int32) q0 q1 q2 (44 : Int32) q3 q4 (93 : Int32) T605.heap n0 Z_616 Vb605 A_608) (ww76 hw) (ww77 hw) (ww78 hw) (ww79 hw) (by decide) rfl (by rw [hml]; rfl) (lenOf own_pd7 rfl) rfl (hb hby at_294) (Nat.le_of_ble_eq_true rfl) (Nat.le_of_ble_eq_true rfl) (Nat.le_of_ble_eq_true rfl) (Nat.le_of_ble_eq_true rfl) rfl ?_
      rintro v617 T617 L617 X617 ⟨rfl, Nq617, eq617⟩
      have N617 := Fr.app N605 Nq617
      change own_G p e below _ _ (mkF m 297 _ [(.int (1 : Int32))])
      refine own_istore (n := 299) (l' := #[.val (.int p0), .val (.long q), .second, .val (.int p2), .val (.int cp), .val (.int (1 : Int32)), .val (.int (1 : Int32)), .val (.int q0), .val (.int q1), .val (.int q2), .val (.int q3), .val (.int q4), .val (.ref b489), .val (.ref b497), .val (.ref b506), .val (.int (8 : Int32)), .val (.ref b542), .val (.ref b557), .val (.ref y605), .val (.int (1 : Int32)), .unset, .unset, .unset, .unset]) X617 hx (hb hby at_297) rfl rfl ?_
      refine own_aload (n := 301) X617 hx (hb hby at_299) rfl rfl rfl ?_
      refine own_ifnullNo (n := 304) X617 hx (hb hby at_301) rfl ?_
      refine own_aload (n := 306) X617 hx (hb hby at_304) rfl rfl rfl ?_
      refine own_len (n := 307) X617 hx hZ eq617 Vb605 (hb hby at_306) rfl ?_
      refine own_ifNo (n := 310) X617 hx (hb hby at_307) (tlt (by decide : (0 : Int32) < (8 : Int32))).2.2.2 rfl ?_
      refine own_aload (n := 312) X617 hx (hb hby at_310) rfl rfl rfl ?_
      refine own_iconst (n := 313) (z := (0 : Int32)) X617 hx (hb hby at_312) rfl rfl ?_
      refine own_aload (n := 315) X617 hx (hb hby at_313) rfl rfl rfl ?_
      refine own_iconst (n := 316) (z := (0 : Int32)) X617 hx (hb hby at_315) rfl rfl ?_
      refine own_ld_baload (n := 317) (v := (.int (91 : Int32))) X617 hx hZ eq617 Vb605 ⟨by decide, by decide⟩ rfl (hb hby at_316) rfl ?_
      refine own_iconst (n := 318) (z := (1 : Int32)) X617 hx (hb hby at_317) rfl rfl ?_
      refine own_ixor (n := 319) (z := (90 : Int32)) X617 hx (hb hby at_318) rfl rfl ?_
      refine own_i2b (n := 320) (z := (90 : Int32)) X617 hx (hb hby at_319) rfl rfl ?_
      refine own_st_bastore (n := 321) X617 hx hZ eq617 Vb605 ⟨by decide, by decide⟩ 0 rfl (Nat.le_of_ble_eq_true rfl) (hb hby at_320) rfl ?_
      intro T618 h618 X618 e618 W618 V618q
      have V618 : Arv Z h618 y605 k605 .byte (8 : Int32) [(.int (90 : Int32)), (.int q0), (.int q1), (.int q2), (.int (44 : Int32)), (.int q3), (.int q4), (.int (93 : Int32))] (.int (0 : Int32)) := V618q
      have N618 := Fr.snoc X618 N617 gb605
      have A_619 := A_606.other W618 nr_b489_605
      have A_620 := A_607.other W618 nr_b497_605
      have A_621 := A_608.other W618 nr_b506_605
      have A_622 := A_609.other W618 nr_b542_605
      have E_623 := E_610.wr W618
      have F_624 := F_611.other W618 (Or.inl nr_b557_605)
      have F_625 := F_612.other W618 (Or.inl nr_b557_605)
      have F_626 := F_613.other W618 (Or.inl nr_b557_605)
      have A_627 := A_614.other W618 nr_y597_605
      have E_628 := E_615.wr W618
      have Z_629 : n0 ≤ h618.size := by rw [W618.size]; exact Z_616
      refine own_aload (n := 323) X618 hx (hb hby at_321) rfl rfl rfl ?_
      refine own_V (n := 326) (argsL := []) (rest := []) (a := b557) X618 hx hZ hown (own_rm_tba_8 l Z a0 hw b557 y597 k597 M597 r597 (1 : Int32) (91 : Int32) q0 q1 q2 (44 : Int32) q3 q4 (93 : Int32) h618 n0 Z_629 E_623 F_624 F_625 F_626 A_627 E_628 hl597 hN597 g_b557 gb597) (ww71 hw) (ww72 hw) (notFace_of_selects (args := #[]) (mvT hZ (ww74 hw))) (ww74 hw) (ww73 hw) (ww3 hw) (ww75 hw) (by decide) e618 E_623 (by rw [hml]; rfl) (lenOf own_pd5 rfl) rfl (hb hby at_323) (Nat.le_of_ble_eq_true rfl) (Nat.le_of_ble_eq_true rfl) (Nat.le_of_ble_eq_true rfl) (Nat.le_of_ble_eq_true rfl) rfl ?_
      rintro v630 T630 L630 X630 ⟨y630, k630, rfl, Nq630, K630, sz630, gb630, Vb630⟩
      have N630 := Fr.app N618 Nq630
      have A_631 := A_619.keep K630 (by simp)
      have A_632 := A_620.keep K630 (by simp)
      have A_633 := A_621.keep K630 (by simp)
      have A_634 := A_622.keep K630 (by simp)
      have E_635 := E_623.keep K630
      have F_636 := F_624.keep K630 (by simp)
      have F_637 := F_625.keep K630 (by simp)
      have F_638 := F_626.keep K630 (by simp)
      have A_639 := A_627.keep K630 (by simp)
      have E_640 := E_628.keep K630
      have A_641 := V618.keep K630 (by simp)
      have Z_642 : n0 ≤ T630.heap.size := Nat.le_trans Z_629 K630.1
      have nr_b489_630 : b489 ≠ y630 := Nat.ne_of_lt (Nat.lt_of_lt_of_le A_619.lt sz630)
      have nr_b497_630 : b497 ≠ y630 := Nat.ne_of_lt (Nat.lt_of_lt_of_le A_620.lt sz630)
      have nr_b506_630 : b506 ≠ y630 := Nat.ne_of_lt (Nat.lt_of_lt_of_le A_621.lt sz630)
      have nr_b542_630 : b542 ≠ y630 := Nat.ne_of_lt (Nat.lt_of_lt_of_le A_622.lt sz630)
      have nr_b557_630 : b557 ≠ y630 := Nat.ne_of_lt (Nat.lt_of_lt_of_le E_623.lt sz630)
      have nr_y597_630 : y597 ≠ y630 := Nat.ne_of_lt (Nat.lt_of_lt_of_le A_627.lt sz630)
      have nr_y605_630 : y605 ≠ y630 := Nat.ne_of_lt (Nat.lt_of_lt_of_le V618.lt sz630)
      change own_G p e below _ _ (mkF m 326 _ [(.ref y630)])
      refine own_astore (n := 328) (l' := #[.val (.int p0), .val (.long q), .second, .val (.int p2), .val (.int cp), .val (.int (1 : Int32)), .val (.int (1 : Int32)), .val (.int q0), .val (.int q1), .val (.int q2), .val (.int q3), .val (.int q4), .val (.ref b489), .val (.ref b497), .val (.ref b506), .val (.int (8 : Int32)), .val (.ref b542), .val (.ref b557), .val (.ref y605), .val (.int (1 : Int32)), .val (.ref y630), .unset, .unset, .unset]) X630 hx (hb hby at_326) rfl rfl rfl ?_
      refine own_aload (n := 330) X630 hx (hb hby at_328) rfl rfl rfl ?_
      refine own_aload (n := 332) X630 hx (hb hby at_330) rfl rfl rfl ?_
      refine own_iload (n := 334) X630 hx (hb hby at_332) rfl rfl ?_
      refine own_S (n := 337) (argsL := [(.ref y630), (.ref b506), (.int (8 : Int32))]) (rest := []) X630 hx hZ hown (own_rm_same_8 l Z a0 hw y630 b506 k630 k506 (91 : Int32) q0 q1 q2 (44 : Int32) q3 q4 (93 : Int32) T630.heap n0 Z_642 Vb630 A_633) (ww76 hw) (ww77 hw) (ww78 hw) (ww79 hw) (by decide) rfl (by rw [hml]; rfl) (lenOf own_pd7 rfl) rfl (hb hby at_334) (Nat.le_of_ble_eq_true rfl) (Nat.le_of_ble_eq_true rfl) (Nat.le_of_ble_eq_true rfl) (Nat.le_of_ble_eq_true rfl) rfl ?_
      rintro v643 T643 L643 X643 ⟨rfl, Nq643, eq643⟩
      have N643 := Fr.app N630 Nq643
      change own_G p e below _ _ (mkF m 337 _ [(.int (1 : Int32))])
      refine own_istore (n := 339) (l' := #[.val (.int p0), .val (.long q), .second, .val (.int p2), .val (.int cp), .val (.int (1 : Int32)), .val (.int (1 : Int32)), .val (.int q0), .val (.int q1), .val (.int q2), .val (.int q3), .val (.int q4), .val (.ref b489), .val (.ref b497), .val (.ref b506), .val (.int (8 : Int32)), .val (.ref b542), .val (.ref b557), .val (.ref y605), .val (.int (1 : Int32)), .val (.ref y630), .val (.int (1 : Int32)), .unset, .unset]) X643 hx (hb hby at_337) rfl rfl ?_
      refine own_aload (n := 341) X643 hx (hb hby at_339) rfl rfl rfl ?_
      refine own_V (n := 344) (argsL := []) (rest := []) (a := b557) X643 hx hZ hown (own_rm_clear l Z a0 hw b557 y597 (8 : Int32) (1 : Int32) T630.heap n0 Z_642 E_635 F_637 F_638 F_636 g_b557) (ww83 hw) (ww84 hw) (notFace_of_selects (args := #[]) (mvT hZ (ww86 hw))) (ww86 hw) (ww85 hw) (ww3 hw) (ww87 hw) (by decide) eq643 E_635 (by rw [hml]; rfl) (lenOf own_pd1 rfl) rfl (hb hby at_341) (Nat.le_of_ble_eq_true rfl) (Nat.le_of_ble_eq_true rfl) (Nat.le_of_ble_eq_true rfl) (Nat.le_of_ble_eq_true rfl) rfl ?_
      rintro v644 T644 L644 X644 ⟨rfl, Nq644, K644, Eq644, Fb644, Fl644, Fa644⟩
      have N644 := Fr.app N643 Nq644
      have A_645 := A_631.keep K644 (by simp [ne_b489_b557])
      have A_646 := A_632.keep K644 (by simp [ne_b497_b557])
      have A_647 := A_633.keep K644 (by simp [ne_b506_b557])
      have A_648 := A_634.keep K644 (by simp [ne_b542_b557])
      have E_649 := E_635.keep K644
      have A_650 := A_639.keep K644 (by simp [(Ne.symm (own_neEA E_635 (ww2 hw) A_639))])
      have E_651 := E_640.keep K644
      have A_652 := A_641.keep K644 (by simp [(Ne.symm nr_b557_605)])
      have A_653 := Vb630.keep K644 (by simp [(Ne.symm nr_b557_630)])
      have Z_654 : n0 ≤ T644.heap.size := Nat.le_trans Z_642 K644.1
      have hl644 : ((.int (91 : Int32)) :: (.int q0) :: (.int q1) :: (.int q2) :: (.int (44 : Int32)) :: (.int q3) :: (.int q4) :: (.int (93 : Int32)) :: r597).length + 0 = M597.toNatClampNeg := by have q := hl597; (try simp only [List.length_cons]); omega
      change own_G p e below _ _ (mkF m 344 _ [])
      refine own_aload (n := 346) X644 hx (hb hby at_344) rfl rfl rfl ?_
      refine own_aload (n := 348) X644 hx (hb hby at_346) rfl rfl rfl ?_
      refine own_V (n := 351) (argsL := [(.ref b497)]) (rest := []) (a := b557) X644 hx hZ hown (own_rm_val_0_0_2 l Z a0 hw b557 y597 k597 M597 ((.int (91 : Int32)) :: (.int q0) :: (.int q1) :: (.int q2) :: (.int (44 : Int32)) :: (.int q3) :: (.int q4) :: (.int (93 : Int32)) :: r597) b497 k497 q3 q4 T644.heap n0 Z_654 E_649 Fb644 Fl644 Fa644 A_650 E_651 hl644 hN597 g_b557 gb597 A_646 (nw_b497_597)) (ww52 hw) (ww53 hw) (notFace_of_selects (args := #[]) (mvT hZ (ww55 hw))) (ww55 hw) (ww54 hw) (ww3 hw) (ww56 hw) (by decide) rfl E_649 (by rw [hml]; rfl) (lenOf own_pd4 rfl) rfl (hb hby at_348) (Nat.le_of_ble_eq_true rfl) (Nat.le_of_ble_eq_true rfl) (Nat.le_of_ble_eq_true rfl) (Nat.le_of_ble_eq_true rfl) rfl ?_
      rintro v655 T655 L655 X655 ⟨y655, k655, M655, r655, rfl, Nq655, K655, Eq655, Fb655, Fl655, Fa655, Vb655, Ec655, hl655, hN655, hq655, gb655⟩
      have N655 := Fr.app N644 Nq655
      have A_656 := A_645.keep K655 (by simp [ne_b489_b557, nw_b489_597])
      have A_657 := A_646.keep K655 (by simp [ne_b497_b557, nw_b497_597])
      have A_658 := A_647.keep K655 (by simp [ne_b506_b557, nw_b506_597])
      have A_659 := A_648.keep K655 (by simp [ne_b542_b557, nw_b542_597])
      have E_660 := E_649.keep K655
      have E_661 := E_651.keep K655
      have A_662 := A_652.keep K655 (by simp [(Ne.symm nr_b557_605), (Ne.symm nr_y597_605)])
      have A_663 := A_653.keep K655 (by simp [(Ne.symm nr_b557_630), (Ne.symm nr_y597_630)])
      have Z_664 : n0 ≤ T655.heap.size := Nat.le_trans Z_654 K655.1
      have nw_b489_655 : b489 ≠ y655 := own_neOr hq655 nw_b489_597 A_645.lt
      have nw_b497_655 : b497 ≠ y655 := own_neOr hq655 nw_b497_597 A_646.lt
      have nw_b506_655 : b506 ≠ y655 := own_neOr hq655 nw_b506_597 A_647.lt
      have nw_b542_655 : b542 ≠ y655 := own_neOr hq655 nw_b542_597 A_648.lt
      have nw_y605_655 : y605 ≠ y655 := own_neOr hq655 (Ne.symm nr_y597_605) A_652.lt
      have nw_y630_655 : y630 ≠ y655 := own_neOr hq655 (Ne.symm nr_y597_630) A_653.lt
      change own_G p e below _ _ (mkF m 351 _ [])
      refine own_aload (n := 353) X655 hx (hb hby at_351) rfl rfl rfl ?_
      refine own_V (n := 356) (argsL := []) (rest := []) (a := b557) X655 hx hZ hown (own_rm_tba_2 l Z a0 hw b557 y655 k655 M655 r655 (1 : Int32) q3 q4 T655.heap n0 Z_664 E_660 Fb655 Fl655 Fa655 Vb655 Ec655 hl655 hN655 g_b557 gb655) (ww71 hw) (ww72 hw) (notFace_of_selects (args := #[]) (mvT hZ (ww74 hw))) (ww74 hw) (ww73 hw) (ww3 hw) (ww75 hw) (by decide) rfl E_660 (by rw [hml]; rfl) (lenOf own_pd5 rfl) rfl (hb hby at_353) (Nat.le_of_ble_eq_true rfl) (Nat.le_of_ble_eq_true rfl) (Nat.le_of_ble_eq_true rfl) (Nat.le_of_ble_eq_true rfl) rfl ?_
      rintro v665 T665 L665 X665 ⟨y665, k665, rfl, Nq665, K665, sz665, gb665, Vb665⟩
      have N665 := Fr.app N655 Nq665
      have A_666 := A_656.keep K665 (by simp)
      have A_667 := A_657.keep K665 (by simp)
      have A_668 := A_658.keep K665 (by simp)
      have A_669 := A_659.keep K665 (by simp)
      have E_670 := E_660.keep K665
      have A_671 := A_662.keep K665 (by simp)
      have A_672 := A_663.keep K665 (by simp)
      have F_673 := Fb655.keep K665 (by simp)
      have F_674 := Fl655.keep K665 (by simp)
      have F_675 := Fa655.keep K665 (by simp)
      have A_676 := Vb655.keep K665 (by simp)
      have E_677 := Ec655.keep K665
      have Z_678 : n0 ≤ T665.heap.size := Nat.le_trans Z_664 K665.1
      have nr_b489_665 : b489 ≠ y665 := Nat.ne_of_lt (Nat.lt_of_lt_of_le A_656.lt sz665)
      have nr_b497_665 : b497 ≠ y665 := Nat.ne_of_lt (Nat.lt_of_lt_of_le A_657.lt sz665)
      have nr_b506_665 : b506 ≠ y665 := Nat.ne_of_lt (Nat.lt_of_lt_of_le A_658.lt sz665)
      have nr_b542_665 : b542 ≠ y665 := Nat.ne_of_lt (Nat.lt_of_lt_of_le A_659.lt sz665)
      have nr_b557_665 : b557 ≠ y665 := Nat.ne_of_lt (Nat.lt_of_lt_of_le E_660.lt sz665)
      have nr_y605_665 : y605 ≠ y665 := Nat.ne_of_lt (Nat.lt_of_lt_of_le A_662.lt sz665)
      have nr_y630_665 : y630 ≠ y665 := Nat.ne_of_lt (Nat.lt_of_lt_of_le A_663.lt sz665)
      have nr_y655_665 : y655 ≠ y665 := Nat.ne_of_lt (Nat.lt_of_lt_of_le Vb655.lt sz665)
      change own_G p e below _ _ (mkF m 356 _ [(.ref y665)])
      refine own_astore (n := 358) (l' := #[.val (.int p0), .val (.long q), .second, .val (.int p2), .val (.int cp), .val (.int (1 : Int32)), .val (.int (1 : Int32)), .val (.int q0), .val (.int q1), .val (.int q2), .val (.int q3), .val (.int q4), .val (.ref b489), .val (.ref b497), .val (.ref b506), .val (.int (8 : Int32)), .val (.ref b542), .val (.ref b557), .val (.ref y605), .val (.int (1 : Int32)), .val (.ref y630), .val (.int (1 : Int32)), .val (.ref y665), .unset]) X665 hx (hb hby at_356) rfl rfl rfl ?_
      refine own_aload (n := 360) X665 hx (hb hby at_358) rfl rfl rfl ?_
      refine own_aload (n := 362) X665 hx (hb hby at_360) rfl rfl rfl ?_
      refine own_iconst (n := 363) (z := (2 : Int32)) X665 hx (hb hby at_362) rfl rfl ?_
      refine own_S (n := 366) (argsL := [(.ref y665), (.ref b542), (.int (2 : Int32))]) (rest := []) X665 hx hZ hown (own_rm_same_2 l Z a0 hw y665 b542 k665 k542 q3 q4 (0 : Int32) (0 : Int32) (0 : Int32) (0 : Int32) (0 : Int32) (0 : Int32) T665.heap n0 Z_678 Vb665 A_669) (ww76 hw) (ww77 hw) (ww78 hw) (ww79 hw) (by decide) rfl (by rw [hml]; rfl) (lenOf own_pd7 rfl) rfl (hb hby at_363) (Nat.le_of_ble_eq_true rfl) (Nat.le_of_ble_eq_true rfl) (Nat.le_of_ble_eq_true rfl) (Nat.le_of_ble_eq_true rfl) rfl ?_
      rintro v679 T679 L679 X679 ⟨rfl, Nq679, eq679⟩
      have N679 := Fr.app N665 Nq679
      change own_G p e below _ _ (mkF m 366 _ [(.int (1 : Int32))])
      refine own_istore (n := 368) (l' := #[.val (.int p0), .val (.long q), .second, .val (.int p2), .val (.int cp), .val (.int (1 : Int32)), .val (.int (1 : Int32)), .val (.int q0), .val (.int q1), .val (.int q2), .val (.int q3), .val (.int q4), .val (.ref b489), .val (.ref b497), .val (.ref b506), .val (.int (8 : Int32)), .val (.ref b542), .val (.ref b557), .val (.ref y605), .val (.int (1 : Int32)), .val (.ref y630), .val (.int (1 : Int32)), .val (.ref y665), .val (.int (1 : Int32))]) X679 hx (hb hby at_366) rfl rfl ?_
      refine own_iload (n := 370) X679 hx (hb hby at_368) rfl rfl ?_
      refine own_ifNo (n := 373) X679 hx (hb hby at_370) (feq (by decide : ¬ ((1 : Int32) = (0 : Int32)))).1 rfl ?_
      refine own_iload (n := 375) X679 hx (hb hby at_373) rfl rfl ?_
      refine own_ifNo (n := 378) X679 hx (hb hby at_375) (feq (by decide : ¬ ((1 : Int32) = (0 : Int32)))).1 rfl ?_
      refine own_iload (n := 380) X679 hx (hb hby at_378) rfl rfl ?_
      refine own_ifNo (n := 383) X679 hx (hb hby at_380) (feq (by decide : ¬ ((1 : Int32) = (0 : Int32)))).1 rfl ?_
      refine own_iconst (n := 384) (z := (1 : Int32)) X679 hx (hb hby at_383) rfl rfl ?_
      refine own_goto (n := 388) X679 hx (hb hby at_384) (by decide) (by decide) ?_
      refine own_retZ X679 hx hlk hret (by simp) eq679 (w := (1 : Int32)) rfl (hb hby at_388) (by decide) (by decide) ?_
      exact ⟨rfl, N679⟩
set_option maxRecDepth 65536 in
set_option maxHeartbeats 40000000 in
theorem comes_1 {Post : Tables → Env → Array Value → State → Outcome → State → Prop} (hpost : ∀ tb e args s v u, (limb_1_1.after args s (.returned v) u = true ∧ limb_1_2.after args s (.returned v) u = true ∧ True) → FrameEnd s (.returned v) u (Jvm.fieldLocs frame_1_writes args s ++ Jvm.arrayLocs frame_1_arrays args s ++ Jvm.staticLocs frame_1_statics s) 32 192 → Post tb e args s (.returned v) u) :
    ArmFor flags0 classFile x code maxLocals ret World_1 tables_1 room_1 Calls_1 rest_1 Pre_1 Post := by
  intro l hfl _ _ p e ha hc hk s m args below hf hA hF happ hP
  obtain ⟨hcalls, hrest, hpre⟩ := hP
  obtain ⟨-, -, -, hnamed, -, -, -, hat⟩ := (Spec.applies_iff hf).mp happ
  obtain ⟨hg, hn⟩ := and_e (Cond.before_iff.mp (show (Jvm.Cond.and given_1 narrow_1).before args s = true from hpre))
  obtain ⟨hcount, hr0⟩ := and_e hg
  obtain ⟨ha0, hr1⟩ := and_e hr0
  obtain ⟨ha1, hr2⟩ := and_e hr1
  obtain ⟨w0, w1, w2, rfl⟩ : ∃ w0 w1 w2 : Value, args = #[w0, w1, w2] := by
    have hs : args.size = 3 := by simpa [Cond.value, given_1] using hcount
    obtain ⟨L⟩ := args
    match L, hs with
    | [w0, w1, w2], _ => exact ⟨w0, w1, w2, rfl⟩
  have hw := fun d (hd : d ∈ tables_1) => atoms_spec (ws := Jvm.Cond.code x code maxLocals ret :: tables_1) hat d (List.mem_cons_of_mem _ hd)
  have hfit : Fit s := fun {y c} hc i hi => by
    obtain ⟨ha, rfl⟩ := Array.getElem?_eq_some_iff.mp hc
    have q := List.all_eq_true.mp ((Array.all_eq_true_iff_forall_mem.mp hF) _ (Array.getElem_mem ha)) i (List.mem_range.mpr hi)
    simpa [Array.getElem?_eq_getElem hi] using q
  obtain ⟨i0, ev0⟩ := is_v ha0
  obtain rfl : w0 = (.int i0) := Option.some.inj ev0
  obtain ⟨i1, ev1⟩ := isL_v ha1
  obtain rfl : w1 = (.long i1) := Option.some.inj ev1
  obtain ⟨i2, ev2⟩ := is_v hr2
  obtain rfl : w2 = (.int i2) := Option.some.inj ev2
  obtain ⟨n, o, h1, h2, h3, _, L, rfl, ⟨rfl, N⟩, hq⟩ := own_rm0 l s _ hw i0 i1 i2 s.heap s.heap.size (Nat.le_refl _) p e ha hc hk s m _ below hf ((Spec.applies_iff_loose hf).mp happ).1 ⟨rfl, State.Warmed39.refl s, rfl⟩ trivial
  refine ⟨n, _, h1, h2, h3, hpost _ _ _ _ _ _ ⟨Cond.after_iff.mpr rfl, Cond.after_iff.mpr (eq_i res_at (Term.int_eval (1)) rfl), trivial⟩ ⟨hq.1, hq.2.1, (hq.2.2.sift fun y hy => Or.inr (N y hy)).mono (by decide) (by decide)⟩⟩
theorem main_1_1 : Claimed_1_1 := comes_1 fun _ _ _ _ _ _ h hF => ⟨h.1, hF⟩
theorem main_1_2 : Claimed_1_2 := comes_1 fun _ _ _ _ _ _ h hF => ⟨h.2.1, hF⟩
end Jvm.Pilot.@@N@@
namespace Jvm.Pilot.@@N@@
open Jvm Jvm.ClassFile Sem Op Lib Jvm.Free Jvm.Stand Jvm.Pilot.@@N@@.Jvm.D
/-! MADE BY PROGRAM (witnessworld.py) out of the Statement's table words and the real class files: 12 classes; the members and pool entries that the words name. The judged class is class 1, her method 3. -/
namespace start1
open Jvm.ClassFile
def u (s : String) : CpInfo := .utf8 (stringToUtf16 s)
/-- a pool by its gaps: so many unusable entries, then the entry; so many at the end -/
def gap : Nat → List CpInfo → List CpInfo
  | 0, r => r
  | n + 1, r => .unusable :: gap n r
def poolList (es : List (Nat × CpInfo)) (last : Nat) : List CpInfo := es.foldr (fun e r => gap e.1 (e.2 :: r)) (gap last [])
def pool (es : List (Nat × CpInfo)) (last : Nat) : Array CpInfo := ⟨poolList es last⟩
def fileOf (pool : Array CpInfo) (this : Nat) (attrs : Array Attribute := #[]) (ms : Array MethodInfo := #[]) (fl : Nat := 33) (sup : Nat := 0) (ifs : Array Nat := #[]) (fds : Array FieldInfo := #[]) : ClassFile where
  minorVersion := 0
  majorVersion := 65
  constantPool := pool
  accessFlags := fl
  thisClass := this
  superClass := sup
  interfaces := ifs
  fields := fds
  methods := ms
  attributes := attrs
def plain (name : String) (sup : Option ClassId) : Class where
  name := name
  kind := .ordinary
  loader := none
  accessFlags := 33
  super := sup
  interfaces := #[]
  cf := none
  fields := #[]
  methods := #[]
  instanceTypes := #[]
  staticTypes := #[]
  resolved := #[]
  callSites := []
  init := .initialized
  statics := none
  mirror := none

def pool0 : Array CpInfo := pool [(5, u "<init>"), (0, u "()V"), (1, .class_ 10), (1, u "java/lang/Object"), (85, u "clone"), (0, u "()Ljava/lang/Object;")] 26

def k0c0 : Code := { maxStack := 0, maxLocals := 1, code := object_method_1_code, exceptionTable := #[], attributes := #[] }
def k0m0 : Method := { name := "<init>", desc := "()V", sig := { parameters := [], returnType := none }, accessFlags := 1, code := some k0c0 }
def k0m1 : Method := { name := "clone", desc := "()Ljava/lang/Object;", sig := { parameters := [], returnType := some (.object "java/lang/Object") }, accessFlags := 260, code := none }
/-- java/lang/Object -/
def k0 : Class := { plain "java/lang/Object" none with
  accessFlags := 33
  interfaces := #[]
  cf := some (fileOf pool0 8 #[] #[{ accessFlags := 1, nameIndex := 5, descriptorIndex := 6, attributes := #[] }, { accessFlags := 260, nameIndex := 96, descriptorIndex := 97, attributes := #[] }] 33 0 #[] #[])
  fields := #[]
  methods := #[k0m0, k0m1]
  instanceTypes := #[]
  staticTypes := #[]
  resolved := Array.replicate 124 none
  statics := none }

def pool1 : Array CpInfo := pool [(2, .class_ 4), (1, u "java/lang/Object"), (0, u "<init>"), (0, u "()V"), (0, .methodref 8 9), (0, .class_ 10), (0, .nameAndType 11 12), (0, u "com/example/doseline/doseline/fhir/JsonWriterToByteArrayPinLaw"), (0, u "at"), (0, u "([B[BII)Z"), (0, .class_ 14), (0, u "com/example/doseline/doseline/fhir/JsonWriter"), (0, .methodref 13 16), (0, .nameAndType 5 17), (0, u "(I)V"), (0, .methodref 13 19), (0, .nameAndType 20 6), (0, u "startArray"), (0, .methodref 13 22), (0, .nameAndType 23 24), (0, u "value"), (0, u "([B)V"), (0, .methodref 13 26), (0, .nameAndType 27 6), (0, u "endArray"), (0, .methodref 13 29), (0, .nameAndType 30 31), (0, u "toByteArray"), (0, u "()[B"), (0, .methodref 8 33), (0, .nameAndType 34 35), (0, u "same"), (0, u "([B[BI)Z"), (0, .methodref 13 37), (0, .nameAndType 38 6), (0, u "clear"), (3, u "law"), (0, u "(IJI)Z")] 4

def k1m0 : Method := { name := "<init>", desc := "()V", sig := { parameters := [], returnType := none }, accessFlags := 2, code := none }
def k1c1 : Code := { maxStack := 3, maxLocals := 4, code := method_2_code, exceptionTable := #[], attributes := #[] }
def k1m1 : Method := { name := "at", desc := "([B[BII)Z", sig := { parameters := [(.array .byte), (.array .byte), .int, .int], returnType := some .boolean }, accessFlags := 10, code := some k1c1 }
def k1c2 : Code := { maxStack := 4, maxLocals := 3, code := method_3_code, exceptionTable := #[], attributes := #[] }
def k1m2 : Method := { name := "same", desc := "([B[BI)Z", sig := { parameters := [(.array .byte), (.array .byte), .int], returnType := some .boolean }, accessFlags := 10, code := some k1c2 }
def k1c3 : Code := { maxStack := 4, maxLocals := 24, code := code, exceptionTable := #[], attributes := #[] }
def k1m3 : Method := { name := "law", desc := "(IJI)Z", sig := { parameters := [.int, .long, .int], returnType := some .boolean }, accessFlags := 9, code := some k1c3 }
/-- com/example/doseline/doseline/fhir/JsonWriterToByteArrayPinLaw -/
def k1 : Class := { plain "com/example/doseline/doseline/fhir/JsonWriterToByteArrayPinLaw" (some 0) with
  accessFlags := 49
  interfaces := #[]
  cf := some (fileOf pool1 8 #[] #[{ accessFlags := 2, nameIndex := 5, descriptorIndex := 6, attributes := #[] }, { accessFlags := 10, nameIndex := 11, descriptorIndex := 12, attributes := #[] }, { accessFlags := 10, nameIndex := 34, descriptorIndex := 35, attributes := #[] }, { accessFlags := 9, nameIndex := 42, descriptorIndex := 43, attributes := #[] }] 49 2 #[] #[])
  fields := #[]
  methods := #[k1m0, k1m1, k1m2, k1m3]
  instanceTypes := #[]
  staticTypes := #[]
  resolved := Array.replicate 48 none
  statics := none }

def pool2 : Array CpInfo := pool [(1, .methodref 2 3), (0, .class_ 4), (0, .nameAndType 5 6), (0, u "java/lang/Object"), (0, u "<init>"), (0, u "()V"), (0, .fieldref 8 9), (0, .class_ 10), (0, .nameAndType 11 12), (0, u "com/example/doseline/doseline/fhir/JsonWriter"), (0, u "bytes"), (0, u "[B"), (4, u "length"), (3, u "(I)V"), (6, u "toByteArray"), (0, u "()[B"), (2, u "value"), (6, .class_ 40), (0, u "com/example/doseline/doseline/fhir/JsonWriter$Part"), (0, .fieldref 8 42), (0, .nameAndType 43 44), (0, u "afterElement"), (0, u "Z"), (3, .fieldref 8 49), (0, .nameAndType 17 50), (0, u "I"), (0, .methodref 8 52), (0, .nameAndType 53 54), (0, u "start"), (0, u "(B)V"), (0, .methodref 8 56), (0, .nameAndType 57 54), (0, u "end"), (0, .methodref 8 59), (0, .nameAndType 60 6), (0, u "separate"), (0, .methodref 8 62), (0, .nameAndType 63 64), (0, u "write"), (0, u "([B)V"), (3, .methodref 8 69), (0, .nameAndType 63 54), (26, .methodref 97 98), (0, .class_ 99), (0, .nameAndType 100 101), (0, u "java/util/Arrays"), (0, u "copyOf"), (0, u "([BI)[B"), (1, .class_ 105), (1, u "java/lang/Math"), (1, u "(II)I"), (3, .methodref 8 112), (0, .nameAndType 113 21), (0, u "room"), (16, u "HEX"), (0, .methodref 132 133), (0, .class_ 134), (0, .nameAndType 135 136), (0, u "java/lang/System"), (0, u "arraycopy"), (0, u "(Ljava/lang/Object;ILjava/lang/Object;II)V"), (0, .methodref 103 138), (0, .nameAndType 139 107), (0, u "max"), (2, u "MOST_BYTES_PER_CHAR"), (11, u "clear"), (3, u "startArray"), (0, u "endArray")] 14

def k2c0 : Code := { maxStack := 2, maxLocals := 2, code := prog_96_method_1_code, exceptionTable := #[], attributes := #[] }
def k2m0 : Method := { name := "<init>", desc := "(I)V", sig := { parameters := [.int], returnType := none }, accessFlags := 0, code := some k2c0 }
def k2c1 : Code := { maxStack := 2, maxLocals := 1, code := prog_96_method_5_code, exceptionTable := #[], attributes := #[] }
def k2m1 : Method := { name := "clear", desc := "()V", sig := { parameters := [], returnType := none }, accessFlags := 0, code := some k2c1 }
def k2c2 : Code := { maxStack := 2, maxLocals := 1, code := prog_96_method_9_code, exceptionTable := #[], attributes := #[] }
def k2m2 : Method := { name := "startArray", desc := "()V", sig := { parameters := [], returnType := none }, accessFlags := 0, code := some k2c2 }
def k2c3 : Code := { maxStack := 2, maxLocals := 1, code := prog_96_method_10_code, exceptionTable := #[], attributes := #[] }
def k2m3 : Method := { name := "endArray", desc := "()V", sig := { parameters := [], returnType := none }, accessFlags := 0, code := some k2c3 }
def k2c4 : Code := { maxStack := 2, maxLocals := 2, code := prog_96_method_12_code, exceptionTable := #[], attributes := #[] }
def k2m4 : Method := { name := "value", desc := "([B)V", sig := { parameters := [(.array .byte)], returnType := none }, accessFlags := 0, code := some k2c4 }
def k2c5 : Code := { maxStack := 2, maxLocals := 1, code := prog_96_method_20_code, exceptionTable := #[], attributes := #[] }
def k2m5 : Method := { name := "toByteArray", desc := "()[B", sig := { parameters := [], returnType := some (.array .byte) }, accessFlags := 0, code := some k2c5 }
def k2c6 : Code := { maxStack := 2, maxLocals := 2, code := prog_96_method_21_code, exceptionTable := #[], attributes := #[] }
def k2m6 : Method := { name := "start", desc := "(B)V", sig := { parameters := [.byte], returnType := none }, accessFlags := 2, code := some k2c6 }
def k2c7 : Code := { maxStack := 2, maxLocals := 2, code := prog_96_method_22_code, exceptionTable := #[], attributes := #[] }
def k2m7 : Method := { name := "end", desc := "(B)V", sig := { parameters := [.byte], returnType := none }, accessFlags := 2, code := some k2c7 }
def k2c8 : Code := { maxStack := 2, maxLocals := 1, code := prog_96_method_24_code, exceptionTable := #[], attributes := #[] }
def k2m8 : Method := { name := "separate", desc := "()V", sig := { parameters := [], returnType := none }, accessFlags := 2, code := some k2c8 }
def k2c9 : Code := { maxStack := 5, maxLocals := 2, code := prog_96_method_26_code, exceptionTable := #[], attributes := #[] }
def k2m9 : Method := { name := "write", desc := "(B)V", sig := { parameters := [.byte], returnType := none }, accessFlags := 2, code := some k2c9 }
def k2c10 : Code := { maxStack := 5, maxLocals := 2, code := prog_96_method_27_code, exceptionTable := #[], attributes := #[] }
def k2m10 : Method := { name := "write", desc := "([B)V", sig := { parameters := [(.array .byte)], returnType := none }, accessFlags := 2, code := some k2c10 }
def k2c11 : Code := { maxStack := 5, maxLocals := 2, code := prog_96_method_28_code, exceptionTable := #[], attributes := #[] }
def k2m11 : Method := { name := "room", desc := "(I)V", sig := { parameters := [.int], returnType := none }, accessFlags := 2, code := some k2c11 }
/-- com/example/doseline/doseline/fhir/JsonWriter -/
def k2 : Class := { plain "com/example/doseline/doseline/fhir/JsonWriter" (some 0) with
  accessFlags := 48
  interfaces := #[]
  cf := some (fileOf pool2 8 #[.nestMembers #[39]] #[{ accessFlags := 0, nameIndex := 5, descriptorIndex := 21, attributes := #[] }, { accessFlags := 0, nameIndex := 154, descriptorIndex := 6, attributes := #[] }, { accessFlags := 0, nameIndex := 158, descriptorIndex := 6, attributes := #[] }, { accessFlags := 0, nameIndex := 159, descriptorIndex := 6, attributes := #[] }, { accessFlags := 0, nameIndex := 32, descriptorIndex := 64, attributes := #[] }, { accessFlags := 0, nameIndex := 28, descriptorIndex := 29, attributes := #[] }, { accessFlags := 2, nameIndex := 53, descriptorIndex := 54, attributes := #[] }, { accessFlags := 2, nameIndex := 57, descriptorIndex := 54, attributes := #[] }, { accessFlags := 2, nameIndex := 60, descriptorIndex := 6, attributes := #[] }, { accessFlags := 2, nameIndex := 63, descriptorIndex := 54, attributes := #[] }, { accessFlags := 2, nameIndex := 63, descriptorIndex := 64, attributes := #[] }, { accessFlags := 2, nameIndex := 113, descriptorIndex := 21, attributes := #[] }] 48 2 #[] #[{ accessFlags := 26, nameIndex := 130, descriptorIndex := 12, attributes := #[] }, { accessFlags := 26, nameIndex := 142, descriptorIndex := 50, attributes := #[] }, { accessFlags := 2, nameIndex := 11, descriptorIndex := 12, attributes := #[] }, { accessFlags := 2, nameIndex := 17, descriptorIndex := 50, attributes := #[] }, { accessFlags := 2, nameIndex := 43, descriptorIndex := 44, attributes := #[] }])
  fields := #[{ name := "HEX", type := (.array .byte), accessFlags := 26, slot := 0, constantValue := 0 }, { name := "MOST_BYTES_PER_CHAR", type := .int, accessFlags := 26, slot := 1, constantValue := 0 }, { name := "bytes", type := (.array .byte), accessFlags := 2, slot := 0, constantValue := 0 }, { name := "length", type := .int, accessFlags := 2, slot := 1, constantValue := 0 }, { name := "afterElement", type := .boolean, accessFlags := 2, slot := 2, constantValue := 0 }]
  methods := #[k2m0, k2m1, k2m2, k2m3, k2m4, k2m5, k2m6, k2m7, k2m8, k2m9, k2m10, k2m11]
  instanceTypes := #[(.array .byte), .int, .boolean]
  staticTypes := #[(.array .byte), .int]
  resolved := Array.replicate 174 none
  statics := none }

def pool3 : Array CpInfo := pool [(1, .class_ 2), (0, u "java/lang/Math"), (1, .class_ 6), (1, u "java/lang/Object"), (0, u "<init>"), (0, u "()V"), (89, .class_ 100), (1, u "java/lang/Math$RandomNumberGeneratorHolder"), (71, u "negativeZeroFloatBits"), (0, u "J"), (2, u "negativeZeroDoubleBits"), (21, u "max"), (2, u "min"), (43, u "$assertionsDisabled"), (0, u "Z"), (88, u "(II)I"), (2, u "twoToTheDoubleScaleDown"), (0, u "D"), (4, u "twoToTheDoubleScaleUp"), (9, u "E"), (3, u "PI"), (2, u "TAU"), (2, u "DEGREES_TO_RADIANS"), (0, u "RADIANS_TO_DEGREES")] 94

def k3m0 : Method := { name := "<init>", desc := "()V", sig := { parameters := [], returnType := none }, accessFlags := 2, code := none }
def k3c1 : Code := { maxStack := 2, maxLocals := 2, code := jdk_29_method_65_code, exceptionTable := #[], attributes := #[] }
def k3m1 : Method := { name := "max", desc := "(II)I", sig := { parameters := [.int, .int], returnType := some .int }, accessFlags := 9, code := some k3c1 }
def k3c2 : Code := { maxStack := 2, maxLocals := 2, code := jdk_29_method_69_code, exceptionTable := #[], attributes := #[] }
def k3m2 : Method := { name := "min", desc := "(II)I", sig := { parameters := [.int, .int], returnType := some .int }, accessFlags := 9, code := some k3c2 }
/-- java/lang/Math -/
def k3 : Class := { plain "java/lang/Math" (some 0) with
  accessFlags := 49
  interfaces := #[]
  cf := some (fileOf pool3 1 #[.nestMembers #[98]] #[{ accessFlags := 2, nameIndex := 7, descriptorIndex := 8, attributes := #[] }, { accessFlags := 9, nameIndex := 198, descriptorIndex := 335, attributes := #[] }, { accessFlags := 9, nameIndex := 201, descriptorIndex := 335, attributes := #[] }] 49 4 #[] #[{ accessFlags := 25, nameIndex := 354, descriptorIndex := 339, attributes := #[] }, { accessFlags := 25, nameIndex := 358, descriptorIndex := 339, attributes := #[] }, { accessFlags := 25, nameIndex := 361, descriptorIndex := 339, attributes := #[] }, { accessFlags := 26, nameIndex := 364, descriptorIndex := 339, attributes := #[] }, { accessFlags := 26, nameIndex := 365, descriptorIndex := 339, attributes := #[] }, { accessFlags := 26, nameIndex := 172, descriptorIndex := 173, attributes := #[] }, { accessFlags := 26, nameIndex := 176, descriptorIndex := 173, attributes := #[] }, { accessFlags := 8, nameIndex := 344, descriptorIndex := 339, attributes := #[] }, { accessFlags := 8, nameIndex := 338, descriptorIndex := 339, attributes := #[] }, { accessFlags := 4120, nameIndex := 245, descriptorIndex := 246, attributes := #[] }])
  fields := #[{ name := "E", type := .double, accessFlags := 25, slot := 0, constantValue := 0 }, { name := "PI", type := .double, accessFlags := 25, slot := 1, constantValue := 0 }, { name := "TAU", type := .double, accessFlags := 25, slot := 2, constantValue := 0 }, { name := "DEGREES_TO_RADIANS", type := .double, accessFlags := 26, slot := 3, constantValue := 0 }, { name := "RADIANS_TO_DEGREES", type := .double, accessFlags := 26, slot := 4, constantValue := 0 }, { name := "negativeZeroFloatBits", type := .long, accessFlags := 26, slot := 5, constantValue := 0 }, { name := "negativeZeroDoubleBits", type := .long, accessFlags := 26, slot := 6, constantValue := 0 }, { name := "twoToTheDoubleScaleUp", type := .double, accessFlags := 8, slot := 7, constantValue := 0 }, { name := "twoToTheDoubleScaleDown", type := .double, accessFlags := 8, slot := 8, constantValue := 0 }, { name := "$assertionsDisabled", type := .boolean, accessFlags := 4120, slot := 9, constantValue := 0 }]
  methods := #[k3m0, k3m1, k3m2]
  instanceTypes := #[]
  staticTypes := #[.double, .double, .double, .double, .double, .long, .long, .double, .double, .boolean]
  resolved := Array.replicate 460 none
  statics := none }

def pool4 : Array CpInfo := pool [(2, .class_ 4), (1, u "java/lang/Object"), (0, u "<init>"), (0, u "()V"), (7, .class_ 16), (1, u "java/util/Arrays"), (57, .class_ 76), (1, u "java/util/Arrays$NaturalOrder"), (32, u "()Ljava/lang/Object;"), (3, .class_ 115), (1, u "java/util/Arrays$LegacyMergeSort"), (1, u "Z"), (10, .nameAndType 129 109), (0, u "clone"), (20, .methodref 151 152), (0, .class_ 153), (0, .nameAndType 154 155), (0, u "java/lang/System"), (0, u "arraycopy"), (0, u "(Ljava/lang/Object;ILjava/lang/Object;II)V"), (146, u "copyOf"), (1, .methodref 305 306), (0, .class_ 307), (0, .nameAndType 308 309), (0, u "java/lang/Math"), (0, u "min"), (0, u "(II)I"), (0, .methodref 311 128), (0, .class_ 312), (0, u "[B"), (62, .class_ 376), (0, u "java/util/Arrays$ArrayList"), (68, u "$assertionsDisabled"), (269, u "MIN_ARRAY_SORT_GRAN"), (0, u "I"), (2, u "INSERTIONSORT_THRESHOLD"), (149, u "([BI)[B"), (105, .class_ 976), (0, u "java/util/Arrays$ArrayItr")] 52

def k4m0 : Method := { name := "<init>", desc := "()V", sig := { parameters := [], returnType := none }, accessFlags := 2, code := none }
def k4c1 : Code := { maxStack := 6, maxLocals := 3, code := jdk_65_method_121_code, exceptionTable := #[], attributes := #[] }
def k4m1 : Method := { name := "copyOf", desc := "([BI)[B", sig := { parameters := [(.array .byte), .int], returnType := some (.array .byte) }, accessFlags := 9, code := some k4c1 }
/-- java/util/Arrays -/
def k4 : Class := { plain "java/util/Arrays" (some 0) with
  accessFlags := 49
  interfaces := #[]
  cf := some (fileOf pool4 14 #[.nestMembers #[975, 375, 113, 74]] #[{ accessFlags := 2, nameIndex := 5, descriptorIndex := 6, attributes := #[] }, { accessFlags := 9, nameIndex := 302, descriptorIndex := 869, attributes := #[] }] 49 2 #[] #[{ accessFlags := 26, nameIndex := 715, descriptorIndex := 716, attributes := #[] }, { accessFlags := 26, nameIndex := 719, descriptorIndex := 716, attributes := #[] }, { accessFlags := 4120, nameIndex := 445, descriptorIndex := 117, attributes := #[] }])
  fields := #[{ name := "MIN_ARRAY_SORT_GRAN", type := .int, accessFlags := 26, slot := 0, constantValue := 0 }, { name := "INSERTIONSORT_THRESHOLD", type := .int, accessFlags := 26, slot := 1, constantValue := 0 }, { name := "$assertionsDisabled", type := .boolean, accessFlags := 4120, slot := 2, constantValue := 0 }]
  methods := #[k4m0, k4m1]
  instanceTypes := #[]
  staticTypes := #[.int, .int, .boolean]
  resolved := Array.replicate 1029 none
  statics := none }

def pool5 : Array CpInfo := pool [(2, .class_ 4), (1, u "java/lang/Object"), (0, u "<init>"), (0, u "()V"), (1, .class_ 10), (1, u "java/lang/System"), (0, u "allowSecurityManager"), (0, u "I"), (16, u "cons"), (0, u "Ljava/io/Console;"), (77, .class_ 110), (1, u "java/lang/System$CallersHolder"), (43, u "initialErrStream"), (0, u "Ljava/io/PrintStream;"), (19, u "security"), (0, u "Ljava/lang/SecurityManager;"), (31, .class_ 209), (0, u "java/lang/System$1"), (7, u "props"), (0, u "Ljava/util/Properties;"), (2, u "lineSeparator"), (0, u "Ljava/lang/String;"), (96, .class_ 321), (1, u "java/lang/System$LoggerFinder"), (5, .class_ 328), (0, u "java/lang/System$Logger"), (67, u "err"), (2, u "out"), (91, u "notSupportedJnuEncoding"), (15, u "in"), (17, u "initialIn"), (0, u "Ljava/io/InputStream;"), (35, u "bootLayer"), (0, u "Ljava/lang/ModuleLayer;"), (99, .class_ 664), (0, u "java/lang/System$2"), (9, u "NEVER"), (2, u "MAYBE"), (49, u "arraycopy"), (0, u "(Ljava/lang/Object;ILjava/lang/Object;II)V"), (72, .class_ 802), (0, u "java/lang/System$Logger$Level")] 31

def k5m0 : Method := { name := "<init>", desc := "()V", sig := { parameters := [], returnType := none }, accessFlags := 2, code := none }
def k5m1 : Method := { name := "arraycopy", desc := "(Ljava/lang/Object;ILjava/lang/Object;II)V", sig := { parameters := [(.object "java/lang/Object"), .int, (.object "java/lang/Object"), .int, .int], returnType := none }, accessFlags := 265, code := none }
/-- java/lang/System -/
def k5 : Class := { plain "java/lang/System" (some 0) with
  accessFlags := 49
  interfaces := #[]
  cf := some (fileOf pool5 8 #[.nestMembers #[319, 327, 801, 108, 663, 208]] #[{ accessFlags := 2, nameIndex := 5, descriptorIndex := 6, attributes := #[] }, { accessFlags := 265, nameIndex := 727, descriptorIndex := 728, attributes := #[] }] 49 2 #[] #[{ accessFlags := 25, nameIndex := 507, descriptorIndex := 526, attributes := #[] }, { accessFlags := 25, nameIndex := 399, descriptorIndex := 155, attributes := #[] }, { accessFlags := 25, nameIndex := 396, descriptorIndex := 155, attributes := #[] }, { accessFlags := 10, nameIndex := 525, descriptorIndex := 526, attributes := #[] }, { accessFlags := 26, nameIndex := 674, descriptorIndex := 12, attributes := #[] }, { accessFlags := 26, nameIndex := 677, descriptorIndex := 12, attributes := #[] }, { accessFlags := 10, nameIndex := 11, descriptorIndex := 12, attributes := #[] }, { accessFlags := 74, nameIndex := 175, descriptorIndex := 176, attributes := #[] }, { accessFlags := 10, nameIndex := 491, descriptorIndex := 222, attributes := #[] }, { accessFlags := 74, nameIndex := 29, descriptorIndex := 30, attributes := #[] }, { accessFlags := 74, nameIndex := 154, descriptorIndex := 155, attributes := #[] }, { accessFlags := 10, nameIndex := 217, descriptorIndex := 218, attributes := #[] }, { accessFlags := 10, nameIndex := 221, descriptorIndex := 222, attributes := #[] }, { accessFlags := 8, nameIndex := 562, descriptorIndex := 563, attributes := #[] }])
  fields := #[{ name := "in", type := (.object "java/io/InputStream"), accessFlags := 25, slot := 0, constantValue := 0 }, { name := "out", type := (.object "java/io/PrintStream"), accessFlags := 25, slot := 1, constantValue := 0 }, { name := "err", type := (.object "java/io/PrintStream"), accessFlags := 25, slot := 2, constantValue := 0 }, { name := "initialIn", type := (.object "java/io/InputStream"), accessFlags := 10, slot := 3, constantValue := 0 }, { name := "NEVER", type := .int, accessFlags := 26, slot := 4, constantValue := 0 }, { name := "MAYBE", type := .int, accessFlags := 26, slot := 5, constantValue := 0 }, { name := "allowSecurityManager", type := .int, accessFlags := 10, slot := 6, constantValue := 0 }, { name := "security", type := (.object "java/lang/SecurityManager"), accessFlags := 74, slot := 7, constantValue := 0 }, { name := "notSupportedJnuEncoding", type := (.object "java/lang/String"), accessFlags := 10, slot := 8, constantValue := 0 }, { name := "cons", type := (.object "java/io/Console"), accessFlags := 74, slot := 9, constantValue := 0 }, { name := "initialErrStream", type := (.object "java/io/PrintStream"), accessFlags := 74, slot := 10, constantValue := 0 }, { name := "props", type := (.object "java/util/Properties"), accessFlags := 10, slot := 11, constantValue := 0 }, { name := "lineSeparator", type := (.object "java/lang/String"), accessFlags := 10, slot := 12, constantValue := 0 }, { name := "bootLayer", type := (.object "java/lang/ModuleLayer"), accessFlags := 8, slot := 13, constantValue := 0 }]
  methods := #[k5m0, k5m1]
  instanceTypes := #[]
  staticTypes := #[(.object "java/io/InputStream"), (.object "java/io/PrintStream"), (.object "java/io/PrintStream"), (.object "java/io/InputStream"), .int, .int, .int, (.object "java/lang/SecurityManager"), (.object "java/lang/String"), (.object "java/io/Console"), (.object "java/io/PrintStream"), (.object "java/util/Properties"), (.object "java/lang/String"), (.object "java/lang/ModuleLayer")]
  resolved := Array.replicate 834 none
  statics := none }

def pool6 : Array CpInfo := pool [(1, .class_ 2), (0, u "java/lang/Cloneable"), (0, .class_ 4), (0, u "java/lang/Object")] 2

/-- java/lang/Cloneable -/
def k6 : Class := { plain "java/lang/Cloneable" (some 0) with
  accessFlags := 1537
  interfaces := #[]
  cf := some (fileOf pool6 1 #[] #[] 1537 3 #[] #[])
  fields := #[]
  methods := #[]
  instanceTypes := #[]
  staticTypes := #[]
  resolved := Array.replicate 7 none
  statics := none }

def pool7 : Array CpInfo := pool [(1, u "java/io/Serializable"), (0, .class_ 1), (0, u "java/lang/Object"), (0, .class_ 3)] 3

/-- java/io/Serializable -/
def k7 : Class := { plain "java/io/Serializable" (some 0) with
  accessFlags := 1537
  interfaces := #[]
  cf := some (fileOf pool7 2 #[] #[] 1537 4 #[] #[])
  fields := #[]
  methods := #[]
  instanceTypes := #[]
  staticTypes := #[]
  resolved := Array.replicate 8 none
  statics := none }

/-- the primitive byte -/
def k8 : Class := { plain "byte" none with kind := .primitive 'B', accessFlags := 0x411 }
/-- [B -/
def k9 : Class := { plain "[B" (some 0) with kind := .array 8 .byte, interfaces := #[6, 7], accessFlags := 1041 }

/-- the primitive int -/
def k10 : Class := { plain "int" none with kind := .primitive 'I', accessFlags := 0x411 }
/-- [I -/
def k11 : Class := { plain "[I" (some 0) with kind := .array 10 .int, interfaces := #[6, 7], accessFlags := 1041 }

def heap : Heap := #[]
def classes : Array Class := #[k0, k1, k2, k3, k4, k5, k6, k7, k8, k9, k10, k11]
def interned : List (Array UInt16 × Addr) := []
def slotsUsed : Nat := 0
def theMethod : MethodId := ⟨1, 3⟩
def args0 : Array Value := #[.int 5, .long 300, .int 7]
def aboutOver (below : List Frame) : State where
  vm := { classes := classes, interned := interned.toArray }
  heap := heap
  slotsUsed := slotsUsed
  threads := #[{ frames := .invoking theMethod args0 :: below }]
def below0 : List Frame := [.native { method := ⟨0, 0⟩, args := #[] }]
def about1 : State := aboutOver below0
def p0 : Program := .bare "" "" ""
def e0 : Env := launch0.env 0 0 0
theorem w_frames : about1.frames = Frame.invoking theMethod args0 :: below0 := rfl
set_option maxRecDepth 65536 in
theorem w_args : argsFit about1.vm theMethod args0 = true := by decide +kernel
set_option maxRecDepth 65536 in
theorem w_heap : heapFits about1 = true := by decide +kernel
set_option maxRecDepth 65536 in
theorem w_runnable : about1.curStatus? = some .runnable := by decide +kernel
set_option maxRecDepth 65536 in
theorem w_alone : about1.alone = true := by decide +kernel
set_option maxRecDepth 65536 in
theorem w_named : about1.methodNamed? x = some theMethod := by decide +kernel
set_option maxRecDepth 65536 in
theorem w_hears : about1.hears theMethod below0 = true := by decide +kernel
set_option maxRecDepth 65536 in
theorem w_ripe : about1.ripe theMethod args0 below0 = true := by decide +kernel
theorem w_running : about1.status = .running := rfl
set_option maxRecDepth 65536 in
theorem w_room : about1.hasRoom e0.platform room_1 = true :=
  launch0.hasRoom_least _ room_1 (by decide +kernel) (by decide +kernel) (by decide +kernel) (by decide +kernel) (by decide +kernel) (by decide +kernel)
theorem allAtoms_all (ts : List Jvm.Cond) (a : Array Jvm.Value) (st : Jvm.State) : (allAtoms ts).before a st = ts.all (fun c => c.before a st) := by
  induction ts with
  | nil => rfl
  | cons c t ih =>
    show (Jvm.Cond.and c (allAtoms t)).before a st = _
    rw [Jvm.Cond.before_and, ih, List.all_cons]
def words1 : List Jvm.Cond := Jvm.Cond.code x code maxLocals ret :: tables_1
/-- a 'code' word, met by the world's own term for the bytes: nothing is compared byte by byte -/
theorem code_word {y : MethodName} {bytes : ByteArray} {mx : Nat} {rt : Option FieldType} {a : Array Value} {s : State} {m : MethodId} {meth : Method} {c : Code} (h1 : s.methodNamed? y = some m) (h2 : s.vm.method? m = some meth) (h3 : meth.code = some c) (h4 : c.code = bytes)
    (h5 : (c.maxLocals == mx && c.exceptionTable.isEmpty && decide (c.maxStack ≤ mostOperands) && decide (meth.sig.returnType = rt) && !meth.locks && decide (parseMethodDescriptor y.desc = some meth.sig)) = true) : (Jvm.Cond.code y bytes mx rt).before a s = true := by
  simp only [Bool.and_eq_true, beq_iff_eq, Bool.not_eq_true', decide_eq_true_eq] at h5
  obtain ⟨⟨⟨⟨⟨g1, g2⟩, g3⟩, g4⟩, g5⟩, g6⟩ := h5
  simp [Cond.before, Cond.holds, Cond.value, h1, h2, h3, h4, g1, g2, g3, g4, g5, g6]
def isCode : Jvm.Cond → Bool
  | .code _ _ _ _ => true
  | _ => false
theorem all_split {L : List Jvm.Cond} {P : Jvm.Cond → Bool} (h1 : L.all (fun c => isCode c || P c) = true) (h2 : ∀ c ∈ L.filter isCode, P c = true) : L.all P = true := by
  refine List.all_eq_true.mpr fun c hc => ?_
  have h := List.all_eq_true.mp h1 c hc
  rcases Bool.eq_false_or_eq_true (isCode c) with hi | hi
  · exact h2 c (List.mem_filter.mpr ⟨hc, hi⟩)
  · simpa [hi] using h
set_option maxRecDepth 65536 in
theorem w_c0 : (Jvm.Cond.code x code maxLocals ret).before args0 about1 = true := code_word (m := ⟨1, 3⟩) (meth := k1m3) (c := k1c3) (by decide +kernel) rfl rfl rfl (by decide +kernel)
set_option maxRecDepth 65536 in
theorem w_c1 : (Jvm.Cond.code ({ cls := "com/example/doseline/doseline/fhir/JsonWriter", name := "<init>", desc := "(I)V" } : Jvm.MethodName) prog_96_method_1_code (2 : Nat) (Option.none : Option Jvm.ClassFile.FieldType)).before args0 about1 = true := code_word (m := ⟨2, 0⟩) (meth := k2m0) (c := k2c0) (by decide +kernel) rfl rfl rfl (by decide +kernel)
set_option maxRecDepth 65536 in
theorem w_c2 : (Jvm.Cond.code ({ cls := "java/lang/Object", name := "<init>", desc := "()V" } : Jvm.MethodName) object_method_1_code (1 : Nat) (Option.none : Option Jvm.ClassFile.FieldType)).before args0 about1 = true := code_word (m := ⟨0, 0⟩) (meth := k0m0) (c := k0c0) (by decide +kernel) rfl rfl rfl (by decide +kernel)
set_option maxRecDepth 65536 in
theorem w_c3 : (Jvm.Cond.code ({ cls := "com/example/doseline/doseline/fhir/JsonWriter", name := "startArray", desc := "()V" } : Jvm.MethodName) prog_96_method_9_code (1 : Nat) (Option.none : Option Jvm.ClassFile.FieldType)).before args0 about1 = true := code_word (m := ⟨2, 2⟩) (meth := k2m2) (c := k2c2) (by decide +kernel) rfl rfl rfl (by decide +kernel)
set_option maxRecDepth 65536 in
theorem w_c4 : (Jvm.Cond.code ({ cls := "com/example/doseline/doseline/fhir/JsonWriter", name := "start", desc := "(B)V" } : Jvm.MethodName) prog_96_method_21_code (2 : Nat) (Option.none : Option Jvm.ClassFile.FieldType)).before args0 about1 = true := code_word (m := ⟨2, 6⟩) (meth := k2m6) (c := k2c6) (by decide +kernel) rfl rfl rfl (by decide +kernel)
set_option maxRecDepth 65536 in
theorem w_c5 : (Jvm.Cond.code ({ cls := "com/example/doseline/doseline/fhir/JsonWriter", name := "separate", desc := "()V" } : Jvm.MethodName) prog_96_method_24_code (1 : Nat) (Option.none : Option Jvm.ClassFile.FieldType)).before args0 about1 = true := code_word (m := ⟨2, 8⟩) (meth := k2m8) (c := k2c8) (by decide +kernel) rfl rfl rfl (by decide +kernel)
set_option maxRecDepth 65536 in
theorem w_c6 : (Jvm.Cond.code ({ cls := "com/example/doseline/doseline/fhir/JsonWriter", name := "write", desc := "(B)V" } : Jvm.MethodName) prog_96_method_26_code (2 : Nat) (Option.none : Option Jvm.ClassFile.FieldType)).before args0 about1 = true := code_word (m := ⟨2, 9⟩) (meth := k2m9) (c := k2c9) (by decide +kernel) rfl rfl rfl (by decide +kernel)
set_option maxRecDepth 65536 in
theorem w_c7 : (Jvm.Cond.code ({ cls := "com/example/doseline/doseline/fhir/JsonWriter", name := "room", desc := "(I)V" } : Jvm.MethodName) prog_96_method_28_code (2 : Nat) (Option.none : Option Jvm.ClassFile.FieldType)).before args0 about1 = true := code_word (m := ⟨2, 11⟩) (meth := k2m11) (c := k2c11) (by decide +kernel) rfl rfl rfl (by decide +kernel)
set_option maxRecDepth 65536 in
theorem w_c8 : (Jvm.Cond.code ({ cls := "java/lang/Math", name := "max", desc := "(II)I" } : Jvm.MethodName) jdk_29_method_65_code (2 : Nat) (Option.some Jvm.ClassFile.FieldType.int)).before args0 about1 = true := code_word (m := ⟨3, 1⟩) (meth := k3m1) (c := k3c1) (by decide +kernel) rfl rfl rfl (by decide +kernel)
set_option maxRecDepth 65536 in
theorem w_c9 : (Jvm.Cond.code ({ cls := "java/util/Arrays", name := "copyOf", desc := "([BI)[B" } : Jvm.MethodName) jdk_65_method_121_code (3 : Nat) (Option.some (Jvm.ClassFile.FieldType.array Jvm.ClassFile.FieldType.byte))).before args0 about1 = true := code_word (m := ⟨4, 1⟩) (meth := k4m1) (c := k4c1) (by decide +kernel) rfl rfl rfl (by decide +kernel)
set_option maxRecDepth 65536 in
theorem w_c10 : (Jvm.Cond.code ({ cls := "java/lang/Math", name := "min", desc := "(II)I" } : Jvm.MethodName) jdk_29_method_69_code (2 : Nat) (Option.some Jvm.ClassFile.FieldType.int)).before args0 about1 = true := code_word (m := ⟨3, 2⟩) (meth := k3m2) (c := k3c2) (by decide +kernel) rfl rfl rfl (by decide +kernel)
set_option maxRecDepth 65536 in
theorem w_c11 : (Jvm.Cond.code ({ cls := "com/example/doseline/doseline/fhir/JsonWriter", name := "value", desc := "([B)V" } : Jvm.MethodName) prog_96_method_12_code (2 : Nat) (Option.none : Option Jvm.ClassFile.FieldType)).before args0 about1 = true := code_word (m := ⟨2, 4⟩) (meth := k2m4) (c := k2c4) (by decide +kernel) rfl rfl rfl (by decide +kernel)
set_option maxRecDepth 65536 in
theorem w_c12 : (Jvm.Cond.code ({ cls := "com/example/doseline/doseline/fhir/JsonWriter", name := "write", desc := "([B)V" } : Jvm.MethodName) prog_96_method_27_code (2 : Nat) (Option.none : Option Jvm.ClassFile.FieldType)).before args0 about1 = true := code_word (m := ⟨2, 10⟩) (meth := k2m10) (c := k2c10) (by decide +kernel) rfl rfl rfl (by decide +kernel)
set_option maxRecDepth 65536 in
theorem w_c13 : (Jvm.Cond.code ({ cls := "com/example/doseline/doseline/fhir/JsonWriter", name := "endArray", desc := "()V" } : Jvm.MethodName) prog_96_method_10_code (1 : Nat) (Option.none : Option Jvm.ClassFile.FieldType)).before args0 about1 = true := code_word (m := ⟨2, 3⟩) (meth := k2m3) (c := k2c3) (by decide +kernel) rfl rfl rfl (by decide +kernel)
set_option maxRecDepth 65536 in
theorem w_c14 : (Jvm.Cond.code ({ cls := "com/example/doseline/doseline/fhir/JsonWriter", name := "end", desc := "(B)V" } : Jvm.MethodName) prog_96_method_22_code (2 : Nat) (Option.none : Option Jvm.ClassFile.FieldType)).before args0 about1 = true := code_word (m := ⟨2, 7⟩) (meth := k2m7) (c := k2c7) (by decide +kernel) rfl rfl rfl (by decide +kernel)
set_option maxRecDepth 65536 in
theorem w_c15 : (Jvm.Cond.code ({ cls := "com/example/doseline/doseline/fhir/JsonWriter", name := "toByteArray", desc := "()[B" } : Jvm.MethodName) prog_96_method_20_code (1 : Nat) (Option.some (Jvm.ClassFile.FieldType.array Jvm.ClassFile.FieldType.byte))).before args0 about1 = true := code_word (m := ⟨2, 5⟩) (meth := k2m5) (c := k2c5) (by decide +kernel) rfl rfl rfl (by decide +kernel)
set_option maxRecDepth 65536 in
theorem w_c16 : (Jvm.Cond.code ({ cls := "com/example/doseline/doseline/fhir/JsonWriterToByteArrayPinLaw", name := "same", desc := "([B[BI)Z" } : Jvm.MethodName) method_3_code (3 : Nat) (Option.some Jvm.ClassFile.FieldType.boolean)).before args0 about1 = true := code_word (m := ⟨1, 2⟩) (meth := k1m2) (c := k1c2) (by decide +kernel) rfl rfl rfl (by decide +kernel)
set_option maxRecDepth 65536 in
theorem w_c17 : (Jvm.Cond.code ({ cls := "com/example/doseline/doseline/fhir/JsonWriterToByteArrayPinLaw", name := "at", desc := "([B[BII)Z" } : Jvm.MethodName) method_2_code (4 : Nat) (Option.some Jvm.ClassFile.FieldType.boolean)).before args0 about1 = true := code_word (m := ⟨1, 1⟩) (meth := k1m1) (c := k1c1) (by decide +kernel) rfl rfl rfl (by decide +kernel)
set_option maxRecDepth 65536 in
theorem w_c18 : (Jvm.Cond.code ({ cls := "com/example/doseline/doseline/fhir/JsonWriter", name := "clear", desc := "()V" } : Jvm.MethodName) prog_96_method_5_code (1 : Nat) (Option.none : Option Jvm.ClassFile.FieldType)).before args0 about1 = true := code_word (m := ⟨2, 1⟩) (meth := k2m1) (c := k2c1) (by decide +kernel) rfl rfl rfl (by decide +kernel)
def codes1 : List Jvm.Cond := [Jvm.Cond.code x code maxLocals ret, Jvm.Cond.code ({ cls := "com/example/doseline/doseline/fhir/JsonWriter", name := "<init>", desc := "(I)V" } : Jvm.MethodName) prog_96_method_1_code (2 : Nat) (Option.none : Option Jvm.ClassFile.FieldType), Jvm.Cond.code ({ cls := "java/lang/Object", name := "<init>", desc := "()V" } : Jvm.MethodName) object_method_1_code (1 : Nat) (Option.none : Option Jvm.ClassFile.FieldType), Jvm.Cond.code ({ cls := "com/example/doseline/doseline/fhir/JsonWriter", name := "startArray", desc := "()V" } : Jvm.MethodName) prog_96_method_9_code (1 : Nat) (Option.none : Option Jvm.ClassFile.FieldType), Jvm.Cond.code ({ cls := "com/example/doseline/doseline/fhir/JsonWriter", name := "start", desc := "(B)V" } : Jvm.MethodName) prog_96_method_21_code (2 : Nat) (Option.none : Option Jvm.ClassFile.FieldType), Jvm.Cond.code ({ cls := "com/example/doseline/doseline/fhir/JsonWriter", name := "separate", desc := "()V" } : Jvm.MethodName) prog_96_method_24_code (1 : Nat) (Option.none : Option Jvm.ClassFile.FieldType), Jvm.Cond.code ({ cls := "com/example/doseline/doseline/fhir/JsonWriter", name := "write", desc := "(B)V" } : Jvm.MethodName) prog_96_method_26_code (2 : Nat) (Option.none : Option Jvm.ClassFile.FieldType), Jvm.Cond.code ({ cls := "com/example/doseline/doseline/fhir/JsonWriter", name := "room", desc := "(I)V" } : Jvm.MethodName) prog_96_method_28_code (2 : Nat) (Option.none : Option Jvm.ClassFile.FieldType), Jvm.Cond.code ({ cls := "java/lang/Math", name := "max", desc := "(II)I" } : Jvm.MethodName) jdk_29_method_65_code (2 : Nat) (Option.some Jvm.ClassFile.FieldType.int), Jvm.Cond.code ({ cls := "java/util/Arrays", name := "copyOf", desc := "([BI)[B" } : Jvm.MethodName) jdk_65_method_121_code (3 : Nat) (Option.some (Jvm.ClassFile.FieldType.array Jvm.ClassFile.FieldType.byte)), Jvm.Cond.code ({ cls := "java/lang/Math", name := "min", desc := "(II)I" } : Jvm.MethodName) jdk_29_method_69_code (2 : Nat) (Option.some Jvm.ClassFile.FieldType.int), Jvm.Cond.code ({ cls := "com/example/doseline/doseline/fhir/JsonWriter", name := "value", desc := "([B)V" } : Jvm.MethodName) prog_96_method_12_code (2 : Nat) (Option.none : Option Jvm.ClassFile.FieldType), Jvm.Cond.code ({ cls := "com/example/doseline/doseline/fhir/JsonWriter", name := "write", desc := "([B)V" } : Jvm.MethodName) prog_96_method_27_code (2 : Nat) (Option.none : Option Jvm.ClassFile.FieldType), Jvm.Cond.code ({ cls := "com/example/doseline/doseline/fhir/JsonWriter", name := "endArray", desc := "()V" } : Jvm.MethodName) prog_96_method_10_code (1 : Nat) (Option.none : Option Jvm.ClassFile.FieldType), Jvm.Cond.code ({ cls := "com/example/doseline/doseline/fhir/JsonWriter", name := "end", desc := "(B)V" } : Jvm.MethodName) prog_96_method_22_code (2 : Nat) (Option.none : Option Jvm.ClassFile.FieldType), Jvm.Cond.code ({ cls := "com/example/doseline/doseline/fhir/JsonWriter", name := "toByteArray", desc := "()[B" } : Jvm.MethodName) prog_96_method_20_code (1 : Nat) (Option.some (Jvm.ClassFile.FieldType.array Jvm.ClassFile.FieldType.byte)), Jvm.Cond.code ({ cls := "com/example/doseline/doseline/fhir/JsonWriterToByteArrayPinLaw", name := "same", desc := "([B[BI)Z" } : Jvm.MethodName) method_3_code (3 : Nat) (Option.some Jvm.ClassFile.FieldType.boolean), Jvm.Cond.code ({ cls := "com/example/doseline/doseline/fhir/JsonWriterToByteArrayPinLaw", name := "at", desc := "([B[BII)Z" } : Jvm.MethodName) method_2_code (4 : Nat) (Option.some Jvm.ClassFile.FieldType.boolean), Jvm.Cond.code ({ cls := "com/example/doseline/doseline/fhir/JsonWriter", name := "clear", desc := "()V" } : Jvm.MethodName) prog_96_method_5_code (1 : Nat) (Option.none : Option Jvm.ClassFile.FieldType)]
set_option maxRecDepth 65536 in
theorem codes_eq : words1.filter isCode = codes1 := rfl
theorem w_codes : ∀ c ∈ words1.filter isCode, c.before args0 about1 = true := by
  rw [codes_eq]
  intro c hc
  simp only [codes1, List.mem_cons, List.not_mem_nil, or_false] at hc
  rcases hc with rfl | rfl | rfl | rfl | rfl | rfl | rfl | rfl | rfl | rfl | rfl | rfl | rfl | rfl | rfl | rfl | rfl | rfl | rfl
  · exact w_c0
  · exact w_c1
  · exact w_c2
  · exact w_c3
  · exact w_c4
  · exact w_c5
  · exact w_c6
  · exact w_c7
  · exact w_c8
  · exact w_c9
  · exact w_c10
  · exact w_c11
  · exact w_c12
  · exact w_c13
  · exact w_c14
  · exact w_c15
  · exact w_c16
  · exact w_c17
  · exact w_c18
set_option maxRecDepth 65536 in
theorem w_t1 : (words1.take 24).all (fun c => isCode c || c.before args0 about1) = true := by decide +kernel
set_option maxRecDepth 65536 in
theorem w_t2 : ((words1.drop 24).take 24).all (fun c => isCode c || c.before args0 about1) = true := by decide +kernel
set_option maxRecDepth 65536 in
theorem w_t3 : (((words1.drop 24).drop 24).take 24).all (fun c => isCode c || c.before args0 about1) = true := by decide +kernel
set_option maxRecDepth 65536 in
theorem w_t4 : ((((words1.drop 24).drop 24).drop 24).take 24).all (fun c => isCode c || c.before args0 about1) = true := by decide +kernel
set_option maxRecDepth 65536 in
theorem w_t5 : ((((words1.drop 24).drop 24).drop 24).drop 24).all (fun c => isCode c || c.before args0 about1) = true := by decide +kernel
theorem w_tables : (allAtoms (Jvm.Cond.code x code maxLocals ret :: tables_1)).before args0 about1 = true := by
  rw [allAtoms_all]
  show words1.all (fun c => c.before args0 about1) = true
  refine all_split ?_ w_codes
  rw [← List.take_append_drop 24 words1, List.all_append, w_t1, ← List.take_append_drop 24 (words1.drop 24), List.all_append, w_t2, ← List.take_append_drop 24 ((words1.drop 24).drop 24), List.all_append, w_t3, ← List.take_append_drop 24 (((words1.drop 24).drop 24).drop 24), List.all_append, w_t4, w_t5]
  rfl
set_option maxRecDepth 65536 in
theorem w_case : (Jvm.Cond.and given_1 narrow_1).before args0 about1 = true := by decide +kernel
theorem w_applies : (headSpec (Jvm.Cond.code x code maxLocals ret :: tables_1) room_1).applies x e0.platform about1 = true :=
  (Spec.applies_iff w_frames).mpr ⟨w_running, w_runnable, w_alone, w_named, w_hears, w_ripe, w_room, w_tables⟩
theorem atStart : AtStart classFile x code maxLocals ret World_1 tables_1 room_1 Calls_1 rest_1 Pre_1 launch0 p0 e0 about1 theMethod args0 below0 :=
  ⟨lists_1, trivial, launch0.admits_env _ _ _, launch0.least_env, fairChoices_fair.cas, fairChoices_fair.clock, w_frames, w_args, w_heap, w_applies, trivial, trivial, w_case⟩
end start1
theorem witness_1 : WitnessClaimed_1 := ⟨start1.p0, start1.e0, start1.about1, start1.theMethod, start1.args0, start1.below0, start1.atStart⟩
end Jvm.Pilot.@@N@@
