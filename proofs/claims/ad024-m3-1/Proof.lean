import JvmDerived
import JvmDerived.Pilot.@@N@@Statement
import JvmDerived.Pilot.@@N@@Code
set_option linter.unusedVariables false
set_option linter.unusedSimpArgs false

namespace Jvm.Pilot.@@N@@
open Jvm Jvm.ClassFile Sem Op Lib Jvm.Free Jvm.Stand Jvm.LawKit Jvm.RoadKit Bundle Jvm.Pilot.@@N@@.Jvm.D
section OwnKit
variable {p : Program} {l : Launch} {e : Env} {R : Room} {s : State} {m : MethodId} {args : Array Value} {below : List Frame} {meth : Method} {c : Code} {T : State} {locs : List Loc} {cells slots : Nat} {Z : State} {a0 : Array Value} {h : Heap}
/-- the run goes on from T with the frame f on top to an end that K says -/
def own_G (p : Program) (e : Env) (below : List Frame) (K : Outcome → State → Prop) (T : State) (f : JFrame) : Prop := ∃ s₂ o, Steps p.tables e below (T.setTop f) s₂ ∧ s₂.status = .running ∧ Ended s₂ below o ∧ K o s₂
theorem own_go {K : Outcome → State → Prop} {T' : State} {f f' : JFrame} (st : ∀ t, Steps p.tables e below (T'.setTop f') t → Steps p.tables e below (T.setTop f) t) (h : own_G p e below K T' f') : own_G p e below K T f := by
  obtain ⟨s₂, o, h1, h2⟩ := h
  exact ⟨s₂, o, st _ h1, h2⟩
theorem own_cast {K : Outcome → State → Prop} {f f' : JFrame} (q : f = f') (h : own_G p e below K T f') : own_G p e below K T f := q ▸ h
def own_K (Q : Option Value → Heap → List Loc → Prop) (s : State) (C S : Nat) : Outcome → State → Prop := fun o U => ∃ v L, o = .returned v ∧ Q v U.heap L ∧ FrameEnd s o U L C S
def own_Met (l : Launch) (Z : State) (y : MethodName) (bytes : ByteArray) (maxL : Nat) (ret : Option FieldType) (ws : List Jvm.Cond) (rm : Room) (as' : Array Value) (h0 : Heap) (Q : Option Value → Heap → List Loc → Prop) : Prop :=
  MetFree l y (head1 (Jvm.Cond.code y bytes maxL ret :: ws) rm) (fun a U => a = as' ∧ Z.Warmed39 U.vm ∧ U.heap = h0) (fun _ _ _ _ _ => True) (fun _ U o U' => own_K Q U rm.cells rm.slots o U')
theorem own_met {y : MethodName} {bytes : ByteArray} {maxL : Nat} {ret : Option FieldType} {ws : List Jvm.Cond} {rm : Room} {as' : Array Value} {h0 : Heap} {Q : Option Value → Heap → List Loc → Prop} (hpl : plainFor y = true)
    (body : ∀ (p : Program) (e : Env) (s : State) (m : MethodId) (below : List Frame) (meth : Method) (c : Code) (s₁ : State), p.tables.exec = Jvm.exec → c.code = bytes → c.maxLocals = maxL → s.vm.findClass y.cls = some m.cls → meth.name = y.name → meth.sig.returnType = ret → meth.locks = false →
      Z.Warmed39 s.vm → Stand p l e rm s m as' below meth c s₁ [] 0 0 → s₁.heap = h0 → own_G p e below (own_K Q s rm.cells rm.slots) s₁ (entryFrame m as' maxL)) :
    own_Met l Z y bytes maxL ret ws rm as' h0 Q := by
  refine MetFree.of_bodySF hpl hisR ?_
  intro p e s m args below meth c s₁ Bd hml hP hK
  obtain ⟨rfl, hZ, hh⟩ := hP
  have e0 : s₁.heap = h0 := by rw [← hh, Bd.state]; rfl
  have q := body p e s m below meth c s₁ Bd.exec Bd.bytes hml (findClass_of_methodNamed Bd.named) (name_of_methodNamed Bd.named Bd.method).1 Bd.returns (BodyLoose.notSynchronized Bd) hZ (Stand.of_body Bd) e0
  obtain ⟨s₂, o, h1, h2, h3, h4⟩ := q
  exact ⟨s₂, o, h1, h2, h3, h4⟩
theorem own_end (X : Stand p l e R s m args below meth c T locs cells slots) (hlk : meth.locks = false) {v : Option Value} {f : JFrame} {Q : Option Value → Heap → List Loc → Prop} {C S : Nat} (hv : meth.sig.returnType = none → v = none) (hc : cells ≤ C) (hs : slots ≤ S)
    (st : ∀ fs, (∀ (f : JFrame) (acts : List Action), f.method = m → f.locked = none → f.entered = [] → (doReturn e (T.setTop f) acts v).1 = T.setFrames fs) → Steps p.tables e below (T.setTop f) (T.setFrames fs)) (hq : Q v T.heap locs) : own_G p e below (own_K Q s C S) T f := by
  obtain ⟨fs, hr, hrun, hended, hW, hsame⟩ := X.leave (v := v) hv
  exact ⟨_, _, st fs hr, hrun, hended, v, locs, rfl, hq, ⟨_, rfl⟩, hW, hsame.mono hc hs⟩
theorem own_retZ (X : Stand p l e R s m args below meth c T locs cells slots) (hx : p.tables.exec = Jvm.exec) (hlk : meth.locks = false) {t : FieldType} (hret : meth.sig.returnType = some t) (ht : t = .boolean ∨ t = .byte ∨ t = .char ∨ t = .short) {pc : Nat} {Ls : Array Slot} {z : Int32} {rest : List Value} {Q : Option Value → Heap → List Loc → Prop} {C S : Nat}
    (eT : T.heap = h) {w : Int32} (hz : nar t z = w) (hd : decode c.code pc = .ok (.ireturn, 1)) (hc : cells ≤ C) (hs : slots ≤ S) (hq : Q (some (.int w)) h locs) : own_G p e below (own_K Q s C S) T (mkF m pc Ls (.int z :: rest)) := by
  subst eT hz
  exact own_end X hlk (fun q => by rw [hret] at q; cases q) hc hs (fun fs hr => retN X hx hret ht hd hr) hq
theorem own_retA (X : Stand p l e R s m args below meth c T locs cells slots) (hx : p.tables.exec = Jvm.exec) (hlk : meth.locks = false) {t : FieldType} (hret : meth.sig.returnType = some t) (ht : t.isReference = true) {pc : Nat} {Ls : Array Slot} {w : Value} (hw : w.isRef = true) (hn : narrow t w = w) {rest : List Value} {Q : Option Value → Heap → List Loc → Prop} {C S : Nat}
    (eT : T.heap = h) (hd : decode c.code pc = .ok (.areturn, 1)) (hc : cells ≤ C) (hs : slots ≤ S) (hq : Q (some w) h locs) : own_G p e below (own_K Q s C S) T (mkF m pc Ls (w :: rest)) := by
  subst eT
  exact own_end X hlk (fun q => by rw [hret] at q; cases q) hc hs (fun fs hr => retOut X hx hret hn (Or.inr (Or.inr (Or.inr (Or.inr ⟨rfl, ht, hw⟩)))) hd hr) hq
theorem own_retV (X : Stand p l e R s m args below meth c T locs cells slots) (hx : p.tables.exec = Jvm.exec) (hlk : meth.locks = false) (hret : meth.sig.returnType = none) {pc : Nat} {Ls : Array Slot} {Q : Option Value → Heap → List Loc → Prop} {C S : Nat}
    (eT : T.heap = h) (hd : decode c.code pc = .ok (.return_, 1)) (hc : cells ≤ C) (hs : slots ≤ S) (hq : Q none h locs) : own_G p e below (own_K Q s C S) T (mkF m pc Ls []) := by
  subst eT
  exact own_end X hlk (fun _ => rfl) hc hs (fun fs hr => X.returnOut hx hret hd hr) hq
/-- a static call by the callee's contract -/
theorem own_callS {own : String} {index maxL : Nat} {y : MethodName} {bytes : ByteArray} {ret : Option FieldType} {rm : Room} {Q : Option Value → Heap → List Loc → Prop} {argsL rest stk : List Value} {pc : Nat} {Ls : Array Slot}
    (X : Stand p l e R s m args below meth c T locs cells slots) (hx : p.tables.exec = Jvm.exec) (hZ : Z.Warmed39 s.vm) (hown : s.vm.findClass own = some m.cls) (hM : own_Met l Z y bytes maxL ret [] rm argsL.toArray h Q)
    (w1 : (Jvm.Cond.methodLink own index y).before a0 Z = true) (w2 : (Jvm.Cond.static y).before a0 Z = true) (w3 : (Jvm.Cond.initialized y.cls).before a0 Z = true) (w4 : (Jvm.Cond.code y bytes maxL ret).before a0 Z = true) (hy : y.cls ≠ "java/lang/invoke/MethodHandle" ∧ y.cls ≠ "java/lang/invoke/VarHandle")
    (eT : T.heap = h) (hsz : Ls.size = c.maxLocals) (hlen : ∀ sig, parseMethodDescriptor y.desc = some sig → argsL.length = sig.parameters.length) (hstk : stk = argsL.reverse ++ rest) (hd : decode c.code pc = .ok (.invokestatic index, 3))
    (hf : rm.frames + 1 ≤ R.frames) (hl : (rest.map fun v => v.category).sum + (maxL + 11) + rm.locals ≤ R.locals) (hc : cells + rm.cells ≤ R.cells) (hs : slots + rm.slots ≤ R.slots) :
    ∃ (v : Option Value) (T' : State) (L : List Loc), Stand p l e R s m args below meth c T' (locs ++ L) (cells + rm.cells) (slots + rm.slots) ∧ Q v T'.heap L ∧ ∀ t, Steps p.tables e below (T'.setTop (mkF m (pc + 3) Ls (v.toList ++ rest))) t → Steps p.tables e below (T.setTop (mkF m pc Ls stk)) t := by
  obtain ⟨v, _, ⟨T', L', k', n'⟩, -, X', ⟨L, hQ, l1, y1, z1⟩, st⟩ := Jvm.LawKit.callS X hx (y := y) hown (mvT hZ w1) (mvT hZ w2) (mvT hZ w3) (mvT hZ w4) hy (backOf (Q := Q) hM hZ w4 w3 hf hl) (g := mkF m pc Ls stk) rfl hsz (argsL := argsL) (rest := rest) hlen hstk (by show 2 * 0 + _ ≤ _; exact Nat.le_of_eq (Nat.zero_add _)) hd (fun _ _ => ⟨rfl, eT, hc, hs⟩)
  dsimp only [Pt.U, Pt.locs, Pt.cells, Pt.slots] at X' l1 y1 z1 st hQ
  subst l1 y1 z1
  exact ⟨v, T', L, X', hQ, st⟩
/-- a constructor's call by its contract -/
theorem own_callI {own : String} {index maxL : Nat} {y : MethodName} {bytes : ByteArray} {rm : Room} {Q : Option Value → Heap → List Loc → Prop} {argsL rest stk : List Value} {pc : Nat} {Ls : Array Slot} {a : Addr} (hy1 : y.name = "<init>")
    (X : Stand p l e R s m args below meth c T locs cells slots) (hx : p.tables.exec = Jvm.exec) (hZ : Z.Warmed39 s.vm) (hown : s.vm.findClass own = some m.cls) (hM : own_Met l Z y bytes maxL none [] rm (.ref a :: argsL).toArray h Q)
    (w1 : (Jvm.Cond.methodLink own index y).before a0 Z = true) (w2 : (Jvm.Cond.instanceMethod y).before a0 Z = true) (w3 : (Jvm.Cond.initialized y.cls).before a0 Z = true) (w4 : (Jvm.Cond.code y bytes maxL none).before a0 Z = true) (hy : y.cls ≠ "java/lang/invoke/MethodHandle" ∧ y.cls ≠ "java/lang/invoke/VarHandle")
    (eT : T.heap = h) (hsz : Ls.size = c.maxLocals) (hlen : ∀ sig, parseMethodDescriptor y.desc = some sig → argsL.length = sig.parameters.length) (hstk : stk = argsL.reverse ++ .ref a :: rest) (hd : decode c.code pc = .ok (.invokespecial index, 3))
    (hf : rm.frames + 1 ≤ R.frames) (hl : (rest.map fun v => v.category).sum + (maxL + 11) + rm.locals ≤ R.locals) (hc : cells + rm.cells ≤ R.cells) (hs : slots + rm.slots ≤ R.slots) :
    ∃ (v : Option Value) (T' : State) (L : List Loc), Stand p l e R s m args below meth c T' (locs ++ L) (cells + rm.cells) (slots + rm.slots) ∧ Q v T'.heap L ∧ ∀ t, Steps p.tables e below (T'.setTop (mkF m (pc + 3) Ls (v.toList ++ rest))) t → Steps p.tables e below (T.setTop (mkF m pc Ls stk)) t := by
  obtain ⟨v, _, ⟨T', L', k', n'⟩, -, X', ⟨L, hQ, l1, y1, z1⟩, st⟩ := X.specialBack hx (y := y) hy1 hown (mvT hZ w1) (mvT hZ w2) (mvT hZ w4) hy (backOf (Q := Q) hM hZ w4 w3 hf hl) (g := mkF m pc Ls stk) rfl hsz (Steps.refl _) (a := a) (argsL := argsL) (rest := rest) hlen hstk (by show 2 * 0 + _ ≤ _; exact Nat.le_of_eq (Nat.zero_add _)) hd (fun _ _ => ⟨rfl, eT, hc, hs⟩)
  dsimp only [Pt.U, Pt.locs, Pt.cells, Pt.slots] at X' l1 y1 z1 st hQ
  subst l1 y1 z1
  exact ⟨v, T', L, X', hQ, fun t k => st.trans k⟩
/-- an instance method's call by the contract of the body that the receiver's class selects -/
theorem own_callV {own C : String} {index maxL : Nat} {y z : MethodName} {bytes : ByteArray} {ret : Option FieldType} {rm : Room} {Q : Option Value → Heap → List Loc → Prop} {argsL rest stk : List Value} {pc : Nat} {Ls : Array Slot} {a : Addr}
    (X : Stand p l e R s m args below meth c T locs cells slots) (hx : p.tables.exec = Jvm.exec) (hZ : Z.Warmed39 s.vm) (hown : s.vm.findClass own = some m.cls) (hM : own_Met l Z z bytes maxL ret [] rm (.ref a :: argsL).toArray h Q)
    (w1 : (Jvm.Cond.methodLink own index y).before a0 Z = true) (w2 : (Jvm.Cond.declares y).before a0 Z = true) (nf : NotFace s y) (w5 : (Jvm.Cond.selects C y z).before a0 Z = true) (w6 : (Jvm.Cond.instanceMethod z).before a0 Z = true) (w3 : (Jvm.Cond.initialized z.cls).before a0 Z = true) (w4 : (Jvm.Cond.code z bytes maxL ret).before a0 Z = true) (hy : y.cls ≠ "java/lang/invoke/MethodHandle" ∧ y.cls ≠ "java/lang/invoke/VarHandle")
    (eT : T.heap = h) (E : Exa Z h a C) (hsz : Ls.size = c.maxLocals) (hlen : ∀ sig, parseMethodDescriptor y.desc = some sig → argsL.length = sig.parameters.length) (hstk : stk = argsL.reverse ++ .ref a :: rest) (hd : decode c.code pc = .ok (.invokevirtual index, 3))
    (hf : rm.frames + 1 ≤ R.frames) (hl : (rest.map fun v => v.category).sum + (maxL + 11) + rm.locals ≤ R.locals) (hc : cells + rm.cells ≤ R.cells) (hs : slots + rm.slots ≤ R.slots) :
    ∃ (v : Option Value) (T' : State) (L : List Loc), Stand p l e R s m args below meth c T' (locs ++ L) (cells + rm.cells) (slots + rm.slots) ∧ Q v T'.heap L ∧ ∀ t, Steps p.tables e below (T'.setTop (mkF m (pc + 3) Ls (v.toList ++ rest))) t → Steps p.tables e below (T.setTop (mkF m pc Ls stk)) t := by
  obtain ⟨cB, kB, q1, q2, q3⟩ := isOf hZ eT E
  obtain ⟨v, _, ⟨T', L', k', n'⟩, -, X', ⟨L, hQ, l1, y1, z1⟩, st⟩ := X.virtualBack hx (y := y) (z := z) hown (mvT hZ w1) (mvT hZ w2) nf (mvT hZ w5) (mvT hZ w6) hy (backOf (Q := Q) hM hZ w4 w3 hf hl) q1 q3 (g := mkF m pc Ls stk) rfl hsz (Steps.refl _) (argsL := argsL) (rest := rest) hlen hstk (by show 2 * 0 + _ ≤ _; exact Nat.le_of_eq (Nat.zero_add _)) hd (fun _ _ => ⟨rfl, eT, hc, hs⟩)
  dsimp only [Pt.U, Pt.locs, Pt.cells, Pt.slots] at X' l1 y1 z1 st hQ
  subst l1 y1 z1
  exact ⟨v, T', L, X', hQ, fun t k => st.trans k⟩
end OwnKit
section OwnSteps
variable {p : Program} {l : Launch} {e : Env} {R : Room} {s : State} {m : MethodId} {args : Array Value} {below : List Frame} {meth : Method} {c : Code} {T : State} {locs : List Loc} {cells slots : Nat} {Z : State} {a0 : Array Value} {h0 : Heap}
theorem own_iloadN {K : Outcome → State → Prop} {pc n : Nat} {Ls : Array Slot} {S : List Value} (X : Stand p l e R s m args below meth c T locs cells slots) (hx : p.tables.exec = Jvm.exec) {k : Fin 4} {v : Int32} (hd : decode c.code pc = .ok (.iload_n k, 1)) (hl : Ls[k.val]? = some (.val (.int v))) (hn : pc + 1 = n)
    (h : own_G p e below K T (mkF m n Ls (.int v :: S))) : own_G p e below K T (mkF m pc Ls S) := by
  subst hn
  exact own_go (fun t k => XS.iloadN X.here hx rfl hd hl k) h
theorem own_aloadN {K : Outcome → State → Prop} {pc n : Nat} {Ls : Array Slot} {S : List Value} (X : Stand p l e R s m args below meth c T locs cells slots) (hx : p.tables.exec = Jvm.exec) {k : Fin 4} {v : Value} (hd : decode c.code pc = .ok (.aload_n k, 1)) (hl : Ls[k.val]? = some (.val v)) (hv : v.isRef = true) (hn : pc + 1 = n)
    (h : own_G p e below K T (mkF m n Ls (v :: S))) : own_G p e below K T (mkF m pc Ls S) := by
  subst hn
  exact own_go (fun t k => XS.aloadN X.here hx rfl hd hl hv k) h
theorem own_istoreN {K : Outcome → State → Prop} {pc n : Nat} {Ls : Array Slot} {S : List Value} (X : Stand p l e R s m args below meth c T locs cells slots) (hx : p.tables.exec = Jvm.exec) {k : Fin 4} {v : Int32} {l' : Array Slot} (hd : decode c.code pc = .ok (.istore_n k, 1)) (hl : storeLocals Ls k.val (.int v) = some l') (hn : pc + 1 = n)
    (h : own_G p e below K T (mkF m n l' S)) : own_G p e below K T (mkF m pc Ls (.int v :: S)) := by
  subst hn
  exact own_go (fun t k => XS.istoreN X.here hx rfl hd rfl hl k) h
theorem own_astoreN {K : Outcome → State → Prop} {pc n : Nat} {Ls : Array Slot} {S : List Value} (X : Stand p l e R s m args below meth c T locs cells slots) (hx : p.tables.exec = Jvm.exec) {k : Fin 4} {v : Value} {l' : Array Slot} (hd : decode c.code pc = .ok (.astore_n k, 1)) (hv : v.isRef = true) (hl : storeLocals Ls k.val v = some l') (hn : pc + 1 = n)
    (h : own_G p e below K T (mkF m n l' S)) : own_G p e below K T (mkF m pc Ls (v :: S)) := by
  subst hn
  exact own_go (fun t k => XS.astoreN X.here hx rfl hd rfl hv hl k) h
theorem own_iconst {K : Outcome → State → Prop} {pc n : Nat} {Ls : Array Slot} {S : List Value} (X : Stand p l e R s m args below meth c T locs cells slots) (hx : p.tables.exec = Jvm.exec) {i : Int} {z : Int32} (hd : decode c.code pc = .ok (.iconst i, 1)) (hz : Int32.ofInt i = z) (hn : pc + 1 = n)
    (h : own_G p e below K T (mkF m n Ls (.int z :: S))) : own_G p e below K T (mkF m pc Ls S) := by
  subst hz hn
  exact own_go (fun t k => XS.iconst X.here hx rfl hd k) h
theorem own_bipush {K : Outcome → State → Prop} {pc n : Nat} {Ls : Array Slot} {S : List Value} (X : Stand p l e R s m args below meth c T locs cells slots) (hx : p.tables.exec = Jvm.exec) {i : Int} {z : Int32} (hd : decode c.code pc = .ok (.bipush i, 2)) (hz : (Int8.ofInt i).toInt32 = z) (hn : pc + 2 = n)
    (h : own_G p e below K T (mkF m n Ls (.int z :: S))) : own_G p e below K T (mkF m pc Ls S) := by
  subst hz hn
  exact own_go (fun t k => XS.bipush X.here hx rfl hd k) h
theorem own_sipush {K : Outcome → State → Prop} {pc n : Nat} {Ls : Array Slot} {S : List Value} (X : Stand p l e R s m args below meth c T locs cells slots) (hx : p.tables.exec = Jvm.exec) {i : Int} {z : Int32} (hd : decode c.code pc = .ok (.sipush i, 3)) (hz : (Int16.ofInt i).toInt32 = z) (hn : pc + 3 = n)
    (h : own_G p e below K T (mkF m n Ls (.int z :: S))) : own_G p e below K T (mkF m pc Ls S) := by
  subst hz hn
  exact own_go (fun t k => XS.sipush X.here hx rfl hd k) h
theorem own_iadd {K : Outcome → State → Prop} {pc n : Nat} {Ls : Array Slot} {S : List Value} (X : Stand p l e R s m args below meth c T locs cells slots) (hx : p.tables.exec = Jvm.exec) {x y z : Int32} (hd : decode c.code pc = .ok (.iadd, 1)) (hz : x + y = z) (hn : pc + 1 = n)
    (h : own_G p e below K T (mkF m n Ls (.int z :: S))) : own_G p e below K T (mkF m pc Ls (.int y :: .int x :: S)) := by
  subst hz hn
  exact own_go (fun t k => XS.iadd X.here hx rfl hd rfl k) h
theorem own_isub {K : Outcome → State → Prop} {pc n : Nat} {Ls : Array Slot} {S : List Value} (X : Stand p l e R s m args below meth c T locs cells slots) (hx : p.tables.exec = Jvm.exec) {x y z : Int32} (hd : decode c.code pc = .ok (.isub, 1)) (hz : x - y = z) (hn : pc + 1 = n)
    (h : own_G p e below K T (mkF m n Ls (.int z :: S))) : own_G p e below K T (mkF m pc Ls (.int y :: .int x :: S)) := by
  subst hz hn
  exact own_go (fun t k => XS.isub X.here hx rfl hd rfl k) h
theorem own_imul {K : Outcome → State → Prop} {pc n : Nat} {Ls : Array Slot} {S : List Value} (X : Stand p l e R s m args below meth c T locs cells slots) (hx : p.tables.exec = Jvm.exec) {x y z : Int32} (hd : decode c.code pc = .ok (.imul, 1)) (hz : x * y = z) (hn : pc + 1 = n)
    (h : own_G p e below K T (mkF m n Ls (.int z :: S))) : own_G p e below K T (mkF m pc Ls (.int y :: .int x :: S)) := by
  subst hz hn
  exact own_go (fun t k => XS.imul X.here hx rfl hd rfl k) h
theorem own_iand {K : Outcome → State → Prop} {pc n : Nat} {Ls : Array Slot} {S : List Value} (X : Stand p l e R s m args below meth c T locs cells slots) (hx : p.tables.exec = Jvm.exec) {x y z : Int32} (hd : decode c.code pc = .ok (.iand, 1)) (hz : x &&& y = z) (hn : pc + 1 = n)
    (h : own_G p e below K T (mkF m n Ls (.int z :: S))) : own_G p e below K T (mkF m pc Ls (.int y :: .int x :: S)) := by
  subst hz hn
  exact own_go (fun t k => XS.iand X.here hx rfl hd rfl k) h
theorem own_irem {K : Outcome → State → Prop} {pc n : Nat} {Ls : Array Slot} {S : List Value} (X : Stand p l e R s m args below meth c T locs cells slots) (hx : p.tables.exec = Jvm.exec) {x y : Int32} (hd : decode c.code pc = .ok (.irem, 1)) (hy : y ≠ 0) (hn : pc + 1 = n)
    (h : own_G p e below K T (mkF m n Ls (.int (x % y) :: S))) : own_G p e below K T (mkF m pc Ls (.int y :: .int x :: S)) := by
  subst hn
  exact own_go (fun t k => iremM (g := mkF m pc Ls (.int y :: .int x :: S)) X hx rfl hd rfl hy k) h
theorem own_dup {K : Outcome → State → Prop} {pc n : Nat} {Ls : Array Slot} {S : List Value} (X : Stand p l e R s m args below meth c T locs cells slots) (hx : p.tables.exec = Jvm.exec) {v : Value} (hd : decode c.code pc = .ok (.dup, 1)) (hc : v.category = 1) (hn : pc + 1 = n)
    (h : own_G p e below K T (mkF m n Ls (v :: v :: S))) : own_G p e below K T (mkF m pc Ls (v :: S)) := by
  subst hn
  exact own_go (fun t k => XS.dup X.here hx rfl hd rfl hc k) h
theorem own_goto {K : Outcome → State → Prop} {pc n : Nat} {Ls : Array Slot} {S : List Value} (X : Stand p l e R s m args below meth c T locs cells slots) (hx : p.tables.exec = Jvm.exec) {o : Int} (hd : decode c.code pc = .ok (.goto o, 3)) (ho : 0 ≤ (pc : Int) + o) (hp : ((pc : Int) + o).toNat = n)
    (h : own_G p e below K T (mkF m n Ls S)) : own_G p e below K T (mkF m pc Ls S) := by
  subst hp
  exact own_go (fun t k => XS.goto X.here hx rfl (pc0 := pc) rfl hd ho rfl k) h
theorem own_icmpYes {K : Outcome → State → Prop} {pc n : Nat} {Ls : Array Slot} {S : List Value} (X : Stand p l e R s m args below meth c T locs cells slots) (hx : p.tables.exec = Jvm.exec) {cd : ClassFile.Cond} {x y : Int32} {o : Int} (hd : decode c.code pc = .ok (.if_icmp cd o, 3)) (hc : if_icmp.holds cd x y = true) (ho : 0 ≤ (pc : Int) + o) (hp : ((pc : Int) + o).toNat = n)
    (h : own_G p e below K T (mkF m n Ls S)) : own_G p e below K T (mkF m pc Ls (.int y :: .int x :: S)) := by
  subst hp
  exact own_go (fun t k => XS.icmpYes X.here hx rfl (pc0 := pc) rfl hd rfl hc ho rfl k) h
theorem own_icmpNo {K : Outcome → State → Prop} {pc n : Nat} {Ls : Array Slot} {S : List Value} (X : Stand p l e R s m args below meth c T locs cells slots) (hx : p.tables.exec = Jvm.exec) {cd : ClassFile.Cond} {x y : Int32} {o : Int} (hd : decode c.code pc = .ok (.if_icmp cd o, 3)) (hc : if_icmp.holds cd x y = false) (hn : pc + 3 = n)
    (h : own_G p e below K T (mkF m n Ls S)) : own_G p e below K T (mkF m pc Ls (.int y :: .int x :: S)) := by
  subst hn
  exact own_go (fun t k => XS.icmpNo X.here hx rfl hd rfl hc k) h
theorem own_acmp {K : Outcome → State → Prop} {pc n : Nat} {Ls : Array Slot} {S : List Value} (X : Stand p l e R s m args below meth c T locs cells slots) (hx : p.tables.exec = Jvm.exec) {cd : ACond} {x y : Addr} {o : Int} {same : Bool} (hd : decode c.code pc = .ok (.if_acmp cd o, 3)) (hq : decide (x = y) = same) (ho : 0 ≤ (pc : Int) + o) (hp : n = if acV cd same = true then ((pc : Int) + o).toNat else pc + 3)
    (h : own_G p e below K T (mkF m n Ls S)) : own_G p e below K T (mkF m pc Ls (.ref y :: .ref x :: S)) := by
  subst hp
  exact own_go (fun t k => Jvm.RoadKit.acmp (g := mkF m pc Ls (.ref y :: .ref x :: S)) X hx rfl rfl rfl (pc0 := pc) (same := same) rfl hd rfl (by rw [← hq]; simp) ho rfl k) h
theorem own_getF {K : Outcome → State → Prop} {pc n : Nat} {Ls : Array Slot} {S : List Value} {h : Heap} (X : Stand p l e R s m args below meth c T locs cells slots) (hx : p.tables.exec = Jvm.exec) (hZ : Z.Warmed39 s.vm) {own R0 O nm d host : String} {index : Nat} (hown : s.vm.findClass own = some m.cls) (w : (Jvm.Cond.fieldLink own index R0 nm d).before a0 Z = true ∨ (Jvm.Cond.fieldLinkNest own index R0 nm d host).before a0 Z = true) (via : Via Z R0 O nm d) (eT : T.heap = h) {a : Addr} {v : Value} (F : Fld Z h a O nm d v) (hd : decode c.code pc = .ok (.getfield index, 3)) (hn : pc + 3 = n)
    (kk : ∀ T' : State, Stand p l e R s m args below meth c T' locs cells slots → T'.heap = h → own_G p e below K T' (mkF m n Ls (v :: S))) : own_G p e below K T (mkF m pc Ls (.ref a :: S)) := by
  subst hn
  obtain ⟨T', X', e', st⟩ := Jvm.RoadKit.getF X hx hZ hown w via eT F (g := mkF m pc Ls (.ref a :: S)) rfl rfl hd
  exact own_go st (kk T' X' e')
theorem own_getS {K : Outcome → State → Prop} {pc n : Nat} {Ls : Array Slot} {S : List Value} {h : Heap} (X : Stand p l e R s m args below meth c T locs cells slots) (hx : p.tables.exec = Jvm.exec) (hZ : Z.Warmed39 s.vm) {own R0 O nm d host : String} {index : Nat} (hown : s.vm.findClass own = some m.cls) (w : (Jvm.Cond.fieldLink own index R0 nm d).before a0 Z = true ∨ (Jvm.Cond.fieldLinkNest own index R0 nm d host).before a0 Z = true) (via : Via Z R0 O nm d) (eT : T.heap = h) {v : Value} (F : Sta Z h O nm d v) (hd : decode c.code pc = .ok (.getstatic index, 3)) (hn : pc + 3 = n)
    (kk : ∀ T' : State, Stand p l e R s m args below meth c T' locs cells slots → T'.heap = h → own_G p e below K T' (mkF m n Ls (v :: S))) : own_G p e below K T (mkF m pc Ls S) := by
  subst hn
  obtain ⟨T', X', e', st⟩ := getS2 X hx hZ hown w via eT F (g := mkF m pc Ls S) rfl hd
  exact own_go st (kk T' X' e')
theorem own_putF {K : Outcome → State → Prop} {pc n : Nat} {Ls : Array Slot} {S : List Value} {h : Heap} (X : Stand p l e R s m args below meth c T locs cells slots) (hx : p.tables.exec = Jvm.exec) (hZ : Z.Warmed39 s.vm) {own R0 O nm d host C : String} {index kk' : Nat} {ty : FieldType} (hown : s.vm.findClass own = some m.cls) (w : (Jvm.Cond.fieldLink own index R0 nm d).before a0 Z = true ∨ (Jvm.Cond.fieldLinkNest own index R0 nm d host).before a0 Z = true) (via : Via Z R0 O nm d) (eT : T.heap = h) {a : Addr} {v old : Value} (F : Fld Z h a O nm d old) (E : Exa Z h a C) (L : (Jvm.Cond.lays C O nm d).before a0 Z = true ∨ ((Jvm.Cond.laysFinal C O nm d).before a0 Z = true ∧ own = O ∧ meth.name = "<init>")) (wi : (Jvm.Cond.instantiable C kk').before a0 Z = true) (hty : parseFieldDescriptor d = some ty) (hnr : narrow ty v = v) (hf : fits ty v = true) (hd : decode c.code pc = .ok (.putfield index, 3)) (hn : pc + 3 = n)
    (kk : ∀ (T' : State) (h' : Heap), Stand p l e R s m args below meth c T' (locs ++ [⟨a, Jvm.RoadKit.slotOf Z O nm d⟩]) cells slots → T'.heap = h' → Wr h h' a (Jvm.RoadKit.slotOf Z O nm d) v → own_G p e below K T' (mkF m n Ls S)) : own_G p e below K T (mkF m pc Ls (v :: .ref a :: S)) := by
  subst hn
  obtain ⟨T', h', X', e', W, st⟩ := Jvm.RoadKit.putF X hx hZ hown w via eT F E L wi hty hnr hf (g := mkF m pc Ls (v :: .ref a :: S)) rfl rfl hd
  exact own_go st (kk T' h' X' e' W)
theorem own_new {K : Outcome → State → Prop} {pc n : Nat} {Ls : Array Slot} {S : List Value} {h : Heap} (X : Stand p l e R s m args below meth c T locs cells slots) (hx : p.tables.exec = Jvm.exec) (hZ : Z.Warmed39 s.vm) {own C : String} {index k : Nat} (hown : s.vm.findClass own = some m.cls) (w : (Jvm.Cond.classLink own index C).before a0 Z = true) (wi : (Jvm.Cond.instantiable C k).before a0 Z = true) (wz : (Jvm.Cond.initialized C).before a0 Z = true) (eT : T.heap = h) (hd : decode c.code pc = .ok (.new index, 3)) (hc : cells + 1 ≤ R.cells) (hl : slots + k ≤ R.slots) (hn : pc + 3 = n)
    (kk : ∀ (T' : State) (h' : Heap) (b : Addr), b = h.size → Stand p l e R s m args below meth c T' locs (cells + 1) (slots + k) → T'.heap = h' → Ext h h' → Exa Z h' b C → (∀ {O nm d : String} {ty : FieldType}, Laid Z a0 C O nm d → parseFieldDescriptor d = some ty → Fld Z h' b O nm d (defaultValue ty)) → own_G p e below K T' (mkF m n Ls (.ref b :: S))) : own_G p e below K T (mkF m pc Ls S) := by
  subst hn
  obtain ⟨T', h', X', e', E, A, D, -, st⟩ := newO X hx hZ hown w wi wz eT (g := mkF m pc Ls S) rfl hd hc hl
  exact own_go st (kk T' h' _ rfl X' e' E A D)
theorem own_ldc {K : Outcome → State → Prop} {pc n : Nat} {Ls : Array Slot} {S : List Value} (X : Stand p l e R s m args below meth c T locs cells slots) (hx : p.tables.exec = Jvm.exec) (hZ : Z.Warmed39 s.vm) {own : String} {index : Nat} {v : Int32} (hown : s.vm.findClass own = some m.cls) (w : (Jvm.Cond.constant own index v).before a0 Z = true) (hd : decode c.code pc = .ok (.ldc index, 2)) (hn : pc + 2 = n) (kk : own_G p e below K T (mkF m n Ls (.int v :: S))) : own_G p e below K T (mkF m pc Ls S) := by
  subst hn
  exact own_go (fun t k => X.ldcInt hx hown (mvT hZ w) (g := mkF m pc Ls S) rfl hd t k) kk
theorem own_initO {K : Outcome → State → Prop} {pc n : Nat} {Ls : Array Slot} {S : List Value} {h : Heap} (X : Stand p l e R s m args below meth c T locs cells slots) (hx : p.tables.exec = Jvm.exec) (hZ : Z.Warmed39 s.vm) {own : String} {index : Nat} (hown : s.vm.findClass own = some m.cls) (w1 : (Jvm.Cond.methodLink own index Lib.objectInit).before a0 Z = true) (w2 : (Jvm.Cond.instanceMethod Lib.objectInit).before a0 Z = true) (w3 : (Jvm.Cond.code Lib.objectInit ⟨#[0xb1]⟩ 1 none).before a0 Z = true) (eT : T.heap = h) (hsz : Ls.size = c.maxLocals) {a : Addr} (hd : decode c.code pc = .ok (.invokespecial index, 3)) (hf : 1 ≤ R.frames) (hl : (S.map fun v => v.category).sum + 12 ≤ R.locals) (hn : pc + 3 = n)
    (kk : ∀ T' : State, Stand p l e R s m args below meth c T' locs cells slots → T'.heap = h → own_G p e below K T' (mkF m n Ls (S))) : own_G p e below K T (mkF m pc Ls (.ref a :: S)) := by
  subst hn
  obtain ⟨T', X', e', st⟩ := Jvm.RoadKit.initO X hx hZ hown w1 w2 w3 eT (g := mkF m pc Ls (.ref a :: S)) rfl hsz rfl hd hf (W := (S.map fun v => v.category).sum) (by show 2 * 0 + _ ≤ _; exact Nat.le_of_eq (Nat.zero_add _)) hl
  exact own_go st (kk T' X' e')
theorem own_S {K : Outcome → State → Prop} {pc n : Nat} {Ls : Array Slot} {h : Heap} {own : String} {index maxL : Nat} {y : MethodName} {bytes : ByteArray} {rm : Room} {Q : Option Value → Heap → List Loc → Prop} {argsL rest stk : List Value} {ret : Option FieldType} (X : Stand p l e R s m args below meth c T locs cells slots) (hx : p.tables.exec = Jvm.exec) (hZ : Z.Warmed39 s.vm) (hown : s.vm.findClass own = some m.cls) (hM : own_Met l Z y bytes maxL ret [] rm argsL.toArray h Q) (w1 : (Jvm.Cond.methodLink own index y).before a0 Z = true) (w2 : (Jvm.Cond.static y).before a0 Z = true) (w3 : (Jvm.Cond.initialized y.cls).before a0 Z = true) (w4 : (Jvm.Cond.code y bytes maxL ret).before a0 Z = true) (hy : y.cls ≠ "java/lang/invoke/MethodHandle" ∧ y.cls ≠ "java/lang/invoke/VarHandle") (eT : T.heap = h) (hsz : Ls.size = c.maxLocals) (hlen : ∀ sig, parseMethodDescriptor y.desc = some sig → argsL.length = sig.parameters.length) (hstk : stk = argsL.reverse ++ rest) (hd : decode c.code pc = .ok (.invokestatic index, 3)) (hf : rm.frames + 1 ≤ R.frames) (hl : (rest.map fun v => v.category).sum + (maxL + 11) + rm.locals ≤ R.locals) (hc : cells + rm.cells ≤ R.cells) (hs : slots + rm.slots ≤ R.slots) (hn : pc + 3 = n)
    (kk : ∀ (v : Option Value) (T' : State) (L : List Loc), Stand p l e R s m args below meth c T' (locs ++ L) (cells + rm.cells) (slots + rm.slots) → Q v T'.heap L → own_G p e below K T' (mkF m n Ls (v.toList ++ rest))) : own_G p e below K T (mkF m pc Ls stk) := by
  subst hn
  obtain ⟨v, T', L, X', hQ, st⟩ := own_callS X hx hZ hown hM w1 w2 w3 w4 hy eT hsz hlen hstk hd hf hl hc hs
  exact own_go st (kk v T' L X' hQ)
theorem own_I {K : Outcome → State → Prop} {pc n : Nat} {Ls : Array Slot} {h : Heap} {own : String} {index maxL : Nat} {y : MethodName} {bytes : ByteArray} {rm : Room} {Q : Option Value → Heap → List Loc → Prop} {argsL rest stk : List Value} {a : Addr} (hy1 : y.name = "<init>") (X : Stand p l e R s m args below meth c T locs cells slots) (hx : p.tables.exec = Jvm.exec) (hZ : Z.Warmed39 s.vm) (hown : s.vm.findClass own = some m.cls) (hM : own_Met l Z y bytes maxL none [] rm (.ref a :: argsL).toArray h Q) (w1 : (Jvm.Cond.methodLink own index y).before a0 Z = true) (w2 : (Jvm.Cond.instanceMethod y).before a0 Z = true) (w3 : (Jvm.Cond.initialized y.cls).before a0 Z = true) (w4 : (Jvm.Cond.code y bytes maxL none).before a0 Z = true) (hy : y.cls ≠ "java/lang/invoke/MethodHandle" ∧ y.cls ≠ "java/lang/invoke/VarHandle") (eT : T.heap = h) (hsz : Ls.size = c.maxLocals) (hlen : ∀ sig, parseMethodDescriptor y.desc = some sig → argsL.length = sig.parameters.length) (hstk : stk = argsL.reverse ++ .ref a :: rest) (hd : decode c.code pc = .ok (.invokespecial index, 3)) (hf : rm.frames + 1 ≤ R.frames) (hl : (rest.map fun v => v.category).sum + (maxL + 11) + rm.locals ≤ R.locals) (hc : cells + rm.cells ≤ R.cells) (hs : slots + rm.slots ≤ R.slots) (hn : pc + 3 = n)
    (kk : ∀ (v : Option Value) (T' : State) (L : List Loc), Stand p l e R s m args below meth c T' (locs ++ L) (cells + rm.cells) (slots + rm.slots) → Q v T'.heap L → own_G p e below K T' (mkF m n Ls (v.toList ++ rest))) : own_G p e below K T (mkF m pc Ls stk) := by
  subst hn
  obtain ⟨v, T', L, X', hQ, st⟩ := own_callI hy1 X hx hZ hown hM w1 w2 w3 w4 hy eT hsz hlen hstk hd hf hl hc hs
  exact own_go st (kk v T' L X' hQ)
theorem own_V {K : Outcome → State → Prop} {pc n : Nat} {Ls : Array Slot} {h : Heap} {own : String} {index maxL : Nat} {y : MethodName} {bytes : ByteArray} {rm : Room} {Q : Option Value → Heap → List Loc → Prop} {argsL rest stk : List Value} {ret : Option FieldType} {C : String} {z : MethodName} {a : Addr} (X : Stand p l e R s m args below meth c T locs cells slots) (hx : p.tables.exec = Jvm.exec) (hZ : Z.Warmed39 s.vm) (hown : s.vm.findClass own = some m.cls) (hM : own_Met l Z z bytes maxL ret [] rm (.ref a :: argsL).toArray h Q) (w1 : (Jvm.Cond.methodLink own index y).before a0 Z = true) (w2 : (Jvm.Cond.declares y).before a0 Z = true) (nf : NotFace s y) (w5 : (Jvm.Cond.selects C y z).before a0 Z = true) (w6 : (Jvm.Cond.instanceMethod z).before a0 Z = true) (w3 : (Jvm.Cond.initialized z.cls).before a0 Z = true) (w4 : (Jvm.Cond.code z bytes maxL ret).before a0 Z = true) (hy : y.cls ≠ "java/lang/invoke/MethodHandle" ∧ y.cls ≠ "java/lang/invoke/VarHandle") (eT : T.heap = h) (E : Exa Z h a C) (hsz : Ls.size = c.maxLocals) (hlen : ∀ sig, parseMethodDescriptor y.desc = some sig → argsL.length = sig.parameters.length) (hstk : stk = argsL.reverse ++ .ref a :: rest) (hd : decode c.code pc = .ok (.invokevirtual index, 3)) (hf : rm.frames + 1 ≤ R.frames) (hl : (rest.map fun v => v.category).sum + (maxL + 11) + rm.locals ≤ R.locals) (hc : cells + rm.cells ≤ R.cells) (hs : slots + rm.slots ≤ R.slots) (hn : pc + 3 = n)
    (kk : ∀ (v : Option Value) (T' : State) (L : List Loc), Stand p l e R s m args below meth c T' (locs ++ L) (cells + rm.cells) (slots + rm.slots) → Q v T'.heap L → own_G p e below K T' (mkF m n Ls (v.toList ++ rest))) : own_G p e below K T (mkF m pc Ls stk) := by
  subst hn
  obtain ⟨v, T', L, X', hQ, st⟩ := own_callV X hx hZ hown hM w1 w2 nf w5 w6 w3 w4 hy eT E hsz hlen hstk hd hf hl hc hs
  exact own_go st (kk v T' L X' hQ)
end OwnSteps

theorem own_an_int : "[" ++ (newarray.typeOf .int).toString = "[I" := by decide +kernel
theorem own_an_long : "[" ++ (newarray.typeOf .long).toString = "[J" := by decide +kernel
theorem own_an_byte : "[" ++ (newarray.typeOf .byte).toString = "[B" := by decide +kernel
theorem own_an_char : "[" ++ (newarray.typeOf .char).toString = "[C" := by decide +kernel
theorem own_an_J : (FieldType.array .long).toString = "[J" := by decide +kernel
theorem own_an_JJ : "[" ++ "[J" = "[[J" := by decide +kernel
theorem own_ne {b z : Addr} {h : Heap} (hb : b < h.size) (g : z = h.size) : b ≠ z := Nat.ne_of_lt (Nat.lt_of_lt_of_le hb (Nat.le_of_eq g.symm))
theorem own_neEA {Z : State} {h : Heap} {a b : Addr} {C : String} {a0 : Array Value} {kk : Nat} {k : ClassId} {ty : FieldType} {n : Int32} {vs : List Value} {dv : Value} (E : Exa Z h a C) (w : (Jvm.Cond.instantiable C kk).before a0 Z = true) (V : Arv Z h b k ty n vs dv) : a ≠ b := by
  obtain ⟨c, A, -⟩ := V
  exact ne_arr E w A
theorem ww0 {Z : State} {a0 : Array Value} (hw : ∀ d ∈ tables_1, d.before a0 Z = true) : (Jvm.Cond.constant "com/example/doseline/doseline/dedup/ScoreOutcomePinLaw" (7 : Nat) (2147483647 : Int32)).before a0 Z = true := hw _ (List.mem_of_getElem? (i := 0) rfl)
theorem ww1 {Z : State} {a0 : Array Value} (hw : ∀ d ∈ tables_1, d.before a0 Z = true) : (Jvm.Cond.classLink "com/example/doseline/doseline/dedup/ScoreOutcomePinLaw" (8 : Nat) "com/example/doseline/doseline/dedup/Score").before a0 Z = true := hw _ (List.mem_of_getElem? (i := 1) rfl)
theorem ww2 {Z : State} {a0 : Array Value} (hw : ∀ d ∈ tables_1, d.before a0 Z = true) : (Jvm.Cond.instantiable "com/example/doseline/doseline/dedup/Score" (1 : Nat)).before a0 Z = true := hw _ (List.mem_of_getElem? (i := 2) rfl)
theorem ww3 {Z : State} {a0 : Array Value} (hw : ∀ d ∈ tables_1, d.before a0 Z = true) : (Jvm.Cond.initialized "com/example/doseline/doseline/dedup/Score").before a0 Z = true := hw _ (List.mem_of_getElem? (i := 3) rfl)
theorem ww4 {Z : State} {a0 : Array Value} (hw : ∀ d ∈ tables_1, d.before a0 Z = true) : (Jvm.Cond.methodLink "com/example/doseline/doseline/dedup/ScoreOutcomePinLaw" (10 : Nat) ({ cls := "com/example/doseline/doseline/dedup/Score", name := "<init>", desc := "(I)V" } : Jvm.MethodName)).before a0 Z = true := hw _ (List.mem_of_getElem? (i := 4) rfl)
theorem ww5 {Z : State} {a0 : Array Value} (hw : ∀ d ∈ tables_1, d.before a0 Z = true) : (Jvm.Cond.instanceMethod ({ cls := "com/example/doseline/doseline/dedup/Score", name := "<init>", desc := "(I)V" } : Jvm.MethodName)).before a0 Z = true := hw _ (List.mem_of_getElem? (i := 5) rfl)
theorem ww6 {Z : State} {a0 : Array Value} (hw : ∀ d ∈ tables_1, d.before a0 Z = true) : (Jvm.Cond.code ({ cls := "com/example/doseline/doseline/dedup/Score", name := "<init>", desc := "(I)V" } : Jvm.MethodName) prog_43_method_1_code (2 : Nat) (Option.none : Option Jvm.ClassFile.FieldType)).before a0 Z = true := hw _ (List.mem_of_getElem? (i := 6) rfl)
theorem ww7 {Z : State} {a0 : Array Value} (hw : ∀ d ∈ tables_1, d.before a0 Z = true) : (Jvm.Cond.methodLink "com/example/doseline/doseline/dedup/Score" (1 : Nat) ({ cls := "java/lang/Record", name := "<init>", desc := "()V" } : Jvm.MethodName)).before a0 Z = true := hw _ (List.mem_of_getElem? (i := 7) rfl)
theorem ww8 {Z : State} {a0 : Array Value} (hw : ∀ d ∈ tables_1, d.before a0 Z = true) : (Jvm.Cond.instanceMethod ({ cls := "java/lang/Record", name := "<init>", desc := "()V" } : Jvm.MethodName)).before a0 Z = true := hw _ (List.mem_of_getElem? (i := 8) rfl)
theorem ww10 {Z : State} {a0 : Array Value} (hw : ∀ d ∈ tables_1, d.before a0 Z = true) : (Jvm.Cond.initialized "java/lang/Record").before a0 Z = true := hw _ (List.mem_of_getElem? (i := 10) rfl)
theorem ww11 {Z : State} {a0 : Array Value} (hw : ∀ d ∈ tables_1, d.before a0 Z = true) : (Jvm.Cond.code ({ cls := "java/lang/Record", name := "<init>", desc := "()V" } : Jvm.MethodName) jdk_30_method_1_code (1 : Nat) (Option.none : Option Jvm.ClassFile.FieldType)).before a0 Z = true := hw _ (List.mem_of_getElem? (i := 11) rfl)
theorem ww12 {Z : State} {a0 : Array Value} (hw : ∀ d ∈ tables_1, d.before a0 Z = true) : (Jvm.Cond.methodLink "java/lang/Record" (1 : Nat) ({ cls := "java/lang/Object", name := "<init>", desc := "()V" } : Jvm.MethodName)).before a0 Z = true := hw _ (List.mem_of_getElem? (i := 12) rfl)
theorem ww13 {Z : State} {a0 : Array Value} (hw : ∀ d ∈ tables_1, d.before a0 Z = true) : (Jvm.Cond.instanceMethod ({ cls := "java/lang/Object", name := "<init>", desc := "()V" } : Jvm.MethodName)).before a0 Z = true := hw _ (List.mem_of_getElem? (i := 13) rfl)
theorem ww14 {Z : State} {a0 : Array Value} (hw : ∀ d ∈ tables_1, d.before a0 Z = true) : (Jvm.Cond.code ({ cls := "java/lang/Object", name := "<init>", desc := "()V" } : Jvm.MethodName) object_method_1_code (1 : Nat) (Option.none : Option Jvm.ClassFile.FieldType)).before a0 Z = true := hw _ (List.mem_of_getElem? (i := 14) rfl)
theorem ww15 {Z : State} {a0 : Array Value} (hw : ∀ d ∈ tables_1, d.before a0 Z = true) : (Jvm.Cond.fieldLink "com/example/doseline/doseline/dedup/Score" (7 : Nat) "com/example/doseline/doseline/dedup/Score" "MIN" "I").before a0 Z = true := hw _ (List.mem_of_getElem? (i := 15) rfl)
theorem ww16 {Z : State} {a0 : Array Value} (hw : ∀ d ∈ tables_1, d.before a0 Z = true) : (Jvm.Cond.laysStatic "com/example/doseline/doseline/dedup/Score" "MIN" "I").before a0 Z = true := hw _ (List.mem_of_getElem? (i := 16) rfl)
theorem ww17 {Z : State} {a0 : Array Value} (hw : ∀ d ∈ tables_1, d.before a0 Z = true) : (Jvm.Cond.fieldLink "com/example/doseline/doseline/dedup/Score" (13 : Nat) "com/example/doseline/doseline/dedup/Score" "MAX" "I").before a0 Z = true := hw _ (List.mem_of_getElem? (i := 17) rfl)
theorem ww18 {Z : State} {a0 : Array Value} (hw : ∀ d ∈ tables_1, d.before a0 Z = true) : (Jvm.Cond.laysStatic "com/example/doseline/doseline/dedup/Score" "MAX" "I").before a0 Z = true := hw _ (List.mem_of_getElem? (i := 18) rfl)
theorem ww19 {Z : State} {a0 : Array Value} (hw : ∀ d ∈ tables_1, d.before a0 Z = true) : (Jvm.Cond.fieldLink "com/example/doseline/doseline/dedup/Score" (25 : Nat) "com/example/doseline/doseline/dedup/Score" "value" "I").before a0 Z = true := hw _ (List.mem_of_getElem? (i := 19) rfl)
theorem ww20 {Z : State} {a0 : Array Value} (hw : ∀ d ∈ tables_1, d.before a0 Z = true) : (Jvm.Cond.laysFinal "com/example/doseline/doseline/dedup/Score" "com/example/doseline/doseline/dedup/Score" "value" "I").before a0 Z = true := hw _ (List.mem_of_getElem? (i := 20) rfl)
theorem ww21 {Z : State} {a0 : Array Value} (hw : ∀ d ∈ tables_1, d.before a0 Z = true) : (Jvm.Cond.methodLink "com/example/doseline/doseline/dedup/ScoreOutcomePinLaw" (13 : Nat) ({ cls := "com/example/doseline/doseline/dedup/Score", name := "outcome", desc := "()Lcom/example/doseline/doseline/dedup/Outcome;" } : Jvm.MethodName)).before a0 Z = true := hw _ (List.mem_of_getElem? (i := 21) rfl)
theorem ww22 {Z : State} {a0 : Array Value} (hw : ∀ d ∈ tables_1, d.before a0 Z = true) : (Jvm.Cond.declares ({ cls := "com/example/doseline/doseline/dedup/Score", name := "outcome", desc := "()Lcom/example/doseline/doseline/dedup/Outcome;" } : Jvm.MethodName)).before a0 Z = true := hw _ (List.mem_of_getElem? (i := 22) rfl)
theorem ww23 {Z : State} {a0 : Array Value} (hw : ∀ d ∈ tables_1, d.before a0 Z = true) : (Jvm.Cond.instanceMethod ({ cls := "com/example/doseline/doseline/dedup/Score", name := "outcome", desc := "()Lcom/example/doseline/doseline/dedup/Outcome;" } : Jvm.MethodName)).before a0 Z = true := hw _ (List.mem_of_getElem? (i := 23) rfl)
theorem ww24 {Z : State} {a0 : Array Value} (hw : ∀ d ∈ tables_1, d.before a0 Z = true) : (Jvm.Cond.selects "com/example/doseline/doseline/dedup/Score" ({ cls := "com/example/doseline/doseline/dedup/Score", name := "outcome", desc := "()Lcom/example/doseline/doseline/dedup/Outcome;" } : Jvm.MethodName) ({ cls := "com/example/doseline/doseline/dedup/Score", name := "outcome", desc := "()Lcom/example/doseline/doseline/dedup/Outcome;" } : Jvm.MethodName)).before a0 Z = true := hw _ (List.mem_of_getElem? (i := 24) rfl)
theorem ww25 {Z : State} {a0 : Array Value} (hw : ∀ d ∈ tables_1, d.before a0 Z = true) : (Jvm.Cond.code ({ cls := "com/example/doseline/doseline/dedup/Score", name := "outcome", desc := "()Lcom/example/doseline/doseline/dedup/Outcome;" } : Jvm.MethodName) prog_43_method_6_code (2 : Nat) (Option.some (Jvm.ClassFile.FieldType.object "com/example/doseline/doseline/dedup/Outcome"))).before a0 Z = true := hw _ (List.mem_of_getElem? (i := 25) rfl)
theorem ww26 {Z : State} {a0 : Array Value} (hw : ∀ d ∈ tables_1, d.before a0 Z = true) : (Jvm.Cond.fieldLink "com/example/doseline/doseline/dedup/Score" (182 : Nat) "com/example/doseline/doseline/dedup/Outcome" "DIFFER" "Lcom/example/doseline/doseline/dedup/Outcome;").before a0 Z = true := hw _ (List.mem_of_getElem? (i := 26) rfl)
theorem ww27 {Z : State} {a0 : Array Value} (hw : ∀ d ∈ tables_1, d.before a0 Z = true) : (Jvm.Cond.initialized "com/example/doseline/doseline/dedup/Outcome").before a0 Z = true := hw _ (List.mem_of_getElem? (i := 27) rfl)
theorem ww28 {Z : State} {a0 : Array Value} (hw : ∀ d ∈ tables_1, d.before a0 Z = true) : (Jvm.Cond.laysStatic "com/example/doseline/doseline/dedup/Outcome" "DIFFER" "Lcom/example/doseline/doseline/dedup/Outcome;").before a0 Z = true := hw _ (List.mem_of_getElem? (i := 28) rfl)
theorem ww29 {Z : State} {a0 : Array Value} (hw : ∀ d ∈ tables_1, d.before a0 Z = true) : (Jvm.Cond.methodLink "com/example/doseline/doseline/dedup/ScoreOutcomePinLaw" (17 : Nat) ({ cls := "com/example/doseline/doseline/dedup/ScoreOutcomePinLaw", name := "expected", desc := "(I)Lcom/example/doseline/doseline/dedup/Outcome;" } : Jvm.MethodName)).before a0 Z = true := hw _ (List.mem_of_getElem? (i := 29) rfl)
theorem ww30 {Z : State} {a0 : Array Value} (hw : ∀ d ∈ tables_1, d.before a0 Z = true) : (Jvm.Cond.static ({ cls := "com/example/doseline/doseline/dedup/ScoreOutcomePinLaw", name := "expected", desc := "(I)Lcom/example/doseline/doseline/dedup/Outcome;" } : Jvm.MethodName)).before a0 Z = true := hw _ (List.mem_of_getElem? (i := 30) rfl)
theorem ww31 {Z : State} {a0 : Array Value} (hw : ∀ d ∈ tables_1, d.before a0 Z = true) : (Jvm.Cond.initialized "com/example/doseline/doseline/dedup/ScoreOutcomePinLaw").before a0 Z = true := hw _ (List.mem_of_getElem? (i := 31) rfl)
theorem ww32 {Z : State} {a0 : Array Value} (hw : ∀ d ∈ tables_1, d.before a0 Z = true) : (Jvm.Cond.code ({ cls := "com/example/doseline/doseline/dedup/ScoreOutcomePinLaw", name := "expected", desc := "(I)Lcom/example/doseline/doseline/dedup/Outcome;" } : Jvm.MethodName) method_3_code (1 : Nat) (Option.some (Jvm.ClassFile.FieldType.object "com/example/doseline/doseline/dedup/Outcome"))).before a0 Z = true := hw _ (List.mem_of_getElem? (i := 32) rfl)
theorem ww33 {Z : State} {a0 : Array Value} (hw : ∀ d ∈ tables_1, d.before a0 Z = true) : (Jvm.Cond.fieldLink "com/example/doseline/doseline/dedup/ScoreOutcomePinLaw" (29 : Nat) "com/example/doseline/doseline/dedup/Outcome" "DIFFER" "Lcom/example/doseline/doseline/dedup/Outcome;").before a0 Z = true := hw _ (List.mem_of_getElem? (i := 33) rfl)
theorem ww34 {Z : State} {a0 : Array Value} (hw : ∀ d ∈ tables_1, d.before a0 Z = true) : (Jvm.Cond.fieldLink "com/example/doseline/doseline/dedup/Score" (185 : Nat) "com/example/doseline/doseline/dedup/Outcome" "UNKNOWN" "Lcom/example/doseline/doseline/dedup/Outcome;").before a0 Z = true := hw _ (List.mem_of_getElem? (i := 34) rfl)
theorem ww35 {Z : State} {a0 : Array Value} (hw : ∀ d ∈ tables_1, d.before a0 Z = true) : (Jvm.Cond.laysStatic "com/example/doseline/doseline/dedup/Outcome" "UNKNOWN" "Lcom/example/doseline/doseline/dedup/Outcome;").before a0 Z = true := hw _ (List.mem_of_getElem? (i := 35) rfl)
theorem ww36 {Z : State} {a0 : Array Value} (hw : ∀ d ∈ tables_1, d.before a0 Z = true) : (Jvm.Cond.fieldLink "com/example/doseline/doseline/dedup/ScoreOutcomePinLaw" (32 : Nat) "com/example/doseline/doseline/dedup/Outcome" "UNKNOWN" "Lcom/example/doseline/doseline/dedup/Outcome;").before a0 Z = true := hw _ (List.mem_of_getElem? (i := 36) rfl)
theorem ww37 {Z : State} {a0 : Array Value} (hw : ∀ d ∈ tables_1, d.before a0 Z = true) : (Jvm.Cond.fieldLink "com/example/doseline/doseline/dedup/Score" (176 : Nat) "com/example/doseline/doseline/dedup/Outcome" "MATCH" "Lcom/example/doseline/doseline/dedup/Outcome;").before a0 Z = true := hw _ (List.mem_of_getElem? (i := 37) rfl)
theorem ww38 {Z : State} {a0 : Array Value} (hw : ∀ d ∈ tables_1, d.before a0 Z = true) : (Jvm.Cond.laysStatic "com/example/doseline/doseline/dedup/Outcome" "MATCH" "Lcom/example/doseline/doseline/dedup/Outcome;").before a0 Z = true := hw _ (List.mem_of_getElem? (i := 38) rfl)
theorem ww39 {Z : State} {a0 : Array Value} (hw : ∀ d ∈ tables_1, d.before a0 Z = true) : (Jvm.Cond.fieldLink "com/example/doseline/doseline/dedup/ScoreOutcomePinLaw" (23 : Nat) "com/example/doseline/doseline/dedup/Outcome" "MATCH" "Lcom/example/doseline/doseline/dedup/Outcome;").before a0 Z = true := hw _ (List.mem_of_getElem? (i := 39) rfl)
/-! the plain law -/
theorem own_StaKeep {Z : State} {h h' : Heap} {C C' n d : String} {v : Value} {a : Addr} (F : Sta Z h C n d v) (K : Keep h h' [a]) (E : Exa Z h a C') : Sta Z h' C n d v := by
  obtain ⟨cf, i, k, f, st, cell, h1, h2, h3, h4, h5, h6, h7⟩ := F
  have hne : st ≠ a := by
    rintro rfl
    obtain ⟨cell', k', e1, -, -, e4, -⟩ := E
    cases e1.symm.trans h5
    rw [h6] at e4; cases e4
  exact ⟨cf, i, k, f, st, cell, h1, h2, h3, h4, K.2.1 _ _ h5 (by simpa using hne), h6, h7⟩
def own_out (p : Int32) (d u m : Addr) : Addr := if (17640 : Int32) < (100 : Int32) * (p - (1 : Int32)) then m else if (100 : Int32) * (p - (1 : Int32)) < (11760 : Int32) then d else u
def own_exp (p : Int32) (d u m : Addr) : Addr := if p < (178 : Int32) then (if (118 : Int32) < p then u else d) else m
theorem own_same {p : Int32} (h1 : ¬ p < (1 : Int32)) (h2 : ¬ (295 : Int32) < p) (d u m : Addr) : own_out p d u m = own_exp p d u m := by
  rw [Int32.lt_iff_toInt_lt] at h1 h2
  have e1 : (1 : Int32).toInt = 1 := rfl
  have e2 : (295 : Int32).toInt = 295 := rfl
  have e3 : (100 : Int32).toInt = 100 := rfl
  have e4 : (17640 : Int32).toInt = 17640 := rfl
  have e5 : (11760 : Int32).toInt = 11760 := rfl
  have e6 : (178 : Int32).toInt = 178 := rfl
  have e7 : (118 : Int32).toInt = 118 := rfl
  have a1 := c_isub p 1
  have b1 := Int32.le_toInt (p - 1)
  have b2 := Int32.toInt_lt (p - 1)
  have s1 : (p - 1).toInt = p.toInt - 1 := by omega
  have a2 := c_imul 100 (p - 1)
  rw [s1, e3] at a2
  have b3 := Int32.le_toInt (100 * (p - 1))
  have b4 := Int32.toInt_lt (100 * (p - 1))
  have s2 : (100 * (p - 1)).toInt = 100 * (p.toInt - 1) := by omega
  unfold own_out own_exp
  simp only [Int32.lt_iff_toInt_lt, s2, e4, e5, e6, e7]
  by_cases q1 : p.toInt < 178
  · rw [if_neg (by omega), if_pos q1]
    by_cases q2 : 118 < p.toInt
    · rw [if_neg (by omega), if_pos q2]
    · rw [if_pos (by omega), if_neg q2]
  · rw [if_pos (by omega), if_neg q1]
theorem own_rng (y : Int32) : ¬ (1 : Int32) + (y &&& (2147483647 : Int32)) % (295 : Int32) < (1 : Int32) ∧ ¬ (295 : Int32) < (1 : Int32) + (y &&& (2147483647 : Int32)) % (295 : Int32) := by
  have e0 : (2147483647 : Int32).toInt = 2147483647 := rfl
  have e1 : (1 : Int32).toInt = 1 := rfl
  have e2 : (295 : Int32).toInt = 295 := rfl
  have a := c_and y 2147483647 (by omega)
  have r := (c_irem (y &&& 2147483647) 295 295 rfl).1 a.1
  have s := c_iadd 1 ((y &&& 2147483647) % 295)
  have b1 := Int32.le_toInt (1 + (y &&& 2147483647) % 295)
  have b2 := Int32.toInt_lt (1 + (y &&& 2147483647) % 295)
  rw [Int32.lt_iff_toInt_lt, Int32.lt_iff_toInt_lt]
  omega
theorem own_pn2 : plainFor (⟨"java/lang/Record", "<init>", "()V"⟩ : MethodName) = true := plainFor_of_name (by first | (simp [plainName, overriddenIn]; done) | decide +kernel)
theorem d2_0 : decode jdk_30_method_1_code 0 = .ok (.aload_n 0, 1) := by decide +kernel
theorem d2_1 : decode jdk_30_method_1_code 1 = .ok (.invokespecial 1, 3) := by decide +kernel
theorem d2_4 : decode jdk_30_method_1_code 4 = .ok (.return_, 1) := by decide +kernel
theorem own_ef2_own_rmR (m : MethodId) (y0 : Addr) : entryFrame m #[(.ref y0)] 1 = mkF m 0 #[.val (.ref y0)] [] := by first | (simp [entryFrame, mkF, argsToLocals, Value.category]; done) | rfl
set_option maxRecDepth 65536 in
set_option maxHeartbeats 40000000 in
theorem own_rmR (l : Launch) (Z : State) (a0 : Array Value) (hw : ∀ d ∈ tables_1, d.before a0 Z = true) (a : Addr) (h0 : Heap) (n0 : Nat) (Z0 : n0 ≤ h0.size)  :
    own_Met l Z (⟨"java/lang/Record", "<init>", "()V"⟩ : MethodName) jdk_30_method_1_code 1 none [] ({ frames := 1, cells := 0, slots := 0, locals := 12 } : Room) #[(.ref a)] h0 (fun v h L => v = none ∧ Fr n0 L ∧ h = h0) := by
  refine own_met own_pn2 ?_
  intro p e s m below meth c s₁ hx hby hml hown hnm hret hlk hZ X0 e0
  have N0 := Fr.nil n0
  refine own_cast (own_ef2_own_rmR m a) ?_
  refine own_aloadN (n := 1) X0 hx (hb hby d2_0) rfl rfl rfl ?_
  refine own_initO (n := 4) X0 hx hZ hown (ww12 hw) (ww13 hw) (ww14 hw) e0 (by rw [hml]; rfl) (hb hby d2_1) (Nat.le_of_ble_eq_true rfl) (Nat.le_of_ble_eq_true rfl) rfl ?_
  intro T1 X1 e1
  refine own_retV X1 hx hlk hret e1 (hb hby d2_4) (by decide) (by decide) ?_
  exact ⟨rfl, N0, rfl⟩
theorem own_pn1 : plainFor (⟨"com/example/doseline/doseline/dedup/Score", "<init>", "(I)V"⟩ : MethodName) = true := plainFor_of_name (by first | (simp [plainName, overriddenIn]; done) | decide +kernel)
theorem d1_0 : decode prog_43_method_1_code 0 = .ok (.aload_n 0, 1) := by decide +kernel
theorem d1_1 : decode prog_43_method_1_code 1 = .ok (.invokespecial 1, 3) := by decide +kernel
theorem own_pd0 : parseMethodDescriptor "()V" = some ⟨[], none⟩ := by decide +kernel
theorem d1_4 : decode prog_43_method_1_code 4 = .ok (.iload_n 1, 1) := by decide +kernel
theorem d1_5 : decode prog_43_method_1_code 5 = .ok (.getstatic 7, 3) := by decide +kernel
theorem d1_8 : decode prog_43_method_1_code 8 = .ok (.if_icmp .lt 10, 3) := by decide +kernel
theorem d1_11 : decode prog_43_method_1_code 11 = .ok (.iload_n 1, 1) := by decide +kernel
theorem d1_12 : decode prog_43_method_1_code 12 = .ok (.getstatic 13, 3) := by decide +kernel
theorem d1_15 : decode prog_43_method_1_code 15 = .ok (.if_icmp .le 23, 3) := by decide +kernel
theorem d1_38 : decode prog_43_method_1_code 38 = .ok (.aload_n 0, 1) := by decide +kernel
theorem d1_39 : decode prog_43_method_1_code 39 = .ok (.iload_n 1, 1) := by decide +kernel
theorem d1_40 : decode prog_43_method_1_code 40 = .ok (.putfield 25, 3) := by decide +kernel
theorem d1_43 : decode prog_43_method_1_code 43 = .ok (.return_, 1) := by decide +kernel
theorem own_ef1_own_rmI (m : MethodId) (y0 : Addr) (y1 : Int32) : entryFrame m #[(.ref y0), (.int y1)] 2 = mkF m 0 #[.val (.ref y0), .val (.int y1)] [] := by first | (simp [entryFrame, mkF, argsToLocals, Value.category]; done) | rfl
set_option maxRecDepth 65536 in
set_option maxHeartbeats 40000000 in
theorem own_rmI (l : Launch) (Z : State) (a0 : Array Value) (hw : ∀ d ∈ tables_1, d.before a0 Z = true) (a : Addr) (p1 : Int32) (h0 : Heap) (n0 : Nat) (Z0 : n0 ≤ h0.size) (S1 : Sta Z h0 "com/example/doseline/doseline/dedup/Score" "MIN" "I" (.int (1 : Int32))) (S2 : Sta Z h0 "com/example/doseline/doseline/dedup/Score" "MAX" "I" (.int (295 : Int32))) (E0 : Exa Z h0 a "com/example/doseline/doseline/dedup/Score") (F0 : Fld Z h0 a "com/example/doseline/doseline/dedup/Score" "value" "I" (.int (0 : Int32))) (g_a : n0 ≤ a) (hv1 : ¬ p1 < (1 : Int32)) (hv2 : ¬ (295 : Int32) < p1) :
    own_Met l Z (⟨"com/example/doseline/doseline/dedup/Score", "<init>", "(I)V"⟩ : MethodName) prog_43_method_1_code 2 none [] ({ frames := 2, cells := 0, slots := 0, locals := 24 } : Room) #[(.ref a), (.int p1)] h0 (fun v h L => v = none ∧ Fr n0 L ∧ Keep h0 h [a] ∧ Exa Z h a "com/example/doseline/doseline/dedup/Score" ∧ Fld Z h a "com/example/doseline/doseline/dedup/Score" "value" "I" (.int p1)) := by
  refine own_met own_pn1 ?_
  intro p e s m below meth c s₁ hx hby hml hown hnm hret hlk hZ X0 e0
  have N0 := Fr.nil n0
  refine own_cast (own_ef1_own_rmI m a p1) ?_
  refine own_aloadN (n := 1) X0 hx (hb hby d1_0) rfl rfl rfl ?_
  refine own_I (n := 4) (argsL := []) (rest := []) (a := a) (by rfl) X0 hx hZ hown (own_rmR l Z a0 hw a h0 n0 Z0) (ww7 hw) (ww8 hw) (ww10 hw) (ww11 hw) (by decide) e0 (by rw [hml]; rfl) (lenOf own_pd0 rfl) rfl (hb hby d1_1) (Nat.le_of_ble_eq_true rfl) (Nat.le_of_ble_eq_true rfl) (Nat.le_of_ble_eq_true rfl) (Nat.le_of_ble_eq_true rfl) rfl ?_
  rintro v1 T1 L1 X1 ⟨rfl, Nq1, eq1⟩
  have N1 := Fr.app N0 Nq1
  change own_G p e below _ _ (mkF m 4 _ [])
  refine own_iloadN (n := 5) X1 hx (hb hby d1_4) rfl rfl ?_
  refine own_getS (n := 8) X1 hx hZ hown (host := "") (Or.inl (ww15 hw)) Via.refl eq1 S1 (hb hby d1_5) rfl ?_
  intro T2 X2 e2
  refine own_icmpNo (n := 11) X2 hx (hb hby d1_8) (flt hv1).1 rfl ?_
  refine own_iloadN (n := 12) X2 hx (hb hby d1_11) rfl rfl ?_
  refine own_getS (n := 15) X2 hx hZ hown (host := "") (Or.inl (ww17 hw)) Via.refl e2 S2 (hb hby d1_12) rfl ?_
  intro T3 X3 e3
  refine own_icmpYes (n := 38) X3 hx (hb hby d1_15) (flt hv2).2.2.2 (by decide) (by decide) ?_
  refine own_aloadN (n := 39) X3 hx (hb hby d1_38) rfl rfl rfl ?_
  refine own_iloadN (n := 40) X3 hx (hb hby d1_39) rfl rfl ?_
  refine own_putF (n := 43) X3 hx hZ hown (host := "") (Or.inl (ww19 hw)) Via.refl e3 F0 E0 (Or.inr ⟨(ww20 hw), rfl, hnm⟩) (ww2 hw) (ty := .int) (by decide) rfl rfl (hb hby d1_40) rfl ?_
  intro T4 h4 X4 e4 W4
  have F_5 := F0.same W4
  have N4 := Fr.snoc X4 N1 g_a
  have S_6 := S1.wr W4
  have S_7 := S2.wr W4
  have E_8 := E0.wr W4
  have K_9 := (Keep.refl h0 [a]).wr W4 (Or.inl (by simp))
  have Z_10 : n0 ≤ h4.size := by rw [W4.size]; exact Z0
  refine own_retV X4 hx hlk hret e4 (hb hby d1_43) (by decide) (by decide) ?_
  exact ⟨rfl, N4, K_9, E_8, F_5⟩
theorem own_pn4 : plainFor (⟨"com/example/doseline/doseline/dedup/Score", "outcome", "()Lcom/example/doseline/doseline/dedup/Outcome;"⟩ : MethodName) = true := plainFor_of_name (by first | (simp [plainName, overriddenIn]; done) | decide +kernel)
theorem d4_0 : decode prog_43_method_6_code 0 = .ok (.bipush 100, 2) := by decide +kernel
theorem d4_2 : decode prog_43_method_6_code 2 = .ok (.aload_n 0, 1) := by decide +kernel
theorem d4_3 : decode prog_43_method_6_code 3 = .ok (.getfield 25, 3) := by decide +kernel
theorem d4_6 : decode prog_43_method_6_code 6 = .ok (.getstatic 7, 3) := by decide +kernel
theorem d4_9 : decode prog_43_method_6_code 9 = .ok (.isub, 1) := by decide +kernel
theorem d4_10 : decode prog_43_method_6_code 10 = .ok (.imul, 1) := by decide +kernel
theorem d4_11 : decode prog_43_method_6_code 11 = .ok (.istore_n 1, 1) := by decide +kernel
theorem d4_12 : decode prog_43_method_6_code 12 = .ok (.iload_n 1, 1) := by decide +kernel
theorem d4_13 : decode prog_43_method_6_code 13 = .ok (.bipush 60, 2) := by decide +kernel
theorem d4_15 : decode prog_43_method_6_code 15 = .ok (.getstatic 13, 3) := by decide +kernel
theorem d4_18 : decode prog_43_method_6_code 18 = .ok (.getstatic 7, 3) := by decide +kernel
theorem d4_21 : decode prog_43_method_6_code 21 = .ok (.isub, 1) := by decide +kernel
theorem d4_22 : decode prog_43_method_6_code 22 = .ok (.imul, 1) := by decide +kernel
theorem d4_23 : decode prog_43_method_6_code 23 = .ok (.if_icmp .le 7, 3) := by decide +kernel
theorem d4_26 : decode prog_43_method_6_code 26 = .ok (.getstatic 176, 3) := by decide +kernel
theorem d4_29 : decode prog_43_method_6_code 29 = .ok (.areturn, 1) := by decide +kernel
theorem d4_30 : decode prog_43_method_6_code 30 = .ok (.iload_n 1, 1) := by decide +kernel
theorem d4_31 : decode prog_43_method_6_code 31 = .ok (.bipush 40, 2) := by decide +kernel
theorem d4_33 : decode prog_43_method_6_code 33 = .ok (.getstatic 13, 3) := by decide +kernel
theorem d4_36 : decode prog_43_method_6_code 36 = .ok (.getstatic 7, 3) := by decide +kernel
theorem d4_39 : decode prog_43_method_6_code 39 = .ok (.isub, 1) := by decide +kernel
theorem d4_40 : decode prog_43_method_6_code 40 = .ok (.imul, 1) := by decide +kernel
theorem d4_41 : decode prog_43_method_6_code 41 = .ok (.if_icmp .ge 7, 3) := by decide +kernel
theorem d4_44 : decode prog_43_method_6_code 44 = .ok (.getstatic 182, 3) := by decide +kernel
theorem d4_47 : decode prog_43_method_6_code 47 = .ok (.areturn, 1) := by decide +kernel
theorem d4_48 : decode prog_43_method_6_code 48 = .ok (.getstatic 185, 3) := by decide +kernel
theorem d4_51 : decode prog_43_method_6_code 51 = .ok (.areturn, 1) := by decide +kernel
theorem own_ef4_own_rmO (m : MethodId) (y0 : Addr) : entryFrame m #[(.ref y0)] 2 = mkF m 0 #[.val (.ref y0), .unset] [] := by first | (simp [entryFrame, mkF, argsToLocals, Value.category]; done) | rfl
set_option maxRecDepth 65536 in
set_option maxHeartbeats 40000000 in
theorem own_rmO (l : Launch) (Z : State) (a0 : Array Value) (hw : ∀ d ∈ tables_1, d.before a0 Z = true) (a td tu tm : Addr) (p1 : Int32) (h0 : Heap) (n0 : Nat) (Z0 : n0 ≤ h0.size) (S1 : Sta Z h0 "com/example/doseline/doseline/dedup/Score" "MIN" "I" (.int (1 : Int32))) (S2 : Sta Z h0 "com/example/doseline/doseline/dedup/Score" "MAX" "I" (.int (295 : Int32))) (S3 : Sta Z h0 "com/example/doseline/doseline/dedup/Outcome" "DIFFER" "Lcom/example/doseline/doseline/dedup/Outcome;" (.ref td)) (S4 : Sta Z h0 "com/example/doseline/doseline/dedup/Outcome" "UNKNOWN" "Lcom/example/doseline/doseline/dedup/Outcome;" (.ref tu)) (S5 : Sta Z h0 "com/example/doseline/doseline/dedup/Outcome" "MATCH" "Lcom/example/doseline/doseline/dedup/Outcome;" (.ref tm)) (F0 : Fld Z h0 a "com/example/doseline/doseline/dedup/Score" "value" "I" (.int p1)) :
    own_Met l Z (⟨"com/example/doseline/doseline/dedup/Score", "outcome", "()Lcom/example/doseline/doseline/dedup/Outcome;"⟩ : MethodName) prog_43_method_6_code 2 (some (.object "com/example/doseline/doseline/dedup/Outcome")) [] ({ frames := 0, cells := 0, slots := 0, locals := 0 } : Room) #[(.ref a)] h0 (fun v h L => v = some (.ref (own_out p1 td tu tm)) ∧ Fr n0 L ∧ h = h0) := by
  refine own_met own_pn4 ?_
  intro p e s m below meth c s₁ hx hby hml hown hnm hret hlk hZ X0 e0
  have N0 := Fr.nil n0
  refine own_cast (own_ef4_own_rmO m a) ?_
  refine own_bipush (n := 2) (z := (100 : Int32)) X0 hx (hb hby d4_0) rfl rfl ?_
  refine own_aloadN (n := 3) X0 hx (hb hby d4_2) rfl rfl rfl ?_
  refine own_getF (n := 6) X0 hx hZ hown (host := "") (Or.inl (ww19 hw)) Via.refl e0 F0 (hb hby d4_3) rfl ?_
  intro T1 X1 e1
  refine own_getS (n := 9) X1 hx hZ hown (host := "") (Or.inl (ww15 hw)) Via.refl e1 S1 (hb hby d4_6) rfl ?_
  intro T2 X2 e2
  refine own_isub (n := 10) X2 hx (hb hby d4_9) rfl rfl ?_
  refine own_imul (n := 11) X2 hx (hb hby d4_10) rfl rfl ?_
  refine own_istoreN (n := 12) (l' := #[.val (.ref a), .val (.int ((100 : Int32) * (p1 - (1 : Int32))))]) X2 hx (hb hby d4_11) rfl rfl ?_
  refine own_iloadN (n := 13) X2 hx (hb hby d4_12) rfl rfl ?_
  refine own_bipush (n := 15) (z := (60 : Int32)) X2 hx (hb hby d4_13) rfl rfl ?_
  refine own_getS (n := 18) X2 hx hZ hown (host := "") (Or.inl (ww17 hw)) Via.refl e2 S2 (hb hby d4_15) rfl ?_
  intro T3 X3 e3
  refine own_getS (n := 21) X3 hx hZ hown (host := "") (Or.inl (ww15 hw)) Via.refl e3 S1 (hb hby d4_18) rfl ?_
  intro T4 X4 e4
  refine own_isub (n := 22) (z := (294 : Int32)) X4 hx (hb hby d4_21) rfl rfl ?_
  refine own_imul (n := 23) (z := (17640 : Int32)) X4 hx (hb hby d4_22) rfl rfl ?_
  by_cases hc23_5 : (17640 : Int32) < ((100 : Int32) * (p1 - (1 : Int32)))
  · skip
    refine own_icmpNo (n := 26) X4 hx (hb hby d4_23) (tlt hc23_5).2.2.2 rfl ?_
    refine own_getS (n := 29) X4 hx hZ hown (host := "") (Or.inl (ww37 hw)) Via.refl e4 S5 (hb hby d4_26) rfl ?_
    intro T6 X6 e6
    refine own_retA X6 hx hlk hret rfl rfl rfl e6 (hb hby d4_29) (by decide) (by decide) ?_
    exact ⟨by simp [own_out, hc23_5], N0, rfl⟩
  · skip
    refine own_icmpYes (n := 30) X4 hx (hb hby d4_23) (flt hc23_5).2.2.2 (by decide) (by decide) ?_
    refine own_iloadN (n := 31) X4 hx (hb hby d4_30) rfl rfl ?_
    refine own_bipush (n := 33) (z := (40 : Int32)) X4 hx (hb hby d4_31) rfl rfl ?_
    refine own_getS (n := 36) X4 hx hZ hown (host := "") (Or.inl (ww17 hw)) Via.refl e4 S2 (hb hby d4_33) rfl ?_
    intro T7 X7 e7
    refine own_getS (n := 39) X7 hx hZ hown (host := "") (Or.inl (ww15 hw)) Via.refl e7 S1 (hb hby d4_36) rfl ?_
    intro T8 X8 e8
    refine own_isub (n := 40) (z := (294 : Int32)) X8 hx (hb hby d4_39) rfl rfl ?_
    refine own_imul (n := 41) (z := (11760 : Int32)) X8 hx (hb hby d4_40) rfl rfl ?_
    by_cases hc41_9 : ((100 : Int32) * (p1 - (1 : Int32))) < (11760 : Int32)
    · skip
      refine own_icmpNo (n := 44) X8 hx (hb hby d4_41) (tlt hc41_9).2.1 rfl ?_
      refine own_getS (n := 47) X8 hx hZ hown (host := "") (Or.inl (ww26 hw)) Via.refl e8 S3 (hb hby d4_44) rfl ?_
      intro T10 X10 e10
      refine own_retA X10 hx hlk hret rfl rfl rfl e10 (hb hby d4_47) (by decide) (by decide) ?_
      exact ⟨by simp [own_out, hc23_5, hc41_9], N0, rfl⟩
    · skip
      refine own_icmpYes (n := 48) X8 hx (hb hby d4_41) (flt hc41_9).2.1 (by decide) (by decide) ?_
      refine own_getS (n := 51) X8 hx hZ hown (host := "") (Or.inl (ww34 hw)) Via.refl e8 S4 (hb hby d4_48) rfl ?_
      intro T11 X11 e11
      refine own_retA X11 hx hlk hret rfl rfl rfl e11 (hb hby d4_51) (by decide) (by decide) ?_
      exact ⟨by simp [own_out, hc23_5, hc41_9], N0, rfl⟩
theorem own_pn5 : plainFor (⟨"com/example/doseline/doseline/dedup/ScoreOutcomePinLaw", "expected", "(I)Lcom/example/doseline/doseline/dedup/Outcome;"⟩ : MethodName) = true := plainFor_of_name (by first | (simp [plainName, overriddenIn]; done) | decide +kernel)
theorem d5_0 : decode method_3_code 0 = .ok (.iload_n 0, 1) := by decide +kernel
theorem d5_1 : decode method_3_code 1 = .ok (.sipush 178, 3) := by decide +kernel
theorem d5_4 : decode method_3_code 4 = .ok (.if_icmp .lt 7, 3) := by decide +kernel
theorem d5_11 : decode method_3_code 11 = .ok (.iload_n 0, 1) := by decide +kernel
theorem d5_12 : decode method_3_code 12 = .ok (.bipush 118, 2) := by decide +kernel
theorem d5_14 : decode method_3_code 14 = .ok (.if_icmp .gt 7, 3) := by decide +kernel
theorem d5_21 : decode method_3_code 21 = .ok (.getstatic 32, 3) := by decide +kernel
theorem d5_24 : decode method_3_code 24 = .ok (.areturn, 1) := by decide +kernel
theorem d5_17 : decode method_3_code 17 = .ok (.getstatic 29, 3) := by decide +kernel
theorem d5_20 : decode method_3_code 20 = .ok (.areturn, 1) := by decide +kernel
theorem d5_7 : decode method_3_code 7 = .ok (.getstatic 23, 3) := by decide +kernel
theorem d5_10 : decode method_3_code 10 = .ok (.areturn, 1) := by decide +kernel
theorem own_ef5_own_rmE (m : MethodId) (y0 : Int32) : entryFrame m #[(.int y0)] 1 = mkF m 0 #[.val (.int y0)] [] := by first | (simp [entryFrame, mkF, argsToLocals, Value.category]; done) | rfl
set_option maxRecDepth 65536 in
set_option maxHeartbeats 40000000 in
theorem own_rmE (l : Launch) (Z : State) (a0 : Array Value) (hw : ∀ d ∈ tables_1, d.before a0 Z = true) (td tu tm : Addr) (p1 : Int32) (h0 : Heap) (n0 : Nat) (Z0 : n0 ≤ h0.size) (S3 : Sta Z h0 "com/example/doseline/doseline/dedup/Outcome" "DIFFER" "Lcom/example/doseline/doseline/dedup/Outcome;" (.ref td)) (S4 : Sta Z h0 "com/example/doseline/doseline/dedup/Outcome" "UNKNOWN" "Lcom/example/doseline/doseline/dedup/Outcome;" (.ref tu)) (S5 : Sta Z h0 "com/example/doseline/doseline/dedup/Outcome" "MATCH" "Lcom/example/doseline/doseline/dedup/Outcome;" (.ref tm)) :
    own_Met l Z (⟨"com/example/doseline/doseline/dedup/ScoreOutcomePinLaw", "expected", "(I)Lcom/example/doseline/doseline/dedup/Outcome;"⟩ : MethodName) method_3_code 1 (some (.object "com/example/doseline/doseline/dedup/Outcome")) [] ({ frames := 0, cells := 0, slots := 0, locals := 0 } : Room) #[(.int p1)] h0 (fun v h L => v = some (.ref (own_exp p1 td tu tm)) ∧ Fr n0 L ∧ h = h0) := by
  refine own_met own_pn5 ?_
  intro p e s m below meth c s₁ hx hby hml hown hnm hret hlk hZ X0 e0
  have N0 := Fr.nil n0
  refine own_cast (own_ef5_own_rmE m p1) ?_
  refine own_iloadN (n := 1) X0 hx (hb hby d5_0) rfl rfl ?_
  refine own_sipush (n := 4) (z := (178 : Int32)) X0 hx (hb hby d5_1) rfl rfl ?_
  by_cases hc4_1 : p1 < (178 : Int32)
  · skip
    refine own_icmpYes (n := 11) X0 hx (hb hby d5_4) (tlt hc4_1).1 (by decide) (by decide) ?_
    refine own_iloadN (n := 12) X0 hx (hb hby d5_11) rfl rfl ?_
    refine own_bipush (n := 14) (z := (118 : Int32)) X0 hx (hb hby d5_12) rfl rfl ?_
    by_cases hc14_2 : (118 : Int32) < p1
    · skip
      refine own_icmpYes (n := 21) X0 hx (hb hby d5_14) (tlt hc14_2).2.2.1 (by decide) (by decide) ?_
      refine own_getS (n := 24) X0 hx hZ hown (host := "") (Or.inl (ww36 hw)) Via.refl e0 S4 (hb hby d5_21) rfl ?_
      intro T3 X3 e3
      refine own_retA X3 hx hlk hret rfl rfl rfl e3 (hb hby d5_24) (by decide) (by decide) ?_
      exact ⟨by simp [own_exp, hc4_1, hc14_2], N0, rfl⟩
    · skip
      refine own_icmpNo (n := 17) X0 hx (hb hby d5_14) (flt hc14_2).2.2.1 rfl ?_
      refine own_getS (n := 20) X0 hx hZ hown (host := "") (Or.inl (ww33 hw)) Via.refl e0 S3 (hb hby d5_17) rfl ?_
      intro T4 X4 e4
      refine own_retA X4 hx hlk hret rfl rfl rfl e4 (hb hby d5_20) (by decide) (by decide) ?_
      exact ⟨by simp [own_exp, hc4_1, hc14_2], N0, rfl⟩
  · skip
    refine own_icmpNo (n := 7) X0 hx (hb hby d5_4) (flt hc4_1).1 rfl ?_
    refine own_getS (n := 10) X0 hx hZ hown (host := "") (Or.inl (ww39 hw)) Via.refl e0 S5 (hb hby d5_7) rfl ?_
    intro T5 X5 e5
    refine own_retA X5 hx hlk hret rfl rfl rfl e5 (hb hby d5_10) (by decide) (by decide) ?_
    exact ⟨by simp [own_exp, hc4_1], N0, rfl⟩
theorem own_pn0 : plainFor x = true := plainFor_of_name (by first | (simp [plainName, overriddenIn]; done) | decide +kernel)
theorem own_pd1 : parseMethodDescriptor "(I)V" = some ⟨[.int], none⟩ := by decide +kernel
theorem own_pd2 : parseMethodDescriptor "()Lcom/example/doseline/doseline/dedup/Outcome;" = some ⟨[], some (.object "com/example/doseline/doseline/dedup/Outcome")⟩ := by decide +kernel
theorem own_pd3 : parseMethodDescriptor "(I)Lcom/example/doseline/doseline/dedup/Outcome;" = some ⟨[.int], some (.object "com/example/doseline/doseline/dedup/Outcome")⟩ := by decide +kernel
theorem own_ef0_own_rm0 (m : MethodId) (y0 : Int32) : entryFrame m #[(.int y0)] maxLocals = mkF m 0 #[.val (.int y0), .unset, .unset] [] := by first | (simp [entryFrame, mkF, argsToLocals, Value.category, maxLocals]; done) | rfl
set_option maxRecDepth 65536 in
set_option maxHeartbeats 40000000 in
theorem own_rm0 (l : Launch) (Z : State) (a0 : Array Value) (hw : ∀ d ∈ tables_1, d.before a0 Z = true) (p0 : Int32) (td tu tm : Addr) (h0 : Heap) (n0 : Nat) (Z0 : n0 ≤ h0.size) (S1 : Sta Z h0 "com/example/doseline/doseline/dedup/Score" "MIN" "I" (.int (1 : Int32))) (S2 : Sta Z h0 "com/example/doseline/doseline/dedup/Score" "MAX" "I" (.int (295 : Int32))) (S3 : Sta Z h0 "com/example/doseline/doseline/dedup/Outcome" "DIFFER" "Lcom/example/doseline/doseline/dedup/Outcome;" (.ref td)) (S4 : Sta Z h0 "com/example/doseline/doseline/dedup/Outcome" "UNKNOWN" "Lcom/example/doseline/doseline/dedup/Outcome;" (.ref tu)) (S5 : Sta Z h0 "com/example/doseline/doseline/dedup/Outcome" "MATCH" "Lcom/example/doseline/doseline/dedup/Outcome;" (.ref tm)) :
    own_Met l Z x code maxLocals ret tables_1 room_1 #[(.int p0)] h0 (fun v h L => v = some (.int 1) ∧ Fr n0 L) := by
  refine own_met own_pn0 ?_
  intro p e s m below meth c s₁ hx hby hml hown hnm hret hlk hZ X0 e0
  have N0 := Fr.nil n0
  refine own_cast (own_ef0_own_rm0 m p0) ?_
  have hv := own_rng p0
  refine own_iconst (n := 1) (z := (1 : Int32)) X0 hx (hb hby at_0) rfl rfl ?_
  refine own_iloadN (n := 2) X0 hx (hb hby at_1) rfl rfl ?_
  refine own_ldc (n := 4) (v := (2147483647 : Int32)) X0 hx hZ hown (ww0 hw) (hb hby at_2) rfl ?_
  refine own_iand (n := 5) X0 hx (hb hby at_4) rfl rfl ?_
  refine own_sipush (n := 8) (z := (295 : Int32)) X0 hx (hb hby at_5) rfl rfl ?_
  refine own_irem (n := 9) X0 hx (hb hby at_8) (by decide) rfl ?_
  refine own_iadd (n := 10) X0 hx (hb hby at_9) rfl rfl ?_
  refine own_istoreN (n := 11) (l' := #[.val (.int p0), .val (.int ((1 : Int32) + ((p0 &&& (2147483647 : Int32)) % (295 : Int32)))), .unset]) X0 hx (hb hby at_10) rfl rfl ?_
  refine own_new (n := 14) X0 hx hZ hown (ww1 hw) (ww2 hw) (ww3 hw) e0 (hb hby at_11) (by decide) (by decide) rfl ?_
  intro T1 h1 b1 g1 X1 e1 E1 A1 D1
  have g_b1 : n0 ≤ b1 := Nat.le_trans Z0 (Nat.le_of_eq g1.symm)
  have S_2 := S1.ext E1
  have S_3 := S2.ext E1
  have S_4 := S3.ext E1
  have S_5 := S4.ext E1
  have S_6 := S5.ext E1
  have Z_7 : n0 ≤ h1.size := Nat.le_trans Z0 E1.1
  have F_8 : Fld Z h1 b1 "com/example/doseline/doseline/dedup/Score" "value" "I" (.int (0 : Int32)) := D1 (Or.inr (ww20 hw)) (ty := .int) (by decide)
  refine own_dup (n := 15) X1 hx (hb hby at_14) rfl rfl ?_
  refine own_iloadN (n := 16) X1 hx (hb hby at_15) rfl rfl ?_
  refine own_I (n := 19) (argsL := [(.int ((1 : Int32) + ((p0 &&& (2147483647 : Int32)) % (295 : Int32))))]) (rest := [(.ref b1)]) (a := b1) (by rfl) X1 hx hZ hown (own_rmI l Z a0 hw b1 ((1 : Int32) + ((p0 &&& (2147483647 : Int32)) % (295 : Int32))) h1 n0 Z_7 S_2 S_3 A1 F_8 g_b1 hv.1 hv.2) (ww4 hw) (ww5 hw) (ww3 hw) (ww6 hw) (by decide) e1 (by rw [hml]; rfl) (lenOf own_pd1 rfl) rfl (hb hby at_16) (Nat.le_of_ble_eq_true rfl) (Nat.le_of_ble_eq_true rfl) (Nat.le_of_ble_eq_true rfl) (Nat.le_of_ble_eq_true rfl) rfl ?_
  rintro v9 T9 L9 X9 ⟨rfl, Nq9, K9, Eq9, Fq9⟩
  have N9 := Fr.app N0 Nq9
  have S_10 := own_StaKeep S_2 K9 A1
  have S_11 := own_StaKeep S_3 K9 A1
  have S_12 := own_StaKeep S_4 K9 A1
  have S_13 := own_StaKeep S_5 K9 A1
  have S_14 := own_StaKeep S_6 K9 A1
  have E_15 := A1.keep K9
  have Z_16 : n0 ≤ T9.heap.size := Nat.le_trans Z_7 K9.1
  change own_G p e below _ _ (mkF m 19 _ [(.ref b1)])
  refine own_V (n := 22) (argsL := []) (rest := []) (a := b1) X9 hx hZ hown (own_rmO l Z a0 hw b1 td tu tm ((1 : Int32) + ((p0 &&& (2147483647 : Int32)) % (295 : Int32))) T9.heap n0 Z_16 S_10 S_11 S_12 S_13 S_14 Fq9) (ww21 hw) (ww22 hw) (notFace_of_selects (args := #[]) (mvT hZ (ww24 hw))) (ww24 hw) (ww23 hw) (ww3 hw) (ww25 hw) (by decide) rfl E_15 (by rw [hml]; rfl) (lenOf own_pd2 rfl) rfl (hb hby at_19) (Nat.le_of_ble_eq_true rfl) (Nat.le_of_ble_eq_true rfl) (Nat.le_of_ble_eq_true rfl) (Nat.le_of_ble_eq_true rfl) rfl ?_
  rintro v17 T17 L17 X17 ⟨rfl, Nq17, eq17⟩
  have N17 := Fr.app N9 Nq17
  change own_G p e below _ _ (mkF m 22 _ [(.ref (own_out ((1 : Int32) + ((p0 &&& (2147483647 : Int32)) % (295 : Int32))) td tu tm))])
  refine own_astoreN (n := 23) (l' := #[.val (.int p0), .val (.int ((1 : Int32) + ((p0 &&& (2147483647 : Int32)) % (295 : Int32)))), .val (.ref (own_out ((1 : Int32) + ((p0 &&& (2147483647 : Int32)) % (295 : Int32))) td tu tm))]) X17 hx (hb hby at_22) rfl rfl rfl ?_
  refine own_aloadN (n := 24) X17 hx (hb hby at_23) rfl rfl rfl ?_
  refine own_iloadN (n := 25) X17 hx (hb hby at_24) rfl rfl ?_
  refine own_S (n := 28) (argsL := [(.int ((1 : Int32) + ((p0 &&& (2147483647 : Int32)) % (295 : Int32))))]) (rest := [(.ref (own_out ((1 : Int32) + ((p0 &&& (2147483647 : Int32)) % (295 : Int32))) td tu tm))]) X17 hx hZ hown (own_rmE l Z a0 hw td tu tm ((1 : Int32) + ((p0 &&& (2147483647 : Int32)) % (295 : Int32))) T9.heap n0 Z_16 S_12 S_13 S_14) (ww29 hw) (ww30 hw) (ww31 hw) (ww32 hw) (by decide) eq17 (by rw [hml]; rfl) (lenOf own_pd3 rfl) rfl (hb hby at_25) (Nat.le_of_ble_eq_true rfl) (Nat.le_of_ble_eq_true rfl) (Nat.le_of_ble_eq_true rfl) (Nat.le_of_ble_eq_true rfl) rfl ?_
  rintro v18 T18 L18 X18 ⟨rfl, Nq18, eq18⟩
  have N18 := Fr.app N17 Nq18
  change own_G p e below _ _ (mkF m 28 _ [(.ref (own_exp ((1 : Int32) + ((p0 &&& (2147483647 : Int32)) % (295 : Int32))) td tu tm)), (.ref (own_out ((1 : Int32) + ((p0 &&& (2147483647 : Int32)) % (295 : Int32))) td tu tm))])
  refine own_acmp (n := 31) (same := true) X18 hx (hb hby at_28) (decide_eq_true (own_same hv.1 hv.2 td tu tm)) (by decide) (by decide) ?_
  refine own_iconst (n := 32) (z := (1 : Int32)) X18 hx (hb hby at_31) rfl rfl ?_
  refine own_goto (n := 36) X18 hx (hb hby at_32) (by decide) (by decide) ?_
  refine own_retZ X18 hx hlk hret (by simp) eq18 (w := (1 : Int32)) rfl (hb hby at_36) (by decide) (by decide) ?_
  exact ⟨rfl, N18⟩
theorem own_steq {args : Array Value} {s : State} {t : Term} {k : Int32} (h : (Jvm.Cond.eq t (.int k)).value args s none s [] = some true) : t.eval args s none [] s = some (.int k) := by
  cases hf : t.eval args s none [] s with
  | none => simp [Cond.value, hf] at h
  | some v => cases v <;> simp [Cond.value, Term.eval, hf] at h ⊢; exact h
set_option maxRecDepth 65536 in
set_option maxHeartbeats 40000000 in
theorem comes_1 {Post : Tables → Env → Array Value → State → Outcome → State → Prop} (hpost : ∀ tb e args s v u, (limb_1_1.after args s (.returned v) u = true ∧ limb_1_2.after args s (.returned v) u = true ∧ True) → FrameEnd s (.returned v) u (Jvm.fieldLocs frame_1_writes args s ++ Jvm.arrayLocs frame_1_arrays args s ++ Jvm.staticLocs frame_1_statics s) 16 128 → Post tb e args s (.returned v) u) :
    ArmFor flags0 classFile x code maxLocals ret World_1 tables_1 room_1 Calls_1 rest_1 Pre_1 Post := by
  intro l hfl _ _ p e ha hc hk s m args below hf hA hF happ hP
  obtain ⟨hcalls, hrest, hpre⟩ := hP
  obtain ⟨-, -, -, hnamed, -, -, -, hat⟩ := (Spec.applies_iff hf).mp happ
  obtain ⟨hg, hn⟩ := and_e (Cond.before_iff.mp (show (Jvm.Cond.and given_1 narrow_1).before args s = true from hpre))
  obtain ⟨hcount, hr0⟩ := and_e hg
  obtain ⟨w0, rfl⟩ : ∃ w0 : Value, args = #[w0] := by
    have hs : args.size = 1 := by simpa [Cond.value, given_1] using hcount
    obtain ⟨L⟩ := args
    match L, hs with
    | [w0], _ => exact ⟨w0, rfl⟩
  have hw := fun d (hd : d ∈ tables_1) => atoms_spec (ws := Jvm.Cond.code x code maxLocals ret :: tables_1) hat d (List.mem_cons_of_mem _ hd)
  have hfit : Fit s := fun {y c} hc i hi => by
    obtain ⟨ha, rfl⟩ := Array.getElem?_eq_some_iff.mp hc
    have q := List.all_eq_true.mp ((Array.all_eq_true_iff_forall_mem.mp hF) _ (Array.getElem_mem ha)) i (List.mem_range.mpr hi)
    simpa [Array.getElem?_eq_getElem hi] using q
  obtain ⟨i0, ev0⟩ := is_v hr0
  obtain rfl : w0 = (.int i0) := Option.some.inj ev0
  obtain ⟨hn_0, hm_0⟩ := and_e hn
  obtain ⟨hn_1, hm_1⟩ := and_e hm_0
  obtain ⟨hn_2, hm_2⟩ := and_e hm_1
  obtain ⟨hn_3, hm_3⟩ := and_e hm_2
  have hn_4 := hm_3
  have S1 := Sta.start (own_steq hn_0) (Or.inr ⟨(ww3 hw), (ww16 hw)⟩)
  have S2 := Sta.start (own_steq hn_1) (Or.inr ⟨(ww3 hw), (ww18 hw)⟩)
  obtain ⟨td, ev_td⟩ := exa_v hn_2
  have S3 := Sta.start ev_td (Or.inr ⟨(ww27 hw), (ww28 hw)⟩)
  obtain ⟨tu, ev_tu⟩ := exa_v hn_3
  have S4 := Sta.start ev_tu (Or.inr ⟨(ww27 hw), (ww35 hw)⟩)
  obtain ⟨tm, ev_tm⟩ := exa_v hn_4
  have S5 := Sta.start ev_tm (Or.inr ⟨(ww27 hw), (ww38 hw)⟩)
  obtain ⟨n, o, h1, h2, h3, _, L, rfl, ⟨rfl, N⟩, hq⟩ := own_rm0 l s _ hw i0 td tu tm s.heap s.heap.size (Nat.le_refl _) S1 S2 S3 S4 S5 p e ha hc hk s m _ below hf ((Spec.applies_iff_loose hf).mp happ).1 ⟨rfl, State.Warmed39.refl s, rfl⟩ trivial
  refine ⟨n, _, h1, h2, h3, hpost _ _ _ _ _ _ ⟨Cond.after_iff.mpr rfl, Cond.after_iff.mpr (eq_i res_at (Term.int_eval (1)) rfl), trivial⟩ ⟨hq.1, hq.2.1, (hq.2.2.sift fun y hy => Or.inr (N y hy)).mono (by decide) (by decide)⟩⟩
theorem main_1_1 : Claimed_1_1 := comes_1 fun _ _ _ _ _ _ h hF => ⟨h.1, hF⟩
theorem main_1_2 : Claimed_1_2 := comes_1 fun _ _ _ _ _ _ h hF => ⟨h.2.1, hF⟩
end Jvm.Pilot.@@N@@
namespace Jvm.Pilot.@@N@@
open Jvm Jvm.ClassFile Sem Op Lib Jvm.Free Jvm.Stand Jvm.Pilot.@@N@@.Jvm.D
/-! MADE BY PROGRAM (witnessworld.py) out of the Statement's table words and the real class files: 14 classes; the members and pool entries that the words name. The judged class is class 1, her method 1. -/
namespace start1
open Jvm.ClassFile
def u (s : String) : CpInfo := .utf8 (stringToUtf16 s)
/-- a pool by its gaps: so many unusable entries, then the entry; so many at the end -/
def gap : Nat → List CpInfo → List CpInfo
  | 0, r => r
  | n + 1, r => .unusable :: gap n r
def poolList (es : List (Nat × CpInfo)) (last : Nat) : List CpInfo := es.foldr (fun e r => gap e.1 (e.2 :: r)) (gap last [])
def pool (es : List (Nat × CpInfo)) (last : Nat) : Array CpInfo := ⟨poolList es last⟩
def fileOf (pool : Array CpInfo) (this : Nat) (attrs : Array Attribute := #[]) (ms : Array MethodInfo := #[]) (fl : Nat := 33) (sup : Nat := 0) (ifs : Array Nat := #[]) (fds : Array FieldInfo := #[]) : ClassFile where
  minorVersion := 0
  majorVersion := 65
  constantPool := pool
  accessFlags := fl
  thisClass := this
  superClass := sup
  interfaces := ifs
  fields := fds
  methods := ms
  attributes := attrs
def plain (name : String) (sup : Option ClassId) : Class where
  name := name
  kind := .ordinary
  loader := none
  accessFlags := 33
  super := sup
  interfaces := #[]
  cf := none
  fields := #[]
  methods := #[]
  instanceTypes := #[]
  staticTypes := #[]
  resolved := #[]
  callSites := []
  init := .initialized
  statics := none
  mirror := none

def pool0 : Array CpInfo := pool [(5, u "<init>"), (0, u "()V"), (1, .class_ 10), (1, u "java/lang/Object")] 113

def k0c0 : Code := { maxStack := 0, maxLocals := 1, code := object_method_1_code, exceptionTable := #[], attributes := #[] }
def k0m0 : Method := { name := "<init>", desc := "()V", sig := { parameters := [], returnType := none }, accessFlags := 1, code := some k0c0 }
/-- java/lang/Object -/
def k0 : Class := { plain "java/lang/Object" none with
  accessFlags := 33
  interfaces := #[]
  cf := some (fileOf pool0 8 #[] #[{ accessFlags := 1, nameIndex := 5, descriptorIndex := 6, attributes := #[] }] 33 0 #[] #[])
  fields := #[]
  methods := #[k0m0]
  instanceTypes := #[]
  staticTypes := #[]
  resolved := Array.replicate 124 none
  statics := none }

def pool1 : Array CpInfo := pool [(2, .class_ 4), (1, u "java/lang/Object"), (0, u "<init>"), (0, u "()V"), (0, .integer 2147483647), (0, .class_ 9), (0, u "com/example/doseline/doseline/dedup/Score"), (0, .methodref 8 11), (0, .nameAndType 5 12), (0, u "(I)V"), (0, .methodref 8 14), (0, .nameAndType 15 16), (0, u "outcome"), (0, u "()Lcom/example/doseline/doseline/dedup/Outcome;"), (0, .methodref 18 19), (0, .class_ 20), (0, .nameAndType 21 22), (0, u "com/example/doseline/doseline/dedup/ScoreOutcomePinLaw"), (0, u "expected"), (0, u "(I)Lcom/example/doseline/doseline/dedup/Outcome;"), (0, .fieldref 24 25), (0, .class_ 26), (0, .nameAndType 27 28), (0, u "com/example/doseline/doseline/dedup/Outcome"), (0, u "MATCH"), (0, u "Lcom/example/doseline/doseline/dedup/Outcome;"), (0, .fieldref 24 30), (0, .nameAndType 31 28), (0, u "DIFFER"), (0, .fieldref 24 33), (0, .nameAndType 34 28), (0, u "UNKNOWN"), (2, u "law"), (0, u "(I)Z")] 3

def k1m0 : Method := { name := "<init>", desc := "()V", sig := { parameters := [], returnType := none }, accessFlags := 2, code := none }
def k1c1 : Code := { maxStack := 3, maxLocals := 3, code := code, exceptionTable := #[], attributes := #[] }
def k1m1 : Method := { name := "law", desc := "(I)Z", sig := { parameters := [.int], returnType := some .boolean }, accessFlags := 9, code := some k1c1 }
def k1c2 : Code := { maxStack := 2, maxLocals := 1, code := method_3_code, exceptionTable := #[], attributes := #[] }
def k1m2 : Method := { name := "expected", desc := "(I)Lcom/example/doseline/doseline/dedup/Outcome;", sig := { parameters := [.int], returnType := some (.object "com/example/doseline/doseline/dedup/Outcome") }, accessFlags := 10, code := some k1c2 }
/-- com/example/doseline/doseline/dedup/ScoreOutcomePinLaw -/
def k1 : Class := { plain "com/example/doseline/doseline/dedup/ScoreOutcomePinLaw" (some 0) with
  accessFlags := 49
  interfaces := #[]
  cf := some (fileOf pool1 18 #[] #[{ accessFlags := 2, nameIndex := 5, descriptorIndex := 6, attributes := #[] }, { accessFlags := 9, nameIndex := 37, descriptorIndex := 38, attributes := #[] }, { accessFlags := 10, nameIndex := 21, descriptorIndex := 22, attributes := #[] }] 49 2 #[] #[])
  fields := #[]
  methods := #[k1m0, k1m1, k1m2]
  instanceTypes := #[]
  staticTypes := #[]
  resolved := Array.replicate 42 none
  statics := none }

def pool2 : Array CpInfo := pool [(1, .methodref 2 3), (0, .class_ 4), (0, .nameAndType 5 6), (0, u "java/lang/Object"), (0, u "<init>"), (0, u "()V"), (0, .class_ 8), (0, u "java/lang/Record")] 13

def k2c0 : Code := { maxStack := 1, maxLocals := 1, code := jdk_30_method_1_code, exceptionTable := #[], attributes := #[] }
def k2m0 : Method := { name := "<init>", desc := "()V", sig := { parameters := [], returnType := none }, accessFlags := 4, code := some k2c0 }
/-- java/lang/Record -/
def k2 : Class := { plain "java/lang/Record" (some 0) with
  accessFlags := 1057
  interfaces := #[]
  cf := some (fileOf pool2 7 #[] #[{ accessFlags := 4, nameIndex := 5, descriptorIndex := 6, attributes := #[] }] 1057 2 #[] #[])
  fields := #[]
  methods := #[k2m0]
  instanceTypes := #[]
  staticTypes := #[]
  resolved := Array.replicate 22 none
  statics := none }

def pool3 : Array CpInfo := pool [(1, .methodref 2 3), (0, .class_ 4), (0, .nameAndType 5 6), (0, u "java/lang/Record"), (0, u "<init>"), (0, u "()V"), (0, .fieldref 8 9), (0, .class_ 10), (0, .nameAndType 11 12), (0, u "com/example/doseline/doseline/dedup/Score"), (0, u "MIN"), (0, u "I"), (0, .fieldref 8 14), (0, .nameAndType 15 12), (0, u "MAX"), (9, .fieldref 8 26), (0, .nameAndType 27 12), (0, u "value"), (2, u "LOT"), (0, u "Lcom/example/doseline/doseline/dedup/Score$Weights;"), (7, .class_ 41), (1, u "com/example/doseline/doseline/dedup/Score$Weights"), (4, u "DATE"), (0, u "Ljava/util/List;"), (27, u "VACCINE_TYPE"), (5, u "TRADE_NAME"), (5, u "PROVIDER"), (13, u "(I)V"), (45, .class_ 149), (1, u "com/example/doseline/doseline/dedup/Score$1"), (26, .fieldref 177 178), (0, .class_ 179), (0, .nameAndType 180 181), (0, u "com/example/doseline/doseline/dedup/Outcome"), (0, u "MATCH"), (0, u "Lcom/example/doseline/doseline/dedup/Outcome;"), (0, .fieldref 177 183), (0, .nameAndType 184 181), (0, u "DIFFER"), (0, .fieldref 177 186), (0, .nameAndType 187 181), (0, u "UNKNOWN"), (44, u "MATCH_ABOVE"), (2, u "DIFFER_BELOW"), (9, u "outcome"), (0, u "()Lcom/example/doseline/doseline/dedup/Outcome;")] 71

def k3c0 : Code := { maxStack := 5, maxLocals := 2, code := prog_43_method_1_code, exceptionTable := #[], attributes := #[] }
def k3m0 : Method := { name := "<init>", desc := "(I)V", sig := { parameters := [.int], returnType := none }, accessFlags := 1, code := some k3c0 }
def k3c1 : Code := { maxStack := 4, maxLocals := 2, code := prog_43_method_6_code, exceptionTable := #[], attributes := #[] }
def k3m1 : Method := { name := "outcome", desc := "()Lcom/example/doseline/doseline/dedup/Outcome;", sig := { parameters := [], returnType := some (.object "com/example/doseline/doseline/dedup/Outcome") }, accessFlags := 1, code := some k3c1 }
/-- com/example/doseline/doseline/dedup/Score -/
def k3 : Class := { plain "com/example/doseline/doseline/dedup/Score" (some 2) with
  accessFlags := 49
  interfaces := #[]
  cf := some (fileOf pool3 8 #[.nestMembers #[147, 39]] #[{ accessFlags := 1, nameIndex := 5, descriptorIndex := 101, attributes := #[] }, { accessFlags := 1, nameIndex := 245, descriptorIndex := 246, attributes := #[] }] 49 2 #[] #[{ accessFlags := 18, nameIndex := 27, descriptorIndex := 12, attributes := #[] }, { accessFlags := 26, nameIndex := 30, descriptorIndex := 31, attributes := #[] }, { accessFlags := 26, nameIndex := 75, descriptorIndex := 31, attributes := #[] }, { accessFlags := 26, nameIndex := 81, descriptorIndex := 31, attributes := #[] }, { accessFlags := 26, nameIndex := 87, descriptorIndex := 31, attributes := #[] }, { accessFlags := 26, nameIndex := 46, descriptorIndex := 47, attributes := #[] }, { accessFlags := 25, nameIndex := 15, descriptorIndex := 12, attributes := #[] }, { accessFlags := 25, nameIndex := 11, descriptorIndex := 12, attributes := #[] }, { accessFlags := 26, nameIndex := 232, descriptorIndex := 12, attributes := #[] }, { accessFlags := 26, nameIndex := 235, descriptorIndex := 12, attributes := #[] }])
  fields := #[{ name := "value", type := .int, accessFlags := 18, slot := 0, constantValue := 0 }, { name := "LOT", type := (.object "com/example/doseline/doseline/dedup/Score$Weights"), accessFlags := 26, slot := 0, constantValue := 0 }, { name := "VACCINE_TYPE", type := (.object "com/example/doseline/doseline/dedup/Score$Weights"), accessFlags := 26, slot := 1, constantValue := 0 }, { name := "TRADE_NAME", type := (.object "com/example/doseline/doseline/dedup/Score$Weights"), accessFlags := 26, slot := 2, constantValue := 0 }, { name := "PROVIDER", type := (.object "com/example/doseline/doseline/dedup/Score$Weights"), accessFlags := 26, slot := 3, constantValue := 0 }, { name := "DATE", type := (.object "java/util/List"), accessFlags := 26, slot := 4, constantValue := 0 }, { name := "MAX", type := .int, accessFlags := 25, slot := 5, constantValue := 0 }, { name := "MIN", type := .int, accessFlags := 25, slot := 6, constantValue := 0 }, { name := "MATCH_ABOVE", type := .int, accessFlags := 26, slot := 7, constantValue := 0 }, { name := "DIFFER_BELOW", type := .int, accessFlags := 26, slot := 8, constantValue := 0 }]
  methods := #[k3m0, k3m1]
  instanceTypes := #[.int]
  staticTypes := #[(.object "com/example/doseline/doseline/dedup/Score$Weights"), (.object "com/example/doseline/doseline/dedup/Score$Weights"), (.object "com/example/doseline/doseline/dedup/Score$Weights"), (.object "com/example/doseline/doseline/dedup/Score$Weights"), (.object "java/util/List"), .int, .int, .int, .int]
  resolved := Array.replicate 318 none
  statics := some 0 }

def pool4 : Array CpInfo := pool [(1, .class_ 2), (0, u "java/lang/constant/Constable"), (0, .class_ 4), (0, u "java/lang/Object")] 6

/-- java/lang/constant/Constable -/
def k4 : Class := { plain "java/lang/constant/Constable" (some 0) with
  accessFlags := 1537
  interfaces := #[]
  cf := some (fileOf pool4 1 #[] #[] 1537 3 #[] #[])
  fields := #[]
  methods := #[]
  instanceTypes := #[]
  staticTypes := #[]
  resolved := Array.replicate 11 none
  statics := none }

def pool5 : Array CpInfo := pool [(1, .class_ 2), (0, u "java/lang/Comparable"), (0, .class_ 4), (0, u "java/lang/Object")] 7

/-- java/lang/Comparable -/
def k5 : Class := { plain "java/lang/Comparable" (some 0) with
  accessFlags := 1537
  interfaces := #[]
  cf := some (fileOf pool5 1 #[] #[] 1537 3 #[] #[])
  fields := #[]
  methods := #[]
  instanceTypes := #[]
  staticTypes := #[]
  resolved := Array.replicate 12 none
  statics := none }

def pool6 : Array CpInfo := pool [(1, .class_ 2), (0, u "java/io/Serializable"), (0, .class_ 4), (0, u "java/lang/Object")] 2

/-- java/io/Serializable -/
def k6 : Class := { plain "java/io/Serializable" (some 0) with
  accessFlags := 1537
  interfaces := #[]
  cf := some (fileOf pool6 1 #[] #[] 1537 3 #[] #[])
  fields := #[]
  methods := #[]
  instanceTypes := #[]
  staticTypes := #[]
  resolved := Array.replicate 7 none
  statics := none }

def pool7 : Array CpInfo := pool [(2, .class_ 4), (1, u "java/lang/Enum"), (0, u "name"), (0, u "Ljava/lang/String;"), (2, u "ordinal"), (0, u "I"), (1, .class_ 14), (1, u "java/lang/Object"), (4, u "hash"), (86, .class_ 108), (1, u "java/lang/Enum$EnumDesc"), (2, .class_ 112), (0, u "java/lang/constant/Constable"), (0, .class_ 114), (0, u "java/lang/Comparable"), (0, .class_ 116), (0, u "java/io/Serializable")] 87

/-- java/lang/Enum -/
def k7 : Class := { plain "java/lang/Enum" (some 0) with
  accessFlags := 1057
  interfaces := #[4, 5, 6]
  cf := some (fileOf pool7 2 #[.nestMembers #[106]] #[] 1057 12 #[111, 113, 115] #[{ accessFlags := 18, nameIndex := 5, descriptorIndex := 6, attributes := #[] }, { accessFlags := 18, nameIndex := 9, descriptorIndex := 10, attributes := #[] }, { accessFlags := 2, nameIndex := 19, descriptorIndex := 10, attributes := #[] }])
  fields := #[{ name := "name", type := (.object "java/lang/String"), accessFlags := 18, slot := 0, constantValue := 0 }, { name := "ordinal", type := .int, accessFlags := 18, slot := 1, constantValue := 0 }, { name := "hash", type := .int, accessFlags := 2, slot := 2, constantValue := 0 }]
  methods := #[]
  instanceTypes := #[(.object "java/lang/String"), .int, .int]
  staticTypes := #[]
  resolved := Array.replicate 204 none
  statics := none }

def pool8 : Array CpInfo := pool [(1, .class_ 2), (0, u "com/example/doseline/doseline/dedup/Outcome"), (2, u "MATCH"), (0, u "Lcom/example/doseline/doseline/dedup/Outcome;"), (2, u "DIFFER"), (2, u "UNKNOWN"), (2, u "$VALUES"), (0, u "[Lcom/example/doseline/doseline/dedup/Outcome;"), (6, .class_ 25), (1, u "java/lang/Enum")] 42

/-- com/example/doseline/doseline/dedup/Outcome -/
def k8 : Class := { plain "com/example/doseline/doseline/dedup/Outcome" (some 7) with
  accessFlags := 16433
  interfaces := #[]
  cf := some (fileOf pool8 1 #[] #[] 16433 23 #[] #[{ accessFlags := 16409, nameIndex := 5, descriptorIndex := 6, attributes := #[] }, { accessFlags := 16409, nameIndex := 9, descriptorIndex := 6, attributes := #[] }, { accessFlags := 16409, nameIndex := 12, descriptorIndex := 6, attributes := #[] }, { accessFlags := 4122, nameIndex := 15, descriptorIndex := 16, attributes := #[] }])
  fields := #[{ name := "MATCH", type := (.object "com/example/doseline/doseline/dedup/Outcome"), accessFlags := 16409, slot := 0, constantValue := 0 }, { name := "DIFFER", type := (.object "com/example/doseline/doseline/dedup/Outcome"), accessFlags := 16409, slot := 1, constantValue := 0 }, { name := "UNKNOWN", type := (.object "com/example/doseline/doseline/dedup/Outcome"), accessFlags := 16409, slot := 2, constantValue := 0 }, { name := "$VALUES", type := (.array (.object "com/example/doseline/doseline/dedup/Outcome")), accessFlags := 4122, slot := 3, constantValue := 0 }]
  methods := #[]
  instanceTypes := #[(.object "java/lang/String"), .int, .int]
  staticTypes := #[(.object "com/example/doseline/doseline/dedup/Outcome"), (.object "com/example/doseline/doseline/dedup/Outcome"), (.object "com/example/doseline/doseline/dedup/Outcome"), (.array (.object "com/example/doseline/doseline/dedup/Outcome"))]
  resolved := Array.replicate 68 none
  statics := some 1 }

def pool9 : Array CpInfo := pool [(1, u "java/lang/Cloneable"), (0, .class_ 1), (0, u "java/lang/Object"), (0, .class_ 3)] 3

/-- java/lang/Cloneable -/
def k9 : Class := { plain "java/lang/Cloneable" (some 0) with
  accessFlags := 1537
  interfaces := #[]
  cf := some (fileOf pool9 2 #[] #[] 1537 4 #[] #[])
  fields := #[]
  methods := #[]
  instanceTypes := #[]
  staticTypes := #[]
  resolved := Array.replicate 8 none
  statics := none }

/-- the primitive byte -/
def k10 : Class := { plain "byte" none with kind := .primitive 'B', accessFlags := 0x411 }
/-- [B -/
def k11 : Class := { plain "[B" (some 0) with kind := .array 10 .byte, interfaces := #[9, 6], accessFlags := 1041 }

/-- the primitive int -/
def k12 : Class := { plain "int" none with kind := .primitive 'I', accessFlags := 0x411 }
/-- [I -/
def k13 : Class := { plain "[I" (some 0) with kind := .array 12 .int, interfaces := #[9, 6], accessFlags := 1041 }

def heap : Heap := #[{ cls := 3, slots := #[.null, .null, .null, .null, .null, .int 295, .int 1, .int 0, .int 0], vm := .statics 3 },
  { cls := 8, slots := #[.ref 4, .ref 2, .ref 3, .null], vm := .statics 8 },
  { cls := 8, slots := #[.null, .int 0, .int 0], vm := .none },
  { cls := 8, slots := #[.null, .int 1, .int 0], vm := .none },
  { cls := 8, slots := #[.null, .int 2, .int 0], vm := .none }]
def classes : Array Class := #[k0, k1, k2, k3, k4, k5, k6, k7, k8, k9, k10, k11, k12, k13]
def interned : List (Array UInt16 × Addr) := []
def slotsUsed : Nat := 22
def theMethod : MethodId := ⟨1, 1⟩
def args0 : Array Value := #[.int 5]
def aboutOver (below : List Frame) : State where
  vm := { classes := classes, interned := interned.toArray }
  heap := heap
  slotsUsed := slotsUsed
  threads := #[{ frames := .invoking theMethod args0 :: below }]
def below0 : List Frame := [.native { method := ⟨0, 0⟩, args := #[] }]
def about1 : State := aboutOver below0
def p0 : Program := .bare "" "" ""
def e0 : Env := launch0.env 0 0 0
theorem w_frames : about1.frames = Frame.invoking theMethod args0 :: below0 := rfl
set_option maxRecDepth 65536 in
theorem w_args : argsFit about1.vm theMethod args0 = true := by decide +kernel
set_option maxRecDepth 65536 in
theorem w_heap : heapFits about1 = true := by decide +kernel
set_option maxRecDepth 65536 in
theorem w_runnable : about1.curStatus? = some .runnable := by decide +kernel
set_option maxRecDepth 65536 in
theorem w_alone : about1.alone = true := by decide +kernel
set_option maxRecDepth 65536 in
theorem w_named : about1.methodNamed? x = some theMethod := by decide +kernel
set_option maxRecDepth 65536 in
theorem w_hears : about1.hears theMethod below0 = true := by decide +kernel
set_option maxRecDepth 65536 in
theorem w_ripe : about1.ripe theMethod args0 below0 = true := by decide +kernel
theorem w_running : about1.status = .running := rfl
set_option maxRecDepth 65536 in
theorem w_room : about1.hasRoom e0.platform room_1 = true :=
  launch0.hasRoom_least _ room_1 (by decide +kernel) (by decide +kernel) (by decide +kernel) (by decide +kernel) (by decide +kernel) (by decide +kernel)
theorem allAtoms_all (ts : List Jvm.Cond) (a : Array Jvm.Value) (st : Jvm.State) : (allAtoms ts).before a st = ts.all (fun c => c.before a st) := by
  induction ts with
  | nil => rfl
  | cons c t ih =>
    show (Jvm.Cond.and c (allAtoms t)).before a st = _
    rw [Jvm.Cond.before_and, ih, List.all_cons]
def words1 : List Jvm.Cond := Jvm.Cond.code x code maxLocals ret :: tables_1
/-- a 'code' word, met by the world's own term for the bytes: nothing is compared byte by byte -/
theorem code_word {y : MethodName} {bytes : ByteArray} {mx : Nat} {rt : Option FieldType} {a : Array Value} {s : State} {m : MethodId} {meth : Method} {c : Code} (h1 : s.methodNamed? y = some m) (h2 : s.vm.method? m = some meth) (h3 : meth.code = some c) (h4 : c.code = bytes)
    (h5 : (c.maxLocals == mx && c.exceptionTable.isEmpty && decide (c.maxStack ≤ mostOperands) && decide (meth.sig.returnType = rt) && !meth.locks && decide (parseMethodDescriptor y.desc = some meth.sig)) = true) : (Jvm.Cond.code y bytes mx rt).before a s = true := by
  simp only [Bool.and_eq_true, beq_iff_eq, Bool.not_eq_true', decide_eq_true_eq] at h5
  obtain ⟨⟨⟨⟨⟨g1, g2⟩, g3⟩, g4⟩, g5⟩, g6⟩ := h5
  simp [Cond.before, Cond.holds, Cond.value, h1, h2, h3, h4, g1, g2, g3, g4, g5, g6]
def isCode : Jvm.Cond → Bool
  | .code _ _ _ _ => true
  | _ => false
theorem all_split {L : List Jvm.Cond} {P : Jvm.Cond → Bool} (h1 : L.all (fun c => isCode c || P c) = true) (h2 : ∀ c ∈ L.filter isCode, P c = true) : L.all P = true := by
  refine List.all_eq_true.mpr fun c hc => ?_
  have h := List.all_eq_true.mp h1 c hc
  rcases Bool.eq_false_or_eq_true (isCode c) with hi | hi
  · exact h2 c (List.mem_filter.mpr ⟨hc, hi⟩)
  · simpa [hi] using h
set_option maxRecDepth 65536 in
theorem w_c0 : (Jvm.Cond.code x code maxLocals ret).before args0 about1 = true := code_word (m := ⟨1, 1⟩) (meth := k1m1) (c := k1c1) (by decide +kernel) rfl rfl rfl (by decide +kernel)
set_option maxRecDepth 65536 in
theorem w_c1 : (Jvm.Cond.code ({ cls := "com/example/doseline/doseline/dedup/Score", name := "<init>", desc := "(I)V" } : Jvm.MethodName) prog_43_method_1_code (2 : Nat) (Option.none : Option Jvm.ClassFile.FieldType)).before args0 about1 = true := code_word (m := ⟨3, 0⟩) (meth := k3m0) (c := k3c0) (by decide +kernel) rfl rfl rfl (by decide +kernel)
set_option maxRecDepth 65536 in
theorem w_c2 : (Jvm.Cond.code ({ cls := "java/lang/Record", name := "<init>", desc := "()V" } : Jvm.MethodName) jdk_30_method_1_code (1 : Nat) (Option.none : Option Jvm.ClassFile.FieldType)).before args0 about1 = true := code_word (m := ⟨2, 0⟩) (meth := k2m0) (c := k2c0) (by decide +kernel) rfl rfl rfl (by decide +kernel)
set_option maxRecDepth 65536 in
theorem w_c3 : (Jvm.Cond.code ({ cls := "java/lang/Object", name := "<init>", desc := "()V" } : Jvm.MethodName) object_method_1_code (1 : Nat) (Option.none : Option Jvm.ClassFile.FieldType)).before args0 about1 = true := code_word (m := ⟨0, 0⟩) (meth := k0m0) (c := k0c0) (by decide +kernel) rfl rfl rfl (by decide +kernel)
set_option maxRecDepth 65536 in
theorem w_c4 : (Jvm.Cond.code ({ cls := "com/example/doseline/doseline/dedup/Score", name := "outcome", desc := "()Lcom/example/doseline/doseline/dedup/Outcome;" } : Jvm.MethodName) prog_43_method_6_code (2 : Nat) (Option.some (Jvm.ClassFile.FieldType.object "com/example/doseline/doseline/dedup/Outcome"))).before args0 about1 = true := code_word (m := ⟨3, 1⟩) (meth := k3m1) (c := k3c1) (by decide +kernel) rfl rfl rfl (by decide +kernel)
set_option maxRecDepth 65536 in
theorem w_c5 : (Jvm.Cond.code ({ cls := "com/example/doseline/doseline/dedup/ScoreOutcomePinLaw", name := "expected", desc := "(I)Lcom/example/doseline/doseline/dedup/Outcome;" } : Jvm.MethodName) method_3_code (1 : Nat) (Option.some (Jvm.ClassFile.FieldType.object "com/example/doseline/doseline/dedup/Outcome"))).before args0 about1 = true := code_word (m := ⟨1, 2⟩) (meth := k1m2) (c := k1c2) (by decide +kernel) rfl rfl rfl (by decide +kernel)
def codes1 : List Jvm.Cond := [Jvm.Cond.code x code maxLocals ret, Jvm.Cond.code ({ cls := "com/example/doseline/doseline/dedup/Score", name := "<init>", desc := "(I)V" } : Jvm.MethodName) prog_43_method_1_code (2 : Nat) (Option.none : Option Jvm.ClassFile.FieldType), Jvm.Cond.code ({ cls := "java/lang/Record", name := "<init>", desc := "()V" } : Jvm.MethodName) jdk_30_method_1_code (1 : Nat) (Option.none : Option Jvm.ClassFile.FieldType), Jvm.Cond.code ({ cls := "java/lang/Object", name := "<init>", desc := "()V" } : Jvm.MethodName) object_method_1_code (1 : Nat) (Option.none : Option Jvm.ClassFile.FieldType), Jvm.Cond.code ({ cls := "com/example/doseline/doseline/dedup/Score", name := "outcome", desc := "()Lcom/example/doseline/doseline/dedup/Outcome;" } : Jvm.MethodName) prog_43_method_6_code (2 : Nat) (Option.some (Jvm.ClassFile.FieldType.object "com/example/doseline/doseline/dedup/Outcome")), Jvm.Cond.code ({ cls := "com/example/doseline/doseline/dedup/ScoreOutcomePinLaw", name := "expected", desc := "(I)Lcom/example/doseline/doseline/dedup/Outcome;" } : Jvm.MethodName) method_3_code (1 : Nat) (Option.some (Jvm.ClassFile.FieldType.object "com/example/doseline/doseline/dedup/Outcome"))]
set_option maxRecDepth 65536 in
theorem codes_eq : words1.filter isCode = codes1 := rfl
theorem w_codes : ∀ c ∈ words1.filter isCode, c.before args0 about1 = true := by
  rw [codes_eq]
  intro c hc
  simp only [codes1, List.mem_cons, List.not_mem_nil, or_false] at hc
  rcases hc with rfl | rfl | rfl | rfl | rfl | rfl
  · exact w_c0
  · exact w_c1
  · exact w_c2
  · exact w_c3
  · exact w_c4
  · exact w_c5
set_option maxRecDepth 65536 in
theorem w_t1 : (words1.take 24).all (fun c => isCode c || c.before args0 about1) = true := by decide +kernel
set_option maxRecDepth 65536 in
theorem w_t2 : (words1.drop 24).all (fun c => isCode c || c.before args0 about1) = true := by decide +kernel
theorem w_tables : (allAtoms (Jvm.Cond.code x code maxLocals ret :: tables_1)).before args0 about1 = true := by
  rw [allAtoms_all]
  show words1.all (fun c => c.before args0 about1) = true
  refine all_split ?_ w_codes
  rw [← List.take_append_drop 24 words1, List.all_append, w_t1, w_t2]
  rfl
set_option maxRecDepth 65536 in
theorem w_case : (Jvm.Cond.and given_1 narrow_1).before args0 about1 = true := by decide +kernel
theorem w_applies : (headSpec (Jvm.Cond.code x code maxLocals ret :: tables_1) room_1).applies x e0.platform about1 = true :=
  (Spec.applies_iff w_frames).mpr ⟨w_running, w_runnable, w_alone, w_named, w_hears, w_ripe, w_room, w_tables⟩
theorem atStart : AtStart classFile x code maxLocals ret World_1 tables_1 room_1 Calls_1 rest_1 Pre_1 launch0 p0 e0 about1 theMethod args0 below0 :=
  ⟨lists_1, trivial, launch0.admits_env _ _ _, launch0.least_env, fairChoices_fair.cas, fairChoices_fair.clock, w_frames, w_args, w_heap, w_applies, trivial, trivial, w_case⟩
end start1
theorem witness_1 : WitnessClaimed_1 := ⟨start1.p0, start1.e0, start1.about1, start1.theMethod, start1.args0, start1.below0, start1.atStart⟩
end Jvm.Pilot.@@N@@
