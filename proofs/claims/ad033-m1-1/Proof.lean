import JvmDerived
import JvmDerived.Pilot.@@N@@Statement
import JvmDerived.Pilot.@@N@@Code
set_option linter.unusedVariables false
set_option linter.unusedSimpArgs false

namespace Jvm.Pilot.@@N@@
open Jvm Jvm.ClassFile Sem Op Lib Jvm.Free Jvm.Stand Jvm.LawKit Jvm.RoadKit Bundle Jvm.Pilot.@@N@@.Jvm.D
section OwnKit
variable {p : Program} {l : Launch} {e : Env} {R : Room} {s : State} {m : MethodId} {args : Array Value} {below : List Frame} {meth : Method} {c : Code} {T : State} {locs : List Loc} {cells slots : Nat} {Z : State} {a0 : Array Value} {h : Heap}
/-- the run goes on from T with the frame f on top to an end that K says -/
def own_G (p : Program) (e : Env) (below : List Frame) (K : Outcome → State → Prop) (T : State) (f : JFrame) : Prop := ∃ s₂ o, Steps p.tables e below (T.setTop f) s₂ ∧ s₂.status = .running ∧ Ended s₂ below o ∧ K o s₂
theorem own_go {K : Outcome → State → Prop} {T' : State} {f f' : JFrame} (st : ∀ t, Steps p.tables e below (T'.setTop f') t → Steps p.tables e below (T.setTop f) t) (h : own_G p e below K T' f') : own_G p e below K T f := by
  obtain ⟨s₂, o, h1, h2⟩ := h
  exact ⟨s₂, o, st _ h1, h2⟩
theorem own_cast {K : Outcome → State → Prop} {f f' : JFrame} (q : f = f') (h : own_G p e below K T f') : own_G p e below K T f := q ▸ h
def own_K (Q : Option Value → Heap → List Loc → Prop) (s : State) (C S : Nat) : Outcome → State → Prop := fun o U => ∃ v L, o = .returned v ∧ Q v U.heap L ∧ FrameEnd s o U L C S
def own_Met (l : Launch) (Z : State) (y : MethodName) (bytes : ByteArray) (maxL : Nat) (ret : Option FieldType) (ws : List Jvm.Cond) (rm : Room) (as' : Array Value) (h0 : Heap) (Q : Option Value → Heap → List Loc → Prop) : Prop :=
  MetFree l y (head1 (Jvm.Cond.code y bytes maxL ret :: ws) rm) (fun a U => a = as' ∧ Z.Warmed39 U.vm ∧ U.heap = h0) (fun _ _ _ _ _ => True) (fun _ U o U' => own_K Q U rm.cells rm.slots o U')
theorem own_met {y : MethodName} {bytes : ByteArray} {maxL : Nat} {ret : Option FieldType} {ws : List Jvm.Cond} {rm : Room} {as' : Array Value} {h0 : Heap} {Q : Option Value → Heap → List Loc → Prop} (hpl : plainFor y = true)
    (body : ∀ (p : Program) (e : Env) (s : State) (m : MethodId) (below : List Frame) (meth : Method) (c : Code) (s₁ : State), p.tables.exec = Jvm.exec → c.code = bytes → c.maxLocals = maxL → s.vm.findClass y.cls = some m.cls → meth.name = y.name → meth.sig.returnType = ret → meth.locks = false →
      Z.Warmed39 s.vm → Stand p l e rm s m as' below meth c s₁ [] 0 0 → s₁.heap = h0 → own_G p e below (own_K Q s rm.cells rm.slots) s₁ (entryFrame m as' maxL)) :
    own_Met l Z y bytes maxL ret ws rm as' h0 Q := by
  refine MetFree.of_bodySF hpl hisR ?_
  intro p e s m args below meth c s₁ Bd hml hP hK
  obtain ⟨rfl, hZ, hh⟩ := hP
  have e0 : s₁.heap = h0 := by rw [← hh, Bd.state]; rfl
  have q := body p e s m below meth c s₁ Bd.exec Bd.bytes hml (findClass_of_methodNamed Bd.named) (name_of_methodNamed Bd.named Bd.method).1 Bd.returns (BodyLoose.notSynchronized Bd) hZ (Stand.of_body Bd) e0
  obtain ⟨s₂, o, h1, h2, h3, h4⟩ := q
  exact ⟨s₂, o, h1, h2, h3, h4⟩
theorem own_end (X : Stand p l e R s m args below meth c T locs cells slots) (hlk : meth.locks = false) {v : Option Value} {f : JFrame} {Q : Option Value → Heap → List Loc → Prop} {C S : Nat} (hv : meth.sig.returnType = none → v = none) (hc : cells ≤ C) (hs : slots ≤ S)
    (st : ∀ fs, (∀ (f : JFrame) (acts : List Action), f.method = m → f.locked = none → f.entered = [] → (doReturn e (T.setTop f) acts v).1 = T.setFrames fs) → Steps p.tables e below (T.setTop f) (T.setFrames fs)) (hq : Q v T.heap locs) : own_G p e below (own_K Q s C S) T f := by
  obtain ⟨fs, hr, hrun, hended, hW, hsame⟩ := X.leave (v := v) hv
  exact ⟨_, _, st fs hr, hrun, hended, v, locs, rfl, hq, ⟨_, rfl⟩, hW, hsame.mono hc hs⟩
theorem own_retZ (X : Stand p l e R s m args below meth c T locs cells slots) (hx : p.tables.exec = Jvm.exec) (hlk : meth.locks = false) {t : FieldType} (hret : meth.sig.returnType = some t) (ht : t = .boolean ∨ t = .byte ∨ t = .char ∨ t = .short) {pc : Nat} {Ls : Array Slot} {z : Int32} {rest : List Value} {Q : Option Value → Heap → List Loc → Prop} {C S : Nat}
    (eT : T.heap = h) {w : Int32} (hz : nar t z = w) (hd : decode c.code pc = .ok (.ireturn, 1)) (hc : cells ≤ C) (hs : slots ≤ S) (hq : Q (some (.int w)) h locs) : own_G p e below (own_K Q s C S) T (mkF m pc Ls (.int z :: rest)) := by
  subst eT hz
  exact own_end X hlk (fun q => by rw [hret] at q; cases q) hc hs (fun fs hr => retN X hx hret ht hd hr) hq
theorem own_retA (X : Stand p l e R s m args below meth c T locs cells slots) (hx : p.tables.exec = Jvm.exec) (hlk : meth.locks = false) {t : FieldType} (hret : meth.sig.returnType = some t) (ht : t.isReference = true) {pc : Nat} {Ls : Array Slot} {w : Value} (hw : w.isRef = true) (hn : narrow t w = w) {rest : List Value} {Q : Option Value → Heap → List Loc → Prop} {C S : Nat}
    (eT : T.heap = h) (hd : decode c.code pc = .ok (.areturn, 1)) (hc : cells ≤ C) (hs : slots ≤ S) (hq : Q (some w) h locs) : own_G p e below (own_K Q s C S) T (mkF m pc Ls (w :: rest)) := by
  subst eT
  exact own_end X hlk (fun q => by rw [hret] at q; cases q) hc hs (fun fs hr => retOut X hx hret hn (Or.inr (Or.inr (Or.inr (Or.inr ⟨rfl, ht, hw⟩)))) hd hr) hq
/-- a static call by the callee's contract -/
theorem own_callS {own : String} {index maxL : Nat} {y : MethodName} {bytes : ByteArray} {ret : Option FieldType} {rm : Room} {Q : Option Value → Heap → List Loc → Prop} {argsL rest stk : List Value} {pc : Nat} {Ls : Array Slot}
    (X : Stand p l e R s m args below meth c T locs cells slots) (hx : p.tables.exec = Jvm.exec) (hZ : Z.Warmed39 s.vm) (hown : s.vm.findClass own = some m.cls) (hM : own_Met l Z y bytes maxL ret [] rm argsL.toArray h Q)
    (w1 : (Jvm.Cond.methodLink own index y).before a0 Z = true) (w2 : (Jvm.Cond.static y).before a0 Z = true) (w3 : (Jvm.Cond.initialized y.cls).before a0 Z = true) (w4 : (Jvm.Cond.code y bytes maxL ret).before a0 Z = true) (hy : y.cls ≠ "java/lang/invoke/MethodHandle" ∧ y.cls ≠ "java/lang/invoke/VarHandle")
    (eT : T.heap = h) (hsz : Ls.size = c.maxLocals) (hlen : ∀ sig, parseMethodDescriptor y.desc = some sig → argsL.length = sig.parameters.length) (hstk : stk = argsL.reverse ++ rest) (hd : decode c.code pc = .ok (.invokestatic index, 3))
    (hf : rm.frames + 1 ≤ R.frames) (hl : (rest.map fun v => v.category).sum + (maxL + 11) + rm.locals ≤ R.locals) (hc : cells + rm.cells ≤ R.cells) (hs : slots + rm.slots ≤ R.slots) :
    ∃ (v : Option Value) (T' : State) (L : List Loc), Stand p l e R s m args below meth c T' (locs ++ L) (cells + rm.cells) (slots + rm.slots) ∧ Q v T'.heap L ∧ ∀ t, Steps p.tables e below (T'.setTop (mkF m (pc + 3) Ls (v.toList ++ rest))) t → Steps p.tables e below (T.setTop (mkF m pc Ls stk)) t := by
  obtain ⟨v, _, ⟨T', L', k', n'⟩, -, X', ⟨L, hQ, l1, y1, z1⟩, st⟩ := Jvm.LawKit.callS X hx (y := y) hown (mvT hZ w1) (mvT hZ w2) (mvT hZ w3) (mvT hZ w4) hy (backOf (Q := Q) hM hZ w4 w3 hf hl) (g := mkF m pc Ls stk) rfl hsz (argsL := argsL) (rest := rest) hlen hstk (by show 2 * 0 + _ ≤ _; exact Nat.le_of_eq (Nat.zero_add _)) hd (fun _ _ => ⟨rfl, eT, hc, hs⟩)
  dsimp only [Pt.U, Pt.locs, Pt.cells, Pt.slots] at X' l1 y1 z1 st hQ
  subst l1 y1 z1
  exact ⟨v, T', L, X', hQ, st⟩
/-- an instance method's call by the contract of the body that the receiver's class selects -/
theorem own_callV {own C : String} {index maxL : Nat} {y z : MethodName} {bytes : ByteArray} {ret : Option FieldType} {rm : Room} {Q : Option Value → Heap → List Loc → Prop} {argsL rest stk : List Value} {pc : Nat} {Ls : Array Slot} {a : Addr}
    (X : Stand p l e R s m args below meth c T locs cells slots) (hx : p.tables.exec = Jvm.exec) (hZ : Z.Warmed39 s.vm) (hown : s.vm.findClass own = some m.cls) (hM : own_Met l Z z bytes maxL ret [] rm (.ref a :: argsL).toArray h Q)
    (w1 : (Jvm.Cond.methodLink own index y).before a0 Z = true) (w2 : (Jvm.Cond.declares y).before a0 Z = true) (nf : NotFace s y) (w5 : (Jvm.Cond.selects C y z).before a0 Z = true) (w6 : (Jvm.Cond.instanceMethod z).before a0 Z = true) (w3 : (Jvm.Cond.initialized z.cls).before a0 Z = true) (w4 : (Jvm.Cond.code z bytes maxL ret).before a0 Z = true) (hy : y.cls ≠ "java/lang/invoke/MethodHandle" ∧ y.cls ≠ "java/lang/invoke/VarHandle")
    (eT : T.heap = h) (E : Exa Z h a C) (hsz : Ls.size = c.maxLocals) (hlen : ∀ sig, parseMethodDescriptor y.desc = some sig → argsL.length = sig.parameters.length) (hstk : stk = argsL.reverse ++ .ref a :: rest) (hd : decode c.code pc = .ok (.invokevirtual index, 3))
    (hf : rm.frames + 1 ≤ R.frames) (hl : (rest.map fun v => v.category).sum + (maxL + 11) + rm.locals ≤ R.locals) (hc : cells + rm.cells ≤ R.cells) (hs : slots + rm.slots ≤ R.slots) :
    ∃ (v : Option Value) (T' : State) (L : List Loc), Stand p l e R s m args below meth c T' (locs ++ L) (cells + rm.cells) (slots + rm.slots) ∧ Q v T'.heap L ∧ ∀ t, Steps p.tables e below (T'.setTop (mkF m (pc + 3) Ls (v.toList ++ rest))) t → Steps p.tables e below (T.setTop (mkF m pc Ls stk)) t := by
  obtain ⟨cB, kB, q1, q2, q3⟩ := isOf hZ eT E
  obtain ⟨v, _, ⟨T', L', k', n'⟩, -, X', ⟨L, hQ, l1, y1, z1⟩, st⟩ := X.virtualBack hx (y := y) (z := z) hown (mvT hZ w1) (mvT hZ w2) nf (mvT hZ w5) (mvT hZ w6) hy (backOf (Q := Q) hM hZ w4 w3 hf hl) q1 q3 (g := mkF m pc Ls stk) rfl hsz (Steps.refl _) (argsL := argsL) (rest := rest) hlen hstk (by show 2 * 0 + _ ≤ _; exact Nat.le_of_eq (Nat.zero_add _)) hd (fun _ _ => ⟨rfl, eT, hc, hs⟩)
  dsimp only [Pt.U, Pt.locs, Pt.cells, Pt.slots] at X' l1 y1 z1 st hQ
  subst l1 y1 z1
  exact ⟨v, T', L, X', hQ, fun t k => st.trans k⟩
end OwnKit
section OwnSteps
variable {p : Program} {l : Launch} {e : Env} {R : Room} {s : State} {m : MethodId} {args : Array Value} {below : List Frame} {meth : Method} {c : Code} {T : State} {locs : List Loc} {cells slots : Nat} {Z : State} {a0 : Array Value} {h0 : Heap}
theorem own_iloadN {K : Outcome → State → Prop} {pc n : Nat} {Ls : Array Slot} {S : List Value} (X : Stand p l e R s m args below meth c T locs cells slots) (hx : p.tables.exec = Jvm.exec) {k : Fin 4} {v : Int32} (hd : decode c.code pc = .ok (.iload_n k, 1)) (hl : Ls[k.val]? = some (.val (.int v))) (hn : pc + 1 = n)
    (h : own_G p e below K T (mkF m n Ls (.int v :: S))) : own_G p e below K T (mkF m pc Ls S) := by
  subst hn
  exact own_go (fun t k => XS.iloadN X.here hx rfl hd hl k) h
theorem own_aloadN {K : Outcome → State → Prop} {pc n : Nat} {Ls : Array Slot} {S : List Value} (X : Stand p l e R s m args below meth c T locs cells slots) (hx : p.tables.exec = Jvm.exec) {k : Fin 4} {v : Value} (hd : decode c.code pc = .ok (.aload_n k, 1)) (hl : Ls[k.val]? = some (.val v)) (hv : v.isRef = true) (hn : pc + 1 = n)
    (h : own_G p e below K T (mkF m n Ls (v :: S))) : own_G p e below K T (mkF m pc Ls S) := by
  subst hn
  exact own_go (fun t k => XS.aloadN X.here hx rfl hd hl hv k) h
theorem own_istoreN {K : Outcome → State → Prop} {pc n : Nat} {Ls : Array Slot} {S : List Value} (X : Stand p l e R s m args below meth c T locs cells slots) (hx : p.tables.exec = Jvm.exec) {k : Fin 4} {v : Int32} {l' : Array Slot} (hd : decode c.code pc = .ok (.istore_n k, 1)) (hl : storeLocals Ls k.val (.int v) = some l') (hn : pc + 1 = n)
    (h : own_G p e below K T (mkF m n l' S)) : own_G p e below K T (mkF m pc Ls (.int v :: S)) := by
  subst hn
  exact own_go (fun t k => XS.istoreN X.here hx rfl hd rfl hl k) h
theorem own_astoreN {K : Outcome → State → Prop} {pc n : Nat} {Ls : Array Slot} {S : List Value} (X : Stand p l e R s m args below meth c T locs cells slots) (hx : p.tables.exec = Jvm.exec) {k : Fin 4} {v : Value} {l' : Array Slot} (hd : decode c.code pc = .ok (.astore_n k, 1)) (hv : v.isRef = true) (hl : storeLocals Ls k.val v = some l') (hn : pc + 1 = n)
    (h : own_G p e below K T (mkF m n l' S)) : own_G p e below K T (mkF m pc Ls (v :: S)) := by
  subst hn
  exact own_go (fun t k => XS.astoreN X.here hx rfl hd rfl hv hl k) h
theorem own_iconst {K : Outcome → State → Prop} {pc n : Nat} {Ls : Array Slot} {S : List Value} (X : Stand p l e R s m args below meth c T locs cells slots) (hx : p.tables.exec = Jvm.exec) {i : Int} {z : Int32} (hd : decode c.code pc = .ok (.iconst i, 1)) (hz : Int32.ofInt i = z) (hn : pc + 1 = n)
    (h : own_G p e below K T (mkF m n Ls (.int z :: S))) : own_G p e below K T (mkF m pc Ls S) := by
  subst hz hn
  exact own_go (fun t k => XS.iconst X.here hx rfl hd k) h
theorem own_bipush {K : Outcome → State → Prop} {pc n : Nat} {Ls : Array Slot} {S : List Value} (X : Stand p l e R s m args below meth c T locs cells slots) (hx : p.tables.exec = Jvm.exec) {i : Int} {z : Int32} (hd : decode c.code pc = .ok (.bipush i, 2)) (hz : (Int8.ofInt i).toInt32 = z) (hn : pc + 2 = n)
    (h : own_G p e below K T (mkF m n Ls (.int z :: S))) : own_G p e below K T (mkF m pc Ls S) := by
  subst hz hn
  exact own_go (fun t k => XS.bipush X.here hx rfl hd k) h
theorem own_iand {K : Outcome → State → Prop} {pc n : Nat} {Ls : Array Slot} {S : List Value} (X : Stand p l e R s m args below meth c T locs cells slots) (hx : p.tables.exec = Jvm.exec) {x y z : Int32} (hd : decode c.code pc = .ok (.iand, 1)) (hz : x &&& y = z) (hn : pc + 1 = n)
    (h : own_G p e below K T (mkF m n Ls (.int z :: S))) : own_G p e below K T (mkF m pc Ls (.int y :: .int x :: S)) := by
  subst hz hn
  exact own_go (fun t k => XS.iand X.here hx rfl hd rfl k) h
theorem own_goto {K : Outcome → State → Prop} {pc n : Nat} {Ls : Array Slot} {S : List Value} (X : Stand p l e R s m args below meth c T locs cells slots) (hx : p.tables.exec = Jvm.exec) {o : Int} (hd : decode c.code pc = .ok (.goto o, 3)) (ho : 0 ≤ (pc : Int) + o) (hp : ((pc : Int) + o).toNat = n)
    (h : own_G p e below K T (mkF m n Ls S)) : own_G p e below K T (mkF m pc Ls S) := by
  subst hp
  exact own_go (fun t k => XS.goto X.here hx rfl (pc0 := pc) rfl hd ho rfl k) h
theorem own_ifYes {K : Outcome → State → Prop} {pc n : Nat} {Ls : Array Slot} {S : List Value} (X : Stand p l e R s m args below meth c T locs cells slots) (hx : p.tables.exec = Jvm.exec) {cd : ClassFile.Cond} {x : Int32} {o : Int} (hd : decode c.code pc = .ok (.ifCond cd o, 3)) (hc : if_icmp.holds cd x 0 = true) (ho : 0 ≤ (pc : Int) + o) (hp : ((pc : Int) + o).toNat = n)
    (h : own_G p e below K T (mkF m n Ls S)) : own_G p e below K T (mkF m pc Ls (.int x :: S)) := by
  subst hp
  exact own_go (fun t k => XS.ifYes X.here hx rfl (pc0 := pc) rfl hd rfl ((if0 _ _).trans hc) ho rfl k) h
theorem own_ifNo {K : Outcome → State → Prop} {pc n : Nat} {Ls : Array Slot} {S : List Value} (X : Stand p l e R s m args below meth c T locs cells slots) (hx : p.tables.exec = Jvm.exec) {cd : ClassFile.Cond} {x : Int32} {o : Int} (hd : decode c.code pc = .ok (.ifCond cd o, 3)) (hc : if_icmp.holds cd x 0 = false) (hn : pc + 3 = n)
    (h : own_G p e below K T (mkF m n Ls S)) : own_G p e below K T (mkF m pc Ls (.int x :: S)) := by
  subst hn
  exact own_go (fun t k => XS.ifNo X.here hx rfl hd rfl ((if0 _ _).trans hc) k) h
theorem own_icmpYes {K : Outcome → State → Prop} {pc n : Nat} {Ls : Array Slot} {S : List Value} (X : Stand p l e R s m args below meth c T locs cells slots) (hx : p.tables.exec = Jvm.exec) {cd : ClassFile.Cond} {x y : Int32} {o : Int} (hd : decode c.code pc = .ok (.if_icmp cd o, 3)) (hc : if_icmp.holds cd x y = true) (ho : 0 ≤ (pc : Int) + o) (hp : ((pc : Int) + o).toNat = n)
    (h : own_G p e below K T (mkF m n Ls S)) : own_G p e below K T (mkF m pc Ls (.int y :: .int x :: S)) := by
  subst hp
  exact own_go (fun t k => XS.icmpYes X.here hx rfl (pc0 := pc) rfl hd rfl hc ho rfl k) h
theorem own_icmpNo {K : Outcome → State → Prop} {pc n : Nat} {Ls : Array Slot} {S : List Value} (X : Stand p l e R s m args below meth c T locs cells slots) (hx : p.tables.exec = Jvm.exec) {cd : ClassFile.Cond} {x y : Int32} {o : Int} (hd : decode c.code pc = .ok (.if_icmp cd o, 3)) (hc : if_icmp.holds cd x y = false) (hn : pc + 3 = n)
    (h : own_G p e below K T (mkF m n Ls S)) : own_G p e below K T (mkF m pc Ls (.int y :: .int x :: S)) := by
  subst hn
  exact own_go (fun t k => XS.icmpNo X.here hx rfl hd rfl hc k) h
theorem own_acmp {K : Outcome → State → Prop} {pc n : Nat} {Ls : Array Slot} {S : List Value} (X : Stand p l e R s m args below meth c T locs cells slots) (hx : p.tables.exec = Jvm.exec) {cd : ACond} {x y : Addr} {o : Int} {same : Bool} (hd : decode c.code pc = .ok (.if_acmp cd o, 3)) (hq : decide (x = y) = same) (ho : 0 ≤ (pc : Int) + o) (hp : n = if acV cd same = true then ((pc : Int) + o).toNat else pc + 3)
    (h : own_G p e below K T (mkF m n Ls S)) : own_G p e below K T (mkF m pc Ls (.ref y :: .ref x :: S)) := by
  subst hp
  exact own_go (fun t k => Jvm.RoadKit.acmp (g := mkF m pc Ls (.ref y :: .ref x :: S)) X hx rfl rfl rfl (pc0 := pc) (same := same) rfl hd rfl (by rw [← hq]; simp) ho rfl k) h
theorem own_getS {K : Outcome → State → Prop} {pc n : Nat} {Ls : Array Slot} {S : List Value} {h : Heap} (X : Stand p l e R s m args below meth c T locs cells slots) (hx : p.tables.exec = Jvm.exec) (hZ : Z.Warmed39 s.vm) {own R0 O nm d host : String} {index : Nat} (hown : s.vm.findClass own = some m.cls) (w : (Jvm.Cond.fieldLink own index R0 nm d).before a0 Z = true ∨ (Jvm.Cond.fieldLinkNest own index R0 nm d host).before a0 Z = true) (via : Via Z R0 O nm d) (eT : T.heap = h) {v : Value} (F : Sta Z h O nm d v) (hd : decode c.code pc = .ok (.getstatic index, 3)) (hn : pc + 3 = n)
    (kk : ∀ T' : State, Stand p l e R s m args below meth c T' locs cells slots → T'.heap = h → own_G p e below K T' (mkF m n Ls (v :: S))) : own_G p e below K T (mkF m pc Ls S) := by
  subst hn
  obtain ⟨T', X', e', st⟩ := getS2 X hx hZ hown w via eT F (g := mkF m pc Ls S) rfl hd
  exact own_go st (kk T' X' e')
theorem own_S {K : Outcome → State → Prop} {pc n : Nat} {Ls : Array Slot} {h : Heap} {own : String} {index maxL : Nat} {y : MethodName} {bytes : ByteArray} {rm : Room} {Q : Option Value → Heap → List Loc → Prop} {argsL rest stk : List Value} {ret : Option FieldType} (X : Stand p l e R s m args below meth c T locs cells slots) (hx : p.tables.exec = Jvm.exec) (hZ : Z.Warmed39 s.vm) (hown : s.vm.findClass own = some m.cls) (hM : own_Met l Z y bytes maxL ret [] rm argsL.toArray h Q) (w1 : (Jvm.Cond.methodLink own index y).before a0 Z = true) (w2 : (Jvm.Cond.static y).before a0 Z = true) (w3 : (Jvm.Cond.initialized y.cls).before a0 Z = true) (w4 : (Jvm.Cond.code y bytes maxL ret).before a0 Z = true) (hy : y.cls ≠ "java/lang/invoke/MethodHandle" ∧ y.cls ≠ "java/lang/invoke/VarHandle") (eT : T.heap = h) (hsz : Ls.size = c.maxLocals) (hlen : ∀ sig, parseMethodDescriptor y.desc = some sig → argsL.length = sig.parameters.length) (hstk : stk = argsL.reverse ++ rest) (hd : decode c.code pc = .ok (.invokestatic index, 3)) (hf : rm.frames + 1 ≤ R.frames) (hl : (rest.map fun v => v.category).sum + (maxL + 11) + rm.locals ≤ R.locals) (hc : cells + rm.cells ≤ R.cells) (hs : slots + rm.slots ≤ R.slots) (hn : pc + 3 = n)
    (kk : ∀ (v : Option Value) (T' : State) (L : List Loc), Stand p l e R s m args below meth c T' (locs ++ L) (cells + rm.cells) (slots + rm.slots) → Q v T'.heap L → own_G p e below K T' (mkF m n Ls (v.toList ++ rest))) : own_G p e below K T (mkF m pc Ls stk) := by
  subst hn
  obtain ⟨v, T', L, X', hQ, st⟩ := own_callS X hx hZ hown hM w1 w2 w3 w4 hy eT hsz hlen hstk hd hf hl hc hs
  exact own_go st (kk v T' L X' hQ)
theorem own_V {K : Outcome → State → Prop} {pc n : Nat} {Ls : Array Slot} {h : Heap} {own : String} {index maxL : Nat} {y : MethodName} {bytes : ByteArray} {rm : Room} {Q : Option Value → Heap → List Loc → Prop} {argsL rest stk : List Value} {ret : Option FieldType} {C : String} {z : MethodName} {a : Addr} (X : Stand p l e R s m args below meth c T locs cells slots) (hx : p.tables.exec = Jvm.exec) (hZ : Z.Warmed39 s.vm) (hown : s.vm.findClass own = some m.cls) (hM : own_Met l Z z bytes maxL ret [] rm (.ref a :: argsL).toArray h Q) (w1 : (Jvm.Cond.methodLink own index y).before a0 Z = true) (w2 : (Jvm.Cond.declares y).before a0 Z = true) (nf : NotFace s y) (w5 : (Jvm.Cond.selects C y z).before a0 Z = true) (w6 : (Jvm.Cond.instanceMethod z).before a0 Z = true) (w3 : (Jvm.Cond.initialized z.cls).before a0 Z = true) (w4 : (Jvm.Cond.code z bytes maxL ret).before a0 Z = true) (hy : y.cls ≠ "java/lang/invoke/MethodHandle" ∧ y.cls ≠ "java/lang/invoke/VarHandle") (eT : T.heap = h) (E : Exa Z h a C) (hsz : Ls.size = c.maxLocals) (hlen : ∀ sig, parseMethodDescriptor y.desc = some sig → argsL.length = sig.parameters.length) (hstk : stk = argsL.reverse ++ .ref a :: rest) (hd : decode c.code pc = .ok (.invokevirtual index, 3)) (hf : rm.frames + 1 ≤ R.frames) (hl : (rest.map fun v => v.category).sum + (maxL + 11) + rm.locals ≤ R.locals) (hc : cells + rm.cells ≤ R.cells) (hs : slots + rm.slots ≤ R.slots) (hn : pc + 3 = n)
    (kk : ∀ (v : Option Value) (T' : State) (L : List Loc), Stand p l e R s m args below meth c T' (locs ++ L) (cells + rm.cells) (slots + rm.slots) → Q v T'.heap L → own_G p e below K T' (mkF m n Ls (v.toList ++ rest))) : own_G p e below K T (mkF m pc Ls stk) := by
  subst hn
  obtain ⟨v, T', L, X', hQ, st⟩ := own_callV X hx hZ hown hM w1 w2 nf w5 w6 w3 w4 hy eT E hsz hlen hstk hd hf hl hc hs
  exact own_go st (kk v T' L X' hQ)
end OwnSteps

theorem own_an_int : "[" ++ (newarray.typeOf .int).toString = "[I" := by decide +kernel
theorem own_an_long : "[" ++ (newarray.typeOf .long).toString = "[J" := by decide +kernel
theorem own_an_byte : "[" ++ (newarray.typeOf .byte).toString = "[B" := by decide +kernel
theorem own_an_char : "[" ++ (newarray.typeOf .char).toString = "[C" := by decide +kernel
theorem own_an_J : (FieldType.array .long).toString = "[J" := by decide +kernel
theorem own_an_JJ : "[" ++ "[J" = "[[J" := by decide +kernel
theorem own_ne {b z : Addr} {h : Heap} (hb : b < h.size) (g : z = h.size) : b ≠ z := Nat.ne_of_lt (Nat.lt_of_lt_of_le hb (Nat.le_of_eq g.symm))
theorem own_neEA {Z : State} {h : Heap} {a b : Addr} {C : String} {a0 : Array Value} {kk : Nat} {k : ClassId} {ty : FieldType} {n : Int32} {vs : List Value} {dv : Value} (E : Exa Z h a C) (w : (Jvm.Cond.instantiable C kk).before a0 Z = true) (V : Arv Z h b k ty n vs dv) : a ≠ b := by
  obtain ⟨c, A, -⟩ := V
  exact ne_arr E w A
theorem ww0 {Z : State} {a0 : Array Value} (hw : ∀ d ∈ tables_1, d.before a0 Z = true) : (Jvm.Cond.methodLink "com/example/skuld/skuld/formula/OperatorIsTemporalPinLaw" (58 : Nat) ({ cls := "com/example/skuld/skuld/formula/OperatorIsTemporalPinLaw", name := "pick", desc := "(I)Lcom/example/skuld/skuld/formula/Operator;" } : Jvm.MethodName)).before a0 Z = true := hw _ (List.mem_of_getElem? (i := 0) rfl)
theorem ww1 {Z : State} {a0 : Array Value} (hw : ∀ d ∈ tables_1, d.before a0 Z = true) : (Jvm.Cond.static ({ cls := "com/example/skuld/skuld/formula/OperatorIsTemporalPinLaw", name := "pick", desc := "(I)Lcom/example/skuld/skuld/formula/Operator;" } : Jvm.MethodName)).before a0 Z = true := hw _ (List.mem_of_getElem? (i := 1) rfl)
theorem ww2 {Z : State} {a0 : Array Value} (hw : ∀ d ∈ tables_1, d.before a0 Z = true) : (Jvm.Cond.initialized "com/example/skuld/skuld/formula/OperatorIsTemporalPinLaw").before a0 Z = true := hw _ (List.mem_of_getElem? (i := 2) rfl)
theorem ww3 {Z : State} {a0 : Array Value} (hw : ∀ d ∈ tables_1, d.before a0 Z = true) : (Jvm.Cond.code ({ cls := "com/example/skuld/skuld/formula/OperatorIsTemporalPinLaw", name := "pick", desc := "(I)Lcom/example/skuld/skuld/formula/Operator;" } : Jvm.MethodName) method_2_code (1 : Nat) (Option.some (Jvm.ClassFile.FieldType.object "com/example/skuld/skuld/formula/Operator"))).before a0 Z = true := hw _ (List.mem_of_getElem? (i := 3) rfl)
theorem ww4 {Z : State} {a0 : Array Value} (hw : ∀ d ∈ tables_1, d.before a0 Z = true) : (Jvm.Cond.fieldLink "com/example/skuld/skuld/formula/OperatorIsTemporalPinLaw" (7 : Nat) "com/example/skuld/skuld/formula/Operator" "TRUE" "Lcom/example/skuld/skuld/formula/Operator;").before a0 Z = true := hw _ (List.mem_of_getElem? (i := 4) rfl)
theorem ww5 {Z : State} {a0 : Array Value} (hw : ∀ d ∈ tables_1, d.before a0 Z = true) : (Jvm.Cond.initialized "com/example/skuld/skuld/formula/Operator").before a0 Z = true := hw _ (List.mem_of_getElem? (i := 5) rfl)
theorem ww6 {Z : State} {a0 : Array Value} (hw : ∀ d ∈ tables_1, d.before a0 Z = true) : (Jvm.Cond.laysStatic "com/example/skuld/skuld/formula/Operator" "TRUE" "Lcom/example/skuld/skuld/formula/Operator;").before a0 Z = true := hw _ (List.mem_of_getElem? (i := 6) rfl)
theorem ww7 {Z : State} {a0 : Array Value} (hw : ∀ d ∈ tables_1, d.before a0 Z = true) : (Jvm.Cond.methodLink "com/example/skuld/skuld/formula/OperatorIsTemporalPinLaw" (64 : Nat) ({ cls := "com/example/skuld/skuld/formula/Operator", name := "isTemporal", desc := "()Z" } : Jvm.MethodName)).before a0 Z = true := hw _ (List.mem_of_getElem? (i := 7) rfl)
theorem ww8 {Z : State} {a0 : Array Value} (hw : ∀ d ∈ tables_1, d.before a0 Z = true) : (Jvm.Cond.declares ({ cls := "com/example/skuld/skuld/formula/Operator", name := "isTemporal", desc := "()Z" } : Jvm.MethodName)).before a0 Z = true := hw _ (List.mem_of_getElem? (i := 8) rfl)
theorem ww9 {Z : State} {a0 : Array Value} (hw : ∀ d ∈ tables_1, d.before a0 Z = true) : (Jvm.Cond.instanceMethod ({ cls := "com/example/skuld/skuld/formula/Operator", name := "isTemporal", desc := "()Z" } : Jvm.MethodName)).before a0 Z = true := hw _ (List.mem_of_getElem? (i := 9) rfl)
theorem ww10 {Z : State} {a0 : Array Value} (hw : ∀ d ∈ tables_1, d.before a0 Z = true) : (Jvm.Cond.selects "com/example/skuld/skuld/formula/Operator" ({ cls := "com/example/skuld/skuld/formula/Operator", name := "isTemporal", desc := "()Z" } : Jvm.MethodName) ({ cls := "com/example/skuld/skuld/formula/Operator", name := "isTemporal", desc := "()Z" } : Jvm.MethodName)).before a0 Z = true := hw _ (List.mem_of_getElem? (i := 10) rfl)
theorem ww11 {Z : State} {a0 : Array Value} (hw : ∀ d ∈ tables_1, d.before a0 Z = true) : (Jvm.Cond.code ({ cls := "com/example/skuld/skuld/formula/Operator", name := "isTemporal", desc := "()Z" } : Jvm.MethodName) prog_41_method_6_code (1 : Nat) (Option.some Jvm.ClassFile.FieldType.boolean)).before a0 Z = true := hw _ (List.mem_of_getElem? (i := 11) rfl)
theorem ww12 {Z : State} {a0 : Array Value} (hw : ∀ d ∈ tables_1, d.before a0 Z = true) : (Jvm.Cond.fieldLink "com/example/skuld/skuld/formula/Operator" (28 : Nat) "com/example/skuld/skuld/formula/Operator" "NEXT" "Lcom/example/skuld/skuld/formula/Operator;").before a0 Z = true := hw _ (List.mem_of_getElem? (i := 12) rfl)
theorem ww13 {Z : State} {a0 : Array Value} (hw : ∀ d ∈ tables_1, d.before a0 Z = true) : (Jvm.Cond.laysStatic "com/example/skuld/skuld/formula/Operator" "NEXT" "Lcom/example/skuld/skuld/formula/Operator;").before a0 Z = true := hw _ (List.mem_of_getElem? (i := 13) rfl)
theorem ww14 {Z : State} {a0 : Array Value} (hw : ∀ d ∈ tables_1, d.before a0 Z = true) : (Jvm.Cond.fieldLink "com/example/skuld/skuld/formula/Operator" (31 : Nat) "com/example/skuld/skuld/formula/Operator" "FINALLY" "Lcom/example/skuld/skuld/formula/Operator;").before a0 Z = true := hw _ (List.mem_of_getElem? (i := 14) rfl)
theorem ww15 {Z : State} {a0 : Array Value} (hw : ∀ d ∈ tables_1, d.before a0 Z = true) : (Jvm.Cond.laysStatic "com/example/skuld/skuld/formula/Operator" "FINALLY" "Lcom/example/skuld/skuld/formula/Operator;").before a0 Z = true := hw _ (List.mem_of_getElem? (i := 15) rfl)
theorem ww16 {Z : State} {a0 : Array Value} (hw : ∀ d ∈ tables_1, d.before a0 Z = true) : (Jvm.Cond.fieldLink "com/example/skuld/skuld/formula/Operator" (34 : Nat) "com/example/skuld/skuld/formula/Operator" "GLOBALLY" "Lcom/example/skuld/skuld/formula/Operator;").before a0 Z = true := hw _ (List.mem_of_getElem? (i := 16) rfl)
theorem ww17 {Z : State} {a0 : Array Value} (hw : ∀ d ∈ tables_1, d.before a0 Z = true) : (Jvm.Cond.laysStatic "com/example/skuld/skuld/formula/Operator" "GLOBALLY" "Lcom/example/skuld/skuld/formula/Operator;").before a0 Z = true := hw _ (List.mem_of_getElem? (i := 17) rfl)
theorem ww18 {Z : State} {a0 : Array Value} (hw : ∀ d ∈ tables_1, d.before a0 Z = true) : (Jvm.Cond.fieldLink "com/example/skuld/skuld/formula/Operator" (37 : Nat) "com/example/skuld/skuld/formula/Operator" "UNTIL" "Lcom/example/skuld/skuld/formula/Operator;").before a0 Z = true := hw _ (List.mem_of_getElem? (i := 18) rfl)
theorem ww19 {Z : State} {a0 : Array Value} (hw : ∀ d ∈ tables_1, d.before a0 Z = true) : (Jvm.Cond.laysStatic "com/example/skuld/skuld/formula/Operator" "UNTIL" "Lcom/example/skuld/skuld/formula/Operator;").before a0 Z = true := hw _ (List.mem_of_getElem? (i := 19) rfl)
theorem ww20 {Z : State} {a0 : Array Value} (hw : ∀ d ∈ tables_1, d.before a0 Z = true) : (Jvm.Cond.fieldLink "com/example/skuld/skuld/formula/Operator" (40 : Nat) "com/example/skuld/skuld/formula/Operator" "RELEASE" "Lcom/example/skuld/skuld/formula/Operator;").before a0 Z = true := hw _ (List.mem_of_getElem? (i := 20) rfl)
theorem ww21 {Z : State} {a0 : Array Value} (hw : ∀ d ∈ tables_1, d.before a0 Z = true) : (Jvm.Cond.laysStatic "com/example/skuld/skuld/formula/Operator" "RELEASE" "Lcom/example/skuld/skuld/formula/Operator;").before a0 Z = true := hw _ (List.mem_of_getElem? (i := 21) rfl)
theorem ww22 {Z : State} {a0 : Array Value} (hw : ∀ d ∈ tables_1, d.before a0 Z = true) : (Jvm.Cond.fieldLink "com/example/skuld/skuld/formula/Operator" (43 : Nat) "com/example/skuld/skuld/formula/Operator" "WEAK_UNTIL" "Lcom/example/skuld/skuld/formula/Operator;").before a0 Z = true := hw _ (List.mem_of_getElem? (i := 22) rfl)
theorem ww23 {Z : State} {a0 : Array Value} (hw : ∀ d ∈ tables_1, d.before a0 Z = true) : (Jvm.Cond.laysStatic "com/example/skuld/skuld/formula/Operator" "WEAK_UNTIL" "Lcom/example/skuld/skuld/formula/Operator;").before a0 Z = true := hw _ (List.mem_of_getElem? (i := 23) rfl)
theorem ww24 {Z : State} {a0 : Array Value} (hw : ∀ d ∈ tables_1, d.before a0 Z = true) : (Jvm.Cond.fieldLink "com/example/skuld/skuld/formula/OperatorIsTemporalPinLaw" (19 : Nat) "com/example/skuld/skuld/formula/Operator" "NOT" "Lcom/example/skuld/skuld/formula/Operator;").before a0 Z = true := hw _ (List.mem_of_getElem? (i := 24) rfl)
theorem ww25 {Z : State} {a0 : Array Value} (hw : ∀ d ∈ tables_1, d.before a0 Z = true) : (Jvm.Cond.laysStatic "com/example/skuld/skuld/formula/Operator" "NOT" "Lcom/example/skuld/skuld/formula/Operator;").before a0 Z = true := hw _ (List.mem_of_getElem? (i := 25) rfl)
theorem ww26 {Z : State} {a0 : Array Value} (hw : ∀ d ∈ tables_1, d.before a0 Z = true) : (Jvm.Cond.fieldLink "com/example/skuld/skuld/formula/OperatorIsTemporalPinLaw" (52 : Nat) "com/example/skuld/skuld/formula/Operator" "ALL_PATHS" "Lcom/example/skuld/skuld/formula/Operator;").before a0 Z = true := hw _ (List.mem_of_getElem? (i := 26) rfl)
theorem ww27 {Z : State} {a0 : Array Value} (hw : ∀ d ∈ tables_1, d.before a0 Z = true) : (Jvm.Cond.laysStatic "com/example/skuld/skuld/formula/Operator" "ALL_PATHS" "Lcom/example/skuld/skuld/formula/Operator;").before a0 Z = true := hw _ (List.mem_of_getElem? (i := 27) rfl)
theorem ww28 {Z : State} {a0 : Array Value} (hw : ∀ d ∈ tables_1, d.before a0 Z = true) : (Jvm.Cond.fieldLink "com/example/skuld/skuld/formula/OperatorIsTemporalPinLaw" (55 : Nat) "com/example/skuld/skuld/formula/Operator" "SOME_PATH" "Lcom/example/skuld/skuld/formula/Operator;").before a0 Z = true := hw _ (List.mem_of_getElem? (i := 28) rfl)
theorem ww29 {Z : State} {a0 : Array Value} (hw : ∀ d ∈ tables_1, d.before a0 Z = true) : (Jvm.Cond.laysStatic "com/example/skuld/skuld/formula/Operator" "SOME_PATH" "Lcom/example/skuld/skuld/formula/Operator;").before a0 Z = true := hw _ (List.mem_of_getElem? (i := 29) rfl)
theorem ww30 {Z : State} {a0 : Array Value} (hw : ∀ d ∈ tables_1, d.before a0 Z = true) : (Jvm.Cond.fieldLink "com/example/skuld/skuld/formula/OperatorIsTemporalPinLaw" (40 : Nat) "com/example/skuld/skuld/formula/Operator" "GLOBALLY" "Lcom/example/skuld/skuld/formula/Operator;").before a0 Z = true := hw _ (List.mem_of_getElem? (i := 30) rfl)
theorem ww31 {Z : State} {a0 : Array Value} (hw : ∀ d ∈ tables_1, d.before a0 Z = true) : (Jvm.Cond.fieldLink "com/example/skuld/skuld/formula/OperatorIsTemporalPinLaw" (31 : Nat) "com/example/skuld/skuld/formula/Operator" "IFF" "Lcom/example/skuld/skuld/formula/Operator;").before a0 Z = true := hw _ (List.mem_of_getElem? (i := 31) rfl)
theorem ww32 {Z : State} {a0 : Array Value} (hw : ∀ d ∈ tables_1, d.before a0 Z = true) : (Jvm.Cond.laysStatic "com/example/skuld/skuld/formula/Operator" "IFF" "Lcom/example/skuld/skuld/formula/Operator;").before a0 Z = true := hw _ (List.mem_of_getElem? (i := 32) rfl)
theorem ww33 {Z : State} {a0 : Array Value} (hw : ∀ d ∈ tables_1, d.before a0 Z = true) : (Jvm.Cond.fieldLink "com/example/skuld/skuld/formula/OperatorIsTemporalPinLaw" (16 : Nat) "com/example/skuld/skuld/formula/Operator" "PROPOSITION" "Lcom/example/skuld/skuld/formula/Operator;").before a0 Z = true := hw _ (List.mem_of_getElem? (i := 33) rfl)
theorem ww34 {Z : State} {a0 : Array Value} (hw : ∀ d ∈ tables_1, d.before a0 Z = true) : (Jvm.Cond.laysStatic "com/example/skuld/skuld/formula/Operator" "PROPOSITION" "Lcom/example/skuld/skuld/formula/Operator;").before a0 Z = true := hw _ (List.mem_of_getElem? (i := 34) rfl)
theorem ww35 {Z : State} {a0 : Array Value} (hw : ∀ d ∈ tables_1, d.before a0 Z = true) : (Jvm.Cond.fieldLink "com/example/skuld/skuld/formula/OperatorIsTemporalPinLaw" (43 : Nat) "com/example/skuld/skuld/formula/Operator" "UNTIL" "Lcom/example/skuld/skuld/formula/Operator;").before a0 Z = true := hw _ (List.mem_of_getElem? (i := 35) rfl)
theorem ww36 {Z : State} {a0 : Array Value} (hw : ∀ d ∈ tables_1, d.before a0 Z = true) : (Jvm.Cond.fieldLink "com/example/skuld/skuld/formula/OperatorIsTemporalPinLaw" (34 : Nat) "com/example/skuld/skuld/formula/Operator" "NEXT" "Lcom/example/skuld/skuld/formula/Operator;").before a0 Z = true := hw _ (List.mem_of_getElem? (i := 36) rfl)
theorem ww37 {Z : State} {a0 : Array Value} (hw : ∀ d ∈ tables_1, d.before a0 Z = true) : (Jvm.Cond.fieldLink "com/example/skuld/skuld/formula/OperatorIsTemporalPinLaw" (13 : Nat) "com/example/skuld/skuld/formula/Operator" "FALSE" "Lcom/example/skuld/skuld/formula/Operator;").before a0 Z = true := hw _ (List.mem_of_getElem? (i := 37) rfl)
theorem ww38 {Z : State} {a0 : Array Value} (hw : ∀ d ∈ tables_1, d.before a0 Z = true) : (Jvm.Cond.laysStatic "com/example/skuld/skuld/formula/Operator" "FALSE" "Lcom/example/skuld/skuld/formula/Operator;").before a0 Z = true := hw _ (List.mem_of_getElem? (i := 38) rfl)
theorem ww39 {Z : State} {a0 : Array Value} (hw : ∀ d ∈ tables_1, d.before a0 Z = true) : (Jvm.Cond.fieldLink "com/example/skuld/skuld/formula/OperatorIsTemporalPinLaw" (22 : Nat) "com/example/skuld/skuld/formula/Operator" "AND" "Lcom/example/skuld/skuld/formula/Operator;").before a0 Z = true := hw _ (List.mem_of_getElem? (i := 39) rfl)
theorem ww40 {Z : State} {a0 : Array Value} (hw : ∀ d ∈ tables_1, d.before a0 Z = true) : (Jvm.Cond.laysStatic "com/example/skuld/skuld/formula/Operator" "AND" "Lcom/example/skuld/skuld/formula/Operator;").before a0 Z = true := hw _ (List.mem_of_getElem? (i := 40) rfl)
theorem ww41 {Z : State} {a0 : Array Value} (hw : ∀ d ∈ tables_1, d.before a0 Z = true) : (Jvm.Cond.fieldLink "com/example/skuld/skuld/formula/OperatorIsTemporalPinLaw" (46 : Nat) "com/example/skuld/skuld/formula/Operator" "RELEASE" "Lcom/example/skuld/skuld/formula/Operator;").before a0 Z = true := hw _ (List.mem_of_getElem? (i := 41) rfl)
theorem ww42 {Z : State} {a0 : Array Value} (hw : ∀ d ∈ tables_1, d.before a0 Z = true) : (Jvm.Cond.fieldLink "com/example/skuld/skuld/formula/OperatorIsTemporalPinLaw" (49 : Nat) "com/example/skuld/skuld/formula/Operator" "WEAK_UNTIL" "Lcom/example/skuld/skuld/formula/Operator;").before a0 Z = true := hw _ (List.mem_of_getElem? (i := 42) rfl)
theorem ww43 {Z : State} {a0 : Array Value} (hw : ∀ d ∈ tables_1, d.before a0 Z = true) : (Jvm.Cond.fieldLink "com/example/skuld/skuld/formula/OperatorIsTemporalPinLaw" (28 : Nat) "com/example/skuld/skuld/formula/Operator" "IMPLIES" "Lcom/example/skuld/skuld/formula/Operator;").before a0 Z = true := hw _ (List.mem_of_getElem? (i := 43) rfl)
theorem ww44 {Z : State} {a0 : Array Value} (hw : ∀ d ∈ tables_1, d.before a0 Z = true) : (Jvm.Cond.laysStatic "com/example/skuld/skuld/formula/Operator" "IMPLIES" "Lcom/example/skuld/skuld/formula/Operator;").before a0 Z = true := hw _ (List.mem_of_getElem? (i := 44) rfl)
theorem ww45 {Z : State} {a0 : Array Value} (hw : ∀ d ∈ tables_1, d.before a0 Z = true) : (Jvm.Cond.fieldLink "com/example/skuld/skuld/formula/OperatorIsTemporalPinLaw" (37 : Nat) "com/example/skuld/skuld/formula/Operator" "FINALLY" "Lcom/example/skuld/skuld/formula/Operator;").before a0 Z = true := hw _ (List.mem_of_getElem? (i := 45) rfl)
theorem ww46 {Z : State} {a0 : Array Value} (hw : ∀ d ∈ tables_1, d.before a0 Z = true) : (Jvm.Cond.fieldLink "com/example/skuld/skuld/formula/OperatorIsTemporalPinLaw" (25 : Nat) "com/example/skuld/skuld/formula/Operator" "OR" "Lcom/example/skuld/skuld/formula/Operator;").before a0 Z = true := hw _ (List.mem_of_getElem? (i := 46) rfl)
theorem ww47 {Z : State} {a0 : Array Value} (hw : ∀ d ∈ tables_1, d.before a0 Z = true) : (Jvm.Cond.laysStatic "com/example/skuld/skuld/formula/Operator" "OR" "Lcom/example/skuld/skuld/formula/Operator;").before a0 Z = true := hw _ (List.mem_of_getElem? (i := 47) rfl)
/-! the plain law -/
def own_T (a t8 t9 t10 t11 t12 t13 : Addr) : Int32 := if a = t8 ∨ a = t9 ∨ a = t10 ∨ a = t11 ∨ a = t12 ∨ a = t13 then 1 else 0
def own_exp (k : Int32) : Int32 := if (¬ k < (8 : Int32)) ∧ ¬ (13 : Int32) < k then 1 else 0
theorem own_ord {args : Array Value} {s : State} {t : Term} {C n d : String} {y : Addr} {k : Int32} (ht : t.eval args s none [] s = some (.ref y)) (h : (Jvm.Cond.eq (.field t C n d) (.int k)).value args s none s [] = some true) : s.fieldOf? y C n d = some (.int k) := by
  have q := fld_at (C := C) (n := n) (dd := d) ht
  cases hf : s.fieldOf? y C n d with
  | none => simp [Cond.value, q, hf] at h
  | some v => cases v <;> simp [Cond.value, Term.eval, ht, hf] at h ⊢; exact h
theorem own_dist {s : State} {C n d : String} {y z : Addr} {i j : Int32} (h1 : s.fieldOf? y C n d = some (.int i)) (h2 : s.fieldOf? z C n d = some (.int j)) (hne : i ≠ j) : y ≠ z := fun q => by
  subst q
  rw [h1] at h2
  cases h2
  exact hne rfl
theorem own_far {k : Int32} (h8 : ¬ k = 8) (h9 : ¬ k = 9) (h10 : ¬ k = 10) (h11 : ¬ k = 11) (h12 : ¬ k = 12) (h13 : ¬ k = 13) : own_exp k = 0 := by
  unfold own_exp; rw [if_neg]
  rintro ⟨a, b⟩
  rw [Int32.lt_iff_toInt_lt] at a b
  rw [← Int32.toInt_inj] at h8 h9 h10 h11 h12 h13
  have e8 : (8 : Int32).toInt = 8 := rfl
  have e9 : (9 : Int32).toInt = 9 := rfl
  have e10 : (10 : Int32).toInt = 10 := rfl
  have e11 : (11 : Int32).toInt = 11 := rfl
  have e12 : (12 : Int32).toInt = 12 := rfl
  have e13 : (13 : Int32).toInt = 13 := rfl
  omega
theorem own_pn2 : plainFor (⟨"com/example/skuld/skuld/formula/Operator", "isTemporal", "()Z"⟩ : MethodName) = true := plainFor_of_name (by first | (simp [plainName, overriddenIn]; done) | decide +kernel)
theorem d2_0 : decode prog_41_method_6_code 0 = .ok (.aload_n 0, 1) := by decide +kernel
theorem d2_1 : decode prog_41_method_6_code 1 = .ok (.getstatic 28, 3) := by decide +kernel
theorem d2_4 : decode prog_41_method_6_code 4 = .ok (.if_acmp .eq 38, 3) := by decide +kernel
theorem d2_42 : decode prog_41_method_6_code 42 = .ok (.iconst 1, 1) := by decide +kernel
theorem d2_43 : decode prog_41_method_6_code 43 = .ok (.goto 4, 3) := by decide +kernel
theorem d2_47 : decode prog_41_method_6_code 47 = .ok (.ireturn, 1) := by decide +kernel
theorem d2_7 : decode prog_41_method_6_code 7 = .ok (.aload_n 0, 1) := by decide +kernel
theorem d2_8 : decode prog_41_method_6_code 8 = .ok (.getstatic 31, 3) := by decide +kernel
theorem d2_11 : decode prog_41_method_6_code 11 = .ok (.if_acmp .eq 31, 3) := by decide +kernel
theorem d2_14 : decode prog_41_method_6_code 14 = .ok (.aload_n 0, 1) := by decide +kernel
theorem d2_15 : decode prog_41_method_6_code 15 = .ok (.getstatic 34, 3) := by decide +kernel
theorem d2_18 : decode prog_41_method_6_code 18 = .ok (.if_acmp .eq 24, 3) := by decide +kernel
theorem d2_21 : decode prog_41_method_6_code 21 = .ok (.aload_n 0, 1) := by decide +kernel
theorem d2_22 : decode prog_41_method_6_code 22 = .ok (.getstatic 37, 3) := by decide +kernel
theorem d2_25 : decode prog_41_method_6_code 25 = .ok (.if_acmp .eq 17, 3) := by decide +kernel
theorem d2_28 : decode prog_41_method_6_code 28 = .ok (.aload_n 0, 1) := by decide +kernel
theorem d2_29 : decode prog_41_method_6_code 29 = .ok (.getstatic 40, 3) := by decide +kernel
theorem d2_32 : decode prog_41_method_6_code 32 = .ok (.if_acmp .eq 10, 3) := by decide +kernel
theorem d2_35 : decode prog_41_method_6_code 35 = .ok (.aload_n 0, 1) := by decide +kernel
theorem d2_36 : decode prog_41_method_6_code 36 = .ok (.getstatic 43, 3) := by decide +kernel
theorem d2_39 : decode prog_41_method_6_code 39 = .ok (.if_acmp .ne 7, 3) := by decide +kernel
theorem d2_46 : decode prog_41_method_6_code 46 = .ok (.iconst 0, 1) := by decide +kernel
theorem own_ef2_own_rmT (m : MethodId) (y0 : Addr) : entryFrame m #[(.ref y0)] 1 = mkF m 0 #[.val (.ref y0)] [] := by first | (simp [entryFrame, mkF, argsToLocals, Value.category]; done) | rfl
set_option maxRecDepth 65536 in
set_option maxHeartbeats 40000000 in
theorem own_rmT (l : Launch) (Z : State) (a0 : Array Value) (hw : ∀ d ∈ tables_1, d.before a0 Z = true) (a t8 t9 t10 t11 t12 t13 : Addr) (h0 : Heap) (n0 : Nat) (Z0 : n0 ≤ h0.size) (S8 : Sta Z h0 "com/example/skuld/skuld/formula/Operator" "NEXT" "Lcom/example/skuld/skuld/formula/Operator;" (.ref t8)) (S9 : Sta Z h0 "com/example/skuld/skuld/formula/Operator" "FINALLY" "Lcom/example/skuld/skuld/formula/Operator;" (.ref t9)) (S10 : Sta Z h0 "com/example/skuld/skuld/formula/Operator" "GLOBALLY" "Lcom/example/skuld/skuld/formula/Operator;" (.ref t10)) (S11 : Sta Z h0 "com/example/skuld/skuld/formula/Operator" "UNTIL" "Lcom/example/skuld/skuld/formula/Operator;" (.ref t11)) (S12 : Sta Z h0 "com/example/skuld/skuld/formula/Operator" "RELEASE" "Lcom/example/skuld/skuld/formula/Operator;" (.ref t12)) (S13 : Sta Z h0 "com/example/skuld/skuld/formula/Operator" "WEAK_UNTIL" "Lcom/example/skuld/skuld/formula/Operator;" (.ref t13)) :
    own_Met l Z (⟨"com/example/skuld/skuld/formula/Operator", "isTemporal", "()Z"⟩ : MethodName) prog_41_method_6_code 1 (some .boolean) [] ({ frames := 0, cells := 0, slots := 0, locals := 0 } : Room) #[(.ref a)] h0 (fun v h L => v = some (.int (own_T a t8 t9 t10 t11 t12 t13)) ∧ Fr n0 L ∧ h = h0) := by
  refine own_met own_pn2 ?_
  intro p e s m below meth c s₁ hx hby hml hown hnm hret hlk hZ X0 e0
  have N0 := Fr.nil n0
  refine own_cast (own_ef2_own_rmT m a) ?_
  refine own_aloadN (n := 1) X0 hx (hb hby d2_0) rfl rfl rfl ?_
  refine own_getS (n := 4) X0 hx hZ hown (host := "") (Or.inl (ww12 hw)) Via.refl e0 S8 (hb hby d2_1) rfl ?_
  intro T1 X1 e1
  by_cases ha4_2 : a = t8
  · skip
    refine own_acmp (n := 42) (same := true) X1 hx (hb hby d2_4) (decide_eq_true ha4_2) (by decide) (by decide) ?_
    refine own_iconst (n := 43) (z := (1 : Int32)) X1 hx (hb hby d2_42) rfl rfl ?_
    refine own_goto (n := 47) X1 hx (hb hby d2_43) (by decide) (by decide) ?_
    refine own_retZ X1 hx hlk hret (by simp) e1 (w := (1 : Int32)) rfl (hb hby d2_47) (by decide) (by decide) ?_
    exact ⟨by simp [own_T, ha4_2], N0, rfl⟩
  · skip
    refine own_acmp (n := 7) (same := false) X1 hx (hb hby d2_4) (decide_eq_false ha4_2) (by decide) (by decide) ?_
    refine own_aloadN (n := 8) X1 hx (hb hby d2_7) rfl rfl rfl ?_
    refine own_getS (n := 11) X1 hx hZ hown (host := "") (Or.inl (ww14 hw)) Via.refl e1 S9 (hb hby d2_8) rfl ?_
    intro T3 X3 e3
    by_cases ha11_4 : a = t9
    · skip
      refine own_acmp (n := 42) (same := true) X3 hx (hb hby d2_11) (decide_eq_true ha11_4) (by decide) (by decide) ?_
      refine own_iconst (n := 43) (z := (1 : Int32)) X3 hx (hb hby d2_42) rfl rfl ?_
      refine own_goto (n := 47) X3 hx (hb hby d2_43) (by decide) (by decide) ?_
      refine own_retZ X3 hx hlk hret (by simp) e3 (w := (1 : Int32)) rfl (hb hby d2_47) (by decide) (by decide) ?_
      exact ⟨by simp [own_T, ha4_2, ha11_4], N0, rfl⟩
    · skip
      refine own_acmp (n := 14) (same := false) X3 hx (hb hby d2_11) (decide_eq_false ha11_4) (by decide) (by decide) ?_
      refine own_aloadN (n := 15) X3 hx (hb hby d2_14) rfl rfl rfl ?_
      refine own_getS (n := 18) X3 hx hZ hown (host := "") (Or.inl (ww16 hw)) Via.refl e3 S10 (hb hby d2_15) rfl ?_
      intro T5 X5 e5
      by_cases ha18_6 : a = t10
      · skip
        refine own_acmp (n := 42) (same := true) X5 hx (hb hby d2_18) (decide_eq_true ha18_6) (by decide) (by decide) ?_
        refine own_iconst (n := 43) (z := (1 : Int32)) X5 hx (hb hby d2_42) rfl rfl ?_
        refine own_goto (n := 47) X5 hx (hb hby d2_43) (by decide) (by decide) ?_
        refine own_retZ X5 hx hlk hret (by simp) e5 (w := (1 : Int32)) rfl (hb hby d2_47) (by decide) (by decide) ?_
        exact ⟨by simp [own_T, ha4_2, ha11_4, ha18_6], N0, rfl⟩
      · skip
        refine own_acmp (n := 21) (same := false) X5 hx (hb hby d2_18) (decide_eq_false ha18_6) (by decide) (by decide) ?_
        refine own_aloadN (n := 22) X5 hx (hb hby d2_21) rfl rfl rfl ?_
        refine own_getS (n := 25) X5 hx hZ hown (host := "") (Or.inl (ww18 hw)) Via.refl e5 S11 (hb hby d2_22) rfl ?_
        intro T7 X7 e7
        by_cases ha25_8 : a = t11
        · skip
          refine own_acmp (n := 42) (same := true) X7 hx (hb hby d2_25) (decide_eq_true ha25_8) (by decide) (by decide) ?_
          refine own_iconst (n := 43) (z := (1 : Int32)) X7 hx (hb hby d2_42) rfl rfl ?_
          refine own_goto (n := 47) X7 hx (hb hby d2_43) (by decide) (by decide) ?_
          refine own_retZ X7 hx hlk hret (by simp) e7 (w := (1 : Int32)) rfl (hb hby d2_47) (by decide) (by decide) ?_
          exact ⟨by simp [own_T, ha4_2, ha11_4, ha18_6, ha25_8], N0, rfl⟩
        · skip
          refine own_acmp (n := 28) (same := false) X7 hx (hb hby d2_25) (decide_eq_false ha25_8) (by decide) (by decide) ?_
          refine own_aloadN (n := 29) X7 hx (hb hby d2_28) rfl rfl rfl ?_
          refine own_getS (n := 32) X7 hx hZ hown (host := "") (Or.inl (ww20 hw)) Via.refl e7 S12 (hb hby d2_29) rfl ?_
          intro T9 X9 e9
          by_cases ha32_10 : a = t12
          · skip
            refine own_acmp (n := 42) (same := true) X9 hx (hb hby d2_32) (decide_eq_true ha32_10) (by decide) (by decide) ?_
            refine own_iconst (n := 43) (z := (1 : Int32)) X9 hx (hb hby d2_42) rfl rfl ?_
            refine own_goto (n := 47) X9 hx (hb hby d2_43) (by decide) (by decide) ?_
            refine own_retZ X9 hx hlk hret (by simp) e9 (w := (1 : Int32)) rfl (hb hby d2_47) (by decide) (by decide) ?_
            exact ⟨by simp [own_T, ha4_2, ha11_4, ha18_6, ha25_8, ha32_10], N0, rfl⟩
          · skip
            refine own_acmp (n := 35) (same := false) X9 hx (hb hby d2_32) (decide_eq_false ha32_10) (by decide) (by decide) ?_
            refine own_aloadN (n := 36) X9 hx (hb hby d2_35) rfl rfl rfl ?_
            refine own_getS (n := 39) X9 hx hZ hown (host := "") (Or.inl (ww22 hw)) Via.refl e9 S13 (hb hby d2_36) rfl ?_
            intro T11 X11 e11
            by_cases ha39_12 : a = t13
            · skip
              refine own_acmp (n := 42) (same := true) X11 hx (hb hby d2_39) (decide_eq_true ha39_12) (by decide) (by decide) ?_
              refine own_iconst (n := 43) (z := (1 : Int32)) X11 hx (hb hby d2_42) rfl rfl ?_
              refine own_goto (n := 47) X11 hx (hb hby d2_43) (by decide) (by decide) ?_
              refine own_retZ X11 hx hlk hret (by simp) e11 (w := (1 : Int32)) rfl (hb hby d2_47) (by decide) (by decide) ?_
              exact ⟨by simp [own_T, ha4_2, ha11_4, ha18_6, ha25_8, ha32_10, ha39_12], N0, rfl⟩
            · skip
              refine own_acmp (n := 46) (same := false) X11 hx (hb hby d2_39) (decide_eq_false ha39_12) (by decide) (by decide) ?_
              refine own_iconst (n := 47) (z := (0 : Int32)) X11 hx (hb hby d2_46) rfl rfl ?_
              refine own_retZ X11 hx hlk hret (by simp) e11 (w := (0 : Int32)) rfl (hb hby d2_47) (by decide) (by decide) ?_
              exact ⟨by simp [own_T, ha4_2, ha11_4, ha18_6, ha25_8, ha32_10, ha39_12], N0, rfl⟩
theorem own_pn1 : plainFor (⟨"com/example/skuld/skuld/formula/OperatorIsTemporalPinLaw", "pick", "(I)Lcom/example/skuld/skuld/formula/Operator;"⟩ : MethodName) = true := plainFor_of_name (by first | (simp [plainName, overriddenIn]; done) | decide +kernel)
theorem d1_0 : decode method_2_code 0 = .ok (.iload_n 0, 1) := by decide +kernel
theorem d1_1 : decode method_2_code 1 = .ok (.ifCond .ne 7, 3) := by decide +kernel
theorem d1_4 : decode method_2_code 4 = .ok (.getstatic 7, 3) := by decide +kernel
theorem d1_7 : decode method_2_code 7 = .ok (.areturn, 1) := by decide +kernel
theorem d1_8 : decode method_2_code 8 = .ok (.iload_n 0, 1) := by decide +kernel
theorem d1_9 : decode method_2_code 9 = .ok (.iconst 1, 1) := by decide +kernel
theorem d1_10 : decode method_2_code 10 = .ok (.if_icmp .ne 7, 3) := by decide +kernel
theorem d1_13 : decode method_2_code 13 = .ok (.getstatic 13, 3) := by decide +kernel
theorem d1_16 : decode method_2_code 16 = .ok (.areturn, 1) := by decide +kernel
theorem d1_17 : decode method_2_code 17 = .ok (.iload_n 0, 1) := by decide +kernel
theorem d1_18 : decode method_2_code 18 = .ok (.iconst 2, 1) := by decide +kernel
theorem d1_19 : decode method_2_code 19 = .ok (.if_icmp .ne 7, 3) := by decide +kernel
theorem d1_22 : decode method_2_code 22 = .ok (.getstatic 16, 3) := by decide +kernel
theorem d1_25 : decode method_2_code 25 = .ok (.areturn, 1) := by decide +kernel
theorem d1_26 : decode method_2_code 26 = .ok (.iload_n 0, 1) := by decide +kernel
theorem d1_27 : decode method_2_code 27 = .ok (.iconst 3, 1) := by decide +kernel
theorem d1_28 : decode method_2_code 28 = .ok (.if_icmp .ne 7, 3) := by decide +kernel
theorem d1_31 : decode method_2_code 31 = .ok (.getstatic 19, 3) := by decide +kernel
theorem d1_34 : decode method_2_code 34 = .ok (.areturn, 1) := by decide +kernel
theorem d1_35 : decode method_2_code 35 = .ok (.iload_n 0, 1) := by decide +kernel
theorem d1_36 : decode method_2_code 36 = .ok (.iconst 4, 1) := by decide +kernel
theorem d1_37 : decode method_2_code 37 = .ok (.if_icmp .ne 7, 3) := by decide +kernel
theorem d1_40 : decode method_2_code 40 = .ok (.getstatic 22, 3) := by decide +kernel
theorem d1_43 : decode method_2_code 43 = .ok (.areturn, 1) := by decide +kernel
theorem d1_44 : decode method_2_code 44 = .ok (.iload_n 0, 1) := by decide +kernel
theorem d1_45 : decode method_2_code 45 = .ok (.iconst 5, 1) := by decide +kernel
theorem d1_46 : decode method_2_code 46 = .ok (.if_icmp .ne 7, 3) := by decide +kernel
theorem d1_49 : decode method_2_code 49 = .ok (.getstatic 25, 3) := by decide +kernel
theorem d1_52 : decode method_2_code 52 = .ok (.areturn, 1) := by decide +kernel
theorem d1_53 : decode method_2_code 53 = .ok (.iload_n 0, 1) := by decide +kernel
theorem d1_54 : decode method_2_code 54 = .ok (.bipush 6, 2) := by decide +kernel
theorem d1_56 : decode method_2_code 56 = .ok (.if_icmp .ne 7, 3) := by decide +kernel
theorem d1_59 : decode method_2_code 59 = .ok (.getstatic 28, 3) := by decide +kernel
theorem d1_62 : decode method_2_code 62 = .ok (.areturn, 1) := by decide +kernel
theorem d1_63 : decode method_2_code 63 = .ok (.iload_n 0, 1) := by decide +kernel
theorem d1_64 : decode method_2_code 64 = .ok (.bipush 7, 2) := by decide +kernel
theorem d1_66 : decode method_2_code 66 = .ok (.if_icmp .ne 7, 3) := by decide +kernel
theorem d1_69 : decode method_2_code 69 = .ok (.getstatic 31, 3) := by decide +kernel
theorem d1_72 : decode method_2_code 72 = .ok (.areturn, 1) := by decide +kernel
theorem d1_73 : decode method_2_code 73 = .ok (.iload_n 0, 1) := by decide +kernel
theorem d1_74 : decode method_2_code 74 = .ok (.bipush 8, 2) := by decide +kernel
theorem d1_76 : decode method_2_code 76 = .ok (.if_icmp .ne 7, 3) := by decide +kernel
theorem d1_79 : decode method_2_code 79 = .ok (.getstatic 34, 3) := by decide +kernel
theorem d1_82 : decode method_2_code 82 = .ok (.areturn, 1) := by decide +kernel
theorem d1_83 : decode method_2_code 83 = .ok (.iload_n 0, 1) := by decide +kernel
theorem d1_84 : decode method_2_code 84 = .ok (.bipush 9, 2) := by decide +kernel
theorem d1_86 : decode method_2_code 86 = .ok (.if_icmp .ne 7, 3) := by decide +kernel
theorem d1_89 : decode method_2_code 89 = .ok (.getstatic 37, 3) := by decide +kernel
theorem d1_92 : decode method_2_code 92 = .ok (.areturn, 1) := by decide +kernel
theorem d1_93 : decode method_2_code 93 = .ok (.iload_n 0, 1) := by decide +kernel
theorem d1_94 : decode method_2_code 94 = .ok (.bipush 10, 2) := by decide +kernel
theorem d1_96 : decode method_2_code 96 = .ok (.if_icmp .ne 7, 3) := by decide +kernel
theorem d1_99 : decode method_2_code 99 = .ok (.getstatic 40, 3) := by decide +kernel
theorem d1_102 : decode method_2_code 102 = .ok (.areturn, 1) := by decide +kernel
theorem d1_103 : decode method_2_code 103 = .ok (.iload_n 0, 1) := by decide +kernel
theorem d1_104 : decode method_2_code 104 = .ok (.bipush 11, 2) := by decide +kernel
theorem d1_106 : decode method_2_code 106 = .ok (.if_icmp .ne 7, 3) := by decide +kernel
theorem d1_109 : decode method_2_code 109 = .ok (.getstatic 43, 3) := by decide +kernel
theorem d1_112 : decode method_2_code 112 = .ok (.areturn, 1) := by decide +kernel
theorem d1_113 : decode method_2_code 113 = .ok (.iload_n 0, 1) := by decide +kernel
theorem d1_114 : decode method_2_code 114 = .ok (.bipush 12, 2) := by decide +kernel
theorem d1_116 : decode method_2_code 116 = .ok (.if_icmp .ne 7, 3) := by decide +kernel
theorem d1_119 : decode method_2_code 119 = .ok (.getstatic 46, 3) := by decide +kernel
theorem d1_122 : decode method_2_code 122 = .ok (.areturn, 1) := by decide +kernel
theorem d1_123 : decode method_2_code 123 = .ok (.iload_n 0, 1) := by decide +kernel
theorem d1_124 : decode method_2_code 124 = .ok (.bipush 13, 2) := by decide +kernel
theorem d1_126 : decode method_2_code 126 = .ok (.if_icmp .ne 7, 3) := by decide +kernel
theorem d1_129 : decode method_2_code 129 = .ok (.getstatic 49, 3) := by decide +kernel
theorem d1_132 : decode method_2_code 132 = .ok (.areturn, 1) := by decide +kernel
theorem d1_133 : decode method_2_code 133 = .ok (.iload_n 0, 1) := by decide +kernel
theorem d1_134 : decode method_2_code 134 = .ok (.bipush 14, 2) := by decide +kernel
theorem d1_136 : decode method_2_code 136 = .ok (.if_icmp .ne 7, 3) := by decide +kernel
theorem d1_139 : decode method_2_code 139 = .ok (.getstatic 52, 3) := by decide +kernel
theorem d1_142 : decode method_2_code 142 = .ok (.areturn, 1) := by decide +kernel
theorem d1_143 : decode method_2_code 143 = .ok (.getstatic 55, 3) := by decide +kernel
theorem d1_146 : decode method_2_code 146 = .ok (.areturn, 1) := by decide +kernel
theorem own_ef1_own_rmP (m : MethodId) (y0 : Int32) : entryFrame m #[(.int y0)] 1 = mkF m 0 #[.val (.int y0)] [] := by first | (simp [entryFrame, mkF, argsToLocals, Value.category]; done) | rfl
set_option maxRecDepth 65536 in
set_option maxHeartbeats 40000000 in
theorem own_rmP (l : Launch) (Z : State) (a0 : Array Value) (hw : ∀ d ∈ tables_1, d.before a0 Z = true) (p0 : Int32) (t0 t1 t2 t3 t4 t5 t6 t7 t8 t9 t10 t11 t12 t13 t14 t15 : Addr) (h0 : Heap) (n0 : Nat) (Z0 : n0 ≤ h0.size) (S0 : Sta Z h0 "com/example/skuld/skuld/formula/Operator" "TRUE" "Lcom/example/skuld/skuld/formula/Operator;" (.ref t0)) (S1 : Sta Z h0 "com/example/skuld/skuld/formula/Operator" "FALSE" "Lcom/example/skuld/skuld/formula/Operator;" (.ref t1)) (S2 : Sta Z h0 "com/example/skuld/skuld/formula/Operator" "PROPOSITION" "Lcom/example/skuld/skuld/formula/Operator;" (.ref t2)) (S3 : Sta Z h0 "com/example/skuld/skuld/formula/Operator" "NOT" "Lcom/example/skuld/skuld/formula/Operator;" (.ref t3)) (S4 : Sta Z h0 "com/example/skuld/skuld/formula/Operator" "AND" "Lcom/example/skuld/skuld/formula/Operator;" (.ref t4)) (S5 : Sta Z h0 "com/example/skuld/skuld/formula/Operator" "OR" "Lcom/example/skuld/skuld/formula/Operator;" (.ref t5)) (S6 : Sta Z h0 "com/example/skuld/skuld/formula/Operator" "IMPLIES" "Lcom/example/skuld/skuld/formula/Operator;" (.ref t6)) (S7 : Sta Z h0 "com/example/skuld/skuld/formula/Operator" "IFF" "Lcom/example/skuld/skuld/formula/Operator;" (.ref t7)) (S8 : Sta Z h0 "com/example/skuld/skuld/formula/Operator" "NEXT" "Lcom/example/skuld/skuld/formula/Operator;" (.ref t8)) (S9 : Sta Z h0 "com/example/skuld/skuld/formula/Operator" "FINALLY" "Lcom/example/skuld/skuld/formula/Operator;" (.ref t9)) (S10 : Sta Z h0 "com/example/skuld/skuld/formula/Operator" "GLOBALLY" "Lcom/example/skuld/skuld/formula/Operator;" (.ref t10)) (S11 : Sta Z h0 "com/example/skuld/skuld/formula/Operator" "UNTIL" "Lcom/example/skuld/skuld/formula/Operator;" (.ref t11)) (S12 : Sta Z h0 "com/example/skuld/skuld/formula/Operator" "RELEASE" "Lcom/example/skuld/skuld/formula/Operator;" (.ref t12)) (S13 : Sta Z h0 "com/example/skuld/skuld/formula/Operator" "WEAK_UNTIL" "Lcom/example/skuld/skuld/formula/Operator;" (.ref t13)) (S14 : Sta Z h0 "com/example/skuld/skuld/formula/Operator" "ALL_PATHS" "Lcom/example/skuld/skuld/formula/Operator;" (.ref t14)) (S15 : Sta Z h0 "com/example/skuld/skuld/formula/Operator" "SOME_PATH" "Lcom/example/skuld/skuld/formula/Operator;" (.ref t15)) (E0 : Exa Z h0 t0 "com/example/skuld/skuld/formula/Operator") (T0 : own_T t0 t8 t9 t10 t11 t12 t13 = 0) (E1 : Exa Z h0 t1 "com/example/skuld/skuld/formula/Operator") (T1 : own_T t1 t8 t9 t10 t11 t12 t13 = 0) (E2 : Exa Z h0 t2 "com/example/skuld/skuld/formula/Operator") (T2 : own_T t2 t8 t9 t10 t11 t12 t13 = 0) (E3 : Exa Z h0 t3 "com/example/skuld/skuld/formula/Operator") (T3 : own_T t3 t8 t9 t10 t11 t12 t13 = 0) (E4 : Exa Z h0 t4 "com/example/skuld/skuld/formula/Operator") (T4 : own_T t4 t8 t9 t10 t11 t12 t13 = 0) (E5 : Exa Z h0 t5 "com/example/skuld/skuld/formula/Operator") (T5 : own_T t5 t8 t9 t10 t11 t12 t13 = 0) (E6 : Exa Z h0 t6 "com/example/skuld/skuld/formula/Operator") (T6 : own_T t6 t8 t9 t10 t11 t12 t13 = 0) (E7 : Exa Z h0 t7 "com/example/skuld/skuld/formula/Operator") (T7 : own_T t7 t8 t9 t10 t11 t12 t13 = 0) (E8 : Exa Z h0 t8 "com/example/skuld/skuld/formula/Operator") (T8 : own_T t8 t8 t9 t10 t11 t12 t13 = 1) (E9 : Exa Z h0 t9 "com/example/skuld/skuld/formula/Operator") (T9 : own_T t9 t8 t9 t10 t11 t12 t13 = 1) (E10 : Exa Z h0 t10 "com/example/skuld/skuld/formula/Operator") (T10 : own_T t10 t8 t9 t10 t11 t12 t13 = 1) (E11 : Exa Z h0 t11 "com/example/skuld/skuld/formula/Operator") (T11 : own_T t11 t8 t9 t10 t11 t12 t13 = 1) (E12 : Exa Z h0 t12 "com/example/skuld/skuld/formula/Operator") (T12 : own_T t12 t8 t9 t10 t11 t12 t13 = 1) (E13 : Exa Z h0 t13 "com/example/skuld/skuld/formula/Operator") (T13 : own_T t13 t8 t9 t10 t11 t12 t13 = 1) (E14 : Exa Z h0 t14 "com/example/skuld/skuld/formula/Operator") (T14 : own_T t14 t8 t9 t10 t11 t12 t13 = 0) (E15 : Exa Z h0 t15 "com/example/skuld/skuld/formula/Operator") (T15 : own_T t15 t8 t9 t10 t11 t12 t13 = 0) :
    own_Met l Z (⟨"com/example/skuld/skuld/formula/OperatorIsTemporalPinLaw", "pick", "(I)Lcom/example/skuld/skuld/formula/Operator;"⟩ : MethodName) method_2_code 1 (some (.object "com/example/skuld/skuld/formula/Operator")) [] ({ frames := 0, cells := 0, slots := 0, locals := 0 } : Room) #[(.int p0)] h0 (fun v h L => ∃ r : Addr, v = some (.ref r) ∧ Exa Z h0 r "com/example/skuld/skuld/formula/Operator" ∧ own_T r t8 t9 t10 t11 t12 t13 = own_exp p0 ∧ Fr n0 L ∧ h = h0) := by
  refine own_met own_pn1 ?_
  intro p e s m below meth c s₁ hx hby hml hown hnm hret hlk hZ X0 e0
  have N0 := Fr.nil n0
  refine own_cast (own_ef1_own_rmP m p0) ?_
  refine own_iloadN (n := 1) X0 hx (hb hby d1_0) rfl rfl ?_
  by_cases hc1_1 : p0 = (0 : Int32)
  · skip
    refine own_ifNo (n := 4) X0 hx (hb hby d1_1) (teq hc1_1).2 rfl ?_
    refine own_getS (n := 7) X0 hx hZ hown (host := "") (Or.inl (ww4 hw)) Via.refl e0 S0 (hb hby d1_4) rfl ?_
    intro T2 X2 e2
    refine own_retA X2 hx hlk hret rfl rfl rfl e2 (hb hby d1_7) (by decide) (by decide) ?_
    exact ⟨t0, rfl, E0, by rw [T0, hc1_1]; decide, N0, rfl⟩
  · skip
    refine own_ifYes (n := 8) X0 hx (hb hby d1_1) (feq hc1_1).2 (by decide) (by decide) ?_
    refine own_iloadN (n := 9) X0 hx (hb hby d1_8) rfl rfl ?_
    refine own_iconst (n := 10) (z := (1 : Int32)) X0 hx (hb hby d1_9) rfl rfl ?_
    by_cases hc10_3 : p0 = (1 : Int32)
    · skip
      refine own_icmpNo (n := 13) X0 hx (hb hby d1_10) (teq hc10_3).2 rfl ?_
      refine own_getS (n := 16) X0 hx hZ hown (host := "") (Or.inl (ww37 hw)) Via.refl e0 S1 (hb hby d1_13) rfl ?_
      intro T4 X4 e4
      refine own_retA X4 hx hlk hret rfl rfl rfl e4 (hb hby d1_16) (by decide) (by decide) ?_
      exact ⟨t1, rfl, E1, by rw [T1, hc10_3]; decide, N0, rfl⟩
    · skip
      refine own_icmpYes (n := 17) X0 hx (hb hby d1_10) (feq hc10_3).2 (by decide) (by decide) ?_
      refine own_iloadN (n := 18) X0 hx (hb hby d1_17) rfl rfl ?_
      refine own_iconst (n := 19) (z := (2 : Int32)) X0 hx (hb hby d1_18) rfl rfl ?_
      by_cases hc19_5 : p0 = (2 : Int32)
      · skip
        refine own_icmpNo (n := 22) X0 hx (hb hby d1_19) (teq hc19_5).2 rfl ?_
        refine own_getS (n := 25) X0 hx hZ hown (host := "") (Or.inl (ww33 hw)) Via.refl e0 S2 (hb hby d1_22) rfl ?_
        intro T6 X6 e6
        refine own_retA X6 hx hlk hret rfl rfl rfl e6 (hb hby d1_25) (by decide) (by decide) ?_
        exact ⟨t2, rfl, E2, by rw [T2, hc19_5]; decide, N0, rfl⟩
      · skip
        refine own_icmpYes (n := 26) X0 hx (hb hby d1_19) (feq hc19_5).2 (by decide) (by decide) ?_
        refine own_iloadN (n := 27) X0 hx (hb hby d1_26) rfl rfl ?_
        refine own_iconst (n := 28) (z := (3 : Int32)) X0 hx (hb hby d1_27) rfl rfl ?_
        by_cases hc28_7 : p0 = (3 : Int32)
        · skip
          refine own_icmpNo (n := 31) X0 hx (hb hby d1_28) (teq hc28_7).2 rfl ?_
          refine own_getS (n := 34) X0 hx hZ hown (host := "") (Or.inl (ww24 hw)) Via.refl e0 S3 (hb hby d1_31) rfl ?_
          intro T8 X8 e8
          refine own_retA X8 hx hlk hret rfl rfl rfl e8 (hb hby d1_34) (by decide) (by decide) ?_
          exact ⟨t3, rfl, E3, by rw [T3, hc28_7]; decide, N0, rfl⟩
        · skip
          refine own_icmpYes (n := 35) X0 hx (hb hby d1_28) (feq hc28_7).2 (by decide) (by decide) ?_
          refine own_iloadN (n := 36) X0 hx (hb hby d1_35) rfl rfl ?_
          refine own_iconst (n := 37) (z := (4 : Int32)) X0 hx (hb hby d1_36) rfl rfl ?_
          by_cases hc37_9 : p0 = (4 : Int32)
          · skip
            refine own_icmpNo (n := 40) X0 hx (hb hby d1_37) (teq hc37_9).2 rfl ?_
            refine own_getS (n := 43) X0 hx hZ hown (host := "") (Or.inl (ww39 hw)) Via.refl e0 S4 (hb hby d1_40) rfl ?_
            intro T10 X10 e10
            refine own_retA X10 hx hlk hret rfl rfl rfl e10 (hb hby d1_43) (by decide) (by decide) ?_
            exact ⟨t4, rfl, E4, by rw [T4, hc37_9]; decide, N0, rfl⟩
          · skip
            refine own_icmpYes (n := 44) X0 hx (hb hby d1_37) (feq hc37_9).2 (by decide) (by decide) ?_
            refine own_iloadN (n := 45) X0 hx (hb hby d1_44) rfl rfl ?_
            refine own_iconst (n := 46) (z := (5 : Int32)) X0 hx (hb hby d1_45) rfl rfl ?_
            by_cases hc46_11 : p0 = (5 : Int32)
            · skip
              refine own_icmpNo (n := 49) X0 hx (hb hby d1_46) (teq hc46_11).2 rfl ?_
              refine own_getS (n := 52) X0 hx hZ hown (host := "") (Or.inl (ww46 hw)) Via.refl e0 S5 (hb hby d1_49) rfl ?_
              intro T12 X12 e12
              refine own_retA X12 hx hlk hret rfl rfl rfl e12 (hb hby d1_52) (by decide) (by decide) ?_
              exact ⟨t5, rfl, E5, by rw [T5, hc46_11]; decide, N0, rfl⟩
            · skip
              refine own_icmpYes (n := 53) X0 hx (hb hby d1_46) (feq hc46_11).2 (by decide) (by decide) ?_
              refine own_iloadN (n := 54) X0 hx (hb hby d1_53) rfl rfl ?_
              refine own_bipush (n := 56) (z := (6 : Int32)) X0 hx (hb hby d1_54) rfl rfl ?_
              by_cases hc56_13 : p0 = (6 : Int32)
              · skip
                refine own_icmpNo (n := 59) X0 hx (hb hby d1_56) (teq hc56_13).2 rfl ?_
                refine own_getS (n := 62) X0 hx hZ hown (host := "") (Or.inl (ww43 hw)) Via.refl e0 S6 (hb hby d1_59) rfl ?_
                intro T14 X14 e14
                refine own_retA X14 hx hlk hret rfl rfl rfl e14 (hb hby d1_62) (by decide) (by decide) ?_
                exact ⟨t6, rfl, E6, by rw [T6, hc56_13]; decide, N0, rfl⟩
              · skip
                refine own_icmpYes (n := 63) X0 hx (hb hby d1_56) (feq hc56_13).2 (by decide) (by decide) ?_
                refine own_iloadN (n := 64) X0 hx (hb hby d1_63) rfl rfl ?_
                refine own_bipush (n := 66) (z := (7 : Int32)) X0 hx (hb hby d1_64) rfl rfl ?_
                by_cases hc66_15 : p0 = (7 : Int32)
                · skip
                  refine own_icmpNo (n := 69) X0 hx (hb hby d1_66) (teq hc66_15).2 rfl ?_
                  refine own_getS (n := 72) X0 hx hZ hown (host := "") (Or.inl (ww31 hw)) Via.refl e0 S7 (hb hby d1_69) rfl ?_
                  intro T16 X16 e16
                  refine own_retA X16 hx hlk hret rfl rfl rfl e16 (hb hby d1_72) (by decide) (by decide) ?_
                  exact ⟨t7, rfl, E7, by rw [T7, hc66_15]; decide, N0, rfl⟩
                · skip
                  refine own_icmpYes (n := 73) X0 hx (hb hby d1_66) (feq hc66_15).2 (by decide) (by decide) ?_
                  refine own_iloadN (n := 74) X0 hx (hb hby d1_73) rfl rfl ?_
                  refine own_bipush (n := 76) (z := (8 : Int32)) X0 hx (hb hby d1_74) rfl rfl ?_
                  by_cases hc76_17 : p0 = (8 : Int32)
                  · skip
                    refine own_icmpNo (n := 79) X0 hx (hb hby d1_76) (teq hc76_17).2 rfl ?_
                    refine own_getS (n := 82) X0 hx hZ hown (host := "") (Or.inl (ww36 hw)) Via.refl e0 S8 (hb hby d1_79) rfl ?_
                    intro T18 X18 e18
                    refine own_retA X18 hx hlk hret rfl rfl rfl e18 (hb hby d1_82) (by decide) (by decide) ?_
                    exact ⟨t8, rfl, E8, by rw [T8, hc76_17]; decide, N0, rfl⟩
                  · skip
                    refine own_icmpYes (n := 83) X0 hx (hb hby d1_76) (feq hc76_17).2 (by decide) (by decide) ?_
                    refine own_iloadN (n := 84) X0 hx (hb hby d1_83) rfl rfl ?_
                    refine own_bipush (n := 86) (z := (9 : Int32)) X0 hx (hb hby d1_84) rfl rfl ?_
                    by_cases hc86_19 : p0 = (9 : Int32)
                    · skip
                      refine own_icmpNo (n := 89) X0 hx (hb hby d1_86) (teq hc86_19).2 rfl ?_
                      refine own_getS (n := 92) X0 hx hZ hown (host := "") (Or.inl (ww45 hw)) Via.refl e0 S9 (hb hby d1_89) rfl ?_
                      intro T20 X20 e20
                      refine own_retA X20 hx hlk hret rfl rfl rfl e20 (hb hby d1_92) (by decide) (by decide) ?_
                      exact ⟨t9, rfl, E9, by rw [T9, hc86_19]; decide, N0, rfl⟩
                    · skip
                      refine own_icmpYes (n := 93) X0 hx (hb hby d1_86) (feq hc86_19).2 (by decide) (by decide) ?_
                      refine own_iloadN (n := 94) X0 hx (hb hby d1_93) rfl rfl ?_
                      refine own_bipush (n := 96) (z := (10 : Int32)) X0 hx (hb hby d1_94) rfl rfl ?_
                      by_cases hc96_21 : p0 = (10 : Int32)
                      · skip
                        refine own_icmpNo (n := 99) X0 hx (hb hby d1_96) (teq hc96_21).2 rfl ?_
                        refine own_getS (n := 102) X0 hx hZ hown (host := "") (Or.inl (ww30 hw)) Via.refl e0 S10 (hb hby d1_99) rfl ?_
                        intro T22 X22 e22
                        refine own_retA X22 hx hlk hret rfl rfl rfl e22 (hb hby d1_102) (by decide) (by decide) ?_
                        exact ⟨t10, rfl, E10, by rw [T10, hc96_21]; decide, N0, rfl⟩
                      · skip
                        refine own_icmpYes (n := 103) X0 hx (hb hby d1_96) (feq hc96_21).2 (by decide) (by decide) ?_
                        refine own_iloadN (n := 104) X0 hx (hb hby d1_103) rfl rfl ?_
                        refine own_bipush (n := 106) (z := (11 : Int32)) X0 hx (hb hby d1_104) rfl rfl ?_
                        by_cases hc106_23 : p0 = (11 : Int32)
                        · skip
                          refine own_icmpNo (n := 109) X0 hx (hb hby d1_106) (teq hc106_23).2 rfl ?_
                          refine own_getS (n := 112) X0 hx hZ hown (host := "") (Or.inl (ww35 hw)) Via.refl e0 S11 (hb hby d1_109) rfl ?_
                          intro T24 X24 e24
                          refine own_retA X24 hx hlk hret rfl rfl rfl e24 (hb hby d1_112) (by decide) (by decide) ?_
                          exact ⟨t11, rfl, E11, by rw [T11, hc106_23]; decide, N0, rfl⟩
                        · skip
                          refine own_icmpYes (n := 113) X0 hx (hb hby d1_106) (feq hc106_23).2 (by decide) (by decide) ?_
                          refine own_iloadN (n := 114) X0 hx (hb hby d1_113) rfl rfl ?_
                          refine own_bipush (n := 116) (z := (12 : Int32)) X0 hx (hb hby d1_114) rfl rfl ?_
                          by_cases hc116_25 : p0 = (12 : Int32)
                          · skip
                            refine own_icmpNo (n := 119) X0 hx (hb hby d1_116) (teq hc116_25).2 rfl ?_
                            refine own_getS (n := 122) X0 hx hZ hown (host := "") (Or.inl (ww41 hw)) Via.refl e0 S12 (hb hby d1_119) rfl ?_
                            intro T26 X26 e26
                            refine own_retA X26 hx hlk hret rfl rfl rfl e26 (hb hby d1_122) (by decide) (by decide) ?_
                            exact ⟨t12, rfl, E12, by rw [T12, hc116_25]; decide, N0, rfl⟩
                          · skip
                            refine own_icmpYes (n := 123) X0 hx (hb hby d1_116) (feq hc116_25).2 (by decide) (by decide) ?_
                            refine own_iloadN (n := 124) X0 hx (hb hby d1_123) rfl rfl ?_
                            refine own_bipush (n := 126) (z := (13 : Int32)) X0 hx (hb hby d1_124) rfl rfl ?_
                            by_cases hc126_27 : p0 = (13 : Int32)
                            · skip
                              refine own_icmpNo (n := 129) X0 hx (hb hby d1_126) (teq hc126_27).2 rfl ?_
                              refine own_getS (n := 132) X0 hx hZ hown (host := "") (Or.inl (ww42 hw)) Via.refl e0 S13 (hb hby d1_129) rfl ?_
                              intro T28 X28 e28
                              refine own_retA X28 hx hlk hret rfl rfl rfl e28 (hb hby d1_132) (by decide) (by decide) ?_
                              exact ⟨t13, rfl, E13, by rw [T13, hc126_27]; decide, N0, rfl⟩
                            · skip
                              refine own_icmpYes (n := 133) X0 hx (hb hby d1_126) (feq hc126_27).2 (by decide) (by decide) ?_
                              refine own_iloadN (n := 134) X0 hx (hb hby d1_133) rfl rfl ?_
                              refine own_bipush (n := 136) (z := (14 : Int32)) X0 hx (hb hby d1_134) rfl rfl ?_
                              by_cases hc136_29 : p0 = (14 : Int32)
                              · skip
                                refine own_icmpNo (n := 139) X0 hx (hb hby d1_136) (teq hc136_29).2 rfl ?_
                                refine own_getS (n := 142) X0 hx hZ hown (host := "") (Or.inl (ww26 hw)) Via.refl e0 S14 (hb hby d1_139) rfl ?_
                                intro T30 X30 e30
                                refine own_retA X30 hx hlk hret rfl rfl rfl e30 (hb hby d1_142) (by decide) (by decide) ?_
                                exact ⟨t14, rfl, E14, by rw [T14, hc136_29]; decide, N0, rfl⟩
                              · skip
                                refine own_icmpYes (n := 143) X0 hx (hb hby d1_136) (feq hc136_29).2 (by decide) (by decide) ?_
                                refine own_getS (n := 146) X0 hx hZ hown (host := "") (Or.inl (ww28 hw)) Via.refl e0 S15 (hb hby d1_143) rfl ?_
                                intro T31 X31 e31
                                refine own_retA X31 hx hlk hret rfl rfl rfl e31 (hb hby d1_146) (by decide) (by decide) ?_
                                exact ⟨t15, rfl, E15, by rw [T15]; exact (own_far (by assumption) (by assumption) (by assumption) (by assumption) (by assumption) (by assumption)).symm, N0, rfl⟩
theorem own_pn0 : plainFor x = true := plainFor_of_name (by first | (simp [plainName, overriddenIn]; done) | decide +kernel)
theorem own_pd0 : parseMethodDescriptor "(I)Lcom/example/skuld/skuld/formula/Operator;" = some ⟨[.int], some (.object "com/example/skuld/skuld/formula/Operator")⟩ := by decide +kernel
theorem own_pd1 : parseMethodDescriptor "()Z" = some ⟨[], some .boolean⟩ := by decide +kernel
theorem own_ef0_own_rm0 (m : MethodId) (y0 : Int32) : entryFrame m #[(.int y0)] maxLocals = mkF m 0 #[.val (.int y0), .unset, .unset, .unset] [] := by first | (simp [entryFrame, mkF, argsToLocals, Value.category, maxLocals]; done) | rfl
set_option maxRecDepth 65536 in
set_option maxHeartbeats 40000000 in
theorem own_rm0 (l : Launch) (Z : State) (a0 : Array Value) (hw : ∀ d ∈ tables_1, d.before a0 Z = true) (p0 : Int32) (t0 t1 t2 t3 t4 t5 t6 t7 t8 t9 t10 t11 t12 t13 t14 t15 : Addr) (h0 : Heap) (n0 : Nat) (Z0 : n0 ≤ h0.size) (S0 : Sta Z h0 "com/example/skuld/skuld/formula/Operator" "TRUE" "Lcom/example/skuld/skuld/formula/Operator;" (.ref t0)) (S1 : Sta Z h0 "com/example/skuld/skuld/formula/Operator" "FALSE" "Lcom/example/skuld/skuld/formula/Operator;" (.ref t1)) (S2 : Sta Z h0 "com/example/skuld/skuld/formula/Operator" "PROPOSITION" "Lcom/example/skuld/skuld/formula/Operator;" (.ref t2)) (S3 : Sta Z h0 "com/example/skuld/skuld/formula/Operator" "NOT" "Lcom/example/skuld/skuld/formula/Operator;" (.ref t3)) (S4 : Sta Z h0 "com/example/skuld/skuld/formula/Operator" "AND" "Lcom/example/skuld/skuld/formula/Operator;" (.ref t4)) (S5 : Sta Z h0 "com/example/skuld/skuld/formula/Operator" "OR" "Lcom/example/skuld/skuld/formula/Operator;" (.ref t5)) (S6 : Sta Z h0 "com/example/skuld/skuld/formula/Operator" "IMPLIES" "Lcom/example/skuld/skuld/formula/Operator;" (.ref t6)) (S7 : Sta Z h0 "com/example/skuld/skuld/formula/Operator" "IFF" "Lcom/example/skuld/skuld/formula/Operator;" (.ref t7)) (S8 : Sta Z h0 "com/example/skuld/skuld/formula/Operator" "NEXT" "Lcom/example/skuld/skuld/formula/Operator;" (.ref t8)) (S9 : Sta Z h0 "com/example/skuld/skuld/formula/Operator" "FINALLY" "Lcom/example/skuld/skuld/formula/Operator;" (.ref t9)) (S10 : Sta Z h0 "com/example/skuld/skuld/formula/Operator" "GLOBALLY" "Lcom/example/skuld/skuld/formula/Operator;" (.ref t10)) (S11 : Sta Z h0 "com/example/skuld/skuld/formula/Operator" "UNTIL" "Lcom/example/skuld/skuld/formula/Operator;" (.ref t11)) (S12 : Sta Z h0 "com/example/skuld/skuld/formula/Operator" "RELEASE" "Lcom/example/skuld/skuld/formula/Operator;" (.ref t12)) (S13 : Sta Z h0 "com/example/skuld/skuld/formula/Operator" "WEAK_UNTIL" "Lcom/example/skuld/skuld/formula/Operator;" (.ref t13)) (S14 : Sta Z h0 "com/example/skuld/skuld/formula/Operator" "ALL_PATHS" "Lcom/example/skuld/skuld/formula/Operator;" (.ref t14)) (S15 : Sta Z h0 "com/example/skuld/skuld/formula/Operator" "SOME_PATH" "Lcom/example/skuld/skuld/formula/Operator;" (.ref t15)) (E0 : Exa Z h0 t0 "com/example/skuld/skuld/formula/Operator") (T0 : own_T t0 t8 t9 t10 t11 t12 t13 = 0) (E1 : Exa Z h0 t1 "com/example/skuld/skuld/formula/Operator") (T1 : own_T t1 t8 t9 t10 t11 t12 t13 = 0) (E2 : Exa Z h0 t2 "com/example/skuld/skuld/formula/Operator") (T2 : own_T t2 t8 t9 t10 t11 t12 t13 = 0) (E3 : Exa Z h0 t3 "com/example/skuld/skuld/formula/Operator") (T3 : own_T t3 t8 t9 t10 t11 t12 t13 = 0) (E4 : Exa Z h0 t4 "com/example/skuld/skuld/formula/Operator") (T4 : own_T t4 t8 t9 t10 t11 t12 t13 = 0) (E5 : Exa Z h0 t5 "com/example/skuld/skuld/formula/Operator") (T5 : own_T t5 t8 t9 t10 t11 t12 t13 = 0) (E6 : Exa Z h0 t6 "com/example/skuld/skuld/formula/Operator") (T6 : own_T t6 t8 t9 t10 t11 t12 t13 = 0) (E7 : Exa Z h0 t7 "com/example/skuld/skuld/formula/Operator") (T7 : own_T t7 t8 t9 t10 t11 t12 t13 = 0) (E8 : Exa Z h0 t8 "com/example/skuld/skuld/formula/Operator") (T8 : own_T t8 t8 t9 t10 t11 t12 t13 = 1) (E9 : Exa Z h0 t9 "com/example/skuld/skuld/formula/Operator") (T9 : own_T t9 t8 t9 t10 t11 t12 t13 = 1) (E10 : Exa Z h0 t10 "com/example/skuld/skuld/formula/Operator") (T10 : own_T t10 t8 t9 t10 t11 t12 t13 = 1) (E11 : Exa Z h0 t11 "com/example/skuld/skuld/formula/Operator") (T11 : own_T t11 t8 t9 t10 t11 t12 t13 = 1) (E12 : Exa Z h0 t12 "com/example/skuld/skuld/formula/Operator") (T12 : own_T t12 t8 t9 t10 t11 t12 t13 = 1) (E13 : Exa Z h0 t13 "com/example/skuld/skuld/formula/Operator") (T13 : own_T t13 t8 t9 t10 t11 t12 t13 = 1) (E14 : Exa Z h0 t14 "com/example/skuld/skuld/formula/Operator") (T14 : own_T t14 t8 t9 t10 t11 t12 t13 = 0) (E15 : Exa Z h0 t15 "com/example/skuld/skuld/formula/Operator") (T15 : own_T t15 t8 t9 t10 t11 t12 t13 = 0) :
    own_Met l Z x code maxLocals ret tables_1 room_1 #[(.int p0)] h0 (fun v h L => v = some (.int 1) ∧ Fr n0 L) := by
  refine own_met own_pn0 ?_
  intro p e s m below meth c s₁ hx hby hml hown hnm hret hlk hZ X0 e0
  have N0 := Fr.nil n0
  refine own_cast (own_ef0_own_rm0 m p0) ?_
  refine own_iloadN (n := 1) X0 hx (hb hby at_0) rfl rfl ?_
  refine own_bipush (n := 3) (z := (15 : Int32)) X0 hx (hb hby at_1) rfl rfl ?_
  refine own_iand (n := 4) X0 hx (hb hby at_3) rfl rfl ?_
  refine own_istoreN (n := 5) (l' := #[.val (.int p0), .val (.int (p0 &&& (15 : Int32))), .unset, .unset]) X0 hx (hb hby at_4) rfl rfl ?_
  refine own_iloadN (n := 6) X0 hx (hb hby at_5) rfl rfl ?_
  refine own_S (n := 9) (argsL := [(.int (p0 &&& (15 : Int32)))]) (rest := []) X0 hx hZ hown (own_rmP l Z a0 hw (p0 &&& (15 : Int32)) t0 t1 t2 t3 t4 t5 t6 t7 t8 t9 t10 t11 t12 t13 t14 t15 h0 n0 Z0 S0 S1 S2 S3 S4 S5 S6 S7 S8 S9 S10 S11 S12 S13 S14 S15 E0 T0 E1 T1 E2 T2 E3 T3 E4 T4 E5 T5 E6 T6 E7 T7 E8 T8 E9 T9 E10 T10 E11 T11 E12 T12 E13 T13 E14 T14 E15 T15) (ww0 hw) (ww1 hw) (ww2 hw) (ww3 hw) (by decide) e0 (by rw [hml]; rfl) (lenOf own_pd0 rfl) rfl (hb hby at_6) (Nat.le_of_ble_eq_true rfl) (Nat.le_of_ble_eq_true rfl) (Nat.le_of_ble_eq_true rfl) (Nat.le_of_ble_eq_true rfl) rfl ?_
  rintro v1 T1 L1 X1 ⟨r1, rfl, Er1, Tr1, Nq1, eq1⟩
  have N1 := Fr.app N0 Nq1
  change own_G p e below _ _ (mkF m 9 _ [(.ref r1)])
  refine own_astoreN (n := 10) (l' := #[.val (.int p0), .val (.int (p0 &&& (15 : Int32))), .val (.ref r1), .unset]) X1 hx (hb hby at_9) rfl rfl rfl ?_
  refine own_iloadN (n := 11) X1 hx (hb hby at_10) rfl rfl ?_
  refine own_bipush (n := 13) (z := (8 : Int32)) X1 hx (hb hby at_11) rfl rfl ?_
  by_cases hc13_2 : (p0 &&& (15 : Int32)) < (8 : Int32)
  · skip
    refine own_icmpYes (n := 26) X1 hx (hb hby at_13) (tlt hc13_2).1 (by decide) (by decide) ?_
    refine own_iconst (n := 27) (z := (0 : Int32)) X1 hx (hb hby at_26) rfl rfl ?_
    refine own_istoreN (n := 28) (l' := #[.val (.int p0), .val (.int (p0 &&& (15 : Int32))), .val (.ref r1), .val (.int (0 : Int32))]) X1 hx (hb hby at_27) rfl rfl ?_
    refine own_aloadN (n := 29) X1 hx (hb hby at_28) rfl rfl rfl ?_
    refine own_V (n := 32) (argsL := []) (rest := []) (a := r1) X1 hx hZ hown (own_rmT l Z a0 hw r1 t8 t9 t10 t11 t12 t13 h0 n0 Z0 S8 S9 S10 S11 S12 S13) (ww7 hw) (ww8 hw) (notFace_of_selects (args := #[]) (mvT hZ (ww10 hw))) (ww10 hw) (ww9 hw) (ww5 hw) (ww11 hw) (by decide) eq1 Er1 (by rw [hml]; rfl) (lenOf own_pd1 rfl) rfl (hb hby at_29) (Nat.le_of_ble_eq_true rfl) (Nat.le_of_ble_eq_true rfl) (Nat.le_of_ble_eq_true rfl) (Nat.le_of_ble_eq_true rfl) rfl ?_
    rintro v3 T3 L3 X3 ⟨rfl, Nq3, eq3⟩
    have N3 := Fr.app N1 Nq3
    change own_G p e below _ _ (mkF m 32 _ [(.int (own_T r1 t8 t9 t10 t11 t12 t13))])
    refine own_iloadN (n := 33) X3 hx (hb hby at_32) rfl rfl ?_
    refine own_icmpNo (n := 36) X3 hx (hb hby at_33) (teq (by rw [Tr1]; simp [own_exp, hc13_2] : (own_T r1 t8 t9 t10 t11 t12 t13) = (0 : Int32))).2 rfl ?_
    refine own_iconst (n := 37) (z := (1 : Int32)) X3 hx (hb hby at_36) rfl rfl ?_
    refine own_goto (n := 41) X3 hx (hb hby at_37) (by decide) (by decide) ?_
    refine own_retZ X3 hx hlk hret (by simp) eq3 (w := (1 : Int32)) rfl (hb hby at_41) (by decide) (by decide) ?_
    exact ⟨rfl, N3⟩
  · skip
    refine own_icmpNo (n := 16) X1 hx (hb hby at_13) (flt hc13_2).1 rfl ?_
    refine own_iloadN (n := 17) X1 hx (hb hby at_16) rfl rfl ?_
    refine own_bipush (n := 19) (z := (13 : Int32)) X1 hx (hb hby at_17) rfl rfl ?_
    by_cases hc19_4 : (13 : Int32) < (p0 &&& (15 : Int32))
    · skip
      refine own_icmpYes (n := 26) X1 hx (hb hby at_19) (tlt hc19_4).2.2.1 (by decide) (by decide) ?_
      refine own_iconst (n := 27) (z := (0 : Int32)) X1 hx (hb hby at_26) rfl rfl ?_
      refine own_istoreN (n := 28) (l' := #[.val (.int p0), .val (.int (p0 &&& (15 : Int32))), .val (.ref r1), .val (.int (0 : Int32))]) X1 hx (hb hby at_27) rfl rfl ?_
      refine own_aloadN (n := 29) X1 hx (hb hby at_28) rfl rfl rfl ?_
      refine own_V (n := 32) (argsL := []) (rest := []) (a := r1) X1 hx hZ hown (own_rmT l Z a0 hw r1 t8 t9 t10 t11 t12 t13 h0 n0 Z0 S8 S9 S10 S11 S12 S13) (ww7 hw) (ww8 hw) (notFace_of_selects (args := #[]) (mvT hZ (ww10 hw))) (ww10 hw) (ww9 hw) (ww5 hw) (ww11 hw) (by decide) eq1 Er1 (by rw [hml]; rfl) (lenOf own_pd1 rfl) rfl (hb hby at_29) (Nat.le_of_ble_eq_true rfl) (Nat.le_of_ble_eq_true rfl) (Nat.le_of_ble_eq_true rfl) (Nat.le_of_ble_eq_true rfl) rfl ?_
      rintro v5 T5 L5 X5 ⟨rfl, Nq5, eq5⟩
      have N5 := Fr.app N1 Nq5
      change own_G p e below _ _ (mkF m 32 _ [(.int (own_T r1 t8 t9 t10 t11 t12 t13))])
      refine own_iloadN (n := 33) X5 hx (hb hby at_32) rfl rfl ?_
      refine own_icmpNo (n := 36) X5 hx (hb hby at_33) (teq (by rw [Tr1]; simp [own_exp, hc13_2, hc19_4] : (own_T r1 t8 t9 t10 t11 t12 t13) = (0 : Int32))).2 rfl ?_
      refine own_iconst (n := 37) (z := (1 : Int32)) X5 hx (hb hby at_36) rfl rfl ?_
      refine own_goto (n := 41) X5 hx (hb hby at_37) (by decide) (by decide) ?_
      refine own_retZ X5 hx hlk hret (by simp) eq5 (w := (1 : Int32)) rfl (hb hby at_41) (by decide) (by decide) ?_
      exact ⟨rfl, N5⟩
    · skip
      refine own_icmpNo (n := 22) X1 hx (hb hby at_19) (flt hc19_4).2.2.1 rfl ?_
      refine own_iconst (n := 23) (z := (1 : Int32)) X1 hx (hb hby at_22) rfl rfl ?_
      refine own_goto (n := 27) X1 hx (hb hby at_23) (by decide) (by decide) ?_
      refine own_istoreN (n := 28) (l' := #[.val (.int p0), .val (.int (p0 &&& (15 : Int32))), .val (.ref r1), .val (.int (1 : Int32))]) X1 hx (hb hby at_27) rfl rfl ?_
      refine own_aloadN (n := 29) X1 hx (hb hby at_28) rfl rfl rfl ?_
      refine own_V (n := 32) (argsL := []) (rest := []) (a := r1) X1 hx hZ hown (own_rmT l Z a0 hw r1 t8 t9 t10 t11 t12 t13 h0 n0 Z0 S8 S9 S10 S11 S12 S13) (ww7 hw) (ww8 hw) (notFace_of_selects (args := #[]) (mvT hZ (ww10 hw))) (ww10 hw) (ww9 hw) (ww5 hw) (ww11 hw) (by decide) eq1 Er1 (by rw [hml]; rfl) (lenOf own_pd1 rfl) rfl (hb hby at_29) (Nat.le_of_ble_eq_true rfl) (Nat.le_of_ble_eq_true rfl) (Nat.le_of_ble_eq_true rfl) (Nat.le_of_ble_eq_true rfl) rfl ?_
      rintro v6 T6 L6 X6 ⟨rfl, Nq6, eq6⟩
      have N6 := Fr.app N1 Nq6
      change own_G p e below _ _ (mkF m 32 _ [(.int (own_T r1 t8 t9 t10 t11 t12 t13))])
      refine own_iloadN (n := 33) X6 hx (hb hby at_32) rfl rfl ?_
      refine own_icmpNo (n := 36) X6 hx (hb hby at_33) (teq (by rw [Tr1]; simp [own_exp, hc13_2, hc19_4] : (own_T r1 t8 t9 t10 t11 t12 t13) = (1 : Int32))).2 rfl ?_
      refine own_iconst (n := 37) (z := (1 : Int32)) X6 hx (hb hby at_36) rfl rfl ?_
      refine own_goto (n := 41) X6 hx (hb hby at_37) (by decide) (by decide) ?_
      refine own_retZ X6 hx hlk hret (by simp) eq6 (w := (1 : Int32)) rfl (hb hby at_41) (by decide) (by decide) ?_
      exact ⟨rfl, N6⟩
set_option maxRecDepth 65536 in
set_option maxHeartbeats 40000000 in
theorem comes_1 {Post : Tables → Env → Array Value → State → Outcome → State → Prop} (hpost : ∀ tb e args s v u, (limb_1_1.after args s (.returned v) u = true ∧ limb_1_2.after args s (.returned v) u = true ∧ True) → FrameEnd s (.returned v) u (Jvm.fieldLocs frame_1_writes args s ++ Jvm.arrayLocs frame_1_arrays args s ++ Jvm.staticLocs frame_1_statics s) 0 0 → Post tb e args s (.returned v) u) :
    ArmFor flags0 classFile x code maxLocals ret World_1 tables_1 room_1 Calls_1 rest_1 Pre_1 Post := by
  intro l hfl _ _ p e ha hc hk s m args below hf hA hF happ hP
  obtain ⟨hcalls, hrest, hpre⟩ := hP
  obtain ⟨-, -, -, hnamed, -, -, -, hat⟩ := (Spec.applies_iff hf).mp happ
  obtain ⟨hg, hn⟩ := and_e (Cond.before_iff.mp (show (Jvm.Cond.and given_1 narrow_1).before args s = true from hpre))
  obtain ⟨hcount, hr0⟩ := and_e hg
  obtain ⟨w0, rfl⟩ : ∃ w0 : Value, args = #[w0] := by
    have hs : args.size = 1 := by simpa [Cond.value, given_1] using hcount
    obtain ⟨L⟩ := args
    match L, hs with
    | [w0], _ => exact ⟨w0, rfl⟩
  have hw := fun d (hd : d ∈ tables_1) => atoms_spec (ws := Jvm.Cond.code x code maxLocals ret :: tables_1) hat d (List.mem_cons_of_mem _ hd)
  have hfit : Fit s := fun {y c} hc i hi => by
    obtain ⟨ha, rfl⟩ := Array.getElem?_eq_some_iff.mp hc
    have q := List.all_eq_true.mp ((Array.all_eq_true_iff_forall_mem.mp hF) _ (Array.getElem_mem ha)) i (List.mem_range.mpr hi)
    simpa [Array.getElem?_eq_getElem hi] using q
  obtain ⟨i0, ev0⟩ := is_v hr0
  obtain rfl : w0 = (.int i0) := Option.some.inj ev0
  obtain ⟨hn_0, hm_0⟩ := and_e hn
  obtain ⟨hn_1, hm_1⟩ := and_e hm_0
  obtain ⟨hn_2, hm_2⟩ := and_e hm_1
  obtain ⟨hn_3, hm_3⟩ := and_e hm_2
  obtain ⟨hn_4, hm_4⟩ := and_e hm_3
  obtain ⟨hn_5, hm_5⟩ := and_e hm_4
  obtain ⟨hn_6, hm_6⟩ := and_e hm_5
  obtain ⟨hn_7, hm_7⟩ := and_e hm_6
  obtain ⟨hn_8, hm_8⟩ := and_e hm_7
  obtain ⟨hn_9, hm_9⟩ := and_e hm_8
  obtain ⟨hn_10, hm_10⟩ := and_e hm_9
  obtain ⟨hn_11, hm_11⟩ := and_e hm_10
  obtain ⟨hn_12, hm_12⟩ := and_e hm_11
  obtain ⟨hn_13, hm_13⟩ := and_e hm_12
  obtain ⟨hn_14, hm_14⟩ := and_e hm_13
  obtain ⟨hn_15, hm_15⟩ := and_e hm_14
  obtain ⟨hn_16, hm_16⟩ := and_e hm_15
  obtain ⟨hn_17, hm_17⟩ := and_e hm_16
  obtain ⟨hn_18, hm_18⟩ := and_e hm_17
  obtain ⟨hn_19, hm_19⟩ := and_e hm_18
  obtain ⟨hn_20, hm_20⟩ := and_e hm_19
  obtain ⟨hn_21, hm_21⟩ := and_e hm_20
  obtain ⟨hn_22, hm_22⟩ := and_e hm_21
  obtain ⟨hn_23, hm_23⟩ := and_e hm_22
  obtain ⟨hn_24, hm_24⟩ := and_e hm_23
  obtain ⟨hn_25, hm_25⟩ := and_e hm_24
  obtain ⟨hn_26, hm_26⟩ := and_e hm_25
  obtain ⟨hn_27, hm_27⟩ := and_e hm_26
  obtain ⟨hn_28, hm_28⟩ := and_e hm_27
  obtain ⟨hn_29, hm_29⟩ := and_e hm_28
  obtain ⟨hn_30, hm_30⟩ := and_e hm_29
  have hn_31 := hm_30
  obtain ⟨t0, ev0'⟩ := exa_v hn_0
  have E0 := Exa.start ev0' hn_0
  have S0 := Sta.start ev0' (Or.inr ⟨(ww5 hw), (ww6 hw)⟩)
  obtain ⟨t8, ev8'⟩ := exa_v hn_1
  have E8 := Exa.start ev8' hn_1
  have S8 := Sta.start ev8' (Or.inr ⟨(ww5 hw), (ww13 hw)⟩)
  obtain ⟨t9, ev9'⟩ := exa_v hn_4
  have E9 := Exa.start ev9' hn_4
  have S9 := Sta.start ev9' (Or.inr ⟨(ww5 hw), (ww15 hw)⟩)
  obtain ⟨t10, ev10'⟩ := exa_v hn_6
  have E10 := Exa.start ev10' hn_6
  have S10 := Sta.start ev10' (Or.inr ⟨(ww5 hw), (ww17 hw)⟩)
  obtain ⟨t11, ev11'⟩ := exa_v hn_8
  have E11 := Exa.start ev11' hn_8
  have S11 := Sta.start ev11' (Or.inr ⟨(ww5 hw), (ww19 hw)⟩)
  obtain ⟨t12, ev12'⟩ := exa_v hn_10
  have E12 := Exa.start ev12' hn_10
  have S12 := Sta.start ev12' (Or.inr ⟨(ww5 hw), (ww21 hw)⟩)
  obtain ⟨t13, ev13'⟩ := exa_v hn_12
  have E13 := Exa.start ev13' hn_12
  have S13 := Sta.start ev13' (Or.inr ⟨(ww5 hw), (ww23 hw)⟩)
  obtain ⟨t3, ev3'⟩ := exa_v hn_14
  have E3 := Exa.start ev3' hn_14
  have S3 := Sta.start ev3' (Or.inr ⟨(ww5 hw), (ww25 hw)⟩)
  obtain ⟨t14, ev14'⟩ := exa_v hn_16
  have E14 := Exa.start ev14' hn_16
  have S14 := Sta.start ev14' (Or.inr ⟨(ww5 hw), (ww27 hw)⟩)
  obtain ⟨t15, ev15'⟩ := exa_v hn_18
  have E15 := Exa.start ev15' hn_18
  have S15 := Sta.start ev15' (Or.inr ⟨(ww5 hw), (ww29 hw)⟩)
  obtain ⟨t7, ev7'⟩ := exa_v hn_20
  have E7 := Exa.start ev7' hn_20
  have S7 := Sta.start ev7' (Or.inr ⟨(ww5 hw), (ww32 hw)⟩)
  obtain ⟨t2, ev2'⟩ := exa_v hn_22
  have E2 := Exa.start ev2' hn_22
  have S2 := Sta.start ev2' (Or.inr ⟨(ww5 hw), (ww34 hw)⟩)
  obtain ⟨t1, ev1'⟩ := exa_v hn_24
  have E1 := Exa.start ev1' hn_24
  have S1 := Sta.start ev1' (Or.inr ⟨(ww5 hw), (ww38 hw)⟩)
  obtain ⟨t4, ev4'⟩ := exa_v hn_26
  have E4 := Exa.start ev4' hn_26
  have S4 := Sta.start ev4' (Or.inr ⟨(ww5 hw), (ww40 hw)⟩)
  obtain ⟨t6, ev6'⟩ := exa_v hn_28
  have E6 := Exa.start ev6' hn_28
  have S6 := Sta.start ev6' (Or.inr ⟨(ww5 hw), (ww44 hw)⟩)
  obtain ⟨t5, ev5'⟩ := exa_v hn_30
  have E5 := Exa.start ev5' hn_30
  have S5 := Sta.start ev5' (Or.inr ⟨(ww5 hw), (ww47 hw)⟩)
  have o0 := own_ord ev0' hn_2
  have o8 := own_ord ev8' hn_3
  have o9 := own_ord ev9' hn_5
  have o10 := own_ord ev10' hn_7
  have o11 := own_ord ev11' hn_9
  have o12 := own_ord ev12' hn_11
  have o13 := own_ord ev13' hn_13
  have o3 := own_ord ev3' hn_15
  have o14 := own_ord ev14' hn_17
  have o15 := own_ord ev15' hn_19
  have o7 := own_ord ev7' hn_21
  have o2 := own_ord ev2' hn_23
  have o1 := own_ord ev1' hn_25
  have o4 := own_ord ev4' hn_27
  have o6 := own_ord ev6' hn_29
  have o5 := own_ord ev5' hn_31
  have T0 : own_T t0 t8 t9 t10 t11 t12 t13 = 0 := by unfold own_T; rw [if_neg]; simp [own_dist o0 o8 (by decide), own_dist o0 o9 (by decide), own_dist o0 o10 (by decide), own_dist o0 o11 (by decide), own_dist o0 o12 (by decide), own_dist o0 o13 (by decide)]
  have T1 : own_T t1 t8 t9 t10 t11 t12 t13 = 0 := by unfold own_T; rw [if_neg]; simp [own_dist o1 o8 (by decide), own_dist o1 o9 (by decide), own_dist o1 o10 (by decide), own_dist o1 o11 (by decide), own_dist o1 o12 (by decide), own_dist o1 o13 (by decide)]
  have T2 : own_T t2 t8 t9 t10 t11 t12 t13 = 0 := by unfold own_T; rw [if_neg]; simp [own_dist o2 o8 (by decide), own_dist o2 o9 (by decide), own_dist o2 o10 (by decide), own_dist o2 o11 (by decide), own_dist o2 o12 (by decide), own_dist o2 o13 (by decide)]
  have T3 : own_T t3 t8 t9 t10 t11 t12 t13 = 0 := by unfold own_T; rw [if_neg]; simp [own_dist o3 o8 (by decide), own_dist o3 o9 (by decide), own_dist o3 o10 (by decide), own_dist o3 o11 (by decide), own_dist o3 o12 (by decide), own_dist o3 o13 (by decide)]
  have T4 : own_T t4 t8 t9 t10 t11 t12 t13 = 0 := by unfold own_T; rw [if_neg]; simp [own_dist o4 o8 (by decide), own_dist o4 o9 (by decide), own_dist o4 o10 (by decide), own_dist o4 o11 (by decide), own_dist o4 o12 (by decide), own_dist o4 o13 (by decide)]
  have T5 : own_T t5 t8 t9 t10 t11 t12 t13 = 0 := by unfold own_T; rw [if_neg]; simp [own_dist o5 o8 (by decide), own_dist o5 o9 (by decide), own_dist o5 o10 (by decide), own_dist o5 o11 (by decide), own_dist o5 o12 (by decide), own_dist o5 o13 (by decide)]
  have T6 : own_T t6 t8 t9 t10 t11 t12 t13 = 0 := by unfold own_T; rw [if_neg]; simp [own_dist o6 o8 (by decide), own_dist o6 o9 (by decide), own_dist o6 o10 (by decide), own_dist o6 o11 (by decide), own_dist o6 o12 (by decide), own_dist o6 o13 (by decide)]
  have T7 : own_T t7 t8 t9 t10 t11 t12 t13 = 0 := by unfold own_T; rw [if_neg]; simp [own_dist o7 o8 (by decide), own_dist o7 o9 (by decide), own_dist o7 o10 (by decide), own_dist o7 o11 (by decide), own_dist o7 o12 (by decide), own_dist o7 o13 (by decide)]
  have T8 : own_T t8 t8 t9 t10 t11 t12 t13 = 1 := by unfold own_T; rw [if_pos]; simp
  have T9 : own_T t9 t8 t9 t10 t11 t12 t13 = 1 := by unfold own_T; rw [if_pos]; simp
  have T10 : own_T t10 t8 t9 t10 t11 t12 t13 = 1 := by unfold own_T; rw [if_pos]; simp
  have T11 : own_T t11 t8 t9 t10 t11 t12 t13 = 1 := by unfold own_T; rw [if_pos]; simp
  have T12 : own_T t12 t8 t9 t10 t11 t12 t13 = 1 := by unfold own_T; rw [if_pos]; simp
  have T13 : own_T t13 t8 t9 t10 t11 t12 t13 = 1 := by unfold own_T; rw [if_pos]; simp
  have T14 : own_T t14 t8 t9 t10 t11 t12 t13 = 0 := by unfold own_T; rw [if_neg]; simp [own_dist o14 o8 (by decide), own_dist o14 o9 (by decide), own_dist o14 o10 (by decide), own_dist o14 o11 (by decide), own_dist o14 o12 (by decide), own_dist o14 o13 (by decide)]
  have T15 : own_T t15 t8 t9 t10 t11 t12 t13 = 0 := by unfold own_T; rw [if_neg]; simp [own_dist o15 o8 (by decide), own_dist o15 o9 (by decide), own_dist o15 o10 (by decide), own_dist o15 o11 (by decide), own_dist o15 o12 (by decide), own_dist o15 o13 (by decide)]
  obtain ⟨n, o, h1, h2, h3, _, L, rfl, ⟨rfl, N⟩, hq⟩ := own_rm0 l s _ hw i0 t0 t1 t2 t3 t4 t5 t6 t7 t8 t9 t10 t11 t12 t13 t14 t15 s.heap s.heap.size (Nat.le_refl _) S0 S1 S2 S3 S4 S5 S6 S7 S8 S9 S10 S11 S12 S13 S14 S15 E0 T0 E1 T1 E2 T2 E3 T3 E4 T4 E5 T5 E6 T6 E7 T7 E8 T8 E9 T9 E10 T10 E11 T11 E12 T12 E13 T13 E14 T14 E15 T15 p e ha hc hk s m _ below hf ((Spec.applies_iff_loose hf).mp happ).1 ⟨rfl, State.Warmed39.refl s, rfl⟩ trivial
  refine ⟨n, _, h1, h2, h3, hpost _ _ _ _ _ _ ⟨Cond.after_iff.mpr rfl, Cond.after_iff.mpr (eq_i res_at (Term.int_eval (1)) rfl), trivial⟩ ⟨hq.1, hq.2.1, (hq.2.2.sift fun y hy => Or.inr (N y hy)).mono (by decide) (by decide)⟩⟩
theorem main_1_1 : Claimed_1_1 := comes_1 fun _ _ _ _ _ _ h hF => ⟨h.1, hF⟩
theorem main_1_2 : Claimed_1_2 := comes_1 fun _ _ _ _ _ _ h hF => ⟨h.2.1, hF⟩
end Jvm.Pilot.@@N@@
namespace Jvm.Pilot.@@N@@
open Jvm Jvm.ClassFile Sem Op Lib Jvm.Free Jvm.Stand Jvm.Pilot.@@N@@.Jvm.D
/-! MADE BY PROGRAM (witnessworld.py) out of the Statement's table words and the real class files: 12 classes; the members and pool entries that the words name. The judged class is class 1, her method 2. -/
namespace start1
open Jvm.ClassFile
def u (s : String) : CpInfo := .utf8 (stringToUtf16 s)
/-- a pool by its gaps: so many unusable entries, then the entry; so many at the end -/
def gap : Nat → List CpInfo → List CpInfo
  | 0, r => r
  | n + 1, r => .unusable :: gap n r
def poolList (es : List (Nat × CpInfo)) (last : Nat) : List CpInfo := es.foldr (fun e r => gap e.1 (e.2 :: r)) (gap last [])
def pool (es : List (Nat × CpInfo)) (last : Nat) : Array CpInfo := ⟨poolList es last⟩
def fileOf (pool : Array CpInfo) (this : Nat) (attrs : Array Attribute := #[]) (ms : Array MethodInfo := #[]) (fl : Nat := 33) (sup : Nat := 0) (ifs : Array Nat := #[]) (fds : Array FieldInfo := #[]) : ClassFile where
  minorVersion := 0
  majorVersion := 65
  constantPool := pool
  accessFlags := fl
  thisClass := this
  superClass := sup
  interfaces := ifs
  fields := fds
  methods := ms
  attributes := attrs
def plain (name : String) (sup : Option ClassId) : Class where
  name := name
  kind := .ordinary
  loader := none
  accessFlags := 33
  super := sup
  interfaces := #[]
  cf := none
  fields := #[]
  methods := #[]
  instanceTypes := #[]
  staticTypes := #[]
  resolved := #[]
  callSites := []
  init := .initialized
  statics := none
  mirror := none

def pool0 : Array CpInfo := pool [(5, u "<init>"), (0, u "()V"), (1, .class_ 10), (1, u "java/lang/Object")] 113

def k0m0 : Method := { name := "<init>", desc := "()V", sig := { parameters := [], returnType := none }, accessFlags := 1, code := none }
/-- java/lang/Object -/
def k0 : Class := { plain "java/lang/Object" none with
  accessFlags := 33
  interfaces := #[]
  cf := some (fileOf pool0 8 #[] #[{ accessFlags := 1, nameIndex := 5, descriptorIndex := 6, attributes := #[] }] 33 0 #[] #[])
  fields := #[]
  methods := #[k0m0]
  instanceTypes := #[]
  staticTypes := #[]
  resolved := Array.replicate 124 none
  statics := none }

def pool1 : Array CpInfo := pool [(2, .class_ 4), (1, u "java/lang/Object"), (0, u "<init>"), (0, u "()V"), (0, .fieldref 8 9), (0, .class_ 10), (0, .nameAndType 11 12), (0, u "com/example/skuld/skuld/formula/Operator"), (0, u "TRUE"), (0, u "Lcom/example/skuld/skuld/formula/Operator;"), (0, .fieldref 8 14), (0, .nameAndType 15 12), (0, u "FALSE"), (0, .fieldref 8 17), (0, .nameAndType 18 12), (0, u "PROPOSITION"), (0, .fieldref 8 20), (0, .nameAndType 21 12), (0, u "NOT"), (0, .fieldref 8 23), (0, .nameAndType 24 12), (0, u "AND"), (0, .fieldref 8 26), (0, .nameAndType 27 12), (0, u "OR"), (0, .fieldref 8 29), (0, .nameAndType 30 12), (0, u "IMPLIES"), (0, .fieldref 8 32), (0, .nameAndType 33 12), (0, u "IFF"), (0, .fieldref 8 35), (0, .nameAndType 36 12), (0, u "NEXT"), (0, .fieldref 8 38), (0, .nameAndType 39 12), (0, u "FINALLY"), (0, .fieldref 8 41), (0, .nameAndType 42 12), (0, u "GLOBALLY"), (0, .fieldref 8 44), (0, .nameAndType 45 12), (0, u "UNTIL"), (0, .fieldref 8 47), (0, .nameAndType 48 12), (0, u "RELEASE"), (0, .fieldref 8 50), (0, .nameAndType 51 12), (0, u "WEAK_UNTIL"), (0, .fieldref 8 53), (0, .nameAndType 54 12), (0, u "ALL_PATHS"), (0, .fieldref 8 56), (0, .nameAndType 57 12), (0, u "SOME_PATH"), (0, .methodref 59 60), (0, .class_ 61), (0, .nameAndType 62 63), (0, u "com/example/skuld/skuld/formula/OperatorIsTemporalPinLaw"), (0, u "pick"), (0, u "(I)Lcom/example/skuld/skuld/formula/Operator;"), (0, .methodref 8 65), (0, .nameAndType 66 67), (0, u "isTemporal"), (0, u "()Z"), (3, u "law"), (0, u "(I)Z")] 2

def k1m0 : Method := { name := "<init>", desc := "()V", sig := { parameters := [], returnType := none }, accessFlags := 1, code := none }
def k1c1 : Code := { maxStack := 2, maxLocals := 1, code := method_2_code, exceptionTable := #[], attributes := #[] }
def k1m1 : Method := { name := "pick", desc := "(I)Lcom/example/skuld/skuld/formula/Operator;", sig := { parameters := [.int], returnType := some (.object "com/example/skuld/skuld/formula/Operator") }, accessFlags := 10, code := some k1c1 }
def k1c2 : Code := { maxStack := 2, maxLocals := 4, code := code, exceptionTable := #[], attributes := #[] }
def k1m2 : Method := { name := "law", desc := "(I)Z", sig := { parameters := [.int], returnType := some .boolean }, accessFlags := 9, code := some k1c2 }
/-- com/example/skuld/skuld/formula/OperatorIsTemporalPinLaw -/
def k1 : Class := { plain "com/example/skuld/skuld/formula/OperatorIsTemporalPinLaw" (some 0) with
  accessFlags := 49
  interfaces := #[]
  cf := some (fileOf pool1 59 #[] #[{ accessFlags := 1, nameIndex := 5, descriptorIndex := 6, attributes := #[] }, { accessFlags := 10, nameIndex := 62, descriptorIndex := 63, attributes := #[] }, { accessFlags := 9, nameIndex := 71, descriptorIndex := 72, attributes := #[] }] 49 2 #[] #[])
  fields := #[]
  methods := #[k1m0, k1m1, k1m2]
  instanceTypes := #[]
  staticTypes := #[]
  resolved := Array.replicate 75 none
  statics := none }

def pool2 : Array CpInfo := pool [(1, .class_ 2), (0, u "java/lang/constant/Constable"), (0, .class_ 4), (0, u "java/lang/Object")] 6

/-- java/lang/constant/Constable -/
def k2 : Class := { plain "java/lang/constant/Constable" (some 0) with
  accessFlags := 1537
  interfaces := #[]
  cf := some (fileOf pool2 1 #[] #[] 1537 3 #[] #[])
  fields := #[]
  methods := #[]
  instanceTypes := #[]
  staticTypes := #[]
  resolved := Array.replicate 11 none
  statics := none }

def pool3 : Array CpInfo := pool [(1, .class_ 2), (0, u "java/lang/Comparable"), (0, .class_ 4), (0, u "java/lang/Object")] 7

/-- java/lang/Comparable -/
def k3 : Class := { plain "java/lang/Comparable" (some 0) with
  accessFlags := 1537
  interfaces := #[]
  cf := some (fileOf pool3 1 #[] #[] 1537 3 #[] #[])
  fields := #[]
  methods := #[]
  instanceTypes := #[]
  staticTypes := #[]
  resolved := Array.replicate 12 none
  statics := none }

def pool4 : Array CpInfo := pool [(1, .class_ 2), (0, u "java/io/Serializable"), (0, .class_ 4), (0, u "java/lang/Object")] 2

/-- java/io/Serializable -/
def k4 : Class := { plain "java/io/Serializable" (some 0) with
  accessFlags := 1537
  interfaces := #[]
  cf := some (fileOf pool4 1 #[] #[] 1537 3 #[] #[])
  fields := #[]
  methods := #[]
  instanceTypes := #[]
  staticTypes := #[]
  resolved := Array.replicate 7 none
  statics := none }

def pool5 : Array CpInfo := pool [(2, .class_ 4), (1, u "java/lang/Enum"), (0, u "name"), (0, u "Ljava/lang/String;"), (2, u "ordinal"), (0, u "I"), (1, .class_ 14), (1, u "java/lang/Object"), (4, u "hash"), (86, .class_ 108), (1, u "java/lang/Enum$EnumDesc"), (2, .class_ 112), (0, u "java/lang/constant/Constable"), (0, .class_ 114), (0, u "java/lang/Comparable"), (0, .class_ 116), (0, u "java/io/Serializable")] 87

/-- java/lang/Enum -/
def k5 : Class := { plain "java/lang/Enum" (some 0) with
  accessFlags := 1057
  interfaces := #[2, 3, 4]
  cf := some (fileOf pool5 2 #[.nestMembers #[106]] #[] 1057 12 #[111, 113, 115] #[{ accessFlags := 18, nameIndex := 5, descriptorIndex := 6, attributes := #[] }, { accessFlags := 18, nameIndex := 9, descriptorIndex := 10, attributes := #[] }, { accessFlags := 2, nameIndex := 19, descriptorIndex := 10, attributes := #[] }])
  fields := #[{ name := "name", type := (.object "java/lang/String"), accessFlags := 18, slot := 0, constantValue := 0 }, { name := "ordinal", type := .int, accessFlags := 18, slot := 1, constantValue := 0 }, { name := "hash", type := .int, accessFlags := 2, slot := 2, constantValue := 0 }]
  methods := #[]
  instanceTypes := #[(.object "java/lang/String"), .int, .int]
  staticTypes := #[]
  resolved := Array.replicate 204 none
  statics := none }

def pool6 : Array CpInfo := pool [(1, .class_ 2), (0, u "com/example/skuld/skuld/formula/Operator"), (2, u "TRUE"), (0, u "Lcom/example/skuld/skuld/formula/Operator;"), (2, u "FALSE"), (2, u "PROPOSITION"), (2, u "NOT"), (2, u "AND"), (2, u "OR"), (2, u "IMPLIES"), (2, u "IFF"), (0, .fieldref 1 29), (0, .nameAndType 30 6), (0, u "NEXT"), (0, .fieldref 1 32), (0, .nameAndType 33 6), (0, u "FINALLY"), (0, .fieldref 1 35), (0, .nameAndType 36 6), (0, u "GLOBALLY"), (0, .fieldref 1 38), (0, .nameAndType 39 6), (0, u "UNTIL"), (0, .fieldref 1 41), (0, .nameAndType 42 6), (0, u "RELEASE"), (0, .fieldref 1 44), (0, .nameAndType 45 6), (0, u "WEAK_UNTIL"), (2, u "ALL_PATHS"), (2, u "SOME_PATH"), (2, u "$VALUES"), (0, u "[Lcom/example/skuld/skuld/formula/Operator;"), (6, .class_ 64), (1, u "java/lang/Enum"), (8, u "symbol"), (0, u "Ljava/lang/String;"), (2, u "arity"), (0, u "I"), (63, u "isTemporal"), (0, u "()Z")] 7

def k6c0 : Code := { maxStack := 2, maxLocals := 1, code := prog_41_method_6_code, exceptionTable := #[], attributes := #[] }
def k6m0 : Method := { name := "isTemporal", desc := "()Z", sig := { parameters := [], returnType := some .boolean }, accessFlags := 1, code := some k6c0 }
/-- com/example/skuld/skuld/formula/Operator -/
def k6 : Class := { plain "com/example/skuld/skuld/formula/Operator" (some 5) with
  accessFlags := 16433
  interfaces := #[]
  cf := some (fileOf pool6 1 #[] #[{ accessFlags := 1, nameIndex := 142, descriptorIndex := 143, attributes := #[] }] 16433 62 #[] #[{ accessFlags := 16409, nameIndex := 5, descriptorIndex := 6, attributes := #[] }, { accessFlags := 16409, nameIndex := 9, descriptorIndex := 6, attributes := #[] }, { accessFlags := 16409, nameIndex := 12, descriptorIndex := 6, attributes := #[] }, { accessFlags := 16409, nameIndex := 15, descriptorIndex := 6, attributes := #[] }, { accessFlags := 16409, nameIndex := 18, descriptorIndex := 6, attributes := #[] }, { accessFlags := 16409, nameIndex := 21, descriptorIndex := 6, attributes := #[] }, { accessFlags := 16409, nameIndex := 24, descriptorIndex := 6, attributes := #[] }, { accessFlags := 16409, nameIndex := 27, descriptorIndex := 6, attributes := #[] }, { accessFlags := 16409, nameIndex := 30, descriptorIndex := 6, attributes := #[] }, { accessFlags := 16409, nameIndex := 33, descriptorIndex := 6, attributes := #[] }, { accessFlags := 16409, nameIndex := 36, descriptorIndex := 6, attributes := #[] }, { accessFlags := 16409, nameIndex := 39, descriptorIndex := 6, attributes := #[] }, { accessFlags := 16409, nameIndex := 42, descriptorIndex := 6, attributes := #[] }, { accessFlags := 16409, nameIndex := 45, descriptorIndex := 6, attributes := #[] }, { accessFlags := 16409, nameIndex := 48, descriptorIndex := 6, attributes := #[] }, { accessFlags := 16409, nameIndex := 51, descriptorIndex := 6, attributes := #[] }, { accessFlags := 18, nameIndex := 73, descriptorIndex := 74, attributes := #[] }, { accessFlags := 18, nameIndex := 77, descriptorIndex := 78, attributes := #[] }, { accessFlags := 4122, nameIndex := 54, descriptorIndex := 55, attributes := #[] }])
  fields := #[{ name := "TRUE", type := (.object "com/example/skuld/skuld/formula/Operator"), accessFlags := 16409, slot := 0, constantValue := 0 }, { name := "FALSE", type := (.object "com/example/skuld/skuld/formula/Operator"), accessFlags := 16409, slot := 1, constantValue := 0 }, { name := "PROPOSITION", type := (.object "com/example/skuld/skuld/formula/Operator"), accessFlags := 16409, slot := 2, constantValue := 0 }, { name := "NOT", type := (.object "com/example/skuld/skuld/formula/Operator"), accessFlags := 16409, slot := 3, constantValue := 0 }, { name := "AND", type := (.object "com/example/skuld/skuld/formula/Operator"), accessFlags := 16409, slot := 4, constantValue := 0 }, { name := "OR", type := (.object "com/example/skuld/skuld/formula/Operator"), accessFlags := 16409, slot := 5, constantValue := 0 }, { name := "IMPLIES", type := (.object "com/example/skuld/skuld/formula/Operator"), accessFlags := 16409, slot := 6, constantValue := 0 }, { name := "IFF", type := (.object "com/example/skuld/skuld/formula/Operator"), accessFlags := 16409, slot := 7, constantValue := 0 }, { name := "NEXT", type := (.object "com/example/skuld/skuld/formula/Operator"), accessFlags := 16409, slot := 8, constantValue := 0 }, { name := "FINALLY", type := (.object "com/example/skuld/skuld/formula/Operator"), accessFlags := 16409, slot := 9, constantValue := 0 }, { name := "GLOBALLY", type := (.object "com/example/skuld/skuld/formula/Operator"), accessFlags := 16409, slot := 10, constantValue := 0 }, { name := "UNTIL", type := (.object "com/example/skuld/skuld/formula/Operator"), accessFlags := 16409, slot := 11, constantValue := 0 }, { name := "RELEASE", type := (.object "com/example/skuld/skuld/formula/Operator"), accessFlags := 16409, slot := 12, constantValue := 0 }, { name := "WEAK_UNTIL", type := (.object "com/example/skuld/skuld/formula/Operator"), accessFlags := 16409, slot := 13, constantValue := 0 }, { name := "ALL_PATHS", type := (.object "com/example/skuld/skuld/formula/Operator"), accessFlags := 16409, slot := 14, constantValue := 0 }, { name := "SOME_PATH", type := (.object "com/example/skuld/skuld/formula/Operator"), accessFlags := 16409, slot := 15, constantValue := 0 }, { name := "symbol", type := (.object "java/lang/String"), accessFlags := 18, slot := 3, constantValue := 0 }, { name := "arity", type := .int, accessFlags := 18, slot := 4, constantValue := 0 }, { name := "$VALUES", type := (.array (.object "com/example/skuld/skuld/formula/Operator")), accessFlags := 4122, slot := 16, constantValue := 0 }]
  methods := #[k6m0]
  instanceTypes := #[(.object "java/lang/String"), .int, .int, (.object "java/lang/String"), .int]
  staticTypes := #[(.object "com/example/skuld/skuld/formula/Operator"), (.object "com/example/skuld/skuld/formula/Operator"), (.object "com/example/skuld/skuld/formula/Operator"), (.object "com/example/skuld/skuld/formula/Operator"), (.object "com/example/skuld/skuld/formula/Operator"), (.object "com/example/skuld/skuld/formula/Operator"), (.object "com/example/skuld/skuld/formula/Operator"), (.object "com/example/skuld/skuld/formula/Operator"), (.object "com/example/skuld/skuld/formula/Operator"), (.object "com/example/skuld/skuld/formula/Operator"), (.object "com/example/skuld/skuld/formula/Operator"), (.object "com/example/skuld/skuld/formula/Operator"), (.object "com/example/skuld/skuld/formula/Operator"), (.object "com/example/skuld/skuld/formula/Operator"), (.object "com/example/skuld/skuld/formula/Operator"), (.object "com/example/skuld/skuld/formula/Operator"), (.array (.object "com/example/skuld/skuld/formula/Operator"))]
  resolved := Array.replicate 151 none
  statics := some 0 }

def pool7 : Array CpInfo := pool [(1, u "java/lang/Cloneable"), (0, .class_ 1), (0, u "java/lang/Object"), (0, .class_ 3)] 3

/-- java/lang/Cloneable -/
def k7 : Class := { plain "java/lang/Cloneable" (some 0) with
  accessFlags := 1537
  interfaces := #[]
  cf := some (fileOf pool7 2 #[] #[] 1537 4 #[] #[])
  fields := #[]
  methods := #[]
  instanceTypes := #[]
  staticTypes := #[]
  resolved := Array.replicate 8 none
  statics := none }

/-- the primitive byte -/
def k8 : Class := { plain "byte" none with kind := .primitive 'B', accessFlags := 0x411 }
/-- [B -/
def k9 : Class := { plain "[B" (some 0) with kind := .array 8 .byte, interfaces := #[7, 4], accessFlags := 1041 }

/-- the primitive int -/
def k10 : Class := { plain "int" none with kind := .primitive 'I', accessFlags := 0x411 }
/-- [I -/
def k11 : Class := { plain "[I" (some 0) with kind := .array 10 .int, interfaces := #[7, 4], accessFlags := 1041 }

def heap : Heap := #[{ cls := 6, slots := #[.ref 1, .ref 2, .ref 3, .ref 4, .ref 5, .ref 6, .ref 7, .ref 8, .ref 9, .ref 10, .ref 11, .ref 12, .ref 13, .ref 14, .ref 15, .ref 16, .null], vm := .statics 6 },
  { cls := 6, slots := #[.null, .int 0, .int 0, .null, .int 0], vm := .none },
  { cls := 6, slots := #[.null, .int 1, .int 0, .null, .int 0], vm := .none },
  { cls := 6, slots := #[.null, .int 2, .int 0, .null, .int 0], vm := .none },
  { cls := 6, slots := #[.null, .int 3, .int 0, .null, .int 0], vm := .none },
  { cls := 6, slots := #[.null, .int 4, .int 0, .null, .int 0], vm := .none },
  { cls := 6, slots := #[.null, .int 5, .int 0, .null, .int 0], vm := .none },
  { cls := 6, slots := #[.null, .int 6, .int 0, .null, .int 0], vm := .none },
  { cls := 6, slots := #[.null, .int 7, .int 0, .null, .int 0], vm := .none },
  { cls := 6, slots := #[.null, .int 8, .int 0, .null, .int 0], vm := .none },
  { cls := 6, slots := #[.null, .int 9, .int 0, .null, .int 0], vm := .none },
  { cls := 6, slots := #[.null, .int 10, .int 0, .null, .int 0], vm := .none },
  { cls := 6, slots := #[.null, .int 11, .int 0, .null, .int 0], vm := .none },
  { cls := 6, slots := #[.null, .int 12, .int 0, .null, .int 0], vm := .none },
  { cls := 6, slots := #[.null, .int 13, .int 0, .null, .int 0], vm := .none },
  { cls := 6, slots := #[.null, .int 14, .int 0, .null, .int 0], vm := .none },
  { cls := 6, slots := #[.null, .int 15, .int 0, .null, .int 0], vm := .none }]
def classes : Array Class := #[k0, k1, k2, k3, k4, k5, k6, k7, k8, k9, k10, k11]
def interned : List (Array UInt16 × Addr) := []
def slotsUsed : Nat := 97
def theMethod : MethodId := ⟨1, 2⟩
def args0 : Array Value := #[.int 5]
def aboutOver (below : List Frame) : State where
  vm := { classes := classes, interned := interned.toArray }
  heap := heap
  slotsUsed := slotsUsed
  threads := #[{ frames := .invoking theMethod args0 :: below }]
def below0 : List Frame := [.native { method := ⟨0, 0⟩, args := #[] }]
def about1 : State := aboutOver below0
def p0 : Program := .bare "" "" ""
def e0 : Env := launch0.env 0 0 0
theorem w_frames : about1.frames = Frame.invoking theMethod args0 :: below0 := rfl
set_option maxRecDepth 65536 in
theorem w_args : argsFit about1.vm theMethod args0 = true := by decide +kernel
set_option maxRecDepth 65536 in
theorem w_heap : heapFits about1 = true := by decide +kernel
set_option maxRecDepth 65536 in
theorem w_runnable : about1.curStatus? = some .runnable := by decide +kernel
set_option maxRecDepth 65536 in
theorem w_alone : about1.alone = true := by decide +kernel
set_option maxRecDepth 65536 in
theorem w_named : about1.methodNamed? x = some theMethod := by decide +kernel
set_option maxRecDepth 65536 in
theorem w_hears : about1.hears theMethod below0 = true := by decide +kernel
set_option maxRecDepth 65536 in
theorem w_ripe : about1.ripe theMethod args0 below0 = true := by decide +kernel
theorem w_running : about1.status = .running := rfl
set_option maxRecDepth 65536 in
theorem w_room : about1.hasRoom e0.platform room_1 = true :=
  launch0.hasRoom_least _ room_1 (by decide +kernel) (by decide +kernel) (by decide +kernel) (by decide +kernel) (by decide +kernel) (by decide +kernel)
theorem allAtoms_all (ts : List Jvm.Cond) (a : Array Jvm.Value) (st : Jvm.State) : (allAtoms ts).before a st = ts.all (fun c => c.before a st) := by
  induction ts with
  | nil => rfl
  | cons c t ih =>
    show (Jvm.Cond.and c (allAtoms t)).before a st = _
    rw [Jvm.Cond.before_and, ih, List.all_cons]
def words1 : List Jvm.Cond := Jvm.Cond.code x code maxLocals ret :: tables_1
/-- a 'code' word, met by the world's own term for the bytes: nothing is compared byte by byte -/
theorem code_word {y : MethodName} {bytes : ByteArray} {mx : Nat} {rt : Option FieldType} {a : Array Value} {s : State} {m : MethodId} {meth : Method} {c : Code} (h1 : s.methodNamed? y = some m) (h2 : s.vm.method? m = some meth) (h3 : meth.code = some c) (h4 : c.code = bytes)
    (h5 : (c.maxLocals == mx && c.exceptionTable.isEmpty && decide (c.maxStack ≤ mostOperands) && decide (meth.sig.returnType = rt) && !meth.locks && decide (parseMethodDescriptor y.desc = some meth.sig)) = true) : (Jvm.Cond.code y bytes mx rt).before a s = true := by
  simp only [Bool.and_eq_true, beq_iff_eq, Bool.not_eq_true', decide_eq_true_eq] at h5
  obtain ⟨⟨⟨⟨⟨g1, g2⟩, g3⟩, g4⟩, g5⟩, g6⟩ := h5
  simp [Cond.before, Cond.holds, Cond.value, h1, h2, h3, h4, g1, g2, g3, g4, g5, g6]
def isCode : Jvm.Cond → Bool
  | .code _ _ _ _ => true
  | _ => false
theorem all_split {L : List Jvm.Cond} {P : Jvm.Cond → Bool} (h1 : L.all (fun c => isCode c || P c) = true) (h2 : ∀ c ∈ L.filter isCode, P c = true) : L.all P = true := by
  refine List.all_eq_true.mpr fun c hc => ?_
  have h := List.all_eq_true.mp h1 c hc
  rcases Bool.eq_false_or_eq_true (isCode c) with hi | hi
  · exact h2 c (List.mem_filter.mpr ⟨hc, hi⟩)
  · simpa [hi] using h
set_option maxRecDepth 65536 in
theorem w_c0 : (Jvm.Cond.code x code maxLocals ret).before args0 about1 = true := code_word (m := ⟨1, 2⟩) (meth := k1m2) (c := k1c2) (by decide +kernel) rfl rfl rfl (by decide +kernel)
set_option maxRecDepth 65536 in
theorem w_c1 : (Jvm.Cond.code ({ cls := "com/example/skuld/skuld/formula/OperatorIsTemporalPinLaw", name := "pick", desc := "(I)Lcom/example/skuld/skuld/formula/Operator;" } : Jvm.MethodName) method_2_code (1 : Nat) (Option.some (Jvm.ClassFile.FieldType.object "com/example/skuld/skuld/formula/Operator"))).before args0 about1 = true := code_word (m := ⟨1, 1⟩) (meth := k1m1) (c := k1c1) (by decide +kernel) rfl rfl rfl (by decide +kernel)
set_option maxRecDepth 65536 in
theorem w_c2 : (Jvm.Cond.code ({ cls := "com/example/skuld/skuld/formula/Operator", name := "isTemporal", desc := "()Z" } : Jvm.MethodName) prog_41_method_6_code (1 : Nat) (Option.some Jvm.ClassFile.FieldType.boolean)).before args0 about1 = true := code_word (m := ⟨6, 0⟩) (meth := k6m0) (c := k6c0) (by decide +kernel) rfl rfl rfl (by decide +kernel)
def codes1 : List Jvm.Cond := [Jvm.Cond.code x code maxLocals ret, Jvm.Cond.code ({ cls := "com/example/skuld/skuld/formula/OperatorIsTemporalPinLaw", name := "pick", desc := "(I)Lcom/example/skuld/skuld/formula/Operator;" } : Jvm.MethodName) method_2_code (1 : Nat) (Option.some (Jvm.ClassFile.FieldType.object "com/example/skuld/skuld/formula/Operator")), Jvm.Cond.code ({ cls := "com/example/skuld/skuld/formula/Operator", name := "isTemporal", desc := "()Z" } : Jvm.MethodName) prog_41_method_6_code (1 : Nat) (Option.some Jvm.ClassFile.FieldType.boolean)]
set_option maxRecDepth 65536 in
theorem codes_eq : words1.filter isCode = codes1 := rfl
theorem w_codes : ∀ c ∈ words1.filter isCode, c.before args0 about1 = true := by
  rw [codes_eq]
  intro c hc
  simp only [codes1, List.mem_cons, List.not_mem_nil, or_false] at hc
  rcases hc with rfl | rfl | rfl
  · exact w_c0
  · exact w_c1
  · exact w_c2
set_option maxRecDepth 65536 in
theorem w_t1 : (words1.take 24).all (fun c => isCode c || c.before args0 about1) = true := by decide +kernel
set_option maxRecDepth 65536 in
theorem w_t2 : ((words1.drop 24).take 24).all (fun c => isCode c || c.before args0 about1) = true := by decide +kernel
set_option maxRecDepth 65536 in
theorem w_t3 : ((words1.drop 24).drop 24).all (fun c => isCode c || c.before args0 about1) = true := by decide +kernel
theorem w_tables : (allAtoms (Jvm.Cond.code x code maxLocals ret :: tables_1)).before args0 about1 = true := by
  rw [allAtoms_all]
  show words1.all (fun c => c.before args0 about1) = true
  refine all_split ?_ w_codes
  rw [← List.take_append_drop 24 words1, List.all_append, w_t1, ← List.take_append_drop 24 (words1.drop 24), List.all_append, w_t2, w_t3]
  rfl
set_option maxRecDepth 65536 in
theorem w_case : (Jvm.Cond.and given_1 narrow_1).before args0 about1 = true := by decide +kernel
theorem w_applies : (headSpec (Jvm.Cond.code x code maxLocals ret :: tables_1) room_1).applies x e0.platform about1 = true :=
  (Spec.applies_iff w_frames).mpr ⟨w_running, w_runnable, w_alone, w_named, w_hears, w_ripe, w_room, w_tables⟩
theorem atStart : AtStart classFile x code maxLocals ret World_1 tables_1 room_1 Calls_1 rest_1 Pre_1 launch0 p0 e0 about1 theMethod args0 below0 :=
  ⟨lists_1, trivial, launch0.admits_env _ _ _, launch0.least_env, fairChoices_fair.cas, fairChoices_fair.clock, w_frames, w_args, w_heap, w_applies, trivial, trivial, w_case⟩
end start1
theorem witness_1 : WitnessClaimed_1 := ⟨start1.p0, start1.e0, start1.about1, start1.theMethod, start1.args0, start1.below0, start1.atStart⟩
end Jvm.Pilot.@@N@@
