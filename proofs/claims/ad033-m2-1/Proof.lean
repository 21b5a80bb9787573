import JvmDerived
import JvmDerived.Pilot.@@N@@Statement
import JvmDerived.Pilot.@@N@@Code
set_option linter.unusedVariables false
set_option linter.unusedSimpArgs false

namespace Jvm.Pilot.@@N@@
open Jvm Jvm.ClassFile Sem Op Lib Jvm.Free Jvm.Stand Jvm.LawKit Jvm.RoadKit Bundle Jvm.Pilot.@@N@@.Jvm.D
section OwnKit
variable {p : Program} {l : Launch} {e : Env} {R : Room} {s : State} {m : MethodId} {args : Array Value} {below : List Frame} {meth : Method} {c : Code} {T : State} {locs : List Loc} {cells slots : Nat} {Z : State} {a0 : Array Value} {h : Heap}
/-- the run goes on from T with the frame f on top to an end that K says -/
def own_G (p : Program) (e : Env) (below : List Frame) (K : Outcome → State → Prop) (T : State) (f : JFrame) : Prop := ∃ s₂ o, Steps p.tables e below (T.setTop f) s₂ ∧ s₂.status = .running ∧ Ended s₂ below o ∧ K o s₂
theorem own_go {K : Outcome → State → Prop} {T' : State} {f f' : JFrame} (st : ∀ t, Steps p.tables e below (T'.setTop f') t → Steps p.tables e below (T.setTop f) t) (h : own_G p e below K T' f') : own_G p e below K T f := by
  obtain ⟨s₂, o, h1, h2⟩ := h
  exact ⟨s₂, o, st _ h1, h2⟩
theorem own_cast {K : Outcome → State → Prop} {f f' : JFrame} (q : f = f') (h : own_G p e below K T f') : own_G p e below K T f := q ▸ h
def own_K (Q : Option Value → Heap → List Loc → Prop) (s : State) (C S : Nat) : Outcome → State → Prop := fun o U => ∃ v L, o = .returned v ∧ Q v U.heap L ∧ FrameEnd s o U L C S
def own_Met (l : Launch) (Z : State) (y : MethodName) (bytes : ByteArray) (maxL : Nat) (ret : Option FieldType) (ws : List Jvm.Cond) (rm : Room) (as' : Array Value) (h0 : Heap) (Q : Option Value → Heap → List Loc → Prop) : Prop :=
  MetFree l y (head1 (Jvm.Cond.code y bytes maxL ret :: ws) rm) (fun a U => a = as' ∧ Z.Warmed39 U.vm ∧ U.heap = h0) (fun _ _ _ _ _ => True) (fun _ U o U' => own_K Q U rm.cells rm.slots o U')
theorem own_met {y : MethodName} {bytes : ByteArray} {maxL : Nat} {ret : Option FieldType} {ws : List Jvm.Cond} {rm : Room} {as' : Array Value} {h0 : Heap} {Q : Option Value → Heap → List Loc → Prop} (hpl : plainFor y = true)
    (body : ∀ (p : Program) (e : Env) (s : State) (m : MethodId) (below : List Frame) (meth : Method) (c : Code) (s₁ : State), p.tables.exec = Jvm.exec → c.code = bytes → c.maxLocals = maxL → s.vm.findClass y.cls = some m.cls → meth.name = y.name → meth.sig.returnType = ret → meth.locks = false →
      Z.Warmed39 s.vm → Stand p l e rm s m as' below meth c s₁ [] 0 0 → s₁.heap = h0 → own_G p e below (own_K Q s rm.cells rm.slots) s₁ (entryFrame m as' maxL)) :
    own_Met l Z y bytes maxL ret ws rm as' h0 Q := by
  refine MetFree.of_bodySF hpl hisR ?_
  intro p e s m args below meth c s₁ Bd hml hP hK
  obtain ⟨rfl, hZ, hh⟩ := hP
  have e0 : s₁.heap = h0 := by rw [← hh, Bd.state]; rfl
  have q := body p e s m below meth c s₁ Bd.exec Bd.bytes hml (findClass_of_methodNamed Bd.named) (name_of_methodNamed Bd.named Bd.method).1 Bd.returns (BodyLoose.notSynchronized Bd) hZ (Stand.of_body Bd) e0
  obtain ⟨s₂, o, h1, h2, h3, h4⟩ := q
  exact ⟨s₂, o, h1, h2, h3, h4⟩
theorem own_end (X : Stand p l e R s m args below meth c T locs cells slots) (hlk : meth.locks = false) {v : Option Value} {f : JFrame} {Q : Option Value → Heap → List Loc → Prop} {C S : Nat} (hv : meth.sig.returnType = none → v = none) (hc : cells ≤ C) (hs : slots ≤ S)
    (st : ∀ fs, (∀ (f : JFrame) (acts : List Action), f.method = m → f.locked = none → f.entered = [] → (doReturn e (T.setTop f) acts v).1 = T.setFrames fs) → Steps p.tables e below (T.setTop f) (T.setFrames fs)) (hq : Q v T.heap locs) : own_G p e below (own_K Q s C S) T f := by
  obtain ⟨fs, hr, hrun, hended, hW, hsame⟩ := X.leave (v := v) hv
  exact ⟨_, _, st fs hr, hrun, hended, v, locs, rfl, hq, ⟨_, rfl⟩, hW, hsame.mono hc hs⟩
theorem own_retZ (X : Stand p l e R s m args below meth c T locs cells slots) (hx : p.tables.exec = Jvm.exec) (hlk : meth.locks = false) {t : FieldType} (hret : meth.sig.returnType = some t) (ht : t = .boolean ∨ t = .byte ∨ t = .char ∨ t = .short) {pc : Nat} {Ls : Array Slot} {z : Int32} {rest : List Value} {Q : Option Value → Heap → List Loc → Prop} {C S : Nat}
    (eT : T.heap = h) {w : Int32} (hz : nar t z = w) (hd : decode c.code pc = .ok (.ireturn, 1)) (hc : cells ≤ C) (hs : slots ≤ S) (hq : Q (some (.int w)) h locs) : own_G p e below (own_K Q s C S) T (mkF m pc Ls (.int z :: rest)) := by
  subst eT hz
  exact own_end X hlk (fun q => by rw [hret] at q; cases q) hc hs (fun fs hr => retN X hx hret ht hd hr) hq
/-- a static call by the callee's contract -/
theorem own_callS {own : String} {index maxL : Nat} {y : MethodName} {bytes : ByteArray} {ret : Option FieldType} {rm : Room} {Q : Option Value → Heap → List Loc → Prop} {argsL rest stk : List Value} {pc : Nat} {Ls : Array Slot}
    (X : Stand p l e R s m args below meth c T locs cells slots) (hx : p.tables.exec = Jvm.exec) (hZ : Z.Warmed39 s.vm) (hown : s.vm.findClass own = some m.cls) (hM : own_Met l Z y bytes maxL ret [] rm argsL.toArray h Q)
    (w1 : (Jvm.Cond.methodLink own index y).before a0 Z = true) (w2 : (Jvm.Cond.static y).before a0 Z = true) (w3 : (Jvm.Cond.initialized y.cls).before a0 Z = true) (w4 : (Jvm.Cond.code y bytes maxL ret).before a0 Z = true) (hy : y.cls ≠ "java/lang/invoke/MethodHandle" ∧ y.cls ≠ "java/lang/invoke/VarHandle")
    (eT : T.heap = h) (hsz : Ls.size = c.maxLocals) (hlen : ∀ sig, parseMethodDescriptor y.desc = some sig → argsL.length = sig.parameters.length) (hstk : stk = argsL.reverse ++ rest) (hd : decode c.code pc = .ok (.invokestatic index, 3))
    (hf : rm.frames + 1 ≤ R.frames) (hl : (rest.map fun v => v.category).sum + (maxL + 11) + rm.locals ≤ R.locals) (hc : cells + rm.cells ≤ R.cells) (hs : slots + rm.slots ≤ R.slots) :
    ∃ (v : Option Value) (T' : State) (L : List Loc), Stand p l e R s m args below meth c T' (locs ++ L) (cells + rm.cells) (slots + rm.slots) ∧ Q v T'.heap L ∧ ∀ t, Steps p.tables e below (T'.setTop (mkF m (pc + 3) Ls (v.toList ++ rest))) t → Steps p.tables e below (T.setTop (mkF m pc Ls stk)) t := by
  obtain ⟨v, _, ⟨T', L', k', n'⟩, -, X', ⟨L, hQ, l1, y1, z1⟩, st⟩ := Jvm.LawKit.callS X hx (y := y) hown (mvT hZ w1) (mvT hZ w2) (mvT hZ w3) (mvT hZ w4) hy (backOf (Q := Q) hM hZ w4 w3 hf hl) (g := mkF m pc Ls stk) rfl hsz (argsL := argsL) (rest := rest) hlen hstk (by show 2 * 0 + _ ≤ _; exact Nat.le_of_eq (Nat.zero_add _)) hd (fun _ _ => ⟨rfl, eT, hc, hs⟩)
  dsimp only [Pt.U, Pt.locs, Pt.cells, Pt.slots] at X' l1 y1 z1 st hQ
  subst l1 y1 z1
  exact ⟨v, T', L, X', hQ, st⟩
end OwnKit
section OwnSteps
variable {p : Program} {l : Launch} {e : Env} {R : Room} {s : State} {m : MethodId} {args : Array Value} {below : List Frame} {meth : Method} {c : Code} {T : State} {locs : List Loc} {cells slots : Nat} {Z : State} {a0 : Array Value} {h0 : Heap}
theorem own_iloadN {K : Outcome → State → Prop} {pc n : Nat} {Ls : Array Slot} {S : List Value} (X : Stand p l e R s m args below meth c T locs cells slots) (hx : p.tables.exec = Jvm.exec) {k : Fin 4} {v : Int32} (hd : decode c.code pc = .ok (.iload_n k, 1)) (hl : Ls[k.val]? = some (.val (.int v))) (hn : pc + 1 = n)
    (h : own_G p e below K T (mkF m n Ls (.int v :: S))) : own_G p e below K T (mkF m pc Ls S) := by
  subst hn
  exact own_go (fun t k => XS.iloadN X.here hx rfl hd hl k) h
theorem own_iload {K : Outcome → State → Prop} {pc n : Nat} {Ls : Array Slot} {S : List Value} (X : Stand p l e R s m args below meth c T locs cells slots) (hx : p.tables.exec = Jvm.exec) {k : Nat} {v : Int32} (hd : decode c.code pc = .ok (.iload k, 2)) (hl : Ls[k]? = some (.val (.int v))) (hn : pc + 2 = n)
    (h : own_G p e below K T (mkF m n Ls (.int v :: S))) : own_G p e below K T (mkF m pc Ls S) := by
  subst hn
  exact own_go (fun t k => XS.iload X.here hx rfl hd hl k) h
theorem own_istoreN {K : Outcome → State → Prop} {pc n : Nat} {Ls : Array Slot} {S : List Value} (X : Stand p l e R s m args below meth c T locs cells slots) (hx : p.tables.exec = Jvm.exec) {k : Fin 4} {v : Int32} {l' : Array Slot} (hd : decode c.code pc = .ok (.istore_n k, 1)) (hl : storeLocals Ls k.val (.int v) = some l') (hn : pc + 1 = n)
    (h : own_G p e below K T (mkF m n l' S)) : own_G p e below K T (mkF m pc Ls (.int v :: S)) := by
  subst hn
  exact own_go (fun t k => XS.istoreN X.here hx rfl hd rfl hl k) h
theorem own_istore {K : Outcome → State → Prop} {pc n : Nat} {Ls : Array Slot} {S : List Value} (X : Stand p l e R s m args below meth c T locs cells slots) (hx : p.tables.exec = Jvm.exec) {k : Nat} {v : Int32} {l' : Array Slot} (hd : decode c.code pc = .ok (.istore k, 2)) (hl : storeLocals Ls k (.int v) = some l') (hn : pc + 2 = n)
    (h : own_G p e below K T (mkF m n l' S)) : own_G p e below K T (mkF m pc Ls (.int v :: S)) := by
  subst hn
  exact own_go (fun t k => XS.istore X.here hx rfl hd rfl hl k) h
theorem own_iconst {K : Outcome → State → Prop} {pc n : Nat} {Ls : Array Slot} {S : List Value} (X : Stand p l e R s m args below meth c T locs cells slots) (hx : p.tables.exec = Jvm.exec) {i : Int} {z : Int32} (hd : decode c.code pc = .ok (.iconst i, 1)) (hz : Int32.ofInt i = z) (hn : pc + 1 = n)
    (h : own_G p e below K T (mkF m n Ls (.int z :: S))) : own_G p e below K T (mkF m pc Ls S) := by
  subst hz hn
  exact own_go (fun t k => XS.iconst X.here hx rfl hd k) h
theorem own_bipush {K : Outcome → State → Prop} {pc n : Nat} {Ls : Array Slot} {S : List Value} (X : Stand p l e R s m args below meth c T locs cells slots) (hx : p.tables.exec = Jvm.exec) {i : Int} {z : Int32} (hd : decode c.code pc = .ok (.bipush i, 2)) (hz : (Int8.ofInt i).toInt32 = z) (hn : pc + 2 = n)
    (h : own_G p e below K T (mkF m n Ls (.int z :: S))) : own_G p e below K T (mkF m pc Ls S) := by
  subst hz hn
  exact own_go (fun t k => XS.bipush X.here hx rfl hd k) h
theorem own_sipush {K : Outcome → State → Prop} {pc n : Nat} {Ls : Array Slot} {S : List Value} (X : Stand p l e R s m args below meth c T locs cells slots) (hx : p.tables.exec = Jvm.exec) {i : Int} {z : Int32} (hd : decode c.code pc = .ok (.sipush i, 3)) (hz : (Int16.ofInt i).toInt32 = z) (hn : pc + 3 = n)
    (h : own_G p e below K T (mkF m n Ls (.int z :: S))) : own_G p e below K T (mkF m pc Ls S) := by
  subst hz hn
  exact own_go (fun t k => XS.sipush X.here hx rfl hd k) h
theorem own_iand {K : Outcome → State → Prop} {pc n : Nat} {Ls : Array Slot} {S : List Value} (X : Stand p l e R s m args below meth c T locs cells slots) (hx : p.tables.exec = Jvm.exec) {x y z : Int32} (hd : decode c.code pc = .ok (.iand, 1)) (hz : x &&& y = z) (hn : pc + 1 = n)
    (h : own_G p e below K T (mkF m n Ls (.int z :: S))) : own_G p e below K T (mkF m pc Ls (.int y :: .int x :: S)) := by
  subst hz hn
  exact own_go (fun t k => XS.iand X.here hx rfl hd rfl k) h
theorem own_ior {K : Outcome → State → Prop} {pc n : Nat} {Ls : Array Slot} {S : List Value} (X : Stand p l e R s m args below meth c T locs cells slots) (hx : p.tables.exec = Jvm.exec) {x y z : Int32} (hd : decode c.code pc = .ok (.ior, 1)) (hz : x ||| y = z) (hn : pc + 1 = n)
    (h : own_G p e below K T (mkF m n Ls (.int z :: S))) : own_G p e below K T (mkF m pc Ls (.int y :: .int x :: S)) := by
  subst hz hn
  exact own_go (fun t k => XS.ior X.here hx rfl hd rfl k) h
theorem own_goto {K : Outcome → State → Prop} {pc n : Nat} {Ls : Array Slot} {S : List Value} (X : Stand p l e R s m args below meth c T locs cells slots) (hx : p.tables.exec = Jvm.exec) {o : Int} (hd : decode c.code pc = .ok (.goto o, 3)) (ho : 0 ≤ (pc : Int) + o) (hp : ((pc : Int) + o).toNat = n)
    (h : own_G p e below K T (mkF m n Ls S)) : own_G p e below K T (mkF m pc Ls S) := by
  subst hp
  exact own_go (fun t k => XS.goto X.here hx rfl (pc0 := pc) rfl hd ho rfl k) h
theorem own_ifYes {K : Outcome → State → Prop} {pc n : Nat} {Ls : Array Slot} {S : List Value} (X : Stand p l e R s m args below meth c T locs cells slots) (hx : p.tables.exec = Jvm.exec) {cd : ClassFile.Cond} {x : Int32} {o : Int} (hd : decode c.code pc = .ok (.ifCond cd o, 3)) (hc : if_icmp.holds cd x 0 = true) (ho : 0 ≤ (pc : Int) + o) (hp : ((pc : Int) + o).toNat = n)
    (h : own_G p e below K T (mkF m n Ls S)) : own_G p e below K T (mkF m pc Ls (.int x :: S)) := by
  subst hp
  exact own_go (fun t k => XS.ifYes X.here hx rfl (pc0 := pc) rfl hd rfl ((if0 _ _).trans hc) ho rfl k) h
theorem own_ifNo {K : Outcome → State → Prop} {pc n : Nat} {Ls : Array Slot} {S : List Value} (X : Stand p l e R s m args below meth c T locs cells slots) (hx : p.tables.exec = Jvm.exec) {cd : ClassFile.Cond} {x : Int32} {o : Int} (hd : decode c.code pc = .ok (.ifCond cd o, 3)) (hc : if_icmp.holds cd x 0 = false) (hn : pc + 3 = n)
    (h : own_G p e below K T (mkF m n Ls S)) : own_G p e below K T (mkF m pc Ls (.int x :: S)) := by
  subst hn
  exact own_go (fun t k => XS.ifNo X.here hx rfl hd rfl ((if0 _ _).trans hc) k) h
theorem own_icmpYes {K : Outcome → State → Prop} {pc n : Nat} {Ls : Array Slot} {S : List Value} (X : Stand p l e R s m args below meth c T locs cells slots) (hx : p.tables.exec = Jvm.exec) {cd : ClassFile.Cond} {x y : Int32} {o : Int} (hd : decode c.code pc = .ok (.if_icmp cd o, 3)) (hc : if_icmp.holds cd x y = true) (ho : 0 ≤ (pc : Int) + o) (hp : ((pc : Int) + o).toNat = n)
    (h : own_G p e below K T (mkF m n Ls S)) : own_G p e below K T (mkF m pc Ls (.int y :: .int x :: S)) := by
  subst hp
  exact own_go (fun t k => XS.icmpYes X.here hx rfl (pc0 := pc) rfl hd rfl hc ho rfl k) h
theorem own_icmpNo {K : Outcome → State → Prop} {pc n : Nat} {Ls : Array Slot} {S : List Value} (X : Stand p l e R s m args below meth c T locs cells slots) (hx : p.tables.exec = Jvm.exec) {cd : ClassFile.Cond} {x y : Int32} {o : Int} (hd : decode c.code pc = .ok (.if_icmp cd o, 3)) (hc : if_icmp.holds cd x y = false) (hn : pc + 3 = n)
    (h : own_G p e below K T (mkF m n Ls S)) : own_G p e below K T (mkF m pc Ls (.int y :: .int x :: S)) := by
  subst hn
  exact own_go (fun t k => XS.icmpNo X.here hx rfl hd rfl hc k) h
theorem own_S {K : Outcome → State → Prop} {pc n : Nat} {Ls : Array Slot} {h : Heap} {own : String} {index maxL : Nat} {y : MethodName} {bytes : ByteArray} {rm : Room} {Q : Option Value → Heap → List Loc → Prop} {argsL rest stk : List Value} {ret : Option FieldType} (X : Stand p l e R s m args below meth c T locs cells slots) (hx : p.tables.exec = Jvm.exec) (hZ : Z.Warmed39 s.vm) (hown : s.vm.findClass own = some m.cls) (hM : own_Met l Z y bytes maxL ret [] rm argsL.toArray h Q) (w1 : (Jvm.Cond.methodLink own index y).before a0 Z = true) (w2 : (Jvm.Cond.static y).before a0 Z = true) (w3 : (Jvm.Cond.initialized y.cls).before a0 Z = true) (w4 : (Jvm.Cond.code y bytes maxL ret).before a0 Z = true) (hy : y.cls ≠ "java/lang/invoke/MethodHandle" ∧ y.cls ≠ "java/lang/invoke/VarHandle") (eT : T.heap = h) (hsz : Ls.size = c.maxLocals) (hlen : ∀ sig, parseMethodDescriptor y.desc = some sig → argsL.length = sig.parameters.length) (hstk : stk = argsL.reverse ++ rest) (hd : decode c.code pc = .ok (.invokestatic index, 3)) (hf : rm.frames + 1 ≤ R.frames) (hl : (rest.map fun v => v.category).sum + (maxL + 11) + rm.locals ≤ R.locals) (hc : cells + rm.cells ≤ R.cells) (hs : slots + rm.slots ≤ R.slots) (hn : pc + 3 = n)
    (kk : ∀ (v : Option Value) (T' : State) (L : List Loc), Stand p l e R s m args below meth c T' (locs ++ L) (cells + rm.cells) (slots + rm.slots) → Q v T'.heap L → own_G p e below K T' (mkF m n Ls (v.toList ++ rest))) : own_G p e below K T (mkF m pc Ls stk) := by
  subst hn
  obtain ⟨v, T', L, X', hQ, st⟩ := own_callS X hx hZ hown hM w1 w2 w3 w4 hy eT hsz hlen hstk hd hf hl hc hs
  exact own_go st (kk v T' L X' hQ)
end OwnSteps

theorem own_ne {b z : Addr} {h : Heap} (hb : b < h.size) (g : z = h.size) : b ≠ z := Nat.ne_of_lt (Nat.lt_of_lt_of_le hb (Nat.le_of_eq g.symm))
theorem own_neEA {Z : State} {h : Heap} {a b : Addr} {C : String} {a0 : Array Value} {kk : Nat} {k : ClassId} {ty : FieldType} {n : Int32} {vs : List Value} {dv : Value} (E : Exa Z h a C) (w : (Jvm.Cond.instantiable C kk).before a0 Z = true) (V : Arv Z h b k ty n vs dv) : a ≠ b := by
  obtain ⟨c, A, -⟩ := V
  exact ne_arr E w A
theorem ww0 {Z : State} {a0 : Array Value} (hw : ∀ d ∈ tables_1, d.before a0 Z = true) : (Jvm.Cond.methodLink "com/example/skuld/skuld/formula/LexiconIsNameStartPinLaw" (7 : Nat) ({ cls := "com/example/skuld/skuld/formula/Lexicon", name := "isNameStart", desc := "(I)Z" } : Jvm.MethodName)).before a0 Z = true := hw _ (List.mem_of_getElem? (i := 0) rfl)
theorem ww1 {Z : State} {a0 : Array Value} (hw : ∀ d ∈ tables_1, d.before a0 Z = true) : (Jvm.Cond.static ({ cls := "com/example/skuld/skuld/formula/Lexicon", name := "isNameStart", desc := "(I)Z" } : Jvm.MethodName)).before a0 Z = true := hw _ (List.mem_of_getElem? (i := 1) rfl)
theorem ww2 {Z : State} {a0 : Array Value} (hw : ∀ d ∈ tables_1, d.before a0 Z = true) : (Jvm.Cond.initialized "com/example/skuld/skuld/formula/Lexicon").before a0 Z = true := hw _ (List.mem_of_getElem? (i := 2) rfl)
theorem ww3 {Z : State} {a0 : Array Value} (hw : ∀ d ∈ tables_1, d.before a0 Z = true) : (Jvm.Cond.code ({ cls := "com/example/skuld/skuld/formula/Lexicon", name := "isNameStart", desc := "(I)Z" } : Jvm.MethodName) prog_40_method_4_code (1 : Nat) (Option.some Jvm.ClassFile.FieldType.boolean)).before a0 Z = true := hw _ (List.mem_of_getElem? (i := 3) rfl)
/-! the plain law -/
def own_start (c : Int32) : Int32 := if ((¬ c < (97 : Int32)) ∧ ¬ (122 : Int32) < c) ∨ ((¬ c < (65 : Int32)) ∧ ¬ (90 : Int32) < c) ∨ c = (95 : Int32) then 1 else 0
theorem own_small (c : Int32) (h0 : 0 ≤ c.toInt) (h1 : c.toInt ≤ 127) : ∃ k : Fin 128, c = Int32.ofNat k.val := by
  refine ⟨⟨c.toInt.toNat, by omega⟩, ?_⟩
  apply Int32.toInt_inj.mp
  rw [Int32.toInt_ofNat_of_lt (show c.toInt.toNat < 2 ^ 31 by omega)]
  show c.toInt = ((c.toInt.toNat : Nat) : Int)
  omega
theorem own_tab : ∀ k : Fin 128, ((¬ (Int32.ofNat k.val ||| 32) < (97 : Int32)) ∧ ¬ (122 : Int32) < (Int32.ofNat k.val ||| 32)) ↔ (((¬ Int32.ofNat k.val < (97 : Int32)) ∧ ¬ (122 : Int32) < Int32.ofNat k.val) ∨ ((¬ Int32.ofNat k.val < (65 : Int32)) ∧ ¬ (90 : Int32) < Int32.ofNat k.val)) := by decide +kernel
theorem own_orle (c : Int32) (h0 : 0 ≤ (c ||| 32).toInt) : 0 ≤ c.toInt ∧ c.toInt ≤ (c ||| 32).toInt := by
  have hs := c_orS c 32
  have h2 : (32 : Int32).toInt = 32 := rfl
  have hc : 0 ≤ c.toInt := by
    by_cases q : 0 ≤ c.toInt
    · exact q
    · have := hs.2.1 (by omega); omega
  exact ⟨hc, (c_or0 c 32 hc (by omega)).1⟩
theorem own_letter (c : Int32) : ((¬ (c ||| 32) < (97 : Int32)) ∧ ¬ (122 : Int32) < (c ||| 32)) ↔ (((¬ c < (97 : Int32)) ∧ ¬ (122 : Int32) < c) ∨ ((¬ c < (65 : Int32)) ∧ ¬ (90 : Int32) < c)) := by
  have e97 : (97 : Int32).toInt = 97 := rfl
  have e122 : (122 : Int32).toInt = 122 := rfl
  have e65 : (65 : Int32).toInt = 65 := rfl
  have e90 : (90 : Int32).toInt = 90 := rfl
  by_cases q : 0 ≤ c.toInt ∧ c.toInt ≤ 127
  · obtain ⟨k, rfl⟩ := own_small c q.1 q.2
    exact own_tab k
  · constructor
    · rintro ⟨h1, h2⟩
      rw [Int32.lt_iff_toInt_lt] at h1 h2
      have := own_orle c (by omega)
      omega
    · intro h
      simp only [Int32.lt_iff_toInt_lt] at h
      omega
theorem own_s1 {c : Int32} (h1 : ¬ (c ||| 32) < (97 : Int32)) (h2 : ¬ (122 : Int32) < (c ||| 32)) : own_start c = 1 := by
  have := (own_letter c).mp ⟨h1, h2⟩
  unfold own_start; rw [if_pos]
  rcases this with q | q
  · exact Or.inl q
  · exact Or.inr (Or.inl q)
theorem own_s2 {c : Int32} (h : c = (95 : Int32)) : own_start c = 1 := by subst h; decide
theorem own_s0 {c : Int32} (h : ¬ ((¬ (c ||| 32) < (97 : Int32)) ∧ ¬ (122 : Int32) < (c ||| 32))) (h2 : ¬ c = (95 : Int32)) : own_start c = 0 := by
  rw [own_letter] at h
  unfold own_start; rw [if_neg]
  intro q
  rcases q with q | q | q
  · exact h (Or.inl q)
  · exact h (Or.inr q)
  · exact h2 q
theorem own_s0a {c : Int32} (h : (c ||| 32) < (97 : Int32)) (h2 : ¬ c = (95 : Int32)) : own_start c = 0 := own_s0 (fun q => q.1 h) h2
theorem own_s0b {c : Int32} (h : (122 : Int32) < (c ||| 32)) (h2 : ¬ c = (95 : Int32)) : own_start c = 0 := own_s0 (fun q => q.2 h) h2
theorem own_pn1 : plainFor (⟨"com/example/skuld/skuld/formula/Lexicon", "isNameStart", "(I)Z"⟩ : MethodName) = true := plainFor_of_name (by first | (simp [plainName, overriddenIn]; done) | decide +kernel)
theorem d1_0 : decode prog_40_method_4_code 0 = .ok (.iload_n 0, 1) := by decide +kernel
theorem d1_1 : decode prog_40_method_4_code 1 = .ok (.bipush 97, 2) := by decide +kernel
theorem d1_3 : decode prog_40_method_4_code 3 = .ok (.if_icmp .lt 9, 3) := by decide +kernel
theorem d1_12 : decode prog_40_method_4_code 12 = .ok (.iload_n 0, 1) := by decide +kernel
theorem d1_13 : decode prog_40_method_4_code 13 = .ok (.bipush 65, 2) := by decide +kernel
theorem d1_15 : decode prog_40_method_4_code 15 = .ok (.if_icmp .lt 9, 3) := by decide +kernel
theorem d1_24 : decode prog_40_method_4_code 24 = .ok (.iload_n 0, 1) := by decide +kernel
theorem d1_25 : decode prog_40_method_4_code 25 = .ok (.bipush 95, 2) := by decide +kernel
theorem d1_27 : decode prog_40_method_4_code 27 = .ok (.if_icmp .ne 7, 3) := by decide +kernel
theorem d1_30 : decode prog_40_method_4_code 30 = .ok (.iconst 1, 1) := by decide +kernel
theorem d1_31 : decode prog_40_method_4_code 31 = .ok (.goto 4, 3) := by decide +kernel
theorem d1_35 : decode prog_40_method_4_code 35 = .ok (.ireturn, 1) := by decide +kernel
theorem d1_34 : decode prog_40_method_4_code 34 = .ok (.iconst 0, 1) := by decide +kernel
theorem d1_18 : decode prog_40_method_4_code 18 = .ok (.iload_n 0, 1) := by decide +kernel
theorem d1_19 : decode prog_40_method_4_code 19 = .ok (.bipush 90, 2) := by decide +kernel
theorem d1_21 : decode prog_40_method_4_code 21 = .ok (.if_icmp .le 9, 3) := by decide +kernel
theorem d1_6 : decode prog_40_method_4_code 6 = .ok (.iload_n 0, 1) := by decide +kernel
theorem d1_7 : decode prog_40_method_4_code 7 = .ok (.bipush 122, 2) := by decide +kernel
theorem d1_9 : decode prog_40_method_4_code 9 = .ok (.if_icmp .le 21, 3) := by decide +kernel
theorem own_ef1_own_rm1 (m : MethodId) (y0 : Int32) : entryFrame m #[(.int y0)] 1 = mkF m 0 #[.val (.int y0)] [] := by first | (simp [entryFrame, mkF, argsToLocals, Value.category]; done) | rfl
set_option maxRecDepth 65536 in
set_option maxHeartbeats 40000000 in
theorem own_rm1 (l : Launch) (Z : State) (a0 : Array Value) (hw : ∀ d ∈ tables_1, d.before a0 Z = true) (p0 : Int32) (h0 : Heap) (n0 : Nat) (Z0 : n0 ≤ h0.size)  :
    own_Met l Z (⟨"com/example/skuld/skuld/formula/Lexicon", "isNameStart", "(I)Z"⟩ : MethodName) prog_40_method_4_code 1 (some .boolean) [] ({ frames := 0, cells := 0, slots := 0, locals := 0 } : Room) #[(.int p0)] h0 (fun v h L => v = some (.int (own_start p0)) ∧ Fr n0 L ∧ h = h0) := by
  refine own_met own_pn1 ?_
  intro p e s m below meth c s₁ hx hby hml hown hnm hret hlk hZ X0 e0
  have N0 := Fr.nil n0
  refine own_cast (own_ef1_own_rm1 m p0) ?_
  refine own_iloadN (n := 1) X0 hx (hb hby d1_0) rfl rfl ?_
  refine own_bipush (n := 3) (z := (97 : Int32)) X0 hx (hb hby d1_1) rfl rfl ?_
  by_cases hc3_1 : p0 < (97 : Int32)
  · skip
    refine own_icmpYes (n := 12) X0 hx (hb hby d1_3) (tlt hc3_1).1 (by decide) (by decide) ?_
    refine own_iloadN (n := 13) X0 hx (hb hby d1_12) rfl rfl ?_
    refine own_bipush (n := 15) (z := (65 : Int32)) X0 hx (hb hby d1_13) rfl rfl ?_
    by_cases hc15_2 : p0 < (65 : Int32)
    · skip
      refine own_icmpYes (n := 24) X0 hx (hb hby d1_15) (tlt hc15_2).1 (by decide) (by decide) ?_
      refine own_iloadN (n := 25) X0 hx (hb hby d1_24) rfl rfl ?_
      refine own_bipush (n := 27) (z := (95 : Int32)) X0 hx (hb hby d1_25) rfl rfl ?_
      by_cases hc27_3 : p0 = (95 : Int32)
      · skip
        refine own_icmpNo (n := 30) X0 hx (hb hby d1_27) (teq hc27_3).2 rfl ?_
        refine own_iconst (n := 31) (z := (1 : Int32)) X0 hx (hb hby d1_30) rfl rfl ?_
        refine own_goto (n := 35) X0 hx (hb hby d1_31) (by decide) (by decide) ?_
        refine own_retZ X0 hx hlk hret (by simp) e0 (w := (1 : Int32)) rfl (hb hby d1_35) (by decide) (by decide) ?_
        exact ⟨by simp [own_start, hc3_1, hc15_2, hc27_3], N0, rfl⟩
      · skip
        refine own_icmpYes (n := 34) X0 hx (hb hby d1_27) (feq hc27_3).2 (by decide) (by decide) ?_
        refine own_iconst (n := 35) (z := (0 : Int32)) X0 hx (hb hby d1_34) rfl rfl ?_
        refine own_retZ X0 hx hlk hret (by simp) e0 (w := (0 : Int32)) rfl (hb hby d1_35) (by decide) (by decide) ?_
        exact ⟨by simp [own_start, hc3_1, hc15_2, hc27_3], N0, rfl⟩
    · skip
      refine own_icmpNo (n := 18) X0 hx (hb hby d1_15) (flt hc15_2).1 rfl ?_
      refine own_iloadN (n := 19) X0 hx (hb hby d1_18) rfl rfl ?_
      refine own_bipush (n := 21) (z := (90 : Int32)) X0 hx (hb hby d1_19) rfl rfl ?_
      by_cases hc21_4 : (90 : Int32) < p0
      · skip
        refine own_icmpNo (n := 24) X0 hx (hb hby d1_21) (tlt hc21_4).2.2.2 rfl ?_
        refine own_iloadN (n := 25) X0 hx (hb hby d1_24) rfl rfl ?_
        refine own_bipush (n := 27) (z := (95 : Int32)) X0 hx (hb hby d1_25) rfl rfl ?_
        by_cases hc27_5 : p0 = (95 : Int32)
        · skip
          refine own_icmpNo (n := 30) X0 hx (hb hby d1_27) (teq hc27_5).2 rfl ?_
          refine own_iconst (n := 31) (z := (1 : Int32)) X0 hx (hb hby d1_30) rfl rfl ?_
          refine own_goto (n := 35) X0 hx (hb hby d1_31) (by decide) (by decide) ?_
          refine own_retZ X0 hx hlk hret (by simp) e0 (w := (1 : Int32)) rfl (hb hby d1_35) (by decide) (by decide) ?_
          exact ⟨by simp [own_start, hc3_1, hc15_2, hc21_4, hc27_5], N0, rfl⟩
        · skip
          refine own_icmpYes (n := 34) X0 hx (hb hby d1_27) (feq hc27_5).2 (by decide) (by decide) ?_
          refine own_iconst (n := 35) (z := (0 : Int32)) X0 hx (hb hby d1_34) rfl rfl ?_
          refine own_retZ X0 hx hlk hret (by simp) e0 (w := (0 : Int32)) rfl (hb hby d1_35) (by decide) (by decide) ?_
          exact ⟨by simp [own_start, hc3_1, hc15_2, hc21_4, hc27_5], N0, rfl⟩
      · skip
        refine own_icmpYes (n := 30) X0 hx (hb hby d1_21) (flt hc21_4).2.2.2 (by decide) (by decide) ?_
        refine own_iconst (n := 31) (z := (1 : Int32)) X0 hx (hb hby d1_30) rfl rfl ?_
        refine own_goto (n := 35) X0 hx (hb hby d1_31) (by decide) (by decide) ?_
        refine own_retZ X0 hx hlk hret (by simp) e0 (w := (1 : Int32)) rfl (hb hby d1_35) (by decide) (by decide) ?_
        exact ⟨by simp [own_start, hc3_1, hc15_2, hc21_4], N0, rfl⟩
  · skip
    refine own_icmpNo (n := 6) X0 hx (hb hby d1_3) (flt hc3_1).1 rfl ?_
    refine own_iloadN (n := 7) X0 hx (hb hby d1_6) rfl rfl ?_
    refine own_bipush (n := 9) (z := (122 : Int32)) X0 hx (hb hby d1_7) rfl rfl ?_
    by_cases hc9_6 : (122 : Int32) < p0
    · skip
      refine own_icmpNo (n := 12) X0 hx (hb hby d1_9) (tlt hc9_6).2.2.2 rfl ?_
      refine own_iloadN (n := 13) X0 hx (hb hby d1_12) rfl rfl ?_
      refine own_bipush (n := 15) (z := (65 : Int32)) X0 hx (hb hby d1_13) rfl rfl ?_
      by_cases hc15_7 : p0 < (65 : Int32)
      · skip
        refine own_icmpYes (n := 24) X0 hx (hb hby d1_15) (tlt hc15_7).1 (by decide) (by decide) ?_
        refine own_iloadN (n := 25) X0 hx (hb hby d1_24) rfl rfl ?_
        refine own_bipush (n := 27) (z := (95 : Int32)) X0 hx (hb hby d1_25) rfl rfl ?_
        by_cases hc27_8 : p0 = (95 : Int32)
        · skip
          refine own_icmpNo (n := 30) X0 hx (hb hby d1_27) (teq hc27_8).2 rfl ?_
          refine own_iconst (n := 31) (z := (1 : Int32)) X0 hx (hb hby d1_30) rfl rfl ?_
          refine own_goto (n := 35) X0 hx (hb hby d1_31) (by decide) (by decide) ?_
          refine own_retZ X0 hx hlk hret (by simp) e0 (w := (1 : Int32)) rfl (hb hby d1_35) (by decide) (by decide) ?_
          exact ⟨by simp [own_start, hc3_1, hc9_6, hc15_7, hc27_8], N0, rfl⟩
        · skip
          refine own_icmpYes (n := 34) X0 hx (hb hby d1_27) (feq hc27_8).2 (by decide) (by decide) ?_
          refine own_iconst (n := 35) (z := (0 : Int32)) X0 hx (hb hby d1_34) rfl rfl ?_
          refine own_retZ X0 hx hlk hret (by simp) e0 (w := (0 : Int32)) rfl (hb hby d1_35) (by decide) (by decide) ?_
          exact ⟨by simp [own_start, hc3_1, hc9_6, hc15_7, hc27_8], N0, rfl⟩
      · skip
        refine own_icmpNo (n := 18) X0 hx (hb hby d1_15) (flt hc15_7).1 rfl ?_
        refine own_iloadN (n := 19) X0 hx (hb hby d1_18) rfl rfl ?_
        refine own_bipush (n := 21) (z := (90 : Int32)) X0 hx (hb hby d1_19) rfl rfl ?_
        by_cases hc21_9 : (90 : Int32) < p0
        · skip
          refine own_icmpNo (n := 24) X0 hx (hb hby d1_21) (tlt hc21_9).2.2.2 rfl ?_
          refine own_iloadN (n := 25) X0 hx (hb hby d1_24) rfl rfl ?_
          refine own_bipush (n := 27) (z := (95 : Int32)) X0 hx (hb hby d1_25) rfl rfl ?_
          by_cases hc27_10 : p0 = (95 : Int32)
          · skip
            refine own_icmpNo (n := 30) X0 hx (hb hby d1_27) (teq hc27_10).2 rfl ?_
            refine own_iconst (n := 31) (z := (1 : Int32)) X0 hx (hb hby d1_30) rfl rfl ?_
            refine own_goto (n := 35) X0 hx (hb hby d1_31) (by decide) (by decide) ?_
            refine own_retZ X0 hx hlk hret (by simp) e0 (w := (1 : Int32)) rfl (hb hby d1_35) (by decide) (by decide) ?_
            exact ⟨by simp [own_start, hc3_1, hc9_6, hc15_7, hc21_9, hc27_10], N0, rfl⟩
          · skip
            refine own_icmpYes (n := 34) X0 hx (hb hby d1_27) (feq hc27_10).2 (by decide) (by decide) ?_
            refine own_iconst (n := 35) (z := (0 : Int32)) X0 hx (hb hby d1_34) rfl rfl ?_
            refine own_retZ X0 hx hlk hret (by simp) e0 (w := (0 : Int32)) rfl (hb hby d1_35) (by decide) (by decide) ?_
            exact ⟨by simp [own_start, hc3_1, hc9_6, hc15_7, hc21_9, hc27_10], N0, rfl⟩
        · skip
          refine own_icmpYes (n := 30) X0 hx (hb hby d1_21) (flt hc21_9).2.2.2 (by decide) (by decide) ?_
          refine own_iconst (n := 31) (z := (1 : Int32)) X0 hx (hb hby d1_30) rfl rfl ?_
          refine own_goto (n := 35) X0 hx (hb hby d1_31) (by decide) (by decide) ?_
          refine own_retZ X0 hx hlk hret (by simp) e0 (w := (1 : Int32)) rfl (hb hby d1_35) (by decide) (by decide) ?_
          exact ⟨by simp [own_start, hc3_1, hc9_6, hc15_7, hc21_9], N0, rfl⟩
    · skip
      refine own_icmpYes (n := 30) X0 hx (hb hby d1_9) (flt hc9_6).2.2.2 (by decide) (by decide) ?_
      refine own_iconst (n := 31) (z := (1 : Int32)) X0 hx (hb hby d1_30) rfl rfl ?_
      refine own_goto (n := 35) X0 hx (hb hby d1_31) (by decide) (by decide) ?_
      refine own_retZ X0 hx hlk hret (by simp) e0 (w := (1 : Int32)) rfl (hb hby d1_35) (by decide) (by decide) ?_
      exact ⟨by simp [own_start, hc3_1, hc9_6], N0, rfl⟩
theorem own_pn0 : plainFor x = true := plainFor_of_name (by first | (simp [plainName, overriddenIn]; done) | decide +kernel)
theorem own_pd0 : parseMethodDescriptor "(I)Z" = some ⟨[.int], some .boolean⟩ := by decide +kernel
theorem own_ef0_own_rm0 (m : MethodId) (y0 : Int32) (y1 : Int32) : entryFrame m #[(.int y0), (.int y1)] maxLocals = mkF m 0 #[.val (.int y0), .val (.int y1), .unset, .unset, .unset, .unset] [] := by first | (simp [entryFrame, mkF, argsToLocals, Value.category, maxLocals]; done) | rfl
set_option maxRecDepth 65536 in
set_option maxHeartbeats 40000000 in
theorem own_rm0 (l : Launch) (Z : State) (a0 : Array Value) (hw : ∀ d ∈ tables_1, d.before a0 Z = true) (p0 p1 : Int32) (h0 : Heap) (n0 : Nat) (Z0 : n0 ≤ h0.size)  :
    own_Met l Z x code maxLocals ret tables_1 room_1 #[(.int p0), (.int p1)] h0 (fun v h L => v = some (.int 1) ∧ Fr n0 L) := by
  refine own_met own_pn0 ?_
  intro p e s m below meth c s₁ hx hby hml hown hnm hret hlk hZ X0 e0
  have N0 := Fr.nil n0
  refine own_cast (own_ef0_own_rm0 m p0 p1) ?_
  refine own_iloadN (n := 1) X0 hx (hb hby at_0) rfl rfl ?_
  refine own_iconst (n := 2) (z := (1 : Int32)) X0 hx (hb hby at_1) rfl rfl ?_
  refine own_iand (n := 3) X0 hx (hb hby at_2) rfl rfl ?_
  by_cases hc3_1 : (p1 &&& (1 : Int32)) = (0 : Int32)
  · skip
    refine own_ifYes (n := 10) X0 hx (hb hby at_3) (teq hc3_1).1 (by decide) (by decide) ?_
    refine own_iloadN (n := 11) X0 hx (hb hby at_10) rfl rfl ?_
    refine own_sipush (n := 14) (z := (255 : Int32)) X0 hx (hb hby at_11) rfl rfl ?_
    refine own_iand (n := 15) X0 hx (hb hby at_14) rfl rfl ?_
    refine own_istoreN (n := 16) (l' := #[.val (.int p0), .val (.int p1), .val (.int (p0 &&& (255 : Int32))), .unset, .unset, .unset]) X0 hx (hb hby at_15) rfl rfl ?_
    refine own_iloadN (n := 17) X0 hx (hb hby at_16) rfl rfl ?_
    refine own_bipush (n := 19) (z := (32 : Int32)) X0 hx (hb hby at_17) rfl rfl ?_
    refine own_ior (n := 20) X0 hx (hb hby at_19) rfl rfl ?_
    refine own_istoreN (n := 21) (l' := #[.val (.int p0), .val (.int p1), .val (.int (p0 &&& (255 : Int32))), .val (.int ((p0 &&& (255 : Int32)) ||| (32 : Int32))), .unset, .unset]) X0 hx (hb hby at_20) rfl rfl ?_
    refine own_iloadN (n := 22) X0 hx (hb hby at_21) rfl rfl ?_
    refine own_bipush (n := 24) (z := (97 : Int32)) X0 hx (hb hby at_22) rfl rfl ?_
    by_cases hc24_2 : ((p0 &&& (255 : Int32)) ||| (32 : Int32)) < (97 : Int32)
    · skip
      refine own_icmpYes (n := 37) X0 hx (hb hby at_24) (tlt hc24_2).1 (by decide) (by decide) ?_
      refine own_iconst (n := 38) (z := (0 : Int32)) X0 hx (hb hby at_37) rfl rfl ?_
      refine own_istore (n := 40) (l' := #[.val (.int p0), .val (.int p1), .val (.int (p0 &&& (255 : Int32))), .val (.int ((p0 &&& (255 : Int32)) ||| (32 : Int32))), .val (.int (0 : Int32)), .unset]) X0 hx (hb hby at_38) rfl rfl ?_
      refine own_iload (n := 42) X0 hx (hb hby at_40) rfl rfl ?_
      refine own_ifNo (n := 45) X0 hx (hb hby at_42) (teq (by decide : (0 : Int32) = (0 : Int32))).2 rfl ?_
      refine own_iloadN (n := 46) X0 hx (hb hby at_45) rfl rfl ?_
      refine own_bipush (n := 48) (z := (95 : Int32)) X0 hx (hb hby at_46) rfl rfl ?_
      by_cases hc48_3 : (p0 &&& (255 : Int32)) = (95 : Int32)
      · skip
        refine own_icmpNo (n := 51) X0 hx (hb hby at_48) (teq hc48_3).2 rfl ?_
        refine own_iconst (n := 52) (z := (1 : Int32)) X0 hx (hb hby at_51) rfl rfl ?_
        refine own_goto (n := 56) X0 hx (hb hby at_52) (by decide) (by decide) ?_
        refine own_istore (n := 58) (l' := #[.val (.int p0), .val (.int p1), .val (.int (p0 &&& (255 : Int32))), .val (.int ((p0 &&& (255 : Int32)) ||| (32 : Int32))), .val (.int (0 : Int32)), .val (.int (1 : Int32))]) X0 hx (hb hby at_56) rfl rfl ?_
        refine own_iloadN (n := 59) X0 hx (hb hby at_58) rfl rfl ?_
        refine own_S (n := 62) (argsL := [(.int (p0 &&& (255 : Int32)))]) (rest := []) X0 hx hZ hown (own_rm1 l Z a0 hw (p0 &&& (255 : Int32)) h0 n0 Z0) (ww0 hw) (ww1 hw) (ww2 hw) (ww3 hw) (by decide) e0 (by rw [hml]; rfl) (lenOf own_pd0 rfl) rfl (hb hby at_59) (Nat.le_of_ble_eq_true rfl) (Nat.le_of_ble_eq_true rfl) (Nat.le_of_ble_eq_true rfl) (Nat.le_of_ble_eq_true rfl) rfl ?_
        rintro v4 T4 L4 X4 ⟨rfl, Nq4, eq4⟩
        have N4 := Fr.app N0 Nq4
        change own_G p e below _ _ (mkF m 62 _ [(.int (own_start (p0 &&& (255 : Int32))))])
        refine own_iload (n := 64) X4 hx (hb hby at_62) rfl rfl ?_
        refine own_icmpNo (n := 67) X4 hx (hb hby at_64) (teq (by first | exact own_s1 (by assumption) (by assumption) | exact own_s2 (by assumption) | exact own_s0a (by assumption) (by assumption) | exact own_s0b (by assumption) (by assumption) : (own_start (p0 &&& (255 : Int32))) = (1 : Int32))).2 rfl ?_
        refine own_iconst (n := 68) (z := (1 : Int32)) X4 hx (hb hby at_67) rfl rfl ?_
        refine own_goto (n := 72) X4 hx (hb hby at_68) (by decide) (by decide) ?_
        refine own_retZ X4 hx hlk hret (by simp) eq4 (w := (1 : Int32)) rfl (hb hby at_72) (by decide) (by decide) ?_
        exact ⟨rfl, N4⟩
      · skip
        refine own_icmpYes (n := 55) X0 hx (hb hby at_48) (feq hc48_3).2 (by decide) (by decide) ?_
        refine own_iconst (n := 56) (z := (0 : Int32)) X0 hx (hb hby at_55) rfl rfl ?_
        refine own_istore (n := 58) (l' := #[.val (.int p0), .val (.int p1), .val (.int (p0 &&& (255 : Int32))), .val (.int ((p0 &&& (255 : Int32)) ||| (32 : Int32))), .val (.int (0 : Int32)), .val (.int (0 : Int32))]) X0 hx (hb hby at_56) rfl rfl ?_
        refine own_iloadN (n := 59) X0 hx (hb hby at_58) rfl rfl ?_
        refine own_S (n := 62) (argsL := [(.int (p0 &&& (255 : Int32)))]) (rest := []) X0 hx hZ hown (own_rm1 l Z a0 hw (p0 &&& (255 : Int32)) h0 n0 Z0) (ww0 hw) (ww1 hw) (ww2 hw) (ww3 hw) (by decide) e0 (by rw [hml]; rfl) (lenOf own_pd0 rfl) rfl (hb hby at_59) (Nat.le_of_ble_eq_true rfl) (Nat.le_of_ble_eq_true rfl) (Nat.le_of_ble_eq_true rfl) (Nat.le_of_ble_eq_true rfl) rfl ?_
        rintro v5 T5 L5 X5 ⟨rfl, Nq5, eq5⟩
        have N5 := Fr.app N0 Nq5
        change own_G p e below _ _ (mkF m 62 _ [(.int (own_start (p0 &&& (255 : Int32))))])
        refine own_iload (n := 64) X5 hx (hb hby at_62) rfl rfl ?_
        refine own_icmpNo (n := 67) X5 hx (hb hby at_64) (teq (by first | exact own_s1 (by assumption) (by assumption) | exact own_s2 (by assumption) | exact own_s0a (by assumption) (by assumption) | exact own_s0b (by assumption) (by assumption) : (own_start (p0 &&& (255 : Int32))) = (0 : Int32))).2 rfl ?_
        refine own_iconst (n := 68) (z := (1 : Int32)) X5 hx (hb hby at_67) rfl rfl ?_
        refine own_goto (n := 72) X5 hx (hb hby at_68) (by decide) (by decide) ?_
        refine own_retZ X5 hx hlk hret (by simp) eq5 (w := (1 : Int32)) rfl (hb hby at_72) (by decide) (by decide) ?_
        exact ⟨rfl, N5⟩
    · skip
      refine own_icmpNo (n := 27) X0 hx (hb hby at_24) (flt hc24_2).1 rfl ?_
      refine own_iloadN (n := 28) X0 hx (hb hby at_27) rfl rfl ?_
      refine own_bipush (n := 30) (z := (122 : Int32)) X0 hx (hb hby at_28) rfl rfl ?_
      by_cases hc30_6 : (122 : Int32) < ((p0 &&& (255 : Int32)) ||| (32 : Int32))
      · skip
        refine own_icmpYes (n := 37) X0 hx (hb hby at_30) (tlt hc30_6).2.2.1 (by decide) (by decide) ?_
        refine own_iconst (n := 38) (z := (0 : Int32)) X0 hx (hb hby at_37) rfl rfl ?_
        refine own_istore (n := 40) (l' := #[.val (.int p0), .val (.int p1), .val (.int (p0 &&& (255 : Int32))), .val (.int ((p0 &&& (255 : Int32)) ||| (32 : Int32))), .val (.int (0 : Int32)), .unset]) X0 hx (hb hby at_38) rfl rfl ?_
        refine own_iload (n := 42) X0 hx (hb hby at_40) rfl rfl ?_
        refine own_ifNo (n := 45) X0 hx (hb hby at_42) (teq (by decide : (0 : Int32) = (0 : Int32))).2 rfl ?_
        refine own_iloadN (n := 46) X0 hx (hb hby at_45) rfl rfl ?_
        refine own_bipush (n := 48) (z := (95 : Int32)) X0 hx (hb hby at_46) rfl rfl ?_
        by_cases hc48_7 : (p0 &&& (255 : Int32)) = (95 : Int32)
        · skip
          refine own_icmpNo (n := 51) X0 hx (hb hby at_48) (teq hc48_7).2 rfl ?_
          refine own_iconst (n := 52) (z := (1 : Int32)) X0 hx (hb hby at_51) rfl rfl ?_
          refine own_goto (n := 56) X0 hx (hb hby at_52) (by decide) (by decide) ?_
          refine own_istore (n := 58) (l' := #[.val (.int p0), .val (.int p1), .val (.int (p0 &&& (255 : Int32))), .val (.int ((p0 &&& (255 : Int32)) ||| (32 : Int32))), .val (.int (0 : Int32)), .val (.int (1 : Int32))]) X0 hx (hb hby at_56) rfl rfl ?_
          refine own_iloadN (n := 59) X0 hx (hb hby at_58) rfl rfl ?_
          refine own_S (n := 62) (argsL := [(.int (p0 &&& (255 : Int32)))]) (rest := []) X0 hx hZ hown (own_rm1 l Z a0 hw (p0 &&& (255 : Int32)) h0 n0 Z0) (ww0 hw) (ww1 hw) (ww2 hw) (ww3 hw) (by decide) e0 (by rw [hml]; rfl) (lenOf own_pd0 rfl) rfl (hb hby at_59) (Nat.le_of_ble_eq_true rfl) (Nat.le_of_ble_eq_true rfl) (Nat.le_of_ble_eq_true rfl) (Nat.le_of_ble_eq_true rfl) rfl ?_
          rintro v8 T8 L8 X8 ⟨rfl, Nq8, eq8⟩
          have N8 := Fr.app N0 Nq8
          change own_G p e below _ _ (mkF m 62 _ [(.int (own_start (p0 &&& (255 : Int32))))])
          refine own_iload (n := 64) X8 hx (hb hby at_62) rfl rfl ?_
          refine own_icmpNo (n := 67) X8 hx (hb hby at_64) (teq (by first | exact own_s1 (by assumption) (by assumption) | exact own_s2 (by assumption) | exact own_s0a (by assumption) (by assumption) | exact own_s0b (by assumption) (by assumption) : (own_start (p0 &&& (255 : Int32))) = (1 : Int32))).2 rfl ?_
          refine own_iconst (n := 68) (z := (1 : Int32)) X8 hx (hb hby at_67) rfl rfl ?_
          refine own_goto (n := 72) X8 hx (hb hby at_68) (by decide) (by decide) ?_
          refine own_retZ X8 hx hlk hret (by simp) eq8 (w := (1 : Int32)) rfl (hb hby at_72) (by decide) (by decide) ?_
          exact ⟨rfl, N8⟩
        · skip
          refine own_icmpYes (n := 55) X0 hx (hb hby at_48) (feq hc48_7).2 (by decide) (by decide) ?_
          refine own_iconst (n := 56) (z := (0 : Int32)) X0 hx (hb hby at_55) rfl rfl ?_
          refine own_istore (n := 58) (l' := #[.val (.int p0), .val (.int p1), .val (.int (p0 &&& (255 : Int32))), .val (.int ((p0 &&& (255 : Int32)) ||| (32 : Int32))), .val (.int (0 : Int32)), .val (.int (0 : Int32))]) X0 hx (hb hby at_56) rfl rfl ?_
          refine own_iloadN (n := 59) X0 hx (hb hby at_58) rfl rfl ?_
          refine own_S (n := 62) (argsL := [(.int (p0 &&& (255 : Int32)))]) (rest := []) X0 hx hZ hown (own_rm1 l Z a0 hw (p0 &&& (255 : Int32)) h0 n0 Z0) (ww0 hw) (ww1 hw) (ww2 hw) (ww3 hw) (by decide) e0 (by rw [hml]; rfl) (lenOf own_pd0 rfl) rfl (hb hby at_59) (Nat.le_of_ble_eq_true rfl) (Nat.le_of_ble_eq_true rfl) (Nat.le_of_ble_eq_true rfl) (Nat.le_of_ble_eq_true rfl) rfl ?_
          rintro v9 T9 L9 X9 ⟨rfl, Nq9, eq9⟩
          have N9 := Fr.app N0 Nq9
          change own_G p e below _ _ (mkF m 62 _ [(.int (own_start (p0 &&& (255 : Int32))))])
          refine own_iload (n := 64) X9 hx (hb hby at_62) rfl rfl ?_
          refine own_icmpNo (n := 67) X9 hx (hb hby at_64) (teq (by first | exact own_s1 (by assumption) (by assumption) | exact own_s2 (by assumption) | exact own_s0a (by assumption) (by assumption) | exact own_s0b (by assumption) (by assumption) : (own_start (p0 &&& (255 : Int32))) = (0 : Int32))).2 rfl ?_
          refine own_iconst (n := 68) (z := (1 : Int32)) X9 hx (hb hby at_67) rfl rfl ?_
          refine own_goto (n := 72) X9 hx (hb hby at_68) (by decide) (by decide) ?_
          refine own_retZ X9 hx hlk hret (by simp) eq9 (w := (1 : Int32)) rfl (hb hby at_72) (by decide) (by decide) ?_
          exact ⟨rfl, N9⟩
      · skip
        refine own_icmpNo (n := 33) X0 hx (hb hby at_30) (flt hc30_6).2.2.1 rfl ?_
        refine own_iconst (n := 34) (z := (1 : Int32)) X0 hx (hb hby at_33) rfl rfl ?_
        refine own_goto (n := 38) X0 hx (hb hby at_34) (by decide) (by decide) ?_
        refine own_istore (n := 40) (l' := #[.val (.int p0), .val (.int p1), .val (.int (p0 &&& (255 : Int32))), .val (.int ((p0 &&& (255 : Int32)) ||| (32 : Int32))), .val (.int (1 : Int32)), .unset]) X0 hx (hb hby at_38) rfl rfl ?_
        refine own_iload (n := 42) X0 hx (hb hby at_40) rfl rfl ?_
        refine own_ifYes (n := 51) X0 hx (hb hby at_42) (feq (by decide : ¬ ((1 : Int32) = (0 : Int32)))).2 (by decide) (by decide) ?_
        refine own_iconst (n := 52) (z := (1 : Int32)) X0 hx (hb hby at_51) rfl rfl ?_
        refine own_goto (n := 56) X0 hx (hb hby at_52) (by decide) (by decide) ?_
        refine own_istore (n := 58) (l' := #[.val (.int p0), .val (.int p1), .val (.int (p0 &&& (255 : Int32))), .val (.int ((p0 &&& (255 : Int32)) ||| (32 : Int32))), .val (.int (1 : Int32)), .val (.int (1 : Int32))]) X0 hx (hb hby at_56) rfl rfl ?_
        refine own_iloadN (n := 59) X0 hx (hb hby at_58) rfl rfl ?_
        refine own_S (n := 62) (argsL := [(.int (p0 &&& (255 : Int32)))]) (rest := []) X0 hx hZ hown (own_rm1 l Z a0 hw (p0 &&& (255 : Int32)) h0 n0 Z0) (ww0 hw) (ww1 hw) (ww2 hw) (ww3 hw) (by decide) e0 (by rw [hml]; rfl) (lenOf own_pd0 rfl) rfl (hb hby at_59) (Nat.le_of_ble_eq_true rfl) (Nat.le_of_ble_eq_true rfl) (Nat.le_of_ble_eq_true rfl) (Nat.le_of_ble_eq_true rfl) rfl ?_
        rintro v10 T10 L10 X10 ⟨rfl, Nq10, eq10⟩
        have N10 := Fr.app N0 Nq10
        change own_G p e below _ _ (mkF m 62 _ [(.int (own_start (p0 &&& (255 : Int32))))])
        refine own_iload (n := 64) X10 hx (hb hby at_62) rfl rfl ?_
        refine own_icmpNo (n := 67) X10 hx (hb hby at_64) (teq (by first | exact own_s1 (by assumption) (by assumption) | exact own_s2 (by assumption) | exact own_s0a (by assumption) (by assumption) | exact own_s0b (by assumption) (by assumption) : (own_start (p0 &&& (255 : Int32))) = (1 : Int32))).2 rfl ?_
        refine own_iconst (n := 68) (z := (1 : Int32)) X10 hx (hb hby at_67) rfl rfl ?_
        refine own_goto (n := 72) X10 hx (hb hby at_68) (by decide) (by decide) ?_
        refine own_retZ X10 hx hlk hret (by simp) eq10 (w := (1 : Int32)) rfl (hb hby at_72) (by decide) (by decide) ?_
        exact ⟨rfl, N10⟩
  · skip
    refine own_ifNo (n := 6) X0 hx (hb hby at_3) (feq hc3_1).1 rfl ?_
    refine own_iloadN (n := 7) X0 hx (hb hby at_6) rfl rfl ?_
    refine own_goto (n := 15) X0 hx (hb hby at_7) (by decide) (by decide) ?_
    refine own_istoreN (n := 16) (l' := #[.val (.int p0), .val (.int p1), .val (.int p0), .unset, .unset, .unset]) X0 hx (hb hby at_15) rfl rfl ?_
    refine own_iloadN (n := 17) X0 hx (hb hby at_16) rfl rfl ?_
    refine own_bipush (n := 19) (z := (32 : Int32)) X0 hx (hb hby at_17) rfl rfl ?_
    refine own_ior (n := 20) X0 hx (hb hby at_19) rfl rfl ?_
    refine own_istoreN (n := 21) (l' := #[.val (.int p0), .val (.int p1), .val (.int p0), .val (.int (p0 ||| (32 : Int32))), .unset, .unset]) X0 hx (hb hby at_20) rfl rfl ?_
    refine own_iloadN (n := 22) X0 hx (hb hby at_21) rfl rfl ?_
    refine own_bipush (n := 24) (z := (97 : Int32)) X0 hx (hb hby at_22) rfl rfl ?_
    by_cases hc24_11 : (p0 ||| (32 : Int32)) < (97 : Int32)
    · skip
      refine own_icmpYes (n := 37) X0 hx (hb hby at_24) (tlt hc24_11).1 (by decide) (by decide) ?_
      refine own_iconst (n := 38) (z := (0 : Int32)) X0 hx (hb hby at_37) rfl rfl ?_
      refine own_istore (n := 40) (l' := #[.val (.int p0), .val (.int p1), .val (.int p0), .val (.int (p0 ||| (32 : Int32))), .val (.int (0 : Int32)), .unset]) X0 hx (hb hby at_38) rfl rfl ?_
      refine own_iload (n := 42) X0 hx (hb hby at_40) rfl rfl ?_
      refine own_ifNo (n := 45) X0 hx (hb hby at_42) (teq (by decide : (0 : Int32) = (0 : Int32))).2 rfl ?_
      refine own_iloadN (n := 46) X0 hx (hb hby at_45) rfl rfl ?_
      refine own_bipush (n := 48) (z := (95 : Int32)) X0 hx (hb hby at_46) rfl rfl ?_
      by_cases hc48_12 : p0 = (95 : Int32)
      · skip
        refine own_icmpNo (n := 51) X0 hx (hb hby at_48) (teq hc48_12).2 rfl ?_
        refine own_iconst (n := 52) (z := (1 : Int32)) X0 hx (hb hby at_51) rfl rfl ?_
        refine own_goto (n := 56) X0 hx (hb hby at_52) (by decide) (by decide) ?_
        refine own_istore (n := 58) (l' := #[.val (.int p0), .val (.int p1), .val (.int p0), .val (.int (p0 ||| (32 : Int32))), .val (.int (0 : Int32)), .val (.int (1 : Int32))]) X0 hx (hb hby at_56) rfl rfl ?_
        refine own_iloadN (n := 59) X0 hx (hb hby at_58) rfl rfl ?_
        refine own_S (n := 62) (argsL := [(.int p0)]) (rest := []) X0 hx hZ hown (own_rm1 l Z a0 hw p0 h0 n0 Z0) (ww0 hw) (ww1 hw) (ww2 hw) (ww3 hw) (by decide) e0 (by rw [hml]; rfl) (lenOf own_pd0 rfl) rfl (hb hby at_59) (Nat.le_of_ble_eq_true rfl) (Nat.le_of_ble_eq_true rfl) (Nat.le_of_ble_eq_true rfl) (Nat.le_of_ble_eq_true rfl) rfl ?_
        rintro v13 T13 L13 X13 ⟨rfl, Nq13, eq13⟩
        have N13 := Fr.app N0 Nq13
        change own_G p e below _ _ (mkF m 62 _ [(.int (own_start p0))])
        refine own_iload (n := 64) X13 hx (hb hby at_62) rfl rfl ?_
        refine own_icmpNo (n := 67) X13 hx (hb hby at_64) (teq (by first | exact own_s1 (by assumption) (by assumption) | exact own_s2 (by assumption) | exact own_s0a (by assumption) (by assumption) | exact own_s0b (by assumption) (by assumption) : (own_start p0) = (1 : Int32))).2 rfl ?_
        refine own_iconst (n := 68) (z := (1 : Int32)) X13 hx (hb hby at_67) rfl rfl ?_
        refine own_goto (n := 72) X13 hx (hb hby at_68) (by decide) (by decide) ?_
        refine own_retZ X13 hx hlk hret (by simp) eq13 (w := (1 : Int32)) rfl (hb hby at_72) (by decide) (by decide) ?_
        exact ⟨rfl, N13⟩
      · skip
        refine own_icmpYes (n := 55) X0 hx (hb hby at_48) (feq hc48_12).2 (by decide) (by decide) ?_
        refine own_iconst (n := 56) (z := (0 : Int32)) X0 hx (hb hby at_55) rfl rfl ?_
        refine own_istore (n := 58) (l' := #[.val (.int p0), .val (.int p1), .val (.int p0), .val (.int (p0 ||| (32 : Int32))), .val (.int (0 : Int32)), .val (.int (0 : Int32))]) X0 hx (hb hby at_56) rfl rfl ?_
        refine own_iloadN (n := 59) X0 hx (hb hby at_58) rfl rfl ?_
        refine own_S (n := 62) (argsL := [(.int p0)]) (rest := []) X0 hx hZ hown (own_rm1 l Z a0 hw p0 h0 n0 Z0) (ww0 hw) (ww1 hw) (ww2 hw) (ww3 hw) (by decide) e0 (by rw [hml]; rfl) (lenOf own_pd0 rfl) rfl (hb hby at_59) (Nat.le_of_ble_eq_true rfl) (Nat.le_of_ble_eq_true rfl) (Nat.le_of_ble_eq_true rfl) (Nat.le_of_ble_eq_true rfl) rfl ?_
        rintro v14 T14 L14 X14 ⟨rfl, Nq14, eq14⟩
        have N14 := Fr.app N0 Nq14
        change own_G p e below _ _ (mkF m 62 _ [(.int (own_start p0))])
        refine own_iload (n := 64) X14 hx (hb hby at_62) rfl rfl ?_
        refine own_icmpNo (n := 67) X14 hx (hb hby at_64) (teq (by first | exact own_s1 (by assumption) (by assumption) | exact own_s2 (by assumption) | exact own_s0a (by assumption) (by assumption) | exact own_s0b (by assumption) (by assumption) : (own_start p0) = (0 : Int32))).2 rfl ?_
        refine own_iconst (n := 68) (z := (1 : Int32)) X14 hx (hb hby at_67) rfl rfl ?_
        refine own_goto (n := 72) X14 hx (hb hby at_68) (by decide) (by decide) ?_
        refine own_retZ X14 hx hlk hret (by simp) eq14 (w := (1 : Int32)) rfl (hb hby at_72) (by decide) (by decide) ?_
        exact ⟨rfl, N14⟩
    · skip
      refine own_icmpNo (n := 27) X0 hx (hb hby at_24) (flt hc24_11).1 rfl ?_
      refine own_iloadN (n := 28) X0 hx (hb hby at_27) rfl rfl ?_
      refine own_bipush (n := 30) (z := (122 : Int32)) X0 hx (hb hby at_28) rfl rfl ?_
      by_cases hc30_15 : (122 : Int32) < (p0 ||| (32 : Int32))
      · skip
        refine own_icmpYes (n := 37) X0 hx (hb hby at_30) (tlt hc30_15).2.2.1 (by decide) (by decide) ?_
        refine own_iconst (n := 38) (z := (0 : Int32)) X0 hx (hb hby at_37) rfl rfl ?_
        refine own_istore (n := 40) (l' := #[.val (.int p0), .val (.int p1), .val (.int p0), .val (.int (p0 ||| (32 : Int32))), .val (.int (0 : Int32)), .unset]) X0 hx (hb hby at_38) rfl rfl ?_
        refine own_iload (n := 42) X0 hx (hb hby at_40) rfl rfl ?_
        refine own_ifNo (n := 45) X0 hx (hb hby at_42) (teq (by decide : (0 : Int32) = (0 : Int32))).2 rfl ?_
        refine own_iloadN (n := 46) X0 hx (hb hby at_45) rfl rfl ?_
        refine own_bipush (n := 48) (z := (95 : Int32)) X0 hx (hb hby at_46) rfl rfl ?_
        by_cases hc48_16 : p0 = (95 : Int32)
        · skip
          refine own_icmpNo (n := 51) X0 hx (hb hby at_48) (teq hc48_16).2 rfl ?_
          refine own_iconst (n := 52) (z := (1 : Int32)) X0 hx (hb hby at_51) rfl rfl ?_
          refine own_goto (n := 56) X0 hx (hb hby at_52) (by decide) (by decide) ?_
          refine own_istore (n := 58) (l' := #[.val (.int p0), .val (.int p1), .val (.int p0), .val (.int (p0 ||| (32 : Int32))), .val (.int (0 : Int32)), .val (.int (1 : Int32))]) X0 hx (hb hby at_56) rfl rfl ?_
          refine own_iloadN (n := 59) X0 hx (hb hby at_58) rfl rfl ?_
          refine own_S (n := 62) (argsL := [(.int p0)]) (rest := []) X0 hx hZ hown (own_rm1 l Z a0 hw p0 h0 n0 Z0) (ww0 hw) (ww1 hw) (ww2 hw) (ww3 hw) (by decide) e0 (by rw [hml]; rfl) (lenOf own_pd0 rfl) rfl (hb hby at_59) (Nat.le_of_ble_eq_true rfl) (Nat.le_of_ble_eq_true rfl) (Nat.le_of_ble_eq_true rfl) (Nat.le_of_ble_eq_true rfl) rfl ?_
          rintro v17 T17 L17 X17 ⟨rfl, Nq17, eq17⟩
          have N17 := Fr.app N0 Nq17
          change own_G p e below _ _ (mkF m 62 _ [(.int (own_start p0))])
          refine own_iload (n := 64) X17 hx (hb hby at_62) rfl rfl ?_
          refine own_icmpNo (n := 67) X17 hx (hb hby at_64) (teq (by first | exact own_s1 (by assumption) (by assumption) | exact own_s2 (by assumption) | exact own_s0a (by assumption) (by assumption) | exact own_s0b (by assumption) (by assumption) : (own_start p0) = (1 : Int32))).2 rfl ?_
          refine own_iconst (n := 68) (z := (1 : Int32)) X17 hx (hb hby at_67) rfl rfl ?_
          refine own_goto (n := 72) X17 hx (hb hby at_68) (by decide) (by decide) ?_
          refine own_retZ X17 hx hlk hret (by simp) eq17 (w := (1 : Int32)) rfl (hb hby at_72) (by decide) (by decide) ?_
          exact ⟨rfl, N17⟩
        · skip
          refine own_icmpYes (n := 55) X0 hx (hb hby at_48) (feq hc48_16).2 (by decide) (by decide) ?_
          refine own_iconst (n := 56) (z := (0 : Int32)) X0 hx (hb hby at_55) rfl rfl ?_
          refine own_istore (n := 58) (l' := #[.val (.int p0), .val (.int p1), .val (.int p0), .val (.int (p0 ||| (32 : Int32))), .val (.int (0 : Int32)), .val (.int (0 : Int32))]) X0 hx (hb hby at_56) rfl rfl ?_
          refine own_iloadN (n := 59) X0 hx (hb hby at_58) rfl rfl ?_
          refine own_S (n := 62) (argsL := [(.int p0)]) (rest := []) X0 hx hZ hown (own_rm1 l Z a0 hw p0 h0 n0 Z0) (ww0 hw) (ww1 hw) (ww2 hw) (ww3 hw) (by decide) e0 (by rw [hml]; rfl) (lenOf own_pd0 rfl) rfl (hb hby at_59) (Nat.le_of_ble_eq_true rfl) (Nat.le_of_ble_eq_true rfl) (Nat.le_of_ble_eq_true rfl) (Nat.le_of_ble_eq_true rfl) rfl ?_
          rintro v18 T18 L18 X18 ⟨rfl, Nq18, eq18⟩
          have N18 := Fr.app N0 Nq18
          change own_G p e below _ _ (mkF m 62 _ [(.int (own_start p0))])
          refine own_iload (n := 64) X18 hx (hb hby at_62) rfl rfl ?_
          refine own_icmpNo (n := 67) X18 hx (hb hby at_64) (teq (by first | exact own_s1 (by assumption) (by assumption) | exact own_s2 (by assumption) | exact own_s0a (by assumption) (by assumption) | exact own_s0b (by assumption) (by assumption) : (own_start p0) = (0 : Int32))).2 rfl ?_
          refine own_iconst (n := 68) (z := (1 : Int32)) X18 hx (hb hby at_67) rfl rfl ?_
          refine own_goto (n := 72) X18 hx (hb hby at_68) (by decide) (by decide) ?_
          refine own_retZ X18 hx hlk hret (by simp) eq18 (w := (1 : Int32)) rfl (hb hby at_72) (by decide) (by decide) ?_
          exact ⟨rfl, N18⟩
      · skip
        refine own_icmpNo (n := 33) X0 hx (hb hby at_30) (flt hc30_15).2.2.1 rfl ?_
        refine own_iconst (n := 34) (z := (1 : Int32)) X0 hx (hb hby at_33) rfl rfl ?_
        refine own_goto (n := 38) X0 hx (hb hby at_34) (by decide) (by decide) ?_
        refine own_istore (n := 40) (l' := #[.val (.int p0), .val (.int p1), .val (.int p0), .val (.int (p0 ||| (32 : Int32))), .val (.int (1 : Int32)), .unset]) X0 hx (hb hby at_38) rfl rfl ?_
        refine own_iload (n := 42) X0 hx (hb hby at_40) rfl rfl ?_
        refine own_ifYes (n := 51) X0 hx (hb hby at_42) (feq (by decide : ¬ ((1 : Int32) = (0 : Int32)))).2 (by decide) (by decide) ?_
        refine own_iconst (n := 52) (z := (1 : Int32)) X0 hx (hb hby at_51) rfl rfl ?_
        refine own_goto (n := 56) X0 hx (hb hby at_52) (by decide) (by decide) ?_
        refine own_istore (n := 58) (l' := #[.val (.int p0), .val (.int p1), .val (.int p0), .val (.int (p0 ||| (32 : Int32))), .val (.int (1 : Int32)), .val (.int (1 : Int32))]) X0 hx (hb hby at_56) rfl rfl ?_
        refine own_iloadN (n := 59) X0 hx (hb hby at_58) rfl rfl ?_
        refine own_S (n := 62) (argsL := [(.int p0)]) (rest := []) X0 hx hZ hown (own_rm1 l Z a0 hw p0 h0 n0 Z0) (ww0 hw) (ww1 hw) (ww2 hw) (ww3 hw) (by decide) e0 (by rw [hml]; rfl) (lenOf own_pd0 rfl) rfl (hb hby at_59) (Nat.le_of_ble_eq_true rfl) (Nat.le_of_ble_eq_true rfl) (Nat.le_of_ble_eq_true rfl) (Nat.le_of_ble_eq_true rfl) rfl ?_
        rintro v19 T19 L19 X19 ⟨rfl, Nq19, eq19⟩
        have N19 := Fr.app N0 Nq19
        change own_G p e below _ _ (mkF m 62 _ [(.int (own_start p0))])
        refine own_iload (n := 64) X19 hx (hb hby at_62) rfl rfl ?_
        refine own_icmpNo (n := 67) X19 hx (hb hby at_64) (teq (by first | exact own_s1 (by assumption) (by assumption) | exact own_s2 (by assumption) | exact own_s0a (by assumption) (by assumption) | exact own_s0b (by assumption) (by assumption) : (own_start p0) = (1 : Int32))).2 rfl ?_
        refine own_iconst (n := 68) (z := (1 : Int32)) X19 hx (hb hby at_67) rfl rfl ?_
        refine own_goto (n := 72) X19 hx (hb hby at_68) (by decide) (by decide) ?_
        refine own_retZ X19 hx hlk hret (by simp) eq19 (w := (1 : Int32)) rfl (hb hby at_72) (by decide) (by decide) ?_
        exact ⟨rfl, N19⟩
set_option maxRecDepth 65536 in
set_option maxHeartbeats 40000000 in
theorem comes_1 {Post : Tables → Env → Array Value → State → Outcome → State → Prop} (hpost : ∀ tb e args s v u, (limb_1_1.after args s (.returned v) u = true ∧ limb_1_2.after args s (.returned v) u = true ∧ True) → FrameEnd s (.returned v) u (Jvm.fieldLocs frame_1_writes args s ++ Jvm.arrayLocs frame_1_arrays args s ++ Jvm.staticLocs frame_1_statics s) 0 0 → Post tb e args s (.returned v) u) :
    ArmFor flags0 classFile x code maxLocals ret World_1 tables_1 room_1 Calls_1 rest_1 Pre_1 Post := by
  intro l hfl _ _ p e ha hc hk s m args below hf hA hF happ hP
  obtain ⟨hcalls, hrest, hpre⟩ := hP
  obtain ⟨-, -, -, hnamed, -, -, -, hat⟩ := (Spec.applies_iff hf).mp happ
  obtain ⟨hg, hn⟩ := and_e (Cond.before_iff.mp (show (Jvm.Cond.and given_1 narrow_1).before args s = true from hpre))
  obtain ⟨hcount, hr0⟩ := and_e hg
  obtain ⟨ha0, hr1⟩ := and_e hr0
  obtain ⟨w0, w1, rfl⟩ : ∃ w0 w1 : Value, args = #[w0, w1] := by
    have hs : args.size = 2 := by simpa [Cond.value, given_1] using hcount
    obtain ⟨L⟩ := args
    match L, hs with
    | [w0, w1], _ => exact ⟨w0, w1, rfl⟩
  have hw := fun d (hd : d ∈ tables_1) => atoms_spec (ws := Jvm.Cond.code x code maxLocals ret :: tables_1) hat d (List.mem_cons_of_mem _ hd)
  have hfit : Fit s := fun {y c} hc i hi => by
    obtain ⟨ha, rfl⟩ := Array.getElem?_eq_some_iff.mp hc
    have q := List.all_eq_true.mp ((Array.all_eq_true_iff_forall_mem.mp hF) _ (Array.getElem_mem ha)) i (List.mem_range.mpr hi)
    simpa [Array.getElem?_eq_getElem hi] using q
  obtain ⟨i0, ev0⟩ := is_v ha0
  obtain rfl : w0 = (.int i0) := Option.some.inj ev0
  obtain ⟨i1, ev1⟩ := is_v hr1
  obtain rfl : w1 = (.int i1) := Option.some.inj ev1
  obtain ⟨n, o, h1, h2, h3, _, L, rfl, ⟨rfl, N⟩, hq⟩ := own_rm0 l s _ hw i0 i1 s.heap s.heap.size (Nat.le_refl _) p e ha hc hk s m _ below hf ((Spec.applies_iff_loose hf).mp happ).1 ⟨rfl, State.Warmed39.refl s, rfl⟩ trivial
  refine ⟨n, _, h1, h2, h3, hpost _ _ _ _ _ _ ⟨Cond.after_iff.mpr rfl, Cond.after_iff.mpr (eq_i res_at (Term.int_eval (1)) rfl), trivial⟩ ⟨hq.1, hq.2.1, (hq.2.2.sift fun y hy => Or.inr (N y hy)).mono (by decide) (by decide)⟩⟩
theorem main_1_1 : Claimed_1_1 := comes_1 fun _ _ _ _ _ _ h hF => ⟨h.1, hF⟩
theorem main_1_2 : Claimed_1_2 := comes_1 fun _ _ _ _ _ _ h hF => ⟨h.2.1, hF⟩
end Jvm.Pilot.@@N@@
namespace Jvm.Pilot.@@N@@
open Jvm Jvm.ClassFile Sem Op Lib Jvm.Free Jvm.Stand Jvm.Pilot.@@N@@.Jvm.D
/-! MADE BY PROGRAM (witnessworld.py) out of the Statement's table words and the real class files: 9 classes; the members and pool entries that the words name. The judged class is class 1, her method 1. -/
namespace start1
open Jvm.ClassFile
def u (s : String) : CpInfo := .utf8 (stringToUtf16 s)
/-- a pool by its gaps: so many unusable entries, then the entry; so many at the end -/
def gap : Nat → List CpInfo → List CpInfo
  | 0, r => r
  | n + 1, r => .unusable :: gap n r
def poolList (es : List (Nat × CpInfo)) (last : Nat) : List CpInfo := es.foldr (fun e r => gap e.1 (e.2 :: r)) (gap last [])
def pool (es : List (Nat × CpInfo)) (last : Nat) : Array CpInfo := ⟨poolList es last⟩
def fileOf (pool : Array CpInfo) (this : Nat) (attrs : Array Attribute := #[]) (ms : Array MethodInfo := #[]) (fl : Nat := 33) (sup : Nat := 0) (ifs : Array Nat := #[]) (fds : Array FieldInfo := #[]) : ClassFile where
  minorVersion := 0
  majorVersion := 65
  constantPool := pool
  accessFlags := fl
  thisClass := this
  superClass := sup
  interfaces := ifs
  fields := fds
  methods := ms
  attributes := attrs
def plain (name : String) (sup : Option ClassId) : Class where
  name := name
  kind := .ordinary
  loader := none
  accessFlags := 33
  super := sup
  interfaces := #[]
  cf := none
  fields := #[]
  methods := #[]
  instanceTypes := #[]
  staticTypes := #[]
  resolved := #[]
  callSites := []
  init := .initialized
  statics := none
  mirror := none

def pool0 : Array CpInfo := pool [(5, u "<init>"), (0, u "()V"), (1, .class_ 10), (1, u "java/lang/Object")] 113

def k0m0 : Method := { name := "<init>", desc := "()V", sig := { parameters := [], returnType := none }, accessFlags := 1, code := none }
/-- java/lang/Object -/
def k0 : Class := { plain "java/lang/Object" none with
  accessFlags := 33
  interfaces := #[]
  cf := some (fileOf pool0 8 #[] #[{ accessFlags := 1, nameIndex := 5, descriptorIndex := 6, attributes := #[] }] 33 0 #[] #[])
  fields := #[]
  methods := #[k0m0]
  instanceTypes := #[]
  staticTypes := #[]
  resolved := Array.replicate 124 none
  statics := none }

def pool1 : Array CpInfo := pool [(2, .class_ 4), (1, u "java/lang/Object"), (0, u "<init>"), (0, u "()V"), (0, .methodref 8 9), (0, .class_ 10), (0, .nameAndType 11 12), (0, u "com/example/skuld/skuld/formula/Lexicon"), (0, u "isNameStart"), (0, u "(I)Z"), (0, .class_ 14), (0, u "com/example/skuld/skuld/formula/LexiconIsNameStartPinLaw"), (2, u "law"), (0, u "(II)Z")] 3

def k1m0 : Method := { name := "<init>", desc := "()V", sig := { parameters := [], returnType := none }, accessFlags := 1, code := none }
def k1c1 : Code := { maxStack := 2, maxLocals := 6, code := code, exceptionTable := #[], attributes := #[] }
def k1m1 : Method := { name := "law", desc := "(II)Z", sig := { parameters := [.int, .int], returnType := some .boolean }, accessFlags := 9, code := some k1c1 }
/-- com/example/skuld/skuld/formula/LexiconIsNameStartPinLaw -/
def k1 : Class := { plain "com/example/skuld/skuld/formula/LexiconIsNameStartPinLaw" (some 0) with
  accessFlags := 49
  interfaces := #[]
  cf := some (fileOf pool1 13 #[] #[{ accessFlags := 1, nameIndex := 5, descriptorIndex := 6, attributes := #[] }, { accessFlags := 9, nameIndex := 17, descriptorIndex := 18, attributes := #[] }] 49 2 #[] #[])
  fields := #[]
  methods := #[k1m0, k1m1]
  instanceTypes := #[]
  staticTypes := #[]
  resolved := Array.replicate 22 none
  statics := none }

def pool2 : Array CpInfo := pool [(2, .class_ 4), (1, u "java/lang/Object"), (0, u "<init>"), (0, u "()V"), (1, .class_ 10), (1, u "com/example/skuld/skuld/formula/Lexicon"), (0, u "KEYWORDS"), (0, u "Ljava/util/Map;"), (18, u "isNameStart"), (0, u "(I)Z")] 99

def k2m0 : Method := { name := "<init>", desc := "()V", sig := { parameters := [], returnType := none }, accessFlags := 2, code := none }
def k2c1 : Code := { maxStack := 2, maxLocals := 1, code := prog_40_method_4_code, exceptionTable := #[], attributes := #[] }
def k2m1 : Method := { name := "isNameStart", desc := "(I)Z", sig := { parameters := [.int], returnType := some .boolean }, accessFlags := 9, code := some k2c1 }
/-- com/example/skuld/skuld/formula/Lexicon -/
def k2 : Class := { plain "com/example/skuld/skuld/formula/Lexicon" (some 0) with
  accessFlags := 33
  interfaces := #[]
  cf := some (fileOf pool2 8 #[] #[{ accessFlags := 2, nameIndex := 5, descriptorIndex := 6, attributes := #[] }, { accessFlags := 9, nameIndex := 31, descriptorIndex := 32, attributes := #[] }] 33 2 #[] #[{ accessFlags := 26, nameIndex := 11, descriptorIndex := 12, attributes := #[] }])
  fields := #[{ name := "KEYWORDS", type := (.object "java/util/Map"), accessFlags := 26, slot := 0, constantValue := 0 }]
  methods := #[k2m0, k2m1]
  instanceTypes := #[]
  staticTypes := #[(.object "java/util/Map")]
  resolved := Array.replicate 132 none
  statics := none }

def pool3 : Array CpInfo := pool [(1, u "java/lang/Cloneable"), (0, .class_ 1), (0, u "java/lang/Object"), (0, .class_ 3)] 3

/-- java/lang/Cloneable -/
def k3 : Class := { plain "java/lang/Cloneable" (some 0) with
  accessFlags := 1537
  interfaces := #[]
  cf := some (fileOf pool3 2 #[] #[] 1537 4 #[] #[])
  fields := #[]
  methods := #[]
  instanceTypes := #[]
  staticTypes := #[]
  resolved := Array.replicate 8 none
  statics := none }

def pool4 : Array CpInfo := pool [(1, u "java/io/Serializable"), (0, .class_ 1), (0, u "java/lang/Object"), (0, .class_ 3)] 3

/-- java/io/Serializable -/
def k4 : Class := { plain "java/io/Serializable" (some 0) with
  accessFlags := 1537
  interfaces := #[]
  cf := some (fileOf pool4 2 #[] #[] 1537 4 #[] #[])
  fields := #[]
  methods := #[]
  instanceTypes := #[]
  staticTypes := #[]
  resolved := Array.replicate 8 none
  statics := none }

/-- the primitive byte -/
def k5 : Class := { plain "byte" none with kind := .primitive 'B', accessFlags := 0x411 }
/-- [B -/
def k6 : Class := { plain "[B" (some 0) with kind := .array 5 .byte, interfaces := #[3, 4], accessFlags := 1041 }

/-- the primitive int -/
def k7 : Class := { plain "int" none with kind := .primitive 'I', accessFlags := 0x411 }
/-- [I -/
def k8 : Class := { plain "[I" (some 0) with kind := .array 7 .int, interfaces := #[3, 4], accessFlags := 1041 }

def heap : Heap := #[]
def classes : Array Class := #[k0, k1, k2, k3, k4, k5, k6, k7, k8]
def interned : List (Array UInt16 × Addr) := []
def slotsUsed : Nat := 0
def theMethod : MethodId := ⟨1, 1⟩
def args0 : Array Value := #[.int 5, .int 300]
def aboutOver (below : List Frame) : State where
  vm := { classes := classes, interned := interned.toArray }
  heap := heap
  slotsUsed := slotsUsed
  threads := #[{ frames := .invoking theMethod args0 :: below }]
def below0 : List Frame := [.native { method := ⟨0, 0⟩, args := #[] }]
def about1 : State := aboutOver below0
def p0 : Program := .bare "" "" ""
def e0 : Env := launch0.env 0 0 0
theorem w_frames : about1.frames = Frame.invoking theMethod args0 :: below0 := rfl
set_option maxRecDepth 65536 in
theorem w_args : argsFit about1.vm theMethod args0 = true := by decide +kernel
set_option maxRecDepth 65536 in
theorem w_heap : heapFits about1 = true := by decide +kernel
set_option maxRecDepth 65536 in
theorem w_runnable : about1.curStatus? = some .runnable := by decide +kernel
set_option maxRecDepth 65536 in
theorem w_alone : about1.alone = true := by decide +kernel
set_option maxRecDepth 65536 in
theorem w_named : about1.methodNamed? x = some theMethod := by decide +kernel
set_option maxRecDepth 65536 in
theorem w_hears : about1.hears theMethod below0 = true := by decide +kernel
set_option maxRecDepth 65536 in
theorem w_ripe : about1.ripe theMethod args0 below0 = true := by decide +kernel
theorem w_running : about1.status = .running := rfl
set_option maxRecDepth 65536 in
theorem w_room : about1.hasRoom e0.platform room_1 = true :=
  launch0.hasRoom_least _ room_1 (by decide +kernel) (by decide +kernel) (by decide +kernel) (by decide +kernel) (by decide +kernel) (by decide +kernel)
theorem allAtoms_all (ts : List Jvm.Cond) (a : Array Jvm.Value) (st : Jvm.State) : (allAtoms ts).before a st = ts.all (fun c => c.before a st) := by
  induction ts with
  | nil => rfl
  | cons c t ih =>
    show (Jvm.Cond.and c (allAtoms t)).before a st = _
    rw [Jvm.Cond.before_and, ih, List.all_cons]
def words1 : List Jvm.Cond := Jvm.Cond.code x code maxLocals ret :: tables_1
/-- a 'code' word, met by the world's own term for the bytes: nothing is compared byte by byte -/
theorem code_word {y : MethodName} {bytes : ByteArray} {mx : Nat} {rt : Option FieldType} {a : Array Value} {s : State} {m : MethodId} {meth : Method} {c : Code} (h1 : s.methodNamed? y = some m) (h2 : s.vm.method? m = some meth) (h3 : meth.code = some c) (h4 : c.code = bytes)
    (h5 : (c.maxLocals == mx && c.exceptionTable.isEmpty && decide (c.maxStack ≤ mostOperands) && decide (meth.sig.returnType = rt) && !meth.locks && decide (parseMethodDescriptor y.desc = some meth.sig)) = true) : (Jvm.Cond.code y bytes mx rt).before a s = true := by
  simp only [Bool.and_eq_true, beq_iff_eq, Bool.not_eq_true', decide_eq_true_eq] at h5
  obtain ⟨⟨⟨⟨⟨g1, g2⟩, g3⟩, g4⟩, g5⟩, g6⟩ := h5
  simp [Cond.before, Cond.holds, Cond.value, h1, h2, h3, h4, g1, g2, g3, g4, g5, g6]
def isCode : Jvm.Cond → Bool
  | .code _ _ _ _ => true
  | _ => false
theorem all_split {L : List Jvm.Cond} {P : Jvm.Cond → Bool} (h1 : L.all (fun c => isCode c || P c) = true) (h2 : ∀ c ∈ L.filter isCode, P c = true) : L.all P = true := by
  refine List.all_eq_true.mpr fun c hc => ?_
  have h := List.all_eq_true.mp h1 c hc
  rcases Bool.eq_false_or_eq_true (isCode c) with hi | hi
  · exact h2 c (List.mem_filter.mpr ⟨hc, hi⟩)
  · simpa [hi] using h
set_option maxRecDepth 65536 in
theorem w_c0 : (Jvm.Cond.code x code maxLocals ret).before args0 about1 = true := code_word (m := ⟨1, 1⟩) (meth := k1m1) (c := k1c1) (by decide +kernel) rfl rfl rfl (by decide +kernel)
set_option maxRecDepth 65536 in
theorem w_c1 : (Jvm.Cond.code ({ cls := "com/example/skuld/skuld/formula/Lexicon", name := "isNameStart", desc := "(I)Z" } : Jvm.MethodName) prog_40_method_4_code (1 : Nat) (Option.some Jvm.ClassFile.FieldType.boolean)).before args0 about1 = true := code_word (m := ⟨2, 1⟩) (meth := k2m1) (c := k2c1) (by decide +kernel) rfl rfl rfl (by decide +kernel)
def codes1 : List Jvm.Cond := [Jvm.Cond.code x code maxLocals ret, Jvm.Cond.code ({ cls := "com/example/skuld/skuld/formula/Lexicon", name := "isNameStart", desc := "(I)Z" } : Jvm.MethodName) prog_40_method_4_code (1 : Nat) (Option.some Jvm.ClassFile.FieldType.boolean)]
set_option maxRecDepth 65536 in
theorem codes_eq : words1.filter isCode = codes1 := rfl
theorem w_codes : ∀ c ∈ words1.filter isCode, c.before args0 about1 = true := by
  rw [codes_eq]
  intro c hc
  simp only [codes1, List.mem_cons, List.not_mem_nil, or_false] at hc
  rcases hc with rfl | rfl
  · exact w_c0
  · exact w_c1
set_option maxRecDepth 65536 in
theorem w_t1 : words1.all (fun c => isCode c || c.before args0 about1) = true := by decide +kernel
theorem w_tables : (allAtoms (Jvm.Cond.code x code maxLocals ret :: tables_1)).before args0 about1 = true := by
  rw [allAtoms_all]
  show words1.all (fun c => c.before args0 about1) = true
  refine all_split ?_ w_codes
  rw [w_t1]
set_option maxRecDepth 65536 in
theorem w_case : (Jvm.Cond.and given_1 narrow_1).before args0 about1 = true := by decide +kernel
theorem w_applies : (headSpec (Jvm.Cond.code x code maxLocals ret :: tables_1) room_1).applies x e0.platform about1 = true :=
  (Spec.applies_iff w_frames).mpr ⟨w_running, w_runnable, w_alone, w_named, w_hears, w_ripe, w_room, w_tables⟩
theorem atStart : AtStart classFile x code maxLocals ret World_1 tables_1 room_1 Calls_1 rest_1 Pre_1 launch0 p0 e0 about1 theMethod args0 below0 :=
  ⟨lists_1, trivial, launch0.admits_env _ _ _, launch0.least_env, fairChoices_fair.cas, fairChoices_fair.clock, w_frames, w_args, w_heap, w_applies, trivial, trivial, w_case⟩
end start1
theorem witness_1 : WitnessClaimed_1 := ⟨start1.p0, start1.e0, start1.about1, start1.theMethod, start1.args0, start1.below0, start1.atStart⟩
end Jvm.Pilot.@@N@@
