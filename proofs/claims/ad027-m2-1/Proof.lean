import JvmDerived
import JvmDerived.Pilot.@@N@@Statement
import JvmDerived.Pilot.@@N@@Code
set_option linter.unusedVariables false
set_option linter.unusedSimpArgs false

namespace Jvm.Pilot.@@N@@
open Jvm Jvm.ClassFile Sem Op Lib Jvm.Free Jvm.Stand Jvm.LawKit Jvm.RoadKit Bundle Jvm.Pilot.@@N@@.Jvm.D
section OwnKit
variable {p : Program} {l : Launch} {e : Env} {R : Room} {s : State} {m : MethodId} {args : Array Value} {below : List Frame} {meth : Method} {c : Code} {T : State} {locs : List Loc} {cells slots : Nat} {Z : State} {a0 : Array Value} {h : Heap}
/-- the run goes on from T with the frame f on top to an end that K says -/
def own_G (p : Program) (e : Env) (below : List Frame) (K : Outcome → State → Prop) (T : State) (f : JFrame) : Prop := ∃ s₂ o, Steps p.tables e below (T.setTop f) s₂ ∧ s₂.status = .running ∧ Ended s₂ below o ∧ K o s₂
theorem own_go {K : Outcome → State → Prop} {T' : State} {f f' : JFrame} (st : ∀ t, Steps p.tables e below (T'.setTop f') t → Steps p.tables e below (T.setTop f) t) (h : own_G p e below K T' f') : own_G p e below K T f := by
  obtain ⟨s₂, o, h1, h2⟩ := h
  exact ⟨s₂, o, st _ h1, h2⟩
theorem own_cast {K : Outcome → State → Prop} {f f' : JFrame} (q : f = f') (h : own_G p e below K T f') : own_G p e below K T f := q ▸ h
def own_K (Q : Option Value → Heap → List Loc → Prop) (s : State) (C S : Nat) : Outcome → State → Prop := fun o U => ∃ v L, o = .returned v ∧ Q v U.heap L ∧ FrameEnd s o U L C S
def own_Met (l : Launch) (Z : State) (y : MethodName) (bytes : ByteArray) (maxL : Nat) (ret : Option FieldType) (ws : List Jvm.Cond) (rm : Room) (as' : Array Value) (h0 : Heap) (Q : Option Value → Heap → List Loc → Prop) : Prop :=
  MetFree l y (head1 (Jvm.Cond.code y bytes maxL ret :: ws) rm) (fun a U => a = as' ∧ Z.Warmed39 U.vm ∧ U.heap = h0) (fun _ _ _ _ _ => True) (fun _ U o U' => own_K Q U rm.cells rm.slots o U')
theorem own_met {y : MethodName} {bytes : ByteArray} {maxL : Nat} {ret : Option FieldType} {ws : List Jvm.Cond} {rm : Room} {as' : Array Value} {h0 : Heap} {Q : Option Value → Heap → List Loc → Prop} (hpl : plainFor y = true)
    (body : ∀ (p : Program) (e : Env) (s : State) (m : MethodId) (below : List Frame) (meth : Method) (c : Code) (s₁ : State), p.tables.exec = Jvm.exec → c.code = bytes → c.maxLocals = maxL → s.vm.findClass y.cls = some m.cls → meth.name = y.name → meth.sig.returnType = ret → meth.locks = false →
      Z.Warmed39 s.vm → Stand p l e rm s m as' below meth c s₁ [] 0 0 → s₁.heap = h0 → own_G p e below (own_K Q s rm.cells rm.slots) s₁ (entryFrame m as' maxL)) :
    own_Met l Z y bytes maxL ret ws rm as' h0 Q := by
  refine MetFree.of_bodySF hpl hisR ?_
  intro p e s m args below meth c s₁ Bd hml hP hK
  obtain ⟨rfl, hZ, hh⟩ := hP
  have e0 : s₁.heap = h0 := by rw [← hh, Bd.state]; rfl
  have q := body p e s m below meth c s₁ Bd.exec Bd.bytes hml (findClass_of_methodNamed Bd.named) (name_of_methodNamed Bd.named Bd.method).1 Bd.returns (BodyLoose.notSynchronized Bd) hZ (Stand.of_body Bd) e0
  obtain ⟨s₂, o, h1, h2, h3, h4⟩ := q
  exact ⟨s₂, o, h1, h2, h3, h4⟩
theorem own_end (X : Stand p l e R s m args below meth c T locs cells slots) (hlk : meth.locks = false) {v : Option Value} {f : JFrame} {Q : Option Value → Heap → List Loc → Prop} {C S : Nat} (hv : meth.sig.returnType = none → v = none) (hc : cells ≤ C) (hs : slots ≤ S)
    (st : ∀ fs, (∀ (f : JFrame) (acts : List Action), f.method = m → f.locked = none → f.entered = [] → (doReturn e (T.setTop f) acts v).1 = T.setFrames fs) → Steps p.tables e below (T.setTop f) (T.setFrames fs)) (hq : Q v T.heap locs) : own_G p e below (own_K Q s C S) T f := by
  obtain ⟨fs, hr, hrun, hended, hW, hsame⟩ := X.leave (v := v) hv
  exact ⟨_, _, st fs hr, hrun, hended, v, locs, rfl, hq, ⟨_, rfl⟩, hW, hsame.mono hc hs⟩
theorem own_retZ (X : Stand p l e R s m args below meth c T locs cells slots) (hx : p.tables.exec = Jvm.exec) (hlk : meth.locks = false) {t : FieldType} (hret : meth.sig.returnType = some t) (ht : t = .boolean ∨ t = .byte ∨ t = .char ∨ t = .short) {pc : Nat} {Ls : Array Slot} {z : Int32} {rest : List Value} {Q : Option Value → Heap → List Loc → Prop} {C S : Nat}
    (eT : T.heap = h) {w : Int32} (hz : nar t z = w) (hd : decode c.code pc = .ok (.ireturn, 1)) (hc : cells ≤ C) (hs : slots ≤ S) (hq : Q (some (.int w)) h locs) : own_G p e below (own_K Q s C S) T (mkF m pc Ls (.int z :: rest)) := by
  subst eT hz
  exact own_end X hlk (fun q => by rw [hret] at q; cases q) hc hs (fun fs hr => retN X hx hret ht hd hr) hq
/-- a static call by the callee's contract -/
theorem own_callS {own : String} {index maxL : Nat} {y : MethodName} {bytes : ByteArray} {ret : Option FieldType} {rm : Room} {Q : Option Value → Heap → List Loc → Prop} {argsL rest stk : List Value} {pc : Nat} {Ls : Array Slot}
    (X : Stand p l e R s m args below meth c T locs cells slots) (hx : p.tables.exec = Jvm.exec) (hZ : Z.Warmed39 s.vm) (hown : s.vm.findClass own = some m.cls) (hM : own_Met l Z y bytes maxL ret [] rm argsL.toArray h Q)
    (w1 : (Jvm.Cond.methodLink own index y).before a0 Z = true) (w2 : (Jvm.Cond.static y).before a0 Z = true) (w3 : (Jvm.Cond.initialized y.cls).before a0 Z = true) (w4 : (Jvm.Cond.code y bytes maxL ret).before a0 Z = true) (hy : y.cls ≠ "java/lang/invoke/MethodHandle" ∧ y.cls ≠ "java/lang/invoke/VarHandle")
    (eT : T.heap = h) (hsz : Ls.size = c.maxLocals) (hlen : ∀ sig, parseMethodDescriptor y.desc = some sig → argsL.length = sig.parameters.length) (hstk : stk = argsL.reverse ++ rest) (hd : decode c.code pc = .ok (.invokestatic index, 3))
    (hf : rm.frames + 1 ≤ R.frames) (hl : (rest.map fun v => v.category).sum + (maxL + 11) + rm.locals ≤ R.locals) (hc : cells + rm.cells ≤ R.cells) (hs : slots + rm.slots ≤ R.slots) :
    ∃ (v : Option Value) (T' : State) (L : List Loc), Stand p l e R s m args below meth c T' (locs ++ L) (cells + rm.cells) (slots + rm.slots) ∧ Q v T'.heap L ∧ ∀ t, Steps p.tables e below (T'.setTop (mkF m (pc + 3) Ls (v.toList ++ rest))) t → Steps p.tables e below (T.setTop (mkF m pc Ls stk)) t := by
  obtain ⟨v, _, ⟨T', L', k', n'⟩, -, X', ⟨L, hQ, l1, y1, z1⟩, st⟩ := Jvm.LawKit.callS X hx (y := y) hown (mvT hZ w1) (mvT hZ w2) (mvT hZ w3) (mvT hZ w4) hy (backOf (Q := Q) hM hZ w4 w3 hf hl) (g := mkF m pc Ls stk) rfl hsz (argsL := argsL) (rest := rest) hlen hstk (by show 2 * 0 + _ ≤ _; exact Nat.le_of_eq (Nat.zero_add _)) hd (fun _ _ => ⟨rfl, eT, hc, hs⟩)
  dsimp only [Pt.U, Pt.locs, Pt.cells, Pt.slots] at X' l1 y1 z1 st hQ
  subst l1 y1 z1
  exact ⟨v, T', L, X', hQ, st⟩
/-! arrays by Arv -/
theorem own_alen {a : Addr} {k : ClassId} {ty : FieldType} {n : Int32} {vs : List Value} {dv : Value} (X : Stand p l e R s m args below meth c T locs cells slots) (hx : p.tables.exec = Jvm.exec) (hZ : Z.Warmed39 s.vm) (eT : T.heap = h) (V : Arv Z h a k ty n vs dv) {pc : Nat} {Ls : Array Slot} {rest : List Value} (hd : decode c.code pc = .ok (.arraylength, 1)) :
    ∀ t, Steps p.tables e below (T.setTop (mkF m (pc + 1) Ls (.int n :: rest))) t → Steps p.tables e below (T.setTop (mkF m pc Ls (.ref a :: rest))) t := fun t kt => by
  obtain ⟨cl, A, -, S, q, -, -⟩ := V
  refine X.arraylength hx (by rw [eT]; exact A.1) (State.isArrayOf_alike hZ.alike A.2.1) (g := mkF m pc Ls (.ref a :: rest)) rfl rfl hd _ ?_
  rw [len_of S q]
  exact kt
theorem own_open {a : Addr} {k : ClassId} {ty : FieldType} {n j : Int32} {vs : List Value} {dv v : Value} (V : Arv Z h a k ty n vs dv) (hj : ¬ j < 0 ∧ j < n) (hv : vs.getD j.toNatClampNeg dv = v) : ∃ cl : Cell, Arr Z h a cl ty ∧ ¬ (j < 0 ∨ cl.slots.size ≤ j.toNatClampNeg) ∧ cl.slots[j.toNatClampNeg]? = some v ∧ fits ty v = true := by
  obtain ⟨cl, A, -, S, q, H, G⟩ := V
  have hi := inb_of S hj
  have hlt : j.toNatClampNeg < cl.slots.size := Nat.lt_of_not_le fun x => hi (Or.inr x)
  exact ⟨cl, A, hi, by rw [H _ hlt, hv], by rw [← hv]; exact G _ hlt⟩
theorem own_baload {a : Addr} {k : ClassId} {n j : Int32} {vs : List Value} {dv v : Value} (X : Stand p l e R s m args below meth c T locs cells slots) (hx : p.tables.exec = Jvm.exec) (hZ : Z.Warmed39 s.vm) (eT : T.heap = h) (V : Arv Z h a k .byte n vs dv) (hj : ¬ j < 0 ∧ j < n) (hv : vs.getD j.toNatClampNeg dv = v) {pc : Nat} {Ls : Array Slot} {rest : List Value} (hd : decode c.code pc = .ok (.baload, 1)) :
    ∀ t, Steps p.tables e below (T.setTop (mkF m (pc + 1) Ls (v :: rest))) t → Steps p.tables e below (T.setTop (mkF m pc Ls (.int j :: .ref a :: rest))) t := fun t kt => by
  obtain ⟨cl, A, hi, hat, -⟩ := own_open V hj hv
  exact X.baloadBytes hx (by rw [eT]; exact A.1) (State.isArrayOf_alike hZ.alike A.2.1) A.2.2 hi hat (g := mkF m pc Ls (.int j :: .ref a :: rest)) rfl rfl hd _ kt
theorem own_bastore {a : Addr} {k : ClassId} {n j x : Int32} {vs : List Value} {dv : Value} (X : Stand p l e R s m args below meth c T locs cells slots) (hx : p.tables.exec = Jvm.exec) (hZ : Z.Warmed39 s.vm) (eT : T.heap = h) (V : Arv Z h a k .byte n vs dv) (hj : ¬ j < 0 ∧ j < n) (i : Nat) (hi : j.toNatClampNeg = i) (hl : i < vs.length) {pc : Nat} {Ls : Array Slot} {rest : List Value} (hd : decode c.code pc = .ok (.bastore, 1)) :
    ∃ T' h', Stand p l e R s m args below meth c T' (locs ++ [⟨a, j.toNatClampNeg⟩]) cells slots ∧ T'.heap = h' ∧ Wr h h' a j.toNatClampNeg (.int x.toInt8.toInt32) ∧ Arv Z h' a k .byte n (vs.set i (.int x.toInt8.toInt32)) dv ∧ ∀ t, Steps p.tables e below (T'.setTop (mkF m (pc + 1) Ls rest)) t → Steps p.tables e below (T.setTop (mkF m pc Ls (.int x :: .int j :: .ref a :: rest))) t := by
  obtain ⟨cl, A, q1, S, q, H, G⟩ := V
  obtain ⟨T', h', X', e', W, st⟩ := stB X hx hZ eT A (j := j) (x := x) (inb_of S hj) (g := mkF m pc Ls (.int x :: .int j :: .ref a :: rest)) rfl rfl hd
  exact ⟨T', h', X', e', W, Arv.set A q1 S q H G (fits_nar_byte _) W i hi hl, st⟩
/-- newarray of a primitive kind; the class found by its name is said too -/
theorem own_newP (X : Stand p l e R s m args below meth c T locs cells slots) (hx : p.tables.exec = Jvm.exec) (hZ : Z.Warmed39 s.vm) {aty : ArrayType} {nm : String} (hnm : "[" ++ (newarray.typeOf aty).toString = nm) (w : (Jvm.Cond.arrayClass (newarray.typeOf aty)).before a0 Z = true) (eT : T.heap = h) {pc : Nat} {Ls : Array Slot} (hd : decode c.code pc = .ok (.newarray aty, 2)) {n : Int32} {rest : List Value}
    (hn : ¬ n < 0) {cap : Nat} (hcap : n.toNatClampNeg ≤ cap) (hb : cap * 8 ≤ 536870912) (hc : cells + 1 ≤ R.cells) (hl : slots + cap ≤ R.slots) :
    ∃ T' h' cA, Stand p l e R s m args below meth c T' locs (cells + 1) (slots + cap) ∧ T'.heap = h' ∧ Ext h h' ∧ Arr Z h' h.size (newA cA (newarray.typeOf aty) n) (newarray.typeOf aty) ∧ Exa Z h' h.size nm ∧
      ∀ t, Steps p.tables e below (T'.setTop (mkF m (pc + 2) Ls (.ref h.size :: rest))) t → Steps p.tables e below (T.setTop (mkF m pc Ls (.int n :: rest))) t := by
  have hcb : componentBytes (newarray.typeOf aty) ≤ 8 := by cases aty <;> decide
  obtain ⟨cA, kA, comp, f1, f2, f3, X', st⟩ := X.newarrayPrim hx (mvA hZ w) (g := mkF m pc Ls (.int n :: rest)) rfl hd rfl hn (Nat.le_trans (Nat.mul_le_mul hcap hcb) hb) hc (by omega)
  subst eT hnm
  have fZ : Z.vm.findClass ("[" ++ (newarray.typeOf aty).toString) = some cA := by rw [← hZ.alike.findClass]; exact f1
  obtain ⟨kZ, z1, -⟩ := Vm.findClass_spec fZ
  obtain ⟨k', z2, z3⟩ := hZ.alike.2.2 _ _ z1
  cases f2.symm.trans z2
  have kk : kZ.kind = .array comp (newarray.typeOf aty) := by rw [← f3, z3]
  have at' : (T.heap.push (newA cA (newarray.typeOf aty) n))[T.heap.size]? = some (newA cA (newarray.typeOf aty) n) := by simp
  refine ⟨_, T.heap.push (newA cA (newarray.typeOf aty) n), cA, X'.more (Nat.le_refl _) (by omega), rfl, ⟨by simp, fun a cc q => ?_⟩, ⟨at', ⟨by simp [newA], kZ, z1, comp, kk⟩, by simp [newA]⟩, ⟨_, kZ, at', fZ, z1, rfl, fun q => ?_⟩, st⟩
  · rw [Array.getElem?_push_lt (Array.getElem?_eq_some_iff.mp q).1]; exact (Array.getElem?_eq_getElem _).symm.trans q
  · rw [kk] at q; cases q
theorem own_zaload {a : Addr} {k : ClassId} {n j : Int32} {vs : List Value} {dv v : Value} (X : Stand p l e R s m args below meth c T locs cells slots) (hx : p.tables.exec = Jvm.exec) (hZ : Z.Warmed39 s.vm) (eT : T.heap = h) (V : Arv Z h a k .boolean n vs dv) (hj : ¬ j < 0 ∧ j < n) (hv : vs.getD j.toNatClampNeg dv = v) {pc : Nat} {Ls : Array Slot} {rest : List Value} (hd : decode c.code pc = .ok (.baload, 1)) :
    ∀ t, Steps p.tables e below (T.setTop (mkF m (pc + 1) Ls (v :: rest))) t → Steps p.tables e below (T.setTop (mkF m pc Ls (.int j :: .ref a :: rest))) t := fun t kt => by
  obtain ⟨cl, A, hi, hat, -⟩ := own_open V hj hv
  exact X.baloadBooleans hx (by rw [eT]; exact A.1) (State.isArrayOf_alike hZ.alike A.2.1) A.2.2 hi hat (g := mkF m pc Ls (.int j :: .ref a :: rest)) rfl rfl hd _ kt
end OwnKit
section OwnSteps
variable {p : Program} {l : Launch} {e : Env} {R : Room} {s : State} {m : MethodId} {args : Array Value} {below : List Frame} {meth : Method} {c : Code} {T : State} {locs : List Loc} {cells slots : Nat} {Z : State} {a0 : Array Value} {h0 : Heap}
theorem own_iloadN {K : Outcome → State → Prop} {pc n : Nat} {Ls : Array Slot} {S : List Value} (X : Stand p l e R s m args below meth c T locs cells slots) (hx : p.tables.exec = Jvm.exec) {k : Fin 4} {v : Int32} (hd : decode c.code pc = .ok (.iload_n k, 1)) (hl : Ls[k.val]? = some (.val (.int v))) (hn : pc + 1 = n)
    (h : own_G p e below K T (mkF m n Ls (.int v :: S))) : own_G p e below K T (mkF m pc Ls S) := by
  subst hn
  exact own_go (fun t k => XS.iloadN X.here hx rfl hd hl k) h
theorem own_iload {K : Outcome → State → Prop} {pc n : Nat} {Ls : Array Slot} {S : List Value} (X : Stand p l e R s m args below meth c T locs cells slots) (hx : p.tables.exec = Jvm.exec) {k : Nat} {v : Int32} (hd : decode c.code pc = .ok (.iload k, 2)) (hl : Ls[k]? = some (.val (.int v))) (hn : pc + 2 = n)
    (h : own_G p e below K T (mkF m n Ls (.int v :: S))) : own_G p e below K T (mkF m pc Ls S) := by
  subst hn
  exact own_go (fun t k => XS.iload X.here hx rfl hd hl k) h
theorem own_aloadN {K : Outcome → State → Prop} {pc n : Nat} {Ls : Array Slot} {S : List Value} (X : Stand p l e R s m args below meth c T locs cells slots) (hx : p.tables.exec = Jvm.exec) {k : Fin 4} {v : Value} (hd : decode c.code pc = .ok (.aload_n k, 1)) (hl : Ls[k.val]? = some (.val v)) (hv : v.isRef = true) (hn : pc + 1 = n)
    (h : own_G p e below K T (mkF m n Ls (v :: S))) : own_G p e below K T (mkF m pc Ls S) := by
  subst hn
  exact own_go (fun t k => XS.aloadN X.here hx rfl hd hl hv k) h
theorem own_aload {K : Outcome → State → Prop} {pc n : Nat} {Ls : Array Slot} {S : List Value} (X : Stand p l e R s m args below meth c T locs cells slots) (hx : p.tables.exec = Jvm.exec) {k : Nat} {v : Value} (hd : decode c.code pc = .ok (.aload k, 2)) (hl : Ls[k]? = some (.val v)) (hv : v.isRef = true) (hn : pc + 2 = n)
    (h : own_G p e below K T (mkF m n Ls (v :: S))) : own_G p e below K T (mkF m pc Ls S) := by
  subst hn
  exact own_go (fun t k => XS.aload X.here hx rfl hd hl hv k) h
theorem own_istoreN {K : Outcome → State → Prop} {pc n : Nat} {Ls : Array Slot} {S : List Value} (X : Stand p l e R s m args below meth c T locs cells slots) (hx : p.tables.exec = Jvm.exec) {k : Fin 4} {v : Int32} {l' : Array Slot} (hd : decode c.code pc = .ok (.istore_n k, 1)) (hl : storeLocals Ls k.val (.int v) = some l') (hn : pc + 1 = n)
    (h : own_G p e below K T (mkF m n l' S)) : own_G p e below K T (mkF m pc Ls (.int v :: S)) := by
  subst hn
  exact own_go (fun t k => XS.istoreN X.here hx rfl hd rfl hl k) h
theorem own_istore {K : Outcome → State → Prop} {pc n : Nat} {Ls : Array Slot} {S : List Value} (X : Stand p l e R s m args below meth c T locs cells slots) (hx : p.tables.exec = Jvm.exec) {k : Nat} {v : Int32} {l' : Array Slot} (hd : decode c.code pc = .ok (.istore k, 2)) (hl : storeLocals Ls k (.int v) = some l') (hn : pc + 2 = n)
    (h : own_G p e below K T (mkF m n l' S)) : own_G p e below K T (mkF m pc Ls (.int v :: S)) := by
  subst hn
  exact own_go (fun t k => XS.istore X.here hx rfl hd rfl hl k) h
theorem own_astoreN {K : Outcome → State → Prop} {pc n : Nat} {Ls : Array Slot} {S : List Value} (X : Stand p l e R s m args below meth c T locs cells slots) (hx : p.tables.exec = Jvm.exec) {k : Fin 4} {v : Value} {l' : Array Slot} (hd : decode c.code pc = .ok (.astore_n k, 1)) (hv : v.isRef = true) (hl : storeLocals Ls k.val v = some l') (hn : pc + 1 = n)
    (h : own_G p e below K T (mkF m n l' S)) : own_G p e below K T (mkF m pc Ls (v :: S)) := by
  subst hn
  exact own_go (fun t k => XS.astoreN X.here hx rfl hd rfl hv hl k) h
theorem own_astore {K : Outcome → State → Prop} {pc n : Nat} {Ls : Array Slot} {S : List Value} (X : Stand p l e R s m args below meth c T locs cells slots) (hx : p.tables.exec = Jvm.exec) {k : Nat} {v : Value} {l' : Array Slot} (hd : decode c.code pc = .ok (.astore k, 2)) (hv : v.isRef = true) (hl : storeLocals Ls k v = some l') (hn : pc + 2 = n)
    (h : own_G p e below K T (mkF m n l' S)) : own_G p e below K T (mkF m pc Ls (v :: S)) := by
  subst hn
  exact own_go (fun t k => XS.astore X.here hx rfl hd rfl hv hl k) h
theorem own_iconst {K : Outcome → State → Prop} {pc n : Nat} {Ls : Array Slot} {S : List Value} (X : Stand p l e R s m args below meth c T locs cells slots) (hx : p.tables.exec = Jvm.exec) {i : Int} {z : Int32} (hd : decode c.code pc = .ok (.iconst i, 1)) (hz : Int32.ofInt i = z) (hn : pc + 1 = n)
    (h : own_G p e below K T (mkF m n Ls (.int z :: S))) : own_G p e below K T (mkF m pc Ls S) := by
  subst hz hn
  exact own_go (fun t k => XS.iconst X.here hx rfl hd k) h
theorem own_bipush {K : Outcome → State → Prop} {pc n : Nat} {Ls : Array Slot} {S : List Value} (X : Stand p l e R s m args below meth c T locs cells slots) (hx : p.tables.exec = Jvm.exec) {i : Int} {z : Int32} (hd : decode c.code pc = .ok (.bipush i, 2)) (hz : (Int8.ofInt i).toInt32 = z) (hn : pc + 2 = n)
    (h : own_G p e below K T (mkF m n Ls (.int z :: S))) : own_G p e below K T (mkF m pc Ls S) := by
  subst hz hn
  exact own_go (fun t k => XS.bipush X.here hx rfl hd k) h
theorem own_sipush {K : Outcome → State → Prop} {pc n : Nat} {Ls : Array Slot} {S : List Value} (X : Stand p l e R s m args below meth c T locs cells slots) (hx : p.tables.exec = Jvm.exec) {i : Int} {z : Int32} (hd : decode c.code pc = .ok (.sipush i, 3)) (hz : (Int16.ofInt i).toInt32 = z) (hn : pc + 3 = n)
    (h : own_G p e below K T (mkF m n Ls (.int z :: S))) : own_G p e below K T (mkF m pc Ls S) := by
  subst hz hn
  exact own_go (fun t k => XS.sipush X.here hx rfl hd k) h
theorem own_iand {K : Outcome → State → Prop} {pc n : Nat} {Ls : Array Slot} {S : List Value} (X : Stand p l e R s m args below meth c T locs cells slots) (hx : p.tables.exec = Jvm.exec) {x y z : Int32} (hd : decode c.code pc = .ok (.iand, 1)) (hz : x &&& y = z) (hn : pc + 1 = n)
    (h : own_G p e below K T (mkF m n Ls (.int z :: S))) : own_G p e below K T (mkF m pc Ls (.int y :: .int x :: S)) := by
  subst hz hn
  exact own_go (fun t k => XS.iand X.here hx rfl hd rfl k) h
theorem own_i2b {K : Outcome → State → Prop} {pc n : Nat} {Ls : Array Slot} {S : List Value} (X : Stand p l e R s m args below meth c T locs cells slots) (hx : p.tables.exec = Jvm.exec) {x : Int32} {z : Int32} (hd : decode c.code pc = .ok (.i2b, 1)) (hz : x.toInt8.toInt32 = z) (hn : pc + 1 = n)
    (h : own_G p e below K T (mkF m n Ls (.int z :: S))) : own_G p e below K T (mkF m pc Ls (.int x :: S)) := by
  subst hz hn
  exact own_go (fun t k => XS.i2b X.here hx rfl hd rfl k) h
theorem own_iinc {K : Outcome → State → Prop} {pc n : Nat} {Ls : Array Slot} {S : List Value} (X : Stand p l e R s m args below meth c T locs cells slots) (hx : p.tables.exec = Jvm.exec) {k : Nat} {cst : Int} {x z : Int32} {l' : Array Slot} (hd : decode c.code pc = .ok (.iinc k cst, 3)) (hl : Ls[k]? = some (.val (.int x))) (hz : x + Int32.ofInt cst = z) (hl' : storeLocals Ls k (.int z) = some l') (hn : pc + 3 = n)
    (h : own_G p e below K T (mkF m n l' S)) : own_G p e below K T (mkF m pc Ls S) := by
  subst hz hn
  exact own_go (fun t k => XS.iinc X.here hx rfl hd hl hl' k) h
theorem own_goto {K : Outcome → State → Prop} {pc n : Nat} {Ls : Array Slot} {S : List Value} (X : Stand p l e R s m args below meth c T locs cells slots) (hx : p.tables.exec = Jvm.exec) {o : Int} (hd : decode c.code pc = .ok (.goto o, 3)) (ho : 0 ≤ (pc : Int) + o) (hp : ((pc : Int) + o).toNat = n)
    (h : own_G p e below K T (mkF m n Ls S)) : own_G p e below K T (mkF m pc Ls S) := by
  subst hp
  exact own_go (fun t k => XS.goto X.here hx rfl (pc0 := pc) rfl hd ho rfl k) h
theorem own_ifYes {K : Outcome → State → Prop} {pc n : Nat} {Ls : Array Slot} {S : List Value} (X : Stand p l e R s m args below meth c T locs cells slots) (hx : p.tables.exec = Jvm.exec) {cd : ClassFile.Cond} {x : Int32} {o : Int} (hd : decode c.code pc = .ok (.ifCond cd o, 3)) (hc : if_icmp.holds cd x 0 = true) (ho : 0 ≤ (pc : Int) + o) (hp : ((pc : Int) + o).toNat = n)
    (h : own_G p e below K T (mkF m n Ls S)) : own_G p e below K T (mkF m pc Ls (.int x :: S)) := by
  subst hp
  exact own_go (fun t k => XS.ifYes X.here hx rfl (pc0 := pc) rfl hd rfl ((if0 _ _).trans hc) ho rfl k) h
theorem own_ifNo {K : Outcome → State → Prop} {pc n : Nat} {Ls : Array Slot} {S : List Value} (X : Stand p l e R s m args below meth c T locs cells slots) (hx : p.tables.exec = Jvm.exec) {cd : ClassFile.Cond} {x : Int32} {o : Int} (hd : decode c.code pc = .ok (.ifCond cd o, 3)) (hc : if_icmp.holds cd x 0 = false) (hn : pc + 3 = n)
    (h : own_G p e below K T (mkF m n Ls S)) : own_G p e below K T (mkF m pc Ls (.int x :: S)) := by
  subst hn
  exact own_go (fun t k => XS.ifNo X.here hx rfl hd rfl ((if0 _ _).trans hc) k) h
theorem own_icmpYes {K : Outcome → State → Prop} {pc n : Nat} {Ls : Array Slot} {S : List Value} (X : Stand p l e R s m args below meth c T locs cells slots) (hx : p.tables.exec = Jvm.exec) {cd : ClassFile.Cond} {x y : Int32} {o : Int} (hd : decode c.code pc = .ok (.if_icmp cd o, 3)) (hc : if_icmp.holds cd x y = true) (ho : 0 ≤ (pc : Int) + o) (hp : ((pc : Int) + o).toNat = n)
    (h : own_G p e below K T (mkF m n Ls S)) : own_G p e below K T (mkF m pc Ls (.int y :: .int x :: S)) := by
  subst hp
  exact own_go (fun t k => XS.icmpYes X.here hx rfl (pc0 := pc) rfl hd rfl hc ho rfl k) h
theorem own_icmpNo {K : Outcome → State → Prop} {pc n : Nat} {Ls : Array Slot} {S : List Value} (X : Stand p l e R s m args below meth c T locs cells slots) (hx : p.tables.exec = Jvm.exec) {cd : ClassFile.Cond} {x y : Int32} {o : Int} (hd : decode c.code pc = .ok (.if_icmp cd o, 3)) (hc : if_icmp.holds cd x y = false) (hn : pc + 3 = n)
    (h : own_G p e below K T (mkF m n Ls S)) : own_G p e below K T (mkF m pc Ls (.int y :: .int x :: S)) := by
  subst hn
  exact own_go (fun t k => XS.icmpNo X.here hx rfl hd rfl hc k) h
theorem own_getS {K : Outcome → State → Prop} {pc n : Nat} {Ls : Array Slot} {S : List Value} {h : Heap} (X : Stand p l e R s m args below meth c T locs cells slots) (hx : p.tables.exec = Jvm.exec) (hZ : Z.Warmed39 s.vm) {own R0 O nm d host : String} {index : Nat} (hown : s.vm.findClass own = some m.cls) (w : (Jvm.Cond.fieldLink own index R0 nm d).before a0 Z = true ∨ (Jvm.Cond.fieldLinkNest own index R0 nm d host).before a0 Z = true) (via : Via Z R0 O nm d) (eT : T.heap = h) {v : Value} (F : Sta Z h O nm d v) (hd : decode c.code pc = .ok (.getstatic index, 3)) (hn : pc + 3 = n)
    (kk : ∀ T' : State, Stand p l e R s m args below meth c T' locs cells slots → T'.heap = h → own_G p e below K T' (mkF m n Ls (v :: S))) : own_G p e below K T (mkF m pc Ls S) := by
  subst hn
  obtain ⟨T', X', e', st⟩ := getS2 X hx hZ hown w via eT F (g := mkF m pc Ls S) rfl hd
  exact own_go st (kk T' X' e')
theorem own_newA {K : Outcome → State → Prop} {pc n : Nat} {Ls : Array Slot} {S : List Value} {h : Heap} (X : Stand p l e R s m args below meth c T locs cells slots) (hx : p.tables.exec = Jvm.exec) (hZ : Z.Warmed39 s.vm) {aty : ArrayType} {nm : String} (hnm : "[" ++ (newarray.typeOf aty).toString = nm) (w : (Jvm.Cond.arrayClass (newarray.typeOf aty)).before a0 Z = true) (eT : T.heap = h) (hd : decode c.code pc = .ok (.newarray aty, 2)) {k : Int32} (hk : ¬ k < 0) {cap : Nat} (hcap : k.toNatClampNeg ≤ cap) (hb : cap * 8 ≤ 536870912) (hc : cells + 1 ≤ R.cells) (hl : slots + cap ≤ R.slots) (hn : pc + 2 = n)
    (kk : ∀ (T' : State) (h' : Heap) (cA : ClassId) (b : Addr), b = h.size → Stand p l e R s m args below meth c T' locs (cells + 1) (slots + cap) → T'.heap = h' → Ext h h' → Arr Z h' b (newA cA (newarray.typeOf aty) k) (newarray.typeOf aty) → Exa Z h' b nm → own_G p e below K T' (mkF m n Ls (.ref b :: S))) : own_G p e below K T (mkF m pc Ls (.int k :: S)) := by
  subst hn
  obtain ⟨T', h', cA, X', e', E, A, B, st⟩ := own_newP X hx hZ hnm w eT (pc := pc) (Ls := Ls) (rest := S) hd hk hcap hb hc hl
  exact own_go st (kk T' h' cA _ rfl X' e' E A B)
theorem own_st_bastore {K : Outcome → State → Prop} {pc n : Nat} {Ls : Array Slot} {S : List Value} {h : Heap} (X : Stand p l e R s m args below meth c T locs cells slots) (hx : p.tables.exec = Jvm.exec) (hZ : Z.Warmed39 s.vm) {a : Addr} {k : ClassId} {z j : Int32} {x : Int32} {vs : List Value} {dv : Value} (eT : T.heap = h) (V : Arv Z h a k .byte z vs dv) (hj : ¬ j < 0 ∧ j < z) (i : Nat) (hi : j.toNatClampNeg = i) (hl : i < vs.length) (hd : decode c.code pc = .ok (.bastore, 1)) (hn : pc + 1 = n)
    (kk : ∀ (T' : State) (h' : Heap), Stand p l e R s m args below meth c T' (locs ++ [⟨a, j.toNatClampNeg⟩]) cells slots → T'.heap = h' → Wr h h' a j.toNatClampNeg (.int x.toInt8.toInt32) → Arv Z h' a k .byte z (vs.set i (.int x.toInt8.toInt32)) dv → own_G p e below K T' (mkF m n Ls S)) : own_G p e below K T (mkF m pc Ls (.int x :: .int j :: .ref a :: S)) := by
  subst hn
  obtain ⟨T', h', X', e', W, V', st⟩ := own_bastore X hx hZ eT V hj i hi hl (pc := pc) (Ls := Ls) (rest := S) hd
  exact own_go st (kk T' h' X' e' W V')
theorem own_ld_baload {K : Outcome → State → Prop} {pc n : Nat} {Ls : Array Slot} {S : List Value} {h : Heap} (X : Stand p l e R s m args below meth c T locs cells slots) (hx : p.tables.exec = Jvm.exec) (hZ : Z.Warmed39 s.vm) {a : Addr} {k : ClassId} {z j : Int32} {vs : List Value} {dv v : Value} (eT : T.heap = h) (V : Arv Z h a k .byte z vs dv) (hj : ¬ j < 0 ∧ j < z) (hv : vs.getD j.toNatClampNeg dv = v) (hd : decode c.code pc = .ok (.baload, 1)) (hn : pc + 1 = n) (kk : own_G p e below K T (mkF m n Ls (v :: S))) : own_G p e below K T (mkF m pc Ls (.int j :: .ref a :: S)) := by
  subst hn
  exact own_go (own_baload X hx hZ eT V hj hv hd) kk
theorem own_ld_zaload {K : Outcome → State → Prop} {pc n : Nat} {Ls : Array Slot} {S : List Value} {h : Heap} (X : Stand p l e R s m args below meth c T locs cells slots) (hx : p.tables.exec = Jvm.exec) (hZ : Z.Warmed39 s.vm) {a : Addr} {k : ClassId} {z j : Int32} {vs : List Value} {dv v : Value} (eT : T.heap = h) (V : Arv Z h a k .boolean z vs dv) (hj : ¬ j < 0 ∧ j < z) (hv : vs.getD j.toNatClampNeg dv = v) (hd : decode c.code pc = .ok (.baload, 1)) (hn : pc + 1 = n) (kk : own_G p e below K T (mkF m n Ls (v :: S))) : own_G p e below K T (mkF m pc Ls (.int j :: .ref a :: S)) := by
  subst hn
  exact own_go (own_zaload X hx hZ eT V hj hv hd) kk
theorem own_len {K : Outcome → State → Prop} {pc n : Nat} {Ls : Array Slot} {S : List Value} {h : Heap} (X : Stand p l e R s m args below meth c T locs cells slots) (hx : p.tables.exec = Jvm.exec) (hZ : Z.Warmed39 s.vm) {a : Addr} {k : ClassId} {ty : FieldType} {z : Int32} {vs : List Value} {dv : Value} (eT : T.heap = h) (V : Arv Z h a k ty z vs dv) (hd : decode c.code pc = .ok (.arraylength, 1)) (hn : pc + 1 = n) (kk : own_G p e below K T (mkF m n Ls (.int z :: S))) : own_G p e below K T (mkF m pc Ls (.ref a :: S)) := by
  subst hn
  exact own_go (own_alen X hx hZ eT V hd) kk
theorem own_S {K : Outcome → State → Prop} {pc n : Nat} {Ls : Array Slot} {h : Heap} {own : String} {index maxL : Nat} {y : MethodName} {bytes : ByteArray} {rm : Room} {Q : Option Value → Heap → List Loc → Prop} {argsL rest stk : List Value} {ret : Option FieldType} (X : Stand p l e R s m args below meth c T locs cells slots) (hx : p.tables.exec = Jvm.exec) (hZ : Z.Warmed39 s.vm) (hown : s.vm.findClass own = some m.cls) (hM : own_Met l Z y bytes maxL ret [] rm argsL.toArray h Q) (w1 : (Jvm.Cond.methodLink own index y).before a0 Z = true) (w2 : (Jvm.Cond.static y).before a0 Z = true) (w3 : (Jvm.Cond.initialized y.cls).before a0 Z = true) (w4 : (Jvm.Cond.code y bytes maxL ret).before a0 Z = true) (hy : y.cls ≠ "java/lang/invoke/MethodHandle" ∧ y.cls ≠ "java/lang/invoke/VarHandle") (eT : T.heap = h) (hsz : Ls.size = c.maxLocals) (hlen : ∀ sig, parseMethodDescriptor y.desc = some sig → argsL.length = sig.parameters.length) (hstk : stk = argsL.reverse ++ rest) (hd : decode c.code pc = .ok (.invokestatic index, 3)) (hf : rm.frames + 1 ≤ R.frames) (hl : (rest.map fun v => v.category).sum + (maxL + 11) + rm.locals ≤ R.locals) (hc : cells + rm.cells ≤ R.cells) (hs : slots + rm.slots ≤ R.slots) (hn : pc + 3 = n)
    (kk : ∀ (v : Option Value) (T' : State) (L : List Loc), Stand p l e R s m args below meth c T' (locs ++ L) (cells + rm.cells) (slots + rm.slots) → Q v T'.heap L → own_G p e below K T' (mkF m n Ls (v.toList ++ rest))) : own_G p e below K T (mkF m pc Ls stk) := by
  subst hn
  obtain ⟨v, T', L, X', hQ, st⟩ := own_callS X hx hZ hown hM w1 w2 w3 w4 hy eT hsz hlen hstk hd hf hl hc hs
  exact own_go st (kk v T' L X' hQ)
end OwnSteps

theorem own_an_int : "[" ++ (newarray.typeOf .int).toString = "[I" := by decide +kernel
theorem own_an_long : "[" ++ (newarray.typeOf .long).toString = "[J" := by decide +kernel
theorem own_an_byte : "[" ++ (newarray.typeOf .byte).toString = "[B" := by decide +kernel
theorem own_an_char : "[" ++ (newarray.typeOf .char).toString = "[C" := by decide +kernel
theorem own_an_J : (FieldType.array .long).toString = "[J" := by decide +kernel
theorem own_an_JJ : "[" ++ "[J" = "[[J" := by decide +kernel
theorem own_ne {b z : Addr} {h : Heap} (hb : b < h.size) (g : z = h.size) : b ≠ z := Nat.ne_of_lt (Nat.lt_of_lt_of_le hb (Nat.le_of_eq g.symm))
theorem own_neEA {Z : State} {h : Heap} {a b : Addr} {C : String} {a0 : Array Value} {kk : Nat} {k : ClassId} {ty : FieldType} {n : Int32} {vs : List Value} {dv : Value} (E : Exa Z h a C) (w : (Jvm.Cond.instantiable C kk).before a0 Z = true) (V : Arv Z h b k ty n vs dv) : a ≠ b := by
  obtain ⟨c, A, -⟩ := V
  exact ne_arr E w A
theorem ww0 {Z : State} {a0 : Array Value} (hw : ∀ d ∈ tables_1, d.before a0 Z = true) : (Jvm.Cond.arrayClass Jvm.ClassFile.FieldType.byte).before a0 Z = true := hw _ (List.mem_of_getElem? (i := 0) rfl)
theorem ww1 {Z : State} {a0 : Array Value} (hw : ∀ d ∈ tables_1, d.before a0 Z = true) : (Jvm.Cond.methodLink "com/example/granary/granary/fix/OutboxKeptAsIsPinLaw" (7 : Nat) ({ cls := "com/example/granary/granary/fix/OutboxKeptAsIsPinLaw", name := "kept", desc := "(B)Z" } : Jvm.MethodName)).before a0 Z = true := hw _ (List.mem_of_getElem? (i := 1) rfl)
theorem ww2 {Z : State} {a0 : Array Value} (hw : ∀ d ∈ tables_1, d.before a0 Z = true) : (Jvm.Cond.static ({ cls := "com/example/granary/granary/fix/OutboxKeptAsIsPinLaw", name := "kept", desc := "(B)Z" } : Jvm.MethodName)).before a0 Z = true := hw _ (List.mem_of_getElem? (i := 2) rfl)
theorem ww3 {Z : State} {a0 : Array Value} (hw : ∀ d ∈ tables_1, d.before a0 Z = true) : (Jvm.Cond.initialized "com/example/granary/granary/fix/OutboxKeptAsIsPinLaw").before a0 Z = true := hw _ (List.mem_of_getElem? (i := 3) rfl)
theorem ww4 {Z : State} {a0 : Array Value} (hw : ∀ d ∈ tables_1, d.before a0 Z = true) : (Jvm.Cond.code ({ cls := "com/example/granary/granary/fix/OutboxKeptAsIsPinLaw", name := "kept", desc := "(B)Z" } : Jvm.MethodName) method_3_code (1 : Nat) (Option.some Jvm.ClassFile.FieldType.boolean)).before a0 Z = true := hw _ (List.mem_of_getElem? (i := 4) rfl)
theorem ww5 {Z : State} {a0 : Array Value} (hw : ∀ d ∈ tables_1, d.before a0 Z = true) : (Jvm.Cond.methodLink "com/example/granary/granary/fix/OutboxKeptAsIsPinLaw" (13 : Nat) ({ cls := "com/example/granary/granary/fix/Outbox", name := "keptAsIs", desc := "([B)Z" } : Jvm.MethodName)).before a0 Z = true := hw _ (List.mem_of_getElem? (i := 5) rfl)
theorem ww6 {Z : State} {a0 : Array Value} (hw : ∀ d ∈ tables_1, d.before a0 Z = true) : (Jvm.Cond.static ({ cls := "com/example/granary/granary/fix/Outbox", name := "keptAsIs", desc := "([B)Z" } : Jvm.MethodName)).before a0 Z = true := hw _ (List.mem_of_getElem? (i := 6) rfl)
theorem ww7 {Z : State} {a0 : Array Value} (hw : ∀ d ∈ tables_1, d.before a0 Z = true) : (Jvm.Cond.initialized "com/example/granary/granary/fix/Outbox").before a0 Z = true := hw _ (List.mem_of_getElem? (i := 7) rfl)
theorem ww8 {Z : State} {a0 : Array Value} (hw : ∀ d ∈ tables_1, d.before a0 Z = true) : (Jvm.Cond.code ({ cls := "com/example/granary/granary/fix/Outbox", name := "keptAsIs", desc := "([B)Z" } : Jvm.MethodName) prog_136_method_7_code (6 : Nat) (Option.some Jvm.ClassFile.FieldType.boolean)).before a0 Z = true := hw _ (List.mem_of_getElem? (i := 8) rfl)
theorem ww9 {Z : State} {a0 : Array Value} (hw : ∀ d ∈ tables_1, d.before a0 Z = true) : (Jvm.Cond.fieldLink "com/example/granary/granary/fix/Outbox" (59 : Nat) "com/example/granary/granary/fix/Outbox" "KEPT_AS_IS" "[Z").before a0 Z = true := hw _ (List.mem_of_getElem? (i := 9) rfl)
theorem ww10 {Z : State} {a0 : Array Value} (hw : ∀ d ∈ tables_1, d.before a0 Z = true) : (Jvm.Cond.laysStatic "com/example/granary/granary/fix/Outbox" "KEPT_AS_IS" "[Z").before a0 Z = true := hw _ (List.mem_of_getElem? (i := 10) rfl)
/-! the plain law -/
theorem own_and3 (y : Int32) : y &&& (3 : Int32) = (0 : Int32) ∨ y &&& (3 : Int32) = (1 : Int32) ∨ y &&& (3 : Int32) = (2 : Int32) ∨ y &&& (3 : Int32) = (3 : Int32) := by
  have a := c_and y 3 (by decide)
  have e0 : (0 : Int32).toInt = 0 := rfl
  have e1 : (1 : Int32).toInt = 1 := rfl
  have e2 : (2 : Int32).toInt = 2 := rfl
  have e3 : (3 : Int32).toInt = 3 := rfl
  simp only [← Int32.toInt_inj]
  omega
def own_tab (j : Int32) : Int32 := if j = (10 : Int32) ∨ j = (13 : Int32) ∨ j = (34 : Int32) ∨ j = (44 : Int32) ∨ j = (92 : Int32) ∨ ¬ j < (128 : Int32) then 0 else 1
def own_kept (b : Int32) : Int32 := if b < (0 : Int32) ∨ b = (92 : Int32) ∨ b = (10 : Int32) ∨ b = (13 : Int32) ∨ b = (44 : Int32) ∨ b = (34 : Int32) then 0 else 1
def own_byte (b : Int32) : Prop := -128 ≤ b.toInt ∧ b.toInt < 128
theorem own_bytes (y : Int32) : own_byte y.toInt8.toInt32 := ⟨(c_i2b y).2.1, (c_i2b y).2.2⟩
theorem own_again (y : Int32) : (y.toInt8.toInt32).toInt8.toInt32 = y.toInt8.toInt32 := by
  apply Int32.toInt_inj.mp
  have a := c_i2b y
  have b := c_i2b y.toInt8.toInt32
  omega
theorem own_small (b : Int32) (h : own_byte b) : ∃ k : Fin 256, b = Int32.ofInt (k.val - 128) := by
  obtain ⟨h0, h1⟩ := h
  refine ⟨⟨(b.toInt + 128).toNat, by omega⟩, ?_⟩
  have e : (((b.toInt + 128).toNat : Nat) : Int) - 128 = b.toInt := by omega
  show b = Int32.ofInt ((((b.toInt + 128).toNat : Nat) : Int) - 128)
  rw [e, Int32.ofInt_toInt]
theorem own_tk0 : ∀ k : Fin 256, own_tab (Int32.ofInt (k.val - 128) &&& (255 : Int32)) = own_kept (Int32.ofInt (k.val - 128)) := by decide +kernel
theorem own_tk (b : Int32) (h : own_byte b) : own_tab (b &&& (255 : Int32)) = own_kept b := by
  obtain ⟨k, rfl⟩ := own_small b h
  exact own_tk0 k
theorem own_in255 (b : Int32) : ¬ (b &&& (255 : Int32)) < 0 ∧ (b &&& (255 : Int32)) < (256 : Int32) := by
  have a := c_and b 255 (by decide)
  have e0 : (0 : Int32).toInt = 0 := rfl
  have e1 : (255 : Int32).toInt = 255 := rfl
  have e2 : (256 : Int32).toInt = 256 := rfl
  rw [Int32.lt_iff_toInt_lt, Int32.lt_iff_toInt_lt]
  omega
theorem own_k01 (b : Int32) : own_kept b = 0 ∨ own_kept b = 1 := by unfold own_kept; split <;> simp
theorem own_kk (b : Int32) : (if own_kept b = (0 : Int32) then (0 : Int32) else 1) = own_kept b := by
  rcases own_k01 b with q | q <;> simp [q]
theorem own_pn1 : plainFor (⟨"com/example/granary/granary/fix/OutboxKeptAsIsPinLaw", "kept", "(B)Z"⟩ : MethodName) = true := plainFor_of_name (by first | (simp [plainName, overriddenIn]; done) | decide +kernel)
theorem d1_0 : decode method_3_code 0 = .ok (.iload_n 0, 1) := by decide +kernel
theorem d1_1 : decode method_3_code 1 = .ok (.ifCond .lt 37, 3) := by decide +kernel
theorem d1_38 : decode method_3_code 38 = .ok (.iconst 0, 1) := by decide +kernel
theorem d1_39 : decode method_3_code 39 = .ok (.ireturn, 1) := by decide +kernel
theorem d1_4 : decode method_3_code 4 = .ok (.iload_n 0, 1) := by decide +kernel
theorem d1_5 : decode method_3_code 5 = .ok (.bipush 92, 2) := by decide +kernel
theorem d1_7 : decode method_3_code 7 = .ok (.if_icmp .eq 31, 3) := by decide +kernel
theorem d1_10 : decode method_3_code 10 = .ok (.iload_n 0, 1) := by decide +kernel
theorem d1_11 : decode method_3_code 11 = .ok (.bipush 10, 2) := by decide +kernel
theorem d1_13 : decode method_3_code 13 = .ok (.if_icmp .eq 25, 3) := by decide +kernel
theorem d1_16 : decode method_3_code 16 = .ok (.iload_n 0, 1) := by decide +kernel
theorem d1_17 : decode method_3_code 17 = .ok (.bipush 13, 2) := by decide +kernel
theorem d1_19 : decode method_3_code 19 = .ok (.if_icmp .eq 19, 3) := by decide +kernel
theorem d1_22 : decode method_3_code 22 = .ok (.iload_n 0, 1) := by decide +kernel
theorem d1_23 : decode method_3_code 23 = .ok (.bipush 44, 2) := by decide +kernel
theorem d1_25 : decode method_3_code 25 = .ok (.if_icmp .eq 13, 3) := by decide +kernel
theorem d1_28 : decode method_3_code 28 = .ok (.iload_n 0, 1) := by decide +kernel
theorem d1_29 : decode method_3_code 29 = .ok (.bipush 34, 2) := by decide +kernel
theorem d1_31 : decode method_3_code 31 = .ok (.if_icmp .eq 7, 3) := by decide +kernel
theorem d1_34 : decode method_3_code 34 = .ok (.iconst 1, 1) := by decide +kernel
theorem d1_35 : decode method_3_code 35 = .ok (.goto 4, 3) := by decide +kernel
theorem own_ef1_own_rmK (m : MethodId) (y0 : Int32) : entryFrame m #[(.int y0)] 1 = mkF m 0 #[.val (.int y0)] [] := by first | (simp [entryFrame, mkF, argsToLocals, Value.category]; done) | rfl
set_option maxRecDepth 65536 in
set_option maxHeartbeats 40000000 in
theorem own_rmK (l : Launch) (Z : State) (a0 : Array Value) (hw : ∀ d ∈ tables_1, d.before a0 Z = true) (p0 : Int32) (h0 : Heap) (n0 : Nat) (Z0 : n0 ≤ h0.size)  :
    own_Met l Z (⟨"com/example/granary/granary/fix/OutboxKeptAsIsPinLaw", "kept", "(B)Z"⟩ : MethodName) method_3_code 1 (some .boolean) [] ({ frames := 0, cells := 0, slots := 0, locals := 0 } : Room) #[(.int p0)] h0 (fun v h L => v = some (.int (own_kept p0)) ∧ Fr n0 L ∧ h = h0) := by
  refine own_met own_pn1 ?_
  intro p e s m below meth c s₁ hx hby hml hown hnm hret hlk hZ X0 e0
  have N0 := Fr.nil n0
  refine own_cast (own_ef1_own_rmK m p0) ?_
  refine own_iloadN (n := 1) X0 hx (hb hby d1_0) rfl rfl ?_
  by_cases hc1_1 : p0 < (0 : Int32)
  · skip
    refine own_ifYes (n := 38) X0 hx (hb hby d1_1) (tlt hc1_1).1 (by decide) (by decide) ?_
    refine own_iconst (n := 39) (z := (0 : Int32)) X0 hx (hb hby d1_38) rfl rfl ?_
    refine own_retZ X0 hx hlk hret (by simp) e0 (w := (0 : Int32)) rfl (hb hby d1_39) (by decide) (by decide) ?_
    exact ⟨by simp [own_kept, hc1_1], N0, rfl⟩
  · skip
    refine own_ifNo (n := 4) X0 hx (hb hby d1_1) (flt hc1_1).1 rfl ?_
    refine own_iloadN (n := 5) X0 hx (hb hby d1_4) rfl rfl ?_
    refine own_bipush (n := 7) (z := (92 : Int32)) X0 hx (hb hby d1_5) rfl rfl ?_
    by_cases hc7_2 : p0 = (92 : Int32)
    · skip
      refine own_icmpYes (n := 38) X0 hx (hb hby d1_7) (teq hc7_2).1 (by decide) (by decide) ?_
      refine own_iconst (n := 39) (z := (0 : Int32)) X0 hx (hb hby d1_38) rfl rfl ?_
      refine own_retZ X0 hx hlk hret (by simp) e0 (w := (0 : Int32)) rfl (hb hby d1_39) (by decide) (by decide) ?_
      exact ⟨by simp [own_kept, hc1_1, hc7_2], N0, rfl⟩
    · skip
      refine own_icmpNo (n := 10) X0 hx (hb hby d1_7) (feq hc7_2).1 rfl ?_
      refine own_iloadN (n := 11) X0 hx (hb hby d1_10) rfl rfl ?_
      refine own_bipush (n := 13) (z := (10 : Int32)) X0 hx (hb hby d1_11) rfl rfl ?_
      by_cases hc13_3 : p0 = (10 : Int32)
      · skip
        refine own_icmpYes (n := 38) X0 hx (hb hby d1_13) (teq hc13_3).1 (by decide) (by decide) ?_
        refine own_iconst (n := 39) (z := (0 : Int32)) X0 hx (hb hby d1_38) rfl rfl ?_
        refine own_retZ X0 hx hlk hret (by simp) e0 (w := (0 : Int32)) rfl (hb hby d1_39) (by decide) (by decide) ?_
        exact ⟨by simp [own_kept, hc1_1, hc7_2, hc13_3], N0, rfl⟩
      · skip
        refine own_icmpNo (n := 16) X0 hx (hb hby d1_13) (feq hc13_3).1 rfl ?_
        refine own_iloadN (n := 17) X0 hx (hb hby d1_16) rfl rfl ?_
        refine own_bipush (n := 19) (z := (13 : Int32)) X0 hx (hb hby d1_17) rfl rfl ?_
        by_cases hc19_4 : p0 = (13 : Int32)
        · skip
          refine own_icmpYes (n := 38) X0 hx (hb hby d1_19) (teq hc19_4).1 (by decide) (by decide) ?_
          refine own_iconst (n := 39) (z := (0 : Int32)) X0 hx (hb hby d1_38) rfl rfl ?_
          refine own_retZ X0 hx hlk hret (by simp) e0 (w := (0 : Int32)) rfl (hb hby d1_39) (by decide) (by decide) ?_
          exact ⟨by simp [own_kept, hc1_1, hc7_2, hc13_3, hc19_4], N0, rfl⟩
        · skip
          refine own_icmpNo (n := 22) X0 hx (hb hby d1_19) (feq hc19_4).1 rfl ?_
          refine own_iloadN (n := 23) X0 hx (hb hby d1_22) rfl rfl ?_
          refine own_bipush (n := 25) (z := (44 : Int32)) X0 hx (hb hby d1_23) rfl rfl ?_
          by_cases hc25_5 : p0 = (44 : Int32)
          · skip
            refine own_icmpYes (n := 38) X0 hx (hb hby d1_25) (teq hc25_5).1 (by decide) (by decide) ?_
            refine own_iconst (n := 39) (z := (0 : Int32)) X0 hx (hb hby d1_38) rfl rfl ?_
            refine own_retZ X0 hx hlk hret (by simp) e0 (w := (0 : Int32)) rfl (hb hby d1_39) (by decide) (by decide) ?_
            exact ⟨by simp [own_kept, hc1_1, hc7_2, hc13_3, hc19_4, hc25_5], N0, rfl⟩
          · skip
            refine own_icmpNo (n := 28) X0 hx (hb hby d1_25) (feq hc25_5).1 rfl ?_
            refine own_iloadN (n := 29) X0 hx (hb hby d1_28) rfl rfl ?_
            refine own_bipush (n := 31) (z := (34 : Int32)) X0 hx (hb hby d1_29) rfl rfl ?_
            by_cases hc31_6 : p0 = (34 : Int32)
            · skip
              refine own_icmpYes (n := 38) X0 hx (hb hby d1_31) (teq hc31_6).1 (by decide) (by decide) ?_
              refine own_iconst (n := 39) (z := (0 : Int32)) X0 hx (hb hby d1_38) rfl rfl ?_
              refine own_retZ X0 hx hlk hret (by simp) e0 (w := (0 : Int32)) rfl (hb hby d1_39) (by decide) (by decide) ?_
              exact ⟨by simp [own_kept, hc1_1, hc7_2, hc13_3, hc19_4, hc25_5, hc31_6], N0, rfl⟩
            · skip
              refine own_icmpNo (n := 34) X0 hx (hb hby d1_31) (feq hc31_6).1 rfl ?_
              refine own_iconst (n := 35) (z := (1 : Int32)) X0 hx (hb hby d1_34) rfl rfl ?_
              refine own_goto (n := 39) X0 hx (hb hby d1_35) (by decide) (by decide) ?_
              refine own_retZ X0 hx hlk hret (by simp) e0 (w := (1 : Int32)) rfl (hb hby d1_39) (by decide) (by decide) ?_
              exact ⟨by simp [own_kept, hc1_1, hc7_2, hc13_3, hc19_4, hc25_5, hc31_6], N0, rfl⟩
theorem own_pn0 : plainFor x = true := plainFor_of_name (by first | (simp [plainName, overriddenIn]; done) | decide +kernel)
theorem own_pn2 : plainFor (⟨"com/example/granary/granary/fix/Outbox", "keptAsIs", "([B)Z"⟩ : MethodName) = true := plainFor_of_name (by first | (simp [plainName, overriddenIn]; done) | decide +kernel)
theorem d2_0 : decode prog_136_method_7_code 0 = .ok (.iconst 1, 1) := by decide +kernel
theorem d2_1 : decode prog_136_method_7_code 1 = .ok (.istore_n 1, 1) := by decide +kernel
theorem d2_2 : decode prog_136_method_7_code 2 = .ok (.aload_n 0, 1) := by decide +kernel
theorem d2_3 : decode prog_136_method_7_code 3 = .ok (.astore_n 2, 1) := by decide +kernel
theorem d2_4 : decode prog_136_method_7_code 4 = .ok (.aload_n 2, 1) := by decide +kernel
theorem d2_5 : decode prog_136_method_7_code 5 = .ok (.arraylength, 1) := by decide +kernel
theorem d2_6 : decode prog_136_method_7_code 6 = .ok (.istore_n 3, 1) := by decide +kernel
theorem d2_7 : decode prog_136_method_7_code 7 = .ok (.iconst 0, 1) := by decide +kernel
theorem d2_8 : decode prog_136_method_7_code 8 = .ok (.istore 4, 2) := by decide +kernel
theorem d2_10 : decode prog_136_method_7_code 10 = .ok (.iload 4, 2) := by decide +kernel
theorem d2_12 : decode prog_136_method_7_code 12 = .ok (.iload_n 3, 1) := by decide +kernel
theorem d2_13 : decode prog_136_method_7_code 13 = .ok (.if_icmp .ge 38, 3) := by decide +kernel
theorem d2_51 : decode prog_136_method_7_code 51 = .ok (.iload_n 1, 1) := by decide +kernel
theorem d2_52 : decode prog_136_method_7_code 52 = .ok (.ireturn, 1) := by decide +kernel
theorem own_ef2_own_rmA0 (m : MethodId) (y0 : Addr) : entryFrame m #[(.ref y0)] 6 = mkF m 0 #[.val (.ref y0), .unset, .unset, .unset, .unset, .unset] [] := by first | (simp [entryFrame, mkF, argsToLocals, Value.category]; done) | rfl
set_option maxRecDepth 65536 in
set_option maxHeartbeats 40000000 in
theorem own_rmA0 (l : Launch) (Z : State) (a0 : Array Value) (hw : ∀ d ∈ tables_1, d.before a0 Z = true) (a : Addr) (kk : ClassId)  (t : Addr) (kt : ClassId) (vt : List Value) (h0 : Heap) (n0 : Nat) (Z0 : n0 ≤ h0.size) (V0 : Arv Z h0 a kk .byte (0 : Int32) [] (.int (0 : Int32))) (S0 : Sta Z h0 "com/example/granary/granary/fix/Outbox" "KEPT_AS_IS" "[Z" (.ref t)) (VT : Arv Z h0 t kt .boolean (256 : Int32) vt .null) (htab : ∀ j : Int32, ¬ j < 0 → j < (256 : Int32) → vt.getD j.toNatClampNeg .null = .int (own_tab j)) :
    own_Met l Z (⟨"com/example/granary/granary/fix/Outbox", "keptAsIs", "([B)Z"⟩ : MethodName) prog_136_method_7_code 6 (some .boolean) [] ({ frames := 0, cells := 0, slots := 0, locals := 0 } : Room) #[(.ref a)] h0 (fun v h L => v = some (.int (1 : Int32)) ∧ Fr n0 L ∧ h = h0) := by
  refine own_met own_pn2 ?_
  intro p e s m below meth c s₁ hx hby hml hown hnm hret hlk hZ X0 e0
  have N0 := Fr.nil n0
  refine own_cast (own_ef2_own_rmA0 m a) ?_
  refine own_iconst (n := 1) (z := (1 : Int32)) X0 hx (hb hby d2_0) rfl rfl ?_
  refine own_istoreN (n := 2) (l' := #[.val (.ref a), .val (.int (1 : Int32)), .unset, .unset, .unset, .unset]) X0 hx (hb hby d2_1) rfl rfl ?_
  refine own_aloadN (n := 3) X0 hx (hb hby d2_2) rfl rfl rfl ?_
  refine own_astoreN (n := 4) (l' := #[.val (.ref a), .val (.int (1 : Int32)), .val (.ref a), .unset, .unset, .unset]) X0 hx (hb hby d2_3) rfl rfl rfl ?_
  refine own_aloadN (n := 5) X0 hx (hb hby d2_4) rfl rfl rfl ?_
  refine own_len (n := 6) X0 hx hZ e0 V0 (hb hby d2_5) rfl ?_
  refine own_istoreN (n := 7) (l' := #[.val (.ref a), .val (.int (1 : Int32)), .val (.ref a), .val (.int (0 : Int32)), .unset, .unset]) X0 hx (hb hby d2_6) rfl rfl ?_
  refine own_iconst (n := 8) (z := (0 : Int32)) X0 hx (hb hby d2_7) rfl rfl ?_
  refine own_istore (n := 10) (l' := #[.val (.ref a), .val (.int (1 : Int32)), .val (.ref a), .val (.int (0 : Int32)), .val (.int (0 : Int32)), .unset]) X0 hx (hb hby d2_8) rfl rfl ?_
  refine own_iload (n := 12) X0 hx (hb hby d2_10) rfl rfl ?_
  refine own_iloadN (n := 13) X0 hx (hb hby d2_12) rfl rfl ?_
  refine own_icmpYes (n := 51) X0 hx (hb hby d2_13) (flt (by decide : ¬ ((0 : Int32) < (0 : Int32)))).2.1 (by decide) (by decide) ?_
  refine own_iloadN (n := 52) X0 hx (hb hby d2_51) rfl rfl ?_
  refine own_retZ X0 hx hlk hret (by simp) e0 (w := (1 : Int32)) rfl (hb hby d2_52) (by decide) (by decide) ?_
  exact ⟨by simp [], N0, rfl⟩
theorem own_pd0 : parseMethodDescriptor "([B)Z" = some ⟨[(.array .byte)], some .boolean⟩ := by decide +kernel
theorem own_pd1 : parseMethodDescriptor "(B)Z" = some ⟨[.byte], some .boolean⟩ := by decide +kernel
theorem d2_16 : decode prog_136_method_7_code 16 = .ok (.aload_n 2, 1) := by decide +kernel
theorem d2_17 : decode prog_136_method_7_code 17 = .ok (.iload 4, 2) := by decide +kernel
theorem d2_19 : decode prog_136_method_7_code 19 = .ok (.baload, 1) := by decide +kernel
theorem d2_20 : decode prog_136_method_7_code 20 = .ok (.istore 5, 2) := by decide +kernel
theorem d2_22 : decode prog_136_method_7_code 22 = .ok (.iload_n 1, 1) := by decide +kernel
theorem d2_23 : decode prog_136_method_7_code 23 = .ok (.ifCond .eq 20, 3) := by decide +kernel
theorem d2_26 : decode prog_136_method_7_code 26 = .ok (.getstatic 59, 3) := by decide +kernel
theorem d2_29 : decode prog_136_method_7_code 29 = .ok (.iload 5, 2) := by decide +kernel
theorem d2_31 : decode prog_136_method_7_code 31 = .ok (.sipush 255, 3) := by decide +kernel
theorem d2_34 : decode prog_136_method_7_code 34 = .ok (.iand, 1) := by decide +kernel
theorem d2_35 : decode prog_136_method_7_code 35 = .ok (.baload, 1) := by decide +kernel
theorem d2_36 : decode prog_136_method_7_code 36 = .ok (.ifCond .eq 7, 3) := by decide +kernel
theorem d2_43 : decode prog_136_method_7_code 43 = .ok (.iconst 0, 1) := by decide +kernel
theorem d2_44 : decode prog_136_method_7_code 44 = .ok (.istore_n 1, 1) := by decide +kernel
theorem d2_45 : decode prog_136_method_7_code 45 = .ok (.iinc 4 1, 3) := by decide +kernel
theorem d2_48 : decode prog_136_method_7_code 48 = .ok (.goto (-38), 3) := by decide +kernel
theorem d2_39 : decode prog_136_method_7_code 39 = .ok (.iconst 1, 1) := by decide +kernel
theorem d2_40 : decode prog_136_method_7_code 40 = .ok (.goto 4, 3) := by decide +kernel
theorem own_ef2_own_rmA1 (m : MethodId) (y0 : Addr) : entryFrame m #[(.ref y0)] 6 = mkF m 0 #[.val (.ref y0), .unset, .unset, .unset, .unset, .unset] [] := by first | (simp [entryFrame, mkF, argsToLocals, Value.category]; done) | rfl
set_option maxRecDepth 65536 in
set_option maxHeartbeats 40000000 in
theorem own_rmA1 (l : Launch) (Z : State) (a0 : Array Value) (hw : ∀ d ∈ tables_1, d.before a0 Z = true) (a : Addr) (kk : ClassId) (c0 : Int32) (t : Addr) (kt : ClassId) (vt : List Value) (h0 : Heap) (n0 : Nat) (Z0 : n0 ≤ h0.size) (V0 : Arv Z h0 a kk .byte (1 : Int32) [(.int c0)] (.int (0 : Int32))) (S0 : Sta Z h0 "com/example/granary/granary/fix/Outbox" "KEPT_AS_IS" "[Z" (.ref t)) (VT : Arv Z h0 t kt .boolean (256 : Int32) vt .null) (htab : ∀ j : Int32, ¬ j < 0 → j < (256 : Int32) → vt.getD j.toNatClampNeg .null = .int (own_tab j)) :
    own_Met l Z (⟨"com/example/granary/granary/fix/Outbox", "keptAsIs", "([B)Z"⟩ : MethodName) prog_136_method_7_code 6 (some .boolean) [] ({ frames := 0, cells := 0, slots := 0, locals := 0 } : Room) #[(.ref a)] h0 (fun v h L => v = some (.int (if own_tab (c0 &&& (255 : Int32)) = (0 : Int32) then (0 : Int32) else (1 : Int32))) ∧ Fr n0 L ∧ h = h0) := by
  refine own_met own_pn2 ?_
  intro p e s m below meth c s₁ hx hby hml hown hnm hret hlk hZ X0 e0
  have N0 := Fr.nil n0
  refine own_cast (own_ef2_own_rmA1 m a) ?_
  refine own_iconst (n := 1) (z := (1 : Int32)) X0 hx (hb hby d2_0) rfl rfl ?_
  refine own_istoreN (n := 2) (l' := #[.val (.ref a), .val (.int (1 : Int32)), .unset, .unset, .unset, .unset]) X0 hx (hb hby d2_1) rfl rfl ?_
  refine own_aloadN (n := 3) X0 hx (hb hby d2_2) rfl rfl rfl ?_
  refine own_astoreN (n := 4) (l' := #[.val (.ref a), .val (.int (1 : Int32)), .val (.ref a), .unset, .unset, .unset]) X0 hx (hb hby d2_3) rfl rfl rfl ?_
  refine own_aloadN (n := 5) X0 hx (hb hby d2_4) rfl rfl rfl ?_
  refine own_len (n := 6) X0 hx hZ e0 V0 (hb hby d2_5) rfl ?_
  refine own_istoreN (n := 7) (l' := #[.val (.ref a), .val (.int (1 : Int32)), .val (.ref a), .val (.int (1 : Int32)), .unset, .unset]) X0 hx (hb hby d2_6) rfl rfl ?_
  refine own_iconst (n := 8) (z := (0 : Int32)) X0 hx (hb hby d2_7) rfl rfl ?_
  refine own_istore (n := 10) (l' := #[.val (.ref a), .val (.int (1 : Int32)), .val (.ref a), .val (.int (1 : Int32)), .val (.int (0 : Int32)), .unset]) X0 hx (hb hby d2_8) rfl rfl ?_
  refine own_iload (n := 12) X0 hx (hb hby d2_10) rfl rfl ?_
  refine own_iloadN (n := 13) X0 hx (hb hby d2_12) rfl rfl ?_
  refine own_icmpNo (n := 16) X0 hx (hb hby d2_13) (tlt (by decide : (0 : Int32) < (1 : Int32))).2.1 rfl ?_
  refine own_aloadN (n := 17) X0 hx (hb hby d2_16) rfl rfl rfl ?_
  refine own_iload (n := 19) X0 hx (hb hby d2_17) rfl rfl ?_
  refine own_ld_baload (n := 20) (v := (.int c0)) X0 hx hZ e0 V0 ⟨by decide, by decide⟩ rfl (hb hby d2_19) rfl ?_
  refine own_istore (n := 22) (l' := #[.val (.ref a), .val (.int (1 : Int32)), .val (.ref a), .val (.int (1 : Int32)), .val (.int (0 : Int32)), .val (.int c0)]) X0 hx (hb hby d2_20) rfl rfl ?_
  refine own_iloadN (n := 23) X0 hx (hb hby d2_22) rfl rfl ?_
  refine own_ifNo (n := 26) X0 hx (hb hby d2_23) (feq (by decide : ¬ ((1 : Int32) = (0 : Int32)))).1 rfl ?_
  refine own_getS (n := 29) X0 hx hZ hown (host := "") (Or.inl (ww9 hw)) Via.refl e0 S0 (hb hby d2_26) rfl ?_
  intro T1 X1 e1
  refine own_iload (n := 31) X1 hx (hb hby d2_29) rfl rfl ?_
  refine own_sipush (n := 34) (z := (255 : Int32)) X1 hx (hb hby d2_31) rfl rfl ?_
  refine own_iand (n := 35) X1 hx (hb hby d2_34) rfl rfl ?_
  refine own_ld_zaload (n := 36) (v := (.int (own_tab (c0 &&& (255 : Int32))))) X1 hx hZ e1 VT (own_in255 _) (htab _ (own_in255 _).1 (own_in255 _).2) (hb hby d2_35) rfl ?_
  by_cases hc36_2 : (own_tab (c0 &&& (255 : Int32))) = (0 : Int32)
  · skip
    refine own_ifYes (n := 43) X1 hx (hb hby d2_36) (teq hc36_2).1 (by decide) (by decide) ?_
    refine own_iconst (n := 44) (z := (0 : Int32)) X1 hx (hb hby d2_43) rfl rfl ?_
    refine own_istoreN (n := 45) (l' := #[.val (.ref a), .val (.int (0 : Int32)), .val (.ref a), .val (.int (1 : Int32)), .val (.int (0 : Int32)), .val (.int c0)]) X1 hx (hb hby d2_44) rfl rfl ?_
    refine own_iinc (n := 48) (z := (1 : Int32)) (l' := #[.val (.ref a), .val (.int (0 : Int32)), .val (.ref a), .val (.int (1 : Int32)), .val (.int (1 : Int32)), .val (.int c0)]) X1 hx (hb hby d2_45) rfl rfl rfl rfl ?_
    refine own_goto (n := 10) X1 hx (hb hby d2_48) (by decide) (by decide) ?_
    refine own_iload (n := 12) X1 hx (hb hby d2_10) rfl rfl ?_
    refine own_iloadN (n := 13) X1 hx (hb hby d2_12) rfl rfl ?_
    refine own_icmpYes (n := 51) X1 hx (hb hby d2_13) (flt (by decide : ¬ ((1 : Int32) < (1 : Int32)))).2.1 (by decide) (by decide) ?_
    refine own_iloadN (n := 52) X1 hx (hb hby d2_51) rfl rfl ?_
    refine own_retZ X1 hx hlk hret (by simp) e1 (w := (0 : Int32)) rfl (hb hby d2_52) (by decide) (by decide) ?_
    exact ⟨by simp [hc36_2], N0, rfl⟩
  · skip
    refine own_ifNo (n := 39) X1 hx (hb hby d2_36) (feq hc36_2).1 rfl ?_
    refine own_iconst (n := 40) (z := (1 : Int32)) X1 hx (hb hby d2_39) rfl rfl ?_
    refine own_goto (n := 44) X1 hx (hb hby d2_40) (by decide) (by decide) ?_
    refine own_istoreN (n := 45) (l' := #[.val (.ref a), .val (.int (1 : Int32)), .val (.ref a), .val (.int (1 : Int32)), .val (.int (0 : Int32)), .val (.int c0)]) X1 hx (hb hby d2_44) rfl rfl ?_
    refine own_iinc (n := 48) (z := (1 : Int32)) (l' := #[.val (.ref a), .val (.int (1 : Int32)), .val (.ref a), .val (.int (1 : Int32)), .val (.int (1 : Int32)), .val (.int c0)]) X1 hx (hb hby d2_45) rfl rfl rfl rfl ?_
    refine own_goto (n := 10) X1 hx (hb hby d2_48) (by decide) (by decide) ?_
    refine own_iload (n := 12) X1 hx (hb hby d2_10) rfl rfl ?_
    refine own_iloadN (n := 13) X1 hx (hb hby d2_12) rfl rfl ?_
    refine own_icmpYes (n := 51) X1 hx (hb hby d2_13) (flt (by decide : ¬ ((1 : Int32) < (1 : Int32)))).2.1 (by decide) (by decide) ?_
    refine own_iloadN (n := 52) X1 hx (hb hby d2_51) rfl rfl ?_
    refine own_retZ X1 hx hlk hret (by simp) e1 (w := (1 : Int32)) rfl (hb hby d2_52) (by decide) (by decide) ?_
    exact ⟨by simp [hc36_2], N0, rfl⟩
theorem own_ef2_own_rmA2 (m : MethodId) (y0 : Addr) : entryFrame m #[(.ref y0)] 6 = mkF m 0 #[.val (.ref y0), .unset, .unset, .unset, .unset, .unset] [] := by first | (simp [entryFrame, mkF, argsToLocals, Value.category]; done) | rfl
set_option maxRecDepth 65536 in
set_option maxHeartbeats 40000000 in
theorem own_rmA2 (l : Launch) (Z : State) (a0 : Array Value) (hw : ∀ d ∈ tables_1, d.before a0 Z = true) (a : Addr) (kk : ClassId) (c0 c1 : Int32) (t : Addr) (kt : ClassId) (vt : List Value) (h0 : Heap) (n0 : Nat) (Z0 : n0 ≤ h0.size) (V0 : Arv Z h0 a kk .byte (2 : Int32) [(.int c0), (.int c1)] (.int (0 : Int32))) (S0 : Sta Z h0 "com/example/granary/granary/fix/Outbox" "KEPT_AS_IS" "[Z" (.ref t)) (VT : Arv Z h0 t kt .boolean (256 : Int32) vt .null) (htab : ∀ j : Int32, ¬ j < 0 → j < (256 : Int32) → vt.getD j.toNatClampNeg .null = .int (own_tab j)) :
    own_Met l Z (⟨"com/example/granary/granary/fix/Outbox", "keptAsIs", "([B)Z"⟩ : MethodName) prog_136_method_7_code 6 (some .boolean) [] ({ frames := 0, cells := 0, slots := 0, locals := 0 } : Room) #[(.ref a)] h0 (fun v h L => v = some (.int (if own_tab (c0 &&& (255 : Int32)) = (0 : Int32) then (0 : Int32) else (if own_tab (c1 &&& (255 : Int32)) = (0 : Int32) then (0 : Int32) else (1 : Int32)))) ∧ Fr n0 L ∧ h = h0) := by
  refine own_met own_pn2 ?_
  intro p e s m below meth c s₁ hx hby hml hown hnm hret hlk hZ X0 e0
  have N0 := Fr.nil n0
  refine own_cast (own_ef2_own_rmA2 m a) ?_
  refine own_iconst (n := 1) (z := (1 : Int32)) X0 hx (hb hby d2_0) rfl rfl ?_
  refine own_istoreN (n := 2) (l' := #[.val (.ref a), .val (.int (1 : Int32)), .unset, .unset, .unset, .unset]) X0 hx (hb hby d2_1) rfl rfl ?_
  refine own_aloadN (n := 3) X0 hx (hb hby d2_2) rfl rfl rfl ?_
  refine own_astoreN (n := 4) (l' := #[.val (.ref a), .val (.int (1 : Int32)), .val (.ref a), .unset, .unset, .unset]) X0 hx (hb hby d2_3) rfl rfl rfl ?_
  refine own_aloadN (n := 5) X0 hx (hb hby d2_4) rfl rfl rfl ?_
  refine own_len (n := 6) X0 hx hZ e0 V0 (hb hby d2_5) rfl ?_
  refine own_istoreN (n := 7) (l' := #[.val (.ref a), .val (.int (1 : Int32)), .val (.ref a), .val (.int (2 : Int32)), .unset, .unset]) X0 hx (hb hby d2_6) rfl rfl ?_
  refine own_iconst (n := 8) (z := (0 : Int32)) X0 hx (hb hby d2_7) rfl rfl ?_
  refine own_istore (n := 10) (l' := #[.val (.ref a), .val (.int (1 : Int32)), .val (.ref a), .val (.int (2 : Int32)), .val (.int (0 : Int32)), .unset]) X0 hx (hb hby d2_8) rfl rfl ?_
  refine own_iload (n := 12) X0 hx (hb hby d2_10) rfl rfl ?_
  refine own_iloadN (n := 13) X0 hx (hb hby d2_12) rfl rfl ?_
  refine own_icmpNo (n := 16) X0 hx (hb hby d2_13) (tlt (by decide : (0 : Int32) < (2 : Int32))).2.1 rfl ?_
  refine own_aloadN (n := 17) X0 hx (hb hby d2_16) rfl rfl rfl ?_
  refine own_iload (n := 19) X0 hx (hb hby d2_17) rfl rfl ?_
  refine own_ld_baload (n := 20) (v := (.int c0)) X0 hx hZ e0 V0 ⟨by decide, by decide⟩ rfl (hb hby d2_19) rfl ?_
  refine own_istore (n := 22) (l' := #[.val (.ref a), .val (.int (1 : Int32)), .val (.ref a), .val (.int (2 : Int32)), .val (.int (0 : Int32)), .val (.int c0)]) X0 hx (hb hby d2_20) rfl rfl ?_
  refine own_iloadN (n := 23) X0 hx (hb hby d2_22) rfl rfl ?_
  refine own_ifNo (n := 26) X0 hx (hb hby d2_23) (feq (by decide : ¬ ((1 : Int32) = (0 : Int32)))).1 rfl ?_
  refine own_getS (n := 29) X0 hx hZ hown (host := "") (Or.inl (ww9 hw)) Via.refl e0 S0 (hb hby d2_26) rfl ?_
  intro T1 X1 e1
  refine own_iload (n := 31) X1 hx (hb hby d2_29) rfl rfl ?_
  refine own_sipush (n := 34) (z := (255 : Int32)) X1 hx (hb hby d2_31) rfl rfl ?_
  refine own_iand (n := 35) X1 hx (hb hby d2_34) rfl rfl ?_
  refine own_ld_zaload (n := 36) (v := (.int (own_tab (c0 &&& (255 : Int32))))) X1 hx hZ e1 VT (own_in255 _) (htab _ (own_in255 _).1 (own_in255 _).2) (hb hby d2_35) rfl ?_
  by_cases hc36_2 : (own_tab (c0 &&& (255 : Int32))) = (0 : Int32)
  · skip
    refine own_ifYes (n := 43) X1 hx (hb hby d2_36) (teq hc36_2).1 (by decide) (by decide) ?_
    refine own_iconst (n := 44) (z := (0 : Int32)) X1 hx (hb hby d2_43) rfl rfl ?_
    refine own_istoreN (n := 45) (l' := #[.val (.ref a), .val (.int (0 : Int32)), .val (.ref a), .val (.int (2 : Int32)), .val (.int (0 : Int32)), .val (.int c0)]) X1 hx (hb hby d2_44) rfl rfl ?_
    refine own_iinc (n := 48) (z := (1 : Int32)) (l' := #[.val (.ref a), .val (.int (0 : Int32)), .val (.ref a), .val (.int (2 : Int32)), .val (.int (1 : Int32)), .val (.int c0)]) X1 hx (hb hby d2_45) rfl rfl rfl rfl ?_
    refine own_goto (n := 10) X1 hx (hb hby d2_48) (by decide) (by decide) ?_
    refine own_iload (n := 12) X1 hx (hb hby d2_10) rfl rfl ?_
    refine own_iloadN (n := 13) X1 hx (hb hby d2_12) rfl rfl ?_
    refine own_icmpNo (n := 16) X1 hx (hb hby d2_13) (tlt (by decide : (1 : Int32) < (2 : Int32))).2.1 rfl ?_
    refine own_aloadN (n := 17) X1 hx (hb hby d2_16) rfl rfl rfl ?_
    refine own_iload (n := 19) X1 hx (hb hby d2_17) rfl rfl ?_
    refine own_ld_baload (n := 20) (v := (.int c1)) X1 hx hZ e1 V0 ⟨by decide, by decide⟩ rfl (hb hby d2_19) rfl ?_
    refine own_istore (n := 22) (l' := #[.val (.ref a), .val (.int (0 : Int32)), .val (.ref a), .val (.int (2 : Int32)), .val (.int (1 : Int32)), .val (.int c1)]) X1 hx (hb hby d2_20) rfl rfl ?_
    refine own_iloadN (n := 23) X1 hx (hb hby d2_22) rfl rfl ?_
    refine own_ifYes (n := 43) X1 hx (hb hby d2_23) (teq (by decide : (0 : Int32) = (0 : Int32))).1 (by decide) (by decide) ?_
    refine own_iconst (n := 44) (z := (0 : Int32)) X1 hx (hb hby d2_43) rfl rfl ?_
    refine own_istoreN (n := 45) (l' := #[.val (.ref a), .val (.int (0 : Int32)), .val (.ref a), .val (.int (2 : Int32)), .val (.int (1 : Int32)), .val (.int c1)]) X1 hx (hb hby d2_44) rfl rfl ?_
    refine own_iinc (n := 48) (z := (2 : Int32)) (l' := #[.val (.ref a), .val (.int (0 : Int32)), .val (.ref a), .val (.int (2 : Int32)), .val (.int (2 : Int32)), .val (.int c1)]) X1 hx (hb hby d2_45) rfl rfl rfl rfl ?_
    refine own_goto (n := 10) X1 hx (hb hby d2_48) (by decide) (by decide) ?_
    refine own_iload (n := 12) X1 hx (hb hby d2_10) rfl rfl ?_
    refine own_iloadN (n := 13) X1 hx (hb hby d2_12) rfl rfl ?_
    refine own_icmpYes (n := 51) X1 hx (hb hby d2_13) (flt (by decide : ¬ ((2 : Int32) < (2 : Int32)))).2.1 (by decide) (by decide) ?_
    refine own_iloadN (n := 52) X1 hx (hb hby d2_51) rfl rfl ?_
    refine own_retZ X1 hx hlk hret (by simp) e1 (w := (0 : Int32)) rfl (hb hby d2_52) (by decide) (by decide) ?_
    exact ⟨by simp [hc36_2], N0, rfl⟩
  · skip
    refine own_ifNo (n := 39) X1 hx (hb hby d2_36) (feq hc36_2).1 rfl ?_
    refine own_iconst (n := 40) (z := (1 : Int32)) X1 hx (hb hby d2_39) rfl rfl ?_
    refine own_goto (n := 44) X1 hx (hb hby d2_40) (by decide) (by decide) ?_
    refine own_istoreN (n := 45) (l' := #[.val (.ref a), .val (.int (1 : Int32)), .val (.ref a), .val (.int (2 : Int32)), .val (.int (0 : Int32)), .val (.int c0)]) X1 hx (hb hby d2_44) rfl rfl ?_
    refine own_iinc (n := 48) (z := (1 : Int32)) (l' := #[.val (.ref a), .val (.int (1 : Int32)), .val (.ref a), .val (.int (2 : Int32)), .val (.int (1 : Int32)), .val (.int c0)]) X1 hx (hb hby d2_45) rfl rfl rfl rfl ?_
    refine own_goto (n := 10) X1 hx (hb hby d2_48) (by decide) (by decide) ?_
    refine own_iload (n := 12) X1 hx (hb hby d2_10) rfl rfl ?_
    refine own_iloadN (n := 13) X1 hx (hb hby d2_12) rfl rfl ?_
    refine own_icmpNo (n := 16) X1 hx (hb hby d2_13) (tlt (by decide : (1 : Int32) < (2 : Int32))).2.1 rfl ?_
    refine own_aloadN (n := 17) X1 hx (hb hby d2_16) rfl rfl rfl ?_
    refine own_iload (n := 19) X1 hx (hb hby d2_17) rfl rfl ?_
    refine own_ld_baload (n := 20) (v := (.int c1)) X1 hx hZ e1 V0 ⟨by decide, by decide⟩ rfl (hb hby d2_19) rfl ?_
    refine own_istore (n := 22) (l' := #[.val (.ref a), .val (.int (1 : Int32)), .val (.ref a), .val (.int (2 : Int32)), .val (.int (1 : Int32)), .val (.int c1)]) X1 hx (hb hby d2_20) rfl rfl ?_
    refine own_iloadN (n := 23) X1 hx (hb hby d2_22) rfl rfl ?_
    refine own_ifNo (n := 26) X1 hx (hb hby d2_23) (feq (by decide : ¬ ((1 : Int32) = (0 : Int32)))).1 rfl ?_
    refine own_getS (n := 29) X1 hx hZ hown (host := "") (Or.inl (ww9 hw)) Via.refl e1 S0 (hb hby d2_26) rfl ?_
    intro T3 X3 e3
    refine own_iload (n := 31) X3 hx (hb hby d2_29) rfl rfl ?_
    refine own_sipush (n := 34) (z := (255 : Int32)) X3 hx (hb hby d2_31) rfl rfl ?_
    refine own_iand (n := 35) X3 hx (hb hby d2_34) rfl rfl ?_
    refine own_ld_zaload (n := 36) (v := (.int (own_tab (c1 &&& (255 : Int32))))) X3 hx hZ e3 VT (own_in255 _) (htab _ (own_in255 _).1 (own_in255 _).2) (hb hby d2_35) rfl ?_
    by_cases hc36_4 : (own_tab (c1 &&& (255 : Int32))) = (0 : Int32)
    · skip
      refine own_ifYes (n := 43) X3 hx (hb hby d2_36) (teq hc36_4).1 (by decide) (by decide) ?_
      refine own_iconst (n := 44) (z := (0 : Int32)) X3 hx (hb hby d2_43) rfl rfl ?_
      refine own_istoreN (n := 45) (l' := #[.val (.ref a), .val (.int (0 : Int32)), .val (.ref a), .val (.int (2 : Int32)), .val (.int (1 : Int32)), .val (.int c1)]) X3 hx (hb hby d2_44) rfl rfl ?_
      refine own_iinc (n := 48) (z := (2 : Int32)) (l' := #[.val (.ref a), .val (.int (0 : Int32)), .val (.ref a), .val (.int (2 : Int32)), .val (.int (2 : Int32)), .val (.int c1)]) X3 hx (hb hby d2_45) rfl rfl rfl rfl ?_
      refine own_goto (n := 10) X3 hx (hb hby d2_48) (by decide) (by decide) ?_
      refine own_iload (n := 12) X3 hx (hb hby d2_10) rfl rfl ?_
      refine own_iloadN (n := 13) X3 hx (hb hby d2_12) rfl rfl ?_
      refine own_icmpYes (n := 51) X3 hx (hb hby d2_13) (flt (by decide : ¬ ((2 : Int32) < (2 : Int32)))).2.1 (by decide) (by decide) ?_
      refine own_iloadN (n := 52) X3 hx (hb hby d2_51) rfl rfl ?_
      refine own_retZ X3 hx hlk hret (by simp) e3 (w := (0 : Int32)) rfl (hb hby d2_52) (by decide) (by decide) ?_
      exact ⟨by simp [hc36_2, hc36_4], N0, rfl⟩
    · skip
      refine own_ifNo (n := 39) X3 hx (hb hby d2_36) (feq hc36_4).1 rfl ?_
      refine own_iconst (n := 40) (z := (1 : Int32)) X3 hx (hb hby d2_39) rfl rfl ?_
      refine own_goto (n := 44) X3 hx (hb hby d2_40) (by decide) (by decide) ?_
      refine own_istoreN (n := 45) (l' := #[.val (.ref a), .val (.int (1 : Int32)), .val (.ref a), .val (.int (2 : Int32)), .val (.int (1 : Int32)), .val (.int c1)]) X3 hx (hb hby d2_44) rfl rfl ?_
      refine own_iinc (n := 48) (z := (2 : Int32)) (l' := #[.val (.ref a), .val (.int (1 : Int32)), .val (.ref a), .val (.int (2 : Int32)), .val (.int (2 : Int32)), .val (.int c1)]) X3 hx (hb hby d2_45) rfl rfl rfl rfl ?_
      refine own_goto (n := 10) X3 hx (hb hby d2_48) (by decide) (by decide) ?_
      refine own_iload (n := 12) X3 hx (hb hby d2_10) rfl rfl ?_
      refine own_iloadN (n := 13) X3 hx (hb hby d2_12) rfl rfl ?_
      refine own_icmpYes (n := 51) X3 hx (hb hby d2_13) (flt (by decide : ¬ ((2 : Int32) < (2 : Int32)))).2.1 (by decide) (by decide) ?_
      refine own_iloadN (n := 52) X3 hx (hb hby d2_51) rfl rfl ?_
      refine own_retZ X3 hx hlk hret (by simp) e3 (w := (1 : Int32)) rfl (hb hby d2_52) (by decide) (by decide) ?_
      exact ⟨by simp [hc36_2, hc36_4], N0, rfl⟩
theorem own_ef2_own_rmA3 (m : MethodId) (y0 : Addr) : entryFrame m #[(.ref y0)] 6 = mkF m 0 #[.val (.ref y0), .unset, .unset, .unset, .unset, .unset] [] := by first | (simp [entryFrame, mkF, argsToLocals, Value.category]; done) | rfl
set_option maxRecDepth 65536 in
set_option maxHeartbeats 40000000 in
theorem own_rmA3 (l : Launch) (Z : State) (a0 : Array Value) (hw : ∀ d ∈ tables_1, d.before a0 Z = true) (a : Addr) (kk : ClassId) (c0 c1 c2 : Int32) (t : Addr) (kt : ClassId) (vt : List Value) (h0 : Heap) (n0 : Nat) (Z0 : n0 ≤ h0.size) (V0 : Arv Z h0 a kk .byte (3 : Int32) [(.int c0), (.int c1), (.int c2)] (.int (0 : Int32))) (S0 : Sta Z h0 "com/example/granary/granary/fix/Outbox" "KEPT_AS_IS" "[Z" (.ref t)) (VT : Arv Z h0 t kt .boolean (256 : Int32) vt .null) (htab : ∀ j : Int32, ¬ j < 0 → j < (256 : Int32) → vt.getD j.toNatClampNeg .null = .int (own_tab j)) :
    own_Met l Z (⟨"com/example/granary/granary/fix/Outbox", "keptAsIs", "([B)Z"⟩ : MethodName) prog_136_method_7_code 6 (some .boolean) [] ({ frames := 0, cells := 0, slots := 0, locals := 0 } : Room) #[(.ref a)] h0 (fun v h L => v = some (.int (if own_tab (c0 &&& (255 : Int32)) = (0 : Int32) then (0 : Int32) else (if own_tab (c1 &&& (255 : Int32)) = (0 : Int32) then (0 : Int32) else (if own_tab (c2 &&& (255 : Int32)) = (0 : Int32) then (0 : Int32) else (1 : Int32))))) ∧ Fr n0 L ∧ h = h0) := by
  refine own_met own_pn2 ?_
  intro p e s m below meth c s₁ hx hby hml hown hnm hret hlk hZ X0 e0
  have N0 := Fr.nil n0
  refine own_cast (own_ef2_own_rmA3 m a) ?_
  refine own_iconst (n := 1) (z := (1 : Int32)) X0 hx (hb hby d2_0) rfl rfl ?_
  refine own_istoreN (n := 2) (l' := #[.val (.ref a), .val (.int (1 : Int32)), .unset, .unset, .unset, .unset]) X0 hx (hb hby d2_1) rfl rfl ?_
  refine own_aloadN (n := 3) X0 hx (hb hby d2_2) rfl rfl rfl ?_
  refine own_astoreN (n := 4) (l' := #[.val (.ref a), .val (.int (1 : Int32)), .val (.ref a), .unset, .unset, .unset]) X0 hx (hb hby d2_3) rfl rfl rfl ?_
  refine own_aloadN (n := 5) X0 hx (hb hby d2_4) rfl rfl rfl ?_
  refine own_len (n := 6) X0 hx hZ e0 V0 (hb hby d2_5) rfl ?_
  refine own_istoreN (n := 7) (l' := #[.val (.ref a), .val (.int (1 : Int32)), .val (.ref a), .val (.int (3 : Int32)), .unset, .unset]) X0 hx (hb hby d2_6) rfl rfl ?_
  refine own_iconst (n := 8) (z := (0 : Int32)) X0 hx (hb hby d2_7) rfl rfl ?_
  refine own_istore (n := 10) (l' := #[.val (.ref a), .val (.int (1 : Int32)), .val (.ref a), .val (.int (3 : Int32)), .val (.int (0 : Int32)), .unset]) X0 hx (hb hby d2_8) rfl rfl ?_
  refine own_iload (n := 12) X0 hx (hb hby d2_10) rfl rfl ?_
  refine own_iloadN (n := 13) X0 hx (hb hby d2_12) rfl rfl ?_
  refine own_icmpNo (n := 16) X0 hx (hb hby d2_13) (tlt (by decide : (0 : Int32) < (3 : Int32))).2.1 rfl ?_
  refine own_aloadN (n := 17) X0 hx (hb hby d2_16) rfl rfl rfl ?_
  refine own_iload (n := 19) X0 hx (hb hby d2_17) rfl rfl ?_
  refine own_ld_baload (n := 20) (v := (.int c0)) X0 hx hZ e0 V0 ⟨by decide, by decide⟩ rfl (hb hby d2_19) rfl ?_
  refine own_istore (n := 22) (l' := #[.val (.ref a), .val (.int (1 : Int32)), .val (.ref a), .val (.int (3 : Int32)), .val (.int (0 : Int32)), .val (.int c0)]) X0 hx (hb hby d2_20) rfl rfl ?_
  refine own_iloadN (n := 23) X0 hx (hb hby d2_22) rfl rfl ?_
  refine own_ifNo (n := 26) X0 hx (hb hby d2_23) (feq (by decide : ¬ ((1 : Int32) = (0 : Int32)))).1 rfl ?_
  refine own_getS (n := 29) X0 hx hZ hown (host := "") (Or.inl (ww9 hw)) Via.refl e0 S0 (hb hby d2_26) rfl ?_
  intro T1 X1 e1
  refine own_iload (n := 31) X1 hx (hb hby d2_29) rfl rfl ?_
  refine own_sipush (n := 34) (z := (255 : Int32)) X1 hx (hb hby d2_31) rfl rfl ?_
  refine own_iand (n := 35) X1 hx (hb hby d2_34) rfl rfl ?_
  refine own_ld_zaload (n := 36) (v := (.int (own_tab (c0 &&& (255 : Int32))))) X1 hx hZ e1 VT (own_in255 _) (htab _ (own_in255 _).1 (own_in255 _).2) (hb hby d2_35) rfl ?_
  by_cases hc36_2 : (own_tab (c0 &&& (255 : Int32))) = (0 : Int32)
  · skip
    refine own_ifYes (n := 43) X1 hx (hb hby d2_36) (teq hc36_2).1 (by decide) (by decide) ?_
    refine own_iconst (n := 44) (z := (0 : Int32)) X1 hx (hb hby d2_43) rfl rfl ?_
    refine own_istoreN (n := 45) (l' := #[.val (.ref a), .val (.int (0 : Int32)), .val (.ref a), .val (.int (3 : Int32)), .val (.int (0 : Int32)), .val (.int c0)]) X1 hx (hb hby d2_44) rfl rfl ?_
    refine own_iinc (n := 48) (z := (1 : Int32)) (l' := #[.val (.ref a), .val (.int (0 : Int32)), .val (.ref a), .val (.int (3 : Int32)), .val (.int (1 : Int32)), .val (.int c0)]) X1 hx (hb hby d2_45) rfl rfl rfl rfl ?_
    refine own_goto (n := 10) X1 hx (hb hby d2_48) (by decide) (by decide) ?_
    refine own_iload (n := 12) X1 hx (hb hby d2_10) rfl rfl ?_
    refine own_iloadN (n := 13) X1 hx (hb hby d2_12) rfl rfl ?_
    refine own_icmpNo (n := 16) X1 hx (hb hby d2_13) (tlt (by decide : (1 : Int32) < (3 : Int32))).2.1 rfl ?_
    refine own_aloadN (n := 17) X1 hx (hb hby d2_16) rfl rfl rfl ?_
    refine own_iload (n := 19) X1 hx (hb hby d2_17) rfl rfl ?_
    refine own_ld_baload (n := 20) (v := (.int c1)) X1 hx hZ e1 V0 ⟨by decide, by decide⟩ rfl (hb hby d2_19) rfl ?_
    refine own_istore (n := 22) (l' := #[.val (.ref a), .val (.int (0 : Int32)), .val (.ref a), .val (.int (3 : Int32)), .val (.int (1 : Int32)), .val (.int c1)]) X1 hx (hb hby d2_20) rfl rfl ?_
    refine own_iloadN (n := 23) X1 hx (hb hby d2_22) rfl rfl ?_
    refine own_ifYes (n := 43) X1 hx (hb hby d2_23) (teq (by decide : (0 : Int32) = (0 : Int32))).1 (by decide) (by decide) ?_
    refine own_iconst (n := 44) (z := (0 : Int32)) X1 hx (hb hby d2_43) rfl rfl ?_
    refine own_istoreN (n := 45) (l' := #[.val (.ref a), .val (.int (0 : Int32)), .val (.ref a), .val (.int (3 : Int32)), .val (.int (1 : Int32)), .val (.int c1)]) X1 hx (hb hby d2_44) rfl rfl ?_
    refine own_iinc (n := 48) (z := (2 : Int32)) (l' := #[.val (.ref a), .val (.int (0 : Int32)), .val (.ref a), .val (.int (3 : Int32)), .val (.int (2 : Int32)), .val (.int c1)]) X1 hx (hb hby d2_45) rfl rfl rfl rfl ?_
    refine own_goto (n := 10) X1 hx (hb hby d2_48) (by decide) (by decide) ?_
    refine own_iload (n := 12) X1 hx (hb hby d2_10) rfl rfl ?_
    refine own_iloadN (n := 13) X1 hx (hb hby d2_12) rfl rfl ?_
    refine own_icmpNo (n := 16) X1 hx (hb hby d2_13) (tlt (by decide : (2 : Int32) < (3 : Int32))).2.1 rfl ?_
    refine own_aloadN (n := 17) X1 hx (hb hby d2_16) rfl rfl rfl ?_
    refine own_iload (n := 19) X1 hx (hb hby d2_17) rfl rfl ?_
    refine own_ld_baload (n := 20) (v := (.int c2)) X1 hx hZ e1 V0 ⟨by decide, by decide⟩ rfl (hb hby d2_19) rfl ?_
    refine own_istore (n := 22) (l' := #[.val (.ref a), .val (.int (0 : Int32)), .val (.ref a), .val (.int (3 : Int32)), .val (.int (2 : Int32)), .val (.int c2)]) X1 hx (hb hby d2_20) rfl rfl ?_
    refine own_iloadN (n := 23) X1 hx (hb hby d2_22) rfl rfl ?_
    refine own_ifYes (n := 43) X1 hx (hb hby d2_23) (teq (by decide : (0 : Int32) = (0 : Int32))).1 (by decide) (by decide) ?_
    refine own_iconst (n := 44) (z := (0 : Int32)) X1 hx (hb hby d2_43) rfl rfl ?_
    refine own_istoreN (n := 45) (l' := #[.val (.ref a), .val (.int (0 : Int32)), .val (.ref a), .val (.int (3 : Int32)), .val (.int (2 : Int32)), .val (.int c2)]) X1 hx (hb hby d2_44) rfl rfl ?_
    refine own_iinc (n := 48) (z := (3 : Int32)) (l' := #[.val (.ref a), .val (.int (0 : Int32)), .val (.ref a), .val (.int (3 : Int32)), .val (.int (3 : Int32)), .val (.int c2)]) X1 hx (hb hby d2_45) rfl rfl rfl rfl ?_
    refine own_goto (n := 10) X1 hx (hb hby d2_48) (by decide) (by decide) ?_
    refine own_iload (n := 12) X1 hx (hb hby d2_10) rfl rfl ?_
    refine own_iloadN (n := 13) X1 hx (hb hby d2_12) rfl rfl ?_
    refine own_icmpYes (n := 51) X1 hx (hb hby d2_13) (flt (by decide : ¬ ((3 : Int32) < (3 : Int32)))).2.1 (by decide) (by decide) ?_
    refine own_iloadN (n := 52) X1 hx (hb hby d2_51) rfl rfl ?_
    refine own_retZ X1 hx hlk hret (by simp) e1 (w := (0 : Int32)) rfl (hb hby d2_52) (by decide) (by decide) ?_
    exact ⟨by simp [hc36_2], N0, rfl⟩
  · skip
    refine own_ifNo (n := 39) X1 hx (hb hby d2_36) (feq hc36_2).1 rfl ?_
    refine own_iconst (n := 40) (z := (1 : Int32)) X1 hx (hb hby d2_39) rfl rfl ?_
    refine own_goto (n := 44) X1 hx (hb hby d2_40) (by decide) (by decide) ?_
    refine own_istoreN (n := 45) (l' := #[.val (.ref a), .val (.int (1 : Int32)), .val (.ref a), .val (.int (3 : Int32)), .val (.int (0 : Int32)), .val (.int c0)]) X1 hx (hb hby d2_44) rfl rfl ?_
    refine own_iinc (n := 48) (z := (1 : Int32)) (l' := #[.val (.ref a), .val (.int (1 : Int32)), .val (.ref a), .val (.int (3 : Int32)), .val (.int (1 : Int32)), .val (.int c0)]) X1 hx (hb hby d2_45) rfl rfl rfl rfl ?_
    refine own_goto (n := 10) X1 hx (hb hby d2_48) (by decide) (by decide) ?_
    refine own_iload (n := 12) X1 hx (hb hby d2_10) rfl rfl ?_
    refine own_iloadN (n := 13) X1 hx (hb hby d2_12) rfl rfl ?_
    refine own_icmpNo (n := 16) X1 hx (hb hby d2_13) (tlt (by decide : (1 : Int32) < (3 : Int32))).2.1 rfl ?_
    refine own_aloadN (n := 17) X1 hx (hb hby d2_16) rfl rfl rfl ?_
    refine own_iload (n := 19) X1 hx (hb hby d2_17) rfl rfl ?_
    refine own_ld_baload (n := 20) (v := (.int c1)) X1 hx hZ e1 V0 ⟨by decide, by decide⟩ rfl (hb hby d2_19) rfl ?_
    refine own_istore (n := 22) (l' := #[.val (.ref a), .val (.int (1 : Int32)), .val (.ref a), .val (.int (3 : Int32)), .val (.int (1 : Int32)), .val (.int c1)]) X1 hx (hb hby d2_20) rfl rfl ?_
    refine own_iloadN (n := 23) X1 hx (hb hby d2_22) rfl rfl ?_
    refine own_ifNo (n := 26) X1 hx (hb hby d2_23) (feq (by decide : ¬ ((1 : Int32) = (0 : Int32)))).1 rfl ?_
    refine own_getS (n := 29) X1 hx hZ hown (host := "") (Or.inl (ww9 hw)) Via.refl e1 S0 (hb hby d2_26) rfl ?_
    intro T3 X3 e3
    refine own_iload (n := 31) X3 hx (hb hby d2_29) rfl rfl ?_
    refine own_sipush (n := 34) (z := (255 : Int32)) X3 hx (hb hby d2_31) rfl rfl ?_
    refine own_iand (n := 35) X3 hx (hb hby d2_34) rfl rfl ?_
    refine own_ld_zaload (n := 36) (v := (.int (own_tab (c1 &&& (255 : Int32))))) X3 hx hZ e3 VT (own_in255 _) (htab _ (own_in255 _).1 (own_in255 _).2) (hb hby d2_35) rfl ?_
    by_cases hc36_4 : (own_tab (c1 &&& (255 : Int32))) = (0 : Int32)
    · skip
      refine own_ifYes (n := 43) X3 hx (hb hby d2_36) (teq hc36_4).1 (by decide) (by decide) ?_
      refine own_iconst (n := 44) (z := (0 : Int32)) X3 hx (hb hby d2_43) rfl rfl ?_
      refine own_istoreN (n := 45) (l' := #[.val (.ref a), .val (.int (0 : Int32)), .val (.ref a), .val (.int (3 : Int32)), .val (.int (1 : Int32)), .val (.int c1)]) X3 hx (hb hby d2_44) rfl rfl ?_
      refine own_iinc (n := 48) (z := (2 : Int32)) (l' := #[.val (.ref a), .val (.int (0 : Int32)), .val (.ref a), .val (.int (3 : Int32)), .val (.int (2 : Int32)), .val (.int c1)]) X3 hx (hb hby d2_45) rfl rfl rfl rfl ?_
      refine own_goto (n := 10) X3 hx (hb hby d2_48) (by decide) (by decide) ?_
      refine own_iload (n := 12) X3 hx (hb hby d2_10) rfl rfl ?_
      refine own_iloadN (n := 13) X3 hx (hb hby d2_12) rfl rfl ?_
      refine own_icmpNo (n := 16) X3 hx (hb hby d2_13) (tlt (by decide : (2 : Int32) < (3 : Int32))).2.1 rfl ?_
      refine own_aloadN (n := 17) X3 hx (hb hby d2_16) rfl rfl rfl ?_
      refine own_iload (n := 19) X3 hx (hb hby d2_17) rfl rfl ?_
      refine own_ld_baload (n := 20) (v := (.int c2)) X3 hx hZ e3 V0 ⟨by decide, by decide⟩ rfl (hb hby d2_19) rfl ?_
      refine own_istore (n := 22) (l' := #[.val (.ref a), .val (.int (0 : Int32)), .val (.ref a), .val (.int (3 : Int32)), .val (.int (2 : Int32)), .val (.int c2)]) X3 hx (hb hby d2_20) rfl rfl ?_
      refine own_iloadN (n := 23) X3 hx (hb hby d2_22) rfl rfl ?_
      refine own_ifYes (n := 43) X3 hx (hb hby d2_23) (teq (by decide : (0 : Int32) = (0 : Int32))).1 (by decide) (by decide) ?_
      refine own_iconst (n := 44) (z := (0 : Int32)) X3 hx (hb hby d2_43) rfl rfl ?_
      refine own_istoreN (n := 45) (l' := #[.val (.ref a), .val (.int (0 : Int32)), .val (.ref a), .val (.int (3 : Int32)), .val (.int (2 : Int32)), .val (.int c2)]) X3 hx (hb hby d2_44) rfl rfl ?_
      refine own_iinc (n := 48) (z := (3 : Int32)) (l' := #[.val (.ref a), .val (.int (0 : Int32)), .val (.ref a), .val (.int (3 : Int32)), .val (.int (3 : Int32)), .val (.int c2)]) X3 hx (hb hby d2_45) rfl rfl rfl rfl ?_
      refine own_goto (n := 10) X3 hx (hb hby d2_48) (by decide) (by decide) ?_
      refine own_iload (n := 12) X3 hx (hb hby d2_10) rfl rfl ?_
      refine own_iloadN (n := 13) X3 hx (hb hby d2_12) rfl rfl ?_
      refine own_icmpYes (n := 51) X3 hx (hb hby d2_13) (flt (by decide : ¬ ((3 : Int32) < (3 : Int32)))).2.1 (by decide) (by decide) ?_
      refine own_iloadN (n := 52) X3 hx (hb hby d2_51) rfl rfl ?_
      refine own_retZ X3 hx hlk hret (by simp) e3 (w := (0 : Int32)) rfl (hb hby d2_52) (by decide) (by decide) ?_
      exact ⟨by simp [hc36_2, hc36_4], N0, rfl⟩
    · skip
      refine own_ifNo (n := 39) X3 hx (hb hby d2_36) (feq hc36_4).1 rfl ?_
      refine own_iconst (n := 40) (z := (1 : Int32)) X3 hx (hb hby d2_39) rfl rfl ?_
      refine own_goto (n := 44) X3 hx (hb hby d2_40) (by decide) (by decide) ?_
      refine own_istoreN (n := 45) (l' := #[.val (.ref a), .val (.int (1 : Int32)), .val (.ref a), .val (.int (3 : Int32)), .val (.int (1 : Int32)), .val (.int c1)]) X3 hx (hb hby d2_44) rfl rfl ?_
      refine own_iinc (n := 48) (z := (2 : Int32)) (l' := #[.val (.ref a), .val (.int (1 : Int32)), .val (.ref a), .val (.int (3 : Int32)), .val (.int (2 : Int32)), .val (.int c1)]) X3 hx (hb hby d2_45) rfl rfl rfl rfl ?_
      refine own_goto (n := 10) X3 hx (hb hby d2_48) (by decide) (by decide) ?_
      refine own_iload (n := 12) X3 hx (hb hby d2_10) rfl rfl ?_
      refine own_iloadN (n := 13) X3 hx (hb hby d2_12) rfl rfl ?_
      refine own_icmpNo (n := 16) X3 hx (hb hby d2_13) (tlt (by decide : (2 : Int32) < (3 : Int32))).2.1 rfl ?_
      refine own_aloadN (n := 17) X3 hx (hb hby d2_16) rfl rfl rfl ?_
      refine own_iload (n := 19) X3 hx (hb hby d2_17) rfl rfl ?_
      refine own_ld_baload (n := 20) (v := (.int c2)) X3 hx hZ e3 V0 ⟨by decide, by decide⟩ rfl (hb hby d2_19) rfl ?_
      refine own_istore (n := 22) (l' := #[.val (.ref a), .val (.int (1 : Int32)), .val (.ref a), .val (.int (3 : Int32)), .val (.int (2 : Int32)), .val (.int c2)]) X3 hx (hb hby d2_20) rfl rfl ?_
      refine own_iloadN (n := 23) X3 hx (hb hby d2_22) rfl rfl ?_
      refine own_ifNo (n := 26) X3 hx (hb hby d2_23) (feq (by decide : ¬ ((1 : Int32) = (0 : Int32)))).1 rfl ?_
      refine own_getS (n := 29) X3 hx hZ hown (host := "") (Or.inl (ww9 hw)) Via.refl e3 S0 (hb hby d2_26) rfl ?_
      intro T5 X5 e5
      refine own_iload (n := 31) X5 hx (hb hby d2_29) rfl rfl ?_
      refine own_sipush (n := 34) (z := (255 : Int32)) X5 hx (hb hby d2_31) rfl rfl ?_
      refine own_iand (n := 35) X5 hx (hb hby d2_34) rfl rfl ?_
      refine own_ld_zaload (n := 36) (v := (.int (own_tab (c2 &&& (255 : Int32))))) X5 hx hZ e5 VT (own_in255 _) (htab _ (own_in255 _).1 (own_in255 _).2) (hb hby d2_35) rfl ?_
      by_cases hc36_6 : (own_tab (c2 &&& (255 : Int32))) = (0 : Int32)
      · skip
        refine own_ifYes (n := 43) X5 hx (hb hby d2_36) (teq hc36_6).1 (by decide) (by decide) ?_
        refine own_iconst (n := 44) (z := (0 : Int32)) X5 hx (hb hby d2_43) rfl rfl ?_
        refine own_istoreN (n := 45) (l' := #[.val (.ref a), .val (.int (0 : Int32)), .val (.ref a), .val (.int (3 : Int32)), .val (.int (2 : Int32)), .val (.int c2)]) X5 hx (hb hby d2_44) rfl rfl ?_
        refine own_iinc (n := 48) (z := (3 : Int32)) (l' := #[.val (.ref a), .val (.int (0 : Int32)), .val (.ref a), .val (.int (3 : Int32)), .val (.int (3 : Int32)), .val (.int c2)]) X5 hx (hb hby d2_45) rfl rfl rfl rfl ?_
        refine own_goto (n := 10) X5 hx (hb hby d2_48) (by decide) (by decide) ?_
        refine own_iload (n := 12) X5 hx (hb hby d2_10) rfl rfl ?_
        refine own_iloadN (n := 13) X5 hx (hb hby d2_12) rfl rfl ?_
        refine own_icmpYes (n := 51) X5 hx (hb hby d2_13) (flt (by decide : ¬ ((3 : Int32) < (3 : Int32)))).2.1 (by decide) (by decide) ?_
        refine own_iloadN (n := 52) X5 hx (hb hby d2_51) rfl rfl ?_
        refine own_retZ X5 hx hlk hret (by simp) e5 (w := (0 : Int32)) rfl (hb hby d2_52) (by decide) (by decide) ?_
        exact ⟨by simp [hc36_2, hc36_4, hc36_6], N0, rfl⟩
      · skip
        refine own_ifNo (n := 39) X5 hx (hb hby d2_36) (feq hc36_6).1 rfl ?_
        refine own_iconst (n := 40) (z := (1 : Int32)) X5 hx (hb hby d2_39) rfl rfl ?_
        refine own_goto (n := 44) X5 hx (hb hby d2_40) (by decide) (by decide) ?_
        refine own_istoreN (n := 45) (l' := #[.val (.ref a), .val (.int (1 : Int32)), .val (.ref a), .val (.int (3 : Int32)), .val (.int (2 : Int32)), .val (.int c2)]) X5 hx (hb hby d2_44) rfl rfl ?_
        refine own_iinc (n := 48) (z := (3 : Int32)) (l' := #[.val (.ref a), .val (.int (1 : Int32)), .val (.ref a), .val (.int (3 : Int32)), .val (.int (3 : Int32)), .val (.int c2)]) X5 hx (hb hby d2_45) rfl rfl rfl rfl ?_
        refine own_goto (n := 10) X5 hx (hb hby d2_48) (by decide) (by decide) ?_
        refine own_iload (n := 12) X5 hx (hb hby d2_10) rfl rfl ?_
        refine own_iloadN (n := 13) X5 hx (hb hby d2_12) rfl rfl ?_
        refine own_icmpYes (n := 51) X5 hx (hb hby d2_13) (flt (by decide : ¬ ((3 : Int32) < (3 : Int32)))).2.1 (by decide) (by decide) ?_
        refine own_iloadN (n := 52) X5 hx (hb hby d2_51) rfl rfl ?_
        refine own_retZ X5 hx hlk hret (by simp) e5 (w := (1 : Int32)) rfl (hb hby d2_52) (by decide) (by decide) ?_
        exact ⟨by simp [hc36_2, hc36_4, hc36_6], N0, rfl⟩
theorem own_ef0_own_rm0 (m : MethodId) (y0 : Int32) (y1 : Int32) (y2 : Int32) (y3 : Int32) : entryFrame m #[(.int y0), (.int y1), (.int y2), (.int y3)] maxLocals = mkF m 0 #[.val (.int y0), .val (.int y1), .val (.int y2), .val (.int y3), .unset, .unset, .unset, .unset, .unset, .unset] [] := by first | (simp [entryFrame, mkF, argsToLocals, Value.category, maxLocals]; done) | rfl
set_option maxRecDepth 65536 in
set_option maxHeartbeats 40000000 in
theorem own_rm0 (l : Launch) (Z : State) (a0 : Array Value) (hw : ∀ d ∈ tables_1, d.before a0 Z = true) (p0 p1 p2 p3 : Int32) (t : Addr) (kt : ClassId) (vt : List Value) (h0 : Heap) (n0 : Nat) (Z0 : n0 ≤ h0.size) (S0 : Sta Z h0 "com/example/granary/granary/fix/Outbox" "KEPT_AS_IS" "[Z" (.ref t)) (VT : Arv Z h0 t kt .boolean (256 : Int32) vt .null) (htab : ∀ j : Int32, ¬ j < 0 → j < (256 : Int32) → vt.getD j.toNatClampNeg .null = .int (own_tab j)) :
    own_Met l Z x code maxLocals ret tables_1 room_1 #[(.int p0), (.int p1), (.int p2), (.int p3)] h0 (fun v h L => v = some (.int 1) ∧ Fr n0 L) := by
  refine own_met own_pn0 ?_
  intro p e s m below meth c s₁ hx hby hml hown hnm hret hlk hZ X0 e0
  have N0 := Fr.nil n0
  refine own_cast (own_ef0_own_rm0 m p0 p1 p2 p3) ?_
  refine own_iloadN (n := 1) X0 hx (hb hby at_0) rfl rfl ?_
  refine own_iconst (n := 2) (z := (3 : Int32)) X0 hx (hb hby at_1) rfl rfl ?_
  refine own_iand (n := 3) X0 hx (hb hby at_2) rfl rfl ?_
  refine own_istore (n := 5) (l' := #[.val (.int p0), .val (.int p1), .val (.int p2), .val (.int p3), .val (.int (p3 &&& (3 : Int32))), .unset, .unset, .unset, .unset, .unset]) X0 hx (hb hby at_3) rfl rfl ?_
  rcases own_and3 p3 with hs | hs | hs | hs
  · rw [hs]
    refine own_iloadN (n := 6) X0 hx (hb hby at_5) rfl rfl ?_
    refine own_i2b (n := 7) X0 hx (hb hby at_6) rfl rfl ?_
    refine own_istore (n := 9) (l' := #[.val (.int p0), .val (.int p1), .val (.int p2), .val (.int p3), .val (.int (0 : Int32)), .val (.int (p0).toInt8.toInt32), .unset, .unset, .unset, .unset]) X0 hx (hb hby at_7) rfl rfl ?_
    refine own_iloadN (n := 10) X0 hx (hb hby at_9) rfl rfl ?_
    refine own_i2b (n := 11) X0 hx (hb hby at_10) rfl rfl ?_
    refine own_istore (n := 13) (l' := #[.val (.int p0), .val (.int p1), .val (.int p2), .val (.int p3), .val (.int (0 : Int32)), .val (.int (p0).toInt8.toInt32), .val (.int (p1).toInt8.toInt32), .unset, .unset, .unset]) X0 hx (hb hby at_11) rfl rfl ?_
    refine own_iloadN (n := 14) X0 hx (hb hby at_13) rfl rfl ?_
    refine own_i2b (n := 15) X0 hx (hb hby at_14) rfl rfl ?_
    refine own_istore (n := 17) (l' := #[.val (.int p0), .val (.int p1), .val (.int p2), .val (.int p3), .val (.int (0 : Int32)), .val (.int (p0).toInt8.toInt32), .val (.int (p1).toInt8.toInt32), .val (.int (p2).toInt8.toInt32), .unset, .unset]) X0 hx (hb hby at_15) rfl rfl ?_
    obtain ⟨q0, hq0⟩ : ∃ z, z = (p0).toInt8.toInt32 := ⟨_, rfl⟩
    rw [← hq0]
    have hB0 : own_byte q0 := hq0 ▸ own_bytes p0
    have hN0 : (q0).toInt8.toInt32 = q0 := by rw [hq0]; exact own_again p0
    obtain ⟨q1, hq1⟩ : ∃ z, z = (p1).toInt8.toInt32 := ⟨_, rfl⟩
    rw [← hq1]
    have hB1 : own_byte q1 := hq1 ▸ own_bytes p1
    have hN1 : (q1).toInt8.toInt32 = q1 := by rw [hq1]; exact own_again p1
    obtain ⟨q2, hq2⟩ : ∃ z, z = (p2).toInt8.toInt32 := ⟨_, rfl⟩
    rw [← hq2]
    have hB2 : own_byte q2 := hq2 ▸ own_bytes p2
    have hN2 : (q2).toInt8.toInt32 = q2 := by rw [hq2]; exact own_again p2
    refine own_iload (n := 19) X0 hx (hb hby at_17) rfl rfl ?_
    refine own_ifNo (n := 22) X0 hx (hb hby at_19) (teq (by decide : (0 : Int32) = (0 : Int32))).2 rfl ?_
    refine own_iconst (n := 23) (z := (0 : Int32)) X0 hx (hb hby at_22) rfl rfl ?_
    refine own_newA (n := 25) X0 hx hZ own_an_byte (ww0 hw) e0 (hb hby at_23) (by decide) (cap := 0) (by decide) (by decide) (by decide) (by decide) rfl ?_
    intro T1 h1 k1 b1 g1 X1 e1 E1 A1 B1
    have g_b1 : n0 ≤ b1 := Nat.le_trans Z0 (Nat.le_of_eq g1.symm)
    have ne_t_b1 : t ≠ b1 := own_ne VT.lt g1
    have S_2 := S0.ext E1
    have A_3 := VT.ext E1
    have Z_4 : n0 ≤ h1.size := Nat.le_trans Z0 E1.1
    have V1 : Arv Z h1 b1 k1 .byte (0 : Int32) [] (.int (0 : Int32)) := Arv.new A1 (by decide)
    refine own_astore (n := 27) (l' := #[.val (.int p0), .val (.int p1), .val (.int p2), .val (.int p3), .val (.int (0 : Int32)), .val (.int q0), .val (.int q1), .val (.int q2), .val (.ref b1), .unset]) X1 hx (hb hby at_25) rfl rfl rfl ?_
    refine own_iconst (n := 28) (z := (1 : Int32)) X1 hx (hb hby at_27) rfl rfl ?_
    refine own_istore (n := 30) (l' := #[.val (.int p0), .val (.int p1), .val (.int p2), .val (.int p3), .val (.int (0 : Int32)), .val (.int q0), .val (.int q1), .val (.int q2), .val (.ref b1), .val (.int (1 : Int32))]) X1 hx (hb hby at_28) rfl rfl ?_
    refine own_goto (n := 163) X1 hx (hb hby at_30) (by decide) (by decide) ?_
    refine own_aload (n := 165) X1 hx (hb hby at_163) rfl rfl rfl ?_
    refine own_S (n := 168) (argsL := [(.ref b1)]) (rest := []) X1 hx hZ hown (own_rmA0 l Z a0 hw b1 k1  t kt vt h1 n0 Z_4 V1 S_2 A_3 htab) (ww5 hw) (ww6 hw) (ww7 hw) (ww8 hw) (by decide) e1 (by rw [hml]; rfl) (lenOf own_pd0 rfl) rfl (hb hby at_165) (Nat.le_of_ble_eq_true rfl) (Nat.le_of_ble_eq_true rfl) (Nat.le_of_ble_eq_true rfl) (Nat.le_of_ble_eq_true rfl) rfl ?_
    rintro v5 T5 L5 X5 ⟨rfl, Nq5, eq5⟩
    have N5 := Fr.app N0 Nq5
    change own_G p e below _ _ (mkF m 168 _ [(.int (1 : Int32))])
    refine own_iload (n := 170) X5 hx (hb hby at_168) rfl rfl ?_
    refine own_icmpNo (n := 173) X5 hx (hb hby at_170) (teq (by decide : (1 : Int32) = (1 : Int32))).2 rfl ?_
    refine own_iconst (n := 174) (z := (1 : Int32)) X5 hx (hb hby at_173) rfl rfl ?_
    refine own_goto (n := 178) X5 hx (hb hby at_174) (by decide) (by decide) ?_
    refine own_retZ X5 hx hlk hret (by simp) eq5 (w := (1 : Int32)) rfl (hb hby at_178) (by decide) (by decide) ?_
    exact ⟨rfl, N5⟩
  · rw [hs]
    refine own_iloadN (n := 6) X0 hx (hb hby at_5) rfl rfl ?_
    refine own_i2b (n := 7) X0 hx (hb hby at_6) rfl rfl ?_
    refine own_istore (n := 9) (l' := #[.val (.int p0), .val (.int p1), .val (.int p2), .val (.int p3), .val (.int (1 : Int32)), .val (.int (p0).toInt8.toInt32), .unset, .unset, .unset, .unset]) X0 hx (hb hby at_7) rfl rfl ?_
    refine own_iloadN (n := 10) X0 hx (hb hby at_9) rfl rfl ?_
    refine own_i2b (n := 11) X0 hx (hb hby at_10) rfl rfl ?_
    refine own_istore (n := 13) (l' := #[.val (.int p0), .val (.int p1), .val (.int p2), .val (.int p3), .val (.int (1 : Int32)), .val (.int (p0).toInt8.toInt32), .val (.int (p1).toInt8.toInt32), .unset, .unset, .unset]) X0 hx (hb hby at_11) rfl rfl ?_
    refine own_iloadN (n := 14) X0 hx (hb hby at_13) rfl rfl ?_
    refine own_i2b (n := 15) X0 hx (hb hby at_14) rfl rfl ?_
    refine own_istore (n := 17) (l' := #[.val (.int p0), .val (.int p1), .val (.int p2), .val (.int p3), .val (.int (1 : Int32)), .val (.int (p0).toInt8.toInt32), .val (.int (p1).toInt8.toInt32), .val (.int (p2).toInt8.toInt32), .unset, .unset]) X0 hx (hb hby at_15) rfl rfl ?_
    obtain ⟨q0, hq0⟩ : ∃ z, z = (p0).toInt8.toInt32 := ⟨_, rfl⟩
    rw [← hq0]
    have hB0 : own_byte q0 := hq0 ▸ own_bytes p0
    have hN0 : (q0).toInt8.toInt32 = q0 := by rw [hq0]; exact own_again p0
    obtain ⟨q1, hq1⟩ : ∃ z, z = (p1).toInt8.toInt32 := ⟨_, rfl⟩
    rw [← hq1]
    have hB1 : own_byte q1 := hq1 ▸ own_bytes p1
    have hN1 : (q1).toInt8.toInt32 = q1 := by rw [hq1]; exact own_again p1
    obtain ⟨q2, hq2⟩ : ∃ z, z = (p2).toInt8.toInt32 := ⟨_, rfl⟩
    rw [← hq2]
    have hB2 : own_byte q2 := hq2 ▸ own_bytes p2
    have hN2 : (q2).toInt8.toInt32 = q2 := by rw [hq2]; exact own_again p2
    refine own_iload (n := 19) X0 hx (hb hby at_17) rfl rfl ?_
    refine own_ifYes (n := 33) X0 hx (hb hby at_19) (feq (by decide : ¬ ((1 : Int32) = (0 : Int32)))).2 (by decide) (by decide) ?_
    refine own_iload (n := 35) X0 hx (hb hby at_33) rfl rfl ?_
    refine own_iconst (n := 36) (z := (1 : Int32)) X0 hx (hb hby at_35) rfl rfl ?_
    refine own_icmpNo (n := 39) X0 hx (hb hby at_36) (teq (by decide : (1 : Int32) = (1 : Int32))).2 rfl ?_
    refine own_iconst (n := 40) (z := (1 : Int32)) X0 hx (hb hby at_39) rfl rfl ?_
    refine own_newA (n := 42) X0 hx hZ own_an_byte (ww0 hw) e0 (hb hby at_40) (by decide) (cap := 1) (by decide) (by decide) (by decide) (by decide) rfl ?_
    intro T6 h6 k6 b6 g6 X6 e6 E6 A6 B6
    have g_b6 : n0 ≤ b6 := Nat.le_trans Z0 (Nat.le_of_eq g6.symm)
    have ne_t_b6 : t ≠ b6 := own_ne VT.lt g6
    have S_7 := S0.ext E6
    have A_8 := VT.ext E6
    have Z_9 : n0 ≤ h6.size := Nat.le_trans Z0 E6.1
    have V6 : Arv Z h6 b6 k6 .byte (1 : Int32) [(.int (0 : Int32))] (.int (0 : Int32)) := (Arv.new A6 (by decide)).pad (pad_rep [] (.int (0 : Int32)) 1)
    refine own_astore (n := 44) (l' := #[.val (.int p0), .val (.int p1), .val (.int p2), .val (.int p3), .val (.int (1 : Int32)), .val (.int q0), .val (.int q1), .val (.int q2), .val (.ref b6), .unset]) X6 hx (hb hby at_42) rfl rfl rfl ?_
    refine own_aload (n := 46) X6 hx (hb hby at_44) rfl rfl rfl ?_
    refine own_iconst (n := 47) (z := (0 : Int32)) X6 hx (hb hby at_46) rfl rfl ?_
    refine own_iload (n := 49) X6 hx (hb hby at_47) rfl rfl ?_
    refine own_st_bastore (n := 50) X6 hx hZ e6 V6 ⟨by decide, by decide⟩ 0 rfl (Nat.le_of_ble_eq_true rfl) (hb hby at_49) rfl ?_
    intro T10 h10 X10 e10 W10 V10q
    rw [hN0] at V10q
    have V10 : Arv Z h10 b6 k6 .byte (1 : Int32) [(.int q0)] (.int (0 : Int32)) := V10q
    have N10 := Fr.snoc X10 N0 g_b6
    have S_11 := S_7.wr W10
    have A_12 := A_8.other W10 ne_t_b6
    have Z_13 : n0 ≤ h10.size := by rw [W10.size]; exact Z_9
    refine own_iload (n := 52) X10 hx (hb hby at_50) rfl rfl ?_
    refine own_S (n := 55) (argsL := [(.int q0)]) (rest := []) X10 hx hZ hown (own_rmK l Z a0 hw q0 h10 n0 Z_13) (ww1 hw) (ww2 hw) (ww3 hw) (ww4 hw) (by decide) e10 (by rw [hml]; rfl) (lenOf own_pd1 rfl) rfl (hb hby at_52) (Nat.le_of_ble_eq_true rfl) (Nat.le_of_ble_eq_true rfl) (Nat.le_of_ble_eq_true rfl) (Nat.le_of_ble_eq_true rfl) rfl ?_
    rintro v14 T14 L14 X14 ⟨rfl, Nq14, eq14⟩
    have N14 := Fr.app N10 Nq14
    change own_G p e below _ _ (mkF m 55 _ [(.int (own_kept q0))])
    refine own_istore (n := 57) (l' := #[.val (.int p0), .val (.int p1), .val (.int p2), .val (.int p3), .val (.int (1 : Int32)), .val (.int q0), .val (.int q1), .val (.int q2), .val (.ref b6), .val (.int (own_kept q0))]) X14 hx (hb hby at_55) rfl rfl ?_
    refine own_goto (n := 163) X14 hx (hb hby at_57) (by decide) (by decide) ?_
    refine own_aload (n := 165) X14 hx (hb hby at_163) rfl rfl rfl ?_
    refine own_S (n := 168) (argsL := [(.ref b6)]) (rest := []) X14 hx hZ hown (own_rmA1 l Z a0 hw b6 k6 q0 t kt vt h10 n0 Z_13 V10 S_11 A_12 htab) (ww5 hw) (ww6 hw) (ww7 hw) (ww8 hw) (by decide) eq14 (by rw [hml]; rfl) (lenOf own_pd0 rfl) rfl (hb hby at_165) (Nat.le_of_ble_eq_true rfl) (Nat.le_of_ble_eq_true rfl) (Nat.le_of_ble_eq_true rfl) (Nat.le_of_ble_eq_true rfl) rfl ?_
    rintro v15 T15 L15 X15 ⟨rfl, Nq15, eq15⟩
    have N15 := Fr.app N14 Nq15
    change own_G p e below _ _ (mkF m 168 _ [(.int (if own_tab (q0 &&& (255 : Int32)) = (0 : Int32) then (0 : Int32) else (1 : Int32)))])
    refine own_iload (n := 170) X15 hx (hb hby at_168) rfl rfl ?_
    refine own_icmpNo (n := 173) X15 hx (hb hby at_170) (teq (by simp only [own_tk _ hB0, own_tk _ hB1, own_tk _ hB2]; first | exact own_kk _ | simp [] : (if own_tab (q0 &&& (255 : Int32)) = (0 : Int32) then (0 : Int32) else (1 : Int32)) = (own_kept q0))).2 rfl ?_
    refine own_iconst (n := 174) (z := (1 : Int32)) X15 hx (hb hby at_173) rfl rfl ?_
    refine own_goto (n := 178) X15 hx (hb hby at_174) (by decide) (by decide) ?_
    refine own_retZ X15 hx hlk hret (by simp) eq15 (w := (1 : Int32)) rfl (hb hby at_178) (by decide) (by decide) ?_
    exact ⟨rfl, N15⟩
  · rw [hs]
    refine own_iloadN (n := 6) X0 hx (hb hby at_5) rfl rfl ?_
    refine own_i2b (n := 7) X0 hx (hb hby at_6) rfl rfl ?_
    refine own_istore (n := 9) (l' := #[.val (.int p0), .val (.int p1), .val (.int p2), .val (.int p3), .val (.int (2 : Int32)), .val (.int (p0).toInt8.toInt32), .unset, .unset, .unset, .unset]) X0 hx (hb hby at_7) rfl rfl ?_
    refine own_iloadN (n := 10) X0 hx (hb hby at_9) rfl rfl ?_
    refine own_i2b (n := 11) X0 hx (hb hby at_10) rfl rfl ?_
    refine own_istore (n := 13) (l' := #[.val (.int p0), .val (.int p1), .val (.int p2), .val (.int p3), .val (.int (2 : Int32)), .val (.int (p0).toInt8.toInt32), .val (.int (p1).toInt8.toInt32), .unset, .unset, .unset]) X0 hx (hb hby at_11) rfl rfl ?_
    refine own_iloadN (n := 14) X0 hx (hb hby at_13) rfl rfl ?_
    refine own_i2b (n := 15) X0 hx (hb hby at_14) rfl rfl ?_
    refine own_istore (n := 17) (l' := #[.val (.int p0), .val (.int p1), .val (.int p2), .val (.int p3), .val (.int (2 : Int32)), .val (.int (p0).toInt8.toInt32), .val (.int (p1).toInt8.toInt32), .val (.int (p2).toInt8.toInt32), .unset, .unset]) X0 hx (hb hby at_15) rfl rfl ?_
    obtain ⟨q0, hq0⟩ : ∃ z, z = (p0).toInt8.toInt32 := ⟨_, rfl⟩
    rw [← hq0]
    have hB0 : own_byte q0 := hq0 ▸ own_bytes p0
    have hN0 : (q0).toInt8.toInt32 = q0 := by rw [hq0]; exact own_again p0
    obtain ⟨q1, hq1⟩ : ∃ z, z = (p1).toInt8.toInt32 := ⟨_, rfl⟩
    rw [← hq1]
    have hB1 : own_byte q1 := hq1 ▸ own_bytes p1
    have hN1 : (q1).toInt8.toInt32 = q1 := by rw [hq1]; exact own_again p1
    obtain ⟨q2, hq2⟩ : ∃ z, z = (p2).toInt8.toInt32 := ⟨_, rfl⟩
    rw [← hq2]
    have hB2 : own_byte q2 := hq2 ▸ own_bytes p2
    have hN2 : (q2).toInt8.toInt32 = q2 := by rw [hq2]; exact own_again p2
    refine own_iload (n := 19) X0 hx (hb hby at_17) rfl rfl ?_
    refine own_ifYes (n := 33) X0 hx (hb hby at_19) (feq (by decide : ¬ ((2 : Int32) = (0 : Int32)))).2 (by decide) (by decide) ?_
    refine own_iload (n := 35) X0 hx (hb hby at_33) rfl rfl ?_
    refine own_iconst (n := 36) (z := (1 : Int32)) X0 hx (hb hby at_35) rfl rfl ?_
    refine own_icmpYes (n := 60) X0 hx (hb hby at_36) (feq (by decide : ¬ ((2 : Int32) = (1 : Int32)))).2 (by decide) (by decide) ?_
    refine own_iload (n := 62) X0 hx (hb hby at_60) rfl rfl ?_
    refine own_iconst (n := 63) (z := (2 : Int32)) X0 hx (hb hby at_62) rfl rfl ?_
    refine own_icmpNo (n := 66) X0 hx (hb hby at_63) (teq (by decide : (2 : Int32) = (2 : Int32))).2 rfl ?_
    refine own_iconst (n := 67) (z := (2 : Int32)) X0 hx (hb hby at_66) rfl rfl ?_
    refine own_newA (n := 69) X0 hx hZ own_an_byte (ww0 hw) e0 (hb hby at_67) (by decide) (cap := 2) (by decide) (by decide) (by decide) (by decide) rfl ?_
    intro T16 h16 k16 b16 g16 X16 e16 E16 A16 B16
    have g_b16 : n0 ≤ b16 := Nat.le_trans Z0 (Nat.le_of_eq g16.symm)
    have ne_t_b16 : t ≠ b16 := own_ne VT.lt g16
    have S_17 := S0.ext E16
    have A_18 := VT.ext E16
    have Z_19 : n0 ≤ h16.size := Nat.le_trans Z0 E16.1
    have V16 : Arv Z h16 b16 k16 .byte (2 : Int32) [(.int (0 : Int32)), (.int (0 : Int32))] (.int (0 : Int32)) := (Arv.new A16 (by decide)).pad (pad_rep [] (.int (0 : Int32)) 2)
    refine own_astore (n := 71) (l' := #[.val (.int p0), .val (.int p1), .val (.int p2), .val (.int p3), .val (.int (2 : Int32)), .val (.int q0), .val (.int q1), .val (.int q2), .val (.ref b16), .unset]) X16 hx (hb hby at_69) rfl rfl rfl ?_
    refine own_aload (n := 73) X16 hx (hb hby at_71) rfl rfl rfl ?_
    refine own_iconst (n := 74) (z := (0 : Int32)) X16 hx (hb hby at_73) rfl rfl ?_
    refine own_iload (n := 76) X16 hx (hb hby at_74) rfl rfl ?_
    refine own_st_bastore (n := 77) X16 hx hZ e16 V16 ⟨by decide, by decide⟩ 0 rfl (Nat.le_of_ble_eq_true rfl) (hb hby at_76) rfl ?_
    intro T20 h20 X20 e20 W20 V20q
    rw [hN0] at V20q
    have V20 : Arv Z h20 b16 k16 .byte (2 : Int32) [(.int q0), (.int (0 : Int32))] (.int (0 : Int32)) := V20q
    have N20 := Fr.snoc X20 N0 g_b16
    have S_21 := S_17.wr W20
    have A_22 := A_18.other W20 ne_t_b16
    have Z_23 : n0 ≤ h20.size := by rw [W20.size]; exact Z_19
    refine own_aload (n := 79) X20 hx (hb hby at_77) rfl rfl rfl ?_
    refine own_iconst (n := 80) (z := (1 : Int32)) X20 hx (hb hby at_79) rfl rfl ?_
    refine own_iload (n := 82) X20 hx (hb hby at_80) rfl rfl ?_
    refine own_st_bastore (n := 83) X20 hx hZ e20 V20 ⟨by decide, by decide⟩ 1 rfl (Nat.le_of_ble_eq_true rfl) (hb hby at_82) rfl ?_
    intro T24 h24 X24 e24 W24 V24q
    rw [hN1] at V24q
    have V24 : Arv Z h24 b16 k16 .byte (2 : Int32) [(.int q0), (.int q1)] (.int (0 : Int32)) := V24q
    have N24 := Fr.snoc X24 N20 g_b16
    have S_25 := S_21.wr W24
    have A_26 := A_22.other W24 ne_t_b16
    have Z_27 : n0 ≤ h24.size := by rw [W24.size]; exact Z_23
    refine own_iload (n := 85) X24 hx (hb hby at_83) rfl rfl ?_
    refine own_S (n := 88) (argsL := [(.int q0)]) (rest := []) X24 hx hZ hown (own_rmK l Z a0 hw q0 h24 n0 Z_27) (ww1 hw) (ww2 hw) (ww3 hw) (ww4 hw) (by decide) e24 (by rw [hml]; rfl) (lenOf own_pd1 rfl) rfl (hb hby at_85) (Nat.le_of_ble_eq_true rfl) (Nat.le_of_ble_eq_true rfl) (Nat.le_of_ble_eq_true rfl) (Nat.le_of_ble_eq_true rfl) rfl ?_
    rintro v28 T28 L28 X28 ⟨rfl, Nq28, eq28⟩
    have N28 := Fr.app N24 Nq28
    change own_G p e below _ _ (mkF m 88 _ [(.int (own_kept q0))])
    by_cases hc88_29 : (own_kept q0) = (0 : Int32)
    · skip
      refine own_ifYes (n := 103) X28 hx (hb hby at_88) (teq hc88_29).1 (by decide) (by decide) ?_
      refine own_iconst (n := 104) (z := (0 : Int32)) X28 hx (hb hby at_103) rfl rfl ?_
      refine own_istore (n := 106) (l' := #[.val (.int p0), .val (.int p1), .val (.int p2), .val (.int p3), .val (.int (2 : Int32)), .val (.int q0), .val (.int q1), .val (.int q2), .val (.ref b16), .val (.int (0 : Int32))]) X28 hx (hb hby at_104) rfl rfl ?_
      refine own_goto (n := 163) X28 hx (hb hby at_106) (by decide) (by decide) ?_
      refine own_aload (n := 165) X28 hx (hb hby at_163) rfl rfl rfl ?_
      refine own_S (n := 168) (argsL := [(.ref b16)]) (rest := []) X28 hx hZ hown (own_rmA2 l Z a0 hw b16 k16 q0 q1 t kt vt h24 n0 Z_27 V24 S_25 A_26 htab) (ww5 hw) (ww6 hw) (ww7 hw) (ww8 hw) (by decide) eq28 (by rw [hml]; rfl) (lenOf own_pd0 rfl) rfl (hb hby at_165) (Nat.le_of_ble_eq_true rfl) (Nat.le_of_ble_eq_true rfl) (Nat.le_of_ble_eq_true rfl) (Nat.le_of_ble_eq_true rfl) rfl ?_
      rintro v30 T30 L30 X30 ⟨rfl, Nq30, eq30⟩
      have N30 := Fr.app N28 Nq30
      change own_G p e below _ _ (mkF m 168 _ [(.int (if own_tab (q0 &&& (255 : Int32)) = (0 : Int32) then (0 : Int32) else (if own_tab (q1 &&& (255 : Int32)) = (0 : Int32) then (0 : Int32) else (1 : Int32))))])
      refine own_iload (n := 170) X30 hx (hb hby at_168) rfl rfl ?_
      refine own_icmpNo (n := 173) X30 hx (hb hby at_170) (teq (by simp only [own_tk _ hB0, own_tk _ hB1, own_tk _ hB2]; first | exact own_kk _ | simp [hc88_29] : (if own_tab (q0 &&& (255 : Int32)) = (0 : Int32) then (0 : Int32) else (if own_tab (q1 &&& (255 : Int32)) = (0 : Int32) then (0 : Int32) else (1 : Int32))) = (0 : Int32))).2 rfl ?_
      refine own_iconst (n := 174) (z := (1 : Int32)) X30 hx (hb hby at_173) rfl rfl ?_
      refine own_goto (n := 178) X30 hx (hb hby at_174) (by decide) (by decide) ?_
      refine own_retZ X30 hx hlk hret (by simp) eq30 (w := (1 : Int32)) rfl (hb hby at_178) (by decide) (by decide) ?_
      exact ⟨rfl, N30⟩
    · skip
      refine own_ifNo (n := 91) X28 hx (hb hby at_88) (feq hc88_29).1 rfl ?_
      refine own_iload (n := 93) X28 hx (hb hby at_91) rfl rfl ?_
      refine own_S (n := 96) (argsL := [(.int q1)]) (rest := []) X28 hx hZ hown (own_rmK l Z a0 hw q1 h24 n0 Z_27) (ww1 hw) (ww2 hw) (ww3 hw) (ww4 hw) (by decide) eq28 (by rw [hml]; rfl) (lenOf own_pd1 rfl) rfl (hb hby at_93) (Nat.le_of_ble_eq_true rfl) (Nat.le_of_ble_eq_true rfl) (Nat.le_of_ble_eq_true rfl) (Nat.le_of_ble_eq_true rfl) rfl ?_
      rintro v31 T31 L31 X31 ⟨rfl, Nq31, eq31⟩
      have N31 := Fr.app N28 Nq31
      change own_G p e below _ _ (mkF m 96 _ [(.int (own_kept q1))])
      by_cases hc96_32 : (own_kept q1) = (0 : Int32)
      · skip
        refine own_ifYes (n := 103) X31 hx (hb hby at_96) (teq hc96_32).1 (by decide) (by decide) ?_
        refine own_iconst (n := 104) (z := (0 : Int32)) X31 hx (hb hby at_103) rfl rfl ?_
        refine own_istore (n := 106) (l' := #[.val (.int p0), .val (.int p1), .val (.int p2), .val (.int p3), .val (.int (2 : Int32)), .val (.int q0), .val (.int q1), .val (.int q2), .val (.ref b16), .val (.int (0 : Int32))]) X31 hx (hb hby at_104) rfl rfl ?_
        refine own_goto (n := 163) X31 hx (hb hby at_106) (by decide) (by decide) ?_
        refine own_aload (n := 165) X31 hx (hb hby at_163) rfl rfl rfl ?_
        refine own_S (n := 168) (argsL := [(.ref b16)]) (rest := []) X31 hx hZ hown (own_rmA2 l Z a0 hw b16 k16 q0 q1 t kt vt h24 n0 Z_27 V24 S_25 A_26 htab) (ww5 hw) (ww6 hw) (ww7 hw) (ww8 hw) (by decide) eq31 (by rw [hml]; rfl) (lenOf own_pd0 rfl) rfl (hb hby at_165) (Nat.le_of_ble_eq_true rfl) (Nat.le_of_ble_eq_true rfl) (Nat.le_of_ble_eq_true rfl) (Nat.le_of_ble_eq_true rfl) rfl ?_
        rintro v33 T33 L33 X33 ⟨rfl, Nq33, eq33⟩
        have N33 := Fr.app N31 Nq33
        change own_G p e below _ _ (mkF m 168 _ [(.int (if own_tab (q0 &&& (255 : Int32)) = (0 : Int32) then (0 : Int32) else (if own_tab (q1 &&& (255 : Int32)) = (0 : Int32) then (0 : Int32) else (1 : Int32))))])
        refine own_iload (n := 170) X33 hx (hb hby at_168) rfl rfl ?_
        refine own_icmpNo (n := 173) X33 hx (hb hby at_170) (teq (by simp only [own_tk _ hB0, own_tk _ hB1, own_tk _ hB2]; first | exact own_kk _ | simp [hc88_29, hc96_32] : (if own_tab (q0 &&& (255 : Int32)) = (0 : Int32) then (0 : Int32) else (if own_tab (q1 &&& (255 : Int32)) = (0 : Int32) then (0 : Int32) else (1 : Int32))) = (0 : Int32))).2 rfl ?_
        refine own_iconst (n := 174) (z := (1 : Int32)) X33 hx (hb hby at_173) rfl rfl ?_
        refine own_goto (n := 178) X33 hx (hb hby at_174) (by decide) (by decide) ?_
        refine own_retZ X33 hx hlk hret (by simp) eq33 (w := (1 : Int32)) rfl (hb hby at_178) (by decide) (by decide) ?_
        exact ⟨rfl, N33⟩
      · skip
        refine own_ifNo (n := 99) X31 hx (hb hby at_96) (feq hc96_32).1 rfl ?_
        refine own_iconst (n := 100) (z := (1 : Int32)) X31 hx (hb hby at_99) rfl rfl ?_
        refine own_goto (n := 104) X31 hx (hb hby at_100) (by decide) (by decide) ?_
        refine own_istore (n := 106) (l' := #[.val (.int p0), .val (.int p1), .val (.int p2), .val (.int p3), .val (.int (2 : Int32)), .val (.int q0), .val (.int q1), .val (.int q2), .val (.ref b16), .val (.int (1 : Int32))]) X31 hx (hb hby at_104) rfl rfl ?_
        refine own_goto (n := 163) X31 hx (hb hby at_106) (by decide) (by decide) ?_
        refine own_aload (n := 165) X31 hx (hb hby at_163) rfl rfl rfl ?_
        refine own_S (n := 168) (argsL := [(.ref b16)]) (rest := []) X31 hx hZ hown (own_rmA2 l Z a0 hw b16 k16 q0 q1 t kt vt h24 n0 Z_27 V24 S_25 A_26 htab) (ww5 hw) (ww6 hw) (ww7 hw) (ww8 hw) (by decide) eq31 (by rw [hml]; rfl) (lenOf own_pd0 rfl) rfl (hb hby at_165) (Nat.le_of_ble_eq_true rfl) (Nat.le_of_ble_eq_true rfl) (Nat.le_of_ble_eq_true rfl) (Nat.le_of_ble_eq_true rfl) rfl ?_
        rintro v34 T34 L34 X34 ⟨rfl, Nq34, eq34⟩
        have N34 := Fr.app N31 Nq34
        change own_G p e below _ _ (mkF m 168 _ [(.int (if own_tab (q0 &&& (255 : Int32)) = (0 : Int32) then (0 : Int32) else (if own_tab (q1 &&& (255 : Int32)) = (0 : Int32) then (0 : Int32) else (1 : Int32))))])
        refine own_iload (n := 170) X34 hx (hb hby at_168) rfl rfl ?_
        refine own_icmpNo (n := 173) X34 hx (hb hby at_170) (teq (by simp only [own_tk _ hB0, own_tk _ hB1, own_tk _ hB2]; first | exact own_kk _ | simp [hc88_29, hc96_32] : (if own_tab (q0 &&& (255 : Int32)) = (0 : Int32) then (0 : Int32) else (if own_tab (q1 &&& (255 : Int32)) = (0 : Int32) then (0 : Int32) else (1 : Int32))) = (1 : Int32))).2 rfl ?_
        refine own_iconst (n := 174) (z := (1 : Int32)) X34 hx (hb hby at_173) rfl rfl ?_
        refine own_goto (n := 178) X34 hx (hb hby at_174) (by decide) (by decide) ?_
        refine own_retZ X34 hx hlk hret (by simp) eq34 (w := (1 : Int32)) rfl (hb hby at_178) (by decide) (by decide) ?_
        exact ⟨rfl, N34⟩
  · rw [hs]
    refine own_iloadN (n := 6) X0 hx (hb hby at_5) rfl rfl ?_
    refine own_i2b (n := 7) X0 hx (hb hby at_6) rfl rfl ?_
    refine own_istore (n := 9) (l' := #[.val (.int p0), .val (.int p1), .val (.int p2), .val (.int p3), .val (.int (3 : Int32)), .val (.int (p0).toInt8.toInt32), .unset, .unset, .unset, .unset]) X0 hx (hb hby at_7) rfl rfl ?_
    refine own_iloadN (n := 10) X0 hx (hb hby at_9) rfl rfl ?_
    refine own_i2b (n := 11) X0 hx (hb hby at_10) rfl rfl ?_
    refine own_istore (n := 13) (l' := #[.val (.int p0), .val (.int p1), .val (.int p2), .val (.int p3), .val (.int (3 : Int32)), .val (.int (p0).toInt8.toInt32), .val (.int (p1).toInt8.toInt32), .unset, .unset, .unset]) X0 hx (hb hby at_11) rfl rfl ?_
    refine own_iloadN (n := 14) X0 hx (hb hby at_13) rfl rfl ?_
    refine own_i2b (n := 15) X0 hx (hb hby at_14) rfl rfl ?_
    refine own_istore (n := 17) (l' := #[.val (.int p0), .val (.int p1), .val (.int p2), .val (.int p3), .val (.int (3 : Int32)), .val (.int (p0).toInt8.toInt32), .val (.int (p1).toInt8.toInt32), .val (.int (p2).toInt8.toInt32), .unset, .unset]) X0 hx (hb hby at_15) rfl rfl ?_
    obtain ⟨q0, hq0⟩ : ∃ z, z = (p0).toInt8.toInt32 := ⟨_, rfl⟩
    rw [← hq0]
    have hB0 : own_byte q0 := hq0 ▸ own_bytes p0
    have hN0 : (q0).toInt8.toInt32 = q0 := by rw [hq0]; exact own_again p0
    obtain ⟨q1, hq1⟩ : ∃ z, z = (p1).toInt8.toInt32 := ⟨_, rfl⟩
    rw [← hq1]
    have hB1 : own_byte q1 := hq1 ▸ own_bytes p1
    have hN1 : (q1).toInt8.toInt32 = q1 := by rw [hq1]; exact own_again p1
    obtain ⟨q2, hq2⟩ : ∃ z, z = (p2).toInt8.toInt32 := ⟨_, rfl⟩
    rw [← hq2]
    have hB2 : own_byte q2 := hq2 ▸ own_bytes p2
    have hN2 : (q2).toInt8.toInt32 = q2 := by rw [hq2]; exact own_again p2
    refine own_iload (n := 19) X0 hx (hb hby at_17) rfl rfl ?_
    refine own_ifYes (n := 33) X0 hx (hb hby at_19) (feq (by decide : ¬ ((3 : Int32) = (0 : Int32)))).2 (by decide) (by decide) ?_
    refine own_iload (n := 35) X0 hx (hb hby at_33) rfl rfl ?_
    refine own_iconst (n := 36) (z := (1 : Int32)) X0 hx (hb hby at_35) rfl rfl ?_
    refine own_icmpYes (n := 60) X0 hx (hb hby at_36) (feq (by decide : ¬ ((3 : Int32) = (1 : Int32)))).2 (by decide) (by decide) ?_
    refine own_iload (n := 62) X0 hx (hb hby at_60) rfl rfl ?_
    refine own_iconst (n := 63) (z := (2 : Int32)) X0 hx (hb hby at_62) rfl rfl ?_
    refine own_icmpYes (n := 109) X0 hx (hb hby at_63) (feq (by decide : ¬ ((3 : Int32) = (2 : Int32)))).2 (by decide) (by decide) ?_
    refine own_iconst (n := 110) (z := (3 : Int32)) X0 hx (hb hby at_109) rfl rfl ?_
    refine own_newA (n := 112) X0 hx hZ own_an_byte (ww0 hw) e0 (hb hby at_110) (by decide) (cap := 3) (by decide) (by decide) (by decide) (by decide) rfl ?_
    intro T35 h35 k35 b35 g35 X35 e35 E35 A35 B35
    have g_b35 : n0 ≤ b35 := Nat.le_trans Z0 (Nat.le_of_eq g35.symm)
    have ne_t_b35 : t ≠ b35 := own_ne VT.lt g35
    have S_36 := S0.ext E35
    have A_37 := VT.ext E35
    have Z_38 : n0 ≤ h35.size := Nat.le_trans Z0 E35.1
    have V35 : Arv Z h35 b35 k35 .byte (3 : Int32) [(.int (0 : Int32)), (.int (0 : Int32)), (.int (0 : Int32))] (.int (0 : Int32)) := (Arv.new A35 (by decide)).pad (pad_rep [] (.int (0 : Int32)) 3)
    refine own_astore (n := 114) (l' := #[.val (.int p0), .val (.int p1), .val (.int p2), .val (.int p3), .val (.int (3 : Int32)), .val (.int q0), .val (.int q1), .val (.int q2), .val (.ref b35), .unset]) X35 hx (hb hby at_112) rfl rfl rfl ?_
    refine own_aload (n := 116) X35 hx (hb hby at_114) rfl rfl rfl ?_
    refine own_iconst (n := 117) (z := (0 : Int32)) X35 hx (hb hby at_116) rfl rfl ?_
    refine own_iload (n := 119) X35 hx (hb hby at_117) rfl rfl ?_
    refine own_st_bastore (n := 120) X35 hx hZ e35 V35 ⟨by decide, by decide⟩ 0 rfl (Nat.le_of_ble_eq_true rfl) (hb hby at_119) rfl ?_
    intro T39 h39 X39 e39 W39 V39q
    rw [hN0] at V39q
    have V39 : Arv Z h39 b35 k35 .byte (3 : Int32) [(.int q0), (.int (0 : Int32)), (.int (0 : Int32))] (.int (0 : Int32)) := V39q
    have N39 := Fr.snoc X39 N0 g_b35
    have S_40 := S_36.wr W39
    have A_41 := A_37.other W39 ne_t_b35
    have Z_42 : n0 ≤ h39.size := by rw [W39.size]; exact Z_38
    refine own_aload (n := 122) X39 hx (hb hby at_120) rfl rfl rfl ?_
    refine own_iconst (n := 123) (z := (1 : Int32)) X39 hx (hb hby at_122) rfl rfl ?_
    refine own_iload (n := 125) X39 hx (hb hby at_123) rfl rfl ?_
    refine own_st_bastore (n := 126) X39 hx hZ e39 V39 ⟨by decide, by decide⟩ 1 rfl (Nat.le_of_ble_eq_true rfl) (hb hby at_125) rfl ?_
    intro T43 h43 X43 e43 W43 V43q
    rw [hN1] at V43q
    have V43 : Arv Z h43 b35 k35 .byte (3 : Int32) [(.int q0), (.int q1), (.int (0 : Int32))] (.int (0 : Int32)) := V43q
    have N43 := Fr.snoc X43 N39 g_b35
    have S_44 := S_40.wr W43
    have A_45 := A_41.other W43 ne_t_b35
    have Z_46 : n0 ≤ h43.size := by rw [W43.size]; exact Z_42
    refine own_aload (n := 128) X43 hx (hb hby at_126) rfl rfl rfl ?_
    refine own_iconst (n := 129) (z := (2 : Int32)) X43 hx (hb hby at_128) rfl rfl ?_
    refine own_iload (n := 131) X43 hx (hb hby at_129) rfl rfl ?_
    refine own_st_bastore (n := 132) X43 hx hZ e43 V43 ⟨by decide, by decide⟩ 2 rfl (Nat.le_of_ble_eq_true rfl) (hb hby at_131) rfl ?_
    intro T47 h47 X47 e47 W47 V47q
    rw [hN2] at V47q
    have V47 : Arv Z h47 b35 k35 .byte (3 : Int32) [(.int q0), (.int q1), (.int q2)] (.int (0 : Int32)) := V47q
    have N47 := Fr.snoc X47 N43 g_b35
    have S_48 := S_44.wr W47
    have A_49 := A_45.other W47 ne_t_b35
    have Z_50 : n0 ≤ h47.size := by rw [W47.size]; exact Z_46
    refine own_iload (n := 134) X47 hx (hb hby at_132) rfl rfl ?_
    refine own_S (n := 137) (argsL := [(.int q0)]) (rest := []) X47 hx hZ hown (own_rmK l Z a0 hw q0 h47 n0 Z_50) (ww1 hw) (ww2 hw) (ww3 hw) (ww4 hw) (by decide) e47 (by rw [hml]; rfl) (lenOf own_pd1 rfl) rfl (hb hby at_134) (Nat.le_of_ble_eq_true rfl) (Nat.le_of_ble_eq_true rfl) (Nat.le_of_ble_eq_true rfl) (Nat.le_of_ble_eq_true rfl) rfl ?_
    rintro v51 T51 L51 X51 ⟨rfl, Nq51, eq51⟩
    have N51 := Fr.app N47 Nq51
    change own_G p e below _ _ (mkF m 137 _ [(.int (own_kept q0))])
    by_cases hc137_52 : (own_kept q0) = (0 : Int32)
    · skip
      refine own_ifYes (n := 160) X51 hx (hb hby at_137) (teq hc137_52).1 (by decide) (by decide) ?_
      refine own_iconst (n := 161) (z := (0 : Int32)) X51 hx (hb hby at_160) rfl rfl ?_
      refine own_istore (n := 163) (l' := #[.val (.int p0), .val (.int p1), .val (.int p2), .val (.int p3), .val (.int (3 : Int32)), .val (.int q0), .val (.int q1), .val (.int q2), .val (.ref b35), .val (.int (0 : Int32))]) X51 hx (hb hby at_161) rfl rfl ?_
      refine own_aload (n := 165) X51 hx (hb hby at_163) rfl rfl rfl ?_
      refine own_S (n := 168) (argsL := [(.ref b35)]) (rest := []) X51 hx hZ hown (own_rmA3 l Z a0 hw b35 k35 q0 q1 q2 t kt vt h47 n0 Z_50 V47 S_48 A_49 htab) (ww5 hw) (ww6 hw) (ww7 hw) (ww8 hw) (by decide) eq51 (by rw [hml]; rfl) (lenOf own_pd0 rfl) rfl (hb hby at_165) (Nat.le_of_ble_eq_true rfl) (Nat.le_of_ble_eq_true rfl) (Nat.le_of_ble_eq_true rfl) (Nat.le_of_ble_eq_true rfl) rfl ?_
      rintro v53 T53 L53 X53 ⟨rfl, Nq53, eq53⟩
      have N53 := Fr.app N51 Nq53
      change own_G p e below _ _ (mkF m 168 _ [(.int (if own_tab (q0 &&& (255 : Int32)) = (0 : Int32) then (0 : Int32) else (if own_tab (q1 &&& (255 : Int32)) = (0 : Int32) then (0 : Int32) else (if own_tab (q2 &&& (255 : Int32)) = (0 : Int32) then (0 : Int32) else (1 : Int32)))))])
      refine own_iload (n := 170) X53 hx (hb hby at_168) rfl rfl ?_
      refine own_icmpNo (n := 173) X53 hx (hb hby at_170) (teq (by simp only [own_tk _ hB0, own_tk _ hB1, own_tk _ hB2]; first | exact own_kk _ | simp [hc137_52] : (if own_tab (q0 &&& (255 : Int32)) = (0 : Int32) then (0 : Int32) else (if own_tab (q1 &&& (255 : Int32)) = (0 : Int32) then (0 : Int32) else (if own_tab (q2 &&& (255 : Int32)) = (0 : Int32) then (0 : Int32) else (1 : Int32)))) = (0 : Int32))).2 rfl ?_
      refine own_iconst (n := 174) (z := (1 : Int32)) X53 hx (hb hby at_173) rfl rfl ?_
      refine own_goto (n := 178) X53 hx (hb hby at_174) (by decide) (by decide) ?_
      refine own_retZ X53 hx hlk hret (by simp) eq53 (w := (1 : Int32)) rfl (hb hby at_178) (by decide) (by decide) ?_
      exact ⟨rfl, N53⟩
    · skip
      refine own_ifNo (n := 140) X51 hx (hb hby at_137) (feq hc137_52).1 rfl ?_
      refine own_iload (n := 142) X51 hx (hb hby at_140) rfl rfl ?_
      refine own_S (n := 145) (argsL := [(.int q1)]) (rest := []) X51 hx hZ hown (own_rmK l Z a0 hw q1 h47 n0 Z_50) (ww1 hw) (ww2 hw) (ww3 hw) (ww4 hw) (by decide) eq51 (by rw [hml]; rfl) (lenOf own_pd1 rfl) rfl (hb hby at_142) (Nat.le_of_ble_eq_true rfl) (Nat.le_of_ble_eq_true rfl) (Nat.le_of_ble_eq_true rfl) (Nat.le_of_ble_eq_true rfl) rfl ?_
      rintro v54 T54 L54 X54 ⟨rfl, Nq54, eq54⟩
      have N54 := Fr.app N51 Nq54
      change own_G p e below _ _ (mkF m 145 _ [(.int (own_kept q1))])
      by_cases hc145_55 : (own_kept q1) = (0 : Int32)
      · skip
        refine own_ifYes (n := 160) X54 hx (hb hby at_145) (teq hc145_55).1 (by decide) (by decide) ?_
        refine own_iconst (n := 161) (z := (0 : Int32)) X54 hx (hb hby at_160) rfl rfl ?_
        refine own_istore (n := 163) (l' := #[.val (.int p0), .val (.int p1), .val (.int p2), .val (.int p3), .val (.int (3 : Int32)), .val (.int q0), .val (.int q1), .val (.int q2), .val (.ref b35), .val (.int (0 : Int32))]) X54 hx (hb hby at_161) rfl rfl ?_
        refine own_aload (n := 165) X54 hx (hb hby at_163) rfl rfl rfl ?_
        refine own_S (n := 168) (argsL := [(.ref b35)]) (rest := []) X54 hx hZ hown (own_rmA3 l Z a0 hw b35 k35 q0 q1 q2 t kt vt h47 n0 Z_50 V47 S_48 A_49 htab) (ww5 hw) (ww6 hw) (ww7 hw) (ww8 hw) (by decide) eq54 (by rw [hml]; rfl) (lenOf own_pd0 rfl) rfl (hb hby at_165) (Nat.le_of_ble_eq_true rfl) (Nat.le_of_ble_eq_true rfl) (Nat.le_of_ble_eq_true rfl) (Nat.le_of_ble_eq_true rfl) rfl ?_
        rintro v56 T56 L56 X56 ⟨rfl, Nq56, eq56⟩
        have N56 := Fr.app N54 Nq56
        change own_G p e below _ _ (mkF m 168 _ [(.int (if own_tab (q0 &&& (255 : Int32)) = (0 : Int32) then (0 : Int32) else (if own_tab (q1 &&& (255 : Int32)) = (0 : Int32) then (0 : Int32) else (if own_tab (q2 &&& (255 : Int32)) = (0 : Int32) then (0 : Int32) else (1 : Int32)))))])
        refine own_iload (n := 170) X56 hx (hb hby at_168) rfl rfl ?_
        refine own_icmpNo (n := 173) X56 hx (hb hby at_170) (teq (by simp only [own_tk _ hB0, own_tk _ hB1, own_tk _ hB2]; first | exact own_kk _ | simp [hc137_52, hc145_55] : (if own_tab (q0 &&& (255 : Int32)) = (0 : Int32) then (0 : Int32) else (if own_tab (q1 &&& (255 : Int32)) = (0 : Int32) then (0 : Int32) else (if own_tab (q2 &&& (255 : Int32)) = (0 : Int32) then (0 : Int32) else (1 : Int32)))) = (0 : Int32))).2 rfl ?_
        refine own_iconst (n := 174) (z := (1 : Int32)) X56 hx (hb hby at_173) rfl rfl ?_
        refine own_goto (n := 178) X56 hx (hb hby at_174) (by decide) (by decide) ?_
        refine own_retZ X56 hx hlk hret (by simp) eq56 (w := (1 : Int32)) rfl (hb hby at_178) (by decide) (by decide) ?_
        exact ⟨rfl, N56⟩
      · skip
        refine own_ifNo (n := 148) X54 hx (hb hby at_145) (feq hc145_55).1 rfl ?_
        refine own_iload (n := 150) X54 hx (hb hby at_148) rfl rfl ?_
        refine own_S (n := 153) (argsL := [(.int q2)]) (rest := []) X54 hx hZ hown (own_rmK l Z a0 hw q2 h47 n0 Z_50) (ww1 hw) (ww2 hw) (ww3 hw) (ww4 hw) (by decide) eq54 (by rw [hml]; rfl) (lenOf own_pd1 rfl) rfl (hb hby at_150) (Nat.le_of_ble_eq_true rfl) (Nat.le_of_ble_eq_true rfl) (Nat.le_of_ble_eq_true rfl) (Nat.le_of_ble_eq_true rfl) rfl ?_
        rintro v57 T57 L57 X57 ⟨rfl, Nq57, eq57⟩
        have N57 := Fr.app N54 Nq57
        change own_G p e below _ _ (mkF m 153 _ [(.int (own_kept q2))])
        by_cases hc153_58 : (own_kept q2) = (0 : Int32)
        · skip
          refine own_ifYes (n := 160) X57 hx (hb hby at_153) (teq hc153_58).1 (by decide) (by decide) ?_
          refine own_iconst (n := 161) (z := (0 : Int32)) X57 hx (hb hby at_160) rfl rfl ?_
          refine own_istore (n := 163) (l' := #[.val (.int p0), .val (.int p1), .val (.int p2), .val (.int p3), .val (.int (3 : Int32)), .val (.int q0), .val (.int q1), .val (.int q2), .val (.ref b35), .val (.int (0 : Int32))]) X57 hx (hb hby at_161) rfl rfl ?_
          refine own_aload (n := 165) X57 hx (hb hby at_163) rfl rfl rfl ?_
          refine own_S (n := 168) (argsL := [(.ref b35)]) (rest := []) X57 hx hZ hown (own_rmA3 l Z a0 hw b35 k35 q0 q1 q2 t kt vt h47 n0 Z_50 V47 S_48 A_49 htab) (ww5 hw) (ww6 hw) (ww7 hw) (ww8 hw) (by decide) eq57 (by rw [hml]; rfl) (lenOf own_pd0 rfl) rfl (hb hby at_165) (Nat.le_of_ble_eq_true rfl) (Nat.le_of_ble_eq_true rfl) (Nat.le_of_ble_eq_true rfl) (Nat.le_of_ble_eq_true rfl) rfl ?_
          rintro v59 T59 L59 X59 ⟨rfl, Nq59, eq59⟩
          have N59 := Fr.app N57 Nq59
          change own_G p e below _ _ (mkF m 168 _ [(.int (if own_tab (q0 &&& (255 : Int32)) = (0 : Int32) then (0 : Int32) else (if own_tab (q1 &&& (255 : Int32)) = (0 : Int32) then (0 : Int32) else (if own_tab (q2 &&& (255 : Int32)) = (0 : Int32) then (0 : Int32) else (1 : Int32)))))])
          refine own_iload (n := 170) X59 hx (hb hby at_168) rfl rfl ?_
          refine own_icmpNo (n := 173) X59 hx (hb hby at_170) (teq (by simp only [own_tk _ hB0, own_tk _ hB1, own_tk _ hB2]; first | exact own_kk _ | simp [hc137_52, hc145_55, hc153_58] : (if own_tab (q0 &&& (255 : Int32)) = (0 : Int32) then (0 : Int32) else (if own_tab (q1 &&& (255 : Int32)) = (0 : Int32) then (0 : Int32) else (if own_tab (q2 &&& (255 : Int32)) = (0 : Int32) then (0 : Int32) else (1 : Int32)))) = (0 : Int32))).2 rfl ?_
          refine own_iconst (n := 174) (z := (1 : Int32)) X59 hx (hb hby at_173) rfl rfl ?_
          refine own_goto (n := 178) X59 hx (hb hby at_174) (by decide) (by decide) ?_
          refine own_retZ X59 hx hlk hret (by simp) eq59 (w := (1 : Int32)) rfl (hb hby at_178) (by decide) (by decide) ?_
          exact ⟨rfl, N59⟩
        · skip
          refine own_ifNo (n := 156) X57 hx (hb hby at_153) (feq hc153_58).1 rfl ?_
          refine own_iconst (n := 157) (z := (1 : Int32)) X57 hx (hb hby at_156) rfl rfl ?_
          refine own_goto (n := 161) X57 hx (hb hby at_157) (by decide) (by decide) ?_
          refine own_istore (n := 163) (l' := #[.val (.int p0), .val (.int p1), .val (.int p2), .val (.int p3), .val (.int (3 : Int32)), .val (.int q0), .val (.int q1), .val (.int q2), .val (.ref b35), .val (.int (1 : Int32))]) X57 hx (hb hby at_161) rfl rfl ?_
          refine own_aload (n := 165) X57 hx (hb hby at_163) rfl rfl rfl ?_
          refine own_S (n := 168) (argsL := [(.ref b35)]) (rest := []) X57 hx hZ hown (own_rmA3 l Z a0 hw b35 k35 q0 q1 q2 t kt vt h47 n0 Z_50 V47 S_48 A_49 htab) (ww5 hw) (ww6 hw) (ww7 hw) (ww8 hw) (by decide) eq57 (by rw [hml]; rfl) (lenOf own_pd0 rfl) rfl (hb hby at_165) (Nat.le_of_ble_eq_true rfl) (Nat.le_of_ble_eq_true rfl) (Nat.le_of_ble_eq_true rfl) (Nat.le_of_ble_eq_true rfl) rfl ?_
          rintro v60 T60 L60 X60 ⟨rfl, Nq60, eq60⟩
          have N60 := Fr.app N57 Nq60
          change own_G p e below _ _ (mkF m 168 _ [(.int (if own_tab (q0 &&& (255 : Int32)) = (0 : Int32) then (0 : Int32) else (if own_tab (q1 &&& (255 : Int32)) = (0 : Int32) then (0 : Int32) else (if own_tab (q2 &&& (255 : Int32)) = (0 : Int32) then (0 : Int32) else (1 : Int32)))))])
          refine own_iload (n := 170) X60 hx (hb hby at_168) rfl rfl ?_
          refine own_icmpNo (n := 173) X60 hx (hb hby at_170) (teq (by simp only [own_tk _ hB0, own_tk _ hB1, own_tk _ hB2]; first | exact own_kk _ | simp [hc137_52, hc145_55, hc153_58] : (if own_tab (q0 &&& (255 : Int32)) = (0 : Int32) then (0 : Int32) else (if own_tab (q1 &&& (255 : Int32)) = (0 : Int32) then (0 : Int32) else (if own_tab (q2 &&& (255 : Int32)) = (0 : Int32) then (0 : Int32) else (1 : Int32)))) = (1 : Int32))).2 rfl ?_
          refine own_iconst (n := 174) (z := (1 : Int32)) X60 hx (hb hby at_173) rfl rfl ?_
          refine own_goto (n := 178) X60 hx (hb hby at_174) (by decide) (by decide) ?_
          refine own_retZ X60 hx hlk hret (by simp) eq60 (w := (1 : Int32)) rfl (hb hby at_178) (by decide) (by decide) ?_
          exact ⟨rfl, N60⟩
theorem own_steq {args : Array Value} {s : State} {t : Term} {k : Int32} (h : (Jvm.Cond.eq t (.int k)).value args s none s [] = some true) : t.eval args s none [] s = some (.int k) := by
  cases hf : t.eval args s none [] s with
  | none => simp [Cond.value, hf] at h
  | some v => cases v <;> simp [Cond.value, Term.eval, hf] at h ⊢; exact h
theorem own_arvT {Z : State} {a : Addr} {cl : Cell} {ty : FieldType} {z : Int32} (hf : Fit Z) (A : Arr Z Z.heap a cl ty) (q : cl.slots.size < 2 ^ 31) (e : cl.slots.size.toInt32 = z) (hz : ¬ z < 0) : Arv Z Z.heap a cl.cls ty z cl.slots.toList .null := by
  have S : cl.slots.size = z.toNatClampNeg := by rw [← e]; simp only [Int32.toNatClampNeg, len_toInt q]; rfl
  have H' : Has cl cl.slots.toList .null := fun j hj => by simp [List.getD, hj]
  refine ⟨cl, A, rfl, S, hz, H', fun j hj => ?_⟩
  have e1 : (Nat.toInt32 j).toNatClampNeg = j := by simp only [Int32.toNatClampNeg, len_toInt (Nat.lt_trans hj q)]; rfl
  exact elem_fits (j := Nat.toInt32 j) hf A (idx_in hj q) (by rw [e1]; exact H' j hj)
theorem own_lenT {args : Array Value} {s : State} {t : Term} {a : Addr} {cl : Cell} {k : Int32} (ht : t.eval args s none [] s = some (.ref a)) (ha : s.arrayAt? a = some cl) (h : (Term.length t).eval args s none [] s = some (.int k)) : cl.slots.size < 2 ^ 31 ∧ cl.slots.size.toInt32 = k := by
  by_cases q : cl.slots.size < 2 ^ 31
  · rw [len_f ht ha q] at h
    exact ⟨q, by simpa using h⟩
  · simp [Term.eval, ht, ha, q] at h
/-- what the words say of the component at j, whose value is y -/
theorem own_words {args : Array Value} {s : State} {t : Term} {a : Addr} {cl : Cell} {ty : FieldType} (et : ∀ idx, t.eval args s none idx s = some (.ref a)) (A : Arr s s.heap a cl ty) {j y : Int32} (hj : ¬ (j < 0 ∨ cl.slots.size ≤ j.toNatClampNeg)) (hy : cl.slots[j.toNatClampNeg]? = some (.int y)) :
    (Term.elem t (.index 0)).eval args s none [j.toNatClampNeg] s = some (.int y) ∧ (Term.index 0).eval args s none [j.toNatClampNeg] s = some (.int j) := by
  have nn : ¬ j < 0 := fun q => hj (Or.inl q)
  exact ⟨(elem_f (et _) (idx_at nn) (A.fin (Vm.Alike.refl _)) nn).trans hy, idx_at nn⟩
theorem own_at {args : Array Value} {s : State} {t : Term} {a : Addr} {cl : Cell} {ty : FieldType} (et : ∀ idx, t.eval args s none idx s = some (.ref a)) (A : Arr s s.heap a cl ty) {j y k v : Int32} (nn : ¬ k < 0) (hy : cl.slots[j.toNatClampNeg]? = some (.int y)) (h : (Jvm.Cond.eq (.elem t (.int k)) (.int v)).value args s none s [] = some true) : j = k → y = v := by
  intro q
  subst q
  have := own_steq h
  rw [elem_f (et _) (Term.int_eval _) (A.fin (Vm.Alike.refl _)) nn, hy] at this
  simpa using this
theorem own_val {j y : Int32} (h0 : ¬ j < 0) (h1 : (10 : Int32) ≤ j ∨ y = 1) (e10 : j = 10 → y = 0) (e11 : j = 11 → y = 1) (e12 : j = 12 → y = 1) (e13 : j = 13 → y = 0) (h2 : j < 14 ∨ (34 : Int32) ≤ j ∨ y = 1) (e34 : j = 34 → y = 0) (h3 : j < 35 ∨ (44 : Int32) ≤ j ∨ y = 1) (e44 : j = 44 → y = 0) (h4 : j < 45 ∨ (92 : Int32) ≤ j ∨ y = 1) (e92 : j = 92 → y = 0)
    (h5 : j < 93 ∨ (128 : Int32) ≤ j ∨ y = 1) (h6 : j < 128 ∨ y = 0) : y = own_tab j := by
  unfold own_tab
  simp only [Int32.lt_iff_toInt_lt, Int32.le_iff_toInt_le, ← Int32.toInt_inj] at *
  have f0 : (0 : Int32).toInt = 0 := rfl
  have f1 : (1 : Int32).toInt = 1 := rfl
  have f10 : (10 : Int32).toInt = 10 := rfl
  have f11 : (11 : Int32).toInt = 11 := rfl
  have f12 : (12 : Int32).toInt = 12 := rfl
  have f13 : (13 : Int32).toInt = 13 := rfl
  have f14 : (14 : Int32).toInt = 14 := rfl
  have f34 : (34 : Int32).toInt = 34 := rfl
  have f35 : (35 : Int32).toInt = 35 := rfl
  have f44 : (44 : Int32).toInt = 44 := rfl
  have f45 : (45 : Int32).toInt = 45 := rfl
  have f92 : (92 : Int32).toInt = 92 := rfl
  have f93 : (93 : Int32).toInt = 93 := rfl
  have f128 : (128 : Int32).toInt = 128 := rfl
  split <;> omega
theorem own_or3 {P Q R : Prop} [Decidable P] [Decidable Q] [Decidable R] {args : Array Value} {first s : State} {o : Option Outcome} {idx : List Nat} {c d f : Jvm.Cond} (h1 : c.value args first o s idx = some (decide P)) (h2 : d.value args first o s idx = some (decide Q)) (h3 : f.value args first o s idx = some (decide R)) (h : (Jvm.Cond.or c (.or d f)).value args first o s idx = some true) : P ∨ Q ∨ R := by
  simp only [Cond.value, h1, h2, h3] at h
  by_cases p : P
  · exact Or.inl p
  · by_cases q : Q
    · exact Or.inr (Or.inl q)
    · right; right; simpa [p, q] using h
set_option maxRecDepth 65536 in
set_option maxHeartbeats 40000000 in
theorem comes_1 {Post : Tables → Env → Array Value → State → Outcome → State → Prop} (hpost : ∀ tb e args s v u, (limb_1_1.after args s (.returned v) u = true ∧ limb_1_2.after args s (.returned v) u = true ∧ True) → FrameEnd s (.returned v) u (Jvm.fieldLocs frame_1_writes args s ++ Jvm.arrayLocs frame_1_arrays args s ++ Jvm.staticLocs frame_1_statics s) 16 128 → Post tb e args s (.returned v) u) :
    ArmFor flags0 classFile x code maxLocals ret World_1 tables_1 room_1 Calls_1 rest_1 Pre_1 Post := by
  intro l hfl _ _ p e ha hc hk s m args below hf hA hF happ hP
  obtain ⟨hcalls, hrest, hpre⟩ := hP
  obtain ⟨-, -, -, hnamed, -, -, -, hat⟩ := (Spec.applies_iff hf).mp happ
  obtain ⟨hg, hn⟩ := and_e (Cond.before_iff.mp (show (Jvm.Cond.and given_1 narrow_1).before args s = true from hpre))
  obtain ⟨hcount, hr0⟩ := and_e hg
  obtain ⟨ha0, hr1⟩ := and_e hr0
  obtain ⟨ha1, hr2⟩ := and_e hr1
  obtain ⟨ha2, hr3⟩ := and_e hr2
  obtain ⟨w0, w1, w2, w3, rfl⟩ : ∃ w0 w1 w2 w3 : Value, args = #[w0, w1, w2, w3] := by
    have hs : args.size = 4 := by simpa [Cond.value, given_1] using hcount
    obtain ⟨L⟩ := args
    match L, hs with
    | [w0, w1, w2, w3], _ => exact ⟨w0, w1, w2, w3, rfl⟩
  have hw := fun d (hd : d ∈ tables_1) => atoms_spec (ws := Jvm.Cond.code x code maxLocals ret :: tables_1) hat d (List.mem_cons_of_mem _ hd)
  have hfit : Fit s := fun {y c} hc i hi => by
    obtain ⟨ha, rfl⟩ := Array.getElem?_eq_some_iff.mp hc
    have q := List.all_eq_true.mp ((Array.all_eq_true_iff_forall_mem.mp hF) _ (Array.getElem_mem ha)) i (List.mem_range.mpr hi)
    simpa [Array.getElem?_eq_getElem hi] using q
  obtain ⟨i0, ev0⟩ := is_v ha0
  obtain rfl : w0 = (.int i0) := Option.some.inj ev0
  obtain ⟨i1, ev1⟩ := is_v ha1
  obtain rfl : w1 = (.int i1) := Option.some.inj ev1
  obtain ⟨i2, ev2⟩ := is_v ha2
  obtain rfl : w2 = (.int i2) := Option.some.inj ev2
  obtain ⟨i3, ev3⟩ := is_v hr3
  obtain rfl : w3 = (.int i3) := Option.some.inj ev3
  obtain ⟨hn_0, hm_0⟩ := and_e hn
  obtain ⟨hn_1, hm_1⟩ := and_e hm_0
  obtain ⟨hn_2, hm_2⟩ := and_e hm_1
  obtain ⟨hn_3, hm_3⟩ := and_e hm_2
  obtain ⟨hn_4, hm_4⟩ := and_e hm_3
  obtain ⟨hn_5, hm_5⟩ := and_e hm_4
  obtain ⟨hn_6, hm_6⟩ := and_e hm_5
  obtain ⟨hn_7, hm_7⟩ := and_e hm_6
  obtain ⟨hn_8, hm_8⟩ := and_e hm_7
  obtain ⟨hn_9, hm_9⟩ := and_e hm_8
  obtain ⟨hn_10, hm_10⟩ := and_e hm_9
  obtain ⟨hn_11, hm_11⟩ := and_e hm_10
  obtain ⟨hn_12, hm_12⟩ := and_e hm_11
  obtain ⟨hn_13, hm_13⟩ := and_e hm_12
  have hn_14 := hm_13
  obtain ⟨t, evt⟩ := arr_v hn_0
  have et : ∀ idx, (Jvm.Term.static "com/example/granary/granary/fix/Outbox" "KEPT_AS_IS" "[Z").eval (#[.int i0, .int i1, .int i2, .int i3] : Array Value) s none idx s = some (.ref t) := fun idx => evt
  obtain ⟨cT, AT⟩ := Arr.start evt hn_0
  obtain ⟨q31, eT⟩ := own_lenT evt (AT.fin (Vm.Alike.refl _)) (own_steq hn_1)
  have VT := own_arvT hfit AT q31 eT (by decide)
  have S0 := Sta.start evt (Or.inr ⟨(ww7 hw), (ww10 hw)⟩)
  have htab : ∀ j : Int32, ¬ j < 0 → j < (256 : Int32) → cT.slots.toList.getD j.toNatClampNeg .null = .int (own_tab j) := by
    intro j j0 j1
    have Sz : cT.slots.size = (256 : Int32).toNatClampNeg := by rw [← eT]; simp only [Int32.toNatClampNeg, len_toInt q31]; rfl
    have hj : ¬ (j < 0 ∨ cT.slots.size ≤ j.toNatClampNeg) := inb_of Sz ⟨j0, j1⟩
    obtain ⟨v, v1, v2⟩ := elem_fit hfit AT hj
    obtain ⟨y, rfl⟩ := fit_I v2 (Or.inr (Or.inl rfl))
    obtain ⟨wy, wj⟩ := own_words et AT hj v1
    have hk : j.toNatClampNeg < cT.slots.size := Nat.lt_of_not_le fun q => hj (Or.inr q)
    have al := fun {c : Jvm.Cond} (h : (Jvm.Cond.all (Jvm.Term.static "com/example/granary/granary/fix/Outbox" "KEPT_AS_IS" "[Z") c).value (#[.int i0, .int i1, .int i2, .int i3] : Array Value) s none s [] = some true) => Cond.all_elim evt (AT.fin (Vm.Alike.refl _)) h j.toNatClampNeg hk
    have a1 := or_e2 (Cond.le_ints (Term.int_eval _) wj) (Cond.eq_ints wy (Term.int_eval _)) (al hn_2)
    have e10 := own_at et AT (j := j) (by decide) v1 hn_3
    have e11 := own_at et AT (j := j) (by decide) v1 hn_4
    have e12 := own_at et AT (j := j) (by decide) v1 hn_5
    have e13 := own_at et AT (j := j) (by decide) v1 hn_6
    have a2 := own_or3 (Cond.lt_ints wj (Term.int_eval _)) (Cond.le_ints (Term.int_eval _) wj) (Cond.eq_ints wy (Term.int_eval _)) (al hn_7)
    have e34 := own_at et AT (j := j) (by decide) v1 hn_8
    have a3 := own_or3 (Cond.lt_ints wj (Term.int_eval _)) (Cond.le_ints (Term.int_eval _) wj) (Cond.eq_ints wy (Term.int_eval _)) (al hn_9)
    have e44 := own_at et AT (j := j) (by decide) v1 hn_10
    have a4 := own_or3 (Cond.lt_ints wj (Term.int_eval _)) (Cond.le_ints (Term.int_eval _) wj) (Cond.eq_ints wy (Term.int_eval _)) (al hn_11)
    have e92 := own_at et AT (j := j) (by decide) v1 hn_12
    have a5 := own_or3 (Cond.lt_ints wj (Term.int_eval _)) (Cond.le_ints (Term.int_eval _) wj) (Cond.eq_ints wy (Term.int_eval _)) (al hn_13)
    have a6 := or_e2 (Cond.lt_ints wj (Term.int_eval _)) (Cond.eq_ints wy (Term.int_eval _)) (al hn_14)
    have hv := own_val j0 a1 e10 e11 e12 e13 a2 e34 a3 e44 a4 e92 a5 a6
    have : cT.slots.toList.getD j.toNatClampNeg .null = .int y := by
      rw [List.getD_eq_getElem?_getD, Array.getElem?_toList, v1]; rfl
    rw [this, hv]
  obtain ⟨n, o, h1, h2, h3, _, L, rfl, ⟨rfl, N⟩, hq⟩ := own_rm0 l s _ hw i0 i1 i2 i3 t cT.cls cT.slots.toList s.heap s.heap.size (Nat.le_refl _) S0 VT htab p e ha hc hk s m _ below hf ((Spec.applies_iff_loose hf).mp happ).1 ⟨rfl, State.Warmed39.refl s, rfl⟩ trivial
  refine ⟨n, _, h1, h2, h3, hpost _ _ _ _ _ _ ⟨Cond.after_iff.mpr rfl, Cond.after_iff.mpr (eq_i res_at (Term.int_eval (1)) rfl), trivial⟩ ⟨hq.1, hq.2.1, (hq.2.2.sift fun y hy => Or.inr (N y hy)).mono (by decide) (by decide)⟩⟩
theorem main_1_1 : Claimed_1_1 := comes_1 fun _ _ _ _ _ _ h hF => ⟨h.1, hF⟩
theorem main_1_2 : Claimed_1_2 := comes_1 fun _ _ _ _ _ _ h hF => ⟨h.2.1, hF⟩
end Jvm.Pilot.@@N@@
namespace Jvm.Pilot.@@N@@
open Jvm Jvm.ClassFile Sem Op Lib Jvm.Free Jvm.Stand Jvm.Pilot.@@N@@.Jvm.D
/-! MADE BY PROGRAM (witnessworld.py) out of the Statement's table words and the real class files: 11 classes; the members and pool entries that the words name. The judged class is class 1, her method 1. -/
namespace start1
open Jvm.ClassFile
def u (s : String) : CpInfo := .utf8 (stringToUtf16 s)
/-- a pool by its gaps: so many unusable entries, then the entry; so many at the end -/
def gap : Nat → List CpInfo → List CpInfo
  | 0, r => r
  | n + 1, r => .unusable :: gap n r
def poolList (es : List (Nat × CpInfo)) (last : Nat) : List CpInfo := es.foldr (fun e r => gap e.1 (e.2 :: r)) (gap last [])
def pool (es : List (Nat × CpInfo)) (last : Nat) : Array CpInfo := ⟨poolList es last⟩
def fileOf (pool : Array CpInfo) (this : Nat) (attrs : Array Attribute := #[]) (ms : Array MethodInfo := #[]) (fl : Nat := 33) (sup : Nat := 0) (ifs : Array Nat := #[]) (fds : Array FieldInfo := #[]) : ClassFile where
  minorVersion := 0
  majorVersion := 65
  constantPool := pool
  accessFlags := fl
  thisClass := this
  superClass := sup
  interfaces := ifs
  fields := fds
  methods := ms
  attributes := attrs
def plain (name : String) (sup : Option ClassId) : Class where
  name := name
  kind := .ordinary
  loader := none
  accessFlags := 33
  super := sup
  interfaces := #[]
  cf := none
  fields := #[]
  methods := #[]
  instanceTypes := #[]
  staticTypes := #[]
  resolved := #[]
  callSites := []
  init := .initialized
  statics := none
  mirror := none

def pool0 : Array CpInfo := pool [(5, u "<init>"), (0, u "()V"), (1, .class_ 10), (1, u "java/lang/Object")] 113

def k0m0 : Method := { name := "<init>", desc := "()V", sig := { parameters := [], returnType := none }, accessFlags := 1, code := none }
/-- java/lang/Object -/
def k0 : Class := { plain "java/lang/Object" none with
  accessFlags := 33
  interfaces := #[]
  cf := some (fileOf pool0 8 #[] #[{ accessFlags := 1, nameIndex := 5, descriptorIndex := 6, attributes := #[] }] 33 0 #[] #[])
  fields := #[]
  methods := #[k0m0]
  instanceTypes := #[]
  staticTypes := #[]
  resolved := Array.replicate 124 none
  statics := none }

def pool1 : Array CpInfo := pool [(2, .class_ 4), (1, u "java/lang/Object"), (0, u "<init>"), (0, u "()V"), (0, .methodref 8 9), (0, .class_ 10), (0, .nameAndType 11 12), (0, u "com/example/granary/granary/fix/OutboxKeptAsIsPinLaw"), (0, u "kept"), (0, u "(B)Z"), (0, .methodref 14 15), (0, .class_ 16), (0, .nameAndType 17 18), (0, u "com/example/granary/granary/fix/Outbox"), (0, u "keptAsIs"), (0, u "([B)Z"), (2, u "law"), (0, u "(IIII)Z")] 5

def k1m0 : Method := { name := "<init>", desc := "()V", sig := { parameters := [], returnType := none }, accessFlags := 1, code := none }
def k1c1 : Code := { maxStack := 3, maxLocals := 10, code := code, exceptionTable := #[], attributes := #[] }
def k1m1 : Method := { name := "law", desc := "(IIII)Z", sig := { parameters := [.int, .int, .int, .int], returnType := some .boolean }, accessFlags := 9, code := some k1c1 }
def k1c2 : Code := { maxStack := 2, maxLocals := 1, code := method_3_code, exceptionTable := #[], attributes := #[] }
def k1m2 : Method := { name := "kept", desc := "(B)Z", sig := { parameters := [.byte], returnType := some .boolean }, accessFlags := 10, code := some k1c2 }
/-- com/example/granary/granary/fix/OutboxKeptAsIsPinLaw -/
def k1 : Class := { plain "com/example/granary/granary/fix/OutboxKeptAsIsPinLaw" (some 0) with
  accessFlags := 49
  interfaces := #[]
  cf := some (fileOf pool1 8 #[] #[{ accessFlags := 1, nameIndex := 5, descriptorIndex := 6, attributes := #[] }, { accessFlags := 9, nameIndex := 21, descriptorIndex := 22, attributes := #[] }, { accessFlags := 10, nameIndex := 11, descriptorIndex := 12, attributes := #[] }] 49 2 #[] #[])
  fields := #[]
  methods := #[k1m0, k1m1, k1m2]
  instanceTypes := #[]
  staticTypes := #[]
  resolved := Array.replicate 28 none
  statics := none }

def pool2 : Array CpInfo := pool [(2, .class_ 4), (1, u "java/lang/Object"), (0, u "<init>"), (0, u "()V"), (0, .class_ 8), (0, u "com/example/granary/granary/fix/Outbox$Noted"), (2, .class_ 13), (1, u "com/example/granary/granary/fix/Outbox"), (0, u "noted"), (0, u "Lcom/example/granary/granary/fix/Outbox$Noted;"), (2, u "bytes"), (0, u "[B"), (4, u "sessions"), (0, u "[Lcom/example/granary/granary/fix/FixSession;"), (4, u "types"), (0, u "[Ljava/lang/String;"), (2, u "ends"), (0, u "[I"), (2, u "keptAsIs"), (0, u "[Z"), (2, u "logons"), (6, u "count"), (0, u "I"), (8, .fieldref 11 60), (0, .nameAndType 61 39), (0, u "KEPT_AS_IS"), (21, u "length"), (99, u "TEXT"), (0, u "B"), (2, u "NUMBER"), (1, u "MARKED"), (1, u "WRITTEN"), (1, u "KEPT"), (10, u "([B)Z")] 15

def k2m0 : Method := { name := "<init>", desc := "()V", sig := { parameters := [], returnType := none }, accessFlags := 0, code := none }
def k2c1 : Code := { maxStack := 3, maxLocals := 6, code := prog_136_method_7_code, exceptionTable := #[], attributes := #[] }
def k2m1 : Method := { name := "keptAsIs", desc := "([B)Z", sig := { parameters := [(.array .byte)], returnType := some .boolean }, accessFlags := 8, code := some k2c1 }
/-- com/example/granary/granary/fix/Outbox -/
def k2 : Class := { plain "com/example/granary/granary/fix/Outbox" (some 0) with
  accessFlags := 48
  interfaces := #[]
  cf := some (fileOf pool2 11 #[.nestMembers #[7]] #[{ accessFlags := 0, nameIndex := 5, descriptorIndex := 6, attributes := #[] }, { accessFlags := 8, nameIndex := 38, descriptorIndex := 204, attributes := #[] }] 48 2 #[] #[{ accessFlags := 26, nameIndex := 183, descriptorIndex := 184, attributes := #[] }, { accessFlags := 26, nameIndex := 187, descriptorIndex := 184, attributes := #[] }, { accessFlags := 26, nameIndex := 189, descriptorIndex := 184, attributes := #[] }, { accessFlags := 26, nameIndex := 191, descriptorIndex := 184, attributes := #[] }, { accessFlags := 26, nameIndex := 61, descriptorIndex := 39, attributes := #[] }, { accessFlags := 26, nameIndex := 193, descriptorIndex := 50, attributes := #[] }, { accessFlags := 18, nameIndex := 14, descriptorIndex := 15, attributes := #[] }, { accessFlags := 2, nameIndex := 18, descriptorIndex := 19, attributes := #[] }, { accessFlags := 2, nameIndex := 83, descriptorIndex := 50, attributes := #[] }, { accessFlags := 2, nameIndex := 24, descriptorIndex := 25, attributes := #[] }, { accessFlags := 2, nameIndex := 30, descriptorIndex := 31, attributes := #[] }, { accessFlags := 2, nameIndex := 34, descriptorIndex := 35, attributes := #[] }, { accessFlags := 2, nameIndex := 38, descriptorIndex := 39, attributes := #[] }, { accessFlags := 2, nameIndex := 42, descriptorIndex := 35, attributes := #[] }, { accessFlags := 2, nameIndex := 49, descriptorIndex := 50, attributes := #[] }])
  fields := #[{ name := "TEXT", type := .byte, accessFlags := 26, slot := 0, constantValue := 0 }, { name := "NUMBER", type := .byte, accessFlags := 26, slot := 1, constantValue := 0 }, { name := "MARKED", type := .byte, accessFlags := 26, slot := 2, constantValue := 0 }, { name := "WRITTEN", type := .byte, accessFlags := 26, slot := 3, constantValue := 0 }, { name := "KEPT_AS_IS", type := (.array .boolean), accessFlags := 26, slot := 4, constantValue := 0 }, { name := "KEPT", type := .int, accessFlags := 26, slot := 5, constantValue := 0 }, { name := "noted", type := (.object "com/example/granary/granary/fix/Outbox$Noted"), accessFlags := 18, slot := 0, constantValue := 0 }, { name := "bytes", type := (.array .byte), accessFlags := 2, slot := 1, constantValue := 0 }, { name := "length", type := .int, accessFlags := 2, slot := 2, constantValue := 0 }, { name := "sessions", type := (.array (.object "com/example/granary/granary/fix/FixSession")), accessFlags := 2, slot := 3, constantValue := 0 }, { name := "types", type := (.array (.object "java/lang/String")), accessFlags := 2, slot := 4, constantValue := 0 }, { name := "ends", type := (.array .int), accessFlags := 2, slot := 5, constantValue := 0 }, { name := "keptAsIs", type := (.array .boolean), accessFlags := 2, slot := 6, constantValue := 0 }, { name := "logons", type := (.array .int), accessFlags := 2, slot := 7, constantValue := 0 }, { name := "count", type := .int, accessFlags := 2, slot := 8, constantValue := 0 }]
  methods := #[k2m0, k2m1]
  instanceTypes := #[(.object "com/example/granary/granary/fix/Outbox$Noted"), (.array .byte), .int, (.array (.object "com/example/granary/granary/fix/FixSession")), (.array (.object "java/lang/String")), (.array .int), (.array .boolean), (.array .int), .int]
  staticTypes := #[.byte, .byte, .byte, .byte, (.array .boolean), .int]
  resolved := Array.replicate 220 none
  statics := some 0 }

def pool3 : Array CpInfo := pool [(1, u "java/lang/Cloneable"), (0, .class_ 1), (0, u "java/lang/Object"), (0, .class_ 3)] 3

/-- java/lang/Cloneable -/
def k3 : Class := { plain "java/lang/Cloneable" (some 0) with
  accessFlags := 1537
  interfaces := #[]
  cf := some (fileOf pool3 2 #[] #[] 1537 4 #[] #[])
  fields := #[]
  methods := #[]
  instanceTypes := #[]
  staticTypes := #[]
  resolved := Array.replicate 8 none
  statics := none }

def pool4 : Array CpInfo := pool [(1, u "java/io/Serializable"), (0, .class_ 1), (0, u "java/lang/Object"), (0, .class_ 3)] 3

/-- java/io/Serializable -/
def k4 : Class := { plain "java/io/Serializable" (some 0) with
  accessFlags := 1537
  interfaces := #[]
  cf := some (fileOf pool4 2 #[] #[] 1537 4 #[] #[])
  fields := #[]
  methods := #[]
  instanceTypes := #[]
  staticTypes := #[]
  resolved := Array.replicate 8 none
  statics := none }

/-- the primitive boolean -/
def k5 : Class := { plain "boolean" none with kind := .primitive 'Z', accessFlags := 0x411 }
/-- [Z -/
def k6 : Class := { plain "[Z" (some 0) with kind := .array 5 .boolean, interfaces := #[3, 4], accessFlags := 1041 }

/-- the primitive byte -/
def k7 : Class := { plain "byte" none with kind := .primitive 'B', accessFlags := 0x411 }
/-- [B -/
def k8 : Class := { plain "[B" (some 0) with kind := .array 7 .byte, interfaces := #[3, 4], accessFlags := 1041 }

/-- the primitive int -/
def k9 : Class := { plain "int" none with kind := .primitive 'I', accessFlags := 0x411 }
/-- [I -/
def k10 : Class := { plain "[I" (some 0) with kind := .array 9 .int, interfaces := #[3, 4], accessFlags := 1041 }

def heap : Heap := #[{ cls := 2, slots := #[.int 0, .int 0, .int 0, .int 0, .ref 1, .int 0], vm := .statics 2 },
  { cls := 6, slots := #[.int 1, .int 1, .int 1, .int 1, .int 1, .int 1, .int 1, .int 1, .int 1, .int 1, .int 0, .int 1, .int 1, .int 0, .int 1, .int 1, .int 1, .int 1, .int 1, .int 1, .int 1, .int 1, .int 1, .int 1, .int 1, .int 1, .int 1, .int 1, .int 1, .int 1, .int 1, .int 1, .int 1, .int 1, .int 0, .int 1, .int 1, .int 1, .int 1, .int 1, .int 1, .int 1, .int 1, .int 1, .int 0, .int 1, .int 1, .int 1, .int 1, .int 1, .int 1, .int 1, .int 1, .int 1, .int 1, .int 1, .int 1, .int 1, .int 1, .int 1, .int 1, .int 1, .int 1, .int 1, .int 1, .int 1, .int 1, .int 1, .int 1, .int 1, .int 1, .int 1, .int 1, .int 1, .int 1, .int 1, .int 1, .int 1, .int 1, .int 1, .int 1, .int 1, .int 1, .int 1, .int 1, .int 1, .int 1, .int 1, .int 1, .int 1, .int 1, .int 1, .int 0, .int 1, .int 1, .int 1, .int 1, .int 1, .int 1, .int 1, .int 1, .int 1, .int 1, .int 1, .int 1, .int 1, .int 1, .int 1, .int 1, .int 1, .int 1, .int 1, .int 1, .int 1, .int 1, .int 1, .int 1, .int 1, .int 1, .int 1, .int 1, .int 1, .int 1, .int 1, .int 1, .int 1, .int 1, .int 1, .int 0, .int 0, .int 0, .int 0, .int 0, .int 0, .int 0, .int 0, .int 0, .int 0, .int 0, .int 0, .int 0, .int 0, .int 0, .int 0, .int 0, .int 0, .int 0, .int 0, .int 0, .int 0, .int 0, .int 0, .int 0, .int 0, .int 0, .int 0, .int 0, .int 0, .int 0, .int 0, .int 0, .int 0, .int 0, .int 0, .int 0, .int 0, .int 0, .int 0, .int 0, .int 0, .int 0, .int 0, .int 0, .int 0, .int 0, .int 0, .int 0, .int 0, .int 0, .int 0, .int 0, .int 0, .int 0, .int 0, .int 0, .int 0, .int 0, .int 0, .int 0, .int 0, .int 0, .int 0, .int 0, .int 0, .int 0, .int 0, .int 0, .int 0, .int 0, .int 0, .int 0, .int 0, .int 0, .int 0, .int 0, .int 0, .int 0, .int 0, .int 0, .int 0, .int 0, .int 0, .int 0, .int 0, .int 0, .int 0, .int 0, .int 0, .int 0, .int 0, .int 0, .int 0, .int 0, .int 0, .int 0, .int 0, .int 0, .int 0, .int 0, .int 0, .int 0, .int 0, .int 0, .int 0, .int 0, .int 0, .int 0, .int 0, .int 0, .int 0, .int 0, .int 0, .int 0, .int 0, .int 0, .int 0, .int 0, .int 0, .int 0, .int 0, .int 0, .int 0, .int 0, .int 0, .int 0, .int 0], vm := .none }]
def classes : Array Class := #[k0, k1, k2, k3, k4, k5, k6, k7, k8, k9, k10]
def interned : List (Array UInt16 × Addr) := []
def slotsUsed : Nat := 262
def theMethod : MethodId := ⟨1, 1⟩
def args0 : Array Value := #[.int 5, .int 6, .int 7, .int 8]
def aboutOver (below : List Frame) : State where
  vm := { classes := classes, interned := interned.toArray }
  heap := heap
  slotsUsed := slotsUsed
  threads := #[{ frames := .invoking theMethod args0 :: below }]
def below0 : List Frame := [.native { method := ⟨0, 0⟩, args := #[] }]
def about1 : State := aboutOver below0
def p0 : Program := .bare "" "" ""
def e0 : Env := launch0.env 0 0 0
theorem w_frames : about1.frames = Frame.invoking theMethod args0 :: below0 := rfl
set_option maxRecDepth 65536 in
theorem w_args : argsFit about1.vm theMethod args0 = true := by decide +kernel
set_option maxRecDepth 65536 in
theorem w_heap : heapFits about1 = true := by decide +kernel
set_option maxRecDepth 65536 in
theorem w_runnable : about1.curStatus? = some .runnable := by decide +kernel
set_option maxRecDepth 65536 in
theorem w_alone : about1.alone = true := by decide +kernel
set_option maxRecDepth 65536 in
theorem w_named : about1.methodNamed? x = some theMethod := by decide +kernel
set_option maxRecDepth 65536 in
theorem w_hears : about1.hears theMethod below0 = true := by decide +kernel
set_option maxRecDepth 65536 in
theorem w_ripe : about1.ripe theMethod args0 below0 = true := by decide +kernel
theorem w_running : about1.status = .running := rfl
set_option maxRecDepth 65536 in
theorem w_room : about1.hasRoom e0.platform room_1 = true :=
  launch0.hasRoom_least _ room_1 (by decide +kernel) (by decide +kernel) (by decide +kernel) (by decide +kernel) (by decide +kernel) (by decide +kernel)
theorem allAtoms_all (ts : List Jvm.Cond) (a : Array Jvm.Value) (st : Jvm.State) : (allAtoms ts).before a st = ts.all (fun c => c.before a st) := by
  induction ts with
  | nil => rfl
  | cons c t ih =>
    show (Jvm.Cond.and c (allAtoms t)).before a st = _
    rw [Jvm.Cond.before_and, ih, List.all_cons]
def words1 : List Jvm.Cond := Jvm.Cond.code x code maxLocals ret :: tables_1
/-- a 'code' word, met by the world's own term for the bytes: nothing is compared byte by byte -/
theorem code_word {y : MethodName} {bytes : ByteArray} {mx : Nat} {rt : Option FieldType} {a : Array Value} {s : State} {m : MethodId} {meth : Method} {c : Code} (h1 : s.methodNamed? y = some m) (h2 : s.vm.method? m = some meth) (h3 : meth.code = some c) (h4 : c.code = bytes)
    (h5 : (c.maxLocals == mx && c.exceptionTable.isEmpty && decide (c.maxStack ≤ mostOperands) && decide (meth.sig.returnType = rt) && !meth.locks && decide (parseMethodDescriptor y.desc = some meth.sig)) = true) : (Jvm.Cond.code y bytes mx rt).before a s = true := by
  simp only [Bool.and_eq_true, beq_iff_eq, Bool.not_eq_true', decide_eq_true_eq] at h5
  obtain ⟨⟨⟨⟨⟨g1, g2⟩, g3⟩, g4⟩, g5⟩, g6⟩ := h5
  simp [Cond.before, Cond.holds, Cond.value, h1, h2, h3, h4, g1, g2, g3, g4, g5, g6]
def isCode : Jvm.Cond → Bool
  | .code _ _ _ _ => true
  | _ => false
theorem all_split {L : List Jvm.Cond} {P : Jvm.Cond → Bool} (h1 : L.all (fun c => isCode c || P c) = true) (h2 : ∀ c ∈ L.filter isCode, P c = true) : L.all P = true := by
  refine List.all_eq_true.mpr fun c hc => ?_
  have h := List.all_eq_true.mp h1 c hc
  rcases Bool.eq_false_or_eq_true (isCode c) with hi | hi
  · exact h2 c (List.mem_filter.mpr ⟨hc, hi⟩)
  · simpa [hi] using h
set_option maxRecDepth 65536 in
theorem w_c0 : (Jvm.Cond.code x code maxLocals ret).before args0 about1 = true := code_word (m := ⟨1, 1⟩) (meth := k1m1) (c := k1c1) (by decide +kernel) rfl rfl rfl (by decide +kernel)
set_option maxRecDepth 65536 in
theorem w_c1 : (Jvm.Cond.code ({ cls := "com/example/granary/granary/fix/OutboxKeptAsIsPinLaw", name := "kept", desc := "(B)Z" } : Jvm.MethodName) method_3_code (1 : Nat) (Option.some Jvm.ClassFile.FieldType.boolean)).before args0 about1 = true := code_word (m := ⟨1, 2⟩) (meth := k1m2) (c := k1c2) (by decide +kernel) rfl rfl rfl (by decide +kernel)
set_option maxRecDepth 65536 in
theorem w_c2 : (Jvm.Cond.code ({ cls := "com/example/granary/granary/fix/Outbox", name := "keptAsIs", desc := "([B)Z" } : Jvm.MethodName) prog_136_method_7_code (6 : Nat) (Option.some Jvm.ClassFile.FieldType.boolean)).before args0 about1 = true := code_word (m := ⟨2, 1⟩) (meth := k2m1) (c := k2c1) (by decide +kernel) rfl rfl rfl (by decide +kernel)
def codes1 : List Jvm.Cond := [Jvm.Cond.code x code maxLocals ret, Jvm.Cond.code ({ cls := "com/example/granary/granary/fix/OutboxKeptAsIsPinLaw", name := "kept", desc := "(B)Z" } : Jvm.MethodName) method_3_code (1 : Nat) (Option.some Jvm.ClassFile.FieldType.boolean), Jvm.Cond.code ({ cls := "com/example/granary/granary/fix/Outbox", name := "keptAsIs", desc := "([B)Z" } : Jvm.MethodName) prog_136_method_7_code (6 : Nat) (Option.some Jvm.ClassFile.FieldType.boolean)]
set_option maxRecDepth 65536 in
theorem codes_eq : words1.filter isCode = codes1 := rfl
theorem w_codes : ∀ c ∈ words1.filter isCode, c.before args0 about1 = true := by
  rw [codes_eq]
  intro c hc
  simp only [codes1, List.mem_cons, List.not_mem_nil, or_false] at hc
  rcases hc with rfl | rfl | rfl
  · exact w_c0
  · exact w_c1
  · exact w_c2
set_option maxRecDepth 65536 in
theorem w_t1 : words1.all (fun c => isCode c || c.before args0 about1) = true := by decide +kernel
theorem w_tables : (allAtoms (Jvm.Cond.code x code maxLocals ret :: tables_1)).before args0 about1 = true := by
  rw [allAtoms_all]
  show words1.all (fun c => c.before args0 about1) = true
  refine all_split ?_ w_codes
  rw [w_t1]
set_option maxRecDepth 65536 in
theorem w_case : (Jvm.Cond.and given_1 narrow_1).before args0 about1 = true := by decide +kernel
theorem w_applies : (headSpec (Jvm.Cond.code x code maxLocals ret :: tables_1) room_1).applies x e0.platform about1 = true :=
  (Spec.applies_iff w_frames).mpr ⟨w_running, w_runnable, w_alone, w_named, w_hears, w_ripe, w_room, w_tables⟩
theorem atStart : AtStart classFile x code maxLocals ret World_1 tables_1 room_1 Calls_1 rest_1 Pre_1 launch0 p0 e0 about1 theMethod args0 below0 :=
  ⟨lists_1, trivial, launch0.admits_env _ _ _, launch0.least_env, fairChoices_fair.cas, fairChoices_fair.clock, w_frames, w_args, w_heap, w_applies, trivial, trivial, w_case⟩
end start1
theorem witness_1 : WitnessClaimed_1 := ⟨start1.p0, start1.e0, start1.about1, start1.theMethod, start1.args0, start1.below0, start1.atStart⟩
end Jvm.Pilot.@@N@@
