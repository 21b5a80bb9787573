import JvmDerived
import JvmDerived.Pilot.@@N@@Statement
import JvmDerived.Pilot.@@N@@Code
set_option linter.unusedVariables false
set_option linter.unusedSimpArgs false

namespace Jvm.Pilot.@@N@@
open Jvm Jvm.ClassFile Sem Op Lib Jvm.Free Jvm.Stand Jvm.LawKit Jvm.RoadKit Bundle Jvm.Pilot.@@N@@.Jvm.D
section OwnKit
variable {p : Program} {l : Launch} {e : Env} {R : Room} {s : State} {m : MethodId} {args : Array Value} {below : List Frame} {meth : Method} {c : Code} {T : State} {locs : List Loc} {cells slots : Nat} {Z : State} {a0 : Array Value} {h : Heap}
/-- the run goes on from T with the frame f on top to an end that K says -/
def own_G (p : Program) (e : Env) (below : List Frame) (K : Outcome → State → Prop) (T : State) (f : JFrame) : Prop := ∃ s₂ o, Steps p.tables e below (T.setTop f) s₂ ∧ s₂.status = .running ∧ Ended s₂ below o ∧ K o s₂
theorem own_go {K : Outcome → State → Prop} {T' : State} {f f' : JFrame} (st : ∀ t, Steps p.tables e below (T'.setTop f') t → Steps p.tables e below (T.setTop f) t) (h : own_G p e below K T' f') : own_G p e below K T f := by
  obtain ⟨s₂, o, h1, h2⟩ := h
  exact ⟨s₂, o, st _ h1, h2⟩
theorem own_cast {K : Outcome → State → Prop} {f f' : JFrame} (q : f = f') (h : own_G p e below K T f') : own_G p e below K T f := q ▸ h
def own_K (Q : Option Value → Heap → List Loc → Prop) (s : State) (C S : Nat) : Outcome → State → Prop := fun o U => ∃ v L, o = .returned v ∧ Q v U.heap L ∧ FrameEnd s o U L C S
def own_Met (l : Launch) (Z : State) (y : MethodName) (bytes : ByteArray) (maxL : Nat) (ret : Option FieldType) (ws : List Jvm.Cond) (rm : Room) (as' : Array Value) (h0 : Heap) (Q : Option Value → Heap → List Loc → Prop) : Prop :=
  MetFree l y (head1 (Jvm.Cond.code y bytes maxL ret :: ws) rm) (fun a U => a = as' ∧ Z.Warmed39 U.vm ∧ U.heap = h0) (fun _ _ _ _ _ => True) (fun _ U o U' => own_K Q U rm.cells rm.slots o U')
theorem own_met {y : MethodName} {bytes : ByteArray} {maxL : Nat} {ret : Option FieldType} {ws : List Jvm.Cond} {rm : Room} {as' : Array Value} {h0 : Heap} {Q : Option Value → Heap → List Loc → Prop} (hpl : plainFor y = true)
    (body : ∀ (p : Program) (e : Env) (s : State) (m : MethodId) (below : List Frame) (meth : Method) (c : Code) (s₁ : State), p.tables.exec = Jvm.exec → c.code = bytes → c.maxLocals = maxL → s.vm.findClass y.cls = some m.cls → meth.name = y.name → meth.sig.returnType = ret → meth.locks = false →
      Z.Warmed39 s.vm → Stand p l e rm s m as' below meth c s₁ [] 0 0 → s₁.heap = h0 → own_G p e below (own_K Q s rm.cells rm.slots) s₁ (entryFrame m as' maxL)) :
    own_Met l Z y bytes maxL ret ws rm as' h0 Q := by
  refine MetFree.of_bodySF hpl hisR ?_
  intro p e s m args below meth c s₁ Bd hml hP hK
  obtain ⟨rfl, hZ, hh⟩ := hP
  have e0 : s₁.heap = h0 := by rw [← hh, Bd.state]; rfl
  have q := body p e s m below meth c s₁ Bd.exec Bd.bytes hml (findClass_of_methodNamed Bd.named) (name_of_methodNamed Bd.named Bd.method).1 Bd.returns (BodyLoose.notSynchronized Bd) hZ (Stand.of_body Bd) e0
  obtain ⟨s₂, o, h1, h2, h3, h4⟩ := q
  exact ⟨s₂, o, h1, h2, h3, h4⟩
theorem own_end (X : Stand p l e R s m args below meth c T locs cells slots) (hlk : meth.locks = false) {v : Option Value} {f : JFrame} {Q : Option Value → Heap → List Loc → Prop} {C S : Nat} (hv : meth.sig.returnType = none → v = none) (hc : cells ≤ C) (hs : slots ≤ S)
    (st : ∀ fs, (∀ (f : JFrame) (acts : List Action), f.method = m → f.locked = none → f.entered = [] → (doReturn e (T.setTop f) acts v).1 = T.setFrames fs) → Steps p.tables e below (T.setTop f) (T.setFrames fs)) (hq : Q v T.heap locs) : own_G p e below (own_K Q s C S) T f := by
  obtain ⟨fs, hr, hrun, hended, hW, hsame⟩ := X.leave (v := v) hv
  exact ⟨_, _, st fs hr, hrun, hended, v, locs, rfl, hq, ⟨_, rfl⟩, hW, hsame.mono hc hs⟩
theorem own_retZ (X : Stand p l e R s m args below meth c T locs cells slots) (hx : p.tables.exec = Jvm.exec) (hlk : meth.locks = false) {t : FieldType} (hret : meth.sig.returnType = some t) (ht : t = .boolean ∨ t = .byte ∨ t = .char ∨ t = .short) {pc : Nat} {Ls : Array Slot} {z : Int32} {rest : List Value} {Q : Option Value → Heap → List Loc → Prop} {C S : Nat}
    (eT : T.heap = h) {w : Int32} (hz : nar t z = w) (hd : decode c.code pc = .ok (.ireturn, 1)) (hc : cells ≤ C) (hs : slots ≤ S) (hq : Q (some (.int w)) h locs) : own_G p e below (own_K Q s C S) T (mkF m pc Ls (.int z :: rest)) := by
  subst eT hz
  exact own_end X hlk (fun q => by rw [hret] at q; cases q) hc hs (fun fs hr => retN X hx hret ht hd hr) hq
theorem own_retI (X : Stand p l e R s m args below meth c T locs cells slots) (hx : p.tables.exec = Jvm.exec) (hlk : meth.locks = false) (hret : meth.sig.returnType = some .int) {pc : Nat} {Ls : Array Slot} {z : Int32} {rest : List Value} {Q : Option Value → Heap → List Loc → Prop} {C S : Nat}
    (eT : T.heap = h) (hd : decode c.code pc = .ok (.ireturn, 1)) (hc : cells ≤ C) (hs : slots ≤ S) (hq : Q (some (.int z)) h locs) : own_G p e below (own_K Q s C S) T (mkF m pc Ls (.int z :: rest)) := by
  subst eT
  exact own_end X hlk (fun q => by rw [hret] at q; cases q) hc hs (fun fs hr => retOut X hx hret rfl (Or.inl ⟨rfl, Or.inl rfl, z, rfl⟩) hd hr) hq
theorem own_retJ (X : Stand p l e R s m args below meth c T locs cells slots) (hx : p.tables.exec = Jvm.exec) (hlk : meth.locks = false) (hret : meth.sig.returnType = some .long) {pc : Nat} {Ls : Array Slot} {z : Int64} {rest : List Value} {Q : Option Value → Heap → List Loc → Prop} {C S : Nat}
    (eT : T.heap = h) (hd : decode c.code pc = .ok (.lreturn, 1)) (hc : cells ≤ C) (hs : slots ≤ S) (hq : Q (some (.long z)) h locs) : own_G p e below (own_K Q s C S) T (mkF m pc Ls (.long z :: rest)) := by
  subst eT
  exact own_end X hlk (fun q => by rw [hret] at q; cases q) hc hs (fun fs hr => retOut X hx hret rfl (Or.inr (Or.inl ⟨rfl, rfl, z, rfl⟩)) hd hr) hq
/-- a static call by the callee's contract -/
theorem own_callS {own : String} {index maxL : Nat} {y : MethodName} {bytes : ByteArray} {ret : Option FieldType} {rm : Room} {Q : Option Value → Heap → List Loc → Prop} {argsL rest stk : List Value} {pc : Nat} {Ls : Array Slot}
    (X : Stand p l e R s m args below meth c T locs cells slots) (hx : p.tables.exec = Jvm.exec) (hZ : Z.Warmed39 s.vm) (hown : s.vm.findClass own = some m.cls) (hM : own_Met l Z y bytes maxL ret [] rm argsL.toArray h Q)
    (w1 : (Jvm.Cond.methodLink own index y).before a0 Z = true) (w2 : (Jvm.Cond.static y).before a0 Z = true) (w3 : (Jvm.Cond.initialized y.cls).before a0 Z = true) (w4 : (Jvm.Cond.code y bytes maxL ret).before a0 Z = true) (hy : y.cls ≠ "java/lang/invoke/MethodHandle" ∧ y.cls ≠ "java/lang/invoke/VarHandle")
    (eT : T.heap = h) (hsz : Ls.size = c.maxLocals) (hlen : ∀ sig, parseMethodDescriptor y.desc = some sig → argsL.length = sig.parameters.length) (hstk : stk = argsL.reverse ++ rest) (hd : decode c.code pc = .ok (.invokestatic index, 3))
    (hf : rm.frames + 1 ≤ R.frames) (hl : (rest.map fun v => v.category).sum + (maxL + 11) + rm.locals ≤ R.locals) (hc : cells + rm.cells ≤ R.cells) (hs : slots + rm.slots ≤ R.slots) :
    ∃ (v : Option Value) (T' : State) (L : List Loc), Stand p l e R s m args below meth c T' (locs ++ L) (cells + rm.cells) (slots + rm.slots) ∧ Q v T'.heap L ∧ ∀ t, Steps p.tables e below (T'.setTop (mkF m (pc + 3) Ls (v.toList ++ rest))) t → Steps p.tables e below (T.setTop (mkF m pc Ls stk)) t := by
  obtain ⟨v, _, ⟨T', L', k', n'⟩, -, X', ⟨L, hQ, l1, y1, z1⟩, st⟩ := Jvm.LawKit.callS X hx (y := y) hown (mvT hZ w1) (mvT hZ w2) (mvT hZ w3) (mvT hZ w4) hy (backOf (Q := Q) hM hZ w4 w3 hf hl) (g := mkF m pc Ls stk) rfl hsz (argsL := argsL) (rest := rest) hlen hstk (by show 2 * 0 + _ ≤ _; exact Nat.le_of_eq (Nat.zero_add _)) hd (fun _ _ => ⟨rfl, eT, hc, hs⟩)
  dsimp only [Pt.U, Pt.locs, Pt.cells, Pt.slots] at X' l1 y1 z1 st hQ
  subst l1 y1 z1
  exact ⟨v, T', L, X', hQ, st⟩
theorem own_open {a : Addr} {k : ClassId} {ty : FieldType} {n j : Int32} {vs : List Value} {dv v : Value} (V : Arv Z h a k ty n vs dv) (hj : ¬ j < 0 ∧ j < n) (hv : vs.getD j.toNatClampNeg dv = v) : ∃ cl : Cell, Arr Z h a cl ty ∧ ¬ (j < 0 ∨ cl.slots.size ≤ j.toNatClampNeg) ∧ cl.slots[j.toNatClampNeg]? = some v ∧ fits ty v = true := by
  obtain ⟨cl, A, -, S, q, H, G⟩ := V
  have hi := inb_of S hj
  have hlt : j.toNatClampNeg < cl.slots.size := Nat.lt_of_not_le fun x => hi (Or.inr x)
  exact ⟨cl, A, hi, by rw [H _ hlt, hv], by rw [← hv]; exact G _ hlt⟩
theorem own_iaload {a : Addr} {k : ClassId} {n j : Int32} {vs : List Value} {dv v : Value} (X : Stand p l e R s m args below meth c T locs cells slots) (hx : p.tables.exec = Jvm.exec) (hZ : Z.Warmed39 s.vm) (eT : T.heap = h) (V : Arv Z h a k .int n vs dv) (hj : ¬ j < 0 ∧ j < n) (hv : vs.getD j.toNatClampNeg dv = v) {pc : Nat} {Ls : Array Slot} {rest : List Value} (hd : decode c.code pc = .ok (.iaload, 1)) :
    ∀ t, Steps p.tables e below (T.setTop (mkF m (pc + 1) Ls (v :: rest))) t → Steps p.tables e below (T.setTop (mkF m pc Ls (.int j :: .ref a :: rest))) t := fun t kt => by
  obtain ⟨cl, A, hi, hat, -⟩ := own_open V hj hv
  exact X.iaload hx (by rw [eT]; exact A.1) (State.isArrayOf_alike hZ.alike A.2.1) A.2.2 hi hat (g := mkF m pc Ls (.int j :: .ref a :: rest)) rfl rfl hd _ kt
theorem own_baload {a : Addr} {k : ClassId} {n j : Int32} {vs : List Value} {dv v : Value} (X : Stand p l e R s m args below meth c T locs cells slots) (hx : p.tables.exec = Jvm.exec) (hZ : Z.Warmed39 s.vm) (eT : T.heap = h) (V : Arv Z h a k .byte n vs dv) (hj : ¬ j < 0 ∧ j < n) (hv : vs.getD j.toNatClampNeg dv = v) {pc : Nat} {Ls : Array Slot} {rest : List Value} (hd : decode c.code pc = .ok (.baload, 1)) :
    ∀ t, Steps p.tables e below (T.setTop (mkF m (pc + 1) Ls (v :: rest))) t → Steps p.tables e below (T.setTop (mkF m pc Ls (.int j :: .ref a :: rest))) t := fun t kt => by
  obtain ⟨cl, A, hi, hat, -⟩ := own_open V hj hv
  exact X.baloadBytes hx (by rw [eT]; exact A.1) (State.isArrayOf_alike hZ.alike A.2.1) A.2.2 hi hat (g := mkF m pc Ls (.int j :: .ref a :: rest)) rfl rfl hd _ kt
theorem own_iastore {a : Addr} {k : ClassId} {n j x : Int32} {vs : List Value} {dv : Value} (X : Stand p l e R s m args below meth c T locs cells slots) (hx : p.tables.exec = Jvm.exec) (hZ : Z.Warmed39 s.vm) (eT : T.heap = h) (V : Arv Z h a k .int n vs dv) (hj : ¬ j < 0 ∧ j < n) (i : Nat) (hi : j.toNatClampNeg = i) (hl : i < vs.length) {pc : Nat} {Ls : Array Slot} {rest : List Value} (hd : decode c.code pc = .ok (.iastore, 1)) :
    ∃ T' h', Stand p l e R s m args below meth c T' (locs ++ [⟨a, j.toNatClampNeg⟩]) cells slots ∧ T'.heap = h' ∧ Wr h h' a j.toNatClampNeg (.int x) ∧ Arv Z h' a k .int n (vs.set i (.int x)) dv ∧ ∀ t, Steps p.tables e below (T'.setTop (mkF m (pc + 1) Ls rest)) t → Steps p.tables e below (T.setTop (mkF m pc Ls (.int x :: .int j :: .ref a :: rest))) t := by
  obtain ⟨cl, A, q1, S, q, H, G⟩ := V
  obtain ⟨T', h', X', e', W, st⟩ := stI X hx hZ eT A (j := j) (x := x) (inb_of S hj) (g := mkF m pc Ls (.int x :: .int j :: .ref a :: rest)) rfl rfl hd
  exact ⟨T', h', X', e', W, Arv.set A q1 S q H G rfl W i hi hl, st⟩
theorem own_bastore {a : Addr} {k : ClassId} {n j x : Int32} {vs : List Value} {dv : Value} (X : Stand p l e R s m args below meth c T locs cells slots) (hx : p.tables.exec = Jvm.exec) (hZ : Z.Warmed39 s.vm) (eT : T.heap = h) (V : Arv Z h a k .byte n vs dv) (hj : ¬ j < 0 ∧ j < n) (i : Nat) (hi : j.toNatClampNeg = i) (hl : i < vs.length) {pc : Nat} {Ls : Array Slot} {rest : List Value} (hd : decode c.code pc = .ok (.bastore, 1)) :
    ∃ T' h', Stand p l e R s m args below meth c T' (locs ++ [⟨a, j.toNatClampNeg⟩]) cells slots ∧ T'.heap = h' ∧ Wr h h' a j.toNatClampNeg (.int x.toInt8.toInt32) ∧ Arv Z h' a k .byte n (vs.set i (.int x.toInt8.toInt32)) dv ∧ ∀ t, Steps p.tables e below (T'.setTop (mkF m (pc + 1) Ls rest)) t → Steps p.tables e below (T.setTop (mkF m pc Ls (.int x :: .int j :: .ref a :: rest))) t := by
  obtain ⟨cl, A, q1, S, q, H, G⟩ := V
  obtain ⟨T', h', X', e', W, st⟩ := stB X hx hZ eT A (j := j) (x := x) (inb_of S hj) (g := mkF m pc Ls (.int x :: .int j :: .ref a :: rest)) rfl rfl hd
  exact ⟨T', h', X', e', W, Arv.set A q1 S q H G (fits_nar_byte _) W i hi hl, st⟩
/-- newarray of a primitive kind; the class found by its name is said too -/
theorem own_newP (X : Stand p l e R s m args below meth c T locs cells slots) (hx : p.tables.exec = Jvm.exec) (hZ : Z.Warmed39 s.vm) {aty : ArrayType} {nm : String} (hnm : "[" ++ (newarray.typeOf aty).toString = nm) (w : (Jvm.Cond.arrayClass (newarray.typeOf aty)).before a0 Z = true) (eT : T.heap = h) {pc : Nat} {Ls : Array Slot} (hd : decode c.code pc = .ok (.newarray aty, 2)) {n : Int32} {rest : List Value}
    (hn : ¬ n < 0) {cap : Nat} (hcap : n.toNatClampNeg ≤ cap) (hb : cap * 8 ≤ 536870912) (hc : cells + 1 ≤ R.cells) (hl : slots + cap ≤ R.slots) :
    ∃ T' h' cA, Stand p l e R s m args below meth c T' locs (cells + 1) (slots + cap) ∧ T'.heap = h' ∧ Ext h h' ∧ Arr Z h' h.size (newA cA (newarray.typeOf aty) n) (newarray.typeOf aty) ∧ Exa Z h' h.size nm ∧
      ∀ t, Steps p.tables e below (T'.setTop (mkF m (pc + 2) Ls (.ref h.size :: rest))) t → Steps p.tables e below (T.setTop (mkF m pc Ls (.int n :: rest))) t := by
  have hcb : componentBytes (newarray.typeOf aty) ≤ 8 := by cases aty <;> decide
  obtain ⟨cA, kA, comp, f1, f2, f3, X', st⟩ := X.newarrayPrim hx (mvA hZ w) (g := mkF m pc Ls (.int n :: rest)) rfl hd rfl hn (Nat.le_trans (Nat.mul_le_mul hcap hcb) hb) hc (by omega)
  subst eT hnm
  have fZ : Z.vm.findClass ("[" ++ (newarray.typeOf aty).toString) = some cA := by rw [← hZ.alike.findClass]; exact f1
  obtain ⟨kZ, z1, -⟩ := Vm.findClass_spec fZ
  obtain ⟨k', z2, z3⟩ := hZ.alike.2.2 _ _ z1
  cases f2.symm.trans z2
  have kk : kZ.kind = .array comp (newarray.typeOf aty) := by rw [← f3, z3]
  have at' : (T.heap.push (newA cA (newarray.typeOf aty) n))[T.heap.size]? = some (newA cA (newarray.typeOf aty) n) := by simp
  refine ⟨_, T.heap.push (newA cA (newarray.typeOf aty) n), cA, X'.more (Nat.le_refl _) (by omega), rfl, ⟨by simp, fun a cc q => ?_⟩, ⟨at', ⟨by simp [newA], kZ, z1, comp, kk⟩, by simp [newA]⟩, ⟨_, kZ, at', fZ, z1, rfl, fun q => ?_⟩, st⟩
  · rw [Array.getElem?_push_lt (Array.getElem?_eq_some_iff.mp q).1]; exact (Array.getElem?_eq_getElem _).symm.trans q
  · rw [kk] at q; cases q
end OwnKit
section OwnSteps
variable {p : Program} {l : Launch} {e : Env} {R : Room} {s : State} {m : MethodId} {args : Array Value} {below : List Frame} {meth : Method} {c : Code} {T : State} {locs : List Loc} {cells slots : Nat} {Z : State} {a0 : Array Value} {h0 : Heap}
theorem own_iloadN {K : Outcome → State → Prop} {pc n : Nat} {Ls : Array Slot} {S : List Value} (X : Stand p l e R s m args below meth c T locs cells slots) (hx : p.tables.exec = Jvm.exec) {k : Fin 4} {v : Int32} (hd : decode c.code pc = .ok (.iload_n k, 1)) (hl : Ls[k.val]? = some (.val (.int v))) (hn : pc + 1 = n)
    (h : own_G p e below K T (mkF m n Ls (.int v :: S))) : own_G p e below K T (mkF m pc Ls S) := by
  subst hn
  exact own_go (fun t k => XS.iloadN X.here hx rfl hd hl k) h
theorem own_iload {K : Outcome → State → Prop} {pc n : Nat} {Ls : Array Slot} {S : List Value} (X : Stand p l e R s m args below meth c T locs cells slots) (hx : p.tables.exec = Jvm.exec) {k : Nat} {v : Int32} (hd : decode c.code pc = .ok (.iload k, 2)) (hl : Ls[k]? = some (.val (.int v))) (hn : pc + 2 = n)
    (h : own_G p e below K T (mkF m n Ls (.int v :: S))) : own_G p e below K T (mkF m pc Ls S) := by
  subst hn
  exact own_go (fun t k => XS.iload X.here hx rfl hd hl k) h
theorem own_lloadN {K : Outcome → State → Prop} {pc n : Nat} {Ls : Array Slot} {S : List Value} (X : Stand p l e R s m args below meth c T locs cells slots) (hx : p.tables.exec = Jvm.exec) {k : Fin 4} {v : Int64} (hd : decode c.code pc = .ok (.lload_n k, 1)) (hl : Ls[k.val]? = some (.val (.long v))) (hn : pc + 1 = n)
    (h : own_G p e below K T (mkF m n Ls (.long v :: S))) : own_G p e below K T (mkF m pc Ls S) := by
  subst hn
  exact own_go (fun t k => XS.lloadN X.here hx rfl hd hl k) h
theorem own_lload {K : Outcome → State → Prop} {pc n : Nat} {Ls : Array Slot} {S : List Value} (X : Stand p l e R s m args below meth c T locs cells slots) (hx : p.tables.exec = Jvm.exec) {k : Nat} {v : Int64} (hd : decode c.code pc = .ok (.lload k, 2)) (hl : Ls[k]? = some (.val (.long v))) (hn : pc + 2 = n)
    (h : own_G p e below K T (mkF m n Ls (.long v :: S))) : own_G p e below K T (mkF m pc Ls S) := by
  subst hn
  exact own_go (fun t k => XS.lload X.here hx rfl hd hl k) h
theorem own_aloadN {K : Outcome → State → Prop} {pc n : Nat} {Ls : Array Slot} {S : List Value} (X : Stand p l e R s m args below meth c T locs cells slots) (hx : p.tables.exec = Jvm.exec) {k : Fin 4} {v : Value} (hd : decode c.code pc = .ok (.aload_n k, 1)) (hl : Ls[k.val]? = some (.val v)) (hv : v.isRef = true) (hn : pc + 1 = n)
    (h : own_G p e below K T (mkF m n Ls (v :: S))) : own_G p e below K T (mkF m pc Ls S) := by
  subst hn
  exact own_go (fun t k => XS.aloadN X.here hx rfl hd hl hv k) h
theorem own_aload {K : Outcome → State → Prop} {pc n : Nat} {Ls : Array Slot} {S : List Value} (X : Stand p l e R s m args below meth c T locs cells slots) (hx : p.tables.exec = Jvm.exec) {k : Nat} {v : Value} (hd : decode c.code pc = .ok (.aload k, 2)) (hl : Ls[k]? = some (.val v)) (hv : v.isRef = true) (hn : pc + 2 = n)
    (h : own_G p e below K T (mkF m n Ls (v :: S))) : own_G p e below K T (mkF m pc Ls S) := by
  subst hn
  exact own_go (fun t k => XS.aload X.here hx rfl hd hl hv k) h
theorem own_istoreN {K : Outcome → State → Prop} {pc n : Nat} {Ls : Array Slot} {S : List Value} (X : Stand p l e R s m args below meth c T locs cells slots) (hx : p.tables.exec = Jvm.exec) {k : Fin 4} {v : Int32} {l' : Array Slot} (hd : decode c.code pc = .ok (.istore_n k, 1)) (hl : storeLocals Ls k.val (.int v) = some l') (hn : pc + 1 = n)
    (h : own_G p e below K T (mkF m n l' S)) : own_G p e below K T (mkF m pc Ls (.int v :: S)) := by
  subst hn
  exact own_go (fun t k => XS.istoreN X.here hx rfl hd rfl hl k) h
theorem own_istore {K : Outcome → State → Prop} {pc n : Nat} {Ls : Array Slot} {S : List Value} (X : Stand p l e R s m args below meth c T locs cells slots) (hx : p.tables.exec = Jvm.exec) {k : Nat} {v : Int32} {l' : Array Slot} (hd : decode c.code pc = .ok (.istore k, 2)) (hl : storeLocals Ls k (.int v) = some l') (hn : pc + 2 = n)
    (h : own_G p e below K T (mkF m n l' S)) : own_G p e below K T (mkF m pc Ls (.int v :: S)) := by
  subst hn
  exact own_go (fun t k => XS.istore X.here hx rfl hd rfl hl k) h
theorem own_lstore {K : Outcome → State → Prop} {pc n : Nat} {Ls : Array Slot} {S : List Value} (X : Stand p l e R s m args below meth c T locs cells slots) (hx : p.tables.exec = Jvm.exec) {k : Nat} {v : Int64} {l' : Array Slot} (hd : decode c.code pc = .ok (.lstore k, 2)) (hl : storeLocals Ls k (.long v) = some l') (hn : pc + 2 = n)
    (h : own_G p e below K T (mkF m n l' S)) : own_G p e below K T (mkF m pc Ls (.long v :: S)) := by
  subst hn
  exact own_go (fun t k => XS.lstore X.here hx rfl hd rfl hl k) h
theorem own_astore {K : Outcome → State → Prop} {pc n : Nat} {Ls : Array Slot} {S : List Value} (X : Stand p l e R s m args below meth c T locs cells slots) (hx : p.tables.exec = Jvm.exec) {k : Nat} {v : Value} {l' : Array Slot} (hd : decode c.code pc = .ok (.astore k, 2)) (hv : v.isRef = true) (hl : storeLocals Ls k v = some l') (hn : pc + 2 = n)
    (h : own_G p e below K T (mkF m n l' S)) : own_G p e below K T (mkF m pc Ls (v :: S)) := by
  subst hn
  exact own_go (fun t k => XS.astore X.here hx rfl hd rfl hv hl k) h
theorem own_iconst {K : Outcome → State → Prop} {pc n : Nat} {Ls : Array Slot} {S : List Value} (X : Stand p l e R s m args below meth c T locs cells slots) (hx : p.tables.exec = Jvm.exec) {i : Int} {z : Int32} (hd : decode c.code pc = .ok (.iconst i, 1)) (hz : Int32.ofInt i = z) (hn : pc + 1 = n)
    (h : own_G p e below K T (mkF m n Ls (.int z :: S))) : own_G p e below K T (mkF m pc Ls S) := by
  subst hz hn
  exact own_go (fun t k => XS.iconst X.here hx rfl hd k) h
theorem own_bipush {K : Outcome → State → Prop} {pc n : Nat} {Ls : Array Slot} {S : List Value} (X : Stand p l e R s m args below meth c T locs cells slots) (hx : p.tables.exec = Jvm.exec) {i : Int} {z : Int32} (hd : decode c.code pc = .ok (.bipush i, 2)) (hz : (Int8.ofInt i).toInt32 = z) (hn : pc + 2 = n)
    (h : own_G p e below K T (mkF m n Ls (.int z :: S))) : own_G p e below K T (mkF m pc Ls S) := by
  subst hz hn
  exact own_go (fun t k => XS.bipush X.here hx rfl hd k) h
theorem own_sipush {K : Outcome → State → Prop} {pc n : Nat} {Ls : Array Slot} {S : List Value} (X : Stand p l e R s m args below meth c T locs cells slots) (hx : p.tables.exec = Jvm.exec) {i : Int} {z : Int32} (hd : decode c.code pc = .ok (.sipush i, 3)) (hz : (Int16.ofInt i).toInt32 = z) (hn : pc + 3 = n)
    (h : own_G p e below K T (mkF m n Ls (.int z :: S))) : own_G p e below K T (mkF m pc Ls S) := by
  subst hz hn
  exact own_go (fun t k => XS.sipush X.here hx rfl hd k) h
theorem own_lconst {K : Outcome → State → Prop} {pc n : Nat} {Ls : Array Slot} {S : List Value} (X : Stand p l e R s m args below meth c T locs cells slots) (hx : p.tables.exec = Jvm.exec) {i : Fin 2} {z : Int64} (hd : decode c.code pc = .ok (.lconst i, 1)) (hz : Int64.ofNat i = z) (hn : pc + 1 = n)
    (h : own_G p e below K T (mkF m n Ls (.long z :: S))) : own_G p e below K T (mkF m pc Ls S) := by
  subst hz hn
  exact own_go (fun t k => XS.lconst X.here hx rfl hd k) h
theorem own_iadd {K : Outcome → State → Prop} {pc n : Nat} {Ls : Array Slot} {S : List Value} (X : Stand p l e R s m args below meth c T locs cells slots) (hx : p.tables.exec = Jvm.exec) {x y z : Int32} (hd : decode c.code pc = .ok (.iadd, 1)) (hz : x + y = z) (hn : pc + 1 = n)
    (h : own_G p e below K T (mkF m n Ls (.int z :: S))) : own_G p e below K T (mkF m pc Ls (.int y :: .int x :: S)) := by
  subst hz hn
  exact own_go (fun t k => XS.iadd X.here hx rfl hd rfl k) h
theorem own_ladd {K : Outcome → State → Prop} {pc n : Nat} {Ls : Array Slot} {S : List Value} (X : Stand p l e R s m args below meth c T locs cells slots) (hx : p.tables.exec = Jvm.exec) {x y z : Int64} (hd : decode c.code pc = .ok (.ladd, 1)) (hz : x + y = z) (hn : pc + 1 = n)
    (h : own_G p e below K T (mkF m n Ls (.long z :: S))) : own_G p e below K T (mkF m pc Ls (.long y :: .long x :: S)) := by
  subst hz hn
  exact own_go (fun t k => XS.ladd X.here hx rfl hd rfl k) h
theorem own_isub {K : Outcome → State → Prop} {pc n : Nat} {Ls : Array Slot} {S : List Value} (X : Stand p l e R s m args below meth c T locs cells slots) (hx : p.tables.exec = Jvm.exec) {x y z : Int32} (hd : decode c.code pc = .ok (.isub, 1)) (hz : x - y = z) (hn : pc + 1 = n)
    (h : own_G p e below K T (mkF m n Ls (.int z :: S))) : own_G p e below K T (mkF m pc Ls (.int y :: .int x :: S)) := by
  subst hz hn
  exact own_go (fun t k => XS.isub X.here hx rfl hd rfl k) h
theorem own_imul {K : Outcome → State → Prop} {pc n : Nat} {Ls : Array Slot} {S : List Value} (X : Stand p l e R s m args below meth c T locs cells slots) (hx : p.tables.exec = Jvm.exec) {x y z : Int32} (hd : decode c.code pc = .ok (.imul, 1)) (hz : x * y = z) (hn : pc + 1 = n)
    (h : own_G p e below K T (mkF m n Ls (.int z :: S))) : own_G p e below K T (mkF m pc Ls (.int y :: .int x :: S)) := by
  subst hz hn
  exact own_go (fun t k => XS.imul X.here hx rfl hd rfl k) h
theorem own_lmul {K : Outcome → State → Prop} {pc n : Nat} {Ls : Array Slot} {S : List Value} (X : Stand p l e R s m args below meth c T locs cells slots) (hx : p.tables.exec = Jvm.exec) {x y z : Int64} (hd : decode c.code pc = .ok (.lmul, 1)) (hz : x * y = z) (hn : pc + 1 = n)
    (h : own_G p e below K T (mkF m n Ls (.long z :: S))) : own_G p e below K T (mkF m pc Ls (.long y :: .long x :: S)) := by
  subst hz hn
  exact own_go (fun t k => XS.lmul X.here hx rfl hd rfl k) h
theorem own_iand {K : Outcome → State → Prop} {pc n : Nat} {Ls : Array Slot} {S : List Value} (X : Stand p l e R s m args below meth c T locs cells slots) (hx : p.tables.exec = Jvm.exec) {x y z : Int32} (hd : decode c.code pc = .ok (.iand, 1)) (hz : x &&& y = z) (hn : pc + 1 = n)
    (h : own_G p e below K T (mkF m n Ls (.int z :: S))) : own_G p e below K T (mkF m pc Ls (.int y :: .int x :: S)) := by
  subst hz hn
  exact own_go (fun t k => XS.iand X.here hx rfl hd rfl k) h
theorem own_land {K : Outcome → State → Prop} {pc n : Nat} {Ls : Array Slot} {S : List Value} (X : Stand p l e R s m args below meth c T locs cells slots) (hx : p.tables.exec = Jvm.exec) {x y z : Int64} (hd : decode c.code pc = .ok (.land, 1)) (hz : x &&& y = z) (hn : pc + 1 = n)
    (h : own_G p e below K T (mkF m n Ls (.long z :: S))) : own_G p e below K T (mkF m pc Ls (.long y :: .long x :: S)) := by
  subst hz hn
  exact own_go (fun t k => XS.land X.here hx rfl hd rfl k) h
theorem own_i2l {K : Outcome → State → Prop} {pc n : Nat} {Ls : Array Slot} {S : List Value} (X : Stand p l e R s m args below meth c T locs cells slots) (hx : p.tables.exec = Jvm.exec) {x : Int32} {z : Int64} (hd : decode c.code pc = .ok (.i2l, 1)) (hz : x.toInt64 = z) (hn : pc + 1 = n)
    (h : own_G p e below K T (mkF m n Ls (.long z :: S))) : own_G p e below K T (mkF m pc Ls (.int x :: S)) := by
  subst hz hn
  exact own_go (fun t k => XS.i2l X.here hx rfl hd rfl k) h
theorem own_l2i {K : Outcome → State → Prop} {pc n : Nat} {Ls : Array Slot} {S : List Value} (X : Stand p l e R s m args below meth c T locs cells slots) (hx : p.tables.exec = Jvm.exec) {x : Int64} {z : Int32} (hd : decode c.code pc = .ok (.l2i, 1)) (hz : x.toInt32 = z) (hn : pc + 1 = n)
    (h : own_G p e below K T (mkF m n Ls (.int z :: S))) : own_G p e below K T (mkF m pc Ls (.long x :: S)) := by
  subst hz hn
  exact own_go (fun t k => XS.l2i X.here hx rfl hd rfl k) h
theorem own_i2b {K : Outcome → State → Prop} {pc n : Nat} {Ls : Array Slot} {S : List Value} (X : Stand p l e R s m args below meth c T locs cells slots) (hx : p.tables.exec = Jvm.exec) {x : Int32} {z : Int32} (hd : decode c.code pc = .ok (.i2b, 1)) (hz : x.toInt8.toInt32 = z) (hn : pc + 1 = n)
    (h : own_G p e below K T (mkF m n Ls (.int z :: S))) : own_G p e below K T (mkF m pc Ls (.int x :: S)) := by
  subst hz hn
  exact own_go (fun t k => XS.i2b X.here hx rfl hd rfl k) h
theorem own_iushr {K : Outcome → State → Prop} {pc n : Nat} {Ls : Array Slot} {S : List Value} (X : Stand p l e R s m args below meth c T locs cells slots) (hx : p.tables.exec = Jvm.exec) {x : Int32} {y : Int32} {z : Int32} (hd : decode c.code pc = .ok (.iushr, 1)) (hz : (x.toUInt32 >>> (y &&& 31).toUInt32).toInt32 = z) (hn : pc + 1 = n)
    (h : own_G p e below K T (mkF m n Ls (.int z :: S))) : own_G p e below K T (mkF m pc Ls (.int y :: .int x :: S)) := by
  subst hz hn
  exact own_go (fun t k => XS.iushr X.here hx rfl hd rfl k) h
theorem own_lushr {K : Outcome → State → Prop} {pc n : Nat} {Ls : Array Slot} {S : List Value} (X : Stand p l e R s m args below meth c T locs cells slots) (hx : p.tables.exec = Jvm.exec) {x : Int64} {y : Int32} {z : Int64} (hd : decode c.code pc = .ok (.lushr, 1)) (hz : (x.toUInt64 >>> (y &&& 63).toInt64.toUInt64).toInt64 = z) (hn : pc + 1 = n)
    (h : own_G p e below K T (mkF m n Ls (.long z :: S))) : own_G p e below K T (mkF m pc Ls (.int y :: .long x :: S)) := by
  subst hz hn
  exact own_go (fun t k => XS.lushr X.here hx rfl hd rfl k) h
theorem own_lcmp {K : Outcome → State → Prop} {pc n : Nat} {Ls : Array Slot} {S : List Value} (X : Stand p l e R s m args below meth c T locs cells slots) (hx : p.tables.exec = Jvm.exec) {x y : Int64} (hd : decode c.code pc = .ok (.lcmp, 1)) (hn : pc + 1 = n)
    (h : own_G p e below K T (mkF m n Ls (.int (lcmpW x y) :: S))) : own_G p e below K T (mkF m pc Ls (.long y :: .long x :: S)) := by
  subst hn
  exact own_go (fun t k => XS.lcmp X.here hx rfl hd rfl k) h
theorem own_irem {K : Outcome → State → Prop} {pc n : Nat} {Ls : Array Slot} {S : List Value} (X : Stand p l e R s m args below meth c T locs cells slots) (hx : p.tables.exec = Jvm.exec) {x y : Int32} (hd : decode c.code pc = .ok (.irem, 1)) (hy : y ≠ 0) (hn : pc + 1 = n)
    (h : own_G p e below K T (mkF m n Ls (.int (x % y) :: S))) : own_G p e below K T (mkF m pc Ls (.int y :: .int x :: S)) := by
  subst hn
  exact own_go (fun t k => iremM (g := mkF m pc Ls (.int y :: .int x :: S)) X hx rfl hd rfl hy k) h
theorem own_iinc {K : Outcome → State → Prop} {pc n : Nat} {Ls : Array Slot} {S : List Value} (X : Stand p l e R s m args below meth c T locs cells slots) (hx : p.tables.exec = Jvm.exec) {k : Nat} {cst : Int} {x z : Int32} {l' : Array Slot} (hd : decode c.code pc = .ok (.iinc k cst, 3)) (hl : Ls[k]? = some (.val (.int x))) (hz : x + Int32.ofInt cst = z) (hl' : storeLocals Ls k (.int z) = some l') (hn : pc + 3 = n)
    (h : own_G p e below K T (mkF m n l' S)) : own_G p e below K T (mkF m pc Ls S) := by
  subst hz hn
  exact own_go (fun t k => XS.iinc X.here hx rfl hd hl hl' k) h
theorem own_dup {K : Outcome → State → Prop} {pc n : Nat} {Ls : Array Slot} {S : List Value} (X : Stand p l e R s m args below meth c T locs cells slots) (hx : p.tables.exec = Jvm.exec) {v : Value} (hd : decode c.code pc = .ok (.dup, 1)) (hc : v.category = 1) (hn : pc + 1 = n)
    (h : own_G p e below K T (mkF m n Ls (v :: v :: S))) : own_G p e below K T (mkF m pc Ls (v :: S)) := by
  subst hn
  exact own_go (fun t k => XS.dup X.here hx rfl hd rfl hc k) h
theorem own_goto {K : Outcome → State → Prop} {pc n : Nat} {Ls : Array Slot} {S : List Value} (X : Stand p l e R s m args below meth c T locs cells slots) (hx : p.tables.exec = Jvm.exec) {o : Int} (hd : decode c.code pc = .ok (.goto o, 3)) (ho : 0 ≤ (pc : Int) + o) (hp : ((pc : Int) + o).toNat = n)
    (h : own_G p e below K T (mkF m n Ls S)) : own_G p e below K T (mkF m pc Ls S) := by
  subst hp
  exact own_go (fun t k => XS.goto X.here hx rfl (pc0 := pc) rfl hd ho rfl k) h
theorem own_ifYes {K : Outcome → State → Prop} {pc n : Nat} {Ls : Array Slot} {S : List Value} (X : Stand p l e R s m args below meth c T locs cells slots) (hx : p.tables.exec = Jvm.exec) {cd : ClassFile.Cond} {x : Int32} {o : Int} (hd : decode c.code pc = .ok (.ifCond cd o, 3)) (hc : if_icmp.holds cd x 0 = true) (ho : 0 ≤ (pc : Int) + o) (hp : ((pc : Int) + o).toNat = n)
    (h : own_G p e below K T (mkF m n Ls S)) : own_G p e below K T (mkF m pc Ls (.int x :: S)) := by
  subst hp
  exact own_go (fun t k => XS.ifYes X.here hx rfl (pc0 := pc) rfl hd rfl ((if0 _ _).trans hc) ho rfl k) h
theorem own_ifNo {K : Outcome → State → Prop} {pc n : Nat} {Ls : Array Slot} {S : List Value} (X : Stand p l e R s m args below meth c T locs cells slots) (hx : p.tables.exec = Jvm.exec) {cd : ClassFile.Cond} {x : Int32} {o : Int} (hd : decode c.code pc = .ok (.ifCond cd o, 3)) (hc : if_icmp.holds cd x 0 = false) (hn : pc + 3 = n)
    (h : own_G p e below K T (mkF m n Ls S)) : own_G p e below K T (mkF m pc Ls (.int x :: S)) := by
  subst hn
  exact own_go (fun t k => XS.ifNo X.here hx rfl hd rfl ((if0 _ _).trans hc) k) h
theorem own_icmpYes {K : Outcome → State → Prop} {pc n : Nat} {Ls : Array Slot} {S : List Value} (X : Stand p l e R s m args below meth c T locs cells slots) (hx : p.tables.exec = Jvm.exec) {cd : ClassFile.Cond} {x y : Int32} {o : Int} (hd : decode c.code pc = .ok (.if_icmp cd o, 3)) (hc : if_icmp.holds cd x y = true) (ho : 0 ≤ (pc : Int) + o) (hp : ((pc : Int) + o).toNat = n)
    (h : own_G p e below K T (mkF m n Ls S)) : own_G p e below K T (mkF m pc Ls (.int y :: .int x :: S)) := by
  subst hp
  exact own_go (fun t k => XS.icmpYes X.here hx rfl (pc0 := pc) rfl hd rfl hc ho rfl k) h
theorem own_icmpNo {K : Outcome → State → Prop} {pc n : Nat} {Ls : Array Slot} {S : List Value} (X : Stand p l e R s m args below meth c T locs cells slots) (hx : p.tables.exec = Jvm.exec) {cd : ClassFile.Cond} {x y : Int32} {o : Int} (hd : decode c.code pc = .ok (.if_icmp cd o, 3)) (hc : if_icmp.holds cd x y = false) (hn : pc + 3 = n)
    (h : own_G p e below K T (mkF m n Ls S)) : own_G p e below K T (mkF m pc Ls (.int y :: .int x :: S)) := by
  subst hn
  exact own_go (fun t k => XS.icmpNo X.here hx rfl hd rfl hc k) h
theorem own_newA {K : Outcome → State → Prop} {pc n : Nat} {Ls : Array Slot} {S : List Value} {h : Heap} (X : Stand p l e R s m args below meth c T locs cells slots) (hx : p.tables.exec = Jvm.exec) (hZ : Z.Warmed39 s.vm) {aty : ArrayType} {nm : String} (hnm : "[" ++ (newarray.typeOf aty).toString = nm) (w : (Jvm.Cond.arrayClass (newarray.typeOf aty)).before a0 Z = true) (eT : T.heap = h) (hd : decode c.code pc = .ok (.newarray aty, 2)) {k : Int32} (hk : ¬ k < 0) {cap : Nat} (hcap : k.toNatClampNeg ≤ cap) (hb : cap * 8 ≤ 536870912) (hc : cells + 1 ≤ R.cells) (hl : slots + cap ≤ R.slots) (hn : pc + 2 = n)
    (kk : ∀ (T' : State) (h' : Heap) (cA : ClassId) (b : Addr), b = h.size → Stand p l e R s m args below meth c T' locs (cells + 1) (slots + cap) → T'.heap = h' → Ext h h' → Arr Z h' b (newA cA (newarray.typeOf aty) k) (newarray.typeOf aty) → Exa Z h' b nm → own_G p e below K T' (mkF m n Ls (.ref b :: S))) : own_G p e below K T (mkF m pc Ls (.int k :: S)) := by
  subst hn
  obtain ⟨T', h', cA, X', e', E, A, B, st⟩ := own_newP X hx hZ hnm w eT (pc := pc) (Ls := Ls) (rest := S) hd hk hcap hb hc hl
  exact own_go st (kk T' h' cA _ rfl X' e' E A B)
theorem own_st_iastore {K : Outcome → State → Prop} {pc n : Nat} {Ls : Array Slot} {S : List Value} {h : Heap} (X : Stand p l e R s m args below meth c T locs cells slots) (hx : p.tables.exec = Jvm.exec) (hZ : Z.Warmed39 s.vm) {a : Addr} {k : ClassId} {z j : Int32} {x : Int32} {vs : List Value} {dv : Value} (eT : T.heap = h) (V : Arv Z h a k .int z vs dv) (hj : ¬ j < 0 ∧ j < z) (i : Nat) (hi : j.toNatClampNeg = i) (hl : i < vs.length) (hd : decode c.code pc = .ok (.iastore, 1)) (hn : pc + 1 = n)
    (kk : ∀ (T' : State) (h' : Heap), Stand p l e R s m args below meth c T' (locs ++ [⟨a, j.toNatClampNeg⟩]) cells slots → T'.heap = h' → Wr h h' a j.toNatClampNeg (.int x) → Arv Z h' a k .int z (vs.set i (.int x)) dv → own_G p e below K T' (mkF m n Ls S)) : own_G p e below K T (mkF m pc Ls (.int x :: .int j :: .ref a :: S)) := by
  subst hn
  obtain ⟨T', h', X', e', W, V', st⟩ := own_iastore X hx hZ eT V hj i hi hl (pc := pc) (Ls := Ls) (rest := S) hd
  exact own_go st (kk T' h' X' e' W V')
theorem own_st_bastore {K : Outcome → State → Prop} {pc n : Nat} {Ls : Array Slot} {S : List Value} {h : Heap} (X : Stand p l e R s m args below meth c T locs cells slots) (hx : p.tables.exec = Jvm.exec) (hZ : Z.Warmed39 s.vm) {a : Addr} {k : ClassId} {z j : Int32} {x : Int32} {vs : List Value} {dv : Value} (eT : T.heap = h) (V : Arv Z h a k .byte z vs dv) (hj : ¬ j < 0 ∧ j < z) (i : Nat) (hi : j.toNatClampNeg = i) (hl : i < vs.length) (hd : decode c.code pc = .ok (.bastore, 1)) (hn : pc + 1 = n)
    (kk : ∀ (T' : State) (h' : Heap), Stand p l e R s m args below meth c T' (locs ++ [⟨a, j.toNatClampNeg⟩]) cells slots → T'.heap = h' → Wr h h' a j.toNatClampNeg (.int x.toInt8.toInt32) → Arv Z h' a k .byte z (vs.set i (.int x.toInt8.toInt32)) dv → own_G p e below K T' (mkF m n Ls S)) : own_G p e below K T (mkF m pc Ls (.int x :: .int j :: .ref a :: S)) := by
  subst hn
  obtain ⟨T', h', X', e', W, V', st⟩ := own_bastore X hx hZ eT V hj i hi hl (pc := pc) (Ls := Ls) (rest := S) hd
  exact own_go st (kk T' h' X' e' W V')
theorem own_ld_iaload {K : Outcome → State → Prop} {pc n : Nat} {Ls : Array Slot} {S : List Value} {h : Heap} (X : Stand p l e R s m args below meth c T locs cells slots) (hx : p.tables.exec = Jvm.exec) (hZ : Z.Warmed39 s.vm) {a : Addr} {k : ClassId} {z j : Int32} {vs : List Value} {dv v : Value} (eT : T.heap = h) (V : Arv Z h a k .int z vs dv) (hj : ¬ j < 0 ∧ j < z) (hv : vs.getD j.toNatClampNeg dv = v) (hd : decode c.code pc = .ok (.iaload, 1)) (hn : pc + 1 = n) (kk : own_G p e below K T (mkF m n Ls (v :: S))) : own_G p e below K T (mkF m pc Ls (.int j :: .ref a :: S)) := by
  subst hn
  exact own_go (own_iaload X hx hZ eT V hj hv hd) kk
theorem own_ld_baload {K : Outcome → State → Prop} {pc n : Nat} {Ls : Array Slot} {S : List Value} {h : Heap} (X : Stand p l e R s m args below meth c T locs cells slots) (hx : p.tables.exec = Jvm.exec) (hZ : Z.Warmed39 s.vm) {a : Addr} {k : ClassId} {z j : Int32} {vs : List Value} {dv v : Value} (eT : T.heap = h) (V : Arv Z h a k .byte z vs dv) (hj : ¬ j < 0 ∧ j < z) (hv : vs.getD j.toNatClampNeg dv = v) (hd : decode c.code pc = .ok (.baload, 1)) (hn : pc + 1 = n) (kk : own_G p e below K T (mkF m n Ls (v :: S))) : own_G p e below K T (mkF m pc Ls (.int j :: .ref a :: S)) := by
  subst hn
  exact own_go (own_baload X hx hZ eT V hj hv hd) kk
theorem own_ldc {K : Outcome → State → Prop} {pc n : Nat} {Ls : Array Slot} {S : List Value} (X : Stand p l e R s m args below meth c T locs cells slots) (hx : p.tables.exec = Jvm.exec) (hZ : Z.Warmed39 s.vm) {own : String} {index : Nat} {v : Int32} (hown : s.vm.findClass own = some m.cls) (w : (Jvm.Cond.constant own index v).before a0 Z = true) (hd : decode c.code pc = .ok (.ldc index, 2)) (hn : pc + 2 = n) (kk : own_G p e below K T (mkF m n Ls (.int v :: S))) : own_G p e below K T (mkF m pc Ls S) := by
  subst hn
  exact own_go (fun t k => X.ldcInt hx hown (mvT hZ w) (g := mkF m pc Ls S) rfl hd t k) kk
theorem own_ldc2_w {K : Outcome → State → Prop} {pc n : Nat} {Ls : Array Slot} {S : List Value} (X : Stand p l e R s m args below meth c T locs cells slots) (hx : p.tables.exec = Jvm.exec) (hZ : Z.Warmed39 s.vm) {own : String} {index : Nat} {v : Int64} (hown : s.vm.findClass own = some m.cls) (w : (Jvm.Cond.constantLong own index v).before a0 Z = true) (hd : decode c.code pc = .ok (.ldc2_w index, 3)) (hn : pc + 3 = n) (kk : own_G p e below K T (mkF m n Ls (.long v :: S))) : own_G p e below K T (mkF m pc Ls S) := by
  subst hn
  exact own_go (fun t k => X.ldc2Long hx hown (mvT hZ w) (g := mkF m pc Ls S) rfl hd t k) kk
theorem own_S {K : Outcome → State → Prop} {pc n : Nat} {Ls : Array Slot} {h : Heap} {own : String} {index maxL : Nat} {y : MethodName} {bytes : ByteArray} {rm : Room} {Q : Option Value → Heap → List Loc → Prop} {argsL rest stk : List Value} {ret : Option FieldType} (X : Stand p l e R s m args below meth c T locs cells slots) (hx : p.tables.exec = Jvm.exec) (hZ : Z.Warmed39 s.vm) (hown : s.vm.findClass own = some m.cls) (hM : own_Met l Z y bytes maxL ret [] rm argsL.toArray h Q) (w1 : (Jvm.Cond.methodLink own index y).before a0 Z = true) (w2 : (Jvm.Cond.static y).before a0 Z = true) (w3 : (Jvm.Cond.initialized y.cls).before a0 Z = true) (w4 : (Jvm.Cond.code y bytes maxL ret).before a0 Z = true) (hy : y.cls ≠ "java/lang/invoke/MethodHandle" ∧ y.cls ≠ "java/lang/invoke/VarHandle") (eT : T.heap = h) (hsz : Ls.size = c.maxLocals) (hlen : ∀ sig, parseMethodDescriptor y.desc = some sig → argsL.length = sig.parameters.length) (hstk : stk = argsL.reverse ++ rest) (hd : decode c.code pc = .ok (.invokestatic index, 3)) (hf : rm.frames + 1 ≤ R.frames) (hl : (rest.map fun v => v.category).sum + (maxL + 11) + rm.locals ≤ R.locals) (hc : cells + rm.cells ≤ R.cells) (hs : slots + rm.slots ≤ R.slots) (hn : pc + 3 = n)
    (kk : ∀ (v : Option Value) (T' : State) (L : List Loc), Stand p l e R s m args below meth c T' (locs ++ L) (cells + rm.cells) (slots + rm.slots) → Q v T'.heap L → own_G p e below K T' (mkF m n Ls (v.toList ++ rest))) : own_G p e below K T (mkF m pc Ls stk) := by
  subst hn
  obtain ⟨v, T', L, X', hQ, st⟩ := own_callS X hx hZ hown hM w1 w2 w3 w4 hy eT hsz hlen hstk hd hf hl hc hs
  exact own_go st (kk v T' L X' hQ)
end OwnSteps

theorem own_an_int : "[" ++ (newarray.typeOf .int).toString = "[I" := by decide +kernel
theorem own_an_long : "[" ++ (newarray.typeOf .long).toString = "[J" := by decide +kernel
theorem own_an_byte : "[" ++ (newarray.typeOf .byte).toString = "[B" := by decide +kernel
theorem own_an_char : "[" ++ (newarray.typeOf .char).toString = "[C" := by decide +kernel
theorem own_an_J : (FieldType.array .long).toString = "[J" := by decide +kernel
theorem own_an_JJ : "[" ++ "[J" = "[[J" := by decide +kernel
theorem own_ne {b z : Addr} {h : Heap} (hb : b < h.size) (g : z = h.size) : b ≠ z := Nat.ne_of_lt (Nat.lt_of_lt_of_le hb (Nat.le_of_eq g.symm))
theorem own_neEA {Z : State} {h : Heap} {a b : Addr} {C : String} {a0 : Array Value} {kk : Nat} {k : ClassId} {ty : FieldType} {n : Int32} {vs : List Value} {dv : Value} (E : Exa Z h a C) (w : (Jvm.Cond.instantiable C kk).before a0 Z = true) (V : Arv Z h b k ty n vs dv) : a ≠ b := by
  obtain ⟨c, A, -⟩ := V
  exact ne_arr E w A
theorem ww0 {Z : State} {a0 : Array Value} (hw : ∀ d ∈ tables_1, d.before a0 Z = true) : (Jvm.Cond.arrayClass Jvm.ClassFile.FieldType.byte).before a0 Z = true := hw _ (List.mem_of_getElem? (i := 0) rfl)
theorem ww1 {Z : State} {a0 : Array Value} (hw : ∀ d ∈ tables_1, d.before a0 Z = true) : (Jvm.Cond.methodLink "com/example/granary/granary/fix/FixWireNumberPinLaw" (7 : Nat) ({ cls := "com/example/granary/granary/fix/FixWireNumberPinLaw", name := "cell", desc := "(JJIII)B" } : Jvm.MethodName)).before a0 Z = true := hw _ (List.mem_of_getElem? (i := 1) rfl)
theorem ww2 {Z : State} {a0 : Array Value} (hw : ∀ d ∈ tables_1, d.before a0 Z = true) : (Jvm.Cond.static ({ cls := "com/example/granary/granary/fix/FixWireNumberPinLaw", name := "cell", desc := "(JJIII)B" } : Jvm.MethodName)).before a0 Z = true := hw _ (List.mem_of_getElem? (i := 2) rfl)
theorem ww3 {Z : State} {a0 : Array Value} (hw : ∀ d ∈ tables_1, d.before a0 Z = true) : (Jvm.Cond.initialized "com/example/granary/granary/fix/FixWireNumberPinLaw").before a0 Z = true := hw _ (List.mem_of_getElem? (i := 3) rfl)
theorem ww4 {Z : State} {a0 : Array Value} (hw : ∀ d ∈ tables_1, d.before a0 Z = true) : (Jvm.Cond.code ({ cls := "com/example/granary/granary/fix/FixWireNumberPinLaw", name := "cell", desc := "(JJIII)B" } : Jvm.MethodName) method_3_code (8 : Nat) (Option.some Jvm.ClassFile.FieldType.byte)).before a0 Z = true := hw _ (List.mem_of_getElem? (i := 4) rfl)
theorem ww5 {Z : State} {a0 : Array Value} (hw : ∀ d ∈ tables_1, d.before a0 Z = true) : (Jvm.Cond.constantLong "com/example/granary/granary/fix/FixWireNumberPinLaw" (33 : Nat) (15 : Int64)).before a0 Z = true := hw _ (List.mem_of_getElem? (i := 5) rfl)
theorem ww6 {Z : State} {a0 : Array Value} (hw : ∀ d ∈ tables_1, d.before a0 Z = true) : (Jvm.Cond.arrayClass Jvm.ClassFile.FieldType.int).before a0 Z = true := hw _ (List.mem_of_getElem? (i := 6) rfl)
theorem ww7 {Z : State} {a0 : Array Value} (hw : ∀ d ∈ tables_1, d.before a0 Z = true) : (Jvm.Cond.constant "com/example/granary/granary/fix/FixWireNumberPinLaw" (13 : Nat) (100000 : Int32)).before a0 Z = true := hw _ (List.mem_of_getElem? (i := 7) rfl)
theorem ww8 {Z : State} {a0 : Array Value} (hw : ∀ d ∈ tables_1, d.before a0 Z = true) : (Jvm.Cond.constant "com/example/granary/granary/fix/FixWireNumberPinLaw" (14 : Nat) (1000000 : Int32)).before a0 Z = true := hw _ (List.mem_of_getElem? (i := 8) rfl)
theorem ww9 {Z : State} {a0 : Array Value} (hw : ∀ d ∈ tables_1, d.before a0 Z = true) : (Jvm.Cond.constant "com/example/granary/granary/fix/FixWireNumberPinLaw" (15 : Nat) (10000000 : Int32)).before a0 Z = true := hw _ (List.mem_of_getElem? (i := 9) rfl)
theorem ww10 {Z : State} {a0 : Array Value} (hw : ∀ d ∈ tables_1, d.before a0 Z = true) : (Jvm.Cond.constant "com/example/granary/granary/fix/FixWireNumberPinLaw" (16 : Nat) (100000000 : Int32)).before a0 Z = true := hw _ (List.mem_of_getElem? (i := 10) rfl)
theorem ww11 {Z : State} {a0 : Array Value} (hw : ∀ d ∈ tables_1, d.before a0 Z = true) : (Jvm.Cond.constantLong "com/example/granary/granary/fix/FixWireNumberPinLaw" (17 : Nat) (-1 : Int64)).before a0 Z = true := hw _ (List.mem_of_getElem? (i := 11) rfl)
theorem ww12 {Z : State} {a0 : Array Value} (hw : ∀ d ∈ tables_1, d.before a0 Z = true) : (Jvm.Cond.methodLink "com/example/granary/granary/fix/FixWireNumberPinLaw" (27 : Nat) ({ cls := "com/example/granary/granary/fix/FixWire", name := "number", desc := "([BII)I" } : Jvm.MethodName)).before a0 Z = true := hw _ (List.mem_of_getElem? (i := 12) rfl)
theorem ww13 {Z : State} {a0 : Array Value} (hw : ∀ d ∈ tables_1, d.before a0 Z = true) : (Jvm.Cond.static ({ cls := "com/example/granary/granary/fix/FixWire", name := "number", desc := "([BII)I" } : Jvm.MethodName)).before a0 Z = true := hw _ (List.mem_of_getElem? (i := 13) rfl)
theorem ww14 {Z : State} {a0 : Array Value} (hw : ∀ d ∈ tables_1, d.before a0 Z = true) : (Jvm.Cond.initialized "com/example/granary/granary/fix/FixWire").before a0 Z = true := hw _ (List.mem_of_getElem? (i := 14) rfl)
theorem ww15 {Z : State} {a0 : Array Value} (hw : ∀ d ∈ tables_1, d.before a0 Z = true) : (Jvm.Cond.code ({ cls := "com/example/granary/granary/fix/FixWire", name := "number", desc := "([BII)I" } : Jvm.MethodName) prog_120_method_13_code (5 : Nat) (Option.some Jvm.ClassFile.FieldType.int)).before a0 Z = true := hw _ (List.mem_of_getElem? (i := 15) rfl)
theorem ww16 {Z : State} {a0 : Array Value} (hw : ∀ d ∈ tables_1, d.before a0 Z = true) : (Jvm.Cond.methodLink "com/example/granary/granary/fix/FixWireNumberPinLaw" (19 : Nat) ({ cls := "com/example/granary/granary/fix/FixWireNumberPinLaw", name := "bad", desc := "([BIII)Z" } : Jvm.MethodName)).before a0 Z = true := hw _ (List.mem_of_getElem? (i := 16) rfl)
theorem ww17 {Z : State} {a0 : Array Value} (hw : ∀ d ∈ tables_1, d.before a0 Z = true) : (Jvm.Cond.static ({ cls := "com/example/granary/granary/fix/FixWireNumberPinLaw", name := "bad", desc := "([BIII)Z" } : Jvm.MethodName)).before a0 Z = true := hw _ (List.mem_of_getElem? (i := 17) rfl)
theorem ww18 {Z : State} {a0 : Array Value} (hw : ∀ d ∈ tables_1, d.before a0 Z = true) : (Jvm.Cond.code ({ cls := "com/example/granary/granary/fix/FixWireNumberPinLaw", name := "bad", desc := "([BIII)Z" } : Jvm.MethodName) method_4_code (4 : Nat) (Option.some Jvm.ClassFile.FieldType.boolean)).before a0 Z = true := hw _ (List.mem_of_getElem? (i := 18) rfl)
theorem ww19 {Z : State} {a0 : Array Value} (hw : ∀ d ∈ tables_1, d.before a0 Z = true) : (Jvm.Cond.methodLink "com/example/granary/granary/fix/FixWireNumberPinLaw" (23 : Nat) ({ cls := "com/example/granary/granary/fix/FixWireNumberPinLaw", name := "term", desc := "([BIII[I)J" } : Jvm.MethodName)).before a0 Z = true := hw _ (List.mem_of_getElem? (i := 19) rfl)
theorem ww20 {Z : State} {a0 : Array Value} (hw : ∀ d ∈ tables_1, d.before a0 Z = true) : (Jvm.Cond.static ({ cls := "com/example/granary/granary/fix/FixWireNumberPinLaw", name := "term", desc := "([BIII[I)J" } : Jvm.MethodName)).before a0 Z = true := hw _ (List.mem_of_getElem? (i := 20) rfl)
theorem ww21 {Z : State} {a0 : Array Value} (hw : ∀ d ∈ tables_1, d.before a0 Z = true) : (Jvm.Cond.code ({ cls := "com/example/granary/granary/fix/FixWireNumberPinLaw", name := "term", desc := "([BIII[I)J" } : Jvm.MethodName) method_5_code (5 : Nat) (Option.some Jvm.ClassFile.FieldType.long)).before a0 Z = true := hw _ (List.mem_of_getElem? (i := 21) rfl)
/-! the plain law -/
def own_el (qs : List Int32) (j : Int32) : Int32 := qs.getD j.toNatClampNeg 0
def own_ps : List Int32 := [1, 10, 100, 1000, 10000, 100000, 1000000, 10000000, 100000000]
theorem own_hv (qs : List Int32) (j : Int32) : (qs.map Value.int).getD j.toNatClampNeg (.int (0 : Int32)) = .int (own_el qs j) := by
  unfold own_el
  generalize j.toNatClampNeg = k
  induction qs generalizing k with
  | nil => rfl
  | cons a r ih => cases k with
    | zero => rfl
    | succ k => exact ih k
def own_bad (qs : List Int32) (i f t : Int32) : Int32 := if (¬ i < f) ∧ i < t ∧ (own_el qs i < (48 : Int32) ∨ (57 : Int32) < own_el qs i) then 1 else 0
def own_term (qs : List Int32) (i f t : Int32) : Int64 := if i < f ∨ ¬ i < t then 0 else ((own_el qs i - (48 : Int32))).toInt64 * (own_el own_ps ((t - (1 : Int32)) - i)).toInt64
def own_loop (qs : List Int32) : Nat → Int32 → Int32 → Int32
  | 0, _, acc => acc
  | k + 1, i, acc => if own_el qs i < (48 : Int32) ∨ (57 : Int32) < own_el qs i then -1 else own_loop qs k (i + (1 : Int32)) (((acc * (10 : Int32)) + own_el qs i) - (48 : Int32))
def own_num (qs : List Int32) (f t : Int32) : Int32 := if ¬ f < t then -1 else if (9 : Int32) < t - f then -1 else own_loop qs (t.toInt - f.toInt).toNat f 0
def own_ok (f t : Int32) : Prop := 0 ≤ f.toInt ∧ f.toInt ≤ 12 ∧ 0 ≤ t.toInt ∧ t.toInt ≤ 12
theorem own_sub {f t : Int32} (h : own_ok f t) : (t - f).toInt = t.toInt - f.toInt := by
  obtain ⟨a, b, c, d⟩ := h
  have := c_isub t f
  have := Int32.le_toInt (t - f)
  have := Int32.toInt_lt (t - f)
  omega
theorem own_e (n : Int32) (k : Int) (h : n.toInt = k) : n.toInt = k := h
/-- the place in the table of powers lies inside -/
theorem own_inp {i f t : Int32} (h : own_ok f t) (h9 : ¬ (9 : Int32) < t - f) (h1 : ¬ i < f) (h2 : i < t) : ¬ ((t - (1 : Int32)) - i) < 0 ∧ ((t - (1 : Int32)) - i) < (9 : Int32) := by
  have hs := own_sub h
  obtain ⟨a, b, c, d⟩ := h
  have e0 : (0 : Int32).toInt = 0 := rfl
  have e1 : (1 : Int32).toInt = 1 := rfl
  have e9 : (9 : Int32).toInt = 9 := rfl
  rw [Int32.lt_iff_toInt_lt] at *
  rw [Int32.lt_iff_toInt_lt]
  have a1 := c_isub t 1
  have b1 := Int32.le_toInt (t - 1)
  have b2 := Int32.toInt_lt (t - 1)
  have a2 := c_isub (t - 1) i
  have b3 := Int32.le_toInt (t - 1 - i)
  have b4 := Int32.toInt_lt (t - 1 - i)
  omega
theorem own_inb {i f t : Int32} (h : own_ok f t) (h1 : ¬ i < f) (h2 : i < t) : ¬ i < 0 ∧ i < (12 : Int32) := by
  obtain ⟨a, b, c, d⟩ := h
  have e0 : (0 : Int32).toInt = 0 := rfl
  have e12 : (12 : Int32).toInt = 12 := rfl
  rw [Int32.lt_iff_toInt_lt] at *
  rw [Int32.lt_iff_toInt_lt]
  omega
theorem own_inc {i : Int32} (h0 : 0 ≤ i.toInt) (h1 : i.toInt ≤ 1000) : (i + 1).toInt = i.toInt + 1 := by
  have := c_iadd i 1
  have e1 : (1 : Int32).toInt = 1 := rfl
  have := Int32.le_toInt (i + 1)
  have := Int32.toInt_lt (i + 1)
  omega
theorem own_nat {i : Int32} : i.toNatClampNeg = i.toInt.toNat := rfl
/-- a sign that is no digit on the road: the loop answers -1 -/
theorem own_loopbad (qs : List Int32) : ∀ (k : Nat) (i acc : Int32) (j : Nat), 0 ≤ i.toInt → i.toInt + k ≤ 12 → i.toInt ≤ j → (j : Int) < i.toInt + k → (qs.getD j 0 < (48 : Int32) ∨ (57 : Int32) < qs.getD j 0) → own_loop qs k i acc = -1 := by
  intro k
  induction k with
  | zero => intro i acc j _ _ h1 h2; omega
  | succ k ih =>
    intro i acc j h0 h12 h1 h2 hb
    unfold own_loop
    by_cases q : own_el qs i < (48 : Int32) ∨ (57 : Int32) < own_el qs i
    · rw [if_pos q]
    · rw [if_neg q]
      have hne : (j : Int) ≠ i.toInt := by
        intro e
        apply q
        have : i.toNatClampNeg = j := by rw [own_nat]; omega
        unfold own_el
        rw [this]
        exact hb
      have hi := own_inc (i := i) h0 (by omega)
      exact ih (i + 1) _ j (by omega) (by omega) (by omega) (by omega) hb
def own_sumS (d : Nat → Int) : Nat → Nat → Int
  | 0, _ => 0
  | k + 1, i => d i * 10 ^ k + own_sumS d k (i + 1)
def own_dig (qs : List Int32) (j : Nat) : Int := (qs.getD j 0).toInt - 48
theorem own_loopv (qs : List Int32) : ∀ (k : Nat) (i acc : Int32) (A : Int), acc.toInt = A → 0 ≤ A → (A + 1) * 10 ^ k ≤ 1000000000 → 0 ≤ i.toInt → i.toInt + k ≤ 12 → (∀ j : Nat, i.toInt ≤ j → (j : Int) < i.toInt + k → 0 ≤ own_dig qs j ∧ own_dig qs j ≤ 9) → (own_loop qs k i acc).toInt = A * 10 ^ k + own_sumS (own_dig qs) k i.toNatClampNeg := by
  intro k
  induction k with
  | zero => intro i acc A h1 _ _ _ _ _; simp [own_loop, own_sumS, h1]
  | succ k ih =>
    intro i acc A h1 h2 h3 h4 h5 h6
    have hn : ((i.toNatClampNeg : Nat) : Int) = i.toInt := by rw [own_nat]; omega
    have dg := h6 i.toNatClampNeg (by omega) (by omega)
    have e48 : (48 : Int32).toInt = 48 := rfl
    have e57 : (57 : Int32).toInt = 57 := rfl
    have e10 : (10 : Int32).toInt = 10 := rfl
    have hel : (own_el qs i).toInt = own_dig qs i.toNatClampNeg + 48 := by unfold own_el own_dig; omega
    have pw : (10 : Int) ^ (k + 1) = 10 ^ k * 10 := Int.pow_succ 10 k
    have pp : (0 : Int) < 10 ^ k := Int.pow_pos (by decide)
    generalize hP : (10 : Int) ^ k = P at *
    have g1 : (A + 1) * (P * 10) = ((A + 1) * P) * 10 := (Int.mul_assoc _ _ _).symm
    have g2 : A + 1 ≤ (A + 1) * P := by
      have := Int.mul_le_mul_of_nonneg_left (show (1 : Int) ≤ P by omega) (show (0 : Int) ≤ A + 1 by omega)
      omega
    have hA : A + 1 ≤ 100000000 := by rw [pw, g1] at h3; omega
    unfold own_loop
    rw [if_neg (by rw [Int32.lt_iff_toInt_lt, Int32.lt_iff_toInt_lt]; omega)]
    have hi := own_inc (i := i) h4 (by omega)
    have m1 := c_imul acc 10
    have m2 := Int32.le_toInt (acc * 10)
    have m3 := Int32.toInt_lt (acc * 10)
    rw [h1, e10] at m1
    have m4 : (acc * 10).toInt = A * 10 := by omega
    have m5 := c_iadd (acc * 10) (own_el qs i)
    have m6 := Int32.le_toInt (acc * 10 + own_el qs i)
    have m7 := Int32.toInt_lt (acc * 10 + own_el qs i)
    have m8 := c_isub (acc * 10 + own_el qs i) 48
    have m9 := Int32.le_toInt (acc * 10 + own_el qs i - 48)
    have m10 := Int32.toInt_lt (acc * 10 + own_el qs i - 48)
    have hA' : (acc * 10 + own_el qs i - 48).toInt = A * 10 + own_dig qs i.toNatClampNeg := by omega
    have hnx : (i + 1).toNatClampNeg = i.toNatClampNeg + 1 := by rw [own_nat, own_nat, hi]; omega
    have b3 : (A * 10 + own_dig qs i.toNatClampNeg + 1) * P ≤ 1000000000 := by
      have q1 : (A * 10 + own_dig qs i.toNatClampNeg + 1) * P ≤ (A * 10 + 10) * P := Int.mul_le_mul_of_nonneg_right (by omega) (by omega)
      have q2 : (A * 10 + 10) * P = (A + 1) * (P * 10) := by rw [show A * 10 + 10 = (A + 1) * 10 by omega, Int.mul_assoc, Int.mul_comm 10 P]
      rw [pw] at h3
      omega
    have r := ih (i + 1) _ (A * 10 + own_dig qs i.toNatClampNeg) hA' (by omega) b3 (by omega) (by omega) (fun j u v => h6 j (by omega) (by omega))
    rw [r, hnx, pw]
    show _ = A * (P * 10) + (own_dig qs i.toNatClampNeg * 10 ^ k + own_sumS (own_dig qs) k (i.toNatClampNeg + 1))
    rw [hP, Int.add_mul, Int.mul_assoc, Int.mul_comm 10 P]
    omega
def own_sumT (d : Nat → Int) (F T i : Nat) : Int := if F ≤ i ∧ i < T then d i * 10 ^ (T - 1 - i) else 0
theorem own_sig (d : Nat → Int) (F T : Nat) (h1 : F < T) (h2 : T ≤ 12) (h3 : T ≤ F + 9) : own_sumT d F T 0 + own_sumT d F T 1 + own_sumT d F T 2 + own_sumT d F T 3 + own_sumT d F T 4 + own_sumT d F T 5 + own_sumT d F T 6 + own_sumT d F T 7 + own_sumT d F T 8 + own_sumT d F T 9 + own_sumT d F T 10 + own_sumT d F T 11 = own_sumS d (T - F) F := by
  have hF : F = 0 ∨ F = 1 ∨ F = 2 ∨ F = 3 ∨ F = 4 ∨ F = 5 ∨ F = 6 ∨ F = 7 ∨ F = 8 ∨ F = 9 ∨ F = 10 ∨ F = 11 := by omega
  have hT : ∃ k, k < 9 ∧ T = F + 1 + k := ⟨T - F - 1, by omega, by omega⟩
  obtain ⟨k, hk, rfl⟩ := hT
  have hk' : k = 0 ∨ k = 1 ∨ k = 2 ∨ k = 3 ∨ k = 4 ∨ k = 5 ∨ k = 6 ∨ k = 7 ∨ k = 8 := by omega
  rcases hF with rfl | rfl | rfl | rfl | rfl | rfl | rfl | rfl | rfl | rfl | rfl | rfl <;> rcases hk' with rfl | rfl | rfl | rfl | rfl | rfl | rfl | rfl | rfl <;> first | (exfalso; omega) | (simp [own_sumT, own_sumS] <;> omega)
theorem own_pow : ∀ k : Fin 9, (own_el own_ps (Int32.ofNat k.val)).toInt = 10 ^ k.val := by decide +kernel
theorem own_termv {qs : List Int32} {i f t : Int32} {n F T : Nat} (hi : i.toInt = n) (hF : f.toInt = F) (hT : t.toInt = T) (h : own_ok f t) (h9 : ¬ (9 : Int32) < t - f) (hd : F ≤ n → n < T → 0 ≤ own_dig qs n ∧ own_dig qs n ≤ 9) : (own_term qs i f t).toInt = own_sumT (own_dig qs) F T n ∧ 0 ≤ (own_term qs i f t).toInt ∧ (own_term qs i f t).toInt ≤ 900000000 := by
  unfold own_term own_sumT
  by_cases q : F ≤ n ∧ n < T
  · have q1 : ¬ i < f := by rw [Int32.lt_iff_toInt_lt]; omega
    have q2 : i < t := by rw [Int32.lt_iff_toInt_lt]; omega
    have dg := hd q.1 q.2
    have ip := own_inp h h9 q1 q2
    rw [if_neg (by simp [q1, q2]), if_pos q]
    obtain ⟨a, b, c, d⟩ := h
    have e1 : (1 : Int32).toInt = 1 := rfl
    have e48 : (48 : Int32).toInt = 48 := rfl
    have e0 : (0 : Int32).toInt = 0 := rfl
    have e9 : (9 : Int32).toInt = 9 := rfl
    rw [Int32.lt_iff_toInt_lt, Int32.lt_iff_toInt_lt] at ip
    have a1 := c_isub t 1
    have b1 := Int32.le_toInt (t - 1)
    have b2 := Int32.toInt_lt (t - 1)
    have a2 := c_isub (t - 1) i
    have b3 := Int32.le_toInt (t - 1 - i)
    have b4 := Int32.toInt_lt (t - 1 - i)
    have hx : (t - 1 - i).toInt = ((T - 1 - n : Nat) : Int) := by omega
    have hk : T - 1 - n < 9 := by omega
    have hj : t - 1 - i = Int32.ofNat (T - 1 - n) := by
      apply Int32.toInt_inj.mp
      rw [hx, Int32.toInt_ofNat_of_lt (by omega)]
    have hp := own_pow ⟨T - 1 - n, hk⟩
    rw [← hj] at hp
    have hel : (own_el qs i).toInt = own_dig qs n + 48 := by
      have : i.toNatClampNeg = n := by rw [own_nat]; omega
      unfold own_el own_dig; rw [this]; omega
    have s1 := c_isub (own_el qs i) 48
    have s2 := Int32.le_toInt (own_el qs i - 48)
    have s3 := Int32.toInt_lt (own_el qs i - 48)
    have hs : (own_el qs i - 48).toInt = own_dig qs n := by omega
    have m := c_lmul (own_el qs i - 48).toInt64 (own_el own_ps (t - 1 - i)).toInt64
    rw [c_i2l, c_i2l, hs, hp] at m
    have m1 := Int64.le_toInt ((own_el qs i - 48).toInt64 * (own_el own_ps (t - 1 - i)).toInt64)
    have m2 := Int64.toInt_lt ((own_el qs i - 48).toInt64 * (own_el own_ps (t - 1 - i)).toInt64)
    have pb : (10 : Int) ^ (T - 1 - n) ≤ 100000000 ∧ (0 : Int) < 10 ^ (T - 1 - n) := by
      refine ⟨?_, Int.pow_pos (by decide)⟩
      have := Nat.pow_le_pow_right (show 0 < 10 by decide) (show T - 1 - n ≤ 8 by omega)
      have e : ((10 ^ (T - 1 - n) : Nat) : Int) = (10 : Int) ^ (T - 1 - n) := by simp
      rw [← e]; omega
    have u1 : own_dig qs n * 10 ^ (T - 1 - n) ≤ 9 * 10 ^ (T - 1 - n) := Int.mul_le_mul_of_nonneg_right dg.2 (by omega)
    have u2 : 0 ≤ own_dig qs n * 10 ^ (T - 1 - n) := Int.mul_nonneg dg.1 (by omega)
    generalize own_dig qs n * 10 ^ (T - 1 - n) = Y at *
    refine ⟨?_, ?_, ?_⟩ <;> omega
  · have q1 : i < f ∨ ¬ i < t := by rw [Int32.lt_iff_toInt_lt, Int32.lt_iff_toInt_lt]; omega
    rw [if_pos q1, if_neg q]
    have : (0 : Int64).toInt = 0 := rfl
    omega
theorem own_bad0 {qs : List Int32} {i f t : Int32} (n : Nat) (hi : i.toInt = n) (h : own_bad qs i f t = (0 : Int32)) (h1 : f.toInt ≤ n) (h2 : (n : Int) < t.toInt) : 0 ≤ own_dig qs n ∧ own_dig qs n ≤ 9 := by
  unfold own_bad at h
  have e48 : (48 : Int32).toInt = 48 := rfl
  have e57 : (57 : Int32).toInt = 57 := rfl
  have hn : i.toNatClampNeg = n := by rw [own_nat]; omega
  by_cases q : own_el qs i < (48 : Int32) ∨ (57 : Int32) < own_el qs i
  · rw [if_pos ⟨by rw [Int32.lt_iff_toInt_lt]; omega, by rw [Int32.lt_iff_toInt_lt]; omega, q⟩] at h
    exact absurd h (by decide)
  · unfold own_el at q
    rw [hn, Int32.lt_iff_toInt_lt, Int32.lt_iff_toInt_lt] at q
    unfold own_dig
    omega
theorem own_numlt {qs : List Int32} {f t : Int32} (h : ¬ f < t) : (own_num qs f t).toInt64 = (-1 : Int64) := by unfold own_num; rw [if_pos h]; decide
theorem own_num9 {qs : List Int32} {f t : Int32} (h : (9 : Int32) < t - f) : (own_num qs f t).toInt64 = (-1 : Int64) := by
  unfold own_num
  by_cases q : ¬ f < t
  · rw [if_pos q]; decide
  · rw [if_neg q, if_pos h]; decide
theorem own_numbad {qs : List Int32} {i f t : Int32} (n : Nat) (hi : i.toInt = n) (ok : own_ok f t) (h9 : ¬ (9 : Int32) < t - f) (h : ¬ own_bad qs i f t = (0 : Int32)) : (own_num qs f t).toInt64 = (-1 : Int64) := by
  unfold own_bad at h
  have hn : i.toNatClampNeg = n := by rw [own_nat]; omega
  by_cases q : (¬ i < f) ∧ i < t ∧ (own_el qs i < (48 : Int32) ∨ (57 : Int32) < own_el qs i)
  · obtain ⟨q1, q2, q3⟩ := q
    unfold own_el at q3
    rw [hn] at q3
    rw [Int32.lt_iff_toInt_lt] at q1 q2
    obtain ⟨a, b, c, d⟩ := ok
    have hft : f < t := by rw [Int32.lt_iff_toInt_lt]; omega
    unfold own_num
    rw [if_neg (by simp [hft]), if_neg h9, own_loopbad qs _ f 0 n a (by omega) (by omega) (by omega) q3]
    decide
  · rw [if_neg q] at h; exact absurd rfl h
theorem own_numgood {qs : List Int32} {f t : Int32} (ok : own_ok f t) (hft : f < t) (h9 : ¬ (9 : Int32) < t - f) (b0 : own_bad qs 0 f t = 0) (b1 : own_bad qs 1 f t = 0) (b2 : own_bad qs 2 f t = 0) (b3 : own_bad qs 3 f t = 0) (b4 : own_bad qs 4 f t = 0) (b5 : own_bad qs 5 f t = 0) (b6 : own_bad qs 6 f t = 0) (b7 : own_bad qs 7 f t = 0) (b8 : own_bad qs 8 f t = 0) (b9 : own_bad qs 9 f t = 0) (b10 : own_bad qs 10 f t = 0) (b11 : own_bad qs 11 f t = 0) :
    (own_num qs f t).toInt64 = own_term qs 0 f t + own_term qs 1 f t + own_term qs 2 f t + own_term qs 3 f t + own_term qs 4 f t + own_term qs 5 f t + own_term qs 6 f t + own_term qs 7 f t + own_term qs 8 f t + own_term qs 9 f t + own_term qs 10 f t + own_term qs 11 f t := by
  have hs := own_sub ok
  have ok' := ok
  obtain ⟨a, b, c, d⟩ := ok
  obtain ⟨F, hF⟩ : ∃ F : Nat, f.toInt = F := ⟨f.toInt.toNat, by omega⟩
  obtain ⟨T, hT⟩ : ∃ T : Nat, t.toInt = T := ⟨t.toInt.toNat, by omega⟩
  have e9 : (9 : Int32).toInt = 9 := rfl
  have hft' := hft
  rw [Int32.lt_iff_toInt_lt] at hft'
  have h9' := h9
  rw [Int32.lt_iff_toInt_lt] at h9'
  have dig : ∀ n : Nat, F ≤ n → n < T → 0 ≤ own_dig qs n ∧ own_dig qs n ≤ 9 := by
    intro n u v
    have hn : n = 0 ∨ n = 1 ∨ n = 2 ∨ n = 3 ∨ n = 4 ∨ n = 5 ∨ n = 6 ∨ n = 7 ∨ n = 8 ∨ n = 9 ∨ n = 10 ∨ n = 11 := by omega
    rcases hn with rfl | rfl | rfl | rfl | rfl | rfl | rfl | rfl | rfl | rfl | rfl | rfl
    · exact own_bad0 0 rfl b0 (by omega) (by omega)
    · exact own_bad0 1 rfl b1 (by omega) (by omega)
    · exact own_bad0 2 rfl b2 (by omega) (by omega)
    · exact own_bad0 3 rfl b3 (by omega) (by omega)
    · exact own_bad0 4 rfl b4 (by omega) (by omega)
    · exact own_bad0 5 rfl b5 (by omega) (by omega)
    · exact own_bad0 6 rfl b6 (by omega) (by omega)
    · exact own_bad0 7 rfl b7 (by omega) (by omega)
    · exact own_bad0 8 rfl b8 (by omega) (by omega)
    · exact own_bad0 9 rfl b9 (by omega) (by omega)
    · exact own_bad0 10 rfl b10 (by omega) (by omega)
    · exact own_bad0 11 rfl b11 (by omega) (by omega)
  have lv := own_loopv qs (T - F) f 0 0 rfl (by decide) (by
    have : (10 : Nat) ^ (T - F) ≤ 10 ^ 9 := Nat.pow_le_pow_right (by decide) (by omega)
    have e : ((10 ^ (T - F) : Nat) : Int) = (10 : Int) ^ (T - F) := by simp
    rw [← e]; omega) a (by omega) (fun j u v => dig j (by omega) (by omega))
  have hk : (t.toInt - f.toInt).toNat = T - F := by omega
  have hfn : f.toNatClampNeg = F := by rw [own_nat]; omega
  rw [hfn, Int.zero_mul, Int.zero_add] at lv
  have sg := own_sig (own_dig qs) F T (by omega) (by omega) (by omega)
  have t0 := own_termv (qs := qs) (i := 0) (n := 0) rfl hF hT ok' h9 (dig 0)
  have t1 := own_termv (qs := qs) (i := 1) (n := 1) rfl hF hT ok' h9 (dig 1)
  have t2 := own_termv (qs := qs) (i := 2) (n := 2) rfl hF hT ok' h9 (dig 2)
  have t3 := own_termv (qs := qs) (i := 3) (n := 3) rfl hF hT ok' h9 (dig 3)
  have t4 := own_termv (qs := qs) (i := 4) (n := 4) rfl hF hT ok' h9 (dig 4)
  have t5 := own_termv (qs := qs) (i := 5) (n := 5) rfl hF hT ok' h9 (dig 5)
  have t6 := own_termv (qs := qs) (i := 6) (n := 6) rfl hF hT ok' h9 (dig 6)
  have t7 := own_termv (qs := qs) (i := 7) (n := 7) rfl hF hT ok' h9 (dig 7)
  have t8 := own_termv (qs := qs) (i := 8) (n := 8) rfl hF hT ok' h9 (dig 8)
  have t9 := own_termv (qs := qs) (i := 9) (n := 9) rfl hF hT ok' h9 (dig 9)
  have t10 := own_termv (qs := qs) (i := 10) (n := 10) rfl hF hT ok' h9 (dig 10)
  have t11 := own_termv (qs := qs) (i := 11) (n := 11) rfl hF hT ok' h9 (dig 11)
  have ad : ∀ {x y : Int64} {N : Int}, 0 ≤ x.toInt → x.toInt ≤ N → N ≤ 100000000000 → 0 ≤ y.toInt → y.toInt ≤ 900000000 → (x + y).toInt = x.toInt + y.toInt ∧ 0 ≤ (x + y).toInt ∧ (x + y).toInt ≤ N + 900000000 := by
    intro x y N q1 q2 q3 q4 q5
    have m := c_ladd x y
    have m1 := Int64.le_toInt (x + y)
    have m2 := Int64.toInt_lt (x + y)
    omega
  have r1 := ad t0.2.1 t0.2.2 (by decide) t1.2.1 t1.2.2
  have r2 := ad r1.2.1 r1.2.2 (by decide) t2.2.1 t2.2.2
  have r3 := ad r2.2.1 r2.2.2 (by decide) t3.2.1 t3.2.2
  have r4 := ad r3.2.1 r3.2.2 (by decide) t4.2.1 t4.2.2
  have r5 := ad r4.2.1 r4.2.2 (by decide) t5.2.1 t5.2.2
  have r6 := ad r5.2.1 r5.2.2 (by decide) t6.2.1 t6.2.2
  have r7 := ad r6.2.1 r6.2.2 (by decide) t7.2.1 t7.2.2
  have r8 := ad r7.2.1 r7.2.2 (by decide) t8.2.1 t8.2.2
  have r9 := ad r8.2.1 r8.2.2 (by decide) t9.2.1 t9.2.2
  have r10 := ad r9.2.1 r9.2.2 (by decide) t10.2.1 t10.2.2
  have r11 := ad r10.2.1 r10.2.2 (by decide) t11.2.1 t11.2.2
  apply Int64.toInt_inj.mp
  rw [c_i2l]
  have hnum : own_num qs f t = own_loop qs (T - F) f 0 := by unfold own_num; rw [if_neg (by simp [hft]), if_neg h9, hk]
  rw [hnum, lv, ← sg]
  omega
theorem own_rng (y : Int32) : 0 ≤ ((y &&& (15 : Int32)) % (13 : Int32)).toInt ∧ ((y &&& (15 : Int32)) % (13 : Int32)).toInt ≤ 12 := by
  have e15 : (15 : Int32).toInt = 15 := rfl
  have a := c_and y 15 (by decide)
  have r := (c_irem (y &&& 15) 13 13 rfl).1 a.1
  omega
theorem own_pn1 : plainFor (⟨"com/example/granary/granary/fix/FixWireNumberPinLaw", "cell", "(JJIII)B"⟩ : MethodName) = true := plainFor_of_name (by first | (simp [plainName, overriddenIn]; done) | decide +kernel)
theorem d1_0 : decode method_3_code 0 = .ok (.iload 5, 2) := by decide +kernel
theorem d1_2 : decode method_3_code 2 = .ok (.iload 6, 2) := by decide +kernel
theorem d1_4 : decode method_3_code 4 = .ok (.iushr, 1) := by decide +kernel
theorem d1_5 : decode method_3_code 5 = .ok (.iconst 1, 1) := by decide +kernel
theorem d1_6 : decode method_3_code 6 = .ok (.iand, 1) := by decide +kernel
theorem d1_7 : decode method_3_code 7 = .ok (.ifCond .eq 35, 3) := by decide +kernel
theorem d1_42 : decode method_3_code 42 = .ok (.lload_n 0, 1) := by decide +kernel
theorem d1_43 : decode method_3_code 43 = .ok (.iconst 4, 1) := by decide +kernel
theorem d1_44 : decode method_3_code 44 = .ok (.iload 6, 2) := by decide +kernel
theorem d1_46 : decode method_3_code 46 = .ok (.imul, 1) := by decide +kernel
theorem d1_47 : decode method_3_code 47 = .ok (.lushr, 1) := by decide +kernel
theorem d1_48 : decode method_3_code 48 = .ok (.ldc2_w 33, 3) := by decide +kernel
theorem d1_51 : decode method_3_code 51 = .ok (.land, 1) := by decide +kernel
theorem d1_52 : decode method_3_code 52 = .ok (.l2i, 1) := by decide +kernel
theorem d1_53 : decode method_3_code 53 = .ok (.bipush 10, 2) := by decide +kernel
theorem d1_55 : decode method_3_code 55 = .ok (.irem, 1) := by decide +kernel
theorem d1_56 : decode method_3_code 56 = .ok (.istore 7, 2) := by decide +kernel
theorem d1_58 : decode method_3_code 58 = .ok (.bipush 48, 2) := by decide +kernel
theorem d1_60 : decode method_3_code 60 = .ok (.iload 7, 2) := by decide +kernel
theorem d1_62 : decode method_3_code 62 = .ok (.iadd, 1) := by decide +kernel
theorem d1_63 : decode method_3_code 63 = .ok (.i2b, 1) := by decide +kernel
theorem d1_64 : decode method_3_code 64 = .ok (.ireturn, 1) := by decide +kernel
theorem d1_10 : decode method_3_code 10 = .ok (.iload 6, 2) := by decide +kernel
theorem d1_12 : decode method_3_code 12 = .ok (.bipush 8, 2) := by decide +kernel
theorem d1_14 : decode method_3_code 14 = .ok (.if_icmp .ge 15, 3) := by decide +kernel
theorem d1_17 : decode method_3_code 17 = .ok (.lload_n 2, 1) := by decide +kernel
theorem d1_18 : decode method_3_code 18 = .ok (.bipush 8, 2) := by decide +kernel
theorem d1_20 : decode method_3_code 20 = .ok (.iload 6, 2) := by decide +kernel
theorem d1_22 : decode method_3_code 22 = .ok (.imul, 1) := by decide +kernel
theorem d1_23 : decode method_3_code 23 = .ok (.lushr, 1) := by decide +kernel
theorem d1_24 : decode method_3_code 24 = .ok (.l2i, 1) := by decide +kernel
theorem d1_25 : decode method_3_code 25 = .ok (.i2b, 1) := by decide +kernel
theorem d1_26 : decode method_3_code 26 = .ok (.goto 15, 3) := by decide +kernel
theorem d1_41 : decode method_3_code 41 = .ok (.ireturn, 1) := by decide +kernel
theorem d1_29 : decode method_3_code 29 = .ok (.iload 4, 2) := by decide +kernel
theorem d1_31 : decode method_3_code 31 = .ok (.bipush 8, 2) := by decide +kernel
theorem d1_33 : decode method_3_code 33 = .ok (.iload 6, 2) := by decide +kernel
theorem d1_35 : decode method_3_code 35 = .ok (.bipush 8, 2) := by decide +kernel
theorem d1_37 : decode method_3_code 37 = .ok (.isub, 1) := by decide +kernel
theorem d1_38 : decode method_3_code 38 = .ok (.imul, 1) := by decide +kernel
theorem d1_39 : decode method_3_code 39 = .ok (.iushr, 1) := by decide +kernel
theorem d1_40 : decode method_3_code 40 = .ok (.i2b, 1) := by decide +kernel
theorem own_ef1_own_rmC (m : MethodId) (y0 : Int64) (y1 : Int64) (y2 : Int32) (y3 : Int32) (y4 : Int32) : entryFrame m #[(.long y0), (.long y1), (.int y2), (.int y3), (.int y4)] 8 = mkF m 0 #[.val (.long y0), .second, .val (.long y1), .second, .val (.int y2), .val (.int y3), .val (.int y4), .unset] [] := by first | (simp [entryFrame, mkF, argsToLocals, Value.category]; done) | rfl
set_option maxRecDepth 65536 in
set_option maxHeartbeats 40000000 in
theorem own_rmC (l : Launch) (Z : State) (a0 : Array Value) (hw : ∀ d ∈ tables_1, d.before a0 Z = true) (q0 q1 : Int64) (p2 p3 p4 : Int32) (h0 : Heap) (n0 : Nat) (Z0 : n0 ≤ h0.size)  :
    own_Met l Z (⟨"com/example/granary/granary/fix/FixWireNumberPinLaw", "cell", "(JJIII)B"⟩ : MethodName) method_3_code 8 (some .byte) [] ({ frames := 0, cells := 0, slots := 0, locals := 0 } : Room) #[(.long q0), (.long q1), (.int p2), (.int p3), (.int p4)] h0 (fun v h L => ∃ z : Int32, v = some (.int z) ∧ Fr n0 L ∧ h = h0) := by
  refine own_met own_pn1 ?_
  intro p e s m below meth c s₁ hx hby hml hown hnm hret hlk hZ X0 e0
  have N0 := Fr.nil n0
  refine own_cast (own_ef1_own_rmC m q0 q1 p2 p3 p4) ?_
  refine own_iload (n := 2) X0 hx (hb hby d1_0) rfl rfl ?_
  refine own_iload (n := 4) X0 hx (hb hby d1_2) rfl rfl ?_
  refine own_iushr (n := 5) X0 hx (hb hby d1_4) rfl rfl ?_
  refine own_iconst (n := 6) (z := (1 : Int32)) X0 hx (hb hby d1_5) rfl rfl ?_
  refine own_iand (n := 7) X0 hx (hb hby d1_6) rfl rfl ?_
  by_cases hc7_1 : (((p3).toUInt32 >>> (p4 &&& 31).toUInt32).toInt32 &&& (1 : Int32)) = (0 : Int32)
  · skip
    refine own_ifYes (n := 42) X0 hx (hb hby d1_7) (teq hc7_1).1 (by decide) (by decide) ?_
    refine own_lloadN (n := 43) X0 hx (hb hby d1_42) rfl rfl ?_
    refine own_iconst (n := 44) (z := (4 : Int32)) X0 hx (hb hby d1_43) rfl rfl ?_
    refine own_iload (n := 46) X0 hx (hb hby d1_44) rfl rfl ?_
    refine own_imul (n := 47) X0 hx (hb hby d1_46) rfl rfl ?_
    refine own_lushr (n := 48) X0 hx (hb hby d1_47) rfl rfl ?_
    refine own_ldc2_w (n := 51) (v := (15 : Int64)) X0 hx hZ hown (ww5 hw) (hb hby d1_48) rfl ?_
    refine own_land (n := 52) X0 hx (hb hby d1_51) rfl rfl ?_
    refine own_l2i (n := 53) X0 hx (hb hby d1_52) rfl rfl ?_
    refine own_bipush (n := 55) (z := (10 : Int32)) X0 hx (hb hby d1_53) rfl rfl ?_
    refine own_irem (n := 56) X0 hx (hb hby d1_55) (by decide) rfl ?_
    refine own_istore (n := 58) (l' := #[.val (.long q0), .second, .val (.long q1), .second, .val (.int p2), .val (.int p3), .val (.int p4), .val (.int (((((q0).toUInt64 >>> (((4 : Int32) * p4) &&& 63).toInt64.toUInt64).toInt64 &&& (15 : Int64))).toInt32 % (10 : Int32)))]) X0 hx (hb hby d1_56) rfl rfl ?_
    refine own_bipush (n := 60) (z := (48 : Int32)) X0 hx (hb hby d1_58) rfl rfl ?_
    refine own_iload (n := 62) X0 hx (hb hby d1_60) rfl rfl ?_
    refine own_iadd (n := 63) X0 hx (hb hby d1_62) rfl rfl ?_
    refine own_i2b (n := 64) X0 hx (hb hby d1_63) rfl rfl ?_
    refine own_retZ X0 hx hlk hret (by simp) e0 (w := (nar .byte (((48 : Int32) + (((((q0).toUInt64 >>> (((4 : Int32) * p4) &&& 63).toInt64.toUInt64).toInt64 &&& (15 : Int64))).toInt32 % (10 : Int32)))).toInt8.toInt32)) rfl (hb hby d1_64) (by decide) (by decide) ?_
    exact ⟨_, rfl, N0, rfl⟩
  · skip
    refine own_ifNo (n := 10) X0 hx (hb hby d1_7) (feq hc7_1).1 rfl ?_
    refine own_iload (n := 12) X0 hx (hb hby d1_10) rfl rfl ?_
    refine own_bipush (n := 14) (z := (8 : Int32)) X0 hx (hb hby d1_12) rfl rfl ?_
    by_cases hc14_2 : p4 < (8 : Int32)
    · skip
      refine own_icmpNo (n := 17) X0 hx (hb hby d1_14) (tlt hc14_2).2.1 rfl ?_
      refine own_lloadN (n := 18) X0 hx (hb hby d1_17) rfl rfl ?_
      refine own_bipush (n := 20) (z := (8 : Int32)) X0 hx (hb hby d1_18) rfl rfl ?_
      refine own_iload (n := 22) X0 hx (hb hby d1_20) rfl rfl ?_
      refine own_imul (n := 23) X0 hx (hb hby d1_22) rfl rfl ?_
      refine own_lushr (n := 24) X0 hx (hb hby d1_23) rfl rfl ?_
      refine own_l2i (n := 25) X0 hx (hb hby d1_24) rfl rfl ?_
      refine own_i2b (n := 26) X0 hx (hb hby d1_25) rfl rfl ?_
      refine own_goto (n := 41) X0 hx (hb hby d1_26) (by decide) (by decide) ?_
      refine own_retZ X0 hx hlk hret (by simp) e0 (w := (nar .byte ((((q1).toUInt64 >>> (((8 : Int32) * p4) &&& 63).toInt64.toUInt64).toInt64).toInt32).toInt8.toInt32)) rfl (hb hby d1_41) (by decide) (by decide) ?_
      exact ⟨_, rfl, N0, rfl⟩
    · skip
      refine own_icmpYes (n := 29) X0 hx (hb hby d1_14) (flt hc14_2).2.1 (by decide) (by decide) ?_
      refine own_iload (n := 31) X0 hx (hb hby d1_29) rfl rfl ?_
      refine own_bipush (n := 33) (z := (8 : Int32)) X0 hx (hb hby d1_31) rfl rfl ?_
      refine own_iload (n := 35) X0 hx (hb hby d1_33) rfl rfl ?_
      refine own_bipush (n := 37) (z := (8 : Int32)) X0 hx (hb hby d1_35) rfl rfl ?_
      refine own_isub (n := 38) X0 hx (hb hby d1_37) rfl rfl ?_
      refine own_imul (n := 39) X0 hx (hb hby d1_38) rfl rfl ?_
      refine own_iushr (n := 40) X0 hx (hb hby d1_39) rfl rfl ?_
      refine own_i2b (n := 41) X0 hx (hb hby d1_40) rfl rfl ?_
      refine own_retZ X0 hx hlk hret (by simp) e0 (w := (nar .byte (((p2).toUInt32 >>> (((8 : Int32) * (p4 - (8 : Int32))) &&& 31).toUInt32).toInt32).toInt8.toInt32)) rfl (hb hby d1_41) (by decide) (by decide) ?_
      exact ⟨_, rfl, N0, rfl⟩
theorem own_pn3 : plainFor (⟨"com/example/granary/granary/fix/FixWireNumberPinLaw", "bad", "([BIII)Z"⟩ : MethodName) = true := plainFor_of_name (by first | (simp [plainName, overriddenIn]; done) | decide +kernel)
theorem d3_0 : decode method_4_code 0 = .ok (.iload_n 2, 1) := by decide +kernel
theorem d3_1 : decode method_4_code 1 = .ok (.iload_n 1, 1) := by decide +kernel
theorem d3_2 : decode method_4_code 2 = .ok (.if_icmp .gt 28, 3) := by decide +kernel
theorem d3_30 : decode method_4_code 30 = .ok (.iconst 0, 1) := by decide +kernel
theorem d3_31 : decode method_4_code 31 = .ok (.ireturn, 1) := by decide +kernel
theorem d3_5 : decode method_4_code 5 = .ok (.iload_n 1, 1) := by decide +kernel
theorem d3_6 : decode method_4_code 6 = .ok (.iload_n 3, 1) := by decide +kernel
theorem d3_7 : decode method_4_code 7 = .ok (.if_icmp .ge 23, 3) := by decide +kernel
theorem d3_10 : decode method_4_code 10 = .ok (.aload_n 0, 1) := by decide +kernel
theorem d3_11 : decode method_4_code 11 = .ok (.iload_n 1, 1) := by decide +kernel
theorem d3_12 : decode method_4_code 12 = .ok (.baload, 1) := by decide +kernel
theorem d3_13 : decode method_4_code 13 = .ok (.bipush 48, 2) := by decide +kernel
theorem d3_15 : decode method_4_code 15 = .ok (.if_icmp .lt 11, 3) := by decide +kernel
theorem d3_26 : decode method_4_code 26 = .ok (.iconst 1, 1) := by decide +kernel
theorem d3_27 : decode method_4_code 27 = .ok (.goto 4, 3) := by decide +kernel
theorem d3_18 : decode method_4_code 18 = .ok (.aload_n 0, 1) := by decide +kernel
theorem d3_19 : decode method_4_code 19 = .ok (.iload_n 1, 1) := by decide +kernel
theorem d3_20 : decode method_4_code 20 = .ok (.baload, 1) := by decide +kernel
theorem d3_21 : decode method_4_code 21 = .ok (.bipush 57, 2) := by decide +kernel
theorem d3_23 : decode method_4_code 23 = .ok (.if_icmp .le 7, 3) := by decide +kernel
theorem own_ef3_own_rmB (m : MethodId) (y0 : Addr) (y1 : Int32) (y2 : Int32) (y3 : Int32) : entryFrame m #[(.ref y0), (.int y1), (.int y2), (.int y3)] 4 = mkF m 0 #[.val (.ref y0), .val (.int y1), .val (.int y2), .val (.int y3)] [] := by first | (simp [entryFrame, mkF, argsToLocals, Value.category]; done) | rfl
set_option maxRecDepth 65536 in
set_option maxHeartbeats 40000000 in
theorem own_rmB (l : Launch) (Z : State) (a0 : Array Value) (hw : ∀ d ∈ tables_1, d.before a0 Z = true) (a : Addr) (kb : ClassId) (qs : List Int32) (p1 p2 p3 : Int32) (h0 : Heap) (n0 : Nat) (Z0 : n0 ≤ h0.size) (V0 : Arv Z h0 a kb .byte (12 : Int32) (qs.map Value.int) (.int (0 : Int32))) (ok : own_ok p2 p3) :
    own_Met l Z (⟨"com/example/granary/granary/fix/FixWireNumberPinLaw", "bad", "([BIII)Z"⟩ : MethodName) method_4_code 4 (some .boolean) [] ({ frames := 0, cells := 0, slots := 0, locals := 0 } : Room) #[(.ref a), (.int p1), (.int p2), (.int p3)] h0 (fun v h L => v = some (.int (own_bad qs p1 p2 p3)) ∧ Fr n0 L ∧ h = h0) := by
  refine own_met own_pn3 ?_
  intro p e s m below meth c s₁ hx hby hml hown hnm hret hlk hZ X0 e0
  have N0 := Fr.nil n0
  refine own_cast (own_ef3_own_rmB m a p1 p2 p3) ?_
  refine own_iloadN (n := 1) X0 hx (hb hby d3_0) rfl rfl ?_
  refine own_iloadN (n := 2) X0 hx (hb hby d3_1) rfl rfl ?_
  by_cases hc2_1 : p1 < p2
  · skip
    refine own_icmpYes (n := 30) X0 hx (hb hby d3_2) (tlt hc2_1).2.2.1 (by decide) (by decide) ?_
    refine own_iconst (n := 31) (z := (0 : Int32)) X0 hx (hb hby d3_30) rfl rfl ?_
    refine own_retZ X0 hx hlk hret (by simp) e0 (w := (0 : Int32)) rfl (hb hby d3_31) (by decide) (by decide) ?_
    exact ⟨by simp [own_bad, hc2_1], N0, rfl⟩
  · skip
    refine own_icmpNo (n := 5) X0 hx (hb hby d3_2) (flt hc2_1).2.2.1 rfl ?_
    refine own_iloadN (n := 6) X0 hx (hb hby d3_5) rfl rfl ?_
    refine own_iloadN (n := 7) X0 hx (hb hby d3_6) rfl rfl ?_
    by_cases hc7_2 : p1 < p3
    · skip
      refine own_icmpNo (n := 10) X0 hx (hb hby d3_7) (tlt hc7_2).2.1 rfl ?_
      refine own_aloadN (n := 11) X0 hx (hb hby d3_10) rfl rfl rfl ?_
      refine own_iloadN (n := 12) X0 hx (hb hby d3_11) rfl rfl ?_
      refine own_ld_baload (n := 13) (v := (.int (own_el qs p1))) X0 hx hZ e0 V0 (own_inb ok (by assumption) (by assumption)) (own_hv qs _) (hb hby d3_12) rfl ?_
      refine own_bipush (n := 15) (z := (48 : Int32)) X0 hx (hb hby d3_13) rfl rfl ?_
      by_cases hc15_3 : (own_el qs p1) < (48 : Int32)
      · skip
        refine own_icmpYes (n := 26) X0 hx (hb hby d3_15) (tlt hc15_3).1 (by decide) (by decide) ?_
        refine own_iconst (n := 27) (z := (1 : Int32)) X0 hx (hb hby d3_26) rfl rfl ?_
        refine own_goto (n := 31) X0 hx (hb hby d3_27) (by decide) (by decide) ?_
        refine own_retZ X0 hx hlk hret (by simp) e0 (w := (1 : Int32)) rfl (hb hby d3_31) (by decide) (by decide) ?_
        exact ⟨by simp [own_bad, hc2_1, hc7_2, hc15_3], N0, rfl⟩
      · skip
        refine own_icmpNo (n := 18) X0 hx (hb hby d3_15) (flt hc15_3).1 rfl ?_
        refine own_aloadN (n := 19) X0 hx (hb hby d3_18) rfl rfl rfl ?_
        refine own_iloadN (n := 20) X0 hx (hb hby d3_19) rfl rfl ?_
        refine own_ld_baload (n := 21) (v := (.int (own_el qs p1))) X0 hx hZ e0 V0 (own_inb ok (by assumption) (by assumption)) (own_hv qs _) (hb hby d3_20) rfl ?_
        refine own_bipush (n := 23) (z := (57 : Int32)) X0 hx (hb hby d3_21) rfl rfl ?_
        by_cases hc23_4 : (57 : Int32) < (own_el qs p1)
        · skip
          refine own_icmpNo (n := 26) X0 hx (hb hby d3_23) (tlt hc23_4).2.2.2 rfl ?_
          refine own_iconst (n := 27) (z := (1 : Int32)) X0 hx (hb hby d3_26) rfl rfl ?_
          refine own_goto (n := 31) X0 hx (hb hby d3_27) (by decide) (by decide) ?_
          refine own_retZ X0 hx hlk hret (by simp) e0 (w := (1 : Int32)) rfl (hb hby d3_31) (by decide) (by decide) ?_
          exact ⟨by simp [own_bad, hc2_1, hc7_2, hc15_3, hc23_4], N0, rfl⟩
        · skip
          refine own_icmpYes (n := 30) X0 hx (hb hby d3_23) (flt hc23_4).2.2.2 (by decide) (by decide) ?_
          refine own_iconst (n := 31) (z := (0 : Int32)) X0 hx (hb hby d3_30) rfl rfl ?_
          refine own_retZ X0 hx hlk hret (by simp) e0 (w := (0 : Int32)) rfl (hb hby d3_31) (by decide) (by decide) ?_
          exact ⟨by simp [own_bad, hc2_1, hc7_2, hc15_3, hc23_4], N0, rfl⟩
    · skip
      refine own_icmpYes (n := 30) X0 hx (hb hby d3_7) (flt hc7_2).2.1 (by decide) (by decide) ?_
      refine own_iconst (n := 31) (z := (0 : Int32)) X0 hx (hb hby d3_30) rfl rfl ?_
      refine own_retZ X0 hx hlk hret (by simp) e0 (w := (0 : Int32)) rfl (hb hby d3_31) (by decide) (by decide) ?_
      exact ⟨by simp [own_bad, hc2_1, hc7_2], N0, rfl⟩
theorem own_pn4 : plainFor (⟨"com/example/granary/granary/fix/FixWireNumberPinLaw", "term", "([BIII[I)J"⟩ : MethodName) = true := plainFor_of_name (by first | (simp [plainName, overriddenIn]; done) | decide +kernel)
theorem d4_0 : decode method_5_code 0 = .ok (.iload_n 1, 1) := by decide +kernel
theorem d4_1 : decode method_5_code 1 = .ok (.iload_n 2, 1) := by decide +kernel
theorem d4_2 : decode method_5_code 2 = .ok (.if_icmp .lt 8, 3) := by decide +kernel
theorem d4_10 : decode method_5_code 10 = .ok (.lconst 0, 1) := by decide +kernel
theorem d4_11 : decode method_5_code 11 = .ok (.lreturn, 1) := by decide +kernel
theorem d4_5 : decode method_5_code 5 = .ok (.iload_n 1, 1) := by decide +kernel
theorem d4_6 : decode method_5_code 6 = .ok (.iload_n 3, 1) := by decide +kernel
theorem d4_7 : decode method_5_code 7 = .ok (.if_icmp .lt 5, 3) := by decide +kernel
theorem d4_12 : decode method_5_code 12 = .ok (.aload_n 0, 1) := by decide +kernel
theorem d4_13 : decode method_5_code 13 = .ok (.iload_n 1, 1) := by decide +kernel
theorem d4_14 : decode method_5_code 14 = .ok (.baload, 1) := by decide +kernel
theorem d4_15 : decode method_5_code 15 = .ok (.bipush 48, 2) := by decide +kernel
theorem d4_17 : decode method_5_code 17 = .ok (.isub, 1) := by decide +kernel
theorem d4_18 : decode method_5_code 18 = .ok (.i2l, 1) := by decide +kernel
theorem d4_19 : decode method_5_code 19 = .ok (.aload 4, 2) := by decide +kernel
theorem d4_21 : decode method_5_code 21 = .ok (.iload_n 3, 1) := by decide +kernel
theorem d4_22 : decode method_5_code 22 = .ok (.iconst 1, 1) := by decide +kernel
theorem d4_23 : decode method_5_code 23 = .ok (.isub, 1) := by decide +kernel
theorem d4_24 : decode method_5_code 24 = .ok (.iload_n 1, 1) := by decide +kernel
theorem d4_25 : decode method_5_code 25 = .ok (.isub, 1) := by decide +kernel
theorem d4_26 : decode method_5_code 26 = .ok (.iaload, 1) := by decide +kernel
theorem d4_27 : decode method_5_code 27 = .ok (.i2l, 1) := by decide +kernel
theorem d4_28 : decode method_5_code 28 = .ok (.lmul, 1) := by decide +kernel
theorem d4_29 : decode method_5_code 29 = .ok (.lreturn, 1) := by decide +kernel
theorem own_ef4_own_rmT (m : MethodId) (y0 : Addr) (y1 : Int32) (y2 : Int32) (y3 : Int32) (y4 : Addr) : entryFrame m #[(.ref y0), (.int y1), (.int y2), (.int y3), (.ref y4)] 5 = mkF m 0 #[.val (.ref y0), .val (.int y1), .val (.int y2), .val (.int y3), .val (.ref y4)] [] := by first | (simp [entryFrame, mkF, argsToLocals, Value.category]; done) | rfl
set_option maxRecDepth 65536 in
set_option maxHeartbeats 40000000 in
theorem own_rmT (l : Launch) (Z : State) (a0 : Array Value) (hw : ∀ d ∈ tables_1, d.before a0 Z = true) (a b : Addr) (kb kp : ClassId) (qs : List Int32) (p1 p2 p3 : Int32) (h0 : Heap) (n0 : Nat) (Z0 : n0 ≤ h0.size) (V0 : Arv Z h0 a kb .byte (12 : Int32) (qs.map Value.int) (.int (0 : Int32))) (V1 : Arv Z h0 b kp .int (9 : Int32) (own_ps.map Value.int) (.int (0 : Int32))) (ok : own_ok p2 p3) (h9 : ¬ (9 : Int32) < p3 - p2) :
    own_Met l Z (⟨"com/example/granary/granary/fix/FixWireNumberPinLaw", "term", "([BIII[I)J"⟩ : MethodName) method_5_code 5 (some .long) [] ({ frames := 0, cells := 0, slots := 0, locals := 0 } : Room) #[(.ref a), (.int p1), (.int p2), (.int p3), (.ref b)] h0 (fun v h L => v = some (.long (own_term qs p1 p2 p3)) ∧ Fr n0 L ∧ h = h0) := by
  refine own_met own_pn4 ?_
  intro p e s m below meth c s₁ hx hby hml hown hnm hret hlk hZ X0 e0
  have N0 := Fr.nil n0
  refine own_cast (own_ef4_own_rmT m a p1 p2 p3 b) ?_
  refine own_iloadN (n := 1) X0 hx (hb hby d4_0) rfl rfl ?_
  refine own_iloadN (n := 2) X0 hx (hb hby d4_1) rfl rfl ?_
  by_cases hc2_1 : p1 < p2
  · skip
    refine own_icmpYes (n := 10) X0 hx (hb hby d4_2) (tlt hc2_1).1 (by decide) (by decide) ?_
    refine own_lconst (n := 11) (z := (0 : Int64)) X0 hx (hb hby d4_10) rfl rfl ?_
    refine own_retJ X0 hx hlk hret e0 (hb hby d4_11) (by decide) (by decide) ?_
    exact ⟨by simp [own_term, hc2_1], N0, rfl⟩
  · skip
    refine own_icmpNo (n := 5) X0 hx (hb hby d4_2) (flt hc2_1).1 rfl ?_
    refine own_iloadN (n := 6) X0 hx (hb hby d4_5) rfl rfl ?_
    refine own_iloadN (n := 7) X0 hx (hb hby d4_6) rfl rfl ?_
    by_cases hc7_2 : p1 < p3
    · skip
      refine own_icmpYes (n := 12) X0 hx (hb hby d4_7) (tlt hc7_2).1 (by decide) (by decide) ?_
      refine own_aloadN (n := 13) X0 hx (hb hby d4_12) rfl rfl rfl ?_
      refine own_iloadN (n := 14) X0 hx (hb hby d4_13) rfl rfl ?_
      refine own_ld_baload (n := 15) (v := (.int (own_el qs p1))) X0 hx hZ e0 V0 (own_inb ok (by assumption) (by assumption)) (own_hv _ _) (hb hby d4_14) rfl ?_
      refine own_bipush (n := 17) (z := (48 : Int32)) X0 hx (hb hby d4_15) rfl rfl ?_
      refine own_isub (n := 18) X0 hx (hb hby d4_17) rfl rfl ?_
      refine own_i2l (n := 19) X0 hx (hb hby d4_18) rfl rfl ?_
      refine own_aload (n := 21) X0 hx (hb hby d4_19) rfl rfl rfl ?_
      refine own_iloadN (n := 22) X0 hx (hb hby d4_21) rfl rfl ?_
      refine own_iconst (n := 23) (z := (1 : Int32)) X0 hx (hb hby d4_22) rfl rfl ?_
      refine own_isub (n := 24) X0 hx (hb hby d4_23) rfl rfl ?_
      refine own_iloadN (n := 25) X0 hx (hb hby d4_24) rfl rfl ?_
      refine own_isub (n := 26) X0 hx (hb hby d4_25) rfl rfl ?_
      refine own_ld_iaload (n := 27) (v := (.int (own_el own_ps ((p3 - (1 : Int32)) - p1)))) X0 hx hZ e0 V1 (own_inp ok h9 (by assumption) (by assumption)) (own_hv _ _) (hb hby d4_26) rfl ?_
      refine own_i2l (n := 28) X0 hx (hb hby d4_27) rfl rfl ?_
      refine own_lmul (n := 29) X0 hx (hb hby d4_28) rfl rfl ?_
      refine own_retJ X0 hx hlk hret e0 (hb hby d4_29) (by decide) (by decide) ?_
      exact ⟨by simp [own_term, hc2_1, hc7_2], N0, rfl⟩
    · skip
      refine own_icmpNo (n := 10) X0 hx (hb hby d4_7) (flt hc7_2).1 rfl ?_
      refine own_lconst (n := 11) (z := (0 : Int64)) X0 hx (hb hby d4_10) rfl rfl ?_
      refine own_retJ X0 hx hlk hret e0 (hb hby d4_11) (by decide) (by decide) ?_
      exact ⟨by simp [own_term, hc2_1, hc7_2], N0, rfl⟩
theorem own_inl {i t f : Int32} {k : Nat} (h0 : 0 ≤ i.toInt) (hk : i.toInt + ((k + 1 : Nat) : Int) = t.toInt) (ok : own_ok f t) : ¬ i < 0 ∧ i < (12 : Int32) := by
  obtain ⟨a, b, c, d⟩ := ok
  have e0 : (0 : Int32).toInt = 0 := rfl
  have e12 : (12 : Int32).toInt = 12 := rfl
  rw [Int32.lt_iff_toInt_lt, Int32.lt_iff_toInt_lt]
  omega
theorem own_stop {i t : Int32} (hk : i.toInt + ((0 : Nat) : Int) = t.toInt) : ¬ i < t := by rw [Int32.lt_iff_toInt_lt]; omega
theorem own_goon {i t : Int32} {k : Nat} (hk : i.toInt + ((k + 1 : Nat) : Int) = t.toInt) : i < t := by rw [Int32.lt_iff_toInt_lt]; omega
theorem own_begin {qs : List Int32} {f t : Int32} (h1 : f < t) (h2 : ¬ (9 : Int32) < t - f) : own_loop qs (t.toInt - f.toInt).toNat f 0 = own_num qs f t := by unfold own_num; rw [if_neg (by simp [h1]), if_neg h2]
theorem own_pn2 : plainFor (⟨"com/example/granary/granary/fix/FixWire", "number", "([BII)I"⟩ : MethodName) = true := plainFor_of_name (by first | (simp [plainName, overriddenIn]; done) | decide +kernel)
theorem d2_0 : decode prog_120_method_13_code 0 = .ok (.iload_n 1, 1) := by decide +kernel
theorem d2_1 : decode prog_120_method_13_code 1 = .ok (.iload_n 2, 1) := by decide +kernel
theorem d2_2 : decode prog_120_method_13_code 2 = .ok (.if_icmp .ge 11, 3) := by decide +kernel
theorem d2_5 : decode prog_120_method_13_code 5 = .ok (.iload_n 2, 1) := by decide +kernel
theorem d2_6 : decode prog_120_method_13_code 6 = .ok (.iload_n 1, 1) := by decide +kernel
theorem d2_7 : decode prog_120_method_13_code 7 = .ok (.isub, 1) := by decide +kernel
theorem d2_8 : decode prog_120_method_13_code 8 = .ok (.bipush 9, 2) := by decide +kernel
theorem d2_10 : decode prog_120_method_13_code 10 = .ok (.if_icmp .le 5, 3) := by decide +kernel
theorem d2_13 : decode prog_120_method_13_code 13 = .ok (.iconst (-1), 1) := by decide +kernel
theorem d2_14 : decode prog_120_method_13_code 14 = .ok (.ireturn, 1) := by decide +kernel
theorem d2_15 : decode prog_120_method_13_code 15 = .ok (.iconst 0, 1) := by decide +kernel
theorem d2_16 : decode prog_120_method_13_code 16 = .ok (.istore_n 3, 1) := by decide +kernel
theorem d2_17 : decode prog_120_method_13_code 17 = .ok (.iload_n 1, 1) := by decide +kernel
theorem d2_18 : decode prog_120_method_13_code 18 = .ok (.istore 4, 2) := by decide +kernel
theorem d2_20 : decode prog_120_method_13_code 20 = .ok (.iload 4, 2) := by decide +kernel
theorem d2_22 : decode prog_120_method_13_code 22 = .ok (.iload_n 2, 1) := by decide +kernel
theorem d2_23 : decode prog_120_method_13_code 23 = .ok (.if_icmp .ge 42, 3) := by decide +kernel
theorem d2_65 : decode prog_120_method_13_code 65 = .ok (.iload_n 3, 1) := by decide +kernel
theorem d2_66 : decode prog_120_method_13_code 66 = .ok (.ireturn, 1) := by decide +kernel
theorem d2_26 : decode prog_120_method_13_code 26 = .ok (.aload_n 0, 1) := by decide +kernel
theorem d2_27 : decode prog_120_method_13_code 27 = .ok (.iload 4, 2) := by decide +kernel
theorem d2_29 : decode prog_120_method_13_code 29 = .ok (.baload, 1) := by decide +kernel
theorem d2_30 : decode prog_120_method_13_code 30 = .ok (.bipush 48, 2) := by decide +kernel
theorem d2_32 : decode prog_120_method_13_code 32 = .ok (.if_icmp .lt 12, 3) := by decide +kernel
theorem d2_44 : decode prog_120_method_13_code 44 = .ok (.iconst (-1), 1) := by decide +kernel
theorem d2_45 : decode prog_120_method_13_code 45 = .ok (.ireturn, 1) := by decide +kernel
theorem d2_35 : decode prog_120_method_13_code 35 = .ok (.aload_n 0, 1) := by decide +kernel
theorem d2_36 : decode prog_120_method_13_code 36 = .ok (.iload 4, 2) := by decide +kernel
theorem d2_38 : decode prog_120_method_13_code 38 = .ok (.baload, 1) := by decide +kernel
theorem d2_39 : decode prog_120_method_13_code 39 = .ok (.bipush 57, 2) := by decide +kernel
theorem d2_41 : decode prog_120_method_13_code 41 = .ok (.if_icmp .le 5, 3) := by decide +kernel
theorem d2_46 : decode prog_120_method_13_code 46 = .ok (.iload_n 3, 1) := by decide +kernel
theorem d2_47 : decode prog_120_method_13_code 47 = .ok (.bipush 10, 2) := by decide +kernel
theorem d2_49 : decode prog_120_method_13_code 49 = .ok (.imul, 1) := by decide +kernel
theorem d2_50 : decode prog_120_method_13_code 50 = .ok (.aload_n 0, 1) := by decide +kernel
theorem d2_51 : decode prog_120_method_13_code 51 = .ok (.iload 4, 2) := by decide +kernel
theorem d2_53 : decode prog_120_method_13_code 53 = .ok (.baload, 1) := by decide +kernel
theorem d2_54 : decode prog_120_method_13_code 54 = .ok (.iadd, 1) := by decide +kernel
theorem d2_55 : decode prog_120_method_13_code 55 = .ok (.bipush 48, 2) := by decide +kernel
theorem d2_57 : decode prog_120_method_13_code 57 = .ok (.isub, 1) := by decide +kernel
theorem d2_58 : decode prog_120_method_13_code 58 = .ok (.istore_n 3, 1) := by decide +kernel
theorem d2_59 : decode prog_120_method_13_code 59 = .ok (.iinc 4 1, 3) := by decide +kernel
theorem d2_62 : decode prog_120_method_13_code 62 = .ok (.goto (-42), 3) := by decide +kernel
theorem own_ef2_own_rmN (m : MethodId) (y0 : Addr) (y1 : Int32) (y2 : Int32) : entryFrame m #[(.ref y0), (.int y1), (.int y2)] 5 = mkF m 0 #[.val (.ref y0), .val (.int y1), .val (.int y2), .unset, .unset] [] := by first | (simp [entryFrame, mkF, argsToLocals, Value.category]; done) | rfl
set_option maxRecDepth 65536 in
set_option maxHeartbeats 40000000 in
theorem own_rmN (l : Launch) (Z : State) (a0 : Array Value) (hw : ∀ d ∈ tables_1, d.before a0 Z = true) (a : Addr) (kb : ClassId) (qs : List Int32) (p1 p2 : Int32) (h0 : Heap) (n0 : Nat) (Z0 : n0 ≤ h0.size) (V0 : Arv Z h0 a kb .byte (12 : Int32) (qs.map Value.int) (.int (0 : Int32))) (ok : own_ok p1 p2) :
    own_Met l Z (⟨"com/example/granary/granary/fix/FixWire", "number", "([BII)I"⟩ : MethodName) prog_120_method_13_code 5 (some .int) [] ({ frames := 0, cells := 0, slots := 0, locals := 0 } : Room) #[(.ref a), (.int p1), (.int p2)] h0 (fun v h L => v = some (.int (own_num qs p1 p2)) ∧ Fr n0 L ∧ h = h0) := by
  refine own_met own_pn2 ?_
  intro p e s m below meth c s₁ hx hby hml hown hnm hret hlk hZ X0 e0
  have N0 := Fr.nil n0
  refine own_cast (own_ef2_own_rmN m a p1 p2) ?_
  refine own_iloadN (n := 1) X0 hx (hb hby d2_0) rfl rfl ?_
  refine own_iloadN (n := 2) X0 hx (hb hby d2_1) rfl rfl ?_
  by_cases hc2_1 : p1 < p2
  · skip
    refine own_icmpNo (n := 5) X0 hx (hb hby d2_2) (tlt hc2_1).2.1 rfl ?_
    refine own_iloadN (n := 6) X0 hx (hb hby d2_5) rfl rfl ?_
    refine own_iloadN (n := 7) X0 hx (hb hby d2_6) rfl rfl ?_
    refine own_isub (n := 8) X0 hx (hb hby d2_7) rfl rfl ?_
    refine own_bipush (n := 10) (z := (9 : Int32)) X0 hx (hb hby d2_8) rfl rfl ?_
    by_cases hc10_2 : (9 : Int32) < (p2 - p1)
    · skip
      refine own_icmpNo (n := 13) X0 hx (hb hby d2_10) (tlt hc10_2).2.2.2 rfl ?_
      refine own_iconst (n := 14) (z := (-1 : Int32)) X0 hx (hb hby d2_13) rfl rfl ?_
      refine own_retI X0 hx hlk hret e0 (hb hby d2_14) (by decide) (by decide) ?_
      exact ⟨by simp [own_num, hc2_1, hc10_2], N0, rfl⟩
    · skip
      refine own_icmpYes (n := 15) X0 hx (hb hby d2_10) (flt hc10_2).2.2.2 (by decide) (by decide) ?_
      refine own_iconst (n := 16) (z := (0 : Int32)) X0 hx (hb hby d2_15) rfl rfl ?_
      refine own_istoreN (n := 17) (l' := #[.val (.ref a), .val (.int p1), .val (.int p2), .val (.int (0 : Int32)), .unset]) X0 hx (hb hby d2_16) rfl rfl ?_
      refine own_iloadN (n := 18) X0 hx (hb hby d2_17) rfl rfl ?_
      refine own_istore (n := 20) (l' := #[.val (.ref a), .val (.int p1), .val (.int p2), .val (.int (0 : Int32)), .val (.int p1)]) X0 hx (hb hby d2_18) rfl rfl ?_
      have J20 : ∀ (kk : Nat) (acc ix : Int32) (hi0 : 0 ≤ ix.toInt) (hik : ix.toInt + ((kk : Nat) : Int) = p2.toInt) (hlp : own_loop qs kk ix acc = own_num qs p1 p2), own_G p e below (own_K (fun v h L => v = some (.int (own_num qs p1 p2)) ∧ Fr n0 L ∧ h = h0) s ({ frames := 0, cells := 0, slots := 0, locals := 0 } : Room).cells ({ frames := 0, cells := 0, slots := 0, locals := 0 } : Room).slots) s₁ (mkF m 20 #[.val (.ref a), .val (.int p1), .val (.int p2), .val (.int acc), .val (.int ix)] []) := by
        intro kk
        induction kk with
        | zero =>
          intro acc ix hi0 hik hlp
          refine own_iload (n := 22) X0 hx (hb hby d2_20) rfl rfl ?_
          refine own_iloadN (n := 23) X0 hx (hb hby d2_22) rfl rfl ?_
          refine own_icmpYes (n := 65) X0 hx (hb hby d2_23) (flt (own_stop hik)).2.1 (by decide) (by decide) ?_
          refine own_iloadN (n := 66) X0 hx (hb hby d2_65) rfl rfl ?_
          refine own_retI X0 hx hlk hret e0 (hb hby d2_66) (by decide) (by decide) ?_
          exact ⟨by rw [← hlp]; rfl, N0, rfl⟩
        | succ kk ih =>
          intro acc ix hi0 hik hlp
          refine own_iload (n := 22) X0 hx (hb hby d2_20) rfl rfl ?_
          refine own_iloadN (n := 23) X0 hx (hb hby d2_22) rfl rfl ?_
          refine own_icmpNo (n := 26) X0 hx (hb hby d2_23) (tlt (own_goon hik)).2.1 rfl ?_
          refine own_aloadN (n := 27) X0 hx (hb hby d2_26) rfl rfl rfl ?_
          refine own_iload (n := 29) X0 hx (hb hby d2_27) rfl rfl ?_
          refine own_ld_baload (n := 30) (v := (.int (own_el qs ix))) X0 hx hZ e0 V0 (own_inl hi0 hik ok) (own_hv qs _) (hb hby d2_29) rfl ?_
          refine own_bipush (n := 32) (z := (48 : Int32)) X0 hx (hb hby d2_30) rfl rfl ?_
          by_cases hc32_3 : (own_el qs ix) < (48 : Int32)
          · skip
            refine own_icmpYes (n := 44) X0 hx (hb hby d2_32) (tlt hc32_3).1 (by decide) (by decide) ?_
            refine own_iconst (n := 45) (z := (-1 : Int32)) X0 hx (hb hby d2_44) rfl rfl ?_
            refine own_retI X0 hx hlk hret e0 (hb hby d2_45) (by decide) (by decide) ?_
            exact ⟨by rw [← hlp]; unfold own_loop; rw [if_pos (by simp [hc32_3])], N0, rfl⟩
          · skip
            refine own_icmpNo (n := 35) X0 hx (hb hby d2_32) (flt hc32_3).1 rfl ?_
            refine own_aloadN (n := 36) X0 hx (hb hby d2_35) rfl rfl rfl ?_
            refine own_iload (n := 38) X0 hx (hb hby d2_36) rfl rfl ?_
            refine own_ld_baload (n := 39) (v := (.int (own_el qs ix))) X0 hx hZ e0 V0 (own_inl hi0 hik ok) (own_hv qs _) (hb hby d2_38) rfl ?_
            refine own_bipush (n := 41) (z := (57 : Int32)) X0 hx (hb hby d2_39) rfl rfl ?_
            by_cases hc41_4 : (57 : Int32) < (own_el qs ix)
            · skip
              refine own_icmpNo (n := 44) X0 hx (hb hby d2_41) (tlt hc41_4).2.2.2 rfl ?_
              refine own_iconst (n := 45) (z := (-1 : Int32)) X0 hx (hb hby d2_44) rfl rfl ?_
              refine own_retI X0 hx hlk hret e0 (hb hby d2_45) (by decide) (by decide) ?_
              exact ⟨by rw [← hlp]; unfold own_loop; rw [if_pos (by simp [hc32_3, hc41_4])], N0, rfl⟩
            · skip
              refine own_icmpYes (n := 46) X0 hx (hb hby d2_41) (flt hc41_4).2.2.2 (by decide) (by decide) ?_
              refine own_iloadN (n := 47) X0 hx (hb hby d2_46) rfl rfl ?_
              refine own_bipush (n := 49) (z := (10 : Int32)) X0 hx (hb hby d2_47) rfl rfl ?_
              refine own_imul (n := 50) X0 hx (hb hby d2_49) rfl rfl ?_
              refine own_aloadN (n := 51) X0 hx (hb hby d2_50) rfl rfl rfl ?_
              refine own_iload (n := 53) X0 hx (hb hby d2_51) rfl rfl ?_
              refine own_ld_baload (n := 54) (v := (.int (own_el qs ix))) X0 hx hZ e0 V0 (own_inl hi0 hik ok) (own_hv qs _) (hb hby d2_53) rfl ?_
              refine own_iadd (n := 55) X0 hx (hb hby d2_54) rfl rfl ?_
              refine own_bipush (n := 57) (z := (48 : Int32)) X0 hx (hb hby d2_55) rfl rfl ?_
              refine own_isub (n := 58) X0 hx (hb hby d2_57) rfl rfl ?_
              refine own_istoreN (n := 59) (l' := #[.val (.ref a), .val (.int p1), .val (.int p2), .val (.int (((acc * (10 : Int32)) + (own_el qs ix)) - (48 : Int32))), .val (.int ix)]) X0 hx (hb hby d2_58) rfl rfl ?_
              refine own_iinc (n := 62) (z := (ix + (1 : Int32))) (l' := #[.val (.ref a), .val (.int p1), .val (.int p2), .val (.int (((acc * (10 : Int32)) + (own_el qs ix)) - (48 : Int32))), .val (.int (ix + (1 : Int32)))]) X0 hx (hb hby d2_59) rfl rfl rfl rfl ?_
              refine own_goto (n := 20) X0 hx (hb hby d2_62) (by decide) (by decide) ?_
              exact ih (((acc * (10 : Int32)) + (own_el qs ix)) - (48 : Int32)) (ix + (1 : Int32)) (by rw [own_inc hi0 (by have := ok.2.2.2; omega)]; omega) (by rw [own_inc hi0 (by have := ok.2.2.2; omega)]; omega) (by rw [← hlp]; conv => rhs; unfold own_loop; rw [if_neg (by simp [hc32_3, hc41_4])])
      exact J20 (p2.toInt - p1.toInt).toNat (0 : Int32) p1 ok.1 (by have q : p1.toInt < p2.toInt := Int32.lt_iff_toInt_lt.mp hc2_1; omega) (own_begin hc2_1 hc10_2)
  · skip
    refine own_icmpYes (n := 13) X0 hx (hb hby d2_2) (flt hc2_1).2.1 (by decide) (by decide) ?_
    refine own_iconst (n := 14) (z := (-1 : Int32)) X0 hx (hb hby d2_13) rfl rfl ?_
    refine own_retI X0 hx hlk hret e0 (hb hby d2_14) (by decide) (by decide) ?_
    exact ⟨by simp [own_num, hc2_1], N0, rfl⟩
theorem own_pn0 : plainFor x = true := plainFor_of_name (by first | (simp [plainName, overriddenIn]; done) | decide +kernel)
theorem own_pd0 : parseMethodDescriptor "(JJIII)B" = some ⟨[.long, .long, .int, .int, .int], some .byte⟩ := by decide +kernel
theorem own_pd1 : parseMethodDescriptor "([BII)I" = some ⟨[(.array .byte), .int, .int], some .int⟩ := by decide +kernel
theorem own_pd2 : parseMethodDescriptor "([BIII)Z" = some ⟨[(.array .byte), .int, .int, .int], some .boolean⟩ := by decide +kernel
theorem own_pd3 : parseMethodDescriptor "([BIII[I)J" = some ⟨[(.array .byte), .int, .int, .int, (.array .int)], some .long⟩ := by decide +kernel
theorem own_ef0_own_rm0 (m : MethodId) (y0 : Int64) (y1 : Int64) (y2 : Int32) (y3 : Int32) (y4 : Int32) : entryFrame m #[(.long y0), (.long y1), (.int y2), (.int y3), (.int y4)] maxLocals = mkF m 0 #[.val (.long y0), .second, .val (.long y1), .second, .val (.int y2), .val (.int y3), .val (.int y4), .unset, .unset, .unset, .unset, .unset, .unset, .unset] [] := by first | (simp [entryFrame, mkF, argsToLocals, Value.category, maxLocals]; done) | rfl
set_option maxRecDepth 65536 in
set_option maxHeartbeats 40000000 in
theorem own_rm0 (l : Launch) (Z : State) (a0 : Array Value) (hw : ∀ d ∈ tables_1, d.before a0 Z = true) (q0 q1 : Int64) (p2 p3 p4 : Int32) (h0 : Heap) (n0 : Nat) (Z0 : n0 ≤ h0.size)  :
    own_Met l Z x code maxLocals ret tables_1 room_1 #[(.long q0), (.long q1), (.int p2), (.int p3), (.int p4)] h0 (fun v h L => v = some (.int 1) ∧ Fr n0 L) := by
  refine own_met own_pn0 ?_
  intro p e s m below meth c s₁ hx hby hml hown hnm hret hlk hZ X0 e0
  have N0 := Fr.nil n0
  refine own_cast (own_ef0_own_rm0 m q0 q1 p2 p3 p4) ?_
  refine own_bipush (n := 2) (z := (12 : Int32)) X0 hx (hb hby at_0) rfl rfl ?_
  refine own_newA (n := 4) X0 hx hZ own_an_byte (ww0 hw) e0 (hb hby at_2) (by decide) (cap := 12) (by decide) (by decide) (by decide) (by decide) rfl ?_
  intro T1 h1 k1 b1 g1 X1 e1 E1 A1 B1
  have g_b1 : n0 ≤ b1 := Nat.le_trans Z0 (Nat.le_of_eq g1.symm)
  have Z_2 : n0 ≤ h1.size := Nat.le_trans Z0 E1.1
  have V1 : Arv Z h1 b1 k1 .byte (12 : Int32) [(.int (0 : Int32)), (.int (0 : Int32)), (.int (0 : Int32)), (.int (0 : Int32)), (.int (0 : Int32)), (.int (0 : Int32)), (.int (0 : Int32)), (.int (0 : Int32)), (.int (0 : Int32)), (.int (0 : Int32)), (.int (0 : Int32)), (.int (0 : Int32))] (.int (0 : Int32)) := (Arv.new A1 (by decide)).pad (pad_rep [] (.int (0 : Int32)) 12)
  refine own_astore (n := 6) (l' := #[.val (.long q0), .second, .val (.long q1), .second, .val (.int p2), .val (.int p3), .val (.int p4), .val (.ref b1), .unset, .unset, .unset, .unset, .unset, .unset]) X1 hx (hb hby at_4) rfl rfl rfl ?_
  refine own_aload (n := 8) X1 hx (hb hby at_6) rfl rfl rfl ?_
  refine own_iconst (n := 9) (z := (0 : Int32)) X1 hx (hb hby at_8) rfl rfl ?_
  refine own_lloadN (n := 10) X1 hx (hb hby at_9) rfl rfl ?_
  refine own_lloadN (n := 11) X1 hx (hb hby at_10) rfl rfl ?_
  refine own_iload (n := 13) X1 hx (hb hby at_11) rfl rfl ?_
  refine own_iload (n := 15) X1 hx (hb hby at_13) rfl rfl ?_
  refine own_iconst (n := 16) (z := (0 : Int32)) X1 hx (hb hby at_15) rfl rfl ?_
  refine own_S (n := 19) (argsL := [(.long q0), (.long q1), (.int p2), (.int p3), (.int (0 : Int32))]) (rest := [(.int (0 : Int32)), (.ref b1)]) X1 hx hZ hown (own_rmC l Z a0 hw q0 q1 p2 p3 (0 : Int32) h1 n0 Z_2) (ww1 hw) (ww2 hw) (ww3 hw) (ww4 hw) (by decide) e1 (by rw [hml]; rfl) (lenOf own_pd0 rfl) rfl (hb hby at_16) (Nat.le_of_ble_eq_true rfl) (Nat.le_of_ble_eq_true rfl) (Nat.le_of_ble_eq_true rfl) (Nat.le_of_ble_eq_true rfl) rfl ?_
  rintro v3 T3 L3 X3 ⟨z3, rfl, Nq3, eq3⟩
  have N3 := Fr.app N0 Nq3
  change own_G p e below _ _ (mkF m 19 _ [(.int z3), (.int (0 : Int32)), (.ref b1)])
  refine own_st_bastore (n := 20) X3 hx hZ eq3 V1 ⟨by decide, by decide⟩ 0 rfl (Nat.le_of_ble_eq_true rfl) (hb hby at_19) rfl ?_
  intro T4 h4 X4 e4 W4 V4q
  have V4 : Arv Z h4 b1 k1 .byte (12 : Int32) [(.int (z3).toInt8.toInt32), (.int (0 : Int32)), (.int (0 : Int32)), (.int (0 : Int32)), (.int (0 : Int32)), (.int (0 : Int32)), (.int (0 : Int32)), (.int (0 : Int32)), (.int (0 : Int32)), (.int (0 : Int32)), (.int (0 : Int32)), (.int (0 : Int32))] (.int (0 : Int32)) := V4q
  have N4 := Fr.snoc X4 N3 g_b1
  have Z_5 : n0 ≤ h4.size := by rw [W4.size]; exact Z_2
  refine own_aload (n := 22) X4 hx (hb hby at_20) rfl rfl rfl ?_
  refine own_iconst (n := 23) (z := (1 : Int32)) X4 hx (hb hby at_22) rfl rfl ?_
  refine own_lloadN (n := 24) X4 hx (hb hby at_23) rfl rfl ?_
  refine own_lloadN (n := 25) X4 hx (hb hby at_24) rfl rfl ?_
  refine own_iload (n := 27) X4 hx (hb hby at_25) rfl rfl ?_
  refine own_iload (n := 29) X4 hx (hb hby at_27) rfl rfl ?_
  refine own_iconst (n := 30) (z := (1 : Int32)) X4 hx (hb hby at_29) rfl rfl ?_
  refine own_S (n := 33) (argsL := [(.long q0), (.long q1), (.int p2), (.int p3), (.int (1 : Int32))]) (rest := [(.int (1 : Int32)), (.ref b1)]) X4 hx hZ hown (own_rmC l Z a0 hw q0 q1 p2 p3 (1 : Int32) h4 n0 Z_5) (ww1 hw) (ww2 hw) (ww3 hw) (ww4 hw) (by decide) e4 (by rw [hml]; rfl) (lenOf own_pd0 rfl) rfl (hb hby at_30) (Nat.le_of_ble_eq_true rfl) (Nat.le_of_ble_eq_true rfl) (Nat.le_of_ble_eq_true rfl) (Nat.le_of_ble_eq_true rfl) rfl ?_
  rintro v6 T6 L6 X6 ⟨z6, rfl, Nq6, eq6⟩
  have N6 := Fr.app N4 Nq6
  change own_G p e below _ _ (mkF m 33 _ [(.int z6), (.int (1 : Int32)), (.ref b1)])
  refine own_st_bastore (n := 34) X6 hx hZ eq6 V4 ⟨by decide, by decide⟩ 1 rfl (Nat.le_of_ble_eq_true rfl) (hb hby at_33) rfl ?_
  intro T7 h7 X7 e7 W7 V7q
  have V7 : Arv Z h7 b1 k1 .byte (12 : Int32) [(.int (z3).toInt8.toInt32), (.int (z6).toInt8.toInt32), (.int (0 : Int32)), (.int (0 : Int32)), (.int (0 : Int32)), (.int (0 : Int32)), (.int (0 : Int32)), (.int (0 : Int32)), (.int (0 : Int32)), (.int (0 : Int32)), (.int (0 : Int32)), (.int (0 : Int32))] (.int (0 : Int32)) := V7q
  have N7 := Fr.snoc X7 N6 g_b1
  have Z_8 : n0 ≤ h7.size := by rw [W7.size]; exact Z_5
  refine own_aload (n := 36) X7 hx (hb hby at_34) rfl rfl rfl ?_
  refine own_iconst (n := 37) (z := (2 : Int32)) X7 hx (hb hby at_36) rfl rfl ?_
  refine own_lloadN (n := 38) X7 hx (hb hby at_37) rfl rfl ?_
  refine own_lloadN (n := 39) X7 hx (hb hby at_38) rfl rfl ?_
  refine own_iload (n := 41) X7 hx (hb hby at_39) rfl rfl ?_
  refine own_iload (n := 43) X7 hx (hb hby at_41) rfl rfl ?_
  refine own_iconst (n := 44) (z := (2 : Int32)) X7 hx (hb hby at_43) rfl rfl ?_
  refine own_S (n := 47) (argsL := [(.long q0), (.long q1), (.int p2), (.int p3), (.int (2 : Int32))]) (rest := [(.int (2 : Int32)), (.ref b1)]) X7 hx hZ hown (own_rmC l Z a0 hw q0 q1 p2 p3 (2 : Int32) h7 n0 Z_8) (ww1 hw) (ww2 hw) (ww3 hw) (ww4 hw) (by decide) e7 (by rw [hml]; rfl) (lenOf own_pd0 rfl) rfl (hb hby at_44) (Nat.le_of_ble_eq_true rfl) (Nat.le_of_ble_eq_true rfl) (Nat.le_of_ble_eq_true rfl) (Nat.le_of_ble_eq_true rfl) rfl ?_
  rintro v9 T9 L9 X9 ⟨z9, rfl, Nq9, eq9⟩
  have N9 := Fr.app N7 Nq9
  change own_G p e below _ _ (mkF m 47 _ [(.int z9), (.int (2 : Int32)), (.ref b1)])
  refine own_st_bastore (n := 48) X9 hx hZ eq9 V7 ⟨by decide, by decide⟩ 2 rfl (Nat.le_of_ble_eq_true rfl) (hb hby at_47) rfl ?_
  intro T10 h10 X10 e10 W10 V10q
  have V10 : Arv Z h10 b1 k1 .byte (12 : Int32) [(.int (z3).toInt8.toInt32), (.int (z6).toInt8.toInt32), (.int (z9).toInt8.toInt32), (.int (0 : Int32)), (.int (0 : Int32)), (.int (0 : Int32)), (.int (0 : Int32)), (.int (0 : Int32)), (.int (0 : Int32)), (.int (0 : Int32)), (.int (0 : Int32)), (.int (0 : Int32))] (.int (0 : Int32)) := V10q
  have N10 := Fr.snoc X10 N9 g_b1
  have Z_11 : n0 ≤ h10.size := by rw [W10.size]; exact Z_8
  refine own_aload (n := 50) X10 hx (hb hby at_48) rfl rfl rfl ?_
  refine own_iconst (n := 51) (z := (3 : Int32)) X10 hx (hb hby at_50) rfl rfl ?_
  refine own_lloadN (n := 52) X10 hx (hb hby at_51) rfl rfl ?_
  refine own_lloadN (n := 53) X10 hx (hb hby at_52) rfl rfl ?_
  refine own_iload (n := 55) X10 hx (hb hby at_53) rfl rfl ?_
  refine own_iload (n := 57) X10 hx (hb hby at_55) rfl rfl ?_
  refine own_iconst (n := 58) (z := (3 : Int32)) X10 hx (hb hby at_57) rfl rfl ?_
  refine own_S (n := 61) (argsL := [(.long q0), (.long q1), (.int p2), (.int p3), (.int (3 : Int32))]) (rest := [(.int (3 : Int32)), (.ref b1)]) X10 hx hZ hown (own_rmC l Z a0 hw q0 q1 p2 p3 (3 : Int32) h10 n0 Z_11) (ww1 hw) (ww2 hw) (ww3 hw) (ww4 hw) (by decide) e10 (by rw [hml]; rfl) (lenOf own_pd0 rfl) rfl (hb hby at_58) (Nat.le_of_ble_eq_true rfl) (Nat.le_of_ble_eq_true rfl) (Nat.le_of_ble_eq_true rfl) (Nat.le_of_ble_eq_true rfl) rfl ?_
  rintro v12 T12 L12 X12 ⟨z12, rfl, Nq12, eq12⟩
  have N12 := Fr.app N10 Nq12
  change own_G p e below _ _ (mkF m 61 _ [(.int z12), (.int (3 : Int32)), (.ref b1)])
  refine own_st_bastore (n := 62) X12 hx hZ eq12 V10 ⟨by decide, by decide⟩ 3 rfl (Nat.le_of_ble_eq_true rfl) (hb hby at_61) rfl ?_
  intro T13 h13 X13 e13 W13 V13q
  have V13 : Arv Z h13 b1 k1 .byte (12 : Int32) [(.int (z3).toInt8.toInt32), (.int (z6).toInt8.toInt32), (.int (z9).toInt8.toInt32), (.int (z12).toInt8.toInt32), (.int (0 : Int32)), (.int (0 : Int32)), (.int (0 : Int32)), (.int (0 : Int32)), (.int (0 : Int32)), (.int (0 : Int32)), (.int (0 : Int32)), (.int (0 : Int32))] (.int (0 : Int32)) := V13q
  have N13 := Fr.snoc X13 N12 g_b1
  have Z_14 : n0 ≤ h13.size := by rw [W13.size]; exact Z_11
  refine own_aload (n := 64) X13 hx (hb hby at_62) rfl rfl rfl ?_
  refine own_iconst (n := 65) (z := (4 : Int32)) X13 hx (hb hby at_64) rfl rfl ?_
  refine own_lloadN (n := 66) X13 hx (hb hby at_65) rfl rfl ?_
  refine own_lloadN (n := 67) X13 hx (hb hby at_66) rfl rfl ?_
  refine own_iload (n := 69) X13 hx (hb hby at_67) rfl rfl ?_
  refine own_iload (n := 71) X13 hx (hb hby at_69) rfl rfl ?_
  refine own_iconst (n := 72) (z := (4 : Int32)) X13 hx (hb hby at_71) rfl rfl ?_
  refine own_S (n := 75) (argsL := [(.long q0), (.long q1), (.int p2), (.int p3), (.int (4 : Int32))]) (rest := [(.int (4 : Int32)), (.ref b1)]) X13 hx hZ hown (own_rmC l Z a0 hw q0 q1 p2 p3 (4 : Int32) h13 n0 Z_14) (ww1 hw) (ww2 hw) (ww3 hw) (ww4 hw) (by decide) e13 (by rw [hml]; rfl) (lenOf own_pd0 rfl) rfl (hb hby at_72) (Nat.le_of_ble_eq_true rfl) (Nat.le_of_ble_eq_true rfl) (Nat.le_of_ble_eq_true rfl) (Nat.le_of_ble_eq_true rfl) rfl ?_
  rintro v15 T15 L15 X15 ⟨z15, rfl, Nq15, eq15⟩
  have N15 := Fr.app N13 Nq15
  change own_G p e below _ _ (mkF m 75 _ [(.int z15), (.int (4 : Int32)), (.ref b1)])
  refine own_st_bastore (n := 76) X15 hx hZ eq15 V13 ⟨by decide, by decide⟩ 4 rfl (Nat.le_of_ble_eq_true rfl) (hb hby at_75) rfl ?_
  intro T16 h16 X16 e16 W16 V16q
  have V16 : Arv Z h16 b1 k1 .byte (12 : Int32) [(.int (z3).toInt8.toInt32), (.int (z6).toInt8.toInt32), (.int (z9).toInt8.toInt32), (.int (z12).toInt8.toInt32), (.int (z15).toInt8.toInt32), (.int (0 : Int32)), (.int (0 : Int32)), (.int (0 : Int32)), (.int (0 : Int32)), (.int (0 : Int32)), (.int (0 : Int32)), (.int (0 : Int32))] (.int (0 : Int32)) := V16q
  have N16 := Fr.snoc X16 N15 g_b1
  have Z_17 : n0 ≤ h16.size := by rw [W16.size]; exact Z_14
  refine own_aload (n := 78) X16 hx (hb hby at_76) rfl rfl rfl ?_
  refine own_iconst (n := 79) (z := (5 : Int32)) X16 hx (hb hby at_78) rfl rfl ?_
  refine own_lloadN (n := 80) X16 hx (hb hby at_79) rfl rfl ?_
  refine own_lloadN (n := 81) X16 hx (hb hby at_80) rfl rfl ?_
  refine own_iload (n := 83) X16 hx (hb hby at_81) rfl rfl ?_
  refine own_iload (n := 85) X16 hx (hb hby at_83) rfl rfl ?_
  refine own_iconst (n := 86) (z := (5 : Int32)) X16 hx (hb hby at_85) rfl rfl ?_
  refine own_S (n := 89) (argsL := [(.long q0), (.long q1), (.int p2), (.int p3), (.int (5 : Int32))]) (rest := [(.int (5 : Int32)), (.ref b1)]) X16 hx hZ hown (own_rmC l Z a0 hw q0 q1 p2 p3 (5 : Int32) h16 n0 Z_17) (ww1 hw) (ww2 hw) (ww3 hw) (ww4 hw) (by decide) e16 (by rw [hml]; rfl) (lenOf own_pd0 rfl) rfl (hb hby at_86) (Nat.le_of_ble_eq_true rfl) (Nat.le_of_ble_eq_true rfl) (Nat.le_of_ble_eq_true rfl) (Nat.le_of_ble_eq_true rfl) rfl ?_
  rintro v18 T18 L18 X18 ⟨z18, rfl, Nq18, eq18⟩
  have N18 := Fr.app N16 Nq18
  change own_G p e below _ _ (mkF m 89 _ [(.int z18), (.int (5 : Int32)), (.ref b1)])
  refine own_st_bastore (n := 90) X18 hx hZ eq18 V16 ⟨by decide, by decide⟩ 5 rfl (Nat.le_of_ble_eq_true rfl) (hb hby at_89) rfl ?_
  intro T19 h19 X19 e19 W19 V19q
  have V19 : Arv Z h19 b1 k1 .byte (12 : Int32) [(.int (z3).toInt8.toInt32), (.int (z6).toInt8.toInt32), (.int (z9).toInt8.toInt32), (.int (z12).toInt8.toInt32), (.int (z15).toInt8.toInt32), (.int (z18).toInt8.toInt32), (.int (0 : Int32)), (.int (0 : Int32)), (.int (0 : Int32)), (.int (0 : Int32)), (.int (0 : Int32)), (.int (0 : Int32))] (.int (0 : Int32)) := V19q
  have N19 := Fr.snoc X19 N18 g_b1
  have Z_20 : n0 ≤ h19.size := by rw [W19.size]; exact Z_17
  refine own_aload (n := 92) X19 hx (hb hby at_90) rfl rfl rfl ?_
  refine own_bipush (n := 94) (z := (6 : Int32)) X19 hx (hb hby at_92) rfl rfl ?_
  refine own_lloadN (n := 95) X19 hx (hb hby at_94) rfl rfl ?_
  refine own_lloadN (n := 96) X19 hx (hb hby at_95) rfl rfl ?_
  refine own_iload (n := 98) X19 hx (hb hby at_96) rfl rfl ?_
  refine own_iload (n := 100) X19 hx (hb hby at_98) rfl rfl ?_
  refine own_bipush (n := 102) (z := (6 : Int32)) X19 hx (hb hby at_100) rfl rfl ?_
  refine own_S (n := 105) (argsL := [(.long q0), (.long q1), (.int p2), (.int p3), (.int (6 : Int32))]) (rest := [(.int (6 : Int32)), (.ref b1)]) X19 hx hZ hown (own_rmC l Z a0 hw q0 q1 p2 p3 (6 : Int32) h19 n0 Z_20) (ww1 hw) (ww2 hw) (ww3 hw) (ww4 hw) (by decide) e19 (by rw [hml]; rfl) (lenOf own_pd0 rfl) rfl (hb hby at_102) (Nat.le_of_ble_eq_true rfl) (Nat.le_of_ble_eq_true rfl) (Nat.le_of_ble_eq_true rfl) (Nat.le_of_ble_eq_true rfl) rfl ?_
  rintro v21 T21 L21 X21 ⟨z21, rfl, Nq21, eq21⟩
  have N21 := Fr.app N19 Nq21
  change own_G p e below _ _ (mkF m 105 _ [(.int z21), (.int (6 : Int32)), (.ref b1)])
  refine own_st_bastore (n := 106) X21 hx hZ eq21 V19 ⟨by decide, by decide⟩ 6 rfl (Nat.le_of_ble_eq_true rfl) (hb hby at_105) rfl ?_
  intro T22 h22 X22 e22 W22 V22q
  have V22 : Arv Z h22 b1 k1 .byte (12 : Int32) [(.int (z3).toInt8.toInt32), (.int (z6).toInt8.toInt32), (.int (z9).toInt8.toInt32), (.int (z12).toInt8.toInt32), (.int (z15).toInt8.toInt32), (.int (z18).toInt8.toInt32), (.int (z21).toInt8.toInt32), (.int (0 : Int32)), (.int (0 : Int32)), (.int (0 : Int32)), (.int (0 : Int32)), (.int (0 : Int32))] (.int (0 : Int32)) := V22q
  have N22 := Fr.snoc X22 N21 g_b1
  have Z_23 : n0 ≤ h22.size := by rw [W22.size]; exact Z_20
  refine own_aload (n := 108) X22 hx (hb hby at_106) rfl rfl rfl ?_
  refine own_bipush (n := 110) (z := (7 : Int32)) X22 hx (hb hby at_108) rfl rfl ?_
  refine own_lloadN (n := 111) X22 hx (hb hby at_110) rfl rfl ?_
  refine own_lloadN (n := 112) X22 hx (hb hby at_111) rfl rfl ?_
  refine own_iload (n := 114) X22 hx (hb hby at_112) rfl rfl ?_
  refine own_iload (n := 116) X22 hx (hb hby at_114) rfl rfl ?_
  refine own_bipush (n := 118) (z := (7 : Int32)) X22 hx (hb hby at_116) rfl rfl ?_
  refine own_S (n := 121) (argsL := [(.long q0), (.long q1), (.int p2), (.int p3), (.int (7 : Int32))]) (rest := [(.int (7 : Int32)), (.ref b1)]) X22 hx hZ hown (own_rmC l Z a0 hw q0 q1 p2 p3 (7 : Int32) h22 n0 Z_23) (ww1 hw) (ww2 hw) (ww3 hw) (ww4 hw) (by decide) e22 (by rw [hml]; rfl) (lenOf own_pd0 rfl) rfl (hb hby at_118) (Nat.le_of_ble_eq_true rfl) (Nat.le_of_ble_eq_true rfl) (Nat.le_of_ble_eq_true rfl) (Nat.le_of_ble_eq_true rfl) rfl ?_
  rintro v24 T24 L24 X24 ⟨z24, rfl, Nq24, eq24⟩
  have N24 := Fr.app N22 Nq24
  change own_G p e below _ _ (mkF m 121 _ [(.int z24), (.int (7 : Int32)), (.ref b1)])
  refine own_st_bastore (n := 122) X24 hx hZ eq24 V22 ⟨by decide, by decide⟩ 7 rfl (Nat.le_of_ble_eq_true rfl) (hb hby at_121) rfl ?_
  intro T25 h25 X25 e25 W25 V25q
  have V25 : Arv Z h25 b1 k1 .byte (12 : Int32) [(.int (z3).toInt8.toInt32), (.int (z6).toInt8.toInt32), (.int (z9).toInt8.toInt32), (.int (z12).toInt8.toInt32), (.int (z15).toInt8.toInt32), (.int (z18).toInt8.toInt32), (.int (z21).toInt8.toInt32), (.int (z24).toInt8.toInt32), (.int (0 : Int32)), (.int (0 : Int32)), (.int (0 : Int32)), (.int (0 : Int32))] (.int (0 : Int32)) := V25q
  have N25 := Fr.snoc X25 N24 g_b1
  have Z_26 : n0 ≤ h25.size := by rw [W25.size]; exact Z_23
  refine own_aload (n := 124) X25 hx (hb hby at_122) rfl rfl rfl ?_
  refine own_bipush (n := 126) (z := (8 : Int32)) X25 hx (hb hby at_124) rfl rfl ?_
  refine own_lloadN (n := 127) X25 hx (hb hby at_126) rfl rfl ?_
  refine own_lloadN (n := 128) X25 hx (hb hby at_127) rfl rfl ?_
  refine own_iload (n := 130) X25 hx (hb hby at_128) rfl rfl ?_
  refine own_iload (n := 132) X25 hx (hb hby at_130) rfl rfl ?_
  refine own_bipush (n := 134) (z := (8 : Int32)) X25 hx (hb hby at_132) rfl rfl ?_
  refine own_S (n := 137) (argsL := [(.long q0), (.long q1), (.int p2), (.int p3), (.int (8 : Int32))]) (rest := [(.int (8 : Int32)), (.ref b1)]) X25 hx hZ hown (own_rmC l Z a0 hw q0 q1 p2 p3 (8 : Int32) h25 n0 Z_26) (ww1 hw) (ww2 hw) (ww3 hw) (ww4 hw) (by decide) e25 (by rw [hml]; rfl) (lenOf own_pd0 rfl) rfl (hb hby at_134) (Nat.le_of_ble_eq_true rfl) (Nat.le_of_ble_eq_true rfl) (Nat.le_of_ble_eq_true rfl) (Nat.le_of_ble_eq_true rfl) rfl ?_
  rintro v27 T27 L27 X27 ⟨z27, rfl, Nq27, eq27⟩
  have N27 := Fr.app N25 Nq27
  change own_G p e below _ _ (mkF m 137 _ [(.int z27), (.int (8 : Int32)), (.ref b1)])
  refine own_st_bastore (n := 138) X27 hx hZ eq27 V25 ⟨by decide, by decide⟩ 8 rfl (Nat.le_of_ble_eq_true rfl) (hb hby at_137) rfl ?_
  intro T28 h28 X28 e28 W28 V28q
  have V28 : Arv Z h28 b1 k1 .byte (12 : Int32) [(.int (z3).toInt8.toInt32), (.int (z6).toInt8.toInt32), (.int (z9).toInt8.toInt32), (.int (z12).toInt8.toInt32), (.int (z15).toInt8.toInt32), (.int (z18).toInt8.toInt32), (.int (z21).toInt8.toInt32), (.int (z24).toInt8.toInt32), (.int (z27).toInt8.toInt32), (.int (0 : Int32)), (.int (0 : Int32)), (.int (0 : Int32))] (.int (0 : Int32)) := V28q
  have N28 := Fr.snoc X28 N27 g_b1
  have Z_29 : n0 ≤ h28.size := by rw [W28.size]; exact Z_26
  refine own_aload (n := 140) X28 hx (hb hby at_138) rfl rfl rfl ?_
  refine own_bipush (n := 142) (z := (9 : Int32)) X28 hx (hb hby at_140) rfl rfl ?_
  refine own_lloadN (n := 143) X28 hx (hb hby at_142) rfl rfl ?_
  refine own_lloadN (n := 144) X28 hx (hb hby at_143) rfl rfl ?_
  refine own_iload (n := 146) X28 hx (hb hby at_144) rfl rfl ?_
  refine own_iload (n := 148) X28 hx (hb hby at_146) rfl rfl ?_
  refine own_bipush (n := 150) (z := (9 : Int32)) X28 hx (hb hby at_148) rfl rfl ?_
  refine own_S (n := 153) (argsL := [(.long q0), (.long q1), (.int p2), (.int p3), (.int (9 : Int32))]) (rest := [(.int (9 : Int32)), (.ref b1)]) X28 hx hZ hown (own_rmC l Z a0 hw q0 q1 p2 p3 (9 : Int32) h28 n0 Z_29) (ww1 hw) (ww2 hw) (ww3 hw) (ww4 hw) (by decide) e28 (by rw [hml]; rfl) (lenOf own_pd0 rfl) rfl (hb hby at_150) (Nat.le_of_ble_eq_true rfl) (Nat.le_of_ble_eq_true rfl) (Nat.le_of_ble_eq_true rfl) (Nat.le_of_ble_eq_true rfl) rfl ?_
  rintro v30 T30 L30 X30 ⟨z30, rfl, Nq30, eq30⟩
  have N30 := Fr.app N28 Nq30
  change own_G p e below _ _ (mkF m 153 _ [(.int z30), (.int (9 : Int32)), (.ref b1)])
  refine own_st_bastore (n := 154) X30 hx hZ eq30 V28 ⟨by decide, by decide⟩ 9 rfl (Nat.le_of_ble_eq_true rfl) (hb hby at_153) rfl ?_
  intro T31 h31 X31 e31 W31 V31q
  have V31 : Arv Z h31 b1 k1 .byte (12 : Int32) [(.int (z3).toInt8.toInt32), (.int (z6).toInt8.toInt32), (.int (z9).toInt8.toInt32), (.int (z12).toInt8.toInt32), (.int (z15).toInt8.toInt32), (.int (z18).toInt8.toInt32), (.int (z21).toInt8.toInt32), (.int (z24).toInt8.toInt32), (.int (z27).toInt8.toInt32), (.int (z30).toInt8.toInt32), (.int (0 : Int32)), (.int (0 : Int32))] (.int (0 : Int32)) := V31q
  have N31 := Fr.snoc X31 N30 g_b1
  have Z_32 : n0 ≤ h31.size := by rw [W31.size]; exact Z_29
  refine own_aload (n := 156) X31 hx (hb hby at_154) rfl rfl rfl ?_
  refine own_bipush (n := 158) (z := (10 : Int32)) X31 hx (hb hby at_156) rfl rfl ?_
  refine own_lloadN (n := 159) X31 hx (hb hby at_158) rfl rfl ?_
  refine own_lloadN (n := 160) X31 hx (hb hby at_159) rfl rfl ?_
  refine own_iload (n := 162) X31 hx (hb hby at_160) rfl rfl ?_
  refine own_iload (n := 164) X31 hx (hb hby at_162) rfl rfl ?_
  refine own_bipush (n := 166) (z := (10 : Int32)) X31 hx (hb hby at_164) rfl rfl ?_
  refine own_S (n := 169) (argsL := [(.long q0), (.long q1), (.int p2), (.int p3), (.int (10 : Int32))]) (rest := [(.int (10 : Int32)), (.ref b1)]) X31 hx hZ hown (own_rmC l Z a0 hw q0 q1 p2 p3 (10 : Int32) h31 n0 Z_32) (ww1 hw) (ww2 hw) (ww3 hw) (ww4 hw) (by decide) e31 (by rw [hml]; rfl) (lenOf own_pd0 rfl) rfl (hb hby at_166) (Nat.le_of_ble_eq_true rfl) (Nat.le_of_ble_eq_true rfl) (Nat.le_of_ble_eq_true rfl) (Nat.le_of_ble_eq_true rfl) rfl ?_
  rintro v33 T33 L33 X33 ⟨z33, rfl, Nq33, eq33⟩
  have N33 := Fr.app N31 Nq33
  change own_G p e below _ _ (mkF m 169 _ [(.int z33), (.int (10 : Int32)), (.ref b1)])
  refine own_st_bastore (n := 170) X33 hx hZ eq33 V31 ⟨by decide, by decide⟩ 10 rfl (Nat.le_of_ble_eq_true rfl) (hb hby at_169) rfl ?_
  intro T34 h34 X34 e34 W34 V34q
  have V34 : Arv Z h34 b1 k1 .byte (12 : Int32) [(.int (z3).toInt8.toInt32), (.int (z6).toInt8.toInt32), (.int (z9).toInt8.toInt32), (.int (z12).toInt8.toInt32), (.int (z15).toInt8.toInt32), (.int (z18).toInt8.toInt32), (.int (z21).toInt8.toInt32), (.int (z24).toInt8.toInt32), (.int (z27).toInt8.toInt32), (.int (z30).toInt8.toInt32), (.int (z33).toInt8.toInt32), (.int (0 : Int32))] (.int (0 : Int32)) := V34q
  have N34 := Fr.snoc X34 N33 g_b1
  have Z_35 : n0 ≤ h34.size := by rw [W34.size]; exact Z_32
  refine own_aload (n := 172) X34 hx (hb hby at_170) rfl rfl rfl ?_
  refine own_bipush (n := 174) (z := (11 : Int32)) X34 hx (hb hby at_172) rfl rfl ?_
  refine own_lloadN (n := 175) X34 hx (hb hby at_174) rfl rfl ?_
  refine own_lloadN (n := 176) X34 hx (hb hby at_175) rfl rfl ?_
  refine own_iload (n := 178) X34 hx (hb hby at_176) rfl rfl ?_
  refine own_iload (n := 180) X34 hx (hb hby at_178) rfl rfl ?_
  refine own_bipush (n := 182) (z := (11 : Int32)) X34 hx (hb hby at_180) rfl rfl ?_
  refine own_S (n := 185) (argsL := [(.long q0), (.long q1), (.int p2), (.int p3), (.int (11 : Int32))]) (rest := [(.int (11 : Int32)), (.ref b1)]) X34 hx hZ hown (own_rmC l Z a0 hw q0 q1 p2 p3 (11 : Int32) h34 n0 Z_35) (ww1 hw) (ww2 hw) (ww3 hw) (ww4 hw) (by decide) e34 (by rw [hml]; rfl) (lenOf own_pd0 rfl) rfl (hb hby at_182) (Nat.le_of_ble_eq_true rfl) (Nat.le_of_ble_eq_true rfl) (Nat.le_of_ble_eq_true rfl) (Nat.le_of_ble_eq_true rfl) rfl ?_
  rintro v36 T36 L36 X36 ⟨z36, rfl, Nq36, eq36⟩
  have N36 := Fr.app N34 Nq36
  change own_G p e below _ _ (mkF m 185 _ [(.int z36), (.int (11 : Int32)), (.ref b1)])
  refine own_st_bastore (n := 186) X36 hx hZ eq36 V34 ⟨by decide, by decide⟩ 11 rfl (Nat.le_of_ble_eq_true rfl) (hb hby at_185) rfl ?_
  intro T37 h37 X37 e37 W37 V37q
  have V37 : Arv Z h37 b1 k1 .byte (12 : Int32) [(.int (z3).toInt8.toInt32), (.int (z6).toInt8.toInt32), (.int (z9).toInt8.toInt32), (.int (z12).toInt8.toInt32), (.int (z15).toInt8.toInt32), (.int (z18).toInt8.toInt32), (.int (z21).toInt8.toInt32), (.int (z24).toInt8.toInt32), (.int (z27).toInt8.toInt32), (.int (z30).toInt8.toInt32), (.int (z33).toInt8.toInt32), (.int (z36).toInt8.toInt32)] (.int (0 : Int32)) := V37q
  have N37 := Fr.snoc X37 N36 g_b1
  have Z_38 : n0 ≤ h37.size := by rw [W37.size]; exact Z_35
  obtain ⟨qs, hqs⟩ : ∃ z : List Int32, z = [(z3).toInt8.toInt32, (z6).toInt8.toInt32, (z9).toInt8.toInt32, (z12).toInt8.toInt32, (z15).toInt8.toInt32, (z18).toInt8.toInt32, (z21).toInt8.toInt32, (z24).toInt8.toInt32, (z27).toInt8.toInt32, (z30).toInt8.toInt32, (z33).toInt8.toInt32, (z36).toInt8.toInt32] := ⟨_, rfl⟩
  have VB : Arv Z h37 b1 k1 .byte (12 : Int32) (qs.map Value.int) (.int (0 : Int32)) := by rw [hqs]; exact V37
  refine own_iload (n := 188) X37 hx (hb hby at_186) rfl rfl ?_
  refine own_bipush (n := 190) (z := (15 : Int32)) X37 hx (hb hby at_188) rfl rfl ?_
  refine own_iand (n := 191) X37 hx (hb hby at_190) rfl rfl ?_
  refine own_bipush (n := 193) (z := (13 : Int32)) X37 hx (hb hby at_191) rfl rfl ?_
  refine own_irem (n := 194) X37 hx (hb hby at_193) (by decide) rfl ?_
  refine own_istore (n := 196) (l' := #[.val (.long q0), .second, .val (.long q1), .second, .val (.int p2), .val (.int p3), .val (.int p4), .val (.ref b1), .val (.int ((p4 &&& (15 : Int32)) % (13 : Int32))), .unset, .unset, .unset, .unset, .unset]) X37 hx (hb hby at_194) rfl rfl ?_
  refine own_iload (n := 198) X37 hx (hb hby at_196) rfl rfl ?_
  refine own_iconst (n := 199) (z := (4 : Int32)) X37 hx (hb hby at_198) rfl rfl ?_
  refine own_iushr (n := 200) X37 hx (hb hby at_199) rfl rfl ?_
  refine own_bipush (n := 202) (z := (15 : Int32)) X37 hx (hb hby at_200) rfl rfl ?_
  refine own_iand (n := 203) X37 hx (hb hby at_202) rfl rfl ?_
  refine own_bipush (n := 205) (z := (13 : Int32)) X37 hx (hb hby at_203) rfl rfl ?_
  refine own_irem (n := 206) X37 hx (hb hby at_205) (by decide) rfl ?_
  refine own_istore (n := 208) (l' := #[.val (.long q0), .second, .val (.long q1), .second, .val (.int p2), .val (.int p3), .val (.int p4), .val (.ref b1), .val (.int ((p4 &&& (15 : Int32)) % (13 : Int32))), .val (.int ((((p4).toUInt32 >>> ((4 : Int32) &&& 31).toUInt32).toInt32 &&& (15 : Int32)) % (13 : Int32))), .unset, .unset, .unset, .unset]) X37 hx (hb hby at_206) rfl rfl ?_
  obtain ⟨f, hf⟩ : ∃ z, z = ((p4 &&& (15 : Int32)) % (13 : Int32)) := ⟨_, rfl⟩
  rw [← hf]
  obtain ⟨tt, htt⟩ : ∃ z, z = ((((p4).toUInt32 >>> ((4 : Int32) &&& 31).toUInt32).toInt32 &&& (15 : Int32)) % (13 : Int32)) := ⟨_, rfl⟩
  rw [← htt]
  have ok : own_ok f tt := by rw [hf, htt]; exact ⟨(own_rng _).1, (own_rng _).2, (own_rng _).1, (own_rng _).2⟩
  refine own_bipush (n := 210) (z := (9 : Int32)) X37 hx (hb hby at_208) rfl rfl ?_
  refine own_newA (n := 212) X37 hx hZ own_an_int (ww6 hw) e37 (hb hby at_210) (by decide) (cap := 9) (by decide) (by decide) (by decide) (by decide) rfl ?_
  intro T39 h39 k39 b39 g39 X39 e39 E39 A39 B39
  have g_b39 : n0 ≤ b39 := Nat.le_trans Z_38 (Nat.le_of_eq g39.symm)
  have ne_b1_b39 : b1 ≠ b39 := own_ne VB.lt g39
  have A_40 := VB.ext E39
  have Z_41 : n0 ≤ h39.size := Nat.le_trans Z_38 E39.1
  have V39 : Arv Z h39 b39 k39 .int (9 : Int32) [(.int (0 : Int32)), (.int (0 : Int32)), (.int (0 : Int32)), (.int (0 : Int32)), (.int (0 : Int32)), (.int (0 : Int32)), (.int (0 : Int32)), (.int (0 : Int32)), (.int (0 : Int32))] (.int (0 : Int32)) := (Arv.new A39 (by decide)).pad (pad_rep [] (.int (0 : Int32)) 9)
  refine own_dup (n := 213) X39 hx (hb hby at_212) rfl rfl ?_
  refine own_iconst (n := 214) (z := (0 : Int32)) X39 hx (hb hby at_213) rfl rfl ?_
  refine own_iconst (n := 215) (z := (1 : Int32)) X39 hx (hb hby at_214) rfl rfl ?_
  refine own_st_iastore (n := 216) X39 hx hZ e39 V39 ⟨by decide, by decide⟩ 0 rfl (Nat.le_of_ble_eq_true rfl) (hb hby at_215) rfl ?_
  intro T42 h42 X42 e42 W42 V42q
  have V42 : Arv Z h42 b39 k39 .int (9 : Int32) [(.int (1 : Int32)), (.int (0 : Int32)), (.int (0 : Int32)), (.int (0 : Int32)), (.int (0 : Int32)), (.int (0 : Int32)), (.int (0 : Int32)), (.int (0 : Int32)), (.int (0 : Int32))] (.int (0 : Int32)) := V42q
  have N42 := Fr.snoc X42 N37 g_b39
  have A_43 := A_40.other W42 ne_b1_b39
  have Z_44 : n0 ≤ h42.size := by rw [W42.size]; exact Z_41
  refine own_dup (n := 217) X42 hx (hb hby at_216) rfl rfl ?_
  refine own_iconst (n := 218) (z := (1 : Int32)) X42 hx (hb hby at_217) rfl rfl ?_
  refine own_bipush (n := 220) (z := (10 : Int32)) X42 hx (hb hby at_218) rfl rfl ?_
  refine own_st_iastore (n := 221) X42 hx hZ e42 V42 ⟨by decide, by decide⟩ 1 rfl (Nat.le_of_ble_eq_true rfl) (hb hby at_220) rfl ?_
  intro T45 h45 X45 e45 W45 V45q
  have V45 : Arv Z h45 b39 k39 .int (9 : Int32) [(.int (1 : Int32)), (.int (10 : Int32)), (.int (0 : Int32)), (.int (0 : Int32)), (.int (0 : Int32)), (.int (0 : Int32)), (.int (0 : Int32)), (.int (0 : Int32)), (.int (0 : Int32))] (.int (0 : Int32)) := V45q
  have N45 := Fr.snoc X45 N42 g_b39
  have A_46 := A_43.other W45 ne_b1_b39
  have Z_47 : n0 ≤ h45.size := by rw [W45.size]; exact Z_44
  refine own_dup (n := 222) X45 hx (hb hby at_221) rfl rfl ?_
  refine own_iconst (n := 223) (z := (2 : Int32)) X45 hx (hb hby at_222) rfl rfl ?_
  refine own_bipush (n := 225) (z := (100 : Int32)) X45 hx (hb hby at_223) rfl rfl ?_
  refine own_st_iastore (n := 226) X45 hx hZ e45 V45 ⟨by decide, by decide⟩ 2 rfl (Nat.le_of_ble_eq_true rfl) (hb hby at_225) rfl ?_
  intro T48 h48 X48 e48 W48 V48q
  have V48 : Arv Z h48 b39 k39 .int (9 : Int32) [(.int (1 : Int32)), (.int (10 : Int32)), (.int (100 : Int32)), (.int (0 : Int32)), (.int (0 : Int32)), (.int (0 : Int32)), (.int (0 : Int32)), (.int (0 : Int32)), (.int (0 : Int32))] (.int (0 : Int32)) := V48q
  have N48 := Fr.snoc X48 N45 g_b39
  have A_49 := A_46.other W48 ne_b1_b39
  have Z_50 : n0 ≤ h48.size := by rw [W48.size]; exact Z_47
  refine own_dup (n := 227) X48 hx (hb hby at_226) rfl rfl ?_
  refine own_iconst (n := 228) (z := (3 : Int32)) X48 hx (hb hby at_227) rfl rfl ?_
  refine own_sipush (n := 231) (z := (1000 : Int32)) X48 hx (hb hby at_228) rfl rfl ?_
  refine own_st_iastore (n := 232) X48 hx hZ e48 V48 ⟨by decide, by decide⟩ 3 rfl (Nat.le_of_ble_eq_true rfl) (hb hby at_231) rfl ?_
  intro T51 h51 X51 e51 W51 V51q
  have V51 : Arv Z h51 b39 k39 .int (9 : Int32) [(.int (1 : Int32)), (.int (10 : Int32)), (.int (100 : Int32)), (.int (1000 : Int32)), (.int (0 : Int32)), (.int (0 : Int32)), (.int (0 : Int32)), (.int (0 : Int32)), (.int (0 : Int32))] (.int (0 : Int32)) := V51q
  have N51 := Fr.snoc X51 N48 g_b39
  have A_52 := A_49.other W51 ne_b1_b39
  have Z_53 : n0 ≤ h51.size := by rw [W51.size]; exact Z_50
  refine own_dup (n := 233) X51 hx (hb hby at_232) rfl rfl ?_
  refine own_iconst (n := 234) (z := (4 : Int32)) X51 hx (hb hby at_233) rfl rfl ?_
  refine own_sipush (n := 237) (z := (10000 : Int32)) X51 hx (hb hby at_234) rfl rfl ?_
  refine own_st_iastore (n := 238) X51 hx hZ e51 V51 ⟨by decide, by decide⟩ 4 rfl (Nat.le_of_ble_eq_true rfl) (hb hby at_237) rfl ?_
  intro T54 h54 X54 e54 W54 V54q
  have V54 : Arv Z h54 b39 k39 .int (9 : Int32) [(.int (1 : Int32)), (.int (10 : Int32)), (.int (100 : Int32)), (.int (1000 : Int32)), (.int (10000 : Int32)), (.int (0 : Int32)), (.int (0 : Int32)), (.int (0 : Int32)), (.int (0 : Int32))] (.int (0 : Int32)) := V54q
  have N54 := Fr.snoc X54 N51 g_b39
  have A_55 := A_52.other W54 ne_b1_b39
  have Z_56 : n0 ≤ h54.size := by rw [W54.size]; exact Z_53
  refine own_dup (n := 239) X54 hx (hb hby at_238) rfl rfl ?_
  refine own_iconst (n := 240) (z := (5 : Int32)) X54 hx (hb hby at_239) rfl rfl ?_
  refine own_ldc (n := 242) (v := (100000 : Int32)) X54 hx hZ hown (ww7 hw) (hb hby at_240) rfl ?_
  refine own_st_iastore (n := 243) X54 hx hZ e54 V54 ⟨by decide, by decide⟩ 5 rfl (Nat.le_of_ble_eq_true rfl) (hb hby at_242) rfl ?_
  intro T57 h57 X57 e57 W57 V57q
  have V57 : Arv Z h57 b39 k39 .int (9 : Int32) [(.int (1 : Int32)), (.int (10 : Int32)), (.int (100 : Int32)), (.int (1000 : Int32)), (.int (10000 : Int32)), (.int (100000 : Int32)), (.int (0 : Int32)), (.int (0 : Int32)), (.int (0 : Int32))] (.int (0 : Int32)) := V57q
  have N57 := Fr.snoc X57 N54 g_b39
  have A_58 := A_55.other W57 ne_b1_b39
  have Z_59 : n0 ≤ h57.size := by rw [W57.size]; exact Z_56
  refine own_dup (n := 244) X57 hx (hb hby at_243) rfl rfl ?_
  refine own_bipush (n := 246) (z := (6 : Int32)) X57 hx (hb hby at_244) rfl rfl ?_
  refine own_ldc (n := 248) (v := (1000000 : Int32)) X57 hx hZ hown (ww8 hw) (hb hby at_246) rfl ?_
  refine own_st_iastore (n := 249) X57 hx hZ e57 V57 ⟨by decide, by decide⟩ 6 rfl (Nat.le_of_ble_eq_true rfl) (hb hby at_248) rfl ?_
  intro T60 h60 X60 e60 W60 V60q
  have V60 : Arv Z h60 b39 k39 .int (9 : Int32) [(.int (1 : Int32)), (.int (10 : Int32)), (.int (100 : Int32)), (.int (1000 : Int32)), (.int (10000 : Int32)), (.int (100000 : Int32)), (.int (1000000 : Int32)), (.int (0 : Int32)), (.int (0 : Int32))] (.int (0 : Int32)) := V60q
  have N60 := Fr.snoc X60 N57 g_b39
  have A_61 := A_58.other W60 ne_b1_b39
  have Z_62 : n0 ≤ h60.size := by rw [W60.size]; exact Z_59
  refine own_dup (n := 250) X60 hx (hb hby at_249) rfl rfl ?_
  refine own_bipush (n := 252) (z := (7 : Int32)) X60 hx (hb hby at_250) rfl rfl ?_
  refine own_ldc (n := 254) (v := (10000000 : Int32)) X60 hx hZ hown (ww9 hw) (hb hby at_252) rfl ?_
  refine own_st_iastore (n := 255) X60 hx hZ e60 V60 ⟨by decide, by decide⟩ 7 rfl (Nat.le_of_ble_eq_true rfl) (hb hby at_254) rfl ?_
  intro T63 h63 X63 e63 W63 V63q
  have V63 : Arv Z h63 b39 k39 .int (9 : Int32) [(.int (1 : Int32)), (.int (10 : Int32)), (.int (100 : Int32)), (.int (1000 : Int32)), (.int (10000 : Int32)), (.int (100000 : Int32)), (.int (1000000 : Int32)), (.int (10000000 : Int32)), (.int (0 : Int32))] (.int (0 : Int32)) := V63q
  have N63 := Fr.snoc X63 N60 g_b39
  have A_64 := A_61.other W63 ne_b1_b39
  have Z_65 : n0 ≤ h63.size := by rw [W63.size]; exact Z_62
  refine own_dup (n := 256) X63 hx (hb hby at_255) rfl rfl ?_
  refine own_bipush (n := 258) (z := (8 : Int32)) X63 hx (hb hby at_256) rfl rfl ?_
  refine own_ldc (n := 260) (v := (100000000 : Int32)) X63 hx hZ hown (ww10 hw) (hb hby at_258) rfl ?_
  refine own_st_iastore (n := 261) X63 hx hZ e63 V63 ⟨by decide, by decide⟩ 8 rfl (Nat.le_of_ble_eq_true rfl) (hb hby at_260) rfl ?_
  intro T66 h66 X66 e66 W66 V66q
  have V66 : Arv Z h66 b39 k39 .int (9 : Int32) [(.int (1 : Int32)), (.int (10 : Int32)), (.int (100 : Int32)), (.int (1000 : Int32)), (.int (10000 : Int32)), (.int (100000 : Int32)), (.int (1000000 : Int32)), (.int (10000000 : Int32)), (.int (100000000 : Int32))] (.int (0 : Int32)) := V66q
  have N66 := Fr.snoc X66 N63 g_b39
  have A_67 := A_64.other W66 ne_b1_b39
  have Z_68 : n0 ≤ h66.size := by rw [W66.size]; exact Z_65
  refine own_astore (n := 263) (l' := #[.val (.long q0), .second, .val (.long q1), .second, .val (.int p2), .val (.int p3), .val (.int p4), .val (.ref b1), .val (.int f), .val (.int tt), .val (.ref b39), .unset, .unset, .unset]) X66 hx (hb hby at_261) rfl rfl rfl ?_
  have VP : Arv Z h66 b39 k39 .int (9 : Int32) (own_ps.map Value.int) (.int (0 : Int32)) := V66
  refine own_iload (n := 265) X66 hx (hb hby at_263) rfl rfl ?_
  refine own_iload (n := 267) X66 hx (hb hby at_265) rfl rfl ?_
  by_cases hc267_69 : f < tt
  · skip
    refine own_icmpNo (n := 270) X66 hx (hb hby at_267) (tlt hc267_69).2.1 rfl ?_
    refine own_iload (n := 272) X66 hx (hb hby at_270) rfl rfl ?_
    refine own_iload (n := 274) X66 hx (hb hby at_272) rfl rfl ?_
    refine own_isub (n := 275) X66 hx (hb hby at_274) rfl rfl ?_
    refine own_bipush (n := 277) (z := (9 : Int32)) X66 hx (hb hby at_275) rfl rfl ?_
    by_cases hc277_70 : (9 : Int32) < (tt - f)
    · skip
      refine own_icmpNo (n := 280) X66 hx (hb hby at_277) (tlt hc277_70).2.2.2 rfl ?_
      refine own_ldc2_w (n := 283) (v := (-1 : Int64)) X66 hx hZ hown (ww11 hw) (hb hby at_280) rfl ?_
      refine own_lstore (n := 285) (l' := #[.val (.long q0), .second, .val (.long q1), .second, .val (.int p2), .val (.int p3), .val (.int p4), .val (.ref b1), .val (.int f), .val (.int tt), .val (.ref b39), .val (.long (-1 : Int64)), .second, .unset]) X66 hx (hb hby at_283) rfl rfl ?_
      refine own_goto (n := 633) X66 hx (hb hby at_285) (by decide) (by decide) ?_
      refine own_aload (n := 635) X66 hx (hb hby at_633) rfl rfl rfl ?_
      refine own_iload (n := 637) X66 hx (hb hby at_635) rfl rfl ?_
      refine own_iload (n := 639) X66 hx (hb hby at_637) rfl rfl ?_
      refine own_S (n := 642) (argsL := [(.ref b1), (.int f), (.int tt)]) (rest := []) X66 hx hZ hown (own_rmN l Z a0 hw b1 k1 qs f tt h66 n0 Z_68 A_67 ok) (ww12 hw) (ww13 hw) (ww14 hw) (ww15 hw) (by decide) e66 (by rw [hml]; rfl) (lenOf own_pd1 rfl) rfl (hb hby at_639) (Nat.le_of_ble_eq_true rfl) (Nat.le_of_ble_eq_true rfl) (Nat.le_of_ble_eq_true rfl) (Nat.le_of_ble_eq_true rfl) rfl ?_
      rintro v71 T71 L71 X71 ⟨rfl, Nq71, eq71⟩
      have N71 := Fr.app N66 Nq71
      change own_G p e below _ _ (mkF m 642 _ [(.int (own_num qs f tt))])
      refine own_i2l (n := 643) X71 hx (hb hby at_642) rfl rfl ?_
      refine own_lload (n := 645) X71 hx (hb hby at_643) rfl rfl ?_
      refine own_lcmp (n := 646) X71 hx (hb hby at_645) rfl ?_
      refine own_ifNo (n := 649) X71 hx (hb hby at_646) (teq ((lw_eq _ _).mpr (own_num9 hc277_70) : (lcmpW ((own_num qs f tt)).toInt64 (-1 : Int64)) = (0 : Int32))).2 rfl ?_
      refine own_iconst (n := 650) (z := (1 : Int32)) X71 hx (hb hby at_649) rfl rfl ?_
      refine own_goto (n := 654) X71 hx (hb hby at_650) (by decide) (by decide) ?_
      refine own_retZ X71 hx hlk hret (by simp) eq71 (w := (1 : Int32)) rfl (hb hby at_654) (by decide) (by decide) ?_
      exact ⟨rfl, N71⟩
    · skip
      refine own_icmpYes (n := 288) X66 hx (hb hby at_277) (flt hc277_70).2.2.2 (by decide) (by decide) ?_
      refine own_aload (n := 290) X66 hx (hb hby at_288) rfl rfl rfl ?_
      refine own_iconst (n := 291) (z := (0 : Int32)) X66 hx (hb hby at_290) rfl rfl ?_
      refine own_iload (n := 293) X66 hx (hb hby at_291) rfl rfl ?_
      refine own_iload (n := 295) X66 hx (hb hby at_293) rfl rfl ?_
      refine own_S (n := 298) (argsL := [(.ref b1), (.int (0 : Int32)), (.int f), (.int tt)]) (rest := []) X66 hx hZ hown (own_rmB l Z a0 hw b1 k1 qs (0 : Int32) f tt h66 n0 Z_68 A_67 ok) (ww16 hw) (ww17 hw) (ww3 hw) (ww18 hw) (by decide) e66 (by rw [hml]; rfl) (lenOf own_pd2 rfl) rfl (hb hby at_295) (Nat.le_of_ble_eq_true rfl) (Nat.le_of_ble_eq_true rfl) (Nat.le_of_ble_eq_true rfl) (Nat.le_of_ble_eq_true rfl) rfl ?_
      rintro v72 T72 L72 X72 ⟨rfl, Nq72, eq72⟩
      have N72 := Fr.app N66 Nq72
      change own_G p e below _ _ (mkF m 298 _ [(.int (own_bad qs (0 : Int32) f tt))])
      by_cases hc298_73 : (own_bad qs (0 : Int32) f tt) = (0 : Int32)
      · skip
        refine own_ifNo (n := 301) X72 hx (hb hby at_298) (teq hc298_73).2 rfl ?_
        refine own_aload (n := 303) X72 hx (hb hby at_301) rfl rfl rfl ?_
        refine own_iconst (n := 304) (z := (1 : Int32)) X72 hx (hb hby at_303) rfl rfl ?_
        refine own_iload (n := 306) X72 hx (hb hby at_304) rfl rfl ?_
        refine own_iload (n := 308) X72 hx (hb hby at_306) rfl rfl ?_
        refine own_S (n := 311) (argsL := [(.ref b1), (.int (1 : Int32)), (.int f), (.int tt)]) (rest := []) X72 hx hZ hown (own_rmB l Z a0 hw b1 k1 qs (1 : Int32) f tt h66 n0 Z_68 A_67 ok) (ww16 hw) (ww17 hw) (ww3 hw) (ww18 hw) (by decide) eq72 (by rw [hml]; rfl) (lenOf own_pd2 rfl) rfl (hb hby at_308) (Nat.le_of_ble_eq_true rfl) (Nat.le_of_ble_eq_true rfl) (Nat.le_of_ble_eq_true rfl) (Nat.le_of_ble_eq_true rfl) rfl ?_
        rintro v74 T74 L74 X74 ⟨rfl, Nq74, eq74⟩
        have N74 := Fr.app N72 Nq74
        change own_G p e below _ _ (mkF m 311 _ [(.int (own_bad qs (1 : Int32) f tt))])
        by_cases hc311_75 : (own_bad qs (1 : Int32) f tt) = (0 : Int32)
        · skip
          refine own_ifNo (n := 314) X74 hx (hb hby at_311) (teq hc311_75).2 rfl ?_
          refine own_aload (n := 316) X74 hx (hb hby at_314) rfl rfl rfl ?_
          refine own_iconst (n := 317) (z := (2 : Int32)) X74 hx (hb hby at_316) rfl rfl ?_
          refine own_iload (n := 319) X74 hx (hb hby at_317) rfl rfl ?_
          refine own_iload (n := 321) X74 hx (hb hby at_319) rfl rfl ?_
          refine own_S (n := 324) (argsL := [(.ref b1), (.int (2 : Int32)), (.int f), (.int tt)]) (rest := []) X74 hx hZ hown (own_rmB l Z a0 hw b1 k1 qs (2 : Int32) f tt h66 n0 Z_68 A_67 ok) (ww16 hw) (ww17 hw) (ww3 hw) (ww18 hw) (by decide) eq74 (by rw [hml]; rfl) (lenOf own_pd2 rfl) rfl (hb hby at_321) (Nat.le_of_ble_eq_true rfl) (Nat.le_of_ble_eq_true rfl) (Nat.le_of_ble_eq_true rfl) (Nat.le_of_ble_eq_true rfl) rfl ?_
          rintro v76 T76 L76 X76 ⟨rfl, Nq76, eq76⟩
          have N76 := Fr.app N74 Nq76
          change own_G p e below _ _ (mkF m 324 _ [(.int (own_bad qs (2 : Int32) f tt))])
          by_cases hc324_77 : (own_bad qs (2 : Int32) f tt) = (0 : Int32)
          · skip
            refine own_ifNo (n := 327) X76 hx (hb hby at_324) (teq hc324_77).2 rfl ?_
            refine own_aload (n := 329) X76 hx (hb hby at_327) rfl rfl rfl ?_
            refine own_iconst (n := 330) (z := (3 : Int32)) X76 hx (hb hby at_329) rfl rfl ?_
            refine own_iload (n := 332) X76 hx (hb hby at_330) rfl rfl ?_
            refine own_iload (n := 334) X76 hx (hb hby at_332) rfl rfl ?_
            refine own_S (n := 337) (argsL := [(.ref b1), (.int (3 : Int32)), (.int f), (.int tt)]) (rest := []) X76 hx hZ hown (own_rmB l Z a0 hw b1 k1 qs (3 : Int32) f tt h66 n0 Z_68 A_67 ok) (ww16 hw) (ww17 hw) (ww3 hw) (ww18 hw) (by decide) eq76 (by rw [hml]; rfl) (lenOf own_pd2 rfl) rfl (hb hby at_334) (Nat.le_of_ble_eq_true rfl) (Nat.le_of_ble_eq_true rfl) (Nat.le_of_ble_eq_true rfl) (Nat.le_of_ble_eq_true rfl) rfl ?_
            rintro v78 T78 L78 X78 ⟨rfl, Nq78, eq78⟩
            have N78 := Fr.app N76 Nq78
            change own_G p e below _ _ (mkF m 337 _ [(.int (own_bad qs (3 : Int32) f tt))])
            by_cases hc337_79 : (own_bad qs (3 : Int32) f tt) = (0 : Int32)
            · skip
              refine own_ifNo (n := 340) X78 hx (hb hby at_337) (teq hc337_79).2 rfl ?_
              refine own_aload (n := 342) X78 hx (hb hby at_340) rfl rfl rfl ?_
              refine own_iconst (n := 343) (z := (4 : Int32)) X78 hx (hb hby at_342) rfl rfl ?_
              refine own_iload (n := 345) X78 hx (hb hby at_343) rfl rfl ?_
              refine own_iload (n := 347) X78 hx (hb hby at_345) rfl rfl ?_
              refine own_S (n := 350) (argsL := [(.ref b1), (.int (4 : Int32)), (.int f), (.int tt)]) (rest := []) X78 hx hZ hown (own_rmB l Z a0 hw b1 k1 qs (4 : Int32) f tt h66 n0 Z_68 A_67 ok) (ww16 hw) (ww17 hw) (ww3 hw) (ww18 hw) (by decide) eq78 (by rw [hml]; rfl) (lenOf own_pd2 rfl) rfl (hb hby at_347) (Nat.le_of_ble_eq_true rfl) (Nat.le_of_ble_eq_true rfl) (Nat.le_of_ble_eq_true rfl) (Nat.le_of_ble_eq_true rfl) rfl ?_
              rintro v80 T80 L80 X80 ⟨rfl, Nq80, eq80⟩
              have N80 := Fr.app N78 Nq80
              change own_G p e below _ _ (mkF m 350 _ [(.int (own_bad qs (4 : Int32) f tt))])
              by_cases hc350_81 : (own_bad qs (4 : Int32) f tt) = (0 : Int32)
              · skip
                refine own_ifNo (n := 353) X80 hx (hb hby at_350) (teq hc350_81).2 rfl ?_
                refine own_aload (n := 355) X80 hx (hb hby at_353) rfl rfl rfl ?_
                refine own_iconst (n := 356) (z := (5 : Int32)) X80 hx (hb hby at_355) rfl rfl ?_
                refine own_iload (n := 358) X80 hx (hb hby at_356) rfl rfl ?_
                refine own_iload (n := 360) X80 hx (hb hby at_358) rfl rfl ?_
                refine own_S (n := 363) (argsL := [(.ref b1), (.int (5 : Int32)), (.int f), (.int tt)]) (rest := []) X80 hx hZ hown (own_rmB l Z a0 hw b1 k1 qs (5 : Int32) f tt h66 n0 Z_68 A_67 ok) (ww16 hw) (ww17 hw) (ww3 hw) (ww18 hw) (by decide) eq80 (by rw [hml]; rfl) (lenOf own_pd2 rfl) rfl (hb hby at_360) (Nat.le_of_ble_eq_true rfl) (Nat.le_of_ble_eq_true rfl) (Nat.le_of_ble_eq_true rfl) (Nat.le_of_ble_eq_true rfl) rfl ?_
                rintro v82 T82 L82 X82 ⟨rfl, Nq82, eq82⟩
                have N82 := Fr.app N80 Nq82
                change own_G p e below _ _ (mkF m 363 _ [(.int (own_bad qs (5 : Int32) f tt))])
                by_cases hc363_83 : (own_bad qs (5 : Int32) f tt) = (0 : Int32)
                · skip
                  refine own_ifNo (n := 366) X82 hx (hb hby at_363) (teq hc363_83).2 rfl ?_
                  refine own_aload (n := 368) X82 hx (hb hby at_366) rfl rfl rfl ?_
                  refine own_bipush (n := 370) (z := (6 : Int32)) X82 hx (hb hby at_368) rfl rfl ?_
                  refine own_iload (n := 372) X82 hx (hb hby at_370) rfl rfl ?_
                  refine own_iload (n := 374) X82 hx (hb hby at_372) rfl rfl ?_
                  refine own_S (n := 377) (argsL := [(.ref b1), (.int (6 : Int32)), (.int f), (.int tt)]) (rest := []) X82 hx hZ hown (own_rmB l Z a0 hw b1 k1 qs (6 : Int32) f tt h66 n0 Z_68 A_67 ok) (ww16 hw) (ww17 hw) (ww3 hw) (ww18 hw) (by decide) eq82 (by rw [hml]; rfl) (lenOf own_pd2 rfl) rfl (hb hby at_374) (Nat.le_of_ble_eq_true rfl) (Nat.le_of_ble_eq_true rfl) (Nat.le_of_ble_eq_true rfl) (Nat.le_of_ble_eq_true rfl) rfl ?_
                  rintro v84 T84 L84 X84 ⟨rfl, Nq84, eq84⟩
                  have N84 := Fr.app N82 Nq84
                  change own_G p e below _ _ (mkF m 377 _ [(.int (own_bad qs (6 : Int32) f tt))])
                  by_cases hc377_85 : (own_bad qs (6 : Int32) f tt) = (0 : Int32)
                  · skip
                    refine own_ifNo (n := 380) X84 hx (hb hby at_377) (teq hc377_85).2 rfl ?_
                    refine own_aload (n := 382) X84 hx (hb hby at_380) rfl rfl rfl ?_
                    refine own_bipush (n := 384) (z := (7 : Int32)) X84 hx (hb hby at_382) rfl rfl ?_
                    refine own_iload (n := 386) X84 hx (hb hby at_384) rfl rfl ?_
                    refine own_iload (n := 388) X84 hx (hb hby at_386) rfl rfl ?_
                    refine own_S (n := 391) (argsL := [(.ref b1), (.int (7 : Int32)), (.int f), (.int tt)]) (rest := []) X84 hx hZ hown (own_rmB l Z a0 hw b1 k1 qs (7 : Int32) f tt h66 n0 Z_68 A_67 ok) (ww16 hw) (ww17 hw) (ww3 hw) (ww18 hw) (by decide) eq84 (by rw [hml]; rfl) (lenOf own_pd2 rfl) rfl (hb hby at_388) (Nat.le_of_ble_eq_true rfl) (Nat.le_of_ble_eq_true rfl) (Nat.le_of_ble_eq_true rfl) (Nat.le_of_ble_eq_true rfl) rfl ?_
                    rintro v86 T86 L86 X86 ⟨rfl, Nq86, eq86⟩
                    have N86 := Fr.app N84 Nq86
                    change own_G p e below _ _ (mkF m 391 _ [(.int (own_bad qs (7 : Int32) f tt))])
                    by_cases hc391_87 : (own_bad qs (7 : Int32) f tt) = (0 : Int32)
                    · skip
                      refine own_ifNo (n := 394) X86 hx (hb hby at_391) (teq hc391_87).2 rfl ?_
                      refine own_aload (n := 396) X86 hx (hb hby at_394) rfl rfl rfl ?_
                      refine own_bipush (n := 398) (z := (8 : Int32)) X86 hx (hb hby at_396) rfl rfl ?_
                      refine own_iload (n := 400) X86 hx (hb hby at_398) rfl rfl ?_
                      refine own_iload (n := 402) X86 hx (hb hby at_400) rfl rfl ?_
                      refine own_S (n := 405) (argsL := [(.ref b1), (.int (8 : Int32)), (.int f), (.int tt)]) (rest := []) X86 hx hZ hown (own_rmB l Z a0 hw b1 k1 qs (8 : Int32) f tt h66 n0 Z_68 A_67 ok) (ww16 hw) (ww17 hw) (ww3 hw) (ww18 hw) (by decide) eq86 (by rw [hml]; rfl) (lenOf own_pd2 rfl) rfl (hb hby at_402) (Nat.le_of_ble_eq_true rfl) (Nat.le_of_ble_eq_true rfl) (Nat.le_of_ble_eq_true rfl) (Nat.le_of_ble_eq_true rfl) rfl ?_
                      rintro v88 T88 L88 X88 ⟨rfl, Nq88, eq88⟩
                      have N88 := Fr.app N86 Nq88
                      change own_G p e below _ _ (mkF m 405 _ [(.int (own_bad qs (8 : Int32) f tt))])
                      by_cases hc405_89 : (own_bad qs (8 : Int32) f tt) = (0 : Int32)
                      · skip
                        refine own_ifNo (n := 408) X88 hx (hb hby at_405) (teq hc405_89).2 rfl ?_
                        refine own_aload (n := 410) X88 hx (hb hby at_408) rfl rfl rfl ?_
                        refine own_bipush (n := 412) (z := (9 : Int32)) X88 hx (hb hby at_410) rfl rfl ?_
                        refine own_iload (n := 414) X88 hx (hb hby at_412) rfl rfl ?_
                        refine own_iload (n := 416) X88 hx (hb hby at_414) rfl rfl ?_
                        refine own_S (n := 419) (argsL := [(.ref b1), (.int (9 : Int32)), (.int f), (.int tt)]) (rest := []) X88 hx hZ hown (own_rmB l Z a0 hw b1 k1 qs (9 : Int32) f tt h66 n0 Z_68 A_67 ok) (ww16 hw) (ww17 hw) (ww3 hw) (ww18 hw) (by decide) eq88 (by rw [hml]; rfl) (lenOf own_pd2 rfl) rfl (hb hby at_416) (Nat.le_of_ble_eq_true rfl) (Nat.le_of_ble_eq_true rfl) (Nat.le_of_ble_eq_true rfl) (Nat.le_of_ble_eq_true rfl) rfl ?_
                        rintro v90 T90 L90 X90 ⟨rfl, Nq90, eq90⟩
                        have N90 := Fr.app N88 Nq90
                        change own_G p e below _ _ (mkF m 419 _ [(.int (own_bad qs (9 : Int32) f tt))])
                        by_cases hc419_91 : (own_bad qs (9 : Int32) f tt) = (0 : Int32)
                        · skip
                          refine own_ifNo (n := 422) X90 hx (hb hby at_419) (teq hc419_91).2 rfl ?_
                          refine own_aload (n := 424) X90 hx (hb hby at_422) rfl rfl rfl ?_
                          refine own_bipush (n := 426) (z := (10 : Int32)) X90 hx (hb hby at_424) rfl rfl ?_
                          refine own_iload (n := 428) X90 hx (hb hby at_426) rfl rfl ?_
                          refine own_iload (n := 430) X90 hx (hb hby at_428) rfl rfl ?_
                          refine own_S (n := 433) (argsL := [(.ref b1), (.int (10 : Int32)), (.int f), (.int tt)]) (rest := []) X90 hx hZ hown (own_rmB l Z a0 hw b1 k1 qs (10 : Int32) f tt h66 n0 Z_68 A_67 ok) (ww16 hw) (ww17 hw) (ww3 hw) (ww18 hw) (by decide) eq90 (by rw [hml]; rfl) (lenOf own_pd2 rfl) rfl (hb hby at_430) (Nat.le_of_ble_eq_true rfl) (Nat.le_of_ble_eq_true rfl) (Nat.le_of_ble_eq_true rfl) (Nat.le_of_ble_eq_true rfl) rfl ?_
                          rintro v92 T92 L92 X92 ⟨rfl, Nq92, eq92⟩
                          have N92 := Fr.app N90 Nq92
                          change own_G p e below _ _ (mkF m 433 _ [(.int (own_bad qs (10 : Int32) f tt))])
                          by_cases hc433_93 : (own_bad qs (10 : Int32) f tt) = (0 : Int32)
                          · skip
                            refine own_ifNo (n := 436) X92 hx (hb hby at_433) (teq hc433_93).2 rfl ?_
                            refine own_aload (n := 438) X92 hx (hb hby at_436) rfl rfl rfl ?_
                            refine own_bipush (n := 440) (z := (11 : Int32)) X92 hx (hb hby at_438) rfl rfl ?_
                            refine own_iload (n := 442) X92 hx (hb hby at_440) rfl rfl ?_
                            refine own_iload (n := 444) X92 hx (hb hby at_442) rfl rfl ?_
                            refine own_S (n := 447) (argsL := [(.ref b1), (.int (11 : Int32)), (.int f), (.int tt)]) (rest := []) X92 hx hZ hown (own_rmB l Z a0 hw b1 k1 qs (11 : Int32) f tt h66 n0 Z_68 A_67 ok) (ww16 hw) (ww17 hw) (ww3 hw) (ww18 hw) (by decide) eq92 (by rw [hml]; rfl) (lenOf own_pd2 rfl) rfl (hb hby at_444) (Nat.le_of_ble_eq_true rfl) (Nat.le_of_ble_eq_true rfl) (Nat.le_of_ble_eq_true rfl) (Nat.le_of_ble_eq_true rfl) rfl ?_
                            rintro v94 T94 L94 X94 ⟨rfl, Nq94, eq94⟩
                            have N94 := Fr.app N92 Nq94
                            change own_G p e below _ _ (mkF m 447 _ [(.int (own_bad qs (11 : Int32) f tt))])
                            by_cases hc447_95 : (own_bad qs (11 : Int32) f tt) = (0 : Int32)
                            · skip
                              refine own_ifYes (n := 454) X94 hx (hb hby at_447) (teq hc447_95).1 (by decide) (by decide) ?_
                              refine own_iconst (n := 455) (z := (0 : Int32)) X94 hx (hb hby at_454) rfl rfl ?_
                              refine own_istore (n := 457) (l' := #[.val (.long q0), .second, .val (.long q1), .second, .val (.int p2), .val (.int p3), .val (.int p4), .val (.ref b1), .val (.int f), .val (.int tt), .val (.ref b39), .unset, .unset, .val (.int (0 : Int32))]) X94 hx (hb hby at_455) rfl rfl ?_
                              refine own_iload (n := 459) X94 hx (hb hby at_457) rfl rfl ?_
                              refine own_ifYes (n := 470) X94 hx (hb hby at_459) (teq (by decide : (0 : Int32) = (0 : Int32))).1 (by decide) (by decide) ?_
                              refine own_aload (n := 472) X94 hx (hb hby at_470) rfl rfl rfl ?_
                              refine own_iconst (n := 473) (z := (0 : Int32)) X94 hx (hb hby at_472) rfl rfl ?_
                              refine own_iload (n := 475) X94 hx (hb hby at_473) rfl rfl ?_
                              refine own_iload (n := 477) X94 hx (hb hby at_475) rfl rfl ?_
                              refine own_aload (n := 479) X94 hx (hb hby at_477) rfl rfl rfl ?_
                              refine own_S (n := 482) (argsL := [(.ref b1), (.int (0 : Int32)), (.int f), (.int tt), (.ref b39)]) (rest := []) X94 hx hZ hown (own_rmT l Z a0 hw b1 b39 k1 k39 qs (0 : Int32) f tt h66 n0 Z_68 A_67 VP ok hc277_70) (ww19 hw) (ww20 hw) (ww3 hw) (ww21 hw) (by decide) eq94 (by rw [hml]; rfl) (lenOf own_pd3 rfl) rfl (hb hby at_479) (Nat.le_of_ble_eq_true rfl) (Nat.le_of_ble_eq_true rfl) (Nat.le_of_ble_eq_true rfl) (Nat.le_of_ble_eq_true rfl) rfl ?_
                              rintro v96 T96 L96 X96 ⟨rfl, Nq96, eq96⟩
                              have N96 := Fr.app N94 Nq96
                              change own_G p e below _ _ (mkF m 482 _ [(.long (own_term qs (0 : Int32) f tt))])
                              refine own_aload (n := 484) X96 hx (hb hby at_482) rfl rfl rfl ?_
                              refine own_iconst (n := 485) (z := (1 : Int32)) X96 hx (hb hby at_484) rfl rfl ?_
                              refine own_iload (n := 487) X96 hx (hb hby at_485) rfl rfl ?_
                              refine own_iload (n := 489) X96 hx (hb hby at_487) rfl rfl ?_
                              refine own_aload (n := 491) X96 hx (hb hby at_489) rfl rfl rfl ?_
                              refine own_S (n := 494) (argsL := [(.ref b1), (.int (1 : Int32)), (.int f), (.int tt), (.ref b39)]) (rest := [(.long (own_term qs (0 : Int32) f tt))]) X96 hx hZ hown (own_rmT l Z a0 hw b1 b39 k1 k39 qs (1 : Int32) f tt h66 n0 Z_68 A_67 VP ok hc277_70) (ww19 hw) (ww20 hw) (ww3 hw) (ww21 hw) (by decide) eq96 (by rw [hml]; rfl) (lenOf own_pd3 rfl) rfl (hb hby at_491) (Nat.le_of_ble_eq_true rfl) (Nat.le_of_ble_eq_true rfl) (Nat.le_of_ble_eq_true rfl) (Nat.le_of_ble_eq_true rfl) rfl ?_
                              rintro v97 T97 L97 X97 ⟨rfl, Nq97, eq97⟩
                              have N97 := Fr.app N96 Nq97
                              change own_G p e below _ _ (mkF m 494 _ [(.long (own_term qs (1 : Int32) f tt)), (.long (own_term qs (0 : Int32) f tt))])
                              refine own_ladd (n := 495) X97 hx (hb hby at_494) rfl rfl ?_
                              refine own_aload (n := 497) X97 hx (hb hby at_495) rfl rfl rfl ?_
                              refine own_iconst (n := 498) (z := (2 : Int32)) X97 hx (hb hby at_497) rfl rfl ?_
                              refine own_iload (n := 500) X97 hx (hb hby at_498) rfl rfl ?_
                              refine own_iload (n := 502) X97 hx (hb hby at_500) rfl rfl ?_
                              refine own_aload (n := 504) X97 hx (hb hby at_502) rfl rfl rfl ?_
                              refine own_S (n := 507) (argsL := [(.ref b1), (.int (2 : Int32)), (.int f), (.int tt), (.ref b39)]) (rest := [(.long ((own_term qs (0 : Int32) f tt) + (own_term qs (1 : Int32) f tt)))]) X97 hx hZ hown (own_rmT l Z a0 hw b1 b39 k1 k39 qs (2 : Int32) f tt h66 n0 Z_68 A_67 VP ok hc277_70) (ww19 hw) (ww20 hw) (ww3 hw) (ww21 hw) (by decide) eq97 (by rw [hml]; rfl) (lenOf own_pd3 rfl) rfl (hb hby at_504) (Nat.le_of_ble_eq_true rfl) (Nat.le_of_ble_eq_true rfl) (Nat.le_of_ble_eq_true rfl) (Nat.le_of_ble_eq_true rfl) rfl ?_
                              rintro v98 T98 L98 X98 ⟨rfl, Nq98, eq98⟩
                              have N98 := Fr.app N97 Nq98
                              change own_G p e below _ _ (mkF m 507 _ [(.long (own_term qs (2 : Int32) f tt)), (.long ((own_term qs (0 : Int32) f tt) + (own_term qs (1 : Int32) f tt)))])
                              refine own_ladd (n := 508) X98 hx (hb hby at_507) rfl rfl ?_
                              refine own_aload (n := 510) X98 hx (hb hby at_508) rfl rfl rfl ?_
                              refine own_iconst (n := 511) (z := (3 : Int32)) X98 hx (hb hby at_510) rfl rfl ?_
                              refine own_iload (n := 513) X98 hx (hb hby at_511) rfl rfl ?_
                              refine own_iload (n := 515) X98 hx (hb hby at_513) rfl rfl ?_
                              refine own_aload (n := 517) X98 hx (hb hby at_515) rfl rfl rfl ?_
                              refine own_S (n := 520) (argsL := [(.ref b1), (.int (3 : Int32)), (.int f), (.int tt), (.ref b39)]) (rest := [(.long (((own_term qs (0 : Int32) f tt) + (own_term qs (1 : Int32) f tt)) + (own_term qs (2 : Int32) f tt)))]) X98 hx hZ hown (own_rmT l Z a0 hw b1 b39 k1 k39 qs (3 : Int32) f tt h66 n0 Z_68 A_67 VP ok hc277_70) (ww19 hw) (ww20 hw) (ww3 hw) (ww21 hw) (by decide) eq98 (by rw [hml]; rfl) (lenOf own_pd3 rfl) rfl (hb hby at_517) (Nat.le_of_ble_eq_true rfl) (Nat.le_of_ble_eq_true rfl) (Nat.le_of_ble_eq_true rfl) (Nat.le_of_ble_eq_true rfl) rfl ?_
                              rintro v99 T99 L99 X99 ⟨rfl, Nq99, eq99⟩
                              have N99 := Fr.app N98 Nq99
                              change own_G p e below _ _ (mkF m 520 _ [(.long (own_term qs (3 : Int32) f tt)), (.long (((own_term qs (0 : Int32) f tt) + (own_term qs (1 : Int32) f tt)) + (own_term qs (2 : Int32) f tt)))])
                              refine own_ladd (n := 521) X99 hx (hb hby at_520) rfl rfl ?_
                              refine own_aload (n := 523) X99 hx (hb hby at_521) rfl rfl rfl ?_
                              refine own_iconst (n := 524) (z := (4 : Int32)) X99 hx (hb hby at_523) rfl rfl ?_
                              refine own_iload (n := 526) X99 hx (hb hby at_524) rfl rfl ?_
                              refine own_iload (n := 528) X99 hx (hb hby at_526) rfl rfl ?_
                              refine own_aload (n := 530) X99 hx (hb hby at_528) rfl rfl rfl ?_
                              refine own_S (n := 533) (argsL := [(.ref b1), (.int (4 : Int32)), (.int f), (.int tt), (.ref b39)]) (rest := [(.long ((((own_term qs (0 : Int32) f tt) + (own_term qs (1 : Int32) f tt)) + (own_term qs (2 : Int32) f tt)) + (own_term qs (3 : Int32) f tt)))]) X99 hx hZ hown (own_rmT l Z a0 hw b1 b39 k1 k39 qs (4 : Int32) f tt h66 n0 Z_68 A_67 VP ok hc277_70) (ww19 hw) (ww20 hw) (ww3 hw) (ww21 hw) (by decide) eq99 (by rw [hml]; rfl) (lenOf own_pd3 rfl) rfl (hb hby at_530) (Nat.le_of_ble_eq_true rfl) (Nat.le_of_ble_eq_true rfl) (Nat.le_of_ble_eq_true rfl) (Nat.le_of_ble_eq_true rfl) rfl ?_
                              rintro v100 T100 L100 X100 ⟨rfl, Nq100, eq100⟩
                              have N100 := Fr.app N99 Nq100
                              change own_G p e below _ _ (mkF m 533 _ [(.long (own_term qs (4 : Int32) f tt)), (.long ((((own_term qs (0 : Int32) f tt) + (own_term qs (1 : Int32) f tt)) + (own_term qs (2 : Int32) f tt)) + (own_term qs (3 : Int32) f tt)))])
                              refine own_ladd (n := 534) X100 hx (hb hby at_533) rfl rfl ?_
                              refine own_aload (n := 536) X100 hx (hb hby at_534) rfl rfl rfl ?_
                              refine own_iconst (n := 537) (z := (5 : Int32)) X100 hx (hb hby at_536) rfl rfl ?_
                              refine own_iload (n := 539) X100 hx (hb hby at_537) rfl rfl ?_
                              refine own_iload (n := 541) X100 hx (hb hby at_539) rfl rfl ?_
                              refine own_aload (n := 543) X100 hx (hb hby at_541) rfl rfl rfl ?_
                              refine own_S (n := 546) (argsL := [(.ref b1), (.int (5 : Int32)), (.int f), (.int tt), (.ref b39)]) (rest := [(.long (((((own_term qs (0 : Int32) f tt) + (own_term qs (1 : Int32) f tt)) + (own_term qs (2 : Int32) f tt)) + (own_term qs (3 : Int32) f tt)) + (own_term qs (4 : Int32) f tt)))]) X100 hx hZ hown (own_rmT l Z a0 hw b1 b39 k1 k39 qs (5 : Int32) f tt h66 n0 Z_68 A_67 VP ok hc277_70) (ww19 hw) (ww20 hw) (ww3 hw) (ww21 hw) (by decide) eq100 (by rw [hml]; rfl) (lenOf own_pd3 rfl) rfl (hb hby at_543) (Nat.le_of_ble_eq_true rfl) (Nat.le_of_ble_eq_true rfl) (Nat.le_of_ble_eq_true rfl) (Nat.le_of_ble_eq_true rfl) rfl ?_
                              rintro v101 T101 L101 X101 ⟨rfl, Nq101, eq101⟩
                              have N101 := Fr.app N100 Nq101
                              change own_G p e below _ _ (mkF m 546 _ [(.long (own_term qs (5 : Int32) f tt)), (.long (((((own_term qs (0 : Int32) f tt) + (own_term qs (1 : Int32) f tt)) + (own_term qs (2 : Int32) f tt)) + (own_term qs (3 : Int32) f tt)) + (own_term qs (4 : Int32) f tt)))])
                              refine own_ladd (n := 547) X101 hx (hb hby at_546) rfl rfl ?_
                              refine own_aload (n := 549) X101 hx (hb hby at_547) rfl rfl rfl ?_
                              refine own_bipush (n := 551) (z := (6 : Int32)) X101 hx (hb hby at_549) rfl rfl ?_
                              refine own_iload (n := 553) X101 hx (hb hby at_551) rfl rfl ?_
                              refine own_iload (n := 555) X101 hx (hb hby at_553) rfl rfl ?_
                              refine own_aload (n := 557) X101 hx (hb hby at_555) rfl rfl rfl ?_
                              refine own_S (n := 560) (argsL := [(.ref b1), (.int (6 : Int32)), (.int f), (.int tt), (.ref b39)]) (rest := [(.long ((((((own_term qs (0 : Int32) f tt) + (own_term qs (1 : Int32) f tt)) + (own_term qs (2 : Int32) f tt)) + (own_term qs (3 : Int32) f tt)) + (own_term qs (4 : Int32) f tt)) + (own_term qs (5 : Int32) f tt)))]) X101 hx hZ hown (own_rmT l Z a0 hw b1 b39 k1 k39 qs (6 : Int32) f tt h66 n0 Z_68 A_67 VP ok hc277_70) (ww19 hw) (ww20 hw) (ww3 hw) (ww21 hw) (by decide) eq101 (by rw [hml]; rfl) (lenOf own_pd3 rfl) rfl (hb hby at_557) (Nat.le_of_ble_eq_true rfl) (Nat.le_of_ble_eq_true rfl) (Nat.le_of_ble_eq_true rfl) (Nat.le_of_ble_eq_true rfl) rfl ?_
                              rintro v102 T102 L102 X102 ⟨rfl, Nq102, eq102⟩
                              have N102 := Fr.app N101 Nq102
                              change own_G p e below _ _ (mkF m 560 _ [(.long (own_term qs (6 : Int32) f tt)), (.long ((((((own_term qs (0 : Int32) f tt) + (own_term qs (1 : Int32) f tt)) + (own_term qs (2 : Int32) f tt)) + (own_term qs (3 : Int32) f tt)) + (own_term qs (4 : Int32) f tt)) + (own_term qs (5 : Int32) f tt)))])
                              refine own_ladd (n := 561) X102 hx (hb hby at_560) rfl rfl ?_
                              refine own_aload (n := 563) X102 hx (hb hby at_561) rfl rfl rfl ?_
                              refine own_bipush (n := 565) (z := (7 : Int32)) X102 hx (hb hby at_563) rfl rfl ?_
                              refine own_iload (n := 567) X102 hx (hb hby at_565) rfl rfl ?_
                              refine own_iload (n := 569) X102 hx (hb hby at_567) rfl rfl ?_
                              refine own_aload (n := 571) X102 hx (hb hby at_569) rfl rfl rfl ?_
                              refine own_S (n := 574) (argsL := [(.ref b1), (.int (7 : Int32)), (.int f), (.int tt), (.ref b39)]) (rest := [(.long (((((((own_term qs (0 : Int32) f tt) + (own_term qs (1 : Int32) f tt)) + (own_term qs (2 : Int32) f tt)) + (own_term qs (3 : Int32) f tt)) + (own_term qs (4 : Int32) f tt)) + (own_term qs (5 : Int32) f tt)) + (own_term qs (6 : Int32) f tt)))]) X102 hx hZ hown (own_rmT l Z a0 hw b1 b39 k1 k39 qs (7 : Int32) f tt h66 n0 Z_68 A_67 VP ok hc277_70) (ww19 hw) (ww20 hw) (ww3 hw) (ww21 hw) (by decide) eq102 (by rw [hml]; rfl) (lenOf own_pd3 rfl) rfl (hb hby at_571) (Nat.le_of_ble_eq_true rfl) (Nat.le_of_ble_eq_true rfl) (Nat.le_of_ble_eq_true rfl) (Nat.le_of_ble_eq_true rfl) rfl ?_
                              rintro v103 T103 L103 X103 ⟨rfl, Nq103, eq103⟩
                              have N103 := Fr.app N102 Nq103
                              change own_G p e below _ _ (mkF m 574 _ [(.long (own_term qs (7 : Int32) f tt)), (.long (((((((own_term qs (0 : Int32) f tt) + (own_term qs (1 : Int32) f tt)) + (own_term qs (2 : Int32) f tt)) + (own_term qs (3 : Int32) f tt)) + (own_term qs (4 : Int32) f tt)) + (own_term qs (5 : Int32) f tt)) + (own_term qs (6 : Int32) f tt)))])
                              refine own_ladd (n := 575) X103 hx (hb hby at_574) rfl rfl ?_
                              refine own_aload (n := 577) X103 hx (hb hby at_575) rfl rfl rfl ?_
                              refine own_bipush (n := 579) (z := (8 : Int32)) X103 hx (hb hby at_577) rfl rfl ?_
                              refine own_iload (n := 581) X103 hx (hb hby at_579) rfl rfl ?_
                              refine own_iload (n := 583) X103 hx (hb hby at_581) rfl rfl ?_
                              refine own_aload (n := 585) X103 hx (hb hby at_583) rfl rfl rfl ?_
                              refine own_S (n := 588) (argsL := [(.ref b1), (.int (8 : Int32)), (.int f), (.int tt), (.ref b39)]) (rest := [(.long ((((((((own_term qs (0 : Int32) f tt) + (own_term qs (1 : Int32) f tt)) + (own_term qs (2 : Int32) f tt)) + (own_term qs (3 : Int32) f tt)) + (own_term qs (4 : Int32) f tt)) + (own_term qs (5 : Int32) f tt)) + (own_term qs (6 : Int32) f tt)) + (own_term qs (7 : Int32) f tt)))]) X103 hx hZ hown (own_rmT l Z a0 hw b1 b39 k1 k39 qs (8 : Int32) f tt h66 n0 Z_68 A_67 VP ok hc277_70) (ww19 hw) (ww20 hw) (ww3 hw) (ww21 hw) (by decide) eq103 (by rw [hml]; rfl) (lenOf own_pd3 rfl) rfl (hb hby at_585) (Nat.le_of_ble_eq_true rfl) (Nat.le_of_ble_eq_true rfl) (Nat.le_of_ble_eq_true rfl) (Nat.le_of_ble_eq_true rfl) rfl ?_
                              rintro v104 T104 L104 X104 ⟨rfl, Nq104, eq104⟩
                              have N104 := Fr.app N103 Nq104
                              change own_G p e below _ _ (mkF m 588 _ [(.long (own_term qs (8 : Int32) f tt)), (.long ((((((((own_term qs (0 : Int32) f tt) + (own_term qs (1 : Int32) f tt)) + (own_term qs (2 : Int32) f tt)) + (own_term qs (3 : Int32) f tt)) + (own_term qs (4 : Int32) f tt)) + (own_term qs (5 : Int32) f tt)) + (own_term qs (6 : Int32) f tt)) + (own_term qs (7 : Int32) f tt)))])
                              refine own_ladd (n := 589) X104 hx (hb hby at_588) rfl rfl ?_
                              refine own_aload (n := 591) X104 hx (hb hby at_589) rfl rfl rfl ?_
                              refine own_bipush (n := 593) (z := (9 : Int32)) X104 hx (hb hby at_591) rfl rfl ?_
                              refine own_iload (n := 595) X104 hx (hb hby at_593) rfl rfl ?_
                              refine own_iload (n := 597) X104 hx (hb hby at_595) rfl rfl ?_
                              refine own_aload (n := 599) X104 hx (hb hby at_597) rfl rfl rfl ?_
                              refine own_S (n := 602) (argsL := [(.ref b1), (.int (9 : Int32)), (.int f), (.int tt), (.ref b39)]) (rest := [(.long (((((((((own_term qs (0 : Int32) f tt) + (own_term qs (1 : Int32) f tt)) + (own_term qs (2 : Int32) f tt)) + (own_term qs (3 : Int32) f tt)) + (own_term qs (4 : Int32) f tt)) + (own_term qs (5 : Int32) f tt)) + (own_term qs (6 : Int32) f tt)) + (own_term qs (7 : Int32) f tt)) + (own_term qs (8 : Int32) f tt)))]) X104 hx hZ hown (own_rmT l Z a0 hw b1 b39 k1 k39 qs (9 : Int32) f tt h66 n0 Z_68 A_67 VP ok hc277_70) (ww19 hw) (ww20 hw) (ww3 hw) (ww21 hw) (by decide) eq104 (by rw [hml]; rfl) (lenOf own_pd3 rfl) rfl (hb hby at_599) (Nat.le_of_ble_eq_true rfl) (Nat.le_of_ble_eq_true rfl) (Nat.le_of_ble_eq_true rfl) (Nat.le_of_ble_eq_true rfl) rfl ?_
                              rintro v105 T105 L105 X105 ⟨rfl, Nq105, eq105⟩
                              have N105 := Fr.app N104 Nq105
                              change own_G p e below _ _ (mkF m 602 _ [(.long (own_term qs (9 : Int32) f tt)), (.long (((((((((own_term qs (0 : Int32) f tt) + (own_term qs (1 : Int32) f tt)) + (own_term qs (2 : Int32) f tt)) + (own_term qs (3 : Int32) f tt)) + (own_term qs (4 : Int32) f tt)) + (own_term qs (5 : Int32) f tt)) + (own_term qs (6 : Int32) f tt)) + (own_term qs (7 : Int32) f tt)) + (own_term qs (8 : Int32) f tt)))])
                              refine own_ladd (n := 603) X105 hx (hb hby at_602) rfl rfl ?_
                              refine own_aload (n := 605) X105 hx (hb hby at_603) rfl rfl rfl ?_
                              refine own_bipush (n := 607) (z := (10 : Int32)) X105 hx (hb hby at_605) rfl rfl ?_
                              refine own_iload (n := 609) X105 hx (hb hby at_607) rfl rfl ?_
                              refine own_iload (n := 611) X105 hx (hb hby at_609) rfl rfl ?_
                              refine own_aload (n := 613) X105 hx (hb hby at_611) rfl rfl rfl ?_
                              refine own_S (n := 616) (argsL := [(.ref b1), (.int (10 : Int32)), (.int f), (.int tt), (.ref b39)]) (rest := [(.long ((((((((((own_term qs (0 : Int32) f tt) + (own_term qs (1 : Int32) f tt)) + (own_term qs (2 : Int32) f tt)) + (own_term qs (3 : Int32) f tt)) + (own_term qs (4 : Int32) f tt)) + (own_term qs (5 : Int32) f tt)) + (own_term qs (6 : Int32) f tt)) + (own_term qs (7 : Int32) f tt)) + (own_term qs (8 : Int32) f tt)) + (own_term qs (9 : Int32) f tt)))]) X105 hx hZ hown (own_rmT l Z a0 hw b1 b39 k1 k39 qs (10 : Int32) f tt h66 n0 Z_68 A_67 VP ok hc277_70) (ww19 hw) (ww20 hw) (ww3 hw) (ww21 hw) (by decide) eq105 (by rw [hml]; rfl) (lenOf own_pd3 rfl) rfl (hb hby at_613) (Nat.le_of_ble_eq_true rfl) (Nat.le_of_ble_eq_true rfl) (Nat.le_of_ble_eq_true rfl) (Nat.le_of_ble_eq_true rfl) rfl ?_
                              rintro v106 T106 L106 X106 ⟨rfl, Nq106, eq106⟩
                              have N106 := Fr.app N105 Nq106
                              change own_G p e below _ _ (mkF m 616 _ [(.long (own_term qs (10 : Int32) f tt)), (.long ((((((((((own_term qs (0 : Int32) f tt) + (own_term qs (1 : Int32) f tt)) + (own_term qs (2 : Int32) f tt)) + (own_term qs (3 : Int32) f tt)) + (own_term qs (4 : Int32) f tt)) + (own_term qs (5 : Int32) f tt)) + (own_term qs (6 : Int32) f tt)) + (own_term qs (7 : Int32) f tt)) + (own_term qs (8 : Int32) f tt)) + (own_term qs (9 : Int32) f tt)))])
                              refine own_ladd (n := 617) X106 hx (hb hby at_616) rfl rfl ?_
                              refine own_aload (n := 619) X106 hx (hb hby at_617) rfl rfl rfl ?_
                              refine own_bipush (n := 621) (z := (11 : Int32)) X106 hx (hb hby at_619) rfl rfl ?_
                              refine own_iload (n := 623) X106 hx (hb hby at_621) rfl rfl ?_
                              refine own_iload (n := 625) X106 hx (hb hby at_623) rfl rfl ?_
                              refine own_aload (n := 627) X106 hx (hb hby at_625) rfl rfl rfl ?_
                              refine own_S (n := 630) (argsL := [(.ref b1), (.int (11 : Int32)), (.int f), (.int tt), (.ref b39)]) (rest := [(.long (((((((((((own_term qs (0 : Int32) f tt) + (own_term qs (1 : Int32) f tt)) + (own_term qs (2 : Int32) f tt)) + (own_term qs (3 : Int32) f tt)) + (own_term qs (4 : Int32) f tt)) + (own_term qs (5 : Int32) f tt)) + (own_term qs (6 : Int32) f tt)) + (own_term qs (7 : Int32) f tt)) + (own_term qs (8 : Int32) f tt)) + (own_term qs (9 : Int32) f tt)) + (own_term qs (10 : Int32) f tt)))]) X106 hx hZ hown (own_rmT l Z a0 hw b1 b39 k1 k39 qs (11 : Int32) f tt h66 n0 Z_68 A_67 VP ok hc277_70) (ww19 hw) (ww20 hw) (ww3 hw) (ww21 hw) (by decide) eq106 (by rw [hml]; rfl) (lenOf own_pd3 rfl) rfl (hb hby at_627) (Nat.le_of_ble_eq_true rfl) (Nat.le_of_ble_eq_true rfl) (Nat.le_of_ble_eq_true rfl) (Nat.le_of_ble_eq_true rfl) rfl ?_
                              rintro v107 T107 L107 X107 ⟨rfl, Nq107, eq107⟩
                              have N107 := Fr.app N106 Nq107
                              change own_G p e below _ _ (mkF m 630 _ [(.long (own_term qs (11 : Int32) f tt)), (.long (((((((((((own_term qs (0 : Int32) f tt) + (own_term qs (1 : Int32) f tt)) + (own_term qs (2 : Int32) f tt)) + (own_term qs (3 : Int32) f tt)) + (own_term qs (4 : Int32) f tt)) + (own_term qs (5 : Int32) f tt)) + (own_term qs (6 : Int32) f tt)) + (own_term qs (7 : Int32) f tt)) + (own_term qs (8 : Int32) f tt)) + (own_term qs (9 : Int32) f tt)) + (own_term qs (10 : Int32) f tt)))])
                              refine own_ladd (n := 631) X107 hx (hb hby at_630) rfl rfl ?_
                              refine own_lstore (n := 633) (l' := #[.val (.long q0), .second, .val (.long q1), .second, .val (.int p2), .val (.int p3), .val (.int p4), .val (.ref b1), .val (.int f), .val (.int tt), .val (.ref b39), .val (.long ((((((((((((own_term qs (0 : Int32) f tt) + (own_term qs (1 : Int32) f tt)) + (own_term qs (2 : Int32) f tt)) + (own_term qs (3 : Int32) f tt)) + (own_term qs (4 : Int32) f tt)) + (own_term qs (5 : Int32) f tt)) + (own_term qs (6 : Int32) f tt)) + (own_term qs (7 : Int32) f tt)) + (own_term qs (8 : Int32) f tt)) + (own_term qs (9 : Int32) f tt)) + (own_term qs (10 : Int32) f tt)) + (own_term qs (11 : Int32) f tt))), .second, .val (.int (0 : Int32))]) X107 hx (hb hby at_631) rfl rfl ?_
                              refine own_aload (n := 635) X107 hx (hb hby at_633) rfl rfl rfl ?_
                              refine own_iload (n := 637) X107 hx (hb hby at_635) rfl rfl ?_
                              refine own_iload (n := 639) X107 hx (hb hby at_637) rfl rfl ?_
                              refine own_S (n := 642) (argsL := [(.ref b1), (.int f), (.int tt)]) (rest := []) X107 hx hZ hown (own_rmN l Z a0 hw b1 k1 qs f tt h66 n0 Z_68 A_67 ok) (ww12 hw) (ww13 hw) (ww14 hw) (ww15 hw) (by decide) eq107 (by rw [hml]; rfl) (lenOf own_pd1 rfl) rfl (hb hby at_639) (Nat.le_of_ble_eq_true rfl) (Nat.le_of_ble_eq_true rfl) (Nat.le_of_ble_eq_true rfl) (Nat.le_of_ble_eq_true rfl) rfl ?_
                              rintro v108 T108 L108 X108 ⟨rfl, Nq108, eq108⟩
                              have N108 := Fr.app N107 Nq108
                              change own_G p e below _ _ (mkF m 642 _ [(.int (own_num qs f tt))])
                              refine own_i2l (n := 643) X108 hx (hb hby at_642) rfl rfl ?_
                              refine own_lload (n := 645) X108 hx (hb hby at_643) rfl rfl ?_
                              refine own_lcmp (n := 646) X108 hx (hb hby at_645) rfl ?_
                              refine own_ifNo (n := 649) X108 hx (hb hby at_646) (teq ((lw_eq _ _).mpr (own_numgood ok hc267_69 hc277_70 hc298_73 hc311_75 hc324_77 hc337_79 hc350_81 hc363_83 hc377_85 hc391_87 hc405_89 hc419_91 hc433_93 hc447_95) : (lcmpW ((own_num qs f tt)).toInt64 ((((((((((((own_term qs (0 : Int32) f tt) + (own_term qs (1 : Int32) f tt)) + (own_term qs (2 : Int32) f tt)) + (own_term qs (3 : Int32) f tt)) + (own_term qs (4 : Int32) f tt)) + (own_term qs (5 : Int32) f tt)) + (own_term qs (6 : Int32) f tt)) + (own_term qs (7 : Int32) f tt)) + (own_term qs (8 : Int32) f tt)) + (own_term qs (9 : Int32) f tt)) + (own_term qs (10 : Int32) f tt)) + (own_term qs (11 : Int32) f tt))) = (0 : Int32))).2 rfl ?_
                              refine own_iconst (n := 650) (z := (1 : Int32)) X108 hx (hb hby at_649) rfl rfl ?_
                              refine own_goto (n := 654) X108 hx (hb hby at_650) (by decide) (by decide) ?_
                              refine own_retZ X108 hx hlk hret (by simp) eq108 (w := (1 : Int32)) rfl (hb hby at_654) (by decide) (by decide) ?_
                              exact ⟨rfl, N108⟩
                            · skip
                              refine own_ifNo (n := 450) X94 hx (hb hby at_447) (feq hc447_95).1 rfl ?_
                              refine own_iconst (n := 451) (z := (1 : Int32)) X94 hx (hb hby at_450) rfl rfl ?_
                              refine own_goto (n := 455) X94 hx (hb hby at_451) (by decide) (by decide) ?_
                              refine own_istore (n := 457) (l' := #[.val (.long q0), .second, .val (.long q1), .second, .val (.int p2), .val (.int p3), .val (.int p4), .val (.ref b1), .val (.int f), .val (.int tt), .val (.ref b39), .unset, .unset, .val (.int (1 : Int32))]) X94 hx (hb hby at_455) rfl rfl ?_
                              refine own_iload (n := 459) X94 hx (hb hby at_457) rfl rfl ?_
                              refine own_ifNo (n := 462) X94 hx (hb hby at_459) (feq (by decide : ¬ ((1 : Int32) = (0 : Int32)))).1 rfl ?_
                              refine own_ldc2_w (n := 465) (v := (-1 : Int64)) X94 hx hZ hown (ww11 hw) (hb hby at_462) rfl ?_
                              refine own_lstore (n := 467) (l' := #[.val (.long q0), .second, .val (.long q1), .second, .val (.int p2), .val (.int p3), .val (.int p4), .val (.ref b1), .val (.int f), .val (.int tt), .val (.ref b39), .val (.long (-1 : Int64)), .second, .val (.int (1 : Int32))]) X94 hx (hb hby at_465) rfl rfl ?_
                              refine own_goto (n := 633) X94 hx (hb hby at_467) (by decide) (by decide) ?_
                              refine own_aload (n := 635) X94 hx (hb hby at_633) rfl rfl rfl ?_
                              refine own_iload (n := 637) X94 hx (hb hby at_635) rfl rfl ?_
                              refine own_iload (n := 639) X94 hx (hb hby at_637) rfl rfl ?_
                              refine own_S (n := 642) (argsL := [(.ref b1), (.int f), (.int tt)]) (rest := []) X94 hx hZ hown (own_rmN l Z a0 hw b1 k1 qs f tt h66 n0 Z_68 A_67 ok) (ww12 hw) (ww13 hw) (ww14 hw) (ww15 hw) (by decide) eq94 (by rw [hml]; rfl) (lenOf own_pd1 rfl) rfl (hb hby at_639) (Nat.le_of_ble_eq_true rfl) (Nat.le_of_ble_eq_true rfl) (Nat.le_of_ble_eq_true rfl) (Nat.le_of_ble_eq_true rfl) rfl ?_
                              rintro v109 T109 L109 X109 ⟨rfl, Nq109, eq109⟩
                              have N109 := Fr.app N94 Nq109
                              change own_G p e below _ _ (mkF m 642 _ [(.int (own_num qs f tt))])
                              refine own_i2l (n := 643) X109 hx (hb hby at_642) rfl rfl ?_
                              refine own_lload (n := 645) X109 hx (hb hby at_643) rfl rfl ?_
                              refine own_lcmp (n := 646) X109 hx (hb hby at_645) rfl ?_
                              refine own_ifNo (n := 649) X109 hx (hb hby at_646) (teq ((lw_eq _ _).mpr (own_numbad 11 rfl ok hc277_70 hc447_95) : (lcmpW ((own_num qs f tt)).toInt64 (-1 : Int64)) = (0 : Int32))).2 rfl ?_
                              refine own_iconst (n := 650) (z := (1 : Int32)) X109 hx (hb hby at_649) rfl rfl ?_
                              refine own_goto (n := 654) X109 hx (hb hby at_650) (by decide) (by decide) ?_
                              refine own_retZ X109 hx hlk hret (by simp) eq109 (w := (1 : Int32)) rfl (hb hby at_654) (by decide) (by decide) ?_
                              exact ⟨rfl, N109⟩
                          · skip
                            refine own_ifYes (n := 450) X92 hx (hb hby at_433) (feq hc433_93).2 (by decide) (by decide) ?_
                            refine own_iconst (n := 451) (z := (1 : Int32)) X92 hx (hb hby at_450) rfl rfl ?_
                            refine own_goto (n := 455) X92 hx (hb hby at_451) (by decide) (by decide) ?_
                            refine own_istore (n := 457) (l' := #[.val (.long q0), .second, .val (.long q1), .second, .val (.int p2), .val (.int p3), .val (.int p4), .val (.ref b1), .val (.int f), .val (.int tt), .val (.ref b39), .unset, .unset, .val (.int (1 : Int32))]) X92 hx (hb hby at_455) rfl rfl ?_
                            refine own_iload (n := 459) X92 hx (hb hby at_457) rfl rfl ?_
                            refine own_ifNo (n := 462) X92 hx (hb hby at_459) (feq (by decide : ¬ ((1 : Int32) = (0 : Int32)))).1 rfl ?_
                            refine own_ldc2_w (n := 465) (v := (-1 : Int64)) X92 hx hZ hown (ww11 hw) (hb hby at_462) rfl ?_
                            refine own_lstore (n := 467) (l' := #[.val (.long q0), .second, .val (.long q1), .second, .val (.int p2), .val (.int p3), .val (.int p4), .val (.ref b1), .val (.int f), .val (.int tt), .val (.ref b39), .val (.long (-1 : Int64)), .second, .val (.int (1 : Int32))]) X92 hx (hb hby at_465) rfl rfl ?_
                            refine own_goto (n := 633) X92 hx (hb hby at_467) (by decide) (by decide) ?_
                            refine own_aload (n := 635) X92 hx (hb hby at_633) rfl rfl rfl ?_
                            refine own_iload (n := 637) X92 hx (hb hby at_635) rfl rfl ?_
                            refine own_iload (n := 639) X92 hx (hb hby at_637) rfl rfl ?_
                            refine own_S (n := 642) (argsL := [(.ref b1), (.int f), (.int tt)]) (rest := []) X92 hx hZ hown (own_rmN l Z a0 hw b1 k1 qs f tt h66 n0 Z_68 A_67 ok) (ww12 hw) (ww13 hw) (ww14 hw) (ww15 hw) (by decide) eq92 (by rw [hml]; rfl) (lenOf own_pd1 rfl) rfl (hb hby at_639) (Nat.le_of_ble_eq_true rfl) (Nat.le_of_ble_eq_true rfl) (Nat.le_of_ble_eq_true rfl) (Nat.le_of_ble_eq_true rfl) rfl ?_
                            rintro v110 T110 L110 X110 ⟨rfl, Nq110, eq110⟩
                            have N110 := Fr.app N92 Nq110
                            change own_G p e below _ _ (mkF m 642 _ [(.int (own_num qs f tt))])
                            refine own_i2l (n := 643) X110 hx (hb hby at_642) rfl rfl ?_
                            refine own_lload (n := 645) X110 hx (hb hby at_643) rfl rfl ?_
                            refine own_lcmp (n := 646) X110 hx (hb hby at_645) rfl ?_
                            refine own_ifNo (n := 649) X110 hx (hb hby at_646) (teq ((lw_eq _ _).mpr (own_numbad 10 rfl ok hc277_70 hc433_93) : (lcmpW ((own_num qs f tt)).toInt64 (-1 : Int64)) = (0 : Int32))).2 rfl ?_
                            refine own_iconst (n := 650) (z := (1 : Int32)) X110 hx (hb hby at_649) rfl rfl ?_
                            refine own_goto (n := 654) X110 hx (hb hby at_650) (by decide) (by decide) ?_
                            refine own_retZ X110 hx hlk hret (by simp) eq110 (w := (1 : Int32)) rfl (hb hby at_654) (by decide) (by decide) ?_
                            exact ⟨rfl, N110⟩
                        · skip
                          refine own_ifYes (n := 450) X90 hx (hb hby at_419) (feq hc419_91).2 (by decide) (by decide) ?_
                          refine own_iconst (n := 451) (z := (1 : Int32)) X90 hx (hb hby at_450) rfl rfl ?_
                          refine own_goto (n := 455) X90 hx (hb hby at_451) (by decide) (by decide) ?_
                          refine own_istore (n := 457) (l' := #[.val (.long q0), .second, .val (.long q1), .second, .val (.int p2), .val (.int p3), .val (.int p4), .val (.ref b1), .val (.int f), .val (.int tt), .val (.ref b39), .unset, .unset, .val (.int (1 : Int32))]) X90 hx (hb hby at_455) rfl rfl ?_
                          refine own_iload (n := 459) X90 hx (hb hby at_457) rfl rfl ?_
                          refine own_ifNo (n := 462) X90 hx (hb hby at_459) (feq (by decide : ¬ ((1 : Int32) = (0 : Int32)))).1 rfl ?_
                          refine own_ldc2_w (n := 465) (v := (-1 : Int64)) X90 hx hZ hown (ww11 hw) (hb hby at_462) rfl ?_
                          refine own_lstore (n := 467) (l' := #[.val (.long q0), .second, .val (.long q1), .second, .val (.int p2), .val (.int p3), .val (.int p4), .val (.ref b1), .val (.int f), .val (.int tt), .val (.ref b39), .val (.long (-1 : Int64)), .second, .val (.int (1 : Int32))]) X90 hx (hb hby at_465) rfl rfl ?_
                          refine own_goto (n := 633) X90 hx (hb hby at_467) (by decide) (by decide) ?_
                          refine own_aload (n := 635) X90 hx (hb hby at_633) rfl rfl rfl ?_
                          refine own_iload (n := 637) X90 hx (hb hby at_635) rfl rfl ?_
                          refine own_iload (n := 639) X90 hx (hb hby at_637) rfl rfl ?_
                          refine own_S (n := 642) (argsL := [(.ref b1), (.int f), (.int tt)]) (rest := []) X90 hx hZ hown (own_rmN l Z a0 hw b1 k1 qs f tt h66 n0 Z_68 A_67 ok) (ww12 hw) (ww13 hw) (ww14 hw) (ww15 hw) (by decide) eq90 (by rw [hml]; rfl) (lenOf own_pd1 rfl) rfl (hb hby at_639) (Nat.le_of_ble_eq_true rfl) (Nat.le_of_ble_eq_true rfl) (Nat.le_of_ble_eq_true rfl) (Nat.le_of_ble_eq_true rfl) rfl ?_
                          rintro v111 T111 L111 X111 ⟨rfl, Nq111, eq111⟩
                          have N111 := Fr.app N90 Nq111
                          change own_G p e below _ _ (mkF m 642 _ [(.int (own_num qs f tt))])
                          refine own_i2l (n := 643) X111 hx (hb hby at_642) rfl rfl ?_
                          refine own_lload (n := 645) X111 hx (hb hby at_643) rfl rfl ?_
                          refine own_lcmp (n := 646) X111 hx (hb hby at_645) rfl ?_
                          refine own_ifNo (n := 649) X111 hx (hb hby at_646) (teq ((lw_eq _ _).mpr (own_numbad 9 rfl ok hc277_70 hc419_91) : (lcmpW ((own_num qs f tt)).toInt64 (-1 : Int64)) = (0 : Int32))).2 rfl ?_
                          refine own_iconst (n := 650) (z := (1 : Int32)) X111 hx (hb hby at_649) rfl rfl ?_
                          refine own_goto (n := 654) X111 hx (hb hby at_650) (by decide) (by decide) ?_
                          refine own_retZ X111 hx hlk hret (by simp) eq111 (w := (1 : Int32)) rfl (hb hby at_654) (by decide) (by decide) ?_
                          exact ⟨rfl, N111⟩
                      · skip
                        refine own_ifYes (n := 450) X88 hx (hb hby at_405) (feq hc405_89).2 (by decide) (by decide) ?_
                        refine own_iconst (n := 451) (z := (1 : Int32)) X88 hx (hb hby at_450) rfl rfl ?_
                        refine own_goto (n := 455) X88 hx (hb hby at_451) (by decide) (by decide) ?_
                        refine own_istore (n := 457) (l' := #[.val (.long q0), .second, .val (.long q1), .second, .val (.int p2), .val (.int p3), .val (.int p4), .val (.ref b1), .val (.int f), .val (.int tt), .val (.ref b39), .unset, .unset, .val (.int (1 : Int32))]) X88 hx (hb hby at_455) rfl rfl ?_
                        refine own_iload (n := 459) X88 hx (hb hby at_457) rfl rfl ?_
                        refine own_ifNo (n := 462) X88 hx (hb hby at_459) (feq (by decide : ¬ ((1 : Int32) = (0 : Int32)))).1 rfl ?_
                        refine own_ldc2_w (n := 465) (v := (-1 : Int64)) X88 hx hZ hown (ww11 hw) (hb hby at_462) rfl ?_
                        refine own_lstore (n := 467) (l' := #[.val (.long q0), .second, .val (.long q1), .second, .val (.int p2), .val (.int p3), .val (.int p4), .val (.ref b1), .val (.int f), .val (.int tt), .val (.ref b39), .val (.long (-1 : Int64)), .second, .val (.int (1 : Int32))]) X88 hx (hb hby at_465) rfl rfl ?_
                        refine own_goto (n := 633) X88 hx (hb hby at_467) (by decide) (by decide) ?_
                        refine own_aload (n := 635) X88 hx (hb hby at_633) rfl rfl rfl ?_
                        refine own_iload (n := 637) X88 hx (hb hby at_635) rfl rfl ?_
                        refine own_iload (n := 639) X88 hx (hb hby at_637) rfl rfl ?_
                        refine own_S (n := 642) (argsL := [(.ref b1), (.int f), (.int tt)]) (rest := []) X88 hx hZ hown (own_rmN l Z a0 hw b1 k1 qs f tt h66 n0 Z_68 A_67 ok) (ww12 hw) (ww13 hw) (ww14 hw) (ww15 hw) (by decide) eq88 (by rw [hml]; rfl) (lenOf own_pd1 rfl) rfl (hb hby at_639) (Nat.le_of_ble_eq_true rfl) (Nat.le_of_ble_eq_true rfl) (Nat.le_of_ble_eq_true rfl) (Nat.le_of_ble_eq_true rfl) rfl ?_
                        rintro v112 T112 L112 X112 ⟨rfl, Nq112, eq112⟩
                        have N112 := Fr.app N88 Nq112
                        change own_G p e below _ _ (mkF m 642 _ [(.int (own_num qs f tt))])
                        refine own_i2l (n := 643) X112 hx (hb hby at_642) rfl rfl ?_
                        refine own_lload (n := 645) X112 hx (hb hby at_643) rfl rfl ?_
                        refine own_lcmp (n := 646) X112 hx (hb hby at_645) rfl ?_
                        refine own_ifNo (n := 649) X112 hx (hb hby at_646) (teq ((lw_eq _ _).mpr (own_numbad 8 rfl ok hc277_70 hc405_89) : (lcmpW ((own_num qs f tt)).toInt64 (-1 : Int64)) = (0 : Int32))).2 rfl ?_
                        refine own_iconst (n := 650) (z := (1 : Int32)) X112 hx (hb hby at_649) rfl rfl ?_
                        refine own_goto (n := 654) X112 hx (hb hby at_650) (by decide) (by decide) ?_
                        refine own_retZ X112 hx hlk hret (by simp) eq112 (w := (1 : Int32)) rfl (hb hby at_654) (by decide) (by decide) ?_
                        exact ⟨rfl, N112⟩
                    · skip
                      refine own_ifYes (n := 450) X86 hx (hb hby at_391) (feq hc391_87).2 (by decide) (by decide) ?_
                      refine own_iconst (n := 451) (z := (1 : Int32)) X86 hx (hb hby at_450) rfl rfl ?_
                      refine own_goto (n := 455) X86 hx (hb hby at_451) (by decide) (by decide) ?_
                      refine own_istore (n := 457) (l' := #[.val (.long q0), .second, .val (.long q1), .second, .val (.int p2), .val (.int p3), .val (.int p4), .val (.ref b1), .val (.int f), .val (.int tt), .val (.ref b39), .unset, .unset, .val (.int (1 : Int32))]) X86 hx (hb hby at_455) rfl rfl ?_
                      refine own_iload (n := 459) X86 hx (hb hby at_457) rfl rfl ?_
                      refine own_ifNo (n := 462) X86 hx (hb hby at_459) (feq (by decide : ¬ ((1 : Int32) = (0 : Int32)))).1 rfl ?_
                      refine own_ldc2_w (n := 465) (v := (-1 : Int64)) X86 hx hZ hown (ww11 hw) (hb hby at_462) rfl ?_
                      refine own_lstore (n := 467) (l' := #[.val (.long q0), .second, .val (.long q1), .second, .val (.int p2), .val (.int p3), .val (.int p4), .val (.ref b1), .val (.int f), .val (.int tt), .val (.ref b39), .val (.long (-1 : Int64)), .second, .val (.int (1 : Int32))]) X86 hx (hb hby at_465) rfl rfl ?_
                      refine own_goto (n := 633) X86 hx (hb hby at_467) (by decide) (by decide) ?_
                      refine own_aload (n := 635) X86 hx (hb hby at_633) rfl rfl rfl ?_
                      refine own_iload (n := 637) X86 hx (hb hby at_635) rfl rfl ?_
                      refine own_iload (n := 639) X86 hx (hb hby at_637) rfl rfl ?_
                      refine own_S (n := 642) (argsL := [(.ref b1), (.int f), (.int tt)]) (rest := []) X86 hx hZ hown (own_rmN l Z a0 hw b1 k1 qs f tt h66 n0 Z_68 A_67 ok) (ww12 hw) (ww13 hw) (ww14 hw) (ww15 hw) (by decide) eq86 (by rw [hml]; rfl) (lenOf own_pd1 rfl) rfl (hb hby at_639) (Nat.le_of_ble_eq_true rfl) (Nat.le_of_ble_eq_true rfl) (Nat.le_of_ble_eq_true rfl) (Nat.le_of_ble_eq_true rfl) rfl ?_
                      rintro v113 T113 L113 X113 ⟨rfl, Nq113, eq113⟩
                      have N113 := Fr.app N86 Nq113
                      change own_G p e below _ _ (mkF m 642 _ [(.int (own_num qs f tt))])
                      refine own_i2l (n := 643) X113 hx (hb hby at_642) rfl rfl ?_
                      refine own_lload (n := 645) X113 hx (hb hby at_643) rfl rfl ?_
                      refine own_lcmp (n := 646) X113 hx (hb hby at_645) rfl ?_
                      refine own_ifNo (n := 649) X113 hx (hb hby at_646) (teq ((lw_eq _ _).mpr (own_numbad 7 rfl ok hc277_70 hc391_87) : (lcmpW ((own_num qs f tt)).toInt64 (-1 : Int64)) = (0 : Int32))).2 rfl ?_
                      refine own_iconst (n := 650) (z := (1 : Int32)) X113 hx (hb hby at_649) rfl rfl ?_
                      refine own_goto (n := 654) X113 hx (hb hby at_650) (by decide) (by decide) ?_
                      refine own_retZ X113 hx hlk hret (by simp) eq113 (w := (1 : Int32)) rfl (hb hby at_654) (by decide) (by decide) ?_
                      exact ⟨rfl, N113⟩
                  · skip
                    refine own_ifYes (n := 450) X84 hx (hb hby at_377) (feq hc377_85).2 (by decide) (by decide) ?_
                    refine own_iconst (n := 451) (z := (1 : Int32)) X84 hx (hb hby at_450) rfl rfl ?_
                    refine own_goto (n := 455) X84 hx (hb hby at_451) (by decide) (by decide) ?_
                    refine own_istore (n := 457) (l' := #[.val (.long q0), .second, .val (.long q1), .second, .val (.int p2), .val (.int p3), .val (.int p4), .val (.ref b1), .val (.int f), .val (.int tt), .val (.ref b39), .unset, .unset, .val (.int (1 : Int32))]) X84 hx (hb hby at_455) rfl rfl ?_
                    refine own_iload (n := 459) X84 hx (hb hby at_457) rfl rfl ?_
                    refine own_ifNo (n := 462) X84 hx (hb hby at_459) (feq (by decide : ¬ ((1 : Int32) = (0 : Int32)))).1 rfl ?_
                    refine own_ldc2_w (n := 465) (v := (-1 : Int64)) X84 hx hZ hown (ww11 hw) (hb hby at_462) rfl ?_
                    refine own_lstore (n := 467) (l' := #[.val (.long q0), .second, .val (.long q1), .second, .val (.int p2), .val (.int p3), .val (.int p4), .val (.ref b1), .val (.int f), .val (.int tt), .val (.ref b39), .val (.long (-1 : Int64)), .second, .val (.int (1 : Int32))]) X84 hx (hb hby at_465) rfl rfl ?_
                    refine own_goto (n := 633) X84 hx (hb hby at_467) (by decide) (by decide) ?_
                    refine own_aload (n := 635) X84 hx (hb hby at_633) rfl rfl rfl ?_
                    refine own_iload (n := 637) X84 hx (hb hby at_635) rfl rfl ?_
                    refine own_iload (n := 639) X84 hx (hb hby at_637) rfl rfl ?_
                    refine own_S (n := 642) (argsL := [(.ref b1), (.int f), (.int tt)]) (rest := []) X84 hx hZ hown (own_rmN l Z a0 hw b1 k1 qs f tt h66 n0 Z_68 A_67 ok) (ww12 hw) (ww13 hw) (ww14 hw) (ww15 hw) (by decide) eq84 (by rw [hml]; rfl) (lenOf own_pd1 rfl) rfl (hb hby at_639) (Nat.le_of_ble_eq_true rfl) (Nat.le_of_ble_eq_true rfl) (Nat.le_of_ble_eq_true rfl) (Nat.le_of_ble_eq_true rfl) rfl ?_
                    rintro v114 T114 L114 X114 ⟨rfl, Nq114, eq114⟩
                    have N114 := Fr.app N84 Nq114
                    change own_G p e below _ _ (mkF m 642 _ [(.int (own_num qs f tt))])
                    refine own_i2l (n := 643) X114 hx (hb hby at_642) rfl rfl ?_
                    refine own_lload (n := 645) X114 hx (hb hby at_643) rfl rfl ?_
                    refine own_lcmp (n := 646) X114 hx (hb hby at_645) rfl ?_
                    refine own_ifNo (n := 649) X114 hx (hb hby at_646) (teq ((lw_eq _ _).mpr (own_numbad 6 rfl ok hc277_70 hc377_85) : (lcmpW ((own_num qs f tt)).toInt64 (-1 : Int64)) = (0 : Int32))).2 rfl ?_
                    refine own_iconst (n := 650) (z := (1 : Int32)) X114 hx (hb hby at_649) rfl rfl ?_
                    refine own_goto (n := 654) X114 hx (hb hby at_650) (by decide) (by decide) ?_
                    refine own_retZ X114 hx hlk hret (by simp) eq114 (w := (1 : Int32)) rfl (hb hby at_654) (by decide) (by decide) ?_
                    exact ⟨rfl, N114⟩
                · skip
                  refine own_ifYes (n := 450) X82 hx (hb hby at_363) (feq hc363_83).2 (by decide) (by decide) ?_
                  refine own_iconst (n := 451) (z := (1 : Int32)) X82 hx (hb hby at_450) rfl rfl ?_
                  refine own_goto (n := 455) X82 hx (hb hby at_451) (by decide) (by decide) ?_
                  refine own_istore (n := 457) (l' := #[.val (.long q0), .second, .val (.long q1), .second, .val (.int p2), .val (.int p3), .val (.int p4), .val (.ref b1), .val (.int f), .val (.int tt), .val (.ref b39), .unset, .unset, .val (.int (1 : Int32))]) X82 hx (hb hby at_455) rfl rfl ?_
                  refine own_iload (n := 459) X82 hx (hb hby at_457) rfl rfl ?_
                  refine own_ifNo (n := 462) X82 hx (hb hby at_459) (feq (by decide : ¬ ((1 : Int32) = (0 : Int32)))).1 rfl ?_
                  refine own_ldc2_w (n := 465) (v := (-1 : Int64)) X82 hx hZ hown (ww11 hw) (hb hby at_462) rfl ?_
                  refine own_lstore (n := 467) (l' := #[.val (.long q0), .second, .val (.long q1), .second, .val (.int p2), .val (.int p3), .val (.int p4), .val (.ref b1), .val (.int f), .val (.int tt), .val (.ref b39), .val (.long (-1 : Int64)), .second, .val (.int (1 : Int32))]) X82 hx (hb hby at_465) rfl rfl ?_
                  refine own_goto (n := 633) X82 hx (hb hby at_467) (by decide) (by decide) ?_
                  refine own_aload (n := 635) X82 hx (hb hby at_633) rfl rfl rfl ?_
                  refine own_iload (n := 637) X82 hx (hb hby at_635) rfl rfl ?_
                  refine own_iload (n := 639) X82 hx (hb hby at_637) rfl rfl ?_
                  refine own_S (n := 642) (argsL := [(.ref b1), (.int f), (.int tt)]) (rest := []) X82 hx hZ hown (own_rmN l Z a0 hw b1 k1 qs f tt h66 n0 Z_68 A_67 ok) (ww12 hw) (ww13 hw) (ww14 hw) (ww15 hw) (by decide) eq82 (by rw [hml]; rfl) (lenOf own_pd1 rfl) rfl (hb hby at_639) (Nat.le_of_ble_eq_true rfl) (Nat.le_of_ble_eq_true rfl) (Nat.le_of_ble_eq_true rfl) (Nat.le_of_ble_eq_true rfl) rfl ?_
                  rintro v115 T115 L115 X115 ⟨rfl, Nq115, eq115⟩
                  have N115 := Fr.app N82 Nq115
                  change own_G p e below _ _ (mkF m 642 _ [(.int (own_num qs f tt))])
                  refine own_i2l (n := 643) X115 hx (hb hby at_642) rfl rfl ?_
                  refine own_lload (n := 645) X115 hx (hb hby at_643) rfl rfl ?_
                  refine own_lcmp (n := 646) X115 hx (hb hby at_645) rfl ?_
                  refine own_ifNo (n := 649) X115 hx (hb hby at_646) (teq ((lw_eq _ _).mpr (own_numbad 5 rfl ok hc277_70 hc363_83) : (lcmpW ((own_num qs f tt)).toInt64 (-1 : Int64)) = (0 : Int32))).2 rfl ?_
                  refine own_iconst (n := 650) (z := (1 : Int32)) X115 hx (hb hby at_649) rfl rfl ?_
                  refine own_goto (n := 654) X115 hx (hb hby at_650) (by decide) (by decide) ?_
                  refine own_retZ X115 hx hlk hret (by simp) eq115 (w := (1 : Int32)) rfl (hb hby at_654) (by decide) (by decide) ?_
                  exact ⟨rfl, N115⟩
              · skip
                refine own_ifYes (n := 450) X80 hx (hb hby at_350) (feq hc350_81).2 (by decide) (by decide) ?_
                refine own_iconst (n := 451) (z := (1 : Int32)) X80 hx (hb hby at_450) rfl rfl ?_
                refine own_goto (n := 455) X80 hx (hb hby at_451) (by decide) (by decide) ?_
                refine own_istore (n := 457) (l' := #[.val (.long q0), .second, .val (.long q1), .second, .val (.int p2), .val (.int p3), .val (.int p4), .val (.ref b1), .val (.int f), .val (.int tt), .val (.ref b39), .unset, .unset, .val (.int (1 : Int32))]) X80 hx (hb hby at_455) rfl rfl ?_
                refine own_iload (n := 459) X80 hx (hb hby at_457) rfl rfl ?_
                refine own_ifNo (n := 462) X80 hx (hb hby at_459) (feq (by decide : ¬ ((1 : Int32) = (0 : Int32)))).1 rfl ?_
                refine own_ldc2_w (n := 465) (v := (-1 : Int64)) X80 hx hZ hown (ww11 hw) (hb hby at_462) rfl ?_
                refine own_lstore (n := 467) (l' := #[.val (.long q0), .second, .val (.long q1), .second, .val (.int p2), .val (.int p3), .val (.int p4), .val (.ref b1), .val (.int f), .val (.int tt), .val (.ref b39), .val (.long (-1 : Int64)), .second, .val (.int (1 : Int32))]) X80 hx (hb hby at_465) rfl rfl ?_
                refine own_goto (n := 633) X80 hx (hb hby at_467) (by decide) (by decide) ?_
                refine own_aload (n := 635) X80 hx (hb hby at_633) rfl rfl rfl ?_
                refine own_iload (n := 637) X80 hx (hb hby at_635) rfl rfl ?_
                refine own_iload (n := 639) X80 hx (hb hby at_637) rfl rfl ?_
                refine own_S (n := 642) (argsL := [(.ref b1), (.int f), (.int tt)]) (rest := []) X80 hx hZ hown (own_rmN l Z a0 hw b1 k1 qs f tt h66 n0 Z_68 A_67 ok) (ww12 hw) (ww13 hw) (ww14 hw) (ww15 hw) (by decide) eq80 (by rw [hml]; rfl) (lenOf own_pd1 rfl) rfl (hb hby at_639) (Nat.le_of_ble_eq_true rfl) (Nat.le_of_ble_eq_true rfl) (Nat.le_of_ble_eq_true rfl) (Nat.le_of_ble_eq_true rfl) rfl ?_
                rintro v116 T116 L116 X116 ⟨rfl, Nq116, eq116⟩
                have N116 := Fr.app N80 Nq116
                change own_G p e below _ _ (mkF m 642 _ [(.int (own_num qs f tt))])
                refine own_i2l (n := 643) X116 hx (hb hby at_642) rfl rfl ?_
                refine own_lload (n := 645) X116 hx (hb hby at_643) rfl rfl ?_
                refine own_lcmp (n := 646) X116 hx (hb hby at_645) rfl ?_
                refine own_ifNo (n := 649) X116 hx (hb hby at_646) (teq ((lw_eq _ _).mpr (own_numbad 4 rfl ok hc277_70 hc350_81) : (lcmpW ((own_num qs f tt)).toInt64 (-1 : Int64)) = (0 : Int32))).2 rfl ?_
                refine own_iconst (n := 650) (z := (1 : Int32)) X116 hx (hb hby at_649) rfl rfl ?_
                refine own_goto (n := 654) X116 hx (hb hby at_650) (by decide) (by decide) ?_
                refine own_retZ X116 hx hlk hret (by simp) eq116 (w := (1 : Int32)) rfl (hb hby at_654) (by decide) (by decide) ?_
                exact ⟨rfl, N116⟩
            · skip
              refine own_ifYes (n := 450) X78 hx (hb hby at_337) (feq hc337_79).2 (by decide) (by decide) ?_
              refine own_iconst (n := 451) (z := (1 : Int32)) X78 hx (hb hby at_450) rfl rfl ?_
              refine own_goto (n := 455) X78 hx (hb hby at_451) (by decide) (by decide) ?_
              refine own_istore (n := 457) (l' := #[.val (.long q0), .second, .val (.long q1), .second, .val (.int p2), .val (.int p3), .val (.int p4), .val (.ref b1), .val (.int f), .val (.int tt), .val (.ref b39), .unset, .unset, .val (.int (1 : Int32))]) X78 hx (hb hby at_455) rfl rfl ?_
              refine own_iload (n := 459) X78 hx (hb hby at_457) rfl rfl ?_
              refine own_ifNo (n := 462) X78 hx (hb hby at_459) (feq (by decide : ¬ ((1 : Int32) = (0 : Int32)))).1 rfl ?_
              refine own_ldc2_w (n := 465) (v := (-1 : Int64)) X78 hx hZ hown (ww11 hw) (hb hby at_462) rfl ?_
              refine own_lstore (n := 467) (l' := #[.val (.long q0), .second, .val (.long q1), .second, .val (.int p2), .val (.int p3), .val (.int p4), .val (.ref b1), .val (.int f), .val (.int tt), .val (.ref b39), .val (.long (-1 : Int64)), .second, .val (.int (1 : Int32))]) X78 hx (hb hby at_465) rfl rfl ?_
              refine own_goto (n := 633) X78 hx (hb hby at_467) (by decide) (by decide) ?_
              refine own_aload (n := 635) X78 hx (hb hby at_633) rfl rfl rfl ?_
              refine own_iload (n := 637) X78 hx (hb hby at_635) rfl rfl ?_
              refine own_iload (n := 639) X78 hx (hb hby at_637) rfl rfl ?_
              refine own_S (n := 642) (argsL := [(.ref b1), (.int f), (.int tt)]) (rest := []) X78 hx hZ hown (own_rmN l Z a0 hw b1 k1 qs f tt h66 n0 Z_68 A_67 ok) (ww12 hw) (ww13 hw) (ww14 hw) (ww15 hw) (by decide) eq78 (by rw [hml]; rfl) (lenOf own_pd1 rfl) rfl (hb hby at_639) (Nat.le_of_ble_eq_true rfl) (Nat.le_of_ble_eq_true rfl) (Nat.le_of_ble_eq_true rfl) (Nat.le_of_ble_eq_true rfl) rfl ?_
              rintro v117 T117 L117 X117 ⟨rfl, Nq117, eq117⟩
              have N117 := Fr.app N78 Nq117
              change own_G p e below _ _ (mkF m 642 _ [(.int (own_num qs f tt))])
              refine own_i2l (n := 643) X117 hx (hb hby at_642) rfl rfl ?_
              refine own_lload (n := 645) X117 hx (hb hby at_643) rfl rfl ?_
              refine own_lcmp (n := 646) X117 hx (hb hby at_645) rfl ?_
              refine own_ifNo (n := 649) X117 hx (hb hby at_646) (teq ((lw_eq _ _).mpr (own_numbad 3 rfl ok hc277_70 hc337_79) : (lcmpW ((own_num qs f tt)).toInt64 (-1 : Int64)) = (0 : Int32))).2 rfl ?_
              refine own_iconst (n := 650) (z := (1 : Int32)) X117 hx (hb hby at_649) rfl rfl ?_
              refine own_goto (n := 654) X117 hx (hb hby at_650) (by decide) (by decide) ?_
              refine own_retZ X117 hx hlk hret (by simp) eq117 (w := (1 : Int32)) rfl (hb hby at_654) (by decide) (by decide) ?_
              exact ⟨rfl, N117⟩
          · skip
            refine own_ifYes (n := 450) X76 hx (hb hby at_324) (feq hc324_77).2 (by decide) (by decide) ?_
            refine own_iconst (n := 451) (z := (1 : Int32)) X76 hx (hb hby at_450) rfl rfl ?_
            refine own_goto (n := 455) X76 hx (hb hby at_451) (by decide) (by decide) ?_
            refine own_istore (n := 457) (l' := #[.val (.long q0), .second, .val (.long q1), .second, .val (.int p2), .val (.int p3), .val (.int p4), .val (.ref b1), .val (.int f), .val (.int tt), .val (.ref b39), .unset, .unset, .val (.int (1 : Int32))]) X76 hx (hb hby at_455) rfl rfl ?_
            refine own_iload (n := 459) X76 hx (hb hby at_457) rfl rfl ?_
            refine own_ifNo (n := 462) X76 hx (hb hby at_459) (feq (by decide : ¬ ((1 : Int32) = (0 : Int32)))).1 rfl ?_
            refine own_ldc2_w (n := 465) (v := (-1 : Int64)) X76 hx hZ hown (ww11 hw) (hb hby at_462) rfl ?_
            refine own_lstore (n := 467) (l' := #[.val (.long q0), .second, .val (.long q1), .second, .val (.int p2), .val (.int p3), .val (.int p4), .val (.ref b1), .val (.int f), .val (.int tt), .val (.ref b39), .val (.long (-1 : Int64)), .second, .val (.int (1 : Int32))]) X76 hx (hb hby at_465) rfl rfl ?_
            refine own_goto (n := 633) X76 hx (hb hby at_467) (by decide) (by decide) ?_
            refine own_aload (n := 635) X76 hx (hb hby at_633) rfl rfl rfl ?_
            refine own_iload (n := 637) X76 hx (hb hby at_635) rfl rfl ?_
            refine own_iload (n := 639) X76 hx (hb hby at_637) rfl rfl ?_
            refine own_S (n := 642) (argsL := [(.ref b1), (.int f), (.int tt)]) (rest := []) X76 hx hZ hown (own_rmN l Z a0 hw b1 k1 qs f tt h66 n0 Z_68 A_67 ok) (ww12 hw) (ww13 hw) (ww14 hw) (ww15 hw) (by decide) eq76 (by rw [hml]; rfl) (lenOf own_pd1 rfl) rfl (hb hby at_639) (Nat.le_of_ble_eq_true rfl) (Nat.le_of_ble_eq_true rfl) (Nat.le_of_ble_eq_true rfl) (Nat.le_of_ble_eq_true rfl) rfl ?_
            rintro v118 T118 L118 X118 ⟨rfl, Nq118, eq118⟩
            have N118 := Fr.app N76 Nq118
            change own_G p e below _ _ (mkF m 642 _ [(.int (own_num qs f tt))])
            refine own_i2l (n := 643) X118 hx (hb hby at_642) rfl rfl ?_
            refine own_lload (n := 645) X118 hx (hb hby at_643) rfl rfl ?_
            refine own_lcmp (n := 646) X118 hx (hb hby at_645) rfl ?_
            refine own_ifNo (n := 649) X118 hx (hb hby at_646) (teq ((lw_eq _ _).mpr (own_numbad 2 rfl ok hc277_70 hc324_77) : (lcmpW ((own_num qs f tt)).toInt64 (-1 : Int64)) = (0 : Int32))).2 rfl ?_
            refine own_iconst (n := 650) (z := (1 : Int32)) X118 hx (hb hby at_649) rfl rfl ?_
            refine own_goto (n := 654) X118 hx (hb hby at_650) (by decide) (by decide) ?_
            refine own_retZ X118 hx hlk hret (by simp) eq118 (w := (1 : Int32)) rfl (hb hby at_654) (by decide) (by decide) ?_
            exact ⟨rfl, N118⟩
        · skip
          refine own_ifYes (n := 450) X74 hx (hb hby at_311) (feq hc311_75).2 (by decide) (by decide) ?_
          refine own_iconst (n := 451) (z := (1 : Int32)) X74 hx (hb hby at_450) rfl rfl ?_
          refine own_goto (n := 455) X74 hx (hb hby at_451) (by decide) (by decide) ?_
          refine own_istore (n := 457) (l' := #[.val (.long q0), .second, .val (.long q1), .second, .val (.int p2), .val (.int p3), .val (.int p4), .val (.ref b1), .val (.int f), .val (.int tt), .val (.ref b39), .unset, .unset, .val (.int (1 : Int32))]) X74 hx (hb hby at_455) rfl rfl ?_
          refine own_iload (n := 459) X74 hx (hb hby at_457) rfl rfl ?_
          refine own_ifNo (n := 462) X74 hx (hb hby at_459) (feq (by decide : ¬ ((1 : Int32) = (0 : Int32)))).1 rfl ?_
          refine own_ldc2_w (n := 465) (v := (-1 : Int64)) X74 hx hZ hown (ww11 hw) (hb hby at_462) rfl ?_
          refine own_lstore (n := 467) (l' := #[.val (.long q0), .second, .val (.long q1), .second, .val (.int p2), .val (.int p3), .val (.int p4), .val (.ref b1), .val (.int f), .val (.int tt), .val (.ref b39), .val (.long (-1 : Int64)), .second, .val (.int (1 : Int32))]) X74 hx (hb hby at_465) rfl rfl ?_
          refine own_goto (n := 633) X74 hx (hb hby at_467) (by decide) (by decide) ?_
          refine own_aload (n := 635) X74 hx (hb hby at_633) rfl rfl rfl ?_
          refine own_iload (n := 637) X74 hx (hb hby at_635) rfl rfl ?_
          refine own_iload (n := 639) X74 hx (hb hby at_637) rfl rfl ?_
          refine own_S (n := 642) (argsL := [(.ref b1), (.int f), (.int tt)]) (rest := []) X74 hx hZ hown (own_rmN l Z a0 hw b1 k1 qs f tt h66 n0 Z_68 A_67 ok) (ww12 hw) (ww13 hw) (ww14 hw) (ww15 hw) (by decide) eq74 (by rw [hml]; rfl) (lenOf own_pd1 rfl) rfl (hb hby at_639) (Nat.le_of_ble_eq_true rfl) (Nat.le_of_ble_eq_true rfl) (Nat.le_of_ble_eq_true rfl) (Nat.le_of_ble_eq_true rfl) rfl ?_
          rintro v119 T119 L119 X119 ⟨rfl, Nq119, eq119⟩
          have N119 := Fr.app N74 Nq119
          change own_G p e below _ _ (mkF m 642 _ [(.int (own_num qs f tt))])
          refine own_i2l (n := 643) X119 hx (hb hby at_642) rfl rfl ?_
          refine own_lload (n := 645) X119 hx (hb hby at_643) rfl rfl ?_
          refine own_lcmp (n := 646) X119 hx (hb hby at_645) rfl ?_
          refine own_ifNo (n := 649) X119 hx (hb hby at_646) (teq ((lw_eq _ _).mpr (own_numbad 1 rfl ok hc277_70 hc311_75) : (lcmpW ((own_num qs f tt)).toInt64 (-1 : Int64)) = (0 : Int32))).2 rfl ?_
          refine own_iconst (n := 650) (z := (1 : Int32)) X119 hx (hb hby at_649) rfl rfl ?_
          refine own_goto (n := 654) X119 hx (hb hby at_650) (by decide) (by decide) ?_
          refine own_retZ X119 hx hlk hret (by simp) eq119 (w := (1 : Int32)) rfl (hb hby at_654) (by decide) (by decide) ?_
          exact ⟨rfl, N119⟩
      · skip
        refine own_ifYes (n := 450) X72 hx (hb hby at_298) (feq hc298_73).2 (by decide) (by decide) ?_
        refine own_iconst (n := 451) (z := (1 : Int32)) X72 hx (hb hby at_450) rfl rfl ?_
        refine own_goto (n := 455) X72 hx (hb hby at_451) (by decide) (by decide) ?_
        refine own_istore (n := 457) (l' := #[.val (.long q0), .second, .val (.long q1), .second, .val (.int p2), .val (.int p3), .val (.int p4), .val (.ref b1), .val (.int f), .val (.int tt), .val (.ref b39), .unset, .unset, .val (.int (1 : Int32))]) X72 hx (hb hby at_455) rfl rfl ?_
        refine own_iload (n := 459) X72 hx (hb hby at_457) rfl rfl ?_
        refine own_ifNo (n := 462) X72 hx (hb hby at_459) (feq (by decide : ¬ ((1 : Int32) = (0 : Int32)))).1 rfl ?_
        refine own_ldc2_w (n := 465) (v := (-1 : Int64)) X72 hx hZ hown (ww11 hw) (hb hby at_462) rfl ?_
        refine own_lstore (n := 467) (l' := #[.val (.long q0), .second, .val (.long q1), .second, .val (.int p2), .val (.int p3), .val (.int p4), .val (.ref b1), .val (.int f), .val (.int tt), .val (.ref b39), .val (.long (-1 : Int64)), .second, .val (.int (1 : Int32))]) X72 hx (hb hby at_465) rfl rfl ?_
        refine own_goto (n := 633) X72 hx (hb hby at_467) (by decide) (by decide) ?_
        refine own_aload (n := 635) X72 hx (hb hby at_633) rfl rfl rfl ?_
        refine own_iload (n := 637) X72 hx (hb hby at_635) rfl rfl ?_
        refine own_iload (n := 639) X72 hx (hb hby at_637) rfl rfl ?_
        refine own_S (n := 642) (argsL := [(.ref b1), (.int f), (.int tt)]) (rest := []) X72 hx hZ hown (own_rmN l Z a0 hw b1 k1 qs f tt h66 n0 Z_68 A_67 ok) (ww12 hw) (ww13 hw) (ww14 hw) (ww15 hw) (by decide) eq72 (by rw [hml]; rfl) (lenOf own_pd1 rfl) rfl (hb hby at_639) (Nat.le_of_ble_eq_true rfl) (Nat.le_of_ble_eq_true rfl) (Nat.le_of_ble_eq_true rfl) (Nat.le_of_ble_eq_true rfl) rfl ?_
        rintro v120 T120 L120 X120 ⟨rfl, Nq120, eq120⟩
        have N120 := Fr.app N72 Nq120
        change own_G p e below _ _ (mkF m 642 _ [(.int (own_num qs f tt))])
        refine own_i2l (n := 643) X120 hx (hb hby at_642) rfl rfl ?_
        refine own_lload (n := 645) X120 hx (hb hby at_643) rfl rfl ?_
        refine own_lcmp (n := 646) X120 hx (hb hby at_645) rfl ?_
        refine own_ifNo (n := 649) X120 hx (hb hby at_646) (teq ((lw_eq _ _).mpr (own_numbad 0 rfl ok hc277_70 hc298_73) : (lcmpW ((own_num qs f tt)).toInt64 (-1 : Int64)) = (0 : Int32))).2 rfl ?_
        refine own_iconst (n := 650) (z := (1 : Int32)) X120 hx (hb hby at_649) rfl rfl ?_
        refine own_goto (n := 654) X120 hx (hb hby at_650) (by decide) (by decide) ?_
        refine own_retZ X120 hx hlk hret (by simp) eq120 (w := (1 : Int32)) rfl (hb hby at_654) (by decide) (by decide) ?_
        exact ⟨rfl, N120⟩
  · skip
    refine own_icmpYes (n := 280) X66 hx (hb hby at_267) (flt hc267_69).2.1 (by decide) (by decide) ?_
    refine own_ldc2_w (n := 283) (v := (-1 : Int64)) X66 hx hZ hown (ww11 hw) (hb hby at_280) rfl ?_
    refine own_lstore (n := 285) (l' := #[.val (.long q0), .second, .val (.long q1), .second, .val (.int p2), .val (.int p3), .val (.int p4), .val (.ref b1), .val (.int f), .val (.int tt), .val (.ref b39), .val (.long (-1 : Int64)), .second, .unset]) X66 hx (hb hby at_283) rfl rfl ?_
    refine own_goto (n := 633) X66 hx (hb hby at_285) (by decide) (by decide) ?_
    refine own_aload (n := 635) X66 hx (hb hby at_633) rfl rfl rfl ?_
    refine own_iload (n := 637) X66 hx (hb hby at_635) rfl rfl ?_
    refine own_iload (n := 639) X66 hx (hb hby at_637) rfl rfl ?_
    refine own_S (n := 642) (argsL := [(.ref b1), (.int f), (.int tt)]) (rest := []) X66 hx hZ hown (own_rmN l Z a0 hw b1 k1 qs f tt h66 n0 Z_68 A_67 ok) (ww12 hw) (ww13 hw) (ww14 hw) (ww15 hw) (by decide) e66 (by rw [hml]; rfl) (lenOf own_pd1 rfl) rfl (hb hby at_639) (Nat.le_of_ble_eq_true rfl) (Nat.le_of_ble_eq_true rfl) (Nat.le_of_ble_eq_true rfl) (Nat.le_of_ble_eq_true rfl) rfl ?_
    rintro v121 T121 L121 X121 ⟨rfl, Nq121, eq121⟩
    have N121 := Fr.app N66 Nq121
    change own_G p e below _ _ (mkF m 642 _ [(.int (own_num qs f tt))])
    refine own_i2l (n := 643) X121 hx (hb hby at_642) rfl rfl ?_
    refine own_lload (n := 645) X121 hx (hb hby at_643) rfl rfl ?_
    refine own_lcmp (n := 646) X121 hx (hb hby at_645) rfl ?_
    refine own_ifNo (n := 649) X121 hx (hb hby at_646) (teq ((lw_eq _ _).mpr (own_numlt hc267_69) : (lcmpW ((own_num qs f tt)).toInt64 (-1 : Int64)) = (0 : Int32))).2 rfl ?_
    refine own_iconst (n := 650) (z := (1 : Int32)) X121 hx (hb hby at_649) rfl rfl ?_
    refine own_goto (n := 654) X121 hx (hb hby at_650) (by decide) (by decide) ?_
    refine own_retZ X121 hx hlk hret (by simp) eq121 (w := (1 : Int32)) rfl (hb hby at_654) (by decide) (by decide) ?_
    exact ⟨rfl, N121⟩
set_option maxRecDepth 65536 in
set_option maxHeartbeats 40000000 in
theorem comes_1 {Post : Tables → Env → Array Value → State → Outcome → State → Prop} (hpost : ∀ tb e args s v u, (limb_1_1.after args s (.returned v) u = true ∧ limb_1_2.after args s (.returned v) u = true ∧ True) → FrameEnd s (.returned v) u (Jvm.fieldLocs frame_1_writes args s ++ Jvm.arrayLocs frame_1_arrays args s ++ Jvm.staticLocs frame_1_statics s) 16 128 → Post tb e args s (.returned v) u) :
    ArmFor flags0 classFile x code maxLocals ret World_1 tables_1 room_1 Calls_1 rest_1 Pre_1 Post := by
  intro l hfl _ _ p e ha hc hk s m args below hf hA hF happ hP
  obtain ⟨hcalls, hrest, hpre⟩ := hP
  obtain ⟨-, -, -, hnamed, -, -, -, hat⟩ := (Spec.applies_iff hf).mp happ
  obtain ⟨hg, hn⟩ := and_e (Cond.before_iff.mp (show (Jvm.Cond.and given_1 narrow_1).before args s = true from hpre))
  obtain ⟨hcount, hr0⟩ := and_e hg
  obtain ⟨ha0, hr1⟩ := and_e hr0
  obtain ⟨ha1, hr2⟩ := and_e hr1
  obtain ⟨ha2, hr3⟩ := and_e hr2
  obtain ⟨ha3, hr4⟩ := and_e hr3
  obtain ⟨w0, w1, w2, w3, w4, rfl⟩ : ∃ w0 w1 w2 w3 w4 : Value, args = #[w0, w1, w2, w3, w4] := by
    have hs : args.size = 5 := by simpa [Cond.value, given_1] using hcount
    obtain ⟨L⟩ := args
    match L, hs with
    | [w0, w1, w2, w3, w4], _ => exact ⟨w0, w1, w2, w3, w4, rfl⟩
  have hw := fun d (hd : d ∈ tables_1) => atoms_spec (ws := Jvm.Cond.code x code maxLocals ret :: tables_1) hat d (List.mem_cons_of_mem _ hd)
  have hfit : Fit s := fun {y c} hc i hi => by
    obtain ⟨ha, rfl⟩ := Array.getElem?_eq_some_iff.mp hc
    have q := List.all_eq_true.mp ((Array.all_eq_true_iff_forall_mem.mp hF) _ (Array.getElem_mem ha)) i (List.mem_range.mpr hi)
    simpa [Array.getElem?_eq_getElem hi] using q
  obtain ⟨i0, ev0⟩ := isL_v ha0
  obtain rfl : w0 = (.long i0) := Option.some.inj ev0
  obtain ⟨i1, ev1⟩ := isL_v ha1
  obtain rfl : w1 = (.long i1) := Option.some.inj ev1
  obtain ⟨i2, ev2⟩ := is_v ha2
  obtain rfl : w2 = (.int i2) := Option.some.inj ev2
  obtain ⟨i3, ev3⟩ := is_v ha3
  obtain rfl : w3 = (.int i3) := Option.some.inj ev3
  obtain ⟨i4, ev4⟩ := is_v hr4
  obtain rfl : w4 = (.int i4) := Option.some.inj ev4
  obtain ⟨n, o, h1, h2, h3, _, L, rfl, ⟨rfl, N⟩, hq⟩ := own_rm0 l s _ hw i0 i1 i2 i3 i4 s.heap s.heap.size (Nat.le_refl _) p e ha hc hk s m _ below hf ((Spec.applies_iff_loose hf).mp happ).1 ⟨rfl, State.Warmed39.refl s, rfl⟩ trivial
  refine ⟨n, _, h1, h2, h3, hpost _ _ _ _ _ _ ⟨Cond.after_iff.mpr rfl, Cond.after_iff.mpr (eq_i res_at (Term.int_eval (1)) rfl), trivial⟩ ⟨hq.1, hq.2.1, (hq.2.2.sift fun y hy => Or.inr (N y hy)).mono (by decide) (by decide)⟩⟩
theorem main_1_1 : Claimed_1_1 := comes_1 fun _ _ _ _ _ _ h hF => ⟨h.1, hF⟩
theorem main_1_2 : Claimed_1_2 := comes_1 fun _ _ _ _ _ _ h hF => ⟨h.2.1, hF⟩
end Jvm.Pilot.@@N@@
namespace Jvm.Pilot.@@N@@
open Jvm Jvm.ClassFile Sem Op Lib Jvm.Free Jvm.Stand Jvm.Pilot.@@N@@.Jvm.D
/-! MADE BY PROGRAM (witnessworld.py) out of the Statement's table words and the real class files: 9 classes; the members and pool entries that the words name. The judged class is class 1, her method 1. -/
namespace start1
open Jvm.ClassFile
def u (s : String) : CpInfo := .utf8 (stringToUtf16 s)
/-- a pool by its gaps: so many unusable entries, then the entry; so many at the end -/
def gap : Nat → List CpInfo → List CpInfo
  | 0, r => r
  | n + 1, r => .unusable :: gap n r
def poolList (es : List (Nat × CpInfo)) (last : Nat) : List CpInfo := es.foldr (fun e r => gap e.1 (e.2 :: r)) (gap last [])
def pool (es : List (Nat × CpInfo)) (last : Nat) : Array CpInfo := ⟨poolList es last⟩
def fileOf (pool : Array CpInfo) (this : Nat) (attrs : Array Attribute := #[]) (ms : Array MethodInfo := #[]) (fl : Nat := 33) (sup : Nat := 0) (ifs : Array Nat := #[]) (fds : Array FieldInfo := #[]) : ClassFile where
  minorVersion := 0
  majorVersion := 65
  constantPool := pool
  accessFlags := fl
  thisClass := this
  superClass := sup
  interfaces := ifs
  fields := fds
  methods := ms
  attributes := attrs
def plain (name : String) (sup : Option ClassId) : Class where
  name := name
  kind := .ordinary
  loader := none
  accessFlags := 33
  super := sup
  interfaces := #[]
  cf := none
  fields := #[]
  methods := #[]
  instanceTypes := #[]
  staticTypes := #[]
  resolved := #[]
  callSites := []
  init := .initialized
  statics := none
  mirror := none

def pool0 : Array CpInfo := pool [(5, u "<init>"), (0, u "()V"), (1, .class_ 10), (1, u "java/lang/Object")] 113

def k0m0 : Method := { name := "<init>", desc := "()V", sig := { parameters := [], returnType := none }, accessFlags := 1, code := none }
/-- java/lang/Object -/
def k0 : Class := { plain "java/lang/Object" none with
  accessFlags := 33
  interfaces := #[]
  cf := some (fileOf pool0 8 #[] #[{ accessFlags := 1, nameIndex := 5, descriptorIndex := 6, attributes := #[] }] 33 0 #[] #[])
  fields := #[]
  methods := #[k0m0]
  instanceTypes := #[]
  staticTypes := #[]
  resolved := Array.replicate 124 none
  statics := none }

def pool1 : Array CpInfo := pool [(2, .class_ 4), (1, u "java/lang/Object"), (0, u "<init>"), (0, u "()V"), (0, .methodref 8 9), (0, .class_ 10), (0, .nameAndType 11 12), (0, u "com/example/granary/granary/fix/FixWireNumberPinLaw"), (0, u "cell"), (0, u "(JJIII)B"), (0, .integer 100000), (0, .integer 1000000), (0, .integer 10000000), (0, .integer 100000000), (0, .long 18446744073709551615), (1, .methodref 8 20), (0, .nameAndType 21 22), (0, u "bad"), (0, u "([BIII)Z"), (0, .methodref 8 24), (0, .nameAndType 25 26), (0, u "term"), (0, u "([BIII[I)J"), (0, .methodref 28 29), (0, .class_ 30), (0, .nameAndType 31 32), (0, u "com/example/granary/granary/fix/FixWire"), (0, u "number"), (0, u "([BII)I"), (0, .long 15), (3, u "law"), (0, u "(JJIII)Z")] 7

def k1m0 : Method := { name := "<init>", desc := "()V", sig := { parameters := [], returnType := none }, accessFlags := 1, code := none }
def k1c1 : Code := { maxStack := 9, maxLocals := 14, code := code, exceptionTable := #[], attributes := #[] }
def k1m1 : Method := { name := "law", desc := "(JJIII)Z", sig := { parameters := [.long, .long, .int, .int, .int], returnType := some .boolean }, accessFlags := 9, code := some k1c1 }
def k1c2 : Code := { maxStack := 4, maxLocals := 8, code := method_3_code, exceptionTable := #[], attributes := #[] }
def k1m2 : Method := { name := "cell", desc := "(JJIII)B", sig := { parameters := [.long, .long, .int, .int, .int], returnType := some .byte }, accessFlags := 10, code := some k1c2 }
def k1c3 : Code := { maxStack := 2, maxLocals := 4, code := method_4_code, exceptionTable := #[], attributes := #[] }
def k1m3 : Method := { name := "bad", desc := "([BIII)Z", sig := { parameters := [(.array .byte), .int, .int, .int], returnType := some .boolean }, accessFlags := 10, code := some k1c3 }
def k1c4 : Code := { maxStack := 5, maxLocals := 5, code := method_5_code, exceptionTable := #[], attributes := #[] }
def k1m4 : Method := { name := "term", desc := "([BIII[I)J", sig := { parameters := [(.array .byte), .int, .int, .int, (.array .int)], returnType := some .long }, accessFlags := 10, code := some k1c4 }
/-- com/example/granary/granary/fix/FixWireNumberPinLaw -/
def k1 : Class := { plain "com/example/granary/granary/fix/FixWireNumberPinLaw" (some 0) with
  accessFlags := 49
  interfaces := #[]
  cf := some (fileOf pool1 8 #[] #[{ accessFlags := 1, nameIndex := 5, descriptorIndex := 6, attributes := #[] }, { accessFlags := 9, nameIndex := 37, descriptorIndex := 38, attributes := #[] }, { accessFlags := 10, nameIndex := 11, descriptorIndex := 12, attributes := #[] }, { accessFlags := 10, nameIndex := 21, descriptorIndex := 22, attributes := #[] }, { accessFlags := 10, nameIndex := 25, descriptorIndex := 26, attributes := #[] }] 49 2 #[] #[])
  fields := #[]
  methods := #[k1m0, k1m1, k1m2, k1m3, k1m4]
  instanceTypes := #[]
  staticTypes := #[]
  resolved := Array.replicate 46 none
  statics := none }

def pool2 : Array CpInfo := pool [(4, .class_ 6), (1, u "java/lang/Object"), (0, u "<init>"), (0, u "()V"), (0, .class_ 10), (0, u "com/example/granary/granary/fix/FixWire"), (21, u "TAGS"), (0, u "[J"), (2, u "INTS"), (0, u "Ljava/lang/invoke/VarHandle;"), (34, u "number"), (0, u "([BII)I"), (8, .class_ 83), (0, u "com/example/granary/granary/fix/FixWire$Frame"), (52, u "ONE_BYTE_TYPES"), (0, u "[Ljava/lang/String;"), (10, u "LONGS"), (33, u "VERSION"), (0, u "Ljava/lang/String;"), (3, u "BEGIN_STRING"), (0, u "I"), (1, u "BODY_LENGTH"), (1, u "MSG_TYPE"), (1, u "CHECK_SUM"), (1, u "MOST_BODY"), (0, u "MOST_FRAMING"), (1, u "MOST_TAG"), (1, u "SOH"), (0, u "B"), (1, u "MOST_BEGIN_STRING"), (1, u "MOST_LENGTH_DIGITS"), (1, u "CHECKSUM_FIELD"), (1, u "TAG_NOT_A_NUMBER"), (1, u "TAG_WITHOUT_VALUE"), (1, u "EVERY_OTHER_BYTE"), (0, u "J"), (0, u "WORDS_A_SUM"), (17, .class_ 235), (0, u "com/example/granary/granary/fix/FixWire$Framer")] 20

def k2m0 : Method := { name := "<init>", desc := "()V", sig := { parameters := [], returnType := none }, accessFlags := 2, code := none }
def k2c1 : Code := { maxStack := 3, maxLocals := 5, code := prog_120_method_13_code, exceptionTable := #[], attributes := #[] }
def k2m1 : Method := { name := "number", desc := "([BII)I", sig := { parameters := [(.array .byte), .int, .int], returnType := some .int }, accessFlags := 8, code := some k2c1 }
/-- com/example/granary/granary/fix/FixWire -/
def k2 : Class := { plain "com/example/granary/granary/fix/FixWire" (some 0) with
  accessFlags := 48
  interfaces := #[]
  cf := some (fileOf pool2 9 #[.nestMembers #[234, 82]] #[{ accessFlags := 2, nameIndex := 7, descriptorIndex := 8, attributes := #[] }, { accessFlags := 8, nameIndex := 72, descriptorIndex := 73, attributes := #[] }] 48 4 #[] #[{ accessFlags := 24, nameIndex := 182, descriptorIndex := 183, attributes := #[] }, { accessFlags := 24, nameIndex := 187, descriptorIndex := 188, attributes := #[] }, { accessFlags := 24, nameIndex := 190, descriptorIndex := 188, attributes := #[] }, { accessFlags := 24, nameIndex := 192, descriptorIndex := 188, attributes := #[] }, { accessFlags := 24, nameIndex := 194, descriptorIndex := 188, attributes := #[] }, { accessFlags := 24, nameIndex := 196, descriptorIndex := 188, attributes := #[] }, { accessFlags := 24, nameIndex := 197, descriptorIndex := 188, attributes := #[] }, { accessFlags := 24, nameIndex := 199, descriptorIndex := 188, attributes := #[] }, { accessFlags := 24, nameIndex := 201, descriptorIndex := 202, attributes := #[] }, { accessFlags := 26, nameIndex := 136, descriptorIndex := 137, attributes := #[] }, { accessFlags := 26, nameIndex := 204, descriptorIndex := 188, attributes := #[] }, { accessFlags := 26, nameIndex := 206, descriptorIndex := 188, attributes := #[] }, { accessFlags := 26, nameIndex := 208, descriptorIndex := 188, attributes := #[] }, { accessFlags := 26, nameIndex := 210, descriptorIndex := 188, attributes := #[] }, { accessFlags := 26, nameIndex := 212, descriptorIndex := 188, attributes := #[] }, { accessFlags := 26, nameIndex := 36, descriptorIndex := 37, attributes := #[] }, { accessFlags := 26, nameIndex := 148, descriptorIndex := 37, attributes := #[] }, { accessFlags := 26, nameIndex := 32, descriptorIndex := 33, attributes := #[] }, { accessFlags := 26, nameIndex := 214, descriptorIndex := 215, attributes := #[] }, { accessFlags := 26, nameIndex := 216, descriptorIndex := 188, attributes := #[] }])
  fields := #[{ name := "VERSION", type := (.object "java/lang/String"), accessFlags := 24, slot := 0, constantValue := 0 }, { name := "BEGIN_STRING", type := .int, accessFlags := 24, slot := 1, constantValue := 0 }, { name := "BODY_LENGTH", type := .int, accessFlags := 24, slot := 2, constantValue := 0 }, { name := "MSG_TYPE", type := .int, accessFlags := 24, slot := 3, constantValue := 0 }, { name := "CHECK_SUM", type := .int, accessFlags := 24, slot := 4, constantValue := 0 }, { name := "MOST_BODY", type := .int, accessFlags := 24, slot := 5, constantValue := 0 }, { name := "MOST_FRAMING", type := .int, accessFlags := 24, slot := 6, constantValue := 0 }, { name := "MOST_TAG", type := .int, accessFlags := 24, slot := 7, constantValue := 0 }, { name := "SOH", type := .byte, accessFlags := 24, slot := 8, constantValue := 0 }, { name := "ONE_BYTE_TYPES", type := (.array (.object "java/lang/String")), accessFlags := 26, slot := 9, constantValue := 0 }, { name := "MOST_BEGIN_STRING", type := .int, accessFlags := 26, slot := 10, constantValue := 0 }, { name := "MOST_LENGTH_DIGITS", type := .int, accessFlags := 26, slot := 11, constantValue := 0 }, { name := "CHECKSUM_FIELD", type := .int, accessFlags := 26, slot := 12, constantValue := 0 }, { name := "TAG_NOT_A_NUMBER", type := .int, accessFlags := 26, slot := 13, constantValue := 0 }, { name := "TAG_WITHOUT_VALUE", type := .int, accessFlags := 26, slot := 14, constantValue := 0 }, { name := "INTS", type := (.object "java/lang/invoke/VarHandle"), accessFlags := 26, slot := 15, constantValue := 0 }, { name := "LONGS", type := (.object "java/lang/invoke/VarHandle"), accessFlags := 26, slot := 16, constantValue := 0 }, { name := "TAGS", type := (.array .long), accessFlags := 26, slot := 17, constantValue := 0 }, { name := "EVERY_OTHER_BYTE", type := .long, accessFlags := 26, slot := 18, constantValue := 0 }, { name := "WORDS_A_SUM", type := .int, accessFlags := 26, slot := 19, constantValue := 0 }]
  methods := #[k2m0, k2m1]
  instanceTypes := #[]
  staticTypes := #[(.object "java/lang/String"), .int, .int, .int, .int, .int, .int, .int, .byte, (.array (.object "java/lang/String")), .int, .int, .int, .int, .int, (.object "java/lang/invoke/VarHandle"), (.object "java/lang/invoke/VarHandle"), (.array .long), .long, .int]
  resolved := Array.replicate 256 none
  statics := none }

def pool3 : Array CpInfo := pool [(1, u "java/lang/Cloneable"), (0, .class_ 1), (0, u "java/lang/Object"), (0, .class_ 3)] 3

/-- java/lang/Cloneable -/
def k3 : Class := { plain "java/lang/Cloneable" (some 0) with
  accessFlags := 1537
  interfaces := #[]
  cf := some (fileOf pool3 2 #[] #[] 1537 4 #[] #[])
  fields := #[]
  methods := #[]
  instanceTypes := #[]
  staticTypes := #[]
  resolved := Array.replicate 8 none
  statics := none }

def pool4 : Array CpInfo := pool [(1, u "java/io/Serializable"), (0, .class_ 1), (0, u "java/lang/Object"), (0, .class_ 3)] 3

/-- java/io/Serializable -/
def k4 : Class := { plain "java/io/Serializable" (some 0) with
  accessFlags := 1537
  interfaces := #[]
  cf := some (fileOf pool4 2 #[] #[] 1537 4 #[] #[])
  fields := #[]
  methods := #[]
  instanceTypes := #[]
  staticTypes := #[]
  resolved := Array.replicate 8 none
  statics := none }

/-- the primitive byte -/
def k5 : Class := { plain "byte" none with kind := .primitive 'B', accessFlags := 0x411 }
/-- [B -/
def k6 : Class := { plain "[B" (some 0) with kind := .array 5 .byte, interfaces := #[3, 4], accessFlags := 1041 }

/-- the primitive int -/
def k7 : Class := { plain "int" none with kind := .primitive 'I', accessFlags := 0x411 }
/-- [I -/
def k8 : Class := { plain "[I" (some 0) with kind := .array 7 .int, interfaces := #[3, 4], accessFlags := 1041 }

def heap : Heap := #[]
def classes : Array Class := #[k0, k1, k2, k3, k4, k5, k6, k7, k8]
def interned : List (Array UInt16 × Addr) := []
def slotsUsed : Nat := 0
def theMethod : MethodId := ⟨1, 1⟩
def args0 : Array Value := #[.long 5, .long 300, .int 7, .int 8, .int 9]
def aboutOver (below : List Frame) : State where
  vm := { classes := classes, interned := interned.toArray }
  heap := heap
  slotsUsed := slotsUsed
  threads := #[{ frames := .invoking theMethod args0 :: below }]
def below0 : List Frame := [.native { method := ⟨0, 0⟩, args := #[] }]
def about1 : State := aboutOver below0
def p0 : Program := .bare "" "" ""
def e0 : Env := launch0.env 0 0 0
theorem w_frames : about1.frames = Frame.invoking theMethod args0 :: below0 := rfl
set_option maxRecDepth 65536 in
theorem w_args : argsFit about1.vm theMethod args0 = true := by decide +kernel
set_option maxRecDepth 65536 in
theorem w_heap : heapFits about1 = true := by decide +kernel
set_option maxRecDepth 65536 in
theorem w_runnable : about1.curStatus? = some .runnable := by decide +kernel
set_option maxRecDepth 65536 in
theorem w_alone : about1.alone = true := by decide +kernel
set_option maxRecDepth 65536 in
theorem w_named : about1.methodNamed? x = some theMethod := by decide +kernel
set_option maxRecDepth 65536 in
theorem w_hears : about1.hears theMethod below0 = true := by decide +kernel
set_option maxRecDepth 65536 in
theorem w_ripe : about1.ripe theMethod args0 below0 = true := by decide +kernel
theorem w_running : about1.status = .running := rfl
set_option maxRecDepth 65536 in
theorem w_room : about1.hasRoom e0.platform room_1 = true :=
  launch0.hasRoom_least _ room_1 (by decide +kernel) (by decide +kernel) (by decide +kernel) (by decide +kernel) (by decide +kernel) (by decide +kernel)
theorem allAtoms_all (ts : List Jvm.Cond) (a : Array Jvm.Value) (st : Jvm.State) : (allAtoms ts).before a st = ts.all (fun c => c.before a st) := by
  induction ts with
  | nil => rfl
  | cons c t ih =>
    show (Jvm.Cond.and c (allAtoms t)).before a st = _
    rw [Jvm.Cond.before_and, ih, List.all_cons]
def words1 : List Jvm.Cond := Jvm.Cond.code x code maxLocals ret :: tables_1
/-- a 'code' word, met by the world's own term for the bytes: nothing is compared byte by byte -/
theorem code_word {y : MethodName} {bytes : ByteArray} {mx : Nat} {rt : Option FieldType} {a : Array Value} {s : State} {m : MethodId} {meth : Method} {c : Code} (h1 : s.methodNamed? y = some m) (h2 : s.vm.method? m = some meth) (h3 : meth.code = some c) (h4 : c.code = bytes)
    (h5 : (c.maxLocals == mx && c.exceptionTable.isEmpty && decide (c.maxStack ≤ mostOperands) && decide (meth.sig.returnType = rt) && !meth.locks && decide (parseMethodDescriptor y.desc = some meth.sig)) = true) : (Jvm.Cond.code y bytes mx rt).before a s = true := by
  simp only [Bool.and_eq_true, beq_iff_eq, Bool.not_eq_true', decide_eq_true_eq] at h5
  obtain ⟨⟨⟨⟨⟨g1, g2⟩, g3⟩, g4⟩, g5⟩, g6⟩ := h5
  simp [Cond.before, Cond.holds, Cond.value, h1, h2, h3, h4, g1, g2, g3, g4, g5, g6]
def isCode : Jvm.Cond → Bool
  | .code _ _ _ _ => true
  | _ => false
theorem all_split {L : List Jvm.Cond} {P : Jvm.Cond → Bool} (h1 : L.all (fun c => isCode c || P c) = true) (h2 : ∀ c ∈ L.filter isCode, P c = true) : L.all P = true := by
  refine List.all_eq_true.mpr fun c hc => ?_
  have h := List.all_eq_true.mp h1 c hc
  rcases Bool.eq_false_or_eq_true (isCode c) with hi | hi
  · exact h2 c (List.mem_filter.mpr ⟨hc, hi⟩)
  · simpa [hi] using h
set_option maxRecDepth 65536 in
theorem w_c0 : (Jvm.Cond.code x code maxLocals ret).before args0 about1 = true := code_word (m := ⟨1, 1⟩) (meth := k1m1) (c := k1c1) (by decide +kernel) rfl rfl rfl (by decide +kernel)
set_option maxRecDepth 65536 in
theorem w_c1 : (Jvm.Cond.code ({ cls := "com/example/granary/granary/fix/FixWireNumberPinLaw", name := "cell", desc := "(JJIII)B" } : Jvm.MethodName) method_3_code (8 : Nat) (Option.some Jvm.ClassFile.FieldType.byte)).before args0 about1 = true := code_word (m := ⟨1, 2⟩) (meth := k1m2) (c := k1c2) (by decide +kernel) rfl rfl rfl (by decide +kernel)
set_option maxRecDepth 65536 in
theorem w_c2 : (Jvm.Cond.code ({ cls := "com/example/granary/granary/fix/FixWire", name := "number", desc := "([BII)I" } : Jvm.MethodName) prog_120_method_13_code (5 : Nat) (Option.some Jvm.ClassFile.FieldType.int)).before args0 about1 = true := code_word (m := ⟨2, 1⟩) (meth := k2m1) (c := k2c1) (by decide +kernel) rfl rfl rfl (by decide +kernel)
set_option maxRecDepth 65536 in
theorem w_c3 : (Jvm.Cond.code ({ cls := "com/example/granary/granary/fix/FixWireNumberPinLaw", name := "bad", desc := "([BIII)Z" } : Jvm.MethodName) method_4_code (4 : Nat) (Option.some Jvm.ClassFile.FieldType.boolean)).before args0 about1 = true := code_word (m := ⟨1, 3⟩) (meth := k1m3) (c := k1c3) (by decide +kernel) rfl rfl rfl (by decide +kernel)
set_option maxRecDepth 65536 in
theorem w_c4 : (Jvm.Cond.code ({ cls := "com/example/granary/granary/fix/FixWireNumberPinLaw", name := "term", desc := "([BIII[I)J" } : Jvm.MethodName) method_5_code (5 : Nat) (Option.some Jvm.ClassFile.FieldType.long)).before args0 about1 = true := code_word (m := ⟨1, 4⟩) (meth := k1m4) (c := k1c4) (by decide +kernel) rfl rfl rfl (by decide +kernel)
def codes1 : List Jvm.Cond := [Jvm.Cond.code x code maxLocals ret, Jvm.Cond.code ({ cls := "com/example/granary/granary/fix/FixWireNumberPinLaw", name := "cell", desc := "(JJIII)B" } : Jvm.MethodName) method_3_code (8 : Nat) (Option.some Jvm.ClassFile.FieldType.byte), Jvm.Cond.code ({ cls := "com/example/granary/granary/fix/FixWire", name := "number", desc := "([BII)I" } : Jvm.MethodName) prog_120_method_13_code (5 : Nat) (Option.some Jvm.ClassFile.FieldType.int), Jvm.Cond.code ({ cls := "com/example/granary/granary/fix/FixWireNumberPinLaw", name := "bad", desc := "([BIII)Z" } : Jvm.MethodName) method_4_code (4 : Nat) (Option.some Jvm.ClassFile.FieldType.boolean), Jvm.Cond.code ({ cls := "com/example/granary/granary/fix/FixWireNumberPinLaw", name := "term", desc := "([BIII[I)J" } : Jvm.MethodName) method_5_code (5 : Nat) (Option.some Jvm.ClassFile.FieldType.long)]
set_option maxRecDepth 65536 in
theorem codes_eq : words1.filter isCode = codes1 := rfl
theorem w_codes : ∀ c ∈ words1.filter isCode, c.before args0 about1 = true := by
  rw [codes_eq]
  intro c hc
  simp only [codes1, List.mem_cons, List.not_mem_nil, or_false] at hc
  rcases hc with rfl | rfl | rfl | rfl | rfl
  · exact w_c0
  · exact w_c1
  · exact w_c2
  · exact w_c3
  · exact w_c4
set_option maxRecDepth 65536 in
theorem w_t1 : words1.all (fun c => isCode c || c.before args0 about1) = true := by decide +kernel
theorem w_tables : (allAtoms (Jvm.Cond.code x code maxLocals ret :: tables_1)).before args0 about1 = true := by
  rw [allAtoms_all]
  show words1.all (fun c => c.before args0 about1) = true
  refine all_split ?_ w_codes
  rw [w_t1]
set_option maxRecDepth 65536 in
theorem w_case : (Jvm.Cond.and given_1 narrow_1).before args0 about1 = true := by decide +kernel
theorem w_applies : (headSpec (Jvm.Cond.code x code maxLocals ret :: tables_1) room_1).applies x e0.platform about1 = true :=
  (Spec.applies_iff w_frames).mpr ⟨w_running, w_runnable, w_alone, w_named, w_hears, w_ripe, w_room, w_tables⟩
theorem atStart : AtStart classFile x code maxLocals ret World_1 tables_1 room_1 Calls_1 rest_1 Pre_1 launch0 p0 e0 about1 theMethod args0 below0 :=
  ⟨lists_1, trivial, launch0.admits_env _ _ _, launch0.least_env, fairChoices_fair.cas, fairChoices_fair.clock, w_frames, w_args, w_heap, w_applies, trivial, trivial, w_case⟩
end start1
theorem witness_1 : WitnessClaimed_1 := ⟨start1.p0, start1.e0, start1.about1, start1.theMethod, start1.args0, start1.below0, start1.atStart⟩
end Jvm.Pilot.@@N@@
