import JvmDerived
import JvmDerived.Pilot.@@N@@Statement
import JvmDerived.Pilot.@@N@@Code
set_option linter.unusedVariables false
set_option linter.unusedSimpArgs false
namespace Jvm.Pilot.@@N@@
open Jvm Jvm.ClassFile Sem Op Lib Jvm.Free Jvm.Stand Jvm.LawKit Jvm.RoadKit Bundle Jvm.Pilot.@@N@@.Jvm.D
section OwnKit
variable {p : Program} {l : Launch} {e : Env} {R : Room} {s : State} {m : MethodId} {args : Array Value} {below : List Frame} {meth : Method} {c : Code} {T : State} {locs : List Loc} {cells slots : Nat} {Z : State} {a0 : Array Value} {h : Heap} {Q : Option Value → Heap → List Loc → Prop} {rc rs : Nat} {S S' : State}
/-- from S the body ends well -/
def own_go (p : Program) (e : Env) (below : List Frame) (s : State) (Q : Option Value → Heap → List Loc → Prop) (rc rs : Nat) (S : State) : Prop :=
  ∃ s₂ o, Steps p.tables e below S s₂ ∧ s₂.status = .running ∧ Ended s₂ below o ∧ ∃ v L, o = .returned v ∧ Q v s₂.heap L ∧ FrameEnd s o s₂ L rc rs
theorem own_st (k : ∀ t, Steps p.tables e below S' t → Steps p.tables e below S t) (g : own_go p e below s Q rc rs S') : own_go p e below s Q rc rs S := by
  obtain ⟨s₂, o, h1, h2⟩ := g
  exact ⟨s₂, o, k _ h1, h2⟩
theorem own_ret (X : Stand p l e R s m args below meth c T locs cells slots) (hx : p.tables.exec = Jvm.exec) (hlk : meth.locks = false) {pc : Nat} {Ls : Array Slot} {w : Value} {t : FieldType} {i : Instr} {rest : List Value} (hret : meth.sig.returnType = some t) (hn : narrow t w = w)
    (hi : (i = .ireturn ∧ (t = .int ∨ t = .boolean ∨ t = .byte ∨ t = .char ∨ t = .short) ∧ ∃ z, w = .int z) ∨ (i = .lreturn ∧ t = .long ∧ ∃ z, w = .long z) ∨ (i = .dreturn ∧ t = .double ∧ ∃ z, w = .double z) ∨ (i = .freturn ∧ t = .float ∧ ∃ z, w = .float z) ∨ (i = .areturn ∧ t.isReference = true ∧ w.isRef = true))
    (hd : decode c.code pc = .ok (i, 1)) (hc : cells ≤ rc) (hs : slots ≤ rs) (hQ : Q (some w) T.heap locs) : own_go p e below s Q rc rs (T.setTop (mkF m pc Ls (w :: rest))) := by
  obtain ⟨fs, hr, hrun, hended, hW, hsame⟩ := X.leave (v := some w) (fun h => by rw [hret] at h; cases h) hlk
  exact ⟨_, _, retOut X hx hret hn hi hd hr, hrun, hended, _, _, rfl, hQ, ⟨_, rfl⟩, hW, hsame.mono hc hs⟩
theorem own_retI (X : Stand p l e R s m args below meth c T locs cells slots) (hx : p.tables.exec = Jvm.exec) (hlk : meth.locks = false) {pc : Nat} {Ls : Array Slot} {z : Int32} {rest : List Value} (hret : meth.sig.returnType = some .int)
    (hd : decode c.code pc = .ok (.ireturn, 1)) (hc : cells ≤ rc) (hs : slots ≤ rs) (hQ : Q (some (.int z)) T.heap locs) : own_go p e below s Q rc rs (T.setTop (mkF m pc Ls (.int z :: rest))) :=
  own_ret X hx hlk hret rfl (Or.inl ⟨rfl, Or.inl rfl, z, rfl⟩) hd hc hs hQ
theorem own_retN (X : Stand p l e R s m args below meth c T locs cells slots) (hx : p.tables.exec = Jvm.exec) (hlk : meth.locks = false) {pc : Nat} {Ls : Array Slot} {z : Int32} {t : FieldType} {rest : List Value} (hret : meth.sig.returnType = some t) (ht : t = .boolean ∨ t = .byte ∨ t = .char ∨ t = .short) (hn : narrow t (.int z) = .int z)
    (hd : decode c.code pc = .ok (.ireturn, 1)) (hc : cells ≤ rc) (hs : slots ≤ rs) (hQ : Q (some (.int z)) T.heap locs) : own_go p e below s Q rc rs (T.setTop (mkF m pc Ls (.int z :: rest))) :=
  own_ret X hx hlk hret hn (Or.inl ⟨rfl, Or.inr ht, z, rfl⟩) hd hc hs hQ
theorem own_retJ (X : Stand p l e R s m args below meth c T locs cells slots) (hx : p.tables.exec = Jvm.exec) (hlk : meth.locks = false) {pc : Nat} {Ls : Array Slot} {z : Int64} {rest : List Value} (hret : meth.sig.returnType = some .long)
    (hd : decode c.code pc = .ok (.lreturn, 1)) (hc : cells ≤ rc) (hs : slots ≤ rs) (hQ : Q (some (.long z)) T.heap locs) : own_go p e below s Q rc rs (T.setTop (mkF m pc Ls (.long z :: rest))) :=
  own_ret X hx hlk hret rfl (Or.inr (Or.inl ⟨rfl, rfl, z, rfl⟩)) hd hc hs hQ
theorem own_retA (X : Stand p l e R s m args below meth c T locs cells slots) (hx : p.tables.exec = Jvm.exec) (hlk : meth.locks = false) {pc : Nat} {Ls : Array Slot} {w : Value} {t : FieldType} {rest : List Value} (hret : meth.sig.returnType = some t) (ht : t.isReference = true) (hw : w.isRef = true)
    (hd : decode c.code pc = .ok (.areturn, 1)) (hc : cells ≤ rc) (hs : slots ≤ rs) (hQ : Q (some w) T.heap locs) : own_go p e below s Q rc rs (T.setTop (mkF m pc Ls (w :: rest))) :=
  own_ret X hx hlk hret (by cases w <;> cases t <;> first | rfl | (simp [Value.isRef] at hw; done) | (simp [FieldType.isReference] at ht; done)) (Or.inr (Or.inr (Or.inr (Or.inr ⟨rfl, ht, hw⟩)))) hd hc hs hQ
theorem own_ret0 (X : Stand p l e R s m args below meth c T locs cells slots) (hx : p.tables.exec = Jvm.exec) (hlk : meth.locks = false) {pc : Nat} {Ls : Array Slot} (hret : meth.sig.returnType = none)
    (hd : decode c.code pc = .ok (.return_, 1)) (hc : cells ≤ rc) (hs : slots ≤ rs) (hQ : Q none T.heap locs) : own_go p e below s Q rc rs (T.setTop (mkF m pc Ls [])) := by
  obtain ⟨fs, hr, hrun, hended, hW, hsame⟩ := X.leave (v := none) (fun _ => rfl) hlk
  exact ⟨_, _, X.returnOut hx hret hd hr, hrun, hended, _, _, rfl, hQ, ⟨_, rfl⟩, hW, hsame.mono hc hs⟩
/-- a body's contract at a heap -/
def own_Met (l : Launch) (Z : State) (y : MethodName) (bytes : ByteArray) (maxL : Nat) (ret : Option FieldType) (ws : List Jvm.Cond) (rm : Room) (as' : Array Value) (h : Heap) (Q : Option Value → Heap → List Loc → Prop) : Prop :=
  MetFree l y (head1 (Jvm.Cond.code y bytes maxL ret :: ws) rm) (fun a U => a = as' ∧ Z.Warmed39 U.vm ∧ U.heap = h) (fun _ _ _ _ _ => True) (fun _ U o U' => ∃ v L, o = .returned v ∧ Q v U'.heap L ∧ FrameEnd U o U' L rm.cells rm.slots)
theorem own_body {y : MethodName} {bytes : ByteArray} {maxL : Nat} {ret : Option FieldType} {ws : List Jvm.Cond} {rm : Room} {as' : Array Value} (hp : plainFor y = true)
    (k : ∀ (p : Program) (e : Env) (s : State) (m : MethodId) (below : List Frame) (meth : Method) (c : Code) (s₁ : State), p.tables.exec = Jvm.exec → c.code = bytes → c.maxLocals = maxL → s.vm.findClass y.cls = some m.cls → meth.name = y.name → meth.sig.returnType = ret → meth.locks = false → Stand p l e rm s m as' below meth c s₁ [] 0 0 → Z.Warmed39 s.vm → s₁.heap = h → own_go p e below s Q rm.cells rm.slots (s₁.setTop (entryFrame m as' maxL))) :
    own_Met l Z y bytes maxL ret ws rm as' h Q := by
  refine MetFree.of_bodySF hp hisR ?_
  intro p e s m args below meth c s₁ Bd hml0 hP hK
  obtain ⟨rfl, hZ, hh⟩ := hP
  exact k p e s m below meth c s₁ Bd.exec Bd.bytes hml0 (findClass_of_methodNamed Bd.named) (name_of_methodNamed Bd.named Bd.method).1 Bd.returns Bd.notSynchronized (Stand.of_body Bd) hZ (by rw [← hh, Bd.state]; rfl)
theorem own_callS (X : Stand p l e R s m args below meth c T locs cells slots) (hx : p.tables.exec = Jvm.exec) (hZ : Z.Warmed39 s.vm) {own : String} {index : Nat} {y : MethodName} {bytes : ByteArray} {maxL : Nat} {ret : Option FieldType} {rm : Room} {argsL rest : List Value} {Q' : Option Value → Heap → List Loc → Prop}
    (hM : own_Met l Z y bytes maxL ret [] rm argsL.toArray h Q') (hown : s.vm.findClass own = some m.cls) (w1 : (Jvm.Cond.methodLink own index y).before a0 Z = true) (w2 : (Jvm.Cond.static y).before a0 Z = true) (w3 : (Jvm.Cond.initialized y.cls).before a0 Z = true) (w4 : (Jvm.Cond.code y bytes maxL ret).before a0 Z = true)
    (hy : y.cls ≠ "java/lang/invoke/MethodHandle" ∧ y.cls ≠ "java/lang/invoke/VarHandle") (eT : T.heap = h) {g : JFrame} (hg : g.method = m) (hsize : g.locals.size = c.maxLocals) (hlen : ∀ sig, parseMethodDescriptor y.desc = some sig → argsL.length = sig.parameters.length) (hstack : g.stack = argsL.reverse ++ rest) {W : Nat} (hW : 2 * g.monitorRoom + (rest.map fun v => v.category).sum ≤ W)
    (hd : decode c.code g.pc = .ok (.invokestatic index, 3)) (hf : rm.frames + 1 ≤ R.frames) (hl : W + (maxL + 11) + rm.locals ≤ R.locals) (hc : cells + rm.cells ≤ R.cells) (hs : slots + rm.slots ≤ R.slots) :
    ∃ v T' L, Stand p l e R s m args below meth c T' (locs ++ L) (cells + rm.cells) (slots + rm.slots) ∧ Q' v T'.heap L ∧ ∀ target, Steps p.tables e below (T'.setTop { g with pc := g.pc + 3, stack := v.toList ++ rest }) target → Steps p.tables e below (T.setTop g) target := by
  obtain ⟨v, _, ⟨T1, L1, k1, n1⟩, -, X1, ⟨Lc, hQ, l1, y1, z1⟩, st⟩ := Jvm.LawKit.callS X hx (y := y) hown (mvT hZ w1) (mvT hZ w2) (mvT hZ w3) (mvT hZ w4) hy (backOf (W := W) hM hZ w4 w3 hf hl) hg hsize hlen hstack hW hd (fun _ _ => ⟨rfl, eT, hc, hs⟩)
  dsimp only [Pt.U, Pt.locs, Pt.cells, Pt.slots] at X1 l1 y1 z1 st hQ
  subst l1 y1 z1
  exact ⟨v, T1, Lc, X1, hQ, st⟩
theorem own_callV (X : Stand p l e R s m args below meth c T locs cells slots) (hx : p.tables.exec = Jvm.exec) (hZ : Z.Warmed39 s.vm) {own C : String} {index : Nat} {y z : MethodName} {bytes : ByteArray} {maxL : Nat} {ret : Option FieldType} {rm : Room} {b : Addr} {argsL rest : List Value} {Q' : Option Value → Heap → List Loc → Prop}
    (hM : own_Met l Z z bytes maxL ret [] rm (.ref b :: argsL).toArray h Q') (hown : s.vm.findClass own = some m.cls) (w1 : (Jvm.Cond.methodLink own index y).before a0 Z = true) (w2 : (Jvm.Cond.declares y).before a0 Z = true) (nf : NotFace s y) (w3 : (Jvm.Cond.selects C y z).before a0 Z = true) (w5 : (Jvm.Cond.instanceMethod z).before a0 Z = true)
    (w6 : (Jvm.Cond.initialized z.cls).before a0 Z = true) (w4 : (Jvm.Cond.code z bytes maxL ret).before a0 Z = true)
    (hy : y.cls ≠ "java/lang/invoke/MethodHandle" ∧ y.cls ≠ "java/lang/invoke/VarHandle") (eT : T.heap = h) (E : Exa Z h b C) {g : JFrame} (hg : g.method = m) (hsize : g.locals.size = c.maxLocals) (hlen : ∀ sig, parseMethodDescriptor y.desc = some sig → argsL.length = sig.parameters.length) (hstack : g.stack = argsL.reverse ++ .ref b :: rest) {W : Nat} (hW : 2 * g.monitorRoom + (rest.map fun v => v.category).sum ≤ W)
    (hd : decode c.code g.pc = .ok (.invokevirtual index, 3)) (hf : rm.frames + 1 ≤ R.frames) (hl : W + (maxL + 11) + rm.locals ≤ R.locals) (hc : cells + rm.cells ≤ R.cells) (hs : slots + rm.slots ≤ R.slots) :
    ∃ v T' L, Stand p l e R s m args below meth c T' (locs ++ L) (cells + rm.cells) (slots + rm.slots) ∧ Q' v T'.heap L ∧ ∀ target, Steps p.tables e below (T'.setTop { g with pc := g.pc + 3, stack := v.toList ++ rest }) target → Steps p.tables e below (T.setTop g) target := by
  obtain ⟨cq, kq, qa, qb, qc⟩ := isOf hZ eT E
  obtain ⟨v, _, ⟨T1, L1, k1, n1⟩, -, X1, ⟨Lc, hQ, l1, y1, z1⟩, st⟩ := X.virtualBack hx (y := y) (z := z) hown (mvT hZ w1) (mvT hZ w2) nf (mvT hZ w3) (mvT hZ w5) hy (backOf (W := W) hM hZ w4 w6 hf hl) qa qc hg hsize (Steps.refl _) hlen hstack hW hd (fun _ _ => ⟨rfl, eT, hc, hs⟩)
  dsimp only [Pt.U, Pt.locs, Pt.cells, Pt.slots] at X1 l1 y1 z1 st hQ
  subst l1 y1 z1
  exact ⟨v, T1, Lc, X1, hQ, fun _ k => st.trans k⟩
theorem own_callU (X : Stand p l e R s m args below meth c T locs cells slots) (hx : p.tables.exec = Jvm.exec) (hZ : Z.Warmed39 s.vm) {own C owner : String} {index : Nat} {y z : MethodName} {bytes : ByteArray} {maxL : Nat} {ret : Option FieldType} {rm : Room} {b : Addr} {argsL rest : List Value} {Q' : Option Value → Heap → List Loc → Prop}
    (hM : own_Met l Z z bytes maxL ret [] rm (.ref b :: argsL).toArray h Q') (hown : s.vm.findClass own = some m.cls) (w1 : (Jvm.Cond.methodLink own index y).before a0 Z = true) (w2 : (Jvm.Cond.sameMethod y.cls owner y.name y.desc).before a0 Z = true) (w7 : (Jvm.Cond.declares ⟨owner, y.name, y.desc⟩).before a0 Z = true) (w3 : (Jvm.Cond.selects C y z).before a0 Z = true) (w5 : (Jvm.Cond.instanceMethod z).before a0 Z = true)
    (w6 : (Jvm.Cond.initialized z.cls).before a0 Z = true) (w4 : (Jvm.Cond.code z bytes maxL ret).before a0 Z = true)
    (hy : owner ≠ "java/lang/invoke/MethodHandle" ∧ owner ≠ "java/lang/invoke/VarHandle") (eT : T.heap = h) (E : Exa Z h b C) {g : JFrame} (hg : g.method = m) (hsize : g.locals.size = c.maxLocals) (hlen : ∀ sig, parseMethodDescriptor y.desc = some sig → argsL.length = sig.parameters.length) (hstack : g.stack = argsL.reverse ++ .ref b :: rest) {W : Nat} (hW : 2 * g.monitorRoom + (rest.map fun v => v.category).sum ≤ W)
    (hd : decode c.code g.pc = .ok (.invokevirtual index, 3)) (hf : rm.frames + 1 ≤ R.frames) (hl : W + (maxL + 11) + rm.locals ≤ R.locals) (hc : cells + rm.cells ≤ R.cells) (hs : slots + rm.slots ≤ R.slots) :
    ∃ v T' L, Stand p l e R s m args below meth c T' (locs ++ L) (cells + rm.cells) (slots + rm.slots) ∧ Q' v T'.heap L ∧ ∀ target, Steps p.tables e below (T'.setTop { g with pc := g.pc + 3, stack := v.toList ++ rest }) target → Steps p.tables e below (T.setTop g) target := by
  obtain ⟨cq, kq, qa, qb, qc⟩ := isOf hZ eT E
  obtain ⟨v, _, ⟨T1, L1, k1, n1⟩, -, X1, ⟨Lc, hQ, l1, y1, z1⟩, st⟩ := X.virtualBackUp hx (x := y) (y := z) hown (mvT hZ w1) (mvT hZ w2) (mvT hZ w7) hy (mvT hZ w3) (mvT hZ w5) (backOf (W := W) hM hZ w4 w6 hf hl) qa qc hg hsize (Steps.refl _) hlen hstack hW hd (fun _ _ => ⟨rfl, eT, hc, hs⟩)
  dsimp only [Pt.U, Pt.locs, Pt.cells, Pt.slots] at X1 l1 y1 z1 st hQ
  subst l1 y1 z1
  exact ⟨v, T1, Lc, X1, hQ, fun _ k => st.trans k⟩
theorem own_callN (X : Stand p l e R s m args below meth c T locs cells slots) (hx : p.tables.exec = Jvm.exec) (hZ : Z.Warmed39 s.vm) {own : String} {index : Nat} {y : MethodName} {bytes : ByteArray} {maxL : Nat} {rm : Room} {b : Addr} {argsL rest : List Value} {Q' : Option Value → Heap → List Loc → Prop}
    (hM : own_Met l Z y bytes maxL none [] rm (.ref b :: argsL).toArray h Q') (hi : y.name = "<init>") (hown : s.vm.findClass own = some m.cls) (w1 : (Jvm.Cond.methodLink own index y).before a0 Z = true) (w2 : (Jvm.Cond.instanceMethod y).before a0 Z = true)
    (w3 : (Jvm.Cond.initialized y.cls).before a0 Z = true) (w4 : (Jvm.Cond.code y bytes maxL none).before a0 Z = true)
    (hy : y.cls ≠ "java/lang/invoke/MethodHandle" ∧ y.cls ≠ "java/lang/invoke/VarHandle") (eT : T.heap = h) {g : JFrame} (hg : g.method = m) (hsize : g.locals.size = c.maxLocals) (hlen : ∀ sig, parseMethodDescriptor y.desc = some sig → argsL.length = sig.parameters.length) (hstack : g.stack = argsL.reverse ++ .ref b :: rest) {W : Nat} (hW : 2 * g.monitorRoom + (rest.map fun v => v.category).sum ≤ W)
    (hd : decode c.code g.pc = .ok (.invokespecial index, 3)) (hf : rm.frames + 1 ≤ R.frames) (hl : W + (maxL + 11) + rm.locals ≤ R.locals) (hc : cells + rm.cells ≤ R.cells) (hs : slots + rm.slots ≤ R.slots) :
    ∃ v T' L, Stand p l e R s m args below meth c T' (locs ++ L) (cells + rm.cells) (slots + rm.slots) ∧ Q' v T'.heap L ∧ ∀ target, Steps p.tables e below (T'.setTop { g with pc := g.pc + 3, stack := v.toList ++ rest }) target → Steps p.tables e below (T.setTop g) target := by
  obtain ⟨v, _, ⟨T1, L1, k1, n1⟩, -, X1, ⟨Lc, hQ, l1, y1, z1⟩, st⟩ := X.specialBack hx (y := y) hi hown (mvT hZ w1) (mvT hZ w2) (mvT hZ w4) hy (backOf (W := W) hM hZ w4 w3 hf hl) hg hsize (Steps.refl _) hlen hstack hW hd (fun _ _ => ⟨rfl, eT, hc, hs⟩)
  dsimp only [Pt.U, Pt.locs, Pt.cells, Pt.slots] at X1 l1 y1 z1 st hQ
  subst l1 y1 z1
  exact ⟨v, T1, Lc, X1, hQ, fun _ k => st.trans k⟩
/-- a reference laid into an array that the walk has made -/
theorem own_put (X : Stand p l e R s m args below meth c T locs cells slots) (hx : p.tables.exec = Jvm.exec) (hZ : Z.Warmed39 s.vm) (eT : T.heap = h) {a : Addr} {k : ClassId} {C : String} {z : Int32} {vs : List Value} {dv : Value} (V : Arv Z h a k (.object C) z vs dv) (O : Ovr Z k C) {y : Addr} (I : Ins Z h y C true) {j : Int32} (hj : ¬ j < 0 ∧ j < z) (i : Nat) (hi : j.toNatClampNeg = i) (hl : i < vs.length)
    {g : JFrame} (hg : g.method = m) {rest : List Value} (hs : g.stack = .ref y :: .int j :: .ref a :: rest) (hd : decode c.code g.pc = .ok (.aastore, 1)) :
    ∃ T' h', Stand p l e R s m args below meth c T' (locs ++ [⟨a, j.toNatClampNeg⟩]) cells slots ∧ T'.heap = h' ∧ Wr h h' a j.toNatClampNeg (.ref y) ∧ Arv Z h' a k (.object C) z (vs.set i (.ref y)) dv ∧ ∀ target, Steps p.tables e below (T'.setTop { g with pc := g.pc + 1, stack := rest }) target → Steps p.tables e below (T.setTop g) target := by
  obtain ⟨cl, A, q1, S, q3, H, G⟩ := V
  obtain ⟨T', h', X', e', W, st⟩ := stR X hx hZ eT A (j := j) (inb_of S hj) rfl (Sto.ofV A q1 O I) hg hs hd
  exact ⟨T', h', X', e', W, Arv.set A q1 S q3 H G rfl W i hi hl, st⟩
theorem own_get (X : Stand p l e R s m args below meth c T locs cells slots) (hx : p.tables.exec = Jvm.exec) (hZ : Z.Warmed39 s.vm) (eT : T.heap = h) {a : Addr} {k : ClassId} {ty : FieldType} {z : Int32} {vs : List Value} {dv : Value} (V : Arv Z h a k ty z vs dv) (hty : ty.isReference = true) {j : Int32} (hj : ¬ j < 0 ∧ j < z) {v : Value} (hv : vs.getD j.toNatClampNeg dv = v)
    {g : JFrame} (hg : g.method = m) {rest : List Value} (hs : g.stack = .int j :: .ref a :: rest) (hd : decode c.code g.pc = .ok (.aaload, 1)) :
    ∀ target, Steps p.tables e below (T.setTop { g with pc := g.pc + 1, stack := v :: rest }) target → Steps p.tables e below (T.setTop g) target := by
  obtain ⟨cl, A, q1, S, q3, H, G⟩ := V
  intro target k
  exact X.aaload hx (by rw [eT]; exact A.1) (State.isArrayOf_alike hZ.alike A.2.1) hty A.2.2 (inb_of S hj) (H.at (inb_of S hj) hv) hg hs hd target k
/-- an array of references of a written length, made -/
theorem own_arr (X : Stand p l e R s m args below meth c T locs cells slots) (hx : p.tables.exec = Jvm.exec) (hZ : Z.Warmed39 s.vm) {own C : String} {index : Nat} (hown : s.vm.findClass own = some m.cls) (w1 : (Jvm.Cond.classLink own index C).before a0 Z = true) (w2 : (Jvm.Cond.arrayOver (.object C)).before a0 Z = true) (eT : T.heap = h)
    {g : JFrame} (hg : g.method = m) (hd : decode c.code g.pc = .ok (.anewarray index, 3)) {n : Int32} {rest : List Value} (hs : g.stack = .int n :: rest) (hn : ¬ n < 0) {cap : Nat} (hcap : n.toNatClampNeg ≤ cap) (hb : cap * 8 ≤ 536870912) (hc : cells + 1 ≤ R.cells) (hl : slots + cap ≤ R.slots) {ad : String} (had : "[" ++ (FieldType.object C).toString = ad) :
    ∃ T' h' k a, Stand p l e R s m args below meth c T' locs (cells + 1) (slots + cap) ∧ T'.heap = h' ∧ a = h.size ∧ Ext h h' ∧ Arv Z h' a k (.object C) n (List.replicate cap .null) .null ∧ Exa Z h' a ad ∧ Ovr Z k C ∧
      ∀ target, Steps p.tables e below (T'.setTop { g with pc := g.pc + 3, stack := .ref a :: rest }) target → Steps p.tables e below (T.setTop g) target := by
  obtain ⟨T', h', k, X', e', E, A, Ex, O, st⟩ := newRE X hx hZ hown w1 w2 eT hg hd hs hn hcap hb hc hl had
  exact ⟨T', h', k, _, X', e', rfl, E, (Arv.new A hn).pad (pad_rep [] .null cap), Ex, O, st⟩
theorem own_len (X : Stand p l e R s m args below meth c T locs cells slots) (hx : p.tables.exec = Jvm.exec) (hZ : Z.Warmed39 s.vm) (eT : T.heap = h) {a : Addr} {k : ClassId} {ty : FieldType} {z : Int32} {vs : List Value} {dv : Value} (V : Arv Z h a k ty z vs dv)
    {g : JFrame} (hg : g.method = m) {rest : List Value} (hs : g.stack = .ref a :: rest) (hd : decode c.code g.pc = .ok (.arraylength, 1)) :
    ∀ target, Steps p.tables e below (T.setTop { g with pc := g.pc + 1, stack := .int z :: rest }) target → Steps p.tables e below (T.setTop g) target := by
  obtain ⟨cl, A, q1, S, q3, H, G⟩ := V
  intro target k
  refine X.arraylength hx (by rw [eT]; exact A.1) (State.isArrayOf_alike hZ.alike A.2.1) hg hs hd _ ?_
  rw [len_of S q3]
  exact k
theorem own_osz {n0 : Nat} (O : Old Z n0 h) : n0 ≤ h.size := by have := O.2.1; rw [O.1] at this; exact this
theorem own_fldI {t : Term} {C n d : String} {k : Int32} {a : Addr} (ev : t.eval args Z none [] Z = some (.ref a)) (hh : (Jvm.Cond.eq (Term.field t C n d) (Term.int k)).value args Z none Z [] = some true) : Fld Z Z.heap a C n d (.int k) := by
  refine Fld.start ?_
  rw [← fld_at (t := t) (args := args) (first := Z) (o := none) (idx := []) ev]
  cases hq : (Term.field t C n d).eval args Z none [] Z with
  | none => simp [Cond.value, hq] at hh
  | some v =>
    simp only [Cond.value, hq, Term.int_eval] at hh
    cases v <;> simp at hh ⊢ <;> exact hh
theorem own_fldJ {t : Term} {C n d : String} {k : Int64} {a : Addr} (ev : t.eval args Z none [] Z = some (.ref a)) (hh : (Jvm.Cond.eq (Term.field t C n d) (Term.long k)).value args Z none Z [] = some true) : Fld Z Z.heap a C n d (.long k) := by
  refine Fld.start ?_
  rw [← fld_at (t := t) (args := args) (first := Z) (o := none) (idx := []) ev]
  cases hq : (Term.field t C n d).eval args Z none [] Z with
  | none => simp [Cond.value, hq] at hh
  | some v =>
    have hk : (Term.long k).eval args Z none [] Z = some (.long k) := rfl
    simp only [Cond.value, hq, hk] at hh
    cases v <;> simp at hh ⊢ <;> exact hh
theorem own_fldN {t : Term} {C n d : String} {a : Addr} (ev : t.eval args Z none [] Z = some (.ref a)) (hh : (Jvm.Cond.eq (Term.field t C n d) Term.null).value args Z none Z [] = some true) : Fld Z Z.heap a C n d .null := by
  refine Fld.start ?_
  rw [← fld_at (t := t) (args := args) (first := Z) (o := none) (idx := []) ev]
  exact null_v hh
theorem own_fldR {t u : Term} {C n d : String} {a b : Addr} (ev : t.eval args Z none [] Z = some (.ref a)) (eu : u.eval args Z none [] Z = some (.ref b)) (hh : (Jvm.Cond.eq (Term.field t C n d) u).value args Z none Z [] = some true) : Fld Z Z.heap a C n d (.ref b) := by
  refine Fld.start ?_
  rw [← fld_at (t := t) (args := args) (first := Z) (o := none) (idx := []) ev]
  cases hq : (Term.field t C n d).eval args Z none [] Z with
  | none => simp [Cond.value, hq] at hh
  | some v => cases v <;> simp [Cond.value, hq, eu] at hh ⊢ <;> exact hh
theorem own_fldX {t : Term} {C n d K : String} {a : Addr} (ev : t.eval args Z none [] Z = some (.ref a)) (hh : (Jvm.Cond.exactly (Term.field t C n d) K).value args Z none Z [] = some true) : ∃ b, Fld Z Z.heap a C n d (.ref b) ∧ Exa Z Z.heap b K := by
  obtain ⟨b, hb⟩ := exa_v hh
  refine ⟨b, Fld.start ?_, Exa.start hb hh⟩
  rw [← fld_at (t := t) (args := args) (first := Z) (o := none) (idx := []) ev]
  exact hb
theorem own_ne {h : Heap} {a b : Addr} {C n d : String} {i j : Int32} (F : Fld Z h a C n d (.int i)) (G : Fld Z h b C n d (.int j)) (q : i ≠ j) : a ≠ b := F.ne G fun r => q (Value.int.inj r)
end OwnKit
section OwnKit2
variable {p : Program} {l : Launch} {e : Env} {R : Room} {s : State} {m : MethodId} {args : Array Value} {below : List Frame} {meth : Method} {c : Code} {T : State} {locs : List Loc} {cells slots : Nat} {Z : State} {a0 : Array Value} {h : Heap}
/-- a table of references as the start holds it -/
def own_Vals (Z : State) (a : Addr) (C : String) (z : Int32) (vs : List Value) : Prop := ∃ cl : Cell, Arr Z Z.heap a cl (.object C) ∧ FitC Z cl ∧ cl.slots.size = z.toNatClampNeg ∧ ¬ z < 0 ∧ Has cl vs .null ∧ ∀ i, i < cl.slots.size → fits (.object C) (vs.getD i .null) = true
theorem own_vals {a : Addr} {C : String} {z : Int32} {vs : List Value} {cl : Cell} (hf : Fit Z) (A : Arr Z Z.heap a cl (.object C)) (q : cl.slots.size < 2 ^ 31 ∧ cl.slots.size.toInt32 = z) (hz : ¬ z < 0) (hl : z.toNatClampNeg = vs.length) (H : HasL cl 0 vs) : own_Vals Z a C z vs := by
  obtain ⟨c2, A2, q1, S, q3, H2, G⟩ := Arv.start (dv := .null) hf A q.1 q.2 hz hl H
  cases A.1.symm.trans A2.1
  exact ⟨cl, A, FitC.start hf A, S, q3, H2, G⟩
theorem own_lenV {t : Term} {k : Int32} {a : Addr} {cl : Cell} {ty : FieldType} (ev : t.eval args Z none [] Z = some (.ref a)) (A : Arr Z Z.heap a cl ty) (hh : (Jvm.Cond.eq (Term.length t) (Term.int k)).value args Z none Z [] = some true) : cl.slots.size < 2 ^ 31 ∧ cl.slots.size.toInt32 = k := by
  have ha := A.fin (Vm.Alike.refl _)
  by_cases q : cl.slots.size < 2 ^ 31
  · refine ⟨q, ?_⟩
    have e1 := len_f ev ha q
    simp only [Cond.value, e1, Term.int_eval] at hh
    simpa using hh
  · have e1 : (Term.length t).eval args Z none [] Z = none := by simp [Term.eval, ev, ha, q]
    simp [Cond.value, e1] at hh
theorem own_elemR {t u : Term} {j : Int32} {i : Nat} {a b : Addr} {cl : Cell} {ty : FieldType} (ev : t.eval args Z none [] Z = some (.ref a)) (eu : u.eval args Z none [] Z = some (.ref b)) (A : Arr Z Z.heap a cl ty) (hi : j.toNatClampNeg = i) (hh : (Jvm.Cond.eq (Term.elem t (Term.int j)) u).value args Z none Z [] = some true) : cl.slots[i]? = some (.ref b) := by
  subst hi
  cases hq : (Term.elem t (Term.int j)).eval args Z none [] Z with
  | none => simp [Cond.value, hq] at hh
  | some v =>
    have q := (elem_in hq ev (Term.int_eval j) A.1).2
    rw [q]
    cases v <;> simp [Cond.value, hq, eu] at hh ⊢ <;> exact hh
theorem own_elemI {t : Term} {j k : Int32} {i : Nat} {a : Addr} {cl : Cell} {ty : FieldType} (ev : t.eval args Z none [] Z = some (.ref a)) (A : Arr Z Z.heap a cl ty) (hi : j.toNatClampNeg = i) (hh : (Jvm.Cond.eq (Term.elem t (Term.int j)) (Term.int k)).value args Z none Z [] = some true) : cl.slots[i]? = some (.int k) := by
  subst hi
  cases hq : (Term.elem t (Term.int j)).eval args Z none [] Z with
  | none => simp [Cond.value, hq] at hh
  | some v =>
    have q := (elem_in hq ev (Term.int_eval j) A.1).2
    rw [q]
    simp only [Cond.value, hq, Term.int_eval] at hh
    cases v <;> simp at hh ⊢ <;> exact hh
theorem own_clone (X : Stand p l e R s m args below meth c T locs cells slots) (hx : p.tables.exec = Jvm.exec) (hZ : Z.Warmed39 s.vm) {own ad C : String} {index : Nat} (hown : s.vm.findClass own = some m.cls)
    (w1 : (Jvm.Cond.methodLink own index ⟨ad, "clone", "()Ljava/lang/Object;"⟩).before a0 Z = true) (w2 : (Jvm.Cond.sameMethod ad "java/lang/Object" "clone" "()Ljava/lang/Object;").before a0 Z = true) (w3 : (Jvm.Cond.native ⟨"java/lang/Object", "clone", "()Ljava/lang/Object;"⟩).before a0 Z = true)
    (w4 : (Jvm.Cond.instanceMethod ⟨"java/lang/Object", "clone", "()Ljava/lang/Object;"⟩).before a0 Z = true) (w5 : (Jvm.Cond.selects ad ⟨ad, "clone", "()Ljava/lang/Object;"⟩ ⟨"java/lang/Object", "clone", "()Ljava/lang/Object;"⟩).before a0 Z = true) (w6 : (Jvm.Cond.castable ad "java/lang/Cloneable").before a0 Z = true)
    (eT : T.heap = h) {n0 : Nat} (O : Old Z n0 h) {a : Addr} {z : Int32} {vs : List Value} (Vs : own_Vals Z a C z vs) (Ex : Exa Z Z.heap a ad) {g : JFrame} (hg : g.method = m) (hsize : g.locals.size = c.maxLocals) {rest : List Value} (hs : g.stack = .ref a :: rest) (hd : decode c.code g.pc = .ok (.invokevirtual index, 3))
    (hf : 1 ≤ R.frames) {W cap : Nat} (hW : 2 * g.monitorRoom + (rest.map fun v => v.category).sum ≤ W) (hl : W + 14 ≤ R.locals) (hcap : z.toNatClampNeg ≤ cap) (hc : cells + 1 ≤ R.cells) (hsl : slots + cap ≤ R.slots) :
    ∃ T' h' k b, Stand p l e R s m args below meth c T' locs (cells + 1) (slots + cap) ∧ T'.heap = h' ∧ b = h.size ∧ Ext h h' ∧ Arv Z h' b k (.object C) z vs .null ∧ Exa Z h' b ad ∧
      ∀ target, Steps p.tables e below (T'.setTop { g with pc := g.pc + 3, stack := .ref b :: rest }) target → Steps p.tables e below (T.setTop g) target := by
  obtain ⟨cl, A, F, S, q3, H, G⟩ := Vs
  obtain ⟨T', h', X', e', E, A', Ex', st⟩ := cloneA X hx hZ hown w1 w2 w3 w4 w5 w6 eT (A.ext O.2) (Ex.ext O.2) F hg hsize hs hd hf hW hl (by rw [S]; exact hcap) hc hsl
  exact ⟨T', h', cl.cls, _, X', e', rfl, E, ⟨_, A', rfl, S, q3, H, G⟩, Ex', st⟩
end OwnKit2
section OwnKit4
variable {p : Program} {l : Launch} {e : Env} {R : Room} {s : State} {m : MethodId} {args : Array Value} {below : List Frame} {meth : Method} {c : Code} {T : State} {locs : List Loc} {cells slots : Nat} {Z : State} {a0 : Array Value} {h : Heap}
theorem own_callI (X : Stand p l e R s m args below meth c T locs cells slots) (hx : p.tables.exec = Jvm.exec) (hZ : Z.Warmed39 s.vm) {own C : String} {index count : Nat} {y z : MethodName} {bytes : ByteArray} {maxL : Nat} {ret : Option FieldType} {rm : Room} {b : Addr} {argsL rest : List Value} {Q' : Option Value → Heap → List Loc → Prop}
    (hM : own_Met l Z z bytes maxL ret [] rm (.ref b :: argsL).toArray h Q') (hown : s.vm.findClass own = some m.cls) (w1 : (Jvm.Cond.methodLink own index y).before a0 Z = true) (w2 : (Jvm.Cond.declares y).before a0 Z = true) (w7 : (Jvm.Cond.interfaceMethod y.cls y.cls y.name y.desc).before a0 Z = true) (h7 : ((Jvm.Cond.interfaceMethod y.cls y.cls y.name y.desc).onTables && (Jvm.Cond.interfaceMethod y.cls y.cls y.name y.desc).keepsFace) = true) (w3 : (Jvm.Cond.selects C y z).before a0 Z = true) (w5 : (Jvm.Cond.instanceMethod z).before a0 Z = true)
    (w8 : (Jvm.Cond.publicMethod z).before a0 Z = true) (w9 : (Jvm.Cond.unhidden C y.name y.desc).before a0 Z = true) (w10 : (Jvm.Cond.castable C y.cls).before a0 Z = true) (w6 : (Jvm.Cond.initialized z.cls).before a0 Z = true) (w4 : (Jvm.Cond.code z bytes maxL ret).before a0 Z = true)
    (hy : y.cls ≠ "java/lang/invoke/MethodHandle" ∧ y.cls ≠ "java/lang/invoke/VarHandle") (eT : T.heap = h) (E : Exa Z h b C) {g : JFrame} (hg : g.method = m) (hsize : g.locals.size = c.maxLocals) (hlen : ∀ sig, parseMethodDescriptor y.desc = some sig → argsL.length = sig.parameters.length) (hstack : g.stack = argsL.reverse ++ .ref b :: rest) {W : Nat} (hW : 2 * g.monitorRoom + (rest.map fun v => v.category).sum ≤ W)
    (hd : decode c.code g.pc = .ok (.invokeinterface index count, 5)) (hf : rm.frames + 1 ≤ R.frames) (hl : W + (maxL + 11) + rm.locals ≤ R.locals) (hc : cells + rm.cells ≤ R.cells) (hs : slots + rm.slots ≤ R.slots) :
    ∃ v T' L, Stand p l e R s m args below meth c T' (locs ++ L) (cells + rm.cells) (slots + rm.slots) ∧ Q' v T'.heap L ∧ ∀ target, Steps p.tables e below (T'.setTop { g with pc := g.pc + 5, stack := v.toList ++ rest }) target → Steps p.tables e below (T.setTop g) target := by
  obtain ⟨cq, kq, qa, qb, qc⟩ := isOf hZ eT E
  obtain ⟨v, _, ⟨T1, L1, k1, n1⟩, -, X1, ⟨Lc, hQ, l1, y1, z1⟩, st⟩ := X.interfaceBack hx (xi := y) (y := z) hown (mvT hZ w1) (mvT hZ w2) (mvT hZ w7 h7) (mvT hZ w3) (mvT hZ w5) (mvT hZ w8) (mvT hZ w9) (mvT hZ w10) hy (backOf (W := W) hM hZ w4 w6 hf hl) qa qb qc hg hsize (Steps.refl _) hlen hstack hW hd (fun _ _ => ⟨rfl, eT, hc, hs⟩)
  dsimp only [Pt.U, Pt.locs, Pt.cells, Pt.slots] at X1 l1 y1 z1 st hQ
  subst l1 y1 z1
  exact ⟨v, T1, Lc, X1, hQ, fun _ k => st.trans k⟩
/-- the table of small Longs -/
def own_Cache (Z : State) (c : Addr) : Prop := ∃ cl : Cell, Arr Z Z.heap c cl (.object "java/lang/Long") ∧ cl.slots.size = 256 ∧ ∀ i : Nat, i < 256 → ∃ b, cl.slots[i]? = some (.ref b) ∧ Exa Z Z.heap b "java/lang/Long" ∧ Fld Z Z.heap b "java/lang/Long" "value" "J" (.long ((i.toInt32 - 128).toInt64))
theorem own_cacheS {C n d : String} {c : Addr} {cl : Cell} (ev : (Term.static C n d).eval args Z none [] Z = some (.ref c)) (A : Arr Z Z.heap c cl (.object "java/lang/Long")) (q : cl.slots.size < 2 ^ 31 ∧ cl.slots.size.toInt32 = 256)
    (hh : (Jvm.Cond.all (Term.static C n d) (Jvm.Cond.and (Jvm.Cond.exactly (Term.elem (Term.static C n d) (Term.index 0)) "java/lang/Long") (Jvm.Cond.eq (Term.field (Term.elem (Term.static C n d) (Term.index 0)) "java/lang/Long" "value" "J") (Term.op1 Unary.i2l (Term.sub (Term.index 0) (Term.int 128)))))).value args Z none Z [] = some true) : own_Cache Z c := by
  have hs : cl.slots.size = 256 := by
    have h1 := len_toInt q.1
    rw [q.2] at h1
    have h2 : (256 : Int32).toInt = 256 := by decide
    omega
  refine ⟨cl, A, hs, fun i hi => ?_⟩
  obtain ⟨h1, h2⟩ := and_e (Cond.all_elim ev (A.fin (Vm.Alike.refl _)) hh i (by omega))
  obtain ⟨b, hb⟩ := exa_v h1
  have ev' : (Term.static C n d).eval args Z none [i] Z = some (.ref c) := ev
  have hx := (elem_in hb ev' (Term.index_eval i) A.1).2
  have e1 : (i.toInt32).toNatClampNeg = i := by
    simp only [Int32.toNatClampNeg, len_toInt (show i < 2 ^ 31 by omega)]; rfl
  rw [e1] at hx
  refine ⟨b, hx, exa_at hb h1, Fld.start ?_⟩
  have e2 : (Term.op1 Unary.i2l (Term.sub (Term.index 0) (Term.int 128))).eval args Z none [i] Z = some (.long ((i.toInt32 - 128).toInt64)) := rfl
  rw [← fld_at (t := Term.elem (Term.static C n d) (Term.index 0)) (args := args) (first := Z) (o := none) (idx := [i]) hb]
  cases hq : (Term.field (Term.elem (Term.static C n d) (Term.index 0)) "java/lang/Long" "value" "J").eval args Z none [i] Z with
  | none => simp [Cond.value, hq] at h2
  | some v =>
    simp only [Cond.value, hq, e2] at h2
    cases v <;> simp at h2 ⊢ <;> exact h2
theorem own_cache {c : Addr} {j : Int64} (K : own_Cache Z c) (h1 : ¬ j < -128) (h2 : ¬ 127 < j) : ∃ cl b, Arr Z Z.heap c cl (.object "java/lang/Long") ∧ ¬ ((j.toInt32 + 128) < 0 ∨ cl.slots.size ≤ (j.toInt32 + 128).toNatClampNeg) ∧ cl.slots[(j.toInt32 + 128).toNatClampNeg]? = some (.ref b) ∧ Exa Z Z.heap b "java/lang/Long" ∧ Fld Z Z.heap b "java/lang/Long" "value" "J" (.long j) := by
  obtain ⟨cl, A, hs, H⟩ := K
  rw [Int64.lt_iff_toInt_lt] at h1 h2
  have z1 : (-128 : Int64).toInt = -128 := by decide
  have z2 : (127 : Int64).toInt = 127 := by decide
  have z3 : (128 : Int32).toInt = 128 := by decide
  have f1 : j.toInt32.toInt = j.toInt := by rw [Int64.toInt_toInt32]; exact Int.bmod_eq_of_le (by omega) (by omega)
  have f2 : (j.toInt32 + 128).toInt = j.toInt + 128 := by rw [Int32.toInt_add, f1, z3]; exact Int.bmod_eq_of_le (by omega) (by omega)
  have n1 : ¬ (j.toInt32 + 128) < 0 := by rw [Int32.lt_iff_toInt_lt, f2]; have : (0 : Int32).toInt = 0 := rfl; omega
  have k1 : (j.toInt32 + 128).toNatClampNeg < 256 := by simp only [Int32.toNatClampNeg, f2]; omega
  obtain ⟨b, hb, E, F⟩ := H _ k1
  have e1 := (back32 n1).1
  rw [e1, Int32.add_sub_cancel] at F
  have e2 : j.toInt32.toInt64 = j := by rw [← Int64.toInt_inj, Int32.toInt_toInt64, f1]
  rw [e2] at F
  exact ⟨cl, b, A, fun q => q.elim n1 (fun r => by omega), hb, E, F⟩
theorem own_getR (X : Stand p l e R s m args below meth c T locs cells slots) (hx : p.tables.exec = Jvm.exec) (hZ : Z.Warmed39 s.vm) (eT : T.heap = h) {a : Addr} {cl : Cell} {ty : FieldType} (A : Arr Z h a cl ty) (hty : ty.isReference = true) {j : Int32} (hj : ¬ (j < 0 ∨ cl.slots.size ≤ j.toNatClampNeg)) {v : Value} (hv : cl.slots[j.toNatClampNeg]? = some v)
    {g : JFrame} (hg : g.method = m) {rest : List Value} (hs : g.stack = .int j :: .ref a :: rest) (hd : decode c.code g.pc = .ok (.aaload, 1)) :
    ∀ target, Steps p.tables e below (T.setTop { g with pc := g.pc + 1, stack := v :: rest }) target → Steps p.tables e below (T.setTop g) target := by
  intro target k
  exact X.aaload hx (by rw [eT]; exact A.1) (State.isArrayOf_alike hZ.alike A.2.1) hty A.2.2 hj hv hg hs hd target k
def own_min (x y : Int64) : Int64 := if y < x then y else x
def own_max (x y : Int64) : Int64 := if x < y then y else x
theorem own_min_self (x : Int64) : own_min x x = x := by simp [own_min]
theorem own_min_lt {x y : Int64} (q : x < y) : own_min x y = x := by
  have : ¬ y < x := by rw [Int64.lt_iff_toInt_lt] at q ⊢; omega
  simp [own_min, this]
theorem own_min_ge {x y : Int64} (q : ¬ x < y) : own_min x y = y := by
  unfold own_min
  split
  · rfl
  · rename_i q2
    rw [Int64.lt_iff_toInt_lt] at q q2
    exact Int64.toInt_inj.mp (by omega)
theorem own_max0 {y : Int64} (q : ¬ y < 0) : own_max 0 y = y := by
  unfold own_max
  split
  · rfl
  · rename_i q2
    rw [Int64.lt_iff_toInt_lt] at q q2
    exact Int64.toInt_inj.mp (by omega)
theorem own_landnn (x : Int64) : ¬ (x &&& 9223372036854775807) < 0 := by
  have h1 := c_maskL x 9223372036854775807 63 (by decide) (by decide)
  rw [Int64.lt_iff_toInt_lt, h1]
  have : (0 : Int64).toInt = 0 := rfl
  omega
/-- an empty array of references, copied -/
theorem own_clone0 (X : Stand p l e R s m args below meth c T locs cells slots) (hx : p.tables.exec = Jvm.exec) (hZ : Z.Warmed39 s.vm) {own ad C : String} {index : Nat} (hown : s.vm.findClass own = some m.cls)
    (w1 : (Jvm.Cond.methodLink own index ⟨ad, "clone", "()Ljava/lang/Object;"⟩).before a0 Z = true) (w2 : (Jvm.Cond.sameMethod ad "java/lang/Object" "clone" "()Ljava/lang/Object;").before a0 Z = true) (w3 : (Jvm.Cond.native ⟨"java/lang/Object", "clone", "()Ljava/lang/Object;"⟩).before a0 Z = true)
    (w4 : (Jvm.Cond.instanceMethod ⟨"java/lang/Object", "clone", "()Ljava/lang/Object;"⟩).before a0 Z = true) (w5 : (Jvm.Cond.selects ad ⟨ad, "clone", "()Ljava/lang/Object;"⟩ ⟨"java/lang/Object", "clone", "()Ljava/lang/Object;"⟩).before a0 Z = true) (w6 : (Jvm.Cond.castable ad "java/lang/Cloneable").before a0 Z = true)
    (eT : T.heap = h) {a : Addr} {k : ClassId} {vs : List Value} {dv : Value} (V : Arv Z h a k (.object C) 0 vs dv) (Ex : Exa Z h a ad) {g : JFrame} (hg : g.method = m) (hsize : g.locals.size = c.maxLocals) {rest : List Value} (hs : g.stack = .ref a :: rest) (hd : decode c.code g.pc = .ok (.invokevirtual index, 3))
    (hf : 1 ≤ R.frames) {W : Nat} (hW : 2 * g.monitorRoom + (rest.map fun v => v.category).sum ≤ W) (hl : W + 14 ≤ R.locals) (hc : cells + 1 ≤ R.cells) (hsl : slots + 0 ≤ R.slots) :
    ∃ T' h' b, Stand p l e R s m args below meth c T' locs (cells + 1) (slots + 0) ∧ T'.heap = h' ∧ b = h.size ∧ Ext h h' ∧ Exa Z h' b ad ∧
      ∀ target, Steps p.tables e below (T'.setTop { g with pc := g.pc + 3, stack := .ref b :: rest }) target → Steps p.tables e below (T.setTop g) target := by
  obtain ⟨cl, A, q1, S, q3, H, G⟩ := V
  have e0 : cl.slots.size = 0 := by rw [S]; rfl
  obtain ⟨T', h', X', e', E, A', Ex', st⟩ := cloneA X hx hZ hown w1 w2 w3 w4 w5 w6 eT A Ex (fun i v hv => by have := (Array.getElem?_eq_some_iff.mp hv).1; omega) hg hsize hs hd hf hW hl (cap := 0) (by omega) hc hsl
  exact ⟨T', h', _, X', e', rfl, E, Ex', st⟩
end OwnKit4
def own_S (Z : State) (c_EMPTY_ELEMENTDATA : Addr) (c_DEFAULTCAPACITY_EMPTY_ELEMENTDATA : Addr) (c_cache : Addr) (c_EMPTY : Addr) : Prop := (Sta Z Z.heap "java/util/ArrayList" "EMPTY_ELEMENTDATA" "[Ljava/lang/Object;" (.ref c_EMPTY_ELEMENTDATA)) ∧
  (Exa Z Z.heap c_EMPTY_ELEMENTDATA "[Ljava/lang/Object;") ∧
  (Sta Z Z.heap "java/util/ArrayList" "DEFAULTCAPACITY_EMPTY_ELEMENTDATA" "[Ljava/lang/Object;" (.ref c_DEFAULTCAPACITY_EMPTY_ELEMENTDATA)) ∧
  (Exa Z Z.heap c_DEFAULTCAPACITY_EMPTY_ELEMENTDATA "[Ljava/lang/Object;") ∧
  (Sta Z Z.heap "java/lang/Long$LongCache" "cache" "[Ljava/lang/Long;" (.ref c_cache)) ∧
  (Exa Z Z.heap c_cache "[Ljava/lang/Long;") ∧
  (Sta Z Z.heap "java/util/Optional" "EMPTY" "Ljava/util/Optional;" (.ref c_EMPTY)) ∧
  (Exa Z Z.heap c_EMPTY "java/util/Optional") ∧
  (Fld Z Z.heap c_EMPTY "java/util/Optional" "value" "Ljava/lang/Object;" .null) ∧
  (own_Cache Z c_cache)
theorem d5_0 : decode jdk_22_method_1_code 0 = .ok (.aload_n 0, 1) := by decide +kernel
theorem d5_1 : decode jdk_22_method_1_code 1 = .ok (.invokespecial 1, 3) := by decide +kernel
theorem d5_4 : decode jdk_22_method_1_code 4 = .ok (.return_, 1) := by decide +kernel
theorem own_pn_5 : plainFor (⟨"java/util/AbstractCollection", "<init>", "()V"⟩ : MethodName) = true := plainFor_of_name (show plainName "java/util/AbstractCollection" = true by first | (simp [plainName, overriddenIn]; done) | decide +kernel)
theorem own_ef_rm_acol (m : MethodId) (a1 : Addr) : entryFrame m #[(.ref a1)] 1 = mkF m 0 #[.val (.ref a1)] [] := by first | (simp [entryFrame, mkF, argsToLocals, Value.category]; done) | rfl
set_option maxRecDepth 65536 in
set_option maxHeartbeats 40000000 in
theorem rm_acol (l : Launch) (Z : State) (a0 : Array Value) (hw : ∀ d ∈ tables_1, d.before a0 Z = true) (a1 : Addr) (h0 : Heap) (n0 : Nat) (O0 : Old Z n0 h0)  :
    own_Met l Z (⟨"java/util/AbstractCollection", "<init>", "()V"⟩ : MethodName) jdk_22_method_1_code 1 none [] ({ frames := 1, cells := 0, slots := 0, locals := 12 } : Room) #[(.ref a1)] h0 (fun v h L => v = none ∧ Fr n0 L ∧ h = h0) := by
  refine own_body own_pn_5 ?_
  intro p e s m below meth c s₁ hx hby hml hown hnm hret hlk X0 hZ e0
  replace hown : s.vm.findClass "java/util/AbstractCollection" = some m.cls := hown
  have N0 := Fr.nil n0
  have K0 := Keep.refl h0 []
  refine own_st (fun _ k => castTop (own_ef_rm_acol m a1) k) ?_
  show own_go _ _ _ _ _ _ _ (s₁.setTop (mkF m 0 #[.val (.ref a1)] []))
  refine own_st (fun _ k => XS.aloadN X0.here hx rfl (hb hby d5_0) rfl rfl k) ?_
  show own_go _ _ _ _ _ _ _ (s₁.setTop (mkF m 1 #[.val (.ref a1)] [(.ref a1)]))
  obtain ⟨T2, X2, e2, st2⟩ := initO X0 hx hZ hown (hw _ (List.mem_of_getElem? (i := 28) rfl)) (hw _ (List.mem_of_getElem? (i := 8) rfl)) (hw _ (List.mem_of_getElem? (i := 9) rfl)) e0 (g := (mkF m 1 #[.val (.ref a1)] [(.ref a1)])) rfl (by rw [hml]; rfl) rfl (hb hby d5_1) (by decide) (W := 0) (by show 2 * 0 + _ ≤ _; exact Nat.le_of_eq rfl) (by decide)
  refine own_st st2 ?_
  show own_go _ _ _ _ _ _ _ (T2.setTop (mkF m 4 #[.val (.ref a1)] []))
  exact own_ret0 X2 hx hlk hret (hb hby d5_4) (by decide) (by decide) (⟨rfl, N0, e2⟩)
theorem d23_0 : decode jdk_18_method_1_code 0 = .ok (.aload_n 0, 1) := by decide +kernel
theorem d23_1 : decode jdk_18_method_1_code 1 = .ok (.invokespecial 1, 3) := by decide +kernel
theorem d23_4 : decode jdk_18_method_1_code 4 = .ok (.return_, 1) := by decide +kernel
theorem own_pn_23 : plainFor (⟨"java/lang/Number", "<init>", "()V"⟩ : MethodName) = true := plainFor_of_name (show plainName "java/lang/Number" = true by first | (simp [plainName, overriddenIn]; done) | decide +kernel)
theorem own_ef_rm_num (m : MethodId) (a1 : Addr) : entryFrame m #[(.ref a1)] 1 = mkF m 0 #[.val (.ref a1)] [] := by first | (simp [entryFrame, mkF, argsToLocals, Value.category]; done) | rfl
set_option maxRecDepth 65536 in
set_option maxHeartbeats 40000000 in
theorem rm_num (l : Launch) (Z : State) (a0 : Array Value) (hw : ∀ d ∈ tables_1, d.before a0 Z = true) (a1 : Addr) (h0 : Heap) (n0 : Nat) (O0 : Old Z n0 h0)  :
    own_Met l Z (⟨"java/lang/Number", "<init>", "()V"⟩ : MethodName) jdk_18_method_1_code 1 none [] ({ frames := 1, cells := 0, slots := 0, locals := 12 } : Room) #[(.ref a1)] h0 (fun v h L => v = none ∧ Fr n0 L ∧ h = h0) := by
  refine own_body own_pn_23 ?_
  intro p e s m below meth c s₁ hx hby hml hown hnm hret hlk X0 hZ e0
  replace hown : s.vm.findClass "java/lang/Number" = some m.cls := hown
  have N0 := Fr.nil n0
  have K0 := Keep.refl h0 []
  refine own_st (fun _ k => castTop (own_ef_rm_num m a1) k) ?_
  show own_go _ _ _ _ _ _ _ (s₁.setTop (mkF m 0 #[.val (.ref a1)] []))
  refine own_st (fun _ k => XS.aloadN X0.here hx rfl (hb hby d23_0) rfl rfl k) ?_
  show own_go _ _ _ _ _ _ _ (s₁.setTop (mkF m 1 #[.val (.ref a1)] [(.ref a1)]))
  obtain ⟨T4, X4, e4, st4⟩ := initO X0 hx hZ hown (hw _ (List.mem_of_getElem? (i := 193) rfl)) (hw _ (List.mem_of_getElem? (i := 8) rfl)) (hw _ (List.mem_of_getElem? (i := 9) rfl)) e0 (g := (mkF m 1 #[.val (.ref a1)] [(.ref a1)])) rfl (by rw [hml]; rfl) rfl (hb hby d23_1) (by decide) (W := 0) (by show 2 * 0 + _ ≤ _; exact Nat.le_of_eq rfl) (by decide)
  refine own_st st4 ?_
  show own_go _ _ _ _ _ _ _ (T4.setTop (mkF m 4 #[.val (.ref a1)] []))
  exact own_ret0 X4 hx hlk hret (hb hby d23_4) (by decide) (by decide) (⟨rfl, N0, e4⟩)
theorem d12_0 : decode jdk_30_method_1_code 0 = .ok (.aload_n 0, 1) := by decide +kernel
theorem d12_1 : decode jdk_30_method_1_code 1 = .ok (.invokespecial 1, 3) := by decide +kernel
theorem d12_4 : decode jdk_30_method_1_code 4 = .ok (.return_, 1) := by decide +kernel
theorem own_pn_12 : plainFor (⟨"java/lang/Record", "<init>", "()V"⟩ : MethodName) = true := plainFor_of_name (show plainName "java/lang/Record" = true by first | (simp [plainName, overriddenIn]; done) | decide +kernel)
theorem own_ef_rm_rec (m : MethodId) (a1 : Addr) : entryFrame m #[(.ref a1)] 1 = mkF m 0 #[.val (.ref a1)] [] := by first | (simp [entryFrame, mkF, argsToLocals, Value.category]; done) | rfl
set_option maxRecDepth 65536 in
set_option maxHeartbeats 40000000 in
theorem rm_rec (l : Launch) (Z : State) (a0 : Array Value) (hw : ∀ d ∈ tables_1, d.before a0 Z = true) (a1 : Addr) (h0 : Heap) (n0 : Nat) (O0 : Old Z n0 h0)  :
    own_Met l Z (⟨"java/lang/Record", "<init>", "()V"⟩ : MethodName) jdk_30_method_1_code 1 none [] ({ frames := 1, cells := 0, slots := 0, locals := 12 } : Room) #[(.ref a1)] h0 (fun v h L => v = none ∧ Fr n0 L ∧ h = h0) := by
  refine own_body own_pn_12 ?_
  intro p e s m below meth c s₁ hx hby hml hown hnm hret hlk X0 hZ e0
  replace hown : s.vm.findClass "java/lang/Record" = some m.cls := hown
  have N0 := Fr.nil n0
  have K0 := Keep.refl h0 []
  refine own_st (fun _ k => castTop (own_ef_rm_rec m a1) k) ?_
  show own_go _ _ _ _ _ _ _ (s₁.setTop (mkF m 0 #[.val (.ref a1)] []))
  refine own_st (fun _ k => XS.aloadN X0.here hx rfl (hb hby d12_0) rfl rfl k) ?_
  show own_go _ _ _ _ _ _ _ (s₁.setTop (mkF m 1 #[.val (.ref a1)] [(.ref a1)]))
  obtain ⟨T6, X6, e6, st6⟩ := initO X0 hx hZ hown (hw _ (List.mem_of_getElem? (i := 98) rfl)) (hw _ (List.mem_of_getElem? (i := 8) rfl)) (hw _ (List.mem_of_getElem? (i := 9) rfl)) e0 (g := (mkF m 1 #[.val (.ref a1)] [(.ref a1)])) rfl (by rw [hml]; rfl) rfl (hb hby d12_1) (by decide) (W := 0) (by show 2 * 0 + _ ≤ _; exact Nat.le_of_eq rfl) (by decide)
  refine own_st st6 ?_
  show own_go _ _ _ _ _ _ _ (T6.setTop (mkF m 4 #[.val (.ref a1)] []))
  exact own_ret0 X6 hx hlk hret (hb hby d12_4) (by decide) (by decide) (⟨rfl, N0, e6⟩)
theorem d4_0 : decode jdk_39_method_1_code 0 = .ok (.aload_n 0, 1) := by decide +kernel
theorem d4_1 : decode jdk_39_method_1_code 1 = .ok (.invokespecial 1, 3) := by decide +kernel
theorem d4_4 : decode jdk_39_method_1_code 4 = .ok (.aload_n 0, 1) := by decide +kernel
theorem d4_5 : decode jdk_39_method_1_code 5 = .ok (.iconst 0, 1) := by decide +kernel
theorem d4_6 : decode jdk_39_method_1_code 6 = .ok (.putfield 7, 3) := by decide +kernel
theorem d4_9 : decode jdk_39_method_1_code 9 = .ok (.return_, 1) := by decide +kernel
theorem own_pn_4 : plainFor (⟨"java/util/AbstractList", "<init>", "()V"⟩ : MethodName) = true := plainFor_of_name (show plainName "java/util/AbstractList" = true by first | (simp [plainName, overriddenIn]; done) | decide +kernel)
theorem own_pd__28_29V : parseMethodDescriptor "()V" = some ⟨[], none⟩ := by decide +kernel
theorem own_ef_rm_alist (m : MethodId) (a1 : Addr) : entryFrame m #[(.ref a1)] 1 = mkF m 0 #[.val (.ref a1)] [] := by first | (simp [entryFrame, mkF, argsToLocals, Value.category]; done) | rfl
set_option maxRecDepth 65536 in
set_option maxHeartbeats 40000000 in
theorem rm_alist (l : Launch) (Z : State) (a0 : Array Value) (hw : ∀ d ∈ tables_1, d.before a0 Z = true) (a1 : Addr) (h0 : Heap) (n0 : Nat) (O0 : Old Z n0 h0) (ge_a1 : n0 ≤ a1) (E_a1 : Exa Z h0 a1 "java/util/ArrayList") (F_a1_modCount : Fld Z h0 a1 "java/util/AbstractList" "modCount" "I" (.int (0 : Int32))) (F_a1_elementData : Fld Z h0 a1 "java/util/ArrayList" "elementData" "[Ljava/lang/Object;" .null) (F_a1_size : Fld Z h0 a1 "java/util/ArrayList" "size" "I" (.int (0 : Int32))) :
    own_Met l Z (⟨"java/util/AbstractList", "<init>", "()V"⟩ : MethodName) jdk_39_method_1_code 1 none [] ({ frames := 2, cells := 0, slots := 0, locals := 24 } : Room) #[(.ref a1)] h0 (fun v h L => v = none ∧ Fr n0 L ∧ Keep h0 h [a1] ∧ Fld Z h a1 "java/util/AbstractList" "modCount" "I" (.int (0 : Int32)) ∧ Fld Z h a1 "java/util/ArrayList" "elementData" "[Ljava/lang/Object;" .null ∧ Fld Z h a1 "java/util/ArrayList" "size" "I" (.int (0 : Int32))) := by
  refine own_body own_pn_4 ?_
  intro p e s m below meth c s₁ hx hby hml hown hnm hret hlk X0 hZ e0
  replace hown : s.vm.findClass "java/util/AbstractList" = some m.cls := hown
  have N0 := Fr.nil n0
  have K0 := Keep.refl h0 [a1]
  refine own_st (fun _ k => castTop (own_ef_rm_alist m a1) k) ?_
  show own_go _ _ _ _ _ _ _ (s₁.setTop (mkF m 0 #[.val (.ref a1)] []))
  refine own_st (fun _ k => XS.aloadN X0.here hx rfl (hb hby d4_0) rfl rfl k) ?_
  show own_go _ _ _ _ _ _ _ (s₁.setTop (mkF m 1 #[.val (.ref a1)] [(.ref a1)]))
  obtain ⟨v7, T7, L7, X7, hQ7, st7⟩ := own_callN X0 hx hZ (argsL := []) (rest := []) (rm_acol l Z a0 hw a1 h0 n0 O0) rfl hown (hw _ (List.mem_of_getElem? (i := 22) rfl)) (hw _ (List.mem_of_getElem? (i := 23) rfl)) (hw _ (List.mem_of_getElem? (i := 26) rfl)) (hw _ (List.mem_of_getElem? (i := 27) rfl)) (by decide) e0 (g := (mkF m 1 #[.val (.ref a1)] [(.ref a1)])) rfl (by rw [hml]; rfl) (lenOf own_pd__28_29V rfl) rfl (W := 0) (by show 2 * 0 + _ ≤ _; exact Nat.le_of_eq rfl) (hb hby d4_1) (by decide) (by decide) (by decide) (by decide)
  obtain ⟨rfl, Nq7, eq7⟩ := hQ7
  have N7 := Fr.app N0 Nq7
  refine own_st st7 ?_
  show own_go _ _ _ _ _ _ _ (T7.setTop (mkF m 4 #[.val (.ref a1)] []))
  refine own_st (fun _ k => XS.aloadN X7.here hx rfl (hb hby d4_4) rfl rfl k) ?_
  show own_go _ _ _ _ _ _ _ (T7.setTop (mkF m 5 #[.val (.ref a1)] [(.ref a1)]))
  refine own_st (fun _ k => XS.iconst X7.here hx rfl (hb hby d4_5) k) ?_
  show own_go _ _ _ _ _ _ _ (T7.setTop (mkF m 6 #[.val (.ref a1)] [(.int (0 : Int32)), (.ref a1)]))
  obtain ⟨T8, h8, X8, e8, W8, st8⟩ := putF X7 hx hZ hown (host := "") (Or.inl (hw _ (List.mem_of_getElem? (i := 29) rfl))) Via.refl eq7 F_a1_modCount E_a1 (Or.inl (hw _ (List.mem_of_getElem? (i := 30) rfl))) (hw _ (List.mem_of_getElem? (i := 11) rfl)) (ty := .int) (by decide) rfl rfl (g := (mkF m 6 #[.val (.ref a1)] [(.int (0 : Int32)), (.ref a1)])) rfl rfl (hb hby d4_6)
  have N8 := Fr.snoc X8 N7 ge_a1
  have O9 := O0.wr W8 ge_a1
  have K9 := K0.wr W8 (Or.inl (List.mem_of_getElem? (i := 0) rfl))
  have F8 := F_a1_modCount.same W8
  refine own_st st8 ?_
  show own_go _ _ _ _ _ _ _ (T8.setTop (mkF m 9 #[.val (.ref a1)] []))
  have f10 := (F_a1_elementData.other W8 (Or.inr (slot_ne (Or.inl (hw _ (List.mem_of_getElem? (i := 33) rfl))) (Or.inl (hw _ (List.mem_of_getElem? (i := 30) rfl))) (by decide) (t := (.array (.object "java/lang/Object"))) (t' := .int) (by decide) (by decide))))
  have f11 := (F_a1_size.other W8 (Or.inr (slot_ne (Or.inl (hw _ (List.mem_of_getElem? (i := 120) rfl))) (Or.inl (hw _ (List.mem_of_getElem? (i := 30) rfl))) (by decide) (t := .int) (t' := .int) (by decide) (by decide))))
  exact own_ret0 X8 hx hlk hret (hb hby d4_9) (by decide) (by decide) (by rw [e8]; exact ⟨rfl, N8, K9, F8, f10, f11⟩)
theorem d3_0 : decode jdk_38_method_2_code 0 = .ok (.aload_n 0, 1) := by decide +kernel
theorem d3_1 : decode jdk_38_method_2_code 1 = .ok (.invokespecial 1, 3) := by decide +kernel
theorem d3_4 : decode jdk_38_method_2_code 4 = .ok (.aload_n 0, 1) := by decide +kernel
theorem d3_5 : decode jdk_38_method_2_code 5 = .ok (.getstatic 39, 3) := by decide +kernel
theorem d3_8 : decode jdk_38_method_2_code 8 = .ok (.putfield 9, 3) := by decide +kernel
theorem d3_11 : decode jdk_38_method_2_code 11 = .ok (.return_, 1) := by decide +kernel
theorem own_pn_3 : plainFor (⟨"java/util/ArrayList", "<init>", "()V"⟩ : MethodName) = true := plainFor_of_name (show plainName "java/util/ArrayList" = true by first | (simp [plainName, overriddenIn]; done) | decide +kernel)
theorem own_ef_rm_al (m : MethodId) (a1 : Addr) : entryFrame m #[(.ref a1)] 1 = mkF m 0 #[.val (.ref a1)] [] := by first | (simp [entryFrame, mkF, argsToLocals, Value.category]; done) | rfl
set_option maxRecDepth 65536 in
set_option maxHeartbeats 40000000 in
theorem rm_al (l : Launch) (Z : State) (a0 : Array Value) (hw : ∀ d ∈ tables_1, d.before a0 Z = true) (a1 : Addr) (c_EMPTY_ELEMENTDATA : Addr) (c_DEFAULTCAPACITY_EMPTY_ELEMENTDATA : Addr) (c_cache : Addr) (c_EMPTY : Addr) (h0 : Heap) (n0 : Nat) (O0 : Old Z n0 h0) (hS : own_S Z c_EMPTY_ELEMENTDATA c_DEFAULTCAPACITY_EMPTY_ELEMENTDATA c_cache c_EMPTY) (ge_a1 : n0 ≤ a1) (E_a1 : Exa Z h0 a1 "java/util/ArrayList") (F_a1_modCount : Fld Z h0 a1 "java/util/AbstractList" "modCount" "I" (.int (0 : Int32))) (F_a1_elementData : Fld Z h0 a1 "java/util/ArrayList" "elementData" "[Ljava/lang/Object;" .null) (F_a1_size : Fld Z h0 a1 "java/util/ArrayList" "size" "I" (.int (0 : Int32))) :
    own_Met l Z (⟨"java/util/ArrayList", "<init>", "()V"⟩ : MethodName) jdk_38_method_2_code 1 none [] ({ frames := 3, cells := 0, slots := 0, locals := 36 } : Room) #[(.ref a1)] h0 (fun v h L => v = none ∧ Fr n0 L ∧ Keep h0 h [a1] ∧ Fld Z h a1 "java/util/AbstractList" "modCount" "I" (.int (0 : Int32)) ∧ Fld Z h a1 "java/util/ArrayList" "elementData" "[Ljava/lang/Object;" (.ref c_DEFAULTCAPACITY_EMPTY_ELEMENTDATA) ∧ Fld Z h a1 "java/util/ArrayList" "size" "I" (.int (0 : Int32))) := by
  refine own_body own_pn_3 ?_
  intro p e s m below meth c s₁ hx hby hml hown hnm hret hlk X0 hZ e0
  replace hown : s.vm.findClass "java/util/ArrayList" = some m.cls := hown
  have N0 := Fr.nil n0
  have K0 := Keep.refl h0 [a1]
  refine own_st (fun _ k => castTop (own_ef_rm_al m a1) k) ?_
  show own_go _ _ _ _ _ _ _ (s₁.setTop (mkF m 0 #[.val (.ref a1)] []))
  refine own_st (fun _ k => XS.aloadN X0.here hx rfl (hb hby d3_0) rfl rfl k) ?_
  show own_go _ _ _ _ _ _ _ (s₁.setTop (mkF m 1 #[.val (.ref a1)] [(.ref a1)]))
  obtain ⟨v12, T12, L12, X12, hQ12, st12⟩ := own_callN X0 hx hZ (argsL := []) (rest := []) (rm_alist l Z a0 hw a1 h0 n0 O0 ge_a1 E_a1 F_a1_modCount F_a1_elementData F_a1_size) rfl hown (hw _ (List.mem_of_getElem? (i := 16) rfl)) (hw _ (List.mem_of_getElem? (i := 17) rfl)) (hw _ (List.mem_of_getElem? (i := 20) rfl)) (hw _ (List.mem_of_getElem? (i := 21) rfl)) (by decide) e0 (g := (mkF m 1 #[.val (.ref a1)] [(.ref a1)])) rfl (by rw [hml]; rfl) (lenOf own_pd__28_29V rfl) rfl (W := 0) (by show 2 * 0 + _ ≤ _; exact Nat.le_of_eq rfl) (hb hby d3_1) (by decide) (by decide) (by decide) (by decide)
  obtain ⟨rfl, Nq12, Kq12, F12_0, F12_1, F12_2⟩ := hQ12
  have N12 := Fr.app N0 Nq12
  have O12 := O0.keep Kq12 (allS ge_a1 all0)
  have K12 := K0.trans Kq12 (allS (Or.inl (List.mem_of_getElem? (i := 0) rfl)) all0)
  refine own_st st12 ?_
  show own_go _ _ _ _ _ _ _ (T12.setTop (mkF m 4 #[.val (.ref a1)] []))
  refine own_st (fun _ k => XS.aloadN X12.here hx rfl (hb hby d3_4) rfl rfl k) ?_
  show own_go _ _ _ _ _ _ _ (T12.setTop (mkF m 5 #[.val (.ref a1)] [(.ref a1)]))
  obtain ⟨T13, X13, e13, st13⟩ := getS2 X12 hx hZ hown (host := "") (Or.inl (hw _ (List.mem_of_getElem? (i := 31) rfl))) Via.refl rfl (hS.2.2.1.ext O12.2) (g := (mkF m 5 #[.val (.ref a1)] [(.ref a1)])) rfl (hb hby d3_5)
  refine own_st st13 ?_
  show own_go _ _ _ _ _ _ _ (T13.setTop (mkF m 8 #[.val (.ref a1)] [(.ref c_DEFAULTCAPACITY_EMPTY_ELEMENTDATA), (.ref a1)]))
  have f15 := (E_a1.keep Kq12)
  obtain ⟨T14, h14, X14, e14, W14, st14⟩ := putF X13 hx hZ hown (host := "") (Or.inl (hw _ (List.mem_of_getElem? (i := 32) rfl))) Via.refl e13 F12_1 f15 (Or.inl (hw _ (List.mem_of_getElem? (i := 33) rfl))) (hw _ (List.mem_of_getElem? (i := 11) rfl)) (ty := (.array (.object "java/lang/Object"))) (by decide) rfl rfl (g := (mkF m 8 #[.val (.ref a1)] [(.ref c_DEFAULTCAPACITY_EMPTY_ELEMENTDATA), (.ref a1)])) rfl rfl (hb hby d3_8)
  have N14 := Fr.snoc X14 N12 ge_a1
  have O16 := O12.wr W14 ge_a1
  have K16 := K12.wr W14 (Or.inl (List.mem_of_getElem? (i := 0) rfl))
  have F14 := F12_1.same W14
  refine own_st st14 ?_
  show own_go _ _ _ _ _ _ _ (T14.setTop (mkF m 11 #[.val (.ref a1)] []))
  have f17 := (F12_0.other W14 (Or.inr (slot_ne (Or.inl (hw _ (List.mem_of_getElem? (i := 30) rfl))) (Or.inl (hw _ (List.mem_of_getElem? (i := 33) rfl))) (by decide) (t := .int) (t' := (.array (.object "java/lang/Object"))) (by decide) (by decide))))
  have f18 := (F12_2.other W14 (Or.inr (slot_ne (Or.inl (hw _ (List.mem_of_getElem? (i := 120) rfl))) (Or.inl (hw _ (List.mem_of_getElem? (i := 33) rfl))) (by decide) (t := .int) (t' := (.array (.object "java/lang/Object"))) (by decide) (by decide))))
  exact own_ret0 X14 hx hlk hret (hb hby d3_11) (by decide) (by decide) (by rw [e14]; exact ⟨rfl, N14, K16, f17, F14, f18⟩)
theorem d22_0 : decode jdk_35_method_26_code 0 = .ok (.aload_n 0, 1) := by decide +kernel
theorem d22_1 : decode jdk_35_method_26_code 1 = .ok (.invokespecial 270, 3) := by decide +kernel
theorem d22_4 : decode jdk_35_method_26_code 4 = .ok (.aload_n 0, 1) := by decide +kernel
theorem d22_5 : decode jdk_35_method_26_code 5 = .ok (.lload_n 1, 1) := by decide +kernel
theorem d22_6 : decode jdk_35_method_26_code 6 = .ok (.putfield 273, 3) := by decide +kernel
theorem d22_9 : decode jdk_35_method_26_code 9 = .ok (.return_, 1) := by decide +kernel
theorem own_pn_22 : plainFor (⟨"java/lang/Long", "<init>", "(J)V"⟩ : MethodName) = true := plainFor_of_name (show plainName "java/lang/Long" = true by first | (simp [plainName, overriddenIn]; done) | decide +kernel)
theorem own_ef_rm_linit (m : MethodId) (a1 : Addr) (q1 : Int64) : entryFrame m #[(.ref a1), (.long q1)] 3 = mkF m 0 #[.val (.ref a1), .val (.long q1), .second] [] := by first | (simp [entryFrame, mkF, argsToLocals, Value.category]; done) | rfl
set_option maxRecDepth 65536 in
set_option maxHeartbeats 40000000 in
theorem rm_linit (l : Launch) (Z : State) (a0 : Array Value) (hw : ∀ d ∈ tables_1, d.before a0 Z = true) (a1 : Addr) (q1 : Int64) (h0 : Heap) (n0 : Nat) (O0 : Old Z n0 h0) (ge_a1 : n0 ≤ a1) (E_a1 : Exa Z h0 a1 "java/lang/Long") (F_a1_value : Fld Z h0 a1 "java/lang/Long" "value" "J" (.long (0 : Int64))) :
    own_Met l Z (⟨"java/lang/Long", "<init>", "(J)V"⟩ : MethodName) jdk_35_method_26_code 3 none [] ({ frames := 2, cells := 0, slots := 0, locals := 24 } : Room) #[(.ref a1), (.long q1)] h0 (fun v h L => v = none ∧ Fr n0 L ∧ Keep h0 h [a1] ∧ Fld Z h a1 "java/lang/Long" "value" "J" (.long q1)) := by
  refine own_body own_pn_22 ?_
  intro p e s m below meth c s₁ hx hby hml hown hnm hret hlk X0 hZ e0
  replace hown : s.vm.findClass "java/lang/Long" = some m.cls := hown
  have N0 := Fr.nil n0
  have K0 := Keep.refl h0 [a1]
  refine own_st (fun _ k => castTop (own_ef_rm_linit m a1 q1) k) ?_
  show own_go _ _ _ _ _ _ _ (s₁.setTop (mkF m 0 #[.val (.ref a1), .val (.long q1), .second] []))
  refine own_st (fun _ k => XS.aloadN X0.here hx rfl (hb hby d22_0) rfl rfl k) ?_
  show own_go _ _ _ _ _ _ _ (s₁.setTop (mkF m 1 #[.val (.ref a1), .val (.long q1), .second] [(.ref a1)]))
  obtain ⟨v19, T19, L19, X19, hQ19, st19⟩ := own_callN X0 hx hZ (argsL := []) (rest := []) (rm_num l Z a0 hw a1 h0 n0 O0) rfl hown (hw _ (List.mem_of_getElem? (i := 187) rfl)) (hw _ (List.mem_of_getElem? (i := 188) rfl)) (hw _ (List.mem_of_getElem? (i := 191) rfl)) (hw _ (List.mem_of_getElem? (i := 192) rfl)) (by decide) e0 (g := (mkF m 1 #[.val (.ref a1), .val (.long q1), .second] [(.ref a1)])) rfl (by rw [hml]; rfl) (lenOf own_pd__28_29V rfl) rfl (W := 0) (by show 2 * 0 + _ ≤ _; exact Nat.le_of_eq rfl) (hb hby d22_1) (by decide) (by decide) (by decide) (by decide)
  obtain ⟨rfl, Nq19, eq19⟩ := hQ19
  have N19 := Fr.app N0 Nq19
  refine own_st st19 ?_
  show own_go _ _ _ _ _ _ _ (T19.setTop (mkF m 4 #[.val (.ref a1), .val (.long q1), .second] []))
  refine own_st (fun _ k => XS.aloadN X19.here hx rfl (hb hby d22_4) rfl rfl k) ?_
  show own_go _ _ _ _ _ _ _ (T19.setTop (mkF m 5 #[.val (.ref a1), .val (.long q1), .second] [(.ref a1)]))
  refine own_st (fun _ k => XS.lloadN X19.here hx rfl (hb hby d22_5) rfl k) ?_
  show own_go _ _ _ _ _ _ _ (T19.setTop (mkF m 6 #[.val (.ref a1), .val (.long q1), .second] [(.long q1), (.ref a1)]))
  obtain ⟨T20, h20, X20, e20, W20, st20⟩ := putF X19 hx hZ hown (host := "") (Or.inl (hw _ (List.mem_of_getElem? (i := 62) rfl))) Via.refl eq19 F_a1_value E_a1 (Or.inr ⟨(hw _ (List.mem_of_getElem? (i := 63) rfl)), rfl, hnm⟩) (hw _ (List.mem_of_getElem? (i := 182) rfl)) (ty := .long) (by decide) rfl rfl (g := (mkF m 6 #[.val (.ref a1), .val (.long q1), .second] [(.long q1), (.ref a1)])) rfl rfl (hb hby d22_6)
  have N20 := Fr.snoc X20 N19 ge_a1
  have O21 := O0.wr W20 ge_a1
  have K21 := K0.wr W20 (Or.inl (List.mem_of_getElem? (i := 0) rfl))
  have F20 := F_a1_value.same W20
  refine own_st st20 ?_
  show own_go _ _ _ _ _ _ _ (T20.setTop (mkF m 9 #[.val (.ref a1), .val (.long q1), .second] []))
  exact own_ret0 X20 hx hlk hret (hb hby d22_9) (by decide) (by decide) (by rw [e20]; exact ⟨rfl, N20, K21, F20⟩)
theorem d6_0 : decode jdk_35_method_24_code 0 = .ok (.sipush 128, 3) := by decide +kernel
theorem d6_3 : decode jdk_35_method_24_code 3 = .ok (.istore_n 2, 1) := by decide +kernel
theorem d6_4 : decode jdk_35_method_24_code 4 = .ok (.lload_n 0, 1) := by decide +kernel
theorem d6_5 : decode jdk_35_method_24_code 5 = .ok (.ldc2_w 230, 3) := by decide +kernel
theorem d6_8 : decode jdk_35_method_24_code 8 = .ok (.lcmp, 1) := by decide +kernel
theorem d6_9 : decode jdk_35_method_24_code 9 = .ok (.ifCond .lt 22, 3) := by decide +kernel
theorem d6_12 : decode jdk_35_method_24_code 12 = .ok (.lload_n 0, 1) := by decide +kernel
theorem d6_13 : decode jdk_35_method_24_code 13 = .ok (.ldc2_w 232, 3) := by decide +kernel
theorem d6_16 : decode jdk_35_method_24_code 16 = .ok (.lcmp, 1) := by decide +kernel
theorem d6_17 : decode jdk_35_method_24_code 17 = .ok (.ifCond .gt 14, 3) := by decide +kernel
theorem d6_20 : decode jdk_35_method_24_code 20 = .ok (.getstatic 234, 3) := by decide +kernel
theorem d6_23 : decode jdk_35_method_24_code 23 = .ok (.lload_n 0, 1) := by decide +kernel
theorem d6_24 : decode jdk_35_method_24_code 24 = .ok (.l2i, 1) := by decide +kernel
theorem d6_25 : decode jdk_35_method_24_code 25 = .ok (.sipush 128, 3) := by decide +kernel
theorem d6_28 : decode jdk_35_method_24_code 28 = .ok (.iadd, 1) := by decide +kernel
theorem d6_29 : decode jdk_35_method_24_code 29 = .ok (.aaload, 1) := by decide +kernel
theorem d6_30 : decode jdk_35_method_24_code 30 = .ok (.areturn, 1) := by decide +kernel
theorem d6_31 : decode jdk_35_method_24_code 31 = .ok (.new 1, 3) := by decide +kernel
theorem d6_34 : decode jdk_35_method_24_code 34 = .ok (.dup, 1) := by decide +kernel
theorem d6_35 : decode jdk_35_method_24_code 35 = .ok (.lload_n 0, 1) := by decide +kernel
theorem d6_36 : decode jdk_35_method_24_code 36 = .ok (.invokespecial 240, 3) := by decide +kernel
theorem d6_39 : decode jdk_35_method_24_code 39 = .ok (.areturn, 1) := by decide +kernel
theorem own_pn_6 : plainFor (⟨"java/lang/Long", "valueOf", "(J)Ljava/lang/Long;"⟩ : MethodName) = true := plainFor_of_name (show plainName "java/lang/Long" = true by first | (simp [plainName, overriddenIn]; done) | decide +kernel)
theorem own_pd__28J_29V : parseMethodDescriptor "(J)V" = some ⟨[.long], none⟩ := by decide +kernel
theorem own_ef_rm_lvo (m : MethodId) (q1 : Int64) : entryFrame m #[(.long q1)] 3 = mkF m 0 #[.val (.long q1), .second, .unset] [] := by first | (simp [entryFrame, mkF, argsToLocals, Value.category]; done) | rfl
set_option maxRecDepth 65536 in
set_option maxHeartbeats 40000000 in
theorem rm_lvo (l : Launch) (Z : State) (a0 : Array Value) (hw : ∀ d ∈ tables_1, d.before a0 Z = true) (q1 : Int64) (c_EMPTY_ELEMENTDATA : Addr) (c_DEFAULTCAPACITY_EMPTY_ELEMENTDATA : Addr) (c_cache : Addr) (c_EMPTY : Addr) (h0 : Heap) (n0 : Nat) (O0 : Old Z n0 h0) (hS : own_S Z c_EMPTY_ELEMENTDATA c_DEFAULTCAPACITY_EMPTY_ELEMENTDATA c_cache c_EMPTY) :
    own_Met l Z (⟨"java/lang/Long", "valueOf", "(J)Ljava/lang/Long;"⟩ : MethodName) jdk_35_method_24_code 3 (some (.object "java/lang/Long")) [] ({ frames := 3, cells := 1, slots := 1, locals := 39 } : Room) #[(.long q1)] h0 (fun v h L => ∃ a, v = some (.ref a) ∧ Fr n0 L ∧ Keep h0 h [] ∧ Exa Z h a "java/lang/Long" ∧ Fld Z h a "java/lang/Long" "value" "J" (.long q1)) := by
  refine own_body own_pn_6 ?_
  intro p e s m below meth c s₁ hx hby hml hown hnm hret hlk X0 hZ e0
  replace hown : s.vm.findClass "java/lang/Long" = some m.cls := hown
  have N0 := Fr.nil n0
  have K0 := Keep.refl h0 []
  refine own_st (fun _ k => castTop (own_ef_rm_lvo m q1) k) ?_
  show own_go _ _ _ _ _ _ _ (s₁.setTop (mkF m 0 #[.val (.long q1), .second, .unset] []))
  refine own_st (fun _ k => XS.sipush X0.here hx rfl (hb hby d6_0) k) ?_
  show own_go _ _ _ _ _ _ _ (s₁.setTop (mkF m 3 #[.val (.long q1), .second, .unset] [(.int (128 : Int32))]))
  refine own_st (fun _ k => XS.istoreN X0.here hx rfl (hb hby d6_3) rfl (l' := #[.val (.long q1), .second, .val (.int (128 : Int32))]) rfl k) ?_
  show own_go _ _ _ _ _ _ _ (s₁.setTop (mkF m 4 #[.val (.long q1), .second, .val (.int (128 : Int32))] []))
  refine own_st (fun _ k => XS.lloadN X0.here hx rfl (hb hby d6_4) rfl k) ?_
  show own_go _ _ _ _ _ _ _ (s₁.setTop (mkF m 5 #[.val (.long q1), .second, .val (.int (128 : Int32))] [(.long q1)]))
  refine own_st (X0.ldc2Long hx hown (mvT hZ (hw _ (List.mem_of_getElem? (i := 48) rfl))) (g := (mkF m 5 #[.val (.long q1), .second, .val (.int (128 : Int32))] [(.long q1)])) rfl (hb hby d6_5)) ?_
  show own_go _ _ _ _ _ _ _ (s₁.setTop (mkF m 8 #[.val (.long q1), .second, .val (.int (128 : Int32))] [(.long (-128 : Int64)), (.long q1)]))
  refine own_st (fun _ k => XS.lcmp X0.here hx rfl (hb hby d6_8) rfl k) ?_
  show own_go _ _ _ _ _ _ _ (s₁.setTop (mkF m 9 #[.val (.long q1), .second, .val (.int (128 : Int32))] [(.int (lcmpW q1 (-128 : Int64)))]))
  by_cases hc22 : q1 < (-128 : Int64)
  · skip
    refine own_st (fun _ k => XS.ifYes X0.here hx rfl (pc0 := 9) (pc' := 31) rfl (hb hby d6_9) rfl (XT.ll_lt_t hc22) (by decide) (by decide) k) ?_
    show own_go _ _ _ _ _ _ _ (s₁.setTop (mkF m 31 #[.val (.long q1), .second, .val (.int (128 : Int32))] []))
    obtain ⟨T23, h23, X23, e23, E23, A23, D23, -, st23⟩ := newO X0 hx hZ hown (hw _ (List.mem_of_getElem? (i := 181) rfl)) (hw _ (List.mem_of_getElem? (i := 182) rfl)) (hw _ (List.mem_of_getElem? (i := 46) rfl)) e0 (g := (mkF m 31 #[.val (.long q1), .second, .val (.int (128 : Int32))] [])) rfl (hb hby d6_31) (by decide) (by decide)
    obtain ⟨b23, g23⟩ : ∃ z, z = h0.size := ⟨_, rfl⟩
    rw [← g23] at A23 D23 st23
    have ge_b23 : n0 ≤ b23 := by rw [g23]; exact own_osz O0
    have sz_b23 : h0.size ≤ b23 := by rw [g23]; exact K0.1
    have O23 := O0.ext E23
    have K23 := K0.ext E23
    refine own_st st23 ?_
    show own_go _ _ _ _ _ _ _ (T23.setTop (mkF m 34 #[.val (.long q1), .second, .val (.int (128 : Int32))] [(.ref b23)]))
    refine own_st (fun _ k => XS.dup X23.here hx rfl (hb hby d6_34) rfl rfl k) ?_
    show own_go _ _ _ _ _ _ _ (T23.setTop (mkF m 35 #[.val (.long q1), .second, .val (.int (128 : Int32))] [(.ref b23), (.ref b23)]))
    refine own_st (fun _ k => XS.lloadN X23.here hx rfl (hb hby d6_35) rfl k) ?_
    show own_go _ _ _ _ _ _ _ (T23.setTop (mkF m 36 #[.val (.long q1), .second, .val (.int (128 : Int32))] [(.long q1), (.ref b23), (.ref b23)]))
    obtain ⟨v24, T24, L24, X24, hQ24, st24⟩ := own_callN X23 hx hZ (argsL := [(.long q1)]) (rest := [(.ref b23)]) (rm_linit l Z a0 hw b23 q1 h23 n0 O23 ge_b23 A23 (D23 (Or.inr (hw _ (List.mem_of_getElem? (i := 63) rfl))) (ty := .long) (by decide))) rfl hown (hw _ (List.mem_of_getElem? (i := 183) rfl)) (hw _ (List.mem_of_getElem? (i := 184) rfl)) (hw _ (List.mem_of_getElem? (i := 46) rfl)) (hw _ (List.mem_of_getElem? (i := 186) rfl)) (by decide) e23 (g := (mkF m 36 #[.val (.long q1), .second, .val (.int (128 : Int32))] [(.long q1), (.ref b23), (.ref b23)])) rfl (by rw [hml]; rfl) (lenOf own_pd__28J_29V rfl) rfl (W := 1) (by show 2 * 0 + _ ≤ _; exact Nat.le_of_eq rfl) (hb hby d6_36) (by decide) (by decide) (by decide) (by decide)
    obtain ⟨rfl, Nq24, Kq24, F24_0⟩ := hQ24
    have N24 := Fr.app N0 Nq24
    have O24 := O23.keep Kq24 (allS ge_b23 all0)
    have K24 := K23.trans Kq24 (allS (Or.inr sz_b23) all0)
    refine own_st st24 ?_
    show own_go _ _ _ _ _ _ _ (T24.setTop (mkF m 39 #[.val (.long q1), .second, .val (.int (128 : Int32))] [(.ref b23)]))
    have f25 := (A23.keep Kq24)
    exact own_retA X24 hx hlk hret rfl rfl (hb hby d6_39) (by decide) (by decide) ⟨_, rfl, N24, K24, f25, F24_0⟩
  · skip
    refine own_st (fun _ k => XS.ifNo X0.here hx rfl (hb hby d6_9) rfl (XT.ll_lt_f hc22) k) ?_
    show own_go _ _ _ _ _ _ _ (s₁.setTop (mkF m 12 #[.val (.long q1), .second, .val (.int (128 : Int32))] []))
    refine own_st (fun _ k => XS.lloadN X0.here hx rfl (hb hby d6_12) rfl k) ?_
    show own_go _ _ _ _ _ _ _ (s₁.setTop (mkF m 13 #[.val (.long q1), .second, .val (.int (128 : Int32))] [(.long q1)]))
    refine own_st (X0.ldc2Long hx hown (mvT hZ (hw _ (List.mem_of_getElem? (i := 49) rfl))) (g := (mkF m 13 #[.val (.long q1), .second, .val (.int (128 : Int32))] [(.long q1)])) rfl (hb hby d6_13)) ?_
    show own_go _ _ _ _ _ _ _ (s₁.setTop (mkF m 16 #[.val (.long q1), .second, .val (.int (128 : Int32))] [(.long (127 : Int64)), (.long q1)]))
    refine own_st (fun _ k => XS.lcmp X0.here hx rfl (hb hby d6_16) rfl k) ?_
    show own_go _ _ _ _ _ _ _ (s₁.setTop (mkF m 17 #[.val (.long q1), .second, .val (.int (128 : Int32))] [(.int (lcmpW q1 (127 : Int64)))]))
    by_cases hc26 : (127 : Int64) < q1
    · skip
      refine own_st (fun _ k => XS.ifYes X0.here hx rfl (pc0 := 17) (pc' := 31) rfl (hb hby d6_17) rfl (XT.ll_gt_t hc26) (by decide) (by decide) k) ?_
      show own_go _ _ _ _ _ _ _ (s₁.setTop (mkF m 31 #[.val (.long q1), .second, .val (.int (128 : Int32))] []))
      obtain ⟨T27, h27, X27, e27, E27, A27, D27, -, st27⟩ := newO X0 hx hZ hown (hw _ (List.mem_of_getElem? (i := 181) rfl)) (hw _ (List.mem_of_getElem? (i := 182) rfl)) (hw _ (List.mem_of_getElem? (i := 46) rfl)) e0 (g := (mkF m 31 #[.val (.long q1), .second, .val (.int (128 : Int32))] [])) rfl (hb hby d6_31) (by decide) (by decide)
      obtain ⟨b27, g27⟩ : ∃ z, z = h0.size := ⟨_, rfl⟩
      rw [← g27] at A27 D27 st27
      have ge_b27 : n0 ≤ b27 := by rw [g27]; exact own_osz O0
      have sz_b27 : h0.size ≤ b27 := by rw [g27]; exact K0.1
      have O27 := O0.ext E27
      have K27 := K0.ext E27
      refine own_st st27 ?_
      show own_go _ _ _ _ _ _ _ (T27.setTop (mkF m 34 #[.val (.long q1), .second, .val (.int (128 : Int32))] [(.ref b27)]))
      refine own_st (fun _ k => XS.dup X27.here hx rfl (hb hby d6_34) rfl rfl k) ?_
      show own_go _ _ _ _ _ _ _ (T27.setTop (mkF m 35 #[.val (.long q1), .second, .val (.int (128 : Int32))] [(.ref b27), (.ref b27)]))
      refine own_st (fun _ k => XS.lloadN X27.here hx rfl (hb hby d6_35) rfl k) ?_
      show own_go _ _ _ _ _ _ _ (T27.setTop (mkF m 36 #[.val (.long q1), .second, .val (.int (128 : Int32))] [(.long q1), (.ref b27), (.ref b27)]))
      obtain ⟨v28, T28, L28, X28, hQ28, st28⟩ := own_callN X27 hx hZ (argsL := [(.long q1)]) (rest := [(.ref b27)]) (rm_linit l Z a0 hw b27 q1 h27 n0 O27 ge_b27 A27 (D27 (Or.inr (hw _ (List.mem_of_getElem? (i := 63) rfl))) (ty := .long) (by decide))) rfl hown (hw _ (List.mem_of_getElem? (i := 183) rfl)) (hw _ (List.mem_of_getElem? (i := 184) rfl)) (hw _ (List.mem_of_getElem? (i := 46) rfl)) (hw _ (List.mem_of_getElem? (i := 186) rfl)) (by decide) e27 (g := (mkF m 36 #[.val (.long q1), .second, .val (.int (128 : Int32))] [(.long q1), (.ref b27), (.ref b27)])) rfl (by rw [hml]; rfl) (lenOf own_pd__28J_29V rfl) rfl (W := 1) (by show 2 * 0 + _ ≤ _; exact Nat.le_of_eq rfl) (hb hby d6_36) (by decide) (by decide) (by decide) (by decide)
      obtain ⟨rfl, Nq28, Kq28, F28_0⟩ := hQ28
      have N28 := Fr.app N0 Nq28
      have O28 := O27.keep Kq28 (allS ge_b27 all0)
      have K28 := K27.trans Kq28 (allS (Or.inr sz_b27) all0)
      refine own_st st28 ?_
      show own_go _ _ _ _ _ _ _ (T28.setTop (mkF m 39 #[.val (.long q1), .second, .val (.int (128 : Int32))] [(.ref b27)]))
      have f29 := (A27.keep Kq28)
      exact own_retA X28 hx hlk hret rfl rfl (hb hby d6_39) (by decide) (by decide) ⟨_, rfl, N28, K28, f29, F28_0⟩
    · skip
      refine own_st (fun _ k => XS.ifNo X0.here hx rfl (hb hby d6_17) rfl (XT.ll_gt_f hc26) k) ?_
      show own_go _ _ _ _ _ _ _ (s₁.setTop (mkF m 20 #[.val (.long q1), .second, .val (.int (128 : Int32))] []))
      obtain ⟨T30, X30, e30, st30⟩ := getS2 X0 hx hZ hown (host := "") (Or.inl (hw _ (List.mem_of_getElem? (i := 50) rfl))) Via.refl e0 (hS.2.2.2.2.1.ext O0.2) (g := (mkF m 20 #[.val (.long q1), .second, .val (.int (128 : Int32))] [])) rfl (hb hby d6_20)
      refine own_st st30 ?_
      show own_go _ _ _ _ _ _ _ (T30.setTop (mkF m 23 #[.val (.long q1), .second, .val (.int (128 : Int32))] [(.ref c_cache)]))
      refine own_st (fun _ k => XS.lloadN X30.here hx rfl (hb hby d6_23) rfl k) ?_
      show own_go _ _ _ _ _ _ _ (T30.setTop (mkF m 24 #[.val (.long q1), .second, .val (.int (128 : Int32))] [(.long q1), (.ref c_cache)]))
      refine own_st (fun _ k => XS.l2i X30.here hx rfl (hb hby d6_24) rfl k) ?_
      show own_go _ _ _ _ _ _ _ (T30.setTop (mkF m 25 #[.val (.long q1), .second, .val (.int (128 : Int32))] [(.int (q1.toInt32)), (.ref c_cache)]))
      refine own_st (fun _ k => XS.sipush X30.here hx rfl (hb hby d6_25) k) ?_
      show own_go _ _ _ _ _ _ _ (T30.setTop (mkF m 28 #[.val (.long q1), .second, .val (.int (128 : Int32))] [(.int (128 : Int32)), (.int (q1.toInt32)), (.ref c_cache)]))
      refine own_st (fun _ k => XS.iadd X30.here hx rfl (hb hby d6_28) rfl k) ?_
      show own_go _ _ _ _ _ _ _ (T30.setTop (mkF m 29 #[.val (.long q1), .second, .val (.int (128 : Int32))] [(.int ((q1.toInt32) + (128 : Int32))), (.ref c_cache)]))
      obtain ⟨cl31, r31, A31, hin31, hat31, E31, F31⟩ := own_cache hS.2.2.2.2.2.2.2.2.2 hc22 hc26
      refine own_st (own_getR X30 hx hZ e30 (A31.ext O0.2) rfl hin31 hat31 (g := (mkF m 29 #[.val (.long q1), .second, .val (.int (128 : Int32))] [(.int ((q1.toInt32) + (128 : Int32))), (.ref c_cache)])) rfl rfl (hb hby d6_29)) ?_
      show own_go _ _ _ _ _ _ _ (T30.setTop (mkF m 30 #[.val (.long q1), .second, .val (.int (128 : Int32))] [(.ref r31)]))
      exact own_retA X30 hx hlk hret rfl rfl (hb hby d6_30) (by decide) (by decide) (by rw [e30]; exact ⟨_, rfl, N0, K0, (E31.ext O0.2), (F31.ext O0.2)⟩)
theorem d8_0 : decode jdk_35_method_31_code 0 = .ok (.aload_n 0, 1) := by decide +kernel
theorem d8_1 : decode jdk_35_method_31_code 1 = .ok (.getfield 273, 3) := by decide +kernel
theorem d8_4 : decode jdk_35_method_31_code 4 = .ok (.lreturn, 1) := by decide +kernel
theorem own_pn_8 : plainFor (⟨"java/lang/Long", "longValue", "()J"⟩ : MethodName) = true := plainFor_of_name (show plainName "java/lang/Long" = true by first | (simp [plainName, overriddenIn]; done) | decide +kernel)
theorem own_ef_rm_lv (m : MethodId) (a1 : Addr) : entryFrame m #[(.ref a1)] 1 = mkF m 0 #[.val (.ref a1)] [] := by first | (simp [entryFrame, mkF, argsToLocals, Value.category]; done) | rfl
set_option maxRecDepth 65536 in
set_option maxHeartbeats 40000000 in
theorem rm_lv (l : Launch) (Z : State) (a0 : Array Value) (hw : ∀ d ∈ tables_1, d.before a0 Z = true) (a1 : Addr) (q1 : Int64) (h0 : Heap) (n0 : Nat) (O0 : Old Z n0 h0) (F_a1_value : Fld Z h0 a1 "java/lang/Long" "value" "J" (.long q1)) :
    own_Met l Z (⟨"java/lang/Long", "longValue", "()J"⟩ : MethodName) jdk_35_method_31_code 1 (some .long) [] ({ frames := 0, cells := 0, slots := 0, locals := 0 } : Room) #[(.ref a1)] h0 (fun v h L => v = some (.long q1) ∧ Fr n0 L ∧ h = h0) := by
  refine own_body own_pn_8 ?_
  intro p e s m below meth c s₁ hx hby hml hown hnm hret hlk X0 hZ e0
  replace hown : s.vm.findClass "java/lang/Long" = some m.cls := hown
  have N0 := Fr.nil n0
  have K0 := Keep.refl h0 []
  refine own_st (fun _ k => castTop (own_ef_rm_lv m a1) k) ?_
  show own_go _ _ _ _ _ _ _ (s₁.setTop (mkF m 0 #[.val (.ref a1)] []))
  refine own_st (fun _ k => XS.aloadN X0.here hx rfl (hb hby d8_0) rfl rfl k) ?_
  show own_go _ _ _ _ _ _ _ (s₁.setTop (mkF m 1 #[.val (.ref a1)] [(.ref a1)]))
  obtain ⟨T32, X32, e32, st32⟩ := getF X0 hx hZ hown (host := "") (Or.inl (hw _ (List.mem_of_getElem? (i := 62) rfl))) Via.refl e0 F_a1_value (g := (mkF m 1 #[.val (.ref a1)] [(.ref a1)])) rfl rfl (hb hby d8_1)
  refine own_st st32 ?_
  show own_go _ _ _ _ _ _ _ (T32.setTop (mkF m 4 #[.val (.ref a1)] [(.long q1)]))
  exact own_retJ X32 hx hlk hret (hb hby d8_4) (by decide) (by decide) (⟨rfl, N0, e32⟩)
theorem d9_0 : decode jdk_29_method_70_code 0 = .ok (.lload_n 0, 1) := by decide +kernel
theorem d9_1 : decode jdk_29_method_70_code 1 = .ok (.lload_n 2, 1) := by decide +kernel
theorem d9_2 : decode jdk_29_method_70_code 2 = .ok (.lcmp, 1) := by decide +kernel
theorem d9_3 : decode jdk_29_method_70_code 3 = .ok (.ifCond .gt 7, 3) := by decide +kernel
theorem d9_6 : decode jdk_29_method_70_code 6 = .ok (.lload_n 0, 1) := by decide +kernel
theorem d9_7 : decode jdk_29_method_70_code 7 = .ok (.goto 4, 3) := by decide +kernel
theorem d9_10 : decode jdk_29_method_70_code 10 = .ok (.lload_n 2, 1) := by decide +kernel
theorem d9_11 : decode jdk_29_method_70_code 11 = .ok (.lreturn, 1) := by decide +kernel
theorem own_pn_9 : plainFor (⟨"java/lang/Math", "min", "(JJ)J"⟩ : MethodName) = true := by decide +kernel
theorem own_ef_rm_min (m : MethodId) (q1 : Int64) (q2 : Int64) : entryFrame m #[(.long q1), (.long q2)] 4 = mkF m 0 #[.val (.long q1), .second, .val (.long q2), .second] [] := by first | (simp [entryFrame, mkF, argsToLocals, Value.category]; done) | rfl
set_option maxRecDepth 65536 in
set_option maxHeartbeats 40000000 in
theorem rm_min (l : Launch) (Z : State) (a0 : Array Value) (hw : ∀ d ∈ tables_1, d.before a0 Z = true) (q1 q2 : Int64) (h0 : Heap) (n0 : Nat) (O0 : Old Z n0 h0)  :
    own_Met l Z (⟨"java/lang/Math", "min", "(JJ)J"⟩ : MethodName) jdk_29_method_70_code 4 (some .long) [] ({ frames := 0, cells := 0, slots := 0, locals := 0 } : Room) #[(.long q1), (.long q2)] h0 (fun v h L => v = some (.long (own_min q1 q2)) ∧ Fr n0 L ∧ h = h0) := by
  refine own_body own_pn_9 ?_
  intro p e s m below meth c s₁ hx hby hml hown hnm hret hlk X0 hZ e0
  replace hown : s.vm.findClass "java/lang/Math" = some m.cls := hown
  have N0 := Fr.nil n0
  have K0 := Keep.refl h0 []
  refine own_st (fun _ k => castTop (own_ef_rm_min m q1 q2) k) ?_
  show own_go _ _ _ _ _ _ _ (s₁.setTop (mkF m 0 #[.val (.long q1), .second, .val (.long q2), .second] []))
  refine own_st (fun _ k => XS.lloadN X0.here hx rfl (hb hby d9_0) rfl k) ?_
  show own_go _ _ _ _ _ _ _ (s₁.setTop (mkF m 1 #[.val (.long q1), .second, .val (.long q2), .second] [(.long q1)]))
  refine own_st (fun _ k => XS.lloadN X0.here hx rfl (hb hby d9_1) rfl k) ?_
  show own_go _ _ _ _ _ _ _ (s₁.setTop (mkF m 2 #[.val (.long q1), .second, .val (.long q2), .second] [(.long q2), (.long q1)]))
  refine own_st (fun _ k => XS.lcmp X0.here hx rfl (hb hby d9_2) rfl k) ?_
  show own_go _ _ _ _ _ _ _ (s₁.setTop (mkF m 3 #[.val (.long q1), .second, .val (.long q2), .second] [(.int (lcmpW q1 q2))]))
  by_cases hc33 : q2 < q1
  · skip
    refine own_st (fun _ k => XS.ifYes X0.here hx rfl (pc0 := 3) (pc' := 10) rfl (hb hby d9_3) rfl (XT.ll_gt_t hc33) (by decide) (by decide) k) ?_
    show own_go _ _ _ _ _ _ _ (s₁.setTop (mkF m 10 #[.val (.long q1), .second, .val (.long q2), .second] []))
    refine own_st (fun _ k => XS.lloadN X0.here hx rfl (hb hby d9_10) rfl k) ?_
    show own_go _ _ _ _ _ _ _ (s₁.setTop (mkF m 11 #[.val (.long q1), .second, .val (.long q2), .second] [(.long q2)]))
    exact own_retJ X0 hx hlk hret (hb hby d9_11) (by decide) (by decide) (⟨by simp [own_min, *], N0, e0⟩)
  · skip
    refine own_st (fun _ k => XS.ifNo X0.here hx rfl (hb hby d9_3) rfl (XT.ll_gt_f hc33) k) ?_
    show own_go _ _ _ _ _ _ _ (s₁.setTop (mkF m 6 #[.val (.long q1), .second, .val (.long q2), .second] []))
    refine own_st (fun _ k => XS.lloadN X0.here hx rfl (hb hby d9_6) rfl k) ?_
    show own_go _ _ _ _ _ _ _ (s₁.setTop (mkF m 7 #[.val (.long q1), .second, .val (.long q2), .second] [(.long q1)]))
    refine own_st (fun _ k => XS.goto X0.here hx rfl (pc0 := 7) (pc' := 11) rfl (hb hby d9_7) (by decide) (by decide) k) ?_
    show own_go _ _ _ _ _ _ _ (s₁.setTop (mkF m 11 #[.val (.long q1), .second, .val (.long q2), .second] [(.long q1)]))
    exact own_retJ X0 hx hlk hret (hb hby d9_11) (by decide) (by decide) (⟨by simp [own_min, *], N0, e0⟩)
theorem d10_0 : decode jdk_29_method_66_code 0 = .ok (.lload_n 0, 1) := by decide +kernel
theorem d10_1 : decode jdk_29_method_66_code 1 = .ok (.lload_n 2, 1) := by decide +kernel
theorem d10_2 : decode jdk_29_method_66_code 2 = .ok (.lcmp, 1) := by decide +kernel
theorem d10_3 : decode jdk_29_method_66_code 3 = .ok (.ifCond .lt 7, 3) := by decide +kernel
theorem d10_6 : decode jdk_29_method_66_code 6 = .ok (.lload_n 0, 1) := by decide +kernel
theorem d10_7 : decode jdk_29_method_66_code 7 = .ok (.goto 4, 3) := by decide +kernel
theorem d10_10 : decode jdk_29_method_66_code 10 = .ok (.lload_n 2, 1) := by decide +kernel
theorem d10_11 : decode jdk_29_method_66_code 11 = .ok (.lreturn, 1) := by decide +kernel
theorem own_pn_10 : plainFor (⟨"java/lang/Math", "max", "(JJ)J"⟩ : MethodName) = true := by decide +kernel
theorem own_ef_rm_max (m : MethodId) (q1 : Int64) (q2 : Int64) : entryFrame m #[(.long q1), (.long q2)] 4 = mkF m 0 #[.val (.long q1), .second, .val (.long q2), .second] [] := by first | (simp [entryFrame, mkF, argsToLocals, Value.category]; done) | rfl
set_option maxRecDepth 65536 in
set_option maxHeartbeats 40000000 in
theorem rm_max (l : Launch) (Z : State) (a0 : Array Value) (hw : ∀ d ∈ tables_1, d.before a0 Z = true) (q1 q2 : Int64) (h0 : Heap) (n0 : Nat) (O0 : Old Z n0 h0)  :
    own_Met l Z (⟨"java/lang/Math", "max", "(JJ)J"⟩ : MethodName) jdk_29_method_66_code 4 (some .long) [] ({ frames := 0, cells := 0, slots := 0, locals := 0 } : Room) #[(.long q1), (.long q2)] h0 (fun v h L => v = some (.long (own_max q1 q2)) ∧ Fr n0 L ∧ h = h0) := by
  refine own_body own_pn_10 ?_
  intro p e s m below meth c s₁ hx hby hml hown hnm hret hlk X0 hZ e0
  replace hown : s.vm.findClass "java/lang/Math" = some m.cls := hown
  have N0 := Fr.nil n0
  have K0 := Keep.refl h0 []
  refine own_st (fun _ k => castTop (own_ef_rm_max m q1 q2) k) ?_
  show own_go _ _ _ _ _ _ _ (s₁.setTop (mkF m 0 #[.val (.long q1), .second, .val (.long q2), .second] []))
  refine own_st (fun _ k => XS.lloadN X0.here hx rfl (hb hby d10_0) rfl k) ?_
  show own_go _ _ _ _ _ _ _ (s₁.setTop (mkF m 1 #[.val (.long q1), .second, .val (.long q2), .second] [(.long q1)]))
  refine own_st (fun _ k => XS.lloadN X0.here hx rfl (hb hby d10_1) rfl k) ?_
  show own_go _ _ _ _ _ _ _ (s₁.setTop (mkF m 2 #[.val (.long q1), .second, .val (.long q2), .second] [(.long q2), (.long q1)]))
  refine own_st (fun _ k => XS.lcmp X0.here hx rfl (hb hby d10_2) rfl k) ?_
  show own_go _ _ _ _ _ _ _ (s₁.setTop (mkF m 3 #[.val (.long q1), .second, .val (.long q2), .second] [(.int (lcmpW q1 q2))]))
  by_cases hc34 : q1 < q2
  · skip
    refine own_st (fun _ k => XS.ifYes X0.here hx rfl (pc0 := 3) (pc' := 10) rfl (hb hby d10_3) rfl (XT.ll_lt_t hc34) (by decide) (by decide) k) ?_
    show own_go _ _ _ _ _ _ _ (s₁.setTop (mkF m 10 #[.val (.long q1), .second, .val (.long q2), .second] []))
    refine own_st (fun _ k => XS.lloadN X0.here hx rfl (hb hby d10_10) rfl k) ?_
    show own_go _ _ _ _ _ _ _ (s₁.setTop (mkF m 11 #[.val (.long q1), .second, .val (.long q2), .second] [(.long q2)]))
    exact own_retJ X0 hx hlk hret (hb hby d10_11) (by decide) (by decide) (⟨by simp [own_max, *], N0, e0⟩)
  · skip
    refine own_st (fun _ k => XS.ifNo X0.here hx rfl (hb hby d10_3) rfl (XT.ll_lt_f hc34) k) ?_
    show own_go _ _ _ _ _ _ _ (s₁.setTop (mkF m 6 #[.val (.long q1), .second, .val (.long q2), .second] []))
    refine own_st (fun _ k => XS.lloadN X0.here hx rfl (hb hby d10_6) rfl k) ?_
    show own_go _ _ _ _ _ _ _ (s₁.setTop (mkF m 7 #[.val (.long q1), .second, .val (.long q2), .second] [(.long q1)]))
    refine own_st (fun _ k => XS.goto X0.here hx rfl (pc0 := 7) (pc' := 11) rfl (hb hby d10_7) (by decide) (by decide) k) ?_
    show own_go _ _ _ _ _ _ _ (s₁.setTop (mkF m 11 #[.val (.long q1), .second, .val (.long q2), .second] [(.long q1)]))
    exact own_retJ X0 hx hlk hret (hb hby d10_11) (by decide) (by decide) (⟨by simp [own_max, *], N0, e0⟩)
theorem d11_0 : decode prog_14_method_1_code 0 = .ok (.aload_n 0, 1) := by decide +kernel
theorem d11_1 : decode prog_14_method_1_code 1 = .ok (.invokespecial 1, 3) := by decide +kernel
theorem d11_4 : decode prog_14_method_1_code 4 = .ok (.aload_n 0, 1) := by decide +kernel
theorem d11_5 : decode prog_14_method_1_code 5 = .ok (.lload_n 1, 1) := by decide +kernel
theorem d11_6 : decode prog_14_method_1_code 6 = .ok (.putfield 7, 3) := by decide +kernel
theorem d11_9 : decode prog_14_method_1_code 9 = .ok (.aload_n 0, 1) := by decide +kernel
theorem d11_10 : decode prog_14_method_1_code 10 = .ok (.lload_n 3, 1) := by decide +kernel
theorem d11_11 : decode prog_14_method_1_code 11 = .ok (.putfield 13, 3) := by decide +kernel
theorem d11_14 : decode prog_14_method_1_code 14 = .ok (.return_, 1) := by decide +kernel
theorem own_pn_11 : plainFor (⟨"com/example/usher/usher/OutboxRuns$Range", "<init>", "(JJ)V"⟩ : MethodName) = true := plainFor_of_name (show plainName "com/example/usher/usher/OutboxRuns$Range" = true by first | (simp [plainName, overriddenIn]; done) | decide +kernel)
theorem own_ef_rm_rinit (m : MethodId) (a1 : Addr) (q1 : Int64) (q2 : Int64) : entryFrame m #[(.ref a1), (.long q1), (.long q2)] 5 = mkF m 0 #[.val (.ref a1), .val (.long q1), .second, .val (.long q2), .second] [] := by first | (simp [entryFrame, mkF, argsToLocals, Value.category]; done) | rfl
set_option maxRecDepth 65536 in
set_option maxHeartbeats 40000000 in
theorem rm_rinit (l : Launch) (Z : State) (a0 : Array Value) (hw : ∀ d ∈ tables_1, d.before a0 Z = true) (a1 : Addr) (q1 q2 : Int64) (h0 : Heap) (n0 : Nat) (O0 : Old Z n0 h0) (ge_a1 : n0 ≤ a1) (E_a1 : Exa Z h0 a1 "com/example/usher/usher/OutboxRuns$Range") (F_a1_from : Fld Z h0 a1 "com/example/usher/usher/OutboxRuns$Range" "from" "J" (.long (0 : Int64))) (F_a1_to : Fld Z h0 a1 "com/example/usher/usher/OutboxRuns$Range" "to" "J" (.long (0 : Int64))) :
    own_Met l Z (⟨"com/example/usher/usher/OutboxRuns$Range", "<init>", "(JJ)V"⟩ : MethodName) prog_14_method_1_code 5 none [] ({ frames := 2, cells := 0, slots := 0, locals := 24 } : Room) #[(.ref a1), (.long q1), (.long q2)] h0 (fun v h L => v = none ∧ Fr n0 L ∧ Keep h0 h [a1] ∧ Fld Z h a1 "com/example/usher/usher/OutboxRuns$Range" "from" "J" (.long q1) ∧ Fld Z h a1 "com/example/usher/usher/OutboxRuns$Range" "to" "J" (.long q2)) := by
  refine own_body own_pn_11 ?_
  intro p e s m below meth c s₁ hx hby hml hown hnm hret hlk X0 hZ e0
  replace hown : s.vm.findClass "com/example/usher/usher/OutboxRuns$Range" = some m.cls := hown
  have N0 := Fr.nil n0
  have K0 := Keep.refl h0 [a1]
  refine own_st (fun _ k => castTop (own_ef_rm_rinit m a1 q1 q2) k) ?_
  show own_go _ _ _ _ _ _ _ (s₁.setTop (mkF m 0 #[.val (.ref a1), .val (.long q1), .second, .val (.long q2), .second] []))
  refine own_st (fun _ k => XS.aloadN X0.here hx rfl (hb hby d11_0) rfl rfl k) ?_
  show own_go _ _ _ _ _ _ _ (s₁.setTop (mkF m 1 #[.val (.ref a1), .val (.long q1), .second, .val (.long q2), .second] [(.ref a1)]))
  obtain ⟨v35, T35, L35, X35, hQ35, st35⟩ := own_callN X0 hx hZ (argsL := []) (rest := []) (rm_rec l Z a0 hw a1 h0 n0 O0) rfl hown (hw _ (List.mem_of_getElem? (i := 93) rfl)) (hw _ (List.mem_of_getElem? (i := 94) rfl)) (hw _ (List.mem_of_getElem? (i := 96) rfl)) (hw _ (List.mem_of_getElem? (i := 97) rfl)) (by decide) e0 (g := (mkF m 1 #[.val (.ref a1), .val (.long q1), .second, .val (.long q2), .second] [(.ref a1)])) rfl (by rw [hml]; rfl) (lenOf own_pd__28_29V rfl) rfl (W := 0) (by show 2 * 0 + _ ≤ _; exact Nat.le_of_eq rfl) (hb hby d11_1) (by decide) (by decide) (by decide) (by decide)
  obtain ⟨rfl, Nq35, eq35⟩ := hQ35
  have N35 := Fr.app N0 Nq35
  refine own_st st35 ?_
  show own_go _ _ _ _ _ _ _ (T35.setTop (mkF m 4 #[.val (.ref a1), .val (.long q1), .second, .val (.long q2), .second] []))
  refine own_st (fun _ k => XS.aloadN X35.here hx rfl (hb hby d11_4) rfl rfl k) ?_
  show own_go _ _ _ _ _ _ _ (T35.setTop (mkF m 5 #[.val (.ref a1), .val (.long q1), .second, .val (.long q2), .second] [(.ref a1)]))
  refine own_st (fun _ k => XS.lloadN X35.here hx rfl (hb hby d11_5) rfl k) ?_
  show own_go _ _ _ _ _ _ _ (T35.setTop (mkF m 6 #[.val (.ref a1), .val (.long q1), .second, .val (.long q2), .second] [(.long q1), (.ref a1)]))
  obtain ⟨T36, h36, X36, e36, W36, st36⟩ := putF X35 hx hZ hown (host := "") (Or.inl (hw _ (List.mem_of_getElem? (i := 99) rfl))) Via.refl eq35 F_a1_from E_a1 (Or.inr ⟨(hw _ (List.mem_of_getElem? (i := 100) rfl)), rfl, hnm⟩) (hw _ (List.mem_of_getElem? (i := 88) rfl)) (ty := .long) (by decide) rfl rfl (g := (mkF m 6 #[.val (.ref a1), .val (.long q1), .second, .val (.long q2), .second] [(.long q1), (.ref a1)])) rfl rfl (hb hby d11_6)
  have N36 := Fr.snoc X36 N35 ge_a1
  have O37 := O0.wr W36 ge_a1
  have K37 := K0.wr W36 (Or.inl (List.mem_of_getElem? (i := 0) rfl))
  have F36 := F_a1_from.same W36
  refine own_st st36 ?_
  show own_go _ _ _ _ _ _ _ (T36.setTop (mkF m 9 #[.val (.ref a1), .val (.long q1), .second, .val (.long q2), .second] []))
  refine own_st (fun _ k => XS.aloadN X36.here hx rfl (hb hby d11_9) rfl rfl k) ?_
  show own_go _ _ _ _ _ _ _ (T36.setTop (mkF m 10 #[.val (.ref a1), .val (.long q1), .second, .val (.long q2), .second] [(.ref a1)]))
  refine own_st (fun _ k => XS.lloadN X36.here hx rfl (hb hby d11_10) rfl k) ?_
  show own_go _ _ _ _ _ _ _ (T36.setTop (mkF m 11 #[.val (.ref a1), .val (.long q1), .second, .val (.long q2), .second] [(.long q2), (.ref a1)]))
  have f39 := (F_a1_to.other W36 (Or.inr (slot_ne (Or.inr (hw _ (List.mem_of_getElem? (i := 102) rfl))) (Or.inr (hw _ (List.mem_of_getElem? (i := 100) rfl))) (by decide) (t := .long) (t' := .long) (by decide) (by decide))))
  have f40 := (E_a1.wr W36)
  obtain ⟨T38, h38, X38, e38, W38, st38⟩ := putF X36 hx hZ hown (host := "") (Or.inl (hw _ (List.mem_of_getElem? (i := 101) rfl))) Via.refl e36 f39 f40 (Or.inr ⟨(hw _ (List.mem_of_getElem? (i := 102) rfl)), rfl, hnm⟩) (hw _ (List.mem_of_getElem? (i := 88) rfl)) (ty := .long) (by decide) rfl rfl (g := (mkF m 11 #[.val (.ref a1), .val (.long q1), .second, .val (.long q2), .second] [(.long q2), (.ref a1)])) rfl rfl (hb hby d11_11)
  have N38 := Fr.snoc X38 N36 ge_a1
  have O41 := O37.wr W38 ge_a1
  have K41 := K37.wr W38 (Or.inl (List.mem_of_getElem? (i := 0) rfl))
  have F38 := f39.same W38
  refine own_st st38 ?_
  show own_go _ _ _ _ _ _ _ (T38.setTop (mkF m 14 #[.val (.ref a1), .val (.long q1), .second, .val (.long q2), .second] []))
  have f42 := (F36.other W38 (Or.inr (slot_ne (Or.inr (hw _ (List.mem_of_getElem? (i := 100) rfl))) (Or.inr (hw _ (List.mem_of_getElem? (i := 102) rfl))) (by decide) (t := .long) (t' := .long) (by decide) (by decide))))
  exact own_ret0 X38 hx hlk hret (hb hby d11_14) (by decide) (by decide) (by rw [e38]; exact ⟨rfl, N38, K41, f42, F38⟩)
theorem d29_0 : decode prog_14_method_5_code 0 = .ok (.aload_n 0, 1) := by decide +kernel
theorem d29_1 : decode prog_14_method_5_code 1 = .ok (.getfield 7, 3) := by decide +kernel
theorem d29_4 : decode prog_14_method_5_code 4 = .ok (.lreturn, 1) := by decide +kernel
theorem own_pn_29 : plainFor (⟨"com/example/usher/usher/OutboxRuns$Range", "from", "()J"⟩ : MethodName) = true := plainFor_of_name (show plainName "com/example/usher/usher/OutboxRuns$Range" = true by first | (simp [plainName, overriddenIn]; done) | decide +kernel)
theorem own_ef_rm_rfrom (m : MethodId) (a1 : Addr) : entryFrame m #[(.ref a1)] 1 = mkF m 0 #[.val (.ref a1)] [] := by first | (simp [entryFrame, mkF, argsToLocals, Value.category]; done) | rfl
set_option maxRecDepth 65536 in
set_option maxHeartbeats 40000000 in
theorem rm_rfrom (l : Launch) (Z : State) (a0 : Array Value) (hw : ∀ d ∈ tables_1, d.before a0 Z = true) (a1 : Addr) (q1 : Int64) (h0 : Heap) (n0 : Nat) (O0 : Old Z n0 h0) (F1 : Fld Z h0 a1 "com/example/usher/usher/OutboxRuns$Range" "from" "J" (.long q1)) :
    own_Met l Z (⟨"com/example/usher/usher/OutboxRuns$Range", "from", "()J"⟩ : MethodName) prog_14_method_5_code 1 (some .long) [] ({ frames := 0, cells := 0, slots := 0, locals := 0 } : Room) #[(.ref a1)] h0 (fun v h L => v = some (.long q1) ∧ Fr n0 L ∧ h = h0) := by
  refine own_body own_pn_29 ?_
  intro p e s m below meth c s₁ hx hby hml hown hnm hret hlk X0 hZ e0
  replace hown : s.vm.findClass "com/example/usher/usher/OutboxRuns$Range" = some m.cls := hown
  have N0 := Fr.nil n0
  have K0 := Keep.refl h0 []
  refine own_st (fun _ k => castTop (own_ef_rm_rfrom m a1) k) ?_
  show own_go _ _ _ _ _ _ _ (s₁.setTop (mkF m 0 #[.val (.ref a1)] []))
  refine own_st (fun _ k => XS.aloadN X0.here hx rfl (hb hby d29_0) rfl rfl k) ?_
  show own_go _ _ _ _ _ _ _ (s₁.setTop (mkF m 1 #[.val (.ref a1)] [(.ref a1)]))
  obtain ⟨T43, X43, e43, st43⟩ := getF X0 hx hZ hown (host := "") (Or.inl (hw _ (List.mem_of_getElem? (i := 99) rfl))) Via.refl e0 F1 (g := (mkF m 1 #[.val (.ref a1)] [(.ref a1)])) rfl rfl (hb hby d29_1)
  refine own_st st43 ?_
  show own_go _ _ _ _ _ _ _ (T43.setTop (mkF m 4 #[.val (.ref a1)] [(.long q1)]))
  exact own_retJ X43 hx hlk hret (hb hby d29_4) (by decide) (by decide) (⟨rfl, N0, e43⟩)
theorem d21_0 : decode prog_14_method_6_code 0 = .ok (.aload_n 0, 1) := by decide +kernel
theorem d21_1 : decode prog_14_method_6_code 1 = .ok (.getfield 13, 3) := by decide +kernel
theorem d21_4 : decode prog_14_method_6_code 4 = .ok (.lreturn, 1) := by decide +kernel
theorem own_pn_21 : plainFor (⟨"com/example/usher/usher/OutboxRuns$Range", "to", "()J"⟩ : MethodName) = true := plainFor_of_name (show plainName "com/example/usher/usher/OutboxRuns$Range" = true by first | (simp [plainName, overriddenIn]; done) | decide +kernel)
theorem own_ef_rm_rto (m : MethodId) (a1 : Addr) : entryFrame m #[(.ref a1)] 1 = mkF m 0 #[.val (.ref a1)] [] := by first | (simp [entryFrame, mkF, argsToLocals, Value.category]; done) | rfl
set_option maxRecDepth 65536 in
set_option maxHeartbeats 40000000 in
theorem rm_rto (l : Launch) (Z : State) (a0 : Array Value) (hw : ∀ d ∈ tables_1, d.before a0 Z = true) (a1 : Addr) (q1 : Int64) (h0 : Heap) (n0 : Nat) (O0 : Old Z n0 h0) (F1 : Fld Z h0 a1 "com/example/usher/usher/OutboxRuns$Range" "to" "J" (.long q1)) :
    own_Met l Z (⟨"com/example/usher/usher/OutboxRuns$Range", "to", "()J"⟩ : MethodName) prog_14_method_6_code 1 (some .long) [] ({ frames := 0, cells := 0, slots := 0, locals := 0 } : Room) #[(.ref a1)] h0 (fun v h L => v = some (.long q1) ∧ Fr n0 L ∧ h = h0) := by
  refine own_body own_pn_21 ?_
  intro p e s m below meth c s₁ hx hby hml hown hnm hret hlk X0 hZ e0
  replace hown : s.vm.findClass "com/example/usher/usher/OutboxRuns$Range" = some m.cls := hown
  have N0 := Fr.nil n0
  have K0 := Keep.refl h0 []
  refine own_st (fun _ k => castTop (own_ef_rm_rto m a1) k) ?_
  show own_go _ _ _ _ _ _ _ (s₁.setTop (mkF m 0 #[.val (.ref a1)] []))
  refine own_st (fun _ k => XS.aloadN X0.here hx rfl (hb hby d21_0) rfl rfl k) ?_
  show own_go _ _ _ _ _ _ _ (s₁.setTop (mkF m 1 #[.val (.ref a1)] [(.ref a1)]))
  obtain ⟨T44, X44, e44, st44⟩ := getF X0 hx hZ hown (host := "") (Or.inl (hw _ (List.mem_of_getElem? (i := 101) rfl))) Via.refl e0 F1 (g := (mkF m 1 #[.val (.ref a1)] [(.ref a1)])) rfl rfl (hb hby d21_1)
  refine own_st st44 ?_
  show own_go _ _ _ _ _ _ _ (T44.setTop (mkF m 4 #[.val (.ref a1)] [(.long q1)]))
  exact own_retJ X44 hx hlk hret (hb hby d21_4) (by decide) (by decide) (⟨rfl, N0, e44⟩)
theorem d15_0 : decode jdk_32_method_1_code 0 = .ok (.getstatic 1, 3) := by decide +kernel
theorem d15_3 : decode jdk_32_method_1_code 3 = .ok (.astore_n 0, 1) := by decide +kernel
theorem d15_4 : decode jdk_32_method_1_code 4 = .ok (.aload_n 0, 1) := by decide +kernel
theorem d15_5 : decode jdk_32_method_1_code 5 = .ok (.areturn, 1) := by decide +kernel
theorem own_pn_15 : plainFor (⟨"java/util/Optional", "empty", "()Ljava/util/Optional;"⟩ : MethodName) = true := plainFor_of_name (show plainName "java/util/Optional" = true by first | (simp [plainName, overriddenIn]; done) | decide +kernel)
theorem own_ef_rmo_empty (m : MethodId)  : entryFrame m #[] 1 = mkF m 0 #[.unset] [] := by first | (simp [entryFrame, mkF, argsToLocals, Value.category]; done) | rfl
set_option maxRecDepth 65536 in
set_option maxHeartbeats 40000000 in
theorem rmo_empty (l : Launch) (Z : State) (a0 : Array Value) (hw : ∀ d ∈ tables_1, d.before a0 Z = true) (c_EMPTY_ELEMENTDATA : Addr) (c_DEFAULTCAPACITY_EMPTY_ELEMENTDATA : Addr) (c_cache : Addr) (c_EMPTY : Addr) (h0 : Heap) (n0 : Nat) (O0 : Old Z n0 h0) (hS : own_S Z c_EMPTY_ELEMENTDATA c_DEFAULTCAPACITY_EMPTY_ELEMENTDATA c_cache c_EMPTY) :
    own_Met l Z (⟨"java/util/Optional", "empty", "()Ljava/util/Optional;"⟩ : MethodName) jdk_32_method_1_code 1 (some (.object "java/util/Optional")) [] ({ frames := 0, cells := 0, slots := 0, locals := 0 } : Room) #[] h0 (fun v h L => v = some (.ref c_EMPTY) ∧ Fr n0 L ∧ h = h0) := by
  refine own_body own_pn_15 ?_
  intro p e s m below meth c s₁ hx hby hml hown hnm hret hlk X0 hZ e0
  replace hown : s.vm.findClass "java/util/Optional" = some m.cls := hown
  have N0 := Fr.nil n0
  have K0 := Keep.refl h0 []
  refine own_st (fun _ k => castTop (own_ef_rmo_empty m ) k) ?_
  show own_go _ _ _ _ _ _ _ (s₁.setTop (mkF m 0 #[.unset] []))
  obtain ⟨T45, X45, e45, st45⟩ := getS2 X0 hx hZ hown (host := "") (Or.inl (hw _ (List.mem_of_getElem? (i := 125) rfl))) Via.refl e0 (hS.2.2.2.2.2.2.1.ext O0.2) (g := (mkF m 0 #[.unset] [])) rfl (hb hby d15_0)
  refine own_st st45 ?_
  show own_go _ _ _ _ _ _ _ (T45.setTop (mkF m 3 #[.unset] [(.ref c_EMPTY)]))
  refine own_st (fun _ k => XS.astoreN X45.here hx rfl (hb hby d15_3) rfl rfl (l' := #[.val (.ref c_EMPTY)]) rfl k) ?_
  show own_go _ _ _ _ _ _ _ (T45.setTop (mkF m 4 #[.val (.ref c_EMPTY)] []))
  refine own_st (fun _ k => XS.aloadN X45.here hx rfl (hb hby d15_4) rfl rfl k) ?_
  show own_go _ _ _ _ _ _ _ (T45.setTop (mkF m 5 #[.val (.ref c_EMPTY)] [(.ref c_EMPTY)]))
  exact own_retA X45 hx hlk hret rfl rfl (hb hby d15_5) (by decide) (by decide) (⟨rfl, N0, e45⟩)
theorem d26_0 : decode jdk_31_method_10_code 0 = .ok (.aload_n 0, 1) := by decide +kernel
theorem d26_1 : decode jdk_31_method_10_code 1 = .ok (.ifnonnull 11, 3) := by decide +kernel
theorem d26_12 : decode jdk_31_method_10_code 12 = .ok (.aload_n 0, 1) := by decide +kernel
theorem d26_13 : decode jdk_31_method_10_code 13 = .ok (.areturn, 1) := by decide +kernel
theorem own_pn_26 : plainFor (⟨"java/util/Objects", "requireNonNull", "(Ljava/lang/Object;)Ljava/lang/Object;"⟩ : MethodName) = true := plainFor_of_name (show plainName "java/util/Objects" = true by first | (simp [plainName, overriddenIn]; done) | decide +kernel)
theorem own_ef_rmo_req (m : MethodId) (a1 : Addr) : entryFrame m #[(.ref a1)] 1 = mkF m 0 #[.val (.ref a1)] [] := by first | (simp [entryFrame, mkF, argsToLocals, Value.category]; done) | rfl
set_option maxRecDepth 65536 in
set_option maxHeartbeats 40000000 in
theorem rmo_req (l : Launch) (Z : State) (a0 : Array Value) (hw : ∀ d ∈ tables_1, d.before a0 Z = true) (a1 : Addr) (h0 : Heap) (n0 : Nat) (O0 : Old Z n0 h0)  :
    own_Met l Z (⟨"java/util/Objects", "requireNonNull", "(Ljava/lang/Object;)Ljava/lang/Object;"⟩ : MethodName) jdk_31_method_10_code 1 (some (.object "java/lang/Object")) [] ({ frames := 0, cells := 0, slots := 0, locals := 0 } : Room) #[(.ref a1)] h0 (fun v h L => v = some (.ref a1) ∧ Fr n0 L ∧ h = h0) := by
  refine own_body own_pn_26 ?_
  intro p e s m below meth c s₁ hx hby hml hown hnm hret hlk X0 hZ e0
  replace hown : s.vm.findClass "java/util/Objects" = some m.cls := hown
  have N0 := Fr.nil n0
  have K0 := Keep.refl h0 []
  refine own_st (fun _ k => castTop (own_ef_rmo_req m a1) k) ?_
  show own_go _ _ _ _ _ _ _ (s₁.setTop (mkF m 0 #[.val (.ref a1)] []))
  refine own_st (fun _ k => XS.aloadN X0.here hx rfl (hb hby d26_0) rfl rfl k) ?_
  show own_go _ _ _ _ _ _ _ (s₁.setTop (mkF m 1 #[.val (.ref a1)] [(.ref a1)]))
  refine own_st (fun _ k => XS.ifnonnullYes X0.here hx rfl (pc0 := 1) (pc' := 12) rfl (hb hby d26_1) rfl (by decide) (by decide) k) ?_
  show own_go _ _ _ _ _ _ _ (s₁.setTop (mkF m 12 #[.val (.ref a1)] []))
  refine own_st (fun _ k => XS.aloadN X0.here hx rfl (hb hby d26_12) rfl rfl k) ?_
  show own_go _ _ _ _ _ _ _ (s₁.setTop (mkF m 13 #[.val (.ref a1)] [(.ref a1)]))
  exact own_retA X0 hx hlk hret rfl rfl (hb hby d26_13) (by decide) (by decide) (⟨rfl, N0, e0⟩)
theorem d27_0 : decode jdk_32_method_2_code 0 = .ok (.aload_n 0, 1) := by decide +kernel
theorem d27_1 : decode jdk_32_method_2_code 1 = .ok (.invokespecial 7, 3) := by decide +kernel
theorem d27_4 : decode jdk_32_method_2_code 4 = .ok (.aload_n 0, 1) := by decide +kernel
theorem d27_5 : decode jdk_32_method_2_code 5 = .ok (.aload_n 1, 1) := by decide +kernel
theorem d27_6 : decode jdk_32_method_2_code 6 = .ok (.putfield 13, 3) := by decide +kernel
theorem d27_9 : decode jdk_32_method_2_code 9 = .ok (.return_, 1) := by decide +kernel
theorem own_pn_27 : plainFor (⟨"java/util/Optional", "<init>", "(Ljava/lang/Object;)V"⟩ : MethodName) = true := plainFor_of_name (show plainName "java/util/Optional" = true by first | (simp [plainName, overriddenIn]; done) | decide +kernel)
theorem own_ef_rmo_init (m : MethodId) (a1 : Addr) (a2 : Addr) : entryFrame m #[(.ref a1), (.ref a2)] 2 = mkF m 0 #[.val (.ref a1), .val (.ref a2)] [] := by first | (simp [entryFrame, mkF, argsToLocals, Value.category]; done) | rfl
set_option maxRecDepth 65536 in
set_option maxHeartbeats 40000000 in
theorem rmo_init (l : Launch) (Z : State) (a0 : Array Value) (hw : ∀ d ∈ tables_1, d.before a0 Z = true) (a1 a2 : Addr) (h0 : Heap) (n0 : Nat) (O0 : Old Z n0 h0) (ge_a1 : n0 ≤ a1) (E_a1 : Exa Z h0 a1 "java/util/Optional") (F_a1_value : Fld Z h0 a1 "java/util/Optional" "value" "Ljava/lang/Object;" .null) :
    own_Met l Z (⟨"java/util/Optional", "<init>", "(Ljava/lang/Object;)V"⟩ : MethodName) jdk_32_method_2_code 2 none [] ({ frames := 1, cells := 0, slots := 0, locals := 12 } : Room) #[(.ref a1), (.ref a2)] h0 (fun v h L => v = none ∧ Fr n0 L ∧ Keep h0 h [a1] ∧ Fld Z h a1 "java/util/Optional" "value" "Ljava/lang/Object;" (.ref a2)) := by
  refine own_body own_pn_27 ?_
  intro p e s m below meth c s₁ hx hby hml hown hnm hret hlk X0 hZ e0
  replace hown : s.vm.findClass "java/util/Optional" = some m.cls := hown
  have N0 := Fr.nil n0
  have K0 := Keep.refl h0 [a1]
  refine own_st (fun _ k => castTop (own_ef_rmo_init m a1 a2) k) ?_
  show own_go _ _ _ _ _ _ _ (s₁.setTop (mkF m 0 #[.val (.ref a1), .val (.ref a2)] []))
  refine own_st (fun _ k => XS.aloadN X0.here hx rfl (hb hby d27_0) rfl rfl k) ?_
  show own_go _ _ _ _ _ _ _ (s₁.setTop (mkF m 1 #[.val (.ref a1), .val (.ref a2)] [(.ref a1)]))
  obtain ⟨T47, X47, e47, st47⟩ := initO X0 hx hZ hown (hw _ (List.mem_of_getElem? (i := 215) rfl)) (hw _ (List.mem_of_getElem? (i := 8) rfl)) (hw _ (List.mem_of_getElem? (i := 9) rfl)) e0 (g := (mkF m 1 #[.val (.ref a1), .val (.ref a2)] [(.ref a1)])) rfl (by rw [hml]; rfl) rfl (hb hby d27_1) (by decide) (W := 0) (by show 2 * 0 + _ ≤ _; exact Nat.le_of_eq rfl) (by decide)
  refine own_st st47 ?_
  show own_go _ _ _ _ _ _ _ (T47.setTop (mkF m 4 #[.val (.ref a1), .val (.ref a2)] []))
  refine own_st (fun _ k => XS.aloadN X47.here hx rfl (hb hby d27_4) rfl rfl k) ?_
  show own_go _ _ _ _ _ _ _ (T47.setTop (mkF m 5 #[.val (.ref a1), .val (.ref a2)] [(.ref a1)]))
  refine own_st (fun _ k => XS.aloadN X47.here hx rfl (hb hby d27_5) rfl rfl k) ?_
  show own_go _ _ _ _ _ _ _ (T47.setTop (mkF m 6 #[.val (.ref a1), .val (.ref a2)] [(.ref a2), (.ref a1)]))
  obtain ⟨T48, h48, X48, e48, W48, st48⟩ := putF X47 hx hZ hown (host := "") (Or.inl (hw _ (List.mem_of_getElem? (i := 136) rfl))) Via.refl e47 F_a1_value E_a1 (Or.inr ⟨(hw _ (List.mem_of_getElem? (i := 137) rfl)), rfl, hnm⟩) (hw _ (List.mem_of_getElem? (i := 206) rfl)) (ty := (.object "java/lang/Object")) (by decide) rfl rfl (g := (mkF m 6 #[.val (.ref a1), .val (.ref a2)] [(.ref a2), (.ref a1)])) rfl rfl (hb hby d27_6)
  have N48 := Fr.snoc X48 N0 ge_a1
  have O49 := O0.wr W48 ge_a1
  have K49 := K0.wr W48 (Or.inl (List.mem_of_getElem? (i := 0) rfl))
  have F48 := F_a1_value.same W48
  refine own_st st48 ?_
  show own_go _ _ _ _ _ _ _ (T48.setTop (mkF m 9 #[.val (.ref a1), .val (.ref a2)] []))
  exact own_ret0 X48 hx hlk hret (hb hby d27_9) (by decide) (by decide) (by rw [e48]; exact ⟨rfl, N48, K49, F48⟩)
theorem d25_0 : decode jdk_32_method_3_code 0 = .ok (.new 2, 3) := by decide +kernel
theorem d25_3 : decode jdk_32_method_3_code 3 = .ok (.dup, 1) := by decide +kernel
theorem d25_4 : decode jdk_32_method_3_code 4 = .ok (.aload_n 0, 1) := by decide +kernel
theorem d25_5 : decode jdk_32_method_3_code 5 = .ok (.invokestatic 17, 3) := by decide +kernel
theorem d25_8 : decode jdk_32_method_3_code 8 = .ok (.invokespecial 23, 3) := by decide +kernel
theorem d25_11 : decode jdk_32_method_3_code 11 = .ok (.areturn, 1) := by decide +kernel
theorem own_pn_25 : plainFor (⟨"java/util/Optional", "of", "(Ljava/lang/Object;)Ljava/util/Optional;"⟩ : MethodName) = true := plainFor_of_name (show plainName "java/util/Optional" = true by first | (simp [plainName, overriddenIn]; done) | decide +kernel)
theorem own_pd__28Ljava_2flang_2fObject_3b_29Ljava_2flang_2fObject_3b : parseMethodDescriptor "(Ljava/lang/Object;)Ljava/lang/Object;" = some ⟨[(.object "java/lang/Object")], some (.object "java/lang/Object")⟩ := by decide +kernel
theorem own_pd__28Ljava_2flang_2fObject_3b_29V : parseMethodDescriptor "(Ljava/lang/Object;)V" = some ⟨[(.object "java/lang/Object")], none⟩ := by decide +kernel
theorem own_ef_rmo_of (m : MethodId) (a1 : Addr) : entryFrame m #[(.ref a1)] 1 = mkF m 0 #[.val (.ref a1)] [] := by first | (simp [entryFrame, mkF, argsToLocals, Value.category]; done) | rfl
set_option maxRecDepth 65536 in
set_option maxHeartbeats 40000000 in
theorem rmo_of (l : Launch) (Z : State) (a0 : Array Value) (hw : ∀ d ∈ tables_1, d.before a0 Z = true) (a1 : Addr) (h0 : Heap) (n0 : Nat) (O0 : Old Z n0 h0)  :
    own_Met l Z (⟨"java/util/Optional", "of", "(Ljava/lang/Object;)Ljava/util/Optional;"⟩ : MethodName) jdk_32_method_3_code 1 (some (.object "java/util/Optional")) [] ({ frames := 2, cells := 1, slots := 1, locals := 26 } : Room) #[(.ref a1)] h0 (fun v h L => ∃ a, v = some (.ref a) ∧ Fr n0 L ∧ Keep h0 h [] ∧ h0.size ≤ a ∧ Exa Z h a "java/util/Optional" ∧ Fld Z h a "java/util/Optional" "value" "Ljava/lang/Object;" (.ref a1)) := by
  refine own_body own_pn_25 ?_
  intro p e s m below meth c s₁ hx hby hml hown hnm hret hlk X0 hZ e0
  replace hown : s.vm.findClass "java/util/Optional" = some m.cls := hown
  have N0 := Fr.nil n0
  have K0 := Keep.refl h0 []
  refine own_st (fun _ k => castTop (own_ef_rmo_of m a1) k) ?_
  show own_go _ _ _ _ _ _ _ (s₁.setTop (mkF m 0 #[.val (.ref a1)] []))
  obtain ⟨T50, h50, X50, e50, E50, A50, D50, -, st50⟩ := newO X0 hx hZ hown (hw _ (List.mem_of_getElem? (i := 205) rfl)) (hw _ (List.mem_of_getElem? (i := 206) rfl)) (hw _ (List.mem_of_getElem? (i := 123) rfl)) e0 (g := (mkF m 0 #[.val (.ref a1)] [])) rfl (hb hby d25_0) (by decide) (by decide)
  obtain ⟨b50, g50⟩ : ∃ z, z = h0.size := ⟨_, rfl⟩
  rw [← g50] at A50 D50 st50
  have ge_b50 : n0 ≤ b50 := by rw [g50]; exact own_osz O0
  have sz_b50 : h0.size ≤ b50 := by rw [g50]; exact K0.1
  have O50 := O0.ext E50
  have K50 := K0.ext E50
  refine own_st st50 ?_
  show own_go _ _ _ _ _ _ _ (T50.setTop (mkF m 3 #[.val (.ref a1)] [(.ref b50)]))
  refine own_st (fun _ k => XS.dup X50.here hx rfl (hb hby d25_3) rfl rfl k) ?_
  show own_go _ _ _ _ _ _ _ (T50.setTop (mkF m 4 #[.val (.ref a1)] [(.ref b50), (.ref b50)]))
  refine own_st (fun _ k => XS.aloadN X50.here hx rfl (hb hby d25_4) rfl rfl k) ?_
  show own_go _ _ _ _ _ _ _ (T50.setTop (mkF m 5 #[.val (.ref a1)] [(.ref a1), (.ref b50), (.ref b50)]))
  obtain ⟨v51, T51, L51, X51, hQ51, st51⟩ := own_callS X50 hx hZ (argsL := [(.ref a1)]) (rest := [(.ref b50), (.ref b50)]) (rmo_req l Z a0 hw a1 h50 n0 O50) hown (hw _ (List.mem_of_getElem? (i := 207) rfl)) (hw _ (List.mem_of_getElem? (i := 208) rfl)) (hw _ (List.mem_of_getElem? (i := 209) rfl)) (hw _ (List.mem_of_getElem? (i := 210) rfl)) (by decide) e50 (g := (mkF m 5 #[.val (.ref a1)] [(.ref a1), (.ref b50), (.ref b50)])) rfl (by rw [hml]; rfl) (lenOf own_pd__28Ljava_2flang_2fObject_3b_29Ljava_2flang_2fObject_3b rfl) rfl (W := 2) (by show 2 * 0 + _ ≤ _; exact Nat.le_of_eq rfl) (hb hby d25_5) (by decide) (by decide) (by decide) (by decide)
  obtain ⟨rfl, Nq51, eq51⟩ := hQ51
  have N51 := Fr.app N0 Nq51
  refine own_st st51 ?_
  show own_go _ _ _ _ _ _ _ (T51.setTop (mkF m 8 #[.val (.ref a1)] [(.ref a1), (.ref b50), (.ref b50)]))
  obtain ⟨v52, T52, L52, X52, hQ52, st52⟩ := own_callN X51 hx hZ (argsL := [(.ref a1)]) (rest := [(.ref b50)]) (rmo_init l Z a0 hw b50 a1 h50 n0 O50 ge_b50 A50 (D50 (Or.inr (hw _ (List.mem_of_getElem? (i := 137) rfl))) (ty := (.object "java/lang/Object")) (by decide))) rfl hown (hw _ (List.mem_of_getElem? (i := 211) rfl)) (hw _ (List.mem_of_getElem? (i := 212) rfl)) (hw _ (List.mem_of_getElem? (i := 123) rfl)) (hw _ (List.mem_of_getElem? (i := 214) rfl)) (by decide) eq51 (g := (mkF m 8 #[.val (.ref a1)] [(.ref a1), (.ref b50), (.ref b50)])) rfl (by rw [hml]; rfl) (lenOf own_pd__28Ljava_2flang_2fObject_3b_29V rfl) rfl (W := 1) (by show 2 * 0 + _ ≤ _; exact Nat.le_of_eq rfl) (hb hby d25_8) (by decide) (by decide) (by decide) (by decide)
  obtain ⟨rfl, Nq52, Kq52, F52_0⟩ := hQ52
  have N52 := Fr.app N51 Nq52
  have O52 := O50.keep Kq52 (allS ge_b50 all0)
  have K52 := K50.trans Kq52 (allS (Or.inr sz_b50) all0)
  refine own_st st52 ?_
  show own_go _ _ _ _ _ _ _ (T52.setTop (mkF m 11 #[.val (.ref a1)] [(.ref b50)]))
  have f53 := (A50.keep Kq52)
  exact own_retA X52 hx hlk hret rfl rfl (hb hby d25_11) (by decide) (by decide) ⟨_, rfl, N52, K52, sz_b50, f53, F52_0⟩
theorem d17_0 : decode jdk_32_method_6_code 0 = .ok (.aload_n 0, 1) := by decide +kernel
theorem d17_1 : decode jdk_32_method_6_code 1 = .ok (.getfield 13, 3) := by decide +kernel
theorem d17_4 : decode jdk_32_method_6_code 4 = .ok (.ifnull 7, 3) := by decide +kernel
theorem d17_7 : decode jdk_32_method_6_code 7 = .ok (.iconst 1, 1) := by decide +kernel
theorem d17_8 : decode jdk_32_method_6_code 8 = .ok (.goto 4, 3) := by decide +kernel
theorem d17_12 : decode jdk_32_method_6_code 12 = .ok (.ireturn, 1) := by decide +kernel
theorem own_pn_17 : plainFor (⟨"java/util/Optional", "isPresent", "()Z"⟩ : MethodName) = true := plainFor_of_name (show plainName "java/util/Optional" = true by first | (simp [plainName, overriddenIn]; done) | decide +kernel)
theorem own_ef_rmo_isPresent_R (m : MethodId) (a1 : Addr) : entryFrame m #[(.ref a1)] 1 = mkF m 0 #[.val (.ref a1)] [] := by first | (simp [entryFrame, mkF, argsToLocals, Value.category]; done) | rfl
set_option maxRecDepth 65536 in
set_option maxHeartbeats 40000000 in
theorem rmo_isPresent_R (l : Launch) (Z : State) (a0 : Array Value) (hw : ∀ d ∈ tables_1, d.before a0 Z = true) (a1 a2 : Addr) (h0 : Heap) (n0 : Nat) (O0 : Old Z n0 h0) (F1 : Fld Z h0 a1 "java/util/Optional" "value" "Ljava/lang/Object;" (.ref a2)) :
    own_Met l Z (⟨"java/util/Optional", "isPresent", "()Z"⟩ : MethodName) jdk_32_method_6_code 1 (some .boolean) [] ({ frames := 0, cells := 0, slots := 0, locals := 0 } : Room) #[(.ref a1)] h0 (fun v h L => v = some (.int (1 : Int32)) ∧ Fr n0 L ∧ h = h0) := by
  refine own_body own_pn_17 ?_
  intro p e s m below meth c s₁ hx hby hml hown hnm hret hlk X0 hZ e0
  replace hown : s.vm.findClass "java/util/Optional" = some m.cls := hown
  have N0 := Fr.nil n0
  have K0 := Keep.refl h0 []
  refine own_st (fun _ k => castTop (own_ef_rmo_isPresent_R m a1) k) ?_
  show own_go _ _ _ _ _ _ _ (s₁.setTop (mkF m 0 #[.val (.ref a1)] []))
  refine own_st (fun _ k => XS.aloadN X0.here hx rfl (hb hby d17_0) rfl rfl k) ?_
  show own_go _ _ _ _ _ _ _ (s₁.setTop (mkF m 1 #[.val (.ref a1)] [(.ref a1)]))
  obtain ⟨T54, X54, e54, st54⟩ := getF X0 hx hZ hown (host := "") (Or.inl (hw _ (List.mem_of_getElem? (i := 136) rfl))) Via.refl e0 F1 (g := (mkF m 1 #[.val (.ref a1)] [(.ref a1)])) rfl rfl (hb hby d17_1)
  refine own_st st54 ?_
  show own_go _ _ _ _ _ _ _ (T54.setTop (mkF m 4 #[.val (.ref a1)] [(.ref a2)]))
  refine own_st (fun _ k => XS.ifnullNo X54.here hx rfl (hb hby d17_4) rfl k) ?_
  show own_go _ _ _ _ _ _ _ (T54.setTop (mkF m 7 #[.val (.ref a1)] []))
  refine own_st (fun _ k => XS.iconst X54.here hx rfl (hb hby d17_7) k) ?_
  show own_go _ _ _ _ _ _ _ (T54.setTop (mkF m 8 #[.val (.ref a1)] [(.int (1 : Int32))]))
  refine own_st (fun _ k => XS.goto X54.here hx rfl (pc0 := 8) (pc' := 12) rfl (hb hby d17_8) (by decide) (by decide) k) ?_
  show own_go _ _ _ _ _ _ _ (T54.setTop (mkF m 12 #[.val (.ref a1)] [(.int (1 : Int32))]))
  exact own_retN X54 hx hlk (t := .boolean) hret (by simp) rfl (hb hby d17_12) (by decide) (by decide) (⟨rfl, N0, e54⟩)
theorem d17_11 : decode jdk_32_method_6_code 11 = .ok (.iconst 0, 1) := by decide +kernel
theorem own_ef_rmo_isPresent_N (m : MethodId) (a1 : Addr) : entryFrame m #[(.ref a1)] 1 = mkF m 0 #[.val (.ref a1)] [] := by first | (simp [entryFrame, mkF, argsToLocals, Value.category]; done) | rfl
set_option maxRecDepth 65536 in
set_option maxHeartbeats 40000000 in
theorem rmo_isPresent_N (l : Launch) (Z : State) (a0 : Array Value) (hw : ∀ d ∈ tables_1, d.before a0 Z = true) (a1 : Addr) (h0 : Heap) (n0 : Nat) (O0 : Old Z n0 h0) (F1 : Fld Z h0 a1 "java/util/Optional" "value" "Ljava/lang/Object;" .null) :
    own_Met l Z (⟨"java/util/Optional", "isPresent", "()Z"⟩ : MethodName) jdk_32_method_6_code 1 (some .boolean) [] ({ frames := 0, cells := 0, slots := 0, locals := 0 } : Room) #[(.ref a1)] h0 (fun v h L => v = some (.int (0 : Int32)) ∧ Fr n0 L ∧ h = h0) := by
  refine own_body own_pn_17 ?_
  intro p e s m below meth c s₁ hx hby hml hown hnm hret hlk X0 hZ e0
  replace hown : s.vm.findClass "java/util/Optional" = some m.cls := hown
  have N0 := Fr.nil n0
  have K0 := Keep.refl h0 []
  refine own_st (fun _ k => castTop (own_ef_rmo_isPresent_N m a1) k) ?_
  show own_go _ _ _ _ _ _ _ (s₁.setTop (mkF m 0 #[.val (.ref a1)] []))
  refine own_st (fun _ k => XS.aloadN X0.here hx rfl (hb hby d17_0) rfl rfl k) ?_
  show own_go _ _ _ _ _ _ _ (s₁.setTop (mkF m 1 #[.val (.ref a1)] [(.ref a1)]))
  obtain ⟨T55, X55, e55, st55⟩ := getF X0 hx hZ hown (host := "") (Or.inl (hw _ (List.mem_of_getElem? (i := 136) rfl))) Via.refl e0 F1 (g := (mkF m 1 #[.val (.ref a1)] [(.ref a1)])) rfl rfl (hb hby d17_1)
  refine own_st st55 ?_
  show own_go _ _ _ _ _ _ _ (T55.setTop (mkF m 4 #[.val (.ref a1)] [.null]))
  refine own_st (fun _ k => XS.ifnullYes X55.here hx rfl (pc0 := 4) (pc' := 11) rfl (hb hby d17_4) rfl (by decide) (by decide) k) ?_
  show own_go _ _ _ _ _ _ _ (T55.setTop (mkF m 11 #[.val (.ref a1)] []))
  refine own_st (fun _ k => XS.iconst X55.here hx rfl (hb hby d17_11) k) ?_
  show own_go _ _ _ _ _ _ _ (T55.setTop (mkF m 12 #[.val (.ref a1)] [(.int (0 : Int32))]))
  exact own_retN X55 hx hlk (t := .boolean) hret (by simp) rfl (hb hby d17_12) (by decide) (by decide) (⟨rfl, N0, e55⟩)
theorem d28_0 : decode jdk_32_method_5_code 0 = .ok (.aload_n 0, 1) := by decide +kernel
theorem d28_1 : decode jdk_32_method_5_code 1 = .ok (.getfield 13, 3) := by decide +kernel
theorem d28_4 : decode jdk_32_method_5_code 4 = .ok (.ifnonnull 13, 3) := by decide +kernel
theorem d28_17 : decode jdk_32_method_5_code 17 = .ok (.aload_n 0, 1) := by decide +kernel
theorem d28_18 : decode jdk_32_method_5_code 18 = .ok (.getfield 13, 3) := by decide +kernel
theorem d28_21 : decode jdk_32_method_5_code 21 = .ok (.areturn, 1) := by decide +kernel
theorem own_pn_28 : plainFor (⟨"java/util/Optional", "get", "()Ljava/lang/Object;"⟩ : MethodName) = true := plainFor_of_name (show plainName "java/util/Optional" = true by first | (simp [plainName, overriddenIn]; done) | decide +kernel)
theorem own_ef_rmo_get_R (m : MethodId) (a1 : Addr) : entryFrame m #[(.ref a1)] 1 = mkF m 0 #[.val (.ref a1)] [] := by first | (simp [entryFrame, mkF, argsToLocals, Value.category]; done) | rfl
set_option maxRecDepth 65536 in
set_option maxHeartbeats 40000000 in
theorem rmo_get_R (l : Launch) (Z : State) (a0 : Array Value) (hw : ∀ d ∈ tables_1, d.before a0 Z = true) (a1 a2 : Addr) (h0 : Heap) (n0 : Nat) (O0 : Old Z n0 h0) (F1 : Fld Z h0 a1 "java/util/Optional" "value" "Ljava/lang/Object;" (.ref a2)) :
    own_Met l Z (⟨"java/util/Optional", "get", "()Ljava/lang/Object;"⟩ : MethodName) jdk_32_method_5_code 1 (some (.object "java/lang/Object")) [] ({ frames := 0, cells := 0, slots := 0, locals := 0 } : Room) #[(.ref a1)] h0 (fun v h L => v = some (.ref a2) ∧ Fr n0 L ∧ h = h0) := by
  refine own_body own_pn_28 ?_
  intro p e s m below meth c s₁ hx hby hml hown hnm hret hlk X0 hZ e0
  replace hown : s.vm.findClass "java/util/Optional" = some m.cls := hown
  have N0 := Fr.nil n0
  have K0 := Keep.refl h0 []
  refine own_st (fun _ k => castTop (own_ef_rmo_get_R m a1) k) ?_
  show own_go _ _ _ _ _ _ _ (s₁.setTop (mkF m 0 #[.val (.ref a1)] []))
  refine own_st (fun _ k => XS.aloadN X0.here hx rfl (hb hby d28_0) rfl rfl k) ?_
  show own_go _ _ _ _ _ _ _ (s₁.setTop (mkF m 1 #[.val (.ref a1)] [(.ref a1)]))
  obtain ⟨T56, X56, e56, st56⟩ := getF X0 hx hZ hown (host := "") (Or.inl (hw _ (List.mem_of_getElem? (i := 136) rfl))) Via.refl e0 F1 (g := (mkF m 1 #[.val (.ref a1)] [(.ref a1)])) rfl rfl (hb hby d28_1)
  refine own_st st56 ?_
  show own_go _ _ _ _ _ _ _ (T56.setTop (mkF m 4 #[.val (.ref a1)] [(.ref a2)]))
  refine own_st (fun _ k => XS.ifnonnullYes X56.here hx rfl (pc0 := 4) (pc' := 17) rfl (hb hby d28_4) rfl (by decide) (by decide) k) ?_
  show own_go _ _ _ _ _ _ _ (T56.setTop (mkF m 17 #[.val (.ref a1)] []))
  refine own_st (fun _ k => XS.aloadN X56.here hx rfl (hb hby d28_17) rfl rfl k) ?_
  show own_go _ _ _ _ _ _ _ (T56.setTop (mkF m 18 #[.val (.ref a1)] [(.ref a1)]))
  obtain ⟨T57, X57, e57, st57⟩ := getF X56 hx hZ hown (host := "") (Or.inl (hw _ (List.mem_of_getElem? (i := 136) rfl))) Via.refl e56 F1 (g := (mkF m 18 #[.val (.ref a1)] [(.ref a1)])) rfl rfl (hb hby d28_18)
  refine own_st st57 ?_
  show own_go _ _ _ _ _ _ _ (T57.setTop (mkF m 21 #[.val (.ref a1)] [(.ref a2)]))
  exact own_retA X57 hx hlk hret rfl rfl (hb hby d28_21) (by decide) (by decide) (⟨rfl, N0, e57⟩)
theorem d14_0 : decode jdk_38_method_9_code 0 = .ok (.aload_n 0, 1) := by decide +kernel
theorem d14_1 : decode jdk_38_method_9_code 1 = .ok (.getfield 48, 3) := by decide +kernel
theorem d14_4 : decode jdk_38_method_9_code 4 = .ok (.ifCond .ne 7, 3) := by decide +kernel
theorem d14_7 : decode jdk_38_method_9_code 7 = .ok (.iconst 1, 1) := by decide +kernel
theorem d14_8 : decode jdk_38_method_9_code 8 = .ok (.goto 4, 3) := by decide +kernel
theorem d14_12 : decode jdk_38_method_9_code 12 = .ok (.ireturn, 1) := by decide +kernel
theorem own_pn_14 : plainFor (⟨"java/util/ArrayList", "isEmpty", "()Z"⟩ : MethodName) = true := plainFor_of_name (show plainName "java/util/ArrayList" = true by first | (simp [plainName, overriddenIn]; done) | decide +kernel)
theorem own_ef_rm_isE (m : MethodId) (a1 : Addr) : entryFrame m #[(.ref a1)] 1 = mkF m 0 #[.val (.ref a1)] [] := by first | (simp [entryFrame, mkF, argsToLocals, Value.category]; done) | rfl
set_option maxRecDepth 65536 in
set_option maxHeartbeats 40000000 in
theorem rm_isE (l : Launch) (Z : State) (a0 : Array Value) (hw : ∀ d ∈ tables_1, d.before a0 Z = true) (a1 : Addr) (h0 : Heap) (n0 : Nat) (O0 : Old Z n0 h0) (F_a1_size : Fld Z h0 a1 "java/util/ArrayList" "size" "I" (.int (0 : Int32))) :
    own_Met l Z (⟨"java/util/ArrayList", "isEmpty", "()Z"⟩ : MethodName) jdk_38_method_9_code 1 (some .boolean) [] ({ frames := 0, cells := 0, slots := 0, locals := 0 } : Room) #[(.ref a1)] h0 (fun v h L => v = some (.int (1 : Int32)) ∧ Fr n0 L ∧ h = h0) := by
  refine own_body own_pn_14 ?_
  intro p e s m below meth c s₁ hx hby hml hown hnm hret hlk X0 hZ e0
  replace hown : s.vm.findClass "java/util/ArrayList" = some m.cls := hown
  have N0 := Fr.nil n0
  have K0 := Keep.refl h0 []
  refine own_st (fun _ k => castTop (own_ef_rm_isE m a1) k) ?_
  show own_go _ _ _ _ _ _ _ (s₁.setTop (mkF m 0 #[.val (.ref a1)] []))
  refine own_st (fun _ k => XS.aloadN X0.here hx rfl (hb hby d14_0) rfl rfl k) ?_
  show own_go _ _ _ _ _ _ _ (s₁.setTop (mkF m 1 #[.val (.ref a1)] [(.ref a1)]))
  obtain ⟨T58, X58, e58, st58⟩ := getF X0 hx hZ hown (host := "") (Or.inl (hw _ (List.mem_of_getElem? (i := 119) rfl))) Via.refl e0 F_a1_size (g := (mkF m 1 #[.val (.ref a1)] [(.ref a1)])) rfl rfl (hb hby d14_1)
  refine own_st st58 ?_
  show own_go _ _ _ _ _ _ _ (T58.setTop (mkF m 4 #[.val (.ref a1)] [(.int (0 : Int32))]))
  refine own_st (fun _ k => XS.ifNo X58.here hx rfl (hb hby d14_4) rfl (by decide) k) ?_
  show own_go _ _ _ _ _ _ _ (T58.setTop (mkF m 7 #[.val (.ref a1)] []))
  refine own_st (fun _ k => XS.iconst X58.here hx rfl (hb hby d14_7) k) ?_
  show own_go _ _ _ _ _ _ _ (T58.setTop (mkF m 8 #[.val (.ref a1)] [(.int (1 : Int32))]))
  refine own_st (fun _ k => XS.goto X58.here hx rfl (pc0 := 8) (pc' := 12) rfl (hb hby d14_8) (by decide) (by decide) k) ?_
  show own_go _ _ _ _ _ _ _ (T58.setTop (mkF m 12 #[.val (.ref a1)] [(.int (1 : Int32))]))
  exact own_retN X58 hx hlk (t := .boolean) hret (by simp) rfl (hb hby d14_12) (by decide) (by decide) (⟨rfl, N0, e58⟩)
theorem d19_0 : decode jdk_49_method_1_code 0 = .ok (.aload_n 0, 1) := by decide +kernel
theorem d19_1 : decode jdk_49_method_1_code 1 = .ok (.aload_n 1, 1) := by decide +kernel
theorem d19_2 : decode jdk_49_method_1_code 2 = .ok (.putfield 1, 3) := by decide +kernel
theorem d19_5 : decode jdk_49_method_1_code 5 = .ok (.aload_n 0, 1) := by decide +kernel
theorem d19_6 : decode jdk_49_method_1_code 6 = .ok (.invokespecial 7, 3) := by decide +kernel
theorem d19_9 : decode jdk_49_method_1_code 9 = .ok (.aload_n 0, 1) := by decide +kernel
theorem d19_10 : decode jdk_49_method_1_code 10 = .ok (.iconst (-1), 1) := by decide +kernel
theorem d19_11 : decode jdk_49_method_1_code 11 = .ok (.putfield 13, 3) := by decide +kernel
theorem d19_14 : decode jdk_49_method_1_code 14 = .ok (.aload_n 0, 1) := by decide +kernel
theorem d19_15 : decode jdk_49_method_1_code 15 = .ok (.aload_n 0, 1) := by decide +kernel
theorem d19_16 : decode jdk_49_method_1_code 16 = .ok (.getfield 1, 3) := by decide +kernel
theorem d19_19 : decode jdk_49_method_1_code 19 = .ok (.getfield 17, 3) := by decide +kernel
theorem d19_22 : decode jdk_49_method_1_code 22 = .ok (.putfield 22, 3) := by decide +kernel
theorem d19_25 : decode jdk_49_method_1_code 25 = .ok (.return_, 1) := by decide +kernel
theorem own_pn_19 : plainFor (⟨"java/util/ArrayList$Itr", "<init>", "(Ljava/util/ArrayList;)V"⟩ : MethodName) = true := plainFor_of_name (show plainName "java/util/ArrayList$Itr" = true by first | (simp [plainName, overriddenIn]; done) | decide +kernel)
theorem own_ef_rm_itinit (m : MethodId) (a1 : Addr) (a2 : Addr) : entryFrame m #[(.ref a1), (.ref a2)] 2 = mkF m 0 #[.val (.ref a1), .val (.ref a2)] [] := by first | (simp [entryFrame, mkF, argsToLocals, Value.category]; done) | rfl
set_option maxRecDepth 65536 in
set_option maxHeartbeats 40000000 in
theorem rm_itinit (l : Launch) (Z : State) (a0 : Array Value) (hw : ∀ d ∈ tables_1, d.before a0 Z = true) (a1 a2 : Addr) (h0 : Heap) (n0 : Nat) (O0 : Old Z n0 h0) (ge_a1 : n0 ≤ a1) (E_a1 : Exa Z h0 a1 "java/util/ArrayList$Itr") (F_a1_cursor : Fld Z h0 a1 "java/util/ArrayList$Itr" "cursor" "I" (.int (0 : Int32))) (F_a1_lastRet : Fld Z h0 a1 "java/util/ArrayList$Itr" "lastRet" "I" (.int (0 : Int32))) (F_a1_expectedModCount : Fld Z h0 a1 "java/util/ArrayList$Itr" "expectedModCount" "I" (.int (0 : Int32))) (F_a1_this_0 : Fld Z h0 a1 "java/util/ArrayList$Itr" "this$0" "Ljava/util/ArrayList;" .null) (E_a2 : Exa Z h0 a2 "java/util/ArrayList") (F_a2_modCount : Fld Z h0 a2 "java/util/AbstractList" "modCount" "I" (.int (0 : Int32))) :
    own_Met l Z (⟨"java/util/ArrayList$Itr", "<init>", "(Ljava/util/ArrayList;)V"⟩ : MethodName) jdk_49_method_1_code 2 none [] ({ frames := 1, cells := 0, slots := 0, locals := 12 } : Room) #[(.ref a1), (.ref a2)] h0 (fun v h L => v = none ∧ Fr n0 L ∧ Keep h0 h [a1] ∧ Fld Z h a1 "java/util/ArrayList$Itr" "cursor" "I" (.int (0 : Int32)) ∧ Fld Z h a1 "java/util/ArrayList$Itr" "lastRet" "I" (.int (-1 : Int32)) ∧ Fld Z h a1 "java/util/ArrayList$Itr" "expectedModCount" "I" (.int (0 : Int32)) ∧ Fld Z h a1 "java/util/ArrayList$Itr" "this$0" "Ljava/util/ArrayList;" (.ref a2)) := by
  refine own_body own_pn_19 ?_
  intro p e s m below meth c s₁ hx hby hml hown hnm hret hlk X0 hZ e0
  replace hown : s.vm.findClass "java/util/ArrayList$Itr" = some m.cls := hown
  have N0 := Fr.nil n0
  have K0 := Keep.refl h0 [a1]
  refine own_st (fun _ k => castTop (own_ef_rm_itinit m a1 a2) k) ?_
  show own_go _ _ _ _ _ _ _ (s₁.setTop (mkF m 0 #[.val (.ref a1), .val (.ref a2)] []))
  refine own_st (fun _ k => XS.aloadN X0.here hx rfl (hb hby d19_0) rfl rfl k) ?_
  show own_go _ _ _ _ _ _ _ (s₁.setTop (mkF m 1 #[.val (.ref a1), .val (.ref a2)] [(.ref a1)]))
  refine own_st (fun _ k => XS.aloadN X0.here hx rfl (hb hby d19_1) rfl rfl k) ?_
  show own_go _ _ _ _ _ _ _ (s₁.setTop (mkF m 2 #[.val (.ref a1), .val (.ref a2)] [(.ref a2), (.ref a1)]))
  obtain ⟨T59, h59, X59, e59, W59, st59⟩ := putF X0 hx hZ hown (host := "") (Or.inl (hw _ (List.mem_of_getElem? (i := 153) rfl))) Via.refl e0 F_a1_this_0 E_a1 (Or.inr ⟨(hw _ (List.mem_of_getElem? (i := 154) rfl)), rfl, hnm⟩) (hw _ (List.mem_of_getElem? (i := 147) rfl)) (ty := (.object "java/util/ArrayList")) (by decide) rfl rfl (g := (mkF m 2 #[.val (.ref a1), .val (.ref a2)] [(.ref a2), (.ref a1)])) rfl rfl (hb hby d19_2)
  have N59 := Fr.snoc X59 N0 ge_a1
  have O60 := O0.wr W59 ge_a1
  have K60 := K0.wr W59 (Or.inl (List.mem_of_getElem? (i := 0) rfl))
  have F59 := F_a1_this_0.same W59
  refine own_st st59 ?_
  show own_go _ _ _ _ _ _ _ (T59.setTop (mkF m 5 #[.val (.ref a1), .val (.ref a2)] []))
  refine own_st (fun _ k => XS.aloadN X59.here hx rfl (hb hby d19_5) rfl rfl k) ?_
  show own_go _ _ _ _ _ _ _ (T59.setTop (mkF m 6 #[.val (.ref a1), .val (.ref a2)] [(.ref a1)]))
  obtain ⟨T62, X62, e62, st62⟩ := initO X59 hx hZ hown (hw _ (List.mem_of_getElem? (i := 155) rfl)) (hw _ (List.mem_of_getElem? (i := 8) rfl)) (hw _ (List.mem_of_getElem? (i := 9) rfl)) e59 (g := (mkF m 6 #[.val (.ref a1), .val (.ref a2)] [(.ref a1)])) rfl (by rw [hml]; rfl) rfl (hb hby d19_6) (by decide) (W := 0) (by show 2 * 0 + _ ≤ _; exact Nat.le_of_eq rfl) (by decide)
  refine own_st st62 ?_
  show own_go _ _ _ _ _ _ _ (T62.setTop (mkF m 9 #[.val (.ref a1), .val (.ref a2)] []))
  refine own_st (fun _ k => XS.aloadN X62.here hx rfl (hb hby d19_9) rfl rfl k) ?_
  show own_go _ _ _ _ _ _ _ (T62.setTop (mkF m 10 #[.val (.ref a1), .val (.ref a2)] [(.ref a1)]))
  refine own_st (fun _ k => XS.iconst X62.here hx rfl (hb hby d19_10) k) ?_
  show own_go _ _ _ _ _ _ _ (T62.setTop (mkF m 11 #[.val (.ref a1), .val (.ref a2)] [(.int (-1 : Int32)), (.ref a1)]))
  have f64 := (F_a1_lastRet.other W59 (Or.inr (slot_ne (Or.inl (hw _ (List.mem_of_getElem? (i := 157) rfl))) (Or.inr (hw _ (List.mem_of_getElem? (i := 154) rfl))) (by decide) (t := .int) (t' := (.object "java/util/ArrayList")) (by decide) (by decide))))
  have f65 := (E_a1.wr W59)
  obtain ⟨T63, h63, X63, e63, W63, st63⟩ := putF X62 hx hZ hown (host := "") (Or.inl (hw _ (List.mem_of_getElem? (i := 156) rfl))) Via.refl e62 f64 f65 (Or.inl (hw _ (List.mem_of_getElem? (i := 157) rfl))) (hw _ (List.mem_of_getElem? (i := 147) rfl)) (ty := .int) (by decide) rfl rfl (g := (mkF m 11 #[.val (.ref a1), .val (.ref a2)] [(.int (-1 : Int32)), (.ref a1)])) rfl rfl (hb hby d19_11)
  have N63 := Fr.snoc X63 N59 ge_a1
  have O66 := O60.wr W63 ge_a1
  have K66 := K60.wr W63 (Or.inl (List.mem_of_getElem? (i := 0) rfl))
  have F63 := f64.same W63
  refine own_st st63 ?_
  show own_go _ _ _ _ _ _ _ (T63.setTop (mkF m 14 #[.val (.ref a1), .val (.ref a2)] []))
  refine own_st (fun _ k => XS.aloadN X63.here hx rfl (hb hby d19_14) rfl rfl k) ?_
  show own_go _ _ _ _ _ _ _ (T63.setTop (mkF m 15 #[.val (.ref a1), .val (.ref a2)] [(.ref a1)]))
  refine own_st (fun _ k => XS.aloadN X63.here hx rfl (hb hby d19_15) rfl rfl k) ?_
  show own_go _ _ _ _ _ _ _ (T63.setTop (mkF m 16 #[.val (.ref a1), .val (.ref a2)] [(.ref a1), (.ref a1)]))
  have f67 := (F59.other W63 (Or.inr (slot_ne (Or.inr (hw _ (List.mem_of_getElem? (i := 154) rfl))) (Or.inl (hw _ (List.mem_of_getElem? (i := 157) rfl))) (by decide) (t := (.object "java/util/ArrayList")) (t' := .int) (by decide) (by decide))))
  obtain ⟨T68, X68, e68, st68⟩ := getF X63 hx hZ hown (host := "") (Or.inl (hw _ (List.mem_of_getElem? (i := 153) rfl))) Via.refl e63 f67 (g := (mkF m 16 #[.val (.ref a1), .val (.ref a2)] [(.ref a1), (.ref a1)])) rfl rfl (hb hby d19_16)
  refine own_st st68 ?_
  show own_go _ _ _ _ _ _ _ (T68.setTop (mkF m 19 #[.val (.ref a1), .val (.ref a2)] [(.ref a2), (.ref a1)]))
  have f69 := ((E_a2.wr W59).wr W63)
  have f70 := (f65.wr W63)
  have ne_a2_a1 : a2 ≠ a1 := ne_exa f69 f70 (by decide)
  have f71 := ((F_a2_modCount.other W59 (Or.inl ne_a2_a1)).other W63 (Or.inl ne_a2_a1))
  obtain ⟨T72, X72, e72, st72⟩ := getF X68 hx hZ hown (host := "") (Or.inl (hw _ (List.mem_of_getElem? (i := 158) rfl))) (Via.of (hw _ (List.mem_of_getElem? (i := 159) rfl))) e68 f71 (g := (mkF m 19 #[.val (.ref a1), .val (.ref a2)] [(.ref a2), (.ref a1)])) rfl rfl (hb hby d19_19)
  refine own_st st72 ?_
  show own_go _ _ _ _ _ _ _ (T72.setTop (mkF m 22 #[.val (.ref a1), .val (.ref a2)] [(.int (0 : Int32)), (.ref a1)]))
  have f74 := ((F_a1_expectedModCount.other W59 (Or.inr (slot_ne (Or.inl (hw _ (List.mem_of_getElem? (i := 161) rfl))) (Or.inr (hw _ (List.mem_of_getElem? (i := 154) rfl))) (by decide) (t := .int) (t' := (.object "java/util/ArrayList")) (by decide) (by decide)))).other W63 (Or.inr (slot_ne (Or.inl (hw _ (List.mem_of_getElem? (i := 161) rfl))) (Or.inl (hw _ (List.mem_of_getElem? (i := 157) rfl))) (by decide) (t := .int) (t' := .int) (by decide) (by decide))))
  obtain ⟨T73, h73, X73, e73, W73, st73⟩ := putF X72 hx hZ hown (host := "") (Or.inl (hw _ (List.mem_of_getElem? (i := 160) rfl))) Via.refl e72 f74 f70 (Or.inl (hw _ (List.mem_of_getElem? (i := 161) rfl))) (hw _ (List.mem_of_getElem? (i := 147) rfl)) (ty := .int) (by decide) rfl rfl (g := (mkF m 22 #[.val (.ref a1), .val (.ref a2)] [(.int (0 : Int32)), (.ref a1)])) rfl rfl (hb hby d19_22)
  have N73 := Fr.snoc X73 N63 ge_a1
  have O75 := O66.wr W73 ge_a1
  have K75 := K66.wr W73 (Or.inl (List.mem_of_getElem? (i := 0) rfl))
  have F73 := f74.same W73
  refine own_st st73 ?_
  show own_go _ _ _ _ _ _ _ (T73.setTop (mkF m 25 #[.val (.ref a1), .val (.ref a2)] []))
  have f76 := (((F_a1_cursor.other W59 (Or.inr (slot_ne (Or.inl (hw _ (List.mem_of_getElem? (i := 172) rfl))) (Or.inr (hw _ (List.mem_of_getElem? (i := 154) rfl))) (by decide) (t := .int) (t' := (.object "java/util/ArrayList")) (by decide) (by decide)))).other W63 (Or.inr (slot_ne (Or.inl (hw _ (List.mem_of_getElem? (i := 172) rfl))) (Or.inl (hw _ (List.mem_of_getElem? (i := 157) rfl))) (by decide) (t := .int) (t' := .int) (by decide) (by decide)))).other W73 (Or.inr (slot_ne (Or.inl (hw _ (List.mem_of_getElem? (i := 172) rfl))) (Or.inl (hw _ (List.mem_of_getElem? (i := 161) rfl))) (by decide) (t := .int) (t' := .int) (by decide) (by decide))))
  have f77 := (F63.other W73 (Or.inr (slot_ne (Or.inl (hw _ (List.mem_of_getElem? (i := 157) rfl))) (Or.inl (hw _ (List.mem_of_getElem? (i := 161) rfl))) (by decide) (t := .int) (t' := .int) (by decide) (by decide))))
  have f78 := (f67.other W73 (Or.inr (slot_ne (Or.inr (hw _ (List.mem_of_getElem? (i := 154) rfl))) (Or.inl (hw _ (List.mem_of_getElem? (i := 161) rfl))) (by decide) (t := (.object "java/util/ArrayList")) (t' := .int) (by decide) (by decide))))
  exact own_ret0 X73 hx hlk hret (hb hby d19_25) (by decide) (by decide) (by rw [e73]; exact ⟨rfl, N73, K75, f76, f77, F73, f78⟩)
theorem d18_0 : decode jdk_38_method_55_code 0 = .ok (.new 267, 3) := by decide +kernel
theorem d18_3 : decode jdk_38_method_55_code 3 = .ok (.dup, 1) := by decide +kernel
theorem d18_4 : decode jdk_38_method_55_code 4 = .ok (.aload_n 0, 1) := by decide +kernel
theorem d18_5 : decode jdk_38_method_55_code 5 = .ok (.invokespecial 269, 3) := by decide +kernel
theorem d18_8 : decode jdk_38_method_55_code 8 = .ok (.areturn, 1) := by decide +kernel
theorem own_pn_18 : plainFor (⟨"java/util/ArrayList", "iterator", "()Ljava/util/Iterator;"⟩ : MethodName) = true := plainFor_of_name (show plainName "java/util/ArrayList" = true by first | (simp [plainName, overriddenIn]; done) | decide +kernel)
theorem own_pd__28Ljava_2futil_2fArrayList_3b_29V : parseMethodDescriptor "(Ljava/util/ArrayList;)V" = some ⟨[(.object "java/util/ArrayList")], none⟩ := by decide +kernel
theorem own_ef_rm_iter (m : MethodId) (a2 : Addr) : entryFrame m #[(.ref a2)] 1 = mkF m 0 #[.val (.ref a2)] [] := by first | (simp [entryFrame, mkF, argsToLocals, Value.category]; done) | rfl
set_option maxRecDepth 65536 in
set_option maxHeartbeats 40000000 in
theorem rm_iter (l : Launch) (Z : State) (a0 : Array Value) (hw : ∀ d ∈ tables_1, d.before a0 Z = true) (a2 : Addr) (h0 : Heap) (n0 : Nat) (O0 : Old Z n0 h0) (E_a2 : Exa Z h0 a2 "java/util/ArrayList") (F_a2_modCount : Fld Z h0 a2 "java/util/AbstractList" "modCount" "I" (.int (0 : Int32))) :
    own_Met l Z (⟨"java/util/ArrayList", "iterator", "()Ljava/util/Iterator;"⟩ : MethodName) jdk_38_method_55_code 1 (some (.object "java/util/Iterator")) [] ({ frames := 2, cells := 1, slots := 4, locals := 40 } : Room) #[(.ref a2)] h0 (fun v h L => ∃ a, v = some (.ref a) ∧ Fr n0 L ∧ Keep h0 h [] ∧ h0.size ≤ a ∧ Exa Z h a "java/util/ArrayList$Itr" ∧ Fld Z h a "java/util/ArrayList$Itr" "cursor" "I" (.int (0 : Int32)) ∧ Fld Z h a "java/util/ArrayList$Itr" "this$0" "Ljava/util/ArrayList;" (.ref a2)) := by
  refine own_body own_pn_18 ?_
  intro p e s m below meth c s₁ hx hby hml hown hnm hret hlk X0 hZ e0
  replace hown : s.vm.findClass "java/util/ArrayList" = some m.cls := hown
  have N0 := Fr.nil n0
  have K0 := Keep.refl h0 []
  refine own_st (fun _ k => castTop (own_ef_rm_iter m a2) k) ?_
  show own_go _ _ _ _ _ _ _ (s₁.setTop (mkF m 0 #[.val (.ref a2)] []))
  obtain ⟨T79, h79, X79, e79, E79, A79, D79, -, st79⟩ := newO X0 hx hZ hown (hw _ (List.mem_of_getElem? (i := 146) rfl)) (hw _ (List.mem_of_getElem? (i := 147) rfl)) (hw _ (List.mem_of_getElem? (i := 148) rfl)) e0 (g := (mkF m 0 #[.val (.ref a2)] [])) rfl (hb hby d18_0) (by decide) (by decide)
  obtain ⟨b79, g79⟩ : ∃ z, z = h0.size := ⟨_, rfl⟩
  rw [← g79] at A79 D79 st79
  have ge_b79 : n0 ≤ b79 := by rw [g79]; exact own_osz O0
  have sz_b79 : h0.size ≤ b79 := by rw [g79]; exact K0.1
  have ne_a2_b79 : a2 ≠ b79 := (fun q => absurd E_a2.lt (by rw [q, g79]; exact Nat.lt_irrefl _))
  have O79 := O0.ext E79
  have K79 := K0.ext E79
  refine own_st st79 ?_
  show own_go _ _ _ _ _ _ _ (T79.setTop (mkF m 3 #[.val (.ref a2)] [(.ref b79)]))
  refine own_st (fun _ k => XS.dup X79.here hx rfl (hb hby d18_3) rfl rfl k) ?_
  show own_go _ _ _ _ _ _ _ (T79.setTop (mkF m 4 #[.val (.ref a2)] [(.ref b79), (.ref b79)]))
  refine own_st (fun _ k => XS.aloadN X79.here hx rfl (hb hby d18_4) rfl rfl k) ?_
  show own_go _ _ _ _ _ _ _ (T79.setTop (mkF m 5 #[.val (.ref a2)] [(.ref a2), (.ref b79), (.ref b79)]))
  have f81 := (E_a2.ext E79)
  have f82 := (F_a2_modCount.ext E79)
  obtain ⟨v80, T80, L80, X80, hQ80, st80⟩ := own_callN X79 hx hZ (argsL := [(.ref a2)]) (rest := [(.ref b79)]) (rm_itinit l Z a0 hw b79 a2 h79 n0 O79 ge_b79 A79 (D79 (Or.inl (hw _ (List.mem_of_getElem? (i := 172) rfl))) (ty := .int) (by decide)) (D79 (Or.inl (hw _ (List.mem_of_getElem? (i := 157) rfl))) (ty := .int) (by decide)) (D79 (Or.inl (hw _ (List.mem_of_getElem? (i := 161) rfl))) (ty := .int) (by decide)) (D79 (Or.inr (hw _ (List.mem_of_getElem? (i := 154) rfl))) (ty := (.object "java/util/ArrayList")) (by decide)) f81 f82) rfl hown (hw _ (List.mem_of_getElem? (i := 149) rfl)) (hw _ (List.mem_of_getElem? (i := 150) rfl)) (hw _ (List.mem_of_getElem? (i := 148) rfl)) (hw _ (List.mem_of_getElem? (i := 152) rfl)) (by decide) e79 (g := (mkF m 5 #[.val (.ref a2)] [(.ref a2), (.ref b79), (.ref b79)])) rfl (by rw [hml]; rfl) (lenOf own_pd__28Ljava_2futil_2fArrayList_3b_29V rfl) rfl (W := 1) (by show 2 * 0 + _ ≤ _; exact Nat.le_of_eq rfl) (hb hby d18_5) (by decide) (by decide) (by decide) (by decide)
  obtain ⟨rfl, Nq80, Kq80, F80_0, F80_1, F80_2, F80_3⟩ := hQ80
  have N80 := Fr.app N0 Nq80
  have O80 := O79.keep Kq80 (allS ge_b79 all0)
  have K80 := K79.trans Kq80 (allS (Or.inr sz_b79) all0)
  refine own_st st80 ?_
  show own_go _ _ _ _ _ _ _ (T80.setTop (mkF m 8 #[.val (.ref a2)] [(.ref b79)]))
  have f83 := (A79.keep Kq80)
  exact own_retA X80 hx hlk hret rfl rfl (hb hby d18_8) (by decide) (by decide) ⟨_, rfl, N80, K80, sz_b79, f83, F80_0, F80_3⟩
theorem d20_0 : decode jdk_49_method_2_code 0 = .ok (.aload_n 0, 1) := by decide +kernel
theorem d20_1 : decode jdk_49_method_2_code 1 = .ok (.getfield 25, 3) := by decide +kernel
theorem d20_4 : decode jdk_49_method_2_code 4 = .ok (.aload_n 0, 1) := by decide +kernel
theorem d20_5 : decode jdk_49_method_2_code 5 = .ok (.getfield 1, 3) := by decide +kernel
theorem d20_8 : decode jdk_49_method_2_code 8 = .ok (.getfield 28, 3) := by decide +kernel
theorem d20_11 : decode jdk_49_method_2_code 11 = .ok (.if_icmp .eq 7, 3) := by decide +kernel
theorem d20_18 : decode jdk_49_method_2_code 18 = .ok (.iconst 0, 1) := by decide +kernel
theorem d20_19 : decode jdk_49_method_2_code 19 = .ok (.ireturn, 1) := by decide +kernel
theorem own_pn_20 : plainFor (⟨"java/util/ArrayList$Itr", "hasNext", "()Z"⟩ : MethodName) = true := plainFor_of_name (show plainName "java/util/ArrayList$Itr" = true by first | (simp [plainName, overriddenIn]; done) | decide +kernel)
theorem own_ef_rm_hn (m : MethodId) (a1 : Addr) : entryFrame m #[(.ref a1)] 1 = mkF m 0 #[.val (.ref a1)] [] := by first | (simp [entryFrame, mkF, argsToLocals, Value.category]; done) | rfl
set_option maxRecDepth 65536 in
set_option maxHeartbeats 40000000 in
theorem rm_hn (l : Launch) (Z : State) (a0 : Array Value) (hw : ∀ d ∈ tables_1, d.before a0 Z = true) (a1 a2 : Addr) (h0 : Heap) (n0 : Nat) (O0 : Old Z n0 h0) (F_a1_cursor : Fld Z h0 a1 "java/util/ArrayList$Itr" "cursor" "I" (.int (0 : Int32))) (F_a1_this_0 : Fld Z h0 a1 "java/util/ArrayList$Itr" "this$0" "Ljava/util/ArrayList;" (.ref a2)) (F_a2_size : Fld Z h0 a2 "java/util/ArrayList" "size" "I" (.int (0 : Int32))) :
    own_Met l Z (⟨"java/util/ArrayList$Itr", "hasNext", "()Z"⟩ : MethodName) jdk_49_method_2_code 1 (some .boolean) [] ({ frames := 0, cells := 0, slots := 0, locals := 0 } : Room) #[(.ref a1)] h0 (fun v h L => v = some (.int (0 : Int32)) ∧ Fr n0 L ∧ h = h0) := by
  refine own_body own_pn_20 ?_
  intro p e s m below meth c s₁ hx hby hml hown hnm hret hlk X0 hZ e0
  replace hown : s.vm.findClass "java/util/ArrayList$Itr" = some m.cls := hown
  have N0 := Fr.nil n0
  have K0 := Keep.refl h0 []
  refine own_st (fun _ k => castTop (own_ef_rm_hn m a1) k) ?_
  show own_go _ _ _ _ _ _ _ (s₁.setTop (mkF m 0 #[.val (.ref a1)] []))
  refine own_st (fun _ k => XS.aloadN X0.here hx rfl (hb hby d20_0) rfl rfl k) ?_
  show own_go _ _ _ _ _ _ _ (s₁.setTop (mkF m 1 #[.val (.ref a1)] [(.ref a1)]))
  obtain ⟨T84, X84, e84, st84⟩ := getF X0 hx hZ hown (host := "") (Or.inl (hw _ (List.mem_of_getElem? (i := 171) rfl))) Via.refl e0 F_a1_cursor (g := (mkF m 1 #[.val (.ref a1)] [(.ref a1)])) rfl rfl (hb hby d20_1)
  refine own_st st84 ?_
  show own_go _ _ _ _ _ _ _ (T84.setTop (mkF m 4 #[.val (.ref a1)] [(.int (0 : Int32))]))
  refine own_st (fun _ k => XS.aloadN X84.here hx rfl (hb hby d20_4) rfl rfl k) ?_
  show own_go _ _ _ _ _ _ _ (T84.setTop (mkF m 5 #[.val (.ref a1)] [(.ref a1), (.int (0 : Int32))]))
  obtain ⟨T85, X85, e85, st85⟩ := getF X84 hx hZ hown (host := "") (Or.inl (hw _ (List.mem_of_getElem? (i := 153) rfl))) Via.refl e84 F_a1_this_0 (g := (mkF m 5 #[.val (.ref a1)] [(.ref a1), (.int (0 : Int32))])) rfl rfl (hb hby d20_5)
  refine own_st st85 ?_
  show own_go _ _ _ _ _ _ _ (T85.setTop (mkF m 8 #[.val (.ref a1)] [(.ref a2), (.int (0 : Int32))]))
  obtain ⟨T86, X86, e86, st86⟩ := getF X85 hx hZ hown (Or.inr (hw _ (List.mem_of_getElem? (i := 173) rfl))) Via.refl e85 F_a2_size (g := (mkF m 8 #[.val (.ref a1)] [(.ref a2), (.int (0 : Int32))])) rfl rfl (hb hby d20_8)
  refine own_st st86 ?_
  show own_go _ _ _ _ _ _ _ (T86.setTop (mkF m 11 #[.val (.ref a1)] [(.int (0 : Int32)), (.int (0 : Int32))]))
  refine own_st (fun _ k => XS.icmpYes X86.here hx rfl (pc0 := 11) (pc' := 18) rfl (hb hby d20_11) rfl (by decide) (by decide) (by decide) k) ?_
  show own_go _ _ _ _ _ _ _ (T86.setTop (mkF m 18 #[.val (.ref a1)] []))
  refine own_st (fun _ k => XS.iconst X86.here hx rfl (hb hby d20_18) k) ?_
  show own_go _ _ _ _ _ _ _ (T86.setTop (mkF m 19 #[.val (.ref a1)] [(.int (0 : Int32))]))
  exact own_retN X86 hx hlk (t := .boolean) hret (by simp) rfl (hb hby d20_19) (by decide) (by decide) (⟨rfl, N0, e86⟩)
theorem d1_0 : decode prog_12_method_1_code 0 = .ok (.aload_n 0, 1) := by decide +kernel
theorem d1_1 : decode prog_12_method_1_code 1 = .ok (.invokespecial 1, 3) := by decide +kernel
theorem d1_4 : decode prog_12_method_1_code 4 = .ok (.aload_n 0, 1) := by decide +kernel
theorem d1_5 : decode prog_12_method_1_code 5 = .ok (.new 7, 3) := by decide +kernel
theorem d1_8 : decode prog_12_method_1_code 8 = .ok (.dup, 1) := by decide +kernel
theorem d1_9 : decode prog_12_method_1_code 9 = .ok (.invokespecial 9, 3) := by decide +kernel
theorem d1_12 : decode prog_12_method_1_code 12 = .ok (.putfield 10, 3) := by decide +kernel
theorem d1_15 : decode prog_12_method_1_code 15 = .ok (.aload_n 0, 1) := by decide +kernel
theorem d1_16 : decode prog_12_method_1_code 16 = .ok (.ldc2_w 18, 3) := by decide +kernel
theorem d1_19 : decode prog_12_method_1_code 19 = .ok (.putfield 20, 3) := by decide +kernel
theorem d1_22 : decode prog_12_method_1_code 22 = .ok (.aload_n 0, 1) := by decide +kernel
theorem d1_23 : decode prog_12_method_1_code 23 = .ok (.iconst 0, 1) := by decide +kernel
theorem d1_24 : decode prog_12_method_1_code 24 = .ok (.anewarray 24, 3) := by decide +kernel
theorem d1_27 : decode prog_12_method_1_code 27 = .ok (.putfield 26, 3) := by decide +kernel
theorem d1_30 : decode prog_12_method_1_code 30 = .ok (.return_, 1) := by decide +kernel
theorem own_pn_1 : plainFor (⟨"com/example/usher/usher/OutboxRuns", "<init>", "()V"⟩ : MethodName) = true := plainFor_of_name (show plainName "com/example/usher/usher/OutboxRuns" = true by first | (simp [plainName, overriddenIn]; done) | decide +kernel)
theorem own_ef_rm_oinit (m : MethodId) (a1 : Addr) : entryFrame m #[(.ref a1)] 1 = mkF m 0 #[.val (.ref a1)] [] := by first | (simp [entryFrame, mkF, argsToLocals, Value.category]; done) | rfl
set_option maxRecDepth 65536 in
set_option maxHeartbeats 40000000 in
theorem rm_oinit (l : Launch) (Z : State) (a0 : Array Value) (hw : ∀ d ∈ tables_1, d.before a0 Z = true) (a1 : Addr) (c_EMPTY_ELEMENTDATA : Addr) (c_DEFAULTCAPACITY_EMPTY_ELEMENTDATA : Addr) (c_cache : Addr) (c_EMPTY : Addr) (h0 : Heap) (n0 : Nat) (O0 : Old Z n0 h0) (hS : own_S Z c_EMPTY_ELEMENTDATA c_DEFAULTCAPACITY_EMPTY_ELEMENTDATA c_cache c_EMPTY) (ge_a1 : n0 ≤ a1) (E_a1 : Exa Z h0 a1 "com/example/usher/usher/OutboxRuns") (F_a1_runs : Fld Z h0 a1 "com/example/usher/usher/OutboxRuns" "runs" "Ljava/util/List;" .null) (F_a1_learntTo : Fld Z h0 a1 "com/example/usher/usher/OutboxRuns" "learntTo" "J" (.long (0 : Int64))) (F_a1_outOfOrder : Fld Z h0 a1 "com/example/usher/usher/OutboxRuns" "outOfOrder" "Ljava/math/BigDecimal;" .null) (F_a1_fewestRows : Fld Z h0 a1 "com/example/usher/usher/OutboxRuns" "fewestRows" "J" (.long (0 : Int64))) (F_a1_settled : Fld Z h0 a1 "com/example/usher/usher/OutboxRuns" "settled" "J" (.long (0 : Int64))) (F_a1_seenLast : Fld Z h0 a1 "com/example/usher/usher/OutboxRuns" "seenLast" "Ljava/lang/Long;" .null) (F_a1_seenWriters : Fld Z h0 a1 "com/example/usher/usher/OutboxRuns" "seenWriters" "[Ljava/lang/String;" .null) :
    own_Met l Z (⟨"com/example/usher/usher/OutboxRuns", "<init>", "()V"⟩ : MethodName) prog_12_method_1_code 1 none [] ({ frames := 4, cells := 2, slots := 3, locals := 50 } : Room) #[(.ref a1)] h0 (fun v h L => v = none ∧ Fr n0 L ∧ Keep h0 h [a1] ∧ ∃ al sw, h0.size ≤ al ∧ Exa Z h al "java/util/ArrayList" ∧ Fld Z h al "java/util/AbstractList" "modCount" "I" (.int (0 : Int32)) ∧ Fld Z h al "java/util/ArrayList" "elementData" "[Ljava/lang/Object;" (.ref c_DEFAULTCAPACITY_EMPTY_ELEMENTDATA) ∧ Fld Z h al "java/util/ArrayList" "size" "I" (.int (0 : Int32)) ∧ Fld Z h a1 "com/example/usher/usher/OutboxRuns" "runs" "Ljava/util/List;" (.ref al) ∧ Fld Z h a1 "com/example/usher/usher/OutboxRuns" "learntTo" "J" (.long (0 : Int64)) ∧ Fld Z h a1 "com/example/usher/usher/OutboxRuns" "outOfOrder" "Ljava/math/BigDecimal;" .null ∧ Fld Z h a1 "com/example/usher/usher/OutboxRuns" "fewestRows" "J" (.long (9223372036854775807 : Int64)) ∧ Fld Z h a1 "com/example/usher/usher/OutboxRuns" "settled" "J" (.long (0 : Int64)) ∧ Fld Z h a1 "com/example/usher/usher/OutboxRuns" "seenLast" "Ljava/lang/Long;" .null ∧ Fld Z h a1 "com/example/usher/usher/OutboxRuns" "seenWriters" "[Ljava/lang/String;" (.ref sw)) := by
  refine own_body own_pn_1 ?_
  intro p e s m below meth c s₁ hx hby hml hown hnm hret hlk X0 hZ e0
  replace hown : s.vm.findClass "com/example/usher/usher/OutboxRuns" = some m.cls := hown
  have N0 := Fr.nil n0
  have K0 := Keep.refl h0 [a1]
  refine own_st (fun _ k => castTop (own_ef_rm_oinit m a1) k) ?_
  show own_go _ _ _ _ _ _ _ (s₁.setTop (mkF m 0 #[.val (.ref a1)] []))
  refine own_st (fun _ k => XS.aloadN X0.here hx rfl (hb hby d1_0) rfl rfl k) ?_
  show own_go _ _ _ _ _ _ _ (s₁.setTop (mkF m 1 #[.val (.ref a1)] [(.ref a1)]))
  obtain ⟨T88, X88, e88, st88⟩ := initO X0 hx hZ hown (hw _ (List.mem_of_getElem? (i := 7) rfl)) (hw _ (List.mem_of_getElem? (i := 8) rfl)) (hw _ (List.mem_of_getElem? (i := 9) rfl)) e0 (g := (mkF m 1 #[.val (.ref a1)] [(.ref a1)])) rfl (by rw [hml]; rfl) rfl (hb hby d1_1) (by decide) (W := 0) (by show 2 * 0 + _ ≤ _; exact Nat.le_of_eq rfl) (by decide)
  refine own_st st88 ?_
  show own_go _ _ _ _ _ _ _ (T88.setTop (mkF m 4 #[.val (.ref a1)] []))
  refine own_st (fun _ k => XS.aloadN X88.here hx rfl (hb hby d1_4) rfl rfl k) ?_
  show own_go _ _ _ _ _ _ _ (T88.setTop (mkF m 5 #[.val (.ref a1)] [(.ref a1)]))
  obtain ⟨T89, h89, X89, e89, E89, A89, D89, -, st89⟩ := newO X88 hx hZ hown (hw _ (List.mem_of_getElem? (i := 10) rfl)) (hw _ (List.mem_of_getElem? (i := 11) rfl)) (hw _ (List.mem_of_getElem? (i := 12) rfl)) e88 (g := (mkF m 5 #[.val (.ref a1)] [(.ref a1)])) rfl (hb hby d1_5) (by decide) (by decide)
  obtain ⟨b89, g89⟩ : ∃ z, z = h0.size := ⟨_, rfl⟩
  rw [← g89] at A89 D89 st89
  have ge_b89 : n0 ≤ b89 := by rw [g89]; exact own_osz O0
  have sz_b89 : h0.size ≤ b89 := by rw [g89]; exact K0.1
  have ne_a1_b89 : a1 ≠ b89 := (fun q => absurd E_a1.lt (by rw [q, g89]; exact Nat.lt_irrefl _))
  have O89 := O0.ext E89
  have K89 := K0.ext E89
  refine own_st st89 ?_
  show own_go _ _ _ _ _ _ _ (T89.setTop (mkF m 8 #[.val (.ref a1)] [(.ref b89), (.ref a1)]))
  refine own_st (fun _ k => XS.dup X89.here hx rfl (hb hby d1_8) rfl rfl k) ?_
  show own_go _ _ _ _ _ _ _ (T89.setTop (mkF m 9 #[.val (.ref a1)] [(.ref b89), (.ref b89), (.ref a1)]))
  obtain ⟨v90, T90, L90, X90, hQ90, st90⟩ := own_callN X89 hx hZ (argsL := []) (rest := [(.ref b89), (.ref a1)]) (rm_al l Z a0 hw b89 c_EMPTY_ELEMENTDATA c_DEFAULTCAPACITY_EMPTY_ELEMENTDATA c_cache c_EMPTY h89 n0 O89 hS ge_b89 A89 (D89 (Or.inl (hw _ (List.mem_of_getElem? (i := 30) rfl))) (ty := .int) (by decide)) (D89 (Or.inl (hw _ (List.mem_of_getElem? (i := 33) rfl))) (ty := (.array (.object "java/lang/Object"))) (by decide)) (D89 (Or.inl (hw _ (List.mem_of_getElem? (i := 120) rfl))) (ty := .int) (by decide))) rfl hown (hw _ (List.mem_of_getElem? (i := 13) rfl)) (hw _ (List.mem_of_getElem? (i := 14) rfl)) (hw _ (List.mem_of_getElem? (i := 12) rfl)) (hw _ (List.mem_of_getElem? (i := 15) rfl)) (by decide) e89 (g := (mkF m 9 #[.val (.ref a1)] [(.ref b89), (.ref b89), (.ref a1)])) rfl (by rw [hml]; rfl) (lenOf own_pd__28_29V rfl) rfl (W := 2) (by show 2 * 0 + _ ≤ _; exact Nat.le_of_eq rfl) (hb hby d1_9) (by decide) (by decide) (by decide) (by decide)
  obtain ⟨rfl, Nq90, Kq90, F90_0, F90_1, F90_2⟩ := hQ90
  have N90 := Fr.app N0 Nq90
  have O90 := O89.keep Kq90 (allS ge_b89 all0)
  have K90 := K89.trans Kq90 (allS (Or.inr sz_b89) all0)
  refine own_st st90 ?_
  show own_go _ _ _ _ _ _ _ (T90.setTop (mkF m 12 #[.val (.ref a1)] [(.ref b89), (.ref a1)]))
  have f92 := ((F_a1_runs.ext E89).keep Kq90 (ninS ne_a1_b89 nin0))
  have f93 := ((E_a1.ext E89).keep Kq90)
  obtain ⟨T91, h91, X91, e91, W91, st91⟩ := putF X90 hx hZ hown (host := "") (Or.inl (hw _ (List.mem_of_getElem? (i := 34) rfl))) Via.refl rfl f92 f93 (Or.inr ⟨(hw _ (List.mem_of_getElem? (i := 35) rfl)), rfl, hnm⟩) (hw _ (List.mem_of_getElem? (i := 2) rfl)) (ty := (.object "java/util/List")) (by decide) rfl rfl (g := (mkF m 12 #[.val (.ref a1)] [(.ref b89), (.ref a1)])) rfl rfl (hb hby d1_12)
  have N91 := Fr.snoc X91 N90 ge_a1
  have O94 := O90.wr W91 ge_a1
  have K94 := K90.wr W91 (Or.inl (List.mem_of_getElem? (i := 0) rfl))
  have F91 := f92.same W91
  refine own_st st91 ?_
  show own_go _ _ _ _ _ _ _ (T91.setTop (mkF m 15 #[.val (.ref a1)] []))
  refine own_st (fun _ k => XS.aloadN X91.here hx rfl (hb hby d1_15) rfl rfl k) ?_
  show own_go _ _ _ _ _ _ _ (T91.setTop (mkF m 16 #[.val (.ref a1)] [(.ref a1)]))
  refine own_st (X91.ldc2Long hx hown (mvT hZ (hw _ (List.mem_of_getElem? (i := 36) rfl))) (g := (mkF m 16 #[.val (.ref a1)] [(.ref a1)])) rfl (hb hby d1_16)) ?_
  show own_go _ _ _ _ _ _ _ (T91.setTop (mkF m 19 #[.val (.ref a1)] [(.long (9223372036854775807 : Int64)), (.ref a1)]))
  have f96 := (((F_a1_fewestRows.ext E89).keep Kq90 (ninS ne_a1_b89 nin0)).other W91 (Or.inr (slot_ne (Or.inl (hw _ (List.mem_of_getElem? (i := 38) rfl))) (Or.inr (hw _ (List.mem_of_getElem? (i := 35) rfl))) (by decide) (t := .long) (t' := (.object "java/util/List")) (by decide) (by decide))))
  have f97 := (f93.wr W91)
  obtain ⟨T95, h95, X95, e95, W95, st95⟩ := putF X91 hx hZ hown (host := "") (Or.inl (hw _ (List.mem_of_getElem? (i := 37) rfl))) Via.refl e91 f96 f97 (Or.inl (hw _ (List.mem_of_getElem? (i := 38) rfl))) (hw _ (List.mem_of_getElem? (i := 2) rfl)) (ty := .long) (by decide) rfl rfl (g := (mkF m 19 #[.val (.ref a1)] [(.long (9223372036854775807 : Int64)), (.ref a1)])) rfl rfl (hb hby d1_19)
  have N95 := Fr.snoc X95 N91 ge_a1
  have O98 := O94.wr W95 ge_a1
  have K98 := K94.wr W95 (Or.inl (List.mem_of_getElem? (i := 0) rfl))
  have F95 := f96.same W95
  refine own_st st95 ?_
  show own_go _ _ _ _ _ _ _ (T95.setTop (mkF m 22 #[.val (.ref a1)] []))
  refine own_st (fun _ k => XS.aloadN X95.here hx rfl (hb hby d1_22) rfl rfl k) ?_
  show own_go _ _ _ _ _ _ _ (T95.setTop (mkF m 23 #[.val (.ref a1)] [(.ref a1)]))
  refine own_st (fun _ k => XS.iconst X95.here hx rfl (hb hby d1_23) k) ?_
  show own_go _ _ _ _ _ _ _ (T95.setTop (mkF m 24 #[.val (.ref a1)] [(.int (0 : Int32)), (.ref a1)]))
  obtain ⟨T99, h99, k99, b99, X99, e99, g99, E99, V99, Ex99, Ov99, st99⟩ := own_arr X95 hx hZ hown (hw _ (List.mem_of_getElem? (i := 39) rfl)) (hw _ (List.mem_of_getElem? (i := 40) rfl)) e95 (g := (mkF m 24 #[.val (.ref a1)] [(.int (0 : Int32)), (.ref a1)])) rfl (hb hby d1_24) rfl (by decide) (cap := 0) (by decide) (by decide) (by decide) (by decide) (ad := "[Ljava/lang/String;") (by decide)
  have ge_b99 : n0 ≤ b99 := by rw [g99]; exact own_osz O98
  have sz_b99 : h0.size ≤ b99 := by rw [g99]; exact K98.1
  have f100 := (f97.wr W95)
  have ne_a1_b99 : a1 ≠ b99 := (fun q => absurd f100.lt (by rw [q, g99]; exact Nat.lt_irrefl _))
  have f101 := (((A89.keep Kq90).wr W91).wr W95)
  have ne_b89_b99 : b89 ≠ b99 := (fun q => absurd f101.lt (by rw [q, g99]; exact Nat.lt_irrefl _))
  have O99 := O98.ext E99
  have K99 := K98.ext E99
  refine own_st st99 ?_
  show own_go _ _ _ _ _ _ _ (T99.setTop (mkF m 27 #[.val (.ref a1)] [(.ref b99), (.ref a1)]))
  have f103 := (((((F_a1_seenWriters.ext E89).keep Kq90 (ninS ne_a1_b89 nin0)).other W91 (Or.inr (slot_ne (Or.inl (hw _ (List.mem_of_getElem? (i := 42) rfl))) (Or.inr (hw _ (List.mem_of_getElem? (i := 35) rfl))) (by decide) (t := (.array (.object "java/lang/String"))) (t' := (.object "java/util/List")) (by decide) (by decide)))).other W95 (Or.inr (slot_ne (Or.inl (hw _ (List.mem_of_getElem? (i := 42) rfl))) (Or.inl (hw _ (List.mem_of_getElem? (i := 38) rfl))) (by decide) (t := (.array (.object "java/lang/String"))) (t' := .long) (by decide) (by decide)))).ext E99)
  have f104 := (f100.ext E99)
  obtain ⟨T102, h102, X102, e102, W102, st102⟩ := putF X99 hx hZ hown (host := "") (Or.inl (hw _ (List.mem_of_getElem? (i := 41) rfl))) Via.refl e99 f103 f104 (Or.inl (hw _ (List.mem_of_getElem? (i := 42) rfl))) (hw _ (List.mem_of_getElem? (i := 2) rfl)) (ty := (.array (.object "java/lang/String"))) (by decide) rfl rfl (g := (mkF m 27 #[.val (.ref a1)] [(.ref b99), (.ref a1)])) rfl rfl (hb hby d1_27)
  have N102 := Fr.snoc X102 N95 ge_a1
  have O105 := O99.wr W102 ge_a1
  have K105 := K99.wr W102 (Or.inl (List.mem_of_getElem? (i := 0) rfl))
  have F102 := f103.same W102
  refine own_st st102 ?_
  show own_go _ _ _ _ _ _ _ (T102.setTop (mkF m 30 #[.val (.ref a1)] []))
  have f106 := ((f101.ext E99).wr W102)
  have f107 := ((((F90_0.other W91 (Or.inl (Ne.symm ne_a1_b89))).other W95 (Or.inl (Ne.symm ne_a1_b89))).ext E99).other W102 (Or.inl (Ne.symm ne_a1_b89)))
  have f108 := ((((F90_1.other W91 (Or.inl (Ne.symm ne_a1_b89))).other W95 (Or.inl (Ne.symm ne_a1_b89))).ext E99).other W102 (Or.inl (Ne.symm ne_a1_b89)))
  have f109 := ((((F90_2.other W91 (Or.inl (Ne.symm ne_a1_b89))).other W95 (Or.inl (Ne.symm ne_a1_b89))).ext E99).other W102 (Or.inl (Ne.symm ne_a1_b89)))
  have f110 := (((F91.other W95 (Or.inr (slot_ne (Or.inr (hw _ (List.mem_of_getElem? (i := 35) rfl))) (Or.inl (hw _ (List.mem_of_getElem? (i := 38) rfl))) (by decide) (t := (.object "java/util/List")) (t' := .long) (by decide) (by decide)))).ext E99).other W102 (Or.inr (slot_ne (Or.inr (hw _ (List.mem_of_getElem? (i := 35) rfl))) (Or.inl (hw _ (List.mem_of_getElem? (i := 42) rfl))) (by decide) (t := (.object "java/util/List")) (t' := (.array (.object "java/lang/String"))) (by decide) (by decide))))
  have f111 := ((((((F_a1_learntTo.ext E89).keep Kq90 (ninS ne_a1_b89 nin0)).other W91 (Or.inr (slot_ne (Or.inl (hw _ (List.mem_of_getElem? (i := 180) rfl))) (Or.inr (hw _ (List.mem_of_getElem? (i := 35) rfl))) (by decide) (t := .long) (t' := (.object "java/util/List")) (by decide) (by decide)))).other W95 (Or.inr (slot_ne (Or.inl (hw _ (List.mem_of_getElem? (i := 180) rfl))) (Or.inl (hw _ (List.mem_of_getElem? (i := 38) rfl))) (by decide) (t := .long) (t' := .long) (by decide) (by decide)))).ext E99).other W102 (Or.inr (slot_ne (Or.inl (hw _ (List.mem_of_getElem? (i := 180) rfl))) (Or.inl (hw _ (List.mem_of_getElem? (i := 42) rfl))) (by decide) (t := .long) (t' := (.array (.object "java/lang/String"))) (by decide) (by decide))))
  have f112 := ((((((F_a1_outOfOrder.ext E89).keep Kq90 (ninS ne_a1_b89 nin0)).other W91 (Or.inr (slot_ne (Or.inl (hw _ (List.mem_of_getElem? (i := 109) rfl))) (Or.inr (hw _ (List.mem_of_getElem? (i := 35) rfl))) (by decide) (t := (.object "java/math/BigDecimal")) (t' := (.object "java/util/List")) (by decide) (by decide)))).other W95 (Or.inr (slot_ne (Or.inl (hw _ (List.mem_of_getElem? (i := 109) rfl))) (Or.inl (hw _ (List.mem_of_getElem? (i := 38) rfl))) (by decide) (t := (.object "java/math/BigDecimal")) (t' := .long) (by decide) (by decide)))).ext E99).other W102 (Or.inr (slot_ne (Or.inl (hw _ (List.mem_of_getElem? (i := 109) rfl))) (Or.inl (hw _ (List.mem_of_getElem? (i := 42) rfl))) (by decide) (t := (.object "java/math/BigDecimal")) (t' := (.array (.object "java/lang/String"))) (by decide) (by decide))))
  have f113 := ((F95.ext E99).other W102 (Or.inr (slot_ne (Or.inl (hw _ (List.mem_of_getElem? (i := 38) rfl))) (Or.inl (hw _ (List.mem_of_getElem? (i := 42) rfl))) (by decide) (t := .long) (t' := (.array (.object "java/lang/String"))) (by decide) (by decide))))
  have f114 := ((((((F_a1_settled.ext E89).keep Kq90 (ninS ne_a1_b89 nin0)).other W91 (Or.inr (slot_ne (Or.inl (hw _ (List.mem_of_getElem? (i := 70) rfl))) (Or.inr (hw _ (List.mem_of_getElem? (i := 35) rfl))) (by decide) (t := .long) (t' := (.object "java/util/List")) (by decide) (by decide)))).other W95 (Or.inr (slot_ne (Or.inl (hw _ (List.mem_of_getElem? (i := 70) rfl))) (Or.inl (hw _ (List.mem_of_getElem? (i := 38) rfl))) (by decide) (t := .long) (t' := .long) (by decide) (by decide)))).ext E99).other W102 (Or.inr (slot_ne (Or.inl (hw _ (List.mem_of_getElem? (i := 70) rfl))) (Or.inl (hw _ (List.mem_of_getElem? (i := 42) rfl))) (by decide) (t := .long) (t' := (.array (.object "java/lang/String"))) (by decide) (by decide))))
  have f115 := ((((((F_a1_seenLast.ext E89).keep Kq90 (ninS ne_a1_b89 nin0)).other W91 (Or.inr (slot_ne (Or.inl (hw _ (List.mem_of_getElem? (i := 72) rfl))) (Or.inr (hw _ (List.mem_of_getElem? (i := 35) rfl))) (by decide) (t := (.object "java/lang/Long")) (t' := (.object "java/util/List")) (by decide) (by decide)))).other W95 (Or.inr (slot_ne (Or.inl (hw _ (List.mem_of_getElem? (i := 72) rfl))) (Or.inl (hw _ (List.mem_of_getElem? (i := 38) rfl))) (by decide) (t := (.object "java/lang/Long")) (t' := .long) (by decide) (by decide)))).ext E99).other W102 (Or.inr (slot_ne (Or.inl (hw _ (List.mem_of_getElem? (i := 72) rfl))) (Or.inl (hw _ (List.mem_of_getElem? (i := 42) rfl))) (by decide) (t := (.object "java/lang/Long")) (t' := (.array (.object "java/lang/String"))) (by decide) (by decide))))
  exact own_ret0 X102 hx hlk hret (hb hby d1_30) (by decide) (by decide) (by rw [e102]; exact ⟨rfl, N102, K105, b89, b99, sz_b89, f106, f107, f108, f109, f110, f111, f112, f113, f114, f115, F102⟩)
theorem d7_0 : decode prog_12_method_6_code 0 = .ok (.aload_n 2, 1) := by decide +kernel
theorem d7_1 : decode prog_12_method_6_code 1 = .ok (.ifnonnull 7, 3) := by decide +kernel
theorem d7_8 : decode prog_12_method_6_code 8 = .ok (.aload_n 2, 1) := by decide +kernel
theorem d7_9 : decode prog_12_method_6_code 9 = .ok (.invokevirtual 79, 3) := by decide +kernel
theorem d7_12 : decode prog_12_method_6_code 12 = .ok (.lload_n 3, 1) := by decide +kernel
theorem d7_13 : decode prog_12_method_6_code 13 = .ok (.invokestatic 82, 3) := by decide +kernel
theorem d7_16 : decode prog_12_method_6_code 16 = .ok (.invokestatic 88, 3) := by decide +kernel
theorem d7_19 : decode prog_12_method_6_code 19 = .ok (.astore 7, 2) := by decide +kernel
theorem d7_21 : decode prog_12_method_6_code 21 = .ok (.iload 6, 2) := by decide +kernel
theorem d7_23 : decode prog_12_method_6_code 23 = .ok (.ifCond .eq 21, 3) := by decide +kernel
theorem d7_26 : decode prog_12_method_6_code 26 = .ok (.aload 7, 2) := by decide +kernel
theorem d7_28 : decode prog_12_method_6_code 28 = .ok (.ifnull 16, 3) := by decide +kernel
theorem d7_31 : decode prog_12_method_6_code 31 = .ok (.aload 7, 2) := by decide +kernel
theorem d7_33 : decode prog_12_method_6_code 33 = .ok (.invokevirtual 79, 3) := by decide +kernel
theorem d7_36 : decode prog_12_method_6_code 36 = .ok (.aload_n 0, 1) := by decide +kernel
theorem d7_37 : decode prog_12_method_6_code 37 = .ok (.getfield 92, 3) := by decide +kernel
theorem d7_40 : decode prog_12_method_6_code 40 = .ok (.lcmp, 1) := by decide +kernel
theorem d7_41 : decode prog_12_method_6_code 41 = .ok (.ifCond .ge 26, 3) := by decide +kernel
theorem d7_67 : decode prog_12_method_6_code 67 = .ok (.aload_n 0, 1) := by decide +kernel
theorem d7_68 : decode prog_12_method_6_code 68 = .ok (.getfield 95, 3) := by decide +kernel
theorem d7_71 : decode prog_12_method_6_code 71 = .ok (.ifnull 30, 3) := by decide +kernel
theorem d7_101 : decode prog_12_method_6_code 101 = .ok (.aload_n 0, 1) := by decide +kernel
theorem d7_102 : decode prog_12_method_6_code 102 = .ok (.getfield 95, 3) := by decide +kernel
theorem d7_105 : decode prog_12_method_6_code 105 = .ok (.ifnonnull 21, 3) := by decide +kernel
theorem d7_108 : decode prog_12_method_6_code 108 = .ok (.aload_n 0, 1) := by decide +kernel
theorem d7_109 : decode prog_12_method_6_code 109 = .ok (.aload 7, 2) := by decide +kernel
theorem d7_111 : decode prog_12_method_6_code 111 = .ok (.putfield 95, 3) := by decide +kernel
theorem d7_114 : decode prog_12_method_6_code 114 = .ok (.aload_n 0, 1) := by decide +kernel
theorem d7_115 : decode prog_12_method_6_code 115 = .ok (.aload 5, 2) := by decide +kernel
theorem d7_117 : decode prog_12_method_6_code 117 = .ok (.invokevirtual 75, 3) := by decide +kernel
theorem d7_120 : decode prog_12_method_6_code 120 = .ok (.checkcast 76, 3) := by decide +kernel
theorem d7_123 : decode prog_12_method_6_code 123 = .ok (.putfield 26, 3) := by decide +kernel
theorem d7_126 : decode prog_12_method_6_code 126 = .ok (.return_, 1) := by decide +kernel
theorem own_pn_7 : plainFor (⟨"com/example/usher/usher/OutboxRuns", "looked", "(ZLjava/lang/Long;J[Ljava/lang/String;Z)V"⟩ : MethodName) = true := plainFor_of_name (show plainName "com/example/usher/usher/OutboxRuns" = true by first | (simp [plainName, overriddenIn]; done) | decide +kernel)
theorem own_pd__28_29J : parseMethodDescriptor "()J" = some ⟨[], some .long⟩ := by decide +kernel
theorem own_pd__28JJ_29J : parseMethodDescriptor "(JJ)J" = some ⟨[.long, .long], some .long⟩ := by decide +kernel
theorem own_pd__28J_29Ljava_2flang_2fLong_3b : parseMethodDescriptor "(J)Ljava/lang/Long;" = some ⟨[.long], some (.object "java/lang/Long")⟩ := by decide +kernel
theorem own_ef_rm_look1 (m : MethodId) (a1 : Addr) (a2 : Addr) (q3 : Int64) (a4 : Addr) : entryFrame m #[(.ref a1), (.int (0 : Int32)), (.ref a2), (.long q3), (.ref a4), (.int (1 : Int32))] 8 = mkF m 0 #[.val (.ref a1), .val (.int (0 : Int32)), .val (.ref a2), .val (.long q3), .second, .val (.ref a4), .val (.int (1 : Int32)), .unset] [] := by first | (simp [entryFrame, mkF, argsToLocals, Value.category]; done) | rfl
set_option maxRecDepth 65536 in
set_option maxHeartbeats 40000000 in
theorem rm_look1 (l : Launch) (Z : State) (a0 : Array Value) (hw : ∀ d ∈ tables_1, d.before a0 Z = true) (a1 a2 : Addr) (q3 : Int64) (a4 al sw : Addr) (k4 : ClassId) (c_EMPTY_ELEMENTDATA : Addr) (c_DEFAULTCAPACITY_EMPTY_ELEMENTDATA : Addr) (c_cache : Addr) (c_EMPTY : Addr) (h0 : Heap) (n0 : Nat) (O0 : Old Z n0 h0) (hS : own_S Z c_EMPTY_ELEMENTDATA c_DEFAULTCAPACITY_EMPTY_ELEMENTDATA c_cache c_EMPTY) (hs3 : ¬ q3 < 0) (ge_a1 : n0 ≤ a1) (E_a1 : Exa Z h0 a1 "com/example/usher/usher/OutboxRuns") (F_a1_runs : Fld Z h0 a1 "com/example/usher/usher/OutboxRuns" "runs" "Ljava/util/List;" (.ref al)) (F_a1_learntTo : Fld Z h0 a1 "com/example/usher/usher/OutboxRuns" "learntTo" "J" (.long (0 : Int64))) (F_a1_outOfOrder : Fld Z h0 a1 "com/example/usher/usher/OutboxRuns" "outOfOrder" "Ljava/math/BigDecimal;" .null) (F_a1_fewestRows : Fld Z h0 a1 "com/example/usher/usher/OutboxRuns" "fewestRows" "J" (.long (9223372036854775807 : Int64))) (F_a1_settled : Fld Z h0 a1 "com/example/usher/usher/OutboxRuns" "settled" "J" (.long (0 : Int64))) (F_a1_seenLast : Fld Z h0 a1 "com/example/usher/usher/OutboxRuns" "seenLast" "Ljava/lang/Long;" .null) (F_a1_seenWriters : Fld Z h0 a1 "com/example/usher/usher/OutboxRuns" "seenWriters" "[Ljava/lang/String;" (.ref sw)) (E_a2 : Exa Z h0 a2 "java/lang/Long") (F_a2_value : Fld Z h0 a2 "java/lang/Long" "value" "J" (.long q3)) (E_a4 : Exa Z h0 a4 "[Ljava/lang/String;") (V_a4 : Arv Z h0 a4 k4 (.object "java/lang/String") 0 [] .null) :
    own_Met l Z (⟨"com/example/usher/usher/OutboxRuns", "looked", "(ZLjava/lang/Long;J[Ljava/lang/String;Z)V"⟩ : MethodName) prog_12_method_6_code 8 none [] ({ frames := 4, cells := 2, slots := 1, locals := 56 } : Room) #[(.ref a1), (.int (0 : Int32)), (.ref a2), (.long q3), (.ref a4), (.int (1 : Int32))] h0 (fun v h L => v = none ∧ Fr n0 L ∧ Keep h0 h [a1] ∧ ∃ r sw2, Exa Z h r "java/lang/Long" ∧ Fld Z h r "java/lang/Long" "value" "J" (.long q3) ∧ Fld Z h a1 "com/example/usher/usher/OutboxRuns" "runs" "Ljava/util/List;" (.ref al) ∧ Fld Z h a1 "com/example/usher/usher/OutboxRuns" "learntTo" "J" (.long (0 : Int64)) ∧ Fld Z h a1 "com/example/usher/usher/OutboxRuns" "outOfOrder" "Ljava/math/BigDecimal;" .null ∧ Fld Z h a1 "com/example/usher/usher/OutboxRuns" "fewestRows" "J" (.long (9223372036854775807 : Int64)) ∧ Fld Z h a1 "com/example/usher/usher/OutboxRuns" "settled" "J" (.long (0 : Int64)) ∧ Fld Z h a1 "com/example/usher/usher/OutboxRuns" "seenLast" "Ljava/lang/Long;" (.ref r) ∧ Fld Z h a1 "com/example/usher/usher/OutboxRuns" "seenWriters" "[Ljava/lang/String;" (.ref sw2)) := by
  refine own_body own_pn_7 ?_
  intro p e s m below meth c s₁ hx hby hml hown hnm hret hlk X0 hZ e0
  replace hown : s.vm.findClass "com/example/usher/usher/OutboxRuns" = some m.cls := hown
  have N0 := Fr.nil n0
  have K0 := Keep.refl h0 [a1]
  refine own_st (fun _ k => castTop (own_ef_rm_look1 m a1 a2 q3 a4) k) ?_
  show own_go _ _ _ _ _ _ _ (s₁.setTop (mkF m 0 #[.val (.ref a1), .val (.int (0 : Int32)), .val (.ref a2), .val (.long q3), .second, .val (.ref a4), .val (.int (1 : Int32)), .unset] []))
  refine own_st (fun _ k => XS.aloadN X0.here hx rfl (hb hby d7_0) rfl rfl k) ?_
  show own_go _ _ _ _ _ _ _ (s₁.setTop (mkF m 1 #[.val (.ref a1), .val (.int (0 : Int32)), .val (.ref a2), .val (.long q3), .second, .val (.ref a4), .val (.int (1 : Int32)), .unset] [(.ref a2)]))
  refine own_st (fun _ k => XS.ifnonnullYes X0.here hx rfl (pc0 := 1) (pc' := 8) rfl (hb hby d7_1) rfl (by decide) (by decide) k) ?_
  show own_go _ _ _ _ _ _ _ (s₁.setTop (mkF m 8 #[.val (.ref a1), .val (.int (0 : Int32)), .val (.ref a2), .val (.long q3), .second, .val (.ref a4), .val (.int (1 : Int32)), .unset] []))
  refine own_st (fun _ k => XS.aloadN X0.here hx rfl (hb hby d7_8) rfl rfl k) ?_
  show own_go _ _ _ _ _ _ _ (s₁.setTop (mkF m 9 #[.val (.ref a1), .val (.int (0 : Int32)), .val (.ref a2), .val (.long q3), .second, .val (.ref a4), .val (.int (1 : Int32)), .unset] [(.ref a2)]))
  obtain ⟨v116, T116, L116, X116, hQ116, st116⟩ := own_callV X0 hx hZ (argsL := []) (rest := []) (rm_lv l Z a0 hw a2 q3 h0 n0 O0 F_a2_value) hown (hw _ (List.mem_of_getElem? (i := 57) rfl)) (hw _ (List.mem_of_getElem? (i := 58) rfl)) (notFace_of_selects (args := #[]) (mvT hZ (hw _ (List.mem_of_getElem? (i := 60) rfl)))) (hw _ (List.mem_of_getElem? (i := 60) rfl)) (hw _ (List.mem_of_getElem? (i := 59) rfl)) (hw _ (List.mem_of_getElem? (i := 46) rfl)) (hw _ (List.mem_of_getElem? (i := 61) rfl)) (by decide) e0 E_a2 (g := (mkF m 9 #[.val (.ref a1), .val (.int (0 : Int32)), .val (.ref a2), .val (.long q3), .second, .val (.ref a4), .val (.int (1 : Int32)), .unset] [(.ref a2)])) rfl (by rw [hml]; rfl) (lenOf own_pd__28_29J rfl) rfl (W := 0) (by show 2 * 0 + _ ≤ _; exact Nat.le_of_eq rfl) (hb hby d7_9) (by decide) (by decide) (by decide) (by decide)
  obtain ⟨rfl, Nq116, eq116⟩ := hQ116
  have N116 := Fr.app N0 Nq116
  refine own_st st116 ?_
  show own_go _ _ _ _ _ _ _ (T116.setTop (mkF m 12 #[.val (.ref a1), .val (.int (0 : Int32)), .val (.ref a2), .val (.long q3), .second, .val (.ref a4), .val (.int (1 : Int32)), .unset] [(.long q3)]))
  refine own_st (fun _ k => XS.lloadN X116.here hx rfl (hb hby d7_12) rfl k) ?_
  show own_go _ _ _ _ _ _ _ (T116.setTop (mkF m 13 #[.val (.ref a1), .val (.int (0 : Int32)), .val (.ref a2), .val (.long q3), .second, .val (.ref a4), .val (.int (1 : Int32)), .unset] [(.long q3), (.long q3)]))
  obtain ⟨v117, T117, L117, X117, hQ117, st117⟩ := own_callS X116 hx hZ (argsL := [(.long q3), (.long q3)]) (rest := []) (rm_min l Z a0 hw q3 q3 h0 n0 O0) hown (hw _ (List.mem_of_getElem? (i := 64) rfl)) (hw _ (List.mem_of_getElem? (i := 65) rfl)) (hw _ (List.mem_of_getElem? (i := 66) rfl)) (hw _ (List.mem_of_getElem? (i := 67) rfl)) (by decide) eq116 (g := (mkF m 13 #[.val (.ref a1), .val (.int (0 : Int32)), .val (.ref a2), .val (.long q3), .second, .val (.ref a4), .val (.int (1 : Int32)), .unset] [(.long q3), (.long q3)])) rfl (by rw [hml]; rfl) (lenOf own_pd__28JJ_29J rfl) rfl (W := 0) (by show 2 * 0 + _ ≤ _; exact Nat.le_of_eq rfl) (hb hby d7_13) (by decide) (by decide) (by decide) (by decide)
  obtain ⟨rfl, Nq117, eq117⟩ := hQ117
  have N117 := Fr.app N116 Nq117
  refine own_st st117 ?_
  show own_go _ _ _ _ _ _ _ (T117.setTop (mkF m 16 #[.val (.ref a1), .val (.int (0 : Int32)), .val (.ref a2), .val (.long q3), .second, .val (.ref a4), .val (.int (1 : Int32)), .unset] [(.long (own_min q3 q3))]))
  rw [own_min_self]
  show own_go _ _ _ _ _ _ _ (T117.setTop (mkF m 16 #[.val (.ref a1), .val (.int (0 : Int32)), .val (.ref a2), .val (.long q3), .second, .val (.ref a4), .val (.int (1 : Int32)), .unset] [(.long q3)]))
  obtain ⟨v118, T118, L118, X118, hQ118, st118⟩ := own_callS X117 hx hZ (argsL := [(.long q3)]) (rest := []) (rm_lvo l Z a0 hw q3 c_EMPTY_ELEMENTDATA c_DEFAULTCAPACITY_EMPTY_ELEMENTDATA c_cache c_EMPTY h0 n0 O0 hS) hown (hw _ (List.mem_of_getElem? (i := 68) rfl)) (hw _ (List.mem_of_getElem? (i := 45) rfl)) (hw _ (List.mem_of_getElem? (i := 46) rfl)) (hw _ (List.mem_of_getElem? (i := 47) rfl)) (by decide) eq117 (g := (mkF m 16 #[.val (.ref a1), .val (.int (0 : Int32)), .val (.ref a2), .val (.long q3), .second, .val (.ref a4), .val (.int (1 : Int32)), .unset] [(.long q3)])) rfl (by rw [hml]; rfl) (lenOf own_pd__28J_29Ljava_2flang_2fLong_3b rfl) rfl (W := 0) (by show 2 * 0 + _ ≤ _; exact Nat.le_of_eq rfl) (hb hby d7_16) (by decide) (by decide) (by decide) (by decide)
  obtain ⟨r118, rfl, Nq118, Kq118, A118, F118⟩ := hQ118
  have N118 := Fr.app N117 Nq118
  have O118 := O0.keep Kq118 all0
  have K118 := K0.trans Kq118 all0
  refine own_st st118 ?_
  show own_go _ _ _ _ _ _ _ (T118.setTop (mkF m 19 #[.val (.ref a1), .val (.int (0 : Int32)), .val (.ref a2), .val (.long q3), .second, .val (.ref a4), .val (.int (1 : Int32)), .unset] [(.ref r118)]))
  refine own_st (fun _ k => XS.astore X118.here hx rfl (hb hby d7_19) rfl rfl (l' := #[.val (.ref a1), .val (.int (0 : Int32)), .val (.ref a2), .val (.long q3), .second, .val (.ref a4), .val (.int (1 : Int32)), .val (.ref r118)]) rfl k) ?_
  show own_go _ _ _ _ _ _ _ (T118.setTop (mkF m 21 #[.val (.ref a1), .val (.int (0 : Int32)), .val (.ref a2), .val (.long q3), .second, .val (.ref a4), .val (.int (1 : Int32)), .val (.ref r118)] []))
  refine own_st (fun _ k => XS.iload X118.here hx rfl (hb hby d7_21) rfl k) ?_
  show own_go _ _ _ _ _ _ _ (T118.setTop (mkF m 23 #[.val (.ref a1), .val (.int (0 : Int32)), .val (.ref a2), .val (.long q3), .second, .val (.ref a4), .val (.int (1 : Int32)), .val (.ref r118)] [(.int (1 : Int32))]))
  refine own_st (fun _ k => XS.ifNo X118.here hx rfl (hb hby d7_23) rfl (by decide) k) ?_
  show own_go _ _ _ _ _ _ _ (T118.setTop (mkF m 26 #[.val (.ref a1), .val (.int (0 : Int32)), .val (.ref a2), .val (.long q3), .second, .val (.ref a4), .val (.int (1 : Int32)), .val (.ref r118)] []))
  refine own_st (fun _ k => XS.aload X118.here hx rfl (hb hby d7_26) rfl rfl k) ?_
  show own_go _ _ _ _ _ _ _ (T118.setTop (mkF m 28 #[.val (.ref a1), .val (.int (0 : Int32)), .val (.ref a2), .val (.long q3), .second, .val (.ref a4), .val (.int (1 : Int32)), .val (.ref r118)] [(.ref r118)]))
  refine own_st (fun _ k => XS.ifnullNo X118.here hx rfl (hb hby d7_28) rfl k) ?_
  show own_go _ _ _ _ _ _ _ (T118.setTop (mkF m 31 #[.val (.ref a1), .val (.int (0 : Int32)), .val (.ref a2), .val (.long q3), .second, .val (.ref a4), .val (.int (1 : Int32)), .val (.ref r118)] []))
  refine own_st (fun _ k => XS.aload X118.here hx rfl (hb hby d7_31) rfl rfl k) ?_
  show own_go _ _ _ _ _ _ _ (T118.setTop (mkF m 33 #[.val (.ref a1), .val (.int (0 : Int32)), .val (.ref a2), .val (.long q3), .second, .val (.ref a4), .val (.int (1 : Int32)), .val (.ref r118)] [(.ref r118)]))
  obtain ⟨v119, T119, L119, X119, hQ119, st119⟩ := own_callV X118 hx hZ (argsL := []) (rest := []) (rm_lv l Z a0 hw r118 q3 T118.heap n0 O118 F118) hown (hw _ (List.mem_of_getElem? (i := 57) rfl)) (hw _ (List.mem_of_getElem? (i := 58) rfl)) (notFace_of_selects (args := #[]) (mvT hZ (hw _ (List.mem_of_getElem? (i := 60) rfl)))) (hw _ (List.mem_of_getElem? (i := 60) rfl)) (hw _ (List.mem_of_getElem? (i := 59) rfl)) (hw _ (List.mem_of_getElem? (i := 46) rfl)) (hw _ (List.mem_of_getElem? (i := 61) rfl)) (by decide) rfl A118 (g := (mkF m 33 #[.val (.ref a1), .val (.int (0 : Int32)), .val (.ref a2), .val (.long q3), .second, .val (.ref a4), .val (.int (1 : Int32)), .val (.ref r118)] [(.ref r118)])) rfl (by rw [hml]; rfl) (lenOf own_pd__28_29J rfl) rfl (W := 0) (by show 2 * 0 + _ ≤ _; exact Nat.le_of_eq rfl) (hb hby d7_33) (by decide) (by decide) (by decide) (by decide)
  obtain ⟨rfl, Nq119, eq119⟩ := hQ119
  have N119 := Fr.app N118 Nq119
  refine own_st st119 ?_
  show own_go _ _ _ _ _ _ _ (T119.setTop (mkF m 36 #[.val (.ref a1), .val (.int (0 : Int32)), .val (.ref a2), .val (.long q3), .second, .val (.ref a4), .val (.int (1 : Int32)), .val (.ref r118)] [(.long q3)]))
  refine own_st (fun _ k => XS.aloadN X119.here hx rfl (hb hby d7_36) rfl rfl k) ?_
  show own_go _ _ _ _ _ _ _ (T119.setTop (mkF m 37 #[.val (.ref a1), .val (.int (0 : Int32)), .val (.ref a2), .val (.long q3), .second, .val (.ref a4), .val (.int (1 : Int32)), .val (.ref r118)] [(.ref a1), (.long q3)]))
  have f120 := (F_a1_settled.keep Kq118 nin0)
  obtain ⟨T121, X121, e121, st121⟩ := getF X119 hx hZ hown (host := "") (Or.inl (hw _ (List.mem_of_getElem? (i := 69) rfl))) Via.refl eq119 f120 (g := (mkF m 37 #[.val (.ref a1), .val (.int (0 : Int32)), .val (.ref a2), .val (.long q3), .second, .val (.ref a4), .val (.int (1 : Int32)), .val (.ref r118)] [(.ref a1), (.long q3)])) rfl rfl (hb hby d7_37)
  refine own_st st121 ?_
  show own_go _ _ _ _ _ _ _ (T121.setTop (mkF m 40 #[.val (.ref a1), .val (.int (0 : Int32)), .val (.ref a2), .val (.long q3), .second, .val (.ref a4), .val (.int (1 : Int32)), .val (.ref r118)] [(.long (0 : Int64)), (.long q3)]))
  refine own_st (fun _ k => XS.lcmp X121.here hx rfl (hb hby d7_40) rfl k) ?_
  show own_go _ _ _ _ _ _ _ (T121.setTop (mkF m 41 #[.val (.ref a1), .val (.int (0 : Int32)), .val (.ref a2), .val (.long q3), .second, .val (.ref a4), .val (.int (1 : Int32)), .val (.ref r118)] [(.int (lcmpW q3 (0 : Int64)))]))
  refine own_st (fun _ k => XS.ifYes X121.here hx rfl (pc0 := 41) (pc' := 67) rfl (hb hby d7_41) rfl (XT.ll_ge_t hs3) (by decide) (by decide) k) ?_
  show own_go _ _ _ _ _ _ _ (T121.setTop (mkF m 67 #[.val (.ref a1), .val (.int (0 : Int32)), .val (.ref a2), .val (.long q3), .second, .val (.ref a4), .val (.int (1 : Int32)), .val (.ref r118)] []))
  refine own_st (fun _ k => XS.aloadN X121.here hx rfl (hb hby d7_67) rfl rfl k) ?_
  show own_go _ _ _ _ _ _ _ (T121.setTop (mkF m 68 #[.val (.ref a1), .val (.int (0 : Int32)), .val (.ref a2), .val (.long q3), .second, .val (.ref a4), .val (.int (1 : Int32)), .val (.ref r118)] [(.ref a1)]))
  have f122 := (F_a1_seenLast.keep Kq118 nin0)
  obtain ⟨T123, X123, e123, st123⟩ := getF X121 hx hZ hown (host := "") (Or.inl (hw _ (List.mem_of_getElem? (i := 71) rfl))) Via.refl e121 f122 (g := (mkF m 68 #[.val (.ref a1), .val (.int (0 : Int32)), .val (.ref a2), .val (.long q3), .second, .val (.ref a4), .val (.int (1 : Int32)), .val (.ref r118)] [(.ref a1)])) rfl rfl (hb hby d7_68)
  refine own_st st123 ?_
  show own_go _ _ _ _ _ _ _ (T123.setTop (mkF m 71 #[.val (.ref a1), .val (.int (0 : Int32)), .val (.ref a2), .val (.long q3), .second, .val (.ref a4), .val (.int (1 : Int32)), .val (.ref r118)] [.null]))
  refine own_st (fun _ k => XS.ifnullYes X123.here hx rfl (pc0 := 71) (pc' := 101) rfl (hb hby d7_71) rfl (by decide) (by decide) k) ?_
  show own_go _ _ _ _ _ _ _ (T123.setTop (mkF m 101 #[.val (.ref a1), .val (.int (0 : Int32)), .val (.ref a2), .val (.long q3), .second, .val (.ref a4), .val (.int (1 : Int32)), .val (.ref r118)] []))
  refine own_st (fun _ k => XS.aloadN X123.here hx rfl (hb hby d7_101) rfl rfl k) ?_
  show own_go _ _ _ _ _ _ _ (T123.setTop (mkF m 102 #[.val (.ref a1), .val (.int (0 : Int32)), .val (.ref a2), .val (.long q3), .second, .val (.ref a4), .val (.int (1 : Int32)), .val (.ref r118)] [(.ref a1)]))
  obtain ⟨T124, X124, e124, st124⟩ := getF X123 hx hZ hown (host := "") (Or.inl (hw _ (List.mem_of_getElem? (i := 71) rfl))) Via.refl e123 f122 (g := (mkF m 102 #[.val (.ref a1), .val (.int (0 : Int32)), .val (.ref a2), .val (.long q3), .second, .val (.ref a4), .val (.int (1 : Int32)), .val (.ref r118)] [(.ref a1)])) rfl rfl (hb hby d7_102)
  refine own_st st124 ?_
  show own_go _ _ _ _ _ _ _ (T124.setTop (mkF m 105 #[.val (.ref a1), .val (.int (0 : Int32)), .val (.ref a2), .val (.long q3), .second, .val (.ref a4), .val (.int (1 : Int32)), .val (.ref r118)] [.null]))
  refine own_st (fun _ k => XS.ifnonnullNo X124.here hx rfl (hb hby d7_105) rfl k) ?_
  show own_go _ _ _ _ _ _ _ (T124.setTop (mkF m 108 #[.val (.ref a1), .val (.int (0 : Int32)), .val (.ref a2), .val (.long q3), .second, .val (.ref a4), .val (.int (1 : Int32)), .val (.ref r118)] []))
  refine own_st (fun _ k => XS.aloadN X124.here hx rfl (hb hby d7_108) rfl rfl k) ?_
  show own_go _ _ _ _ _ _ _ (T124.setTop (mkF m 109 #[.val (.ref a1), .val (.int (0 : Int32)), .val (.ref a2), .val (.long q3), .second, .val (.ref a4), .val (.int (1 : Int32)), .val (.ref r118)] [(.ref a1)]))
  refine own_st (fun _ k => XS.aload X124.here hx rfl (hb hby d7_109) rfl rfl k) ?_
  show own_go _ _ _ _ _ _ _ (T124.setTop (mkF m 111 #[.val (.ref a1), .val (.int (0 : Int32)), .val (.ref a2), .val (.long q3), .second, .val (.ref a4), .val (.int (1 : Int32)), .val (.ref r118)] [(.ref r118), (.ref a1)]))
  have f126 := (E_a1.keep Kq118)
  obtain ⟨T125, h125, X125, e125, W125, st125⟩ := putF X124 hx hZ hown (host := "") (Or.inl (hw _ (List.mem_of_getElem? (i := 71) rfl))) Via.refl e124 f122 f126 (Or.inl (hw _ (List.mem_of_getElem? (i := 72) rfl))) (hw _ (List.mem_of_getElem? (i := 2) rfl)) (ty := (.object "java/lang/Long")) (by decide) rfl rfl (g := (mkF m 111 #[.val (.ref a1), .val (.int (0 : Int32)), .val (.ref a2), .val (.long q3), .second, .val (.ref a4), .val (.int (1 : Int32)), .val (.ref r118)] [(.ref r118), (.ref a1)])) rfl rfl (hb hby d7_111)
  have N125 := Fr.snoc X125 N119 ge_a1
  have O127 := O118.wr W125 ge_a1
  have K127 := K118.wr W125 (Or.inl (List.mem_of_getElem? (i := 0) rfl))
  have F125 := f122.same W125
  refine own_st st125 ?_
  show own_go _ _ _ _ _ _ _ (T125.setTop (mkF m 114 #[.val (.ref a1), .val (.int (0 : Int32)), .val (.ref a2), .val (.long q3), .second, .val (.ref a4), .val (.int (1 : Int32)), .val (.ref r118)] []))
  refine own_st (fun _ k => XS.aloadN X125.here hx rfl (hb hby d7_114) rfl rfl k) ?_
  show own_go _ _ _ _ _ _ _ (T125.setTop (mkF m 115 #[.val (.ref a1), .val (.int (0 : Int32)), .val (.ref a2), .val (.long q3), .second, .val (.ref a4), .val (.int (1 : Int32)), .val (.ref r118)] [(.ref a1)]))
  refine own_st (fun _ k => XS.aload X125.here hx rfl (hb hby d7_115) rfl rfl k) ?_
  show own_go _ _ _ _ _ _ _ (T125.setTop (mkF m 117 #[.val (.ref a1), .val (.int (0 : Int32)), .val (.ref a2), .val (.long q3), .second, .val (.ref a4), .val (.int (1 : Int32)), .val (.ref r118)] [(.ref a4), (.ref a1)]))
  have f129 := ((E_a4.keep Kq118).wr W125)
  have f130 := (f126.wr W125)
  have ne_a4_a1 : a4 ≠ a1 := ne_exa f129 f130 (by decide)
  have f131 := ((V_a4.keep Kq118 nin0).other W125 ne_a4_a1)
  obtain ⟨T128, h128, b128, X128, e128, g128, E128, A128, st128⟩ := own_clone0 X125 hx hZ hown (hw _ (List.mem_of_getElem? (i := 73) rfl)) (hw _ (List.mem_of_getElem? (i := 74) rfl)) (hw _ (List.mem_of_getElem? (i := 78) rfl)) (hw _ (List.mem_of_getElem? (i := 76) rfl)) (hw _ (List.mem_of_getElem? (i := 77) rfl)) (hw _ (List.mem_of_getElem? (i := 79) rfl)) e125 f131 f129 (g := (mkF m 117 #[.val (.ref a1), .val (.int (0 : Int32)), .val (.ref a2), .val (.long q3), .second, .val (.ref a4), .val (.int (1 : Int32)), .val (.ref r118)] [(.ref a4), (.ref a1)])) rfl (by rw [hml]; rfl) rfl (hb hby d7_117) (by decide) (W := 1) (by show 2 * 0 + _ ≤ _; exact Nat.le_of_eq rfl) (by decide) (by decide) (by decide)
  have ge_b128 : n0 ≤ b128 := by rw [g128]; exact own_osz O127
  have sz_b128 : h0.size ≤ b128 := by rw [g128]; exact K127.1
  have ne_a1_b128 : a1 ≠ b128 := (fun q => absurd f130.lt (by rw [q, g128]; exact Nat.lt_irrefl _))
  have f132 := ((E_a2.keep Kq118).wr W125)
  have ne_a2_b128 : a2 ≠ b128 := (fun q => absurd f132.lt (by rw [q, g128]; exact Nat.lt_irrefl _))
  have ne_a4_b128 : a4 ≠ b128 := (fun q => absurd f129.lt (by rw [q, g128]; exact Nat.lt_irrefl _))
  have f133 := (A118.wr W125)
  have ne_r118_b128 : r118 ≠ b128 := (fun q => absurd f133.lt (by rw [q, g128]; exact Nat.lt_irrefl _))
  have O128 := O127.ext E128
  have K128 := K127.ext E128
  refine own_st st128 ?_
  show own_go _ _ _ _ _ _ _ (T128.setTop (mkF m 120 #[.val (.ref a1), .val (.int (0 : Int32)), .val (.ref a2), .val (.long q3), .second, .val (.ref a4), .val (.int (1 : Int32)), .val (.ref r118)] [(.ref b128), (.ref a1)]))
  obtain ⟨T134, X134, e134, st134⟩ := castY X128 hx hZ hown (hw _ (List.mem_of_getElem? (i := 80) rfl)) e128 (Ins.self A128) (g := (mkF m 120 #[.val (.ref a1), .val (.int (0 : Int32)), .val (.ref a2), .val (.long q3), .second, .val (.ref a4), .val (.int (1 : Int32)), .val (.ref r118)] [(.ref b128), (.ref a1)])) rfl rfl (hb hby d7_120)
  refine own_st st134 ?_
  show own_go _ _ _ _ _ _ _ (T134.setTop (mkF m 123 #[.val (.ref a1), .val (.int (0 : Int32)), .val (.ref a2), .val (.long q3), .second, .val (.ref a4), .val (.int (1 : Int32)), .val (.ref r118)] [(.ref b128), (.ref a1)]))
  have f136 := (((F_a1_seenWriters.keep Kq118 nin0).other W125 (Or.inr (slot_ne (Or.inl (hw _ (List.mem_of_getElem? (i := 42) rfl))) (Or.inl (hw _ (List.mem_of_getElem? (i := 72) rfl))) (by decide) (t := (.array (.object "java/lang/String"))) (t' := (.object "java/lang/Long")) (by decide) (by decide)))).ext E128)
  have f137 := (f130.ext E128)
  obtain ⟨T135, h135, X135, e135, W135, st135⟩ := putF X134 hx hZ hown (host := "") (Or.inl (hw _ (List.mem_of_getElem? (i := 41) rfl))) Via.refl e134 f136 f137 (Or.inl (hw _ (List.mem_of_getElem? (i := 42) rfl))) (hw _ (List.mem_of_getElem? (i := 2) rfl)) (ty := (.array (.object "java/lang/String"))) (by decide) rfl rfl (g := (mkF m 123 #[.val (.ref a1), .val (.int (0 : Int32)), .val (.ref a2), .val (.long q3), .second, .val (.ref a4), .val (.int (1 : Int32)), .val (.ref r118)] [(.ref b128), (.ref a1)])) rfl rfl (hb hby d7_123)
  have N135 := Fr.snoc X135 N125 ge_a1
  have O138 := O128.wr W135 ge_a1
  have K138 := K128.wr W135 (Or.inl (List.mem_of_getElem? (i := 0) rfl))
  have F135 := f136.same W135
  refine own_st st135 ?_
  show own_go _ _ _ _ _ _ _ (T135.setTop (mkF m 126 #[.val (.ref a1), .val (.int (0 : Int32)), .val (.ref a2), .val (.long q3), .second, .val (.ref a4), .val (.int (1 : Int32)), .val (.ref r118)] []))
  have f139 := ((f133.ext E128).wr W135)
  have f140 := (f137.wr W135)
  have ne_r118_a1 : r118 ≠ a1 := ne_exa f139 f140 (by decide)
  have f141 := (((F118.other W125 (Or.inl ne_r118_a1)).ext E128).other W135 (Or.inl ne_r118_a1))
  have f142 := ((((F_a1_runs.keep Kq118 nin0).other W125 (Or.inr (slot_ne (Or.inr (hw _ (List.mem_of_getElem? (i := 35) rfl))) (Or.inl (hw _ (List.mem_of_getElem? (i := 72) rfl))) (by decide) (t := (.object "java/util/List")) (t' := (.object "java/lang/Long")) (by decide) (by decide)))).ext E128).other W135 (Or.inr (slot_ne (Or.inr (hw _ (List.mem_of_getElem? (i := 35) rfl))) (Or.inl (hw _ (List.mem_of_getElem? (i := 42) rfl))) (by decide) (t := (.object "java/util/List")) (t' := (.array (.object "java/lang/String"))) (by decide) (by decide))))
  have f143 := ((((F_a1_learntTo.keep Kq118 nin0).other W125 (Or.inr (slot_ne (Or.inl (hw _ (List.mem_of_getElem? (i := 180) rfl))) (Or.inl (hw _ (List.mem_of_getElem? (i := 72) rfl))) (by decide) (t := .long) (t' := (.object "java/lang/Long")) (by decide) (by decide)))).ext E128).other W135 (Or.inr (slot_ne (Or.inl (hw _ (List.mem_of_getElem? (i := 180) rfl))) (Or.inl (hw _ (List.mem_of_getElem? (i := 42) rfl))) (by decide) (t := .long) (t' := (.array (.object "java/lang/String"))) (by decide) (by decide))))
  have f144 := ((((F_a1_outOfOrder.keep Kq118 nin0).other W125 (Or.inr (slot_ne (Or.inl (hw _ (List.mem_of_getElem? (i := 109) rfl))) (Or.inl (hw _ (List.mem_of_getElem? (i := 72) rfl))) (by decide) (t := (.object "java/math/BigDecimal")) (t' := (.object "java/lang/Long")) (by decide) (by decide)))).ext E128).other W135 (Or.inr (slot_ne (Or.inl (hw _ (List.mem_of_getElem? (i := 109) rfl))) (Or.inl (hw _ (List.mem_of_getElem? (i := 42) rfl))) (by decide) (t := (.object "java/math/BigDecimal")) (t' := (.array (.object "java/lang/String"))) (by decide) (by decide))))
  have f145 := ((((F_a1_fewestRows.keep Kq118 nin0).other W125 (Or.inr (slot_ne (Or.inl (hw _ (List.mem_of_getElem? (i := 38) rfl))) (Or.inl (hw _ (List.mem_of_getElem? (i := 72) rfl))) (by decide) (t := .long) (t' := (.object "java/lang/Long")) (by decide) (by decide)))).ext E128).other W135 (Or.inr (slot_ne (Or.inl (hw _ (List.mem_of_getElem? (i := 38) rfl))) (Or.inl (hw _ (List.mem_of_getElem? (i := 42) rfl))) (by decide) (t := .long) (t' := (.array (.object "java/lang/String"))) (by decide) (by decide))))
  have f146 := (((f120.other W125 (Or.inr (slot_ne (Or.inl (hw _ (List.mem_of_getElem? (i := 70) rfl))) (Or.inl (hw _ (List.mem_of_getElem? (i := 72) rfl))) (by decide) (t := .long) (t' := (.object "java/lang/Long")) (by decide) (by decide)))).ext E128).other W135 (Or.inr (slot_ne (Or.inl (hw _ (List.mem_of_getElem? (i := 70) rfl))) (Or.inl (hw _ (List.mem_of_getElem? (i := 42) rfl))) (by decide) (t := .long) (t' := (.array (.object "java/lang/String"))) (by decide) (by decide))))
  have f147 := ((F125.ext E128).other W135 (Or.inr (slot_ne (Or.inl (hw _ (List.mem_of_getElem? (i := 72) rfl))) (Or.inl (hw _ (List.mem_of_getElem? (i := 42) rfl))) (by decide) (t := (.object "java/lang/Long")) (t' := (.array (.object "java/lang/String"))) (by decide) (by decide))))
  exact own_ret0 X135 hx hlk hret (hb hby d7_126) (by decide) (by decide) (by rw [e135]; exact ⟨rfl, N135, K138, r118, b128, f139, f141, f142, f143, f144, f145, f146, f147, F135⟩)
theorem d7_74 : decode prog_12_method_6_code 74 = .ok (.iload_n 1, 1) := by decide +kernel
theorem d7_75 : decode prog_12_method_6_code 75 = .ok (.ifCond .ne 26, 3) := by decide +kernel
theorem d7_78 : decode prog_12_method_6_code 78 = .ok (.aload_n 0, 1) := by decide +kernel
theorem d7_79 : decode prog_12_method_6_code 79 = .ok (.aload_n 0, 1) := by decide +kernel
theorem d7_80 : decode prog_12_method_6_code 80 = .ok (.getfield 92, 3) := by decide +kernel
theorem d7_83 : decode prog_12_method_6_code 83 = .ok (.aload_n 0, 1) := by decide +kernel
theorem d7_84 : decode prog_12_method_6_code 84 = .ok (.getfield 95, 3) := by decide +kernel
theorem d7_87 : decode prog_12_method_6_code 87 = .ok (.invokevirtual 79, 3) := by decide +kernel
theorem d7_90 : decode prog_12_method_6_code 90 = .ok (.invokestatic 99, 3) := by decide +kernel
theorem d7_93 : decode prog_12_method_6_code 93 = .ok (.putfield 92, 3) := by decide +kernel
theorem d7_96 : decode prog_12_method_6_code 96 = .ok (.aload_n 0, 1) := by decide +kernel
theorem d7_97 : decode prog_12_method_6_code 97 = .ok (.aconst_null, 1) := by decide +kernel
theorem d7_98 : decode prog_12_method_6_code 98 = .ok (.putfield 95, 3) := by decide +kernel
theorem own_ef_rm_look2 (m : MethodId) (a1 : Addr) (a2 : Addr) (q3 : Int64) (a4 : Addr) : entryFrame m #[(.ref a1), (.int (0 : Int32)), (.ref a2), (.long q3), (.ref a4), (.int (1 : Int32))] 8 = mkF m 0 #[.val (.ref a1), .val (.int (0 : Int32)), .val (.ref a2), .val (.long q3), .second, .val (.ref a4), .val (.int (1 : Int32)), .unset] [] := by first | (simp [entryFrame, mkF, argsToLocals, Value.category]; done) | rfl
set_option maxRecDepth 65536 in
set_option maxHeartbeats 40000000 in
theorem rm_look2 (l : Launch) (Z : State) (a0 : Array Value) (hw : ∀ d ∈ tables_1, d.before a0 Z = true) (a1 a2 : Addr) (q3 : Int64) (a4 al sw r0 : Addr) (k4 : ClassId) (c_EMPTY_ELEMENTDATA : Addr) (c_DEFAULTCAPACITY_EMPTY_ELEMENTDATA : Addr) (c_cache : Addr) (c_EMPTY : Addr) (h0 : Heap) (n0 : Nat) (O0 : Old Z n0 h0) (hS : own_S Z c_EMPTY_ELEMENTDATA c_DEFAULTCAPACITY_EMPTY_ELEMENTDATA c_cache c_EMPTY) (hs3 : ¬ q3 < 0) (ge_a1 : n0 ≤ a1) (E_a1 : Exa Z h0 a1 "com/example/usher/usher/OutboxRuns") (F_a1_runs : Fld Z h0 a1 "com/example/usher/usher/OutboxRuns" "runs" "Ljava/util/List;" (.ref al)) (F_a1_learntTo : Fld Z h0 a1 "com/example/usher/usher/OutboxRuns" "learntTo" "J" (.long (0 : Int64))) (F_a1_outOfOrder : Fld Z h0 a1 "com/example/usher/usher/OutboxRuns" "outOfOrder" "Ljava/math/BigDecimal;" .null) (F_a1_fewestRows : Fld Z h0 a1 "com/example/usher/usher/OutboxRuns" "fewestRows" "J" (.long (9223372036854775807 : Int64))) (F_a1_settled : Fld Z h0 a1 "com/example/usher/usher/OutboxRuns" "settled" "J" (.long (0 : Int64))) (F_a1_seenLast : Fld Z h0 a1 "com/example/usher/usher/OutboxRuns" "seenLast" "Ljava/lang/Long;" (.ref r0)) (F_a1_seenWriters : Fld Z h0 a1 "com/example/usher/usher/OutboxRuns" "seenWriters" "[Ljava/lang/String;" (.ref sw)) (E_a2 : Exa Z h0 a2 "java/lang/Long") (F_a2_value : Fld Z h0 a2 "java/lang/Long" "value" "J" (.long q3)) (E_a4 : Exa Z h0 a4 "[Ljava/lang/String;") (V_a4 : Arv Z h0 a4 k4 (.object "java/lang/String") 0 [] .null) (E_r0 : Exa Z h0 r0 "java/lang/Long") (F_r0_value : Fld Z h0 r0 "java/lang/Long" "value" "J" (.long q3)) :
    own_Met l Z (⟨"com/example/usher/usher/OutboxRuns", "looked", "(ZLjava/lang/Long;J[Ljava/lang/String;Z)V"⟩ : MethodName) prog_12_method_6_code 8 none [] ({ frames := 4, cells := 2, slots := 1, locals := 56 } : Room) #[(.ref a1), (.int (0 : Int32)), (.ref a2), (.long q3), (.ref a4), (.int (1 : Int32))] h0 (fun v h L => v = none ∧ Fr n0 L ∧ Keep h0 h [a1] ∧ ∃ r sw2, Exa Z h r "java/lang/Long" ∧ Fld Z h r "java/lang/Long" "value" "J" (.long q3) ∧ Fld Z h a1 "com/example/usher/usher/OutboxRuns" "runs" "Ljava/util/List;" (.ref al) ∧ Fld Z h a1 "com/example/usher/usher/OutboxRuns" "learntTo" "J" (.long (0 : Int64)) ∧ Fld Z h a1 "com/example/usher/usher/OutboxRuns" "outOfOrder" "Ljava/math/BigDecimal;" .null ∧ Fld Z h a1 "com/example/usher/usher/OutboxRuns" "fewestRows" "J" (.long (9223372036854775807 : Int64)) ∧ Fld Z h a1 "com/example/usher/usher/OutboxRuns" "settled" "J" (.long q3) ∧ Fld Z h a1 "com/example/usher/usher/OutboxRuns" "seenLast" "Ljava/lang/Long;" (.ref r) ∧ Fld Z h a1 "com/example/usher/usher/OutboxRuns" "seenWriters" "[Ljava/lang/String;" (.ref sw2)) := by
  refine own_body own_pn_7 ?_
  intro p e s m below meth c s₁ hx hby hml hown hnm hret hlk X0 hZ e0
  replace hown : s.vm.findClass "com/example/usher/usher/OutboxRuns" = some m.cls := hown
  have N0 := Fr.nil n0
  have K0 := Keep.refl h0 [a1]
  refine own_st (fun _ k => castTop (own_ef_rm_look2 m a1 a2 q3 a4) k) ?_
  show own_go _ _ _ _ _ _ _ (s₁.setTop (mkF m 0 #[.val (.ref a1), .val (.int (0 : Int32)), .val (.ref a2), .val (.long q3), .second, .val (.ref a4), .val (.int (1 : Int32)), .unset] []))
  refine own_st (fun _ k => XS.aloadN X0.here hx rfl (hb hby d7_0) rfl rfl k) ?_
  show own_go _ _ _ _ _ _ _ (s₁.setTop (mkF m 1 #[.val (.ref a1), .val (.int (0 : Int32)), .val (.ref a2), .val (.long q3), .second, .val (.ref a4), .val (.int (1 : Int32)), .unset] [(.ref a2)]))
  refine own_st (fun _ k => XS.ifnonnullYes X0.here hx rfl (pc0 := 1) (pc' := 8) rfl (hb hby d7_1) rfl (by decide) (by decide) k) ?_
  show own_go _ _ _ _ _ _ _ (s₁.setTop (mkF m 8 #[.val (.ref a1), .val (.int (0 : Int32)), .val (.ref a2), .val (.long q3), .second, .val (.ref a4), .val (.int (1 : Int32)), .unset] []))
  refine own_st (fun _ k => XS.aloadN X0.here hx rfl (hb hby d7_8) rfl rfl k) ?_
  show own_go _ _ _ _ _ _ _ (s₁.setTop (mkF m 9 #[.val (.ref a1), .val (.int (0 : Int32)), .val (.ref a2), .val (.long q3), .second, .val (.ref a4), .val (.int (1 : Int32)), .unset] [(.ref a2)]))
  obtain ⟨v148, T148, L148, X148, hQ148, st148⟩ := own_callV X0 hx hZ (argsL := []) (rest := []) (rm_lv l Z a0 hw a2 q3 h0 n0 O0 F_a2_value) hown (hw _ (List.mem_of_getElem? (i := 57) rfl)) (hw _ (List.mem_of_getElem? (i := 58) rfl)) (notFace_of_selects (args := #[]) (mvT hZ (hw _ (List.mem_of_getElem? (i := 60) rfl)))) (hw _ (List.mem_of_getElem? (i := 60) rfl)) (hw _ (List.mem_of_getElem? (i := 59) rfl)) (hw _ (List.mem_of_getElem? (i := 46) rfl)) (hw _ (List.mem_of_getElem? (i := 61) rfl)) (by decide) e0 E_a2 (g := (mkF m 9 #[.val (.ref a1), .val (.int (0 : Int32)), .val (.ref a2), .val (.long q3), .second, .val (.ref a4), .val (.int (1 : Int32)), .unset] [(.ref a2)])) rfl (by rw [hml]; rfl) (lenOf own_pd__28_29J rfl) rfl (W := 0) (by show 2 * 0 + _ ≤ _; exact Nat.le_of_eq rfl) (hb hby d7_9) (by decide) (by decide) (by decide) (by decide)
  obtain ⟨rfl, Nq148, eq148⟩ := hQ148
  have N148 := Fr.app N0 Nq148
  refine own_st st148 ?_
  show own_go _ _ _ _ _ _ _ (T148.setTop (mkF m 12 #[.val (.ref a1), .val (.int (0 : Int32)), .val (.ref a2), .val (.long q3), .second, .val (.ref a4), .val (.int (1 : Int32)), .unset] [(.long q3)]))
  refine own_st (fun _ k => XS.lloadN X148.here hx rfl (hb hby d7_12) rfl k) ?_
  show own_go _ _ _ _ _ _ _ (T148.setTop (mkF m 13 #[.val (.ref a1), .val (.int (0 : Int32)), .val (.ref a2), .val (.long q3), .second, .val (.ref a4), .val (.int (1 : Int32)), .unset] [(.long q3), (.long q3)]))
  obtain ⟨v149, T149, L149, X149, hQ149, st149⟩ := own_callS X148 hx hZ (argsL := [(.long q3), (.long q3)]) (rest := []) (rm_min l Z a0 hw q3 q3 h0 n0 O0) hown (hw _ (List.mem_of_getElem? (i := 64) rfl)) (hw _ (List.mem_of_getElem? (i := 65) rfl)) (hw _ (List.mem_of_getElem? (i := 66) rfl)) (hw _ (List.mem_of_getElem? (i := 67) rfl)) (by decide) eq148 (g := (mkF m 13 #[.val (.ref a1), .val (.int (0 : Int32)), .val (.ref a2), .val (.long q3), .second, .val (.ref a4), .val (.int (1 : Int32)), .unset] [(.long q3), (.long q3)])) rfl (by rw [hml]; rfl) (lenOf own_pd__28JJ_29J rfl) rfl (W := 0) (by show 2 * 0 + _ ≤ _; exact Nat.le_of_eq rfl) (hb hby d7_13) (by decide) (by decide) (by decide) (by decide)
  obtain ⟨rfl, Nq149, eq149⟩ := hQ149
  have N149 := Fr.app N148 Nq149
  refine own_st st149 ?_
  show own_go _ _ _ _ _ _ _ (T149.setTop (mkF m 16 #[.val (.ref a1), .val (.int (0 : Int32)), .val (.ref a2), .val (.long q3), .second, .val (.ref a4), .val (.int (1 : Int32)), .unset] [(.long (own_min q3 q3))]))
  rw [own_min_self]
  show own_go _ _ _ _ _ _ _ (T149.setTop (mkF m 16 #[.val (.ref a1), .val (.int (0 : Int32)), .val (.ref a2), .val (.long q3), .second, .val (.ref a4), .val (.int (1 : Int32)), .unset] [(.long q3)]))
  obtain ⟨v150, T150, L150, X150, hQ150, st150⟩ := own_callS X149 hx hZ (argsL := [(.long q3)]) (rest := []) (rm_lvo l Z a0 hw q3 c_EMPTY_ELEMENTDATA c_DEFAULTCAPACITY_EMPTY_ELEMENTDATA c_cache c_EMPTY h0 n0 O0 hS) hown (hw _ (List.mem_of_getElem? (i := 68) rfl)) (hw _ (List.mem_of_getElem? (i := 45) rfl)) (hw _ (List.mem_of_getElem? (i := 46) rfl)) (hw _ (List.mem_of_getElem? (i := 47) rfl)) (by decide) eq149 (g := (mkF m 16 #[.val (.ref a1), .val (.int (0 : Int32)), .val (.ref a2), .val (.long q3), .second, .val (.ref a4), .val (.int (1 : Int32)), .unset] [(.long q3)])) rfl (by rw [hml]; rfl) (lenOf own_pd__28J_29Ljava_2flang_2fLong_3b rfl) rfl (W := 0) (by show 2 * 0 + _ ≤ _; exact Nat.le_of_eq rfl) (hb hby d7_16) (by decide) (by decide) (by decide) (by decide)
  obtain ⟨r150, rfl, Nq150, Kq150, A150, F150⟩ := hQ150
  have N150 := Fr.app N149 Nq150
  have O150 := O0.keep Kq150 all0
  have K150 := K0.trans Kq150 all0
  refine own_st st150 ?_
  show own_go _ _ _ _ _ _ _ (T150.setTop (mkF m 19 #[.val (.ref a1), .val (.int (0 : Int32)), .val (.ref a2), .val (.long q3), .second, .val (.ref a4), .val (.int (1 : Int32)), .unset] [(.ref r150)]))
  refine own_st (fun _ k => XS.astore X150.here hx rfl (hb hby d7_19) rfl rfl (l' := #[.val (.ref a1), .val (.int (0 : Int32)), .val (.ref a2), .val (.long q3), .second, .val (.ref a4), .val (.int (1 : Int32)), .val (.ref r150)]) rfl k) ?_
  show own_go _ _ _ _ _ _ _ (T150.setTop (mkF m 21 #[.val (.ref a1), .val (.int (0 : Int32)), .val (.ref a2), .val (.long q3), .second, .val (.ref a4), .val (.int (1 : Int32)), .val (.ref r150)] []))
  refine own_st (fun _ k => XS.iload X150.here hx rfl (hb hby d7_21) rfl k) ?_
  show own_go _ _ _ _ _ _ _ (T150.setTop (mkF m 23 #[.val (.ref a1), .val (.int (0 : Int32)), .val (.ref a2), .val (.long q3), .second, .val (.ref a4), .val (.int (1 : Int32)), .val (.ref r150)] [(.int (1 : Int32))]))
  refine own_st (fun _ k => XS.ifNo X150.here hx rfl (hb hby d7_23) rfl (by decide) k) ?_
  show own_go _ _ _ _ _ _ _ (T150.setTop (mkF m 26 #[.val (.ref a1), .val (.int (0 : Int32)), .val (.ref a2), .val (.long q3), .second, .val (.ref a4), .val (.int (1 : Int32)), .val (.ref r150)] []))
  refine own_st (fun _ k => XS.aload X150.here hx rfl (hb hby d7_26) rfl rfl k) ?_
  show own_go _ _ _ _ _ _ _ (T150.setTop (mkF m 28 #[.val (.ref a1), .val (.int (0 : Int32)), .val (.ref a2), .val (.long q3), .second, .val (.ref a4), .val (.int (1 : Int32)), .val (.ref r150)] [(.ref r150)]))
  refine own_st (fun _ k => XS.ifnullNo X150.here hx rfl (hb hby d7_28) rfl k) ?_
  show own_go _ _ _ _ _ _ _ (T150.setTop (mkF m 31 #[.val (.ref a1), .val (.int (0 : Int32)), .val (.ref a2), .val (.long q3), .second, .val (.ref a4), .val (.int (1 : Int32)), .val (.ref r150)] []))
  refine own_st (fun _ k => XS.aload X150.here hx rfl (hb hby d7_31) rfl rfl k) ?_
  show own_go _ _ _ _ _ _ _ (T150.setTop (mkF m 33 #[.val (.ref a1), .val (.int (0 : Int32)), .val (.ref a2), .val (.long q3), .second, .val (.ref a4), .val (.int (1 : Int32)), .val (.ref r150)] [(.ref r150)]))
  obtain ⟨v151, T151, L151, X151, hQ151, st151⟩ := own_callV X150 hx hZ (argsL := []) (rest := []) (rm_lv l Z a0 hw r150 q3 T150.heap n0 O150 F150) hown (hw _ (List.mem_of_getElem? (i := 57) rfl)) (hw _ (List.mem_of_getElem? (i := 58) rfl)) (notFace_of_selects (args := #[]) (mvT hZ (hw _ (List.mem_of_getElem? (i := 60) rfl)))) (hw _ (List.mem_of_getElem? (i := 60) rfl)) (hw _ (List.mem_of_getElem? (i := 59) rfl)) (hw _ (List.mem_of_getElem? (i := 46) rfl)) (hw _ (List.mem_of_getElem? (i := 61) rfl)) (by decide) rfl A150 (g := (mkF m 33 #[.val (.ref a1), .val (.int (0 : Int32)), .val (.ref a2), .val (.long q3), .second, .val (.ref a4), .val (.int (1 : Int32)), .val (.ref r150)] [(.ref r150)])) rfl (by rw [hml]; rfl) (lenOf own_pd__28_29J rfl) rfl (W := 0) (by show 2 * 0 + _ ≤ _; exact Nat.le_of_eq rfl) (hb hby d7_33) (by decide) (by decide) (by decide) (by decide)
  obtain ⟨rfl, Nq151, eq151⟩ := hQ151
  have N151 := Fr.app N150 Nq151
  refine own_st st151 ?_
  show own_go _ _ _ _ _ _ _ (T151.setTop (mkF m 36 #[.val (.ref a1), .val (.int (0 : Int32)), .val (.ref a2), .val (.long q3), .second, .val (.ref a4), .val (.int (1 : Int32)), .val (.ref r150)] [(.long q3)]))
  refine own_st (fun _ k => XS.aloadN X151.here hx rfl (hb hby d7_36) rfl rfl k) ?_
  show own_go _ _ _ _ _ _ _ (T151.setTop (mkF m 37 #[.val (.ref a1), .val (.int (0 : Int32)), .val (.ref a2), .val (.long q3), .second, .val (.ref a4), .val (.int (1 : Int32)), .val (.ref r150)] [(.ref a1), (.long q3)]))
  have f152 := (F_a1_settled.keep Kq150 nin0)
  obtain ⟨T153, X153, e153, st153⟩ := getF X151 hx hZ hown (host := "") (Or.inl (hw _ (List.mem_of_getElem? (i := 69) rfl))) Via.refl eq151 f152 (g := (mkF m 37 #[.val (.ref a1), .val (.int (0 : Int32)), .val (.ref a2), .val (.long q3), .second, .val (.ref a4), .val (.int (1 : Int32)), .val (.ref r150)] [(.ref a1), (.long q3)])) rfl rfl (hb hby d7_37)
  refine own_st st153 ?_
  show own_go _ _ _ _ _ _ _ (T153.setTop (mkF m 40 #[.val (.ref a1), .val (.int (0 : Int32)), .val (.ref a2), .val (.long q3), .second, .val (.ref a4), .val (.int (1 : Int32)), .val (.ref r150)] [(.long (0 : Int64)), (.long q3)]))
  refine own_st (fun _ k => XS.lcmp X153.here hx rfl (hb hby d7_40) rfl k) ?_
  show own_go _ _ _ _ _ _ _ (T153.setTop (mkF m 41 #[.val (.ref a1), .val (.int (0 : Int32)), .val (.ref a2), .val (.long q3), .second, .val (.ref a4), .val (.int (1 : Int32)), .val (.ref r150)] [(.int (lcmpW q3 (0 : Int64)))]))
  refine own_st (fun _ k => XS.ifYes X153.here hx rfl (pc0 := 41) (pc' := 67) rfl (hb hby d7_41) rfl (XT.ll_ge_t hs3) (by decide) (by decide) k) ?_
  show own_go _ _ _ _ _ _ _ (T153.setTop (mkF m 67 #[.val (.ref a1), .val (.int (0 : Int32)), .val (.ref a2), .val (.long q3), .second, .val (.ref a4), .val (.int (1 : Int32)), .val (.ref r150)] []))
  refine own_st (fun _ k => XS.aloadN X153.here hx rfl (hb hby d7_67) rfl rfl k) ?_
  show own_go _ _ _ _ _ _ _ (T153.setTop (mkF m 68 #[.val (.ref a1), .val (.int (0 : Int32)), .val (.ref a2), .val (.long q3), .second, .val (.ref a4), .val (.int (1 : Int32)), .val (.ref r150)] [(.ref a1)]))
  have f154 := (F_a1_seenLast.keep Kq150 nin0)
  obtain ⟨T155, X155, e155, st155⟩ := getF X153 hx hZ hown (host := "") (Or.inl (hw _ (List.mem_of_getElem? (i := 71) rfl))) Via.refl e153 f154 (g := (mkF m 68 #[.val (.ref a1), .val (.int (0 : Int32)), .val (.ref a2), .val (.long q3), .second, .val (.ref a4), .val (.int (1 : Int32)), .val (.ref r150)] [(.ref a1)])) rfl rfl (hb hby d7_68)
  refine own_st st155 ?_
  show own_go _ _ _ _ _ _ _ (T155.setTop (mkF m 71 #[.val (.ref a1), .val (.int (0 : Int32)), .val (.ref a2), .val (.long q3), .second, .val (.ref a4), .val (.int (1 : Int32)), .val (.ref r150)] [(.ref r0)]))
  refine own_st (fun _ k => XS.ifnullNo X155.here hx rfl (hb hby d7_71) rfl k) ?_
  show own_go _ _ _ _ _ _ _ (T155.setTop (mkF m 74 #[.val (.ref a1), .val (.int (0 : Int32)), .val (.ref a2), .val (.long q3), .second, .val (.ref a4), .val (.int (1 : Int32)), .val (.ref r150)] []))
  refine own_st (fun _ k => XS.iloadN X155.here hx rfl (hb hby d7_74) rfl k) ?_
  show own_go _ _ _ _ _ _ _ (T155.setTop (mkF m 75 #[.val (.ref a1), .val (.int (0 : Int32)), .val (.ref a2), .val (.long q3), .second, .val (.ref a4), .val (.int (1 : Int32)), .val (.ref r150)] [(.int (0 : Int32))]))
  refine own_st (fun _ k => XS.ifNo X155.here hx rfl (hb hby d7_75) rfl (by decide) k) ?_
  show own_go _ _ _ _ _ _ _ (T155.setTop (mkF m 78 #[.val (.ref a1), .val (.int (0 : Int32)), .val (.ref a2), .val (.long q3), .second, .val (.ref a4), .val (.int (1 : Int32)), .val (.ref r150)] []))
  refine own_st (fun _ k => XS.aloadN X155.here hx rfl (hb hby d7_78) rfl rfl k) ?_
  show own_go _ _ _ _ _ _ _ (T155.setTop (mkF m 79 #[.val (.ref a1), .val (.int (0 : Int32)), .val (.ref a2), .val (.long q3), .second, .val (.ref a4), .val (.int (1 : Int32)), .val (.ref r150)] [(.ref a1)]))
  refine own_st (fun _ k => XS.aloadN X155.here hx rfl (hb hby d7_79) rfl rfl k) ?_
  show own_go _ _ _ _ _ _ _ (T155.setTop (mkF m 80 #[.val (.ref a1), .val (.int (0 : Int32)), .val (.ref a2), .val (.long q3), .second, .val (.ref a4), .val (.int (1 : Int32)), .val (.ref r150)] [(.ref a1), (.ref a1)]))
  obtain ⟨T156, X156, e156, st156⟩ := getF X155 hx hZ hown (host := "") (Or.inl (hw _ (List.mem_of_getElem? (i := 69) rfl))) Via.refl e155 f152 (g := (mkF m 80 #[.val (.ref a1), .val (.int (0 : Int32)), .val (.ref a2), .val (.long q3), .second, .val (.ref a4), .val (.int (1 : Int32)), .val (.ref r150)] [(.ref a1), (.ref a1)])) rfl rfl (hb hby d7_80)
  refine own_st st156 ?_
  show own_go _ _ _ _ _ _ _ (T156.setTop (mkF m 83 #[.val (.ref a1), .val (.int (0 : Int32)), .val (.ref a2), .val (.long q3), .second, .val (.ref a4), .val (.int (1 : Int32)), .val (.ref r150)] [(.long (0 : Int64)), (.ref a1)]))
  refine own_st (fun _ k => XS.aloadN X156.here hx rfl (hb hby d7_83) rfl rfl k) ?_
  show own_go _ _ _ _ _ _ _ (T156.setTop (mkF m 84 #[.val (.ref a1), .val (.int (0 : Int32)), .val (.ref a2), .val (.long q3), .second, .val (.ref a4), .val (.int (1 : Int32)), .val (.ref r150)] [(.ref a1), (.long (0 : Int64)), (.ref a1)]))
  obtain ⟨T157, X157, e157, st157⟩ := getF X156 hx hZ hown (host := "") (Or.inl (hw _ (List.mem_of_getElem? (i := 71) rfl))) Via.refl e156 f154 (g := (mkF m 84 #[.val (.ref a1), .val (.int (0 : Int32)), .val (.ref a2), .val (.long q3), .second, .val (.ref a4), .val (.int (1 : Int32)), .val (.ref r150)] [(.ref a1), (.long (0 : Int64)), (.ref a1)])) rfl rfl (hb hby d7_84)
  refine own_st st157 ?_
  show own_go _ _ _ _ _ _ _ (T157.setTop (mkF m 87 #[.val (.ref a1), .val (.int (0 : Int32)), .val (.ref a2), .val (.long q3), .second, .val (.ref a4), .val (.int (1 : Int32)), .val (.ref r150)] [(.ref r0), (.long (0 : Int64)), (.ref a1)]))
  have f159 := (F_r0_value.keep Kq150 nin0)
  have f160 := (E_r0.keep Kq150)
  obtain ⟨v158, T158, L158, X158, hQ158, st158⟩ := own_callV X157 hx hZ (argsL := []) (rest := [(.long (0 : Int64)), (.ref a1)]) (rm_lv l Z a0 hw r0 q3 T150.heap n0 O150 f159) hown (hw _ (List.mem_of_getElem? (i := 57) rfl)) (hw _ (List.mem_of_getElem? (i := 58) rfl)) (notFace_of_selects (args := #[]) (mvT hZ (hw _ (List.mem_of_getElem? (i := 60) rfl)))) (hw _ (List.mem_of_getElem? (i := 60) rfl)) (hw _ (List.mem_of_getElem? (i := 59) rfl)) (hw _ (List.mem_of_getElem? (i := 46) rfl)) (hw _ (List.mem_of_getElem? (i := 61) rfl)) (by decide) e157 f160 (g := (mkF m 87 #[.val (.ref a1), .val (.int (0 : Int32)), .val (.ref a2), .val (.long q3), .second, .val (.ref a4), .val (.int (1 : Int32)), .val (.ref r150)] [(.ref r0), (.long (0 : Int64)), (.ref a1)])) rfl (by rw [hml]; rfl) (lenOf own_pd__28_29J rfl) rfl (W := 3) (by show 2 * 0 + _ ≤ _; exact Nat.le_of_eq rfl) (hb hby d7_87) (by decide) (by decide) (by decide) (by decide)
  obtain ⟨rfl, Nq158, eq158⟩ := hQ158
  have N158 := Fr.app N151 Nq158
  refine own_st st158 ?_
  show own_go _ _ _ _ _ _ _ (T158.setTop (mkF m 90 #[.val (.ref a1), .val (.int (0 : Int32)), .val (.ref a2), .val (.long q3), .second, .val (.ref a4), .val (.int (1 : Int32)), .val (.ref r150)] [(.long q3), (.long (0 : Int64)), (.ref a1)]))
  obtain ⟨v161, T161, L161, X161, hQ161, st161⟩ := own_callS X158 hx hZ (argsL := [(.long (0 : Int64)), (.long q3)]) (rest := [(.ref a1)]) (rm_max l Z a0 hw (0 : Int64) q3 T150.heap n0 O150) hown (hw _ (List.mem_of_getElem? (i := 82) rfl)) (hw _ (List.mem_of_getElem? (i := 83) rfl)) (hw _ (List.mem_of_getElem? (i := 66) rfl)) (hw _ (List.mem_of_getElem? (i := 84) rfl)) (by decide) eq158 (g := (mkF m 90 #[.val (.ref a1), .val (.int (0 : Int32)), .val (.ref a2), .val (.long q3), .second, .val (.ref a4), .val (.int (1 : Int32)), .val (.ref r150)] [(.long q3), (.long (0 : Int64)), (.ref a1)])) rfl (by rw [hml]; rfl) (lenOf own_pd__28JJ_29J rfl) rfl (W := 1) (by show 2 * 0 + _ ≤ _; exact Nat.le_of_eq rfl) (hb hby d7_90) (by decide) (by decide) (by decide) (by decide)
  obtain ⟨rfl, Nq161, eq161⟩ := hQ161
  have N161 := Fr.app N158 Nq161
  refine own_st st161 ?_
  show own_go _ _ _ _ _ _ _ (T161.setTop (mkF m 93 #[.val (.ref a1), .val (.int (0 : Int32)), .val (.ref a2), .val (.long q3), .second, .val (.ref a4), .val (.int (1 : Int32)), .val (.ref r150)] [(.long (own_max (0 : Int64) q3)), (.ref a1)]))
  rw [(own_max0 hs3)]
  show own_go _ _ _ _ _ _ _ (T161.setTop (mkF m 93 #[.val (.ref a1), .val (.int (0 : Int32)), .val (.ref a2), .val (.long q3), .second, .val (.ref a4), .val (.int (1 : Int32)), .val (.ref r150)] [(.long q3), (.ref a1)]))
  have f163 := (E_a1.keep Kq150)
  obtain ⟨T162, h162, X162, e162, W162, st162⟩ := putF X161 hx hZ hown (host := "") (Or.inl (hw _ (List.mem_of_getElem? (i := 69) rfl))) Via.refl eq161 f152 f163 (Or.inl (hw _ (List.mem_of_getElem? (i := 70) rfl))) (hw _ (List.mem_of_getElem? (i := 2) rfl)) (ty := .long) (by decide) rfl rfl (g := (mkF m 93 #[.val (.ref a1), .val (.int (0 : Int32)), .val (.ref a2), .val (.long q3), .second, .val (.ref a4), .val (.int (1 : Int32)), .val (.ref r150)] [(.long q3), (.ref a1)])) rfl rfl (hb hby d7_93)
  have N162 := Fr.snoc X162 N161 ge_a1
  have O164 := O150.wr W162 ge_a1
  have K164 := K150.wr W162 (Or.inl (List.mem_of_getElem? (i := 0) rfl))
  have F162 := f152.same W162
  refine own_st st162 ?_
  show own_go _ _ _ _ _ _ _ (T162.setTop (mkF m 96 #[.val (.ref a1), .val (.int (0 : Int32)), .val (.ref a2), .val (.long q3), .second, .val (.ref a4), .val (.int (1 : Int32)), .val (.ref r150)] []))
  refine own_st (fun _ k => XS.aloadN X162.here hx rfl (hb hby d7_96) rfl rfl k) ?_
  show own_go _ _ _ _ _ _ _ (T162.setTop (mkF m 97 #[.val (.ref a1), .val (.int (0 : Int32)), .val (.ref a2), .val (.long q3), .second, .val (.ref a4), .val (.int (1 : Int32)), .val (.ref r150)] [(.ref a1)]))
  refine own_st (fun _ k => XS.aconstNull X162.here hx rfl (hb hby d7_97) k) ?_
  show own_go _ _ _ _ _ _ _ (T162.setTop (mkF m 98 #[.val (.ref a1), .val (.int (0 : Int32)), .val (.ref a2), .val (.long q3), .second, .val (.ref a4), .val (.int (1 : Int32)), .val (.ref r150)] [.null, (.ref a1)]))
  have f166 := (f154.other W162 (Or.inr (slot_ne (Or.inl (hw _ (List.mem_of_getElem? (i := 72) rfl))) (Or.inl (hw _ (List.mem_of_getElem? (i := 70) rfl))) (by decide) (t := (.object "java/lang/Long")) (t' := .long) (by decide) (by decide))))
  have f167 := (f163.wr W162)
  obtain ⟨T165, h165, X165, e165, W165, st165⟩ := putF X162 hx hZ hown (host := "") (Or.inl (hw _ (List.mem_of_getElem? (i := 71) rfl))) Via.refl e162 f166 f167 (Or.inl (hw _ (List.mem_of_getElem? (i := 72) rfl))) (hw _ (List.mem_of_getElem? (i := 2) rfl)) (ty := (.object "java/lang/Long")) (by decide) rfl rfl (g := (mkF m 98 #[.val (.ref a1), .val (.int (0 : Int32)), .val (.ref a2), .val (.long q3), .second, .val (.ref a4), .val (.int (1 : Int32)), .val (.ref r150)] [.null, (.ref a1)])) rfl rfl (hb hby d7_98)
  have N165 := Fr.snoc X165 N162 ge_a1
  have O168 := O164.wr W165 ge_a1
  have K168 := K164.wr W165 (Or.inl (List.mem_of_getElem? (i := 0) rfl))
  have F165 := f166.same W165
  refine own_st st165 ?_
  show own_go _ _ _ _ _ _ _ (T165.setTop (mkF m 101 #[.val (.ref a1), .val (.int (0 : Int32)), .val (.ref a2), .val (.long q3), .second, .val (.ref a4), .val (.int (1 : Int32)), .val (.ref r150)] []))
  refine own_st (fun _ k => XS.aloadN X165.here hx rfl (hb hby d7_101) rfl rfl k) ?_
  show own_go _ _ _ _ _ _ _ (T165.setTop (mkF m 102 #[.val (.ref a1), .val (.int (0 : Int32)), .val (.ref a2), .val (.long q3), .second, .val (.ref a4), .val (.int (1 : Int32)), .val (.ref r150)] [(.ref a1)]))
  obtain ⟨T169, X169, e169, st169⟩ := getF X165 hx hZ hown (host := "") (Or.inl (hw _ (List.mem_of_getElem? (i := 71) rfl))) Via.refl e165 F165 (g := (mkF m 102 #[.val (.ref a1), .val (.int (0 : Int32)), .val (.ref a2), .val (.long q3), .second, .val (.ref a4), .val (.int (1 : Int32)), .val (.ref r150)] [(.ref a1)])) rfl rfl (hb hby d7_102)
  refine own_st st169 ?_
  show own_go _ _ _ _ _ _ _ (T169.setTop (mkF m 105 #[.val (.ref a1), .val (.int (0 : Int32)), .val (.ref a2), .val (.long q3), .second, .val (.ref a4), .val (.int (1 : Int32)), .val (.ref r150)] [.null]))
  refine own_st (fun _ k => XS.ifnonnullNo X169.here hx rfl (hb hby d7_105) rfl k) ?_
  show own_go _ _ _ _ _ _ _ (T169.setTop (mkF m 108 #[.val (.ref a1), .val (.int (0 : Int32)), .val (.ref a2), .val (.long q3), .second, .val (.ref a4), .val (.int (1 : Int32)), .val (.ref r150)] []))
  refine own_st (fun _ k => XS.aloadN X169.here hx rfl (hb hby d7_108) rfl rfl k) ?_
  show own_go _ _ _ _ _ _ _ (T169.setTop (mkF m 109 #[.val (.ref a1), .val (.int (0 : Int32)), .val (.ref a2), .val (.long q3), .second, .val (.ref a4), .val (.int (1 : Int32)), .val (.ref r150)] [(.ref a1)]))
  refine own_st (fun _ k => XS.aload X169.here hx rfl (hb hby d7_109) rfl rfl k) ?_
  show own_go _ _ _ _ _ _ _ (T169.setTop (mkF m 111 #[.val (.ref a1), .val (.int (0 : Int32)), .val (.ref a2), .val (.long q3), .second, .val (.ref a4), .val (.int (1 : Int32)), .val (.ref r150)] [(.ref r150), (.ref a1)]))
  have f171 := (f167.wr W165)
  obtain ⟨T170, h170, X170, e170, W170, st170⟩ := putF X169 hx hZ hown (host := "") (Or.inl (hw _ (List.mem_of_getElem? (i := 71) rfl))) Via.refl e169 F165 f171 (Or.inl (hw _ (List.mem_of_getElem? (i := 72) rfl))) (hw _ (List.mem_of_getElem? (i := 2) rfl)) (ty := (.object "java/lang/Long")) (by decide) rfl rfl (g := (mkF m 111 #[.val (.ref a1), .val (.int (0 : Int32)), .val (.ref a2), .val (.long q3), .second, .val (.ref a4), .val (.int (1 : Int32)), .val (.ref r150)] [(.ref r150), (.ref a1)])) rfl rfl (hb hby d7_111)
  have N170 := Fr.snoc X170 N165 ge_a1
  have O172 := O168.wr W170 ge_a1
  have K172 := K168.wr W170 (Or.inl (List.mem_of_getElem? (i := 0) rfl))
  have F170 := F165.same W170
  refine own_st st170 ?_
  show own_go _ _ _ _ _ _ _ (T170.setTop (mkF m 114 #[.val (.ref a1), .val (.int (0 : Int32)), .val (.ref a2), .val (.long q3), .second, .val (.ref a4), .val (.int (1 : Int32)), .val (.ref r150)] []))
  refine own_st (fun _ k => XS.aloadN X170.here hx rfl (hb hby d7_114) rfl rfl k) ?_
  show own_go _ _ _ _ _ _ _ (T170.setTop (mkF m 115 #[.val (.ref a1), .val (.int (0 : Int32)), .val (.ref a2), .val (.long q3), .second, .val (.ref a4), .val (.int (1 : Int32)), .val (.ref r150)] [(.ref a1)]))
  refine own_st (fun _ k => XS.aload X170.here hx rfl (hb hby d7_115) rfl rfl k) ?_
  show own_go _ _ _ _ _ _ _ (T170.setTop (mkF m 117 #[.val (.ref a1), .val (.int (0 : Int32)), .val (.ref a2), .val (.long q3), .second, .val (.ref a4), .val (.int (1 : Int32)), .val (.ref r150)] [(.ref a4), (.ref a1)]))
  have f174 := ((((E_a4.keep Kq150).wr W162).wr W165).wr W170)
  have f175 := (f171.wr W170)
  have ne_a4_a1 : a4 ≠ a1 := ne_exa f174 f175 (by decide)
  have f176 := ((((V_a4.keep Kq150 nin0).other W162 ne_a4_a1).other W165 ne_a4_a1).other W170 ne_a4_a1)
  obtain ⟨T173, h173, b173, X173, e173, g173, E173, A173, st173⟩ := own_clone0 X170 hx hZ hown (hw _ (List.mem_of_getElem? (i := 73) rfl)) (hw _ (List.mem_of_getElem? (i := 74) rfl)) (hw _ (List.mem_of_getElem? (i := 78) rfl)) (hw _ (List.mem_of_getElem? (i := 76) rfl)) (hw _ (List.mem_of_getElem? (i := 77) rfl)) (hw _ (List.mem_of_getElem? (i := 79) rfl)) e170 f176 f174 (g := (mkF m 117 #[.val (.ref a1), .val (.int (0 : Int32)), .val (.ref a2), .val (.long q3), .second, .val (.ref a4), .val (.int (1 : Int32)), .val (.ref r150)] [(.ref a4), (.ref a1)])) rfl (by rw [hml]; rfl) rfl (hb hby d7_117) (by decide) (W := 1) (by show 2 * 0 + _ ≤ _; exact Nat.le_of_eq rfl) (by decide) (by decide) (by decide)
  have ge_b173 : n0 ≤ b173 := by rw [g173]; exact own_osz O172
  have sz_b173 : h0.size ≤ b173 := by rw [g173]; exact K172.1
  have ne_a1_b173 : a1 ≠ b173 := (fun q => absurd f175.lt (by rw [q, g173]; exact Nat.lt_irrefl _))
  have f177 := ((((E_a2.keep Kq150).wr W162).wr W165).wr W170)
  have ne_a2_b173 : a2 ≠ b173 := (fun q => absurd f177.lt (by rw [q, g173]; exact Nat.lt_irrefl _))
  have ne_a4_b173 : a4 ≠ b173 := (fun q => absurd f174.lt (by rw [q, g173]; exact Nat.lt_irrefl _))
  have f178 := (((f160.wr W162).wr W165).wr W170)
  have ne_r0_b173 : r0 ≠ b173 := (fun q => absurd f178.lt (by rw [q, g173]; exact Nat.lt_irrefl _))
  have f179 := (((A150.wr W162).wr W165).wr W170)
  have ne_r150_b173 : r150 ≠ b173 := (fun q => absurd f179.lt (by rw [q, g173]; exact Nat.lt_irrefl _))
  have O173 := O172.ext E173
  have K173 := K172.ext E173
  refine own_st st173 ?_
  show own_go _ _ _ _ _ _ _ (T173.setTop (mkF m 120 #[.val (.ref a1), .val (.int (0 : Int32)), .val (.ref a2), .val (.long q3), .second, .val (.ref a4), .val (.int (1 : Int32)), .val (.ref r150)] [(.ref b173), (.ref a1)]))
  obtain ⟨T180, X180, e180, st180⟩ := castY X173 hx hZ hown (hw _ (List.mem_of_getElem? (i := 80) rfl)) e173 (Ins.self A173) (g := (mkF m 120 #[.val (.ref a1), .val (.int (0 : Int32)), .val (.ref a2), .val (.long q3), .second, .val (.ref a4), .val (.int (1 : Int32)), .val (.ref r150)] [(.ref b173), (.ref a1)])) rfl rfl (hb hby d7_120)
  refine own_st st180 ?_
  show own_go _ _ _ _ _ _ _ (T180.setTop (mkF m 123 #[.val (.ref a1), .val (.int (0 : Int32)), .val (.ref a2), .val (.long q3), .second, .val (.ref a4), .val (.int (1 : Int32)), .val (.ref r150)] [(.ref b173), (.ref a1)]))
  have f182 := (((((F_a1_seenWriters.keep Kq150 nin0).other W162 (Or.inr (slot_ne (Or.inl (hw _ (List.mem_of_getElem? (i := 42) rfl))) (Or.inl (hw _ (List.mem_of_getElem? (i := 70) rfl))) (by decide) (t := (.array (.object "java/lang/String"))) (t' := .long) (by decide) (by decide)))).other W165 (Or.inr (slot_ne (Or.inl (hw _ (List.mem_of_getElem? (i := 42) rfl))) (Or.inl (hw _ (List.mem_of_getElem? (i := 72) rfl))) (by decide) (t := (.array (.object "java/lang/String"))) (t' := (.object "java/lang/Long")) (by decide) (by decide)))).other W170 (Or.inr (slot_ne (Or.inl (hw _ (List.mem_of_getElem? (i := 42) rfl))) (Or.inl (hw _ (List.mem_of_getElem? (i := 72) rfl))) (by decide) (t := (.array (.object "java/lang/String"))) (t' := (.object "java/lang/Long")) (by decide) (by decide)))).ext E173)
  have f183 := (f175.ext E173)
  obtain ⟨T181, h181, X181, e181, W181, st181⟩ := putF X180 hx hZ hown (host := "") (Or.inl (hw _ (List.mem_of_getElem? (i := 41) rfl))) Via.refl e180 f182 f183 (Or.inl (hw _ (List.mem_of_getElem? (i := 42) rfl))) (hw _ (List.mem_of_getElem? (i := 2) rfl)) (ty := (.array (.object "java/lang/String"))) (by decide) rfl rfl (g := (mkF m 123 #[.val (.ref a1), .val (.int (0 : Int32)), .val (.ref a2), .val (.long q3), .second, .val (.ref a4), .val (.int (1 : Int32)), .val (.ref r150)] [(.ref b173), (.ref a1)])) rfl rfl (hb hby d7_123)
  have N181 := Fr.snoc X181 N170 ge_a1
  have O184 := O173.wr W181 ge_a1
  have K184 := K173.wr W181 (Or.inl (List.mem_of_getElem? (i := 0) rfl))
  have F181 := f182.same W181
  refine own_st st181 ?_
  show own_go _ _ _ _ _ _ _ (T181.setTop (mkF m 126 #[.val (.ref a1), .val (.int (0 : Int32)), .val (.ref a2), .val (.long q3), .second, .val (.ref a4), .val (.int (1 : Int32)), .val (.ref r150)] []))
  have f185 := ((f179.ext E173).wr W181)
  have f186 := (f183.wr W181)
  have ne_r150_a1 : r150 ≠ a1 := ne_exa f185 f186 (by decide)
  have f187 := (((((F150.other W162 (Or.inl ne_r150_a1)).other W165 (Or.inl ne_r150_a1)).other W170 (Or.inl ne_r150_a1)).ext E173).other W181 (Or.inl ne_r150_a1))
  have f188 := ((((((F_a1_runs.keep Kq150 nin0).other W162 (Or.inr (slot_ne (Or.inr (hw _ (List.mem_of_getElem? (i := 35) rfl))) (Or.inl (hw _ (List.mem_of_getElem? (i := 70) rfl))) (by decide) (t := (.object "java/util/List")) (t' := .long) (by decide) (by decide)))).other W165 (Or.inr (slot_ne (Or.inr (hw _ (List.mem_of_getElem? (i := 35) rfl))) (Or.inl (hw _ (List.mem_of_getElem? (i := 72) rfl))) (by decide) (t := (.object "java/util/List")) (t' := (.object "java/lang/Long")) (by decide) (by decide)))).other W170 (Or.inr (slot_ne (Or.inr (hw _ (List.mem_of_getElem? (i := 35) rfl))) (Or.inl (hw _ (List.mem_of_getElem? (i := 72) rfl))) (by decide) (t := (.object "java/util/List")) (t' := (.object "java/lang/Long")) (by decide) (by decide)))).ext E173).other W181 (Or.inr (slot_ne (Or.inr (hw _ (List.mem_of_getElem? (i := 35) rfl))) (Or.inl (hw _ (List.mem_of_getElem? (i := 42) rfl))) (by decide) (t := (.object "java/util/List")) (t' := (.array (.object "java/lang/String"))) (by decide) (by decide))))
  have f189 := ((((((F_a1_learntTo.keep Kq150 nin0).other W162 (Or.inr (slot_ne (Or.inl (hw _ (List.mem_of_getElem? (i := 180) rfl))) (Or.inl (hw _ (List.mem_of_getElem? (i := 70) rfl))) (by decide) (t := .long) (t' := .long) (by decide) (by decide)))).other W165 (Or.inr (slot_ne (Or.inl (hw _ (List.mem_of_getElem? (i := 180) rfl))) (Or.inl (hw _ (List.mem_of_getElem? (i := 72) rfl))) (by decide) (t := .long) (t' := (.object "java/lang/Long")) (by decide) (by decide)))).other W170 (Or.inr (slot_ne (Or.inl (hw _ (List.mem_of_getElem? (i := 180) rfl))) (Or.inl (hw _ (List.mem_of_getElem? (i := 72) rfl))) (by decide) (t := .long) (t' := (.object "java/lang/Long")) (by decide) (by decide)))).ext E173).other W181 (Or.inr (slot_ne (Or.inl (hw _ (List.mem_of_getElem? (i := 180) rfl))) (Or.inl (hw _ (List.mem_of_getElem? (i := 42) rfl))) (by decide) (t := .long) (t' := (.array (.object "java/lang/String"))) (by decide) (by decide))))
  have f190 := ((((((F_a1_outOfOrder.keep Kq150 nin0).other W162 (Or.inr (slot_ne (Or.inl (hw _ (List.mem_of_getElem? (i := 109) rfl))) (Or.inl (hw _ (List.mem_of_getElem? (i := 70) rfl))) (by decide) (t := (.object "java/math/BigDecimal")) (t' := .long) (by decide) (by decide)))).other W165 (Or.inr (slot_ne (Or.inl (hw _ (List.mem_of_getElem? (i := 109) rfl))) (Or.inl (hw _ (List.mem_of_getElem? (i := 72) rfl))) (by decide) (t := (.object "java/math/BigDecimal")) (t' := (.object "java/lang/Long")) (by decide) (by decide)))).other W170 (Or.inr (slot_ne (Or.inl (hw _ (List.mem_of_getElem? (i := 109) rfl))) (Or.inl (hw _ (List.mem_of_getElem? (i := 72) rfl))) (by decide) (t := (.object "java/math/BigDecimal")) (t' := (.object "java/lang/Long")) (by decide) (by decide)))).ext E173).other W181 (Or.inr (slot_ne (Or.inl (hw _ (List.mem_of_getElem? (i := 109) rfl))) (Or.inl (hw _ (List.mem_of_getElem? (i := 42) rfl))) (by decide) (t := (.object "java/math/BigDecimal")) (t' := (.array (.object "java/lang/String"))) (by decide) (by decide))))
  have f191 := ((((((F_a1_fewestRows.keep Kq150 nin0).other W162 (Or.inr (slot_ne (Or.inl (hw _ (List.mem_of_getElem? (i := 38) rfl))) (Or.inl (hw _ (List.mem_of_getElem? (i := 70) rfl))) (by decide) (t := .long) (t' := .long) (by decide) (by decide)))).other W165 (Or.inr (slot_ne (Or.inl (hw _ (List.mem_of_getElem? (i := 38) rfl))) (Or.inl (hw _ (List.mem_of_getElem? (i := 72) rfl))) (by decide) (t := .long) (t' := (.object "java/lang/Long")) (by decide) (by decide)))).other W170 (Or.inr (slot_ne (Or.inl (hw _ (List.mem_of_getElem? (i := 38) rfl))) (Or.inl (hw _ (List.mem_of_getElem? (i := 72) rfl))) (by decide) (t := .long) (t' := (.object "java/lang/Long")) (by decide) (by decide)))).ext E173).other W181 (Or.inr (slot_ne (Or.inl (hw _ (List.mem_of_getElem? (i := 38) rfl))) (Or.inl (hw _ (List.mem_of_getElem? (i := 42) rfl))) (by decide) (t := .long) (t' := (.array (.object "java/lang/String"))) (by decide) (by decide))))
  have f192 := ((((F162.other W165 (Or.inr (slot_ne (Or.inl (hw _ (List.mem_of_getElem? (i := 70) rfl))) (Or.inl (hw _ (List.mem_of_getElem? (i := 72) rfl))) (by decide) (t := .long) (t' := (.object "java/lang/Long")) (by decide) (by decide)))).other W170 (Or.inr (slot_ne (Or.inl (hw _ (List.mem_of_getElem? (i := 70) rfl))) (Or.inl (hw _ (List.mem_of_getElem? (i := 72) rfl))) (by decide) (t := .long) (t' := (.object "java/lang/Long")) (by decide) (by decide)))).ext E173).other W181 (Or.inr (slot_ne (Or.inl (hw _ (List.mem_of_getElem? (i := 70) rfl))) (Or.inl (hw _ (List.mem_of_getElem? (i := 42) rfl))) (by decide) (t := .long) (t' := (.array (.object "java/lang/String"))) (by decide) (by decide))))
  have f193 := ((F170.ext E173).other W181 (Or.inr (slot_ne (Or.inl (hw _ (List.mem_of_getElem? (i := 72) rfl))) (Or.inl (hw _ (List.mem_of_getElem? (i := 42) rfl))) (by decide) (t := (.object "java/lang/Long")) (t' := (.array (.object "java/lang/String"))) (by decide) (by decide))))
  exact own_ret0 X181 hx hlk hret (hb hby d7_126) (by decide) (by decide) (by rw [e181]; exact ⟨rfl, N181, K184, r150, b173, f185, f187, f188, f189, f190, f191, f192, f193, F181⟩)
theorem d16_0 : decode prog_12_method_8_code 0 = .ok (.invokestatic 102, 3) := by decide +kernel
theorem d16_3 : decode prog_12_method_8_code 3 = .ok (.astore_n 1, 1) := by decide +kernel
theorem d16_4 : decode prog_12_method_8_code 4 = .ok (.aload_n 0, 1) := by decide +kernel
theorem d16_5 : decode prog_12_method_8_code 5 = .ok (.getfield 10, 3) := by decide +kernel
theorem d16_8 : decode prog_12_method_8_code 8 = .ok (.invokeinterface 120 1, 5) := by decide +kernel
theorem d16_13 : decode prog_12_method_8_code 13 = .ok (.ifCond .ne 30, 3) := by decide +kernel
theorem d16_43 : decode prog_12_method_8_code 43 = .ok (.aload_n 1, 1) := by decide +kernel
theorem d16_44 : decode prog_12_method_8_code 44 = .ok (.areturn, 1) := by decide +kernel
theorem own_pn_16 : plainFor (⟨"com/example/usher/usher/OutboxRuns", "last", "()Ljava/util/Optional;"⟩ : MethodName) = true := plainFor_of_name (show plainName "com/example/usher/usher/OutboxRuns" = true by first | (simp [plainName, overriddenIn]; done) | decide +kernel)
theorem own_pd__28_29Ljava_2futil_2fOptional_3b : parseMethodDescriptor "()Ljava/util/Optional;" = some ⟨[], some (.object "java/util/Optional")⟩ := by decide +kernel
theorem own_pd__28_29Z : parseMethodDescriptor "()Z" = some ⟨[], some .boolean⟩ := by decide +kernel
theorem own_ef_rm_last (m : MethodId) (a1 : Addr) : entryFrame m #[(.ref a1)] 2 = mkF m 0 #[.val (.ref a1), .unset] [] := by first | (simp [entryFrame, mkF, argsToLocals, Value.category]; done) | rfl
set_option maxRecDepth 65536 in
set_option maxHeartbeats 40000000 in
theorem rm_last (l : Launch) (Z : State) (a0 : Array Value) (hw : ∀ d ∈ tables_1, d.before a0 Z = true) (a1 al : Addr) (c_EMPTY_ELEMENTDATA : Addr) (c_DEFAULTCAPACITY_EMPTY_ELEMENTDATA : Addr) (c_cache : Addr) (c_EMPTY : Addr) (h0 : Heap) (n0 : Nat) (O0 : Old Z n0 h0) (hS : own_S Z c_EMPTY_ELEMENTDATA c_DEFAULTCAPACITY_EMPTY_ELEMENTDATA c_cache c_EMPTY) (F_a1_runs : Fld Z h0 a1 "com/example/usher/usher/OutboxRuns" "runs" "Ljava/util/List;" (.ref al)) (E_al : Exa Z h0 al "java/util/ArrayList") (F_al_size : Fld Z h0 al "java/util/ArrayList" "size" "I" (.int (0 : Int32))) :
    own_Met l Z (⟨"com/example/usher/usher/OutboxRuns", "last", "()Ljava/util/Optional;"⟩ : MethodName) prog_12_method_8_code 2 (some (.object "java/util/Optional")) [] ({ frames := 1, cells := 0, slots := 0, locals := 14 } : Room) #[(.ref a1)] h0 (fun v h L => v = some (.ref c_EMPTY) ∧ Fr n0 L ∧ h = h0) := by
  refine own_body own_pn_16 ?_
  intro p e s m below meth c s₁ hx hby hml hown hnm hret hlk X0 hZ e0
  replace hown : s.vm.findClass "com/example/usher/usher/OutboxRuns" = some m.cls := hown
  have N0 := Fr.nil n0
  have K0 := Keep.refl h0 []
  refine own_st (fun _ k => castTop (own_ef_rm_last m a1) k) ?_
  show own_go _ _ _ _ _ _ _ (s₁.setTop (mkF m 0 #[.val (.ref a1), .unset] []))
  obtain ⟨v194, T194, L194, X194, hQ194, st194⟩ := own_callS X0 hx hZ (argsL := []) (rest := []) (rmo_empty l Z a0 hw c_EMPTY_ELEMENTDATA c_DEFAULTCAPACITY_EMPTY_ELEMENTDATA c_cache c_EMPTY h0 n0 O0 hS) hown (hw _ (List.mem_of_getElem? (i := 121) rfl)) (hw _ (List.mem_of_getElem? (i := 122) rfl)) (hw _ (List.mem_of_getElem? (i := 123) rfl)) (hw _ (List.mem_of_getElem? (i := 124) rfl)) (by decide) e0 (g := (mkF m 0 #[.val (.ref a1), .unset] [])) rfl (by rw [hml]; rfl) (lenOf own_pd__28_29Ljava_2futil_2fOptional_3b rfl) rfl (W := 0) (by show 2 * 0 + _ ≤ _; exact Nat.le_of_eq rfl) (hb hby d16_0) (by decide) (by decide) (by decide) (by decide)
  obtain ⟨rfl, Nq194, eq194⟩ := hQ194
  have N194 := Fr.app N0 Nq194
  refine own_st st194 ?_
  show own_go _ _ _ _ _ _ _ (T194.setTop (mkF m 3 #[.val (.ref a1), .unset] [(.ref c_EMPTY)]))
  refine own_st (fun _ k => XS.astoreN X194.here hx rfl (hb hby d16_3) rfl rfl (l' := #[.val (.ref a1), .val (.ref c_EMPTY)]) rfl k) ?_
  show own_go _ _ _ _ _ _ _ (T194.setTop (mkF m 4 #[.val (.ref a1), .val (.ref c_EMPTY)] []))
  refine own_st (fun _ k => XS.aloadN X194.here hx rfl (hb hby d16_4) rfl rfl k) ?_
  show own_go _ _ _ _ _ _ _ (T194.setTop (mkF m 5 #[.val (.ref a1), .val (.ref c_EMPTY)] [(.ref a1)]))
  obtain ⟨T195, X195, e195, st195⟩ := getF X194 hx hZ hown (host := "") (Or.inl (hw _ (List.mem_of_getElem? (i := 34) rfl))) Via.refl eq194 F_a1_runs (g := (mkF m 5 #[.val (.ref a1), .val (.ref c_EMPTY)] [(.ref a1)])) rfl rfl (hb hby d16_5)
  refine own_st st195 ?_
  show own_go _ _ _ _ _ _ _ (T195.setTop (mkF m 8 #[.val (.ref a1), .val (.ref c_EMPTY)] [(.ref al)]))
  obtain ⟨v196, T196, L196, X196, hQ196, st196⟩ := own_callI X195 hx hZ (argsL := []) (rest := []) (rm_isE l Z a0 hw al h0 n0 O0 F_al_size) hown (hw _ (List.mem_of_getElem? (i := 110) rfl)) (hw _ (List.mem_of_getElem? (i := 111) rfl)) (hw _ (List.mem_of_getElem? (i := 112) rfl)) (by first | rfl | decide) (hw _ (List.mem_of_getElem? (i := 113) rfl)) (hw _ (List.mem_of_getElem? (i := 114) rfl)) (hw _ (List.mem_of_getElem? (i := 115) rfl)) (hw _ (List.mem_of_getElem? (i := 116) rfl)) (hw _ (List.mem_of_getElem? (i := 117) rfl)) (hw _ (List.mem_of_getElem? (i := 12) rfl)) (hw _ (List.mem_of_getElem? (i := 118) rfl)) (by decide) e195 E_al (g := (mkF m 8 #[.val (.ref a1), .val (.ref c_EMPTY)] [(.ref al)])) rfl (by rw [hml]; rfl) (lenOf own_pd__28_29Z rfl) rfl (W := 0) (by show 2 * 0 + _ ≤ _; exact Nat.le_of_eq rfl) (hb hby d16_8) (by decide) (by decide) (by decide) (by decide)
  obtain ⟨rfl, Nq196, eq196⟩ := hQ196
  have N196 := Fr.app N194 Nq196
  refine own_st st196 ?_
  show own_go _ _ _ _ _ _ _ (T196.setTop (mkF m 13 #[.val (.ref a1), .val (.ref c_EMPTY)] [(.int (1 : Int32))]))
  refine own_st (fun _ k => XS.ifYes X196.here hx rfl (pc0 := 13) (pc' := 43) rfl (hb hby d16_13) rfl (by decide) (by decide) (by decide) k) ?_
  show own_go _ _ _ _ _ _ _ (T196.setTop (mkF m 43 #[.val (.ref a1), .val (.ref c_EMPTY)] []))
  refine own_st (fun _ k => XS.aloadN X196.here hx rfl (hb hby d16_43) rfl rfl k) ?_
  show own_go _ _ _ _ _ _ _ (T196.setTop (mkF m 44 #[.val (.ref a1), .val (.ref c_EMPTY)] [(.ref c_EMPTY)]))
  exact own_retA X196 hx hlk hret rfl rfl (hb hby d16_44) (by decide) (by decide) (⟨rfl, N196, eq196⟩)
theorem d13_0 : decode prog_12_method_10_code 0 = .ok (.aload_n 0, 1) := by decide +kernel
theorem d13_1 : decode prog_12_method_10_code 1 = .ok (.getfield 60, 3) := by decide +kernel
theorem d13_4 : decode prog_12_method_10_code 4 = .ok (.ifnull 40, 3) := by decide +kernel
theorem d13_44 : decode prog_12_method_10_code 44 = .ok (.aload_n 3, 1) := by decide +kernel
theorem d13_45 : decode prog_12_method_10_code 45 = .ok (.invokeinterface 120 1, 5) := by decide +kernel
theorem d13_50 : decode prog_12_method_10_code 50 = .ok (.ifCond .eq 9, 3) := by decide +kernel
theorem d13_53 : decode prog_12_method_10_code 53 = .ok (.invokestatic 102, 3) := by decide +kernel
theorem d13_56 : decode prog_12_method_10_code 56 = .ok (.goto 16, 3) := by decide +kernel
theorem d13_72 : decode prog_12_method_10_code 72 = .ok (.astore 7, 2) := by decide +kernel
theorem d13_74 : decode prog_12_method_10_code 74 = .ok (.aload_n 0, 1) := by decide +kernel
theorem d13_75 : decode prog_12_method_10_code 75 = .ok (.invokevirtual 135, 3) := by decide +kernel
theorem d13_78 : decode prog_12_method_10_code 78 = .ok (.astore 8, 2) := by decide +kernel
theorem d13_80 : decode prog_12_method_10_code 80 = .ok (.aload 8, 2) := by decide +kernel
theorem d13_82 : decode prog_12_method_10_code 82 = .ok (.invokevirtual 138, 3) := by decide +kernel
theorem d13_85 : decode prog_12_method_10_code 85 = .ok (.ifCond .eq 37, 3) := by decide +kernel
theorem d13_122 : decode prog_12_method_10_code 122 = .ok (.iconst 0, 1) := by decide +kernel
theorem d13_123 : decode prog_12_method_10_code 123 = .ok (.istore 9, 2) := by decide +kernel
theorem d13_125 : decode prog_12_method_10_code 125 = .ok (.iload 9, 2) := by decide +kernel
theorem d13_127 : decode prog_12_method_10_code 127 = .ok (.ifCond .ne 107, 3) := by decide +kernel
theorem d13_130 : decode prog_12_method_10_code 130 = .ok (.aload 8, 2) := by decide +kernel
theorem d13_132 : decode prog_12_method_10_code 132 = .ok (.invokevirtual 138, 3) := by decide +kernel
theorem d13_135 : decode prog_12_method_10_code 135 = .ok (.ifCond .eq 99, 3) := by decide +kernel
theorem d13_234 : decode prog_12_method_10_code 234 = .ok (.aload_n 0, 1) := by decide +kernel
theorem d13_235 : decode prog_12_method_10_code 235 = .ok (.aload_n 2, 1) := by decide +kernel
theorem d13_236 : decode prog_12_method_10_code 236 = .ok (.putfield 60, 3) := by decide +kernel
theorem d13_239 : decode prog_12_method_10_code 239 = .ok (.aload_n 0, 1) := by decide +kernel
theorem d13_240 : decode prog_12_method_10_code 240 = .ok (.lload 5, 2) := by decide +kernel
theorem d13_242 : decode prog_12_method_10_code 242 = .ok (.putfield 20, 3) := by decide +kernel
theorem d13_245 : decode prog_12_method_10_code 245 = .ok (.aload_n 3, 1) := by decide +kernel
theorem d13_246 : decode prog_12_method_10_code 246 = .ok (.invokeinterface 30 1, 5) := by decide +kernel
theorem d13_251 : decode prog_12_method_10_code 251 = .ok (.astore 10, 2) := by decide +kernel
theorem d13_253 : decode prog_12_method_10_code 253 = .ok (.aload 10, 2) := by decide +kernel
theorem d13_255 : decode prog_12_method_10_code 255 = .ok (.invokeinterface 36 1, 5) := by decide +kernel
theorem d13_260 : decode prog_12_method_10_code 260 = .ok (.ifCond .eq 172, 3) := by decide +kernel
theorem d13_432 : decode prog_12_method_10_code 432 = .ok (.aload_n 0, 1) := by decide +kernel
theorem d13_433 : decode prog_12_method_10_code 433 = .ok (.aload_n 1, 1) := by decide +kernel
theorem d13_434 : decode prog_12_method_10_code 434 = .ok (.invokevirtual 172, 3) := by decide +kernel
theorem d13_437 : decode prog_12_method_10_code 437 = .ok (.putfield 108, 3) := by decide +kernel
theorem d13_440 : decode prog_12_method_10_code 440 = .ok (.return_, 1) := by decide +kernel
theorem own_pn_13 : plainFor (⟨"com/example/usher/usher/OutboxRuns", "read", "(Lcom/example/usher/usher/OutboxRuns$Range;Ljava/math/BigDecimal;Ljava/util/List;ZJ)V"⟩ : MethodName) = true := plainFor_of_name (show plainName "com/example/usher/usher/OutboxRuns" = true by first | (simp [plainName, overriddenIn]; done) | decide +kernel)
theorem own_pd__28_29Ljava_2futil_2fIterator_3b : parseMethodDescriptor "()Ljava/util/Iterator;" = some ⟨[], some (.object "java/util/Iterator")⟩ := by decide +kernel
theorem own_ef_rm_read (m : MethodId) (a1 : Addr) (a2 : Addr) (a3 : Addr) : entryFrame m #[(.ref a1), (.ref a2), .null, (.ref a3), (.int (0 : Int32)), (.long (0 : Int64))] 13 = mkF m 0 #[.val (.ref a1), .val (.ref a2), .val .null, .val (.ref a3), .val (.int (0 : Int32)), .val (.long (0 : Int64)), .second, .unset, .unset, .unset, .unset, .unset, .unset] [] := by first | (simp [entryFrame, mkF, argsToLocals, Value.category]; done) | rfl
set_option maxRecDepth 65536 in
set_option maxHeartbeats 40000000 in
theorem rm_read (l : Launch) (Z : State) (a0 : Array Value) (hw : ∀ d ∈ tables_1, d.before a0 Z = true) (a1 a2 a3 al r sw : Addr) (q2 q5 : Int64) (c_EMPTY_ELEMENTDATA : Addr) (c_DEFAULTCAPACITY_EMPTY_ELEMENTDATA : Addr) (c_cache : Addr) (c_EMPTY : Addr) (h0 : Heap) (n0 : Nat) (O0 : Old Z n0 h0) (hS : own_S Z c_EMPTY_ELEMENTDATA c_DEFAULTCAPACITY_EMPTY_ELEMENTDATA c_cache c_EMPTY) (ge_a1 : n0 ≤ a1) (E_a1 : Exa Z h0 a1 "com/example/usher/usher/OutboxRuns") (F_a1_runs : Fld Z h0 a1 "com/example/usher/usher/OutboxRuns" "runs" "Ljava/util/List;" (.ref al)) (F_a1_learntTo : Fld Z h0 a1 "com/example/usher/usher/OutboxRuns" "learntTo" "J" (.long (0 : Int64))) (F_a1_outOfOrder : Fld Z h0 a1 "com/example/usher/usher/OutboxRuns" "outOfOrder" "Ljava/math/BigDecimal;" .null) (F_a1_fewestRows : Fld Z h0 a1 "com/example/usher/usher/OutboxRuns" "fewestRows" "J" (.long (9223372036854775807 : Int64))) (F_a1_settled : Fld Z h0 a1 "com/example/usher/usher/OutboxRuns" "settled" "J" (.long q5)) (F_a1_seenLast : Fld Z h0 a1 "com/example/usher/usher/OutboxRuns" "seenLast" "Ljava/lang/Long;" (.ref r)) (F_a1_seenWriters : Fld Z h0 a1 "com/example/usher/usher/OutboxRuns" "seenWriters" "[Ljava/lang/String;" (.ref sw)) (E_a2 : Exa Z h0 a2 "com/example/usher/usher/OutboxRuns$Range") (F_a2_to : Fld Z h0 a2 "com/example/usher/usher/OutboxRuns$Range" "to" "J" (.long q2)) (E_a3 : Exa Z h0 a3 "java/util/ArrayList") (F_a3_modCount : Fld Z h0 a3 "java/util/AbstractList" "modCount" "I" (.int (0 : Int32))) (F_a3_size : Fld Z h0 a3 "java/util/ArrayList" "size" "I" (.int (0 : Int32))) (E_al : Exa Z h0 al "java/util/ArrayList") (F_al_size : Fld Z h0 al "java/util/ArrayList" "size" "I" (.int (0 : Int32))) :
    own_Met l Z (⟨"com/example/usher/usher/OutboxRuns", "read", "(Lcom/example/usher/usher/OutboxRuns$Range;Ljava/math/BigDecimal;Ljava/util/List;ZJ)V"⟩ : MethodName) prog_12_method_10_code 13 none [] ({ frames := 3, cells := 1, slots := 4, locals := 56 } : Room) #[(.ref a1), (.ref a2), .null, (.ref a3), (.int (0 : Int32)), (.long (0 : Int64))] h0 (fun v h L => v = none ∧ Fr n0 L ∧ Keep h0 h [a1] ∧ Fld Z h a1 "com/example/usher/usher/OutboxRuns" "learntTo" "J" (.long q2) ∧ Fld Z h a1 "com/example/usher/usher/OutboxRuns" "settled" "J" (.long q5)) := by
  refine own_body own_pn_13 ?_
  intro p e s m below meth c s₁ hx hby hml hown hnm hret hlk X0 hZ e0
  replace hown : s.vm.findClass "com/example/usher/usher/OutboxRuns" = some m.cls := hown
  have N0 := Fr.nil n0
  have K0 := Keep.refl h0 [a1]
  refine own_st (fun _ k => castTop (own_ef_rm_read m a1 a2 a3) k) ?_
  show own_go _ _ _ _ _ _ _ (s₁.setTop (mkF m 0 #[.val (.ref a1), .val (.ref a2), .val .null, .val (.ref a3), .val (.int (0 : Int32)), .val (.long (0 : Int64)), .second, .unset, .unset, .unset, .unset, .unset, .unset] []))
  refine own_st (fun _ k => XS.aloadN X0.here hx rfl (hb hby d13_0) rfl rfl k) ?_
  show own_go _ _ _ _ _ _ _ (s₁.setTop (mkF m 1 #[.val (.ref a1), .val (.ref a2), .val .null, .val (.ref a3), .val (.int (0 : Int32)), .val (.long (0 : Int64)), .second, .unset, .unset, .unset, .unset, .unset, .unset] [(.ref a1)]))
  obtain ⟨T197, X197, e197, st197⟩ := getF X0 hx hZ hown (host := "") (Or.inl (hw _ (List.mem_of_getElem? (i := 108) rfl))) Via.refl e0 F_a1_outOfOrder (g := (mkF m 1 #[.val (.ref a1), .val (.ref a2), .val .null, .val (.ref a3), .val (.int (0 : Int32)), .val (.long (0 : Int64)), .second, .unset, .unset, .unset, .unset, .unset, .unset] [(.ref a1)])) rfl rfl (hb hby d13_1)
  refine own_st st197 ?_
  show own_go _ _ _ _ _ _ _ (T197.setTop (mkF m 4 #[.val (.ref a1), .val (.ref a2), .val .null, .val (.ref a3), .val (.int (0 : Int32)), .val (.long (0 : Int64)), .second, .unset, .unset, .unset, .unset, .unset, .unset] [.null]))
  refine own_st (fun _ k => XS.ifnullYes X197.here hx rfl (pc0 := 4) (pc' := 44) rfl (hb hby d13_4) rfl (by decide) (by decide) k) ?_
  show own_go _ _ _ _ _ _ _ (T197.setTop (mkF m 44 #[.val (.ref a1), .val (.ref a2), .val .null, .val (.ref a3), .val (.int (0 : Int32)), .val (.long (0 : Int64)), .second, .unset, .unset, .unset, .unset, .unset, .unset] []))
  refine own_st (fun _ k => XS.aloadN X197.here hx rfl (hb hby d13_44) rfl rfl k) ?_
  show own_go _ _ _ _ _ _ _ (T197.setTop (mkF m 45 #[.val (.ref a1), .val (.ref a2), .val .null, .val (.ref a3), .val (.int (0 : Int32)), .val (.long (0 : Int64)), .second, .unset, .unset, .unset, .unset, .unset, .unset] [(.ref a3)]))
  obtain ⟨v198, T198, L198, X198, hQ198, st198⟩ := own_callI X197 hx hZ (argsL := []) (rest := []) (rm_isE l Z a0 hw a3 h0 n0 O0 F_a3_size) hown (hw _ (List.mem_of_getElem? (i := 110) rfl)) (hw _ (List.mem_of_getElem? (i := 111) rfl)) (hw _ (List.mem_of_getElem? (i := 112) rfl)) (by first | rfl | decide) (hw _ (List.mem_of_getElem? (i := 113) rfl)) (hw _ (List.mem_of_getElem? (i := 114) rfl)) (hw _ (List.mem_of_getElem? (i := 115) rfl)) (hw _ (List.mem_of_getElem? (i := 116) rfl)) (hw _ (List.mem_of_getElem? (i := 117) rfl)) (hw _ (List.mem_of_getElem? (i := 12) rfl)) (hw _ (List.mem_of_getElem? (i := 118) rfl)) (by decide) e197 E_a3 (g := (mkF m 45 #[.val (.ref a1), .val (.ref a2), .val .null, .val (.ref a3), .val (.int (0 : Int32)), .val (.long (0 : Int64)), .second, .unset, .unset, .unset, .unset, .unset, .unset] [(.ref a3)])) rfl (by rw [hml]; rfl) (lenOf own_pd__28_29Z rfl) rfl (W := 0) (by show 2 * 0 + _ ≤ _; exact Nat.le_of_eq rfl) (hb hby d13_45) (by decide) (by decide) (by decide) (by decide)
  obtain ⟨rfl, Nq198, eq198⟩ := hQ198
  have N198 := Fr.app N0 Nq198
  refine own_st st198 ?_
  show own_go _ _ _ _ _ _ _ (T198.setTop (mkF m 50 #[.val (.ref a1), .val (.ref a2), .val .null, .val (.ref a3), .val (.int (0 : Int32)), .val (.long (0 : Int64)), .second, .unset, .unset, .unset, .unset, .unset, .unset] [(.int (1 : Int32))]))
  refine own_st (fun _ k => XS.ifNo X198.here hx rfl (hb hby d13_50) rfl (by decide) k) ?_
  show own_go _ _ _ _ _ _ _ (T198.setTop (mkF m 53 #[.val (.ref a1), .val (.ref a2), .val .null, .val (.ref a3), .val (.int (0 : Int32)), .val (.long (0 : Int64)), .second, .unset, .unset, .unset, .unset, .unset, .unset] []))
  obtain ⟨v199, T199, L199, X199, hQ199, st199⟩ := own_callS X198 hx hZ (argsL := []) (rest := []) (rmo_empty l Z a0 hw c_EMPTY_ELEMENTDATA c_DEFAULTCAPACITY_EMPTY_ELEMENTDATA c_cache c_EMPTY h0 n0 O0 hS) hown (hw _ (List.mem_of_getElem? (i := 121) rfl)) (hw _ (List.mem_of_getElem? (i := 122) rfl)) (hw _ (List.mem_of_getElem? (i := 123) rfl)) (hw _ (List.mem_of_getElem? (i := 124) rfl)) (by decide) eq198 (g := (mkF m 53 #[.val (.ref a1), .val (.ref a2), .val .null, .val (.ref a3), .val (.int (0 : Int32)), .val (.long (0 : Int64)), .second, .unset, .unset, .unset, .unset, .unset, .unset] [])) rfl (by rw [hml]; rfl) (lenOf own_pd__28_29Ljava_2futil_2fOptional_3b rfl) rfl (W := 0) (by show 2 * 0 + _ ≤ _; exact Nat.le_of_eq rfl) (hb hby d13_53) (by decide) (by decide) (by decide) (by decide)
  obtain ⟨rfl, Nq199, eq199⟩ := hQ199
  have N199 := Fr.app N198 Nq199
  refine own_st st199 ?_
  show own_go _ _ _ _ _ _ _ (T199.setTop (mkF m 56 #[.val (.ref a1), .val (.ref a2), .val .null, .val (.ref a3), .val (.int (0 : Int32)), .val (.long (0 : Int64)), .second, .unset, .unset, .unset, .unset, .unset, .unset] [(.ref c_EMPTY)]))
  refine own_st (fun _ k => XS.goto X199.here hx rfl (pc0 := 56) (pc' := 72) rfl (hb hby d13_56) (by decide) (by decide) k) ?_
  show own_go _ _ _ _ _ _ _ (T199.setTop (mkF m 72 #[.val (.ref a1), .val (.ref a2), .val .null, .val (.ref a3), .val (.int (0 : Int32)), .val (.long (0 : Int64)), .second, .unset, .unset, .unset, .unset, .unset, .unset] [(.ref c_EMPTY)]))
  refine own_st (fun _ k => XS.astore X199.here hx rfl (hb hby d13_72) rfl rfl (l' := #[.val (.ref a1), .val (.ref a2), .val .null, .val (.ref a3), .val (.int (0 : Int32)), .val (.long (0 : Int64)), .second, .val (.ref c_EMPTY), .unset, .unset, .unset, .unset, .unset]) rfl k) ?_
  show own_go _ _ _ _ _ _ _ (T199.setTop (mkF m 74 #[.val (.ref a1), .val (.ref a2), .val .null, .val (.ref a3), .val (.int (0 : Int32)), .val (.long (0 : Int64)), .second, .val (.ref c_EMPTY), .unset, .unset, .unset, .unset, .unset] []))
  refine own_st (fun _ k => XS.aloadN X199.here hx rfl (hb hby d13_74) rfl rfl k) ?_
  show own_go _ _ _ _ _ _ _ (T199.setTop (mkF m 75 #[.val (.ref a1), .val (.ref a2), .val .null, .val (.ref a3), .val (.int (0 : Int32)), .val (.long (0 : Int64)), .second, .val (.ref c_EMPTY), .unset, .unset, .unset, .unset, .unset] [(.ref a1)]))
  obtain ⟨v200, T200, L200, X200, hQ200, st200⟩ := own_callV X199 hx hZ (argsL := []) (rest := []) (rm_last l Z a0 hw a1 al c_EMPTY_ELEMENTDATA c_DEFAULTCAPACITY_EMPTY_ELEMENTDATA c_cache c_EMPTY h0 n0 O0 hS F_a1_runs E_al F_al_size) hown (hw _ (List.mem_of_getElem? (i := 126) rfl)) (hw _ (List.mem_of_getElem? (i := 127) rfl)) (notFace_of_selects (args := #[]) (mvT hZ (hw _ (List.mem_of_getElem? (i := 129) rfl)))) (hw _ (List.mem_of_getElem? (i := 129) rfl)) (hw _ (List.mem_of_getElem? (i := 128) rfl)) (hw _ (List.mem_of_getElem? (i := 3) rfl)) (hw _ (List.mem_of_getElem? (i := 130) rfl)) (by decide) eq199 E_a1 (g := (mkF m 75 #[.val (.ref a1), .val (.ref a2), .val .null, .val (.ref a3), .val (.int (0 : Int32)), .val (.long (0 : Int64)), .second, .val (.ref c_EMPTY), .unset, .unset, .unset, .unset, .unset] [(.ref a1)])) rfl (by rw [hml]; rfl) (lenOf own_pd__28_29Ljava_2futil_2fOptional_3b rfl) rfl (W := 0) (by show 2 * 0 + _ ≤ _; exact Nat.le_of_eq rfl) (hb hby d13_75) (by decide) (by decide) (by decide) (by decide)
  obtain ⟨rfl, Nq200, eq200⟩ := hQ200
  have N200 := Fr.app N199 Nq200
  refine own_st st200 ?_
  show own_go _ _ _ _ _ _ _ (T200.setTop (mkF m 78 #[.val (.ref a1), .val (.ref a2), .val .null, .val (.ref a3), .val (.int (0 : Int32)), .val (.long (0 : Int64)), .second, .val (.ref c_EMPTY), .unset, .unset, .unset, .unset, .unset] [(.ref c_EMPTY)]))
  refine own_st (fun _ k => XS.astore X200.here hx rfl (hb hby d13_78) rfl rfl (l' := #[.val (.ref a1), .val (.ref a2), .val .null, .val (.ref a3), .val (.int (0 : Int32)), .val (.long (0 : Int64)), .second, .val (.ref c_EMPTY), .val (.ref c_EMPTY), .unset, .unset, .unset, .unset]) rfl k) ?_
  show own_go _ _ _ _ _ _ _ (T200.setTop (mkF m 80 #[.val (.ref a1), .val (.ref a2), .val .null, .val (.ref a3), .val (.int (0 : Int32)), .val (.long (0 : Int64)), .second, .val (.ref c_EMPTY), .val (.ref c_EMPTY), .unset, .unset, .unset, .unset] []))
  refine own_st (fun _ k => XS.aload X200.here hx rfl (hb hby d13_80) rfl rfl k) ?_
  show own_go _ _ _ _ _ _ _ (T200.setTop (mkF m 82 #[.val (.ref a1), .val (.ref a2), .val .null, .val (.ref a3), .val (.int (0 : Int32)), .val (.long (0 : Int64)), .second, .val (.ref c_EMPTY), .val (.ref c_EMPTY), .unset, .unset, .unset, .unset] [(.ref c_EMPTY)]))
  obtain ⟨v201, T201, L201, X201, hQ201, st201⟩ := own_callV X200 hx hZ (argsL := []) (rest := []) (rmo_isPresent_N l Z a0 hw c_EMPTY  h0 n0 O0 (hS.2.2.2.2.2.2.2.2.1.ext O0.2)) hown (hw _ (List.mem_of_getElem? (i := 131) rfl)) (hw _ (List.mem_of_getElem? (i := 132) rfl)) (notFace_of_selects (args := #[]) (mvT hZ (hw _ (List.mem_of_getElem? (i := 134) rfl)))) (hw _ (List.mem_of_getElem? (i := 134) rfl)) (hw _ (List.mem_of_getElem? (i := 133) rfl)) (hw _ (List.mem_of_getElem? (i := 123) rfl)) (hw _ (List.mem_of_getElem? (i := 135) rfl)) (by decide) eq200 (hS.2.2.2.2.2.2.2.1.ext O0.2) (g := (mkF m 82 #[.val (.ref a1), .val (.ref a2), .val .null, .val (.ref a3), .val (.int (0 : Int32)), .val (.long (0 : Int64)), .second, .val (.ref c_EMPTY), .val (.ref c_EMPTY), .unset, .unset, .unset, .unset] [(.ref c_EMPTY)])) rfl (by rw [hml]; rfl) (lenOf own_pd__28_29Z rfl) rfl (W := 0) (by show 2 * 0 + _ ≤ _; exact Nat.le_of_eq rfl) (hb hby d13_82) (by decide) (by decide) (by decide) (by decide)
  obtain ⟨rfl, Nq201, eq201⟩ := hQ201
  have N201 := Fr.app N200 Nq201
  refine own_st st201 ?_
  show own_go _ _ _ _ _ _ _ (T201.setTop (mkF m 85 #[.val (.ref a1), .val (.ref a2), .val .null, .val (.ref a3), .val (.int (0 : Int32)), .val (.long (0 : Int64)), .second, .val (.ref c_EMPTY), .val (.ref c_EMPTY), .unset, .unset, .unset, .unset] [(.int (0 : Int32))]))
  refine own_st (fun _ k => XS.ifYes X201.here hx rfl (pc0 := 85) (pc' := 122) rfl (hb hby d13_85) rfl (by decide) (by decide) (by decide) k) ?_
  show own_go _ _ _ _ _ _ _ (T201.setTop (mkF m 122 #[.val (.ref a1), .val (.ref a2), .val .null, .val (.ref a3), .val (.int (0 : Int32)), .val (.long (0 : Int64)), .second, .val (.ref c_EMPTY), .val (.ref c_EMPTY), .unset, .unset, .unset, .unset] []))
  refine own_st (fun _ k => XS.iconst X201.here hx rfl (hb hby d13_122) k) ?_
  show own_go _ _ _ _ _ _ _ (T201.setTop (mkF m 123 #[.val (.ref a1), .val (.ref a2), .val .null, .val (.ref a3), .val (.int (0 : Int32)), .val (.long (0 : Int64)), .second, .val (.ref c_EMPTY), .val (.ref c_EMPTY), .unset, .unset, .unset, .unset] [(.int (0 : Int32))]))
  refine own_st (fun _ k => XS.istore X201.here hx rfl (hb hby d13_123) rfl (l' := #[.val (.ref a1), .val (.ref a2), .val .null, .val (.ref a3), .val (.int (0 : Int32)), .val (.long (0 : Int64)), .second, .val (.ref c_EMPTY), .val (.ref c_EMPTY), .val (.int (0 : Int32)), .unset, .unset, .unset]) rfl k) ?_
  show own_go _ _ _ _ _ _ _ (T201.setTop (mkF m 125 #[.val (.ref a1), .val (.ref a2), .val .null, .val (.ref a3), .val (.int (0 : Int32)), .val (.long (0 : Int64)), .second, .val (.ref c_EMPTY), .val (.ref c_EMPTY), .val (.int (0 : Int32)), .unset, .unset, .unset] []))
  refine own_st (fun _ k => XS.iload X201.here hx rfl (hb hby d13_125) rfl k) ?_
  show own_go _ _ _ _ _ _ _ (T201.setTop (mkF m 127 #[.val (.ref a1), .val (.ref a2), .val .null, .val (.ref a3), .val (.int (0 : Int32)), .val (.long (0 : Int64)), .second, .val (.ref c_EMPTY), .val (.ref c_EMPTY), .val (.int (0 : Int32)), .unset, .unset, .unset] [(.int (0 : Int32))]))
  refine own_st (fun _ k => XS.ifNo X201.here hx rfl (hb hby d13_127) rfl (by decide) k) ?_
  show own_go _ _ _ _ _ _ _ (T201.setTop (mkF m 130 #[.val (.ref a1), .val (.ref a2), .val .null, .val (.ref a3), .val (.int (0 : Int32)), .val (.long (0 : Int64)), .second, .val (.ref c_EMPTY), .val (.ref c_EMPTY), .val (.int (0 : Int32)), .unset, .unset, .unset] []))
  refine own_st (fun _ k => XS.aload X201.here hx rfl (hb hby d13_130) rfl rfl k) ?_
  show own_go _ _ _ _ _ _ _ (T201.setTop (mkF m 132 #[.val (.ref a1), .val (.ref a2), .val .null, .val (.ref a3), .val (.int (0 : Int32)), .val (.long (0 : Int64)), .second, .val (.ref c_EMPTY), .val (.ref c_EMPTY), .val (.int (0 : Int32)), .unset, .unset, .unset] [(.ref c_EMPTY)]))
  obtain ⟨v202, T202, L202, X202, hQ202, st202⟩ := own_callV X201 hx hZ (argsL := []) (rest := []) (rmo_isPresent_N l Z a0 hw c_EMPTY  h0 n0 O0 (hS.2.2.2.2.2.2.2.2.1.ext O0.2)) hown (hw _ (List.mem_of_getElem? (i := 131) rfl)) (hw _ (List.mem_of_getElem? (i := 132) rfl)) (notFace_of_selects (args := #[]) (mvT hZ (hw _ (List.mem_of_getElem? (i := 134) rfl)))) (hw _ (List.mem_of_getElem? (i := 134) rfl)) (hw _ (List.mem_of_getElem? (i := 133) rfl)) (hw _ (List.mem_of_getElem? (i := 123) rfl)) (hw _ (List.mem_of_getElem? (i := 135) rfl)) (by decide) eq201 (hS.2.2.2.2.2.2.2.1.ext O0.2) (g := (mkF m 132 #[.val (.ref a1), .val (.ref a2), .val .null, .val (.ref a3), .val (.int (0 : Int32)), .val (.long (0 : Int64)), .second, .val (.ref c_EMPTY), .val (.ref c_EMPTY), .val (.int (0 : Int32)), .unset, .unset, .unset] [(.ref c_EMPTY)])) rfl (by rw [hml]; rfl) (lenOf own_pd__28_29Z rfl) rfl (W := 0) (by show 2 * 0 + _ ≤ _; exact Nat.le_of_eq rfl) (hb hby d13_132) (by decide) (by decide) (by decide) (by decide)
  obtain ⟨rfl, Nq202, eq202⟩ := hQ202
  have N202 := Fr.app N201 Nq202
  refine own_st st202 ?_
  show own_go _ _ _ _ _ _ _ (T202.setTop (mkF m 135 #[.val (.ref a1), .val (.ref a2), .val .null, .val (.ref a3), .val (.int (0 : Int32)), .val (.long (0 : Int64)), .second, .val (.ref c_EMPTY), .val (.ref c_EMPTY), .val (.int (0 : Int32)), .unset, .unset, .unset] [(.int (0 : Int32))]))
  refine own_st (fun _ k => XS.ifYes X202.here hx rfl (pc0 := 135) (pc' := 234) rfl (hb hby d13_135) rfl (by decide) (by decide) (by decide) k) ?_
  show own_go _ _ _ _ _ _ _ (T202.setTop (mkF m 234 #[.val (.ref a1), .val (.ref a2), .val .null, .val (.ref a3), .val (.int (0 : Int32)), .val (.long (0 : Int64)), .second, .val (.ref c_EMPTY), .val (.ref c_EMPTY), .val (.int (0 : Int32)), .unset, .unset, .unset] []))
  refine own_st (fun _ k => XS.aloadN X202.here hx rfl (hb hby d13_234) rfl rfl k) ?_
  show own_go _ _ _ _ _ _ _ (T202.setTop (mkF m 235 #[.val (.ref a1), .val (.ref a2), .val .null, .val (.ref a3), .val (.int (0 : Int32)), .val (.long (0 : Int64)), .second, .val (.ref c_EMPTY), .val (.ref c_EMPTY), .val (.int (0 : Int32)), .unset, .unset, .unset] [(.ref a1)]))
  refine own_st (fun _ k => XS.aloadN X202.here hx rfl (hb hby d13_235) rfl rfl k) ?_
  show own_go _ _ _ _ _ _ _ (T202.setTop (mkF m 236 #[.val (.ref a1), .val (.ref a2), .val .null, .val (.ref a3), .val (.int (0 : Int32)), .val (.long (0 : Int64)), .second, .val (.ref c_EMPTY), .val (.ref c_EMPTY), .val (.int (0 : Int32)), .unset, .unset, .unset] [.null, (.ref a1)]))
  obtain ⟨T203, h203, X203, e203, W203, st203⟩ := putF X202 hx hZ hown (host := "") (Or.inl (hw _ (List.mem_of_getElem? (i := 108) rfl))) Via.refl eq202 F_a1_outOfOrder E_a1 (Or.inl (hw _ (List.mem_of_getElem? (i := 109) rfl))) (hw _ (List.mem_of_getElem? (i := 2) rfl)) (ty := (.object "java/math/BigDecimal")) (by decide) rfl rfl (g := (mkF m 236 #[.val (.ref a1), .val (.ref a2), .val .null, .val (.ref a3), .val (.int (0 : Int32)), .val (.long (0 : Int64)), .second, .val (.ref c_EMPTY), .val (.ref c_EMPTY), .val (.int (0 : Int32)), .unset, .unset, .unset] [.null, (.ref a1)])) rfl rfl (hb hby d13_236)
  have N203 := Fr.snoc X203 N202 ge_a1
  have O204 := O0.wr W203 ge_a1
  have K204 := K0.wr W203 (Or.inl (List.mem_of_getElem? (i := 0) rfl))
  have F203 := F_a1_outOfOrder.same W203
  refine own_st st203 ?_
  show own_go _ _ _ _ _ _ _ (T203.setTop (mkF m 239 #[.val (.ref a1), .val (.ref a2), .val .null, .val (.ref a3), .val (.int (0 : Int32)), .val (.long (0 : Int64)), .second, .val (.ref c_EMPTY), .val (.ref c_EMPTY), .val (.int (0 : Int32)), .unset, .unset, .unset] []))
  refine own_st (fun _ k => XS.aloadN X203.here hx rfl (hb hby d13_239) rfl rfl k) ?_
  show own_go _ _ _ _ _ _ _ (T203.setTop (mkF m 240 #[.val (.ref a1), .val (.ref a2), .val .null, .val (.ref a3), .val (.int (0 : Int32)), .val (.long (0 : Int64)), .second, .val (.ref c_EMPTY), .val (.ref c_EMPTY), .val (.int (0 : Int32)), .unset, .unset, .unset] [(.ref a1)]))
  refine own_st (fun _ k => XS.lload X203.here hx rfl (hb hby d13_240) rfl k) ?_
  show own_go _ _ _ _ _ _ _ (T203.setTop (mkF m 242 #[.val (.ref a1), .val (.ref a2), .val .null, .val (.ref a3), .val (.int (0 : Int32)), .val (.long (0 : Int64)), .second, .val (.ref c_EMPTY), .val (.ref c_EMPTY), .val (.int (0 : Int32)), .unset, .unset, .unset] [(.long (0 : Int64)), (.ref a1)]))
  have f206 := (F_a1_fewestRows.other W203 (Or.inr (slot_ne (Or.inl (hw _ (List.mem_of_getElem? (i := 38) rfl))) (Or.inl (hw _ (List.mem_of_getElem? (i := 109) rfl))) (by decide) (t := .long) (t' := (.object "java/math/BigDecimal")) (by decide) (by decide))))
  have f207 := (E_a1.wr W203)
  obtain ⟨T205, h205, X205, e205, W205, st205⟩ := putF X203 hx hZ hown (host := "") (Or.inl (hw _ (List.mem_of_getElem? (i := 37) rfl))) Via.refl e203 f206 f207 (Or.inl (hw _ (List.mem_of_getElem? (i := 38) rfl))) (hw _ (List.mem_of_getElem? (i := 2) rfl)) (ty := .long) (by decide) rfl rfl (g := (mkF m 242 #[.val (.ref a1), .val (.ref a2), .val .null, .val (.ref a3), .val (.int (0 : Int32)), .val (.long (0 : Int64)), .second, .val (.ref c_EMPTY), .val (.ref c_EMPTY), .val (.int (0 : Int32)), .unset, .unset, .unset] [(.long (0 : Int64)), (.ref a1)])) rfl rfl (hb hby d13_242)
  have N205 := Fr.snoc X205 N203 ge_a1
  have O208 := O204.wr W205 ge_a1
  have K208 := K204.wr W205 (Or.inl (List.mem_of_getElem? (i := 0) rfl))
  have F205 := f206.same W205
  refine own_st st205 ?_
  show own_go _ _ _ _ _ _ _ (T205.setTop (mkF m 245 #[.val (.ref a1), .val (.ref a2), .val .null, .val (.ref a3), .val (.int (0 : Int32)), .val (.long (0 : Int64)), .second, .val (.ref c_EMPTY), .val (.ref c_EMPTY), .val (.int (0 : Int32)), .unset, .unset, .unset] []))
  refine own_st (fun _ k => XS.aloadN X205.here hx rfl (hb hby d13_245) rfl rfl k) ?_
  show own_go _ _ _ _ _ _ _ (T205.setTop (mkF m 246 #[.val (.ref a1), .val (.ref a2), .val .null, .val (.ref a3), .val (.int (0 : Int32)), .val (.long (0 : Int64)), .second, .val (.ref c_EMPTY), .val (.ref c_EMPTY), .val (.int (0 : Int32)), .unset, .unset, .unset] [(.ref a3)]))
  have f210 := ((E_a3.wr W203).wr W205)
  have f211 := (f207.wr W205)
  have ne_a3_a1 : a3 ≠ a1 := ne_exa f210 f211 (by decide)
  have f212 := ((F_a3_modCount.other W203 (Or.inl ne_a3_a1)).other W205 (Or.inl ne_a3_a1))
  obtain ⟨v209, T209, L209, X209, hQ209, st209⟩ := own_callI X205 hx hZ (argsL := []) (rest := []) (rm_iter l Z a0 hw a3 h205 n0 O208 f210 f212) hown (hw _ (List.mem_of_getElem? (i := 138) rfl)) (hw _ (List.mem_of_getElem? (i := 139) rfl)) (hw _ (List.mem_of_getElem? (i := 140) rfl)) (by first | rfl | decide) (hw _ (List.mem_of_getElem? (i := 141) rfl)) (hw _ (List.mem_of_getElem? (i := 142) rfl)) (hw _ (List.mem_of_getElem? (i := 143) rfl)) (hw _ (List.mem_of_getElem? (i := 144) rfl)) (hw _ (List.mem_of_getElem? (i := 117) rfl)) (hw _ (List.mem_of_getElem? (i := 12) rfl)) (hw _ (List.mem_of_getElem? (i := 145) rfl)) (by decide) e205 f210 (g := (mkF m 246 #[.val (.ref a1), .val (.ref a2), .val .null, .val (.ref a3), .val (.int (0 : Int32)), .val (.long (0 : Int64)), .second, .val (.ref c_EMPTY), .val (.ref c_EMPTY), .val (.int (0 : Int32)), .unset, .unset, .unset] [(.ref a3)])) rfl (by rw [hml]; rfl) (lenOf own_pd__28_29Ljava_2futil_2fIterator_3b rfl) rfl (W := 0) (by show 2 * 0 + _ ≤ _; exact Nat.le_of_eq rfl) (hb hby d13_246) (by decide) (by decide) (by decide) (by decide)
  obtain ⟨r209, rfl, Nq209, Kq209, sz209, A209, F209_0, F209_1⟩ := hQ209
  have N209 := Fr.app N205 Nq209
  have ne_a1_r209 : a1 ≠ r209 := (Nat.ne_of_lt (Nat.lt_of_lt_of_le f211.lt sz209))
  have f213 := ((E_a2.wr W203).wr W205)
  have ne_a2_r209 : a2 ≠ r209 := (Nat.ne_of_lt (Nat.lt_of_lt_of_le f213.lt sz209))
  have ne_a3_r209 : a3 ≠ r209 := (Nat.ne_of_lt (Nat.lt_of_lt_of_le f210.lt sz209))
  have f214 := ((E_al.wr W203).wr W205)
  have ne_al_r209 : al ≠ r209 := (Nat.ne_of_lt (Nat.lt_of_lt_of_le f214.lt sz209))
  have O209 := O208.keep Kq209 all0
  have K209 := K208.trans Kq209 all0
  refine own_st st209 ?_
  show own_go _ _ _ _ _ _ _ (T209.setTop (mkF m 251 #[.val (.ref a1), .val (.ref a2), .val .null, .val (.ref a3), .val (.int (0 : Int32)), .val (.long (0 : Int64)), .second, .val (.ref c_EMPTY), .val (.ref c_EMPTY), .val (.int (0 : Int32)), .unset, .unset, .unset] [(.ref r209)]))
  refine own_st (fun _ k => XS.astore X209.here hx rfl (hb hby d13_251) rfl rfl (l' := #[.val (.ref a1), .val (.ref a2), .val .null, .val (.ref a3), .val (.int (0 : Int32)), .val (.long (0 : Int64)), .second, .val (.ref c_EMPTY), .val (.ref c_EMPTY), .val (.int (0 : Int32)), .val (.ref r209), .unset, .unset]) rfl k) ?_
  show own_go _ _ _ _ _ _ _ (T209.setTop (mkF m 253 #[.val (.ref a1), .val (.ref a2), .val .null, .val (.ref a3), .val (.int (0 : Int32)), .val (.long (0 : Int64)), .second, .val (.ref c_EMPTY), .val (.ref c_EMPTY), .val (.int (0 : Int32)), .val (.ref r209), .unset, .unset] []))
  refine own_st (fun _ k => XS.aload X209.here hx rfl (hb hby d13_253) rfl rfl k) ?_
  show own_go _ _ _ _ _ _ _ (T209.setTop (mkF m 255 #[.val (.ref a1), .val (.ref a2), .val .null, .val (.ref a3), .val (.int (0 : Int32)), .val (.long (0 : Int64)), .second, .val (.ref c_EMPTY), .val (.ref c_EMPTY), .val (.int (0 : Int32)), .val (.ref r209), .unset, .unset] [(.ref r209)]))
  have f216 := (((F_a3_size.other W203 (Or.inl ne_a3_a1)).other W205 (Or.inl ne_a3_a1)).keep Kq209 nin0)
  obtain ⟨v215, T215, L215, X215, hQ215, st215⟩ := own_callI X209 hx hZ (argsL := []) (rest := []) (rm_hn l Z a0 hw r209 a3 T209.heap n0 O209 F209_0 F209_1 f216) hown (hw _ (List.mem_of_getElem? (i := 162) rfl)) (hw _ (List.mem_of_getElem? (i := 163) rfl)) (hw _ (List.mem_of_getElem? (i := 164) rfl)) (by first | rfl | decide) (hw _ (List.mem_of_getElem? (i := 165) rfl)) (hw _ (List.mem_of_getElem? (i := 166) rfl)) (hw _ (List.mem_of_getElem? (i := 167) rfl)) (hw _ (List.mem_of_getElem? (i := 168) rfl)) (hw _ (List.mem_of_getElem? (i := 169) rfl)) (hw _ (List.mem_of_getElem? (i := 148) rfl)) (hw _ (List.mem_of_getElem? (i := 170) rfl)) (by decide) rfl A209 (g := (mkF m 255 #[.val (.ref a1), .val (.ref a2), .val .null, .val (.ref a3), .val (.int (0 : Int32)), .val (.long (0 : Int64)), .second, .val (.ref c_EMPTY), .val (.ref c_EMPTY), .val (.int (0 : Int32)), .val (.ref r209), .unset, .unset] [(.ref r209)])) rfl (by rw [hml]; rfl) (lenOf own_pd__28_29Z rfl) rfl (W := 0) (by show 2 * 0 + _ ≤ _; exact Nat.le_of_eq rfl) (hb hby d13_255) (by decide) (by decide) (by decide) (by decide)
  obtain ⟨rfl, Nq215, eq215⟩ := hQ215
  have N215 := Fr.app N209 Nq215
  refine own_st st215 ?_
  show own_go _ _ _ _ _ _ _ (T215.setTop (mkF m 260 #[.val (.ref a1), .val (.ref a2), .val .null, .val (.ref a3), .val (.int (0 : Int32)), .val (.long (0 : Int64)), .second, .val (.ref c_EMPTY), .val (.ref c_EMPTY), .val (.int (0 : Int32)), .val (.ref r209), .unset, .unset] [(.int (0 : Int32))]))
  refine own_st (fun _ k => XS.ifYes X215.here hx rfl (pc0 := 260) (pc' := 432) rfl (hb hby d13_260) rfl (by decide) (by decide) (by decide) k) ?_
  show own_go _ _ _ _ _ _ _ (T215.setTop (mkF m 432 #[.val (.ref a1), .val (.ref a2), .val .null, .val (.ref a3), .val (.int (0 : Int32)), .val (.long (0 : Int64)), .second, .val (.ref c_EMPTY), .val (.ref c_EMPTY), .val (.int (0 : Int32)), .val (.ref r209), .unset, .unset] []))
  refine own_st (fun _ k => XS.aloadN X215.here hx rfl (hb hby d13_432) rfl rfl k) ?_
  show own_go _ _ _ _ _ _ _ (T215.setTop (mkF m 433 #[.val (.ref a1), .val (.ref a2), .val .null, .val (.ref a3), .val (.int (0 : Int32)), .val (.long (0 : Int64)), .second, .val (.ref c_EMPTY), .val (.ref c_EMPTY), .val (.int (0 : Int32)), .val (.ref r209), .unset, .unset] [(.ref a1)]))
  refine own_st (fun _ k => XS.aloadN X215.here hx rfl (hb hby d13_433) rfl rfl k) ?_
  show own_go _ _ _ _ _ _ _ (T215.setTop (mkF m 434 #[.val (.ref a1), .val (.ref a2), .val .null, .val (.ref a3), .val (.int (0 : Int32)), .val (.long (0 : Int64)), .second, .val (.ref c_EMPTY), .val (.ref c_EMPTY), .val (.int (0 : Int32)), .val (.ref r209), .unset, .unset] [(.ref a2), (.ref a1)]))
  have f218 := (f213.keep Kq209)
  have f219 := (f211.keep Kq209)
  have ne_a2_a1 : a2 ≠ a1 := ne_exa f218 f219 (by decide)
  have f220 := (((F_a2_to.other W203 (Or.inl ne_a2_a1)).other W205 (Or.inl ne_a2_a1)).keep Kq209 nin0)
  obtain ⟨v217, T217, L217, X217, hQ217, st217⟩ := own_callV X215 hx hZ (argsL := []) (rest := [(.ref a1)]) (rm_rto l Z a0 hw a2 q2 T209.heap n0 O209 f220) hown (hw _ (List.mem_of_getElem? (i := 174) rfl)) (hw _ (List.mem_of_getElem? (i := 175) rfl)) (notFace_of_selects (args := #[]) (mvT hZ (hw _ (List.mem_of_getElem? (i := 177) rfl)))) (hw _ (List.mem_of_getElem? (i := 177) rfl)) (hw _ (List.mem_of_getElem? (i := 176) rfl)) (hw _ (List.mem_of_getElem? (i := 89) rfl)) (hw _ (List.mem_of_getElem? (i := 178) rfl)) (by decide) eq215 f218 (g := (mkF m 434 #[.val (.ref a1), .val (.ref a2), .val .null, .val (.ref a3), .val (.int (0 : Int32)), .val (.long (0 : Int64)), .second, .val (.ref c_EMPTY), .val (.ref c_EMPTY), .val (.int (0 : Int32)), .val (.ref r209), .unset, .unset] [(.ref a2), (.ref a1)])) rfl (by rw [hml]; rfl) (lenOf own_pd__28_29J rfl) rfl (W := 1) (by show 2 * 0 + _ ≤ _; exact Nat.le_of_eq rfl) (hb hby d13_434) (by decide) (by decide) (by decide) (by decide)
  obtain ⟨rfl, Nq217, eq217⟩ := hQ217
  have N217 := Fr.app N215 Nq217
  refine own_st st217 ?_
  show own_go _ _ _ _ _ _ _ (T217.setTop (mkF m 437 #[.val (.ref a1), .val (.ref a2), .val .null, .val (.ref a3), .val (.int (0 : Int32)), .val (.long (0 : Int64)), .second, .val (.ref c_EMPTY), .val (.ref c_EMPTY), .val (.int (0 : Int32)), .val (.ref r209), .unset, .unset] [(.long q2), (.ref a1)]))
  have f222 := (((F_a1_learntTo.other W203 (Or.inr (slot_ne (Or.inl (hw _ (List.mem_of_getElem? (i := 180) rfl))) (Or.inl (hw _ (List.mem_of_getElem? (i := 109) rfl))) (by decide) (t := .long) (t' := (.object "java/math/BigDecimal")) (by decide) (by decide)))).other W205 (Or.inr (slot_ne (Or.inl (hw _ (List.mem_of_getElem? (i := 180) rfl))) (Or.inl (hw _ (List.mem_of_getElem? (i := 38) rfl))) (by decide) (t := .long) (t' := .long) (by decide) (by decide)))).keep Kq209 nin0)
  obtain ⟨T221, h221, X221, e221, W221, st221⟩ := putF X217 hx hZ hown (host := "") (Or.inl (hw _ (List.mem_of_getElem? (i := 179) rfl))) Via.refl eq217 f222 f219 (Or.inl (hw _ (List.mem_of_getElem? (i := 180) rfl))) (hw _ (List.mem_of_getElem? (i := 2) rfl)) (ty := .long) (by decide) rfl rfl (g := (mkF m 437 #[.val (.ref a1), .val (.ref a2), .val .null, .val (.ref a3), .val (.int (0 : Int32)), .val (.long (0 : Int64)), .second, .val (.ref c_EMPTY), .val (.ref c_EMPTY), .val (.int (0 : Int32)), .val (.ref r209), .unset, .unset] [(.long q2), (.ref a1)])) rfl rfl (hb hby d13_437)
  have N221 := Fr.snoc X221 N217 ge_a1
  have O223 := O209.wr W221 ge_a1
  have K223 := K209.wr W221 (Or.inl (List.mem_of_getElem? (i := 0) rfl))
  have F221 := f222.same W221
  refine own_st st221 ?_
  show own_go _ _ _ _ _ _ _ (T221.setTop (mkF m 440 #[.val (.ref a1), .val (.ref a2), .val .null, .val (.ref a3), .val (.int (0 : Int32)), .val (.long (0 : Int64)), .second, .val (.ref c_EMPTY), .val (.ref c_EMPTY), .val (.int (0 : Int32)), .val (.ref r209), .unset, .unset] []))
  have f224 := ((((F_a1_settled.other W203 (Or.inr (slot_ne (Or.inl (hw _ (List.mem_of_getElem? (i := 70) rfl))) (Or.inl (hw _ (List.mem_of_getElem? (i := 109) rfl))) (by decide) (t := .long) (t' := (.object "java/math/BigDecimal")) (by decide) (by decide)))).other W205 (Or.inr (slot_ne (Or.inl (hw _ (List.mem_of_getElem? (i := 70) rfl))) (Or.inl (hw _ (List.mem_of_getElem? (i := 38) rfl))) (by decide) (t := .long) (t' := .long) (by decide) (by decide)))).keep Kq209 nin0).other W221 (Or.inr (slot_ne (Or.inl (hw _ (List.mem_of_getElem? (i := 70) rfl))) (Or.inl (hw _ (List.mem_of_getElem? (i := 180) rfl))) (by decide) (t := .long) (t' := .long) (by decide) (by decide))))
  exact own_ret0 X221 hx hlk hret (hb hby d13_440) (by decide) (by decide) (by rw [e221]; exact ⟨rfl, N221, K223, F221, f224⟩)
theorem d24_0 : decode prog_12_method_7_code 0 = .ok (.aload_n 1, 1) := by decide +kernel
theorem d24_1 : decode prog_12_method_7_code 1 = .ok (.ifnonnull 10, 3) := by decide +kernel
theorem d24_4 : decode prog_12_method_7_code 4 = .ok (.aload_n 0, 1) := by decide +kernel
theorem d24_5 : decode prog_12_method_7_code 5 = .ok (.getfield 92, 3) := by decide +kernel
theorem d24_8 : decode prog_12_method_7_code 8 = .ok (.goto 14, 3) := by decide +kernel
theorem d24_22 : decode prog_12_method_7_code 22 = .ok (.lstore_n 2, 1) := by decide +kernel
theorem d24_23 : decode prog_12_method_7_code 23 = .ok (.invokestatic 102, 3) := by decide +kernel
theorem d24_26 : decode prog_12_method_7_code 26 = .ok (.astore 4, 2) := by decide +kernel
theorem d24_28 : decode prog_12_method_7_code 28 = .ok (.lload_n 2, 1) := by decide +kernel
theorem d24_29 : decode prog_12_method_7_code 29 = .ok (.aload_n 0, 1) := by decide +kernel
theorem d24_30 : decode prog_12_method_7_code 30 = .ok (.getfield 108, 3) := by decide +kernel
theorem d24_33 : decode prog_12_method_7_code 33 = .ok (.lcmp, 1) := by decide +kernel
theorem d24_34 : decode prog_12_method_7_code 34 = .ok (.ifCond .le 20, 3) := by decide +kernel
theorem d24_37 : decode prog_12_method_7_code 37 = .ok (.new 111, 3) := by decide +kernel
theorem d24_40 : decode prog_12_method_7_code 40 = .ok (.dup, 1) := by decide +kernel
theorem d24_41 : decode prog_12_method_7_code 41 = .ok (.aload_n 0, 1) := by decide +kernel
theorem d24_42 : decode prog_12_method_7_code 42 = .ok (.getfield 108, 3) := by decide +kernel
theorem d24_45 : decode prog_12_method_7_code 45 = .ok (.lload_n 2, 1) := by decide +kernel
theorem d24_46 : decode prog_12_method_7_code 46 = .ok (.invokespecial 113, 3) := by decide +kernel
theorem d24_49 : decode prog_12_method_7_code 49 = .ok (.invokestatic 116, 3) := by decide +kernel
theorem d24_52 : decode prog_12_method_7_code 52 = .ok (.astore 4, 2) := by decide +kernel
theorem d24_54 : decode prog_12_method_7_code 54 = .ok (.aload 4, 2) := by decide +kernel
theorem d24_56 : decode prog_12_method_7_code 56 = .ok (.areturn, 1) := by decide +kernel
theorem own_pn_24 : plainFor (⟨"com/example/usher/usher/OutboxRuns", "unread", "(Ljava/lang/Long;)Ljava/util/Optional;"⟩ : MethodName) = true := plainFor_of_name (show plainName "com/example/usher/usher/OutboxRuns" = true by first | (simp [plainName, overriddenIn]; done) | decide +kernel)
theorem own_pd__28JJ_29V : parseMethodDescriptor "(JJ)V" = some ⟨[.long, .long], none⟩ := by decide +kernel
theorem own_pd__28Ljava_2flang_2fObject_3b_29Ljava_2futil_2fOptional_3b : parseMethodDescriptor "(Ljava/lang/Object;)Ljava/util/Optional;" = some ⟨[(.object "java/lang/Object")], some (.object "java/util/Optional")⟩ := by decide +kernel
theorem own_ef_rm_un_n_1 (m : MethodId) (a1 : Addr) : entryFrame m #[(.ref a1), .null] 5 = mkF m 0 #[.val (.ref a1), .val .null, .unset, .unset, .unset] [] := by first | (simp [entryFrame, mkF, argsToLocals, Value.category]; done) | rfl
set_option maxRecDepth 65536 in
set_option maxHeartbeats 40000000 in
theorem rm_un_n_1 (l : Launch) (Z : State) (a0 : Array Value) (hw : ∀ d ∈ tables_1, d.before a0 Z = true) (a1 : Addr) (q2 q5 : Int64) (c_EMPTY_ELEMENTDATA : Addr) (c_DEFAULTCAPACITY_EMPTY_ELEMENTDATA : Addr) (c_cache : Addr) (c_EMPTY : Addr) (h0 : Heap) (n0 : Nat) (O0 : Old Z n0 h0) (hS : own_S Z c_EMPTY_ELEMENTDATA c_DEFAULTCAPACITY_EMPTY_ELEMENTDATA c_cache c_EMPTY) (hq : q2 < q5) (E_a1 : Exa Z h0 a1 "com/example/usher/usher/OutboxRuns") (F_a1_learntTo : Fld Z h0 a1 "com/example/usher/usher/OutboxRuns" "learntTo" "J" (.long q2)) (F_a1_settled : Fld Z h0 a1 "com/example/usher/usher/OutboxRuns" "settled" "J" (.long q5)) :
    own_Met l Z (⟨"com/example/usher/usher/OutboxRuns", "unread", "(Ljava/lang/Long;)Ljava/util/Optional;"⟩ : MethodName) prog_12_method_7_code 5 (some (.object "java/util/Optional")) [] ({ frames := 3, cells := 2, slots := 3, locals := 56 } : Room) #[(.ref a1), .null] h0 (fun v h L => ∃ a b, v = some (.ref a) ∧ Fr n0 L ∧ Keep h0 h [] ∧ Exa Z h a "java/util/Optional" ∧ Fld Z h a "java/util/Optional" "value" "Ljava/lang/Object;" (.ref b) ∧ Exa Z h b "com/example/usher/usher/OutboxRuns$Range" ∧ Fld Z h b "com/example/usher/usher/OutboxRuns$Range" "from" "J" (.long q2) ∧ Fld Z h b "com/example/usher/usher/OutboxRuns$Range" "to" "J" (.long q5)) := by
  refine own_body own_pn_24 ?_
  intro p e s m below meth c s₁ hx hby hml hown hnm hret hlk X0 hZ e0
  replace hown : s.vm.findClass "com/example/usher/usher/OutboxRuns" = some m.cls := hown
  have N0 := Fr.nil n0
  have K0 := Keep.refl h0 []
  refine own_st (fun _ k => castTop (own_ef_rm_un_n_1 m a1) k) ?_
  show own_go _ _ _ _ _ _ _ (s₁.setTop (mkF m 0 #[.val (.ref a1), .val .null, .unset, .unset, .unset] []))
  refine own_st (fun _ k => XS.aloadN X0.here hx rfl (hb hby d24_0) rfl rfl k) ?_
  show own_go _ _ _ _ _ _ _ (s₁.setTop (mkF m 1 #[.val (.ref a1), .val .null, .unset, .unset, .unset] [.null]))
  refine own_st (fun _ k => XS.ifnonnullNo X0.here hx rfl (hb hby d24_1) rfl k) ?_
  show own_go _ _ _ _ _ _ _ (s₁.setTop (mkF m 4 #[.val (.ref a1), .val .null, .unset, .unset, .unset] []))
  refine own_st (fun _ k => XS.aloadN X0.here hx rfl (hb hby d24_4) rfl rfl k) ?_
  show own_go _ _ _ _ _ _ _ (s₁.setTop (mkF m 5 #[.val (.ref a1), .val .null, .unset, .unset, .unset] [(.ref a1)]))
  obtain ⟨T225, X225, e225, st225⟩ := getF X0 hx hZ hown (host := "") (Or.inl (hw _ (List.mem_of_getElem? (i := 69) rfl))) Via.refl e0 F_a1_settled (g := (mkF m 5 #[.val (.ref a1), .val .null, .unset, .unset, .unset] [(.ref a1)])) rfl rfl (hb hby d24_5)
  refine own_st st225 ?_
  show own_go _ _ _ _ _ _ _ (T225.setTop (mkF m 8 #[.val (.ref a1), .val .null, .unset, .unset, .unset] [(.long q5)]))
  refine own_st (fun _ k => XS.goto X225.here hx rfl (pc0 := 8) (pc' := 22) rfl (hb hby d24_8) (by decide) (by decide) k) ?_
  show own_go _ _ _ _ _ _ _ (T225.setTop (mkF m 22 #[.val (.ref a1), .val .null, .unset, .unset, .unset] [(.long q5)]))
  refine own_st (fun _ k => XS.lstoreN X225.here hx rfl (hb hby d24_22) rfl (l' := #[.val (.ref a1), .val .null, .val (.long q5), .second, .unset]) rfl k) ?_
  show own_go _ _ _ _ _ _ _ (T225.setTop (mkF m 23 #[.val (.ref a1), .val .null, .val (.long q5), .second, .unset] []))
  obtain ⟨v226, T226, L226, X226, hQ226, st226⟩ := own_callS X225 hx hZ (argsL := []) (rest := []) (rmo_empty l Z a0 hw c_EMPTY_ELEMENTDATA c_DEFAULTCAPACITY_EMPTY_ELEMENTDATA c_cache c_EMPTY h0 n0 O0 hS) hown (hw _ (List.mem_of_getElem? (i := 121) rfl)) (hw _ (List.mem_of_getElem? (i := 122) rfl)) (hw _ (List.mem_of_getElem? (i := 123) rfl)) (hw _ (List.mem_of_getElem? (i := 124) rfl)) (by decide) e225 (g := (mkF m 23 #[.val (.ref a1), .val .null, .val (.long q5), .second, .unset] [])) rfl (by rw [hml]; rfl) (lenOf own_pd__28_29Ljava_2futil_2fOptional_3b rfl) rfl (W := 0) (by show 2 * 0 + _ ≤ _; exact Nat.le_of_eq rfl) (hb hby d24_23) (by decide) (by decide) (by decide) (by decide)
  obtain ⟨rfl, Nq226, eq226⟩ := hQ226
  have N226 := Fr.app N0 Nq226
  refine own_st st226 ?_
  show own_go _ _ _ _ _ _ _ (T226.setTop (mkF m 26 #[.val (.ref a1), .val .null, .val (.long q5), .second, .unset] [(.ref c_EMPTY)]))
  refine own_st (fun _ k => XS.astore X226.here hx rfl (hb hby d24_26) rfl rfl (l' := #[.val (.ref a1), .val .null, .val (.long q5), .second, .val (.ref c_EMPTY)]) rfl k) ?_
  show own_go _ _ _ _ _ _ _ (T226.setTop (mkF m 28 #[.val (.ref a1), .val .null, .val (.long q5), .second, .val (.ref c_EMPTY)] []))
  refine own_st (fun _ k => XS.lloadN X226.here hx rfl (hb hby d24_28) rfl k) ?_
  show own_go _ _ _ _ _ _ _ (T226.setTop (mkF m 29 #[.val (.ref a1), .val .null, .val (.long q5), .second, .val (.ref c_EMPTY)] [(.long q5)]))
  refine own_st (fun _ k => XS.aloadN X226.here hx rfl (hb hby d24_29) rfl rfl k) ?_
  show own_go _ _ _ _ _ _ _ (T226.setTop (mkF m 30 #[.val (.ref a1), .val .null, .val (.long q5), .second, .val (.ref c_EMPTY)] [(.ref a1), (.long q5)]))
  obtain ⟨T227, X227, e227, st227⟩ := getF X226 hx hZ hown (host := "") (Or.inl (hw _ (List.mem_of_getElem? (i := 179) rfl))) Via.refl eq226 F_a1_learntTo (g := (mkF m 30 #[.val (.ref a1), .val .null, .val (.long q5), .second, .val (.ref c_EMPTY)] [(.ref a1), (.long q5)])) rfl rfl (hb hby d24_30)
  refine own_st st227 ?_
  show own_go _ _ _ _ _ _ _ (T227.setTop (mkF m 33 #[.val (.ref a1), .val .null, .val (.long q5), .second, .val (.ref c_EMPTY)] [(.long q2), (.long q5)]))
  refine own_st (fun _ k => XS.lcmp X227.here hx rfl (hb hby d24_33) rfl k) ?_
  show own_go _ _ _ _ _ _ _ (T227.setTop (mkF m 34 #[.val (.ref a1), .val .null, .val (.long q5), .second, .val (.ref c_EMPTY)] [(.int (lcmpW q5 q2))]))
  refine own_st (fun _ k => XS.ifNo X227.here hx rfl (hb hby d24_34) rfl (XT.ll_le_f hq) k) ?_
  show own_go _ _ _ _ _ _ _ (T227.setTop (mkF m 37 #[.val (.ref a1), .val .null, .val (.long q5), .second, .val (.ref c_EMPTY)] []))
  obtain ⟨T228, h228, X228, e228, E228, A228, D228, -, st228⟩ := newO X227 hx hZ hown (hw _ (List.mem_of_getElem? (i := 200) rfl)) (hw _ (List.mem_of_getElem? (i := 88) rfl)) (hw _ (List.mem_of_getElem? (i := 89) rfl)) e227 (g := (mkF m 37 #[.val (.ref a1), .val .null, .val (.long q5), .second, .val (.ref c_EMPTY)] [])) rfl (hb hby d24_37) (by decide) (by decide)
  obtain ⟨b228, g228⟩ : ∃ z, z = h0.size := ⟨_, rfl⟩
  rw [← g228] at A228 D228 st228
  have ge_b228 : n0 ≤ b228 := by rw [g228]; exact own_osz O0
  have sz_b228 : h0.size ≤ b228 := by rw [g228]; exact K0.1
  have ne_a1_b228 : a1 ≠ b228 := (fun q => absurd E_a1.lt (by rw [q, g228]; exact Nat.lt_irrefl _))
  have O228 := O0.ext E228
  have K228 := K0.ext E228
  refine own_st st228 ?_
  show own_go _ _ _ _ _ _ _ (T228.setTop (mkF m 40 #[.val (.ref a1), .val .null, .val (.long q5), .second, .val (.ref c_EMPTY)] [(.ref b228)]))
  refine own_st (fun _ k => XS.dup X228.here hx rfl (hb hby d24_40) rfl rfl k) ?_
  show own_go _ _ _ _ _ _ _ (T228.setTop (mkF m 41 #[.val (.ref a1), .val .null, .val (.long q5), .second, .val (.ref c_EMPTY)] [(.ref b228), (.ref b228)]))
  refine own_st (fun _ k => XS.aloadN X228.here hx rfl (hb hby d24_41) rfl rfl k) ?_
  show own_go _ _ _ _ _ _ _ (T228.setTop (mkF m 42 #[.val (.ref a1), .val .null, .val (.long q5), .second, .val (.ref c_EMPTY)] [(.ref a1), (.ref b228), (.ref b228)]))
  have f229 := (F_a1_learntTo.ext E228)
  obtain ⟨T230, X230, e230, st230⟩ := getF X228 hx hZ hown (host := "") (Or.inl (hw _ (List.mem_of_getElem? (i := 179) rfl))) Via.refl e228 f229 (g := (mkF m 42 #[.val (.ref a1), .val .null, .val (.long q5), .second, .val (.ref c_EMPTY)] [(.ref a1), (.ref b228), (.ref b228)])) rfl rfl (hb hby d24_42)
  refine own_st st230 ?_
  show own_go _ _ _ _ _ _ _ (T230.setTop (mkF m 45 #[.val (.ref a1), .val .null, .val (.long q5), .second, .val (.ref c_EMPTY)] [(.long q2), (.ref b228), (.ref b228)]))
  refine own_st (fun _ k => XS.lloadN X230.here hx rfl (hb hby d24_45) rfl k) ?_
  show own_go _ _ _ _ _ _ _ (T230.setTop (mkF m 46 #[.val (.ref a1), .val .null, .val (.long q5), .second, .val (.ref c_EMPTY)] [(.long q5), (.long q2), (.ref b228), (.ref b228)]))
  obtain ⟨v231, T231, L231, X231, hQ231, st231⟩ := own_callN X230 hx hZ (argsL := [(.long q2), (.long q5)]) (rest := [(.ref b228)]) (rm_rinit l Z a0 hw b228 q2 q5 h228 n0 O228 ge_b228 A228 (D228 (Or.inr (hw _ (List.mem_of_getElem? (i := 100) rfl))) (ty := .long) (by decide)) (D228 (Or.inr (hw _ (List.mem_of_getElem? (i := 102) rfl))) (ty := .long) (by decide))) rfl hown (hw _ (List.mem_of_getElem? (i := 201) rfl)) (hw _ (List.mem_of_getElem? (i := 91) rfl)) (hw _ (List.mem_of_getElem? (i := 89) rfl)) (hw _ (List.mem_of_getElem? (i := 92) rfl)) (by decide) e230 (g := (mkF m 46 #[.val (.ref a1), .val .null, .val (.long q5), .second, .val (.ref c_EMPTY)] [(.long q5), (.long q2), (.ref b228), (.ref b228)])) rfl (by rw [hml]; rfl) (lenOf own_pd__28JJ_29V rfl) rfl (W := 1) (by show 2 * 0 + _ ≤ _; exact Nat.le_of_eq rfl) (hb hby d24_46) (by decide) (by decide) (by decide) (by decide)
  obtain ⟨rfl, Nq231, Kq231, F231_0, F231_1⟩ := hQ231
  have N231 := Fr.app N226 Nq231
  have O231 := O228.keep Kq231 (allS ge_b228 all0)
  have K231 := K228.trans Kq231 (allS (Or.inr sz_b228) all0)
  refine own_st st231 ?_
  show own_go _ _ _ _ _ _ _ (T231.setTop (mkF m 49 #[.val (.ref a1), .val .null, .val (.long q5), .second, .val (.ref c_EMPTY)] [(.ref b228)]))
  obtain ⟨v232, T232, L232, X232, hQ232, st232⟩ := own_callS X231 hx hZ (argsL := [(.ref b228)]) (rest := []) (rmo_of l Z a0 hw b228 T231.heap n0 O231) hown (hw _ (List.mem_of_getElem? (i := 202) rfl)) (hw _ (List.mem_of_getElem? (i := 203) rfl)) (hw _ (List.mem_of_getElem? (i := 123) rfl)) (hw _ (List.mem_of_getElem? (i := 204) rfl)) (by decide) rfl (g := (mkF m 49 #[.val (.ref a1), .val .null, .val (.long q5), .second, .val (.ref c_EMPTY)] [(.ref b228)])) rfl (by rw [hml]; rfl) (lenOf own_pd__28Ljava_2flang_2fObject_3b_29Ljava_2futil_2fOptional_3b rfl) rfl (W := 0) (by show 2 * 0 + _ ≤ _; exact Nat.le_of_eq rfl) (hb hby d24_49) (by decide) (by decide) (by decide) (by decide)
  obtain ⟨r232, rfl, Nq232, Kq232, sz232, A232, F232_0⟩ := hQ232
  have N232 := Fr.app N231 Nq232
  have f233 := ((E_a1.ext E228).keep Kq231)
  have ne_a1_r232 : a1 ≠ r232 := (Nat.ne_of_lt (Nat.lt_of_lt_of_le f233.lt sz232))
  have f234 := (A228.keep Kq231)
  have ne_b228_r232 : b228 ≠ r232 := (Nat.ne_of_lt (Nat.lt_of_lt_of_le f234.lt sz232))
  have O232 := O231.keep Kq232 all0
  have K232 := K231.trans Kq232 all0
  refine own_st st232 ?_
  show own_go _ _ _ _ _ _ _ (T232.setTop (mkF m 52 #[.val (.ref a1), .val .null, .val (.long q5), .second, .val (.ref c_EMPTY)] [(.ref r232)]))
  refine own_st (fun _ k => XS.astore X232.here hx rfl (hb hby d24_52) rfl rfl (l' := #[.val (.ref a1), .val .null, .val (.long q5), .second, .val (.ref r232)]) rfl k) ?_
  show own_go _ _ _ _ _ _ _ (T232.setTop (mkF m 54 #[.val (.ref a1), .val .null, .val (.long q5), .second, .val (.ref r232)] []))
  refine own_st (fun _ k => XS.aload X232.here hx rfl (hb hby d24_54) rfl rfl k) ?_
  show own_go _ _ _ _ _ _ _ (T232.setTop (mkF m 56 #[.val (.ref a1), .val .null, .val (.long q5), .second, .val (.ref r232)] [(.ref r232)]))
  have f235 := (f234.keep Kq232)
  have f236 := (F231_0.keep Kq232 nin0)
  have f237 := (F231_1.keep Kq232 nin0)
  exact own_retA X232 hx hlk hret rfl rfl (hb hby d24_56) (by decide) (by decide) (⟨_, _, rfl, N232, K232, A232, F232_0, f235, f236, f237⟩)
theorem own_ef_rm_un_n_0 (m : MethodId) (a1 : Addr) : entryFrame m #[(.ref a1), .null] 5 = mkF m 0 #[.val (.ref a1), .val .null, .unset, .unset, .unset] [] := by first | (simp [entryFrame, mkF, argsToLocals, Value.category]; done) | rfl
set_option maxRecDepth 65536 in
set_option maxHeartbeats 40000000 in
theorem rm_un_n_0 (l : Launch) (Z : State) (a0 : Array Value) (hw : ∀ d ∈ tables_1, d.before a0 Z = true) (a1 : Addr) (q2 q5 : Int64) (c_EMPTY_ELEMENTDATA : Addr) (c_DEFAULTCAPACITY_EMPTY_ELEMENTDATA : Addr) (c_cache : Addr) (c_EMPTY : Addr) (h0 : Heap) (n0 : Nat) (O0 : Old Z n0 h0) (hS : own_S Z c_EMPTY_ELEMENTDATA c_DEFAULTCAPACITY_EMPTY_ELEMENTDATA c_cache c_EMPTY) (hq : ¬ q2 < q5) (E_a1 : Exa Z h0 a1 "com/example/usher/usher/OutboxRuns") (F_a1_learntTo : Fld Z h0 a1 "com/example/usher/usher/OutboxRuns" "learntTo" "J" (.long q2)) (F_a1_settled : Fld Z h0 a1 "com/example/usher/usher/OutboxRuns" "settled" "J" (.long q5)) :
    own_Met l Z (⟨"com/example/usher/usher/OutboxRuns", "unread", "(Ljava/lang/Long;)Ljava/util/Optional;"⟩ : MethodName) prog_12_method_7_code 5 (some (.object "java/util/Optional")) [] ({ frames := 3, cells := 2, slots := 3, locals := 56 } : Room) #[(.ref a1), .null] h0 (fun v h L => v = some (.ref c_EMPTY) ∧ Fr n0 L ∧ Keep h0 h []) := by
  refine own_body own_pn_24 ?_
  intro p e s m below meth c s₁ hx hby hml hown hnm hret hlk X0 hZ e0
  replace hown : s.vm.findClass "com/example/usher/usher/OutboxRuns" = some m.cls := hown
  have N0 := Fr.nil n0
  have K0 := Keep.refl h0 []
  refine own_st (fun _ k => castTop (own_ef_rm_un_n_0 m a1) k) ?_
  show own_go _ _ _ _ _ _ _ (s₁.setTop (mkF m 0 #[.val (.ref a1), .val .null, .unset, .unset, .unset] []))
  refine own_st (fun _ k => XS.aloadN X0.here hx rfl (hb hby d24_0) rfl rfl k) ?_
  show own_go _ _ _ _ _ _ _ (s₁.setTop (mkF m 1 #[.val (.ref a1), .val .null, .unset, .unset, .unset] [.null]))
  refine own_st (fun _ k => XS.ifnonnullNo X0.here hx rfl (hb hby d24_1) rfl k) ?_
  show own_go _ _ _ _ _ _ _ (s₁.setTop (mkF m 4 #[.val (.ref a1), .val .null, .unset, .unset, .unset] []))
  refine own_st (fun _ k => XS.aloadN X0.here hx rfl (hb hby d24_4) rfl rfl k) ?_
  show own_go _ _ _ _ _ _ _ (s₁.setTop (mkF m 5 #[.val (.ref a1), .val .null, .unset, .unset, .unset] [(.ref a1)]))
  obtain ⟨T238, X238, e238, st238⟩ := getF X0 hx hZ hown (host := "") (Or.inl (hw _ (List.mem_of_getElem? (i := 69) rfl))) Via.refl e0 F_a1_settled (g := (mkF m 5 #[.val (.ref a1), .val .null, .unset, .unset, .unset] [(.ref a1)])) rfl rfl (hb hby d24_5)
  refine own_st st238 ?_
  show own_go _ _ _ _ _ _ _ (T238.setTop (mkF m 8 #[.val (.ref a1), .val .null, .unset, .unset, .unset] [(.long q5)]))
  refine own_st (fun _ k => XS.goto X238.here hx rfl (pc0 := 8) (pc' := 22) rfl (hb hby d24_8) (by decide) (by decide) k) ?_
  show own_go _ _ _ _ _ _ _ (T238.setTop (mkF m 22 #[.val (.ref a1), .val .null, .unset, .unset, .unset] [(.long q5)]))
  refine own_st (fun _ k => XS.lstoreN X238.here hx rfl (hb hby d24_22) rfl (l' := #[.val (.ref a1), .val .null, .val (.long q5), .second, .unset]) rfl k) ?_
  show own_go _ _ _ _ _ _ _ (T238.setTop (mkF m 23 #[.val (.ref a1), .val .null, .val (.long q5), .second, .unset] []))
  obtain ⟨v239, T239, L239, X239, hQ239, st239⟩ := own_callS X238 hx hZ (argsL := []) (rest := []) (rmo_empty l Z a0 hw c_EMPTY_ELEMENTDATA c_DEFAULTCAPACITY_EMPTY_ELEMENTDATA c_cache c_EMPTY h0 n0 O0 hS) hown (hw _ (List.mem_of_getElem? (i := 121) rfl)) (hw _ (List.mem_of_getElem? (i := 122) rfl)) (hw _ (List.mem_of_getElem? (i := 123) rfl)) (hw _ (List.mem_of_getElem? (i := 124) rfl)) (by decide) e238 (g := (mkF m 23 #[.val (.ref a1), .val .null, .val (.long q5), .second, .unset] [])) rfl (by rw [hml]; rfl) (lenOf own_pd__28_29Ljava_2futil_2fOptional_3b rfl) rfl (W := 0) (by show 2 * 0 + _ ≤ _; exact Nat.le_of_eq rfl) (hb hby d24_23) (by decide) (by decide) (by decide) (by decide)
  obtain ⟨rfl, Nq239, eq239⟩ := hQ239
  have N239 := Fr.app N0 Nq239
  refine own_st st239 ?_
  show own_go _ _ _ _ _ _ _ (T239.setTop (mkF m 26 #[.val (.ref a1), .val .null, .val (.long q5), .second, .unset] [(.ref c_EMPTY)]))
  refine own_st (fun _ k => XS.astore X239.here hx rfl (hb hby d24_26) rfl rfl (l' := #[.val (.ref a1), .val .null, .val (.long q5), .second, .val (.ref c_EMPTY)]) rfl k) ?_
  show own_go _ _ _ _ _ _ _ (T239.setTop (mkF m 28 #[.val (.ref a1), .val .null, .val (.long q5), .second, .val (.ref c_EMPTY)] []))
  refine own_st (fun _ k => XS.lloadN X239.here hx rfl (hb hby d24_28) rfl k) ?_
  show own_go _ _ _ _ _ _ _ (T239.setTop (mkF m 29 #[.val (.ref a1), .val .null, .val (.long q5), .second, .val (.ref c_EMPTY)] [(.long q5)]))
  refine own_st (fun _ k => XS.aloadN X239.here hx rfl (hb hby d24_29) rfl rfl k) ?_
  show own_go _ _ _ _ _ _ _ (T239.setTop (mkF m 30 #[.val (.ref a1), .val .null, .val (.long q5), .second, .val (.ref c_EMPTY)] [(.ref a1), (.long q5)]))
  obtain ⟨T240, X240, e240, st240⟩ := getF X239 hx hZ hown (host := "") (Or.inl (hw _ (List.mem_of_getElem? (i := 179) rfl))) Via.refl eq239 F_a1_learntTo (g := (mkF m 30 #[.val (.ref a1), .val .null, .val (.long q5), .second, .val (.ref c_EMPTY)] [(.ref a1), (.long q5)])) rfl rfl (hb hby d24_30)
  refine own_st st240 ?_
  show own_go _ _ _ _ _ _ _ (T240.setTop (mkF m 33 #[.val (.ref a1), .val .null, .val (.long q5), .second, .val (.ref c_EMPTY)] [(.long q2), (.long q5)]))
  refine own_st (fun _ k => XS.lcmp X240.here hx rfl (hb hby d24_33) rfl k) ?_
  show own_go _ _ _ _ _ _ _ (T240.setTop (mkF m 34 #[.val (.ref a1), .val .null, .val (.long q5), .second, .val (.ref c_EMPTY)] [(.int (lcmpW q5 q2))]))
  refine own_st (fun _ k => XS.ifYes X240.here hx rfl (pc0 := 34) (pc' := 54) rfl (hb hby d24_34) rfl (XT.ll_le_t hq) (by decide) (by decide) k) ?_
  show own_go _ _ _ _ _ _ _ (T240.setTop (mkF m 54 #[.val (.ref a1), .val .null, .val (.long q5), .second, .val (.ref c_EMPTY)] []))
  refine own_st (fun _ k => XS.aload X240.here hx rfl (hb hby d24_54) rfl rfl k) ?_
  show own_go _ _ _ _ _ _ _ (T240.setTop (mkF m 56 #[.val (.ref a1), .val .null, .val (.long q5), .second, .val (.ref c_EMPTY)] [(.ref c_EMPTY)]))
  exact own_retA X240 hx hlk hret rfl rfl (hb hby d24_56) (by decide) (by decide) (by rw [e240]; exact ⟨rfl, N239, K0⟩)
theorem d24_11 : decode prog_12_method_7_code 11 = .ok (.aload_n 1, 1) := by decide +kernel
theorem d24_12 : decode prog_12_method_7_code 12 = .ok (.invokevirtual 79, 3) := by decide +kernel
theorem d24_15 : decode prog_12_method_7_code 15 = .ok (.aload_n 0, 1) := by decide +kernel
theorem d24_16 : decode prog_12_method_7_code 16 = .ok (.getfield 92, 3) := by decide +kernel
theorem d24_19 : decode prog_12_method_7_code 19 = .ok (.invokestatic 82, 3) := by decide +kernel
theorem own_ef_rm_un_l_1 (m : MethodId) (a1 : Addr) (a2 : Addr) : entryFrame m #[(.ref a1), (.ref a2)] 5 = mkF m 0 #[.val (.ref a1), .val (.ref a2), .unset, .unset, .unset] [] := by first | (simp [entryFrame, mkF, argsToLocals, Value.category]; done) | rfl
set_option maxRecDepth 65536 in
set_option maxHeartbeats 40000000 in
theorem rm_un_l_1 (l : Launch) (Z : State) (a0 : Array Value) (hw : ∀ d ∈ tables_1, d.before a0 Z = true) (a1 a2 : Addr) (q2 q5 q6 : Int64) (c_EMPTY_ELEMENTDATA : Addr) (c_DEFAULTCAPACITY_EMPTY_ELEMENTDATA : Addr) (c_cache : Addr) (c_EMPTY : Addr) (h0 : Heap) (n0 : Nat) (O0 : Old Z n0 h0) (hS : own_S Z c_EMPTY_ELEMENTDATA c_DEFAULTCAPACITY_EMPTY_ELEMENTDATA c_cache c_EMPTY) (hr : q6 < q5) (hq : q2 < q6) (E_a1 : Exa Z h0 a1 "com/example/usher/usher/OutboxRuns") (F_a1_learntTo : Fld Z h0 a1 "com/example/usher/usher/OutboxRuns" "learntTo" "J" (.long q2)) (F_a1_settled : Fld Z h0 a1 "com/example/usher/usher/OutboxRuns" "settled" "J" (.long q5)) (E_a2 : Exa Z h0 a2 "java/lang/Long") (F_a2_value : Fld Z h0 a2 "java/lang/Long" "value" "J" (.long q6)) :
    own_Met l Z (⟨"com/example/usher/usher/OutboxRuns", "unread", "(Ljava/lang/Long;)Ljava/util/Optional;"⟩ : MethodName) prog_12_method_7_code 5 (some (.object "java/util/Optional")) [] ({ frames := 3, cells := 2, slots := 3, locals := 56 } : Room) #[(.ref a1), (.ref a2)] h0 (fun v h L => ∃ a b, v = some (.ref a) ∧ Fr n0 L ∧ Keep h0 h [] ∧ Exa Z h a "java/util/Optional" ∧ Fld Z h a "java/util/Optional" "value" "Ljava/lang/Object;" (.ref b) ∧ Exa Z h b "com/example/usher/usher/OutboxRuns$Range" ∧ Fld Z h b "com/example/usher/usher/OutboxRuns$Range" "from" "J" (.long q2) ∧ Fld Z h b "com/example/usher/usher/OutboxRuns$Range" "to" "J" (.long q6)) := by
  refine own_body own_pn_24 ?_
  intro p e s m below meth c s₁ hx hby hml hown hnm hret hlk X0 hZ e0
  replace hown : s.vm.findClass "com/example/usher/usher/OutboxRuns" = some m.cls := hown
  have N0 := Fr.nil n0
  have K0 := Keep.refl h0 []
  refine own_st (fun _ k => castTop (own_ef_rm_un_l_1 m a1 a2) k) ?_
  show own_go _ _ _ _ _ _ _ (s₁.setTop (mkF m 0 #[.val (.ref a1), .val (.ref a2), .unset, .unset, .unset] []))
  refine own_st (fun _ k => XS.aloadN X0.here hx rfl (hb hby d24_0) rfl rfl k) ?_
  show own_go _ _ _ _ _ _ _ (s₁.setTop (mkF m 1 #[.val (.ref a1), .val (.ref a2), .unset, .unset, .unset] [(.ref a2)]))
  refine own_st (fun _ k => XS.ifnonnullYes X0.here hx rfl (pc0 := 1) (pc' := 11) rfl (hb hby d24_1) rfl (by decide) (by decide) k) ?_
  show own_go _ _ _ _ _ _ _ (s₁.setTop (mkF m 11 #[.val (.ref a1), .val (.ref a2), .unset, .unset, .unset] []))
  refine own_st (fun _ k => XS.aloadN X0.here hx rfl (hb hby d24_11) rfl rfl k) ?_
  show own_go _ _ _ _ _ _ _ (s₁.setTop (mkF m 12 #[.val (.ref a1), .val (.ref a2), .unset, .unset, .unset] [(.ref a2)]))
  obtain ⟨v241, T241, L241, X241, hQ241, st241⟩ := own_callV X0 hx hZ (argsL := []) (rest := []) (rm_lv l Z a0 hw a2 q6 h0 n0 O0 F_a2_value) hown (hw _ (List.mem_of_getElem? (i := 57) rfl)) (hw _ (List.mem_of_getElem? (i := 58) rfl)) (notFace_of_selects (args := #[]) (mvT hZ (hw _ (List.mem_of_getElem? (i := 60) rfl)))) (hw _ (List.mem_of_getElem? (i := 60) rfl)) (hw _ (List.mem_of_getElem? (i := 59) rfl)) (hw _ (List.mem_of_getElem? (i := 46) rfl)) (hw _ (List.mem_of_getElem? (i := 61) rfl)) (by decide) e0 E_a2 (g := (mkF m 12 #[.val (.ref a1), .val (.ref a2), .unset, .unset, .unset] [(.ref a2)])) rfl (by rw [hml]; rfl) (lenOf own_pd__28_29J rfl) rfl (W := 0) (by show 2 * 0 + _ ≤ _; exact Nat.le_of_eq rfl) (hb hby d24_12) (by decide) (by decide) (by decide) (by decide)
  obtain ⟨rfl, Nq241, eq241⟩ := hQ241
  have N241 := Fr.app N0 Nq241
  refine own_st st241 ?_
  show own_go _ _ _ _ _ _ _ (T241.setTop (mkF m 15 #[.val (.ref a1), .val (.ref a2), .unset, .unset, .unset] [(.long q6)]))
  refine own_st (fun _ k => XS.aloadN X241.here hx rfl (hb hby d24_15) rfl rfl k) ?_
  show own_go _ _ _ _ _ _ _ (T241.setTop (mkF m 16 #[.val (.ref a1), .val (.ref a2), .unset, .unset, .unset] [(.ref a1), (.long q6)]))
  obtain ⟨T242, X242, e242, st242⟩ := getF X241 hx hZ hown (host := "") (Or.inl (hw _ (List.mem_of_getElem? (i := 69) rfl))) Via.refl eq241 F_a1_settled (g := (mkF m 16 #[.val (.ref a1), .val (.ref a2), .unset, .unset, .unset] [(.ref a1), (.long q6)])) rfl rfl (hb hby d24_16)
  refine own_st st242 ?_
  show own_go _ _ _ _ _ _ _ (T242.setTop (mkF m 19 #[.val (.ref a1), .val (.ref a2), .unset, .unset, .unset] [(.long q5), (.long q6)]))
  obtain ⟨v243, T243, L243, X243, hQ243, st243⟩ := own_callS X242 hx hZ (argsL := [(.long q6), (.long q5)]) (rest := []) (rm_min l Z a0 hw q6 q5 h0 n0 O0) hown (hw _ (List.mem_of_getElem? (i := 64) rfl)) (hw _ (List.mem_of_getElem? (i := 65) rfl)) (hw _ (List.mem_of_getElem? (i := 66) rfl)) (hw _ (List.mem_of_getElem? (i := 67) rfl)) (by decide) e242 (g := (mkF m 19 #[.val (.ref a1), .val (.ref a2), .unset, .unset, .unset] [(.long q5), (.long q6)])) rfl (by rw [hml]; rfl) (lenOf own_pd__28JJ_29J rfl) rfl (W := 0) (by show 2 * 0 + _ ≤ _; exact Nat.le_of_eq rfl) (hb hby d24_19) (by decide) (by decide) (by decide) (by decide)
  obtain ⟨rfl, Nq243, eq243⟩ := hQ243
  have N243 := Fr.app N241 Nq243
  refine own_st st243 ?_
  show own_go _ _ _ _ _ _ _ (T243.setTop (mkF m 22 #[.val (.ref a1), .val (.ref a2), .unset, .unset, .unset] [(.long (own_min q6 q5))]))
  rw [(own_min_lt hr)]
  show own_go _ _ _ _ _ _ _ (T243.setTop (mkF m 22 #[.val (.ref a1), .val (.ref a2), .unset, .unset, .unset] [(.long q6)]))
  refine own_st (fun _ k => XS.lstoreN X243.here hx rfl (hb hby d24_22) rfl (l' := #[.val (.ref a1), .val (.ref a2), .val (.long q6), .second, .unset]) rfl k) ?_
  show own_go _ _ _ _ _ _ _ (T243.setTop (mkF m 23 #[.val (.ref a1), .val (.ref a2), .val (.long q6), .second, .unset] []))
  obtain ⟨v244, T244, L244, X244, hQ244, st244⟩ := own_callS X243 hx hZ (argsL := []) (rest := []) (rmo_empty l Z a0 hw c_EMPTY_ELEMENTDATA c_DEFAULTCAPACITY_EMPTY_ELEMENTDATA c_cache c_EMPTY h0 n0 O0 hS) hown (hw _ (List.mem_of_getElem? (i := 121) rfl)) (hw _ (List.mem_of_getElem? (i := 122) rfl)) (hw _ (List.mem_of_getElem? (i := 123) rfl)) (hw _ (List.mem_of_getElem? (i := 124) rfl)) (by decide) eq243 (g := (mkF m 23 #[.val (.ref a1), .val (.ref a2), .val (.long q6), .second, .unset] [])) rfl (by rw [hml]; rfl) (lenOf own_pd__28_29Ljava_2futil_2fOptional_3b rfl) rfl (W := 0) (by show 2 * 0 + _ ≤ _; exact Nat.le_of_eq rfl) (hb hby d24_23) (by decide) (by decide) (by decide) (by decide)
  obtain ⟨rfl, Nq244, eq244⟩ := hQ244
  have N244 := Fr.app N243 Nq244
  refine own_st st244 ?_
  show own_go _ _ _ _ _ _ _ (T244.setTop (mkF m 26 #[.val (.ref a1), .val (.ref a2), .val (.long q6), .second, .unset] [(.ref c_EMPTY)]))
  refine own_st (fun _ k => XS.astore X244.here hx rfl (hb hby d24_26) rfl rfl (l' := #[.val (.ref a1), .val (.ref a2), .val (.long q6), .second, .val (.ref c_EMPTY)]) rfl k) ?_
  show own_go _ _ _ _ _ _ _ (T244.setTop (mkF m 28 #[.val (.ref a1), .val (.ref a2), .val (.long q6), .second, .val (.ref c_EMPTY)] []))
  refine own_st (fun _ k => XS.lloadN X244.here hx rfl (hb hby d24_28) rfl k) ?_
  show own_go _ _ _ _ _ _ _ (T244.setTop (mkF m 29 #[.val (.ref a1), .val (.ref a2), .val (.long q6), .second, .val (.ref c_EMPTY)] [(.long q6)]))
  refine own_st (fun _ k => XS.aloadN X244.here hx rfl (hb hby d24_29) rfl rfl k) ?_
  show own_go _ _ _ _ _ _ _ (T244.setTop (mkF m 30 #[.val (.ref a1), .val (.ref a2), .val (.long q6), .second, .val (.ref c_EMPTY)] [(.ref a1), (.long q6)]))
  obtain ⟨T245, X245, e245, st245⟩ := getF X244 hx hZ hown (host := "") (Or.inl (hw _ (List.mem_of_getElem? (i := 179) rfl))) Via.refl eq244 F_a1_learntTo (g := (mkF m 30 #[.val (.ref a1), .val (.ref a2), .val (.long q6), .second, .val (.ref c_EMPTY)] [(.ref a1), (.long q6)])) rfl rfl (hb hby d24_30)
  refine own_st st245 ?_
  show own_go _ _ _ _ _ _ _ (T245.setTop (mkF m 33 #[.val (.ref a1), .val (.ref a2), .val (.long q6), .second, .val (.ref c_EMPTY)] [(.long q2), (.long q6)]))
  refine own_st (fun _ k => XS.lcmp X245.here hx rfl (hb hby d24_33) rfl k) ?_
  show own_go _ _ _ _ _ _ _ (T245.setTop (mkF m 34 #[.val (.ref a1), .val (.ref a2), .val (.long q6), .second, .val (.ref c_EMPTY)] [(.int (lcmpW q6 q2))]))
  refine own_st (fun _ k => XS.ifNo X245.here hx rfl (hb hby d24_34) rfl (XT.ll_le_f hq) k) ?_
  show own_go _ _ _ _ _ _ _ (T245.setTop (mkF m 37 #[.val (.ref a1), .val (.ref a2), .val (.long q6), .second, .val (.ref c_EMPTY)] []))
  obtain ⟨T246, h246, X246, e246, E246, A246, D246, -, st246⟩ := newO X245 hx hZ hown (hw _ (List.mem_of_getElem? (i := 200) rfl)) (hw _ (List.mem_of_getElem? (i := 88) rfl)) (hw _ (List.mem_of_getElem? (i := 89) rfl)) e245 (g := (mkF m 37 #[.val (.ref a1), .val (.ref a2), .val (.long q6), .second, .val (.ref c_EMPTY)] [])) rfl (hb hby d24_37) (by decide) (by decide)
  obtain ⟨b246, g246⟩ : ∃ z, z = h0.size := ⟨_, rfl⟩
  rw [← g246] at A246 D246 st246
  have ge_b246 : n0 ≤ b246 := by rw [g246]; exact own_osz O0
  have sz_b246 : h0.size ≤ b246 := by rw [g246]; exact K0.1
  have ne_a1_b246 : a1 ≠ b246 := (fun q => absurd E_a1.lt (by rw [q, g246]; exact Nat.lt_irrefl _))
  have ne_a2_b246 : a2 ≠ b246 := (fun q => absurd E_a2.lt (by rw [q, g246]; exact Nat.lt_irrefl _))
  have O246 := O0.ext E246
  have K246 := K0.ext E246
  refine own_st st246 ?_
  show own_go _ _ _ _ _ _ _ (T246.setTop (mkF m 40 #[.val (.ref a1), .val (.ref a2), .val (.long q6), .second, .val (.ref c_EMPTY)] [(.ref b246)]))
  refine own_st (fun _ k => XS.dup X246.here hx rfl (hb hby d24_40) rfl rfl k) ?_
  show own_go _ _ _ _ _ _ _ (T246.setTop (mkF m 41 #[.val (.ref a1), .val (.ref a2), .val (.long q6), .second, .val (.ref c_EMPTY)] [(.ref b246), (.ref b246)]))
  refine own_st (fun _ k => XS.aloadN X246.here hx rfl (hb hby d24_41) rfl rfl k) ?_
  show own_go _ _ _ _ _ _ _ (T246.setTop (mkF m 42 #[.val (.ref a1), .val (.ref a2), .val (.long q6), .second, .val (.ref c_EMPTY)] [(.ref a1), (.ref b246), (.ref b246)]))
  have f247 := (F_a1_learntTo.ext E246)
  obtain ⟨T248, X248, e248, st248⟩ := getF X246 hx hZ hown (host := "") (Or.inl (hw _ (List.mem_of_getElem? (i := 179) rfl))) Via.refl e246 f247 (g := (mkF m 42 #[.val (.ref a1), .val (.ref a2), .val (.long q6), .second, .val (.ref c_EMPTY)] [(.ref a1), (.ref b246), (.ref b246)])) rfl rfl (hb hby d24_42)
  refine own_st st248 ?_
  show own_go _ _ _ _ _ _ _ (T248.setTop (mkF m 45 #[.val (.ref a1), .val (.ref a2), .val (.long q6), .second, .val (.ref c_EMPTY)] [(.long q2), (.ref b246), (.ref b246)]))
  refine own_st (fun _ k => XS.lloadN X248.here hx rfl (hb hby d24_45) rfl k) ?_
  show own_go _ _ _ _ _ _ _ (T248.setTop (mkF m 46 #[.val (.ref a1), .val (.ref a2), .val (.long q6), .second, .val (.ref c_EMPTY)] [(.long q6), (.long q2), (.ref b246), (.ref b246)]))
  obtain ⟨v249, T249, L249, X249, hQ249, st249⟩ := own_callN X248 hx hZ (argsL := [(.long q2), (.long q6)]) (rest := [(.ref b246)]) (rm_rinit l Z a0 hw b246 q2 q6 h246 n0 O246 ge_b246 A246 (D246 (Or.inr (hw _ (List.mem_of_getElem? (i := 100) rfl))) (ty := .long) (by decide)) (D246 (Or.inr (hw _ (List.mem_of_getElem? (i := 102) rfl))) (ty := .long) (by decide))) rfl hown (hw _ (List.mem_of_getElem? (i := 201) rfl)) (hw _ (List.mem_of_getElem? (i := 91) rfl)) (hw _ (List.mem_of_getElem? (i := 89) rfl)) (hw _ (List.mem_of_getElem? (i := 92) rfl)) (by decide) e248 (g := (mkF m 46 #[.val (.ref a1), .val (.ref a2), .val (.long q6), .second, .val (.ref c_EMPTY)] [(.long q6), (.long q2), (.ref b246), (.ref b246)])) rfl (by rw [hml]; rfl) (lenOf own_pd__28JJ_29V rfl) rfl (W := 1) (by show 2 * 0 + _ ≤ _; exact Nat.le_of_eq rfl) (hb hby d24_46) (by decide) (by decide) (by decide) (by decide)
  obtain ⟨rfl, Nq249, Kq249, F249_0, F249_1⟩ := hQ249
  have N249 := Fr.app N244 Nq249
  have O249 := O246.keep Kq249 (allS ge_b246 all0)
  have K249 := K246.trans Kq249 (allS (Or.inr sz_b246) all0)
  refine own_st st249 ?_
  show own_go _ _ _ _ _ _ _ (T249.setTop (mkF m 49 #[.val (.ref a1), .val (.ref a2), .val (.long q6), .second, .val (.ref c_EMPTY)] [(.ref b246)]))
  obtain ⟨v250, T250, L250, X250, hQ250, st250⟩ := own_callS X249 hx hZ (argsL := [(.ref b246)]) (rest := []) (rmo_of l Z a0 hw b246 T249.heap n0 O249) hown (hw _ (List.mem_of_getElem? (i := 202) rfl)) (hw _ (List.mem_of_getElem? (i := 203) rfl)) (hw _ (List.mem_of_getElem? (i := 123) rfl)) (hw _ (List.mem_of_getElem? (i := 204) rfl)) (by decide) rfl (g := (mkF m 49 #[.val (.ref a1), .val (.ref a2), .val (.long q6), .second, .val (.ref c_EMPTY)] [(.ref b246)])) rfl (by rw [hml]; rfl) (lenOf own_pd__28Ljava_2flang_2fObject_3b_29Ljava_2futil_2fOptional_3b rfl) rfl (W := 0) (by show 2 * 0 + _ ≤ _; exact Nat.le_of_eq rfl) (hb hby d24_49) (by decide) (by decide) (by decide) (by decide)
  obtain ⟨r250, rfl, Nq250, Kq250, sz250, A250, F250_0⟩ := hQ250
  have N250 := Fr.app N249 Nq250
  have f251 := ((E_a1.ext E246).keep Kq249)
  have ne_a1_r250 : a1 ≠ r250 := (Nat.ne_of_lt (Nat.lt_of_lt_of_le f251.lt sz250))
  have f252 := ((E_a2.ext E246).keep Kq249)
  have ne_a2_r250 : a2 ≠ r250 := (Nat.ne_of_lt (Nat.lt_of_lt_of_le f252.lt sz250))
  have f253 := (A246.keep Kq249)
  have ne_b246_r250 : b246 ≠ r250 := (Nat.ne_of_lt (Nat.lt_of_lt_of_le f253.lt sz250))
  have O250 := O249.keep Kq250 all0
  have K250 := K249.trans Kq250 all0
  refine own_st st250 ?_
  show own_go _ _ _ _ _ _ _ (T250.setTop (mkF m 52 #[.val (.ref a1), .val (.ref a2), .val (.long q6), .second, .val (.ref c_EMPTY)] [(.ref r250)]))
  refine own_st (fun _ k => XS.astore X250.here hx rfl (hb hby d24_52) rfl rfl (l' := #[.val (.ref a1), .val (.ref a2), .val (.long q6), .second, .val (.ref r250)]) rfl k) ?_
  show own_go _ _ _ _ _ _ _ (T250.setTop (mkF m 54 #[.val (.ref a1), .val (.ref a2), .val (.long q6), .second, .val (.ref r250)] []))
  refine own_st (fun _ k => XS.aload X250.here hx rfl (hb hby d24_54) rfl rfl k) ?_
  show own_go _ _ _ _ _ _ _ (T250.setTop (mkF m 56 #[.val (.ref a1), .val (.ref a2), .val (.long q6), .second, .val (.ref r250)] [(.ref r250)]))
  have f254 := (f253.keep Kq250)
  have f255 := (F249_0.keep Kq250 nin0)
  have f256 := (F249_1.keep Kq250 nin0)
  exact own_retA X250 hx hlk hret rfl rfl (hb hby d24_56) (by decide) (by decide) (⟨_, _, rfl, N250, K250, A250, F250_0, f254, f255, f256⟩)
theorem own_ef_rm_un_l_0 (m : MethodId) (a1 : Addr) (a2 : Addr) : entryFrame m #[(.ref a1), (.ref a2)] 5 = mkF m 0 #[.val (.ref a1), .val (.ref a2), .unset, .unset, .unset] [] := by first | (simp [entryFrame, mkF, argsToLocals, Value.category]; done) | rfl
set_option maxRecDepth 65536 in
set_option maxHeartbeats 40000000 in
theorem rm_un_l_0 (l : Launch) (Z : State) (a0 : Array Value) (hw : ∀ d ∈ tables_1, d.before a0 Z = true) (a1 a2 : Addr) (q2 q5 q6 : Int64) (c_EMPTY_ELEMENTDATA : Addr) (c_DEFAULTCAPACITY_EMPTY_ELEMENTDATA : Addr) (c_cache : Addr) (c_EMPTY : Addr) (h0 : Heap) (n0 : Nat) (O0 : Old Z n0 h0) (hS : own_S Z c_EMPTY_ELEMENTDATA c_DEFAULTCAPACITY_EMPTY_ELEMENTDATA c_cache c_EMPTY) (hr : q6 < q5) (hq : ¬ q2 < q6) (E_a1 : Exa Z h0 a1 "com/example/usher/usher/OutboxRuns") (F_a1_learntTo : Fld Z h0 a1 "com/example/usher/usher/OutboxRuns" "learntTo" "J" (.long q2)) (F_a1_settled : Fld Z h0 a1 "com/example/usher/usher/OutboxRuns" "settled" "J" (.long q5)) (E_a2 : Exa Z h0 a2 "java/lang/Long") (F_a2_value : Fld Z h0 a2 "java/lang/Long" "value" "J" (.long q6)) :
    own_Met l Z (⟨"com/example/usher/usher/OutboxRuns", "unread", "(Ljava/lang/Long;)Ljava/util/Optional;"⟩ : MethodName) prog_12_method_7_code 5 (some (.object "java/util/Optional")) [] ({ frames := 3, cells := 2, slots := 3, locals := 56 } : Room) #[(.ref a1), (.ref a2)] h0 (fun v h L => v = some (.ref c_EMPTY) ∧ Fr n0 L ∧ Keep h0 h []) := by
  refine own_body own_pn_24 ?_
  intro p e s m below meth c s₁ hx hby hml hown hnm hret hlk X0 hZ e0
  replace hown : s.vm.findClass "com/example/usher/usher/OutboxRuns" = some m.cls := hown
  have N0 := Fr.nil n0
  have K0 := Keep.refl h0 []
  refine own_st (fun _ k => castTop (own_ef_rm_un_l_0 m a1 a2) k) ?_
  show own_go _ _ _ _ _ _ _ (s₁.setTop (mkF m 0 #[.val (.ref a1), .val (.ref a2), .unset, .unset, .unset] []))
  refine own_st (fun _ k => XS.aloadN X0.here hx rfl (hb hby d24_0) rfl rfl k) ?_
  show own_go _ _ _ _ _ _ _ (s₁.setTop (mkF m 1 #[.val (.ref a1), .val (.ref a2), .unset, .unset, .unset] [(.ref a2)]))
  refine own_st (fun _ k => XS.ifnonnullYes X0.here hx rfl (pc0 := 1) (pc' := 11) rfl (hb hby d24_1) rfl (by decide) (by decide) k) ?_
  show own_go _ _ _ _ _ _ _ (s₁.setTop (mkF m 11 #[.val (.ref a1), .val (.ref a2), .unset, .unset, .unset] []))
  refine own_st (fun _ k => XS.aloadN X0.here hx rfl (hb hby d24_11) rfl rfl k) ?_
  show own_go _ _ _ _ _ _ _ (s₁.setTop (mkF m 12 #[.val (.ref a1), .val (.ref a2), .unset, .unset, .unset] [(.ref a2)]))
  obtain ⟨v257, T257, L257, X257, hQ257, st257⟩ := own_callV X0 hx hZ (argsL := []) (rest := []) (rm_lv l Z a0 hw a2 q6 h0 n0 O0 F_a2_value) hown (hw _ (List.mem_of_getElem? (i := 57) rfl)) (hw _ (List.mem_of_getElem? (i := 58) rfl)) (notFace_of_selects (args := #[]) (mvT hZ (hw _ (List.mem_of_getElem? (i := 60) rfl)))) (hw _ (List.mem_of_getElem? (i := 60) rfl)) (hw _ (List.mem_of_getElem? (i := 59) rfl)) (hw _ (List.mem_of_getElem? (i := 46) rfl)) (hw _ (List.mem_of_getElem? (i := 61) rfl)) (by decide) e0 E_a2 (g := (mkF m 12 #[.val (.ref a1), .val (.ref a2), .unset, .unset, .unset] [(.ref a2)])) rfl (by rw [hml]; rfl) (lenOf own_pd__28_29J rfl) rfl (W := 0) (by show 2 * 0 + _ ≤ _; exact Nat.le_of_eq rfl) (hb hby d24_12) (by decide) (by decide) (by decide) (by decide)
  obtain ⟨rfl, Nq257, eq257⟩ := hQ257
  have N257 := Fr.app N0 Nq257
  refine own_st st257 ?_
  show own_go _ _ _ _ _ _ _ (T257.setTop (mkF m 15 #[.val (.ref a1), .val (.ref a2), .unset, .unset, .unset] [(.long q6)]))
  refine own_st (fun _ k => XS.aloadN X257.here hx rfl (hb hby d24_15) rfl rfl k) ?_
  show own_go _ _ _ _ _ _ _ (T257.setTop (mkF m 16 #[.val (.ref a1), .val (.ref a2), .unset, .unset, .unset] [(.ref a1), (.long q6)]))
  obtain ⟨T258, X258, e258, st258⟩ := getF X257 hx hZ hown (host := "") (Or.inl (hw _ (List.mem_of_getElem? (i := 69) rfl))) Via.refl eq257 F_a1_settled (g := (mkF m 16 #[.val (.ref a1), .val (.ref a2), .unset, .unset, .unset] [(.ref a1), (.long q6)])) rfl rfl (hb hby d24_16)
  refine own_st st258 ?_
  show own_go _ _ _ _ _ _ _ (T258.setTop (mkF m 19 #[.val (.ref a1), .val (.ref a2), .unset, .unset, .unset] [(.long q5), (.long q6)]))
  obtain ⟨v259, T259, L259, X259, hQ259, st259⟩ := own_callS X258 hx hZ (argsL := [(.long q6), (.long q5)]) (rest := []) (rm_min l Z a0 hw q6 q5 h0 n0 O0) hown (hw _ (List.mem_of_getElem? (i := 64) rfl)) (hw _ (List.mem_of_getElem? (i := 65) rfl)) (hw _ (List.mem_of_getElem? (i := 66) rfl)) (hw _ (List.mem_of_getElem? (i := 67) rfl)) (by decide) e258 (g := (mkF m 19 #[.val (.ref a1), .val (.ref a2), .unset, .unset, .unset] [(.long q5), (.long q6)])) rfl (by rw [hml]; rfl) (lenOf own_pd__28JJ_29J rfl) rfl (W := 0) (by show 2 * 0 + _ ≤ _; exact Nat.le_of_eq rfl) (hb hby d24_19) (by decide) (by decide) (by decide) (by decide)
  obtain ⟨rfl, Nq259, eq259⟩ := hQ259
  have N259 := Fr.app N257 Nq259
  refine own_st st259 ?_
  show own_go _ _ _ _ _ _ _ (T259.setTop (mkF m 22 #[.val (.ref a1), .val (.ref a2), .unset, .unset, .unset] [(.long (own_min q6 q5))]))
  rw [(own_min_lt hr)]
  show own_go _ _ _ _ _ _ _ (T259.setTop (mkF m 22 #[.val (.ref a1), .val (.ref a2), .unset, .unset, .unset] [(.long q6)]))
  refine own_st (fun _ k => XS.lstoreN X259.here hx rfl (hb hby d24_22) rfl (l' := #[.val (.ref a1), .val (.ref a2), .val (.long q6), .second, .unset]) rfl k) ?_
  show own_go _ _ _ _ _ _ _ (T259.setTop (mkF m 23 #[.val (.ref a1), .val (.ref a2), .val (.long q6), .second, .unset] []))
  obtain ⟨v260, T260, L260, X260, hQ260, st260⟩ := own_callS X259 hx hZ (argsL := []) (rest := []) (rmo_empty l Z a0 hw c_EMPTY_ELEMENTDATA c_DEFAULTCAPACITY_EMPTY_ELEMENTDATA c_cache c_EMPTY h0 n0 O0 hS) hown (hw _ (List.mem_of_getElem? (i := 121) rfl)) (hw _ (List.mem_of_getElem? (i := 122) rfl)) (hw _ (List.mem_of_getElem? (i := 123) rfl)) (hw _ (List.mem_of_getElem? (i := 124) rfl)) (by decide) eq259 (g := (mkF m 23 #[.val (.ref a1), .val (.ref a2), .val (.long q6), .second, .unset] [])) rfl (by rw [hml]; rfl) (lenOf own_pd__28_29Ljava_2futil_2fOptional_3b rfl) rfl (W := 0) (by show 2 * 0 + _ ≤ _; exact Nat.le_of_eq rfl) (hb hby d24_23) (by decide) (by decide) (by decide) (by decide)
  obtain ⟨rfl, Nq260, eq260⟩ := hQ260
  have N260 := Fr.app N259 Nq260
  refine own_st st260 ?_
  show own_go _ _ _ _ _ _ _ (T260.setTop (mkF m 26 #[.val (.ref a1), .val (.ref a2), .val (.long q6), .second, .unset] [(.ref c_EMPTY)]))
  refine own_st (fun _ k => XS.astore X260.here hx rfl (hb hby d24_26) rfl rfl (l' := #[.val (.ref a1), .val (.ref a2), .val (.long q6), .second, .val (.ref c_EMPTY)]) rfl k) ?_
  show own_go _ _ _ _ _ _ _ (T260.setTop (mkF m 28 #[.val (.ref a1), .val (.ref a2), .val (.long q6), .second, .val (.ref c_EMPTY)] []))
  refine own_st (fun _ k => XS.lloadN X260.here hx rfl (hb hby d24_28) rfl k) ?_
  show own_go _ _ _ _ _ _ _ (T260.setTop (mkF m 29 #[.val (.ref a1), .val (.ref a2), .val (.long q6), .second, .val (.ref c_EMPTY)] [(.long q6)]))
  refine own_st (fun _ k => XS.aloadN X260.here hx rfl (hb hby d24_29) rfl rfl k) ?_
  show own_go _ _ _ _ _ _ _ (T260.setTop (mkF m 30 #[.val (.ref a1), .val (.ref a2), .val (.long q6), .second, .val (.ref c_EMPTY)] [(.ref a1), (.long q6)]))
  obtain ⟨T261, X261, e261, st261⟩ := getF X260 hx hZ hown (host := "") (Or.inl (hw _ (List.mem_of_getElem? (i := 179) rfl))) Via.refl eq260 F_a1_learntTo (g := (mkF m 30 #[.val (.ref a1), .val (.ref a2), .val (.long q6), .second, .val (.ref c_EMPTY)] [(.ref a1), (.long q6)])) rfl rfl (hb hby d24_30)
  refine own_st st261 ?_
  show own_go _ _ _ _ _ _ _ (T261.setTop (mkF m 33 #[.val (.ref a1), .val (.ref a2), .val (.long q6), .second, .val (.ref c_EMPTY)] [(.long q2), (.long q6)]))
  refine own_st (fun _ k => XS.lcmp X261.here hx rfl (hb hby d24_33) rfl k) ?_
  show own_go _ _ _ _ _ _ _ (T261.setTop (mkF m 34 #[.val (.ref a1), .val (.ref a2), .val (.long q6), .second, .val (.ref c_EMPTY)] [(.int (lcmpW q6 q2))]))
  refine own_st (fun _ k => XS.ifYes X261.here hx rfl (pc0 := 34) (pc' := 54) rfl (hb hby d24_34) rfl (XT.ll_le_t hq) (by decide) (by decide) k) ?_
  show own_go _ _ _ _ _ _ _ (T261.setTop (mkF m 54 #[.val (.ref a1), .val (.ref a2), .val (.long q6), .second, .val (.ref c_EMPTY)] []))
  refine own_st (fun _ k => XS.aload X261.here hx rfl (hb hby d24_54) rfl rfl k) ?_
  show own_go _ _ _ _ _ _ _ (T261.setTop (mkF m 56 #[.val (.ref a1), .val (.ref a2), .val (.long q6), .second, .val (.ref c_EMPTY)] [(.ref c_EMPTY)]))
  exact own_retA X261 hx hlk hret rfl rfl (hb hby d24_56) (by decide) (by decide) (by rw [e261]; exact ⟨rfl, N260, K0⟩)
theorem own_ef_rm_un_g_1 (m : MethodId) (a1 : Addr) (a2 : Addr) : entryFrame m #[(.ref a1), (.ref a2)] 5 = mkF m 0 #[.val (.ref a1), .val (.ref a2), .unset, .unset, .unset] [] := by first | (simp [entryFrame, mkF, argsToLocals, Value.category]; done) | rfl
set_option maxRecDepth 65536 in
set_option maxHeartbeats 40000000 in
theorem rm_un_g_1 (l : Launch) (Z : State) (a0 : Array Value) (hw : ∀ d ∈ tables_1, d.before a0 Z = true) (a1 a2 : Addr) (q2 q5 q6 : Int64) (c_EMPTY_ELEMENTDATA : Addr) (c_DEFAULTCAPACITY_EMPTY_ELEMENTDATA : Addr) (c_cache : Addr) (c_EMPTY : Addr) (h0 : Heap) (n0 : Nat) (O0 : Old Z n0 h0) (hS : own_S Z c_EMPTY_ELEMENTDATA c_DEFAULTCAPACITY_EMPTY_ELEMENTDATA c_cache c_EMPTY) (hr : ¬ q6 < q5) (hq : q2 < q5) (E_a1 : Exa Z h0 a1 "com/example/usher/usher/OutboxRuns") (F_a1_learntTo : Fld Z h0 a1 "com/example/usher/usher/OutboxRuns" "learntTo" "J" (.long q2)) (F_a1_settled : Fld Z h0 a1 "com/example/usher/usher/OutboxRuns" "settled" "J" (.long q5)) (E_a2 : Exa Z h0 a2 "java/lang/Long") (F_a2_value : Fld Z h0 a2 "java/lang/Long" "value" "J" (.long q6)) :
    own_Met l Z (⟨"com/example/usher/usher/OutboxRuns", "unread", "(Ljava/lang/Long;)Ljava/util/Optional;"⟩ : MethodName) prog_12_method_7_code 5 (some (.object "java/util/Optional")) [] ({ frames := 3, cells := 2, slots := 3, locals := 56 } : Room) #[(.ref a1), (.ref a2)] h0 (fun v h L => ∃ a b, v = some (.ref a) ∧ Fr n0 L ∧ Keep h0 h [] ∧ Exa Z h a "java/util/Optional" ∧ Fld Z h a "java/util/Optional" "value" "Ljava/lang/Object;" (.ref b) ∧ Exa Z h b "com/example/usher/usher/OutboxRuns$Range" ∧ Fld Z h b "com/example/usher/usher/OutboxRuns$Range" "from" "J" (.long q2) ∧ Fld Z h b "com/example/usher/usher/OutboxRuns$Range" "to" "J" (.long q5)) := by
  refine own_body own_pn_24 ?_
  intro p e s m below meth c s₁ hx hby hml hown hnm hret hlk X0 hZ e0
  replace hown : s.vm.findClass "com/example/usher/usher/OutboxRuns" = some m.cls := hown
  have N0 := Fr.nil n0
  have K0 := Keep.refl h0 []
  refine own_st (fun _ k => castTop (own_ef_rm_un_g_1 m a1 a2) k) ?_
  show own_go _ _ _ _ _ _ _ (s₁.setTop (mkF m 0 #[.val (.ref a1), .val (.ref a2), .unset, .unset, .unset] []))
  refine own_st (fun _ k => XS.aloadN X0.here hx rfl (hb hby d24_0) rfl rfl k) ?_
  show own_go _ _ _ _ _ _ _ (s₁.setTop (mkF m 1 #[.val (.ref a1), .val (.ref a2), .unset, .unset, .unset] [(.ref a2)]))
  refine own_st (fun _ k => XS.ifnonnullYes X0.here hx rfl (pc0 := 1) (pc' := 11) rfl (hb hby d24_1) rfl (by decide) (by decide) k) ?_
  show own_go _ _ _ _ _ _ _ (s₁.setTop (mkF m 11 #[.val (.ref a1), .val (.ref a2), .unset, .unset, .unset] []))
  refine own_st (fun _ k => XS.aloadN X0.here hx rfl (hb hby d24_11) rfl rfl k) ?_
  show own_go _ _ _ _ _ _ _ (s₁.setTop (mkF m 12 #[.val (.ref a1), .val (.ref a2), .unset, .unset, .unset] [(.ref a2)]))
  obtain ⟨v262, T262, L262, X262, hQ262, st262⟩ := own_callV X0 hx hZ (argsL := []) (rest := []) (rm_lv l Z a0 hw a2 q6 h0 n0 O0 F_a2_value) hown (hw _ (List.mem_of_getElem? (i := 57) rfl)) (hw _ (List.mem_of_getElem? (i := 58) rfl)) (notFace_of_selects (args := #[]) (mvT hZ (hw _ (List.mem_of_getElem? (i := 60) rfl)))) (hw _ (List.mem_of_getElem? (i := 60) rfl)) (hw _ (List.mem_of_getElem? (i := 59) rfl)) (hw _ (List.mem_of_getElem? (i := 46) rfl)) (hw _ (List.mem_of_getElem? (i := 61) rfl)) (by decide) e0 E_a2 (g := (mkF m 12 #[.val (.ref a1), .val (.ref a2), .unset, .unset, .unset] [(.ref a2)])) rfl (by rw [hml]; rfl) (lenOf own_pd__28_29J rfl) rfl (W := 0) (by show 2 * 0 + _ ≤ _; exact Nat.le_of_eq rfl) (hb hby d24_12) (by decide) (by decide) (by decide) (by decide)
  obtain ⟨rfl, Nq262, eq262⟩ := hQ262
  have N262 := Fr.app N0 Nq262
  refine own_st st262 ?_
  show own_go _ _ _ _ _ _ _ (T262.setTop (mkF m 15 #[.val (.ref a1), .val (.ref a2), .unset, .unset, .unset] [(.long q6)]))
  refine own_st (fun _ k => XS.aloadN X262.here hx rfl (hb hby d24_15) rfl rfl k) ?_
  show own_go _ _ _ _ _ _ _ (T262.setTop (mkF m 16 #[.val (.ref a1), .val (.ref a2), .unset, .unset, .unset] [(.ref a1), (.long q6)]))
  obtain ⟨T263, X263, e263, st263⟩ := getF X262 hx hZ hown (host := "") (Or.inl (hw _ (List.mem_of_getElem? (i := 69) rfl))) Via.refl eq262 F_a1_settled (g := (mkF m 16 #[.val (.ref a1), .val (.ref a2), .unset, .unset, .unset] [(.ref a1), (.long q6)])) rfl rfl (hb hby d24_16)
  refine own_st st263 ?_
  show own_go _ _ _ _ _ _ _ (T263.setTop (mkF m 19 #[.val (.ref a1), .val (.ref a2), .unset, .unset, .unset] [(.long q5), (.long q6)]))
  obtain ⟨v264, T264, L264, X264, hQ264, st264⟩ := own_callS X263 hx hZ (argsL := [(.long q6), (.long q5)]) (rest := []) (rm_min l Z a0 hw q6 q5 h0 n0 O0) hown (hw _ (List.mem_of_getElem? (i := 64) rfl)) (hw _ (List.mem_of_getElem? (i := 65) rfl)) (hw _ (List.mem_of_getElem? (i := 66) rfl)) (hw _ (List.mem_of_getElem? (i := 67) rfl)) (by decide) e263 (g := (mkF m 19 #[.val (.ref a1), .val (.ref a2), .unset, .unset, .unset] [(.long q5), (.long q6)])) rfl (by rw [hml]; rfl) (lenOf own_pd__28JJ_29J rfl) rfl (W := 0) (by show 2 * 0 + _ ≤ _; exact Nat.le_of_eq rfl) (hb hby d24_19) (by decide) (by decide) (by decide) (by decide)
  obtain ⟨rfl, Nq264, eq264⟩ := hQ264
  have N264 := Fr.app N262 Nq264
  refine own_st st264 ?_
  show own_go _ _ _ _ _ _ _ (T264.setTop (mkF m 22 #[.val (.ref a1), .val (.ref a2), .unset, .unset, .unset] [(.long (own_min q6 q5))]))
  rw [(own_min_ge hr)]
  show own_go _ _ _ _ _ _ _ (T264.setTop (mkF m 22 #[.val (.ref a1), .val (.ref a2), .unset, .unset, .unset] [(.long q5)]))
  refine own_st (fun _ k => XS.lstoreN X264.here hx rfl (hb hby d24_22) rfl (l' := #[.val (.ref a1), .val (.ref a2), .val (.long q5), .second, .unset]) rfl k) ?_
  show own_go _ _ _ _ _ _ _ (T264.setTop (mkF m 23 #[.val (.ref a1), .val (.ref a2), .val (.long q5), .second, .unset] []))
  obtain ⟨v265, T265, L265, X265, hQ265, st265⟩ := own_callS X264 hx hZ (argsL := []) (rest := []) (rmo_empty l Z a0 hw c_EMPTY_ELEMENTDATA c_DEFAULTCAPACITY_EMPTY_ELEMENTDATA c_cache c_EMPTY h0 n0 O0 hS) hown (hw _ (List.mem_of_getElem? (i := 121) rfl)) (hw _ (List.mem_of_getElem? (i := 122) rfl)) (hw _ (List.mem_of_getElem? (i := 123) rfl)) (hw _ (List.mem_of_getElem? (i := 124) rfl)) (by decide) eq264 (g := (mkF m 23 #[.val (.ref a1), .val (.ref a2), .val (.long q5), .second, .unset] [])) rfl (by rw [hml]; rfl) (lenOf own_pd__28_29Ljava_2futil_2fOptional_3b rfl) rfl (W := 0) (by show 2 * 0 + _ ≤ _; exact Nat.le_of_eq rfl) (hb hby d24_23) (by decide) (by decide) (by decide) (by decide)
  obtain ⟨rfl, Nq265, eq265⟩ := hQ265
  have N265 := Fr.app N264 Nq265
  refine own_st st265 ?_
  show own_go _ _ _ _ _ _ _ (T265.setTop (mkF m 26 #[.val (.ref a1), .val (.ref a2), .val (.long q5), .second, .unset] [(.ref c_EMPTY)]))
  refine own_st (fun _ k => XS.astore X265.here hx rfl (hb hby d24_26) rfl rfl (l' := #[.val (.ref a1), .val (.ref a2), .val (.long q5), .second, .val (.ref c_EMPTY)]) rfl k) ?_
  show own_go _ _ _ _ _ _ _ (T265.setTop (mkF m 28 #[.val (.ref a1), .val (.ref a2), .val (.long q5), .second, .val (.ref c_EMPTY)] []))
  refine own_st (fun _ k => XS.lloadN X265.here hx rfl (hb hby d24_28) rfl k) ?_
  show own_go _ _ _ _ _ _ _ (T265.setTop (mkF m 29 #[.val (.ref a1), .val (.ref a2), .val (.long q5), .second, .val (.ref c_EMPTY)] [(.long q5)]))
  refine own_st (fun _ k => XS.aloadN X265.here hx rfl (hb hby d24_29) rfl rfl k) ?_
  show own_go _ _ _ _ _ _ _ (T265.setTop (mkF m 30 #[.val (.ref a1), .val (.ref a2), .val (.long q5), .second, .val (.ref c_EMPTY)] [(.ref a1), (.long q5)]))
  obtain ⟨T266, X266, e266, st266⟩ := getF X265 hx hZ hown (host := "") (Or.inl (hw _ (List.mem_of_getElem? (i := 179) rfl))) Via.refl eq265 F_a1_learntTo (g := (mkF m 30 #[.val (.ref a1), .val (.ref a2), .val (.long q5), .second, .val (.ref c_EMPTY)] [(.ref a1), (.long q5)])) rfl rfl (hb hby d24_30)
  refine own_st st266 ?_
  show own_go _ _ _ _ _ _ _ (T266.setTop (mkF m 33 #[.val (.ref a1), .val (.ref a2), .val (.long q5), .second, .val (.ref c_EMPTY)] [(.long q2), (.long q5)]))
  refine own_st (fun _ k => XS.lcmp X266.here hx rfl (hb hby d24_33) rfl k) ?_
  show own_go _ _ _ _ _ _ _ (T266.setTop (mkF m 34 #[.val (.ref a1), .val (.ref a2), .val (.long q5), .second, .val (.ref c_EMPTY)] [(.int (lcmpW q5 q2))]))
  refine own_st (fun _ k => XS.ifNo X266.here hx rfl (hb hby d24_34) rfl (XT.ll_le_f hq) k) ?_
  show own_go _ _ _ _ _ _ _ (T266.setTop (mkF m 37 #[.val (.ref a1), .val (.ref a2), .val (.long q5), .second, .val (.ref c_EMPTY)] []))
  obtain ⟨T267, h267, X267, e267, E267, A267, D267, -, st267⟩ := newO X266 hx hZ hown (hw _ (List.mem_of_getElem? (i := 200) rfl)) (hw _ (List.mem_of_getElem? (i := 88) rfl)) (hw _ (List.mem_of_getElem? (i := 89) rfl)) e266 (g := (mkF m 37 #[.val (.ref a1), .val (.ref a2), .val (.long q5), .second, .val (.ref c_EMPTY)] [])) rfl (hb hby d24_37) (by decide) (by decide)
  obtain ⟨b267, g267⟩ : ∃ z, z = h0.size := ⟨_, rfl⟩
  rw [← g267] at A267 D267 st267
  have ge_b267 : n0 ≤ b267 := by rw [g267]; exact own_osz O0
  have sz_b267 : h0.size ≤ b267 := by rw [g267]; exact K0.1
  have ne_a1_b267 : a1 ≠ b267 := (fun q => absurd E_a1.lt (by rw [q, g267]; exact Nat.lt_irrefl _))
  have ne_a2_b267 : a2 ≠ b267 := (fun q => absurd E_a2.lt (by rw [q, g267]; exact Nat.lt_irrefl _))
  have O267 := O0.ext E267
  have K267 := K0.ext E267
  refine own_st st267 ?_
  show own_go _ _ _ _ _ _ _ (T267.setTop (mkF m 40 #[.val (.ref a1), .val (.ref a2), .val (.long q5), .second, .val (.ref c_EMPTY)] [(.ref b267)]))
  refine own_st (fun _ k => XS.dup X267.here hx rfl (hb hby d24_40) rfl rfl k) ?_
  show own_go _ _ _ _ _ _ _ (T267.setTop (mkF m 41 #[.val (.ref a1), .val (.ref a2), .val (.long q5), .second, .val (.ref c_EMPTY)] [(.ref b267), (.ref b267)]))
  refine own_st (fun _ k => XS.aloadN X267.here hx rfl (hb hby d24_41) rfl rfl k) ?_
  show own_go _ _ _ _ _ _ _ (T267.setTop (mkF m 42 #[.val (.ref a1), .val (.ref a2), .val (.long q5), .second, .val (.ref c_EMPTY)] [(.ref a1), (.ref b267), (.ref b267)]))
  have f268 := (F_a1_learntTo.ext E267)
  obtain ⟨T269, X269, e269, st269⟩ := getF X267 hx hZ hown (host := "") (Or.inl (hw _ (List.mem_of_getElem? (i := 179) rfl))) Via.refl e267 f268 (g := (mkF m 42 #[.val (.ref a1), .val (.ref a2), .val (.long q5), .second, .val (.ref c_EMPTY)] [(.ref a1), (.ref b267), (.ref b267)])) rfl rfl (hb hby d24_42)
  refine own_st st269 ?_
  show own_go _ _ _ _ _ _ _ (T269.setTop (mkF m 45 #[.val (.ref a1), .val (.ref a2), .val (.long q5), .second, .val (.ref c_EMPTY)] [(.long q2), (.ref b267), (.ref b267)]))
  refine own_st (fun _ k => XS.lloadN X269.here hx rfl (hb hby d24_45) rfl k) ?_
  show own_go _ _ _ _ _ _ _ (T269.setTop (mkF m 46 #[.val (.ref a1), .val (.ref a2), .val (.long q5), .second, .val (.ref c_EMPTY)] [(.long q5), (.long q2), (.ref b267), (.ref b267)]))
  obtain ⟨v270, T270, L270, X270, hQ270, st270⟩ := own_callN X269 hx hZ (argsL := [(.long q2), (.long q5)]) (rest := [(.ref b267)]) (rm_rinit l Z a0 hw b267 q2 q5 h267 n0 O267 ge_b267 A267 (D267 (Or.inr (hw _ (List.mem_of_getElem? (i := 100) rfl))) (ty := .long) (by decide)) (D267 (Or.inr (hw _ (List.mem_of_getElem? (i := 102) rfl))) (ty := .long) (by decide))) rfl hown (hw _ (List.mem_of_getElem? (i := 201) rfl)) (hw _ (List.mem_of_getElem? (i := 91) rfl)) (hw _ (List.mem_of_getElem? (i := 89) rfl)) (hw _ (List.mem_of_getElem? (i := 92) rfl)) (by decide) e269 (g := (mkF m 46 #[.val (.ref a1), .val (.ref a2), .val (.long q5), .second, .val (.ref c_EMPTY)] [(.long q5), (.long q2), (.ref b267), (.ref b267)])) rfl (by rw [hml]; rfl) (lenOf own_pd__28JJ_29V rfl) rfl (W := 1) (by show 2 * 0 + _ ≤ _; exact Nat.le_of_eq rfl) (hb hby d24_46) (by decide) (by decide) (by decide) (by decide)
  obtain ⟨rfl, Nq270, Kq270, F270_0, F270_1⟩ := hQ270
  have N270 := Fr.app N265 Nq270
  have O270 := O267.keep Kq270 (allS ge_b267 all0)
  have K270 := K267.trans Kq270 (allS (Or.inr sz_b267) all0)
  refine own_st st270 ?_
  show own_go _ _ _ _ _ _ _ (T270.setTop (mkF m 49 #[.val (.ref a1), .val (.ref a2), .val (.long q5), .second, .val (.ref c_EMPTY)] [(.ref b267)]))
  obtain ⟨v271, T271, L271, X271, hQ271, st271⟩ := own_callS X270 hx hZ (argsL := [(.ref b267)]) (rest := []) (rmo_of l Z a0 hw b267 T270.heap n0 O270) hown (hw _ (List.mem_of_getElem? (i := 202) rfl)) (hw _ (List.mem_of_getElem? (i := 203) rfl)) (hw _ (List.mem_of_getElem? (i := 123) rfl)) (hw _ (List.mem_of_getElem? (i := 204) rfl)) (by decide) rfl (g := (mkF m 49 #[.val (.ref a1), .val (.ref a2), .val (.long q5), .second, .val (.ref c_EMPTY)] [(.ref b267)])) rfl (by rw [hml]; rfl) (lenOf own_pd__28Ljava_2flang_2fObject_3b_29Ljava_2futil_2fOptional_3b rfl) rfl (W := 0) (by show 2 * 0 + _ ≤ _; exact Nat.le_of_eq rfl) (hb hby d24_49) (by decide) (by decide) (by decide) (by decide)
  obtain ⟨r271, rfl, Nq271, Kq271, sz271, A271, F271_0⟩ := hQ271
  have N271 := Fr.app N270 Nq271
  have f272 := ((E_a1.ext E267).keep Kq270)
  have ne_a1_r271 : a1 ≠ r271 := (Nat.ne_of_lt (Nat.lt_of_lt_of_le f272.lt sz271))
  have f273 := ((E_a2.ext E267).keep Kq270)
  have ne_a2_r271 : a2 ≠ r271 := (Nat.ne_of_lt (Nat.lt_of_lt_of_le f273.lt sz271))
  have f274 := (A267.keep Kq270)
  have ne_b267_r271 : b267 ≠ r271 := (Nat.ne_of_lt (Nat.lt_of_lt_of_le f274.lt sz271))
  have O271 := O270.keep Kq271 all0
  have K271 := K270.trans Kq271 all0
  refine own_st st271 ?_
  show own_go _ _ _ _ _ _ _ (T271.setTop (mkF m 52 #[.val (.ref a1), .val (.ref a2), .val (.long q5), .second, .val (.ref c_EMPTY)] [(.ref r271)]))
  refine own_st (fun _ k => XS.astore X271.here hx rfl (hb hby d24_52) rfl rfl (l' := #[.val (.ref a1), .val (.ref a2), .val (.long q5), .second, .val (.ref r271)]) rfl k) ?_
  show own_go _ _ _ _ _ _ _ (T271.setTop (mkF m 54 #[.val (.ref a1), .val (.ref a2), .val (.long q5), .second, .val (.ref r271)] []))
  refine own_st (fun _ k => XS.aload X271.here hx rfl (hb hby d24_54) rfl rfl k) ?_
  show own_go _ _ _ _ _ _ _ (T271.setTop (mkF m 56 #[.val (.ref a1), .val (.ref a2), .val (.long q5), .second, .val (.ref r271)] [(.ref r271)]))
  have f275 := (f274.keep Kq271)
  have f276 := (F270_0.keep Kq271 nin0)
  have f277 := (F270_1.keep Kq271 nin0)
  exact own_retA X271 hx hlk hret rfl rfl (hb hby d24_56) (by decide) (by decide) (⟨_, _, rfl, N271, K271, A271, F271_0, f275, f276, f277⟩)
theorem own_ef_rm_un_g_0 (m : MethodId) (a1 : Addr) (a2 : Addr) : entryFrame m #[(.ref a1), (.ref a2)] 5 = mkF m 0 #[.val (.ref a1), .val (.ref a2), .unset, .unset, .unset] [] := by first | (simp [entryFrame, mkF, argsToLocals, Value.category]; done) | rfl
set_option maxRecDepth 65536 in
set_option maxHeartbeats 40000000 in
theorem rm_un_g_0 (l : Launch) (Z : State) (a0 : Array Value) (hw : ∀ d ∈ tables_1, d.before a0 Z = true) (a1 a2 : Addr) (q2 q5 q6 : Int64) (c_EMPTY_ELEMENTDATA : Addr) (c_DEFAULTCAPACITY_EMPTY_ELEMENTDATA : Addr) (c_cache : Addr) (c_EMPTY : Addr) (h0 : Heap) (n0 : Nat) (O0 : Old Z n0 h0) (hS : own_S Z c_EMPTY_ELEMENTDATA c_DEFAULTCAPACITY_EMPTY_ELEMENTDATA c_cache c_EMPTY) (hr : ¬ q6 < q5) (hq : ¬ q2 < q5) (E_a1 : Exa Z h0 a1 "com/example/usher/usher/OutboxRuns") (F_a1_learntTo : Fld Z h0 a1 "com/example/usher/usher/OutboxRuns" "learntTo" "J" (.long q2)) (F_a1_settled : Fld Z h0 a1 "com/example/usher/usher/OutboxRuns" "settled" "J" (.long q5)) (E_a2 : Exa Z h0 a2 "java/lang/Long") (F_a2_value : Fld Z h0 a2 "java/lang/Long" "value" "J" (.long q6)) :
    own_Met l Z (⟨"com/example/usher/usher/OutboxRuns", "unread", "(Ljava/lang/Long;)Ljava/util/Optional;"⟩ : MethodName) prog_12_method_7_code 5 (some (.object "java/util/Optional")) [] ({ frames := 3, cells := 2, slots := 3, locals := 56 } : Room) #[(.ref a1), (.ref a2)] h0 (fun v h L => v = some (.ref c_EMPTY) ∧ Fr n0 L ∧ Keep h0 h []) := by
  refine own_body own_pn_24 ?_
  intro p e s m below meth c s₁ hx hby hml hown hnm hret hlk X0 hZ e0
  replace hown : s.vm.findClass "com/example/usher/usher/OutboxRuns" = some m.cls := hown
  have N0 := Fr.nil n0
  have K0 := Keep.refl h0 []
  refine own_st (fun _ k => castTop (own_ef_rm_un_g_0 m a1 a2) k) ?_
  show own_go _ _ _ _ _ _ _ (s₁.setTop (mkF m 0 #[.val (.ref a1), .val (.ref a2), .unset, .unset, .unset] []))
  refine own_st (fun _ k => XS.aloadN X0.here hx rfl (hb hby d24_0) rfl rfl k) ?_
  show own_go _ _ _ _ _ _ _ (s₁.setTop (mkF m 1 #[.val (.ref a1), .val (.ref a2), .unset, .unset, .unset] [(.ref a2)]))
  refine own_st (fun _ k => XS.ifnonnullYes X0.here hx rfl (pc0 := 1) (pc' := 11) rfl (hb hby d24_1) rfl (by decide) (by decide) k) ?_
  show own_go _ _ _ _ _ _ _ (s₁.setTop (mkF m 11 #[.val (.ref a1), .val (.ref a2), .unset, .unset, .unset] []))
  refine own_st (fun _ k => XS.aloadN X0.here hx rfl (hb hby d24_11) rfl rfl k) ?_
  show own_go _ _ _ _ _ _ _ (s₁.setTop (mkF m 12 #[.val (.ref a1), .val (.ref a2), .unset, .unset, .unset] [(.ref a2)]))
  obtain ⟨v278, T278, L278, X278, hQ278, st278⟩ := own_callV X0 hx hZ (argsL := []) (rest := []) (rm_lv l Z a0 hw a2 q6 h0 n0 O0 F_a2_value) hown (hw _ (List.mem_of_getElem? (i := 57) rfl)) (hw _ (List.mem_of_getElem? (i := 58) rfl)) (notFace_of_selects (args := #[]) (mvT hZ (hw _ (List.mem_of_getElem? (i := 60) rfl)))) (hw _ (List.mem_of_getElem? (i := 60) rfl)) (hw _ (List.mem_of_getElem? (i := 59) rfl)) (hw _ (List.mem_of_getElem? (i := 46) rfl)) (hw _ (List.mem_of_getElem? (i := 61) rfl)) (by decide) e0 E_a2 (g := (mkF m 12 #[.val (.ref a1), .val (.ref a2), .unset, .unset, .unset] [(.ref a2)])) rfl (by rw [hml]; rfl) (lenOf own_pd__28_29J rfl) rfl (W := 0) (by show 2 * 0 + _ ≤ _; exact Nat.le_of_eq rfl) (hb hby d24_12) (by decide) (by decide) (by decide) (by decide)
  obtain ⟨rfl, Nq278, eq278⟩ := hQ278
  have N278 := Fr.app N0 Nq278
  refine own_st st278 ?_
  show own_go _ _ _ _ _ _ _ (T278.setTop (mkF m 15 #[.val (.ref a1), .val (.ref a2), .unset, .unset, .unset] [(.long q6)]))
  refine own_st (fun _ k => XS.aloadN X278.here hx rfl (hb hby d24_15) rfl rfl k) ?_
  show own_go _ _ _ _ _ _ _ (T278.setTop (mkF m 16 #[.val (.ref a1), .val (.ref a2), .unset, .unset, .unset] [(.ref a1), (.long q6)]))
  obtain ⟨T279, X279, e279, st279⟩ := getF X278 hx hZ hown (host := "") (Or.inl (hw _ (List.mem_of_getElem? (i := 69) rfl))) Via.refl eq278 F_a1_settled (g := (mkF m 16 #[.val (.ref a1), .val (.ref a2), .unset, .unset, .unset] [(.ref a1), (.long q6)])) rfl rfl (hb hby d24_16)
  refine own_st st279 ?_
  show own_go _ _ _ _ _ _ _ (T279.setTop (mkF m 19 #[.val (.ref a1), .val (.ref a2), .unset, .unset, .unset] [(.long q5), (.long q6)]))
  obtain ⟨v280, T280, L280, X280, hQ280, st280⟩ := own_callS X279 hx hZ (argsL := [(.long q6), (.long q5)]) (rest := []) (rm_min l Z a0 hw q6 q5 h0 n0 O0) hown (hw _ (List.mem_of_getElem? (i := 64) rfl)) (hw _ (List.mem_of_getElem? (i := 65) rfl)) (hw _ (List.mem_of_getElem? (i := 66) rfl)) (hw _ (List.mem_of_getElem? (i := 67) rfl)) (by decide) e279 (g := (mkF m 19 #[.val (.ref a1), .val (.ref a2), .unset, .unset, .unset] [(.long q5), (.long q6)])) rfl (by rw [hml]; rfl) (lenOf own_pd__28JJ_29J rfl) rfl (W := 0) (by show 2 * 0 + _ ≤ _; exact Nat.le_of_eq rfl) (hb hby d24_19) (by decide) (by decide) (by decide) (by decide)
  obtain ⟨rfl, Nq280, eq280⟩ := hQ280
  have N280 := Fr.app N278 Nq280
  refine own_st st280 ?_
  show own_go _ _ _ _ _ _ _ (T280.setTop (mkF m 22 #[.val (.ref a1), .val (.ref a2), .unset, .unset, .unset] [(.long (own_min q6 q5))]))
  rw [(own_min_ge hr)]
  show own_go _ _ _ _ _ _ _ (T280.setTop (mkF m 22 #[.val (.ref a1), .val (.ref a2), .unset, .unset, .unset] [(.long q5)]))
  refine own_st (fun _ k => XS.lstoreN X280.here hx rfl (hb hby d24_22) rfl (l' := #[.val (.ref a1), .val (.ref a2), .val (.long q5), .second, .unset]) rfl k) ?_
  show own_go _ _ _ _ _ _ _ (T280.setTop (mkF m 23 #[.val (.ref a1), .val (.ref a2), .val (.long q5), .second, .unset] []))
  obtain ⟨v281, T281, L281, X281, hQ281, st281⟩ := own_callS X280 hx hZ (argsL := []) (rest := []) (rmo_empty l Z a0 hw c_EMPTY_ELEMENTDATA c_DEFAULTCAPACITY_EMPTY_ELEMENTDATA c_cache c_EMPTY h0 n0 O0 hS) hown (hw _ (List.mem_of_getElem? (i := 121) rfl)) (hw _ (List.mem_of_getElem? (i := 122) rfl)) (hw _ (List.mem_of_getElem? (i := 123) rfl)) (hw _ (List.mem_of_getElem? (i := 124) rfl)) (by decide) eq280 (g := (mkF m 23 #[.val (.ref a1), .val (.ref a2), .val (.long q5), .second, .unset] [])) rfl (by rw [hml]; rfl) (lenOf own_pd__28_29Ljava_2futil_2fOptional_3b rfl) rfl (W := 0) (by show 2 * 0 + _ ≤ _; exact Nat.le_of_eq rfl) (hb hby d24_23) (by decide) (by decide) (by decide) (by decide)
  obtain ⟨rfl, Nq281, eq281⟩ := hQ281
  have N281 := Fr.app N280 Nq281
  refine own_st st281 ?_
  show own_go _ _ _ _ _ _ _ (T281.setTop (mkF m 26 #[.val (.ref a1), .val (.ref a2), .val (.long q5), .second, .unset] [(.ref c_EMPTY)]))
  refine own_st (fun _ k => XS.astore X281.here hx rfl (hb hby d24_26) rfl rfl (l' := #[.val (.ref a1), .val (.ref a2), .val (.long q5), .second, .val (.ref c_EMPTY)]) rfl k) ?_
  show own_go _ _ _ _ _ _ _ (T281.setTop (mkF m 28 #[.val (.ref a1), .val (.ref a2), .val (.long q5), .second, .val (.ref c_EMPTY)] []))
  refine own_st (fun _ k => XS.lloadN X281.here hx rfl (hb hby d24_28) rfl k) ?_
  show own_go _ _ _ _ _ _ _ (T281.setTop (mkF m 29 #[.val (.ref a1), .val (.ref a2), .val (.long q5), .second, .val (.ref c_EMPTY)] [(.long q5)]))
  refine own_st (fun _ k => XS.aloadN X281.here hx rfl (hb hby d24_29) rfl rfl k) ?_
  show own_go _ _ _ _ _ _ _ (T281.setTop (mkF m 30 #[.val (.ref a1), .val (.ref a2), .val (.long q5), .second, .val (.ref c_EMPTY)] [(.ref a1), (.long q5)]))
  obtain ⟨T282, X282, e282, st282⟩ := getF X281 hx hZ hown (host := "") (Or.inl (hw _ (List.mem_of_getElem? (i := 179) rfl))) Via.refl eq281 F_a1_learntTo (g := (mkF m 30 #[.val (.ref a1), .val (.ref a2), .val (.long q5), .second, .val (.ref c_EMPTY)] [(.ref a1), (.long q5)])) rfl rfl (hb hby d24_30)
  refine own_st st282 ?_
  show own_go _ _ _ _ _ _ _ (T282.setTop (mkF m 33 #[.val (.ref a1), .val (.ref a2), .val (.long q5), .second, .val (.ref c_EMPTY)] [(.long q2), (.long q5)]))
  refine own_st (fun _ k => XS.lcmp X282.here hx rfl (hb hby d24_33) rfl k) ?_
  show own_go _ _ _ _ _ _ _ (T282.setTop (mkF m 34 #[.val (.ref a1), .val (.ref a2), .val (.long q5), .second, .val (.ref c_EMPTY)] [(.int (lcmpW q5 q2))]))
  refine own_st (fun _ k => XS.ifYes X282.here hx rfl (pc0 := 34) (pc' := 54) rfl (hb hby d24_34) rfl (XT.ll_le_t hq) (by decide) (by decide) k) ?_
  show own_go _ _ _ _ _ _ _ (T282.setTop (mkF m 54 #[.val (.ref a1), .val (.ref a2), .val (.long q5), .second, .val (.ref c_EMPTY)] []))
  refine own_st (fun _ k => XS.aload X282.here hx rfl (hb hby d24_54) rfl rfl k) ?_
  show own_go _ _ _ _ _ _ _ (T282.setTop (mkF m 56 #[.val (.ref a1), .val (.ref a2), .val (.long q5), .second, .val (.ref c_EMPTY)] [(.ref c_EMPTY)]))
  exact own_retA X282 hx hlk hret rfl rfl (hb hby d24_56) (by decide) (by decide) (by rw [e282]; exact ⟨rfl, N281, K0⟩)
theorem own_pn_0 : plainFor x = true := plainFor_of_name (show plainName "com/example/usher/usher/OutboxRunsUnreadPinLaw" = true by first | (simp [plainName, overriddenIn]; done) | decide +kernel)
theorem own_pd__28ZLjava_2flang_2fLong_3bJ_5bLjava_2flang_2fString_3bZ_29V : parseMethodDescriptor "(ZLjava/lang/Long;J[Ljava/lang/String;Z)V" = some ⟨[.boolean, (.object "java/lang/Long"), .long, (.array (.object "java/lang/String")), .boolean], none⟩ := by decide +kernel
theorem own_pd__28Lcom_2fexample_2fusher_2fusher_2fOutboxRuns_24Range_3bLjava_2fmath_2fBigDecimal_3bLjava_2futil_2fList_3bZJ_29V : parseMethodDescriptor "(Lcom/example/usher/usher/OutboxRuns$Range;Ljava/math/BigDecimal;Ljava/util/List;ZJ)V" = some ⟨[(.object "com/example/usher/usher/OutboxRuns$Range"), (.object "java/math/BigDecimal"), (.object "java/util/List"), .boolean, .long], none⟩ := by decide +kernel
theorem own_pd__28Ljava_2flang_2fLong_3b_29Ljava_2futil_2fOptional_3b : parseMethodDescriptor "(Ljava/lang/Long;)Ljava/util/Optional;" = some ⟨[(.object "java/lang/Long")], some (.object "java/util/Optional")⟩ := by decide +kernel
theorem own_pd__28_29Ljava_2flang_2fObject_3b : parseMethodDescriptor "()Ljava/lang/Object;" = some ⟨[], some (.object "java/lang/Object")⟩ := by decide +kernel
theorem own_ef_rm0 (m : MethodId) (p0 : Int64) (p1 : Int64) (p2 : Int64) (p3 : Int32) : entryFrame m #[(.long p0), (.long p1), (.long p2), (.int p3)] maxLocals = mkF m 0 #[.val (.long p0), .second, .val (.long p1), .second, .val (.long p2), .second, .val (.int p3), .unset, .unset, .unset, .unset, .unset, .unset, .unset, .unset, .unset, .unset, .unset] [] := by first | (simp [entryFrame, mkF, argsToLocals, Value.category, maxLocals]; done) | rfl
set_option maxRecDepth 65536 in
set_option maxHeartbeats 40000000 in
theorem rm0 (l : Launch) (Z : State) (a0 : Array Value) (hw : ∀ d ∈ tables_1, d.before a0 Z = true) (ws : List Jvm.Cond) (p0 p1 p2 : Int64) (p3 : Int32) (c_EMPTY_ELEMENTDATA : Addr) (c_DEFAULTCAPACITY_EMPTY_ELEMENTDATA : Addr) (c_cache : Addr) (c_EMPTY : Addr) (h0 : Heap) (n0 : Nat) (O0 : Old Z n0 h0) (hS : own_S Z c_EMPTY_ELEMENTDATA c_DEFAULTCAPACITY_EMPTY_ELEMENTDATA c_cache c_EMPTY) :
    own_Met l Z x code maxLocals ret ws room_1 #[(.long p0), (.long p1), (.long p2), (.int p3)] h0 (fun v h L => v = some (.int 1) ∧ Fr n0 L) := by
  refine own_body own_pn_0 ?_
  intro p e s m below meth c s₁ hx hby hml hown hnm hret hlk X0 hZ e0
  replace hown : s.vm.findClass "com/example/usher/usher/OutboxRunsUnreadPinLaw" = some m.cls := hown
  have N0 := Fr.nil n0
  have K0 := Keep.refl h0 []
  refine own_st (fun _ k => castTop (own_ef_rm0 m p0 p1 p2 p3) k) ?_
  show own_go _ _ _ _ _ _ _ (s₁.setTop (mkF m 0 #[.val (.long p0), .second, .val (.long p1), .second, .val (.long p2), .second, .val (.int p3), .unset, .unset, .unset, .unset, .unset, .unset, .unset, .unset, .unset, .unset, .unset] []))
  refine own_st (fun _ k => XS.lloadN X0.here hx rfl (hb hby at_0) rfl k) ?_
  show own_go _ _ _ _ _ _ _ (s₁.setTop (mkF m 1 #[.val (.long p0), .second, .val (.long p1), .second, .val (.long p2), .second, .val (.int p3), .unset, .unset, .unset, .unset, .unset, .unset, .unset, .unset, .unset, .unset, .unset] [(.long p0)]))
  refine own_st (X0.ldc2Long hx hown (mvT hZ (hw _ (List.mem_of_getElem? (i := 0) rfl))) (g := (mkF m 1 #[.val (.long p0), .second, .val (.long p1), .second, .val (.long p2), .second, .val (.int p3), .unset, .unset, .unset, .unset, .unset, .unset, .unset, .unset, .unset, .unset, .unset] [(.long p0)])) rfl (hb hby at_1)) ?_
  show own_go _ _ _ _ _ _ _ (s₁.setTop (mkF m 4 #[.val (.long p0), .second, .val (.long p1), .second, .val (.long p2), .second, .val (.int p3), .unset, .unset, .unset, .unset, .unset, .unset, .unset, .unset, .unset, .unset, .unset] [(.long (9223372036854775807 : Int64)), (.long p0)]))
  refine own_st (fun _ k => XS.land X0.here hx rfl (hb hby at_4) rfl k) ?_
  show own_go _ _ _ _ _ _ _ (s₁.setTop (mkF m 5 #[.val (.long p0), .second, .val (.long p1), .second, .val (.long p2), .second, .val (.int p3), .unset, .unset, .unset, .unset, .unset, .unset, .unset, .unset, .unset, .unset, .unset] [(.long (p0 &&& (9223372036854775807 : Int64)))]))
  obtain ⟨sv, hsv, hsn⟩ : ∃ z : Int64, (p0 &&& (9223372036854775807 : Int64)) = z ∧ ¬ z < 0 := ⟨_, rfl, own_landnn _⟩
  rw [hsv]
  show own_go _ _ _ _ _ _ _ (s₁.setTop (mkF m 5 #[.val (.long p0), .second, .val (.long p1), .second, .val (.long p2), .second, .val (.int p3), .unset, .unset, .unset, .unset, .unset, .unset, .unset, .unset, .unset, .unset, .unset] [(.long sv)]))
  refine own_st (fun _ k => XS.lstore X0.here hx rfl (hb hby at_5) rfl (l' := #[.val (.long p0), .second, .val (.long p1), .second, .val (.long p2), .second, .val (.int p3), .val (.long sv), .second, .unset, .unset, .unset, .unset, .unset, .unset, .unset, .unset, .unset]) rfl k) ?_
  show own_go _ _ _ _ _ _ _ (s₁.setTop (mkF m 7 #[.val (.long p0), .second, .val (.long p1), .second, .val (.long p2), .second, .val (.int p3), .val (.long sv), .second, .unset, .unset, .unset, .unset, .unset, .unset, .unset, .unset, .unset] []))
  refine own_st (fun _ k => XS.iload X0.here hx rfl (hb hby at_7) rfl k) ?_
  show own_go _ _ _ _ _ _ _ (s₁.setTop (mkF m 9 #[.val (.long p0), .second, .val (.long p1), .second, .val (.long p2), .second, .val (.int p3), .val (.long sv), .second, .unset, .unset, .unset, .unset, .unset, .unset, .unset, .unset, .unset] [(.int p3)]))
  refine own_st (fun _ k => XS.iconst X0.here hx rfl (hb hby at_9) k) ?_
  show own_go _ _ _ _ _ _ _ (s₁.setTop (mkF m 10 #[.val (.long p0), .second, .val (.long p1), .second, .val (.long p2), .second, .val (.int p3), .val (.long sv), .second, .unset, .unset, .unset, .unset, .unset, .unset, .unset, .unset, .unset] [(.int (1 : Int32)), (.int p3)]))
  refine own_st (fun _ k => XS.iand X0.here hx rfl (hb hby at_10) rfl k) ?_
  show own_go _ _ _ _ _ _ _ (s₁.setTop (mkF m 11 #[.val (.long p0), .second, .val (.long p1), .second, .val (.long p2), .second, .val (.int p3), .val (.long sv), .second, .unset, .unset, .unset, .unset, .unset, .unset, .unset, .unset, .unset] [(.int (p3 &&& (1 : Int32)))]))
  by_cases hc283 : (p3 &&& (1 : Int32)) = (0 : Int32)
  · skip
    refine own_st (fun _ k => XS.ifYes X0.here hx rfl (pc0 := 11) (pc' := 18) rfl (hb hby at_11) rfl (XT.i0_eq_t hc283) (by decide) (by decide) k) ?_
    show own_go _ _ _ _ _ _ _ (s₁.setTop (mkF m 18 #[.val (.long p0), .second, .val (.long p1), .second, .val (.long p2), .second, .val (.int p3), .val (.long sv), .second, .unset, .unset, .unset, .unset, .unset, .unset, .unset, .unset, .unset] []))
    refine own_st (fun _ k => XS.iconst X0.here hx rfl (hb hby at_18) k) ?_
    show own_go _ _ _ _ _ _ _ (s₁.setTop (mkF m 19 #[.val (.long p0), .second, .val (.long p1), .second, .val (.long p2), .second, .val (.int p3), .val (.long sv), .second, .unset, .unset, .unset, .unset, .unset, .unset, .unset, .unset, .unset] [(.int (0 : Int32))]))
    refine own_st (fun _ k => XS.istore X0.here hx rfl (hb hby at_19) rfl (l' := #[.val (.long p0), .second, .val (.long p1), .second, .val (.long p2), .second, .val (.int p3), .val (.long sv), .second, .val (.int (0 : Int32)), .unset, .unset, .unset, .unset, .unset, .unset, .unset, .unset]) rfl k) ?_
    show own_go _ _ _ _ _ _ _ (s₁.setTop (mkF m 21 #[.val (.long p0), .second, .val (.long p1), .second, .val (.long p2), .second, .val (.int p3), .val (.long sv), .second, .val (.int (0 : Int32)), .unset, .unset, .unset, .unset, .unset, .unset, .unset, .unset] []))
    obtain ⟨T284, h284, X284, e284, E284, A284, D284, -, st284⟩ := newO X0 hx hZ hown (hw _ (List.mem_of_getElem? (i := 1) rfl)) (hw _ (List.mem_of_getElem? (i := 2) rfl)) (hw _ (List.mem_of_getElem? (i := 3) rfl)) e0 (g := (mkF m 21 #[.val (.long p0), .second, .val (.long p1), .second, .val (.long p2), .second, .val (.int p3), .val (.long sv), .second, .val (.int (0 : Int32)), .unset, .unset, .unset, .unset, .unset, .unset, .unset, .unset] [])) rfl (hb hby at_21) (by decide) (by decide)
    obtain ⟨b284, g284⟩ : ∃ z, z = h0.size := ⟨_, rfl⟩
    rw [← g284] at A284 D284 st284
    have ge_b284 : n0 ≤ b284 := by rw [g284]; exact own_osz O0
    have sz_b284 : h0.size ≤ b284 := by rw [g284]; exact K0.1
    have O284 := O0.ext E284
    have K284 := K0.ext E284
    refine own_st st284 ?_
    show own_go _ _ _ _ _ _ _ (T284.setTop (mkF m 24 #[.val (.long p0), .second, .val (.long p1), .second, .val (.long p2), .second, .val (.int p3), .val (.long sv), .second, .val (.int (0 : Int32)), .unset, .unset, .unset, .unset, .unset, .unset, .unset, .unset] [(.ref b284)]))
    refine own_st (fun _ k => XS.dup X284.here hx rfl (hb hby at_24) rfl rfl k) ?_
    show own_go _ _ _ _ _ _ _ (T284.setTop (mkF m 25 #[.val (.long p0), .second, .val (.long p1), .second, .val (.long p2), .second, .val (.int p3), .val (.long sv), .second, .val (.int (0 : Int32)), .unset, .unset, .unset, .unset, .unset, .unset, .unset, .unset] [(.ref b284), (.ref b284)]))
    obtain ⟨v285, T285, L285, X285, hQ285, st285⟩ := own_callN X284 hx hZ (argsL := []) (rest := [(.ref b284)]) (rm_oinit l Z a0 hw b284 c_EMPTY_ELEMENTDATA c_DEFAULTCAPACITY_EMPTY_ELEMENTDATA c_cache c_EMPTY h284 n0 O284 hS ge_b284 A284 (D284 (Or.inr (hw _ (List.mem_of_getElem? (i := 35) rfl))) (ty := (.object "java/util/List")) (by decide)) (D284 (Or.inl (hw _ (List.mem_of_getElem? (i := 180) rfl))) (ty := .long) (by decide)) (D284 (Or.inl (hw _ (List.mem_of_getElem? (i := 109) rfl))) (ty := (.object "java/math/BigDecimal")) (by decide)) (D284 (Or.inl (hw _ (List.mem_of_getElem? (i := 38) rfl))) (ty := .long) (by decide)) (D284 (Or.inl (hw _ (List.mem_of_getElem? (i := 70) rfl))) (ty := .long) (by decide)) (D284 (Or.inl (hw _ (List.mem_of_getElem? (i := 72) rfl))) (ty := (.object "java/lang/Long")) (by decide)) (D284 (Or.inl (hw _ (List.mem_of_getElem? (i := 42) rfl))) (ty := (.array (.object "java/lang/String"))) (by decide))) rfl hown (hw _ (List.mem_of_getElem? (i := 4) rfl)) (hw _ (List.mem_of_getElem? (i := 5) rfl)) (hw _ (List.mem_of_getElem? (i := 3) rfl)) (hw _ (List.mem_of_getElem? (i := 6) rfl)) (by decide) e284 (g := (mkF m 25 #[.val (.long p0), .second, .val (.long p1), .second, .val (.long p2), .second, .val (.int p3), .val (.long sv), .second, .val (.int (0 : Int32)), .unset, .unset, .unset, .unset, .unset, .unset, .unset, .unset] [(.ref b284), (.ref b284)])) rfl (by rw [hml]; rfl) (lenOf own_pd__28_29V rfl) rfl (W := 1) (by show 2 * 0 + _ ≤ _; exact Nat.le_of_eq rfl) (hb hby at_25) (by decide) (by decide) (by decide) (by decide)
    obtain ⟨rfl, Nq285, Kq285, al285, sw285, sz285, A285, F285_0, F285_1, F285_2, G285_0, G285_1, G285_2, G285_3, G285_4, G285_5, G285_6⟩ := hQ285
    have N285 := Fr.app N0 Nq285
    have ne_b284_al285 : b284 ≠ al285 := (Nat.ne_of_lt (Nat.lt_of_lt_of_le A284.lt sz285))
    have O285 := O284.keep Kq285 (allS ge_b284 all0)
    have K285 := K284.trans Kq285 (allS (Or.inr sz_b284) all0)
    refine own_st st285 ?_
    show own_go _ _ _ _ _ _ _ (T285.setTop (mkF m 28 #[.val (.long p0), .second, .val (.long p1), .second, .val (.long p2), .second, .val (.int p3), .val (.long sv), .second, .val (.int (0 : Int32)), .unset, .unset, .unset, .unset, .unset, .unset, .unset, .unset] [(.ref b284)]))
    refine own_st (fun _ k => XS.astore X285.here hx rfl (hb hby at_28) rfl rfl (l' := #[.val (.long p0), .second, .val (.long p1), .second, .val (.long p2), .second, .val (.int p3), .val (.long sv), .second, .val (.int (0 : Int32)), .val (.ref b284), .unset, .unset, .unset, .unset, .unset, .unset, .unset]) rfl k) ?_
    show own_go _ _ _ _ _ _ _ (T285.setTop (mkF m 30 #[.val (.long p0), .second, .val (.long p1), .second, .val (.long p2), .second, .val (.int p3), .val (.long sv), .second, .val (.int (0 : Int32)), .val (.ref b284), .unset, .unset, .unset, .unset, .unset, .unset, .unset] []))
    refine own_st (fun _ k => XS.iconst X285.here hx rfl (hb hby at_30) k) ?_
    show own_go _ _ _ _ _ _ _ (T285.setTop (mkF m 31 #[.val (.long p0), .second, .val (.long p1), .second, .val (.long p2), .second, .val (.int p3), .val (.long sv), .second, .val (.int (0 : Int32)), .val (.ref b284), .unset, .unset, .unset, .unset, .unset, .unset, .unset] [(.int (0 : Int32))]))
    obtain ⟨T286, h286, k286, b286, X286, e286, g286, E286, V286, Ex286, Ov286, st286⟩ := own_arr X285 hx hZ hown (hw _ (List.mem_of_getElem? (i := 43) rfl)) (hw _ (List.mem_of_getElem? (i := 40) rfl)) rfl (g := (mkF m 31 #[.val (.long p0), .second, .val (.long p1), .second, .val (.long p2), .second, .val (.int p3), .val (.long sv), .second, .val (.int (0 : Int32)), .val (.ref b284), .unset, .unset, .unset, .unset, .unset, .unset, .unset] [(.int (0 : Int32))])) rfl (hb hby at_31) rfl (by decide) (cap := 0) (by decide) (by decide) (by decide) (by decide) (ad := "[Ljava/lang/String;") (by decide)
    have ge_b286 : n0 ≤ b286 := by rw [g286]; exact own_osz O285
    have sz_b286 : h0.size ≤ b286 := by rw [g286]; exact K285.1
    have f287 := (A284.keep Kq285)
    have ne_b284_b286 : b284 ≠ b286 := (fun q => absurd f287.lt (by rw [q, g286]; exact Nat.lt_irrefl _))
    have ne_al285_b286 : al285 ≠ b286 := (fun q => absurd A285.lt (by rw [q, g286]; exact Nat.lt_irrefl _))
    have O286 := O285.ext E286
    have K286 := K285.ext E286
    refine own_st st286 ?_
    show own_go _ _ _ _ _ _ _ (T286.setTop (mkF m 34 #[.val (.long p0), .second, .val (.long p1), .second, .val (.long p2), .second, .val (.int p3), .val (.long sv), .second, .val (.int (0 : Int32)), .val (.ref b284), .unset, .unset, .unset, .unset, .unset, .unset, .unset] [(.ref b286)]))
    refine own_st (fun _ k => XS.astore X286.here hx rfl (hb hby at_34) rfl rfl (l' := #[.val (.long p0), .second, .val (.long p1), .second, .val (.long p2), .second, .val (.int p3), .val (.long sv), .second, .val (.int (0 : Int32)), .val (.ref b284), .val (.ref b286), .unset, .unset, .unset, .unset, .unset, .unset]) rfl k) ?_
    show own_go _ _ _ _ _ _ _ (T286.setTop (mkF m 36 #[.val (.long p0), .second, .val (.long p1), .second, .val (.long p2), .second, .val (.int p3), .val (.long sv), .second, .val (.int (0 : Int32)), .val (.ref b284), .val (.ref b286), .unset, .unset, .unset, .unset, .unset, .unset] []))
    refine own_st (fun _ k => XS.aload X286.here hx rfl (hb hby at_36) rfl rfl k) ?_
    show own_go _ _ _ _ _ _ _ (T286.setTop (mkF m 38 #[.val (.long p0), .second, .val (.long p1), .second, .val (.long p2), .second, .val (.int p3), .val (.long sv), .second, .val (.int (0 : Int32)), .val (.ref b284), .val (.ref b286), .unset, .unset, .unset, .unset, .unset, .unset] [(.ref b284)]))
    refine own_st (fun _ k => XS.iconst X286.here hx rfl (hb hby at_38) k) ?_
    show own_go _ _ _ _ _ _ _ (T286.setTop (mkF m 39 #[.val (.long p0), .second, .val (.long p1), .second, .val (.long p2), .second, .val (.int p3), .val (.long sv), .second, .val (.int (0 : Int32)), .val (.ref b284), .val (.ref b286), .unset, .unset, .unset, .unset, .unset, .unset] [(.int (0 : Int32)), (.ref b284)]))
    refine own_st (fun _ k => XS.lload X286.here hx rfl (hb hby at_39) rfl k) ?_
    show own_go _ _ _ _ _ _ _ (T286.setTop (mkF m 41 #[.val (.long p0), .second, .val (.long p1), .second, .val (.long p2), .second, .val (.int p3), .val (.long sv), .second, .val (.int (0 : Int32)), .val (.ref b284), .val (.ref b286), .unset, .unset, .unset, .unset, .unset, .unset] [(.long sv), (.int (0 : Int32)), (.ref b284)]))
    obtain ⟨v288, T288, L288, X288, hQ288, st288⟩ := own_callS X286 hx hZ (argsL := [(.long sv)]) (rest := [(.int (0 : Int32)), (.ref b284)]) (rm_lvo l Z a0 hw sv c_EMPTY_ELEMENTDATA c_DEFAULTCAPACITY_EMPTY_ELEMENTDATA c_cache c_EMPTY h286 n0 O286 hS) hown (hw _ (List.mem_of_getElem? (i := 44) rfl)) (hw _ (List.mem_of_getElem? (i := 45) rfl)) (hw _ (List.mem_of_getElem? (i := 46) rfl)) (hw _ (List.mem_of_getElem? (i := 47) rfl)) (by decide) e286 (g := (mkF m 41 #[.val (.long p0), .second, .val (.long p1), .second, .val (.long p2), .second, .val (.int p3), .val (.long sv), .second, .val (.int (0 : Int32)), .val (.ref b284), .val (.ref b286), .unset, .unset, .unset, .unset, .unset, .unset] [(.long sv), (.int (0 : Int32)), (.ref b284)])) rfl (by rw [hml]; rfl) (lenOf own_pd__28J_29Ljava_2flang_2fLong_3b rfl) rfl (W := 2) (by show 2 * 0 + _ ≤ _; exact Nat.le_of_eq rfl) (hb hby at_41) (by decide) (by decide) (by decide) (by decide)
    obtain ⟨r288, rfl, Nq288, Kq288, A288, F288⟩ := hQ288
    have N288 := Fr.app N285 Nq288
    have O288 := O286.keep Kq288 all0
    have K288 := K286.trans Kq288 all0
    refine own_st st288 ?_
    show own_go _ _ _ _ _ _ _ (T288.setTop (mkF m 44 #[.val (.long p0), .second, .val (.long p1), .second, .val (.long p2), .second, .val (.int p3), .val (.long sv), .second, .val (.int (0 : Int32)), .val (.ref b284), .val (.ref b286), .unset, .unset, .unset, .unset, .unset, .unset] [(.ref r288), (.int (0 : Int32)), (.ref b284)]))
    refine own_st (fun _ k => XS.lload X288.here hx rfl (hb hby at_44) rfl k) ?_
    show own_go _ _ _ _ _ _ _ (T288.setTop (mkF m 46 #[.val (.long p0), .second, .val (.long p1), .second, .val (.long p2), .second, .val (.int p3), .val (.long sv), .second, .val (.int (0 : Int32)), .val (.ref b284), .val (.ref b286), .unset, .unset, .unset, .unset, .unset, .unset] [(.long sv), (.ref r288), (.int (0 : Int32)), (.ref b284)]))
    refine own_st (fun _ k => XS.aload X288.here hx rfl (hb hby at_46) rfl rfl k) ?_
    show own_go _ _ _ _ _ _ _ (T288.setTop (mkF m 48 #[.val (.long p0), .second, .val (.long p1), .second, .val (.long p2), .second, .val (.int p3), .val (.long sv), .second, .val (.int (0 : Int32)), .val (.ref b284), .val (.ref b286), .unset, .unset, .unset, .unset, .unset, .unset] [(.ref b286), (.long sv), (.ref r288), (.int (0 : Int32)), (.ref b284)]))
    refine own_st (fun _ k => XS.iconst X288.here hx rfl (hb hby at_48) k) ?_
    show own_go _ _ _ _ _ _ _ (T288.setTop (mkF m 49 #[.val (.long p0), .second, .val (.long p1), .second, .val (.long p2), .second, .val (.int p3), .val (.long sv), .second, .val (.int (0 : Int32)), .val (.ref b284), .val (.ref b286), .unset, .unset, .unset, .unset, .unset, .unset] [(.int (1 : Int32)), (.ref b286), (.long sv), (.ref r288), (.int (0 : Int32)), (.ref b284)]))
    have f290 := (V286.keep Kq288 nin0)
    have f291 := ((f287.ext E286).keep Kq288)
    have f292 := ((G285_0.ext E286).keep Kq288 nin0)
    have f293 := ((G285_1.ext E286).keep Kq288 nin0)
    have f294 := ((G285_2.ext E286).keep Kq288 nin0)
    have f295 := ((G285_3.ext E286).keep Kq288 nin0)
    have f296 := ((G285_4.ext E286).keep Kq288 nin0)
    have f297 := ((G285_5.ext E286).keep Kq288 nin0)
    have f298 := ((G285_6.ext E286).keep Kq288 nin0)
    have f299 := (Ex286.keep Kq288)
    obtain ⟨v289, T289, L289, X289, hQ289, st289⟩ := own_callV X288 hx hZ (argsL := [(.int (0 : Int32)), (.ref r288), (.long sv), (.ref b286), (.int (1 : Int32))]) (rest := []) (rm_look1 l Z a0 hw b284 r288 sv b286 al285 sw285 k286 c_EMPTY_ELEMENTDATA c_DEFAULTCAPACITY_EMPTY_ELEMENTDATA c_cache c_EMPTY T288.heap n0 O288 hS hsn ge_b284 f291 f292 f293 f294 f295 f296 f297 f298 A288 F288 f299 f290) hown (hw _ (List.mem_of_getElem? (i := 52) rfl)) (hw _ (List.mem_of_getElem? (i := 53) rfl)) (notFace_of_selects (args := #[]) (mvT hZ (hw _ (List.mem_of_getElem? (i := 55) rfl)))) (hw _ (List.mem_of_getElem? (i := 55) rfl)) (hw _ (List.mem_of_getElem? (i := 54) rfl)) (hw _ (List.mem_of_getElem? (i := 3) rfl)) (hw _ (List.mem_of_getElem? (i := 56) rfl)) (by decide) rfl f291 (g := (mkF m 49 #[.val (.long p0), .second, .val (.long p1), .second, .val (.long p2), .second, .val (.int p3), .val (.long sv), .second, .val (.int (0 : Int32)), .val (.ref b284), .val (.ref b286), .unset, .unset, .unset, .unset, .unset, .unset] [(.int (1 : Int32)), (.ref b286), (.long sv), (.ref r288), (.int (0 : Int32)), (.ref b284)])) rfl (by rw [hml]; rfl) (lenOf own_pd__28ZLjava_2flang_2fLong_3bJ_5bLjava_2flang_2fString_3bZ_29V rfl) rfl (W := 0) (by show 2 * 0 + _ ≤ _; exact Nat.le_of_eq rfl) (hb hby at_49) (by decide) (by decide) (by decide) (by decide)
    obtain ⟨rfl, Nq289, Kq289, r289, sw289, A289, F289, G289_0, G289_1, G289_2, G289_3, G289_4, G289_5, G289_6⟩ := hQ289
    have N289 := Fr.app N288 Nq289
    have O289 := O288.keep Kq289 (allS ge_b284 all0)
    have K289 := K288.trans Kq289 (allS (Or.inr sz_b284) all0)
    refine own_st st289 ?_
    show own_go _ _ _ _ _ _ _ (T289.setTop (mkF m 52 #[.val (.long p0), .second, .val (.long p1), .second, .val (.long p2), .second, .val (.int p3), .val (.long sv), .second, .val (.int (0 : Int32)), .val (.ref b284), .val (.ref b286), .unset, .unset, .unset, .unset, .unset, .unset] []))
    refine own_st (fun _ k => XS.aload X289.here hx rfl (hb hby at_52) rfl rfl k) ?_
    show own_go _ _ _ _ _ _ _ (T289.setTop (mkF m 54 #[.val (.long p0), .second, .val (.long p1), .second, .val (.long p2), .second, .val (.int p3), .val (.long sv), .second, .val (.int (0 : Int32)), .val (.ref b284), .val (.ref b286), .unset, .unset, .unset, .unset, .unset, .unset] [(.ref b284)]))
    refine own_st (fun _ k => XS.iconst X289.here hx rfl (hb hby at_54) k) ?_
    show own_go _ _ _ _ _ _ _ (T289.setTop (mkF m 55 #[.val (.long p0), .second, .val (.long p1), .second, .val (.long p2), .second, .val (.int p3), .val (.long sv), .second, .val (.int (0 : Int32)), .val (.ref b284), .val (.ref b286), .unset, .unset, .unset, .unset, .unset, .unset] [(.int (0 : Int32)), (.ref b284)]))
    refine own_st (fun _ k => XS.lload X289.here hx rfl (hb hby at_55) rfl k) ?_
    show own_go _ _ _ _ _ _ _ (T289.setTop (mkF m 57 #[.val (.long p0), .second, .val (.long p1), .second, .val (.long p2), .second, .val (.int p3), .val (.long sv), .second, .val (.int (0 : Int32)), .val (.ref b284), .val (.ref b286), .unset, .unset, .unset, .unset, .unset, .unset] [(.long sv), (.int (0 : Int32)), (.ref b284)]))
    obtain ⟨v300, T300, L300, X300, hQ300, st300⟩ := own_callS X289 hx hZ (argsL := [(.long sv)]) (rest := [(.int (0 : Int32)), (.ref b284)]) (rm_lvo l Z a0 hw sv c_EMPTY_ELEMENTDATA c_DEFAULTCAPACITY_EMPTY_ELEMENTDATA c_cache c_EMPTY T289.heap n0 O289 hS) hown (hw _ (List.mem_of_getElem? (i := 44) rfl)) (hw _ (List.mem_of_getElem? (i := 45) rfl)) (hw _ (List.mem_of_getElem? (i := 46) rfl)) (hw _ (List.mem_of_getElem? (i := 47) rfl)) (by decide) rfl (g := (mkF m 57 #[.val (.long p0), .second, .val (.long p1), .second, .val (.long p2), .second, .val (.int p3), .val (.long sv), .second, .val (.int (0 : Int32)), .val (.ref b284), .val (.ref b286), .unset, .unset, .unset, .unset, .unset, .unset] [(.long sv), (.int (0 : Int32)), (.ref b284)])) rfl (by rw [hml]; rfl) (lenOf own_pd__28J_29Ljava_2flang_2fLong_3b rfl) rfl (W := 2) (by show 2 * 0 + _ ≤ _; exact Nat.le_of_eq rfl) (hb hby at_57) (by decide) (by decide) (by decide) (by decide)
    obtain ⟨r300, rfl, Nq300, Kq300, A300, F300⟩ := hQ300
    have N300 := Fr.app N289 Nq300
    have O300 := O289.keep Kq300 all0
    have K300 := K289.trans Kq300 all0
    refine own_st st300 ?_
    show own_go _ _ _ _ _ _ _ (T300.setTop (mkF m 60 #[.val (.long p0), .second, .val (.long p1), .second, .val (.long p2), .second, .val (.int p3), .val (.long sv), .second, .val (.int (0 : Int32)), .val (.ref b284), .val (.ref b286), .unset, .unset, .unset, .unset, .unset, .unset] [(.ref r300), (.int (0 : Int32)), (.ref b284)]))
    refine own_st (fun _ k => XS.lload X300.here hx rfl (hb hby at_60) rfl k) ?_
    show own_go _ _ _ _ _ _ _ (T300.setTop (mkF m 62 #[.val (.long p0), .second, .val (.long p1), .second, .val (.long p2), .second, .val (.int p3), .val (.long sv), .second, .val (.int (0 : Int32)), .val (.ref b284), .val (.ref b286), .unset, .unset, .unset, .unset, .unset, .unset] [(.long sv), (.ref r300), (.int (0 : Int32)), (.ref b284)]))
    refine own_st (fun _ k => XS.aload X300.here hx rfl (hb hby at_62) rfl rfl k) ?_
    show own_go _ _ _ _ _ _ _ (T300.setTop (mkF m 64 #[.val (.long p0), .second, .val (.long p1), .second, .val (.long p2), .second, .val (.int p3), .val (.long sv), .second, .val (.int (0 : Int32)), .val (.ref b284), .val (.ref b286), .unset, .unset, .unset, .unset, .unset, .unset] [(.ref b286), (.long sv), (.ref r300), (.int (0 : Int32)), (.ref b284)]))
    refine own_st (fun _ k => XS.iconst X300.here hx rfl (hb hby at_64) k) ?_
    show own_go _ _ _ _ _ _ _ (T300.setTop (mkF m 65 #[.val (.long p0), .second, .val (.long p1), .second, .val (.long p2), .second, .val (.int p3), .val (.long sv), .second, .val (.int (0 : Int32)), .val (.ref b284), .val (.ref b286), .unset, .unset, .unset, .unset, .unset, .unset] [(.int (1 : Int32)), (.ref b286), (.long sv), (.ref r300), (.int (0 : Int32)), (.ref b284)]))
    have f302 := ((f290.keep Kq289 (ninS (Ne.symm ne_b284_b286) nin0)).keep Kq300 nin0)
    have f303 := ((f291.keep Kq289).keep Kq300)
    have f304 := (G289_0.keep Kq300 nin0)
    have f305 := (G289_1.keep Kq300 nin0)
    have f306 := (G289_2.keep Kq300 nin0)
    have f307 := (G289_3.keep Kq300 nin0)
    have f308 := (G289_4.keep Kq300 nin0)
    have f309 := (G289_5.keep Kq300 nin0)
    have f310 := (G289_6.keep Kq300 nin0)
    have f311 := ((f299.keep Kq289).keep Kq300)
    have f312 := (A289.keep Kq300)
    have f313 := (F289.keep Kq300 nin0)
    obtain ⟨v301, T301, L301, X301, hQ301, st301⟩ := own_callV X300 hx hZ (argsL := [(.int (0 : Int32)), (.ref r300), (.long sv), (.ref b286), (.int (1 : Int32))]) (rest := []) (rm_look2 l Z a0 hw b284 r300 sv b286 al285 sw289 r289 k286 c_EMPTY_ELEMENTDATA c_DEFAULTCAPACITY_EMPTY_ELEMENTDATA c_cache c_EMPTY T300.heap n0 O300 hS hsn ge_b284 f303 f304 f305 f306 f307 f308 f309 f310 A300 F300 f311 f302 f312 f313) hown (hw _ (List.mem_of_getElem? (i := 52) rfl)) (hw _ (List.mem_of_getElem? (i := 53) rfl)) (notFace_of_selects (args := #[]) (mvT hZ (hw _ (List.mem_of_getElem? (i := 55) rfl)))) (hw _ (List.mem_of_getElem? (i := 55) rfl)) (hw _ (List.mem_of_getElem? (i := 54) rfl)) (hw _ (List.mem_of_getElem? (i := 3) rfl)) (hw _ (List.mem_of_getElem? (i := 56) rfl)) (by decide) rfl f303 (g := (mkF m 65 #[.val (.long p0), .second, .val (.long p1), .second, .val (.long p2), .second, .val (.int p3), .val (.long sv), .second, .val (.int (0 : Int32)), .val (.ref b284), .val (.ref b286), .unset, .unset, .unset, .unset, .unset, .unset] [(.int (1 : Int32)), (.ref b286), (.long sv), (.ref r300), (.int (0 : Int32)), (.ref b284)])) rfl (by rw [hml]; rfl) (lenOf own_pd__28ZLjava_2flang_2fLong_3bJ_5bLjava_2flang_2fString_3bZ_29V rfl) rfl (W := 0) (by show 2 * 0 + _ ≤ _; exact Nat.le_of_eq rfl) (hb hby at_65) (by decide) (by decide) (by decide) (by decide)
    obtain ⟨rfl, Nq301, Kq301, r301, sw301, A301, F301, G301_0, G301_1, G301_2, G301_3, G301_4, G301_5, G301_6⟩ := hQ301
    have N301 := Fr.app N300 Nq301
    have O301 := O300.keep Kq301 (allS ge_b284 all0)
    have K301 := K300.trans Kq301 (allS (Or.inr sz_b284) all0)
    refine own_st st301 ?_
    show own_go _ _ _ _ _ _ _ (T301.setTop (mkF m 68 #[.val (.long p0), .second, .val (.long p1), .second, .val (.long p2), .second, .val (.int p3), .val (.long sv), .second, .val (.int (0 : Int32)), .val (.ref b284), .val (.ref b286), .unset, .unset, .unset, .unset, .unset, .unset] []))
    obtain ⟨T314, h314, X314, e314, E314, A314, D314, -, st314⟩ := newO X301 hx hZ hown (hw _ (List.mem_of_getElem? (i := 85) rfl)) (hw _ (List.mem_of_getElem? (i := 11) rfl)) (hw _ (List.mem_of_getElem? (i := 12) rfl)) rfl (g := (mkF m 68 #[.val (.long p0), .second, .val (.long p1), .second, .val (.long p2), .second, .val (.int p3), .val (.long sv), .second, .val (.int (0 : Int32)), .val (.ref b284), .val (.ref b286), .unset, .unset, .unset, .unset, .unset, .unset] [])) rfl (hb hby at_68) (by decide) (by decide)
    obtain ⟨b314, g314⟩ : ∃ z, z = T301.heap.size := ⟨_, rfl⟩
    rw [← g314] at A314 D314 st314
    have ge_b314 : n0 ≤ b314 := by rw [g314]; exact own_osz O301
    have sz_b314 : h0.size ≤ b314 := by rw [g314]; exact K301.1
    have f315 := (f303.keep Kq301)
    have ne_b284_b314 : b284 ≠ b314 := (fun q => absurd f315.lt (by rw [q, g314]; exact Nat.lt_irrefl _))
    have f316 := (((((A285.ext E286).keep Kq288).keep Kq289).keep Kq300).keep Kq301)
    have ne_al285_b314 : al285 ≠ b314 := (fun q => absurd f316.lt (by rw [q, g314]; exact Nat.lt_irrefl _))
    have f317 := (f311.keep Kq301)
    have ne_b286_b314 : b286 ≠ b314 := (fun q => absurd f317.lt (by rw [q, g314]; exact Nat.lt_irrefl _))
    have f318 := (((A288.keep Kq289).keep Kq300).keep Kq301)
    have ne_r288_b314 : r288 ≠ b314 := (fun q => absurd f318.lt (by rw [q, g314]; exact Nat.lt_irrefl _))
    have f319 := (f312.keep Kq301)
    have ne_r289_b314 : r289 ≠ b314 := (fun q => absurd f319.lt (by rw [q, g314]; exact Nat.lt_irrefl _))
    have f320 := (A300.keep Kq301)
    have ne_r300_b314 : r300 ≠ b314 := (fun q => absurd f320.lt (by rw [q, g314]; exact Nat.lt_irrefl _))
    have ne_r301_b314 : r301 ≠ b314 := (fun q => absurd A301.lt (by rw [q, g314]; exact Nat.lt_irrefl _))
    have O314 := O301.ext E314
    have K314 := K301.ext E314
    refine own_st st314 ?_
    show own_go _ _ _ _ _ _ _ (T314.setTop (mkF m 71 #[.val (.long p0), .second, .val (.long p1), .second, .val (.long p2), .second, .val (.int p3), .val (.long sv), .second, .val (.int (0 : Int32)), .val (.ref b284), .val (.ref b286), .unset, .unset, .unset, .unset, .unset, .unset] [(.ref b314)]))
    refine own_st (fun _ k => XS.dup X314.here hx rfl (hb hby at_71) rfl rfl k) ?_
    show own_go _ _ _ _ _ _ _ (T314.setTop (mkF m 72 #[.val (.long p0), .second, .val (.long p1), .second, .val (.long p2), .second, .val (.int p3), .val (.long sv), .second, .val (.int (0 : Int32)), .val (.ref b284), .val (.ref b286), .unset, .unset, .unset, .unset, .unset, .unset] [(.ref b314), (.ref b314)]))
    obtain ⟨v321, T321, L321, X321, hQ321, st321⟩ := own_callN X314 hx hZ (argsL := []) (rest := [(.ref b314)]) (rm_al l Z a0 hw b314 c_EMPTY_ELEMENTDATA c_DEFAULTCAPACITY_EMPTY_ELEMENTDATA c_cache c_EMPTY h314 n0 O314 hS ge_b314 A314 (D314 (Or.inl (hw _ (List.mem_of_getElem? (i := 30) rfl))) (ty := .int) (by decide)) (D314 (Or.inl (hw _ (List.mem_of_getElem? (i := 33) rfl))) (ty := (.array (.object "java/lang/Object"))) (by decide)) (D314 (Or.inl (hw _ (List.mem_of_getElem? (i := 120) rfl))) (ty := .int) (by decide))) rfl hown (hw _ (List.mem_of_getElem? (i := 86) rfl)) (hw _ (List.mem_of_getElem? (i := 14) rfl)) (hw _ (List.mem_of_getElem? (i := 12) rfl)) (hw _ (List.mem_of_getElem? (i := 15) rfl)) (by decide) e314 (g := (mkF m 72 #[.val (.long p0), .second, .val (.long p1), .second, .val (.long p2), .second, .val (.int p3), .val (.long sv), .second, .val (.int (0 : Int32)), .val (.ref b284), .val (.ref b286), .unset, .unset, .unset, .unset, .unset, .unset] [(.ref b314), (.ref b314)])) rfl (by rw [hml]; rfl) (lenOf own_pd__28_29V rfl) rfl (W := 1) (by show 2 * 0 + _ ≤ _; exact Nat.le_of_eq rfl) (hb hby at_72) (by decide) (by decide) (by decide) (by decide)
    obtain ⟨rfl, Nq321, Kq321, F321_0, F321_1, F321_2⟩ := hQ321
    have N321 := Fr.app N301 Nq321
    have O321 := O314.keep Kq321 (allS ge_b314 all0)
    have K321 := K314.trans Kq321 (allS (Or.inr sz_b314) all0)
    refine own_st st321 ?_
    show own_go _ _ _ _ _ _ _ (T321.setTop (mkF m 75 #[.val (.long p0), .second, .val (.long p1), .second, .val (.long p2), .second, .val (.int p3), .val (.long sv), .second, .val (.int (0 : Int32)), .val (.ref b284), .val (.ref b286), .unset, .unset, .unset, .unset, .unset, .unset] [(.ref b314)]))
    refine own_st (fun _ k => XS.astore X321.here hx rfl (hb hby at_75) rfl rfl (l' := #[.val (.long p0), .second, .val (.long p1), .second, .val (.long p2), .second, .val (.int p3), .val (.long sv), .second, .val (.int (0 : Int32)), .val (.ref b284), .val (.ref b286), .val (.ref b314), .unset, .unset, .unset, .unset, .unset]) rfl k) ?_
    show own_go _ _ _ _ _ _ _ (T321.setTop (mkF m 77 #[.val (.long p0), .second, .val (.long p1), .second, .val (.long p2), .second, .val (.int p3), .val (.long sv), .second, .val (.int (0 : Int32)), .val (.ref b284), .val (.ref b286), .val (.ref b314), .unset, .unset, .unset, .unset, .unset] []))
    refine own_st (fun _ k => XS.aload X321.here hx rfl (hb hby at_77) rfl rfl k) ?_
    show own_go _ _ _ _ _ _ _ (T321.setTop (mkF m 79 #[.val (.long p0), .second, .val (.long p1), .second, .val (.long p2), .second, .val (.int p3), .val (.long sv), .second, .val (.int (0 : Int32)), .val (.ref b284), .val (.ref b286), .val (.ref b314), .unset, .unset, .unset, .unset, .unset] [(.ref b284)]))
    obtain ⟨T322, h322, X322, e322, E322, A322, D322, -, st322⟩ := newO X321 hx hZ hown (hw _ (List.mem_of_getElem? (i := 87) rfl)) (hw _ (List.mem_of_getElem? (i := 88) rfl)) (hw _ (List.mem_of_getElem? (i := 89) rfl)) rfl (g := (mkF m 79 #[.val (.long p0), .second, .val (.long p1), .second, .val (.long p2), .second, .val (.int p3), .val (.long sv), .second, .val (.int (0 : Int32)), .val (.ref b284), .val (.ref b286), .val (.ref b314), .unset, .unset, .unset, .unset, .unset] [(.ref b284)])) rfl (hb hby at_79) (by decide) (by decide)
    obtain ⟨b322, g322⟩ : ∃ z, z = T321.heap.size := ⟨_, rfl⟩
    rw [← g322] at A322 D322 st322
    have ge_b322 : n0 ≤ b322 := by rw [g322]; exact own_osz O321
    have sz_b322 : h0.size ≤ b322 := by rw [g322]; exact K321.1
    have f323 := ((f315.ext E314).keep Kq321)
    have ne_b284_b322 : b284 ≠ b322 := (fun q => absurd f323.lt (by rw [q, g322]; exact Nat.lt_irrefl _))
    have f324 := ((f316.ext E314).keep Kq321)
    have ne_al285_b322 : al285 ≠ b322 := (fun q => absurd f324.lt (by rw [q, g322]; exact Nat.lt_irrefl _))
    have f325 := ((f317.ext E314).keep Kq321)
    have ne_b286_b322 : b286 ≠ b322 := (fun q => absurd f325.lt (by rw [q, g322]; exact Nat.lt_irrefl _))
    have f326 := ((f318.ext E314).keep Kq321)
    have ne_r288_b322 : r288 ≠ b322 := (fun q => absurd f326.lt (by rw [q, g322]; exact Nat.lt_irrefl _))
    have f327 := ((f319.ext E314).keep Kq321)
    have ne_r289_b322 : r289 ≠ b322 := (fun q => absurd f327.lt (by rw [q, g322]; exact Nat.lt_irrefl _))
    have f328 := ((f320.ext E314).keep Kq321)
    have ne_r300_b322 : r300 ≠ b322 := (fun q => absurd f328.lt (by rw [q, g322]; exact Nat.lt_irrefl _))
    have f329 := ((A301.ext E314).keep Kq321)
    have ne_r301_b322 : r301 ≠ b322 := (fun q => absurd f329.lt (by rw [q, g322]; exact Nat.lt_irrefl _))
    have f330 := (A314.keep Kq321)
    have ne_b314_b322 : b314 ≠ b322 := (fun q => absurd f330.lt (by rw [q, g322]; exact Nat.lt_irrefl _))
    have O322 := O321.ext E322
    have K322 := K321.ext E322
    refine own_st st322 ?_
    show own_go _ _ _ _ _ _ _ (T322.setTop (mkF m 82 #[.val (.long p0), .second, .val (.long p1), .second, .val (.long p2), .second, .val (.int p3), .val (.long sv), .second, .val (.int (0 : Int32)), .val (.ref b284), .val (.ref b286), .val (.ref b314), .unset, .unset, .unset, .unset, .unset] [(.ref b322), (.ref b284)]))
    refine own_st (fun _ k => XS.dup X322.here hx rfl (hb hby at_82) rfl rfl k) ?_
    show own_go _ _ _ _ _ _ _ (T322.setTop (mkF m 83 #[.val (.long p0), .second, .val (.long p1), .second, .val (.long p2), .second, .val (.int p3), .val (.long sv), .second, .val (.int (0 : Int32)), .val (.ref b284), .val (.ref b286), .val (.ref b314), .unset, .unset, .unset, .unset, .unset] [(.ref b322), (.ref b322), (.ref b284)]))
    refine own_st (fun _ k => XS.lconst X322.here hx rfl (hb hby at_83) k) ?_
    show own_go _ _ _ _ _ _ _ (T322.setTop (mkF m 84 #[.val (.long p0), .second, .val (.long p1), .second, .val (.long p2), .second, .val (.int p3), .val (.long sv), .second, .val (.int (0 : Int32)), .val (.ref b284), .val (.ref b286), .val (.ref b314), .unset, .unset, .unset, .unset, .unset] [(.long (0 : Int64)), (.ref b322), (.ref b322), (.ref b284)]))
    refine own_st (fun _ k => XS.lloadN X322.here hx rfl (hb hby at_84) rfl k) ?_
    show own_go _ _ _ _ _ _ _ (T322.setTop (mkF m 85 #[.val (.long p0), .second, .val (.long p1), .second, .val (.long p2), .second, .val (.int p3), .val (.long sv), .second, .val (.int (0 : Int32)), .val (.ref b284), .val (.ref b286), .val (.ref b314), .unset, .unset, .unset, .unset, .unset] [(.long p1), (.long (0 : Int64)), (.ref b322), (.ref b322), (.ref b284)]))
    obtain ⟨v331, T331, L331, X331, hQ331, st331⟩ := own_callN X322 hx hZ (argsL := [(.long (0 : Int64)), (.long p1)]) (rest := [(.ref b322), (.ref b284)]) (rm_rinit l Z a0 hw b322 (0 : Int64) p1 h322 n0 O322 ge_b322 A322 (D322 (Or.inr (hw _ (List.mem_of_getElem? (i := 100) rfl))) (ty := .long) (by decide)) (D322 (Or.inr (hw _ (List.mem_of_getElem? (i := 102) rfl))) (ty := .long) (by decide))) rfl hown (hw _ (List.mem_of_getElem? (i := 90) rfl)) (hw _ (List.mem_of_getElem? (i := 91) rfl)) (hw _ (List.mem_of_getElem? (i := 89) rfl)) (hw _ (List.mem_of_getElem? (i := 92) rfl)) (by decide) e322 (g := (mkF m 85 #[.val (.long p0), .second, .val (.long p1), .second, .val (.long p2), .second, .val (.int p3), .val (.long sv), .second, .val (.int (0 : Int32)), .val (.ref b284), .val (.ref b286), .val (.ref b314), .unset, .unset, .unset, .unset, .unset] [(.long p1), (.long (0 : Int64)), (.ref b322), (.ref b322), (.ref b284)])) rfl (by rw [hml]; rfl) (lenOf own_pd__28JJ_29V rfl) rfl (W := 2) (by show 2 * 0 + _ ≤ _; exact Nat.le_of_eq rfl) (hb hby at_85) (by decide) (by decide) (by decide) (by decide)
    obtain ⟨rfl, Nq331, Kq331, F331_0, F331_1⟩ := hQ331
    have N331 := Fr.app N321 Nq331
    have O331 := O322.keep Kq331 (allS ge_b322 all0)
    have K331 := K322.trans Kq331 (allS (Or.inr sz_b322) all0)
    refine own_st st331 ?_
    show own_go _ _ _ _ _ _ _ (T331.setTop (mkF m 88 #[.val (.long p0), .second, .val (.long p1), .second, .val (.long p2), .second, .val (.int p3), .val (.long sv), .second, .val (.int (0 : Int32)), .val (.ref b284), .val (.ref b286), .val (.ref b314), .unset, .unset, .unset, .unset, .unset] [(.ref b322), (.ref b284)]))
    refine own_st (fun _ k => XS.aconstNull X331.here hx rfl (hb hby at_88) k) ?_
    show own_go _ _ _ _ _ _ _ (T331.setTop (mkF m 89 #[.val (.long p0), .second, .val (.long p1), .second, .val (.long p2), .second, .val (.int p3), .val (.long sv), .second, .val (.int (0 : Int32)), .val (.ref b284), .val (.ref b286), .val (.ref b314), .unset, .unset, .unset, .unset, .unset] [.null, (.ref b322), (.ref b284)]))
    refine own_st (fun _ k => XS.aload X331.here hx rfl (hb hby at_89) rfl rfl k) ?_
    show own_go _ _ _ _ _ _ _ (T331.setTop (mkF m 91 #[.val (.long p0), .second, .val (.long p1), .second, .val (.long p2), .second, .val (.int p3), .val (.long sv), .second, .val (.int (0 : Int32)), .val (.ref b284), .val (.ref b286), .val (.ref b314), .unset, .unset, .unset, .unset, .unset] [(.ref b314), .null, (.ref b322), (.ref b284)]))
    refine own_st (fun _ k => XS.iconst X331.here hx rfl (hb hby at_91) k) ?_
    show own_go _ _ _ _ _ _ _ (T331.setTop (mkF m 92 #[.val (.long p0), .second, .val (.long p1), .second, .val (.long p2), .second, .val (.int p3), .val (.long sv), .second, .val (.int (0 : Int32)), .val (.ref b284), .val (.ref b286), .val (.ref b314), .unset, .unset, .unset, .unset, .unset] [(.int (0 : Int32)), (.ref b314), .null, (.ref b322), (.ref b284)]))
    refine own_st (fun _ k => XS.lconst X331.here hx rfl (hb hby at_92) k) ?_
    show own_go _ _ _ _ _ _ _ (T331.setTop (mkF m 93 #[.val (.long p0), .second, .val (.long p1), .second, .val (.long p2), .second, .val (.int p3), .val (.long sv), .second, .val (.int (0 : Int32)), .val (.ref b284), .val (.ref b286), .val (.ref b314), .unset, .unset, .unset, .unset, .unset] [(.long (0 : Int64)), (.int (0 : Int32)), (.ref b314), .null, (.ref b322), (.ref b284)]))
    have f333 := ((f323.ext E322).keep Kq331)
    have f334 := ((((G301_0.ext E314).keep Kq321 (ninS ne_b284_b314 nin0)).ext E322).keep Kq331 (ninS ne_b284_b322 nin0))
    have f335 := ((((G301_1.ext E314).keep Kq321 (ninS ne_b284_b314 nin0)).ext E322).keep Kq331 (ninS ne_b284_b322 nin0))
    have f336 := ((((G301_2.ext E314).keep Kq321 (ninS ne_b284_b314 nin0)).ext E322).keep Kq331 (ninS ne_b284_b322 nin0))
    have f337 := ((((G301_3.ext E314).keep Kq321 (ninS ne_b284_b314 nin0)).ext E322).keep Kq331 (ninS ne_b284_b322 nin0))
    have f338 := ((((G301_4.ext E314).keep Kq321 (ninS ne_b284_b314 nin0)).ext E322).keep Kq331 (ninS ne_b284_b322 nin0))
    have f339 := ((((G301_5.ext E314).keep Kq321 (ninS ne_b284_b314 nin0)).ext E322).keep Kq331 (ninS ne_b284_b322 nin0))
    have f340 := ((((G301_6.ext E314).keep Kq321 (ninS ne_b284_b314 nin0)).ext E322).keep Kq331 (ninS ne_b284_b322 nin0))
    have f341 := (A322.keep Kq331)
    have f342 := ((f330.ext E322).keep Kq331)
    have f343 := ((F321_0.ext E322).keep Kq331 (ninS ne_b314_b322 nin0))
    have f344 := ((F321_2.ext E322).keep Kq331 (ninS ne_b314_b322 nin0))
    have f345 := ((f324.ext E322).keep Kq331)
    have f346 := (((((((((F285_2.ext E286).keep Kq288 nin0).keep Kq289 (ninS (Ne.symm ne_b284_al285) nin0)).keep Kq300 nin0).keep Kq301 (ninS (Ne.symm ne_b284_al285) nin0)).ext E314).keep Kq321 (ninS ne_al285_b314 nin0)).ext E322).keep Kq331 (ninS ne_al285_b322 nin0))
    obtain ⟨v332, T332, L332, X332, hQ332, st332⟩ := own_callV X331 hx hZ (argsL := [(.ref b322), .null, (.ref b314), (.int (0 : Int32)), (.long (0 : Int64))]) (rest := []) (rm_read l Z a0 hw b284 b322 b314 al285 r301 sw301 p1 sv c_EMPTY_ELEMENTDATA c_DEFAULTCAPACITY_EMPTY_ELEMENTDATA c_cache c_EMPTY T331.heap n0 O331 hS ge_b284 f333 f334 f335 f336 f337 f338 f339 f340 f341 F331_1 f342 f343 f344 f345 f346) hown (hw _ (List.mem_of_getElem? (i := 103) rfl)) (hw _ (List.mem_of_getElem? (i := 104) rfl)) (notFace_of_selects (args := #[]) (mvT hZ (hw _ (List.mem_of_getElem? (i := 106) rfl)))) (hw _ (List.mem_of_getElem? (i := 106) rfl)) (hw _ (List.mem_of_getElem? (i := 105) rfl)) (hw _ (List.mem_of_getElem? (i := 3) rfl)) (hw _ (List.mem_of_getElem? (i := 107) rfl)) (by decide) rfl f333 (g := (mkF m 93 #[.val (.long p0), .second, .val (.long p1), .second, .val (.long p2), .second, .val (.int p3), .val (.long sv), .second, .val (.int (0 : Int32)), .val (.ref b284), .val (.ref b286), .val (.ref b314), .unset, .unset, .unset, .unset, .unset] [(.long (0 : Int64)), (.int (0 : Int32)), (.ref b314), .null, (.ref b322), (.ref b284)])) rfl (by rw [hml]; rfl) (lenOf own_pd__28Lcom_2fexample_2fusher_2fusher_2fOutboxRuns_24Range_3bLjava_2fmath_2fBigDecimal_3bLjava_2futil_2fList_3bZJ_29V rfl) rfl (W := 0) (by show 2 * 0 + _ ≤ _; exact Nat.le_of_eq rfl) (hb hby at_93) (by decide) (by decide) (by decide) (by decide)
    obtain ⟨rfl, Nq332, Kq332, F332_0, F332_1⟩ := hQ332
    have N332 := Fr.app N331 Nq332
    have O332 := O331.keep Kq332 (allS ge_b284 all0)
    have K332 := K331.trans Kq332 (allS (Or.inr sz_b284) all0)
    refine own_st st332 ?_
    show own_go _ _ _ _ _ _ _ (T332.setTop (mkF m 96 #[.val (.long p0), .second, .val (.long p1), .second, .val (.long p2), .second, .val (.int p3), .val (.long sv), .second, .val (.int (0 : Int32)), .val (.ref b284), .val (.ref b286), .val (.ref b314), .unset, .unset, .unset, .unset, .unset] []))
    refine own_st (fun _ k => XS.aload X332.here hx rfl (hb hby at_96) rfl rfl k) ?_
    show own_go _ _ _ _ _ _ _ (T332.setTop (mkF m 98 #[.val (.long p0), .second, .val (.long p1), .second, .val (.long p2), .second, .val (.int p3), .val (.long sv), .second, .val (.int (0 : Int32)), .val (.ref b284), .val (.ref b286), .val (.ref b314), .unset, .unset, .unset, .unset, .unset] [(.ref b284)]))
    refine own_st (fun _ k => XS.iload X332.here hx rfl (hb hby at_98) rfl k) ?_
    show own_go _ _ _ _ _ _ _ (T332.setTop (mkF m 100 #[.val (.long p0), .second, .val (.long p1), .second, .val (.long p2), .second, .val (.int p3), .val (.long sv), .second, .val (.int (0 : Int32)), .val (.ref b284), .val (.ref b286), .val (.ref b314), .unset, .unset, .unset, .unset, .unset] [(.int (0 : Int32)), (.ref b284)]))
    refine own_st (fun _ k => XS.ifYes X332.here hx rfl (pc0 := 100) (pc' := 107) rfl (hb hby at_100) rfl (by decide) (by decide) (by decide) k) ?_
    show own_go _ _ _ _ _ _ _ (T332.setTop (mkF m 107 #[.val (.long p0), .second, .val (.long p1), .second, .val (.long p2), .second, .val (.int p3), .val (.long sv), .second, .val (.int (0 : Int32)), .val (.ref b284), .val (.ref b286), .val (.ref b314), .unset, .unset, .unset, .unset, .unset] [(.ref b284)]))
    refine own_st (fun _ k => XS.lload X332.here hx rfl (hb hby at_107) rfl k) ?_
    show own_go _ _ _ _ _ _ _ (T332.setTop (mkF m 109 #[.val (.long p0), .second, .val (.long p1), .second, .val (.long p2), .second, .val (.int p3), .val (.long sv), .second, .val (.int (0 : Int32)), .val (.ref b284), .val (.ref b286), .val (.ref b314), .unset, .unset, .unset, .unset, .unset] [(.long p2), (.ref b284)]))
    obtain ⟨v347, T347, L347, X347, hQ347, st347⟩ := own_callS X332 hx hZ (argsL := [(.long p2)]) (rest := [(.ref b284)]) (rm_lvo l Z a0 hw p2 c_EMPTY_ELEMENTDATA c_DEFAULTCAPACITY_EMPTY_ELEMENTDATA c_cache c_EMPTY T332.heap n0 O332 hS) hown (hw _ (List.mem_of_getElem? (i := 44) rfl)) (hw _ (List.mem_of_getElem? (i := 45) rfl)) (hw _ (List.mem_of_getElem? (i := 46) rfl)) (hw _ (List.mem_of_getElem? (i := 47) rfl)) (by decide) rfl (g := (mkF m 109 #[.val (.long p0), .second, .val (.long p1), .second, .val (.long p2), .second, .val (.int p3), .val (.long sv), .second, .val (.int (0 : Int32)), .val (.ref b284), .val (.ref b286), .val (.ref b314), .unset, .unset, .unset, .unset, .unset] [(.long p2), (.ref b284)])) rfl (by rw [hml]; rfl) (lenOf own_pd__28J_29Ljava_2flang_2fLong_3b rfl) rfl (W := 1) (by show 2 * 0 + _ ≤ _; exact Nat.le_of_eq rfl) (hb hby at_109) (by decide) (by decide) (by decide) (by decide)
    obtain ⟨r347, rfl, Nq347, Kq347, A347, F347⟩ := hQ347
    have N347 := Fr.app N332 Nq347
    have O347 := O332.keep Kq347 all0
    have K347 := K332.trans Kq347 all0
    refine own_st st347 ?_
    show own_go _ _ _ _ _ _ _ (T347.setTop (mkF m 112 #[.val (.long p0), .second, .val (.long p1), .second, .val (.long p2), .second, .val (.int p3), .val (.long sv), .second, .val (.int (0 : Int32)), .val (.ref b284), .val (.ref b286), .val (.ref b314), .unset, .unset, .unset, .unset, .unset] [(.ref r347), (.ref b284)]))
    by_cases hc348 : p2 < sv
    · skip
      by_cases hc349 : p1 < p2
      · skip
        have f351 := ((f333.keep Kq332).keep Kq347)
        have f352 := (F332_0.keep Kq347 nin0)
        have f353 := (F332_1.keep Kq347 nin0)
        obtain ⟨v350, T350, L350, X350, hQ350, st350⟩ := own_callV X347 hx hZ (argsL := [(.ref r347)]) (rest := []) (rm_un_l_1 l Z a0 hw b284 r347 p1 sv p2 c_EMPTY_ELEMENTDATA c_DEFAULTCAPACITY_EMPTY_ELEMENTDATA c_cache c_EMPTY T347.heap n0 O347 hS hc348 hc349 f351 f352 f353 A347 F347) hown (hw _ (List.mem_of_getElem? (i := 194) rfl)) (hw _ (List.mem_of_getElem? (i := 195) rfl)) (notFace_of_selects (args := #[]) (mvT hZ (hw _ (List.mem_of_getElem? (i := 197) rfl)))) (hw _ (List.mem_of_getElem? (i := 197) rfl)) (hw _ (List.mem_of_getElem? (i := 196) rfl)) (hw _ (List.mem_of_getElem? (i := 3) rfl)) (hw _ (List.mem_of_getElem? (i := 198) rfl)) (by decide) rfl f351 (g := (mkF m 112 #[.val (.long p0), .second, .val (.long p1), .second, .val (.long p2), .second, .val (.int p3), .val (.long sv), .second, .val (.int (0 : Int32)), .val (.ref b284), .val (.ref b286), .val (.ref b314), .unset, .unset, .unset, .unset, .unset] [(.ref r347), (.ref b284)])) rfl (by rw [hml]; rfl) (lenOf own_pd__28Ljava_2flang_2fLong_3b_29Ljava_2futil_2fOptional_3b rfl) rfl (W := 0) (by show 2 * 0 + _ ≤ _; exact Nat.le_of_eq rfl) (hb hby at_112) (by decide) (by decide) (by decide) (by decide)
        obtain ⟨r350, x350, rfl, Nq350, Kq350, A350, F350, B350, G350, I350⟩ := hQ350
        have N350 := Fr.app N347 Nq350
        have O350 := O347.keep Kq350 all0
        have K350 := K347.trans Kq350 all0
        refine own_st st350 ?_
        show own_go _ _ _ _ _ _ _ (T350.setTop (mkF m 115 #[.val (.long p0), .second, .val (.long p1), .second, .val (.long p2), .second, .val (.int p3), .val (.long sv), .second, .val (.int (0 : Int32)), .val (.ref b284), .val (.ref b286), .val (.ref b314), .unset, .unset, .unset, .unset, .unset] [(.ref r350)]))
        refine own_st (fun _ k => XS.astore X350.here hx rfl (hb hby at_115) rfl rfl (l' := #[.val (.long p0), .second, .val (.long p1), .second, .val (.long p2), .second, .val (.int p3), .val (.long sv), .second, .val (.int (0 : Int32)), .val (.ref b284), .val (.ref b286), .val (.ref b314), .val (.ref r350), .unset, .unset, .unset, .unset]) rfl k) ?_
        show own_go _ _ _ _ _ _ _ (T350.setTop (mkF m 117 #[.val (.long p0), .second, .val (.long p1), .second, .val (.long p2), .second, .val (.int p3), .val (.long sv), .second, .val (.int (0 : Int32)), .val (.ref b284), .val (.ref b286), .val (.ref b314), .val (.ref r350), .unset, .unset, .unset, .unset] []))
        refine own_st (fun _ k => XS.iload X350.here hx rfl (hb hby at_117) rfl k) ?_
        show own_go _ _ _ _ _ _ _ (T350.setTop (mkF m 119 #[.val (.long p0), .second, .val (.long p1), .second, .val (.long p2), .second, .val (.int p3), .val (.long sv), .second, .val (.int (0 : Int32)), .val (.ref b284), .val (.ref b286), .val (.ref b314), .val (.ref r350), .unset, .unset, .unset, .unset] [(.int (0 : Int32))]))
        refine own_st (fun _ k => XS.ifYes X350.here hx rfl (pc0 := 119) (pc' := 143) rfl (hb hby at_119) rfl (by decide) (by decide) (by decide) k) ?_
        show own_go _ _ _ _ _ _ _ (T350.setTop (mkF m 143 #[.val (.long p0), .second, .val (.long p1), .second, .val (.long p2), .second, .val (.int p3), .val (.long sv), .second, .val (.int (0 : Int32)), .val (.ref b284), .val (.ref b286), .val (.ref b314), .val (.ref r350), .unset, .unset, .unset, .unset] []))
        refine own_st (fun _ k => XS.lload X350.here hx rfl (hb hby at_143) rfl k) ?_
        show own_go _ _ _ _ _ _ _ (T350.setTop (mkF m 145 #[.val (.long p0), .second, .val (.long p1), .second, .val (.long p2), .second, .val (.int p3), .val (.long sv), .second, .val (.int (0 : Int32)), .val (.ref b284), .val (.ref b286), .val (.ref b314), .val (.ref r350), .unset, .unset, .unset, .unset] [(.long p2)]))
        refine own_st (fun _ k => XS.lload X350.here hx rfl (hb hby at_145) rfl k) ?_
        show own_go _ _ _ _ _ _ _ (T350.setTop (mkF m 147 #[.val (.long p0), .second, .val (.long p1), .second, .val (.long p2), .second, .val (.int p3), .val (.long sv), .second, .val (.int (0 : Int32)), .val (.ref b284), .val (.ref b286), .val (.ref b314), .val (.ref r350), .unset, .unset, .unset, .unset] [(.long sv), (.long p2)]))
        refine own_st (fun _ k => XS.lcmp X350.here hx rfl (hb hby at_147) rfl k) ?_
        show own_go _ _ _ _ _ _ _ (T350.setTop (mkF m 148 #[.val (.long p0), .second, .val (.long p1), .second, .val (.long p2), .second, .val (.int p3), .val (.long sv), .second, .val (.int (0 : Int32)), .val (.ref b284), .val (.ref b286), .val (.ref b314), .val (.ref r350), .unset, .unset, .unset, .unset] [(.int (lcmpW p2 sv))]))
        refine own_st (fun _ k => XS.ifNo X350.here hx rfl (hb hby at_148) rfl (XT.ll_ge_f hc348) k) ?_
        show own_go _ _ _ _ _ _ _ (T350.setTop (mkF m 151 #[.val (.long p0), .second, .val (.long p1), .second, .val (.long p2), .second, .val (.int p3), .val (.long sv), .second, .val (.int (0 : Int32)), .val (.ref b284), .val (.ref b286), .val (.ref b314), .val (.ref r350), .unset, .unset, .unset, .unset] []))
        refine own_st (fun _ k => XS.lload X350.here hx rfl (hb hby at_151) rfl k) ?_
        show own_go _ _ _ _ _ _ _ (T350.setTop (mkF m 153 #[.val (.long p0), .second, .val (.long p1), .second, .val (.long p2), .second, .val (.int p3), .val (.long sv), .second, .val (.int (0 : Int32)), .val (.ref b284), .val (.ref b286), .val (.ref b314), .val (.ref r350), .unset, .unset, .unset, .unset] [(.long p2)]))
        refine own_st (fun _ k => XS.lloadN X350.here hx rfl (hb hby at_153) rfl k) ?_
        show own_go _ _ _ _ _ _ _ (T350.setTop (mkF m 154 #[.val (.long p0), .second, .val (.long p1), .second, .val (.long p2), .second, .val (.int p3), .val (.long sv), .second, .val (.int (0 : Int32)), .val (.ref b284), .val (.ref b286), .val (.ref b314), .val (.ref r350), .unset, .unset, .unset, .unset] [(.long p1), (.long p2)]))
        refine own_st (fun _ k => XS.lcmp X350.here hx rfl (hb hby at_154) rfl k) ?_
        show own_go _ _ _ _ _ _ _ (T350.setTop (mkF m 155 #[.val (.long p0), .second, .val (.long p1), .second, .val (.long p2), .second, .val (.int p3), .val (.long sv), .second, .val (.int (0 : Int32)), .val (.ref b284), .val (.ref b286), .val (.ref b314), .val (.ref r350), .unset, .unset, .unset, .unset] [(.int (lcmpW p2 p1))]))
        refine own_st (fun _ k => XS.ifNo X350.here hx rfl (hb hby at_155) rfl (XT.ll_le_f hc349) k) ?_
        show own_go _ _ _ _ _ _ _ (T350.setTop (mkF m 158 #[.val (.long p0), .second, .val (.long p1), .second, .val (.long p2), .second, .val (.int p3), .val (.long sv), .second, .val (.int (0 : Int32)), .val (.ref b284), .val (.ref b286), .val (.ref b314), .val (.ref r350), .unset, .unset, .unset, .unset] []))
        refine own_st (fun _ k => XS.iconst X350.here hx rfl (hb hby at_158) k) ?_
        show own_go _ _ _ _ _ _ _ (T350.setTop (mkF m 159 #[.val (.long p0), .second, .val (.long p1), .second, .val (.long p2), .second, .val (.int p3), .val (.long sv), .second, .val (.int (0 : Int32)), .val (.ref b284), .val (.ref b286), .val (.ref b314), .val (.ref r350), .unset, .unset, .unset, .unset] [(.int (1 : Int32))]))
        refine own_st (fun _ k => XS.goto X350.here hx rfl (pc0 := 159) (pc' := 163) rfl (hb hby at_159) (by decide) (by decide) k) ?_
        show own_go _ _ _ _ _ _ _ (T350.setTop (mkF m 163 #[.val (.long p0), .second, .val (.long p1), .second, .val (.long p2), .second, .val (.int p3), .val (.long sv), .second, .val (.int (0 : Int32)), .val (.ref b284), .val (.ref b286), .val (.ref b314), .val (.ref r350), .unset, .unset, .unset, .unset] [(.int (1 : Int32))]))
        refine own_st (fun _ k => XS.istore X350.here hx rfl (hb hby at_163) rfl (l' := #[.val (.long p0), .second, .val (.long p1), .second, .val (.long p2), .second, .val (.int p3), .val (.long sv), .second, .val (.int (0 : Int32)), .val (.ref b284), .val (.ref b286), .val (.ref b314), .val (.ref r350), .val (.int (1 : Int32)), .unset, .unset, .unset]) rfl k) ?_
        show own_go _ _ _ _ _ _ _ (T350.setTop (mkF m 165 #[.val (.long p0), .second, .val (.long p1), .second, .val (.long p2), .second, .val (.int p3), .val (.long sv), .second, .val (.int (0 : Int32)), .val (.ref b284), .val (.ref b286), .val (.ref b314), .val (.ref r350), .val (.int (1 : Int32)), .unset, .unset, .unset] []))
        refine own_st (fun _ k => XS.lload X350.here hx rfl (hb hby at_165) rfl k) ?_
        show own_go _ _ _ _ _ _ _ (T350.setTop (mkF m 167 #[.val (.long p0), .second, .val (.long p1), .second, .val (.long p2), .second, .val (.int p3), .val (.long sv), .second, .val (.int (0 : Int32)), .val (.ref b284), .val (.ref b286), .val (.ref b314), .val (.ref r350), .val (.int (1 : Int32)), .unset, .unset, .unset] [(.long p2)]))
        refine own_st (fun _ k => XS.lstore X350.here hx rfl (hb hby at_167) rfl (l' := #[.val (.long p0), .second, .val (.long p1), .second, .val (.long p2), .second, .val (.int p3), .val (.long sv), .second, .val (.int (0 : Int32)), .val (.ref b284), .val (.ref b286), .val (.ref b314), .val (.ref r350), .val (.int (1 : Int32)), .val (.long p2), .second, .unset]) rfl k) ?_
        show own_go _ _ _ _ _ _ _ (T350.setTop (mkF m 169 #[.val (.long p0), .second, .val (.long p1), .second, .val (.long p2), .second, .val (.int p3), .val (.long sv), .second, .val (.int (0 : Int32)), .val (.ref b284), .val (.ref b286), .val (.ref b314), .val (.ref r350), .val (.int (1 : Int32)), .val (.long p2), .second, .unset] []))
        refine own_st (fun _ k => XS.goto X350.here hx rfl (pc0 := 169) (pc' := 190) rfl (hb hby at_169) (by decide) (by decide) k) ?_
        show own_go _ _ _ _ _ _ _ (T350.setTop (mkF m 190 #[.val (.long p0), .second, .val (.long p1), .second, .val (.long p2), .second, .val (.int p3), .val (.long sv), .second, .val (.int (0 : Int32)), .val (.ref b284), .val (.ref b286), .val (.ref b314), .val (.ref r350), .val (.int (1 : Int32)), .val (.long p2), .second, .unset] []))
        refine own_st (fun _ k => XS.iload X350.here hx rfl (hb hby at_190) rfl k) ?_
        show own_go _ _ _ _ _ _ _ (T350.setTop (mkF m 192 #[.val (.long p0), .second, .val (.long p1), .second, .val (.long p2), .second, .val (.int p3), .val (.long sv), .second, .val (.int (0 : Int32)), .val (.ref b284), .val (.ref b286), .val (.ref b314), .val (.ref r350), .val (.int (1 : Int32)), .val (.long p2), .second, .unset] [(.int (1 : Int32))]))
        refine own_st (fun _ k => XS.ifYes X350.here hx rfl (pc0 := 192) (pc' := 209) rfl (hb hby at_192) rfl (by decide) (by decide) (by decide) k) ?_
        show own_go _ _ _ _ _ _ _ (T350.setTop (mkF m 209 #[.val (.long p0), .second, .val (.long p1), .second, .val (.long p2), .second, .val (.int p3), .val (.long sv), .second, .val (.int (0 : Int32)), .val (.ref b284), .val (.ref b286), .val (.ref b314), .val (.ref r350), .val (.int (1 : Int32)), .val (.long p2), .second, .unset] []))
        refine own_st (fun _ k => XS.aload X350.here hx rfl (hb hby at_209) rfl rfl k) ?_
        show own_go _ _ _ _ _ _ _ (T350.setTop (mkF m 211 #[.val (.long p0), .second, .val (.long p1), .second, .val (.long p2), .second, .val (.int p3), .val (.long sv), .second, .val (.int (0 : Int32)), .val (.ref b284), .val (.ref b286), .val (.ref b314), .val (.ref r350), .val (.int (1 : Int32)), .val (.long p2), .second, .unset] [(.ref r350)]))
        obtain ⟨v354, T354, L354, X354, hQ354, st354⟩ := own_callV X350 hx hZ (argsL := []) (rest := []) (rmo_isPresent_R l Z a0 hw r350 x350 T350.heap n0 O350 F350) hown (hw _ (List.mem_of_getElem? (i := 199) rfl)) (hw _ (List.mem_of_getElem? (i := 132) rfl)) (notFace_of_selects (args := #[]) (mvT hZ (hw _ (List.mem_of_getElem? (i := 134) rfl)))) (hw _ (List.mem_of_getElem? (i := 134) rfl)) (hw _ (List.mem_of_getElem? (i := 133) rfl)) (hw _ (List.mem_of_getElem? (i := 123) rfl)) (hw _ (List.mem_of_getElem? (i := 135) rfl)) (by decide) rfl A350 (g := (mkF m 211 #[.val (.long p0), .second, .val (.long p1), .second, .val (.long p2), .second, .val (.int p3), .val (.long sv), .second, .val (.int (0 : Int32)), .val (.ref b284), .val (.ref b286), .val (.ref b314), .val (.ref r350), .val (.int (1 : Int32)), .val (.long p2), .second, .unset] [(.ref r350)])) rfl (by rw [hml]; rfl) (lenOf own_pd__28_29Z rfl) rfl (W := 0) (by show 2 * 0 + _ ≤ _; exact Nat.le_of_eq rfl) (hb hby at_211) (by decide) (by decide) (by decide) (by decide)
        obtain ⟨rfl, Nq354, eq354⟩ := hQ354
        have N354 := Fr.app N350 Nq354
        refine own_st st354 ?_
        show own_go _ _ _ _ _ _ _ (T354.setTop (mkF m 214 #[.val (.long p0), .second, .val (.long p1), .second, .val (.long p2), .second, .val (.int p3), .val (.long sv), .second, .val (.int (0 : Int32)), .val (.ref b284), .val (.ref b286), .val (.ref b314), .val (.ref r350), .val (.int (1 : Int32)), .val (.long p2), .second, .unset] [(.int (1 : Int32))]))
        refine own_st (fun _ k => XS.ifYes X354.here hx rfl (pc0 := 214) (pc' := 219) rfl (hb hby at_214) rfl (by decide) (by decide) (by decide) k) ?_
        show own_go _ _ _ _ _ _ _ (T354.setTop (mkF m 219 #[.val (.long p0), .second, .val (.long p1), .second, .val (.long p2), .second, .val (.int p3), .val (.long sv), .second, .val (.int (0 : Int32)), .val (.ref b284), .val (.ref b286), .val (.ref b314), .val (.ref r350), .val (.int (1 : Int32)), .val (.long p2), .second, .unset] []))
        refine own_st (fun _ k => XS.aload X354.here hx rfl (hb hby at_219) rfl rfl k) ?_
        show own_go _ _ _ _ _ _ _ (T354.setTop (mkF m 221 #[.val (.long p0), .second, .val (.long p1), .second, .val (.long p2), .second, .val (.int p3), .val (.long sv), .second, .val (.int (0 : Int32)), .val (.ref b284), .val (.ref b286), .val (.ref b314), .val (.ref r350), .val (.int (1 : Int32)), .val (.long p2), .second, .unset] [(.ref r350)]))
        obtain ⟨v355, T355, L355, X355, hQ355, st355⟩ := own_callV X354 hx hZ (argsL := []) (rest := []) (rmo_get_R l Z a0 hw r350 x350 T350.heap n0 O350 F350) hown (hw _ (List.mem_of_getElem? (i := 216) rfl)) (hw _ (List.mem_of_getElem? (i := 217) rfl)) (notFace_of_selects (args := #[]) (mvT hZ (hw _ (List.mem_of_getElem? (i := 219) rfl)))) (hw _ (List.mem_of_getElem? (i := 219) rfl)) (hw _ (List.mem_of_getElem? (i := 218) rfl)) (hw _ (List.mem_of_getElem? (i := 123) rfl)) (hw _ (List.mem_of_getElem? (i := 220) rfl)) (by decide) eq354 A350 (g := (mkF m 221 #[.val (.long p0), .second, .val (.long p1), .second, .val (.long p2), .second, .val (.int p3), .val (.long sv), .second, .val (.int (0 : Int32)), .val (.ref b284), .val (.ref b286), .val (.ref b314), .val (.ref r350), .val (.int (1 : Int32)), .val (.long p2), .second, .unset] [(.ref r350)])) rfl (by rw [hml]; rfl) (lenOf own_pd__28_29Ljava_2flang_2fObject_3b rfl) rfl (W := 0) (by show 2 * 0 + _ ≤ _; exact Nat.le_of_eq rfl) (hb hby at_221) (by decide) (by decide) (by decide) (by decide)
        obtain ⟨rfl, Nq355, eq355⟩ := hQ355
        have N355 := Fr.app N354 Nq355
        refine own_st st355 ?_
        show own_go _ _ _ _ _ _ _ (T355.setTop (mkF m 224 #[.val (.long p0), .second, .val (.long p1), .second, .val (.long p2), .second, .val (.int p3), .val (.long sv), .second, .val (.int (0 : Int32)), .val (.ref b284), .val (.ref b286), .val (.ref b314), .val (.ref r350), .val (.int (1 : Int32)), .val (.long p2), .second, .unset] [(.ref x350)]))
        obtain ⟨T356, X356, e356, st356⟩ := castY X355 hx hZ hown (hw _ (List.mem_of_getElem? (i := 87) rfl)) eq355 (Ins.self B350) (g := (mkF m 224 #[.val (.long p0), .second, .val (.long p1), .second, .val (.long p2), .second, .val (.int p3), .val (.long sv), .second, .val (.int (0 : Int32)), .val (.ref b284), .val (.ref b286), .val (.ref b314), .val (.ref r350), .val (.int (1 : Int32)), .val (.long p2), .second, .unset] [(.ref x350)])) rfl rfl (hb hby at_224)
        refine own_st st356 ?_
        show own_go _ _ _ _ _ _ _ (T356.setTop (mkF m 227 #[.val (.long p0), .second, .val (.long p1), .second, .val (.long p2), .second, .val (.int p3), .val (.long sv), .second, .val (.int (0 : Int32)), .val (.ref b284), .val (.ref b286), .val (.ref b314), .val (.ref r350), .val (.int (1 : Int32)), .val (.long p2), .second, .unset] [(.ref x350)]))
        refine own_st (fun _ k => XS.astore X356.here hx rfl (hb hby at_227) rfl rfl (l' := #[.val (.long p0), .second, .val (.long p1), .second, .val (.long p2), .second, .val (.int p3), .val (.long sv), .second, .val (.int (0 : Int32)), .val (.ref b284), .val (.ref b286), .val (.ref b314), .val (.ref r350), .val (.int (1 : Int32)), .val (.long p2), .second, .val (.ref x350)]) rfl k) ?_
        show own_go _ _ _ _ _ _ _ (T356.setTop (mkF m 229 #[.val (.long p0), .second, .val (.long p1), .second, .val (.long p2), .second, .val (.int p3), .val (.long sv), .second, .val (.int (0 : Int32)), .val (.ref b284), .val (.ref b286), .val (.ref b314), .val (.ref r350), .val (.int (1 : Int32)), .val (.long p2), .second, .val (.ref x350)] []))
        refine own_st (fun _ k => XS.aload X356.here hx rfl (hb hby at_229) rfl rfl k) ?_
        show own_go _ _ _ _ _ _ _ (T356.setTop (mkF m 231 #[.val (.long p0), .second, .val (.long p1), .second, .val (.long p2), .second, .val (.int p3), .val (.long sv), .second, .val (.int (0 : Int32)), .val (.ref b284), .val (.ref b286), .val (.ref b314), .val (.ref r350), .val (.int (1 : Int32)), .val (.long p2), .second, .val (.ref x350)] [(.ref x350)]))
        obtain ⟨v357, T357, L357, X357, hQ357, st357⟩ := own_callV X356 hx hZ (argsL := []) (rest := []) (rm_rfrom l Z a0 hw x350 p1 T350.heap n0 O350 G350) hown (hw _ (List.mem_of_getElem? (i := 222) rfl)) (hw _ (List.mem_of_getElem? (i := 223) rfl)) (notFace_of_selects (args := #[]) (mvT hZ (hw _ (List.mem_of_getElem? (i := 225) rfl)))) (hw _ (List.mem_of_getElem? (i := 225) rfl)) (hw _ (List.mem_of_getElem? (i := 224) rfl)) (hw _ (List.mem_of_getElem? (i := 89) rfl)) (hw _ (List.mem_of_getElem? (i := 226) rfl)) (by decide) e356 B350 (g := (mkF m 231 #[.val (.long p0), .second, .val (.long p1), .second, .val (.long p2), .second, .val (.int p3), .val (.long sv), .second, .val (.int (0 : Int32)), .val (.ref b284), .val (.ref b286), .val (.ref b314), .val (.ref r350), .val (.int (1 : Int32)), .val (.long p2), .second, .val (.ref x350)] [(.ref x350)])) rfl (by rw [hml]; rfl) (lenOf own_pd__28_29J rfl) rfl (W := 0) (by show 2 * 0 + _ ≤ _; exact Nat.le_of_eq rfl) (hb hby at_231) (by decide) (by decide) (by decide) (by decide)
        obtain ⟨rfl, Nq357, eq357⟩ := hQ357
        have N357 := Fr.app N355 Nq357
        refine own_st st357 ?_
        show own_go _ _ _ _ _ _ _ (T357.setTop (mkF m 234 #[.val (.long p0), .second, .val (.long p1), .second, .val (.long p2), .second, .val (.int p3), .val (.long sv), .second, .val (.int (0 : Int32)), .val (.ref b284), .val (.ref b286), .val (.ref b314), .val (.ref r350), .val (.int (1 : Int32)), .val (.long p2), .second, .val (.ref x350)] [(.long p1)]))
        refine own_st (fun _ k => XS.lloadN X357.here hx rfl (hb hby at_234) rfl k) ?_
        show own_go _ _ _ _ _ _ _ (T357.setTop (mkF m 235 #[.val (.long p0), .second, .val (.long p1), .second, .val (.long p2), .second, .val (.int p3), .val (.long sv), .second, .val (.int (0 : Int32)), .val (.ref b284), .val (.ref b286), .val (.ref b314), .val (.ref r350), .val (.int (1 : Int32)), .val (.long p2), .second, .val (.ref x350)] [(.long p1), (.long p1)]))
        refine own_st (fun _ k => XS.lcmp X357.here hx rfl (hb hby at_235) rfl k) ?_
        show own_go _ _ _ _ _ _ _ (T357.setTop (mkF m 236 #[.val (.long p0), .second, .val (.long p1), .second, .val (.long p2), .second, .val (.int p3), .val (.long sv), .second, .val (.int (0 : Int32)), .val (.ref b284), .val (.ref b286), .val (.ref b314), .val (.ref r350), .val (.int (1 : Int32)), .val (.long p2), .second, .val (.ref x350)] [(.int (lcmpW p1 p1))]))
        refine own_st (fun _ k => XS.ifNo X357.here hx rfl (hb hby at_236) rfl (XT.ll_ne_f rfl) k) ?_
        show own_go _ _ _ _ _ _ _ (T357.setTop (mkF m 239 #[.val (.long p0), .second, .val (.long p1), .second, .val (.long p2), .second, .val (.int p3), .val (.long sv), .second, .val (.int (0 : Int32)), .val (.ref b284), .val (.ref b286), .val (.ref b314), .val (.ref r350), .val (.int (1 : Int32)), .val (.long p2), .second, .val (.ref x350)] []))
        refine own_st (fun _ k => XS.aload X357.here hx rfl (hb hby at_239) rfl rfl k) ?_
        show own_go _ _ _ _ _ _ _ (T357.setTop (mkF m 241 #[.val (.long p0), .second, .val (.long p1), .second, .val (.long p2), .second, .val (.int p3), .val (.long sv), .second, .val (.int (0 : Int32)), .val (.ref b284), .val (.ref b286), .val (.ref b314), .val (.ref r350), .val (.int (1 : Int32)), .val (.long p2), .second, .val (.ref x350)] [(.ref x350)]))
        obtain ⟨v358, T358, L358, X358, hQ358, st358⟩ := own_callV X357 hx hZ (argsL := []) (rest := []) (rm_rto l Z a0 hw x350 p2 T350.heap n0 O350 I350) hown (hw _ (List.mem_of_getElem? (i := 227) rfl)) (hw _ (List.mem_of_getElem? (i := 175) rfl)) (notFace_of_selects (args := #[]) (mvT hZ (hw _ (List.mem_of_getElem? (i := 177) rfl)))) (hw _ (List.mem_of_getElem? (i := 177) rfl)) (hw _ (List.mem_of_getElem? (i := 176) rfl)) (hw _ (List.mem_of_getElem? (i := 89) rfl)) (hw _ (List.mem_of_getElem? (i := 178) rfl)) (by decide) eq357 B350 (g := (mkF m 241 #[.val (.long p0), .second, .val (.long p1), .second, .val (.long p2), .second, .val (.int p3), .val (.long sv), .second, .val (.int (0 : Int32)), .val (.ref b284), .val (.ref b286), .val (.ref b314), .val (.ref r350), .val (.int (1 : Int32)), .val (.long p2), .second, .val (.ref x350)] [(.ref x350)])) rfl (by rw [hml]; rfl) (lenOf own_pd__28_29J rfl) rfl (W := 0) (by show 2 * 0 + _ ≤ _; exact Nat.le_of_eq rfl) (hb hby at_241) (by decide) (by decide) (by decide) (by decide)
        obtain ⟨rfl, Nq358, eq358⟩ := hQ358
        have N358 := Fr.app N357 Nq358
        refine own_st st358 ?_
        show own_go _ _ _ _ _ _ _ (T358.setTop (mkF m 244 #[.val (.long p0), .second, .val (.long p1), .second, .val (.long p2), .second, .val (.int p3), .val (.long sv), .second, .val (.int (0 : Int32)), .val (.ref b284), .val (.ref b286), .val (.ref b314), .val (.ref r350), .val (.int (1 : Int32)), .val (.long p2), .second, .val (.ref x350)] [(.long p2)]))
        refine own_st (fun _ k => XS.lload X358.here hx rfl (hb hby at_244) rfl k) ?_
        show own_go _ _ _ _ _ _ _ (T358.setTop (mkF m 246 #[.val (.long p0), .second, .val (.long p1), .second, .val (.long p2), .second, .val (.int p3), .val (.long sv), .second, .val (.int (0 : Int32)), .val (.ref b284), .val (.ref b286), .val (.ref b314), .val (.ref r350), .val (.int (1 : Int32)), .val (.long p2), .second, .val (.ref x350)] [(.long p2), (.long p2)]))
        refine own_st (fun _ k => XS.lcmp X358.here hx rfl (hb hby at_246) rfl k) ?_
        show own_go _ _ _ _ _ _ _ (T358.setTop (mkF m 247 #[.val (.long p0), .second, .val (.long p1), .second, .val (.long p2), .second, .val (.int p3), .val (.long sv), .second, .val (.int (0 : Int32)), .val (.ref b284), .val (.ref b286), .val (.ref b314), .val (.ref r350), .val (.int (1 : Int32)), .val (.long p2), .second, .val (.ref x350)] [(.int (lcmpW p2 p2))]))
        refine own_st (fun _ k => XS.ifNo X358.here hx rfl (hb hby at_247) rfl (XT.ll_ne_f rfl) k) ?_
        show own_go _ _ _ _ _ _ _ (T358.setTop (mkF m 250 #[.val (.long p0), .second, .val (.long p1), .second, .val (.long p2), .second, .val (.int p3), .val (.long sv), .second, .val (.int (0 : Int32)), .val (.ref b284), .val (.ref b286), .val (.ref b314), .val (.ref r350), .val (.int (1 : Int32)), .val (.long p2), .second, .val (.ref x350)] []))
        refine own_st (fun _ k => XS.iconst X358.here hx rfl (hb hby at_250) k) ?_
        show own_go _ _ _ _ _ _ _ (T358.setTop (mkF m 251 #[.val (.long p0), .second, .val (.long p1), .second, .val (.long p2), .second, .val (.int p3), .val (.long sv), .second, .val (.int (0 : Int32)), .val (.ref b284), .val (.ref b286), .val (.ref b314), .val (.ref r350), .val (.int (1 : Int32)), .val (.long p2), .second, .val (.ref x350)] [(.int (1 : Int32))]))
        refine own_st (fun _ k => XS.goto X358.here hx rfl (pc0 := 251) (pc' := 255) rfl (hb hby at_251) (by decide) (by decide) k) ?_
        show own_go _ _ _ _ _ _ _ (T358.setTop (mkF m 255 #[.val (.long p0), .second, .val (.long p1), .second, .val (.long p2), .second, .val (.int p3), .val (.long sv), .second, .val (.int (0 : Int32)), .val (.ref b284), .val (.ref b286), .val (.ref b314), .val (.ref r350), .val (.int (1 : Int32)), .val (.long p2), .second, .val (.ref x350)] [(.int (1 : Int32))]))
        exact own_retN X358 hx hlk (t := .boolean) hret (by simp) rfl (hb hby at_255) (by decide) (by decide) (⟨rfl, N358⟩)
      · skip
        have f360 := ((f333.keep Kq332).keep Kq347)
        have f361 := (F332_0.keep Kq347 nin0)
        have f362 := (F332_1.keep Kq347 nin0)
        obtain ⟨v359, T359, L359, X359, hQ359, st359⟩ := own_callV X347 hx hZ (argsL := [(.ref r347)]) (rest := []) (rm_un_l_0 l Z a0 hw b284 r347 p1 sv p2 c_EMPTY_ELEMENTDATA c_DEFAULTCAPACITY_EMPTY_ELEMENTDATA c_cache c_EMPTY T347.heap n0 O347 hS hc348 hc349 f360 f361 f362 A347 F347) hown (hw _ (List.mem_of_getElem? (i := 194) rfl)) (hw _ (List.mem_of_getElem? (i := 195) rfl)) (notFace_of_selects (args := #[]) (mvT hZ (hw _ (List.mem_of_getElem? (i := 197) rfl)))) (hw _ (List.mem_of_getElem? (i := 197) rfl)) (hw _ (List.mem_of_getElem? (i := 196) rfl)) (hw _ (List.mem_of_getElem? (i := 3) rfl)) (hw _ (List.mem_of_getElem? (i := 198) rfl)) (by decide) rfl f360 (g := (mkF m 112 #[.val (.long p0), .second, .val (.long p1), .second, .val (.long p2), .second, .val (.int p3), .val (.long sv), .second, .val (.int (0 : Int32)), .val (.ref b284), .val (.ref b286), .val (.ref b314), .unset, .unset, .unset, .unset, .unset] [(.ref r347), (.ref b284)])) rfl (by rw [hml]; rfl) (lenOf own_pd__28Ljava_2flang_2fLong_3b_29Ljava_2futil_2fOptional_3b rfl) rfl (W := 0) (by show 2 * 0 + _ ≤ _; exact Nat.le_of_eq rfl) (hb hby at_112) (by decide) (by decide) (by decide) (by decide)
        obtain ⟨rfl, Nq359, Kq359⟩ := hQ359
        have N359 := Fr.app N347 Nq359
        have O359 := O347.keep Kq359 all0
        have K359 := K347.trans Kq359 all0
        refine own_st st359 ?_
        show own_go _ _ _ _ _ _ _ (T359.setTop (mkF m 115 #[.val (.long p0), .second, .val (.long p1), .second, .val (.long p2), .second, .val (.int p3), .val (.long sv), .second, .val (.int (0 : Int32)), .val (.ref b284), .val (.ref b286), .val (.ref b314), .unset, .unset, .unset, .unset, .unset] [(.ref c_EMPTY)]))
        refine own_st (fun _ k => XS.astore X359.here hx rfl (hb hby at_115) rfl rfl (l' := #[.val (.long p0), .second, .val (.long p1), .second, .val (.long p2), .second, .val (.int p3), .val (.long sv), .second, .val (.int (0 : Int32)), .val (.ref b284), .val (.ref b286), .val (.ref b314), .val (.ref c_EMPTY), .unset, .unset, .unset, .unset]) rfl k) ?_
        show own_go _ _ _ _ _ _ _ (T359.setTop (mkF m 117 #[.val (.long p0), .second, .val (.long p1), .second, .val (.long p2), .second, .val (.int p3), .val (.long sv), .second, .val (.int (0 : Int32)), .val (.ref b284), .val (.ref b286), .val (.ref b314), .val (.ref c_EMPTY), .unset, .unset, .unset, .unset] []))
        refine own_st (fun _ k => XS.iload X359.here hx rfl (hb hby at_117) rfl k) ?_
        show own_go _ _ _ _ _ _ _ (T359.setTop (mkF m 119 #[.val (.long p0), .second, .val (.long p1), .second, .val (.long p2), .second, .val (.int p3), .val (.long sv), .second, .val (.int (0 : Int32)), .val (.ref b284), .val (.ref b286), .val (.ref b314), .val (.ref c_EMPTY), .unset, .unset, .unset, .unset] [(.int (0 : Int32))]))
        refine own_st (fun _ k => XS.ifYes X359.here hx rfl (pc0 := 119) (pc' := 143) rfl (hb hby at_119) rfl (by decide) (by decide) (by decide) k) ?_
        show own_go _ _ _ _ _ _ _ (T359.setTop (mkF m 143 #[.val (.long p0), .second, .val (.long p1), .second, .val (.long p2), .second, .val (.int p3), .val (.long sv), .second, .val (.int (0 : Int32)), .val (.ref b284), .val (.ref b286), .val (.ref b314), .val (.ref c_EMPTY), .unset, .unset, .unset, .unset] []))
        refine own_st (fun _ k => XS.lload X359.here hx rfl (hb hby at_143) rfl k) ?_
        show own_go _ _ _ _ _ _ _ (T359.setTop (mkF m 145 #[.val (.long p0), .second, .val (.long p1), .second, .val (.long p2), .second, .val (.int p3), .val (.long sv), .second, .val (.int (0 : Int32)), .val (.ref b284), .val (.ref b286), .val (.ref b314), .val (.ref c_EMPTY), .unset, .unset, .unset, .unset] [(.long p2)]))
        refine own_st (fun _ k => XS.lload X359.here hx rfl (hb hby at_145) rfl k) ?_
        show own_go _ _ _ _ _ _ _ (T359.setTop (mkF m 147 #[.val (.long p0), .second, .val (.long p1), .second, .val (.long p2), .second, .val (.int p3), .val (.long sv), .second, .val (.int (0 : Int32)), .val (.ref b284), .val (.ref b286), .val (.ref b314), .val (.ref c_EMPTY), .unset, .unset, .unset, .unset] [(.long sv), (.long p2)]))
        refine own_st (fun _ k => XS.lcmp X359.here hx rfl (hb hby at_147) rfl k) ?_
        show own_go _ _ _ _ _ _ _ (T359.setTop (mkF m 148 #[.val (.long p0), .second, .val (.long p1), .second, .val (.long p2), .second, .val (.int p3), .val (.long sv), .second, .val (.int (0 : Int32)), .val (.ref b284), .val (.ref b286), .val (.ref b314), .val (.ref c_EMPTY), .unset, .unset, .unset, .unset] [(.int (lcmpW p2 sv))]))
        refine own_st (fun _ k => XS.ifNo X359.here hx rfl (hb hby at_148) rfl (XT.ll_ge_f hc348) k) ?_
        show own_go _ _ _ _ _ _ _ (T359.setTop (mkF m 151 #[.val (.long p0), .second, .val (.long p1), .second, .val (.long p2), .second, .val (.int p3), .val (.long sv), .second, .val (.int (0 : Int32)), .val (.ref b284), .val (.ref b286), .val (.ref b314), .val (.ref c_EMPTY), .unset, .unset, .unset, .unset] []))
        refine own_st (fun _ k => XS.lload X359.here hx rfl (hb hby at_151) rfl k) ?_
        show own_go _ _ _ _ _ _ _ (T359.setTop (mkF m 153 #[.val (.long p0), .second, .val (.long p1), .second, .val (.long p2), .second, .val (.int p3), .val (.long sv), .second, .val (.int (0 : Int32)), .val (.ref b284), .val (.ref b286), .val (.ref b314), .val (.ref c_EMPTY), .unset, .unset, .unset, .unset] [(.long p2)]))
        refine own_st (fun _ k => XS.lloadN X359.here hx rfl (hb hby at_153) rfl k) ?_
        show own_go _ _ _ _ _ _ _ (T359.setTop (mkF m 154 #[.val (.long p0), .second, .val (.long p1), .second, .val (.long p2), .second, .val (.int p3), .val (.long sv), .second, .val (.int (0 : Int32)), .val (.ref b284), .val (.ref b286), .val (.ref b314), .val (.ref c_EMPTY), .unset, .unset, .unset, .unset] [(.long p1), (.long p2)]))
        refine own_st (fun _ k => XS.lcmp X359.here hx rfl (hb hby at_154) rfl k) ?_
        show own_go _ _ _ _ _ _ _ (T359.setTop (mkF m 155 #[.val (.long p0), .second, .val (.long p1), .second, .val (.long p2), .second, .val (.int p3), .val (.long sv), .second, .val (.int (0 : Int32)), .val (.ref b284), .val (.ref b286), .val (.ref b314), .val (.ref c_EMPTY), .unset, .unset, .unset, .unset] [(.int (lcmpW p2 p1))]))
        refine own_st (fun _ k => XS.ifYes X359.here hx rfl (pc0 := 155) (pc' := 162) rfl (hb hby at_155) rfl (XT.ll_le_t hc349) (by decide) (by decide) k) ?_
        show own_go _ _ _ _ _ _ _ (T359.setTop (mkF m 162 #[.val (.long p0), .second, .val (.long p1), .second, .val (.long p2), .second, .val (.int p3), .val (.long sv), .second, .val (.int (0 : Int32)), .val (.ref b284), .val (.ref b286), .val (.ref b314), .val (.ref c_EMPTY), .unset, .unset, .unset, .unset] []))
        refine own_st (fun _ k => XS.iconst X359.here hx rfl (hb hby at_162) k) ?_
        show own_go _ _ _ _ _ _ _ (T359.setTop (mkF m 163 #[.val (.long p0), .second, .val (.long p1), .second, .val (.long p2), .second, .val (.int p3), .val (.long sv), .second, .val (.int (0 : Int32)), .val (.ref b284), .val (.ref b286), .val (.ref b314), .val (.ref c_EMPTY), .unset, .unset, .unset, .unset] [(.int (0 : Int32))]))
        refine own_st (fun _ k => XS.istore X359.here hx rfl (hb hby at_163) rfl (l' := #[.val (.long p0), .second, .val (.long p1), .second, .val (.long p2), .second, .val (.int p3), .val (.long sv), .second, .val (.int (0 : Int32)), .val (.ref b284), .val (.ref b286), .val (.ref b314), .val (.ref c_EMPTY), .val (.int (0 : Int32)), .unset, .unset, .unset]) rfl k) ?_
        show own_go _ _ _ _ _ _ _ (T359.setTop (mkF m 165 #[.val (.long p0), .second, .val (.long p1), .second, .val (.long p2), .second, .val (.int p3), .val (.long sv), .second, .val (.int (0 : Int32)), .val (.ref b284), .val (.ref b286), .val (.ref b314), .val (.ref c_EMPTY), .val (.int (0 : Int32)), .unset, .unset, .unset] []))
        refine own_st (fun _ k => XS.lload X359.here hx rfl (hb hby at_165) rfl k) ?_
        show own_go _ _ _ _ _ _ _ (T359.setTop (mkF m 167 #[.val (.long p0), .second, .val (.long p1), .second, .val (.long p2), .second, .val (.int p3), .val (.long sv), .second, .val (.int (0 : Int32)), .val (.ref b284), .val (.ref b286), .val (.ref b314), .val (.ref c_EMPTY), .val (.int (0 : Int32)), .unset, .unset, .unset] [(.long p2)]))
        refine own_st (fun _ k => XS.lstore X359.here hx rfl (hb hby at_167) rfl (l' := #[.val (.long p0), .second, .val (.long p1), .second, .val (.long p2), .second, .val (.int p3), .val (.long sv), .second, .val (.int (0 : Int32)), .val (.ref b284), .val (.ref b286), .val (.ref b314), .val (.ref c_EMPTY), .val (.int (0 : Int32)), .val (.long p2), .second, .unset]) rfl k) ?_
        show own_go _ _ _ _ _ _ _ (T359.setTop (mkF m 169 #[.val (.long p0), .second, .val (.long p1), .second, .val (.long p2), .second, .val (.int p3), .val (.long sv), .second, .val (.int (0 : Int32)), .val (.ref b284), .val (.ref b286), .val (.ref b314), .val (.ref c_EMPTY), .val (.int (0 : Int32)), .val (.long p2), .second, .unset] []))
        refine own_st (fun _ k => XS.goto X359.here hx rfl (pc0 := 169) (pc' := 190) rfl (hb hby at_169) (by decide) (by decide) k) ?_
        show own_go _ _ _ _ _ _ _ (T359.setTop (mkF m 190 #[.val (.long p0), .second, .val (.long p1), .second, .val (.long p2), .second, .val (.int p3), .val (.long sv), .second, .val (.int (0 : Int32)), .val (.ref b284), .val (.ref b286), .val (.ref b314), .val (.ref c_EMPTY), .val (.int (0 : Int32)), .val (.long p2), .second, .unset] []))
        refine own_st (fun _ k => XS.iload X359.here hx rfl (hb hby at_190) rfl k) ?_
        show own_go _ _ _ _ _ _ _ (T359.setTop (mkF m 192 #[.val (.long p0), .second, .val (.long p1), .second, .val (.long p2), .second, .val (.int p3), .val (.long sv), .second, .val (.int (0 : Int32)), .val (.ref b284), .val (.ref b286), .val (.ref b314), .val (.ref c_EMPTY), .val (.int (0 : Int32)), .val (.long p2), .second, .unset] [(.int (0 : Int32))]))
        refine own_st (fun _ k => XS.ifNo X359.here hx rfl (hb hby at_192) rfl (by decide) k) ?_
        show own_go _ _ _ _ _ _ _ (T359.setTop (mkF m 195 #[.val (.long p0), .second, .val (.long p1), .second, .val (.long p2), .second, .val (.int p3), .val (.long sv), .second, .val (.int (0 : Int32)), .val (.ref b284), .val (.ref b286), .val (.ref b314), .val (.ref c_EMPTY), .val (.int (0 : Int32)), .val (.long p2), .second, .unset] []))
        refine own_st (fun _ k => XS.aload X359.here hx rfl (hb hby at_195) rfl rfl k) ?_
        show own_go _ _ _ _ _ _ _ (T359.setTop (mkF m 197 #[.val (.long p0), .second, .val (.long p1), .second, .val (.long p2), .second, .val (.int p3), .val (.long sv), .second, .val (.int (0 : Int32)), .val (.ref b284), .val (.ref b286), .val (.ref b314), .val (.ref c_EMPTY), .val (.int (0 : Int32)), .val (.long p2), .second, .unset] [(.ref c_EMPTY)]))
        obtain ⟨v363, T363, L363, X363, hQ363, st363⟩ := own_callV X359 hx hZ (argsL := []) (rest := []) (rmo_isPresent_N l Z a0 hw c_EMPTY  T359.heap n0 O359 (hS.2.2.2.2.2.2.2.2.1.ext O359.2)) hown (hw _ (List.mem_of_getElem? (i := 199) rfl)) (hw _ (List.mem_of_getElem? (i := 132) rfl)) (notFace_of_selects (args := #[]) (mvT hZ (hw _ (List.mem_of_getElem? (i := 134) rfl)))) (hw _ (List.mem_of_getElem? (i := 134) rfl)) (hw _ (List.mem_of_getElem? (i := 133) rfl)) (hw _ (List.mem_of_getElem? (i := 123) rfl)) (hw _ (List.mem_of_getElem? (i := 135) rfl)) (by decide) rfl (hS.2.2.2.2.2.2.2.1.ext O359.2) (g := (mkF m 197 #[.val (.long p0), .second, .val (.long p1), .second, .val (.long p2), .second, .val (.int p3), .val (.long sv), .second, .val (.int (0 : Int32)), .val (.ref b284), .val (.ref b286), .val (.ref b314), .val (.ref c_EMPTY), .val (.int (0 : Int32)), .val (.long p2), .second, .unset] [(.ref c_EMPTY)])) rfl (by rw [hml]; rfl) (lenOf own_pd__28_29Z rfl) rfl (W := 0) (by show 2 * 0 + _ ≤ _; exact Nat.le_of_eq rfl) (hb hby at_197) (by decide) (by decide) (by decide) (by decide)
        obtain ⟨rfl, Nq363, eq363⟩ := hQ363
        have N363 := Fr.app N359 Nq363
        refine own_st st363 ?_
        show own_go _ _ _ _ _ _ _ (T363.setTop (mkF m 200 #[.val (.long p0), .second, .val (.long p1), .second, .val (.long p2), .second, .val (.int p3), .val (.long sv), .second, .val (.int (0 : Int32)), .val (.ref b284), .val (.ref b286), .val (.ref b314), .val (.ref c_EMPTY), .val (.int (0 : Int32)), .val (.long p2), .second, .unset] [(.int (0 : Int32))]))
        refine own_st (fun _ k => XS.ifNo X363.here hx rfl (hb hby at_200) rfl (by decide) k) ?_
        show own_go _ _ _ _ _ _ _ (T363.setTop (mkF m 203 #[.val (.long p0), .second, .val (.long p1), .second, .val (.long p2), .second, .val (.int p3), .val (.long sv), .second, .val (.int (0 : Int32)), .val (.ref b284), .val (.ref b286), .val (.ref b314), .val (.ref c_EMPTY), .val (.int (0 : Int32)), .val (.long p2), .second, .unset] []))
        refine own_st (fun _ k => XS.iconst X363.here hx rfl (hb hby at_203) k) ?_
        show own_go _ _ _ _ _ _ _ (T363.setTop (mkF m 204 #[.val (.long p0), .second, .val (.long p1), .second, .val (.long p2), .second, .val (.int p3), .val (.long sv), .second, .val (.int (0 : Int32)), .val (.ref b284), .val (.ref b286), .val (.ref b314), .val (.ref c_EMPTY), .val (.int (0 : Int32)), .val (.long p2), .second, .unset] [(.int (1 : Int32))]))
        refine own_st (fun _ k => XS.goto X363.here hx rfl (pc0 := 204) (pc' := 208) rfl (hb hby at_204) (by decide) (by decide) k) ?_
        show own_go _ _ _ _ _ _ _ (T363.setTop (mkF m 208 #[.val (.long p0), .second, .val (.long p1), .second, .val (.long p2), .second, .val (.int p3), .val (.long sv), .second, .val (.int (0 : Int32)), .val (.ref b284), .val (.ref b286), .val (.ref b314), .val (.ref c_EMPTY), .val (.int (0 : Int32)), .val (.long p2), .second, .unset] [(.int (1 : Int32))]))
        exact own_retN X363 hx hlk (t := .boolean) hret (by simp) rfl (hb hby at_208) (by decide) (by decide) (⟨rfl, N363⟩)
    · skip
      by_cases hc364 : p1 < sv
      · skip
        have f366 := ((f333.keep Kq332).keep Kq347)
        have f367 := (F332_0.keep Kq347 nin0)
        have f368 := (F332_1.keep Kq347 nin0)
        obtain ⟨v365, T365, L365, X365, hQ365, st365⟩ := own_callV X347 hx hZ (argsL := [(.ref r347)]) (rest := []) (rm_un_g_1 l Z a0 hw b284 r347 p1 sv p2 c_EMPTY_ELEMENTDATA c_DEFAULTCAPACITY_EMPTY_ELEMENTDATA c_cache c_EMPTY T347.heap n0 O347 hS hc348 hc364 f366 f367 f368 A347 F347) hown (hw _ (List.mem_of_getElem? (i := 194) rfl)) (hw _ (List.mem_of_getElem? (i := 195) rfl)) (notFace_of_selects (args := #[]) (mvT hZ (hw _ (List.mem_of_getElem? (i := 197) rfl)))) (hw _ (List.mem_of_getElem? (i := 197) rfl)) (hw _ (List.mem_of_getElem? (i := 196) rfl)) (hw _ (List.mem_of_getElem? (i := 3) rfl)) (hw _ (List.mem_of_getElem? (i := 198) rfl)) (by decide) rfl f366 (g := (mkF m 112 #[.val (.long p0), .second, .val (.long p1), .second, .val (.long p2), .second, .val (.int p3), .val (.long sv), .second, .val (.int (0 : Int32)), .val (.ref b284), .val (.ref b286), .val (.ref b314), .unset, .unset, .unset, .unset, .unset] [(.ref r347), (.ref b284)])) rfl (by rw [hml]; rfl) (lenOf own_pd__28Ljava_2flang_2fLong_3b_29Ljava_2futil_2fOptional_3b rfl) rfl (W := 0) (by show 2 * 0 + _ ≤ _; exact Nat.le_of_eq rfl) (hb hby at_112) (by decide) (by decide) (by decide) (by decide)
        obtain ⟨r365, x365, rfl, Nq365, Kq365, A365, F365, B365, G365, I365⟩ := hQ365
        have N365 := Fr.app N347 Nq365
        have O365 := O347.keep Kq365 all0
        have K365 := K347.trans Kq365 all0
        refine own_st st365 ?_
        show own_go _ _ _ _ _ _ _ (T365.setTop (mkF m 115 #[.val (.long p0), .second, .val (.long p1), .second, .val (.long p2), .second, .val (.int p3), .val (.long sv), .second, .val (.int (0 : Int32)), .val (.ref b284), .val (.ref b286), .val (.ref b314), .unset, .unset, .unset, .unset, .unset] [(.ref r365)]))
        refine own_st (fun _ k => XS.astore X365.here hx rfl (hb hby at_115) rfl rfl (l' := #[.val (.long p0), .second, .val (.long p1), .second, .val (.long p2), .second, .val (.int p3), .val (.long sv), .second, .val (.int (0 : Int32)), .val (.ref b284), .val (.ref b286), .val (.ref b314), .val (.ref r365), .unset, .unset, .unset, .unset]) rfl k) ?_
        show own_go _ _ _ _ _ _ _ (T365.setTop (mkF m 117 #[.val (.long p0), .second, .val (.long p1), .second, .val (.long p2), .second, .val (.int p3), .val (.long sv), .second, .val (.int (0 : Int32)), .val (.ref b284), .val (.ref b286), .val (.ref b314), .val (.ref r365), .unset, .unset, .unset, .unset] []))
        refine own_st (fun _ k => XS.iload X365.here hx rfl (hb hby at_117) rfl k) ?_
        show own_go _ _ _ _ _ _ _ (T365.setTop (mkF m 119 #[.val (.long p0), .second, .val (.long p1), .second, .val (.long p2), .second, .val (.int p3), .val (.long sv), .second, .val (.int (0 : Int32)), .val (.ref b284), .val (.ref b286), .val (.ref b314), .val (.ref r365), .unset, .unset, .unset, .unset] [(.int (0 : Int32))]))
        refine own_st (fun _ k => XS.ifYes X365.here hx rfl (pc0 := 119) (pc' := 143) rfl (hb hby at_119) rfl (by decide) (by decide) (by decide) k) ?_
        show own_go _ _ _ _ _ _ _ (T365.setTop (mkF m 143 #[.val (.long p0), .second, .val (.long p1), .second, .val (.long p2), .second, .val (.int p3), .val (.long sv), .second, .val (.int (0 : Int32)), .val (.ref b284), .val (.ref b286), .val (.ref b314), .val (.ref r365), .unset, .unset, .unset, .unset] []))
        refine own_st (fun _ k => XS.lload X365.here hx rfl (hb hby at_143) rfl k) ?_
        show own_go _ _ _ _ _ _ _ (T365.setTop (mkF m 145 #[.val (.long p0), .second, .val (.long p1), .second, .val (.long p2), .second, .val (.int p3), .val (.long sv), .second, .val (.int (0 : Int32)), .val (.ref b284), .val (.ref b286), .val (.ref b314), .val (.ref r365), .unset, .unset, .unset, .unset] [(.long p2)]))
        refine own_st (fun _ k => XS.lload X365.here hx rfl (hb hby at_145) rfl k) ?_
        show own_go _ _ _ _ _ _ _ (T365.setTop (mkF m 147 #[.val (.long p0), .second, .val (.long p1), .second, .val (.long p2), .second, .val (.int p3), .val (.long sv), .second, .val (.int (0 : Int32)), .val (.ref b284), .val (.ref b286), .val (.ref b314), .val (.ref r365), .unset, .unset, .unset, .unset] [(.long sv), (.long p2)]))
        refine own_st (fun _ k => XS.lcmp X365.here hx rfl (hb hby at_147) rfl k) ?_
        show own_go _ _ _ _ _ _ _ (T365.setTop (mkF m 148 #[.val (.long p0), .second, .val (.long p1), .second, .val (.long p2), .second, .val (.int p3), .val (.long sv), .second, .val (.int (0 : Int32)), .val (.ref b284), .val (.ref b286), .val (.ref b314), .val (.ref r365), .unset, .unset, .unset, .unset] [(.int (lcmpW p2 sv))]))
        refine own_st (fun _ k => XS.ifYes X365.here hx rfl (pc0 := 148) (pc' := 172) rfl (hb hby at_148) rfl (XT.ll_ge_t hc348) (by decide) (by decide) k) ?_
        show own_go _ _ _ _ _ _ _ (T365.setTop (mkF m 172 #[.val (.long p0), .second, .val (.long p1), .second, .val (.long p2), .second, .val (.int p3), .val (.long sv), .second, .val (.int (0 : Int32)), .val (.ref b284), .val (.ref b286), .val (.ref b314), .val (.ref r365), .unset, .unset, .unset, .unset] []))
        refine own_st (fun _ k => XS.lload X365.here hx rfl (hb hby at_172) rfl k) ?_
        show own_go _ _ _ _ _ _ _ (T365.setTop (mkF m 174 #[.val (.long p0), .second, .val (.long p1), .second, .val (.long p2), .second, .val (.int p3), .val (.long sv), .second, .val (.int (0 : Int32)), .val (.ref b284), .val (.ref b286), .val (.ref b314), .val (.ref r365), .unset, .unset, .unset, .unset] [(.long sv)]))
        refine own_st (fun _ k => XS.lloadN X365.here hx rfl (hb hby at_174) rfl k) ?_
        show own_go _ _ _ _ _ _ _ (T365.setTop (mkF m 175 #[.val (.long p0), .second, .val (.long p1), .second, .val (.long p2), .second, .val (.int p3), .val (.long sv), .second, .val (.int (0 : Int32)), .val (.ref b284), .val (.ref b286), .val (.ref b314), .val (.ref r365), .unset, .unset, .unset, .unset] [(.long p1), (.long sv)]))
        refine own_st (fun _ k => XS.lcmp X365.here hx rfl (hb hby at_175) rfl k) ?_
        show own_go _ _ _ _ _ _ _ (T365.setTop (mkF m 176 #[.val (.long p0), .second, .val (.long p1), .second, .val (.long p2), .second, .val (.int p3), .val (.long sv), .second, .val (.int (0 : Int32)), .val (.ref b284), .val (.ref b286), .val (.ref b314), .val (.ref r365), .unset, .unset, .unset, .unset] [(.int (lcmpW sv p1))]))
        refine own_st (fun _ k => XS.ifNo X365.here hx rfl (hb hby at_176) rfl (XT.ll_le_f hc364) k) ?_
        show own_go _ _ _ _ _ _ _ (T365.setTop (mkF m 179 #[.val (.long p0), .second, .val (.long p1), .second, .val (.long p2), .second, .val (.int p3), .val (.long sv), .second, .val (.int (0 : Int32)), .val (.ref b284), .val (.ref b286), .val (.ref b314), .val (.ref r365), .unset, .unset, .unset, .unset] []))
        refine own_st (fun _ k => XS.iconst X365.here hx rfl (hb hby at_179) k) ?_
        show own_go _ _ _ _ _ _ _ (T365.setTop (mkF m 180 #[.val (.long p0), .second, .val (.long p1), .second, .val (.long p2), .second, .val (.int p3), .val (.long sv), .second, .val (.int (0 : Int32)), .val (.ref b284), .val (.ref b286), .val (.ref b314), .val (.ref r365), .unset, .unset, .unset, .unset] [(.int (1 : Int32))]))
        refine own_st (fun _ k => XS.goto X365.here hx rfl (pc0 := 180) (pc' := 184) rfl (hb hby at_180) (by decide) (by decide) k) ?_
        show own_go _ _ _ _ _ _ _ (T365.setTop (mkF m 184 #[.val (.long p0), .second, .val (.long p1), .second, .val (.long p2), .second, .val (.int p3), .val (.long sv), .second, .val (.int (0 : Int32)), .val (.ref b284), .val (.ref b286), .val (.ref b314), .val (.ref r365), .unset, .unset, .unset, .unset] [(.int (1 : Int32))]))
        refine own_st (fun _ k => XS.istore X365.here hx rfl (hb hby at_184) rfl (l' := #[.val (.long p0), .second, .val (.long p1), .second, .val (.long p2), .second, .val (.int p3), .val (.long sv), .second, .val (.int (0 : Int32)), .val (.ref b284), .val (.ref b286), .val (.ref b314), .val (.ref r365), .val (.int (1 : Int32)), .unset, .unset, .unset]) rfl k) ?_
        show own_go _ _ _ _ _ _ _ (T365.setTop (mkF m 186 #[.val (.long p0), .second, .val (.long p1), .second, .val (.long p2), .second, .val (.int p3), .val (.long sv), .second, .val (.int (0 : Int32)), .val (.ref b284), .val (.ref b286), .val (.ref b314), .val (.ref r365), .val (.int (1 : Int32)), .unset, .unset, .unset] []))
        refine own_st (fun _ k => XS.lload X365.here hx rfl (hb hby at_186) rfl k) ?_
        show own_go _ _ _ _ _ _ _ (T365.setTop (mkF m 188 #[.val (.long p0), .second, .val (.long p1), .second, .val (.long p2), .second, .val (.int p3), .val (.long sv), .second, .val (.int (0 : Int32)), .val (.ref b284), .val (.ref b286), .val (.ref b314), .val (.ref r365), .val (.int (1 : Int32)), .unset, .unset, .unset] [(.long sv)]))
        refine own_st (fun _ k => XS.lstore X365.here hx rfl (hb hby at_188) rfl (l' := #[.val (.long p0), .second, .val (.long p1), .second, .val (.long p2), .second, .val (.int p3), .val (.long sv), .second, .val (.int (0 : Int32)), .val (.ref b284), .val (.ref b286), .val (.ref b314), .val (.ref r365), .val (.int (1 : Int32)), .val (.long sv), .second, .unset]) rfl k) ?_
        show own_go _ _ _ _ _ _ _ (T365.setTop (mkF m 190 #[.val (.long p0), .second, .val (.long p1), .second, .val (.long p2), .second, .val (.int p3), .val (.long sv), .second, .val (.int (0 : Int32)), .val (.ref b284), .val (.ref b286), .val (.ref b314), .val (.ref r365), .val (.int (1 : Int32)), .val (.long sv), .second, .unset] []))
        refine own_st (fun _ k => XS.iload X365.here hx rfl (hb hby at_190) rfl k) ?_
        show own_go _ _ _ _ _ _ _ (T365.setTop (mkF m 192 #[.val (.long p0), .second, .val (.long p1), .second, .val (.long p2), .second, .val (.int p3), .val (.long sv), .second, .val (.int (0 : Int32)), .val (.ref b284), .val (.ref b286), .val (.ref b314), .val (.ref r365), .val (.int (1 : Int32)), .val (.long sv), .second, .unset] [(.int (1 : Int32))]))
        refine own_st (fun _ k => XS.ifYes X365.here hx rfl (pc0 := 192) (pc' := 209) rfl (hb hby at_192) rfl (by decide) (by decide) (by decide) k) ?_
        show own_go _ _ _ _ _ _ _ (T365.setTop (mkF m 209 #[.val (.long p0), .second, .val (.long p1), .second, .val (.long p2), .second, .val (.int p3), .val (.long sv), .second, .val (.int (0 : Int32)), .val (.ref b284), .val (.ref b286), .val (.ref b314), .val (.ref r365), .val (.int (1 : Int32)), .val (.long sv), .second, .unset] []))
        refine own_st (fun _ k => XS.aload X365.here hx rfl (hb hby at_209) rfl rfl k) ?_
        show own_go _ _ _ _ _ _ _ (T365.setTop (mkF m 211 #[.val (.long p0), .second, .val (.long p1), .second, .val (.long p2), .second, .val (.int p3), .val (.long sv), .second, .val (.int (0 : Int32)), .val (.ref b284), .val (.ref b286), .val (.ref b314), .val (.ref r365), .val (.int (1 : Int32)), .val (.long sv), .second, .unset] [(.ref r365)]))
        obtain ⟨v369, T369, L369, X369, hQ369, st369⟩ := own_callV X365 hx hZ (argsL := []) (rest := []) (rmo_isPresent_R l Z a0 hw r365 x365 T365.heap n0 O365 F365) hown (hw _ (List.mem_of_getElem? (i := 199) rfl)) (hw _ (List.mem_of_getElem? (i := 132) rfl)) (notFace_of_selects (args := #[]) (mvT hZ (hw _ (List.mem_of_getElem? (i := 134) rfl)))) (hw _ (List.mem_of_getElem? (i := 134) rfl)) (hw _ (List.mem_of_getElem? (i := 133) rfl)) (hw _ (List.mem_of_getElem? (i := 123) rfl)) (hw _ (List.mem_of_getElem? (i := 135) rfl)) (by decide) rfl A365 (g := (mkF m 211 #[.val (.long p0), .second, .val (.long p1), .second, .val (.long p2), .second, .val (.int p3), .val (.long sv), .second, .val (.int (0 : Int32)), .val (.ref b284), .val (.ref b286), .val (.ref b314), .val (.ref r365), .val (.int (1 : Int32)), .val (.long sv), .second, .unset] [(.ref r365)])) rfl (by rw [hml]; rfl) (lenOf own_pd__28_29Z rfl) rfl (W := 0) (by show 2 * 0 + _ ≤ _; exact Nat.le_of_eq rfl) (hb hby at_211) (by decide) (by decide) (by decide) (by decide)
        obtain ⟨rfl, Nq369, eq369⟩ := hQ369
        have N369 := Fr.app N365 Nq369
        refine own_st st369 ?_
        show own_go _ _ _ _ _ _ _ (T369.setTop (mkF m 214 #[.val (.long p0), .second, .val (.long p1), .second, .val (.long p2), .second, .val (.int p3), .val (.long sv), .second, .val (.int (0 : Int32)), .val (.ref b284), .val (.ref b286), .val (.ref b314), .val (.ref r365), .val (.int (1 : Int32)), .val (.long sv), .second, .unset] [(.int (1 : Int32))]))
        refine own_st (fun _ k => XS.ifYes X369.here hx rfl (pc0 := 214) (pc' := 219) rfl (hb hby at_214) rfl (by decide) (by decide) (by decide) k) ?_
        show own_go _ _ _ _ _ _ _ (T369.setTop (mkF m 219 #[.val (.long p0), .second, .val (.long p1), .second, .val (.long p2), .second, .val (.int p3), .val (.long sv), .second, .val (.int (0 : Int32)), .val (.ref b284), .val (.ref b286), .val (.ref b314), .val (.ref r365), .val (.int (1 : Int32)), .val (.long sv), .second, .unset] []))
        refine own_st (fun _ k => XS.aload X369.here hx rfl (hb hby at_219) rfl rfl k) ?_
        show own_go _ _ _ _ _ _ _ (T369.setTop (mkF m 221 #[.val (.long p0), .second, .val (.long p1), .second, .val (.long p2), .second, .val (.int p3), .val (.long sv), .second, .val (.int (0 : Int32)), .val (.ref b284), .val (.ref b286), .val (.ref b314), .val (.ref r365), .val (.int (1 : Int32)), .val (.long sv), .second, .unset] [(.ref r365)]))
        obtain ⟨v370, T370, L370, X370, hQ370, st370⟩ := own_callV X369 hx hZ (argsL := []) (rest := []) (rmo_get_R l Z a0 hw r365 x365 T365.heap n0 O365 F365) hown (hw _ (List.mem_of_getElem? (i := 216) rfl)) (hw _ (List.mem_of_getElem? (i := 217) rfl)) (notFace_of_selects (args := #[]) (mvT hZ (hw _ (List.mem_of_getElem? (i := 219) rfl)))) (hw _ (List.mem_of_getElem? (i := 219) rfl)) (hw _ (List.mem_of_getElem? (i := 218) rfl)) (hw _ (List.mem_of_getElem? (i := 123) rfl)) (hw _ (List.mem_of_getElem? (i := 220) rfl)) (by decide) eq369 A365 (g := (mkF m 221 #[.val (.long p0), .second, .val (.long p1), .second, .val (.long p2), .second, .val (.int p3), .val (.long sv), .second, .val (.int (0 : Int32)), .val (.ref b284), .val (.ref b286), .val (.ref b314), .val (.ref r365), .val (.int (1 : Int32)), .val (.long sv), .second, .unset] [(.ref r365)])) rfl (by rw [hml]; rfl) (lenOf own_pd__28_29Ljava_2flang_2fObject_3b rfl) rfl (W := 0) (by show 2 * 0 + _ ≤ _; exact Nat.le_of_eq rfl) (hb hby at_221) (by decide) (by decide) (by decide) (by decide)
        obtain ⟨rfl, Nq370, eq370⟩ := hQ370
        have N370 := Fr.app N369 Nq370
        refine own_st st370 ?_
        show own_go _ _ _ _ _ _ _ (T370.setTop (mkF m 224 #[.val (.long p0), .second, .val (.long p1), .second, .val (.long p2), .second, .val (.int p3), .val (.long sv), .second, .val (.int (0 : Int32)), .val (.ref b284), .val (.ref b286), .val (.ref b314), .val (.ref r365), .val (.int (1 : Int32)), .val (.long sv), .second, .unset] [(.ref x365)]))
        obtain ⟨T371, X371, e371, st371⟩ := castY X370 hx hZ hown (hw _ (List.mem_of_getElem? (i := 87) rfl)) eq370 (Ins.self B365) (g := (mkF m 224 #[.val (.long p0), .second, .val (.long p1), .second, .val (.long p2), .second, .val (.int p3), .val (.long sv), .second, .val (.int (0 : Int32)), .val (.ref b284), .val (.ref b286), .val (.ref b314), .val (.ref r365), .val (.int (1 : Int32)), .val (.long sv), .second, .unset] [(.ref x365)])) rfl rfl (hb hby at_224)
        refine own_st st371 ?_
        show own_go _ _ _ _ _ _ _ (T371.setTop (mkF m 227 #[.val (.long p0), .second, .val (.long p1), .second, .val (.long p2), .second, .val (.int p3), .val (.long sv), .second, .val (.int (0 : Int32)), .val (.ref b284), .val (.ref b286), .val (.ref b314), .val (.ref r365), .val (.int (1 : Int32)), .val (.long sv), .second, .unset] [(.ref x365)]))
        refine own_st (fun _ k => XS.astore X371.here hx rfl (hb hby at_227) rfl rfl (l' := #[.val (.long p0), .second, .val (.long p1), .second, .val (.long p2), .second, .val (.int p3), .val (.long sv), .second, .val (.int (0 : Int32)), .val (.ref b284), .val (.ref b286), .val (.ref b314), .val (.ref r365), .val (.int (1 : Int32)), .val (.long sv), .second, .val (.ref x365)]) rfl k) ?_
        show own_go _ _ _ _ _ _ _ (T371.setTop (mkF m 229 #[.val (.long p0), .second, .val (.long p1), .second, .val (.long p2), .second, .val (.int p3), .val (.long sv), .second, .val (.int (0 : Int32)), .val (.ref b284), .val (.ref b286), .val (.ref b314), .val (.ref r365), .val (.int (1 : Int32)), .val (.long sv), .second, .val (.ref x365)] []))
        refine own_st (fun _ k => XS.aload X371.here hx rfl (hb hby at_229) rfl rfl k) ?_
        show own_go _ _ _ _ _ _ _ (T371.setTop (mkF m 231 #[.val (.long p0), .second, .val (.long p1), .second, .val (.long p2), .second, .val (.int p3), .val (.long sv), .second, .val (.int (0 : Int32)), .val (.ref b284), .val (.ref b286), .val (.ref b314), .val (.ref r365), .val (.int (1 : Int32)), .val (.long sv), .second, .val (.ref x365)] [(.ref x365)]))
        obtain ⟨v372, T372, L372, X372, hQ372, st372⟩ := own_callV X371 hx hZ (argsL := []) (rest := []) (rm_rfrom l Z a0 hw x365 p1 T365.heap n0 O365 G365) hown (hw _ (List.mem_of_getElem? (i := 222) rfl)) (hw _ (List.mem_of_getElem? (i := 223) rfl)) (notFace_of_selects (args := #[]) (mvT hZ (hw _ (List.mem_of_getElem? (i := 225) rfl)))) (hw _ (List.mem_of_getElem? (i := 225) rfl)) (hw _ (List.mem_of_getElem? (i := 224) rfl)) (hw _ (List.mem_of_getElem? (i := 89) rfl)) (hw _ (List.mem_of_getElem? (i := 226) rfl)) (by decide) e371 B365 (g := (mkF m 231 #[.val (.long p0), .second, .val (.long p1), .second, .val (.long p2), .second, .val (.int p3), .val (.long sv), .second, .val (.int (0 : Int32)), .val (.ref b284), .val (.ref b286), .val (.ref b314), .val (.ref r365), .val (.int (1 : Int32)), .val (.long sv), .second, .val (.ref x365)] [(.ref x365)])) rfl (by rw [hml]; rfl) (lenOf own_pd__28_29J rfl) rfl (W := 0) (by show 2 * 0 + _ ≤ _; exact Nat.le_of_eq rfl) (hb hby at_231) (by decide) (by decide) (by decide) (by decide)
        obtain ⟨rfl, Nq372, eq372⟩ := hQ372
        have N372 := Fr.app N370 Nq372
        refine own_st st372 ?_
        show own_go _ _ _ _ _ _ _ (T372.setTop (mkF m 234 #[.val (.long p0), .second, .val (.long p1), .second, .val (.long p2), .second, .val (.int p3), .val (.long sv), .second, .val (.int (0 : Int32)), .val (.ref b284), .val (.ref b286), .val (.ref b314), .val (.ref r365), .val (.int (1 : Int32)), .val (.long sv), .second, .val (.ref x365)] [(.long p1)]))
        refine own_st (fun _ k => XS.lloadN X372.here hx rfl (hb hby at_234) rfl k) ?_
        show own_go _ _ _ _ _ _ _ (T372.setTop (mkF m 235 #[.val (.long p0), .second, .val (.long p1), .second, .val (.long p2), .second, .val (.int p3), .val (.long sv), .second, .val (.int (0 : Int32)), .val (.ref b284), .val (.ref b286), .val (.ref b314), .val (.ref r365), .val (.int (1 : Int32)), .val (.long sv), .second, .val (.ref x365)] [(.long p1), (.long p1)]))
        refine own_st (fun _ k => XS.lcmp X372.here hx rfl (hb hby at_235) rfl k) ?_
        show own_go _ _ _ _ _ _ _ (T372.setTop (mkF m 236 #[.val (.long p0), .second, .val (.long p1), .second, .val (.long p2), .second, .val (.int p3), .val (.long sv), .second, .val (.int (0 : Int32)), .val (.ref b284), .val (.ref b286), .val (.ref b314), .val (.ref r365), .val (.int (1 : Int32)), .val (.long sv), .second, .val (.ref x365)] [(.int (lcmpW p1 p1))]))
        refine own_st (fun _ k => XS.ifNo X372.here hx rfl (hb hby at_236) rfl (XT.ll_ne_f rfl) k) ?_
        show own_go _ _ _ _ _ _ _ (T372.setTop (mkF m 239 #[.val (.long p0), .second, .val (.long p1), .second, .val (.long p2), .second, .val (.int p3), .val (.long sv), .second, .val (.int (0 : Int32)), .val (.ref b284), .val (.ref b286), .val (.ref b314), .val (.ref r365), .val (.int (1 : Int32)), .val (.long sv), .second, .val (.ref x365)] []))
        refine own_st (fun _ k => XS.aload X372.here hx rfl (hb hby at_239) rfl rfl k) ?_
        show own_go _ _ _ _ _ _ _ (T372.setTop (mkF m 241 #[.val (.long p0), .second, .val (.long p1), .second, .val (.long p2), .second, .val (.int p3), .val (.long sv), .second, .val (.int (0 : Int32)), .val (.ref b284), .val (.ref b286), .val (.ref b314), .val (.ref r365), .val (.int (1 : Int32)), .val (.long sv), .second, .val (.ref x365)] [(.ref x365)]))
        obtain ⟨v373, T373, L373, X373, hQ373, st373⟩ := own_callV X372 hx hZ (argsL := []) (rest := []) (rm_rto l Z a0 hw x365 sv T365.heap n0 O365 I365) hown (hw _ (List.mem_of_getElem? (i := 227) rfl)) (hw _ (List.mem_of_getElem? (i := 175) rfl)) (notFace_of_selects (args := #[]) (mvT hZ (hw _ (List.mem_of_getElem? (i := 177) rfl)))) (hw _ (List.mem_of_getElem? (i := 177) rfl)) (hw _ (List.mem_of_getElem? (i := 176) rfl)) (hw _ (List.mem_of_getElem? (i := 89) rfl)) (hw _ (List.mem_of_getElem? (i := 178) rfl)) (by decide) eq372 B365 (g := (mkF m 241 #[.val (.long p0), .second, .val (.long p1), .second, .val (.long p2), .second, .val (.int p3), .val (.long sv), .second, .val (.int (0 : Int32)), .val (.ref b284), .val (.ref b286), .val (.ref b314), .val (.ref r365), .val (.int (1 : Int32)), .val (.long sv), .second, .val (.ref x365)] [(.ref x365)])) rfl (by rw [hml]; rfl) (lenOf own_pd__28_29J rfl) rfl (W := 0) (by show 2 * 0 + _ ≤ _; exact Nat.le_of_eq rfl) (hb hby at_241) (by decide) (by decide) (by decide) (by decide)
        obtain ⟨rfl, Nq373, eq373⟩ := hQ373
        have N373 := Fr.app N372 Nq373
        refine own_st st373 ?_
        show own_go _ _ _ _ _ _ _ (T373.setTop (mkF m 244 #[.val (.long p0), .second, .val (.long p1), .second, .val (.long p2), .second, .val (.int p3), .val (.long sv), .second, .val (.int (0 : Int32)), .val (.ref b284), .val (.ref b286), .val (.ref b314), .val (.ref r365), .val (.int (1 : Int32)), .val (.long sv), .second, .val (.ref x365)] [(.long sv)]))
        refine own_st (fun _ k => XS.lload X373.here hx rfl (hb hby at_244) rfl k) ?_
        show own_go _ _ _ _ _ _ _ (T373.setTop (mkF m 246 #[.val (.long p0), .second, .val (.long p1), .second, .val (.long p2), .second, .val (.int p3), .val (.long sv), .second, .val (.int (0 : Int32)), .val (.ref b284), .val (.ref b286), .val (.ref b314), .val (.ref r365), .val (.int (1 : Int32)), .val (.long sv), .second, .val (.ref x365)] [(.long sv), (.long sv)]))
        refine own_st (fun _ k => XS.lcmp X373.here hx rfl (hb hby at_246) rfl k) ?_
        show own_go _ _ _ _ _ _ _ (T373.setTop (mkF m 247 #[.val (.long p0), .second, .val (.long p1), .second, .val (.long p2), .second, .val (.int p3), .val (.long sv), .second, .val (.int (0 : Int32)), .val (.ref b284), .val (.ref b286), .val (.ref b314), .val (.ref r365), .val (.int (1 : Int32)), .val (.long sv), .second, .val (.ref x365)] [(.int (lcmpW sv sv))]))
        refine own_st (fun _ k => XS.ifNo X373.here hx rfl (hb hby at_247) rfl (XT.ll_ne_f rfl) k) ?_
        show own_go _ _ _ _ _ _ _ (T373.setTop (mkF m 250 #[.val (.long p0), .second, .val (.long p1), .second, .val (.long p2), .second, .val (.int p3), .val (.long sv), .second, .val (.int (0 : Int32)), .val (.ref b284), .val (.ref b286), .val (.ref b314), .val (.ref r365), .val (.int (1 : Int32)), .val (.long sv), .second, .val (.ref x365)] []))
        refine own_st (fun _ k => XS.iconst X373.here hx rfl (hb hby at_250) k) ?_
        show own_go _ _ _ _ _ _ _ (T373.setTop (mkF m 251 #[.val (.long p0), .second, .val (.long p1), .second, .val (.long p2), .second, .val (.int p3), .val (.long sv), .second, .val (.int (0 : Int32)), .val (.ref b284), .val (.ref b286), .val (.ref b314), .val (.ref r365), .val (.int (1 : Int32)), .val (.long sv), .second, .val (.ref x365)] [(.int (1 : Int32))]))
        refine own_st (fun _ k => XS.goto X373.here hx rfl (pc0 := 251) (pc' := 255) rfl (hb hby at_251) (by decide) (by decide) k) ?_
        show own_go _ _ _ _ _ _ _ (T373.setTop (mkF m 255 #[.val (.long p0), .second, .val (.long p1), .second, .val (.long p2), .second, .val (.int p3), .val (.long sv), .second, .val (.int (0 : Int32)), .val (.ref b284), .val (.ref b286), .val (.ref b314), .val (.ref r365), .val (.int (1 : Int32)), .val (.long sv), .second, .val (.ref x365)] [(.int (1 : Int32))]))
        exact own_retN X373 hx hlk (t := .boolean) hret (by simp) rfl (hb hby at_255) (by decide) (by decide) (⟨rfl, N373⟩)
      · skip
        have f375 := ((f333.keep Kq332).keep Kq347)
        have f376 := (F332_0.keep Kq347 nin0)
        have f377 := (F332_1.keep Kq347 nin0)
        obtain ⟨v374, T374, L374, X374, hQ374, st374⟩ := own_callV X347 hx hZ (argsL := [(.ref r347)]) (rest := []) (rm_un_g_0 l Z a0 hw b284 r347 p1 sv p2 c_EMPTY_ELEMENTDATA c_DEFAULTCAPACITY_EMPTY_ELEMENTDATA c_cache c_EMPTY T347.heap n0 O347 hS hc348 hc364 f375 f376 f377 A347 F347) hown (hw _ (List.mem_of_getElem? (i := 194) rfl)) (hw _ (List.mem_of_getElem? (i := 195) rfl)) (notFace_of_selects (args := #[]) (mvT hZ (hw _ (List.mem_of_getElem? (i := 197) rfl)))) (hw _ (List.mem_of_getElem? (i := 197) rfl)) (hw _ (List.mem_of_getElem? (i := 196) rfl)) (hw _ (List.mem_of_getElem? (i := 3) rfl)) (hw _ (List.mem_of_getElem? (i := 198) rfl)) (by decide) rfl f375 (g := (mkF m 112 #[.val (.long p0), .second, .val (.long p1), .second, .val (.long p2), .second, .val (.int p3), .val (.long sv), .second, .val (.int (0 : Int32)), .val (.ref b284), .val (.ref b286), .val (.ref b314), .unset, .unset, .unset, .unset, .unset] [(.ref r347), (.ref b284)])) rfl (by rw [hml]; rfl) (lenOf own_pd__28Ljava_2flang_2fLong_3b_29Ljava_2futil_2fOptional_3b rfl) rfl (W := 0) (by show 2 * 0 + _ ≤ _; exact Nat.le_of_eq rfl) (hb hby at_112) (by decide) (by decide) (by decide) (by decide)
        obtain ⟨rfl, Nq374, Kq374⟩ := hQ374
        have N374 := Fr.app N347 Nq374
        have O374 := O347.keep Kq374 all0
        have K374 := K347.trans Kq374 all0
        refine own_st st374 ?_
        show own_go _ _ _ _ _ _ _ (T374.setTop (mkF m 115 #[.val (.long p0), .second, .val (.long p1), .second, .val (.long p2), .second, .val (.int p3), .val (.long sv), .second, .val (.int (0 : Int32)), .val (.ref b284), .val (.ref b286), .val (.ref b314), .unset, .unset, .unset, .unset, .unset] [(.ref c_EMPTY)]))
        refine own_st (fun _ k => XS.astore X374.here hx rfl (hb hby at_115) rfl rfl (l' := #[.val (.long p0), .second, .val (.long p1), .second, .val (.long p2), .second, .val (.int p3), .val (.long sv), .second, .val (.int (0 : Int32)), .val (.ref b284), .val (.ref b286), .val (.ref b314), .val (.ref c_EMPTY), .unset, .unset, .unset, .unset]) rfl k) ?_
        show own_go _ _ _ _ _ _ _ (T374.setTop (mkF m 117 #[.val (.long p0), .second, .val (.long p1), .second, .val (.long p2), .second, .val (.int p3), .val (.long sv), .second, .val (.int (0 : Int32)), .val (.ref b284), .val (.ref b286), .val (.ref b314), .val (.ref c_EMPTY), .unset, .unset, .unset, .unset] []))
        refine own_st (fun _ k => XS.iload X374.here hx rfl (hb hby at_117) rfl k) ?_
        show own_go _ _ _ _ _ _ _ (T374.setTop (mkF m 119 #[.val (.long p0), .second, .val (.long p1), .second, .val (.long p2), .second, .val (.int p3), .val (.long sv), .second, .val (.int (0 : Int32)), .val (.ref b284), .val (.ref b286), .val (.ref b314), .val (.ref c_EMPTY), .unset, .unset, .unset, .unset] [(.int (0 : Int32))]))
        refine own_st (fun _ k => XS.ifYes X374.here hx rfl (pc0 := 119) (pc' := 143) rfl (hb hby at_119) rfl (by decide) (by decide) (by decide) k) ?_
        show own_go _ _ _ _ _ _ _ (T374.setTop (mkF m 143 #[.val (.long p0), .second, .val (.long p1), .second, .val (.long p2), .second, .val (.int p3), .val (.long sv), .second, .val (.int (0 : Int32)), .val (.ref b284), .val (.ref b286), .val (.ref b314), .val (.ref c_EMPTY), .unset, .unset, .unset, .unset] []))
        refine own_st (fun _ k => XS.lload X374.here hx rfl (hb hby at_143) rfl k) ?_
        show own_go _ _ _ _ _ _ _ (T374.setTop (mkF m 145 #[.val (.long p0), .second, .val (.long p1), .second, .val (.long p2), .second, .val (.int p3), .val (.long sv), .second, .val (.int (0 : Int32)), .val (.ref b284), .val (.ref b286), .val (.ref b314), .val (.ref c_EMPTY), .unset, .unset, .unset, .unset] [(.long p2)]))
        refine own_st (fun _ k => XS.lload X374.here hx rfl (hb hby at_145) rfl k) ?_
        show own_go _ _ _ _ _ _ _ (T374.setTop (mkF m 147 #[.val (.long p0), .second, .val (.long p1), .second, .val (.long p2), .second, .val (.int p3), .val (.long sv), .second, .val (.int (0 : Int32)), .val (.ref b284), .val (.ref b286), .val (.ref b314), .val (.ref c_EMPTY), .unset, .unset, .unset, .unset] [(.long sv), (.long p2)]))
        refine own_st (fun _ k => XS.lcmp X374.here hx rfl (hb hby at_147) rfl k) ?_
        show own_go _ _ _ _ _ _ _ (T374.setTop (mkF m 148 #[.val (.long p0), .second, .val (.long p1), .second, .val (.long p2), .second, .val (.int p3), .val (.long sv), .second, .val (.int (0 : Int32)), .val (.ref b284), .val (.ref b286), .val (.ref b314), .val (.ref c_EMPTY), .unset, .unset, .unset, .unset] [(.int (lcmpW p2 sv))]))
        refine own_st (fun _ k => XS.ifYes X374.here hx rfl (pc0 := 148) (pc' := 172) rfl (hb hby at_148) rfl (XT.ll_ge_t hc348) (by decide) (by decide) k) ?_
        show own_go _ _ _ _ _ _ _ (T374.setTop (mkF m 172 #[.val (.long p0), .second, .val (.long p1), .second, .val (.long p2), .second, .val (.int p3), .val (.long sv), .second, .val (.int (0 : Int32)), .val (.ref b284), .val (.ref b286), .val (.ref b314), .val (.ref c_EMPTY), .unset, .unset, .unset, .unset] []))
        refine own_st (fun _ k => XS.lload X374.here hx rfl (hb hby at_172) rfl k) ?_
        show own_go _ _ _ _ _ _ _ (T374.setTop (mkF m 174 #[.val (.long p0), .second, .val (.long p1), .second, .val (.long p2), .second, .val (.int p3), .val (.long sv), .second, .val (.int (0 : Int32)), .val (.ref b284), .val (.ref b286), .val (.ref b314), .val (.ref c_EMPTY), .unset, .unset, .unset, .unset] [(.long sv)]))
        refine own_st (fun _ k => XS.lloadN X374.here hx rfl (hb hby at_174) rfl k) ?_
        show own_go _ _ _ _ _ _ _ (T374.setTop (mkF m 175 #[.val (.long p0), .second, .val (.long p1), .second, .val (.long p2), .second, .val (.int p3), .val (.long sv), .second, .val (.int (0 : Int32)), .val (.ref b284), .val (.ref b286), .val (.ref b314), .val (.ref c_EMPTY), .unset, .unset, .unset, .unset] [(.long p1), (.long sv)]))
        refine own_st (fun _ k => XS.lcmp X374.here hx rfl (hb hby at_175) rfl k) ?_
        show own_go _ _ _ _ _ _ _ (T374.setTop (mkF m 176 #[.val (.long p0), .second, .val (.long p1), .second, .val (.long p2), .second, .val (.int p3), .val (.long sv), .second, .val (.int (0 : Int32)), .val (.ref b284), .val (.ref b286), .val (.ref b314), .val (.ref c_EMPTY), .unset, .unset, .unset, .unset] [(.int (lcmpW sv p1))]))
        refine own_st (fun _ k => XS.ifYes X374.here hx rfl (pc0 := 176) (pc' := 183) rfl (hb hby at_176) rfl (XT.ll_le_t hc364) (by decide) (by decide) k) ?_
        show own_go _ _ _ _ _ _ _ (T374.setTop (mkF m 183 #[.val (.long p0), .second, .val (.long p1), .second, .val (.long p2), .second, .val (.int p3), .val (.long sv), .second, .val (.int (0 : Int32)), .val (.ref b284), .val (.ref b286), .val (.ref b314), .val (.ref c_EMPTY), .unset, .unset, .unset, .unset] []))
        refine own_st (fun _ k => XS.iconst X374.here hx rfl (hb hby at_183) k) ?_
        show own_go _ _ _ _ _ _ _ (T374.setTop (mkF m 184 #[.val (.long p0), .second, .val (.long p1), .second, .val (.long p2), .second, .val (.int p3), .val (.long sv), .second, .val (.int (0 : Int32)), .val (.ref b284), .val (.ref b286), .val (.ref b314), .val (.ref c_EMPTY), .unset, .unset, .unset, .unset] [(.int (0 : Int32))]))
        refine own_st (fun _ k => XS.istore X374.here hx rfl (hb hby at_184) rfl (l' := #[.val (.long p0), .second, .val (.long p1), .second, .val (.long p2), .second, .val (.int p3), .val (.long sv), .second, .val (.int (0 : Int32)), .val (.ref b284), .val (.ref b286), .val (.ref b314), .val (.ref c_EMPTY), .val (.int (0 : Int32)), .unset, .unset, .unset]) rfl k) ?_
        show own_go _ _ _ _ _ _ _ (T374.setTop (mkF m 186 #[.val (.long p0), .second, .val (.long p1), .second, .val (.long p2), .second, .val (.int p3), .val (.long sv), .second, .val (.int (0 : Int32)), .val (.ref b284), .val (.ref b286), .val (.ref b314), .val (.ref c_EMPTY), .val (.int (0 : Int32)), .unset, .unset, .unset] []))
        refine own_st (fun _ k => XS.lload X374.here hx rfl (hb hby at_186) rfl k) ?_
        show own_go _ _ _ _ _ _ _ (T374.setTop (mkF m 188 #[.val (.long p0), .second, .val (.long p1), .second, .val (.long p2), .second, .val (.int p3), .val (.long sv), .second, .val (.int (0 : Int32)), .val (.ref b284), .val (.ref b286), .val (.ref b314), .val (.ref c_EMPTY), .val (.int (0 : Int32)), .unset, .unset, .unset] [(.long sv)]))
        refine own_st (fun _ k => XS.lstore X374.here hx rfl (hb hby at_188) rfl (l' := #[.val (.long p0), .second, .val (.long p1), .second, .val (.long p2), .second, .val (.int p3), .val (.long sv), .second, .val (.int (0 : Int32)), .val (.ref b284), .val (.ref b286), .val (.ref b314), .val (.ref c_EMPTY), .val (.int (0 : Int32)), .val (.long sv), .second, .unset]) rfl k) ?_
        show own_go _ _ _ _ _ _ _ (T374.setTop (mkF m 190 #[.val (.long p0), .second, .val (.long p1), .second, .val (.long p2), .second, .val (.int p3), .val (.long sv), .second, .val (.int (0 : Int32)), .val (.ref b284), .val (.ref b286), .val (.ref b314), .val (.ref c_EMPTY), .val (.int (0 : Int32)), .val (.long sv), .second, .unset] []))
        refine own_st (fun _ k => XS.iload X374.here hx rfl (hb hby at_190) rfl k) ?_
        show own_go _ _ _ _ _ _ _ (T374.setTop (mkF m 192 #[.val (.long p0), .second, .val (.long p1), .second, .val (.long p2), .second, .val (.int p3), .val (.long sv), .second, .val (.int (0 : Int32)), .val (.ref b284), .val (.ref b286), .val (.ref b314), .val (.ref c_EMPTY), .val (.int (0 : Int32)), .val (.long sv), .second, .unset] [(.int (0 : Int32))]))
        refine own_st (fun _ k => XS.ifNo X374.here hx rfl (hb hby at_192) rfl (by decide) k) ?_
        show own_go _ _ _ _ _ _ _ (T374.setTop (mkF m 195 #[.val (.long p0), .second, .val (.long p1), .second, .val (.long p2), .second, .val (.int p3), .val (.long sv), .second, .val (.int (0 : Int32)), .val (.ref b284), .val (.ref b286), .val (.ref b314), .val (.ref c_EMPTY), .val (.int (0 : Int32)), .val (.long sv), .second, .unset] []))
        refine own_st (fun _ k => XS.aload X374.here hx rfl (hb hby at_195) rfl rfl k) ?_
        show own_go _ _ _ _ _ _ _ (T374.setTop (mkF m 197 #[.val (.long p0), .second, .val (.long p1), .second, .val (.long p2), .second, .val (.int p3), .val (.long sv), .second, .val (.int (0 : Int32)), .val (.ref b284), .val (.ref b286), .val (.ref b314), .val (.ref c_EMPTY), .val (.int (0 : Int32)), .val (.long sv), .second, .unset] [(.ref c_EMPTY)]))
        obtain ⟨v378, T378, L378, X378, hQ378, st378⟩ := own_callV X374 hx hZ (argsL := []) (rest := []) (rmo_isPresent_N l Z a0 hw c_EMPTY  T374.heap n0 O374 (hS.2.2.2.2.2.2.2.2.1.ext O374.2)) hown (hw _ (List.mem_of_getElem? (i := 199) rfl)) (hw _ (List.mem_of_getElem? (i := 132) rfl)) (notFace_of_selects (args := #[]) (mvT hZ (hw _ (List.mem_of_getElem? (i := 134) rfl)))) (hw _ (List.mem_of_getElem? (i := 134) rfl)) (hw _ (List.mem_of_getElem? (i := 133) rfl)) (hw _ (List.mem_of_getElem? (i := 123) rfl)) (hw _ (List.mem_of_getElem? (i := 135) rfl)) (by decide) rfl (hS.2.2.2.2.2.2.2.1.ext O374.2) (g := (mkF m 197 #[.val (.long p0), .second, .val (.long p1), .second, .val (.long p2), .second, .val (.int p3), .val (.long sv), .second, .val (.int (0 : Int32)), .val (.ref b284), .val (.ref b286), .val (.ref b314), .val (.ref c_EMPTY), .val (.int (0 : Int32)), .val (.long sv), .second, .unset] [(.ref c_EMPTY)])) rfl (by rw [hml]; rfl) (lenOf own_pd__28_29Z rfl) rfl (W := 0) (by show 2 * 0 + _ ≤ _; exact Nat.le_of_eq rfl) (hb hby at_197) (by decide) (by decide) (by decide) (by decide)
        obtain ⟨rfl, Nq378, eq378⟩ := hQ378
        have N378 := Fr.app N374 Nq378
        refine own_st st378 ?_
        show own_go _ _ _ _ _ _ _ (T378.setTop (mkF m 200 #[.val (.long p0), .second, .val (.long p1), .second, .val (.long p2), .second, .val (.int p3), .val (.long sv), .second, .val (.int (0 : Int32)), .val (.ref b284), .val (.ref b286), .val (.ref b314), .val (.ref c_EMPTY), .val (.int (0 : Int32)), .val (.long sv), .second, .unset] [(.int (0 : Int32))]))
        refine own_st (fun _ k => XS.ifNo X378.here hx rfl (hb hby at_200) rfl (by decide) k) ?_
        show own_go _ _ _ _ _ _ _ (T378.setTop (mkF m 203 #[.val (.long p0), .second, .val (.long p1), .second, .val (.long p2), .second, .val (.int p3), .val (.long sv), .second, .val (.int (0 : Int32)), .val (.ref b284), .val (.ref b286), .val (.ref b314), .val (.ref c_EMPTY), .val (.int (0 : Int32)), .val (.long sv), .second, .unset] []))
        refine own_st (fun _ k => XS.iconst X378.here hx rfl (hb hby at_203) k) ?_
        show own_go _ _ _ _ _ _ _ (T378.setTop (mkF m 204 #[.val (.long p0), .second, .val (.long p1), .second, .val (.long p2), .second, .val (.int p3), .val (.long sv), .second, .val (.int (0 : Int32)), .val (.ref b284), .val (.ref b286), .val (.ref b314), .val (.ref c_EMPTY), .val (.int (0 : Int32)), .val (.long sv), .second, .unset] [(.int (1 : Int32))]))
        refine own_st (fun _ k => XS.goto X378.here hx rfl (pc0 := 204) (pc' := 208) rfl (hb hby at_204) (by decide) (by decide) k) ?_
        show own_go _ _ _ _ _ _ _ (T378.setTop (mkF m 208 #[.val (.long p0), .second, .val (.long p1), .second, .val (.long p2), .second, .val (.int p3), .val (.long sv), .second, .val (.int (0 : Int32)), .val (.ref b284), .val (.ref b286), .val (.ref b314), .val (.ref c_EMPTY), .val (.int (0 : Int32)), .val (.long sv), .second, .unset] [(.int (1 : Int32))]))
        exact own_retN X378 hx hlk (t := .boolean) hret (by simp) rfl (hb hby at_208) (by decide) (by decide) (⟨rfl, N378⟩)
  · skip
    refine own_st (fun _ k => XS.ifNo X0.here hx rfl (hb hby at_11) rfl (XT.i0_eq_f hc283) k) ?_
    show own_go _ _ _ _ _ _ _ (s₁.setTop (mkF m 14 #[.val (.long p0), .second, .val (.long p1), .second, .val (.long p2), .second, .val (.int p3), .val (.long sv), .second, .unset, .unset, .unset, .unset, .unset, .unset, .unset, .unset, .unset] []))
    refine own_st (fun _ k => XS.iconst X0.here hx rfl (hb hby at_14) k) ?_
    show own_go _ _ _ _ _ _ _ (s₁.setTop (mkF m 15 #[.val (.long p0), .second, .val (.long p1), .second, .val (.long p2), .second, .val (.int p3), .val (.long sv), .second, .unset, .unset, .unset, .unset, .unset, .unset, .unset, .unset, .unset] [(.int (1 : Int32))]))
    refine own_st (fun _ k => XS.goto X0.here hx rfl (pc0 := 15) (pc' := 19) rfl (hb hby at_15) (by decide) (by decide) k) ?_
    show own_go _ _ _ _ _ _ _ (s₁.setTop (mkF m 19 #[.val (.long p0), .second, .val (.long p1), .second, .val (.long p2), .second, .val (.int p3), .val (.long sv), .second, .unset, .unset, .unset, .unset, .unset, .unset, .unset, .unset, .unset] [(.int (1 : Int32))]))
    refine own_st (fun _ k => XS.istore X0.here hx rfl (hb hby at_19) rfl (l' := #[.val (.long p0), .second, .val (.long p1), .second, .val (.long p2), .second, .val (.int p3), .val (.long sv), .second, .val (.int (1 : Int32)), .unset, .unset, .unset, .unset, .unset, .unset, .unset, .unset]) rfl k) ?_
    show own_go _ _ _ _ _ _ _ (s₁.setTop (mkF m 21 #[.val (.long p0), .second, .val (.long p1), .second, .val (.long p2), .second, .val (.int p3), .val (.long sv), .second, .val (.int (1 : Int32)), .unset, .unset, .unset, .unset, .unset, .unset, .unset, .unset] []))
    obtain ⟨T379, h379, X379, e379, E379, A379, D379, -, st379⟩ := newO X0 hx hZ hown (hw _ (List.mem_of_getElem? (i := 1) rfl)) (hw _ (List.mem_of_getElem? (i := 2) rfl)) (hw _ (List.mem_of_getElem? (i := 3) rfl)) e0 (g := (mkF m 21 #[.val (.long p0), .second, .val (.long p1), .second, .val (.long p2), .second, .val (.int p3), .val (.long sv), .second, .val (.int (1 : Int32)), .unset, .unset, .unset, .unset, .unset, .unset, .unset, .unset] [])) rfl (hb hby at_21) (by decide) (by decide)
    obtain ⟨b379, g379⟩ : ∃ z, z = h0.size := ⟨_, rfl⟩
    rw [← g379] at A379 D379 st379
    have ge_b379 : n0 ≤ b379 := by rw [g379]; exact own_osz O0
    have sz_b379 : h0.size ≤ b379 := by rw [g379]; exact K0.1
    have O379 := O0.ext E379
    have K379 := K0.ext E379
    refine own_st st379 ?_
    show own_go _ _ _ _ _ _ _ (T379.setTop (mkF m 24 #[.val (.long p0), .second, .val (.long p1), .second, .val (.long p2), .second, .val (.int p3), .val (.long sv), .second, .val (.int (1 : Int32)), .unset, .unset, .unset, .unset, .unset, .unset, .unset, .unset] [(.ref b379)]))
    refine own_st (fun _ k => XS.dup X379.here hx rfl (hb hby at_24) rfl rfl k) ?_
    show own_go _ _ _ _ _ _ _ (T379.setTop (mkF m 25 #[.val (.long p0), .second, .val (.long p1), .second, .val (.long p2), .second, .val (.int p3), .val (.long sv), .second, .val (.int (1 : Int32)), .unset, .unset, .unset, .unset, .unset, .unset, .unset, .unset] [(.ref b379), (.ref b379)]))
    obtain ⟨v380, T380, L380, X380, hQ380, st380⟩ := own_callN X379 hx hZ (argsL := []) (rest := [(.ref b379)]) (rm_oinit l Z a0 hw b379 c_EMPTY_ELEMENTDATA c_DEFAULTCAPACITY_EMPTY_ELEMENTDATA c_cache c_EMPTY h379 n0 O379 hS ge_b379 A379 (D379 (Or.inr (hw _ (List.mem_of_getElem? (i := 35) rfl))) (ty := (.object "java/util/List")) (by decide)) (D379 (Or.inl (hw _ (List.mem_of_getElem? (i := 180) rfl))) (ty := .long) (by decide)) (D379 (Or.inl (hw _ (List.mem_of_getElem? (i := 109) rfl))) (ty := (.object "java/math/BigDecimal")) (by decide)) (D379 (Or.inl (hw _ (List.mem_of_getElem? (i := 38) rfl))) (ty := .long) (by decide)) (D379 (Or.inl (hw _ (List.mem_of_getElem? (i := 70) rfl))) (ty := .long) (by decide)) (D379 (Or.inl (hw _ (List.mem_of_getElem? (i := 72) rfl))) (ty := (.object "java/lang/Long")) (by decide)) (D379 (Or.inl (hw _ (List.mem_of_getElem? (i := 42) rfl))) (ty := (.array (.object "java/lang/String"))) (by decide))) rfl hown (hw _ (List.mem_of_getElem? (i := 4) rfl)) (hw _ (List.mem_of_getElem? (i := 5) rfl)) (hw _ (List.mem_of_getElem? (i := 3) rfl)) (hw _ (List.mem_of_getElem? (i := 6) rfl)) (by decide) e379 (g := (mkF m 25 #[.val (.long p0), .second, .val (.long p1), .second, .val (.long p2), .second, .val (.int p3), .val (.long sv), .second, .val (.int (1 : Int32)), .unset, .unset, .unset, .unset, .unset, .unset, .unset, .unset] [(.ref b379), (.ref b379)])) rfl (by rw [hml]; rfl) (lenOf own_pd__28_29V rfl) rfl (W := 1) (by show 2 * 0 + _ ≤ _; exact Nat.le_of_eq rfl) (hb hby at_25) (by decide) (by decide) (by decide) (by decide)
    obtain ⟨rfl, Nq380, Kq380, al380, sw380, sz380, A380, F380_0, F380_1, F380_2, G380_0, G380_1, G380_2, G380_3, G380_4, G380_5, G380_6⟩ := hQ380
    have N380 := Fr.app N0 Nq380
    have ne_b379_al380 : b379 ≠ al380 := (Nat.ne_of_lt (Nat.lt_of_lt_of_le A379.lt sz380))
    have O380 := O379.keep Kq380 (allS ge_b379 all0)
    have K380 := K379.trans Kq380 (allS (Or.inr sz_b379) all0)
    refine own_st st380 ?_
    show own_go _ _ _ _ _ _ _ (T380.setTop (mkF m 28 #[.val (.long p0), .second, .val (.long p1), .second, .val (.long p2), .second, .val (.int p3), .val (.long sv), .second, .val (.int (1 : Int32)), .unset, .unset, .unset, .unset, .unset, .unset, .unset, .unset] [(.ref b379)]))
    refine own_st (fun _ k => XS.astore X380.here hx rfl (hb hby at_28) rfl rfl (l' := #[.val (.long p0), .second, .val (.long p1), .second, .val (.long p2), .second, .val (.int p3), .val (.long sv), .second, .val (.int (1 : Int32)), .val (.ref b379), .unset, .unset, .unset, .unset, .unset, .unset, .unset]) rfl k) ?_
    show own_go _ _ _ _ _ _ _ (T380.setTop (mkF m 30 #[.val (.long p0), .second, .val (.long p1), .second, .val (.long p2), .second, .val (.int p3), .val (.long sv), .second, .val (.int (1 : Int32)), .val (.ref b379), .unset, .unset, .unset, .unset, .unset, .unset, .unset] []))
    refine own_st (fun _ k => XS.iconst X380.here hx rfl (hb hby at_30) k) ?_
    show own_go _ _ _ _ _ _ _ (T380.setTop (mkF m 31 #[.val (.long p0), .second, .val (.long p1), .second, .val (.long p2), .second, .val (.int p3), .val (.long sv), .second, .val (.int (1 : Int32)), .val (.ref b379), .unset, .unset, .unset, .unset, .unset, .unset, .unset] [(.int (0 : Int32))]))
    obtain ⟨T381, h381, k381, b381, X381, e381, g381, E381, V381, Ex381, Ov381, st381⟩ := own_arr X380 hx hZ hown (hw _ (List.mem_of_getElem? (i := 43) rfl)) (hw _ (List.mem_of_getElem? (i := 40) rfl)) rfl (g := (mkF m 31 #[.val (.long p0), .second, .val (.long p1), .second, .val (.long p2), .second, .val (.int p3), .val (.long sv), .second, .val (.int (1 : Int32)), .val (.ref b379), .unset, .unset, .unset, .unset, .unset, .unset, .unset] [(.int (0 : Int32))])) rfl (hb hby at_31) rfl (by decide) (cap := 0) (by decide) (by decide) (by decide) (by decide) (ad := "[Ljava/lang/String;") (by decide)
    have ge_b381 : n0 ≤ b381 := by rw [g381]; exact own_osz O380
    have sz_b381 : h0.size ≤ b381 := by rw [g381]; exact K380.1
    have f382 := (A379.keep Kq380)
    have ne_b379_b381 : b379 ≠ b381 := (fun q => absurd f382.lt (by rw [q, g381]; exact Nat.lt_irrefl _))
    have ne_al380_b381 : al380 ≠ b381 := (fun q => absurd A380.lt (by rw [q, g381]; exact Nat.lt_irrefl _))
    have O381 := O380.ext E381
    have K381 := K380.ext E381
    refine own_st st381 ?_
    show own_go _ _ _ _ _ _ _ (T381.setTop (mkF m 34 #[.val (.long p0), .second, .val (.long p1), .second, .val (.long p2), .second, .val (.int p3), .val (.long sv), .second, .val (.int (1 : Int32)), .val (.ref b379), .unset, .unset, .unset, .unset, .unset, .unset, .unset] [(.ref b381)]))
    refine own_st (fun _ k => XS.astore X381.here hx rfl (hb hby at_34) rfl rfl (l' := #[.val (.long p0), .second, .val (.long p1), .second, .val (.long p2), .second, .val (.int p3), .val (.long sv), .second, .val (.int (1 : Int32)), .val (.ref b379), .val (.ref b381), .unset, .unset, .unset, .unset, .unset, .unset]) rfl k) ?_
    show own_go _ _ _ _ _ _ _ (T381.setTop (mkF m 36 #[.val (.long p0), .second, .val (.long p1), .second, .val (.long p2), .second, .val (.int p3), .val (.long sv), .second, .val (.int (1 : Int32)), .val (.ref b379), .val (.ref b381), .unset, .unset, .unset, .unset, .unset, .unset] []))
    refine own_st (fun _ k => XS.aload X381.here hx rfl (hb hby at_36) rfl rfl k) ?_
    show own_go _ _ _ _ _ _ _ (T381.setTop (mkF m 38 #[.val (.long p0), .second, .val (.long p1), .second, .val (.long p2), .second, .val (.int p3), .val (.long sv), .second, .val (.int (1 : Int32)), .val (.ref b379), .val (.ref b381), .unset, .unset, .unset, .unset, .unset, .unset] [(.ref b379)]))
    refine own_st (fun _ k => XS.iconst X381.here hx rfl (hb hby at_38) k) ?_
    show own_go _ _ _ _ _ _ _ (T381.setTop (mkF m 39 #[.val (.long p0), .second, .val (.long p1), .second, .val (.long p2), .second, .val (.int p3), .val (.long sv), .second, .val (.int (1 : Int32)), .val (.ref b379), .val (.ref b381), .unset, .unset, .unset, .unset, .unset, .unset] [(.int (0 : Int32)), (.ref b379)]))
    refine own_st (fun _ k => XS.lload X381.here hx rfl (hb hby at_39) rfl k) ?_
    show own_go _ _ _ _ _ _ _ (T381.setTop (mkF m 41 #[.val (.long p0), .second, .val (.long p1), .second, .val (.long p2), .second, .val (.int p3), .val (.long sv), .second, .val (.int (1 : Int32)), .val (.ref b379), .val (.ref b381), .unset, .unset, .unset, .unset, .unset, .unset] [(.long sv), (.int (0 : Int32)), (.ref b379)]))
    obtain ⟨v383, T383, L383, X383, hQ383, st383⟩ := own_callS X381 hx hZ (argsL := [(.long sv)]) (rest := [(.int (0 : Int32)), (.ref b379)]) (rm_lvo l Z a0 hw sv c_EMPTY_ELEMENTDATA c_DEFAULTCAPACITY_EMPTY_ELEMENTDATA c_cache c_EMPTY h381 n0 O381 hS) hown (hw _ (List.mem_of_getElem? (i := 44) rfl)) (hw _ (List.mem_of_getElem? (i := 45) rfl)) (hw _ (List.mem_of_getElem? (i := 46) rfl)) (hw _ (List.mem_of_getElem? (i := 47) rfl)) (by decide) e381 (g := (mkF m 41 #[.val (.long p0), .second, .val (.long p1), .second, .val (.long p2), .second, .val (.int p3), .val (.long sv), .second, .val (.int (1 : Int32)), .val (.ref b379), .val (.ref b381), .unset, .unset, .unset, .unset, .unset, .unset] [(.long sv), (.int (0 : Int32)), (.ref b379)])) rfl (by rw [hml]; rfl) (lenOf own_pd__28J_29Ljava_2flang_2fLong_3b rfl) rfl (W := 2) (by show 2 * 0 + _ ≤ _; exact Nat.le_of_eq rfl) (hb hby at_41) (by decide) (by decide) (by decide) (by decide)
    obtain ⟨r383, rfl, Nq383, Kq383, A383, F383⟩ := hQ383
    have N383 := Fr.app N380 Nq383
    have O383 := O381.keep Kq383 all0
    have K383 := K381.trans Kq383 all0
    refine own_st st383 ?_
    show own_go _ _ _ _ _ _ _ (T383.setTop (mkF m 44 #[.val (.long p0), .second, .val (.long p1), .second, .val (.long p2), .second, .val (.int p3), .val (.long sv), .second, .val (.int (1 : Int32)), .val (.ref b379), .val (.ref b381), .unset, .unset, .unset, .unset, .unset, .unset] [(.ref r383), (.int (0 : Int32)), (.ref b379)]))
    refine own_st (fun _ k => XS.lload X383.here hx rfl (hb hby at_44) rfl k) ?_
    show own_go _ _ _ _ _ _ _ (T383.setTop (mkF m 46 #[.val (.long p0), .second, .val (.long p1), .second, .val (.long p2), .second, .val (.int p3), .val (.long sv), .second, .val (.int (1 : Int32)), .val (.ref b379), .val (.ref b381), .unset, .unset, .unset, .unset, .unset, .unset] [(.long sv), (.ref r383), (.int (0 : Int32)), (.ref b379)]))
    refine own_st (fun _ k => XS.aload X383.here hx rfl (hb hby at_46) rfl rfl k) ?_
    show own_go _ _ _ _ _ _ _ (T383.setTop (mkF m 48 #[.val (.long p0), .second, .val (.long p1), .second, .val (.long p2), .second, .val (.int p3), .val (.long sv), .second, .val (.int (1 : Int32)), .val (.ref b379), .val (.ref b381), .unset, .unset, .unset, .unset, .unset, .unset] [(.ref b381), (.long sv), (.ref r383), (.int (0 : Int32)), (.ref b379)]))
    refine own_st (fun _ k => XS.iconst X383.here hx rfl (hb hby at_48) k) ?_
    show own_go _ _ _ _ _ _ _ (T383.setTop (mkF m 49 #[.val (.long p0), .second, .val (.long p1), .second, .val (.long p2), .second, .val (.int p3), .val (.long sv), .second, .val (.int (1 : Int32)), .val (.ref b379), .val (.ref b381), .unset, .unset, .unset, .unset, .unset, .unset] [(.int (1 : Int32)), (.ref b381), (.long sv), (.ref r383), (.int (0 : Int32)), (.ref b379)]))
    have f385 := (V381.keep Kq383 nin0)
    have f386 := ((f382.ext E381).keep Kq383)
    have f387 := ((G380_0.ext E381).keep Kq383 nin0)
    have f388 := ((G380_1.ext E381).keep Kq383 nin0)
    have f389 := ((G380_2.ext E381).keep Kq383 nin0)
    have f390 := ((G380_3.ext E381).keep Kq383 nin0)
    have f391 := ((G380_4.ext E381).keep Kq383 nin0)
    have f392 := ((G380_5.ext E381).keep Kq383 nin0)
    have f393 := ((G380_6.ext E381).keep Kq383 nin0)
    have f394 := (Ex381.keep Kq383)
    obtain ⟨v384, T384, L384, X384, hQ384, st384⟩ := own_callV X383 hx hZ (argsL := [(.int (0 : Int32)), (.ref r383), (.long sv), (.ref b381), (.int (1 : Int32))]) (rest := []) (rm_look1 l Z a0 hw b379 r383 sv b381 al380 sw380 k381 c_EMPTY_ELEMENTDATA c_DEFAULTCAPACITY_EMPTY_ELEMENTDATA c_cache c_EMPTY T383.heap n0 O383 hS hsn ge_b379 f386 f387 f388 f389 f390 f391 f392 f393 A383 F383 f394 f385) hown (hw _ (List.mem_of_getElem? (i := 52) rfl)) (hw _ (List.mem_of_getElem? (i := 53) rfl)) (notFace_of_selects (args := #[]) (mvT hZ (hw _ (List.mem_of_getElem? (i := 55) rfl)))) (hw _ (List.mem_of_getElem? (i := 55) rfl)) (hw _ (List.mem_of_getElem? (i := 54) rfl)) (hw _ (List.mem_of_getElem? (i := 3) rfl)) (hw _ (List.mem_of_getElem? (i := 56) rfl)) (by decide) rfl f386 (g := (mkF m 49 #[.val (.long p0), .second, .val (.long p1), .second, .val (.long p2), .second, .val (.int p3), .val (.long sv), .second, .val (.int (1 : Int32)), .val (.ref b379), .val (.ref b381), .unset, .unset, .unset, .unset, .unset, .unset] [(.int (1 : Int32)), (.ref b381), (.long sv), (.ref r383), (.int (0 : Int32)), (.ref b379)])) rfl (by rw [hml]; rfl) (lenOf own_pd__28ZLjava_2flang_2fLong_3bJ_5bLjava_2flang_2fString_3bZ_29V rfl) rfl (W := 0) (by show 2 * 0 + _ ≤ _; exact Nat.le_of_eq rfl) (hb hby at_49) (by decide) (by decide) (by decide) (by decide)
    obtain ⟨rfl, Nq384, Kq384, r384, sw384, A384, F384, G384_0, G384_1, G384_2, G384_3, G384_4, G384_5, G384_6⟩ := hQ384
    have N384 := Fr.app N383 Nq384
    have O384 := O383.keep Kq384 (allS ge_b379 all0)
    have K384 := K383.trans Kq384 (allS (Or.inr sz_b379) all0)
    refine own_st st384 ?_
    show own_go _ _ _ _ _ _ _ (T384.setTop (mkF m 52 #[.val (.long p0), .second, .val (.long p1), .second, .val (.long p2), .second, .val (.int p3), .val (.long sv), .second, .val (.int (1 : Int32)), .val (.ref b379), .val (.ref b381), .unset, .unset, .unset, .unset, .unset, .unset] []))
    refine own_st (fun _ k => XS.aload X384.here hx rfl (hb hby at_52) rfl rfl k) ?_
    show own_go _ _ _ _ _ _ _ (T384.setTop (mkF m 54 #[.val (.long p0), .second, .val (.long p1), .second, .val (.long p2), .second, .val (.int p3), .val (.long sv), .second, .val (.int (1 : Int32)), .val (.ref b379), .val (.ref b381), .unset, .unset, .unset, .unset, .unset, .unset] [(.ref b379)]))
    refine own_st (fun _ k => XS.iconst X384.here hx rfl (hb hby at_54) k) ?_
    show own_go _ _ _ _ _ _ _ (T384.setTop (mkF m 55 #[.val (.long p0), .second, .val (.long p1), .second, .val (.long p2), .second, .val (.int p3), .val (.long sv), .second, .val (.int (1 : Int32)), .val (.ref b379), .val (.ref b381), .unset, .unset, .unset, .unset, .unset, .unset] [(.int (0 : Int32)), (.ref b379)]))
    refine own_st (fun _ k => XS.lload X384.here hx rfl (hb hby at_55) rfl k) ?_
    show own_go _ _ _ _ _ _ _ (T384.setTop (mkF m 57 #[.val (.long p0), .second, .val (.long p1), .second, .val (.long p2), .second, .val (.int p3), .val (.long sv), .second, .val (.int (1 : Int32)), .val (.ref b379), .val (.ref b381), .unset, .unset, .unset, .unset, .unset, .unset] [(.long sv), (.int (0 : Int32)), (.ref b379)]))
    obtain ⟨v395, T395, L395, X395, hQ395, st395⟩ := own_callS X384 hx hZ (argsL := [(.long sv)]) (rest := [(.int (0 : Int32)), (.ref b379)]) (rm_lvo l Z a0 hw sv c_EMPTY_ELEMENTDATA c_DEFAULTCAPACITY_EMPTY_ELEMENTDATA c_cache c_EMPTY T384.heap n0 O384 hS) hown (hw _ (List.mem_of_getElem? (i := 44) rfl)) (hw _ (List.mem_of_getElem? (i := 45) rfl)) (hw _ (List.mem_of_getElem? (i := 46) rfl)) (hw _ (List.mem_of_getElem? (i := 47) rfl)) (by decide) rfl (g := (mkF m 57 #[.val (.long p0), .second, .val (.long p1), .second, .val (.long p2), .second, .val (.int p3), .val (.long sv), .second, .val (.int (1 : Int32)), .val (.ref b379), .val (.ref b381), .unset, .unset, .unset, .unset, .unset, .unset] [(.long sv), (.int (0 : Int32)), (.ref b379)])) rfl (by rw [hml]; rfl) (lenOf own_pd__28J_29Ljava_2flang_2fLong_3b rfl) rfl (W := 2) (by show 2 * 0 + _ ≤ _; exact Nat.le_of_eq rfl) (hb hby at_57) (by decide) (by decide) (by decide) (by decide)
    obtain ⟨r395, rfl, Nq395, Kq395, A395, F395⟩ := hQ395
    have N395 := Fr.app N384 Nq395
    have O395 := O384.keep Kq395 all0
    have K395 := K384.trans Kq395 all0
    refine own_st st395 ?_
    show own_go _ _ _ _ _ _ _ (T395.setTop (mkF m 60 #[.val (.long p0), .second, .val (.long p1), .second, .val (.long p2), .second, .val (.int p3), .val (.long sv), .second, .val (.int (1 : Int32)), .val (.ref b379), .val (.ref b381), .unset, .unset, .unset, .unset, .unset, .unset] [(.ref r395), (.int (0 : Int32)), (.ref b379)]))
    refine own_st (fun _ k => XS.lload X395.here hx rfl (hb hby at_60) rfl k) ?_
    show own_go _ _ _ _ _ _ _ (T395.setTop (mkF m 62 #[.val (.long p0), .second, .val (.long p1), .second, .val (.long p2), .second, .val (.int p3), .val (.long sv), .second, .val (.int (1 : Int32)), .val (.ref b379), .val (.ref b381), .unset, .unset, .unset, .unset, .unset, .unset] [(.long sv), (.ref r395), (.int (0 : Int32)), (.ref b379)]))
    refine own_st (fun _ k => XS.aload X395.here hx rfl (hb hby at_62) rfl rfl k) ?_
    show own_go _ _ _ _ _ _ _ (T395.setTop (mkF m 64 #[.val (.long p0), .second, .val (.long p1), .second, .val (.long p2), .second, .val (.int p3), .val (.long sv), .second, .val (.int (1 : Int32)), .val (.ref b379), .val (.ref b381), .unset, .unset, .unset, .unset, .unset, .unset] [(.ref b381), (.long sv), (.ref r395), (.int (0 : Int32)), (.ref b379)]))
    refine own_st (fun _ k => XS.iconst X395.here hx rfl (hb hby at_64) k) ?_
    show own_go _ _ _ _ _ _ _ (T395.setTop (mkF m 65 #[.val (.long p0), .second, .val (.long p1), .second, .val (.long p2), .second, .val (.int p3), .val (.long sv), .second, .val (.int (1 : Int32)), .val (.ref b379), .val (.ref b381), .unset, .unset, .unset, .unset, .unset, .unset] [(.int (1 : Int32)), (.ref b381), (.long sv), (.ref r395), (.int (0 : Int32)), (.ref b379)]))
    have f397 := ((f385.keep Kq384 (ninS (Ne.symm ne_b379_b381) nin0)).keep Kq395 nin0)
    have f398 := ((f386.keep Kq384).keep Kq395)
    have f399 := (G384_0.keep Kq395 nin0)
    have f400 := (G384_1.keep Kq395 nin0)
    have f401 := (G384_2.keep Kq395 nin0)
    have f402 := (G384_3.keep Kq395 nin0)
    have f403 := (G384_4.keep Kq395 nin0)
    have f404 := (G384_5.keep Kq395 nin0)
    have f405 := (G384_6.keep Kq395 nin0)
    have f406 := ((f394.keep Kq384).keep Kq395)
    have f407 := (A384.keep Kq395)
    have f408 := (F384.keep Kq395 nin0)
    obtain ⟨v396, T396, L396, X396, hQ396, st396⟩ := own_callV X395 hx hZ (argsL := [(.int (0 : Int32)), (.ref r395), (.long sv), (.ref b381), (.int (1 : Int32))]) (rest := []) (rm_look2 l Z a0 hw b379 r395 sv b381 al380 sw384 r384 k381 c_EMPTY_ELEMENTDATA c_DEFAULTCAPACITY_EMPTY_ELEMENTDATA c_cache c_EMPTY T395.heap n0 O395 hS hsn ge_b379 f398 f399 f400 f401 f402 f403 f404 f405 A395 F395 f406 f397 f407 f408) hown (hw _ (List.mem_of_getElem? (i := 52) rfl)) (hw _ (List.mem_of_getElem? (i := 53) rfl)) (notFace_of_selects (args := #[]) (mvT hZ (hw _ (List.mem_of_getElem? (i := 55) rfl)))) (hw _ (List.mem_of_getElem? (i := 55) rfl)) (hw _ (List.mem_of_getElem? (i := 54) rfl)) (hw _ (List.mem_of_getElem? (i := 3) rfl)) (hw _ (List.mem_of_getElem? (i := 56) rfl)) (by decide) rfl f398 (g := (mkF m 65 #[.val (.long p0), .second, .val (.long p1), .second, .val (.long p2), .second, .val (.int p3), .val (.long sv), .second, .val (.int (1 : Int32)), .val (.ref b379), .val (.ref b381), .unset, .unset, .unset, .unset, .unset, .unset] [(.int (1 : Int32)), (.ref b381), (.long sv), (.ref r395), (.int (0 : Int32)), (.ref b379)])) rfl (by rw [hml]; rfl) (lenOf own_pd__28ZLjava_2flang_2fLong_3bJ_5bLjava_2flang_2fString_3bZ_29V rfl) rfl (W := 0) (by show 2 * 0 + _ ≤ _; exact Nat.le_of_eq rfl) (hb hby at_65) (by decide) (by decide) (by decide) (by decide)
    obtain ⟨rfl, Nq396, Kq396, r396, sw396, A396, F396, G396_0, G396_1, G396_2, G396_3, G396_4, G396_5, G396_6⟩ := hQ396
    have N396 := Fr.app N395 Nq396
    have O396 := O395.keep Kq396 (allS ge_b379 all0)
    have K396 := K395.trans Kq396 (allS (Or.inr sz_b379) all0)
    refine own_st st396 ?_
    show own_go _ _ _ _ _ _ _ (T396.setTop (mkF m 68 #[.val (.long p0), .second, .val (.long p1), .second, .val (.long p2), .second, .val (.int p3), .val (.long sv), .second, .val (.int (1 : Int32)), .val (.ref b379), .val (.ref b381), .unset, .unset, .unset, .unset, .unset, .unset] []))
    obtain ⟨T409, h409, X409, e409, E409, A409, D409, -, st409⟩ := newO X396 hx hZ hown (hw _ (List.mem_of_getElem? (i := 85) rfl)) (hw _ (List.mem_of_getElem? (i := 11) rfl)) (hw _ (List.mem_of_getElem? (i := 12) rfl)) rfl (g := (mkF m 68 #[.val (.long p0), .second, .val (.long p1), .second, .val (.long p2), .second, .val (.int p3), .val (.long sv), .second, .val (.int (1 : Int32)), .val (.ref b379), .val (.ref b381), .unset, .unset, .unset, .unset, .unset, .unset] [])) rfl (hb hby at_68) (by decide) (by decide)
    obtain ⟨b409, g409⟩ : ∃ z, z = T396.heap.size := ⟨_, rfl⟩
    rw [← g409] at A409 D409 st409
    have ge_b409 : n0 ≤ b409 := by rw [g409]; exact own_osz O396
    have sz_b409 : h0.size ≤ b409 := by rw [g409]; exact K396.1
    have f410 := (f398.keep Kq396)
    have ne_b379_b409 : b379 ≠ b409 := (fun q => absurd f410.lt (by rw [q, g409]; exact Nat.lt_irrefl _))
    have f411 := (((((A380.ext E381).keep Kq383).keep Kq384).keep Kq395).keep Kq396)
    have ne_al380_b409 : al380 ≠ b409 := (fun q => absurd f411.lt (by rw [q, g409]; exact Nat.lt_irrefl _))
    have f412 := (f406.keep Kq396)
    have ne_b381_b409 : b381 ≠ b409 := (fun q => absurd f412.lt (by rw [q, g409]; exact Nat.lt_irrefl _))
    have f413 := (((A383.keep Kq384).keep Kq395).keep Kq396)
    have ne_r383_b409 : r383 ≠ b409 := (fun q => absurd f413.lt (by rw [q, g409]; exact Nat.lt_irrefl _))
    have f414 := (f407.keep Kq396)
    have ne_r384_b409 : r384 ≠ b409 := (fun q => absurd f414.lt (by rw [q, g409]; exact Nat.lt_irrefl _))
    have f415 := (A395.keep Kq396)
    have ne_r395_b409 : r395 ≠ b409 := (fun q => absurd f415.lt (by rw [q, g409]; exact Nat.lt_irrefl _))
    have ne_r396_b409 : r396 ≠ b409 := (fun q => absurd A396.lt (by rw [q, g409]; exact Nat.lt_irrefl _))
    have O409 := O396.ext E409
    have K409 := K396.ext E409
    refine own_st st409 ?_
    show own_go _ _ _ _ _ _ _ (T409.setTop (mkF m 71 #[.val (.long p0), .second, .val (.long p1), .second, .val (.long p2), .second, .val (.int p3), .val (.long sv), .second, .val (.int (1 : Int32)), .val (.ref b379), .val (.ref b381), .unset, .unset, .unset, .unset, .unset, .unset] [(.ref b409)]))
    refine own_st (fun _ k => XS.dup X409.here hx rfl (hb hby at_71) rfl rfl k) ?_
    show own_go _ _ _ _ _ _ _ (T409.setTop (mkF m 72 #[.val (.long p0), .second, .val (.long p1), .second, .val (.long p2), .second, .val (.int p3), .val (.long sv), .second, .val (.int (1 : Int32)), .val (.ref b379), .val (.ref b381), .unset, .unset, .unset, .unset, .unset, .unset] [(.ref b409), (.ref b409)]))
    obtain ⟨v416, T416, L416, X416, hQ416, st416⟩ := own_callN X409 hx hZ (argsL := []) (rest := [(.ref b409)]) (rm_al l Z a0 hw b409 c_EMPTY_ELEMENTDATA c_DEFAULTCAPACITY_EMPTY_ELEMENTDATA c_cache c_EMPTY h409 n0 O409 hS ge_b409 A409 (D409 (Or.inl (hw _ (List.mem_of_getElem? (i := 30) rfl))) (ty := .int) (by decide)) (D409 (Or.inl (hw _ (List.mem_of_getElem? (i := 33) rfl))) (ty := (.array (.object "java/lang/Object"))) (by decide)) (D409 (Or.inl (hw _ (List.mem_of_getElem? (i := 120) rfl))) (ty := .int) (by decide))) rfl hown (hw _ (List.mem_of_getElem? (i := 86) rfl)) (hw _ (List.mem_of_getElem? (i := 14) rfl)) (hw _ (List.mem_of_getElem? (i := 12) rfl)) (hw _ (List.mem_of_getElem? (i := 15) rfl)) (by decide) e409 (g := (mkF m 72 #[.val (.long p0), .second, .val (.long p1), .second, .val (.long p2), .second, .val (.int p3), .val (.long sv), .second, .val (.int (1 : Int32)), .val (.ref b379), .val (.ref b381), .unset, .unset, .unset, .unset, .unset, .unset] [(.ref b409), (.ref b409)])) rfl (by rw [hml]; rfl) (lenOf own_pd__28_29V rfl) rfl (W := 1) (by show 2 * 0 + _ ≤ _; exact Nat.le_of_eq rfl) (hb hby at_72) (by decide) (by decide) (by decide) (by decide)
    obtain ⟨rfl, Nq416, Kq416, F416_0, F416_1, F416_2⟩ := hQ416
    have N416 := Fr.app N396 Nq416
    have O416 := O409.keep Kq416 (allS ge_b409 all0)
    have K416 := K409.trans Kq416 (allS (Or.inr sz_b409) all0)
    refine own_st st416 ?_
    show own_go _ _ _ _ _ _ _ (T416.setTop (mkF m 75 #[.val (.long p0), .second, .val (.long p1), .second, .val (.long p2), .second, .val (.int p3), .val (.long sv), .second, .val (.int (1 : Int32)), .val (.ref b379), .val (.ref b381), .unset, .unset, .unset, .unset, .unset, .unset] [(.ref b409)]))
    refine own_st (fun _ k => XS.astore X416.here hx rfl (hb hby at_75) rfl rfl (l' := #[.val (.long p0), .second, .val (.long p1), .second, .val (.long p2), .second, .val (.int p3), .val (.long sv), .second, .val (.int (1 : Int32)), .val (.ref b379), .val (.ref b381), .val (.ref b409), .unset, .unset, .unset, .unset, .unset]) rfl k) ?_
    show own_go _ _ _ _ _ _ _ (T416.setTop (mkF m 77 #[.val (.long p0), .second, .val (.long p1), .second, .val (.long p2), .second, .val (.int p3), .val (.long sv), .second, .val (.int (1 : Int32)), .val (.ref b379), .val (.ref b381), .val (.ref b409), .unset, .unset, .unset, .unset, .unset] []))
    refine own_st (fun _ k => XS.aload X416.here hx rfl (hb hby at_77) rfl rfl k) ?_
    show own_go _ _ _ _ _ _ _ (T416.setTop (mkF m 79 #[.val (.long p0), .second, .val (.long p1), .second, .val (.long p2), .second, .val (.int p3), .val (.long sv), .second, .val (.int (1 : Int32)), .val (.ref b379), .val (.ref b381), .val (.ref b409), .unset, .unset, .unset, .unset, .unset] [(.ref b379)]))
    obtain ⟨T417, h417, X417, e417, E417, A417, D417, -, st417⟩ := newO X416 hx hZ hown (hw _ (List.mem_of_getElem? (i := 87) rfl)) (hw _ (List.mem_of_getElem? (i := 88) rfl)) (hw _ (List.mem_of_getElem? (i := 89) rfl)) rfl (g := (mkF m 79 #[.val (.long p0), .second, .val (.long p1), .second, .val (.long p2), .second, .val (.int p3), .val (.long sv), .second, .val (.int (1 : Int32)), .val (.ref b379), .val (.ref b381), .val (.ref b409), .unset, .unset, .unset, .unset, .unset] [(.ref b379)])) rfl (hb hby at_79) (by decide) (by decide)
    obtain ⟨b417, g417⟩ : ∃ z, z = T416.heap.size := ⟨_, rfl⟩
    rw [← g417] at A417 D417 st417
    have ge_b417 : n0 ≤ b417 := by rw [g417]; exact own_osz O416
    have sz_b417 : h0.size ≤ b417 := by rw [g417]; exact K416.1
    have f418 := ((f410.ext E409).keep Kq416)
    have ne_b379_b417 : b379 ≠ b417 := (fun q => absurd f418.lt (by rw [q, g417]; exact Nat.lt_irrefl _))
    have f419 := ((f411.ext E409).keep Kq416)
    have ne_al380_b417 : al380 ≠ b417 := (fun q => absurd f419.lt (by rw [q, g417]; exact Nat.lt_irrefl _))
    have f420 := ((f412.ext E409).keep Kq416)
    have ne_b381_b417 : b381 ≠ b417 := (fun q => absurd f420.lt (by rw [q, g417]; exact Nat.lt_irrefl _))
    have f421 := ((f413.ext E409).keep Kq416)
    have ne_r383_b417 : r383 ≠ b417 := (fun q => absurd f421.lt (by rw [q, g417]; exact Nat.lt_irrefl _))
    have f422 := ((f414.ext E409).keep Kq416)
    have ne_r384_b417 : r384 ≠ b417 := (fun q => absurd f422.lt (by rw [q, g417]; exact Nat.lt_irrefl _))
    have f423 := ((f415.ext E409).keep Kq416)
    have ne_r395_b417 : r395 ≠ b417 := (fun q => absurd f423.lt (by rw [q, g417]; exact Nat.lt_irrefl _))
    have f424 := ((A396.ext E409).keep Kq416)
    have ne_r396_b417 : r396 ≠ b417 := (fun q => absurd f424.lt (by rw [q, g417]; exact Nat.lt_irrefl _))
    have f425 := (A409.keep Kq416)
    have ne_b409_b417 : b409 ≠ b417 := (fun q => absurd f425.lt (by rw [q, g417]; exact Nat.lt_irrefl _))
    have O417 := O416.ext E417
    have K417 := K416.ext E417
    refine own_st st417 ?_
    show own_go _ _ _ _ _ _ _ (T417.setTop (mkF m 82 #[.val (.long p0), .second, .val (.long p1), .second, .val (.long p2), .second, .val (.int p3), .val (.long sv), .second, .val (.int (1 : Int32)), .val (.ref b379), .val (.ref b381), .val (.ref b409), .unset, .unset, .unset, .unset, .unset] [(.ref b417), (.ref b379)]))
    refine own_st (fun _ k => XS.dup X417.here hx rfl (hb hby at_82) rfl rfl k) ?_
    show own_go _ _ _ _ _ _ _ (T417.setTop (mkF m 83 #[.val (.long p0), .second, .val (.long p1), .second, .val (.long p2), .second, .val (.int p3), .val (.long sv), .second, .val (.int (1 : Int32)), .val (.ref b379), .val (.ref b381), .val (.ref b409), .unset, .unset, .unset, .unset, .unset] [(.ref b417), (.ref b417), (.ref b379)]))
    refine own_st (fun _ k => XS.lconst X417.here hx rfl (hb hby at_83) k) ?_
    show own_go _ _ _ _ _ _ _ (T417.setTop (mkF m 84 #[.val (.long p0), .second, .val (.long p1), .second, .val (.long p2), .second, .val (.int p3), .val (.long sv), .second, .val (.int (1 : Int32)), .val (.ref b379), .val (.ref b381), .val (.ref b409), .unset, .unset, .unset, .unset, .unset] [(.long (0 : Int64)), (.ref b417), (.ref b417), (.ref b379)]))
    refine own_st (fun _ k => XS.lloadN X417.here hx rfl (hb hby at_84) rfl k) ?_
    show own_go _ _ _ _ _ _ _ (T417.setTop (mkF m 85 #[.val (.long p0), .second, .val (.long p1), .second, .val (.long p2), .second, .val (.int p3), .val (.long sv), .second, .val (.int (1 : Int32)), .val (.ref b379), .val (.ref b381), .val (.ref b409), .unset, .unset, .unset, .unset, .unset] [(.long p1), (.long (0 : Int64)), (.ref b417), (.ref b417), (.ref b379)]))
    obtain ⟨v426, T426, L426, X426, hQ426, st426⟩ := own_callN X417 hx hZ (argsL := [(.long (0 : Int64)), (.long p1)]) (rest := [(.ref b417), (.ref b379)]) (rm_rinit l Z a0 hw b417 (0 : Int64) p1 h417 n0 O417 ge_b417 A417 (D417 (Or.inr (hw _ (List.mem_of_getElem? (i := 100) rfl))) (ty := .long) (by decide)) (D417 (Or.inr (hw _ (List.mem_of_getElem? (i := 102) rfl))) (ty := .long) (by decide))) rfl hown (hw _ (List.mem_of_getElem? (i := 90) rfl)) (hw _ (List.mem_of_getElem? (i := 91) rfl)) (hw _ (List.mem_of_getElem? (i := 89) rfl)) (hw _ (List.mem_of_getElem? (i := 92) rfl)) (by decide) e417 (g := (mkF m 85 #[.val (.long p0), .second, .val (.long p1), .second, .val (.long p2), .second, .val (.int p3), .val (.long sv), .second, .val (.int (1 : Int32)), .val (.ref b379), .val (.ref b381), .val (.ref b409), .unset, .unset, .unset, .unset, .unset] [(.long p1), (.long (0 : Int64)), (.ref b417), (.ref b417), (.ref b379)])) rfl (by rw [hml]; rfl) (lenOf own_pd__28JJ_29V rfl) rfl (W := 2) (by show 2 * 0 + _ ≤ _; exact Nat.le_of_eq rfl) (hb hby at_85) (by decide) (by decide) (by decide) (by decide)
    obtain ⟨rfl, Nq426, Kq426, F426_0, F426_1⟩ := hQ426
    have N426 := Fr.app N416 Nq426
    have O426 := O417.keep Kq426 (allS ge_b417 all0)
    have K426 := K417.trans Kq426 (allS (Or.inr sz_b417) all0)
    refine own_st st426 ?_
    show own_go _ _ _ _ _ _ _ (T426.setTop (mkF m 88 #[.val (.long p0), .second, .val (.long p1), .second, .val (.long p2), .second, .val (.int p3), .val (.long sv), .second, .val (.int (1 : Int32)), .val (.ref b379), .val (.ref b381), .val (.ref b409), .unset, .unset, .unset, .unset, .unset] [(.ref b417), (.ref b379)]))
    refine own_st (fun _ k => XS.aconstNull X426.here hx rfl (hb hby at_88) k) ?_
    show own_go _ _ _ _ _ _ _ (T426.setTop (mkF m 89 #[.val (.long p0), .second, .val (.long p1), .second, .val (.long p2), .second, .val (.int p3), .val (.long sv), .second, .val (.int (1 : Int32)), .val (.ref b379), .val (.ref b381), .val (.ref b409), .unset, .unset, .unset, .unset, .unset] [.null, (.ref b417), (.ref b379)]))
    refine own_st (fun _ k => XS.aload X426.here hx rfl (hb hby at_89) rfl rfl k) ?_
    show own_go _ _ _ _ _ _ _ (T426.setTop (mkF m 91 #[.val (.long p0), .second, .val (.long p1), .second, .val (.long p2), .second, .val (.int p3), .val (.long sv), .second, .val (.int (1 : Int32)), .val (.ref b379), .val (.ref b381), .val (.ref b409), .unset, .unset, .unset, .unset, .unset] [(.ref b409), .null, (.ref b417), (.ref b379)]))
    refine own_st (fun _ k => XS.iconst X426.here hx rfl (hb hby at_91) k) ?_
    show own_go _ _ _ _ _ _ _ (T426.setTop (mkF m 92 #[.val (.long p0), .second, .val (.long p1), .second, .val (.long p2), .second, .val (.int p3), .val (.long sv), .second, .val (.int (1 : Int32)), .val (.ref b379), .val (.ref b381), .val (.ref b409), .unset, .unset, .unset, .unset, .unset] [(.int (0 : Int32)), (.ref b409), .null, (.ref b417), (.ref b379)]))
    refine own_st (fun _ k => XS.lconst X426.here hx rfl (hb hby at_92) k) ?_
    show own_go _ _ _ _ _ _ _ (T426.setTop (mkF m 93 #[.val (.long p0), .second, .val (.long p1), .second, .val (.long p2), .second, .val (.int p3), .val (.long sv), .second, .val (.int (1 : Int32)), .val (.ref b379), .val (.ref b381), .val (.ref b409), .unset, .unset, .unset, .unset, .unset] [(.long (0 : Int64)), (.int (0 : Int32)), (.ref b409), .null, (.ref b417), (.ref b379)]))
    have f428 := ((f418.ext E417).keep Kq426)
    have f429 := ((((G396_0.ext E409).keep Kq416 (ninS ne_b379_b409 nin0)).ext E417).keep Kq426 (ninS ne_b379_b417 nin0))
    have f430 := ((((G396_1.ext E409).keep Kq416 (ninS ne_b379_b409 nin0)).ext E417).keep Kq426 (ninS ne_b379_b417 nin0))
    have f431 := ((((G396_2.ext E409).keep Kq416 (ninS ne_b379_b409 nin0)).ext E417).keep Kq426 (ninS ne_b379_b417 nin0))
    have f432 := ((((G396_3.ext E409).keep Kq416 (ninS ne_b379_b409 nin0)).ext E417).keep Kq426 (ninS ne_b379_b417 nin0))
    have f433 := ((((G396_4.ext E409).keep Kq416 (ninS ne_b379_b409 nin0)).ext E417).keep Kq426 (ninS ne_b379_b417 nin0))
    have f434 := ((((G396_5.ext E409).keep Kq416 (ninS ne_b379_b409 nin0)).ext E417).keep Kq426 (ninS ne_b379_b417 nin0))
    have f435 := ((((G396_6.ext E409).keep Kq416 (ninS ne_b379_b409 nin0)).ext E417).keep Kq426 (ninS ne_b379_b417 nin0))
    have f436 := (A417.keep Kq426)
    have f437 := ((f425.ext E417).keep Kq426)
    have f438 := ((F416_0.ext E417).keep Kq426 (ninS ne_b409_b417 nin0))
    have f439 := ((F416_2.ext E417).keep Kq426 (ninS ne_b409_b417 nin0))
    have f440 := ((f419.ext E417).keep Kq426)
    have f441 := (((((((((F380_2.ext E381).keep Kq383 nin0).keep Kq384 (ninS (Ne.symm ne_b379_al380) nin0)).keep Kq395 nin0).keep Kq396 (ninS (Ne.symm ne_b379_al380) nin0)).ext E409).keep Kq416 (ninS ne_al380_b409 nin0)).ext E417).keep Kq426 (ninS ne_al380_b417 nin0))
    obtain ⟨v427, T427, L427, X427, hQ427, st427⟩ := own_callV X426 hx hZ (argsL := [(.ref b417), .null, (.ref b409), (.int (0 : Int32)), (.long (0 : Int64))]) (rest := []) (rm_read l Z a0 hw b379 b417 b409 al380 r396 sw396 p1 sv c_EMPTY_ELEMENTDATA c_DEFAULTCAPACITY_EMPTY_ELEMENTDATA c_cache c_EMPTY T426.heap n0 O426 hS ge_b379 f428 f429 f430 f431 f432 f433 f434 f435 f436 F426_1 f437 f438 f439 f440 f441) hown (hw _ (List.mem_of_getElem? (i := 103) rfl)) (hw _ (List.mem_of_getElem? (i := 104) rfl)) (notFace_of_selects (args := #[]) (mvT hZ (hw _ (List.mem_of_getElem? (i := 106) rfl)))) (hw _ (List.mem_of_getElem? (i := 106) rfl)) (hw _ (List.mem_of_getElem? (i := 105) rfl)) (hw _ (List.mem_of_getElem? (i := 3) rfl)) (hw _ (List.mem_of_getElem? (i := 107) rfl)) (by decide) rfl f428 (g := (mkF m 93 #[.val (.long p0), .second, .val (.long p1), .second, .val (.long p2), .second, .val (.int p3), .val (.long sv), .second, .val (.int (1 : Int32)), .val (.ref b379), .val (.ref b381), .val (.ref b409), .unset, .unset, .unset, .unset, .unset] [(.long (0 : Int64)), (.int (0 : Int32)), (.ref b409), .null, (.ref b417), (.ref b379)])) rfl (by rw [hml]; rfl) (lenOf own_pd__28Lcom_2fexample_2fusher_2fusher_2fOutboxRuns_24Range_3bLjava_2fmath_2fBigDecimal_3bLjava_2futil_2fList_3bZJ_29V rfl) rfl (W := 0) (by show 2 * 0 + _ ≤ _; exact Nat.le_of_eq rfl) (hb hby at_93) (by decide) (by decide) (by decide) (by decide)
    obtain ⟨rfl, Nq427, Kq427, F427_0, F427_1⟩ := hQ427
    have N427 := Fr.app N426 Nq427
    have O427 := O426.keep Kq427 (allS ge_b379 all0)
    have K427 := K426.trans Kq427 (allS (Or.inr sz_b379) all0)
    refine own_st st427 ?_
    show own_go _ _ _ _ _ _ _ (T427.setTop (mkF m 96 #[.val (.long p0), .second, .val (.long p1), .second, .val (.long p2), .second, .val (.int p3), .val (.long sv), .second, .val (.int (1 : Int32)), .val (.ref b379), .val (.ref b381), .val (.ref b409), .unset, .unset, .unset, .unset, .unset] []))
    refine own_st (fun _ k => XS.aload X427.here hx rfl (hb hby at_96) rfl rfl k) ?_
    show own_go _ _ _ _ _ _ _ (T427.setTop (mkF m 98 #[.val (.long p0), .second, .val (.long p1), .second, .val (.long p2), .second, .val (.int p3), .val (.long sv), .second, .val (.int (1 : Int32)), .val (.ref b379), .val (.ref b381), .val (.ref b409), .unset, .unset, .unset, .unset, .unset] [(.ref b379)]))
    refine own_st (fun _ k => XS.iload X427.here hx rfl (hb hby at_98) rfl k) ?_
    show own_go _ _ _ _ _ _ _ (T427.setTop (mkF m 100 #[.val (.long p0), .second, .val (.long p1), .second, .val (.long p2), .second, .val (.int p3), .val (.long sv), .second, .val (.int (1 : Int32)), .val (.ref b379), .val (.ref b381), .val (.ref b409), .unset, .unset, .unset, .unset, .unset] [(.int (1 : Int32)), (.ref b379)]))
    refine own_st (fun _ k => XS.ifNo X427.here hx rfl (hb hby at_100) rfl (by decide) k) ?_
    show own_go _ _ _ _ _ _ _ (T427.setTop (mkF m 103 #[.val (.long p0), .second, .val (.long p1), .second, .val (.long p2), .second, .val (.int p3), .val (.long sv), .second, .val (.int (1 : Int32)), .val (.ref b379), .val (.ref b381), .val (.ref b409), .unset, .unset, .unset, .unset, .unset] [(.ref b379)]))
    refine own_st (fun _ k => XS.aconstNull X427.here hx rfl (hb hby at_103) k) ?_
    show own_go _ _ _ _ _ _ _ (T427.setTop (mkF m 104 #[.val (.long p0), .second, .val (.long p1), .second, .val (.long p2), .second, .val (.int p3), .val (.long sv), .second, .val (.int (1 : Int32)), .val (.ref b379), .val (.ref b381), .val (.ref b409), .unset, .unset, .unset, .unset, .unset] [.null, (.ref b379)]))
    refine own_st (fun _ k => XS.goto X427.here hx rfl (pc0 := 104) (pc' := 112) rfl (hb hby at_104) (by decide) (by decide) k) ?_
    show own_go _ _ _ _ _ _ _ (T427.setTop (mkF m 112 #[.val (.long p0), .second, .val (.long p1), .second, .val (.long p2), .second, .val (.int p3), .val (.long sv), .second, .val (.int (1 : Int32)), .val (.ref b379), .val (.ref b381), .val (.ref b409), .unset, .unset, .unset, .unset, .unset] [.null, (.ref b379)]))
    by_cases hc442 : p1 < sv
    · skip
      have f444 := (f428.keep Kq427)
      obtain ⟨v443, T443, L443, X443, hQ443, st443⟩ := own_callV X427 hx hZ (argsL := [.null]) (rest := []) (rm_un_n_1 l Z a0 hw b379 p1 sv c_EMPTY_ELEMENTDATA c_DEFAULTCAPACITY_EMPTY_ELEMENTDATA c_cache c_EMPTY T427.heap n0 O427 hS hc442 f444 F427_0 F427_1) hown (hw _ (List.mem_of_getElem? (i := 194) rfl)) (hw _ (List.mem_of_getElem? (i := 195) rfl)) (notFace_of_selects (args := #[]) (mvT hZ (hw _ (List.mem_of_getElem? (i := 197) rfl)))) (hw _ (List.mem_of_getElem? (i := 197) rfl)) (hw _ (List.mem_of_getElem? (i := 196) rfl)) (hw _ (List.mem_of_getElem? (i := 3) rfl)) (hw _ (List.mem_of_getElem? (i := 198) rfl)) (by decide) rfl f444 (g := (mkF m 112 #[.val (.long p0), .second, .val (.long p1), .second, .val (.long p2), .second, .val (.int p3), .val (.long sv), .second, .val (.int (1 : Int32)), .val (.ref b379), .val (.ref b381), .val (.ref b409), .unset, .unset, .unset, .unset, .unset] [.null, (.ref b379)])) rfl (by rw [hml]; rfl) (lenOf own_pd__28Ljava_2flang_2fLong_3b_29Ljava_2futil_2fOptional_3b rfl) rfl (W := 0) (by show 2 * 0 + _ ≤ _; exact Nat.le_of_eq rfl) (hb hby at_112) (by decide) (by decide) (by decide) (by decide)
      obtain ⟨r443, x443, rfl, Nq443, Kq443, A443, F443, B443, G443, I443⟩ := hQ443
      have N443 := Fr.app N427 Nq443
      have O443 := O427.keep Kq443 all0
      have K443 := K427.trans Kq443 all0
      refine own_st st443 ?_
      show own_go _ _ _ _ _ _ _ (T443.setTop (mkF m 115 #[.val (.long p0), .second, .val (.long p1), .second, .val (.long p2), .second, .val (.int p3), .val (.long sv), .second, .val (.int (1 : Int32)), .val (.ref b379), .val (.ref b381), .val (.ref b409), .unset, .unset, .unset, .unset, .unset] [(.ref r443)]))
      refine own_st (fun _ k => XS.astore X443.here hx rfl (hb hby at_115) rfl rfl (l' := #[.val (.long p0), .second, .val (.long p1), .second, .val (.long p2), .second, .val (.int p3), .val (.long sv), .second, .val (.int (1 : Int32)), .val (.ref b379), .val (.ref b381), .val (.ref b409), .val (.ref r443), .unset, .unset, .unset, .unset]) rfl k) ?_
      show own_go _ _ _ _ _ _ _ (T443.setTop (mkF m 117 #[.val (.long p0), .second, .val (.long p1), .second, .val (.long p2), .second, .val (.int p3), .val (.long sv), .second, .val (.int (1 : Int32)), .val (.ref b379), .val (.ref b381), .val (.ref b409), .val (.ref r443), .unset, .unset, .unset, .unset] []))
      refine own_st (fun _ k => XS.iload X443.here hx rfl (hb hby at_117) rfl k) ?_
      show own_go _ _ _ _ _ _ _ (T443.setTop (mkF m 119 #[.val (.long p0), .second, .val (.long p1), .second, .val (.long p2), .second, .val (.int p3), .val (.long sv), .second, .val (.int (1 : Int32)), .val (.ref b379), .val (.ref b381), .val (.ref b409), .val (.ref r443), .unset, .unset, .unset, .unset] [(.int (1 : Int32))]))
      refine own_st (fun _ k => XS.ifNo X443.here hx rfl (hb hby at_119) rfl (by decide) k) ?_
      show own_go _ _ _ _ _ _ _ (T443.setTop (mkF m 122 #[.val (.long p0), .second, .val (.long p1), .second, .val (.long p2), .second, .val (.int p3), .val (.long sv), .second, .val (.int (1 : Int32)), .val (.ref b379), .val (.ref b381), .val (.ref b409), .val (.ref r443), .unset, .unset, .unset, .unset] []))
      refine own_st (fun _ k => XS.lload X443.here hx rfl (hb hby at_122) rfl k) ?_
      show own_go _ _ _ _ _ _ _ (T443.setTop (mkF m 124 #[.val (.long p0), .second, .val (.long p1), .second, .val (.long p2), .second, .val (.int p3), .val (.long sv), .second, .val (.int (1 : Int32)), .val (.ref b379), .val (.ref b381), .val (.ref b409), .val (.ref r443), .unset, .unset, .unset, .unset] [(.long sv)]))
      refine own_st (fun _ k => XS.lloadN X443.here hx rfl (hb hby at_124) rfl k) ?_
      show own_go _ _ _ _ _ _ _ (T443.setTop (mkF m 125 #[.val (.long p0), .second, .val (.long p1), .second, .val (.long p2), .second, .val (.int p3), .val (.long sv), .second, .val (.int (1 : Int32)), .val (.ref b379), .val (.ref b381), .val (.ref b409), .val (.ref r443), .unset, .unset, .unset, .unset] [(.long p1), (.long sv)]))
      refine own_st (fun _ k => XS.lcmp X443.here hx rfl (hb hby at_125) rfl k) ?_
      show own_go _ _ _ _ _ _ _ (T443.setTop (mkF m 126 #[.val (.long p0), .second, .val (.long p1), .second, .val (.long p2), .second, .val (.int p3), .val (.long sv), .second, .val (.int (1 : Int32)), .val (.ref b379), .val (.ref b381), .val (.ref b409), .val (.ref r443), .unset, .unset, .unset, .unset] [(.int (lcmpW sv p1))]))
      refine own_st (fun _ k => XS.ifNo X443.here hx rfl (hb hby at_126) rfl (XT.ll_le_f hc442) k) ?_
      show own_go _ _ _ _ _ _ _ (T443.setTop (mkF m 129 #[.val (.long p0), .second, .val (.long p1), .second, .val (.long p2), .second, .val (.int p3), .val (.long sv), .second, .val (.int (1 : Int32)), .val (.ref b379), .val (.ref b381), .val (.ref b409), .val (.ref r443), .unset, .unset, .unset, .unset] []))
      refine own_st (fun _ k => XS.iconst X443.here hx rfl (hb hby at_129) k) ?_
      show own_go _ _ _ _ _ _ _ (T443.setTop (mkF m 130 #[.val (.long p0), .second, .val (.long p1), .second, .val (.long p2), .second, .val (.int p3), .val (.long sv), .second, .val (.int (1 : Int32)), .val (.ref b379), .val (.ref b381), .val (.ref b409), .val (.ref r443), .unset, .unset, .unset, .unset] [(.int (1 : Int32))]))
      refine own_st (fun _ k => XS.goto X443.here hx rfl (pc0 := 130) (pc' := 134) rfl (hb hby at_130) (by decide) (by decide) k) ?_
      show own_go _ _ _ _ _ _ _ (T443.setTop (mkF m 134 #[.val (.long p0), .second, .val (.long p1), .second, .val (.long p2), .second, .val (.int p3), .val (.long sv), .second, .val (.int (1 : Int32)), .val (.ref b379), .val (.ref b381), .val (.ref b409), .val (.ref r443), .unset, .unset, .unset, .unset] [(.int (1 : Int32))]))
      refine own_st (fun _ k => XS.istore X443.here hx rfl (hb hby at_134) rfl (l' := #[.val (.long p0), .second, .val (.long p1), .second, .val (.long p2), .second, .val (.int p3), .val (.long sv), .second, .val (.int (1 : Int32)), .val (.ref b379), .val (.ref b381), .val (.ref b409), .val (.ref r443), .val (.int (1 : Int32)), .unset, .unset, .unset]) rfl k) ?_
      show own_go _ _ _ _ _ _ _ (T443.setTop (mkF m 136 #[.val (.long p0), .second, .val (.long p1), .second, .val (.long p2), .second, .val (.int p3), .val (.long sv), .second, .val (.int (1 : Int32)), .val (.ref b379), .val (.ref b381), .val (.ref b409), .val (.ref r443), .val (.int (1 : Int32)), .unset, .unset, .unset] []))
      refine own_st (fun _ k => XS.lload X443.here hx rfl (hb hby at_136) rfl k) ?_
      show own_go _ _ _ _ _ _ _ (T443.setTop (mkF m 138 #[.val (.long p0), .second, .val (.long p1), .second, .val (.long p2), .second, .val (.int p3), .val (.long sv), .second, .val (.int (1 : Int32)), .val (.ref b379), .val (.ref b381), .val (.ref b409), .val (.ref r443), .val (.int (1 : Int32)), .unset, .unset, .unset] [(.long sv)]))
      refine own_st (fun _ k => XS.lstore X443.here hx rfl (hb hby at_138) rfl (l' := #[.val (.long p0), .second, .val (.long p1), .second, .val (.long p2), .second, .val (.int p3), .val (.long sv), .second, .val (.int (1 : Int32)), .val (.ref b379), .val (.ref b381), .val (.ref b409), .val (.ref r443), .val (.int (1 : Int32)), .val (.long sv), .second, .unset]) rfl k) ?_
      show own_go _ _ _ _ _ _ _ (T443.setTop (mkF m 140 #[.val (.long p0), .second, .val (.long p1), .second, .val (.long p2), .second, .val (.int p3), .val (.long sv), .second, .val (.int (1 : Int32)), .val (.ref b379), .val (.ref b381), .val (.ref b409), .val (.ref r443), .val (.int (1 : Int32)), .val (.long sv), .second, .unset] []))
      refine own_st (fun _ k => XS.goto X443.here hx rfl (pc0 := 140) (pc' := 190) rfl (hb hby at_140) (by decide) (by decide) k) ?_
      show own_go _ _ _ _ _ _ _ (T443.setTop (mkF m 190 #[.val (.long p0), .second, .val (.long p1), .second, .val (.long p2), .second, .val (.int p3), .val (.long sv), .second, .val (.int (1 : Int32)), .val (.ref b379), .val (.ref b381), .val (.ref b409), .val (.ref r443), .val (.int (1 : Int32)), .val (.long sv), .second, .unset] []))
      refine own_st (fun _ k => XS.iload X443.here hx rfl (hb hby at_190) rfl k) ?_
      show own_go _ _ _ _ _ _ _ (T443.setTop (mkF m 192 #[.val (.long p0), .second, .val (.long p1), .second, .val (.long p2), .second, .val (.int p3), .val (.long sv), .second, .val (.int (1 : Int32)), .val (.ref b379), .val (.ref b381), .val (.ref b409), .val (.ref r443), .val (.int (1 : Int32)), .val (.long sv), .second, .unset] [(.int (1 : Int32))]))
      refine own_st (fun _ k => XS.ifYes X443.here hx rfl (pc0 := 192) (pc' := 209) rfl (hb hby at_192) rfl (by decide) (by decide) (by decide) k) ?_
      show own_go _ _ _ _ _ _ _ (T443.setTop (mkF m 209 #[.val (.long p0), .second, .val (.long p1), .second, .val (.long p2), .second, .val (.int p3), .val (.long sv), .second, .val (.int (1 : Int32)), .val (.ref b379), .val (.ref b381), .val (.ref b409), .val (.ref r443), .val (.int (1 : Int32)), .val (.long sv), .second, .unset] []))
      refine own_st (fun _ k => XS.aload X443.here hx rfl (hb hby at_209) rfl rfl k) ?_
      show own_go _ _ _ _ _ _ _ (T443.setTop (mkF m 211 #[.val (.long p0), .second, .val (.long p1), .second, .val (.long p2), .second, .val (.int p3), .val (.long sv), .second, .val (.int (1 : Int32)), .val (.ref b379), .val (.ref b381), .val (.ref b409), .val (.ref r443), .val (.int (1 : Int32)), .val (.long sv), .second, .unset] [(.ref r443)]))
      obtain ⟨v445, T445, L445, X445, hQ445, st445⟩ := own_callV X443 hx hZ (argsL := []) (rest := []) (rmo_isPresent_R l Z a0 hw r443 x443 T443.heap n0 O443 F443) hown (hw _ (List.mem_of_getElem? (i := 199) rfl)) (hw _ (List.mem_of_getElem? (i := 132) rfl)) (notFace_of_selects (args := #[]) (mvT hZ (hw _ (List.mem_of_getElem? (i := 134) rfl)))) (hw _ (List.mem_of_getElem? (i := 134) rfl)) (hw _ (List.mem_of_getElem? (i := 133) rfl)) (hw _ (List.mem_of_getElem? (i := 123) rfl)) (hw _ (List.mem_of_getElem? (i := 135) rfl)) (by decide) rfl A443 (g := (mkF m 211 #[.val (.long p0), .second, .val (.long p1), .second, .val (.long p2), .second, .val (.int p3), .val (.long sv), .second, .val (.int (1 : Int32)), .val (.ref b379), .val (.ref b381), .val (.ref b409), .val (.ref r443), .val (.int (1 : Int32)), .val (.long sv), .second, .unset] [(.ref r443)])) rfl (by rw [hml]; rfl) (lenOf own_pd__28_29Z rfl) rfl (W := 0) (by show 2 * 0 + _ ≤ _; exact Nat.le_of_eq rfl) (hb hby at_211) (by decide) (by decide) (by decide) (by decide)
      obtain ⟨rfl, Nq445, eq445⟩ := hQ445
      have N445 := Fr.app N443 Nq445
      refine own_st st445 ?_
      show own_go _ _ _ _ _ _ _ (T445.setTop (mkF m 214 #[.val (.long p0), .second, .val (.long p1), .second, .val (.long p2), .second, .val (.int p3), .val (.long sv), .second, .val (.int (1 : Int32)), .val (.ref b379), .val (.ref b381), .val (.ref b409), .val (.ref r443), .val (.int (1 : Int32)), .val (.long sv), .second, .unset] [(.int (1 : Int32))]))
      refine own_st (fun _ k => XS.ifYes X445.here hx rfl (pc0 := 214) (pc' := 219) rfl (hb hby at_214) rfl (by decide) (by decide) (by decide) k) ?_
      show own_go _ _ _ _ _ _ _ (T445.setTop (mkF m 219 #[.val (.long p0), .second, .val (.long p1), .second, .val (.long p2), .second, .val (.int p3), .val (.long sv), .second, .val (.int (1 : Int32)), .val (.ref b379), .val (.ref b381), .val (.ref b409), .val (.ref r443), .val (.int (1 : Int32)), .val (.long sv), .second, .unset] []))
      refine own_st (fun _ k => XS.aload X445.here hx rfl (hb hby at_219) rfl rfl k) ?_
      show own_go _ _ _ _ _ _ _ (T445.setTop (mkF m 221 #[.val (.long p0), .second, .val (.long p1), .second, .val (.long p2), .second, .val (.int p3), .val (.long sv), .second, .val (.int (1 : Int32)), .val (.ref b379), .val (.ref b381), .val (.ref b409), .val (.ref r443), .val (.int (1 : Int32)), .val (.long sv), .second, .unset] [(.ref r443)]))
      obtain ⟨v446, T446, L446, X446, hQ446, st446⟩ := own_callV X445 hx hZ (argsL := []) (rest := []) (rmo_get_R l Z a0 hw r443 x443 T443.heap n0 O443 F443) hown (hw _ (List.mem_of_getElem? (i := 216) rfl)) (hw _ (List.mem_of_getElem? (i := 217) rfl)) (notFace_of_selects (args := #[]) (mvT hZ (hw _ (List.mem_of_getElem? (i := 219) rfl)))) (hw _ (List.mem_of_getElem? (i := 219) rfl)) (hw _ (List.mem_of_getElem? (i := 218) rfl)) (hw _ (List.mem_of_getElem? (i := 123) rfl)) (hw _ (List.mem_of_getElem? (i := 220) rfl)) (by decide) eq445 A443 (g := (mkF m 221 #[.val (.long p0), .second, .val (.long p1), .second, .val (.long p2), .second, .val (.int p3), .val (.long sv), .second, .val (.int (1 : Int32)), .val (.ref b379), .val (.ref b381), .val (.ref b409), .val (.ref r443), .val (.int (1 : Int32)), .val (.long sv), .second, .unset] [(.ref r443)])) rfl (by rw [hml]; rfl) (lenOf own_pd__28_29Ljava_2flang_2fObject_3b rfl) rfl (W := 0) (by show 2 * 0 + _ ≤ _; exact Nat.le_of_eq rfl) (hb hby at_221) (by decide) (by decide) (by decide) (by decide)
      obtain ⟨rfl, Nq446, eq446⟩ := hQ446
      have N446 := Fr.app N445 Nq446
      refine own_st st446 ?_
      show own_go _ _ _ _ _ _ _ (T446.setTop (mkF m 224 #[.val (.long p0), .second, .val (.long p1), .second, .val (.long p2), .second, .val (.int p3), .val (.long sv), .second, .val (.int (1 : Int32)), .val (.ref b379), .val (.ref b381), .val (.ref b409), .val (.ref r443), .val (.int (1 : Int32)), .val (.long sv), .second, .unset] [(.ref x443)]))
      obtain ⟨T447, X447, e447, st447⟩ := castY X446 hx hZ hown (hw _ (List.mem_of_getElem? (i := 87) rfl)) eq446 (Ins.self B443) (g := (mkF m 224 #[.val (.long p0), .second, .val (.long p1), .second, .val (.long p2), .second, .val (.int p3), .val (.long sv), .second, .val (.int (1 : Int32)), .val (.ref b379), .val (.ref b381), .val (.ref b409), .val (.ref r443), .val (.int (1 : Int32)), .val (.long sv), .second, .unset] [(.ref x443)])) rfl rfl (hb hby at_224)
      refine own_st st447 ?_
      show own_go _ _ _ _ _ _ _ (T447.setTop (mkF m 227 #[.val (.long p0), .second, .val (.long p1), .second, .val (.long p2), .second, .val (.int p3), .val (.long sv), .second, .val (.int (1 : Int32)), .val (.ref b379), .val (.ref b381), .val (.ref b409), .val (.ref r443), .val (.int (1 : Int32)), .val (.long sv), .second, .unset] [(.ref x443)]))
      refine own_st (fun _ k => XS.astore X447.here hx rfl (hb hby at_227) rfl rfl (l' := #[.val (.long p0), .second, .val (.long p1), .second, .val (.long p2), .second, .val (.int p3), .val (.long sv), .second, .val (.int (1 : Int32)), .val (.ref b379), .val (.ref b381), .val (.ref b409), .val (.ref r443), .val (.int (1 : Int32)), .val (.long sv), .second, .val (.ref x443)]) rfl k) ?_
      show own_go _ _ _ _ _ _ _ (T447.setTop (mkF m 229 #[.val (.long p0), .second, .val (.long p1), .second, .val (.long p2), .second, .val (.int p3), .val (.long sv), .second, .val (.int (1 : Int32)), .val (.ref b379), .val (.ref b381), .val (.ref b409), .val (.ref r443), .val (.int (1 : Int32)), .val (.long sv), .second, .val (.ref x443)] []))
      refine own_st (fun _ k => XS.aload X447.here hx rfl (hb hby at_229) rfl rfl k) ?_
      show own_go _ _ _ _ _ _ _ (T447.setTop (mkF m 231 #[.val (.long p0), .second, .val (.long p1), .second, .val (.long p2), .second, .val (.int p3), .val (.long sv), .second, .val (.int (1 : Int32)), .val (.ref b379), .val (.ref b381), .val (.ref b409), .val (.ref r443), .val (.int (1 : Int32)), .val (.long sv), .second, .val (.ref x443)] [(.ref x443)]))
      obtain ⟨v448, T448, L448, X448, hQ448, st448⟩ := own_callV X447 hx hZ (argsL := []) (rest := []) (rm_rfrom l Z a0 hw x443 p1 T443.heap n0 O443 G443) hown (hw _ (List.mem_of_getElem? (i := 222) rfl)) (hw _ (List.mem_of_getElem? (i := 223) rfl)) (notFace_of_selects (args := #[]) (mvT hZ (hw _ (List.mem_of_getElem? (i := 225) rfl)))) (hw _ (List.mem_of_getElem? (i := 225) rfl)) (hw _ (List.mem_of_getElem? (i := 224) rfl)) (hw _ (List.mem_of_getElem? (i := 89) rfl)) (hw _ (List.mem_of_getElem? (i := 226) rfl)) (by decide) e447 B443 (g := (mkF m 231 #[.val (.long p0), .second, .val (.long p1), .second, .val (.long p2), .second, .val (.int p3), .val (.long sv), .second, .val (.int (1 : Int32)), .val (.ref b379), .val (.ref b381), .val (.ref b409), .val (.ref r443), .val (.int (1 : Int32)), .val (.long sv), .second, .val (.ref x443)] [(.ref x443)])) rfl (by rw [hml]; rfl) (lenOf own_pd__28_29J rfl) rfl (W := 0) (by show 2 * 0 + _ ≤ _; exact Nat.le_of_eq rfl) (hb hby at_231) (by decide) (by decide) (by decide) (by decide)
      obtain ⟨rfl, Nq448, eq448⟩ := hQ448
      have N448 := Fr.app N446 Nq448
      refine own_st st448 ?_
      show own_go _ _ _ _ _ _ _ (T448.setTop (mkF m 234 #[.val (.long p0), .second, .val (.long p1), .second, .val (.long p2), .second, .val (.int p3), .val (.long sv), .second, .val (.int (1 : Int32)), .val (.ref b379), .val (.ref b381), .val (.ref b409), .val (.ref r443), .val (.int (1 : Int32)), .val (.long sv), .second, .val (.ref x443)] [(.long p1)]))
      refine own_st (fun _ k => XS.lloadN X448.here hx rfl (hb hby at_234) rfl k) ?_
      show own_go _ _ _ _ _ _ _ (T448.setTop (mkF m 235 #[.val (.long p0), .second, .val (.long p1), .second, .val (.long p2), .second, .val (.int p3), .val (.long sv), .second, .val (.int (1 : Int32)), .val (.ref b379), .val (.ref b381), .val (.ref b409), .val (.ref r443), .val (.int (1 : Int32)), .val (.long sv), .second, .val (.ref x443)] [(.long p1), (.long p1)]))
      refine own_st (fun _ k => XS.lcmp X448.here hx rfl (hb hby at_235) rfl k) ?_
      show own_go _ _ _ _ _ _ _ (T448.setTop (mkF m 236 #[.val (.long p0), .second, .val (.long p1), .second, .val (.long p2), .second, .val (.int p3), .val (.long sv), .second, .val (.int (1 : Int32)), .val (.ref b379), .val (.ref b381), .val (.ref b409), .val (.ref r443), .val (.int (1 : Int32)), .val (.long sv), .second, .val (.ref x443)] [(.int (lcmpW p1 p1))]))
      refine own_st (fun _ k => XS.ifNo X448.here hx rfl (hb hby at_236) rfl (XT.ll_ne_f rfl) k) ?_
      show own_go _ _ _ _ _ _ _ (T448.setTop (mkF m 239 #[.val (.long p0), .second, .val (.long p1), .second, .val (.long p2), .second, .val (.int p3), .val (.long sv), .second, .val (.int (1 : Int32)), .val (.ref b379), .val (.ref b381), .val (.ref b409), .val (.ref r443), .val (.int (1 : Int32)), .val (.long sv), .second, .val (.ref x443)] []))
      refine own_st (fun _ k => XS.aload X448.here hx rfl (hb hby at_239) rfl rfl k) ?_
      show own_go _ _ _ _ _ _ _ (T448.setTop (mkF m 241 #[.val (.long p0), .second, .val (.long p1), .second, .val (.long p2), .second, .val (.int p3), .val (.long sv), .second, .val (.int (1 : Int32)), .val (.ref b379), .val (.ref b381), .val (.ref b409), .val (.ref r443), .val (.int (1 : Int32)), .val (.long sv), .second, .val (.ref x443)] [(.ref x443)]))
      obtain ⟨v449, T449, L449, X449, hQ449, st449⟩ := own_callV X448 hx hZ (argsL := []) (rest := []) (rm_rto l Z a0 hw x443 sv T443.heap n0 O443 I443) hown (hw _ (List.mem_of_getElem? (i := 227) rfl)) (hw _ (List.mem_of_getElem? (i := 175) rfl)) (notFace_of_selects (args := #[]) (mvT hZ (hw _ (List.mem_of_getElem? (i := 177) rfl)))) (hw _ (List.mem_of_getElem? (i := 177) rfl)) (hw _ (List.mem_of_getElem? (i := 176) rfl)) (hw _ (List.mem_of_getElem? (i := 89) rfl)) (hw _ (List.mem_of_getElem? (i := 178) rfl)) (by decide) eq448 B443 (g := (mkF m 241 #[.val (.long p0), .second, .val (.long p1), .second, .val (.long p2), .second, .val (.int p3), .val (.long sv), .second, .val (.int (1 : Int32)), .val (.ref b379), .val (.ref b381), .val (.ref b409), .val (.ref r443), .val (.int (1 : Int32)), .val (.long sv), .second, .val (.ref x443)] [(.ref x443)])) rfl (by rw [hml]; rfl) (lenOf own_pd__28_29J rfl) rfl (W := 0) (by show 2 * 0 + _ ≤ _; exact Nat.le_of_eq rfl) (hb hby at_241) (by decide) (by decide) (by decide) (by decide)
      obtain ⟨rfl, Nq449, eq449⟩ := hQ449
      have N449 := Fr.app N448 Nq449
      refine own_st st449 ?_
      show own_go _ _ _ _ _ _ _ (T449.setTop (mkF m 244 #[.val (.long p0), .second, .val (.long p1), .second, .val (.long p2), .second, .val (.int p3), .val (.long sv), .second, .val (.int (1 : Int32)), .val (.ref b379), .val (.ref b381), .val (.ref b409), .val (.ref r443), .val (.int (1 : Int32)), .val (.long sv), .second, .val (.ref x443)] [(.long sv)]))
      refine own_st (fun _ k => XS.lload X449.here hx rfl (hb hby at_244) rfl k) ?_
      show own_go _ _ _ _ _ _ _ (T449.setTop (mkF m 246 #[.val (.long p0), .second, .val (.long p1), .second, .val (.long p2), .second, .val (.int p3), .val (.long sv), .second, .val (.int (1 : Int32)), .val (.ref b379), .val (.ref b381), .val (.ref b409), .val (.ref r443), .val (.int (1 : Int32)), .val (.long sv), .second, .val (.ref x443)] [(.long sv), (.long sv)]))
      refine own_st (fun _ k => XS.lcmp X449.here hx rfl (hb hby at_246) rfl k) ?_
      show own_go _ _ _ _ _ _ _ (T449.setTop (mkF m 247 #[.val (.long p0), .second, .val (.long p1), .second, .val (.long p2), .second, .val (.int p3), .val (.long sv), .second, .val (.int (1 : Int32)), .val (.ref b379), .val (.ref b381), .val (.ref b409), .val (.ref r443), .val (.int (1 : Int32)), .val (.long sv), .second, .val (.ref x443)] [(.int (lcmpW sv sv))]))
      refine own_st (fun _ k => XS.ifNo X449.here hx rfl (hb hby at_247) rfl (XT.ll_ne_f rfl) k) ?_
      show own_go _ _ _ _ _ _ _ (T449.setTop (mkF m 250 #[.val (.long p0), .second, .val (.long p1), .second, .val (.long p2), .second, .val (.int p3), .val (.long sv), .second, .val (.int (1 : Int32)), .val (.ref b379), .val (.ref b381), .val (.ref b409), .val (.ref r443), .val (.int (1 : Int32)), .val (.long sv), .second, .val (.ref x443)] []))
      refine own_st (fun _ k => XS.iconst X449.here hx rfl (hb hby at_250) k) ?_
      show own_go _ _ _ _ _ _ _ (T449.setTop (mkF m 251 #[.val (.long p0), .second, .val (.long p1), .second, .val (.long p2), .second, .val (.int p3), .val (.long sv), .second, .val (.int (1 : Int32)), .val (.ref b379), .val (.ref b381), .val (.ref b409), .val (.ref r443), .val (.int (1 : Int32)), .val (.long sv), .second, .val (.ref x443)] [(.int (1 : Int32))]))
      refine own_st (fun _ k => XS.goto X449.here hx rfl (pc0 := 251) (pc' := 255) rfl (hb hby at_251) (by decide) (by decide) k) ?_
      show own_go _ _ _ _ _ _ _ (T449.setTop (mkF m 255 #[.val (.long p0), .second, .val (.long p1), .second, .val (.long p2), .second, .val (.int p3), .val (.long sv), .second, .val (.int (1 : Int32)), .val (.ref b379), .val (.ref b381), .val (.ref b409), .val (.ref r443), .val (.int (1 : Int32)), .val (.long sv), .second, .val (.ref x443)] [(.int (1 : Int32))]))
      exact own_retN X449 hx hlk (t := .boolean) hret (by simp) rfl (hb hby at_255) (by decide) (by decide) (⟨rfl, N449⟩)
    · skip
      have f451 := (f428.keep Kq427)
      obtain ⟨v450, T450, L450, X450, hQ450, st450⟩ := own_callV X427 hx hZ (argsL := [.null]) (rest := []) (rm_un_n_0 l Z a0 hw b379 p1 sv c_EMPTY_ELEMENTDATA c_DEFAULTCAPACITY_EMPTY_ELEMENTDATA c_cache c_EMPTY T427.heap n0 O427 hS hc442 f451 F427_0 F427_1) hown (hw _ (List.mem_of_getElem? (i := 194) rfl)) (hw _ (List.mem_of_getElem? (i := 195) rfl)) (notFace_of_selects (args := #[]) (mvT hZ (hw _ (List.mem_of_getElem? (i := 197) rfl)))) (hw _ (List.mem_of_getElem? (i := 197) rfl)) (hw _ (List.mem_of_getElem? (i := 196) rfl)) (hw _ (List.mem_of_getElem? (i := 3) rfl)) (hw _ (List.mem_of_getElem? (i := 198) rfl)) (by decide) rfl f451 (g := (mkF m 112 #[.val (.long p0), .second, .val (.long p1), .second, .val (.long p2), .second, .val (.int p3), .val (.long sv), .second, .val (.int (1 : Int32)), .val (.ref b379), .val (.ref b381), .val (.ref b409), .unset, .unset, .unset, .unset, .unset] [.null, (.ref b379)])) rfl (by rw [hml]; rfl) (lenOf own_pd__28Ljava_2flang_2fLong_3b_29Ljava_2futil_2fOptional_3b rfl) rfl (W := 0) (by show 2 * 0 + _ ≤ _; exact Nat.le_of_eq rfl) (hb hby at_112) (by decide) (by decide) (by decide) (by decide)
      obtain ⟨rfl, Nq450, Kq450⟩ := hQ450
      have N450 := Fr.app N427 Nq450
      have O450 := O427.keep Kq450 all0
      have K450 := K427.trans Kq450 all0
      refine own_st st450 ?_
      show own_go _ _ _ _ _ _ _ (T450.setTop (mkF m 115 #[.val (.long p0), .second, .val (.long p1), .second, .val (.long p2), .second, .val (.int p3), .val (.long sv), .second, .val (.int (1 : Int32)), .val (.ref b379), .val (.ref b381), .val (.ref b409), .unset, .unset, .unset, .unset, .unset] [(.ref c_EMPTY)]))
      refine own_st (fun _ k => XS.astore X450.here hx rfl (hb hby at_115) rfl rfl (l' := #[.val (.long p0), .second, .val (.long p1), .second, .val (.long p2), .second, .val (.int p3), .val (.long sv), .second, .val (.int (1 : Int32)), .val (.ref b379), .val (.ref b381), .val (.ref b409), .val (.ref c_EMPTY), .unset, .unset, .unset, .unset]) rfl k) ?_
      show own_go _ _ _ _ _ _ _ (T450.setTop (mkF m 117 #[.val (.long p0), .second, .val (.long p1), .second, .val (.long p2), .second, .val (.int p3), .val (.long sv), .second, .val (.int (1 : Int32)), .val (.ref b379), .val (.ref b381), .val (.ref b409), .val (.ref c_EMPTY), .unset, .unset, .unset, .unset] []))
      refine own_st (fun _ k => XS.iload X450.here hx rfl (hb hby at_117) rfl k) ?_
      show own_go _ _ _ _ _ _ _ (T450.setTop (mkF m 119 #[.val (.long p0), .second, .val (.long p1), .second, .val (.long p2), .second, .val (.int p3), .val (.long sv), .second, .val (.int (1 : Int32)), .val (.ref b379), .val (.ref b381), .val (.ref b409), .val (.ref c_EMPTY), .unset, .unset, .unset, .unset] [(.int (1 : Int32))]))
      refine own_st (fun _ k => XS.ifNo X450.here hx rfl (hb hby at_119) rfl (by decide) k) ?_
      show own_go _ _ _ _ _ _ _ (T450.setTop (mkF m 122 #[.val (.long p0), .second, .val (.long p1), .second, .val (.long p2), .second, .val (.int p3), .val (.long sv), .second, .val (.int (1 : Int32)), .val (.ref b379), .val (.ref b381), .val (.ref b409), .val (.ref c_EMPTY), .unset, .unset, .unset, .unset] []))
      refine own_st (fun _ k => XS.lload X450.here hx rfl (hb hby at_122) rfl k) ?_
      show own_go _ _ _ _ _ _ _ (T450.setTop (mkF m 124 #[.val (.long p0), .second, .val (.long p1), .second, .val (.long p2), .second, .val (.int p3), .val (.long sv), .second, .val (.int (1 : Int32)), .val (.ref b379), .val (.ref b381), .val (.ref b409), .val (.ref c_EMPTY), .unset, .unset, .unset, .unset] [(.long sv)]))
      refine own_st (fun _ k => XS.lloadN X450.here hx rfl (hb hby at_124) rfl k) ?_
      show own_go _ _ _ _ _ _ _ (T450.setTop (mkF m 125 #[.val (.long p0), .second, .val (.long p1), .second, .val (.long p2), .second, .val (.int p3), .val (.long sv), .second, .val (.int (1 : Int32)), .val (.ref b379), .val (.ref b381), .val (.ref b409), .val (.ref c_EMPTY), .unset, .unset, .unset, .unset] [(.long p1), (.long sv)]))
      refine own_st (fun _ k => XS.lcmp X450.here hx rfl (hb hby at_125) rfl k) ?_
      show own_go _ _ _ _ _ _ _ (T450.setTop (mkF m 126 #[.val (.long p0), .second, .val (.long p1), .second, .val (.long p2), .second, .val (.int p3), .val (.long sv), .second, .val (.int (1 : Int32)), .val (.ref b379), .val (.ref b381), .val (.ref b409), .val (.ref c_EMPTY), .unset, .unset, .unset, .unset] [(.int (lcmpW sv p1))]))
      refine own_st (fun _ k => XS.ifYes X450.here hx rfl (pc0 := 126) (pc' := 133) rfl (hb hby at_126) rfl (XT.ll_le_t hc442) (by decide) (by decide) k) ?_
      show own_go _ _ _ _ _ _ _ (T450.setTop (mkF m 133 #[.val (.long p0), .second, .val (.long p1), .second, .val (.long p2), .second, .val (.int p3), .val (.long sv), .second, .val (.int (1 : Int32)), .val (.ref b379), .val (.ref b381), .val (.ref b409), .val (.ref c_EMPTY), .unset, .unset, .unset, .unset] []))
      refine own_st (fun _ k => XS.iconst X450.here hx rfl (hb hby at_133) k) ?_
      show own_go _ _ _ _ _ _ _ (T450.setTop (mkF m 134 #[.val (.long p0), .second, .val (.long p1), .second, .val (.long p2), .second, .val (.int p3), .val (.long sv), .second, .val (.int (1 : Int32)), .val (.ref b379), .val (.ref b381), .val (.ref b409), .val (.ref c_EMPTY), .unset, .unset, .unset, .unset] [(.int (0 : Int32))]))
      refine own_st (fun _ k => XS.istore X450.here hx rfl (hb hby at_134) rfl (l' := #[.val (.long p0), .second, .val (.long p1), .second, .val (.long p2), .second, .val (.int p3), .val (.long sv), .second, .val (.int (1 : Int32)), .val (.ref b379), .val (.ref b381), .val (.ref b409), .val (.ref c_EMPTY), .val (.int (0 : Int32)), .unset, .unset, .unset]) rfl k) ?_
      show own_go _ _ _ _ _ _ _ (T450.setTop (mkF m 136 #[.val (.long p0), .second, .val (.long p1), .second, .val (.long p2), .second, .val (.int p3), .val (.long sv), .second, .val (.int (1 : Int32)), .val (.ref b379), .val (.ref b381), .val (.ref b409), .val (.ref c_EMPTY), .val (.int (0 : Int32)), .unset, .unset, .unset] []))
      refine own_st (fun _ k => XS.lload X450.here hx rfl (hb hby at_136) rfl k) ?_
      show own_go _ _ _ _ _ _ _ (T450.setTop (mkF m 138 #[.val (.long p0), .second, .val (.long p1), .second, .val (.long p2), .second, .val (.int p3), .val (.long sv), .second, .val (.int (1 : Int32)), .val (.ref b379), .val (.ref b381), .val (.ref b409), .val (.ref c_EMPTY), .val (.int (0 : Int32)), .unset, .unset, .unset] [(.long sv)]))
      refine own_st (fun _ k => XS.lstore X450.here hx rfl (hb hby at_138) rfl (l' := #[.val (.long p0), .second, .val (.long p1), .second, .val (.long p2), .second, .val (.int p3), .val (.long sv), .second, .val (.int (1 : Int32)), .val (.ref b379), .val (.ref b381), .val (.ref b409), .val (.ref c_EMPTY), .val (.int (0 : Int32)), .val (.long sv), .second, .unset]) rfl k) ?_
      show own_go _ _ _ _ _ _ _ (T450.setTop (mkF m 140 #[.val (.long p0), .second, .val (.long p1), .second, .val (.long p2), .second, .val (.int p3), .val (.long sv), .second, .val (.int (1 : Int32)), .val (.ref b379), .val (.ref b381), .val (.ref b409), .val (.ref c_EMPTY), .val (.int (0 : Int32)), .val (.long sv), .second, .unset] []))
      refine own_st (fun _ k => XS.goto X450.here hx rfl (pc0 := 140) (pc' := 190) rfl (hb hby at_140) (by decide) (by decide) k) ?_
      show own_go _ _ _ _ _ _ _ (T450.setTop (mkF m 190 #[.val (.long p0), .second, .val (.long p1), .second, .val (.long p2), .second, .val (.int p3), .val (.long sv), .second, .val (.int (1 : Int32)), .val (.ref b379), .val (.ref b381), .val (.ref b409), .val (.ref c_EMPTY), .val (.int (0 : Int32)), .val (.long sv), .second, .unset] []))
      refine own_st (fun _ k => XS.iload X450.here hx rfl (hb hby at_190) rfl k) ?_
      show own_go _ _ _ _ _ _ _ (T450.setTop (mkF m 192 #[.val (.long p0), .second, .val (.long p1), .second, .val (.long p2), .second, .val (.int p3), .val (.long sv), .second, .val (.int (1 : Int32)), .val (.ref b379), .val (.ref b381), .val (.ref b409), .val (.ref c_EMPTY), .val (.int (0 : Int32)), .val (.long sv), .second, .unset] [(.int (0 : Int32))]))
      refine own_st (fun _ k => XS.ifNo X450.here hx rfl (hb hby at_192) rfl (by decide) k) ?_
      show own_go _ _ _ _ _ _ _ (T450.setTop (mkF m 195 #[.val (.long p0), .second, .val (.long p1), .second, .val (.long p2), .second, .val (.int p3), .val (.long sv), .second, .val (.int (1 : Int32)), .val (.ref b379), .val (.ref b381), .val (.ref b409), .val (.ref c_EMPTY), .val (.int (0 : Int32)), .val (.long sv), .second, .unset] []))
      refine own_st (fun _ k => XS.aload X450.here hx rfl (hb hby at_195) rfl rfl k) ?_
      show own_go _ _ _ _ _ _ _ (T450.setTop (mkF m 197 #[.val (.long p0), .second, .val (.long p1), .second, .val (.long p2), .second, .val (.int p3), .val (.long sv), .second, .val (.int (1 : Int32)), .val (.ref b379), .val (.ref b381), .val (.ref b409), .val (.ref c_EMPTY), .val (.int (0 : Int32)), .val (.long sv), .second, .unset] [(.ref c_EMPTY)]))
      obtain ⟨v452, T452, L452, X452, hQ452, st452⟩ := own_callV X450 hx hZ (argsL := []) (rest := []) (rmo_isPresent_N l Z a0 hw c_EMPTY  T450.heap n0 O450 (hS.2.2.2.2.2.2.2.2.1.ext O450.2)) hown (hw _ (List.mem_of_getElem? (i := 199) rfl)) (hw _ (List.mem_of_getElem? (i := 132) rfl)) (notFace_of_selects (args := #[]) (mvT hZ (hw _ (List.mem_of_getElem? (i := 134) rfl)))) (hw _ (List.mem_of_getElem? (i := 134) rfl)) (hw _ (List.mem_of_getElem? (i := 133) rfl)) (hw _ (List.mem_of_getElem? (i := 123) rfl)) (hw _ (List.mem_of_getElem? (i := 135) rfl)) (by decide) rfl (hS.2.2.2.2.2.2.2.1.ext O450.2) (g := (mkF m 197 #[.val (.long p0), .second, .val (.long p1), .second, .val (.long p2), .second, .val (.int p3), .val (.long sv), .second, .val (.int (1 : Int32)), .val (.ref b379), .val (.ref b381), .val (.ref b409), .val (.ref c_EMPTY), .val (.int (0 : Int32)), .val (.long sv), .second, .unset] [(.ref c_EMPTY)])) rfl (by rw [hml]; rfl) (lenOf own_pd__28_29Z rfl) rfl (W := 0) (by show 2 * 0 + _ ≤ _; exact Nat.le_of_eq rfl) (hb hby at_197) (by decide) (by decide) (by decide) (by decide)
      obtain ⟨rfl, Nq452, eq452⟩ := hQ452
      have N452 := Fr.app N450 Nq452
      refine own_st st452 ?_
      show own_go _ _ _ _ _ _ _ (T452.setTop (mkF m 200 #[.val (.long p0), .second, .val (.long p1), .second, .val (.long p2), .second, .val (.int p3), .val (.long sv), .second, .val (.int (1 : Int32)), .val (.ref b379), .val (.ref b381), .val (.ref b409), .val (.ref c_EMPTY), .val (.int (0 : Int32)), .val (.long sv), .second, .unset] [(.int (0 : Int32))]))
      refine own_st (fun _ k => XS.ifNo X452.here hx rfl (hb hby at_200) rfl (by decide) k) ?_
      show own_go _ _ _ _ _ _ _ (T452.setTop (mkF m 203 #[.val (.long p0), .second, .val (.long p1), .second, .val (.long p2), .second, .val (.int p3), .val (.long sv), .second, .val (.int (1 : Int32)), .val (.ref b379), .val (.ref b381), .val (.ref b409), .val (.ref c_EMPTY), .val (.int (0 : Int32)), .val (.long sv), .second, .unset] []))
      refine own_st (fun _ k => XS.iconst X452.here hx rfl (hb hby at_203) k) ?_
      show own_go _ _ _ _ _ _ _ (T452.setTop (mkF m 204 #[.val (.long p0), .second, .val (.long p1), .second, .val (.long p2), .second, .val (.int p3), .val (.long sv), .second, .val (.int (1 : Int32)), .val (.ref b379), .val (.ref b381), .val (.ref b409), .val (.ref c_EMPTY), .val (.int (0 : Int32)), .val (.long sv), .second, .unset] [(.int (1 : Int32))]))
      refine own_st (fun _ k => XS.goto X452.here hx rfl (pc0 := 204) (pc' := 208) rfl (hb hby at_204) (by decide) (by decide) k) ?_
      show own_go _ _ _ _ _ _ _ (T452.setTop (mkF m 208 #[.val (.long p0), .second, .val (.long p1), .second, .val (.long p2), .second, .val (.int p3), .val (.long sv), .second, .val (.int (1 : Int32)), .val (.ref b379), .val (.ref b381), .val (.ref b409), .val (.ref c_EMPTY), .val (.int (0 : Int32)), .val (.long sv), .second, .unset] [(.int (1 : Int32))]))
      exact own_retN X452 hx hlk (t := .boolean) hret (by simp) rfl (hb hby at_208) (by decide) (by decide) (⟨rfl, N452⟩)
set_option maxRecDepth 65536 in
set_option maxHeartbeats 40000000 in
theorem comes_1 {Post : Tables → Env → Array Value → State → Outcome → State → Prop} (hpost : ∀ tb e args s v u, (limb_1_1.after args s (.returned v) u = true ∧ limb_1_2.after args s (.returned v) u = true ∧ True) → FrameEnd s (.returned v) u (Jvm.fieldLocs frame_1_writes args s ++ Jvm.arrayLocs frame_1_arrays args s ++ Jvm.staticLocs frame_1_statics s) 40 128 → Post tb e args s (.returned v) u) :
    ArmFor flags0 classFile x code maxLocals ret World_1 tables_1 room_1 Calls_1 rest_1 Pre_1 Post := by
  intro l hfl _ _ p e ha hc hk s m args below hf hA hF happ hP
  obtain ⟨hcalls, hrest, hpre⟩ := hP
  obtain ⟨-, -, -, hnamed, -, -, -, hat⟩ := (Spec.applies_iff hf).mp happ
  obtain ⟨hg, hn⟩ := and_e (Cond.before_iff.mp (show (Jvm.Cond.and given_1 narrow_1).before args s = true from hpre))
  obtain ⟨h1, hg0⟩ := and_e hg
  obtain ⟨w0, w1, w2, w3, rfl⟩ : ∃ w0 w1 w2 w3 : Value, args = #[w0, w1, w2, w3] := by
    have hs : args.size = 4 := by simpa [Cond.value, given_1] using h1
    obtain ⟨L⟩ := args
    match L, hs with
    | [w0, w1, w2, w3], _ => exact ⟨w0, w1, w2, w3, rfl⟩
  have hw := fun d (hd : d ∈ tables_1) => atoms_spec (ws := Jvm.Cond.code x code maxLocals ret :: tables_1) hat d (List.mem_cons_of_mem _ hd)
  obtain ⟨ha0, hg1⟩ := and_e hg0
  obtain ⟨i0, e0⟩ := isL_v ha0
  obtain rfl : w0 = (.long i0) := Option.some.inj e0
  obtain ⟨ha1, hg2⟩ := and_e hg1
  obtain ⟨i1, e1⟩ := isL_v ha1
  obtain rfl : w1 = (.long i1) := Option.some.inj e1
  obtain ⟨ha2, hg3⟩ := and_e hg2
  obtain ⟨i2, e2⟩ := isL_v ha2
  obtain rfl : w2 = (.long i2) := Option.some.inj e2
  obtain ⟨i3, e3⟩ := is_v hg3
  obtain rfl : w3 = (.int i3) := Option.some.inj e3
  obtain ⟨hsets, hown0⟩ := atoms_of _ (rest_1_c_eq ▸ (show rest_1_c.before _ s = true from hrest))
  have hfit : Fit s := fun {y c} hc i hi => by
    obtain ⟨ha, rfl⟩ := Array.getElem?_eq_some_iff.mp hc
    have q := List.all_eq_true.mp ((Array.all_eq_true_iff_forall_mem.mp hF) _ (Array.getElem_mem ha)) i (List.mem_range.mpr hi)
    simpa [Array.getElem?_eq_getElem hi] using q
  have n1 := hn
  have m3 := Cond.before_iff.mp (hsets _ (List.mem_of_getElem? (i := 3) rfl))
  have m4 := Cond.before_iff.mp (hsets _ (List.mem_of_getElem? (i := 4) rfl))
  obtain ⟨c_EMPTY_ELEMENTDATA, v_c_EMPTY_ELEMENTDATA⟩ := exa_v m4
  have E_c_EMPTY_ELEMENTDATA := Exa.start v_c_EMPTY_ELEMENTDATA m4
  have S_c_EMPTY_ELEMENTDATA := Sta.start v_c_EMPTY_ELEMENTDATA (Or.inl (hsets _ (List.mem_of_getElem? (i := 1) rfl)))
  have m5 := Cond.before_iff.mp (hsets _ (List.mem_of_getElem? (i := 5) rfl))
  have m6 := Cond.before_iff.mp (hsets _ (List.mem_of_getElem? (i := 6) rfl))
  have m7 := Cond.before_iff.mp (hsets _ (List.mem_of_getElem? (i := 7) rfl))
  obtain ⟨c_DEFAULTCAPACITY_EMPTY_ELEMENTDATA, v_c_DEFAULTCAPACITY_EMPTY_ELEMENTDATA⟩ := exa_v m7
  have E_c_DEFAULTCAPACITY_EMPTY_ELEMENTDATA := Exa.start v_c_DEFAULTCAPACITY_EMPTY_ELEMENTDATA m7
  have S_c_DEFAULTCAPACITY_EMPTY_ELEMENTDATA := Sta.start v_c_DEFAULTCAPACITY_EMPTY_ELEMENTDATA (Or.inr ⟨(hw _ (List.mem_of_getElem? (i := 12) rfl)), (hsets _ (List.mem_of_getElem? (i := 2) rfl))⟩)
  have m8 := Cond.before_iff.mp (hsets _ (List.mem_of_getElem? (i := 8) rfl))
  have m11 := Cond.before_iff.mp (hsets _ (List.mem_of_getElem? (i := 11) rfl))
  have m12 := Cond.before_iff.mp (hsets _ (List.mem_of_getElem? (i := 12) rfl))
  obtain ⟨c_cache, v_c_cache⟩ := exa_v m12
  have E_c_cache := Exa.start v_c_cache m12
  have S_c_cache := Sta.start v_c_cache (Or.inl (hsets _ (List.mem_of_getElem? (i := 10) rfl)))
  have m13 := Cond.before_iff.mp (hsets _ (List.mem_of_getElem? (i := 13) rfl))
  have m14 := Cond.before_iff.mp (hsets _ (List.mem_of_getElem? (i := 14) rfl))
  have m17 := Cond.before_iff.mp (hsets _ (List.mem_of_getElem? (i := 17) rfl))
  obtain ⟨c_EMPTY, v_c_EMPTY⟩ := exa_v m17
  have E_c_EMPTY := Exa.start v_c_EMPTY m17
  have S_c_EMPTY := Sta.start v_c_EMPTY (Or.inl (hsets _ (List.mem_of_getElem? (i := 16) rfl)))
  have m18 := Cond.before_iff.mp (hsets _ (List.mem_of_getElem? (i := 18) rfl))
  have F_c_EMPTY_value := own_fldN v_c_EMPTY m18
  obtain ⟨cl_c_cache, A_c_cache⟩ := Arr.start v_c_cache m11
  have W_c_cache := own_cacheS v_c_cache A_c_cache (own_lenV v_c_cache A_c_cache m13) m14
  have hS : own_S s c_EMPTY_ELEMENTDATA c_DEFAULTCAPACITY_EMPTY_ELEMENTDATA c_cache c_EMPTY := ⟨S_c_EMPTY_ELEMENTDATA, E_c_EMPTY_ELEMENTDATA, S_c_DEFAULTCAPACITY_EMPTY_ELEMENTDATA, E_c_DEFAULTCAPACITY_EMPTY_ELEMENTDATA, S_c_cache, E_c_cache, S_c_EMPTY, E_c_EMPTY, F_c_EMPTY_value, W_c_cache⟩

  obtain ⟨n, o, h1, h2, h3, _, L, rfl, ⟨rfl, N⟩, hq⟩ := rm0 l s _ hw tables_1 i0 i1 i2 i3 c_EMPTY_ELEMENTDATA c_DEFAULTCAPACITY_EMPTY_ELEMENTDATA c_cache c_EMPTY s.heap s.heap.size (Old.start s) hS p e ha hc hk s m _ below hf ((Spec.applies_iff_loose hf).mp happ).1 ⟨rfl, State.Warmed39.refl s, rfl⟩ trivial
  refine ⟨n, _, h1, h2, h3, hpost _ _ _ _ _ _ ⟨Cond.after_iff.mpr rfl, Cond.after_iff.mpr (eq_i res_at (Term.int_eval (1)) rfl), trivial⟩ ⟨hq.1, hq.2.1, (hq.2.2.sift fun y hy => Or.inr (N y hy)).mono (by decide) (by decide)⟩⟩
theorem main_1_1 : Claimed_1_1 := comes_1 fun _ _ _ _ _ _ h hF => ⟨h.1, hF⟩
theorem main_1_2 : Claimed_1_2 := comes_1 fun _ _ _ _ _ _ h hF => ⟨h.2.1, hF⟩
end Jvm.Pilot.@@N@@
namespace Jvm.Pilot.@@N@@
open Jvm Jvm.ClassFile Sem Op Lib Jvm.Free Jvm.Stand Jvm.Pilot.@@N@@.Jvm.D
/-! MADE BY PROGRAM (witnessworld.py) out of the Statement's table words and the real class files: 35 classes; the members and pool entries that the words name. The judged class is class 1, her method 1. -/
namespace start1
open Jvm.ClassFile
def u (s : String) : CpInfo := .utf8 (stringToUtf16 s)
/-- a pool by its gaps: so many unusable entries, then the entry; so many at the end -/
def gap : Nat → List CpInfo → List CpInfo
  | 0, r => r
  | n + 1, r => .unusable :: gap n r
def poolList (es : List (Nat × CpInfo)) (last : Nat) : List CpInfo := es.foldr (fun e r => gap e.1 (e.2 :: r)) (gap last [])
def pool (es : List (Nat × CpInfo)) (last : Nat) : Array CpInfo := ⟨poolList es last⟩
def fileOf (pool : Array CpInfo) (this : Nat) (attrs : Array Attribute := #[]) (ms : Array MethodInfo := #[]) (fl : Nat := 33) (sup : Nat := 0) (ifs : Array Nat := #[]) (fds : Array FieldInfo := #[]) : ClassFile where
  minorVersion := 0
  majorVersion := 65
  constantPool := pool
  accessFlags := fl
  thisClass := this
  superClass := sup
  interfaces := ifs
  fields := fds
  methods := ms
  attributes := attrs
def plain (name : String) (sup : Option ClassId) : Class where
  name := name
  kind := .ordinary
  loader := none
  accessFlags := 33
  super := sup
  interfaces := #[]
  cf := none
  fields := #[]
  methods := #[]
  instanceTypes := #[]
  staticTypes := #[]
  resolved := #[]
  callSites := []
  init := .initialized
  statics := none
  mirror := none

def pool0 : Array CpInfo := pool [(5, u "<init>"), (0, u "()V"), (1, .class_ 10), (1, u "java/lang/Object"), (85, u "clone"), (0, u "()Ljava/lang/Object;")] 26

def k0c0 : Code := { maxStack := 0, maxLocals := 1, code := object_method_1_code, exceptionTable := #[], attributes := #[] }
def k0m0 : Method := { name := "<init>", desc := "()V", sig := { parameters := [], returnType := none }, accessFlags := 1, code := some k0c0 }
def k0m1 : Method := { name := "clone", desc := "()Ljava/lang/Object;", sig := { parameters := [], returnType := some (.object "java/lang/Object") }, accessFlags := 260, code := none }
/-- java/lang/Object -/
def k0 : Class := { plain "java/lang/Object" none with
  accessFlags := 33
  interfaces := #[]
  cf := some (fileOf pool0 8 #[] #[{ accessFlags := 1, nameIndex := 5, descriptorIndex := 6, attributes := #[] }, { accessFlags := 260, nameIndex := 96, descriptorIndex := 97, attributes := #[] }] 33 0 #[] #[])
  fields := #[]
  methods := #[k0m0, k0m1]
  instanceTypes := #[]
  staticTypes := #[]
  resolved := Array.replicate 124 none
  statics := none }

def pool1 : Array CpInfo := pool [(2, .class_ 4), (0, .nameAndType 5 6), (0, u "java/lang/Object"), (0, u "<init>"), (0, u "()V"), (0, .class_ 8), (0, u "java/lang/Long"), (0, .long 9223372036854775807), (1, .class_ 12), (0, u "com/example/usher/usher/OutboxRuns"), (0, .methodref 11 3), (0, .class_ 15), (0, u "java/lang/String"), (0, .methodref 7 17), (0, .nameAndType 18 19), (0, u "valueOf"), (0, u "(J)Ljava/lang/Long;"), (0, .methodref 11 21), (0, .nameAndType 22 23), (0, u "looked"), (0, u "(ZLjava/lang/Long;J[Ljava/lang/String;Z)V"), (0, .class_ 25), (0, u "java/util/ArrayList"), (0, .methodref 24 3), (0, .class_ 28), (0, u "com/example/usher/usher/OutboxRuns$Range"), (0, .methodref 27 30), (0, .nameAndType 5 31), (0, u "(JJ)V"), (0, .methodref 11 33), (0, .nameAndType 34 35), (0, u "read"), (0, u "(Lcom/example/usher/usher/OutboxRuns$Range;Ljava/math/BigDecimal;Ljava/util/List;ZJ)V"), (0, .methodref 11 37), (0, .nameAndType 38 39), (0, u "unread"), (0, u "(Ljava/lang/Long;)Ljava/util/Optional;"), (0, .methodref 41 42), (0, .class_ 43), (0, .nameAndType 44 45), (0, u "java/util/Optional"), (0, u "isPresent"), (0, u "()Z"), (0, .methodref 41 47), (0, .nameAndType 48 49), (0, u "get"), (0, u "()Ljava/lang/Object;"), (0, .methodref 27 51), (0, .nameAndType 52 53), (0, u "from"), (0, u "()J"), (0, .methodref 27 55), (0, .nameAndType 56 53), (0, u "to"), (0, .class_ 58), (0, u "com/example/usher/usher/OutboxRunsUnreadPinLaw"), (2, u "law"), (0, u "(JJJI)Z")] 9

def k1m0 : Method := { name := "<init>", desc := "()V", sig := { parameters := [], returnType := none }, accessFlags := 1, code := none }
def k1c1 : Code := { maxStack := 7, maxLocals := 18, code := code, exceptionTable := #[], attributes := #[] }
def k1m1 : Method := { name := "law", desc := "(JJJI)Z", sig := { parameters := [.long, .long, .long, .int], returnType := some .boolean }, accessFlags := 9, code := some k1c1 }
/-- com/example/usher/usher/OutboxRunsUnreadPinLaw -/
def k1 : Class := { plain "com/example/usher/usher/OutboxRunsUnreadPinLaw" (some 0) with
  accessFlags := 49
  interfaces := #[]
  cf := some (fileOf pool1 57 #[] #[{ accessFlags := 1, nameIndex := 5, descriptorIndex := 6, attributes := #[] }, { accessFlags := 9, nameIndex := 61, descriptorIndex := 62, attributes := #[] }] 49 2 #[] #[])
  fields := #[]
  methods := #[k1m0, k1m1]
  instanceTypes := #[]
  staticTypes := #[]
  resolved := Array.replicate 72 none
  statics := none }

def pool2 : Array CpInfo := pool [(1, .methodref 2 3), (0, .class_ 4), (0, .nameAndType 5 6), (0, u "java/lang/Object"), (0, u "<init>"), (0, u "()V"), (0, .class_ 8), (0, u "java/util/ArrayList"), (0, .methodref 7 3), (0, .fieldref 11 12), (0, .class_ 13), (0, .nameAndType 14 15), (0, u "com/example/usher/usher/OutboxRuns"), (0, u "runs"), (0, u "Ljava/util/List;"), (0, .class_ 17), (0, u "java/lang/Long"), (0, .long 9223372036854775807), (1, .fieldref 11 21), (0, .nameAndType 22 23), (0, u "fewestRows"), (0, u "J"), (0, .class_ 25), (0, u "java/lang/String"), (0, .fieldref 11 27), (0, .nameAndType 28 29), (0, u "seenWriters"), (0, u "[Ljava/lang/String;"), (0, .interfaceMethodref 31 32), (0, .class_ 33), (0, .nameAndType 34 35), (0, u "java/util/List"), (0, u "iterator"), (0, u "()Ljava/util/Iterator;"), (0, .interfaceMethodref 37 38), (0, .class_ 39), (0, .nameAndType 40 41), (0, u "java/util/Iterator"), (0, u "hasNext"), (0, u "()Z"), (3, u "()Ljava/lang/Object;"), (0, .class_ 47), (0, u "com/example/usher/usher/OutboxRuns$Run"), (7, u "()J"), (4, .fieldref 11 61), (0, .nameAndType 62 63), (0, u "outOfOrder"), (0, u "Ljava/math/BigDecimal;"), (11, .methodref 76 77), (0, .class_ 29), (0, .nameAndType 78 45), (0, u "clone"), (0, .methodref 16 80), (0, .nameAndType 81 55), (0, u "longValue"), (0, .methodref 83 84), (0, .class_ 85), (0, .nameAndType 86 87), (0, u "java/lang/Math"), (0, u "min"), (0, u "(JJ)J"), (0, .methodref 16 89), (0, .nameAndType 90 91), (0, u "valueOf"), (0, u "(J)Ljava/lang/Long;"), (0, .fieldref 11 93), (0, .nameAndType 94 23), (0, u "settled"), (0, .fieldref 11 96), (0, .nameAndType 97 98), (0, u "seenLast"), (0, u "Ljava/lang/Long;"), (0, .methodref 83 100), (0, .nameAndType 101 87), (0, u "max"), (0, .methodref 103 104), (0, .class_ 105), (0, .nameAndType 106 107), (0, u "java/util/Optional"), (0, u "empty"), (0, u "()Ljava/util/Optional;"), (0, .fieldref 11 109), (0, .nameAndType 110 23), (0, u "learntTo"), (0, .class_ 112), (0, u "com/example/usher/usher/OutboxRuns$Range"), (0, .methodref 111 114), (0, .nameAndType 5 115), (0, u "(JJ)V"), (0, .methodref 103 117), (0, .nameAndType 118 119), (0, u "of"), (0, u "(Ljava/lang/Object;)Ljava/util/Optional;"), (0, .interfaceMethodref 31 121), (0, .nameAndType 122 41), (0, u "isEmpty"), (2, u "get"), (7, .class_ 134), (0, u "com/example/usher/usher/OutboxRuns$Found"), (0, .methodref 11 136), (0, .nameAndType 137 107), (0, u "last"), (0, .methodref 103 139), (0, .nameAndType 140 41), (0, u "isPresent"), (0, .methodref 103 142), (0, .nameAndType 125 45), (29, .methodref 111 173), (0, .nameAndType 174 55), (0, u "to"), (4, u "STEPPED_OVER"), (0, u "I"), (14, u "looked"), (0, u "(ZLjava/lang/Long;J[Ljava/lang/String;Z)V"), (0, u "unread"), (0, u "(Ljava/lang/Long;)Ljava/util/Optional;"), (3, u "read"), (0, u "(Lcom/example/usher/usher/OutboxRuns$Range;Ljava/math/BigDecimal;Ljava/util/List;ZJ)V")] 28

def k2c0 : Code := { maxStack := 3, maxLocals := 1, code := prog_12_method_1_code, exceptionTable := #[], attributes := #[] }
def k2m0 : Method := { name := "<init>", desc := "()V", sig := { parameters := [], returnType := none }, accessFlags := 0, code := some k2c0 }
def k2c1 : Code := { maxStack := 5, maxLocals := 8, code := prog_12_method_6_code, exceptionTable := #[], attributes := #[] }
def k2m1 : Method := { name := "looked", desc := "(ZLjava/lang/Long;J[Ljava/lang/String;Z)V", sig := { parameters := [.boolean, (.object "java/lang/Long"), .long, (.array (.object "java/lang/String")), .boolean], returnType := none }, accessFlags := 0, code := some k2c1 }
def k2c2 : Code := { maxStack := 6, maxLocals := 5, code := prog_12_method_7_code, exceptionTable := #[], attributes := #[] }
def k2m2 : Method := { name := "unread", desc := "(Ljava/lang/Long;)Ljava/util/Optional;", sig := { parameters := [(.object "java/lang/Long")], returnType := some (.object "java/util/Optional") }, accessFlags := 0, code := some k2c2 }
def k2c3 : Code := { maxStack := 3, maxLocals := 2, code := prog_12_method_8_code, exceptionTable := #[], attributes := #[] }
def k2m3 : Method := { name := "last", desc := "()Ljava/util/Optional;", sig := { parameters := [], returnType := some (.object "java/util/Optional") }, accessFlags := 0, code := some k2c3 }
def k2c4 : Code := { maxStack := 13, maxLocals := 13, code := prog_12_method_10_code, exceptionTable := #[], attributes := #[] }
def k2m4 : Method := { name := "read", desc := "(Lcom/example/usher/usher/OutboxRuns$Range;Ljava/math/BigDecimal;Ljava/util/List;ZJ)V", sig := { parameters := [(.object "com/example/usher/usher/OutboxRuns$Range"), (.object "java/math/BigDecimal"), (.object "java/util/List"), .boolean, .long], returnType := none }, accessFlags := 0, code := some k2c4 }
/-- com/example/usher/usher/OutboxRuns -/
def k2 : Class := { plain "com/example/usher/usher/OutboxRuns" (some 0) with
  accessFlags := 32
  interfaces := #[]
  cf := some (fileOf pool2 11 #[.nestMembers #[133, 111, 46]] #[{ accessFlags := 0, nameIndex := 5, descriptorIndex := 6, attributes := #[] }, { accessFlags := 0, nameIndex := 195, descriptorIndex := 196, attributes := #[] }, { accessFlags := 0, nameIndex := 197, descriptorIndex := 198, attributes := #[] }, { accessFlags := 0, nameIndex := 137, descriptorIndex := 107, attributes := #[] }, { accessFlags := 0, nameIndex := 202, descriptorIndex := 203, attributes := #[] }] 32 2 #[] #[{ accessFlags := 24, nameIndex := 179, descriptorIndex := 180, attributes := #[] }, { accessFlags := 18, nameIndex := 14, descriptorIndex := 15, attributes := #[] }, { accessFlags := 2, nameIndex := 110, descriptorIndex := 23, attributes := #[] }, { accessFlags := 2, nameIndex := 62, descriptorIndex := 63, attributes := #[] }, { accessFlags := 2, nameIndex := 22, descriptorIndex := 23, attributes := #[] }, { accessFlags := 2, nameIndex := 94, descriptorIndex := 23, attributes := #[] }, { accessFlags := 2, nameIndex := 97, descriptorIndex := 98, attributes := #[] }, { accessFlags := 2, nameIndex := 28, descriptorIndex := 29, attributes := #[] }])
  fields := #[{ name := "STEPPED_OVER", type := .int, accessFlags := 24, slot := 0, constantValue := 0 }, { name := "runs", type := (.object "java/util/List"), accessFlags := 18, slot := 0, constantValue := 0 }, { name := "learntTo", type := .long, accessFlags := 2, slot := 1, constantValue := 0 }, { name := "outOfOrder", type := (.object "java/math/BigDecimal"), accessFlags := 2, slot := 2, constantValue := 0 }, { name := "fewestRows", type := .long, accessFlags := 2, slot := 3, constantValue := 0 }, { name := "settled", type := .long, accessFlags := 2, slot := 4, constantValue := 0 }, { name := "seenLast", type := (.object "java/lang/Long"), accessFlags := 2, slot := 5, constantValue := 0 }, { name := "seenWriters", type := (.array (.object "java/lang/String")), accessFlags := 2, slot := 6, constantValue := 0 }]
  methods := #[k2m0, k2m1, k2m2, k2m3, k2m4]
  instanceTypes := #[(.object "java/util/List"), .long, (.object "java/math/BigDecimal"), .long, .long, (.object "java/lang/Long"), (.array (.object "java/lang/String"))]
  staticTypes := #[.int]
  resolved := Array.replicate 232 none
  statics := none }

def pool3 : Array CpInfo := pool [(8, .class_ 10), (1, u "java/lang/Iterable"), (24, .class_ 36), (0, u "java/lang/Object")] 25

/-- java/lang/Iterable -/
def k3 : Class := { plain "java/lang/Iterable" (some 0) with
  accessFlags := 1537
  interfaces := #[]
  cf := some (fileOf pool3 8 #[] #[] 1537 35 #[] #[])
  fields := #[]
  methods := #[]
  instanceTypes := #[]
  staticTypes := #[]
  resolved := Array.replicate 62 none
  statics := none }

def pool4 : Array CpInfo := pool [(10, .class_ 12), (1, u "java/util/Collection"), (47, .class_ 61), (0, u "java/lang/Object"), (0, .class_ 63), (0, u "java/lang/Iterable")] 51

/-- java/util/Collection -/
def k4 : Class := { plain "java/util/Collection" (some 0) with
  accessFlags := 1537
  interfaces := #[3]
  cf := some (fileOf pool4 10 #[] #[] 1537 60 #[62] #[])
  fields := #[]
  methods := #[]
  instanceTypes := #[]
  staticTypes := #[]
  resolved := Array.replicate 115 none
  statics := none }

def pool5 : Array CpInfo := pool [(1, .methodref 2 3), (0, .class_ 4), (0, .nameAndType 5 6), (0, u "java/lang/Object"), (0, u "<init>"), (0, u "()V"), (1, .class_ 10), (1, u "java/util/AbstractCollection"), (66, .class_ 78), (0, u "java/util/Collection")] 81

def k5c0 : Code := { maxStack := 1, maxLocals := 1, code := jdk_22_method_1_code, exceptionTable := #[], attributes := #[] }
def k5m0 : Method := { name := "<init>", desc := "()V", sig := { parameters := [], returnType := none }, accessFlags := 4, code := some k5c0 }
/-- java/util/AbstractCollection -/
def k5 : Class := { plain "java/util/AbstractCollection" (some 0) with
  accessFlags := 1057
  interfaces := #[4]
  cf := some (fileOf pool5 8 #[] #[{ accessFlags := 4, nameIndex := 5, descriptorIndex := 6, attributes := #[] }] 1057 2 #[77] #[])
  fields := #[]
  methods := #[k5m0]
  instanceTypes := #[]
  staticTypes := #[]
  resolved := Array.replicate 160 none
  statics := none }

def pool6 : Array CpInfo := pool [(8, .class_ 10), (1, u "java/util/SequencedCollection"), (15, .class_ 27), (0, u "java/lang/Object"), (0, .class_ 29), (0, u "java/util/Collection")] 27

/-- java/util/SequencedCollection -/
def k6 : Class := { plain "java/util/SequencedCollection" (some 0) with
  accessFlags := 1537
  interfaces := #[4]
  cf := some (fileOf pool6 8 #[] #[] 1537 26 #[28] #[])
  fields := #[]
  methods := #[]
  instanceTypes := #[]
  staticTypes := #[]
  resolved := Array.replicate 57 none
  statics := none }

def pool7 : Array CpInfo := pool [(8, .class_ 10), (1, u "java/util/List"), (7, u "()Z"), (48, u "isEmpty"), (35, .class_ 104), (0, u "java/lang/Object"), (15, .class_ 121), (0, u "java/util/SequencedCollection"), (1, u "iterator"), (0, u "()Ljava/util/Iterator;")] 126

def k7m0 : Method := { name := "isEmpty", desc := "()Z", sig := { parameters := [], returnType := some .boolean }, accessFlags := 1025, code := none }
def k7m1 : Method := { name := "iterator", desc := "()Ljava/util/Iterator;", sig := { parameters := [], returnType := some (.object "java/util/Iterator") }, accessFlags := 1025, code := none }
/-- java/util/List -/
def k7 : Class := { plain "java/util/List" (some 0) with
  accessFlags := 1537
  interfaces := #[6]
  cf := some (fileOf pool7 8 #[] #[{ accessFlags := 1025, nameIndex := 67, descriptorIndex := 18, attributes := #[] }, { accessFlags := 1025, nameIndex := 123, descriptorIndex := 124, attributes := #[] }] 1537 103 #[120] #[])
  fields := #[]
  methods := #[k7m0, k7m1]
  instanceTypes := #[]
  staticTypes := #[]
  resolved := Array.replicate 251 none
  statics := none }

def pool8 : Array CpInfo := pool [(1, .methodref 2 3), (0, .class_ 4), (0, .nameAndType 5 6), (0, u "java/util/AbstractCollection"), (0, u "<init>"), (0, u "()V"), (0, .fieldref 8 9), (0, .class_ 10), (0, .nameAndType 11 12), (0, u "java/util/AbstractList"), (0, u "modCount"), (0, u "I"), (64, .class_ 78), (0, u "java/util/AbstractList$Itr"), (3, .class_ 83), (0, u "java/util/AbstractList$ListItr"), (9, .class_ 94), (0, u "java/util/AbstractList$RandomAccessSubList"), (3, .class_ 99), (0, u "java/util/AbstractList$SubList"), (33, .class_ 134), (0, u "java/util/List"), (73, .class_ 209), (0, u "java/util/AbstractList$SubList$1"), (0, .class_ 211), (0, u "java/util/AbstractList$RandomAccessSpliterator")] 6

def k8c0 : Code := { maxStack := 2, maxLocals := 1, code := jdk_39_method_1_code, exceptionTable := #[], attributes := #[] }
def k8m0 : Method := { name := "<init>", desc := "()V", sig := { parameters := [], returnType := none }, accessFlags := 4, code := some k8c0 }
/-- java/util/AbstractList -/
def k8 : Class := { plain "java/util/AbstractList" (some 5) with
  accessFlags := 1057
  interfaces := #[7]
  cf := some (fileOf pool8 8 #[.nestMembers #[93, 98, 208, 210, 82, 77]] #[{ accessFlags := 4, nameIndex := 5, descriptorIndex := 6, attributes := #[] }] 1057 2 #[133] #[{ accessFlags := 132, nameIndex := 11, descriptorIndex := 12, attributes := #[] }])
  fields := #[{ name := "modCount", type := .int, accessFlags := 132, slot := 0, constantValue := 0 }]
  methods := #[k8m0]
  instanceTypes := #[.int]
  staticTypes := #[]
  resolved := Array.replicate 218 none
  statics := none }

def pool9 : Array CpInfo := pool [(1, .class_ 2), (0, u "java/util/RandomAccess"), (0, .class_ 4), (0, u "java/lang/Object")] 2

/-- java/util/RandomAccess -/
def k9 : Class := { plain "java/util/RandomAccess" (some 0) with
  accessFlags := 1537
  interfaces := #[]
  cf := some (fileOf pool9 1 #[] #[] 1537 3 #[] #[])
  fields := #[]
  methods := #[]
  instanceTypes := #[]
  staticTypes := #[]
  resolved := Array.replicate 7 none
  statics := none }

def pool10 : Array CpInfo := pool [(1, .class_ 2), (0, u "java/lang/Cloneable"), (0, .class_ 4), (0, u "java/lang/Object")] 2

/-- java/lang/Cloneable -/
def k10 : Class := { plain "java/lang/Cloneable" (some 0) with
  accessFlags := 1537
  interfaces := #[]
  cf := some (fileOf pool10 1 #[] #[] 1537 3 #[] #[])
  fields := #[]
  methods := #[]
  instanceTypes := #[]
  staticTypes := #[]
  resolved := Array.replicate 7 none
  statics := none }

def pool11 : Array CpInfo := pool [(1, .class_ 2), (0, u "java/io/Serializable"), (0, .class_ 4), (0, u "java/lang/Object")] 2

/-- java/io/Serializable -/
def k11 : Class := { plain "java/io/Serializable" (some 0) with
  accessFlags := 1537
  interfaces := #[]
  cf := some (fileOf pool11 1 #[] #[] 1537 3 #[] #[])
  fields := #[]
  methods := #[]
  instanceTypes := #[]
  staticTypes := #[]
  resolved := Array.replicate 7 none
  statics := none }

def pool12 : Array CpInfo := pool [(1, .methodref 2 3), (0, .class_ 4), (0, .nameAndType 5 6), (0, u "java/util/AbstractList"), (0, u "<init>"), (0, u "()V"), (2, .fieldref 10 11), (0, .class_ 12), (0, .nameAndType 13 14), (0, u "java/util/ArrayList"), (0, u "elementData"), (0, u "[Ljava/lang/Object;"), (2, u "EMPTY_ELEMENTDATA"), (21, .fieldref 10 40), (0, .nameAndType 41 14), (0, u "DEFAULTCAPACITY_EMPTY_ELEMENTDATA"), (6, .fieldref 10 49), (0, .nameAndType 50 51), (0, u "size"), (0, u "I"), (96, .class_ 149), (0, u "java/util/List"), (16, u "iterator"), (0, u "()Ljava/util/Iterator;"), (5, u "()Z"), (88, .class_ 263), (0, u "java/util/ArrayList$ListItr"), (3, .class_ 268), (0, u "java/util/ArrayList$Itr"), (0, .methodref 267 270), (0, .nameAndType 5 271), (0, u "(Ljava/util/ArrayList;)V"), (4, .class_ 277), (0, u "java/util/ArrayList$SubList"), (12, .class_ 291), (0, u "java/util/ArrayList$ArrayListSpliterator"), (37, .class_ 330), (0, u "java/util/RandomAccess"), (0, .class_ 332), (0, u "java/lang/Cloneable"), (0, .class_ 334), (0, u "java/io/Serializable"), (0, u "serialVersionUID"), (0, u "J"), (3, u "DEFAULT_CAPACITY"), (22, u "isEmpty"), (136, .class_ 501), (0, u "java/util/ArrayList$SubList$2"), (0, .class_ 503), (0, u "java/util/ArrayList$SubList$1")] 5

def k12c0 : Code := { maxStack := 2, maxLocals := 1, code := jdk_38_method_2_code, exceptionTable := #[], attributes := #[] }
def k12m0 : Method := { name := "<init>", desc := "()V", sig := { parameters := [], returnType := none }, accessFlags := 1, code := some k12c0 }
def k12c1 : Code := { maxStack := 1, maxLocals := 1, code := jdk_38_method_9_code, exceptionTable := #[], attributes := #[] }
def k12m1 : Method := { name := "isEmpty", desc := "()Z", sig := { parameters := [], returnType := some .boolean }, accessFlags := 1, code := some k12c1 }
def k12c2 : Code := { maxStack := 3, maxLocals := 1, code := jdk_38_method_55_code, exceptionTable := #[], attributes := #[] }
def k12m2 : Method := { name := "iterator", desc := "()Ljava/util/Iterator;", sig := { parameters := [], returnType := some (.object "java/util/Iterator") }, accessFlags := 1, code := some k12c2 }
/-- java/util/ArrayList -/
def k12 : Class := { plain "java/util/ArrayList" (some 8) with
  accessFlags := 33
  interfaces := #[7, 9, 10, 11]
  cf := some (fileOf pool12 10 #[.nestMembers #[290, 276, 500, 502, 262, 267]] #[{ accessFlags := 1, nameIndex := 5, descriptorIndex := 6, attributes := #[] }, { accessFlags := 1, nameIndex := 363, descriptorIndex := 173, attributes := #[] }, { accessFlags := 1, nameIndex := 166, descriptorIndex := 167, attributes := #[] }] 33 2 #[148, 329, 331, 333] #[{ accessFlags := 26, nameIndex := 335, descriptorIndex := 336, attributes := #[] }, { accessFlags := 26, nameIndex := 340, descriptorIndex := 51, attributes := #[] }, { accessFlags := 26, nameIndex := 17, descriptorIndex := 14, attributes := #[] }, { accessFlags := 26, nameIndex := 41, descriptorIndex := 14, attributes := #[] }, { accessFlags := 128, nameIndex := 13, descriptorIndex := 14, attributes := #[] }, { accessFlags := 2, nameIndex := 50, descriptorIndex := 51, attributes := #[] }])
  fields := #[{ name := "serialVersionUID", type := .long, accessFlags := 26, slot := 0, constantValue := 0 }, { name := "DEFAULT_CAPACITY", type := .int, accessFlags := 26, slot := 1, constantValue := 0 }, { name := "EMPTY_ELEMENTDATA", type := (.array (.object "java/lang/Object")), accessFlags := 26, slot := 2, constantValue := 0 }, { name := "DEFAULTCAPACITY_EMPTY_ELEMENTDATA", type := (.array (.object "java/lang/Object")), accessFlags := 26, slot := 3, constantValue := 0 }, { name := "elementData", type := (.array (.object "java/lang/Object")), accessFlags := 128, slot := 1, constantValue := 0 }, { name := "size", type := .int, accessFlags := 2, slot := 2, constantValue := 0 }]
  methods := #[k12m0, k12m1, k12m2]
  instanceTypes := #[.int, (.array (.object "java/lang/Object")), .int]
  staticTypes := #[.long, .int, (.array (.object "java/lang/Object")), (.array (.object "java/lang/Object"))]
  resolved := Array.replicate 509 none
  statics := some 0 }

def pool13 : Array CpInfo := pool [(1, .class_ 2), (0, u "java/lang/Comparable"), (0, .class_ 4), (0, u "java/lang/Object")] 7

/-- java/lang/Comparable -/
def k13 : Class := { plain "java/lang/Comparable" (some 0) with
  accessFlags := 1537
  interfaces := #[]
  cf := some (fileOf pool13 1 #[] #[] 1537 3 #[] #[])
  fields := #[]
  methods := #[]
  instanceTypes := #[]
  staticTypes := #[]
  resolved := Array.replicate 12 none
  statics := none }

def pool14 : Array CpInfo := pool [(2, .class_ 4), (1, u "java/lang/CharSequence"), (42, .class_ 48), (0, u "java/lang/CharSequence$1CodePointIterator"), (10, .class_ 60), (0, u "java/lang/CharSequence$1CharIterator"), (5, .class_ 67), (0, u "java/lang/Object")] 63

/-- java/lang/CharSequence -/
def k14 : Class := { plain "java/lang/CharSequence" (some 0) with
  accessFlags := 1537
  interfaces := #[]
  cf := some (fileOf pool14 2 #[.nestMembers #[47, 59]] #[] 1537 66 #[] #[])
  fields := #[]
  methods := #[]
  instanceTypes := #[]
  staticTypes := #[]
  resolved := Array.replicate 131 none
  statics := none }

def pool15 : Array CpInfo := pool [(1, .class_ 2), (0, u "java/lang/constant/Constable"), (0, .class_ 4), (0, u "java/lang/Object")] 6

/-- java/lang/constant/Constable -/
def k15 : Class := { plain "java/lang/constant/Constable" (some 0) with
  accessFlags := 1537
  interfaces := #[]
  cf := some (fileOf pool15 1 #[] #[] 1537 3 #[] #[])
  fields := #[]
  methods := #[]
  instanceTypes := #[]
  staticTypes := #[]
  resolved := Array.replicate 11 none
  statics := none }

def pool16 : Array CpInfo := pool [(1, .class_ 2), (0, u "java/lang/constant/ConstantDesc"), (0, .class_ 4), (0, u "java/lang/Object")] 32

/-- java/lang/constant/ConstantDesc -/
def k16 : Class := { plain "java/lang/constant/ConstantDesc" (some 0) with
  accessFlags := 1537
  interfaces := #[]
  cf := some (fileOf pool16 1 #[] #[] 1537 3 #[] #[])
  fields := #[]
  methods := #[]
  instanceTypes := #[]
  staticTypes := #[]
  resolved := Array.replicate 37 none
  statics := none }

def pool17 : Array CpInfo := pool [(2, .class_ 4), (1, u "java/lang/Object"), (0, u "<init>"), (0, u "()V"), (3, .class_ 12), (1, u "java/lang/String"), (0, u "value"), (0, u "[B"), (2, u "coder"), (0, u "B"), (2, u "hash"), (0, u "I"), (2, u "hashIsZero"), (0, u "Z"), (13, u "COMPACT_STRINGS"), (534, .class_ 576), (0, u "java/lang/CharSequence"), (22, u "CASE_INSENSITIVE_ORDER"), (0, u "Ljava/util/Comparator;"), (500, u "serialPersistentFields"), (0, u "[Ljava/io/ObjectStreamField;"), (0, .class_ 1104), (0, u "java/lang/String$CaseInsensitiveComparator"), (1, .class_ 1107), (0, u "java/io/Serializable"), (0, .class_ 1109), (0, u "java/lang/Comparable"), (0, .class_ 1111), (0, u "java/lang/constant/Constable"), (0, .class_ 1113), (0, u "java/lang/constant/ConstantDesc"), (2, u "serialVersionUID"), (0, u "J"), (3, u "REPL"), (0, u "C"), (2, u "LATIN1"), (1, u "UTF16")] 323

def k17m0 : Method := { name := "<init>", desc := "()V", sig := { parameters := [], returnType := none }, accessFlags := 1, code := none }
/-- java/lang/String -/
def k17 : Class := { plain "java/lang/String" (some 0) with
  accessFlags := 49
  interfaces := #[11, 13, 14, 15, 16]
  cf := some (fileOf pool17 10 #[.nestMembers #[1103]] #[{ accessFlags := 1, nameIndex := 5, descriptorIndex := 6, attributes := #[] }] 49 2 #[1106, 1108, 575, 1110, 1112] #[{ accessFlags := 18, nameIndex := 13, descriptorIndex := 14, attributes := #[] }, { accessFlags := 18, nameIndex := 17, descriptorIndex := 18, attributes := #[] }, { accessFlags := 2, nameIndex := 21, descriptorIndex := 22, attributes := #[] }, { accessFlags := 2, nameIndex := 25, descriptorIndex := 26, attributes := #[] }, { accessFlags := 26, nameIndex := 1116, descriptorIndex := 1117, attributes := #[] }, { accessFlags := 24, nameIndex := 40, descriptorIndex := 26, attributes := #[] }, { accessFlags := 26, nameIndex := 1101, descriptorIndex := 1102, attributes := #[] }, { accessFlags := 26, nameIndex := 1121, descriptorIndex := 1122, attributes := #[] }, { accessFlags := 25, nameIndex := 599, descriptorIndex := 600, attributes := #[] }, { accessFlags := 24, nameIndex := 1125, descriptorIndex := 18, attributes := #[] }, { accessFlags := 24, nameIndex := 1127, descriptorIndex := 18, attributes := #[] }])
  fields := #[{ name := "value", type := (.array .byte), accessFlags := 18, slot := 0, constantValue := 0 }, { name := "coder", type := .byte, accessFlags := 18, slot := 1, constantValue := 0 }, { name := "hash", type := .int, accessFlags := 2, slot := 2, constantValue := 0 }, { name := "hashIsZero", type := .boolean, accessFlags := 2, slot := 3, constantValue := 0 }, { name := "serialVersionUID", type := .long, accessFlags := 26, slot := 0, constantValue := 0 }, { name := "COMPACT_STRINGS", type := .boolean, accessFlags := 24, slot := 1, constantValue := 0 }, { name := "serialPersistentFields", type := (.array (.object "java/io/ObjectStreamField")), accessFlags := 26, slot := 2, constantValue := 0 }, { name := "REPL", type := .char, accessFlags := 26, slot := 3, constantValue := 0 }, { name := "CASE_INSENSITIVE_ORDER", type := (.object "java/util/Comparator"), accessFlags := 25, slot := 4, constantValue := 0 }, { name := "LATIN1", type := .byte, accessFlags := 24, slot := 5, constantValue := 0 }, { name := "UTF16", type := .byte, accessFlags := 24, slot := 6, constantValue := 0 }]
  methods := #[k17m0]
  instanceTypes := #[(.array .byte), .byte, .int, .boolean]
  staticTypes := #[.long, .boolean, (.array (.object "java/io/ObjectStreamField")), .char, (.object "java/util/Comparator"), .byte, .byte]
  resolved := Array.replicate 1451 none
  statics := none }

def pool18 : Array CpInfo := pool [(1, .methodref 2 3), (0, .class_ 4), (0, .nameAndType 5 6), (0, u "java/lang/Object"), (0, u "<init>"), (0, u "()V"), (1, .class_ 10), (1, u "java/lang/Number"), (2, .class_ 14), (0, u "java/io/Serializable"), (0, u "serialVersionUID"), (0, u "J")] 20

def k18c0 : Code := { maxStack := 1, maxLocals := 1, code := jdk_18_method_1_code, exceptionTable := #[], attributes := #[] }
def k18m0 : Method := { name := "<init>", desc := "()V", sig := { parameters := [], returnType := none }, accessFlags := 1, code := some k18c0 }
/-- java/lang/Number -/
def k18 : Class := { plain "java/lang/Number" (some 0) with
  accessFlags := 1057
  interfaces := #[11]
  cf := some (fileOf pool18 8 #[] #[{ accessFlags := 1, nameIndex := 5, descriptorIndex := 6, attributes := #[] }] 1057 2 #[13] #[{ accessFlags := 26, nameIndex := 15, descriptorIndex := 16, attributes := #[] }])
  fields := #[{ name := "serialVersionUID", type := .long, accessFlags := 26, slot := 0, constantValue := 0 }]
  methods := #[k18m0]
  instanceTypes := #[]
  staticTypes := #[.long]
  resolved := Array.replicate 37 none
  statics := none }

def pool19 : Array CpInfo := pool [(1, .class_ 2), (0, u "java/lang/Long"), (55, .nameAndType 59 60), (0, u "<init>"), (0, u "()V"), (24, u "valueOf"), (143, u "(J)Ljava/lang/Long;"), (0, .long 18446744073709551488), (1, .long 127), (1, .fieldref 235 236), (0, .class_ 237), (0, .nameAndType 238 239), (0, u "java/lang/Long$LongCache"), (0, u "cache"), (0, u "[Ljava/lang/Long;"), (0, .methodref 1 241), (0, .nameAndType 59 242), (0, u "(J)V"), (27, .methodref 271 58), (0, .class_ 272), (0, u "java/lang/Number"), (0, .fieldref 1 274), (0, .nameAndType 275 276), (0, u "value"), (0, u "J"), (5, u "longValue"), (0, u "()J"), (77, u "TYPE"), (0, u "Ljava/lang/Class;"), (0, .class_ 364), (0, u "java/lang/Comparable"), (0, .class_ 366), (0, u "java/lang/constant/Constable"), (0, .class_ 368), (0, u "java/lang/constant/ConstantDesc"), (0, u "MIN_VALUE"), (1, u "MAX_VALUE"), (4, u "SIZE"), (0, u "I"), (1, u "BYTES"), (1, u "serialVersionUID")] 142

def k19c0 : Code := { maxStack := 4, maxLocals := 3, code := jdk_35_method_24_code, exceptionTable := #[], attributes := #[] }
def k19m0 : Method := { name := "valueOf", desc := "(J)Ljava/lang/Long;", sig := { parameters := [.long], returnType := some (.object "java/lang/Long") }, accessFlags := 9, code := some k19c0 }
def k19c1 : Code := { maxStack := 3, maxLocals := 3, code := jdk_35_method_26_code, exceptionTable := #[], attributes := #[] }
def k19m1 : Method := { name := "<init>", desc := "(J)V", sig := { parameters := [.long], returnType := none }, accessFlags := 1, code := some k19c1 }
def k19c2 : Code := { maxStack := 2, maxLocals := 1, code := jdk_35_method_31_code, exceptionTable := #[], attributes := #[] }
def k19m2 : Method := { name := "longValue", desc := "()J", sig := { parameters := [], returnType := some .long }, accessFlags := 1, code := some k19c2 }
/-- java/lang/Long -/
def k19 : Class := { plain "java/lang/Long" (some 18) with
  accessFlags := 49
  interfaces := #[13, 15, 16]
  cf := some (fileOf pool19 1 #[.nestMembers #[235]] #[{ accessFlags := 9, nameIndex := 85, descriptorIndex := 229, attributes := #[] }, { accessFlags := 1, nameIndex := 59, descriptorIndex := 242, attributes := #[] }, { accessFlags := 1, nameIndex := 282, descriptorIndex := 283, attributes := #[] }] 49 271 #[363, 365, 367] #[{ accessFlags := 25, nameIndex := 369, descriptorIndex := 276, attributes := #[] }, { accessFlags := 25, nameIndex := 371, descriptorIndex := 276, attributes := #[] }, { accessFlags := 25, nameIndex := 361, descriptorIndex := 362, attributes := #[] }, { accessFlags := 18, nameIndex := 275, descriptorIndex := 276, attributes := #[] }, { accessFlags := 25, nameIndex := 376, descriptorIndex := 377, attributes := #[] }, { accessFlags := 25, nameIndex := 379, descriptorIndex := 377, attributes := #[] }, { accessFlags := 26, nameIndex := 381, descriptorIndex := 276, attributes := #[] }])
  fields := #[{ name := "MIN_VALUE", type := .long, accessFlags := 25, slot := 0, constantValue := 0 }, { name := "MAX_VALUE", type := .long, accessFlags := 25, slot := 1, constantValue := 0 }, { name := "TYPE", type := (.object "java/lang/Class"), accessFlags := 25, slot := 2, constantValue := 0 }, { name := "value", type := .long, accessFlags := 18, slot := 0, constantValue := 0 }, { name := "SIZE", type := .int, accessFlags := 25, slot := 3, constantValue := 0 }, { name := "BYTES", type := .int, accessFlags := 25, slot := 4, constantValue := 0 }, { name := "serialVersionUID", type := .long, accessFlags := 26, slot := 5, constantValue := 0 }]
  methods := #[k19m0, k19m1, k19m2]
  instanceTypes := #[.long]
  staticTypes := #[.long, .long, (.object "java/lang/Class"), .int, .int, .long]
  resolved := Array.replicate 524 none
  statics := none }

def pool20 : Array CpInfo := pool [(2, .class_ 4), (1, u "java/lang/Object"), (0, u "<init>"), (0, u "()V"), (0, .class_ 8), (0, u "java/lang/Long"), (7, .class_ 18), (1, u "java/lang/Long$LongCache"), (0, u "$assertionsDisabled"), (0, u "Z"), (8, u "archivedCache"), (0, u "[Ljava/lang/Long;"), (7, u "cache")] 24

def k20m0 : Method := { name := "<init>", desc := "()V", sig := { parameters := [], returnType := none }, accessFlags := 2, code := none }
/-- java/lang/Long$LongCache -/
def k20 : Class := { plain "java/lang/Long$LongCache" (some 0) with
  accessFlags := 48
  interfaces := #[]
  cf := some (fileOf pool20 16 #[.nestHost 7] #[{ accessFlags := 2, nameIndex := 5, descriptorIndex := 6, attributes := #[] }] 48 2 #[] #[{ accessFlags := 24, nameIndex := 38, descriptorIndex := 30, attributes := #[] }, { accessFlags := 8, nameIndex := 29, descriptorIndex := 30, attributes := #[] }, { accessFlags := 4120, nameIndex := 19, descriptorIndex := 20, attributes := #[] }])
  fields := #[{ name := "cache", type := (.array (.object "java/lang/Long")), accessFlags := 24, slot := 0, constantValue := 0 }, { name := "archivedCache", type := (.array (.object "java/lang/Long")), accessFlags := 8, slot := 1, constantValue := 0 }, { name := "$assertionsDisabled", type := .boolean, accessFlags := 4120, slot := 2, constantValue := 0 }]
  methods := #[k20m0]
  instanceTypes := #[]
  staticTypes := #[(.array (.object "java/lang/Long")), (.array (.object "java/lang/Long")), .boolean]
  resolved := Array.replicate 63 none
  statics := some 1 }

def pool21 : Array CpInfo := pool [(1, .class_ 2), (0, u "java/lang/Math"), (1, .class_ 6), (1, u "java/lang/Object"), (0, u "<init>"), (0, u "()V"), (89, .class_ 100), (1, u "java/lang/Math$RandomNumberGeneratorHolder"), (20, u "(JJ)J"), (50, u "negativeZeroFloatBits"), (0, u "J"), (2, u "negativeZeroDoubleBits"), (21, u "max"), (2, u "min"), (43, u "$assertionsDisabled"), (0, u "Z"), (91, u "twoToTheDoubleScaleDown"), (0, u "D"), (4, u "twoToTheDoubleScaleUp"), (9, u "E"), (3, u "PI"), (2, u "TAU"), (2, u "DEGREES_TO_RADIANS"), (0, u "RADIANS_TO_DEGREES")] 94

def k21m0 : Method := { name := "<init>", desc := "()V", sig := { parameters := [], returnType := none }, accessFlags := 2, code := none }
def k21c1 : Code := { maxStack := 4, maxLocals := 4, code := jdk_29_method_66_code, exceptionTable := #[], attributes := #[] }
def k21m1 : Method := { name := "max", desc := "(JJ)J", sig := { parameters := [.long, .long], returnType := some .long }, accessFlags := 9, code := some k21c1 }
def k21c2 : Code := { maxStack := 4, maxLocals := 4, code := jdk_29_method_70_code, exceptionTable := #[], attributes := #[] }
def k21m2 : Method := { name := "min", desc := "(JJ)J", sig := { parameters := [.long, .long], returnType := some .long }, accessFlags := 9, code := some k21c2 }
/-- java/lang/Math -/
def k21 : Class := { plain "java/lang/Math" (some 0) with
  accessFlags := 49
  interfaces := #[]
  cf := some (fileOf pool21 1 #[.nestMembers #[98]] #[{ accessFlags := 2, nameIndex := 7, descriptorIndex := 8, attributes := #[] }, { accessFlags := 9, nameIndex := 198, descriptorIndex := 121, attributes := #[] }, { accessFlags := 9, nameIndex := 201, descriptorIndex := 121, attributes := #[] }] 49 4 #[] #[{ accessFlags := 25, nameIndex := 354, descriptorIndex := 339, attributes := #[] }, { accessFlags := 25, nameIndex := 358, descriptorIndex := 339, attributes := #[] }, { accessFlags := 25, nameIndex := 361, descriptorIndex := 339, attributes := #[] }, { accessFlags := 26, nameIndex := 364, descriptorIndex := 339, attributes := #[] }, { accessFlags := 26, nameIndex := 365, descriptorIndex := 339, attributes := #[] }, { accessFlags := 26, nameIndex := 172, descriptorIndex := 173, attributes := #[] }, { accessFlags := 26, nameIndex := 176, descriptorIndex := 173, attributes := #[] }, { accessFlags := 8, nameIndex := 344, descriptorIndex := 339, attributes := #[] }, { accessFlags := 8, nameIndex := 338, descriptorIndex := 339, attributes := #[] }, { accessFlags := 4120, nameIndex := 245, descriptorIndex := 246, attributes := #[] }])
  fields := #[{ name := "E", type := .double, accessFlags := 25, slot := 0, constantValue := 0 }, { name := "PI", type := .double, accessFlags := 25, slot := 1, constantValue := 0 }, { name := "TAU", type := .double, accessFlags := 25, slot := 2, constantValue := 0 }, { name := "DEGREES_TO_RADIANS", type := .double, accessFlags := 26, slot := 3, constantValue := 0 }, { name := "RADIANS_TO_DEGREES", type := .double, accessFlags := 26, slot := 4, constantValue := 0 }, { name := "negativeZeroFloatBits", type := .long, accessFlags := 26, slot := 5, constantValue := 0 }, { name := "negativeZeroDoubleBits", type := .long, accessFlags := 26, slot := 6, constantValue := 0 }, { name := "twoToTheDoubleScaleUp", type := .double, accessFlags := 8, slot := 7, constantValue := 0 }, { name := "twoToTheDoubleScaleDown", type := .double, accessFlags := 8, slot := 8, constantValue := 0 }, { name := "$assertionsDisabled", type := .boolean, accessFlags := 4120, slot := 9, constantValue := 0 }]
  methods := #[k21m0, k21m1, k21m2]
  instanceTypes := #[]
  staticTypes := #[.double, .double, .double, .double, .double, .long, .long, .double, .double, .boolean]
  resolved := Array.replicate 460 none
  statics := none }

def pool22 : Array CpInfo := pool [(1, .methodref 2 3), (0, .class_ 4), (0, .nameAndType 5 6), (0, u "java/lang/Object"), (0, u "<init>"), (0, u "()V"), (0, .class_ 8), (0, u "java/lang/Record")] 13

def k22c0 : Code := { maxStack := 1, maxLocals := 1, code := jdk_30_method_1_code, exceptionTable := #[], attributes := #[] }
def k22m0 : Method := { name := "<init>", desc := "()V", sig := { parameters := [], returnType := none }, accessFlags := 4, code := some k22c0 }
/-- java/lang/Record -/
def k22 : Class := { plain "java/lang/Record" (some 0) with
  accessFlags := 1057
  interfaces := #[]
  cf := some (fileOf pool22 7 #[] #[{ accessFlags := 4, nameIndex := 5, descriptorIndex := 6, attributes := #[] }] 1057 2 #[] #[])
  fields := #[]
  methods := #[k22m0]
  instanceTypes := #[]
  staticTypes := #[]
  resolved := Array.replicate 22 none
  statics := none }

def pool23 : Array CpInfo := pool [(1, .methodref 2 3), (0, .class_ 4), (0, .nameAndType 5 6), (0, u "java/lang/Record"), (0, u "<init>"), (0, u "()V"), (0, .fieldref 8 9), (0, .class_ 10), (0, .nameAndType 11 12), (0, u "com/example/usher/usher/OutboxRuns$Range"), (0, u "from"), (0, u "J"), (0, .fieldref 8 14), (0, .nameAndType 15 12), (0, u "to"), (12, u "(JJ)V"), (6, u "()J"), (3, .class_ 40), (0, u "com/example/usher/usher/OutboxRuns")] 20

def k23c0 : Code := { maxStack := 3, maxLocals := 5, code := prog_14_method_1_code, exceptionTable := #[], attributes := #[] }
def k23m0 : Method := { name := "<init>", desc := "(JJ)V", sig := { parameters := [.long, .long], returnType := none }, accessFlags := 0, code := some k23c0 }
def k23c1 : Code := { maxStack := 2, maxLocals := 1, code := prog_14_method_5_code, exceptionTable := #[], attributes := #[] }
def k23m1 : Method := { name := "from", desc := "()J", sig := { parameters := [], returnType := some .long }, accessFlags := 1, code := some k23c1 }
def k23c2 : Code := { maxStack := 2, maxLocals := 1, code := prog_14_method_6_code, exceptionTable := #[], attributes := #[] }
def k23m2 : Method := { name := "to", desc := "()J", sig := { parameters := [], returnType := some .long }, accessFlags := 1, code := some k23c2 }
/-- com/example/usher/usher/OutboxRuns$Range -/
def k23 : Class := { plain "com/example/usher/usher/OutboxRuns$Range" (some 22) with
  accessFlags := 48
  interfaces := #[]
  cf := some (fileOf pool23 8 #[.nestHost 39] #[{ accessFlags := 0, nameIndex := 5, descriptorIndex := 28, attributes := #[] }, { accessFlags := 1, nameIndex := 11, descriptorIndex := 35, attributes := #[] }, { accessFlags := 1, nameIndex := 15, descriptorIndex := 35, attributes := #[] }] 48 2 #[] #[{ accessFlags := 18, nameIndex := 11, descriptorIndex := 12, attributes := #[] }, { accessFlags := 18, nameIndex := 15, descriptorIndex := 12, attributes := #[] }])
  fields := #[{ name := "from", type := .long, accessFlags := 18, slot := 0, constantValue := 0 }, { name := "to", type := .long, accessFlags := 18, slot := 1, constantValue := 0 }]
  methods := #[k23m0, k23m1, k23m2]
  instanceTypes := #[.long, .long]
  staticTypes := #[]
  resolved := Array.replicate 61 none
  statics := none }

def pool24 : Array CpInfo := pool [(1, .fieldref 2 3), (0, .class_ 4), (0, .nameAndType 5 6), (0, u "java/util/Optional"), (0, u "EMPTY"), (0, u "Ljava/util/Optional;"), (0, .methodref 8 9), (0, .class_ 10), (0, .nameAndType 11 12), (0, u "java/lang/Object"), (0, u "<init>"), (0, u "()V"), (0, .fieldref 2 14), (0, .nameAndType 15 16), (0, u "value"), (0, u "Ljava/lang/Object;"), (0, .methodref 18 19), (0, .class_ 20), (0, .nameAndType 21 22), (0, u "java/util/Objects"), (0, u "requireNonNull"), (0, u "(Ljava/lang/Object;)Ljava/lang/Object;"), (0, .methodref 2 24), (0, .nameAndType 11 25), (0, u "(Ljava/lang/Object;)V"), (20, u "()Z"), (8, u "empty"), (0, u "()Ljava/util/Optional;"), (8, u "(Ljava/lang/Object;)Ljava/util/Optional;"), (2, u "isPresent"), (4, u "get"), (0, u "()Ljava/lang/Object;"), (7, u "of")] 104

def k24c0 : Code := { maxStack := 1, maxLocals := 1, code := jdk_32_method_1_code, exceptionTable := #[], attributes := #[] }
def k24m0 : Method := { name := "empty", desc := "()Ljava/util/Optional;", sig := { parameters := [], returnType := some (.object "java/util/Optional") }, accessFlags := 9, code := some k24c0 }
def k24c1 : Code := { maxStack := 2, maxLocals := 2, code := jdk_32_method_2_code, exceptionTable := #[], attributes := #[] }
def k24m1 : Method := { name := "<init>", desc := "(Ljava/lang/Object;)V", sig := { parameters := [(.object "java/lang/Object")], returnType := none }, accessFlags := 2, code := some k24c1 }
def k24c2 : Code := { maxStack := 3, maxLocals := 1, code := jdk_32_method_3_code, exceptionTable := #[], attributes := #[] }
def k24m2 : Method := { name := "of", desc := "(Ljava/lang/Object;)Ljava/util/Optional;", sig := { parameters := [(.object "java/lang/Object")], returnType := some (.object "java/util/Optional") }, accessFlags := 9, code := some k24c2 }
def k24c3 : Code := { maxStack := 3, maxLocals := 1, code := jdk_32_method_5_code, exceptionTable := #[], attributes := #[] }
def k24m3 : Method := { name := "get", desc := "()Ljava/lang/Object;", sig := { parameters := [], returnType := some (.object "java/lang/Object") }, accessFlags := 1, code := some k24c3 }
def k24c4 : Code := { maxStack := 1, maxLocals := 1, code := jdk_32_method_6_code, exceptionTable := #[], attributes := #[] }
def k24m4 : Method := { name := "isPresent", desc := "()Z", sig := { parameters := [], returnType := some .boolean }, accessFlags := 1, code := some k24c4 }
/-- java/util/Optional -/
def k24 : Class := { plain "java/util/Optional" (some 0) with
  accessFlags := 49
  interfaces := #[]
  cf := some (fileOf pool24 2 #[] #[{ accessFlags := 9, nameIndex := 55, descriptorIndex := 56, attributes := #[] }, { accessFlags := 2, nameIndex := 11, descriptorIndex := 25, attributes := #[] }, { accessFlags := 9, nameIndex := 82, descriptorIndex := 65, attributes := #[] }, { accessFlags := 1, nameIndex := 73, descriptorIndex := 74, attributes := #[] }, { accessFlags := 1, nameIndex := 68, descriptorIndex := 46, attributes := #[] }] 49 8 #[] #[{ accessFlags := 26, nameIndex := 5, descriptorIndex := 6, attributes := #[] }, { accessFlags := 18, nameIndex := 15, descriptorIndex := 16, attributes := #[] }])
  fields := #[{ name := "EMPTY", type := (.object "java/util/Optional"), accessFlags := 26, slot := 0, constantValue := 0 }, { name := "value", type := (.object "java/lang/Object"), accessFlags := 18, slot := 0, constantValue := 0 }]
  methods := #[k24m0, k24m1, k24m2, k24m3, k24m4]
  instanceTypes := #[(.object "java/lang/Object")]
  staticTypes := #[(.object "java/util/Optional")]
  resolved := Array.replicate 187 none
  statics := some 2 }

def pool25 : Array CpInfo := pool [(16, .class_ 18), (1, u "java/util/Iterator"), (0, u "hasNext"), (0, u "()Z"), (10, .class_ 32), (0, u "java/lang/Object")] 20

def k25m0 : Method := { name := "hasNext", desc := "()Z", sig := { parameters := [], returnType := some .boolean }, accessFlags := 1025, code := none }
/-- java/util/Iterator -/
def k25 : Class := { plain "java/util/Iterator" (some 0) with
  accessFlags := 1537
  interfaces := #[]
  cf := some (fileOf pool25 16 #[] #[{ accessFlags := 1025, nameIndex := 19, descriptorIndex := 20, attributes := #[] }] 1537 31 #[] #[])
  fields := #[]
  methods := #[k25m0]
  instanceTypes := #[]
  staticTypes := #[]
  resolved := Array.replicate 53 none
  statics := none }

def pool26 : Array CpInfo := pool [(1, .fieldref 2 3), (0, .class_ 4), (0, .nameAndType 5 6), (0, u "java/util/ArrayList$Itr"), (0, u "this$0"), (0, u "Ljava/util/ArrayList;"), (0, .methodref 8 9), (0, .class_ 10), (0, .nameAndType 11 12), (0, u "java/lang/Object"), (0, u "<init>"), (0, u "()V"), (0, .fieldref 2 14), (0, .nameAndType 15 16), (0, u "lastRet"), (0, u "I"), (0, .fieldref 18 19), (0, .class_ 20), (0, .nameAndType 21 16), (0, u "java/util/ArrayList"), (0, u "modCount"), (0, .fieldref 2 23), (0, .nameAndType 24 16), (0, u "expectedModCount"), (0, .fieldref 2 26), (0, .nameAndType 27 16), (0, u "cursor"), (0, .fieldref 18 29), (0, .nameAndType 30 16), (0, u "size"), (38, .class_ 70), (0, u "java/util/Iterator"), (0, u "(Ljava/util/ArrayList;)V"), (8, u "hasNext"), (0, u "()Z")] 22

def k26c0 : Code := { maxStack := 2, maxLocals := 2, code := jdk_49_method_1_code, exceptionTable := #[], attributes := #[] }
def k26m0 : Method := { name := "<init>", desc := "(Ljava/util/ArrayList;)V", sig := { parameters := [(.object "java/util/ArrayList")], returnType := none }, accessFlags := 0, code := some k26c0 }
def k26c1 : Code := { maxStack := 2, maxLocals := 1, code := jdk_49_method_2_code, exceptionTable := #[], attributes := #[] }
def k26m1 : Method := { name := "hasNext", desc := "()Z", sig := { parameters := [], returnType := some .boolean }, accessFlags := 1, code := some k26c1 }
/-- java/util/ArrayList$Itr -/
def k26 : Class := { plain "java/util/ArrayList$Itr" (some 0) with
  accessFlags := 32
  interfaces := #[25]
  cf := some (fileOf pool26 2 #[.nestHost 18] #[{ accessFlags := 0, nameIndex := 11, descriptorIndex := 71, attributes := #[] }, { accessFlags := 1, nameIndex := 80, descriptorIndex := 81, attributes := #[] }] 32 8 #[69] #[{ accessFlags := 0, nameIndex := 27, descriptorIndex := 16, attributes := #[] }, { accessFlags := 0, nameIndex := 15, descriptorIndex := 16, attributes := #[] }, { accessFlags := 0, nameIndex := 24, descriptorIndex := 16, attributes := #[] }, { accessFlags := 4112, nameIndex := 5, descriptorIndex := 6, attributes := #[] }])
  fields := #[{ name := "cursor", type := .int, accessFlags := 0, slot := 0, constantValue := 0 }, { name := "lastRet", type := .int, accessFlags := 0, slot := 1, constantValue := 0 }, { name := "expectedModCount", type := .int, accessFlags := 0, slot := 2, constantValue := 0 }, { name := "this$0", type := (.object "java/util/ArrayList"), accessFlags := 4112, slot := 3, constantValue := 0 }]
  methods := #[k26m0, k26m1]
  instanceTypes := #[.int, .int, .int, (.object "java/util/ArrayList")]
  staticTypes := #[]
  resolved := Array.replicate 104 none
  statics := none }

def pool27 : Array CpInfo := pool [(2, .class_ 4), (1, u "java/lang/Object"), (0, u "<init>"), (0, u "()V"), (35, .class_ 44), (1, u "java/util/Objects"), (0, u "requireNonNull"), (0, u "(Ljava/lang/Object;)Ljava/lang/Object;")] 137

def k27m0 : Method := { name := "<init>", desc := "()V", sig := { parameters := [], returnType := none }, accessFlags := 2, code := none }
def k27c1 : Code := { maxStack := 2, maxLocals := 1, code := jdk_31_method_10_code, exceptionTable := #[], attributes := #[] }
def k27m1 : Method := { name := "requireNonNull", desc := "(Ljava/lang/Object;)Ljava/lang/Object;", sig := { parameters := [(.object "java/lang/Object")], returnType := some (.object "java/lang/Object") }, accessFlags := 9, code := some k27c1 }
/-- java/util/Objects -/
def k27 : Class := { plain "java/util/Objects" (some 0) with
  accessFlags := 49
  interfaces := #[]
  cf := some (fileOf pool27 42 #[] #[{ accessFlags := 2, nameIndex := 5, descriptorIndex := 6, attributes := #[] }, { accessFlags := 9, nameIndex := 45, descriptorIndex := 46, attributes := #[] }] 49 2 #[] #[])
  fields := #[]
  methods := #[k27m0, k27m1]
  instanceTypes := #[]
  staticTypes := #[]
  resolved := Array.replicate 184 none
  statics := none }

/-- the primitive byte -/
def k28 : Class := { plain "byte" none with kind := .primitive 'B', accessFlags := 0x411 }
/-- [B -/
def k29 : Class := { plain "[B" (some 0) with kind := .array 28 .byte, interfaces := #[10, 11], accessFlags := 1041 }

/-- the primitive int -/
def k30 : Class := { plain "int" none with kind := .primitive 'I', accessFlags := 0x411 }
/-- [I -/
def k31 : Class := { plain "[I" (some 0) with kind := .array 30 .int, interfaces := #[10, 11], accessFlags := 1041 }

/-- [Ljava/lang/Long; -/
def k32 : Class := { plain "[Ljava/lang/Long;" (some 0) with kind := .array 19 (.object "java/lang/Long"), interfaces := #[10, 11], accessFlags := 1041 }

/-- [Ljava/lang/Object; -/
def k33 : Class := { plain "[Ljava/lang/Object;" (some 0) with kind := .array 0 (.object "java/lang/Object"), interfaces := #[10, 11], accessFlags := 1041 }

/-- [Ljava/lang/String; -/
def k34 : Class := { plain "[Ljava/lang/String;" (some 0) with kind := .array 17 (.object "java/lang/String"), interfaces := #[10, 11], accessFlags := 1041 }

def heap : Heap := #[{ cls := 12, slots := #[.long 0, .int 0, .ref 260, .ref 261], vm := .statics 12 },
  { cls := 20, slots := #[.ref 3, .null, .int 0], vm := .statics 20 },
  { cls := 24, slots := #[.ref 262], vm := .statics 24 },
  { cls := 32, slots := #[.ref 4, .ref 5, .ref 6, .ref 7, .ref 8, .ref 9, .ref 10, .ref 11, .ref 12, .ref 13, .ref 14, .ref 15, .ref 16, .ref 17, .ref 18, .ref 19, .ref 20, .ref 21, .ref 22, .ref 23, .ref 24, .ref 25, .ref 26, .ref 27, .ref 28, .ref 29, .ref 30, .ref 31, .ref 32, .ref 33, .ref 34, .ref 35, .ref 36, .ref 37, .ref 38, .ref 39, .ref 40, .ref 41, .ref 42, .ref 43, .ref 44, .ref 45, .ref 46, .ref 47, .ref 48, .ref 49, .ref 50, .ref 51, .ref 52, .ref 53, .ref 54, .ref 55, .ref 56, .ref 57, .ref 58, .ref 59, .ref 60, .ref 61, .ref 62, .ref 63, .ref 64, .ref 65, .ref 66, .ref 67, .ref 68, .ref 69, .ref 70, .ref 71, .ref 72, .ref 73, .ref 74, .ref 75, .ref 76, .ref 77, .ref 78, .ref 79, .ref 80, .ref 81, .ref 82, .ref 83, .ref 84, .ref 85, .ref 86, .ref 87, .ref 88, .ref 89, .ref 90, .ref 91, .ref 92, .ref 93, .ref 94, .ref 95, .ref 96, .ref 97, .ref 98, .ref 99, .ref 100, .ref 101, .ref 102, .ref 103, .ref 104, .ref 105, .ref 106, .ref 107, .ref 108, .ref 109, .ref 110, .ref 111, .ref 112, .ref 113, .ref 114, .ref 115, .ref 116, .ref 117, .ref 118, .ref 119, .ref 120, .ref 121, .ref 122, .ref 123, .ref 124, .ref 125, .ref 126, .ref 127, .ref 128, .ref 129, .ref 130, .ref 131, .ref 132, .ref 133, .ref 134, .ref 135, .ref 136, .ref 137, .ref 138, .ref 139, .ref 140, .ref 141, .ref 142, .ref 143, .ref 144, .ref 145, .ref 146, .ref 147, .ref 148, .ref 149, .ref 150, .ref 151, .ref 152, .ref 153, .ref 154, .ref 155, .ref 156, .ref 157, .ref 158, .ref 159, .ref 160, .ref 161, .ref 162, .ref 163, .ref 164, .ref 165, .ref 166, .ref 167, .ref 168, .ref 169, .ref 170, .ref 171, .ref 172, .ref 173, .ref 174, .ref 175, .ref 176, .ref 177, .ref 178, .ref 179, .ref 180, .ref 181, .ref 182, .ref 183, .ref 184, .ref 185, .ref 186, .ref 187, .ref 188, .ref 189, .ref 190, .ref 191, .ref 192, .ref 193, .ref 194, .ref 195, .ref 196, .ref 197, .ref 198, .ref 199, .ref 200, .ref 201, .ref 202, .ref 203, .ref 204, .ref 205, .ref 206, .ref 207, .ref 208, .ref 209, .ref 210, .ref 211, .ref 212, .ref 213, .ref 214, .ref 215, .ref 216, .ref 217, .ref 218, .ref 219, .ref 220, .ref 221, .ref 222, .ref 223, .ref 224, .ref 225, .ref 226, .ref 227, .ref 228, .ref 229, .ref 230, .ref 231, .ref 232, .ref 233, .ref 234, .ref 235, .ref 236, .ref 237, .ref 238, .ref 239, .ref 240, .ref 241, .ref 242, .ref 243, .ref 244, .ref 245, .ref 246, .ref 247, .ref 248, .ref 249, .ref 250, .ref 251, .ref 252, .ref 253, .ref 254, .ref 255, .ref 256, .ref 257, .ref 258, .ref 259], vm := .none },
  { cls := 19, slots := #[.long (-128)], vm := .none },
  { cls := 19, slots := #[.long (-127)], vm := .none },
  { cls := 19, slots := #[.long (-126)], vm := .none },
  { cls := 19, slots := #[.long (-125)], vm := .none },
  { cls := 19, slots := #[.long (-124)], vm := .none },
  { cls := 19, slots := #[.long (-123)], vm := .none },
  { cls := 19, slots := #[.long (-122)], vm := .none },
  { cls := 19, slots := #[.long (-121)], vm := .none },
  { cls := 19, slots := #[.long (-120)], vm := .none },
  { cls := 19, slots := #[.long (-119)], vm := .none },
  { cls := 19, slots := #[.long (-118)], vm := .none },
  { cls := 19, slots := #[.long (-117)], vm := .none },
  { cls := 19, slots := #[.long (-116)], vm := .none },
  { cls := 19, slots := #[.long (-115)], vm := .none },
  { cls := 19, slots := #[.long (-114)], vm := .none },
  { cls := 19, slots := #[.long (-113)], vm := .none },
  { cls := 19, slots := #[.long (-112)], vm := .none },
  { cls := 19, slots := #[.long (-111)], vm := .none },
  { cls := 19, slots := #[.long (-110)], vm := .none },
  { cls := 19, slots := #[.long (-109)], vm := .none },
  { cls := 19, slots := #[.long (-108)], vm := .none },
  { cls := 19, slots := #[.long (-107)], vm := .none },
  { cls := 19, slots := #[.long (-106)], vm := .none },
  { cls := 19, slots := #[.long (-105)], vm := .none },
  { cls := 19, slots := #[.long (-104)], vm := .none },
  { cls := 19, slots := #[.long (-103)], vm := .none },
  { cls := 19, slots := #[.long (-102)], vm := .none },
  { cls := 19, slots := #[.long (-101)], vm := .none },
  { cls := 19, slots := #[.long (-100)], vm := .none },
  { cls := 19, slots := #[.long (-99)], vm := .none },
  { cls := 19, slots := #[.long (-98)], vm := .none },
  { cls := 19, slots := #[.long (-97)], vm := .none },
  { cls := 19, slots := #[.long (-96)], vm := .none },
  { cls := 19, slots := #[.long (-95)], vm := .none },
  { cls := 19, slots := #[.long (-94)], vm := .none },
  { cls := 19, slots := #[.long (-93)], vm := .none },
  { cls := 19, slots := #[.long (-92)], vm := .none },
  { cls := 19, slots := #[.long (-91)], vm := .none },
  { cls := 19, slots := #[.long (-90)], vm := .none },
  { cls := 19, slots := #[.long (-89)], vm := .none },
  { cls := 19, slots := #[.long (-88)], vm := .none },
  { cls := 19, slots := #[.long (-87)], vm := .none },
  { cls := 19, slots := #[.long (-86)], vm := .none },
  { cls := 19, slots := #[.long (-85)], vm := .none },
  { cls := 19, slots := #[.long (-84)], vm := .none },
  { cls := 19, slots := #[.long (-83)], vm := .none },
  { cls := 19, slots := #[.long (-82)], vm := .none },
  { cls := 19, slots := #[.long (-81)], vm := .none },
  { cls := 19, slots := #[.long (-80)], vm := .none },
  { cls := 19, slots := #[.long (-79)], vm := .none },
  { cls := 19, slots := #[.long (-78)], vm := .none },
  { cls := 19, slots := #[.long (-77)], vm := .none },
  { cls := 19, slots := #[.long (-76)], vm := .none },
  { cls := 19, slots := #[.long (-75)], vm := .none },
  { cls := 19, slots := #[.long (-74)], vm := .none },
  { cls := 19, slots := #[.long (-73)], vm := .none },
  { cls := 19, slots := #[.long (-72)], vm := .none },
  { cls := 19, slots := #[.long (-71)], vm := .none },
  { cls := 19, slots := #[.long (-70)], vm := .none },
  { cls := 19, slots := #[.long (-69)], vm := .none },
  { cls := 19, slots := #[.long (-68)], vm := .none },
  { cls := 19, slots := #[.long (-67)], vm := .none },
  { cls := 19, slots := #[.long (-66)], vm := .none },
  { cls := 19, slots := #[.long (-65)], vm := .none },
  { cls := 19, slots := #[.long (-64)], vm := .none },
  { cls := 19, slots := #[.long (-63)], vm := .none },
  { cls := 19, slots := #[.long (-62)], vm := .none },
  { cls := 19, slots := #[.long (-61)], vm := .none },
  { cls := 19, slots := #[.long (-60)], vm := .none },
  { cls := 19, slots := #[.long (-59)], vm := .none },
  { cls := 19, slots := #[.long (-58)], vm := .none },
  { cls := 19, slots := #[.long (-57)], vm := .none },
  { cls := 19, slots := #[.long (-56)], vm := .none },
  { cls := 19, slots := #[.long (-55)], vm := .none },
  { cls := 19, slots := #[.long (-54)], vm := .none },
  { cls := 19, slots := #[.long (-53)], vm := .none },
  { cls := 19, slots := #[.long (-52)], vm := .none },
  { cls := 19, slots := #[.long (-51)], vm := .none },
  { cls := 19, slots := #[.long (-50)], vm := .none },
  { cls := 19, slots := #[.long (-49)], vm := .none },
  { cls := 19, slots := #[.long (-48)], vm := .none },
  { cls := 19, slots := #[.long (-47)], vm := .none },
  { cls := 19, slots := #[.long (-46)], vm := .none },
  { cls := 19, slots := #[.long (-45)], vm := .none },
  { cls := 19, slots := #[.long (-44)], vm := .none },
  { cls := 19, slots := #[.long (-43)], vm := .none },
  { cls := 19, slots := #[.long (-42)], vm := .none },
  { cls := 19, slots := #[.long (-41)], vm := .none },
  { cls := 19, slots := #[.long (-40)], vm := .none },
  { cls := 19, slots := #[.long (-39)], vm := .none },
  { cls := 19, slots := #[.long (-38)], vm := .none },
  { cls := 19, slots := #[.long (-37)], vm := .none },
  { cls := 19, slots := #[.long (-36)], vm := .none },
  { cls := 19, slots := #[.long (-35)], vm := .none },
  { cls := 19, slots := #[.long (-34)], vm := .none },
  { cls := 19, slots := #[.long (-33)], vm := .none },
  { cls := 19, slots := #[.long (-32)], vm := .none },
  { cls := 19, slots := #[.long (-31)], vm := .none },
  { cls := 19, slots := #[.long (-30)], vm := .none },
  { cls := 19, slots := #[.long (-29)], vm := .none },
  { cls := 19, slots := #[.long (-28)], vm := .none },
  { cls := 19, slots := #[.long (-27)], vm := .none },
  { cls := 19, slots := #[.long (-26)], vm := .none },
  { cls := 19, slots := #[.long (-25)], vm := .none },
  { cls := 19, slots := #[.long (-24)], vm := .none },
  { cls := 19, slots := #[.long (-23)], vm := .none },
  { cls := 19, slots := #[.long (-22)], vm := .none },
  { cls := 19, slots := #[.long (-21)], vm := .none },
  { cls := 19, slots := #[.long (-20)], vm := .none },
  { cls := 19, slots := #[.long (-19)], vm := .none },
  { cls := 19, slots := #[.long (-18)], vm := .none },
  { cls := 19, slots := #[.long (-17)], vm := .none },
  { cls := 19, slots := #[.long (-16)], vm := .none },
  { cls := 19, slots := #[.long (-15)], vm := .none },
  { cls := 19, slots := #[.long (-14)], vm := .none },
  { cls := 19, slots := #[.long (-13)], vm := .none },
  { cls := 19, slots := #[.long (-12)], vm := .none },
  { cls := 19, slots := #[.long (-11)], vm := .none },
  { cls := 19, slots := #[.long (-10)], vm := .none },
  { cls := 19, slots := #[.long (-9)], vm := .none },
  { cls := 19, slots := #[.long (-8)], vm := .none },
  { cls := 19, slots := #[.long (-7)], vm := .none },
  { cls := 19, slots := #[.long (-6)], vm := .none },
  { cls := 19, slots := #[.long (-5)], vm := .none },
  { cls := 19, slots := #[.long (-4)], vm := .none },
  { cls := 19, slots := #[.long (-3)], vm := .none },
  { cls := 19, slots := #[.long (-2)], vm := .none },
  { cls := 19, slots := #[.long (-1)], vm := .none },
  { cls := 19, slots := #[.long (0)], vm := .none },
  { cls := 19, slots := #[.long (1)], vm := .none },
  { cls := 19, slots := #[.long (2)], vm := .none },
  { cls := 19, slots := #[.long (3)], vm := .none },
  { cls := 19, slots := #[.long (4)], vm := .none },
  { cls := 19, slots := #[.long (5)], vm := .none },
  { cls := 19, slots := #[.long (6)], vm := .none },
  { cls := 19, slots := #[.long (7)], vm := .none },
  { cls := 19, slots := #[.long (8)], vm := .none },
  { cls := 19, slots := #[.long (9)], vm := .none },
  { cls := 19, slots := #[.long (10)], vm := .none },
  { cls := 19, slots := #[.long (11)], vm := .none },
  { cls := 19, slots := #[.long (12)], vm := .none },
  { cls := 19, slots := #[.long (13)], vm := .none },
  { cls := 19, slots := #[.long (14)], vm := .none },
  { cls := 19, slots := #[.long (15)], vm := .none },
  { cls := 19, slots := #[.long (16)], vm := .none },
  { cls := 19, slots := #[.long (17)], vm := .none },
  { cls := 19, slots := #[.long (18)], vm := .none },
  { cls := 19, slots := #[.long (19)], vm := .none },
  { cls := 19, slots := #[.long (20)], vm := .none },
  { cls := 19, slots := #[.long (21)], vm := .none },
  { cls := 19, slots := #[.long (22)], vm := .none },
  { cls := 19, slots := #[.long (23)], vm := .none },
  { cls := 19, slots := #[.long (24)], vm := .none },
  { cls := 19, slots := #[.long (25)], vm := .none },
  { cls := 19, slots := #[.long (26)], vm := .none },
  { cls := 19, slots := #[.long (27)], vm := .none },
  { cls := 19, slots := #[.long (28)], vm := .none },
  { cls := 19, slots := #[.long (29)], vm := .none },
  { cls := 19, slots := #[.long (30)], vm := .none },
  { cls := 19, slots := #[.long (31)], vm := .none },
  { cls := 19, slots := #[.long (32)], vm := .none },
  { cls := 19, slots := #[.long (33)], vm := .none },
  { cls := 19, slots := #[.long (34)], vm := .none },
  { cls := 19, slots := #[.long (35)], vm := .none },
  { cls := 19, slots := #[.long (36)], vm := .none },
  { cls := 19, slots := #[.long (37)], vm := .none },
  { cls := 19, slots := #[.long (38)], vm := .none },
  { cls := 19, slots := #[.long (39)], vm := .none },
  { cls := 19, slots := #[.long (40)], vm := .none },
  { cls := 19, slots := #[.long (41)], vm := .none },
  { cls := 19, slots := #[.long (42)], vm := .none },
  { cls := 19, slots := #[.long (43)], vm := .none },
  { cls := 19, slots := #[.long (44)], vm := .none },
  { cls := 19, slots := #[.long (45)], vm := .none },
  { cls := 19, slots := #[.long (46)], vm := .none },
  { cls := 19, slots := #[.long (47)], vm := .none },
  { cls := 19, slots := #[.long (48)], vm := .none },
  { cls := 19, slots := #[.long (49)], vm := .none },
  { cls := 19, slots := #[.long (50)], vm := .none },
  { cls := 19, slots := #[.long (51)], vm := .none },
  { cls := 19, slots := #[.long (52)], vm := .none },
  { cls := 19, slots := #[.long (53)], vm := .none },
  { cls := 19, slots := #[.long (54)], vm := .none },
  { cls := 19, slots := #[.long (55)], vm := .none },
  { cls := 19, slots := #[.long (56)], vm := .none },
  { cls := 19, slots := #[.long (57)], vm := .none },
  { cls := 19, slots := #[.long (58)], vm := .none },
  { cls := 19, slots := #[.long (59)], vm := .none },
  { cls := 19, slots := #[.long (60)], vm := .none },
  { cls := 19, slots := #[.long (61)], vm := .none },
  { cls := 19, slots := #[.long (62)], vm := .none },
  { cls := 19, slots := #[.long (63)], vm := .none },
  { cls := 19, slots := #[.long (64)], vm := .none },
  { cls := 19, slots := #[.long (65)], vm := .none },
  { cls := 19, slots := #[.long (66)], vm := .none },
  { cls := 19, slots := #[.long (67)], vm := .none },
  { cls := 19, slots := #[.long (68)], vm := .none },
  { cls := 19, slots := #[.long (69)], vm := .none },
  { cls := 19, slots := #[.long (70)], vm := .none },
  { cls := 19, slots := #[.long (71)], vm := .none },
  { cls := 19, slots := #[.long (72)], vm := .none },
  { cls := 19, slots := #[.long (73)], vm := .none },
  { cls := 19, slots := #[.long (74)], vm := .none },
  { cls := 19, slots := #[.long (75)], vm := .none },
  { cls := 19, slots := #[.long (76)], vm := .none },
  { cls := 19, slots := #[.long (77)], vm := .none },
  { cls := 19, slots := #[.long (78)], vm := .none },
  { cls := 19, slots := #[.long (79)], vm := .none },
  { cls := 19, slots := #[.long (80)], vm := .none },
  { cls := 19, slots := #[.long (81)], vm := .none },
  { cls := 19, slots := #[.long (82)], vm := .none },
  { cls := 19, slots := #[.long (83)], vm := .none },
  { cls := 19, slots := #[.long (84)], vm := .none },
  { cls := 19, slots := #[.long (85)], vm := .none },
  { cls := 19, slots := #[.long (86)], vm := .none },
  { cls := 19, slots := #[.long (87)], vm := .none },
  { cls := 19, slots := #[.long (88)], vm := .none },
  { cls := 19, slots := #[.long (89)], vm := .none },
  { cls := 19, slots := #[.long (90)], vm := .none },
  { cls := 19, slots := #[.long (91)], vm := .none },
  { cls := 19, slots := #[.long (92)], vm := .none },
  { cls := 19, slots := #[.long (93)], vm := .none },
  { cls := 19, slots := #[.long (94)], vm := .none },
  { cls := 19, slots := #[.long (95)], vm := .none },
  { cls := 19, slots := #[.long (96)], vm := .none },
  { cls := 19, slots := #[.long (97)], vm := .none },
  { cls := 19, slots := #[.long (98)], vm := .none },
  { cls := 19, slots := #[.long (99)], vm := .none },
  { cls := 19, slots := #[.long (100)], vm := .none },
  { cls := 19, slots := #[.long (101)], vm := .none },
  { cls := 19, slots := #[.long (102)], vm := .none },
  { cls := 19, slots := #[.long (103)], vm := .none },
  { cls := 19, slots := #[.long (104)], vm := .none },
  { cls := 19, slots := #[.long (105)], vm := .none },
  { cls := 19, slots := #[.long (106)], vm := .none },
  { cls := 19, slots := #[.long (107)], vm := .none },
  { cls := 19, slots := #[.long (108)], vm := .none },
  { cls := 19, slots := #[.long (109)], vm := .none },
  { cls := 19, slots := #[.long (110)], vm := .none },
  { cls := 19, slots := #[.long (111)], vm := .none },
  { cls := 19, slots := #[.long (112)], vm := .none },
  { cls := 19, slots := #[.long (113)], vm := .none },
  { cls := 19, slots := #[.long (114)], vm := .none },
  { cls := 19, slots := #[.long (115)], vm := .none },
  { cls := 19, slots := #[.long (116)], vm := .none },
  { cls := 19, slots := #[.long (117)], vm := .none },
  { cls := 19, slots := #[.long (118)], vm := .none },
  { cls := 19, slots := #[.long (119)], vm := .none },
  { cls := 19, slots := #[.long (120)], vm := .none },
  { cls := 19, slots := #[.long (121)], vm := .none },
  { cls := 19, slots := #[.long (122)], vm := .none },
  { cls := 19, slots := #[.long (123)], vm := .none },
  { cls := 19, slots := #[.long (124)], vm := .none },
  { cls := 19, slots := #[.long (125)], vm := .none },
  { cls := 19, slots := #[.long (126)], vm := .none },
  { cls := 19, slots := #[.long (127)], vm := .none },
  { cls := 33, slots := #[], vm := .none },
  { cls := 33, slots := #[], vm := .none },
  { cls := 24, slots := #[.null], vm := .none }]
def classes : Array Class := #[k0, k1, k2, k3, k4, k5, k6, k7, k8, k9, k10, k11, k12, k13, k14, k15, k16, k17, k18, k19, k20, k21, k22, k23, k24, k25, k26, k27, k28, k29, k30, k31, k32, k33, k34]
def interned : List (Array UInt16 × Addr) := []
def slotsUsed : Nat := 521
def theMethod : MethodId := ⟨1, 1⟩
def args0 : Array Value := #[.long 1000, .long 5, .long 70, .int 0]
def aboutOver (below : List Frame) : State where
  vm := { classes := classes, interned := interned.toArray }
  heap := heap
  slotsUsed := slotsUsed
  threads := #[{ frames := .invoking theMethod args0 :: below }]
def below0 : List Frame := [.native { method := ⟨0, 0⟩, args := #[] }]
def about1 : State := aboutOver below0
def p0 : Program := .bare "" "" ""
def e0 : Env := launch0.env 0 0 0
theorem w_frames : about1.frames = Frame.invoking theMethod args0 :: below0 := rfl
set_option maxRecDepth 65536 in
theorem w_args : argsFit about1.vm theMethod args0 = true := by decide +kernel
set_option maxRecDepth 65536 in
theorem w_heap : heapFits about1 = true := by decide +kernel
set_option maxRecDepth 65536 in
theorem w_runnable : about1.curStatus? = some .runnable := by decide +kernel
set_option maxRecDepth 65536 in
theorem w_alone : about1.alone = true := by decide +kernel
set_option maxRecDepth 65536 in
theorem w_named : about1.methodNamed? x = some theMethod := by decide +kernel
set_option maxRecDepth 65536 in
theorem w_hears : about1.hears theMethod below0 = true := by decide +kernel
set_option maxRecDepth 65536 in
theorem w_ripe : about1.ripe theMethod args0 below0 = true := by decide +kernel
theorem w_running : about1.status = .running := rfl
set_option maxRecDepth 65536 in
theorem w_room : about1.hasRoom e0.platform room_1 = true :=
  launch0.hasRoom_least _ room_1 (by decide +kernel) (by decide +kernel) (by decide +kernel) (by decide +kernel) (by decide +kernel) (by decide +kernel)
theorem allAtoms_all (ts : List Jvm.Cond) (a : Array Jvm.Value) (st : Jvm.State) : (allAtoms ts).before a st = ts.all (fun c => c.before a st) := by
  induction ts with
  | nil => rfl
  | cons c t ih =>
    show (Jvm.Cond.and c (allAtoms t)).before a st = _
    rw [Jvm.Cond.before_and, ih, List.all_cons]
def words1 : List Jvm.Cond := Jvm.Cond.code x code maxLocals ret :: tables_1
/-- a 'code' word, met by the world's own term for the bytes: nothing is compared byte by byte -/
theorem code_word {y : MethodName} {bytes : ByteArray} {mx : Nat} {rt : Option FieldType} {a : Array Value} {s : State} {m : MethodId} {meth : Method} {c : Code} (h1 : s.methodNamed? y = some m) (h2 : s.vm.method? m = some meth) (h3 : meth.code = some c) (h4 : c.code = bytes)
    (h5 : (c.maxLocals == mx && c.exceptionTable.isEmpty && decide (c.maxStack ≤ mostOperands) && decide (meth.sig.returnType = rt) && !meth.locks && decide (parseMethodDescriptor y.desc = some meth.sig)) = true) : (Jvm.Cond.code y bytes mx rt).before a s = true := by
  simp only [Bool.and_eq_true, beq_iff_eq, Bool.not_eq_true', decide_eq_true_eq] at h5
  obtain ⟨⟨⟨⟨⟨g1, g2⟩, g3⟩, g4⟩, g5⟩, g6⟩ := h5
  simp [Cond.before, Cond.holds, Cond.value, h1, h2, h3, h4, g1, g2, g3, g4, g5, g6]
def isCode : Jvm.Cond → Bool
  | .code _ _ _ _ => true
  | _ => false
theorem all_split {L : List Jvm.Cond} {P : Jvm.Cond → Bool} (h1 : L.all (fun c => isCode c || P c) = true) (h2 : ∀ c ∈ L.filter isCode, P c = true) : L.all P = true := by
  refine List.all_eq_true.mpr fun c hc => ?_
  have h := List.all_eq_true.mp h1 c hc
  rcases Bool.eq_false_or_eq_true (isCode c) with hi | hi
  · exact h2 c (List.mem_filter.mpr ⟨hc, hi⟩)
  · simpa [hi] using h
set_option maxRecDepth 65536 in
theorem w_c0 : (Jvm.Cond.code x code maxLocals ret).before args0 about1 = true := code_word (m := ⟨1, 1⟩) (meth := k1m1) (c := k1c1) (by decide +kernel) rfl rfl rfl (by decide +kernel)
set_option maxRecDepth 65536 in
theorem w_c1 : (Jvm.Cond.code ({ cls := "com/example/usher/usher/OutboxRuns", name := "<init>", desc := "()V" } : Jvm.MethodName) prog_12_method_1_code (1 : Nat) (Option.none : Option Jvm.ClassFile.FieldType)).before args0 about1 = true := code_word (m := ⟨2, 0⟩) (meth := k2m0) (c := k2c0) (by decide +kernel) rfl rfl rfl (by decide +kernel)
set_option maxRecDepth 65536 in
theorem w_c2 : (Jvm.Cond.code ({ cls := "java/lang/Object", name := "<init>", desc := "()V" } : Jvm.MethodName) object_method_1_code (1 : Nat) (Option.none : Option Jvm.ClassFile.FieldType)).before args0 about1 = true := code_word (m := ⟨0, 0⟩) (meth := k0m0) (c := k0c0) (by decide +kernel) rfl rfl rfl (by decide +kernel)
set_option maxRecDepth 65536 in
theorem w_c3 : (Jvm.Cond.code ({ cls := "java/util/ArrayList", name := "<init>", desc := "()V" } : Jvm.MethodName) jdk_38_method_2_code (1 : Nat) (Option.none : Option Jvm.ClassFile.FieldType)).before args0 about1 = true := code_word (m := ⟨12, 0⟩) (meth := k12m0) (c := k12c0) (by decide +kernel) rfl rfl rfl (by decide +kernel)
set_option maxRecDepth 65536 in
theorem w_c4 : (Jvm.Cond.code ({ cls := "java/util/AbstractList", name := "<init>", desc := "()V" } : Jvm.MethodName) jdk_39_method_1_code (1 : Nat) (Option.none : Option Jvm.ClassFile.FieldType)).before args0 about1 = true := code_word (m := ⟨8, 0⟩) (meth := k8m0) (c := k8c0) (by decide +kernel) rfl rfl rfl (by decide +kernel)
set_option maxRecDepth 65536 in
theorem w_c5 : (Jvm.Cond.code ({ cls := "java/util/AbstractCollection", name := "<init>", desc := "()V" } : Jvm.MethodName) jdk_22_method_1_code (1 : Nat) (Option.none : Option Jvm.ClassFile.FieldType)).before args0 about1 = true := code_word (m := ⟨5, 0⟩) (meth := k5m0) (c := k5c0) (by decide +kernel) rfl rfl rfl (by decide +kernel)
set_option maxRecDepth 65536 in
theorem w_c6 : (Jvm.Cond.code ({ cls := "java/lang/Long", name := "valueOf", desc := "(J)Ljava/lang/Long;" } : Jvm.MethodName) jdk_35_method_24_code (3 : Nat) (Option.some (Jvm.ClassFile.FieldType.object "java/lang/Long"))).before args0 about1 = true := code_word (m := ⟨19, 0⟩) (meth := k19m0) (c := k19c0) (by decide +kernel) rfl rfl rfl (by decide +kernel)
set_option maxRecDepth 65536 in
theorem w_c7 : (Jvm.Cond.code ({ cls := "com/example/usher/usher/OutboxRuns", name := "looked", desc := "(ZLjava/lang/Long;J[Ljava/lang/String;Z)V" } : Jvm.MethodName) prog_12_method_6_code (8 : Nat) (Option.none : Option Jvm.ClassFile.FieldType)).before args0 about1 = true := code_word (m := ⟨2, 1⟩) (meth := k2m1) (c := k2c1) (by decide +kernel) rfl rfl rfl (by decide +kernel)
set_option maxRecDepth 65536 in
theorem w_c8 : (Jvm.Cond.code ({ cls := "java/lang/Long", name := "longValue", desc := "()J" } : Jvm.MethodName) jdk_35_method_31_code (1 : Nat) (Option.some Jvm.ClassFile.FieldType.long)).before args0 about1 = true := code_word (m := ⟨19, 2⟩) (meth := k19m2) (c := k19c2) (by decide +kernel) rfl rfl rfl (by decide +kernel)
set_option maxRecDepth 65536 in
theorem w_c9 : (Jvm.Cond.code ({ cls := "java/lang/Math", name := "min", desc := "(JJ)J" } : Jvm.MethodName) jdk_29_method_70_code (4 : Nat) (Option.some Jvm.ClassFile.FieldType.long)).before args0 about1 = true := code_word (m := ⟨21, 2⟩) (meth := k21m2) (c := k21c2) (by decide +kernel) rfl rfl rfl (by decide +kernel)
set_option maxRecDepth 65536 in
theorem w_c10 : (Jvm.Cond.code ({ cls := "java/lang/Math", name := "max", desc := "(JJ)J" } : Jvm.MethodName) jdk_29_method_66_code (4 : Nat) (Option.some Jvm.ClassFile.FieldType.long)).before args0 about1 = true := code_word (m := ⟨21, 1⟩) (meth := k21m1) (c := k21c1) (by decide +kernel) rfl rfl rfl (by decide +kernel)
set_option maxRecDepth 65536 in
theorem w_c11 : (Jvm.Cond.code ({ cls := "com/example/usher/usher/OutboxRuns$Range", name := "<init>", desc := "(JJ)V" } : Jvm.MethodName) prog_14_method_1_code (5 : Nat) (Option.none : Option Jvm.ClassFile.FieldType)).before args0 about1 = true := code_word (m := ⟨23, 0⟩) (meth := k23m0) (c := k23c0) (by decide +kernel) rfl rfl rfl (by decide +kernel)
set_option maxRecDepth 65536 in
theorem w_c12 : (Jvm.Cond.code ({ cls := "java/lang/Record", name := "<init>", desc := "()V" } : Jvm.MethodName) jdk_30_method_1_code (1 : Nat) (Option.none : Option Jvm.ClassFile.FieldType)).before args0 about1 = true := code_word (m := ⟨22, 0⟩) (meth := k22m0) (c := k22c0) (by decide +kernel) rfl rfl rfl (by decide +kernel)
set_option maxRecDepth 65536 in
theorem w_c13 : (Jvm.Cond.code ({ cls := "com/example/usher/usher/OutboxRuns", name := "read", desc := "(Lcom/example/usher/usher/OutboxRuns$Range;Ljava/math/BigDecimal;Ljava/util/List;ZJ)V" } : Jvm.MethodName) prog_12_method_10_code (13 : Nat) (Option.none : Option Jvm.ClassFile.FieldType)).before args0 about1 = true := code_word (m := ⟨2, 4⟩) (meth := k2m4) (c := k2c4) (by decide +kernel) rfl rfl rfl (by decide +kernel)
set_option maxRecDepth 65536 in
theorem w_c14 : (Jvm.Cond.code ({ cls := "java/util/ArrayList", name := "isEmpty", desc := "()Z" } : Jvm.MethodName) jdk_38_method_9_code (1 : Nat) (Option.some Jvm.ClassFile.FieldType.boolean)).before args0 about1 = true := code_word (m := ⟨12, 1⟩) (meth := k12m1) (c := k12c1) (by decide +kernel) rfl rfl rfl (by decide +kernel)
set_option maxRecDepth 65536 in
theorem w_c15 : (Jvm.Cond.code ({ cls := "java/util/Optional", name := "empty", desc := "()Ljava/util/Optional;" } : Jvm.MethodName) jdk_32_method_1_code (1 : Nat) (Option.some (Jvm.ClassFile.FieldType.object "java/util/Optional"))).before args0 about1 = true := code_word (m := ⟨24, 0⟩) (meth := k24m0) (c := k24c0) (by decide +kernel) rfl rfl rfl (by decide +kernel)
set_option maxRecDepth 65536 in
theorem w_c16 : (Jvm.Cond.code ({ cls := "com/example/usher/usher/OutboxRuns", name := "last", desc := "()Ljava/util/Optional;" } : Jvm.MethodName) prog_12_method_8_code (2 : Nat) (Option.some (Jvm.ClassFile.FieldType.object "java/util/Optional"))).before args0 about1 = true := code_word (m := ⟨2, 3⟩) (meth := k2m3) (c := k2c3) (by decide +kernel) rfl rfl rfl (by decide +kernel)
set_option maxRecDepth 65536 in
theorem w_c17 : (Jvm.Cond.code ({ cls := "java/util/Optional", name := "isPresent", desc := "()Z" } : Jvm.MethodName) jdk_32_method_6_code (1 : Nat) (Option.some Jvm.ClassFile.FieldType.boolean)).before args0 about1 = true := code_word (m := ⟨24, 4⟩) (meth := k24m4) (c := k24c4) (by decide +kernel) rfl rfl rfl (by decide +kernel)
set_option maxRecDepth 65536 in
theorem w_c18 : (Jvm.Cond.code ({ cls := "java/util/ArrayList", name := "iterator", desc := "()Ljava/util/Iterator;" } : Jvm.MethodName) jdk_38_method_55_code (1 : Nat) (Option.some (Jvm.ClassFile.FieldType.object "java/util/Iterator"))).before args0 about1 = true := code_word (m := ⟨12, 2⟩) (meth := k12m2) (c := k12c2) (by decide +kernel) rfl rfl rfl (by decide +kernel)
set_option maxRecDepth 65536 in
theorem w_c19 : (Jvm.Cond.code ({ cls := "java/util/ArrayList$Itr", name := "<init>", desc := "(Ljava/util/ArrayList;)V" } : Jvm.MethodName) jdk_49_method_1_code (2 : Nat) (Option.none : Option Jvm.ClassFile.FieldType)).before args0 about1 = true := code_word (m := ⟨26, 0⟩) (meth := k26m0) (c := k26c0) (by decide +kernel) rfl rfl rfl (by decide +kernel)
set_option maxRecDepth 65536 in
theorem w_c20 : (Jvm.Cond.code ({ cls := "java/util/ArrayList$Itr", name := "hasNext", desc := "()Z" } : Jvm.MethodName) jdk_49_method_2_code (1 : Nat) (Option.some Jvm.ClassFile.FieldType.boolean)).before args0 about1 = true := code_word (m := ⟨26, 1⟩) (meth := k26m1) (c := k26c1) (by decide +kernel) rfl rfl rfl (by decide +kernel)
set_option maxRecDepth 65536 in
theorem w_c21 : (Jvm.Cond.code ({ cls := "com/example/usher/usher/OutboxRuns$Range", name := "to", desc := "()J" } : Jvm.MethodName) prog_14_method_6_code (1 : Nat) (Option.some Jvm.ClassFile.FieldType.long)).before args0 about1 = true := code_word (m := ⟨23, 2⟩) (meth := k23m2) (c := k23c2) (by decide +kernel) rfl rfl rfl (by decide +kernel)
set_option maxRecDepth 65536 in
theorem w_c22 : (Jvm.Cond.code ({ cls := "java/lang/Long", name := "<init>", desc := "(J)V" } : Jvm.MethodName) jdk_35_method_26_code (3 : Nat) (Option.none : Option Jvm.ClassFile.FieldType)).before args0 about1 = true := code_word (m := ⟨19, 1⟩) (meth := k19m1) (c := k19c1) (by decide +kernel) rfl rfl rfl (by decide +kernel)
set_option maxRecDepth 65536 in
theorem w_c23 : (Jvm.Cond.code ({ cls := "java/lang/Number", name := "<init>", desc := "()V" } : Jvm.MethodName) jdk_18_method_1_code (1 : Nat) (Option.none : Option Jvm.ClassFile.FieldType)).before args0 about1 = true := code_word (m := ⟨18, 0⟩) (meth := k18m0) (c := k18c0) (by decide +kernel) rfl rfl rfl (by decide +kernel)
set_option maxRecDepth 65536 in
theorem w_c24 : (Jvm.Cond.code ({ cls := "com/example/usher/usher/OutboxRuns", name := "unread", desc := "(Ljava/lang/Long;)Ljava/util/Optional;" } : Jvm.MethodName) prog_12_method_7_code (5 : Nat) (Option.some (Jvm.ClassFile.FieldType.object "java/util/Optional"))).before args0 about1 = true := code_word (m := ⟨2, 2⟩) (meth := k2m2) (c := k2c2) (by decide +kernel) rfl rfl rfl (by decide +kernel)
set_option maxRecDepth 65536 in
theorem w_c25 : (Jvm.Cond.code ({ cls := "java/util/Optional", name := "of", desc := "(Ljava/lang/Object;)Ljava/util/Optional;" } : Jvm.MethodName) jdk_32_method_3_code (1 : Nat) (Option.some (Jvm.ClassFile.FieldType.object "java/util/Optional"))).before args0 about1 = true := code_word (m := ⟨24, 2⟩) (meth := k24m2) (c := k24c2) (by decide +kernel) rfl rfl rfl (by decide +kernel)
set_option maxRecDepth 65536 in
theorem w_c26 : (Jvm.Cond.code ({ cls := "java/util/Objects", name := "requireNonNull", desc := "(Ljava/lang/Object;)Ljava/lang/Object;" } : Jvm.MethodName) jdk_31_method_10_code (1 : Nat) (Option.some (Jvm.ClassFile.FieldType.object "java/lang/Object"))).before args0 about1 = true := code_word (m := ⟨27, 1⟩) (meth := k27m1) (c := k27c1) (by decide +kernel) rfl rfl rfl (by decide +kernel)
set_option maxRecDepth 65536 in
theorem w_c27 : (Jvm.Cond.code ({ cls := "java/util/Optional", name := "<init>", desc := "(Ljava/lang/Object;)V" } : Jvm.MethodName) jdk_32_method_2_code (2 : Nat) (Option.none : Option Jvm.ClassFile.FieldType)).before args0 about1 = true := code_word (m := ⟨24, 1⟩) (meth := k24m1) (c := k24c1) (by decide +kernel) rfl rfl rfl (by decide +kernel)
set_option maxRecDepth 65536 in
theorem w_c28 : (Jvm.Cond.code ({ cls := "java/util/Optional", name := "get", desc := "()Ljava/lang/Object;" } : Jvm.MethodName) jdk_32_method_5_code (1 : Nat) (Option.some (Jvm.ClassFile.FieldType.object "java/lang/Object"))).before args0 about1 = true := code_word (m := ⟨24, 3⟩) (meth := k24m3) (c := k24c3) (by decide +kernel) rfl rfl rfl (by decide +kernel)
set_option maxRecDepth 65536 in
theorem w_c29 : (Jvm.Cond.code ({ cls := "com/example/usher/usher/OutboxRuns$Range", name := "from", desc := "()J" } : Jvm.MethodName) prog_14_method_5_code (1 : Nat) (Option.some Jvm.ClassFile.FieldType.long)).before args0 about1 = true := code_word (m := ⟨23, 1⟩) (meth := k23m1) (c := k23c1) (by decide +kernel) rfl rfl rfl (by decide +kernel)
def codes1 : List Jvm.Cond := [Jvm.Cond.code x code maxLocals ret, Jvm.Cond.code ({ cls := "com/example/usher/usher/OutboxRuns", name := "<init>", desc := "()V" } : Jvm.MethodName) prog_12_method_1_code (1 : Nat) (Option.none : Option Jvm.ClassFile.FieldType), Jvm.Cond.code ({ cls := "java/lang/Object", name := "<init>", desc := "()V" } : Jvm.MethodName) object_method_1_code (1 : Nat) (Option.none : Option Jvm.ClassFile.FieldType), Jvm.Cond.code ({ cls := "java/util/ArrayList", name := "<init>", desc := "()V" } : Jvm.MethodName) jdk_38_method_2_code (1 : Nat) (Option.none : Option Jvm.ClassFile.FieldType), Jvm.Cond.code ({ cls := "java/util/AbstractList", name := "<init>", desc := "()V" } : Jvm.MethodName) jdk_39_method_1_code (1 : Nat) (Option.none : Option Jvm.ClassFile.FieldType), Jvm.Cond.code ({ cls := "java/util/AbstractCollection", name := "<init>", desc := "()V" } : Jvm.MethodName) jdk_22_method_1_code (1 : Nat) (Option.none : Option Jvm.ClassFile.FieldType), Jvm.Cond.code ({ cls := "java/lang/Long", name := "valueOf", desc := "(J)Ljava/lang/Long;" } : Jvm.MethodName) jdk_35_method_24_code (3 : Nat) (Option.some (Jvm.ClassFile.FieldType.object "java/lang/Long")), Jvm.Cond.code ({ cls := "com/example/usher/usher/OutboxRuns", name := "looked", desc := "(ZLjava/lang/Long;J[Ljava/lang/String;Z)V" } : Jvm.MethodName) prog_12_method_6_code (8 : Nat) (Option.none : Option Jvm.ClassFile.FieldType), Jvm.Cond.code ({ cls := "java/lang/Long", name := "longValue", desc := "()J" } : Jvm.MethodName) jdk_35_method_31_code (1 : Nat) (Option.some Jvm.ClassFile.FieldType.long), Jvm.Cond.code ({ cls := "java/lang/Math", name := "min", desc := "(JJ)J" } : Jvm.MethodName) jdk_29_method_70_code (4 : Nat) (Option.some Jvm.ClassFile.FieldType.long), Jvm.Cond.code ({ cls := "java/lang/Math", name := "max", desc := "(JJ)J" } : Jvm.MethodName) jdk_29_method_66_code (4 : Nat) (Option.some Jvm.ClassFile.FieldType.long), Jvm.Cond.code ({ cls := "com/example/usher/usher/OutboxRuns$Range", name := "<init>", desc := "(JJ)V" } : Jvm.MethodName) prog_14_method_1_code (5 : Nat) (Option.none : Option Jvm.ClassFile.FieldType), Jvm.Cond.code ({ cls := "java/lang/Record", name := "<init>", desc := "()V" } : Jvm.MethodName) jdk_30_method_1_code (1 : Nat) (Option.none : Option Jvm.ClassFile.FieldType), Jvm.Cond.code ({ cls := "com/example/usher/usher/OutboxRuns", name := "read", desc := "(Lcom/example/usher/usher/OutboxRuns$Range;Ljava/math/BigDecimal;Ljava/util/List;ZJ)V" } : Jvm.MethodName) prog_12_method_10_code (13 : Nat) (Option.none : Option Jvm.ClassFile.FieldType), Jvm.Cond.code ({ cls := "java/util/ArrayList", name := "isEmpty", desc := "()Z" } : Jvm.MethodName) jdk_38_method_9_code (1 : Nat) (Option.some Jvm.ClassFile.FieldType.boolean), Jvm.Cond.code ({ cls := "java/util/Optional", name := "empty", desc := "()Ljava/util/Optional;" } : Jvm.MethodName) jdk_32_method_1_code (1 : Nat) (Option.some (Jvm.ClassFile.FieldType.object "java/util/Optional")), Jvm.Cond.code ({ cls := "com/example/usher/usher/OutboxRuns", name := "last", desc := "()Ljava/util/Optional;" } : Jvm.MethodName) prog_12_method_8_code (2 : Nat) (Option.some (Jvm.ClassFile.FieldType.object "java/util/Optional")), Jvm.Cond.code ({ cls := "java/util/Optional", name := "isPresent", desc := "()Z" } : Jvm.MethodName) jdk_32_method_6_code (1 : Nat) (Option.some Jvm.ClassFile.FieldType.boolean), Jvm.Cond.code ({ cls := "java/util/ArrayList", name := "iterator", desc := "()Ljava/util/Iterator;" } : Jvm.MethodName) jdk_38_method_55_code (1 : Nat) (Option.some (Jvm.ClassFile.FieldType.object "java/util/Iterator")), Jvm.Cond.code ({ cls := "java/util/ArrayList$Itr", name := "<init>", desc := "(Ljava/util/ArrayList;)V" } : Jvm.MethodName) jdk_49_method_1_code (2 : Nat) (Option.none : Option Jvm.ClassFile.FieldType), Jvm.Cond.code ({ cls := "java/util/ArrayList$Itr", name := "hasNext", desc := "()Z" } : Jvm.MethodName) jdk_49_method_2_code (1 : Nat) (Option.some Jvm.ClassFile.FieldType.boolean), Jvm.Cond.code ({ cls := "com/example/usher/usher/OutboxRuns$Range", name := "to", desc := "()J" } : Jvm.MethodName) prog_14_method_6_code (1 : Nat) (Option.some Jvm.ClassFile.FieldType.long), Jvm.Cond.code ({ cls := "java/lang/Long", name := "<init>", desc := "(J)V" } : Jvm.MethodName) jdk_35_method_26_code (3 : Nat) (Option.none : Option Jvm.ClassFile.FieldType), Jvm.Cond.code ({ cls := "java/lang/Number", name := "<init>", desc := "()V" } : Jvm.MethodName) jdk_18_method_1_code (1 : Nat) (Option.none : Option Jvm.ClassFile.FieldType), Jvm.Cond.code ({ cls := "com/example/usher/usher/OutboxRuns", name := "unread", desc := "(Ljava/lang/Long;)Ljava/util/Optional;" } : Jvm.MethodName) prog_12_method_7_code (5 : Nat) (Option.some (Jvm.ClassFile.FieldType.object "java/util/Optional")), Jvm.Cond.code ({ cls := "java/util/Optional", name := "of", desc := "(Ljava/lang/Object;)Ljava/util/Optional;" } : Jvm.MethodName) jdk_32_method_3_code (1 : Nat) (Option.some (Jvm.ClassFile.FieldType.object "java/util/Optional")), Jvm.Cond.code ({ cls := "java/util/Objects", name := "requireNonNull", desc := "(Ljava/lang/Object;)Ljava/lang/Object;" } : Jvm.MethodName) jdk_31_method_10_code (1 : Nat) (Option.some (Jvm.ClassFile.FieldType.object "java/lang/Object")), Jvm.Cond.code ({ cls := "java/util/Optional", name := "<init>", desc := "(Ljava/lang/Object;)V" } : Jvm.MethodName) jdk_32_method_2_code (2 : Nat) (Option.none : Option Jvm.ClassFile.FieldType), Jvm.Cond.code ({ cls := "java/util/Optional", name := "get", desc := "()Ljava/lang/Object;" } : Jvm.MethodName) jdk_32_method_5_code (1 : Nat) (Option.some (Jvm.ClassFile.FieldType.object "java/lang/Object")), Jvm.Cond.code ({ cls := "com/example/usher/usher/OutboxRuns$Range", name := "from", desc := "()J" } : Jvm.MethodName) prog_14_method_5_code (1 : Nat) (Option.some Jvm.ClassFile.FieldType.long)]
set_option maxRecDepth 65536 in
theorem codes_eq : words1.filter isCode = codes1 := rfl
theorem w_codes : ∀ c ∈ words1.filter isCode, c.before args0 about1 = true := by
  rw [codes_eq]
  intro c hc
  simp only [codes1, List.mem_cons, List.not_mem_nil, or_false] at hc
  rcases hc with rfl | rfl | rfl | rfl | rfl | rfl | rfl | rfl | rfl | rfl | rfl | rfl | rfl | rfl | rfl | rfl | rfl | rfl | rfl | rfl | rfl | rfl | rfl | rfl | rfl | rfl | rfl | rfl | rfl | rfl
  · exact w_c0
  · exact w_c1
  · exact w_c2
  · exact w_c3
  · exact w_c4
  · exact w_c5
  · exact w_c6
  · exact w_c7
  · exact w_c8
  · exact w_c9
  · exact w_c10
  · exact w_c11
  · exact w_c12
  · exact w_c13
  · exact w_c14
  · exact w_c15
  · exact w_c16
  · exact w_c17
  · exact w_c18
  · exact w_c19
  · exact w_c20
  · exact w_c21
  · exact w_c22
  · exact w_c23
  · exact w_c24
  · exact w_c25
  · exact w_c26
  · exact w_c27
  · exact w_c28
  · exact w_c29
set_option maxRecDepth 65536 in
theorem w_t1 : (words1.take 24).all (fun c => isCode c || c.before args0 about1) = true := by decide +kernel
set_option maxRecDepth 65536 in
theorem w_t2 : ((words1.drop 24).take 24).all (fun c => isCode c || c.before args0 about1) = true := by decide +kernel
set_option maxRecDepth 65536 in
theorem w_t3 : (((words1.drop 24).drop 24).take 24).all (fun c => isCode c || c.before args0 about1) = true := by decide +kernel
set_option maxRecDepth 65536 in
theorem w_t4 : ((((words1.drop 24).drop 24).drop 24).take 24).all (fun c => isCode c || c.before args0 about1) = true := by decide +kernel
set_option maxRecDepth 65536 in
theorem w_t5 : (((((words1.drop 24).drop 24).drop 24).drop 24).take 24).all (fun c => isCode c || c.before args0 about1) = true := by decide +kernel
set_option maxRecDepth 65536 in
theorem w_t6 : ((((((words1.drop 24).drop 24).drop 24).drop 24).drop 24).take 24).all (fun c => isCode c || c.before args0 about1) = true := by decide +kernel
set_option maxRecDepth 65536 in
theorem w_t7 : (((((((words1.drop 24).drop 24).drop 24).drop 24).drop 24).drop 24).take 24).all (fun c => isCode c || c.before args0 about1) = true := by decide +kernel
set_option maxRecDepth 65536 in
theorem w_t8 : ((((((((words1.drop 24).drop 24).drop 24).drop 24).drop 24).drop 24).drop 24).take 24).all (fun c => isCode c || c.before args0 about1) = true := by decide +kernel
set_option maxRecDepth 65536 in
theorem w_t9 : (((((((((words1.drop 24).drop 24).drop 24).drop 24).drop 24).drop 24).drop 24).drop 24).take 24).all (fun c => isCode c || c.before args0 about1) = true := by decide +kernel
set_option maxRecDepth 65536 in
theorem w_t10 : (((((((((words1.drop 24).drop 24).drop 24).drop 24).drop 24).drop 24).drop 24).drop 24).drop 24).all (fun c => isCode c || c.before args0 about1) = true := by decide +kernel
theorem w_tables : (allAtoms (Jvm.Cond.code x code maxLocals ret :: tables_1)).before args0 about1 = true := by
  rw [allAtoms_all]
  show words1.all (fun c => c.before args0 about1) = true
  refine all_split ?_ w_codes
  rw [← List.take_append_drop 24 words1, List.all_append, w_t1, ← List.take_append_drop 24 (words1.drop 24), List.all_append, w_t2, ← List.take_append_drop 24 ((words1.drop 24).drop 24), List.all_append, w_t3, ← List.take_append_drop 24 (((words1.drop 24).drop 24).drop 24), List.all_append, w_t4, ← List.take_append_drop 24 ((((words1.drop 24).drop 24).drop 24).drop 24), List.all_append, w_t5, ← List.take_append_drop 24 (((((words1.drop 24).drop 24).drop 24).drop 24).drop 24), List.all_append, w_t6, ← List.take_append_drop 24 ((((((words1.drop 24).drop 24).drop 24).drop 24).drop 24).drop 24), List.all_append, w_t7, ← List.take_append_drop 24 (((((((words1.drop 24).drop 24).drop 24).drop 24).drop 24).drop 24).drop 24), List.all_append, w_t8, ← List.take_append_drop 24 ((((((((words1.drop 24).drop 24).drop 24).drop 24).drop 24).drop 24).drop 24).drop 24), List.all_append, w_t9, w_t10]
  rfl
set_option maxRecDepth 65536 in
theorem w_rest : rest_1_c.before args0 about1 = true := by decide +kernel
set_option maxRecDepth 65536 in
theorem w_case : (Jvm.Cond.and given_1 narrow_1).before args0 about1 = true := by decide +kernel
theorem w_applies : (headSpec (Jvm.Cond.code x code maxLocals ret :: tables_1) room_1).applies x e0.platform about1 = true :=
  (Spec.applies_iff w_frames).mpr ⟨w_running, w_runnable, w_alone, w_named, w_hears, w_ripe, w_room, w_tables⟩
theorem atStart : AtStart classFile x code maxLocals ret World_1 tables_1 room_1 Calls_1 rest_1 Pre_1 launch0 p0 e0 about1 theMethod args0 below0 :=
  ⟨lists_1, trivial, launch0.admits_env _ _ _, launch0.least_env, fairChoices_fair.cas, fairChoices_fair.clock, w_frames, w_args, w_heap, w_applies, trivial, w_rest, w_case⟩
end start1
theorem witness_1 : WitnessClaimed_1 := ⟨start1.p0, start1.e0, start1.about1, start1.theMethod, start1.args0, start1.below0, start1.atStart⟩
end Jvm.Pilot.@@N@@
