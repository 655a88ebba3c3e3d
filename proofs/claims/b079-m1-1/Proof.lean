import JvmDerived
import JvmDerived.Pilot.@@N@@Statement
import JvmDerived.Pilot.@@N@@Code
set_option linter.unusedVariables false
set_option linter.unusedSimpArgs false
namespace Jvm.Pilot.@@N@@
open Jvm Jvm.ClassFile Sem Op Lib Jvm.Free Jvm.Stand Jvm.LawKit Jvm.RoadKit Bundle Jvm.Pilot.@@N@@.Jvm.D
section OwnKit
variable {p : Program} {l : Launch} {e : Env} {R : Room} {s : State} {m : MethodId} {args : Array Value} {below : List Frame} {meth : Method} {c : Code} {T : State} {locs : List Loc} {cells slots : Nat} {Z : State} {a0 : Array Value} {h : Heap} {Q : Option Value → Heap → List Loc → Prop} {rc rs : Nat} {S S' : State}
/-- from S the body ends well -/
def own_go (p : Program) (e : Env) (below : List Frame) (s : State) (Q : Option Value → Heap → List Loc → Prop) (rc rs : Nat) (S : State) : Prop :=
  ∃ s₂ o, Steps p.tables e below S s₂ ∧ s₂.status = .running ∧ Ended s₂ below o ∧ ∃ v L, o = .returned v ∧ Q v s₂.heap L ∧ FrameEnd s o s₂ L rc rs
theorem own_st (k : ∀ t, Steps p.tables e below S' t → Steps p.tables e below S t) (g : own_go p e below s Q rc rs S') : own_go p e below s Q rc rs S := by
  obtain ⟨s₂, o, h1, h2⟩ := g
  exact ⟨s₂, o, k _ h1, h2⟩
theorem own_ret (X : Stand p l e R s m args below meth c T locs cells slots) (hx : p.tables.exec = Jvm.exec) (hlk : meth.locks = false) {pc : Nat} {Ls : Array Slot} {w : Value} {t : FieldType} {i : Instr} {rest : List Value} (hret : meth.sig.returnType = some t) (hn : narrow t w = w)
    (hi : (i = .ireturn ∧ (t = .int ∨ t = .boolean ∨ t = .byte ∨ t = .char ∨ t = .short) ∧ ∃ z, w = .int z) ∨ (i = .lreturn ∧ t = .long ∧ ∃ z, w = .long z) ∨ (i = .dreturn ∧ t = .double ∧ ∃ z, w = .double z) ∨ (i = .freturn ∧ t = .float ∧ ∃ z, w = .float z) ∨ (i = .areturn ∧ t.isReference = true ∧ w.isRef = true))
    (hd : decode c.code pc = .ok (i, 1)) (hc : cells ≤ rc) (hs : slots ≤ rs) (hQ : Q (some w) T.heap locs) : own_go p e below s Q rc rs (T.setTop (mkF m pc Ls (w :: rest))) := by
  obtain ⟨fs, hr, hrun, hended, hW, hsame⟩ := X.leave (v := some w) (fun h => by rw [hret] at h; cases h) hlk
  exact ⟨_, _, retOut X hx hret hn hi hd hr, hrun, hended, _, _, rfl, hQ, ⟨_, rfl⟩, hW, hsame.mono hc hs⟩
theorem own_retI (X : Stand p l e R s m args below meth c T locs cells slots) (hx : p.tables.exec = Jvm.exec) (hlk : meth.locks = false) {pc : Nat} {Ls : Array Slot} {z : Int32} {rest : List Value} (hret : meth.sig.returnType = some .int)
    (hd : decode c.code pc = .ok (.ireturn, 1)) (hc : cells ≤ rc) (hs : slots ≤ rs) (hQ : Q (some (.int z)) T.heap locs) : own_go p e below s Q rc rs (T.setTop (mkF m pc Ls (.int z :: rest))) :=
  own_ret X hx hlk hret rfl (Or.inl ⟨rfl, Or.inl rfl, z, rfl⟩) hd hc hs hQ
theorem own_retN (X : Stand p l e R s m args below meth c T locs cells slots) (hx : p.tables.exec = Jvm.exec) (hlk : meth.locks = false) {pc : Nat} {Ls : Array Slot} {z : Int32} {t : FieldType} {rest : List Value} (hret : meth.sig.returnType = some t) (ht : t = .boolean ∨ t = .byte ∨ t = .char ∨ t = .short) (hn : narrow t (.int z) = .int z)
    (hd : decode c.code pc = .ok (.ireturn, 1)) (hc : cells ≤ rc) (hs : slots ≤ rs) (hQ : Q (some (.int z)) T.heap locs) : own_go p e below s Q rc rs (T.setTop (mkF m pc Ls (.int z :: rest))) :=
  own_ret X hx hlk hret hn (Or.inl ⟨rfl, Or.inr ht, z, rfl⟩) hd hc hs hQ
theorem own_retJ (X : Stand p l e R s m args below meth c T locs cells slots) (hx : p.tables.exec = Jvm.exec) (hlk : meth.locks = false) {pc : Nat} {Ls : Array Slot} {z : Int64} {rest : List Value} (hret : meth.sig.returnType = some .long)
    (hd : decode c.code pc = .ok (.lreturn, 1)) (hc : cells ≤ rc) (hs : slots ≤ rs) (hQ : Q (some (.long z)) T.heap locs) : own_go p e below s Q rc rs (T.setTop (mkF m pc Ls (.long z :: rest))) :=
  own_ret X hx hlk hret rfl (Or.inr (Or.inl ⟨rfl, rfl, z, rfl⟩)) hd hc hs hQ
theorem own_retA (X : Stand p l e R s m args below meth c T locs cells slots) (hx : p.tables.exec = Jvm.exec) (hlk : meth.locks = false) {pc : Nat} {Ls : Array Slot} {w : Value} {t : FieldType} {rest : List Value} (hret : meth.sig.returnType = some t) (ht : t.isReference = true) (hw : w.isRef = true)
    (hd : decode c.code pc = .ok (.areturn, 1)) (hc : cells ≤ rc) (hs : slots ≤ rs) (hQ : Q (some w) T.heap locs) : own_go p e below s Q rc rs (T.setTop (mkF m pc Ls (w :: rest))) :=
  own_ret X hx hlk hret (by cases w <;> cases t <;> first | rfl | (simp [Value.isRef] at hw; done) | (simp [FieldType.isReference] at ht; done)) (Or.inr (Or.inr (Or.inr (Or.inr ⟨rfl, ht, hw⟩)))) hd hc hs hQ
theorem own_ret0 (X : Stand p l e R s m args below meth c T locs cells slots) (hx : p.tables.exec = Jvm.exec) (hlk : meth.locks = false) {pc : Nat} {Ls : Array Slot} (hret : meth.sig.returnType = none)
    (hd : decode c.code pc = .ok (.return_, 1)) (hc : cells ≤ rc) (hs : slots ≤ rs) (hQ : Q none T.heap locs) : own_go p e below s Q rc rs (T.setTop (mkF m pc Ls [])) := by
  obtain ⟨fs, hr, hrun, hended, hW, hsame⟩ := X.leave (v := none) (fun _ => rfl) hlk
  exact ⟨_, _, X.returnOut hx hret hd hr, hrun, hended, _, _, rfl, hQ, ⟨_, rfl⟩, hW, hsame.mono hc hs⟩
/-- a body's contract at a heap -/
def own_Met (l : Launch) (Z : State) (y : MethodName) (bytes : ByteArray) (maxL : Nat) (ret : Option FieldType) (ws : List Jvm.Cond) (rm : Room) (as' : Array Value) (h : Heap) (Q : Option Value → Heap → List Loc → Prop) : Prop :=
  MetFree l y (head1 (Jvm.Cond.code y bytes maxL ret :: ws) rm) (fun a U => a = as' ∧ Z.Warmed39 U.vm ∧ U.heap = h) (fun _ _ _ _ _ => True) (fun _ U o U' => ∃ v L, o = .returned v ∧ Q v U'.heap L ∧ FrameEnd U o U' L rm.cells rm.slots)
theorem own_body {y : MethodName} {bytes : ByteArray} {maxL : Nat} {ret : Option FieldType} {ws : List Jvm.Cond} {rm : Room} {as' : Array Value} (hp : plainFor y = true)
    (k : ∀ (p : Program) (e : Env) (s : State) (m : MethodId) (below : List Frame) (meth : Method) (c : Code) (s₁ : State), p.tables.exec = Jvm.exec → c.code = bytes → c.maxLocals = maxL → s.vm.findClass y.cls = some m.cls → meth.name = y.name → meth.sig.returnType = ret → meth.locks = false → Stand p l e rm s m as' below meth c s₁ [] 0 0 → Z.Warmed39 s.vm → s₁.heap = h → own_go p e below s Q rm.cells rm.slots (s₁.setTop (entryFrame m as' maxL))) :
    own_Met l Z y bytes maxL ret ws rm as' h Q := by
  refine MetFree.of_bodySF hp hisR ?_
  intro p e s m args below meth c s₁ Bd hml0 hP hK
  obtain ⟨rfl, hZ, hh⟩ := hP
  exact k p e s m below meth c s₁ Bd.exec Bd.bytes hml0 (findClass_of_methodNamed Bd.named) (name_of_methodNamed Bd.named Bd.method).1 Bd.returns Bd.notSynchronized (Stand.of_body Bd) hZ (by rw [← hh, Bd.state]; rfl)
theorem own_callS (X : Stand p l e R s m args below meth c T locs cells slots) (hx : p.tables.exec = Jvm.exec) (hZ : Z.Warmed39 s.vm) {own : String} {index : Nat} {y : MethodName} {bytes : ByteArray} {maxL : Nat} {ret : Option FieldType} {rm : Room} {argsL rest : List Value} {Q' : Option Value → Heap → List Loc → Prop}
    (hM : own_Met l Z y bytes maxL ret [] rm argsL.toArray h Q') (hown : s.vm.findClass own = some m.cls) (w1 : (Jvm.Cond.methodLink own index y).before a0 Z = true) (w2 : (Jvm.Cond.static y).before a0 Z = true) (w3 : (Jvm.Cond.initialized y.cls).before a0 Z = true) (w4 : (Jvm.Cond.code y bytes maxL ret).before a0 Z = true)
    (hy : y.cls ≠ "java/lang/invoke/MethodHandle" ∧ y.cls ≠ "java/lang/invoke/VarHandle") (eT : T.heap = h) {g : JFrame} (hg : g.method = m) (hsize : g.locals.size = c.maxLocals) (hlen : ∀ sig, parseMethodDescriptor y.desc = some sig → argsL.length = sig.parameters.length) (hstack : g.stack = argsL.reverse ++ rest) {W : Nat} (hW : 2 * g.monitorRoom + (rest.map fun v => v.category).sum ≤ W)
    (hd : decode c.code g.pc = .ok (.invokestatic index, 3)) (hf : rm.frames + 1 ≤ R.frames) (hl : W + (maxL + 11) + rm.locals ≤ R.locals) (hc : cells + rm.cells ≤ R.cells) (hs : slots + rm.slots ≤ R.slots) :
    ∃ v T' L, Stand p l e R s m args below meth c T' (locs ++ L) (cells + rm.cells) (slots + rm.slots) ∧ Q' v T'.heap L ∧ ∀ target, Steps p.tables e below (T'.setTop { g with pc := g.pc + 3, stack := v.toList ++ rest }) target → Steps p.tables e below (T.setTop g) target := by
  obtain ⟨v, _, ⟨T1, L1, k1, n1⟩, -, X1, ⟨Lc, hQ, l1, y1, z1⟩, st⟩ := Jvm.LawKit.callS X hx (y := y) hown (mvT hZ w1) (mvT hZ w2) (mvT hZ w3) (mvT hZ w4) hy (backOf (W := W) hM hZ w4 w3 hf hl) hg hsize hlen hstack hW hd (fun _ _ => ⟨rfl, eT, hc, hs⟩)
  dsimp only [Pt.U, Pt.locs, Pt.cells, Pt.slots] at X1 l1 y1 z1 st hQ
  subst l1 y1 z1
  exact ⟨v, T1, Lc, X1, hQ, st⟩
theorem own_callV (X : Stand p l e R s m args below meth c T locs cells slots) (hx : p.tables.exec = Jvm.exec) (hZ : Z.Warmed39 s.vm) {own C : String} {index : Nat} {y z : MethodName} {bytes : ByteArray} {maxL : Nat} {ret : Option FieldType} {rm : Room} {b : Addr} {argsL rest : List Value} {Q' : Option Value → Heap → List Loc → Prop}
    (hM : own_Met l Z z bytes maxL ret [] rm (.ref b :: argsL).toArray h Q') (hown : s.vm.findClass own = some m.cls) (w1 : (Jvm.Cond.methodLink own index y).before a0 Z = true) (w2 : (Jvm.Cond.declares y).before a0 Z = true) (nf : NotFace s y) (w3 : (Jvm.Cond.selects C y z).before a0 Z = true) (w5 : (Jvm.Cond.instanceMethod z).before a0 Z = true)
    (w6 : (Jvm.Cond.initialized z.cls).before a0 Z = true) (w4 : (Jvm.Cond.code z bytes maxL ret).before a0 Z = true)
    (hy : y.cls ≠ "java/lang/invoke/MethodHandle" ∧ y.cls ≠ "java/lang/invoke/VarHandle") (eT : T.heap = h) (E : Exa Z h b C) {g : JFrame} (hg : g.method = m) (hsize : g.locals.size = c.maxLocals) (hlen : ∀ sig, parseMethodDescriptor y.desc = some sig → argsL.length = sig.parameters.length) (hstack : g.stack = argsL.reverse ++ .ref b :: rest) {W : Nat} (hW : 2 * g.monitorRoom + (rest.map fun v => v.category).sum ≤ W)
    (hd : decode c.code g.pc = .ok (.invokevirtual index, 3)) (hf : rm.frames + 1 ≤ R.frames) (hl : W + (maxL + 11) + rm.locals ≤ R.locals) (hc : cells + rm.cells ≤ R.cells) (hs : slots + rm.slots ≤ R.slots) :
    ∃ v T' L, Stand p l e R s m args below meth c T' (locs ++ L) (cells + rm.cells) (slots + rm.slots) ∧ Q' v T'.heap L ∧ ∀ target, Steps p.tables e below (T'.setTop { g with pc := g.pc + 3, stack := v.toList ++ rest }) target → Steps p.tables e below (T.setTop g) target := by
  obtain ⟨cq, kq, qa, qb, qc⟩ := isOf hZ eT E
  obtain ⟨v, _, ⟨T1, L1, k1, n1⟩, -, X1, ⟨Lc, hQ, l1, y1, z1⟩, st⟩ := X.virtualBack hx (y := y) (z := z) hown (mvT hZ w1) (mvT hZ w2) nf (mvT hZ w3) (mvT hZ w5) hy (backOf (W := W) hM hZ w4 w6 hf hl) qa qc hg hsize (Steps.refl _) hlen hstack hW hd (fun _ _ => ⟨rfl, eT, hc, hs⟩)
  dsimp only [Pt.U, Pt.locs, Pt.cells, Pt.slots] at X1 l1 y1 z1 st hQ
  subst l1 y1 z1
  exact ⟨v, T1, Lc, X1, hQ, fun _ k => st.trans k⟩
theorem own_callU (X : Stand p l e R s m args below meth c T locs cells slots) (hx : p.tables.exec = Jvm.exec) (hZ : Z.Warmed39 s.vm) {own C owner : String} {index : Nat} {y z : MethodName} {bytes : ByteArray} {maxL : Nat} {ret : Option FieldType} {rm : Room} {b : Addr} {argsL rest : List Value} {Q' : Option Value → Heap → List Loc → Prop}
    (hM : own_Met l Z z bytes maxL ret [] rm (.ref b :: argsL).toArray h Q') (hown : s.vm.findClass own = some m.cls) (w1 : (Jvm.Cond.methodLink own index y).before a0 Z = true) (w2 : (Jvm.Cond.sameMethod y.cls owner y.name y.desc).before a0 Z = true) (w7 : (Jvm.Cond.declares ⟨owner, y.name, y.desc⟩).before a0 Z = true) (w3 : (Jvm.Cond.selects C y z).before a0 Z = true) (w5 : (Jvm.Cond.instanceMethod z).before a0 Z = true)
    (w6 : (Jvm.Cond.initialized z.cls).before a0 Z = true) (w4 : (Jvm.Cond.code z bytes maxL ret).before a0 Z = true)
    (hy : owner ≠ "java/lang/invoke/MethodHandle" ∧ owner ≠ "java/lang/invoke/VarHandle") (eT : T.heap = h) (E : Exa Z h b C) {g : JFrame} (hg : g.method = m) (hsize : g.locals.size = c.maxLocals) (hlen : ∀ sig, parseMethodDescriptor y.desc = some sig → argsL.length = sig.parameters.length) (hstack : g.stack = argsL.reverse ++ .ref b :: rest) {W : Nat} (hW : 2 * g.monitorRoom + (rest.map fun v => v.category).sum ≤ W)
    (hd : decode c.code g.pc = .ok (.invokevirtual index, 3)) (hf : rm.frames + 1 ≤ R.frames) (hl : W + (maxL + 11) + rm.locals ≤ R.locals) (hc : cells + rm.cells ≤ R.cells) (hs : slots + rm.slots ≤ R.slots) :
    ∃ v T' L, Stand p l e R s m args below meth c T' (locs ++ L) (cells + rm.cells) (slots + rm.slots) ∧ Q' v T'.heap L ∧ ∀ target, Steps p.tables e below (T'.setTop { g with pc := g.pc + 3, stack := v.toList ++ rest }) target → Steps p.tables e below (T.setTop g) target := by
  obtain ⟨cq, kq, qa, qb, qc⟩ := isOf hZ eT E
  obtain ⟨v, _, ⟨T1, L1, k1, n1⟩, -, X1, ⟨Lc, hQ, l1, y1, z1⟩, st⟩ := X.virtualBackUp hx (x := y) (y := z) hown (mvT hZ w1) (mvT hZ w2) (mvT hZ w7) hy (mvT hZ w3) (mvT hZ w5) (backOf (W := W) hM hZ w4 w6 hf hl) qa qc hg hsize (Steps.refl _) hlen hstack hW hd (fun _ _ => ⟨rfl, eT, hc, hs⟩)
  dsimp only [Pt.U, Pt.locs, Pt.cells, Pt.slots] at X1 l1 y1 z1 st hQ
  subst l1 y1 z1
  exact ⟨v, T1, Lc, X1, hQ, fun _ k => st.trans k⟩
theorem own_callN (X : Stand p l e R s m args below meth c T locs cells slots) (hx : p.tables.exec = Jvm.exec) (hZ : Z.Warmed39 s.vm) {own : String} {index : Nat} {y : MethodName} {bytes : ByteArray} {maxL : Nat} {rm : Room} {b : Addr} {argsL rest : List Value} {Q' : Option Value → Heap → List Loc → Prop}
    (hM : own_Met l Z y bytes maxL none [] rm (.ref b :: argsL).toArray h Q') (hi : y.name = "<init>") (hown : s.vm.findClass own = some m.cls) (w1 : (Jvm.Cond.methodLink own index y).before a0 Z = true) (w2 : (Jvm.Cond.instanceMethod y).before a0 Z = true)
    (w3 : (Jvm.Cond.initialized y.cls).before a0 Z = true) (w4 : (Jvm.Cond.code y bytes maxL none).before a0 Z = true)
    (hy : y.cls ≠ "java/lang/invoke/MethodHandle" ∧ y.cls ≠ "java/lang/invoke/VarHandle") (eT : T.heap = h) {g : JFrame} (hg : g.method = m) (hsize : g.locals.size = c.maxLocals) (hlen : ∀ sig, parseMethodDescriptor y.desc = some sig → argsL.length = sig.parameters.length) (hstack : g.stack = argsL.reverse ++ .ref b :: rest) {W : Nat} (hW : 2 * g.monitorRoom + (rest.map fun v => v.category).sum ≤ W)
    (hd : decode c.code g.pc = .ok (.invokespecial index, 3)) (hf : rm.frames + 1 ≤ R.frames) (hl : W + (maxL + 11) + rm.locals ≤ R.locals) (hc : cells + rm.cells ≤ R.cells) (hs : slots + rm.slots ≤ R.slots) :
    ∃ v T' L, Stand p l e R s m args below meth c T' (locs ++ L) (cells + rm.cells) (slots + rm.slots) ∧ Q' v T'.heap L ∧ ∀ target, Steps p.tables e below (T'.setTop { g with pc := g.pc + 3, stack := v.toList ++ rest }) target → Steps p.tables e below (T.setTop g) target := by
  obtain ⟨v, _, ⟨T1, L1, k1, n1⟩, -, X1, ⟨Lc, hQ, l1, y1, z1⟩, st⟩ := X.specialBack hx (y := y) hi hown (mvT hZ w1) (mvT hZ w2) (mvT hZ w4) hy (backOf (W := W) hM hZ w4 w3 hf hl) hg hsize (Steps.refl _) hlen hstack hW hd (fun _ _ => ⟨rfl, eT, hc, hs⟩)
  dsimp only [Pt.U, Pt.locs, Pt.cells, Pt.slots] at X1 l1 y1 z1 st hQ
  subst l1 y1 z1
  exact ⟨v, T1, Lc, X1, hQ, fun _ k => st.trans k⟩
/-- a reference laid into an array that the walk has made -/
theorem own_put (X : Stand p l e R s m args below meth c T locs cells slots) (hx : p.tables.exec = Jvm.exec) (hZ : Z.Warmed39 s.vm) (eT : T.heap = h) {a : Addr} {k : ClassId} {C : String} {z : Int32} {vs : List Value} {dv : Value} (V : Arv Z h a k (.object C) z vs dv) (O : Ovr Z k C) {y : Addr} (I : Ins Z h y C true) {j : Int32} (hj : ¬ j < 0 ∧ j < z) (i : Nat) (hi : j.toNatClampNeg = i) (hl : i < vs.length)
    {g : JFrame} (hg : g.method = m) {rest : List Value} (hs : g.stack = .ref y :: .int j :: .ref a :: rest) (hd : decode c.code g.pc = .ok (.aastore, 1)) :
    ∃ T' h', Stand p l e R s m args below meth c T' (locs ++ [⟨a, j.toNatClampNeg⟩]) cells slots ∧ T'.heap = h' ∧ Wr h h' a j.toNatClampNeg (.ref y) ∧ Arv Z h' a k (.object C) z (vs.set i (.ref y)) dv ∧ ∀ target, Steps p.tables e below (T'.setTop { g with pc := g.pc + 1, stack := rest }) target → Steps p.tables e below (T.setTop g) target := by
  obtain ⟨cl, A, q1, S, q3, H, G⟩ := V
  obtain ⟨T', h', X', e', W, st⟩ := stR X hx hZ eT A (j := j) (inb_of S hj) rfl (Sto.ofV A q1 O I) hg hs hd
  exact ⟨T', h', X', e', W, Arv.set A q1 S q3 H G rfl W i hi hl, st⟩
theorem own_get (X : Stand p l e R s m args below meth c T locs cells slots) (hx : p.tables.exec = Jvm.exec) (hZ : Z.Warmed39 s.vm) (eT : T.heap = h) {a : Addr} {k : ClassId} {ty : FieldType} {z : Int32} {vs : List Value} {dv : Value} (V : Arv Z h a k ty z vs dv) (hty : ty.isReference = true) {j : Int32} (hj : ¬ j < 0 ∧ j < z) {v : Value} (hv : vs.getD j.toNatClampNeg dv = v)
    {g : JFrame} (hg : g.method = m) {rest : List Value} (hs : g.stack = .int j :: .ref a :: rest) (hd : decode c.code g.pc = .ok (.aaload, 1)) :
    ∀ target, Steps p.tables e below (T.setTop { g with pc := g.pc + 1, stack := v :: rest }) target → Steps p.tables e below (T.setTop g) target := by
  obtain ⟨cl, A, q1, S, q3, H, G⟩ := V
  intro target k
  exact X.aaload hx (by rw [eT]; exact A.1) (State.isArrayOf_alike hZ.alike A.2.1) hty A.2.2 (inb_of S hj) (H.at (inb_of S hj) hv) hg hs hd target k
/-- an array of references of a written length, made -/
theorem own_arr (X : Stand p l e R s m args below meth c T locs cells slots) (hx : p.tables.exec = Jvm.exec) (hZ : Z.Warmed39 s.vm) {own C : String} {index : Nat} (hown : s.vm.findClass own = some m.cls) (w1 : (Jvm.Cond.classLink own index C).before a0 Z = true) (w2 : (Jvm.Cond.arrayOver (.object C)).before a0 Z = true) (eT : T.heap = h)
    {g : JFrame} (hg : g.method = m) (hd : decode c.code g.pc = .ok (.anewarray index, 3)) {n : Int32} {rest : List Value} (hs : g.stack = .int n :: rest) (hn : ¬ n < 0) {cap : Nat} (hcap : n.toNatClampNeg ≤ cap) (hb : cap * 8 ≤ 536870912) (hc : cells + 1 ≤ R.cells) (hl : slots + cap ≤ R.slots) :
    ∃ T' h' k a, Stand p l e R s m args below meth c T' locs (cells + 1) (slots + cap) ∧ T'.heap = h' ∧ a = h.size ∧ Ext h h' ∧ Arv Z h' a k (.object C) n (List.replicate cap .null) .null ∧ Ovr Z k C ∧
      ∀ target, Steps p.tables e below (T'.setTop { g with pc := g.pc + 3, stack := .ref a :: rest }) target → Steps p.tables e below (T.setTop g) target := by
  obtain ⟨T', h', k, X', e', E, A, O, st⟩ := newR X hx hZ hown w1 w2 eT hg hd hs hn hcap hb hc hl
  exact ⟨T', h', k, _, X', e', rfl, E, (Arv.new A hn).pad (pad_rep [] .null cap), O, st⟩
theorem own_len (X : Stand p l e R s m args below meth c T locs cells slots) (hx : p.tables.exec = Jvm.exec) (hZ : Z.Warmed39 s.vm) (eT : T.heap = h) {a : Addr} {k : ClassId} {ty : FieldType} {z : Int32} {vs : List Value} {dv : Value} (V : Arv Z h a k ty z vs dv)
    {g : JFrame} (hg : g.method = m) {rest : List Value} (hs : g.stack = .ref a :: rest) (hd : decode c.code g.pc = .ok (.arraylength, 1)) :
    ∀ target, Steps p.tables e below (T.setTop { g with pc := g.pc + 1, stack := .int z :: rest }) target → Steps p.tables e below (T.setTop g) target := by
  obtain ⟨cl, A, q1, S, q3, H, G⟩ := V
  intro target k
  refine X.arraylength hx (by rw [eT]; exact A.1) (State.isArrayOf_alike hZ.alike A.2.1) hg hs hd _ ?_
  rw [len_of S q3]
  exact k
theorem own_osz {n0 : Nat} (O : Old Z n0 h) : n0 ≤ h.size := by have := O.2.1; rw [O.1] at this; exact this
theorem own_fldI {t : Term} {C n d : String} {k : Int32} {a : Addr} (ev : t.eval args Z none [] Z = some (.ref a)) (hh : (Jvm.Cond.eq (Term.field t C n d) (Term.int k)).value args Z none Z [] = some true) : Fld Z Z.heap a C n d (.int k) := by
  refine Fld.start ?_
  rw [← fld_at (t := t) (args := args) (first := Z) (o := none) (idx := []) ev]
  cases hq : (Term.field t C n d).eval args Z none [] Z with
  | none => simp [Cond.value, hq] at hh
  | some v =>
    simp only [Cond.value, hq, Term.int_eval] at hh
    cases v <;> simp at hh ⊢ <;> exact hh
theorem own_fldJ {t : Term} {C n d : String} {k : Int64} {a : Addr} (ev : t.eval args Z none [] Z = some (.ref a)) (hh : (Jvm.Cond.eq (Term.field t C n d) (Term.long k)).value args Z none Z [] = some true) : Fld Z Z.heap a C n d (.long k) := by
  refine Fld.start ?_
  rw [← fld_at (t := t) (args := args) (first := Z) (o := none) (idx := []) ev]
  cases hq : (Term.field t C n d).eval args Z none [] Z with
  | none => simp [Cond.value, hq] at hh
  | some v =>
    have hk : (Term.long k).eval args Z none [] Z = some (.long k) := rfl
    simp only [Cond.value, hq, hk] at hh
    cases v <;> simp at hh ⊢ <;> exact hh
theorem own_fldN {t : Term} {C n d : String} {a : Addr} (ev : t.eval args Z none [] Z = some (.ref a)) (hh : (Jvm.Cond.eq (Term.field t C n d) Term.null).value args Z none Z [] = some true) : Fld Z Z.heap a C n d .null := by
  refine Fld.start ?_
  rw [← fld_at (t := t) (args := args) (first := Z) (o := none) (idx := []) ev]
  exact null_v hh
theorem own_fldR {t u : Term} {C n d : String} {a b : Addr} (ev : t.eval args Z none [] Z = some (.ref a)) (eu : u.eval args Z none [] Z = some (.ref b)) (hh : (Jvm.Cond.eq (Term.field t C n d) u).value args Z none Z [] = some true) : Fld Z Z.heap a C n d (.ref b) := by
  refine Fld.start ?_
  rw [← fld_at (t := t) (args := args) (first := Z) (o := none) (idx := []) ev]
  cases hq : (Term.field t C n d).eval args Z none [] Z with
  | none => simp [Cond.value, hq] at hh
  | some v => cases v <;> simp [Cond.value, hq, eu] at hh ⊢ <;> exact hh
theorem own_fldX {t : Term} {C n d K : String} {a : Addr} (ev : t.eval args Z none [] Z = some (.ref a)) (hh : (Jvm.Cond.exactly (Term.field t C n d) K).value args Z none Z [] = some true) : ∃ b, Fld Z Z.heap a C n d (.ref b) ∧ Exa Z Z.heap b K := by
  obtain ⟨b, hb⟩ := exa_v hh
  refine ⟨b, Fld.start ?_, Exa.start hb hh⟩
  rw [← fld_at (t := t) (args := args) (first := Z) (o := none) (idx := []) ev]
  exact hb
theorem own_ne {h : Heap} {a b : Addr} {C n d : String} {i j : Int32} (F : Fld Z h a C n d (.int i)) (G : Fld Z h b C n d (.int j)) (q : i ≠ j) : a ≠ b := F.ne G fun r => q (Value.int.inj r)
end OwnKit
def own_S (Z : State) (c_INPUT c_OUTPUT c_ENV_INIT c_SYS_INIT c_ENV_TRANS c_SYS_TRANS c_ENV_LIVENESS c_SYS_LIVENESS : Addr) : Prop := (Sta Z Z.heap "com/example/bridgr/bridgr/spec/Section" "INPUT" "Lcom/example/bridgr/bridgr/spec/Section;" (.ref c_INPUT)) ∧
  (Exa Z Z.heap c_INPUT "com/example/bridgr/bridgr/spec/Section") ∧
  (Sta Z Z.heap "com/example/bridgr/bridgr/spec/Section" "OUTPUT" "Lcom/example/bridgr/bridgr/spec/Section;" (.ref c_OUTPUT)) ∧
  (Exa Z Z.heap c_OUTPUT "com/example/bridgr/bridgr/spec/Section") ∧
  (Sta Z Z.heap "com/example/bridgr/bridgr/spec/Section" "ENV_INIT" "Lcom/example/bridgr/bridgr/spec/Section;" (.ref c_ENV_INIT)) ∧
  (Exa Z Z.heap c_ENV_INIT "com/example/bridgr/bridgr/spec/Section") ∧
  (Sta Z Z.heap "com/example/bridgr/bridgr/spec/Section" "SYS_INIT" "Lcom/example/bridgr/bridgr/spec/Section;" (.ref c_SYS_INIT)) ∧
  (Exa Z Z.heap c_SYS_INIT "com/example/bridgr/bridgr/spec/Section") ∧
  (Sta Z Z.heap "com/example/bridgr/bridgr/spec/Section" "ENV_TRANS" "Lcom/example/bridgr/bridgr/spec/Section;" (.ref c_ENV_TRANS)) ∧
  (Exa Z Z.heap c_ENV_TRANS "com/example/bridgr/bridgr/spec/Section") ∧
  (Sta Z Z.heap "com/example/bridgr/bridgr/spec/Section" "SYS_TRANS" "Lcom/example/bridgr/bridgr/spec/Section;" (.ref c_SYS_TRANS)) ∧
  (Exa Z Z.heap c_SYS_TRANS "com/example/bridgr/bridgr/spec/Section") ∧
  (Sta Z Z.heap "com/example/bridgr/bridgr/spec/Section" "ENV_LIVENESS" "Lcom/example/bridgr/bridgr/spec/Section;" (.ref c_ENV_LIVENESS)) ∧
  (Exa Z Z.heap c_ENV_LIVENESS "com/example/bridgr/bridgr/spec/Section") ∧
  (Sta Z Z.heap "com/example/bridgr/bridgr/spec/Section" "SYS_LIVENESS" "Lcom/example/bridgr/bridgr/spec/Section;" (.ref c_SYS_LIVENESS)) ∧
  (Exa Z Z.heap c_SYS_LIVENESS "com/example/bridgr/bridgr/spec/Section") ∧
  (Fld Z Z.heap c_INPUT "java/lang/Enum" "ordinal" "I" (.int (0 : Int32))) ∧
  (Fld Z Z.heap c_SYS_INIT "java/lang/Enum" "ordinal" "I" (.int (3 : Int32))) ∧
  (Fld Z Z.heap c_OUTPUT "java/lang/Enum" "ordinal" "I" (.int (1 : Int32))) ∧
  (Fld Z Z.heap c_ENV_LIVENESS "java/lang/Enum" "ordinal" "I" (.int (6 : Int32))) ∧
  (Fld Z Z.heap c_SYS_LIVENESS "java/lang/Enum" "ordinal" "I" (.int (7 : Int32))) ∧
  (Fld Z Z.heap c_ENV_INIT "java/lang/Enum" "ordinal" "I" (.int (2 : Int32))) ∧
  (Fld Z Z.heap c_ENV_TRANS "java/lang/Enum" "ordinal" "I" (.int (4 : Int32))) ∧
  (Fld Z Z.heap c_SYS_TRANS "java/lang/Enum" "ordinal" "I" (.int (5 : Int32)))
theorem own_rem (k : Int32) : (k &&& (7 : Int32)) = (0 : Int32) ∨ (k &&& (7 : Int32)) = (1 : Int32) ∨ (k &&& (7 : Int32)) = (2 : Int32) ∨ (k &&& (7 : Int32)) = (3 : Int32) ∨ (k &&& (7 : Int32)) = (4 : Int32) ∨ (k &&& (7 : Int32)) = (5 : Int32) ∨ (k &&& (7 : Int32)) = (6 : Int32) ∨ (k &&& (7 : Int32)) = (7 : Int32) := by
  have h1 := c_and k 7 (by decide)
  have h0 : (7 : Int32).toInt = 7 := by decide
  rw [h0] at h1
  have h3 : (k &&& (7 : Int32)).toInt = 0 ∨ (k &&& (7 : Int32)).toInt = 1 ∨ (k &&& (7 : Int32)).toInt = 2 ∨ (k &&& (7 : Int32)).toInt = 3 ∨ (k &&& (7 : Int32)).toInt = 4 ∨ (k &&& (7 : Int32)).toInt = 5 ∨ (k &&& (7 : Int32)).toInt = 6 ∨ (k &&& (7 : Int32)).toInt = 7 := by omega
  rcases h3 with q | q | q | q | q | q | q | q
  · exact Or.inl (Int32.toInt_inj.mp (q.trans rfl))
  · exact Or.inr (Or.inl (Int32.toInt_inj.mp (q.trans rfl)))
  · exact Or.inr (Or.inr (Or.inl (Int32.toInt_inj.mp (q.trans rfl))))
  · exact Or.inr (Or.inr (Or.inr (Or.inl (Int32.toInt_inj.mp (q.trans rfl)))))
  · exact Or.inr (Or.inr (Or.inr (Or.inr (Or.inl (Int32.toInt_inj.mp (q.trans rfl))))))
  · exact Or.inr (Or.inr (Or.inr (Or.inr (Or.inr (Or.inl (Int32.toInt_inj.mp (q.trans rfl)))))))
  · exact Or.inr (Or.inr (Or.inr (Or.inr (Or.inr (Or.inr (Or.inl (Int32.toInt_inj.mp (q.trans rfl))))))))
  · exact Or.inr (Or.inr (Or.inr (Or.inr (Or.inr (Or.inr (Or.inr (Int32.toInt_inj.mp (q.trans rfl))))))))
theorem d3_0 : decode jdk_37_method_2_code 0 = .ok (.aload_n 0, 1) := by decide +kernel
theorem d3_1 : decode jdk_37_method_2_code 1 = .ok (.getfield 7, 3) := by decide +kernel
theorem d3_4 : decode jdk_37_method_2_code 4 = .ok (.ireturn, 1) := by decide +kernel
theorem own_pn_3 : plainFor (⟨"java/lang/Enum", "ordinal", "()I"⟩ : MethodName) = true := plainFor_of_name (show plainName "java/lang/Enum" = true by first | (simp [plainName, overriddenIn]; done) | decide +kernel)
theorem own_ef_rm_ord (m : MethodId) (a1 : Addr) : entryFrame m #[(.ref a1)] 1 = mkF m 0 #[.val (.ref a1)] [] := by first | (simp [entryFrame, mkF, argsToLocals, Value.category]; done) | rfl
set_option maxRecDepth 65536 in
set_option maxHeartbeats 40000000 in
theorem rm_ord (l : Launch) (Z : State) (a0 : Array Value) (hw : ∀ d ∈ tables_1, d.before a0 Z = true) (a1 : Addr) (z1 : Int32) (h0 : Heap) (n0 : Nat) (O0 : Old Z n0 h0) (F1 : Fld Z h0 a1 "java/lang/Enum" "ordinal" "I" (.int z1)) :
    own_Met l Z (⟨"java/lang/Enum", "ordinal", "()I"⟩ : MethodName) jdk_37_method_2_code 1 (some .int) [] ({ frames := 0, cells := 0, slots := 0, locals := 0 } : Room) #[(.ref a1)] h0 (fun v h L => v = some (.int z1) ∧ Fr n0 L ∧ h = h0) := by
  refine own_body own_pn_3 ?_
  intro p e s m below meth c s₁ hx hby hml hown hnm hret hlk X0 hZ e0
  replace hown : s.vm.findClass "java/lang/Enum" = some m.cls := hown
  have N0 := Fr.nil n0
  have K0 := Keep.refl h0 []
  refine own_st (fun _ k => castTop (own_ef_rm_ord m a1) k) ?_
  show own_go _ _ _ _ _ _ _ (s₁.setTop (mkF m 0 #[.val (.ref a1)] []))
  refine own_st (fun _ k => XS.aloadN X0.here hx rfl (hb hby d3_0) rfl rfl k) ?_
  show own_go _ _ _ _ _ _ _ (s₁.setTop (mkF m 1 #[.val (.ref a1)] [(.ref a1)]))
  obtain ⟨T1, X1, e1, st1⟩ := getF X0 hx hZ hown (host := "") (Or.inl (hw _ (List.mem_of_getElem? (i := 39) rfl))) Via.refl e0 F1 (g := (mkF m 1 #[.val (.ref a1)] [(.ref a1)])) rfl rfl (hb hby d3_1)
  refine own_st st1 ?_
  show own_go _ _ _ _ _ _ _ (T1.setTop (mkF m 4 #[.val (.ref a1)] [(.int z1)]))
  exact own_retI X1 hx hlk hret (hb hby d3_4) (by decide) (by decide) (⟨rfl, N0, e1⟩)
theorem d1_0 : decode prog_19_method_6_code 0 = .ok (.aload_n 0, 1) := by decide +kernel
theorem d1_1 : decode prog_19_method_6_code 1 = .ok (.getstatic 3, 3) := by decide +kernel
theorem d1_4 : decode prog_19_method_6_code 4 = .ok (.if_acmp .eq 10, 3) := by decide +kernel
theorem d1_14 : decode prog_19_method_6_code 14 = .ok (.iconst 1, 1) := by decide +kernel
theorem d1_15 : decode prog_19_method_6_code 15 = .ok (.goto 4, 3) := by decide +kernel
theorem d1_19 : decode prog_19_method_6_code 19 = .ok (.ireturn, 1) := by decide +kernel
theorem own_pn_1 : plainFor (⟨"com/example/bridgr/bridgr/spec/Section", "declaresVariables", "()Z"⟩ : MethodName) = true := plainFor_of_name (show plainName "com/example/bridgr/bridgr/spec/Section" = true by first | (simp [plainName, overriddenIn]; done) | decide +kernel)
theorem own_ef_rm1_0 (m : MethodId) (c_INPUT : Addr) : entryFrame m #[(.ref c_INPUT)] 1 = mkF m 0 #[.val (.ref c_INPUT)] [] := by first | (simp [entryFrame, mkF, argsToLocals, Value.category]; done) | rfl
set_option maxRecDepth 65536 in
set_option maxHeartbeats 40000000 in
theorem rm1_0 (l : Launch) (Z : State) (a0 : Array Value) (hw : ∀ d ∈ tables_1, d.before a0 Z = true) (c_INPUT c_OUTPUT c_ENV_INIT c_SYS_INIT c_ENV_TRANS c_SYS_TRANS c_ENV_LIVENESS c_SYS_LIVENESS : Addr) (h0 : Heap) (n0 : Nat) (O0 : Old Z n0 h0) (hS : own_S Z c_INPUT c_OUTPUT c_ENV_INIT c_SYS_INIT c_ENV_TRANS c_SYS_TRANS c_ENV_LIVENESS c_SYS_LIVENESS) :
    own_Met l Z (⟨"com/example/bridgr/bridgr/spec/Section", "declaresVariables", "()Z"⟩ : MethodName) prog_19_method_6_code 1 (some .boolean) [] ({ frames := 0, cells := 0, slots := 0, locals := 0 } : Room) #[(.ref c_INPUT)] h0 (fun v h L => v = some (.int (1 : Int32)) ∧ Fr n0 L ∧ h = h0) := by
  refine own_body own_pn_1 ?_
  intro p e s m below meth c s₁ hx hby hml hown hnm hret hlk X0 hZ e0
  replace hown : s.vm.findClass "com/example/bridgr/bridgr/spec/Section" = some m.cls := hown
  have N0 := Fr.nil n0
  have K0 := Keep.refl h0 []
  refine own_st (fun _ k => castTop (own_ef_rm1_0 m c_INPUT) k) ?_
  show own_go _ _ _ _ _ _ _ (s₁.setTop (mkF m 0 #[.val (.ref c_INPUT)] []))
  refine own_st (fun _ k => XS.aloadN X0.here hx rfl (hb hby d1_0) rfl rfl k) ?_
  show own_go _ _ _ _ _ _ _ (s₁.setTop (mkF m 1 #[.val (.ref c_INPUT)] [(.ref c_INPUT)]))
  obtain ⟨T2, X2, e2, st2⟩ := getS2 X0 hx hZ hown (host := "") (Or.inl (hw _ (List.mem_of_getElem? (i := 25) rfl))) Via.refl e0 (hS.1.ext O0.2) (g := (mkF m 1 #[.val (.ref c_INPUT)] [(.ref c_INPUT)])) rfl (hb hby d1_1)
  refine own_st st2 ?_
  show own_go _ _ _ _ _ _ _ (T2.setTop (mkF m 4 #[.val (.ref c_INPUT)] [(.ref c_INPUT), (.ref c_INPUT)]))
  refine own_st (fun _ k => Jvm.RoadKit.acmp (g := (mkF m 4 #[.val (.ref c_INPUT)] [(.ref c_INPUT), (.ref c_INPUT)])) X2 hx rfl rfl rfl (pc0 := 4) (pc' := 14) (same := true) rfl (hb hby d1_4) rfl (decide_eq_true rfl) (by decide) (by decide) k) ?_
  show own_go _ _ _ _ _ _ _ (T2.setTop (mkF m 14 #[.val (.ref c_INPUT)] []))
  refine own_st (fun _ k => XS.iconst X2.here hx rfl (hb hby d1_14) k) ?_
  show own_go _ _ _ _ _ _ _ (T2.setTop (mkF m 15 #[.val (.ref c_INPUT)] [(.int (1 : Int32))]))
  refine own_st (fun _ k => XS.goto X2.here hx rfl (pc0 := 15) (pc' := 19) rfl (hb hby d1_15) (by decide) (by decide) k) ?_
  show own_go _ _ _ _ _ _ _ (T2.setTop (mkF m 19 #[.val (.ref c_INPUT)] [(.int (1 : Int32))]))
  exact own_retN X2 hx hlk (t := .boolean) hret (by simp) rfl (hb hby d1_19) (by decide) (by decide) (⟨rfl, N0, e2⟩)
theorem d1_7 : decode prog_19_method_6_code 7 = .ok (.aload_n 0, 1) := by decide +kernel
theorem d1_8 : decode prog_19_method_6_code 8 = .ok (.getstatic 7, 3) := by decide +kernel
theorem d1_11 : decode prog_19_method_6_code 11 = .ok (.if_acmp .ne 7, 3) := by decide +kernel
theorem own_ef_rm1_1 (m : MethodId) (c_OUTPUT : Addr) : entryFrame m #[(.ref c_OUTPUT)] 1 = mkF m 0 #[.val (.ref c_OUTPUT)] [] := by first | (simp [entryFrame, mkF, argsToLocals, Value.category]; done) | rfl
set_option maxRecDepth 65536 in
set_option maxHeartbeats 40000000 in
theorem rm1_1 (l : Launch) (Z : State) (a0 : Array Value) (hw : ∀ d ∈ tables_1, d.before a0 Z = true) (c_INPUT c_OUTPUT c_ENV_INIT c_SYS_INIT c_ENV_TRANS c_SYS_TRANS c_ENV_LIVENESS c_SYS_LIVENESS : Addr) (h0 : Heap) (n0 : Nat) (O0 : Old Z n0 h0) (hS : own_S Z c_INPUT c_OUTPUT c_ENV_INIT c_SYS_INIT c_ENV_TRANS c_SYS_TRANS c_ENV_LIVENESS c_SYS_LIVENESS) :
    own_Met l Z (⟨"com/example/bridgr/bridgr/spec/Section", "declaresVariables", "()Z"⟩ : MethodName) prog_19_method_6_code 1 (some .boolean) [] ({ frames := 0, cells := 0, slots := 0, locals := 0 } : Room) #[(.ref c_OUTPUT)] h0 (fun v h L => v = some (.int (1 : Int32)) ∧ Fr n0 L ∧ h = h0) := by
  refine own_body own_pn_1 ?_
  intro p e s m below meth c s₁ hx hby hml hown hnm hret hlk X0 hZ e0
  replace hown : s.vm.findClass "com/example/bridgr/bridgr/spec/Section" = some m.cls := hown
  have N0 := Fr.nil n0
  have K0 := Keep.refl h0 []
  refine own_st (fun _ k => castTop (own_ef_rm1_1 m c_OUTPUT) k) ?_
  show own_go _ _ _ _ _ _ _ (s₁.setTop (mkF m 0 #[.val (.ref c_OUTPUT)] []))
  refine own_st (fun _ k => XS.aloadN X0.here hx rfl (hb hby d1_0) rfl rfl k) ?_
  show own_go _ _ _ _ _ _ _ (s₁.setTop (mkF m 1 #[.val (.ref c_OUTPUT)] [(.ref c_OUTPUT)]))
  obtain ⟨T3, X3, e3, st3⟩ := getS2 X0 hx hZ hown (host := "") (Or.inl (hw _ (List.mem_of_getElem? (i := 25) rfl))) Via.refl e0 (hS.1.ext O0.2) (g := (mkF m 1 #[.val (.ref c_OUTPUT)] [(.ref c_OUTPUT)])) rfl (hb hby d1_1)
  refine own_st st3 ?_
  show own_go _ _ _ _ _ _ _ (T3.setTop (mkF m 4 #[.val (.ref c_OUTPUT)] [(.ref c_INPUT), (.ref c_OUTPUT)]))
  refine own_st (fun _ k => Jvm.RoadKit.acmp (g := (mkF m 4 #[.val (.ref c_OUTPUT)] [(.ref c_INPUT), (.ref c_OUTPUT)])) X3 hx rfl rfl rfl (pc0 := 4) (pc' := 7) (same := false) rfl (hb hby d1_4) rfl (decide_eq_false fun q => (own_ne hS.2.2.2.2.2.2.2.2.2.2.2.2.2.2.2.2.2.2.1 hS.2.2.2.2.2.2.2.2.2.2.2.2.2.2.2.2.1 (by decide)) (Value.ref.inj q)) (by decide) (by decide) k) ?_
  show own_go _ _ _ _ _ _ _ (T3.setTop (mkF m 7 #[.val (.ref c_OUTPUT)] []))
  refine own_st (fun _ k => XS.aloadN X3.here hx rfl (hb hby d1_7) rfl rfl k) ?_
  show own_go _ _ _ _ _ _ _ (T3.setTop (mkF m 8 #[.val (.ref c_OUTPUT)] [(.ref c_OUTPUT)]))
  obtain ⟨T4, X4, e4, st4⟩ := getS2 X3 hx hZ hown (host := "") (Or.inl (hw _ (List.mem_of_getElem? (i := 41) rfl))) Via.refl e3 (hS.2.2.1.ext O0.2) (g := (mkF m 8 #[.val (.ref c_OUTPUT)] [(.ref c_OUTPUT)])) rfl (hb hby d1_8)
  refine own_st st4 ?_
  show own_go _ _ _ _ _ _ _ (T4.setTop (mkF m 11 #[.val (.ref c_OUTPUT)] [(.ref c_OUTPUT), (.ref c_OUTPUT)]))
  refine own_st (fun _ k => Jvm.RoadKit.acmp (g := (mkF m 11 #[.val (.ref c_OUTPUT)] [(.ref c_OUTPUT), (.ref c_OUTPUT)])) X4 hx rfl rfl rfl (pc0 := 11) (pc' := 14) (same := true) rfl (hb hby d1_11) rfl (decide_eq_true rfl) (by decide) (by decide) k) ?_
  show own_go _ _ _ _ _ _ _ (T4.setTop (mkF m 14 #[.val (.ref c_OUTPUT)] []))
  refine own_st (fun _ k => XS.iconst X4.here hx rfl (hb hby d1_14) k) ?_
  show own_go _ _ _ _ _ _ _ (T4.setTop (mkF m 15 #[.val (.ref c_OUTPUT)] [(.int (1 : Int32))]))
  refine own_st (fun _ k => XS.goto X4.here hx rfl (pc0 := 15) (pc' := 19) rfl (hb hby d1_15) (by decide) (by decide) k) ?_
  show own_go _ _ _ _ _ _ _ (T4.setTop (mkF m 19 #[.val (.ref c_OUTPUT)] [(.int (1 : Int32))]))
  exact own_retN X4 hx hlk (t := .boolean) hret (by simp) rfl (hb hby d1_19) (by decide) (by decide) (⟨rfl, N0, e4⟩)
theorem d1_18 : decode prog_19_method_6_code 18 = .ok (.iconst 0, 1) := by decide +kernel
theorem own_ef_rm1_2 (m : MethodId) (c_ENV_INIT : Addr) : entryFrame m #[(.ref c_ENV_INIT)] 1 = mkF m 0 #[.val (.ref c_ENV_INIT)] [] := by first | (simp [entryFrame, mkF, argsToLocals, Value.category]; done) | rfl
set_option maxRecDepth 65536 in
set_option maxHeartbeats 40000000 in
theorem rm1_2 (l : Launch) (Z : State) (a0 : Array Value) (hw : ∀ d ∈ tables_1, d.before a0 Z = true) (c_INPUT c_OUTPUT c_ENV_INIT c_SYS_INIT c_ENV_TRANS c_SYS_TRANS c_ENV_LIVENESS c_SYS_LIVENESS : Addr) (h0 : Heap) (n0 : Nat) (O0 : Old Z n0 h0) (hS : own_S Z c_INPUT c_OUTPUT c_ENV_INIT c_SYS_INIT c_ENV_TRANS c_SYS_TRANS c_ENV_LIVENESS c_SYS_LIVENESS) :
    own_Met l Z (⟨"com/example/bridgr/bridgr/spec/Section", "declaresVariables", "()Z"⟩ : MethodName) prog_19_method_6_code 1 (some .boolean) [] ({ frames := 0, cells := 0, slots := 0, locals := 0 } : Room) #[(.ref c_ENV_INIT)] h0 (fun v h L => v = some (.int (0 : Int32)) ∧ Fr n0 L ∧ h = h0) := by
  refine own_body own_pn_1 ?_
  intro p e s m below meth c s₁ hx hby hml hown hnm hret hlk X0 hZ e0
  replace hown : s.vm.findClass "com/example/bridgr/bridgr/spec/Section" = some m.cls := hown
  have N0 := Fr.nil n0
  have K0 := Keep.refl h0 []
  refine own_st (fun _ k => castTop (own_ef_rm1_2 m c_ENV_INIT) k) ?_
  show own_go _ _ _ _ _ _ _ (s₁.setTop (mkF m 0 #[.val (.ref c_ENV_INIT)] []))
  refine own_st (fun _ k => XS.aloadN X0.here hx rfl (hb hby d1_0) rfl rfl k) ?_
  show own_go _ _ _ _ _ _ _ (s₁.setTop (mkF m 1 #[.val (.ref c_ENV_INIT)] [(.ref c_ENV_INIT)]))
  obtain ⟨T5, X5, e5, st5⟩ := getS2 X0 hx hZ hown (host := "") (Or.inl (hw _ (List.mem_of_getElem? (i := 25) rfl))) Via.refl e0 (hS.1.ext O0.2) (g := (mkF m 1 #[.val (.ref c_ENV_INIT)] [(.ref c_ENV_INIT)])) rfl (hb hby d1_1)
  refine own_st st5 ?_
  show own_go _ _ _ _ _ _ _ (T5.setTop (mkF m 4 #[.val (.ref c_ENV_INIT)] [(.ref c_INPUT), (.ref c_ENV_INIT)]))
  refine own_st (fun _ k => Jvm.RoadKit.acmp (g := (mkF m 4 #[.val (.ref c_ENV_INIT)] [(.ref c_INPUT), (.ref c_ENV_INIT)])) X5 hx rfl rfl rfl (pc0 := 4) (pc' := 7) (same := false) rfl (hb hby d1_4) rfl (decide_eq_false fun q => (own_ne hS.2.2.2.2.2.2.2.2.2.2.2.2.2.2.2.2.2.2.2.2.2.1 hS.2.2.2.2.2.2.2.2.2.2.2.2.2.2.2.2.1 (by decide)) (Value.ref.inj q)) (by decide) (by decide) k) ?_
  show own_go _ _ _ _ _ _ _ (T5.setTop (mkF m 7 #[.val (.ref c_ENV_INIT)] []))
  refine own_st (fun _ k => XS.aloadN X5.here hx rfl (hb hby d1_7) rfl rfl k) ?_
  show own_go _ _ _ _ _ _ _ (T5.setTop (mkF m 8 #[.val (.ref c_ENV_INIT)] [(.ref c_ENV_INIT)]))
  obtain ⟨T6, X6, e6, st6⟩ := getS2 X5 hx hZ hown (host := "") (Or.inl (hw _ (List.mem_of_getElem? (i := 41) rfl))) Via.refl e5 (hS.2.2.1.ext O0.2) (g := (mkF m 8 #[.val (.ref c_ENV_INIT)] [(.ref c_ENV_INIT)])) rfl (hb hby d1_8)
  refine own_st st6 ?_
  show own_go _ _ _ _ _ _ _ (T6.setTop (mkF m 11 #[.val (.ref c_ENV_INIT)] [(.ref c_OUTPUT), (.ref c_ENV_INIT)]))
  refine own_st (fun _ k => Jvm.RoadKit.acmp (g := (mkF m 11 #[.val (.ref c_ENV_INIT)] [(.ref c_OUTPUT), (.ref c_ENV_INIT)])) X6 hx rfl rfl rfl (pc0 := 11) (pc' := 18) (same := false) rfl (hb hby d1_11) rfl (decide_eq_false fun q => (own_ne hS.2.2.2.2.2.2.2.2.2.2.2.2.2.2.2.2.2.2.2.2.2.1 hS.2.2.2.2.2.2.2.2.2.2.2.2.2.2.2.2.2.2.1 (by decide)) (Value.ref.inj q)) (by decide) (by decide) k) ?_
  show own_go _ _ _ _ _ _ _ (T6.setTop (mkF m 18 #[.val (.ref c_ENV_INIT)] []))
  refine own_st (fun _ k => XS.iconst X6.here hx rfl (hb hby d1_18) k) ?_
  show own_go _ _ _ _ _ _ _ (T6.setTop (mkF m 19 #[.val (.ref c_ENV_INIT)] [(.int (0 : Int32))]))
  exact own_retN X6 hx hlk (t := .boolean) hret (by simp) rfl (hb hby d1_19) (by decide) (by decide) (⟨rfl, N0, e6⟩)
theorem own_ef_rm1_3 (m : MethodId) (c_SYS_INIT : Addr) : entryFrame m #[(.ref c_SYS_INIT)] 1 = mkF m 0 #[.val (.ref c_SYS_INIT)] [] := by first | (simp [entryFrame, mkF, argsToLocals, Value.category]; done) | rfl
set_option maxRecDepth 65536 in
set_option maxHeartbeats 40000000 in
theorem rm1_3 (l : Launch) (Z : State) (a0 : Array Value) (hw : ∀ d ∈ tables_1, d.before a0 Z = true) (c_INPUT c_OUTPUT c_ENV_INIT c_SYS_INIT c_ENV_TRANS c_SYS_TRANS c_ENV_LIVENESS c_SYS_LIVENESS : Addr) (h0 : Heap) (n0 : Nat) (O0 : Old Z n0 h0) (hS : own_S Z c_INPUT c_OUTPUT c_ENV_INIT c_SYS_INIT c_ENV_TRANS c_SYS_TRANS c_ENV_LIVENESS c_SYS_LIVENESS) :
    own_Met l Z (⟨"com/example/bridgr/bridgr/spec/Section", "declaresVariables", "()Z"⟩ : MethodName) prog_19_method_6_code 1 (some .boolean) [] ({ frames := 0, cells := 0, slots := 0, locals := 0 } : Room) #[(.ref c_SYS_INIT)] h0 (fun v h L => v = some (.int (0 : Int32)) ∧ Fr n0 L ∧ h = h0) := by
  refine own_body own_pn_1 ?_
  intro p e s m below meth c s₁ hx hby hml hown hnm hret hlk X0 hZ e0
  replace hown : s.vm.findClass "com/example/bridgr/bridgr/spec/Section" = some m.cls := hown
  have N0 := Fr.nil n0
  have K0 := Keep.refl h0 []
  refine own_st (fun _ k => castTop (own_ef_rm1_3 m c_SYS_INIT) k) ?_
  show own_go _ _ _ _ _ _ _ (s₁.setTop (mkF m 0 #[.val (.ref c_SYS_INIT)] []))
  refine own_st (fun _ k => XS.aloadN X0.here hx rfl (hb hby d1_0) rfl rfl k) ?_
  show own_go _ _ _ _ _ _ _ (s₁.setTop (mkF m 1 #[.val (.ref c_SYS_INIT)] [(.ref c_SYS_INIT)]))
  obtain ⟨T7, X7, e7, st7⟩ := getS2 X0 hx hZ hown (host := "") (Or.inl (hw _ (List.mem_of_getElem? (i := 25) rfl))) Via.refl e0 (hS.1.ext O0.2) (g := (mkF m 1 #[.val (.ref c_SYS_INIT)] [(.ref c_SYS_INIT)])) rfl (hb hby d1_1)
  refine own_st st7 ?_
  show own_go _ _ _ _ _ _ _ (T7.setTop (mkF m 4 #[.val (.ref c_SYS_INIT)] [(.ref c_INPUT), (.ref c_SYS_INIT)]))
  refine own_st (fun _ k => Jvm.RoadKit.acmp (g := (mkF m 4 #[.val (.ref c_SYS_INIT)] [(.ref c_INPUT), (.ref c_SYS_INIT)])) X7 hx rfl rfl rfl (pc0 := 4) (pc' := 7) (same := false) rfl (hb hby d1_4) rfl (decide_eq_false fun q => (own_ne hS.2.2.2.2.2.2.2.2.2.2.2.2.2.2.2.2.2.1 hS.2.2.2.2.2.2.2.2.2.2.2.2.2.2.2.2.1 (by decide)) (Value.ref.inj q)) (by decide) (by decide) k) ?_
  show own_go _ _ _ _ _ _ _ (T7.setTop (mkF m 7 #[.val (.ref c_SYS_INIT)] []))
  refine own_st (fun _ k => XS.aloadN X7.here hx rfl (hb hby d1_7) rfl rfl k) ?_
  show own_go _ _ _ _ _ _ _ (T7.setTop (mkF m 8 #[.val (.ref c_SYS_INIT)] [(.ref c_SYS_INIT)]))
  obtain ⟨T8, X8, e8, st8⟩ := getS2 X7 hx hZ hown (host := "") (Or.inl (hw _ (List.mem_of_getElem? (i := 41) rfl))) Via.refl e7 (hS.2.2.1.ext O0.2) (g := (mkF m 8 #[.val (.ref c_SYS_INIT)] [(.ref c_SYS_INIT)])) rfl (hb hby d1_8)
  refine own_st st8 ?_
  show own_go _ _ _ _ _ _ _ (T8.setTop (mkF m 11 #[.val (.ref c_SYS_INIT)] [(.ref c_OUTPUT), (.ref c_SYS_INIT)]))
  refine own_st (fun _ k => Jvm.RoadKit.acmp (g := (mkF m 11 #[.val (.ref c_SYS_INIT)] [(.ref c_OUTPUT), (.ref c_SYS_INIT)])) X8 hx rfl rfl rfl (pc0 := 11) (pc' := 18) (same := false) rfl (hb hby d1_11) rfl (decide_eq_false fun q => (own_ne hS.2.2.2.2.2.2.2.2.2.2.2.2.2.2.2.2.2.1 hS.2.2.2.2.2.2.2.2.2.2.2.2.2.2.2.2.2.2.1 (by decide)) (Value.ref.inj q)) (by decide) (by decide) k) ?_
  show own_go _ _ _ _ _ _ _ (T8.setTop (mkF m 18 #[.val (.ref c_SYS_INIT)] []))
  refine own_st (fun _ k => XS.iconst X8.here hx rfl (hb hby d1_18) k) ?_
  show own_go _ _ _ _ _ _ _ (T8.setTop (mkF m 19 #[.val (.ref c_SYS_INIT)] [(.int (0 : Int32))]))
  exact own_retN X8 hx hlk (t := .boolean) hret (by simp) rfl (hb hby d1_19) (by decide) (by decide) (⟨rfl, N0, e8⟩)
theorem own_ef_rm1_4 (m : MethodId) (c_ENV_TRANS : Addr) : entryFrame m #[(.ref c_ENV_TRANS)] 1 = mkF m 0 #[.val (.ref c_ENV_TRANS)] [] := by first | (simp [entryFrame, mkF, argsToLocals, Value.category]; done) | rfl
set_option maxRecDepth 65536 in
set_option maxHeartbeats 40000000 in
theorem rm1_4 (l : Launch) (Z : State) (a0 : Array Value) (hw : ∀ d ∈ tables_1, d.before a0 Z = true) (c_INPUT c_OUTPUT c_ENV_INIT c_SYS_INIT c_ENV_TRANS c_SYS_TRANS c_ENV_LIVENESS c_SYS_LIVENESS : Addr) (h0 : Heap) (n0 : Nat) (O0 : Old Z n0 h0) (hS : own_S Z c_INPUT c_OUTPUT c_ENV_INIT c_SYS_INIT c_ENV_TRANS c_SYS_TRANS c_ENV_LIVENESS c_SYS_LIVENESS) :
    own_Met l Z (⟨"com/example/bridgr/bridgr/spec/Section", "declaresVariables", "()Z"⟩ : MethodName) prog_19_method_6_code 1 (some .boolean) [] ({ frames := 0, cells := 0, slots := 0, locals := 0 } : Room) #[(.ref c_ENV_TRANS)] h0 (fun v h L => v = some (.int (0 : Int32)) ∧ Fr n0 L ∧ h = h0) := by
  refine own_body own_pn_1 ?_
  intro p e s m below meth c s₁ hx hby hml hown hnm hret hlk X0 hZ e0
  replace hown : s.vm.findClass "com/example/bridgr/bridgr/spec/Section" = some m.cls := hown
  have N0 := Fr.nil n0
  have K0 := Keep.refl h0 []
  refine own_st (fun _ k => castTop (own_ef_rm1_4 m c_ENV_TRANS) k) ?_
  show own_go _ _ _ _ _ _ _ (s₁.setTop (mkF m 0 #[.val (.ref c_ENV_TRANS)] []))
  refine own_st (fun _ k => XS.aloadN X0.here hx rfl (hb hby d1_0) rfl rfl k) ?_
  show own_go _ _ _ _ _ _ _ (s₁.setTop (mkF m 1 #[.val (.ref c_ENV_TRANS)] [(.ref c_ENV_TRANS)]))
  obtain ⟨T9, X9, e9, st9⟩ := getS2 X0 hx hZ hown (host := "") (Or.inl (hw _ (List.mem_of_getElem? (i := 25) rfl))) Via.refl e0 (hS.1.ext O0.2) (g := (mkF m 1 #[.val (.ref c_ENV_TRANS)] [(.ref c_ENV_TRANS)])) rfl (hb hby d1_1)
  refine own_st st9 ?_
  show own_go _ _ _ _ _ _ _ (T9.setTop (mkF m 4 #[.val (.ref c_ENV_TRANS)] [(.ref c_INPUT), (.ref c_ENV_TRANS)]))
  refine own_st (fun _ k => Jvm.RoadKit.acmp (g := (mkF m 4 #[.val (.ref c_ENV_TRANS)] [(.ref c_INPUT), (.ref c_ENV_TRANS)])) X9 hx rfl rfl rfl (pc0 := 4) (pc' := 7) (same := false) rfl (hb hby d1_4) rfl (decide_eq_false fun q => (own_ne hS.2.2.2.2.2.2.2.2.2.2.2.2.2.2.2.2.2.2.2.2.2.2.1 hS.2.2.2.2.2.2.2.2.2.2.2.2.2.2.2.2.1 (by decide)) (Value.ref.inj q)) (by decide) (by decide) k) ?_
  show own_go _ _ _ _ _ _ _ (T9.setTop (mkF m 7 #[.val (.ref c_ENV_TRANS)] []))
  refine own_st (fun _ k => XS.aloadN X9.here hx rfl (hb hby d1_7) rfl rfl k) ?_
  show own_go _ _ _ _ _ _ _ (T9.setTop (mkF m 8 #[.val (.ref c_ENV_TRANS)] [(.ref c_ENV_TRANS)]))
  obtain ⟨T10, X10, e10, st10⟩ := getS2 X9 hx hZ hown (host := "") (Or.inl (hw _ (List.mem_of_getElem? (i := 41) rfl))) Via.refl e9 (hS.2.2.1.ext O0.2) (g := (mkF m 8 #[.val (.ref c_ENV_TRANS)] [(.ref c_ENV_TRANS)])) rfl (hb hby d1_8)
  refine own_st st10 ?_
  show own_go _ _ _ _ _ _ _ (T10.setTop (mkF m 11 #[.val (.ref c_ENV_TRANS)] [(.ref c_OUTPUT), (.ref c_ENV_TRANS)]))
  refine own_st (fun _ k => Jvm.RoadKit.acmp (g := (mkF m 11 #[.val (.ref c_ENV_TRANS)] [(.ref c_OUTPUT), (.ref c_ENV_TRANS)])) X10 hx rfl rfl rfl (pc0 := 11) (pc' := 18) (same := false) rfl (hb hby d1_11) rfl (decide_eq_false fun q => (own_ne hS.2.2.2.2.2.2.2.2.2.2.2.2.2.2.2.2.2.2.2.2.2.2.1 hS.2.2.2.2.2.2.2.2.2.2.2.2.2.2.2.2.2.2.1 (by decide)) (Value.ref.inj q)) (by decide) (by decide) k) ?_
  show own_go _ _ _ _ _ _ _ (T10.setTop (mkF m 18 #[.val (.ref c_ENV_TRANS)] []))
  refine own_st (fun _ k => XS.iconst X10.here hx rfl (hb hby d1_18) k) ?_
  show own_go _ _ _ _ _ _ _ (T10.setTop (mkF m 19 #[.val (.ref c_ENV_TRANS)] [(.int (0 : Int32))]))
  exact own_retN X10 hx hlk (t := .boolean) hret (by simp) rfl (hb hby d1_19) (by decide) (by decide) (⟨rfl, N0, e10⟩)
theorem own_ef_rm1_5 (m : MethodId) (c_SYS_TRANS : Addr) : entryFrame m #[(.ref c_SYS_TRANS)] 1 = mkF m 0 #[.val (.ref c_SYS_TRANS)] [] := by first | (simp [entryFrame, mkF, argsToLocals, Value.category]; done) | rfl
set_option maxRecDepth 65536 in
set_option maxHeartbeats 40000000 in
theorem rm1_5 (l : Launch) (Z : State) (a0 : Array Value) (hw : ∀ d ∈ tables_1, d.before a0 Z = true) (c_INPUT c_OUTPUT c_ENV_INIT c_SYS_INIT c_ENV_TRANS c_SYS_TRANS c_ENV_LIVENESS c_SYS_LIVENESS : Addr) (h0 : Heap) (n0 : Nat) (O0 : Old Z n0 h0) (hS : own_S Z c_INPUT c_OUTPUT c_ENV_INIT c_SYS_INIT c_ENV_TRANS c_SYS_TRANS c_ENV_LIVENESS c_SYS_LIVENESS) :
    own_Met l Z (⟨"com/example/bridgr/bridgr/spec/Section", "declaresVariables", "()Z"⟩ : MethodName) prog_19_method_6_code 1 (some .boolean) [] ({ frames := 0, cells := 0, slots := 0, locals := 0 } : Room) #[(.ref c_SYS_TRANS)] h0 (fun v h L => v = some (.int (0 : Int32)) ∧ Fr n0 L ∧ h = h0) := by
  refine own_body own_pn_1 ?_
  intro p e s m below meth c s₁ hx hby hml hown hnm hret hlk X0 hZ e0
  replace hown : s.vm.findClass "com/example/bridgr/bridgr/spec/Section" = some m.cls := hown
  have N0 := Fr.nil n0
  have K0 := Keep.refl h0 []
  refine own_st (fun _ k => castTop (own_ef_rm1_5 m c_SYS_TRANS) k) ?_
  show own_go _ _ _ _ _ _ _ (s₁.setTop (mkF m 0 #[.val (.ref c_SYS_TRANS)] []))
  refine own_st (fun _ k => XS.aloadN X0.here hx rfl (hb hby d1_0) rfl rfl k) ?_
  show own_go _ _ _ _ _ _ _ (s₁.setTop (mkF m 1 #[.val (.ref c_SYS_TRANS)] [(.ref c_SYS_TRANS)]))
  obtain ⟨T11, X11, e11, st11⟩ := getS2 X0 hx hZ hown (host := "") (Or.inl (hw _ (List.mem_of_getElem? (i := 25) rfl))) Via.refl e0 (hS.1.ext O0.2) (g := (mkF m 1 #[.val (.ref c_SYS_TRANS)] [(.ref c_SYS_TRANS)])) rfl (hb hby d1_1)
  refine own_st st11 ?_
  show own_go _ _ _ _ _ _ _ (T11.setTop (mkF m 4 #[.val (.ref c_SYS_TRANS)] [(.ref c_INPUT), (.ref c_SYS_TRANS)]))
  refine own_st (fun _ k => Jvm.RoadKit.acmp (g := (mkF m 4 #[.val (.ref c_SYS_TRANS)] [(.ref c_INPUT), (.ref c_SYS_TRANS)])) X11 hx rfl rfl rfl (pc0 := 4) (pc' := 7) (same := false) rfl (hb hby d1_4) rfl (decide_eq_false fun q => (own_ne hS.2.2.2.2.2.2.2.2.2.2.2.2.2.2.2.2.2.2.2.2.2.2.2 hS.2.2.2.2.2.2.2.2.2.2.2.2.2.2.2.2.1 (by decide)) (Value.ref.inj q)) (by decide) (by decide) k) ?_
  show own_go _ _ _ _ _ _ _ (T11.setTop (mkF m 7 #[.val (.ref c_SYS_TRANS)] []))
  refine own_st (fun _ k => XS.aloadN X11.here hx rfl (hb hby d1_7) rfl rfl k) ?_
  show own_go _ _ _ _ _ _ _ (T11.setTop (mkF m 8 #[.val (.ref c_SYS_TRANS)] [(.ref c_SYS_TRANS)]))
  obtain ⟨T12, X12, e12, st12⟩ := getS2 X11 hx hZ hown (host := "") (Or.inl (hw _ (List.mem_of_getElem? (i := 41) rfl))) Via.refl e11 (hS.2.2.1.ext O0.2) (g := (mkF m 8 #[.val (.ref c_SYS_TRANS)] [(.ref c_SYS_TRANS)])) rfl (hb hby d1_8)
  refine own_st st12 ?_
  show own_go _ _ _ _ _ _ _ (T12.setTop (mkF m 11 #[.val (.ref c_SYS_TRANS)] [(.ref c_OUTPUT), (.ref c_SYS_TRANS)]))
  refine own_st (fun _ k => Jvm.RoadKit.acmp (g := (mkF m 11 #[.val (.ref c_SYS_TRANS)] [(.ref c_OUTPUT), (.ref c_SYS_TRANS)])) X12 hx rfl rfl rfl (pc0 := 11) (pc' := 18) (same := false) rfl (hb hby d1_11) rfl (decide_eq_false fun q => (own_ne hS.2.2.2.2.2.2.2.2.2.2.2.2.2.2.2.2.2.2.2.2.2.2.2 hS.2.2.2.2.2.2.2.2.2.2.2.2.2.2.2.2.2.2.1 (by decide)) (Value.ref.inj q)) (by decide) (by decide) k) ?_
  show own_go _ _ _ _ _ _ _ (T12.setTop (mkF m 18 #[.val (.ref c_SYS_TRANS)] []))
  refine own_st (fun _ k => XS.iconst X12.here hx rfl (hb hby d1_18) k) ?_
  show own_go _ _ _ _ _ _ _ (T12.setTop (mkF m 19 #[.val (.ref c_SYS_TRANS)] [(.int (0 : Int32))]))
  exact own_retN X12 hx hlk (t := .boolean) hret (by simp) rfl (hb hby d1_19) (by decide) (by decide) (⟨rfl, N0, e12⟩)
theorem own_ef_rm1_6 (m : MethodId) (c_ENV_LIVENESS : Addr) : entryFrame m #[(.ref c_ENV_LIVENESS)] 1 = mkF m 0 #[.val (.ref c_ENV_LIVENESS)] [] := by first | (simp [entryFrame, mkF, argsToLocals, Value.category]; done) | rfl
set_option maxRecDepth 65536 in
set_option maxHeartbeats 40000000 in
theorem rm1_6 (l : Launch) (Z : State) (a0 : Array Value) (hw : ∀ d ∈ tables_1, d.before a0 Z = true) (c_INPUT c_OUTPUT c_ENV_INIT c_SYS_INIT c_ENV_TRANS c_SYS_TRANS c_ENV_LIVENESS c_SYS_LIVENESS : Addr) (h0 : Heap) (n0 : Nat) (O0 : Old Z n0 h0) (hS : own_S Z c_INPUT c_OUTPUT c_ENV_INIT c_SYS_INIT c_ENV_TRANS c_SYS_TRANS c_ENV_LIVENESS c_SYS_LIVENESS) :
    own_Met l Z (⟨"com/example/bridgr/bridgr/spec/Section", "declaresVariables", "()Z"⟩ : MethodName) prog_19_method_6_code 1 (some .boolean) [] ({ frames := 0, cells := 0, slots := 0, locals := 0 } : Room) #[(.ref c_ENV_LIVENESS)] h0 (fun v h L => v = some (.int (0 : Int32)) ∧ Fr n0 L ∧ h = h0) := by
  refine own_body own_pn_1 ?_
  intro p e s m below meth c s₁ hx hby hml hown hnm hret hlk X0 hZ e0
  replace hown : s.vm.findClass "com/example/bridgr/bridgr/spec/Section" = some m.cls := hown
  have N0 := Fr.nil n0
  have K0 := Keep.refl h0 []
  refine own_st (fun _ k => castTop (own_ef_rm1_6 m c_ENV_LIVENESS) k) ?_
  show own_go _ _ _ _ _ _ _ (s₁.setTop (mkF m 0 #[.val (.ref c_ENV_LIVENESS)] []))
  refine own_st (fun _ k => XS.aloadN X0.here hx rfl (hb hby d1_0) rfl rfl k) ?_
  show own_go _ _ _ _ _ _ _ (s₁.setTop (mkF m 1 #[.val (.ref c_ENV_LIVENESS)] [(.ref c_ENV_LIVENESS)]))
  obtain ⟨T13, X13, e13, st13⟩ := getS2 X0 hx hZ hown (host := "") (Or.inl (hw _ (List.mem_of_getElem? (i := 25) rfl))) Via.refl e0 (hS.1.ext O0.2) (g := (mkF m 1 #[.val (.ref c_ENV_LIVENESS)] [(.ref c_ENV_LIVENESS)])) rfl (hb hby d1_1)
  refine own_st st13 ?_
  show own_go _ _ _ _ _ _ _ (T13.setTop (mkF m 4 #[.val (.ref c_ENV_LIVENESS)] [(.ref c_INPUT), (.ref c_ENV_LIVENESS)]))
  refine own_st (fun _ k => Jvm.RoadKit.acmp (g := (mkF m 4 #[.val (.ref c_ENV_LIVENESS)] [(.ref c_INPUT), (.ref c_ENV_LIVENESS)])) X13 hx rfl rfl rfl (pc0 := 4) (pc' := 7) (same := false) rfl (hb hby d1_4) rfl (decide_eq_false fun q => (own_ne hS.2.2.2.2.2.2.2.2.2.2.2.2.2.2.2.2.2.2.2.1 hS.2.2.2.2.2.2.2.2.2.2.2.2.2.2.2.2.1 (by decide)) (Value.ref.inj q)) (by decide) (by decide) k) ?_
  show own_go _ _ _ _ _ _ _ (T13.setTop (mkF m 7 #[.val (.ref c_ENV_LIVENESS)] []))
  refine own_st (fun _ k => XS.aloadN X13.here hx rfl (hb hby d1_7) rfl rfl k) ?_
  show own_go _ _ _ _ _ _ _ (T13.setTop (mkF m 8 #[.val (.ref c_ENV_LIVENESS)] [(.ref c_ENV_LIVENESS)]))
  obtain ⟨T14, X14, e14, st14⟩ := getS2 X13 hx hZ hown (host := "") (Or.inl (hw _ (List.mem_of_getElem? (i := 41) rfl))) Via.refl e13 (hS.2.2.1.ext O0.2) (g := (mkF m 8 #[.val (.ref c_ENV_LIVENESS)] [(.ref c_ENV_LIVENESS)])) rfl (hb hby d1_8)
  refine own_st st14 ?_
  show own_go _ _ _ _ _ _ _ (T14.setTop (mkF m 11 #[.val (.ref c_ENV_LIVENESS)] [(.ref c_OUTPUT), (.ref c_ENV_LIVENESS)]))
  refine own_st (fun _ k => Jvm.RoadKit.acmp (g := (mkF m 11 #[.val (.ref c_ENV_LIVENESS)] [(.ref c_OUTPUT), (.ref c_ENV_LIVENESS)])) X14 hx rfl rfl rfl (pc0 := 11) (pc' := 18) (same := false) rfl (hb hby d1_11) rfl (decide_eq_false fun q => (own_ne hS.2.2.2.2.2.2.2.2.2.2.2.2.2.2.2.2.2.2.2.1 hS.2.2.2.2.2.2.2.2.2.2.2.2.2.2.2.2.2.2.1 (by decide)) (Value.ref.inj q)) (by decide) (by decide) k) ?_
  show own_go _ _ _ _ _ _ _ (T14.setTop (mkF m 18 #[.val (.ref c_ENV_LIVENESS)] []))
  refine own_st (fun _ k => XS.iconst X14.here hx rfl (hb hby d1_18) k) ?_
  show own_go _ _ _ _ _ _ _ (T14.setTop (mkF m 19 #[.val (.ref c_ENV_LIVENESS)] [(.int (0 : Int32))]))
  exact own_retN X14 hx hlk (t := .boolean) hret (by simp) rfl (hb hby d1_19) (by decide) (by decide) (⟨rfl, N0, e14⟩)
theorem own_ef_rm1_7 (m : MethodId) (c_SYS_LIVENESS : Addr) : entryFrame m #[(.ref c_SYS_LIVENESS)] 1 = mkF m 0 #[.val (.ref c_SYS_LIVENESS)] [] := by first | (simp [entryFrame, mkF, argsToLocals, Value.category]; done) | rfl
set_option maxRecDepth 65536 in
set_option maxHeartbeats 40000000 in
theorem rm1_7 (l : Launch) (Z : State) (a0 : Array Value) (hw : ∀ d ∈ tables_1, d.before a0 Z = true) (c_INPUT c_OUTPUT c_ENV_INIT c_SYS_INIT c_ENV_TRANS c_SYS_TRANS c_ENV_LIVENESS c_SYS_LIVENESS : Addr) (h0 : Heap) (n0 : Nat) (O0 : Old Z n0 h0) (hS : own_S Z c_INPUT c_OUTPUT c_ENV_INIT c_SYS_INIT c_ENV_TRANS c_SYS_TRANS c_ENV_LIVENESS c_SYS_LIVENESS) :
    own_Met l Z (⟨"com/example/bridgr/bridgr/spec/Section", "declaresVariables", "()Z"⟩ : MethodName) prog_19_method_6_code 1 (some .boolean) [] ({ frames := 0, cells := 0, slots := 0, locals := 0 } : Room) #[(.ref c_SYS_LIVENESS)] h0 (fun v h L => v = some (.int (0 : Int32)) ∧ Fr n0 L ∧ h = h0) := by
  refine own_body own_pn_1 ?_
  intro p e s m below meth c s₁ hx hby hml hown hnm hret hlk X0 hZ e0
  replace hown : s.vm.findClass "com/example/bridgr/bridgr/spec/Section" = some m.cls := hown
  have N0 := Fr.nil n0
  have K0 := Keep.refl h0 []
  refine own_st (fun _ k => castTop (own_ef_rm1_7 m c_SYS_LIVENESS) k) ?_
  show own_go _ _ _ _ _ _ _ (s₁.setTop (mkF m 0 #[.val (.ref c_SYS_LIVENESS)] []))
  refine own_st (fun _ k => XS.aloadN X0.here hx rfl (hb hby d1_0) rfl rfl k) ?_
  show own_go _ _ _ _ _ _ _ (s₁.setTop (mkF m 1 #[.val (.ref c_SYS_LIVENESS)] [(.ref c_SYS_LIVENESS)]))
  obtain ⟨T15, X15, e15, st15⟩ := getS2 X0 hx hZ hown (host := "") (Or.inl (hw _ (List.mem_of_getElem? (i := 25) rfl))) Via.refl e0 (hS.1.ext O0.2) (g := (mkF m 1 #[.val (.ref c_SYS_LIVENESS)] [(.ref c_SYS_LIVENESS)])) rfl (hb hby d1_1)
  refine own_st st15 ?_
  show own_go _ _ _ _ _ _ _ (T15.setTop (mkF m 4 #[.val (.ref c_SYS_LIVENESS)] [(.ref c_INPUT), (.ref c_SYS_LIVENESS)]))
  refine own_st (fun _ k => Jvm.RoadKit.acmp (g := (mkF m 4 #[.val (.ref c_SYS_LIVENESS)] [(.ref c_INPUT), (.ref c_SYS_LIVENESS)])) X15 hx rfl rfl rfl (pc0 := 4) (pc' := 7) (same := false) rfl (hb hby d1_4) rfl (decide_eq_false fun q => (own_ne hS.2.2.2.2.2.2.2.2.2.2.2.2.2.2.2.2.2.2.2.2.1 hS.2.2.2.2.2.2.2.2.2.2.2.2.2.2.2.2.1 (by decide)) (Value.ref.inj q)) (by decide) (by decide) k) ?_
  show own_go _ _ _ _ _ _ _ (T15.setTop (mkF m 7 #[.val (.ref c_SYS_LIVENESS)] []))
  refine own_st (fun _ k => XS.aloadN X15.here hx rfl (hb hby d1_7) rfl rfl k) ?_
  show own_go _ _ _ _ _ _ _ (T15.setTop (mkF m 8 #[.val (.ref c_SYS_LIVENESS)] [(.ref c_SYS_LIVENESS)]))
  obtain ⟨T16, X16, e16, st16⟩ := getS2 X15 hx hZ hown (host := "") (Or.inl (hw _ (List.mem_of_getElem? (i := 41) rfl))) Via.refl e15 (hS.2.2.1.ext O0.2) (g := (mkF m 8 #[.val (.ref c_SYS_LIVENESS)] [(.ref c_SYS_LIVENESS)])) rfl (hb hby d1_8)
  refine own_st st16 ?_
  show own_go _ _ _ _ _ _ _ (T16.setTop (mkF m 11 #[.val (.ref c_SYS_LIVENESS)] [(.ref c_OUTPUT), (.ref c_SYS_LIVENESS)]))
  refine own_st (fun _ k => Jvm.RoadKit.acmp (g := (mkF m 11 #[.val (.ref c_SYS_LIVENESS)] [(.ref c_OUTPUT), (.ref c_SYS_LIVENESS)])) X16 hx rfl rfl rfl (pc0 := 11) (pc' := 18) (same := false) rfl (hb hby d1_11) rfl (decide_eq_false fun q => (own_ne hS.2.2.2.2.2.2.2.2.2.2.2.2.2.2.2.2.2.2.2.2.1 hS.2.2.2.2.2.2.2.2.2.2.2.2.2.2.2.2.2.2.1 (by decide)) (Value.ref.inj q)) (by decide) (by decide) k) ?_
  show own_go _ _ _ _ _ _ _ (T16.setTop (mkF m 18 #[.val (.ref c_SYS_LIVENESS)] []))
  refine own_st (fun _ k => XS.iconst X16.here hx rfl (hb hby d1_18) k) ?_
  show own_go _ _ _ _ _ _ _ (T16.setTop (mkF m 19 #[.val (.ref c_SYS_LIVENESS)] [(.int (0 : Int32))]))
  exact own_retN X16 hx hlk (t := .boolean) hret (by simp) rfl (hb hby d1_19) (by decide) (by decide) (⟨rfl, N0, e16⟩)
theorem d2_0 : decode prog_19_method_7_code 0 = .ok (.aload_n 1, 1) := by decide +kernel
theorem d2_1 : decode prog_19_method_7_code 1 = .ok (.invokevirtual 96, 3) := by decide +kernel
theorem d2_4 : decode prog_19_method_7_code 4 = .ok (.ifCond .ne 20, 3) := by decide +kernel
theorem d2_24 : decode prog_19_method_7_code 24 = .ok (.aload_n 0, 1) := by decide +kernel
theorem d2_25 : decode prog_19_method_7_code 25 = .ok (.invokevirtual 112, 3) := by decide +kernel
theorem d2_28 : decode prog_19_method_7_code 28 = .ok (.tableswitch 48 0 7 #[58, 58, 62, 81, 93, 112, 112, 112], 48) := by decide +kernel
theorem d2_86 : decode prog_19_method_7_code 86 = .ok (.iconst 0, 1) := by decide +kernel
theorem d2_87 : decode prog_19_method_7_code 87 = .ok (.goto 54, 3) := by decide +kernel
theorem d2_141 : decode prog_19_method_7_code 141 = .ok (.ireturn, 1) := by decide +kernel
theorem own_pn_2 : plainFor (⟨"com/example/bridgr/bridgr/spec/Section", "admits", "(Lcom/example/bridgr/bridgr/spec/Section;Z)Z"⟩ : MethodName) = true := plainFor_of_name (show plainName "com/example/bridgr/bridgr/spec/Section" = true by first | (simp [plainName, overriddenIn]; done) | decide +kernel)
theorem own_pd__28_29Z : parseMethodDescriptor "()Z" = some ⟨[], some .boolean⟩ := by decide +kernel
theorem own_pd__28_29I : parseMethodDescriptor "()I" = some ⟨[], some .int⟩ := by decide +kernel
theorem own_ef_rm2_0 (m : MethodId) (c_INPUT : Addr) (c_INPUT : Addr) : entryFrame m #[(.ref c_INPUT), (.ref c_INPUT), (.int (0 : Int32))] 3 = mkF m 0 #[.val (.ref c_INPUT), .val (.ref c_INPUT), .val (.int (0 : Int32))] [] := by first | (simp [entryFrame, mkF, argsToLocals, Value.category]; done) | rfl
set_option maxRecDepth 65536 in
set_option maxHeartbeats 40000000 in
theorem rm2_0 (l : Launch) (Z : State) (a0 : Array Value) (hw : ∀ d ∈ tables_1, d.before a0 Z = true) (c_INPUT c_OUTPUT c_ENV_INIT c_SYS_INIT c_ENV_TRANS c_SYS_TRANS c_ENV_LIVENESS c_SYS_LIVENESS : Addr) (h0 : Heap) (n0 : Nat) (O0 : Old Z n0 h0) (hS : own_S Z c_INPUT c_OUTPUT c_ENV_INIT c_SYS_INIT c_ENV_TRANS c_SYS_TRANS c_ENV_LIVENESS c_SYS_LIVENESS) :
    own_Met l Z (⟨"com/example/bridgr/bridgr/spec/Section", "admits", "(Lcom/example/bridgr/bridgr/spec/Section;Z)Z"⟩ : MethodName) prog_19_method_7_code 3 (some .boolean) [] ({ frames := 1, cells := 0, slots := 0, locals := 12 } : Room) #[(.ref c_INPUT), (.ref c_INPUT), (.int (0 : Int32))] h0 (fun v h L => v = some (.int (0 : Int32)) ∧ Fr n0 L ∧ h = h0) := by
  refine own_body own_pn_2 ?_
  intro p e s m below meth c s₁ hx hby hml hown hnm hret hlk X0 hZ e0
  replace hown : s.vm.findClass "com/example/bridgr/bridgr/spec/Section" = some m.cls := hown
  have N0 := Fr.nil n0
  have K0 := Keep.refl h0 []
  refine own_st (fun _ k => castTop (own_ef_rm2_0 m c_INPUT c_INPUT) k) ?_
  show own_go _ _ _ _ _ _ _ (s₁.setTop (mkF m 0 #[.val (.ref c_INPUT), .val (.ref c_INPUT), .val (.int (0 : Int32))] []))
  refine own_st (fun _ k => XS.aloadN X0.here hx rfl (hb hby d2_0) rfl rfl k) ?_
  show own_go _ _ _ _ _ _ _ (s₁.setTop (mkF m 1 #[.val (.ref c_INPUT), .val (.ref c_INPUT), .val (.int (0 : Int32))] [(.ref c_INPUT)]))
  obtain ⟨v17, T17, L17, X17, hQ17, st17⟩ := own_callV X0 hx hZ (argsL := []) (rest := []) (rm1_0 l Z a0 hw c_INPUT c_OUTPUT c_ENV_INIT c_SYS_INIT c_ENV_TRANS c_SYS_TRANS c_ENV_LIVENESS c_SYS_LIVENESS h0 n0 O0 hS) hown (hw _ (List.mem_of_getElem? (i := 31) rfl)) (hw _ (List.mem_of_getElem? (i := 21) rfl)) (notFace_of_selects (args := #[]) (mvT hZ (hw _ (List.mem_of_getElem? (i := 23) rfl)))) (hw _ (List.mem_of_getElem? (i := 23) rfl)) (hw _ (List.mem_of_getElem? (i := 22) rfl)) (hw _ (List.mem_of_getElem? (i := 3) rfl)) (hw _ (List.mem_of_getElem? (i := 24) rfl)) (by decide) e0 (hS.2.1.ext O0.2) (g := (mkF m 1 #[.val (.ref c_INPUT), .val (.ref c_INPUT), .val (.int (0 : Int32))] [(.ref c_INPUT)])) rfl (by rw [hml]; rfl) (lenOf own_pd__28_29Z rfl) rfl (W := 0) (by show 2 * 0 + _ ≤ _; exact Nat.le_of_eq rfl) (hb hby d2_1) (by decide) (by decide) (by decide) (by decide)
  obtain ⟨rfl, Nq17, eq17⟩ := hQ17
  have N17 := Fr.app N0 Nq17
  refine own_st st17 ?_
  show own_go _ _ _ _ _ _ _ (T17.setTop (mkF m 4 #[.val (.ref c_INPUT), .val (.ref c_INPUT), .val (.int (0 : Int32))] [(.int (1 : Int32))]))
  refine own_st (fun _ k => XS.ifYes X17.here hx rfl (pc0 := 4) (pc' := 24) rfl (hb hby d2_4) rfl (by decide) (by decide) (by decide) k) ?_
  show own_go _ _ _ _ _ _ _ (T17.setTop (mkF m 24 #[.val (.ref c_INPUT), .val (.ref c_INPUT), .val (.int (0 : Int32))] []))
  refine own_st (fun _ k => XS.aloadN X17.here hx rfl (hb hby d2_24) rfl rfl k) ?_
  show own_go _ _ _ _ _ _ _ (T17.setTop (mkF m 25 #[.val (.ref c_INPUT), .val (.ref c_INPUT), .val (.int (0 : Int32))] [(.ref c_INPUT)]))
  obtain ⟨v18, T18, L18, X18, hQ18, st18⟩ := own_callU X17 hx hZ (argsL := []) (rest := []) (rm_ord l Z a0 hw c_INPUT (0 : Int32) h0 n0 O0 (hS.2.2.2.2.2.2.2.2.2.2.2.2.2.2.2.2.1.ext O0.2)) hown (hw _ (List.mem_of_getElem? (i := 32) rfl)) (hw _ (List.mem_of_getElem? (i := 33) rfl)) (hw _ (List.mem_of_getElem? (i := 34) rfl)) (hw _ (List.mem_of_getElem? (i := 36) rfl)) (hw _ (List.mem_of_getElem? (i := 35) rfl)) (hw _ (List.mem_of_getElem? (i := 37) rfl)) (hw _ (List.mem_of_getElem? (i := 38) rfl)) (by decide) eq17 (hS.2.1.ext O0.2) (g := (mkF m 25 #[.val (.ref c_INPUT), .val (.ref c_INPUT), .val (.int (0 : Int32))] [(.ref c_INPUT)])) rfl (by rw [hml]; rfl) (lenOf own_pd__28_29I rfl) rfl (W := 0) (by show 2 * 0 + _ ≤ _; exact Nat.le_of_eq rfl) (hb hby d2_25) (by decide) (by decide) (by decide) (by decide)
  obtain ⟨rfl, Nq18, eq18⟩ := hQ18
  have N18 := Fr.app N17 Nq18
  refine own_st st18 ?_
  show own_go _ _ _ _ _ _ _ (T18.setTop (mkF m 28 #[.val (.ref c_INPUT), .val (.ref c_INPUT), .val (.int (0 : Int32))] [(.int (0 : Int32))]))
  refine own_st (fun _ k => XS.tswIn X18.here hx rfl (pc0 := 28) (pc' := 86) rfl (hb hby d2_28) rfl (by decide) (o := 58) (by decide) (by decide) (by decide) k) ?_
  show own_go _ _ _ _ _ _ _ (T18.setTop (mkF m 86 #[.val (.ref c_INPUT), .val (.ref c_INPUT), .val (.int (0 : Int32))] []))
  refine own_st (fun _ k => XS.iconst X18.here hx rfl (hb hby d2_86) k) ?_
  show own_go _ _ _ _ _ _ _ (T18.setTop (mkF m 87 #[.val (.ref c_INPUT), .val (.ref c_INPUT), .val (.int (0 : Int32))] [(.int (0 : Int32))]))
  refine own_st (fun _ k => XS.goto X18.here hx rfl (pc0 := 87) (pc' := 141) rfl (hb hby d2_87) (by decide) (by decide) k) ?_
  show own_go _ _ _ _ _ _ _ (T18.setTop (mkF m 141 #[.val (.ref c_INPUT), .val (.ref c_INPUT), .val (.int (0 : Int32))] [(.int (0 : Int32))]))
  exact own_retN X18 hx hlk (t := .boolean) hret (by simp) rfl (hb hby d2_141) (by decide) (by decide) (⟨rfl, N18, eq18⟩)
theorem own_ef_rm2_1 (m : MethodId) (c_OUTPUT : Addr) (c_INPUT : Addr) : entryFrame m #[(.ref c_OUTPUT), (.ref c_INPUT), (.int (0 : Int32))] 3 = mkF m 0 #[.val (.ref c_OUTPUT), .val (.ref c_INPUT), .val (.int (0 : Int32))] [] := by first | (simp [entryFrame, mkF, argsToLocals, Value.category]; done) | rfl
set_option maxRecDepth 65536 in
set_option maxHeartbeats 40000000 in
theorem rm2_1 (l : Launch) (Z : State) (a0 : Array Value) (hw : ∀ d ∈ tables_1, d.before a0 Z = true) (c_INPUT c_OUTPUT c_ENV_INIT c_SYS_INIT c_ENV_TRANS c_SYS_TRANS c_ENV_LIVENESS c_SYS_LIVENESS : Addr) (h0 : Heap) (n0 : Nat) (O0 : Old Z n0 h0) (hS : own_S Z c_INPUT c_OUTPUT c_ENV_INIT c_SYS_INIT c_ENV_TRANS c_SYS_TRANS c_ENV_LIVENESS c_SYS_LIVENESS) :
    own_Met l Z (⟨"com/example/bridgr/bridgr/spec/Section", "admits", "(Lcom/example/bridgr/bridgr/spec/Section;Z)Z"⟩ : MethodName) prog_19_method_7_code 3 (some .boolean) [] ({ frames := 1, cells := 0, slots := 0, locals := 12 } : Room) #[(.ref c_OUTPUT), (.ref c_INPUT), (.int (0 : Int32))] h0 (fun v h L => v = some (.int (0 : Int32)) ∧ Fr n0 L ∧ h = h0) := by
  refine own_body own_pn_2 ?_
  intro p e s m below meth c s₁ hx hby hml hown hnm hret hlk X0 hZ e0
  replace hown : s.vm.findClass "com/example/bridgr/bridgr/spec/Section" = some m.cls := hown
  have N0 := Fr.nil n0
  have K0 := Keep.refl h0 []
  refine own_st (fun _ k => castTop (own_ef_rm2_1 m c_OUTPUT c_INPUT) k) ?_
  show own_go _ _ _ _ _ _ _ (s₁.setTop (mkF m 0 #[.val (.ref c_OUTPUT), .val (.ref c_INPUT), .val (.int (0 : Int32))] []))
  refine own_st (fun _ k => XS.aloadN X0.here hx rfl (hb hby d2_0) rfl rfl k) ?_
  show own_go _ _ _ _ _ _ _ (s₁.setTop (mkF m 1 #[.val (.ref c_OUTPUT), .val (.ref c_INPUT), .val (.int (0 : Int32))] [(.ref c_INPUT)]))
  obtain ⟨v19, T19, L19, X19, hQ19, st19⟩ := own_callV X0 hx hZ (argsL := []) (rest := []) (rm1_0 l Z a0 hw c_INPUT c_OUTPUT c_ENV_INIT c_SYS_INIT c_ENV_TRANS c_SYS_TRANS c_ENV_LIVENESS c_SYS_LIVENESS h0 n0 O0 hS) hown (hw _ (List.mem_of_getElem? (i := 31) rfl)) (hw _ (List.mem_of_getElem? (i := 21) rfl)) (notFace_of_selects (args := #[]) (mvT hZ (hw _ (List.mem_of_getElem? (i := 23) rfl)))) (hw _ (List.mem_of_getElem? (i := 23) rfl)) (hw _ (List.mem_of_getElem? (i := 22) rfl)) (hw _ (List.mem_of_getElem? (i := 3) rfl)) (hw _ (List.mem_of_getElem? (i := 24) rfl)) (by decide) e0 (hS.2.1.ext O0.2) (g := (mkF m 1 #[.val (.ref c_OUTPUT), .val (.ref c_INPUT), .val (.int (0 : Int32))] [(.ref c_INPUT)])) rfl (by rw [hml]; rfl) (lenOf own_pd__28_29Z rfl) rfl (W := 0) (by show 2 * 0 + _ ≤ _; exact Nat.le_of_eq rfl) (hb hby d2_1) (by decide) (by decide) (by decide) (by decide)
  obtain ⟨rfl, Nq19, eq19⟩ := hQ19
  have N19 := Fr.app N0 Nq19
  refine own_st st19 ?_
  show own_go _ _ _ _ _ _ _ (T19.setTop (mkF m 4 #[.val (.ref c_OUTPUT), .val (.ref c_INPUT), .val (.int (0 : Int32))] [(.int (1 : Int32))]))
  refine own_st (fun _ k => XS.ifYes X19.here hx rfl (pc0 := 4) (pc' := 24) rfl (hb hby d2_4) rfl (by decide) (by decide) (by decide) k) ?_
  show own_go _ _ _ _ _ _ _ (T19.setTop (mkF m 24 #[.val (.ref c_OUTPUT), .val (.ref c_INPUT), .val (.int (0 : Int32))] []))
  refine own_st (fun _ k => XS.aloadN X19.here hx rfl (hb hby d2_24) rfl rfl k) ?_
  show own_go _ _ _ _ _ _ _ (T19.setTop (mkF m 25 #[.val (.ref c_OUTPUT), .val (.ref c_INPUT), .val (.int (0 : Int32))] [(.ref c_OUTPUT)]))
  obtain ⟨v20, T20, L20, X20, hQ20, st20⟩ := own_callU X19 hx hZ (argsL := []) (rest := []) (rm_ord l Z a0 hw c_OUTPUT (1 : Int32) h0 n0 O0 (hS.2.2.2.2.2.2.2.2.2.2.2.2.2.2.2.2.2.2.1.ext O0.2)) hown (hw _ (List.mem_of_getElem? (i := 32) rfl)) (hw _ (List.mem_of_getElem? (i := 33) rfl)) (hw _ (List.mem_of_getElem? (i := 34) rfl)) (hw _ (List.mem_of_getElem? (i := 36) rfl)) (hw _ (List.mem_of_getElem? (i := 35) rfl)) (hw _ (List.mem_of_getElem? (i := 37) rfl)) (hw _ (List.mem_of_getElem? (i := 38) rfl)) (by decide) eq19 (hS.2.2.2.1.ext O0.2) (g := (mkF m 25 #[.val (.ref c_OUTPUT), .val (.ref c_INPUT), .val (.int (0 : Int32))] [(.ref c_OUTPUT)])) rfl (by rw [hml]; rfl) (lenOf own_pd__28_29I rfl) rfl (W := 0) (by show 2 * 0 + _ ≤ _; exact Nat.le_of_eq rfl) (hb hby d2_25) (by decide) (by decide) (by decide) (by decide)
  obtain ⟨rfl, Nq20, eq20⟩ := hQ20
  have N20 := Fr.app N19 Nq20
  refine own_st st20 ?_
  show own_go _ _ _ _ _ _ _ (T20.setTop (mkF m 28 #[.val (.ref c_OUTPUT), .val (.ref c_INPUT), .val (.int (0 : Int32))] [(.int (1 : Int32))]))
  refine own_st (fun _ k => XS.tswIn X20.here hx rfl (pc0 := 28) (pc' := 86) rfl (hb hby d2_28) rfl (by decide) (o := 58) (by decide) (by decide) (by decide) k) ?_
  show own_go _ _ _ _ _ _ _ (T20.setTop (mkF m 86 #[.val (.ref c_OUTPUT), .val (.ref c_INPUT), .val (.int (0 : Int32))] []))
  refine own_st (fun _ k => XS.iconst X20.here hx rfl (hb hby d2_86) k) ?_
  show own_go _ _ _ _ _ _ _ (T20.setTop (mkF m 87 #[.val (.ref c_OUTPUT), .val (.ref c_INPUT), .val (.int (0 : Int32))] [(.int (0 : Int32))]))
  refine own_st (fun _ k => XS.goto X20.here hx rfl (pc0 := 87) (pc' := 141) rfl (hb hby d2_87) (by decide) (by decide) k) ?_
  show own_go _ _ _ _ _ _ _ (T20.setTop (mkF m 141 #[.val (.ref c_OUTPUT), .val (.ref c_INPUT), .val (.int (0 : Int32))] [(.int (0 : Int32))]))
  exact own_retN X20 hx hlk (t := .boolean) hret (by simp) rfl (hb hby d2_141) (by decide) (by decide) (⟨rfl, N20, eq20⟩)
theorem d2_90 : decode prog_19_method_7_code 90 = .ok (.aload_n 1, 1) := by decide +kernel
theorem d2_91 : decode prog_19_method_7_code 91 = .ok (.getstatic 3, 3) := by decide +kernel
theorem d2_94 : decode prog_19_method_7_code 94 = .ok (.if_acmp .ne 11, 3) := by decide +kernel
theorem d2_97 : decode prog_19_method_7_code 97 = .ok (.iload_n 2, 1) := by decide +kernel
theorem d2_98 : decode prog_19_method_7_code 98 = .ok (.ifCond .ne 7, 3) := by decide +kernel
theorem d2_101 : decode prog_19_method_7_code 101 = .ok (.iconst 1, 1) := by decide +kernel
theorem d2_102 : decode prog_19_method_7_code 102 = .ok (.goto 39, 3) := by decide +kernel
theorem own_ef_rm2_2 (m : MethodId) (c_ENV_INIT : Addr) (c_INPUT : Addr) : entryFrame m #[(.ref c_ENV_INIT), (.ref c_INPUT), (.int (0 : Int32))] 3 = mkF m 0 #[.val (.ref c_ENV_INIT), .val (.ref c_INPUT), .val (.int (0 : Int32))] [] := by first | (simp [entryFrame, mkF, argsToLocals, Value.category]; done) | rfl
set_option maxRecDepth 65536 in
set_option maxHeartbeats 40000000 in
theorem rm2_2 (l : Launch) (Z : State) (a0 : Array Value) (hw : ∀ d ∈ tables_1, d.before a0 Z = true) (c_INPUT c_OUTPUT c_ENV_INIT c_SYS_INIT c_ENV_TRANS c_SYS_TRANS c_ENV_LIVENESS c_SYS_LIVENESS : Addr) (h0 : Heap) (n0 : Nat) (O0 : Old Z n0 h0) (hS : own_S Z c_INPUT c_OUTPUT c_ENV_INIT c_SYS_INIT c_ENV_TRANS c_SYS_TRANS c_ENV_LIVENESS c_SYS_LIVENESS) :
    own_Met l Z (⟨"com/example/bridgr/bridgr/spec/Section", "admits", "(Lcom/example/bridgr/bridgr/spec/Section;Z)Z"⟩ : MethodName) prog_19_method_7_code 3 (some .boolean) [] ({ frames := 1, cells := 0, slots := 0, locals := 12 } : Room) #[(.ref c_ENV_INIT), (.ref c_INPUT), (.int (0 : Int32))] h0 (fun v h L => v = some (.int (1 : Int32)) ∧ Fr n0 L ∧ h = h0) := by
  refine own_body own_pn_2 ?_
  intro p e s m below meth c s₁ hx hby hml hown hnm hret hlk X0 hZ e0
  replace hown : s.vm.findClass "com/example/bridgr/bridgr/spec/Section" = some m.cls := hown
  have N0 := Fr.nil n0
  have K0 := Keep.refl h0 []
  refine own_st (fun _ k => castTop (own_ef_rm2_2 m c_ENV_INIT c_INPUT) k) ?_
  show own_go _ _ _ _ _ _ _ (s₁.setTop (mkF m 0 #[.val (.ref c_ENV_INIT), .val (.ref c_INPUT), .val (.int (0 : Int32))] []))
  refine own_st (fun _ k => XS.aloadN X0.here hx rfl (hb hby d2_0) rfl rfl k) ?_
  show own_go _ _ _ _ _ _ _ (s₁.setTop (mkF m 1 #[.val (.ref c_ENV_INIT), .val (.ref c_INPUT), .val (.int (0 : Int32))] [(.ref c_INPUT)]))
  obtain ⟨v21, T21, L21, X21, hQ21, st21⟩ := own_callV X0 hx hZ (argsL := []) (rest := []) (rm1_0 l Z a0 hw c_INPUT c_OUTPUT c_ENV_INIT c_SYS_INIT c_ENV_TRANS c_SYS_TRANS c_ENV_LIVENESS c_SYS_LIVENESS h0 n0 O0 hS) hown (hw _ (List.mem_of_getElem? (i := 31) rfl)) (hw _ (List.mem_of_getElem? (i := 21) rfl)) (notFace_of_selects (args := #[]) (mvT hZ (hw _ (List.mem_of_getElem? (i := 23) rfl)))) (hw _ (List.mem_of_getElem? (i := 23) rfl)) (hw _ (List.mem_of_getElem? (i := 22) rfl)) (hw _ (List.mem_of_getElem? (i := 3) rfl)) (hw _ (List.mem_of_getElem? (i := 24) rfl)) (by decide) e0 (hS.2.1.ext O0.2) (g := (mkF m 1 #[.val (.ref c_ENV_INIT), .val (.ref c_INPUT), .val (.int (0 : Int32))] [(.ref c_INPUT)])) rfl (by rw [hml]; rfl) (lenOf own_pd__28_29Z rfl) rfl (W := 0) (by show 2 * 0 + _ ≤ _; exact Nat.le_of_eq rfl) (hb hby d2_1) (by decide) (by decide) (by decide) (by decide)
  obtain ⟨rfl, Nq21, eq21⟩ := hQ21
  have N21 := Fr.app N0 Nq21
  refine own_st st21 ?_
  show own_go _ _ _ _ _ _ _ (T21.setTop (mkF m 4 #[.val (.ref c_ENV_INIT), .val (.ref c_INPUT), .val (.int (0 : Int32))] [(.int (1 : Int32))]))
  refine own_st (fun _ k => XS.ifYes X21.here hx rfl (pc0 := 4) (pc' := 24) rfl (hb hby d2_4) rfl (by decide) (by decide) (by decide) k) ?_
  show own_go _ _ _ _ _ _ _ (T21.setTop (mkF m 24 #[.val (.ref c_ENV_INIT), .val (.ref c_INPUT), .val (.int (0 : Int32))] []))
  refine own_st (fun _ k => XS.aloadN X21.here hx rfl (hb hby d2_24) rfl rfl k) ?_
  show own_go _ _ _ _ _ _ _ (T21.setTop (mkF m 25 #[.val (.ref c_ENV_INIT), .val (.ref c_INPUT), .val (.int (0 : Int32))] [(.ref c_ENV_INIT)]))
  obtain ⟨v22, T22, L22, X22, hQ22, st22⟩ := own_callU X21 hx hZ (argsL := []) (rest := []) (rm_ord l Z a0 hw c_ENV_INIT (2 : Int32) h0 n0 O0 (hS.2.2.2.2.2.2.2.2.2.2.2.2.2.2.2.2.2.2.2.2.2.1.ext O0.2)) hown (hw _ (List.mem_of_getElem? (i := 32) rfl)) (hw _ (List.mem_of_getElem? (i := 33) rfl)) (hw _ (List.mem_of_getElem? (i := 34) rfl)) (hw _ (List.mem_of_getElem? (i := 36) rfl)) (hw _ (List.mem_of_getElem? (i := 35) rfl)) (hw _ (List.mem_of_getElem? (i := 37) rfl)) (hw _ (List.mem_of_getElem? (i := 38) rfl)) (by decide) eq21 (hS.2.2.2.2.2.1.ext O0.2) (g := (mkF m 25 #[.val (.ref c_ENV_INIT), .val (.ref c_INPUT), .val (.int (0 : Int32))] [(.ref c_ENV_INIT)])) rfl (by rw [hml]; rfl) (lenOf own_pd__28_29I rfl) rfl (W := 0) (by show 2 * 0 + _ ≤ _; exact Nat.le_of_eq rfl) (hb hby d2_25) (by decide) (by decide) (by decide) (by decide)
  obtain ⟨rfl, Nq22, eq22⟩ := hQ22
  have N22 := Fr.app N21 Nq22
  refine own_st st22 ?_
  show own_go _ _ _ _ _ _ _ (T22.setTop (mkF m 28 #[.val (.ref c_ENV_INIT), .val (.ref c_INPUT), .val (.int (0 : Int32))] [(.int (2 : Int32))]))
  refine own_st (fun _ k => XS.tswIn X22.here hx rfl (pc0 := 28) (pc' := 90) rfl (hb hby d2_28) rfl (by decide) (o := 62) (by decide) (by decide) (by decide) k) ?_
  show own_go _ _ _ _ _ _ _ (T22.setTop (mkF m 90 #[.val (.ref c_ENV_INIT), .val (.ref c_INPUT), .val (.int (0 : Int32))] []))
  refine own_st (fun _ k => XS.aloadN X22.here hx rfl (hb hby d2_90) rfl rfl k) ?_
  show own_go _ _ _ _ _ _ _ (T22.setTop (mkF m 91 #[.val (.ref c_ENV_INIT), .val (.ref c_INPUT), .val (.int (0 : Int32))] [(.ref c_INPUT)]))
  obtain ⟨T23, X23, e23, st23⟩ := getS2 X22 hx hZ hown (host := "") (Or.inl (hw _ (List.mem_of_getElem? (i := 25) rfl))) Via.refl eq22 (hS.1.ext O0.2) (g := (mkF m 91 #[.val (.ref c_ENV_INIT), .val (.ref c_INPUT), .val (.int (0 : Int32))] [(.ref c_INPUT)])) rfl (hb hby d2_91)
  refine own_st st23 ?_
  show own_go _ _ _ _ _ _ _ (T23.setTop (mkF m 94 #[.val (.ref c_ENV_INIT), .val (.ref c_INPUT), .val (.int (0 : Int32))] [(.ref c_INPUT), (.ref c_INPUT)]))
  refine own_st (fun _ k => Jvm.RoadKit.acmp (g := (mkF m 94 #[.val (.ref c_ENV_INIT), .val (.ref c_INPUT), .val (.int (0 : Int32))] [(.ref c_INPUT), (.ref c_INPUT)])) X23 hx rfl rfl rfl (pc0 := 94) (pc' := 97) (same := true) rfl (hb hby d2_94) rfl (decide_eq_true rfl) (by decide) (by decide) k) ?_
  show own_go _ _ _ _ _ _ _ (T23.setTop (mkF m 97 #[.val (.ref c_ENV_INIT), .val (.ref c_INPUT), .val (.int (0 : Int32))] []))
  refine own_st (fun _ k => XS.iloadN X23.here hx rfl (hb hby d2_97) rfl k) ?_
  show own_go _ _ _ _ _ _ _ (T23.setTop (mkF m 98 #[.val (.ref c_ENV_INIT), .val (.ref c_INPUT), .val (.int (0 : Int32))] [(.int (0 : Int32))]))
  refine own_st (fun _ k => XS.ifNo X23.here hx rfl (hb hby d2_98) rfl (by decide) k) ?_
  show own_go _ _ _ _ _ _ _ (T23.setTop (mkF m 101 #[.val (.ref c_ENV_INIT), .val (.ref c_INPUT), .val (.int (0 : Int32))] []))
  refine own_st (fun _ k => XS.iconst X23.here hx rfl (hb hby d2_101) k) ?_
  show own_go _ _ _ _ _ _ _ (T23.setTop (mkF m 102 #[.val (.ref c_ENV_INIT), .val (.ref c_INPUT), .val (.int (0 : Int32))] [(.int (1 : Int32))]))
  refine own_st (fun _ k => XS.goto X23.here hx rfl (pc0 := 102) (pc' := 141) rfl (hb hby d2_102) (by decide) (by decide) k) ?_
  show own_go _ _ _ _ _ _ _ (T23.setTop (mkF m 141 #[.val (.ref c_ENV_INIT), .val (.ref c_INPUT), .val (.int (0 : Int32))] [(.int (1 : Int32))]))
  exact own_retN X23 hx hlk (t := .boolean) hret (by simp) rfl (hb hby d2_141) (by decide) (by decide) (⟨rfl, N22, e23⟩)
theorem d2_109 : decode prog_19_method_7_code 109 = .ok (.iload_n 2, 1) := by decide +kernel
theorem d2_110 : decode prog_19_method_7_code 110 = .ok (.ifCond .ne 7, 3) := by decide +kernel
theorem d2_113 : decode prog_19_method_7_code 113 = .ok (.iconst 1, 1) := by decide +kernel
theorem d2_114 : decode prog_19_method_7_code 114 = .ok (.goto 27, 3) := by decide +kernel
theorem own_ef_rm2_3 (m : MethodId) (c_SYS_INIT : Addr) (c_INPUT : Addr) : entryFrame m #[(.ref c_SYS_INIT), (.ref c_INPUT), (.int (0 : Int32))] 3 = mkF m 0 #[.val (.ref c_SYS_INIT), .val (.ref c_INPUT), .val (.int (0 : Int32))] [] := by first | (simp [entryFrame, mkF, argsToLocals, Value.category]; done) | rfl
set_option maxRecDepth 65536 in
set_option maxHeartbeats 40000000 in
theorem rm2_3 (l : Launch) (Z : State) (a0 : Array Value) (hw : ∀ d ∈ tables_1, d.before a0 Z = true) (c_INPUT c_OUTPUT c_ENV_INIT c_SYS_INIT c_ENV_TRANS c_SYS_TRANS c_ENV_LIVENESS c_SYS_LIVENESS : Addr) (h0 : Heap) (n0 : Nat) (O0 : Old Z n0 h0) (hS : own_S Z c_INPUT c_OUTPUT c_ENV_INIT c_SYS_INIT c_ENV_TRANS c_SYS_TRANS c_ENV_LIVENESS c_SYS_LIVENESS) :
    own_Met l Z (⟨"com/example/bridgr/bridgr/spec/Section", "admits", "(Lcom/example/bridgr/bridgr/spec/Section;Z)Z"⟩ : MethodName) prog_19_method_7_code 3 (some .boolean) [] ({ frames := 1, cells := 0, slots := 0, locals := 12 } : Room) #[(.ref c_SYS_INIT), (.ref c_INPUT), (.int (0 : Int32))] h0 (fun v h L => v = some (.int (1 : Int32)) ∧ Fr n0 L ∧ h = h0) := by
  refine own_body own_pn_2 ?_
  intro p e s m below meth c s₁ hx hby hml hown hnm hret hlk X0 hZ e0
  replace hown : s.vm.findClass "com/example/bridgr/bridgr/spec/Section" = some m.cls := hown
  have N0 := Fr.nil n0
  have K0 := Keep.refl h0 []
  refine own_st (fun _ k => castTop (own_ef_rm2_3 m c_SYS_INIT c_INPUT) k) ?_
  show own_go _ _ _ _ _ _ _ (s₁.setTop (mkF m 0 #[.val (.ref c_SYS_INIT), .val (.ref c_INPUT), .val (.int (0 : Int32))] []))
  refine own_st (fun _ k => XS.aloadN X0.here hx rfl (hb hby d2_0) rfl rfl k) ?_
  show own_go _ _ _ _ _ _ _ (s₁.setTop (mkF m 1 #[.val (.ref c_SYS_INIT), .val (.ref c_INPUT), .val (.int (0 : Int32))] [(.ref c_INPUT)]))
  obtain ⟨v24, T24, L24, X24, hQ24, st24⟩ := own_callV X0 hx hZ (argsL := []) (rest := []) (rm1_0 l Z a0 hw c_INPUT c_OUTPUT c_ENV_INIT c_SYS_INIT c_ENV_TRANS c_SYS_TRANS c_ENV_LIVENESS c_SYS_LIVENESS h0 n0 O0 hS) hown (hw _ (List.mem_of_getElem? (i := 31) rfl)) (hw _ (List.mem_of_getElem? (i := 21) rfl)) (notFace_of_selects (args := #[]) (mvT hZ (hw _ (List.mem_of_getElem? (i := 23) rfl)))) (hw _ (List.mem_of_getElem? (i := 23) rfl)) (hw _ (List.mem_of_getElem? (i := 22) rfl)) (hw _ (List.mem_of_getElem? (i := 3) rfl)) (hw _ (List.mem_of_getElem? (i := 24) rfl)) (by decide) e0 (hS.2.1.ext O0.2) (g := (mkF m 1 #[.val (.ref c_SYS_INIT), .val (.ref c_INPUT), .val (.int (0 : Int32))] [(.ref c_INPUT)])) rfl (by rw [hml]; rfl) (lenOf own_pd__28_29Z rfl) rfl (W := 0) (by show 2 * 0 + _ ≤ _; exact Nat.le_of_eq rfl) (hb hby d2_1) (by decide) (by decide) (by decide) (by decide)
  obtain ⟨rfl, Nq24, eq24⟩ := hQ24
  have N24 := Fr.app N0 Nq24
  refine own_st st24 ?_
  show own_go _ _ _ _ _ _ _ (T24.setTop (mkF m 4 #[.val (.ref c_SYS_INIT), .val (.ref c_INPUT), .val (.int (0 : Int32))] [(.int (1 : Int32))]))
  refine own_st (fun _ k => XS.ifYes X24.here hx rfl (pc0 := 4) (pc' := 24) rfl (hb hby d2_4) rfl (by decide) (by decide) (by decide) k) ?_
  show own_go _ _ _ _ _ _ _ (T24.setTop (mkF m 24 #[.val (.ref c_SYS_INIT), .val (.ref c_INPUT), .val (.int (0 : Int32))] []))
  refine own_st (fun _ k => XS.aloadN X24.here hx rfl (hb hby d2_24) rfl rfl k) ?_
  show own_go _ _ _ _ _ _ _ (T24.setTop (mkF m 25 #[.val (.ref c_SYS_INIT), .val (.ref c_INPUT), .val (.int (0 : Int32))] [(.ref c_SYS_INIT)]))
  obtain ⟨v25, T25, L25, X25, hQ25, st25⟩ := own_callU X24 hx hZ (argsL := []) (rest := []) (rm_ord l Z a0 hw c_SYS_INIT (3 : Int32) h0 n0 O0 (hS.2.2.2.2.2.2.2.2.2.2.2.2.2.2.2.2.2.1.ext O0.2)) hown (hw _ (List.mem_of_getElem? (i := 32) rfl)) (hw _ (List.mem_of_getElem? (i := 33) rfl)) (hw _ (List.mem_of_getElem? (i := 34) rfl)) (hw _ (List.mem_of_getElem? (i := 36) rfl)) (hw _ (List.mem_of_getElem? (i := 35) rfl)) (hw _ (List.mem_of_getElem? (i := 37) rfl)) (hw _ (List.mem_of_getElem? (i := 38) rfl)) (by decide) eq24 (hS.2.2.2.2.2.2.2.1.ext O0.2) (g := (mkF m 25 #[.val (.ref c_SYS_INIT), .val (.ref c_INPUT), .val (.int (0 : Int32))] [(.ref c_SYS_INIT)])) rfl (by rw [hml]; rfl) (lenOf own_pd__28_29I rfl) rfl (W := 0) (by show 2 * 0 + _ ≤ _; exact Nat.le_of_eq rfl) (hb hby d2_25) (by decide) (by decide) (by decide) (by decide)
  obtain ⟨rfl, Nq25, eq25⟩ := hQ25
  have N25 := Fr.app N24 Nq25
  refine own_st st25 ?_
  show own_go _ _ _ _ _ _ _ (T25.setTop (mkF m 28 #[.val (.ref c_SYS_INIT), .val (.ref c_INPUT), .val (.int (0 : Int32))] [(.int (3 : Int32))]))
  refine own_st (fun _ k => XS.tswIn X25.here hx rfl (pc0 := 28) (pc' := 109) rfl (hb hby d2_28) rfl (by decide) (o := 81) (by decide) (by decide) (by decide) k) ?_
  show own_go _ _ _ _ _ _ _ (T25.setTop (mkF m 109 #[.val (.ref c_SYS_INIT), .val (.ref c_INPUT), .val (.int (0 : Int32))] []))
  refine own_st (fun _ k => XS.iloadN X25.here hx rfl (hb hby d2_109) rfl k) ?_
  show own_go _ _ _ _ _ _ _ (T25.setTop (mkF m 110 #[.val (.ref c_SYS_INIT), .val (.ref c_INPUT), .val (.int (0 : Int32))] [(.int (0 : Int32))]))
  refine own_st (fun _ k => XS.ifNo X25.here hx rfl (hb hby d2_110) rfl (by decide) k) ?_
  show own_go _ _ _ _ _ _ _ (T25.setTop (mkF m 113 #[.val (.ref c_SYS_INIT), .val (.ref c_INPUT), .val (.int (0 : Int32))] []))
  refine own_st (fun _ k => XS.iconst X25.here hx rfl (hb hby d2_113) k) ?_
  show own_go _ _ _ _ _ _ _ (T25.setTop (mkF m 114 #[.val (.ref c_SYS_INIT), .val (.ref c_INPUT), .val (.int (0 : Int32))] [(.int (1 : Int32))]))
  refine own_st (fun _ k => XS.goto X25.here hx rfl (pc0 := 114) (pc' := 141) rfl (hb hby d2_114) (by decide) (by decide) k) ?_
  show own_go _ _ _ _ _ _ _ (T25.setTop (mkF m 141 #[.val (.ref c_SYS_INIT), .val (.ref c_INPUT), .val (.int (0 : Int32))] [(.int (1 : Int32))]))
  exact own_retN X25 hx hlk (t := .boolean) hret (by simp) rfl (hb hby d2_141) (by decide) (by decide) (⟨rfl, N25, eq25⟩)
theorem d2_121 : decode prog_19_method_7_code 121 = .ok (.aload_n 1, 1) := by decide +kernel
theorem d2_122 : decode prog_19_method_7_code 122 = .ok (.getstatic 3, 3) := by decide +kernel
theorem d2_125 : decode prog_19_method_7_code 125 = .ok (.if_acmp .eq 7, 3) := by decide +kernel
theorem d2_132 : decode prog_19_method_7_code 132 = .ok (.iconst 1, 1) := by decide +kernel
theorem d2_133 : decode prog_19_method_7_code 133 = .ok (.goto 8, 3) := by decide +kernel
theorem own_ef_rm2_4 (m : MethodId) (c_ENV_TRANS : Addr) (c_INPUT : Addr) : entryFrame m #[(.ref c_ENV_TRANS), (.ref c_INPUT), (.int (0 : Int32))] 3 = mkF m 0 #[.val (.ref c_ENV_TRANS), .val (.ref c_INPUT), .val (.int (0 : Int32))] [] := by first | (simp [entryFrame, mkF, argsToLocals, Value.category]; done) | rfl
set_option maxRecDepth 65536 in
set_option maxHeartbeats 40000000 in
theorem rm2_4 (l : Launch) (Z : State) (a0 : Array Value) (hw : ∀ d ∈ tables_1, d.before a0 Z = true) (c_INPUT c_OUTPUT c_ENV_INIT c_SYS_INIT c_ENV_TRANS c_SYS_TRANS c_ENV_LIVENESS c_SYS_LIVENESS : Addr) (h0 : Heap) (n0 : Nat) (O0 : Old Z n0 h0) (hS : own_S Z c_INPUT c_OUTPUT c_ENV_INIT c_SYS_INIT c_ENV_TRANS c_SYS_TRANS c_ENV_LIVENESS c_SYS_LIVENESS) :
    own_Met l Z (⟨"com/example/bridgr/bridgr/spec/Section", "admits", "(Lcom/example/bridgr/bridgr/spec/Section;Z)Z"⟩ : MethodName) prog_19_method_7_code 3 (some .boolean) [] ({ frames := 1, cells := 0, slots := 0, locals := 12 } : Room) #[(.ref c_ENV_TRANS), (.ref c_INPUT), (.int (0 : Int32))] h0 (fun v h L => v = some (.int (1 : Int32)) ∧ Fr n0 L ∧ h = h0) := by
  refine own_body own_pn_2 ?_
  intro p e s m below meth c s₁ hx hby hml hown hnm hret hlk X0 hZ e0
  replace hown : s.vm.findClass "com/example/bridgr/bridgr/spec/Section" = some m.cls := hown
  have N0 := Fr.nil n0
  have K0 := Keep.refl h0 []
  refine own_st (fun _ k => castTop (own_ef_rm2_4 m c_ENV_TRANS c_INPUT) k) ?_
  show own_go _ _ _ _ _ _ _ (s₁.setTop (mkF m 0 #[.val (.ref c_ENV_TRANS), .val (.ref c_INPUT), .val (.int (0 : Int32))] []))
  refine own_st (fun _ k => XS.aloadN X0.here hx rfl (hb hby d2_0) rfl rfl k) ?_
  show own_go _ _ _ _ _ _ _ (s₁.setTop (mkF m 1 #[.val (.ref c_ENV_TRANS), .val (.ref c_INPUT), .val (.int (0 : Int32))] [(.ref c_INPUT)]))
  obtain ⟨v26, T26, L26, X26, hQ26, st26⟩ := own_callV X0 hx hZ (argsL := []) (rest := []) (rm1_0 l Z a0 hw c_INPUT c_OUTPUT c_ENV_INIT c_SYS_INIT c_ENV_TRANS c_SYS_TRANS c_ENV_LIVENESS c_SYS_LIVENESS h0 n0 O0 hS) hown (hw _ (List.mem_of_getElem? (i := 31) rfl)) (hw _ (List.mem_of_getElem? (i := 21) rfl)) (notFace_of_selects (args := #[]) (mvT hZ (hw _ (List.mem_of_getElem? (i := 23) rfl)))) (hw _ (List.mem_of_getElem? (i := 23) rfl)) (hw _ (List.mem_of_getElem? (i := 22) rfl)) (hw _ (List.mem_of_getElem? (i := 3) rfl)) (hw _ (List.mem_of_getElem? (i := 24) rfl)) (by decide) e0 (hS.2.1.ext O0.2) (g := (mkF m 1 #[.val (.ref c_ENV_TRANS), .val (.ref c_INPUT), .val (.int (0 : Int32))] [(.ref c_INPUT)])) rfl (by rw [hml]; rfl) (lenOf own_pd__28_29Z rfl) rfl (W := 0) (by show 2 * 0 + _ ≤ _; exact Nat.le_of_eq rfl) (hb hby d2_1) (by decide) (by decide) (by decide) (by decide)
  obtain ⟨rfl, Nq26, eq26⟩ := hQ26
  have N26 := Fr.app N0 Nq26
  refine own_st st26 ?_
  show own_go _ _ _ _ _ _ _ (T26.setTop (mkF m 4 #[.val (.ref c_ENV_TRANS), .val (.ref c_INPUT), .val (.int (0 : Int32))] [(.int (1 : Int32))]))
  refine own_st (fun _ k => XS.ifYes X26.here hx rfl (pc0 := 4) (pc' := 24) rfl (hb hby d2_4) rfl (by decide) (by decide) (by decide) k) ?_
  show own_go _ _ _ _ _ _ _ (T26.setTop (mkF m 24 #[.val (.ref c_ENV_TRANS), .val (.ref c_INPUT), .val (.int (0 : Int32))] []))
  refine own_st (fun _ k => XS.aloadN X26.here hx rfl (hb hby d2_24) rfl rfl k) ?_
  show own_go _ _ _ _ _ _ _ (T26.setTop (mkF m 25 #[.val (.ref c_ENV_TRANS), .val (.ref c_INPUT), .val (.int (0 : Int32))] [(.ref c_ENV_TRANS)]))
  obtain ⟨v27, T27, L27, X27, hQ27, st27⟩ := own_callU X26 hx hZ (argsL := []) (rest := []) (rm_ord l Z a0 hw c_ENV_TRANS (4 : Int32) h0 n0 O0 (hS.2.2.2.2.2.2.2.2.2.2.2.2.2.2.2.2.2.2.2.2.2.2.1.ext O0.2)) hown (hw _ (List.mem_of_getElem? (i := 32) rfl)) (hw _ (List.mem_of_getElem? (i := 33) rfl)) (hw _ (List.mem_of_getElem? (i := 34) rfl)) (hw _ (List.mem_of_getElem? (i := 36) rfl)) (hw _ (List.mem_of_getElem? (i := 35) rfl)) (hw _ (List.mem_of_getElem? (i := 37) rfl)) (hw _ (List.mem_of_getElem? (i := 38) rfl)) (by decide) eq26 (hS.2.2.2.2.2.2.2.2.2.1.ext O0.2) (g := (mkF m 25 #[.val (.ref c_ENV_TRANS), .val (.ref c_INPUT), .val (.int (0 : Int32))] [(.ref c_ENV_TRANS)])) rfl (by rw [hml]; rfl) (lenOf own_pd__28_29I rfl) rfl (W := 0) (by show 2 * 0 + _ ≤ _; exact Nat.le_of_eq rfl) (hb hby d2_25) (by decide) (by decide) (by decide) (by decide)
  obtain ⟨rfl, Nq27, eq27⟩ := hQ27
  have N27 := Fr.app N26 Nq27
  refine own_st st27 ?_
  show own_go _ _ _ _ _ _ _ (T27.setTop (mkF m 28 #[.val (.ref c_ENV_TRANS), .val (.ref c_INPUT), .val (.int (0 : Int32))] [(.int (4 : Int32))]))
  refine own_st (fun _ k => XS.tswIn X27.here hx rfl (pc0 := 28) (pc' := 121) rfl (hb hby d2_28) rfl (by decide) (o := 93) (by decide) (by decide) (by decide) k) ?_
  show own_go _ _ _ _ _ _ _ (T27.setTop (mkF m 121 #[.val (.ref c_ENV_TRANS), .val (.ref c_INPUT), .val (.int (0 : Int32))] []))
  refine own_st (fun _ k => XS.aloadN X27.here hx rfl (hb hby d2_121) rfl rfl k) ?_
  show own_go _ _ _ _ _ _ _ (T27.setTop (mkF m 122 #[.val (.ref c_ENV_TRANS), .val (.ref c_INPUT), .val (.int (0 : Int32))] [(.ref c_INPUT)]))
  obtain ⟨T28, X28, e28, st28⟩ := getS2 X27 hx hZ hown (host := "") (Or.inl (hw _ (List.mem_of_getElem? (i := 25) rfl))) Via.refl eq27 (hS.1.ext O0.2) (g := (mkF m 122 #[.val (.ref c_ENV_TRANS), .val (.ref c_INPUT), .val (.int (0 : Int32))] [(.ref c_INPUT)])) rfl (hb hby d2_122)
  refine own_st st28 ?_
  show own_go _ _ _ _ _ _ _ (T28.setTop (mkF m 125 #[.val (.ref c_ENV_TRANS), .val (.ref c_INPUT), .val (.int (0 : Int32))] [(.ref c_INPUT), (.ref c_INPUT)]))
  refine own_st (fun _ k => Jvm.RoadKit.acmp (g := (mkF m 125 #[.val (.ref c_ENV_TRANS), .val (.ref c_INPUT), .val (.int (0 : Int32))] [(.ref c_INPUT), (.ref c_INPUT)])) X28 hx rfl rfl rfl (pc0 := 125) (pc' := 132) (same := true) rfl (hb hby d2_125) rfl (decide_eq_true rfl) (by decide) (by decide) k) ?_
  show own_go _ _ _ _ _ _ _ (T28.setTop (mkF m 132 #[.val (.ref c_ENV_TRANS), .val (.ref c_INPUT), .val (.int (0 : Int32))] []))
  refine own_st (fun _ k => XS.iconst X28.here hx rfl (hb hby d2_132) k) ?_
  show own_go _ _ _ _ _ _ _ (T28.setTop (mkF m 133 #[.val (.ref c_ENV_TRANS), .val (.ref c_INPUT), .val (.int (0 : Int32))] [(.int (1 : Int32))]))
  refine own_st (fun _ k => XS.goto X28.here hx rfl (pc0 := 133) (pc' := 141) rfl (hb hby d2_133) (by decide) (by decide) k) ?_
  show own_go _ _ _ _ _ _ _ (T28.setTop (mkF m 141 #[.val (.ref c_ENV_TRANS), .val (.ref c_INPUT), .val (.int (0 : Int32))] [(.int (1 : Int32))]))
  exact own_retN X28 hx hlk (t := .boolean) hret (by simp) rfl (hb hby d2_141) (by decide) (by decide) (⟨rfl, N27, e28⟩)
theorem d2_140 : decode prog_19_method_7_code 140 = .ok (.iconst 1, 1) := by decide +kernel
theorem own_ef_rm2_5 (m : MethodId) (c_SYS_TRANS : Addr) (c_INPUT : Addr) : entryFrame m #[(.ref c_SYS_TRANS), (.ref c_INPUT), (.int (0 : Int32))] 3 = mkF m 0 #[.val (.ref c_SYS_TRANS), .val (.ref c_INPUT), .val (.int (0 : Int32))] [] := by first | (simp [entryFrame, mkF, argsToLocals, Value.category]; done) | rfl
set_option maxRecDepth 65536 in
set_option maxHeartbeats 40000000 in
theorem rm2_5 (l : Launch) (Z : State) (a0 : Array Value) (hw : ∀ d ∈ tables_1, d.before a0 Z = true) (c_INPUT c_OUTPUT c_ENV_INIT c_SYS_INIT c_ENV_TRANS c_SYS_TRANS c_ENV_LIVENESS c_SYS_LIVENESS : Addr) (h0 : Heap) (n0 : Nat) (O0 : Old Z n0 h0) (hS : own_S Z c_INPUT c_OUTPUT c_ENV_INIT c_SYS_INIT c_ENV_TRANS c_SYS_TRANS c_ENV_LIVENESS c_SYS_LIVENESS) :
    own_Met l Z (⟨"com/example/bridgr/bridgr/spec/Section", "admits", "(Lcom/example/bridgr/bridgr/spec/Section;Z)Z"⟩ : MethodName) prog_19_method_7_code 3 (some .boolean) [] ({ frames := 1, cells := 0, slots := 0, locals := 12 } : Room) #[(.ref c_SYS_TRANS), (.ref c_INPUT), (.int (0 : Int32))] h0 (fun v h L => v = some (.int (1 : Int32)) ∧ Fr n0 L ∧ h = h0) := by
  refine own_body own_pn_2 ?_
  intro p e s m below meth c s₁ hx hby hml hown hnm hret hlk X0 hZ e0
  replace hown : s.vm.findClass "com/example/bridgr/bridgr/spec/Section" = some m.cls := hown
  have N0 := Fr.nil n0
  have K0 := Keep.refl h0 []
  refine own_st (fun _ k => castTop (own_ef_rm2_5 m c_SYS_TRANS c_INPUT) k) ?_
  show own_go _ _ _ _ _ _ _ (s₁.setTop (mkF m 0 #[.val (.ref c_SYS_TRANS), .val (.ref c_INPUT), .val (.int (0 : Int32))] []))
  refine own_st (fun _ k => XS.aloadN X0.here hx rfl (hb hby d2_0) rfl rfl k) ?_
  show own_go _ _ _ _ _ _ _ (s₁.setTop (mkF m 1 #[.val (.ref c_SYS_TRANS), .val (.ref c_INPUT), .val (.int (0 : Int32))] [(.ref c_INPUT)]))
  obtain ⟨v29, T29, L29, X29, hQ29, st29⟩ := own_callV X0 hx hZ (argsL := []) (rest := []) (rm1_0 l Z a0 hw c_INPUT c_OUTPUT c_ENV_INIT c_SYS_INIT c_ENV_TRANS c_SYS_TRANS c_ENV_LIVENESS c_SYS_LIVENESS h0 n0 O0 hS) hown (hw _ (List.mem_of_getElem? (i := 31) rfl)) (hw _ (List.mem_of_getElem? (i := 21) rfl)) (notFace_of_selects (args := #[]) (mvT hZ (hw _ (List.mem_of_getElem? (i := 23) rfl)))) (hw _ (List.mem_of_getElem? (i := 23) rfl)) (hw _ (List.mem_of_getElem? (i := 22) rfl)) (hw _ (List.mem_of_getElem? (i := 3) rfl)) (hw _ (List.mem_of_getElem? (i := 24) rfl)) (by decide) e0 (hS.2.1.ext O0.2) (g := (mkF m 1 #[.val (.ref c_SYS_TRANS), .val (.ref c_INPUT), .val (.int (0 : Int32))] [(.ref c_INPUT)])) rfl (by rw [hml]; rfl) (lenOf own_pd__28_29Z rfl) rfl (W := 0) (by show 2 * 0 + _ ≤ _; exact Nat.le_of_eq rfl) (hb hby d2_1) (by decide) (by decide) (by decide) (by decide)
  obtain ⟨rfl, Nq29, eq29⟩ := hQ29
  have N29 := Fr.app N0 Nq29
  refine own_st st29 ?_
  show own_go _ _ _ _ _ _ _ (T29.setTop (mkF m 4 #[.val (.ref c_SYS_TRANS), .val (.ref c_INPUT), .val (.int (0 : Int32))] [(.int (1 : Int32))]))
  refine own_st (fun _ k => XS.ifYes X29.here hx rfl (pc0 := 4) (pc' := 24) rfl (hb hby d2_4) rfl (by decide) (by decide) (by decide) k) ?_
  show own_go _ _ _ _ _ _ _ (T29.setTop (mkF m 24 #[.val (.ref c_SYS_TRANS), .val (.ref c_INPUT), .val (.int (0 : Int32))] []))
  refine own_st (fun _ k => XS.aloadN X29.here hx rfl (hb hby d2_24) rfl rfl k) ?_
  show own_go _ _ _ _ _ _ _ (T29.setTop (mkF m 25 #[.val (.ref c_SYS_TRANS), .val (.ref c_INPUT), .val (.int (0 : Int32))] [(.ref c_SYS_TRANS)]))
  obtain ⟨v30, T30, L30, X30, hQ30, st30⟩ := own_callU X29 hx hZ (argsL := []) (rest := []) (rm_ord l Z a0 hw c_SYS_TRANS (5 : Int32) h0 n0 O0 (hS.2.2.2.2.2.2.2.2.2.2.2.2.2.2.2.2.2.2.2.2.2.2.2.ext O0.2)) hown (hw _ (List.mem_of_getElem? (i := 32) rfl)) (hw _ (List.mem_of_getElem? (i := 33) rfl)) (hw _ (List.mem_of_getElem? (i := 34) rfl)) (hw _ (List.mem_of_getElem? (i := 36) rfl)) (hw _ (List.mem_of_getElem? (i := 35) rfl)) (hw _ (List.mem_of_getElem? (i := 37) rfl)) (hw _ (List.mem_of_getElem? (i := 38) rfl)) (by decide) eq29 (hS.2.2.2.2.2.2.2.2.2.2.2.1.ext O0.2) (g := (mkF m 25 #[.val (.ref c_SYS_TRANS), .val (.ref c_INPUT), .val (.int (0 : Int32))] [(.ref c_SYS_TRANS)])) rfl (by rw [hml]; rfl) (lenOf own_pd__28_29I rfl) rfl (W := 0) (by show 2 * 0 + _ ≤ _; exact Nat.le_of_eq rfl) (hb hby d2_25) (by decide) (by decide) (by decide) (by decide)
  obtain ⟨rfl, Nq30, eq30⟩ := hQ30
  have N30 := Fr.app N29 Nq30
  refine own_st st30 ?_
  show own_go _ _ _ _ _ _ _ (T30.setTop (mkF m 28 #[.val (.ref c_SYS_TRANS), .val (.ref c_INPUT), .val (.int (0 : Int32))] [(.int (5 : Int32))]))
  refine own_st (fun _ k => XS.tswIn X30.here hx rfl (pc0 := 28) (pc' := 140) rfl (hb hby d2_28) rfl (by decide) (o := 112) (by decide) (by decide) (by decide) k) ?_
  show own_go _ _ _ _ _ _ _ (T30.setTop (mkF m 140 #[.val (.ref c_SYS_TRANS), .val (.ref c_INPUT), .val (.int (0 : Int32))] []))
  refine own_st (fun _ k => XS.iconst X30.here hx rfl (hb hby d2_140) k) ?_
  show own_go _ _ _ _ _ _ _ (T30.setTop (mkF m 141 #[.val (.ref c_SYS_TRANS), .val (.ref c_INPUT), .val (.int (0 : Int32))] [(.int (1 : Int32))]))
  exact own_retN X30 hx hlk (t := .boolean) hret (by simp) rfl (hb hby d2_141) (by decide) (by decide) (⟨rfl, N30, eq30⟩)
theorem own_ef_rm2_6 (m : MethodId) (c_ENV_LIVENESS : Addr) (c_INPUT : Addr) : entryFrame m #[(.ref c_ENV_LIVENESS), (.ref c_INPUT), (.int (0 : Int32))] 3 = mkF m 0 #[.val (.ref c_ENV_LIVENESS), .val (.ref c_INPUT), .val (.int (0 : Int32))] [] := by first | (simp [entryFrame, mkF, argsToLocals, Value.category]; done) | rfl
set_option maxRecDepth 65536 in
set_option maxHeartbeats 40000000 in
theorem rm2_6 (l : Launch) (Z : State) (a0 : Array Value) (hw : ∀ d ∈ tables_1, d.before a0 Z = true) (c_INPUT c_OUTPUT c_ENV_INIT c_SYS_INIT c_ENV_TRANS c_SYS_TRANS c_ENV_LIVENESS c_SYS_LIVENESS : Addr) (h0 : Heap) (n0 : Nat) (O0 : Old Z n0 h0) (hS : own_S Z c_INPUT c_OUTPUT c_ENV_INIT c_SYS_INIT c_ENV_TRANS c_SYS_TRANS c_ENV_LIVENESS c_SYS_LIVENESS) :
    own_Met l Z (⟨"com/example/bridgr/bridgr/spec/Section", "admits", "(Lcom/example/bridgr/bridgr/spec/Section;Z)Z"⟩ : MethodName) prog_19_method_7_code 3 (some .boolean) [] ({ frames := 1, cells := 0, slots := 0, locals := 12 } : Room) #[(.ref c_ENV_LIVENESS), (.ref c_INPUT), (.int (0 : Int32))] h0 (fun v h L => v = some (.int (1 : Int32)) ∧ Fr n0 L ∧ h = h0) := by
  refine own_body own_pn_2 ?_
  intro p e s m below meth c s₁ hx hby hml hown hnm hret hlk X0 hZ e0
  replace hown : s.vm.findClass "com/example/bridgr/bridgr/spec/Section" = some m.cls := hown
  have N0 := Fr.nil n0
  have K0 := Keep.refl h0 []
  refine own_st (fun _ k => castTop (own_ef_rm2_6 m c_ENV_LIVENESS c_INPUT) k) ?_
  show own_go _ _ _ _ _ _ _ (s₁.setTop (mkF m 0 #[.val (.ref c_ENV_LIVENESS), .val (.ref c_INPUT), .val (.int (0 : Int32))] []))
  refine own_st (fun _ k => XS.aloadN X0.here hx rfl (hb hby d2_0) rfl rfl k) ?_
  show own_go _ _ _ _ _ _ _ (s₁.setTop (mkF m 1 #[.val (.ref c_ENV_LIVENESS), .val (.ref c_INPUT), .val (.int (0 : Int32))] [(.ref c_INPUT)]))
  obtain ⟨v31, T31, L31, X31, hQ31, st31⟩ := own_callV X0 hx hZ (argsL := []) (rest := []) (rm1_0 l Z a0 hw c_INPUT c_OUTPUT c_ENV_INIT c_SYS_INIT c_ENV_TRANS c_SYS_TRANS c_ENV_LIVENESS c_SYS_LIVENESS h0 n0 O0 hS) hown (hw _ (List.mem_of_getElem? (i := 31) rfl)) (hw _ (List.mem_of_getElem? (i := 21) rfl)) (notFace_of_selects (args := #[]) (mvT hZ (hw _ (List.mem_of_getElem? (i := 23) rfl)))) (hw _ (List.mem_of_getElem? (i := 23) rfl)) (hw _ (List.mem_of_getElem? (i := 22) rfl)) (hw _ (List.mem_of_getElem? (i := 3) rfl)) (hw _ (List.mem_of_getElem? (i := 24) rfl)) (by decide) e0 (hS.2.1.ext O0.2) (g := (mkF m 1 #[.val (.ref c_ENV_LIVENESS), .val (.ref c_INPUT), .val (.int (0 : Int32))] [(.ref c_INPUT)])) rfl (by rw [hml]; rfl) (lenOf own_pd__28_29Z rfl) rfl (W := 0) (by show 2 * 0 + _ ≤ _; exact Nat.le_of_eq rfl) (hb hby d2_1) (by decide) (by decide) (by decide) (by decide)
  obtain ⟨rfl, Nq31, eq31⟩ := hQ31
  have N31 := Fr.app N0 Nq31
  refine own_st st31 ?_
  show own_go _ _ _ _ _ _ _ (T31.setTop (mkF m 4 #[.val (.ref c_ENV_LIVENESS), .val (.ref c_INPUT), .val (.int (0 : Int32))] [(.int (1 : Int32))]))
  refine own_st (fun _ k => XS.ifYes X31.here hx rfl (pc0 := 4) (pc' := 24) rfl (hb hby d2_4) rfl (by decide) (by decide) (by decide) k) ?_
  show own_go _ _ _ _ _ _ _ (T31.setTop (mkF m 24 #[.val (.ref c_ENV_LIVENESS), .val (.ref c_INPUT), .val (.int (0 : Int32))] []))
  refine own_st (fun _ k => XS.aloadN X31.here hx rfl (hb hby d2_24) rfl rfl k) ?_
  show own_go _ _ _ _ _ _ _ (T31.setTop (mkF m 25 #[.val (.ref c_ENV_LIVENESS), .val (.ref c_INPUT), .val (.int (0 : Int32))] [(.ref c_ENV_LIVENESS)]))
  obtain ⟨v32, T32, L32, X32, hQ32, st32⟩ := own_callU X31 hx hZ (argsL := []) (rest := []) (rm_ord l Z a0 hw c_ENV_LIVENESS (6 : Int32) h0 n0 O0 (hS.2.2.2.2.2.2.2.2.2.2.2.2.2.2.2.2.2.2.2.1.ext O0.2)) hown (hw _ (List.mem_of_getElem? (i := 32) rfl)) (hw _ (List.mem_of_getElem? (i := 33) rfl)) (hw _ (List.mem_of_getElem? (i := 34) rfl)) (hw _ (List.mem_of_getElem? (i := 36) rfl)) (hw _ (List.mem_of_getElem? (i := 35) rfl)) (hw _ (List.mem_of_getElem? (i := 37) rfl)) (hw _ (List.mem_of_getElem? (i := 38) rfl)) (by decide) eq31 (hS.2.2.2.2.2.2.2.2.2.2.2.2.2.1.ext O0.2) (g := (mkF m 25 #[.val (.ref c_ENV_LIVENESS), .val (.ref c_INPUT), .val (.int (0 : Int32))] [(.ref c_ENV_LIVENESS)])) rfl (by rw [hml]; rfl) (lenOf own_pd__28_29I rfl) rfl (W := 0) (by show 2 * 0 + _ ≤ _; exact Nat.le_of_eq rfl) (hb hby d2_25) (by decide) (by decide) (by decide) (by decide)
  obtain ⟨rfl, Nq32, eq32⟩ := hQ32
  have N32 := Fr.app N31 Nq32
  refine own_st st32 ?_
  show own_go _ _ _ _ _ _ _ (T32.setTop (mkF m 28 #[.val (.ref c_ENV_LIVENESS), .val (.ref c_INPUT), .val (.int (0 : Int32))] [(.int (6 : Int32))]))
  refine own_st (fun _ k => XS.tswIn X32.here hx rfl (pc0 := 28) (pc' := 140) rfl (hb hby d2_28) rfl (by decide) (o := 112) (by decide) (by decide) (by decide) k) ?_
  show own_go _ _ _ _ _ _ _ (T32.setTop (mkF m 140 #[.val (.ref c_ENV_LIVENESS), .val (.ref c_INPUT), .val (.int (0 : Int32))] []))
  refine own_st (fun _ k => XS.iconst X32.here hx rfl (hb hby d2_140) k) ?_
  show own_go _ _ _ _ _ _ _ (T32.setTop (mkF m 141 #[.val (.ref c_ENV_LIVENESS), .val (.ref c_INPUT), .val (.int (0 : Int32))] [(.int (1 : Int32))]))
  exact own_retN X32 hx hlk (t := .boolean) hret (by simp) rfl (hb hby d2_141) (by decide) (by decide) (⟨rfl, N32, eq32⟩)
theorem own_ef_rm2_7 (m : MethodId) (c_SYS_LIVENESS : Addr) (c_INPUT : Addr) : entryFrame m #[(.ref c_SYS_LIVENESS), (.ref c_INPUT), (.int (0 : Int32))] 3 = mkF m 0 #[.val (.ref c_SYS_LIVENESS), .val (.ref c_INPUT), .val (.int (0 : Int32))] [] := by first | (simp [entryFrame, mkF, argsToLocals, Value.category]; done) | rfl
set_option maxRecDepth 65536 in
set_option maxHeartbeats 40000000 in
theorem rm2_7 (l : Launch) (Z : State) (a0 : Array Value) (hw : ∀ d ∈ tables_1, d.before a0 Z = true) (c_INPUT c_OUTPUT c_ENV_INIT c_SYS_INIT c_ENV_TRANS c_SYS_TRANS c_ENV_LIVENESS c_SYS_LIVENESS : Addr) (h0 : Heap) (n0 : Nat) (O0 : Old Z n0 h0) (hS : own_S Z c_INPUT c_OUTPUT c_ENV_INIT c_SYS_INIT c_ENV_TRANS c_SYS_TRANS c_ENV_LIVENESS c_SYS_LIVENESS) :
    own_Met l Z (⟨"com/example/bridgr/bridgr/spec/Section", "admits", "(Lcom/example/bridgr/bridgr/spec/Section;Z)Z"⟩ : MethodName) prog_19_method_7_code 3 (some .boolean) [] ({ frames := 1, cells := 0, slots := 0, locals := 12 } : Room) #[(.ref c_SYS_LIVENESS), (.ref c_INPUT), (.int (0 : Int32))] h0 (fun v h L => v = some (.int (1 : Int32)) ∧ Fr n0 L ∧ h = h0) := by
  refine own_body own_pn_2 ?_
  intro p e s m below meth c s₁ hx hby hml hown hnm hret hlk X0 hZ e0
  replace hown : s.vm.findClass "com/example/bridgr/bridgr/spec/Section" = some m.cls := hown
  have N0 := Fr.nil n0
  have K0 := Keep.refl h0 []
  refine own_st (fun _ k => castTop (own_ef_rm2_7 m c_SYS_LIVENESS c_INPUT) k) ?_
  show own_go _ _ _ _ _ _ _ (s₁.setTop (mkF m 0 #[.val (.ref c_SYS_LIVENESS), .val (.ref c_INPUT), .val (.int (0 : Int32))] []))
  refine own_st (fun _ k => XS.aloadN X0.here hx rfl (hb hby d2_0) rfl rfl k) ?_
  show own_go _ _ _ _ _ _ _ (s₁.setTop (mkF m 1 #[.val (.ref c_SYS_LIVENESS), .val (.ref c_INPUT), .val (.int (0 : Int32))] [(.ref c_INPUT)]))
  obtain ⟨v33, T33, L33, X33, hQ33, st33⟩ := own_callV X0 hx hZ (argsL := []) (rest := []) (rm1_0 l Z a0 hw c_INPUT c_OUTPUT c_ENV_INIT c_SYS_INIT c_ENV_TRANS c_SYS_TRANS c_ENV_LIVENESS c_SYS_LIVENESS h0 n0 O0 hS) hown (hw _ (List.mem_of_getElem? (i := 31) rfl)) (hw _ (List.mem_of_getElem? (i := 21) rfl)) (notFace_of_selects (args := #[]) (mvT hZ (hw _ (List.mem_of_getElem? (i := 23) rfl)))) (hw _ (List.mem_of_getElem? (i := 23) rfl)) (hw _ (List.mem_of_getElem? (i := 22) rfl)) (hw _ (List.mem_of_getElem? (i := 3) rfl)) (hw _ (List.mem_of_getElem? (i := 24) rfl)) (by decide) e0 (hS.2.1.ext O0.2) (g := (mkF m 1 #[.val (.ref c_SYS_LIVENESS), .val (.ref c_INPUT), .val (.int (0 : Int32))] [(.ref c_INPUT)])) rfl (by rw [hml]; rfl) (lenOf own_pd__28_29Z rfl) rfl (W := 0) (by show 2 * 0 + _ ≤ _; exact Nat.le_of_eq rfl) (hb hby d2_1) (by decide) (by decide) (by decide) (by decide)
  obtain ⟨rfl, Nq33, eq33⟩ := hQ33
  have N33 := Fr.app N0 Nq33
  refine own_st st33 ?_
  show own_go _ _ _ _ _ _ _ (T33.setTop (mkF m 4 #[.val (.ref c_SYS_LIVENESS), .val (.ref c_INPUT), .val (.int (0 : Int32))] [(.int (1 : Int32))]))
  refine own_st (fun _ k => XS.ifYes X33.here hx rfl (pc0 := 4) (pc' := 24) rfl (hb hby d2_4) rfl (by decide) (by decide) (by decide) k) ?_
  show own_go _ _ _ _ _ _ _ (T33.setTop (mkF m 24 #[.val (.ref c_SYS_LIVENESS), .val (.ref c_INPUT), .val (.int (0 : Int32))] []))
  refine own_st (fun _ k => XS.aloadN X33.here hx rfl (hb hby d2_24) rfl rfl k) ?_
  show own_go _ _ _ _ _ _ _ (T33.setTop (mkF m 25 #[.val (.ref c_SYS_LIVENESS), .val (.ref c_INPUT), .val (.int (0 : Int32))] [(.ref c_SYS_LIVENESS)]))
  obtain ⟨v34, T34, L34, X34, hQ34, st34⟩ := own_callU X33 hx hZ (argsL := []) (rest := []) (rm_ord l Z a0 hw c_SYS_LIVENESS (7 : Int32) h0 n0 O0 (hS.2.2.2.2.2.2.2.2.2.2.2.2.2.2.2.2.2.2.2.2.1.ext O0.2)) hown (hw _ (List.mem_of_getElem? (i := 32) rfl)) (hw _ (List.mem_of_getElem? (i := 33) rfl)) (hw _ (List.mem_of_getElem? (i := 34) rfl)) (hw _ (List.mem_of_getElem? (i := 36) rfl)) (hw _ (List.mem_of_getElem? (i := 35) rfl)) (hw _ (List.mem_of_getElem? (i := 37) rfl)) (hw _ (List.mem_of_getElem? (i := 38) rfl)) (by decide) eq33 (hS.2.2.2.2.2.2.2.2.2.2.2.2.2.2.2.1.ext O0.2) (g := (mkF m 25 #[.val (.ref c_SYS_LIVENESS), .val (.ref c_INPUT), .val (.int (0 : Int32))] [(.ref c_SYS_LIVENESS)])) rfl (by rw [hml]; rfl) (lenOf own_pd__28_29I rfl) rfl (W := 0) (by show 2 * 0 + _ ≤ _; exact Nat.le_of_eq rfl) (hb hby d2_25) (by decide) (by decide) (by decide) (by decide)
  obtain ⟨rfl, Nq34, eq34⟩ := hQ34
  have N34 := Fr.app N33 Nq34
  refine own_st st34 ?_
  show own_go _ _ _ _ _ _ _ (T34.setTop (mkF m 28 #[.val (.ref c_SYS_LIVENESS), .val (.ref c_INPUT), .val (.int (0 : Int32))] [(.int (7 : Int32))]))
  refine own_st (fun _ k => XS.tswIn X34.here hx rfl (pc0 := 28) (pc' := 140) rfl (hb hby d2_28) rfl (by decide) (o := 112) (by decide) (by decide) (by decide) k) ?_
  show own_go _ _ _ _ _ _ _ (T34.setTop (mkF m 140 #[.val (.ref c_SYS_LIVENESS), .val (.ref c_INPUT), .val (.int (0 : Int32))] []))
  refine own_st (fun _ k => XS.iconst X34.here hx rfl (hb hby d2_140) k) ?_
  show own_go _ _ _ _ _ _ _ (T34.setTop (mkF m 141 #[.val (.ref c_SYS_LIVENESS), .val (.ref c_INPUT), .val (.int (0 : Int32))] [(.int (1 : Int32))]))
  exact own_retN X34 hx hlk (t := .boolean) hret (by simp) rfl (hb hby d2_141) (by decide) (by decide) (⟨rfl, N34, eq34⟩)
theorem own_pn_0 : plainFor x = true := plainFor_of_name (show plainName "com/example/bridgr/bridgr/spec/SectionDeclaresVariablesPinLaw" = true by first | (simp [plainName, overriddenIn]; done) | decide +kernel)
theorem own_pd__28Lcom_2fexample_2fbridgr_2fbridgr_2fspec_2fSection_3bZ_29Z : parseMethodDescriptor "(Lcom/example/bridgr/bridgr/spec/Section;Z)Z" = some ⟨[(.object "com/example/bridgr/bridgr/spec/Section"), .boolean], some .boolean⟩ := by decide +kernel
theorem own_ef_rm0 (m : MethodId) (p0 : Int32) : entryFrame m #[(.int p0)] maxLocals = mkF m 0 #[.val (.int p0), .unset, .unset, .unset, .unset, .unset, .unset] [] := by first | (simp [entryFrame, mkF, argsToLocals, Value.category, maxLocals]; done) | rfl
set_option maxRecDepth 65536 in
set_option maxHeartbeats 40000000 in
theorem rm0 (l : Launch) (Z : State) (a0 : Array Value) (hw : ∀ d ∈ tables_1, d.before a0 Z = true) (ws : List Jvm.Cond) (p0 : Int32) (c_INPUT c_OUTPUT c_ENV_INIT c_SYS_INIT c_ENV_TRANS c_SYS_TRANS c_ENV_LIVENESS c_SYS_LIVENESS : Addr) (h0 : Heap) (n0 : Nat) (O0 : Old Z n0 h0) (hS : own_S Z c_INPUT c_OUTPUT c_ENV_INIT c_SYS_INIT c_ENV_TRANS c_SYS_TRANS c_ENV_LIVENESS c_SYS_LIVENESS) :
    own_Met l Z x code maxLocals ret ws room_1 #[(.int p0)] h0 (fun v h L => v = some (.int 1) ∧ Fr n0 L) := by
  refine own_body own_pn_0 ?_
  intro p e s m below meth c s₁ hx hby hml hown hnm hret hlk X0 hZ e0
  replace hown : s.vm.findClass "com/example/bridgr/bridgr/spec/SectionDeclaresVariablesPinLaw" = some m.cls := hown
  have N0 := Fr.nil n0
  have K0 := Keep.refl h0 []
  refine own_st (fun _ k => castTop (own_ef_rm0 m p0) k) ?_
  show own_go _ _ _ _ _ _ _ (s₁.setTop (mkF m 0 #[.val (.int p0), .unset, .unset, .unset, .unset, .unset, .unset] []))
  refine own_st (fun _ k => XS.bipush X0.here hx rfl (hb hby at_0) k) ?_
  show own_go _ _ _ _ _ _ _ (s₁.setTop (mkF m 2 #[.val (.int p0), .unset, .unset, .unset, .unset, .unset, .unset] [(.int (8 : Int32))]))
  obtain ⟨T35, h35, k35, b35, X35, e35, g35, E35, V35, Ov35, st35⟩ := own_arr X0 hx hZ hown (hw _ (List.mem_of_getElem? (i := 0) rfl)) (hw _ (List.mem_of_getElem? (i := 1) rfl)) e0 (g := (mkF m 2 #[.val (.int p0), .unset, .unset, .unset, .unset, .unset, .unset] [(.int (8 : Int32))])) rfl (hb hby at_2) rfl (by decide) (cap := 8) (by decide) (by decide) (by decide) (by decide)
  have ge_b35 : n0 ≤ b35 := by rw [g35]; exact own_osz O0
  have sz_b35 : h0.size ≤ b35 := by rw [g35]; exact K0.1
  have O35 := O0.ext E35
  have K35 := K0.ext E35
  refine own_st st35 ?_
  show own_go _ _ _ _ _ _ _ (T35.setTop (mkF m 5 #[.val (.int p0), .unset, .unset, .unset, .unset, .unset, .unset] [(.ref b35)]))
  refine own_st (fun _ k => XS.dup X35.here hx rfl (hb hby at_5) rfl rfl k) ?_
  show own_go _ _ _ _ _ _ _ (T35.setTop (mkF m 6 #[.val (.int p0), .unset, .unset, .unset, .unset, .unset, .unset] [(.ref b35), (.ref b35)]))
  refine own_st (fun _ k => XS.iconst X35.here hx rfl (hb hby at_6) k) ?_
  show own_go _ _ _ _ _ _ _ (T35.setTop (mkF m 7 #[.val (.int p0), .unset, .unset, .unset, .unset, .unset, .unset] [(.int (0 : Int32)), (.ref b35), (.ref b35)]))
  obtain ⟨T36, X36, e36, st36⟩ := getS2 X35 hx hZ hown (host := "") (Or.inl (hw _ (List.mem_of_getElem? (i := 2) rfl))) Via.refl e35 (hS.1.ext O35.2) (g := (mkF m 7 #[.val (.int p0), .unset, .unset, .unset, .unset, .unset, .unset] [(.int (0 : Int32)), (.ref b35), (.ref b35)])) rfl (hb hby at_7)
  refine own_st st36 ?_
  show own_go _ _ _ _ _ _ _ (T36.setTop (mkF m 10 #[.val (.int p0), .unset, .unset, .unset, .unset, .unset, .unset] [(.ref c_INPUT), (.int (0 : Int32)), (.ref b35), (.ref b35)]))
  obtain ⟨T37, h37, X37, e37, W37, V37, st37⟩ := own_put X36 hx hZ e36 V35 Ov35 (Ins.self (hS.2.1.ext O35.2)) (j := (0 : Int32)) (by decide) 0 (by decide) (by show 0 < 8; decide) (g := (mkF m 10 #[.val (.int p0), .unset, .unset, .unset, .unset, .unset, .unset] [(.ref c_INPUT), (.int (0 : Int32)), (.ref b35), (.ref b35)])) rfl rfl (hb hby at_10)
  have N37 := Fr.snoc X37 N0 ge_b35
  replace V37 : Arv Z h37 b35 k35 (.object "com/example/bridgr/bridgr/spec/Section") (8 : Int32) [(.ref c_INPUT), .null, .null, .null, .null, .null, .null, .null] .null := V37
  have O38 := O35.wr W37 ge_b35
  have K38 := K35.wr W37 (Or.inr sz_b35)
  refine own_st st37 ?_
  show own_go _ _ _ _ _ _ _ (T37.setTop (mkF m 11 #[.val (.int p0), .unset, .unset, .unset, .unset, .unset, .unset] [(.ref b35)]))
  refine own_st (fun _ k => XS.dup X37.here hx rfl (hb hby at_11) rfl rfl k) ?_
  show own_go _ _ _ _ _ _ _ (T37.setTop (mkF m 12 #[.val (.int p0), .unset, .unset, .unset, .unset, .unset, .unset] [(.ref b35), (.ref b35)]))
  refine own_st (fun _ k => XS.iconst X37.here hx rfl (hb hby at_12) k) ?_
  show own_go _ _ _ _ _ _ _ (T37.setTop (mkF m 13 #[.val (.int p0), .unset, .unset, .unset, .unset, .unset, .unset] [(.int (1 : Int32)), (.ref b35), (.ref b35)]))
  obtain ⟨T39, X39, e39, st39⟩ := getS2 X37 hx hZ hown (host := "") (Or.inl (hw _ (List.mem_of_getElem? (i := 6) rfl))) Via.refl e37 (hS.2.2.1.ext O38.2) (g := (mkF m 13 #[.val (.int p0), .unset, .unset, .unset, .unset, .unset, .unset] [(.int (1 : Int32)), (.ref b35), (.ref b35)])) rfl (hb hby at_13)
  refine own_st st39 ?_
  show own_go _ _ _ _ _ _ _ (T39.setTop (mkF m 16 #[.val (.int p0), .unset, .unset, .unset, .unset, .unset, .unset] [(.ref c_OUTPUT), (.int (1 : Int32)), (.ref b35), (.ref b35)]))
  obtain ⟨T40, h40, X40, e40, W40, V40, st40⟩ := own_put X39 hx hZ e39 V37 Ov35 (Ins.self (hS.2.2.2.1.ext O38.2)) (j := (1 : Int32)) (by decide) 1 (by decide) (by show 1 < 8; decide) (g := (mkF m 16 #[.val (.int p0), .unset, .unset, .unset, .unset, .unset, .unset] [(.ref c_OUTPUT), (.int (1 : Int32)), (.ref b35), (.ref b35)])) rfl rfl (hb hby at_16)
  have N40 := Fr.snoc X40 N37 ge_b35
  replace V40 : Arv Z h40 b35 k35 (.object "com/example/bridgr/bridgr/spec/Section") (8 : Int32) [(.ref c_INPUT), (.ref c_OUTPUT), .null, .null, .null, .null, .null, .null] .null := V40
  have O41 := O38.wr W40 ge_b35
  have K41 := K38.wr W40 (Or.inr sz_b35)
  refine own_st st40 ?_
  show own_go _ _ _ _ _ _ _ (T40.setTop (mkF m 17 #[.val (.int p0), .unset, .unset, .unset, .unset, .unset, .unset] [(.ref b35)]))
  refine own_st (fun _ k => XS.dup X40.here hx rfl (hb hby at_17) rfl rfl k) ?_
  show own_go _ _ _ _ _ _ _ (T40.setTop (mkF m 18 #[.val (.int p0), .unset, .unset, .unset, .unset, .unset, .unset] [(.ref b35), (.ref b35)]))
  refine own_st (fun _ k => XS.iconst X40.here hx rfl (hb hby at_18) k) ?_
  show own_go _ _ _ _ _ _ _ (T40.setTop (mkF m 19 #[.val (.int p0), .unset, .unset, .unset, .unset, .unset, .unset] [(.int (2 : Int32)), (.ref b35), (.ref b35)]))
  obtain ⟨T42, X42, e42, st42⟩ := getS2 X40 hx hZ hown (host := "") (Or.inl (hw _ (List.mem_of_getElem? (i := 8) rfl))) Via.refl e40 (hS.2.2.2.2.1.ext O41.2) (g := (mkF m 19 #[.val (.int p0), .unset, .unset, .unset, .unset, .unset, .unset] [(.int (2 : Int32)), (.ref b35), (.ref b35)])) rfl (hb hby at_19)
  refine own_st st42 ?_
  show own_go _ _ _ _ _ _ _ (T42.setTop (mkF m 22 #[.val (.int p0), .unset, .unset, .unset, .unset, .unset, .unset] [(.ref c_ENV_INIT), (.int (2 : Int32)), (.ref b35), (.ref b35)]))
  obtain ⟨T43, h43, X43, e43, W43, V43, st43⟩ := own_put X42 hx hZ e42 V40 Ov35 (Ins.self (hS.2.2.2.2.2.1.ext O41.2)) (j := (2 : Int32)) (by decide) 2 (by decide) (by show 2 < 8; decide) (g := (mkF m 22 #[.val (.int p0), .unset, .unset, .unset, .unset, .unset, .unset] [(.ref c_ENV_INIT), (.int (2 : Int32)), (.ref b35), (.ref b35)])) rfl rfl (hb hby at_22)
  have N43 := Fr.snoc X43 N40 ge_b35
  replace V43 : Arv Z h43 b35 k35 (.object "com/example/bridgr/bridgr/spec/Section") (8 : Int32) [(.ref c_INPUT), (.ref c_OUTPUT), (.ref c_ENV_INIT), .null, .null, .null, .null, .null] .null := V43
  have O44 := O41.wr W43 ge_b35
  have K44 := K41.wr W43 (Or.inr sz_b35)
  refine own_st st43 ?_
  show own_go _ _ _ _ _ _ _ (T43.setTop (mkF m 23 #[.val (.int p0), .unset, .unset, .unset, .unset, .unset, .unset] [(.ref b35)]))
  refine own_st (fun _ k => XS.dup X43.here hx rfl (hb hby at_23) rfl rfl k) ?_
  show own_go _ _ _ _ _ _ _ (T43.setTop (mkF m 24 #[.val (.int p0), .unset, .unset, .unset, .unset, .unset, .unset] [(.ref b35), (.ref b35)]))
  refine own_st (fun _ k => XS.iconst X43.here hx rfl (hb hby at_24) k) ?_
  show own_go _ _ _ _ _ _ _ (T43.setTop (mkF m 25 #[.val (.int p0), .unset, .unset, .unset, .unset, .unset, .unset] [(.int (3 : Int32)), (.ref b35), (.ref b35)]))
  obtain ⟨T45, X45, e45, st45⟩ := getS2 X43 hx hZ hown (host := "") (Or.inl (hw _ (List.mem_of_getElem? (i := 10) rfl))) Via.refl e43 (hS.2.2.2.2.2.2.1.ext O44.2) (g := (mkF m 25 #[.val (.int p0), .unset, .unset, .unset, .unset, .unset, .unset] [(.int (3 : Int32)), (.ref b35), (.ref b35)])) rfl (hb hby at_25)
  refine own_st st45 ?_
  show own_go _ _ _ _ _ _ _ (T45.setTop (mkF m 28 #[.val (.int p0), .unset, .unset, .unset, .unset, .unset, .unset] [(.ref c_SYS_INIT), (.int (3 : Int32)), (.ref b35), (.ref b35)]))
  obtain ⟨T46, h46, X46, e46, W46, V46, st46⟩ := own_put X45 hx hZ e45 V43 Ov35 (Ins.self (hS.2.2.2.2.2.2.2.1.ext O44.2)) (j := (3 : Int32)) (by decide) 3 (by decide) (by show 3 < 8; decide) (g := (mkF m 28 #[.val (.int p0), .unset, .unset, .unset, .unset, .unset, .unset] [(.ref c_SYS_INIT), (.int (3 : Int32)), (.ref b35), (.ref b35)])) rfl rfl (hb hby at_28)
  have N46 := Fr.snoc X46 N43 ge_b35
  replace V46 : Arv Z h46 b35 k35 (.object "com/example/bridgr/bridgr/spec/Section") (8 : Int32) [(.ref c_INPUT), (.ref c_OUTPUT), (.ref c_ENV_INIT), (.ref c_SYS_INIT), .null, .null, .null, .null] .null := V46
  have O47 := O44.wr W46 ge_b35
  have K47 := K44.wr W46 (Or.inr sz_b35)
  refine own_st st46 ?_
  show own_go _ _ _ _ _ _ _ (T46.setTop (mkF m 29 #[.val (.int p0), .unset, .unset, .unset, .unset, .unset, .unset] [(.ref b35)]))
  refine own_st (fun _ k => XS.dup X46.here hx rfl (hb hby at_29) rfl rfl k) ?_
  show own_go _ _ _ _ _ _ _ (T46.setTop (mkF m 30 #[.val (.int p0), .unset, .unset, .unset, .unset, .unset, .unset] [(.ref b35), (.ref b35)]))
  refine own_st (fun _ k => XS.iconst X46.here hx rfl (hb hby at_30) k) ?_
  show own_go _ _ _ _ _ _ _ (T46.setTop (mkF m 31 #[.val (.int p0), .unset, .unset, .unset, .unset, .unset, .unset] [(.int (4 : Int32)), (.ref b35), (.ref b35)]))
  obtain ⟨T48, X48, e48, st48⟩ := getS2 X46 hx hZ hown (host := "") (Or.inl (hw _ (List.mem_of_getElem? (i := 12) rfl))) Via.refl e46 (hS.2.2.2.2.2.2.2.2.1.ext O47.2) (g := (mkF m 31 #[.val (.int p0), .unset, .unset, .unset, .unset, .unset, .unset] [(.int (4 : Int32)), (.ref b35), (.ref b35)])) rfl (hb hby at_31)
  refine own_st st48 ?_
  show own_go _ _ _ _ _ _ _ (T48.setTop (mkF m 34 #[.val (.int p0), .unset, .unset, .unset, .unset, .unset, .unset] [(.ref c_ENV_TRANS), (.int (4 : Int32)), (.ref b35), (.ref b35)]))
  obtain ⟨T49, h49, X49, e49, W49, V49, st49⟩ := own_put X48 hx hZ e48 V46 Ov35 (Ins.self (hS.2.2.2.2.2.2.2.2.2.1.ext O47.2)) (j := (4 : Int32)) (by decide) 4 (by decide) (by show 4 < 8; decide) (g := (mkF m 34 #[.val (.int p0), .unset, .unset, .unset, .unset, .unset, .unset] [(.ref c_ENV_TRANS), (.int (4 : Int32)), (.ref b35), (.ref b35)])) rfl rfl (hb hby at_34)
  have N49 := Fr.snoc X49 N46 ge_b35
  replace V49 : Arv Z h49 b35 k35 (.object "com/example/bridgr/bridgr/spec/Section") (8 : Int32) [(.ref c_INPUT), (.ref c_OUTPUT), (.ref c_ENV_INIT), (.ref c_SYS_INIT), (.ref c_ENV_TRANS), .null, .null, .null] .null := V49
  have O50 := O47.wr W49 ge_b35
  have K50 := K47.wr W49 (Or.inr sz_b35)
  refine own_st st49 ?_
  show own_go _ _ _ _ _ _ _ (T49.setTop (mkF m 35 #[.val (.int p0), .unset, .unset, .unset, .unset, .unset, .unset] [(.ref b35)]))
  refine own_st (fun _ k => XS.dup X49.here hx rfl (hb hby at_35) rfl rfl k) ?_
  show own_go _ _ _ _ _ _ _ (T49.setTop (mkF m 36 #[.val (.int p0), .unset, .unset, .unset, .unset, .unset, .unset] [(.ref b35), (.ref b35)]))
  refine own_st (fun _ k => XS.iconst X49.here hx rfl (hb hby at_36) k) ?_
  show own_go _ _ _ _ _ _ _ (T49.setTop (mkF m 37 #[.val (.int p0), .unset, .unset, .unset, .unset, .unset, .unset] [(.int (5 : Int32)), (.ref b35), (.ref b35)]))
  obtain ⟨T51, X51, e51, st51⟩ := getS2 X49 hx hZ hown (host := "") (Or.inl (hw _ (List.mem_of_getElem? (i := 14) rfl))) Via.refl e49 (hS.2.2.2.2.2.2.2.2.2.2.1.ext O50.2) (g := (mkF m 37 #[.val (.int p0), .unset, .unset, .unset, .unset, .unset, .unset] [(.int (5 : Int32)), (.ref b35), (.ref b35)])) rfl (hb hby at_37)
  refine own_st st51 ?_
  show own_go _ _ _ _ _ _ _ (T51.setTop (mkF m 40 #[.val (.int p0), .unset, .unset, .unset, .unset, .unset, .unset] [(.ref c_SYS_TRANS), (.int (5 : Int32)), (.ref b35), (.ref b35)]))
  obtain ⟨T52, h52, X52, e52, W52, V52, st52⟩ := own_put X51 hx hZ e51 V49 Ov35 (Ins.self (hS.2.2.2.2.2.2.2.2.2.2.2.1.ext O50.2)) (j := (5 : Int32)) (by decide) 5 (by decide) (by show 5 < 8; decide) (g := (mkF m 40 #[.val (.int p0), .unset, .unset, .unset, .unset, .unset, .unset] [(.ref c_SYS_TRANS), (.int (5 : Int32)), (.ref b35), (.ref b35)])) rfl rfl (hb hby at_40)
  have N52 := Fr.snoc X52 N49 ge_b35
  replace V52 : Arv Z h52 b35 k35 (.object "com/example/bridgr/bridgr/spec/Section") (8 : Int32) [(.ref c_INPUT), (.ref c_OUTPUT), (.ref c_ENV_INIT), (.ref c_SYS_INIT), (.ref c_ENV_TRANS), (.ref c_SYS_TRANS), .null, .null] .null := V52
  have O53 := O50.wr W52 ge_b35
  have K53 := K50.wr W52 (Or.inr sz_b35)
  refine own_st st52 ?_
  show own_go _ _ _ _ _ _ _ (T52.setTop (mkF m 41 #[.val (.int p0), .unset, .unset, .unset, .unset, .unset, .unset] [(.ref b35)]))
  refine own_st (fun _ k => XS.dup X52.here hx rfl (hb hby at_41) rfl rfl k) ?_
  show own_go _ _ _ _ _ _ _ (T52.setTop (mkF m 42 #[.val (.int p0), .unset, .unset, .unset, .unset, .unset, .unset] [(.ref b35), (.ref b35)]))
  refine own_st (fun _ k => XS.bipush X52.here hx rfl (hb hby at_42) k) ?_
  show own_go _ _ _ _ _ _ _ (T52.setTop (mkF m 44 #[.val (.int p0), .unset, .unset, .unset, .unset, .unset, .unset] [(.int (6 : Int32)), (.ref b35), (.ref b35)]))
  obtain ⟨T54, X54, e54, st54⟩ := getS2 X52 hx hZ hown (host := "") (Or.inl (hw _ (List.mem_of_getElem? (i := 16) rfl))) Via.refl e52 (hS.2.2.2.2.2.2.2.2.2.2.2.2.1.ext O53.2) (g := (mkF m 44 #[.val (.int p0), .unset, .unset, .unset, .unset, .unset, .unset] [(.int (6 : Int32)), (.ref b35), (.ref b35)])) rfl (hb hby at_44)
  refine own_st st54 ?_
  show own_go _ _ _ _ _ _ _ (T54.setTop (mkF m 47 #[.val (.int p0), .unset, .unset, .unset, .unset, .unset, .unset] [(.ref c_ENV_LIVENESS), (.int (6 : Int32)), (.ref b35), (.ref b35)]))
  obtain ⟨T55, h55, X55, e55, W55, V55, st55⟩ := own_put X54 hx hZ e54 V52 Ov35 (Ins.self (hS.2.2.2.2.2.2.2.2.2.2.2.2.2.1.ext O53.2)) (j := (6 : Int32)) (by decide) 6 (by decide) (by show 6 < 8; decide) (g := (mkF m 47 #[.val (.int p0), .unset, .unset, .unset, .unset, .unset, .unset] [(.ref c_ENV_LIVENESS), (.int (6 : Int32)), (.ref b35), (.ref b35)])) rfl rfl (hb hby at_47)
  have N55 := Fr.snoc X55 N52 ge_b35
  replace V55 : Arv Z h55 b35 k35 (.object "com/example/bridgr/bridgr/spec/Section") (8 : Int32) [(.ref c_INPUT), (.ref c_OUTPUT), (.ref c_ENV_INIT), (.ref c_SYS_INIT), (.ref c_ENV_TRANS), (.ref c_SYS_TRANS), (.ref c_ENV_LIVENESS), .null] .null := V55
  have O56 := O53.wr W55 ge_b35
  have K56 := K53.wr W55 (Or.inr sz_b35)
  refine own_st st55 ?_
  show own_go _ _ _ _ _ _ _ (T55.setTop (mkF m 48 #[.val (.int p0), .unset, .unset, .unset, .unset, .unset, .unset] [(.ref b35)]))
  refine own_st (fun _ k => XS.dup X55.here hx rfl (hb hby at_48) rfl rfl k) ?_
  show own_go _ _ _ _ _ _ _ (T55.setTop (mkF m 49 #[.val (.int p0), .unset, .unset, .unset, .unset, .unset, .unset] [(.ref b35), (.ref b35)]))
  refine own_st (fun _ k => XS.bipush X55.here hx rfl (hb hby at_49) k) ?_
  show own_go _ _ _ _ _ _ _ (T55.setTop (mkF m 51 #[.val (.int p0), .unset, .unset, .unset, .unset, .unset, .unset] [(.int (7 : Int32)), (.ref b35), (.ref b35)]))
  obtain ⟨T57, X57, e57, st57⟩ := getS2 X55 hx hZ hown (host := "") (Or.inl (hw _ (List.mem_of_getElem? (i := 18) rfl))) Via.refl e55 (hS.2.2.2.2.2.2.2.2.2.2.2.2.2.2.1.ext O56.2) (g := (mkF m 51 #[.val (.int p0), .unset, .unset, .unset, .unset, .unset, .unset] [(.int (7 : Int32)), (.ref b35), (.ref b35)])) rfl (hb hby at_51)
  refine own_st st57 ?_
  show own_go _ _ _ _ _ _ _ (T57.setTop (mkF m 54 #[.val (.int p0), .unset, .unset, .unset, .unset, .unset, .unset] [(.ref c_SYS_LIVENESS), (.int (7 : Int32)), (.ref b35), (.ref b35)]))
  obtain ⟨T58, h58, X58, e58, W58, V58, st58⟩ := own_put X57 hx hZ e57 V55 Ov35 (Ins.self (hS.2.2.2.2.2.2.2.2.2.2.2.2.2.2.2.1.ext O56.2)) (j := (7 : Int32)) (by decide) 7 (by decide) (by show 7 < 8; decide) (g := (mkF m 54 #[.val (.int p0), .unset, .unset, .unset, .unset, .unset, .unset] [(.ref c_SYS_LIVENESS), (.int (7 : Int32)), (.ref b35), (.ref b35)])) rfl rfl (hb hby at_54)
  have N58 := Fr.snoc X58 N55 ge_b35
  replace V58 : Arv Z h58 b35 k35 (.object "com/example/bridgr/bridgr/spec/Section") (8 : Int32) [(.ref c_INPUT), (.ref c_OUTPUT), (.ref c_ENV_INIT), (.ref c_SYS_INIT), (.ref c_ENV_TRANS), (.ref c_SYS_TRANS), (.ref c_ENV_LIVENESS), (.ref c_SYS_LIVENESS)] .null := V58
  have O59 := O56.wr W58 ge_b35
  have K59 := K56.wr W58 (Or.inr sz_b35)
  refine own_st st58 ?_
  show own_go _ _ _ _ _ _ _ (T58.setTop (mkF m 55 #[.val (.int p0), .unset, .unset, .unset, .unset, .unset, .unset] [(.ref b35)]))
  refine own_st (fun _ k => XS.astoreN X58.here hx rfl (hb hby at_55) rfl rfl (l' := #[.val (.int p0), .val (.ref b35), .unset, .unset, .unset, .unset, .unset]) rfl k) ?_
  show own_go _ _ _ _ _ _ _ (T58.setTop (mkF m 56 #[.val (.int p0), .val (.ref b35), .unset, .unset, .unset, .unset, .unset] []))
  refine own_st (fun _ k => XS.iloadN X58.here hx rfl (hb hby at_56) rfl k) ?_
  show own_go _ _ _ _ _ _ _ (T58.setTop (mkF m 57 #[.val (.int p0), .val (.ref b35), .unset, .unset, .unset, .unset, .unset] [(.int p0)]))
  refine own_st (fun _ k => XS.bipush X58.here hx rfl (hb hby at_57) k) ?_
  show own_go _ _ _ _ _ _ _ (T58.setTop (mkF m 59 #[.val (.int p0), .val (.ref b35), .unset, .unset, .unset, .unset, .unset] [(.int (7 : Int32)), (.int p0)]))
  refine own_st (fun _ k => XS.iand X58.here hx rfl (hb hby at_59) rfl k) ?_
  show own_go _ _ _ _ _ _ _ (T58.setTop (mkF m 60 #[.val (.int p0), .val (.ref b35), .unset, .unset, .unset, .unset, .unset] [(.int (p0 &&& (7 : Int32)))]))
  rcases own_rem p0 with q | q | q | q | q | q | q | q
  · skip
    rw [q]
    show own_go _ _ _ _ _ _ _ (T58.setTop (mkF m 60 #[.val (.int p0), .val (.ref b35), .unset, .unset, .unset, .unset, .unset] [(.int (0 : Int32))]))
    refine own_st (fun _ k => XS.istoreN X58.here hx rfl (hb hby at_60) rfl (l' := #[.val (.int p0), .val (.ref b35), .val (.int (0 : Int32)), .unset, .unset, .unset, .unset]) rfl k) ?_
    show own_go _ _ _ _ _ _ _ (T58.setTop (mkF m 61 #[.val (.int p0), .val (.ref b35), .val (.int (0 : Int32)), .unset, .unset, .unset, .unset] []))
    refine own_st (fun _ k => XS.aloadN X58.here hx rfl (hb hby at_61) rfl rfl k) ?_
    show own_go _ _ _ _ _ _ _ (T58.setTop (mkF m 62 #[.val (.int p0), .val (.ref b35), .val (.int (0 : Int32)), .unset, .unset, .unset, .unset] [(.ref b35)]))
    refine own_st (fun _ k => XS.iloadN X58.here hx rfl (hb hby at_62) rfl k) ?_
    show own_go _ _ _ _ _ _ _ (T58.setTop (mkF m 63 #[.val (.int p0), .val (.ref b35), .val (.int (0 : Int32)), .unset, .unset, .unset, .unset] [(.int (0 : Int32)), (.ref b35)]))
    refine own_st (own_get X58 hx hZ e58 V58 rfl (j := (0 : Int32)) (by decide) (v := (.ref c_INPUT)) rfl (g := (mkF m 63 #[.val (.int p0), .val (.ref b35), .val (.int (0 : Int32)), .unset, .unset, .unset, .unset] [(.int (0 : Int32)), (.ref b35)])) rfl rfl (hb hby at_63)) ?_
    show own_go _ _ _ _ _ _ _ (T58.setTop (mkF m 64 #[.val (.int p0), .val (.ref b35), .val (.int (0 : Int32)), .unset, .unset, .unset, .unset] [(.ref c_INPUT)]))
    refine own_st (fun _ k => XS.astoreN X58.here hx rfl (hb hby at_64) rfl rfl (l' := #[.val (.int p0), .val (.ref b35), .val (.int (0 : Int32)), .val (.ref c_INPUT), .unset, .unset, .unset]) rfl k) ?_
    show own_go _ _ _ _ _ _ _ (T58.setTop (mkF m 65 #[.val (.int p0), .val (.ref b35), .val (.int (0 : Int32)), .val (.ref c_INPUT), .unset, .unset, .unset] []))
    refine own_st (fun _ k => XS.iloadN X58.here hx rfl (hb hby at_65) rfl k) ?_
    show own_go _ _ _ _ _ _ _ (T58.setTop (mkF m 66 #[.val (.int p0), .val (.ref b35), .val (.int (0 : Int32)), .val (.ref c_INPUT), .unset, .unset, .unset] [(.int (0 : Int32))]))
    refine own_st (fun _ k => XS.iconst X58.here hx rfl (hb hby at_66) k) ?_
    show own_go _ _ _ _ _ _ _ (T58.setTop (mkF m 67 #[.val (.int p0), .val (.ref b35), .val (.int (0 : Int32)), .val (.ref c_INPUT), .unset, .unset, .unset] [(.int (2 : Int32)), (.int (0 : Int32))]))
    refine own_st (fun _ k => XS.icmpNo X58.here hx rfl (hb hby at_67) rfl (by decide) k) ?_
    show own_go _ _ _ _ _ _ _ (T58.setTop (mkF m 70 #[.val (.int p0), .val (.ref b35), .val (.int (0 : Int32)), .val (.ref c_INPUT), .unset, .unset, .unset] []))
    refine own_st (fun _ k => XS.iconst X58.here hx rfl (hb hby at_70) k) ?_
    show own_go _ _ _ _ _ _ _ (T58.setTop (mkF m 71 #[.val (.int p0), .val (.ref b35), .val (.int (0 : Int32)), .val (.ref c_INPUT), .unset, .unset, .unset] [(.int (1 : Int32))]))
    refine own_st (fun _ k => XS.goto X58.here hx rfl (pc0 := 71) (pc' := 75) rfl (hb hby at_71) (by decide) (by decide) k) ?_
    show own_go _ _ _ _ _ _ _ (T58.setTop (mkF m 75 #[.val (.int p0), .val (.ref b35), .val (.int (0 : Int32)), .val (.ref c_INPUT), .unset, .unset, .unset] [(.int (1 : Int32))]))
    refine own_st (fun _ k => XS.istore X58.here hx rfl (hb hby at_75) rfl (l' := #[.val (.int p0), .val (.ref b35), .val (.int (0 : Int32)), .val (.ref c_INPUT), .val (.int (1 : Int32)), .unset, .unset]) rfl k) ?_
    show own_go _ _ _ _ _ _ _ (T58.setTop (mkF m 77 #[.val (.int p0), .val (.ref b35), .val (.int (0 : Int32)), .val (.ref c_INPUT), .val (.int (1 : Int32)), .unset, .unset] []))
    refine own_st (fun _ k => XS.aloadN X58.here hx rfl (hb hby at_77) rfl rfl k) ?_
    show own_go _ _ _ _ _ _ _ (T58.setTop (mkF m 78 #[.val (.int p0), .val (.ref b35), .val (.int (0 : Int32)), .val (.ref c_INPUT), .val (.int (1 : Int32)), .unset, .unset] [(.ref c_INPUT)]))
    obtain ⟨v60, T60, L60, X60, hQ60, st60⟩ := own_callV X58 hx hZ (argsL := []) (rest := []) (rm1_0 l Z a0 hw c_INPUT c_OUTPUT c_ENV_INIT c_SYS_INIT c_ENV_TRANS c_SYS_TRANS c_ENV_LIVENESS c_SYS_LIVENESS h58 n0 O59 hS) hown (hw _ (List.mem_of_getElem? (i := 20) rfl)) (hw _ (List.mem_of_getElem? (i := 21) rfl)) (notFace_of_selects (args := #[]) (mvT hZ (hw _ (List.mem_of_getElem? (i := 23) rfl)))) (hw _ (List.mem_of_getElem? (i := 23) rfl)) (hw _ (List.mem_of_getElem? (i := 22) rfl)) (hw _ (List.mem_of_getElem? (i := 3) rfl)) (hw _ (List.mem_of_getElem? (i := 24) rfl)) (by decide) e58 (hS.2.1.ext O59.2) (g := (mkF m 78 #[.val (.int p0), .val (.ref b35), .val (.int (0 : Int32)), .val (.ref c_INPUT), .val (.int (1 : Int32)), .unset, .unset] [(.ref c_INPUT)])) rfl (by rw [hml]; rfl) (lenOf own_pd__28_29Z rfl) rfl (W := 0) (by show 2 * 0 + _ ≤ _; exact Nat.le_of_eq rfl) (hb hby at_78) (by decide) (by decide) (by decide) (by decide)
    obtain ⟨rfl, Nq60, eq60⟩ := hQ60
    have N60 := Fr.app N58 Nq60
    refine own_st st60 ?_
    show own_go _ _ _ _ _ _ _ (T60.setTop (mkF m 81 #[.val (.int p0), .val (.ref b35), .val (.int (0 : Int32)), .val (.ref c_INPUT), .val (.int (1 : Int32)), .unset, .unset] [(.int (1 : Int32))]))
    refine own_st (fun _ k => XS.istore X60.here hx rfl (hb hby at_81) rfl (l' := #[.val (.int p0), .val (.ref b35), .val (.int (0 : Int32)), .val (.ref c_INPUT), .val (.int (1 : Int32)), .val (.int (1 : Int32)), .unset]) rfl k) ?_
    show own_go _ _ _ _ _ _ _ (T60.setTop (mkF m 83 #[.val (.int p0), .val (.ref b35), .val (.int (0 : Int32)), .val (.ref c_INPUT), .val (.int (1 : Int32)), .val (.int (1 : Int32)), .unset] []))
    refine own_st (fun _ k => XS.iload X60.here hx rfl (hb hby at_83) rfl k) ?_
    show own_go _ _ _ _ _ _ _ (T60.setTop (mkF m 85 #[.val (.int p0), .val (.ref b35), .val (.int (0 : Int32)), .val (.ref c_INPUT), .val (.int (1 : Int32)), .val (.int (1 : Int32)), .unset] [(.int (1 : Int32))]))
    refine own_st (fun _ k => XS.iload X60.here hx rfl (hb hby at_85) rfl k) ?_
    show own_go _ _ _ _ _ _ _ (T60.setTop (mkF m 87 #[.val (.int p0), .val (.ref b35), .val (.int (0 : Int32)), .val (.ref c_INPUT), .val (.int (1 : Int32)), .val (.int (1 : Int32)), .unset] [(.int (1 : Int32)), (.int (1 : Int32))]))
    refine own_st (fun _ k => XS.icmpYes X60.here hx rfl (pc0 := 87) (pc' := 92) rfl (hb hby at_87) rfl (by decide) (by decide) (by decide) k) ?_
    show own_go _ _ _ _ _ _ _ (T60.setTop (mkF m 92 #[.val (.int p0), .val (.ref b35), .val (.int (0 : Int32)), .val (.ref c_INPUT), .val (.int (1 : Int32)), .val (.int (1 : Int32)), .unset] []))
    refine own_st (fun _ k => XS.aloadN X60.here hx rfl (hb hby at_92) rfl rfl k) ?_
    show own_go _ _ _ _ _ _ _ (T60.setTop (mkF m 93 #[.val (.int p0), .val (.ref b35), .val (.int (0 : Int32)), .val (.ref c_INPUT), .val (.int (1 : Int32)), .val (.int (1 : Int32)), .unset] [(.ref c_INPUT)]))
    obtain ⟨T61, X61, e61, st61⟩ := getS2 X60 hx hZ hown (host := "") (Or.inl (hw _ (List.mem_of_getElem? (i := 2) rfl))) Via.refl eq60 (hS.1.ext O59.2) (g := (mkF m 93 #[.val (.int p0), .val (.ref b35), .val (.int (0 : Int32)), .val (.ref c_INPUT), .val (.int (1 : Int32)), .val (.int (1 : Int32)), .unset] [(.ref c_INPUT)])) rfl (hb hby at_93)
    refine own_st st61 ?_
    show own_go _ _ _ _ _ _ _ (T61.setTop (mkF m 96 #[.val (.int p0), .val (.ref b35), .val (.int (0 : Int32)), .val (.ref c_INPUT), .val (.int (1 : Int32)), .val (.int (1 : Int32)), .unset] [(.ref c_INPUT), (.ref c_INPUT)]))
    refine own_st (fun _ k => XS.iconst X61.here hx rfl (hb hby at_96) k) ?_
    show own_go _ _ _ _ _ _ _ (T61.setTop (mkF m 97 #[.val (.int p0), .val (.ref b35), .val (.int (0 : Int32)), .val (.ref c_INPUT), .val (.int (1 : Int32)), .val (.int (1 : Int32)), .unset] [(.int (0 : Int32)), (.ref c_INPUT), (.ref c_INPUT)]))
    obtain ⟨v62, T62, L62, X62, hQ62, st62⟩ := own_callV X61 hx hZ (argsL := [(.ref c_INPUT), (.int (0 : Int32))]) (rest := []) (rm2_0 l Z a0 hw c_INPUT c_OUTPUT c_ENV_INIT c_SYS_INIT c_ENV_TRANS c_SYS_TRANS c_ENV_LIVENESS c_SYS_LIVENESS h58 n0 O59 hS) hown (hw _ (List.mem_of_getElem? (i := 26) rfl)) (hw _ (List.mem_of_getElem? (i := 27) rfl)) (notFace_of_selects (args := #[]) (mvT hZ (hw _ (List.mem_of_getElem? (i := 29) rfl)))) (hw _ (List.mem_of_getElem? (i := 29) rfl)) (hw _ (List.mem_of_getElem? (i := 28) rfl)) (hw _ (List.mem_of_getElem? (i := 3) rfl)) (hw _ (List.mem_of_getElem? (i := 30) rfl)) (by decide) e61 (hS.2.1.ext O59.2) (g := (mkF m 97 #[.val (.int p0), .val (.ref b35), .val (.int (0 : Int32)), .val (.ref c_INPUT), .val (.int (1 : Int32)), .val (.int (1 : Int32)), .unset] [(.int (0 : Int32)), (.ref c_INPUT), (.ref c_INPUT)])) rfl (by rw [hml]; rfl) (lenOf own_pd__28Lcom_2fexample_2fbridgr_2fbridgr_2fspec_2fSection_3bZ_29Z rfl) rfl (W := 0) (by show 2 * 0 + _ ≤ _; exact Nat.le_of_eq rfl) (hb hby at_97) (by decide) (by decide) (by decide) (by decide)
    obtain ⟨rfl, Nq62, eq62⟩ := hQ62
    have N62 := Fr.app N60 Nq62
    refine own_st st62 ?_
    show own_go _ _ _ _ _ _ _ (T62.setTop (mkF m 100 #[.val (.int p0), .val (.ref b35), .val (.int (0 : Int32)), .val (.ref c_INPUT), .val (.int (1 : Int32)), .val (.int (1 : Int32)), .unset] [(.int (0 : Int32))]))
    refine own_st (fun _ k => XS.istore X62.here hx rfl (hb hby at_100) rfl (l' := #[.val (.int p0), .val (.ref b35), .val (.int (0 : Int32)), .val (.ref c_INPUT), .val (.int (1 : Int32)), .val (.int (1 : Int32)), .val (.int (0 : Int32))]) rfl k) ?_
    show own_go _ _ _ _ _ _ _ (T62.setTop (mkF m 102 #[.val (.int p0), .val (.ref b35), .val (.int (0 : Int32)), .val (.ref c_INPUT), .val (.int (1 : Int32)), .val (.int (1 : Int32)), .val (.int (0 : Int32))] []))
    refine own_st (fun _ k => XS.iload X62.here hx rfl (hb hby at_102) rfl k) ?_
    show own_go _ _ _ _ _ _ _ (T62.setTop (mkF m 104 #[.val (.int p0), .val (.ref b35), .val (.int (0 : Int32)), .val (.ref c_INPUT), .val (.int (1 : Int32)), .val (.int (1 : Int32)), .val (.int (0 : Int32))] [(.int (1 : Int32))]))
    refine own_st (fun _ k => XS.iload X62.here hx rfl (hb hby at_104) rfl k) ?_
    show own_go _ _ _ _ _ _ _ (T62.setTop (mkF m 106 #[.val (.int p0), .val (.ref b35), .val (.int (0 : Int32)), .val (.ref c_INPUT), .val (.int (1 : Int32)), .val (.int (1 : Int32)), .val (.int (0 : Int32))] [(.int (0 : Int32)), (.int (1 : Int32))]))
    refine own_st (fun _ k => XS.ifNo X62.here hx rfl (hb hby at_106) rfl (by decide) k) ?_
    show own_go _ _ _ _ _ _ _ (T62.setTop (mkF m 109 #[.val (.int p0), .val (.ref b35), .val (.int (0 : Int32)), .val (.ref c_INPUT), .val (.int (1 : Int32)), .val (.int (1 : Int32)), .val (.int (0 : Int32))] [(.int (1 : Int32))]))
    refine own_st (fun _ k => XS.iconst X62.here hx rfl (hb hby at_109) k) ?_
    show own_go _ _ _ _ _ _ _ (T62.setTop (mkF m 110 #[.val (.int p0), .val (.ref b35), .val (.int (0 : Int32)), .val (.ref c_INPUT), .val (.int (1 : Int32)), .val (.int (1 : Int32)), .val (.int (0 : Int32))] [(.int (1 : Int32)), (.int (1 : Int32))]))
    refine own_st (fun _ k => XS.goto X62.here hx rfl (pc0 := 110) (pc' := 114) rfl (hb hby at_110) (by decide) (by decide) k) ?_
    show own_go _ _ _ _ _ _ _ (T62.setTop (mkF m 114 #[.val (.int p0), .val (.ref b35), .val (.int (0 : Int32)), .val (.ref c_INPUT), .val (.int (1 : Int32)), .val (.int (1 : Int32)), .val (.int (0 : Int32))] [(.int (1 : Int32)), (.int (1 : Int32))]))
    refine own_st (fun _ k => XS.icmpNo X62.here hx rfl (hb hby at_114) rfl (by decide) k) ?_
    show own_go _ _ _ _ _ _ _ (T62.setTop (mkF m 117 #[.val (.int p0), .val (.ref b35), .val (.int (0 : Int32)), .val (.ref c_INPUT), .val (.int (1 : Int32)), .val (.int (1 : Int32)), .val (.int (0 : Int32))] []))
    refine own_st (fun _ k => XS.iconst X62.here hx rfl (hb hby at_117) k) ?_
    show own_go _ _ _ _ _ _ _ (T62.setTop (mkF m 118 #[.val (.int p0), .val (.ref b35), .val (.int (0 : Int32)), .val (.ref c_INPUT), .val (.int (1 : Int32)), .val (.int (1 : Int32)), .val (.int (0 : Int32))] [(.int (1 : Int32))]))
    refine own_st (fun _ k => XS.goto X62.here hx rfl (pc0 := 118) (pc' := 122) rfl (hb hby at_118) (by decide) (by decide) k) ?_
    show own_go _ _ _ _ _ _ _ (T62.setTop (mkF m 122 #[.val (.int p0), .val (.ref b35), .val (.int (0 : Int32)), .val (.ref c_INPUT), .val (.int (1 : Int32)), .val (.int (1 : Int32)), .val (.int (0 : Int32))] [(.int (1 : Int32))]))
    exact own_retN X62 hx hlk (t := .boolean) hret (by simp) rfl (hb hby at_122) (by decide) (by decide) (⟨rfl, N62⟩)
  · skip
    rw [q]
    show own_go _ _ _ _ _ _ _ (T58.setTop (mkF m 60 #[.val (.int p0), .val (.ref b35), .unset, .unset, .unset, .unset, .unset] [(.int (1 : Int32))]))
    refine own_st (fun _ k => XS.istoreN X58.here hx rfl (hb hby at_60) rfl (l' := #[.val (.int p0), .val (.ref b35), .val (.int (1 : Int32)), .unset, .unset, .unset, .unset]) rfl k) ?_
    show own_go _ _ _ _ _ _ _ (T58.setTop (mkF m 61 #[.val (.int p0), .val (.ref b35), .val (.int (1 : Int32)), .unset, .unset, .unset, .unset] []))
    refine own_st (fun _ k => XS.aloadN X58.here hx rfl (hb hby at_61) rfl rfl k) ?_
    show own_go _ _ _ _ _ _ _ (T58.setTop (mkF m 62 #[.val (.int p0), .val (.ref b35), .val (.int (1 : Int32)), .unset, .unset, .unset, .unset] [(.ref b35)]))
    refine own_st (fun _ k => XS.iloadN X58.here hx rfl (hb hby at_62) rfl k) ?_
    show own_go _ _ _ _ _ _ _ (T58.setTop (mkF m 63 #[.val (.int p0), .val (.ref b35), .val (.int (1 : Int32)), .unset, .unset, .unset, .unset] [(.int (1 : Int32)), (.ref b35)]))
    refine own_st (own_get X58 hx hZ e58 V58 rfl (j := (1 : Int32)) (by decide) (v := (.ref c_OUTPUT)) rfl (g := (mkF m 63 #[.val (.int p0), .val (.ref b35), .val (.int (1 : Int32)), .unset, .unset, .unset, .unset] [(.int (1 : Int32)), (.ref b35)])) rfl rfl (hb hby at_63)) ?_
    show own_go _ _ _ _ _ _ _ (T58.setTop (mkF m 64 #[.val (.int p0), .val (.ref b35), .val (.int (1 : Int32)), .unset, .unset, .unset, .unset] [(.ref c_OUTPUT)]))
    refine own_st (fun _ k => XS.astoreN X58.here hx rfl (hb hby at_64) rfl rfl (l' := #[.val (.int p0), .val (.ref b35), .val (.int (1 : Int32)), .val (.ref c_OUTPUT), .unset, .unset, .unset]) rfl k) ?_
    show own_go _ _ _ _ _ _ _ (T58.setTop (mkF m 65 #[.val (.int p0), .val (.ref b35), .val (.int (1 : Int32)), .val (.ref c_OUTPUT), .unset, .unset, .unset] []))
    refine own_st (fun _ k => XS.iloadN X58.here hx rfl (hb hby at_65) rfl k) ?_
    show own_go _ _ _ _ _ _ _ (T58.setTop (mkF m 66 #[.val (.int p0), .val (.ref b35), .val (.int (1 : Int32)), .val (.ref c_OUTPUT), .unset, .unset, .unset] [(.int (1 : Int32))]))
    refine own_st (fun _ k => XS.iconst X58.here hx rfl (hb hby at_66) k) ?_
    show own_go _ _ _ _ _ _ _ (T58.setTop (mkF m 67 #[.val (.int p0), .val (.ref b35), .val (.int (1 : Int32)), .val (.ref c_OUTPUT), .unset, .unset, .unset] [(.int (2 : Int32)), (.int (1 : Int32))]))
    refine own_st (fun _ k => XS.icmpNo X58.here hx rfl (hb hby at_67) rfl (by decide) k) ?_
    show own_go _ _ _ _ _ _ _ (T58.setTop (mkF m 70 #[.val (.int p0), .val (.ref b35), .val (.int (1 : Int32)), .val (.ref c_OUTPUT), .unset, .unset, .unset] []))
    refine own_st (fun _ k => XS.iconst X58.here hx rfl (hb hby at_70) k) ?_
    show own_go _ _ _ _ _ _ _ (T58.setTop (mkF m 71 #[.val (.int p0), .val (.ref b35), .val (.int (1 : Int32)), .val (.ref c_OUTPUT), .unset, .unset, .unset] [(.int (1 : Int32))]))
    refine own_st (fun _ k => XS.goto X58.here hx rfl (pc0 := 71) (pc' := 75) rfl (hb hby at_71) (by decide) (by decide) k) ?_
    show own_go _ _ _ _ _ _ _ (T58.setTop (mkF m 75 #[.val (.int p0), .val (.ref b35), .val (.int (1 : Int32)), .val (.ref c_OUTPUT), .unset, .unset, .unset] [(.int (1 : Int32))]))
    refine own_st (fun _ k => XS.istore X58.here hx rfl (hb hby at_75) rfl (l' := #[.val (.int p0), .val (.ref b35), .val (.int (1 : Int32)), .val (.ref c_OUTPUT), .val (.int (1 : Int32)), .unset, .unset]) rfl k) ?_
    show own_go _ _ _ _ _ _ _ (T58.setTop (mkF m 77 #[.val (.int p0), .val (.ref b35), .val (.int (1 : Int32)), .val (.ref c_OUTPUT), .val (.int (1 : Int32)), .unset, .unset] []))
    refine own_st (fun _ k => XS.aloadN X58.here hx rfl (hb hby at_77) rfl rfl k) ?_
    show own_go _ _ _ _ _ _ _ (T58.setTop (mkF m 78 #[.val (.int p0), .val (.ref b35), .val (.int (1 : Int32)), .val (.ref c_OUTPUT), .val (.int (1 : Int32)), .unset, .unset] [(.ref c_OUTPUT)]))
    obtain ⟨v63, T63, L63, X63, hQ63, st63⟩ := own_callV X58 hx hZ (argsL := []) (rest := []) (rm1_1 l Z a0 hw c_INPUT c_OUTPUT c_ENV_INIT c_SYS_INIT c_ENV_TRANS c_SYS_TRANS c_ENV_LIVENESS c_SYS_LIVENESS h58 n0 O59 hS) hown (hw _ (List.mem_of_getElem? (i := 20) rfl)) (hw _ (List.mem_of_getElem? (i := 21) rfl)) (notFace_of_selects (args := #[]) (mvT hZ (hw _ (List.mem_of_getElem? (i := 23) rfl)))) (hw _ (List.mem_of_getElem? (i := 23) rfl)) (hw _ (List.mem_of_getElem? (i := 22) rfl)) (hw _ (List.mem_of_getElem? (i := 3) rfl)) (hw _ (List.mem_of_getElem? (i := 24) rfl)) (by decide) e58 (hS.2.2.2.1.ext O59.2) (g := (mkF m 78 #[.val (.int p0), .val (.ref b35), .val (.int (1 : Int32)), .val (.ref c_OUTPUT), .val (.int (1 : Int32)), .unset, .unset] [(.ref c_OUTPUT)])) rfl (by rw [hml]; rfl) (lenOf own_pd__28_29Z rfl) rfl (W := 0) (by show 2 * 0 + _ ≤ _; exact Nat.le_of_eq rfl) (hb hby at_78) (by decide) (by decide) (by decide) (by decide)
    obtain ⟨rfl, Nq63, eq63⟩ := hQ63
    have N63 := Fr.app N58 Nq63
    refine own_st st63 ?_
    show own_go _ _ _ _ _ _ _ (T63.setTop (mkF m 81 #[.val (.int p0), .val (.ref b35), .val (.int (1 : Int32)), .val (.ref c_OUTPUT), .val (.int (1 : Int32)), .unset, .unset] [(.int (1 : Int32))]))
    refine own_st (fun _ k => XS.istore X63.here hx rfl (hb hby at_81) rfl (l' := #[.val (.int p0), .val (.ref b35), .val (.int (1 : Int32)), .val (.ref c_OUTPUT), .val (.int (1 : Int32)), .val (.int (1 : Int32)), .unset]) rfl k) ?_
    show own_go _ _ _ _ _ _ _ (T63.setTop (mkF m 83 #[.val (.int p0), .val (.ref b35), .val (.int (1 : Int32)), .val (.ref c_OUTPUT), .val (.int (1 : Int32)), .val (.int (1 : Int32)), .unset] []))
    refine own_st (fun _ k => XS.iload X63.here hx rfl (hb hby at_83) rfl k) ?_
    show own_go _ _ _ _ _ _ _ (T63.setTop (mkF m 85 #[.val (.int p0), .val (.ref b35), .val (.int (1 : Int32)), .val (.ref c_OUTPUT), .val (.int (1 : Int32)), .val (.int (1 : Int32)), .unset] [(.int (1 : Int32))]))
    refine own_st (fun _ k => XS.iload X63.here hx rfl (hb hby at_85) rfl k) ?_
    show own_go _ _ _ _ _ _ _ (T63.setTop (mkF m 87 #[.val (.int p0), .val (.ref b35), .val (.int (1 : Int32)), .val (.ref c_OUTPUT), .val (.int (1 : Int32)), .val (.int (1 : Int32)), .unset] [(.int (1 : Int32)), (.int (1 : Int32))]))
    refine own_st (fun _ k => XS.icmpYes X63.here hx rfl (pc0 := 87) (pc' := 92) rfl (hb hby at_87) rfl (by decide) (by decide) (by decide) k) ?_
    show own_go _ _ _ _ _ _ _ (T63.setTop (mkF m 92 #[.val (.int p0), .val (.ref b35), .val (.int (1 : Int32)), .val (.ref c_OUTPUT), .val (.int (1 : Int32)), .val (.int (1 : Int32)), .unset] []))
    refine own_st (fun _ k => XS.aloadN X63.here hx rfl (hb hby at_92) rfl rfl k) ?_
    show own_go _ _ _ _ _ _ _ (T63.setTop (mkF m 93 #[.val (.int p0), .val (.ref b35), .val (.int (1 : Int32)), .val (.ref c_OUTPUT), .val (.int (1 : Int32)), .val (.int (1 : Int32)), .unset] [(.ref c_OUTPUT)]))
    obtain ⟨T64, X64, e64, st64⟩ := getS2 X63 hx hZ hown (host := "") (Or.inl (hw _ (List.mem_of_getElem? (i := 2) rfl))) Via.refl eq63 (hS.1.ext O59.2) (g := (mkF m 93 #[.val (.int p0), .val (.ref b35), .val (.int (1 : Int32)), .val (.ref c_OUTPUT), .val (.int (1 : Int32)), .val (.int (1 : Int32)), .unset] [(.ref c_OUTPUT)])) rfl (hb hby at_93)
    refine own_st st64 ?_
    show own_go _ _ _ _ _ _ _ (T64.setTop (mkF m 96 #[.val (.int p0), .val (.ref b35), .val (.int (1 : Int32)), .val (.ref c_OUTPUT), .val (.int (1 : Int32)), .val (.int (1 : Int32)), .unset] [(.ref c_INPUT), (.ref c_OUTPUT)]))
    refine own_st (fun _ k => XS.iconst X64.here hx rfl (hb hby at_96) k) ?_
    show own_go _ _ _ _ _ _ _ (T64.setTop (mkF m 97 #[.val (.int p0), .val (.ref b35), .val (.int (1 : Int32)), .val (.ref c_OUTPUT), .val (.int (1 : Int32)), .val (.int (1 : Int32)), .unset] [(.int (0 : Int32)), (.ref c_INPUT), (.ref c_OUTPUT)]))
    obtain ⟨v65, T65, L65, X65, hQ65, st65⟩ := own_callV X64 hx hZ (argsL := [(.ref c_INPUT), (.int (0 : Int32))]) (rest := []) (rm2_1 l Z a0 hw c_INPUT c_OUTPUT c_ENV_INIT c_SYS_INIT c_ENV_TRANS c_SYS_TRANS c_ENV_LIVENESS c_SYS_LIVENESS h58 n0 O59 hS) hown (hw _ (List.mem_of_getElem? (i := 26) rfl)) (hw _ (List.mem_of_getElem? (i := 27) rfl)) (notFace_of_selects (args := #[]) (mvT hZ (hw _ (List.mem_of_getElem? (i := 29) rfl)))) (hw _ (List.mem_of_getElem? (i := 29) rfl)) (hw _ (List.mem_of_getElem? (i := 28) rfl)) (hw _ (List.mem_of_getElem? (i := 3) rfl)) (hw _ (List.mem_of_getElem? (i := 30) rfl)) (by decide) e64 (hS.2.2.2.1.ext O59.2) (g := (mkF m 97 #[.val (.int p0), .val (.ref b35), .val (.int (1 : Int32)), .val (.ref c_OUTPUT), .val (.int (1 : Int32)), .val (.int (1 : Int32)), .unset] [(.int (0 : Int32)), (.ref c_INPUT), (.ref c_OUTPUT)])) rfl (by rw [hml]; rfl) (lenOf own_pd__28Lcom_2fexample_2fbridgr_2fbridgr_2fspec_2fSection_3bZ_29Z rfl) rfl (W := 0) (by show 2 * 0 + _ ≤ _; exact Nat.le_of_eq rfl) (hb hby at_97) (by decide) (by decide) (by decide) (by decide)
    obtain ⟨rfl, Nq65, eq65⟩ := hQ65
    have N65 := Fr.app N63 Nq65
    refine own_st st65 ?_
    show own_go _ _ _ _ _ _ _ (T65.setTop (mkF m 100 #[.val (.int p0), .val (.ref b35), .val (.int (1 : Int32)), .val (.ref c_OUTPUT), .val (.int (1 : Int32)), .val (.int (1 : Int32)), .unset] [(.int (0 : Int32))]))
    refine own_st (fun _ k => XS.istore X65.here hx rfl (hb hby at_100) rfl (l' := #[.val (.int p0), .val (.ref b35), .val (.int (1 : Int32)), .val (.ref c_OUTPUT), .val (.int (1 : Int32)), .val (.int (1 : Int32)), .val (.int (0 : Int32))]) rfl k) ?_
    show own_go _ _ _ _ _ _ _ (T65.setTop (mkF m 102 #[.val (.int p0), .val (.ref b35), .val (.int (1 : Int32)), .val (.ref c_OUTPUT), .val (.int (1 : Int32)), .val (.int (1 : Int32)), .val (.int (0 : Int32))] []))
    refine own_st (fun _ k => XS.iload X65.here hx rfl (hb hby at_102) rfl k) ?_
    show own_go _ _ _ _ _ _ _ (T65.setTop (mkF m 104 #[.val (.int p0), .val (.ref b35), .val (.int (1 : Int32)), .val (.ref c_OUTPUT), .val (.int (1 : Int32)), .val (.int (1 : Int32)), .val (.int (0 : Int32))] [(.int (1 : Int32))]))
    refine own_st (fun _ k => XS.iload X65.here hx rfl (hb hby at_104) rfl k) ?_
    show own_go _ _ _ _ _ _ _ (T65.setTop (mkF m 106 #[.val (.int p0), .val (.ref b35), .val (.int (1 : Int32)), .val (.ref c_OUTPUT), .val (.int (1 : Int32)), .val (.int (1 : Int32)), .val (.int (0 : Int32))] [(.int (0 : Int32)), (.int (1 : Int32))]))
    refine own_st (fun _ k => XS.ifNo X65.here hx rfl (hb hby at_106) rfl (by decide) k) ?_
    show own_go _ _ _ _ _ _ _ (T65.setTop (mkF m 109 #[.val (.int p0), .val (.ref b35), .val (.int (1 : Int32)), .val (.ref c_OUTPUT), .val (.int (1 : Int32)), .val (.int (1 : Int32)), .val (.int (0 : Int32))] [(.int (1 : Int32))]))
    refine own_st (fun _ k => XS.iconst X65.here hx rfl (hb hby at_109) k) ?_
    show own_go _ _ _ _ _ _ _ (T65.setTop (mkF m 110 #[.val (.int p0), .val (.ref b35), .val (.int (1 : Int32)), .val (.ref c_OUTPUT), .val (.int (1 : Int32)), .val (.int (1 : Int32)), .val (.int (0 : Int32))] [(.int (1 : Int32)), (.int (1 : Int32))]))
    refine own_st (fun _ k => XS.goto X65.here hx rfl (pc0 := 110) (pc' := 114) rfl (hb hby at_110) (by decide) (by decide) k) ?_
    show own_go _ _ _ _ _ _ _ (T65.setTop (mkF m 114 #[.val (.int p0), .val (.ref b35), .val (.int (1 : Int32)), .val (.ref c_OUTPUT), .val (.int (1 : Int32)), .val (.int (1 : Int32)), .val (.int (0 : Int32))] [(.int (1 : Int32)), (.int (1 : Int32))]))
    refine own_st (fun _ k => XS.icmpNo X65.here hx rfl (hb hby at_114) rfl (by decide) k) ?_
    show own_go _ _ _ _ _ _ _ (T65.setTop (mkF m 117 #[.val (.int p0), .val (.ref b35), .val (.int (1 : Int32)), .val (.ref c_OUTPUT), .val (.int (1 : Int32)), .val (.int (1 : Int32)), .val (.int (0 : Int32))] []))
    refine own_st (fun _ k => XS.iconst X65.here hx rfl (hb hby at_117) k) ?_
    show own_go _ _ _ _ _ _ _ (T65.setTop (mkF m 118 #[.val (.int p0), .val (.ref b35), .val (.int (1 : Int32)), .val (.ref c_OUTPUT), .val (.int (1 : Int32)), .val (.int (1 : Int32)), .val (.int (0 : Int32))] [(.int (1 : Int32))]))
    refine own_st (fun _ k => XS.goto X65.here hx rfl (pc0 := 118) (pc' := 122) rfl (hb hby at_118) (by decide) (by decide) k) ?_
    show own_go _ _ _ _ _ _ _ (T65.setTop (mkF m 122 #[.val (.int p0), .val (.ref b35), .val (.int (1 : Int32)), .val (.ref c_OUTPUT), .val (.int (1 : Int32)), .val (.int (1 : Int32)), .val (.int (0 : Int32))] [(.int (1 : Int32))]))
    exact own_retN X65 hx hlk (t := .boolean) hret (by simp) rfl (hb hby at_122) (by decide) (by decide) (⟨rfl, N65⟩)
  · skip
    rw [q]
    show own_go _ _ _ _ _ _ _ (T58.setTop (mkF m 60 #[.val (.int p0), .val (.ref b35), .unset, .unset, .unset, .unset, .unset] [(.int (2 : Int32))]))
    refine own_st (fun _ k => XS.istoreN X58.here hx rfl (hb hby at_60) rfl (l' := #[.val (.int p0), .val (.ref b35), .val (.int (2 : Int32)), .unset, .unset, .unset, .unset]) rfl k) ?_
    show own_go _ _ _ _ _ _ _ (T58.setTop (mkF m 61 #[.val (.int p0), .val (.ref b35), .val (.int (2 : Int32)), .unset, .unset, .unset, .unset] []))
    refine own_st (fun _ k => XS.aloadN X58.here hx rfl (hb hby at_61) rfl rfl k) ?_
    show own_go _ _ _ _ _ _ _ (T58.setTop (mkF m 62 #[.val (.int p0), .val (.ref b35), .val (.int (2 : Int32)), .unset, .unset, .unset, .unset] [(.ref b35)]))
    refine own_st (fun _ k => XS.iloadN X58.here hx rfl (hb hby at_62) rfl k) ?_
    show own_go _ _ _ _ _ _ _ (T58.setTop (mkF m 63 #[.val (.int p0), .val (.ref b35), .val (.int (2 : Int32)), .unset, .unset, .unset, .unset] [(.int (2 : Int32)), (.ref b35)]))
    refine own_st (own_get X58 hx hZ e58 V58 rfl (j := (2 : Int32)) (by decide) (v := (.ref c_ENV_INIT)) rfl (g := (mkF m 63 #[.val (.int p0), .val (.ref b35), .val (.int (2 : Int32)), .unset, .unset, .unset, .unset] [(.int (2 : Int32)), (.ref b35)])) rfl rfl (hb hby at_63)) ?_
    show own_go _ _ _ _ _ _ _ (T58.setTop (mkF m 64 #[.val (.int p0), .val (.ref b35), .val (.int (2 : Int32)), .unset, .unset, .unset, .unset] [(.ref c_ENV_INIT)]))
    refine own_st (fun _ k => XS.astoreN X58.here hx rfl (hb hby at_64) rfl rfl (l' := #[.val (.int p0), .val (.ref b35), .val (.int (2 : Int32)), .val (.ref c_ENV_INIT), .unset, .unset, .unset]) rfl k) ?_
    show own_go _ _ _ _ _ _ _ (T58.setTop (mkF m 65 #[.val (.int p0), .val (.ref b35), .val (.int (2 : Int32)), .val (.ref c_ENV_INIT), .unset, .unset, .unset] []))
    refine own_st (fun _ k => XS.iloadN X58.here hx rfl (hb hby at_65) rfl k) ?_
    show own_go _ _ _ _ _ _ _ (T58.setTop (mkF m 66 #[.val (.int p0), .val (.ref b35), .val (.int (2 : Int32)), .val (.ref c_ENV_INIT), .unset, .unset, .unset] [(.int (2 : Int32))]))
    refine own_st (fun _ k => XS.iconst X58.here hx rfl (hb hby at_66) k) ?_
    show own_go _ _ _ _ _ _ _ (T58.setTop (mkF m 67 #[.val (.int p0), .val (.ref b35), .val (.int (2 : Int32)), .val (.ref c_ENV_INIT), .unset, .unset, .unset] [(.int (2 : Int32)), (.int (2 : Int32))]))
    refine own_st (fun _ k => XS.icmpYes X58.here hx rfl (pc0 := 67) (pc' := 74) rfl (hb hby at_67) rfl (by decide) (by decide) (by decide) k) ?_
    show own_go _ _ _ _ _ _ _ (T58.setTop (mkF m 74 #[.val (.int p0), .val (.ref b35), .val (.int (2 : Int32)), .val (.ref c_ENV_INIT), .unset, .unset, .unset] []))
    refine own_st (fun _ k => XS.iconst X58.here hx rfl (hb hby at_74) k) ?_
    show own_go _ _ _ _ _ _ _ (T58.setTop (mkF m 75 #[.val (.int p0), .val (.ref b35), .val (.int (2 : Int32)), .val (.ref c_ENV_INIT), .unset, .unset, .unset] [(.int (0 : Int32))]))
    refine own_st (fun _ k => XS.istore X58.here hx rfl (hb hby at_75) rfl (l' := #[.val (.int p0), .val (.ref b35), .val (.int (2 : Int32)), .val (.ref c_ENV_INIT), .val (.int (0 : Int32)), .unset, .unset]) rfl k) ?_
    show own_go _ _ _ _ _ _ _ (T58.setTop (mkF m 77 #[.val (.int p0), .val (.ref b35), .val (.int (2 : Int32)), .val (.ref c_ENV_INIT), .val (.int (0 : Int32)), .unset, .unset] []))
    refine own_st (fun _ k => XS.aloadN X58.here hx rfl (hb hby at_77) rfl rfl k) ?_
    show own_go _ _ _ _ _ _ _ (T58.setTop (mkF m 78 #[.val (.int p0), .val (.ref b35), .val (.int (2 : Int32)), .val (.ref c_ENV_INIT), .val (.int (0 : Int32)), .unset, .unset] [(.ref c_ENV_INIT)]))
    obtain ⟨v66, T66, L66, X66, hQ66, st66⟩ := own_callV X58 hx hZ (argsL := []) (rest := []) (rm1_2 l Z a0 hw c_INPUT c_OUTPUT c_ENV_INIT c_SYS_INIT c_ENV_TRANS c_SYS_TRANS c_ENV_LIVENESS c_SYS_LIVENESS h58 n0 O59 hS) hown (hw _ (List.mem_of_getElem? (i := 20) rfl)) (hw _ (List.mem_of_getElem? (i := 21) rfl)) (notFace_of_selects (args := #[]) (mvT hZ (hw _ (List.mem_of_getElem? (i := 23) rfl)))) (hw _ (List.mem_of_getElem? (i := 23) rfl)) (hw _ (List.mem_of_getElem? (i := 22) rfl)) (hw _ (List.mem_of_getElem? (i := 3) rfl)) (hw _ (List.mem_of_getElem? (i := 24) rfl)) (by decide) e58 (hS.2.2.2.2.2.1.ext O59.2) (g := (mkF m 78 #[.val (.int p0), .val (.ref b35), .val (.int (2 : Int32)), .val (.ref c_ENV_INIT), .val (.int (0 : Int32)), .unset, .unset] [(.ref c_ENV_INIT)])) rfl (by rw [hml]; rfl) (lenOf own_pd__28_29Z rfl) rfl (W := 0) (by show 2 * 0 + _ ≤ _; exact Nat.le_of_eq rfl) (hb hby at_78) (by decide) (by decide) (by decide) (by decide)
    obtain ⟨rfl, Nq66, eq66⟩ := hQ66
    have N66 := Fr.app N58 Nq66
    refine own_st st66 ?_
    show own_go _ _ _ _ _ _ _ (T66.setTop (mkF m 81 #[.val (.int p0), .val (.ref b35), .val (.int (2 : Int32)), .val (.ref c_ENV_INIT), .val (.int (0 : Int32)), .unset, .unset] [(.int (0 : Int32))]))
    refine own_st (fun _ k => XS.istore X66.here hx rfl (hb hby at_81) rfl (l' := #[.val (.int p0), .val (.ref b35), .val (.int (2 : Int32)), .val (.ref c_ENV_INIT), .val (.int (0 : Int32)), .val (.int (0 : Int32)), .unset]) rfl k) ?_
    show own_go _ _ _ _ _ _ _ (T66.setTop (mkF m 83 #[.val (.int p0), .val (.ref b35), .val (.int (2 : Int32)), .val (.ref c_ENV_INIT), .val (.int (0 : Int32)), .val (.int (0 : Int32)), .unset] []))
    refine own_st (fun _ k => XS.iload X66.here hx rfl (hb hby at_83) rfl k) ?_
    show own_go _ _ _ _ _ _ _ (T66.setTop (mkF m 85 #[.val (.int p0), .val (.ref b35), .val (.int (2 : Int32)), .val (.ref c_ENV_INIT), .val (.int (0 : Int32)), .val (.int (0 : Int32)), .unset] [(.int (0 : Int32))]))
    refine own_st (fun _ k => XS.iload X66.here hx rfl (hb hby at_85) rfl k) ?_
    show own_go _ _ _ _ _ _ _ (T66.setTop (mkF m 87 #[.val (.int p0), .val (.ref b35), .val (.int (2 : Int32)), .val (.ref c_ENV_INIT), .val (.int (0 : Int32)), .val (.int (0 : Int32)), .unset] [(.int (0 : Int32)), (.int (0 : Int32))]))
    refine own_st (fun _ k => XS.icmpYes X66.here hx rfl (pc0 := 87) (pc' := 92) rfl (hb hby at_87) rfl (by decide) (by decide) (by decide) k) ?_
    show own_go _ _ _ _ _ _ _ (T66.setTop (mkF m 92 #[.val (.int p0), .val (.ref b35), .val (.int (2 : Int32)), .val (.ref c_ENV_INIT), .val (.int (0 : Int32)), .val (.int (0 : Int32)), .unset] []))
    refine own_st (fun _ k => XS.aloadN X66.here hx rfl (hb hby at_92) rfl rfl k) ?_
    show own_go _ _ _ _ _ _ _ (T66.setTop (mkF m 93 #[.val (.int p0), .val (.ref b35), .val (.int (2 : Int32)), .val (.ref c_ENV_INIT), .val (.int (0 : Int32)), .val (.int (0 : Int32)), .unset] [(.ref c_ENV_INIT)]))
    obtain ⟨T67, X67, e67, st67⟩ := getS2 X66 hx hZ hown (host := "") (Or.inl (hw _ (List.mem_of_getElem? (i := 2) rfl))) Via.refl eq66 (hS.1.ext O59.2) (g := (mkF m 93 #[.val (.int p0), .val (.ref b35), .val (.int (2 : Int32)), .val (.ref c_ENV_INIT), .val (.int (0 : Int32)), .val (.int (0 : Int32)), .unset] [(.ref c_ENV_INIT)])) rfl (hb hby at_93)
    refine own_st st67 ?_
    show own_go _ _ _ _ _ _ _ (T67.setTop (mkF m 96 #[.val (.int p0), .val (.ref b35), .val (.int (2 : Int32)), .val (.ref c_ENV_INIT), .val (.int (0 : Int32)), .val (.int (0 : Int32)), .unset] [(.ref c_INPUT), (.ref c_ENV_INIT)]))
    refine own_st (fun _ k => XS.iconst X67.here hx rfl (hb hby at_96) k) ?_
    show own_go _ _ _ _ _ _ _ (T67.setTop (mkF m 97 #[.val (.int p0), .val (.ref b35), .val (.int (2 : Int32)), .val (.ref c_ENV_INIT), .val (.int (0 : Int32)), .val (.int (0 : Int32)), .unset] [(.int (0 : Int32)), (.ref c_INPUT), (.ref c_ENV_INIT)]))
    obtain ⟨v68, T68, L68, X68, hQ68, st68⟩ := own_callV X67 hx hZ (argsL := [(.ref c_INPUT), (.int (0 : Int32))]) (rest := []) (rm2_2 l Z a0 hw c_INPUT c_OUTPUT c_ENV_INIT c_SYS_INIT c_ENV_TRANS c_SYS_TRANS c_ENV_LIVENESS c_SYS_LIVENESS h58 n0 O59 hS) hown (hw _ (List.mem_of_getElem? (i := 26) rfl)) (hw _ (List.mem_of_getElem? (i := 27) rfl)) (notFace_of_selects (args := #[]) (mvT hZ (hw _ (List.mem_of_getElem? (i := 29) rfl)))) (hw _ (List.mem_of_getElem? (i := 29) rfl)) (hw _ (List.mem_of_getElem? (i := 28) rfl)) (hw _ (List.mem_of_getElem? (i := 3) rfl)) (hw _ (List.mem_of_getElem? (i := 30) rfl)) (by decide) e67 (hS.2.2.2.2.2.1.ext O59.2) (g := (mkF m 97 #[.val (.int p0), .val (.ref b35), .val (.int (2 : Int32)), .val (.ref c_ENV_INIT), .val (.int (0 : Int32)), .val (.int (0 : Int32)), .unset] [(.int (0 : Int32)), (.ref c_INPUT), (.ref c_ENV_INIT)])) rfl (by rw [hml]; rfl) (lenOf own_pd__28Lcom_2fexample_2fbridgr_2fbridgr_2fspec_2fSection_3bZ_29Z rfl) rfl (W := 0) (by show 2 * 0 + _ ≤ _; exact Nat.le_of_eq rfl) (hb hby at_97) (by decide) (by decide) (by decide) (by decide)
    obtain ⟨rfl, Nq68, eq68⟩ := hQ68
    have N68 := Fr.app N66 Nq68
    refine own_st st68 ?_
    show own_go _ _ _ _ _ _ _ (T68.setTop (mkF m 100 #[.val (.int p0), .val (.ref b35), .val (.int (2 : Int32)), .val (.ref c_ENV_INIT), .val (.int (0 : Int32)), .val (.int (0 : Int32)), .unset] [(.int (1 : Int32))]))
    refine own_st (fun _ k => XS.istore X68.here hx rfl (hb hby at_100) rfl (l' := #[.val (.int p0), .val (.ref b35), .val (.int (2 : Int32)), .val (.ref c_ENV_INIT), .val (.int (0 : Int32)), .val (.int (0 : Int32)), .val (.int (1 : Int32))]) rfl k) ?_
    show own_go _ _ _ _ _ _ _ (T68.setTop (mkF m 102 #[.val (.int p0), .val (.ref b35), .val (.int (2 : Int32)), .val (.ref c_ENV_INIT), .val (.int (0 : Int32)), .val (.int (0 : Int32)), .val (.int (1 : Int32))] []))
    refine own_st (fun _ k => XS.iload X68.here hx rfl (hb hby at_102) rfl k) ?_
    show own_go _ _ _ _ _ _ _ (T68.setTop (mkF m 104 #[.val (.int p0), .val (.ref b35), .val (.int (2 : Int32)), .val (.ref c_ENV_INIT), .val (.int (0 : Int32)), .val (.int (0 : Int32)), .val (.int (1 : Int32))] [(.int (0 : Int32))]))
    refine own_st (fun _ k => XS.iload X68.here hx rfl (hb hby at_104) rfl k) ?_
    show own_go _ _ _ _ _ _ _ (T68.setTop (mkF m 106 #[.val (.int p0), .val (.ref b35), .val (.int (2 : Int32)), .val (.ref c_ENV_INIT), .val (.int (0 : Int32)), .val (.int (0 : Int32)), .val (.int (1 : Int32))] [(.int (1 : Int32)), (.int (0 : Int32))]))
    refine own_st (fun _ k => XS.ifYes X68.here hx rfl (pc0 := 106) (pc' := 113) rfl (hb hby at_106) rfl (by decide) (by decide) (by decide) k) ?_
    show own_go _ _ _ _ _ _ _ (T68.setTop (mkF m 113 #[.val (.int p0), .val (.ref b35), .val (.int (2 : Int32)), .val (.ref c_ENV_INIT), .val (.int (0 : Int32)), .val (.int (0 : Int32)), .val (.int (1 : Int32))] [(.int (0 : Int32))]))
    refine own_st (fun _ k => XS.iconst X68.here hx rfl (hb hby at_113) k) ?_
    show own_go _ _ _ _ _ _ _ (T68.setTop (mkF m 114 #[.val (.int p0), .val (.ref b35), .val (.int (2 : Int32)), .val (.ref c_ENV_INIT), .val (.int (0 : Int32)), .val (.int (0 : Int32)), .val (.int (1 : Int32))] [(.int (0 : Int32)), (.int (0 : Int32))]))
    refine own_st (fun _ k => XS.icmpNo X68.here hx rfl (hb hby at_114) rfl (by decide) k) ?_
    show own_go _ _ _ _ _ _ _ (T68.setTop (mkF m 117 #[.val (.int p0), .val (.ref b35), .val (.int (2 : Int32)), .val (.ref c_ENV_INIT), .val (.int (0 : Int32)), .val (.int (0 : Int32)), .val (.int (1 : Int32))] []))
    refine own_st (fun _ k => XS.iconst X68.here hx rfl (hb hby at_117) k) ?_
    show own_go _ _ _ _ _ _ _ (T68.setTop (mkF m 118 #[.val (.int p0), .val (.ref b35), .val (.int (2 : Int32)), .val (.ref c_ENV_INIT), .val (.int (0 : Int32)), .val (.int (0 : Int32)), .val (.int (1 : Int32))] [(.int (1 : Int32))]))
    refine own_st (fun _ k => XS.goto X68.here hx rfl (pc0 := 118) (pc' := 122) rfl (hb hby at_118) (by decide) (by decide) k) ?_
    show own_go _ _ _ _ _ _ _ (T68.setTop (mkF m 122 #[.val (.int p0), .val (.ref b35), .val (.int (2 : Int32)), .val (.ref c_ENV_INIT), .val (.int (0 : Int32)), .val (.int (0 : Int32)), .val (.int (1 : Int32))] [(.int (1 : Int32))]))
    exact own_retN X68 hx hlk (t := .boolean) hret (by simp) rfl (hb hby at_122) (by decide) (by decide) (⟨rfl, N68⟩)
  · skip
    rw [q]
    show own_go _ _ _ _ _ _ _ (T58.setTop (mkF m 60 #[.val (.int p0), .val (.ref b35), .unset, .unset, .unset, .unset, .unset] [(.int (3 : Int32))]))
    refine own_st (fun _ k => XS.istoreN X58.here hx rfl (hb hby at_60) rfl (l' := #[.val (.int p0), .val (.ref b35), .val (.int (3 : Int32)), .unset, .unset, .unset, .unset]) rfl k) ?_
    show own_go _ _ _ _ _ _ _ (T58.setTop (mkF m 61 #[.val (.int p0), .val (.ref b35), .val (.int (3 : Int32)), .unset, .unset, .unset, .unset] []))
    refine own_st (fun _ k => XS.aloadN X58.here hx rfl (hb hby at_61) rfl rfl k) ?_
    show own_go _ _ _ _ _ _ _ (T58.setTop (mkF m 62 #[.val (.int p0), .val (.ref b35), .val (.int (3 : Int32)), .unset, .unset, .unset, .unset] [(.ref b35)]))
    refine own_st (fun _ k => XS.iloadN X58.here hx rfl (hb hby at_62) rfl k) ?_
    show own_go _ _ _ _ _ _ _ (T58.setTop (mkF m 63 #[.val (.int p0), .val (.ref b35), .val (.int (3 : Int32)), .unset, .unset, .unset, .unset] [(.int (3 : Int32)), (.ref b35)]))
    refine own_st (own_get X58 hx hZ e58 V58 rfl (j := (3 : Int32)) (by decide) (v := (.ref c_SYS_INIT)) rfl (g := (mkF m 63 #[.val (.int p0), .val (.ref b35), .val (.int (3 : Int32)), .unset, .unset, .unset, .unset] [(.int (3 : Int32)), (.ref b35)])) rfl rfl (hb hby at_63)) ?_
    show own_go _ _ _ _ _ _ _ (T58.setTop (mkF m 64 #[.val (.int p0), .val (.ref b35), .val (.int (3 : Int32)), .unset, .unset, .unset, .unset] [(.ref c_SYS_INIT)]))
    refine own_st (fun _ k => XS.astoreN X58.here hx rfl (hb hby at_64) rfl rfl (l' := #[.val (.int p0), .val (.ref b35), .val (.int (3 : Int32)), .val (.ref c_SYS_INIT), .unset, .unset, .unset]) rfl k) ?_
    show own_go _ _ _ _ _ _ _ (T58.setTop (mkF m 65 #[.val (.int p0), .val (.ref b35), .val (.int (3 : Int32)), .val (.ref c_SYS_INIT), .unset, .unset, .unset] []))
    refine own_st (fun _ k => XS.iloadN X58.here hx rfl (hb hby at_65) rfl k) ?_
    show own_go _ _ _ _ _ _ _ (T58.setTop (mkF m 66 #[.val (.int p0), .val (.ref b35), .val (.int (3 : Int32)), .val (.ref c_SYS_INIT), .unset, .unset, .unset] [(.int (3 : Int32))]))
    refine own_st (fun _ k => XS.iconst X58.here hx rfl (hb hby at_66) k) ?_
    show own_go _ _ _ _ _ _ _ (T58.setTop (mkF m 67 #[.val (.int p0), .val (.ref b35), .val (.int (3 : Int32)), .val (.ref c_SYS_INIT), .unset, .unset, .unset] [(.int (2 : Int32)), (.int (3 : Int32))]))
    refine own_st (fun _ k => XS.icmpYes X58.here hx rfl (pc0 := 67) (pc' := 74) rfl (hb hby at_67) rfl (by decide) (by decide) (by decide) k) ?_
    show own_go _ _ _ _ _ _ _ (T58.setTop (mkF m 74 #[.val (.int p0), .val (.ref b35), .val (.int (3 : Int32)), .val (.ref c_SYS_INIT), .unset, .unset, .unset] []))
    refine own_st (fun _ k => XS.iconst X58.here hx rfl (hb hby at_74) k) ?_
    show own_go _ _ _ _ _ _ _ (T58.setTop (mkF m 75 #[.val (.int p0), .val (.ref b35), .val (.int (3 : Int32)), .val (.ref c_SYS_INIT), .unset, .unset, .unset] [(.int (0 : Int32))]))
    refine own_st (fun _ k => XS.istore X58.here hx rfl (hb hby at_75) rfl (l' := #[.val (.int p0), .val (.ref b35), .val (.int (3 : Int32)), .val (.ref c_SYS_INIT), .val (.int (0 : Int32)), .unset, .unset]) rfl k) ?_
    show own_go _ _ _ _ _ _ _ (T58.setTop (mkF m 77 #[.val (.int p0), .val (.ref b35), .val (.int (3 : Int32)), .val (.ref c_SYS_INIT), .val (.int (0 : Int32)), .unset, .unset] []))
    refine own_st (fun _ k => XS.aloadN X58.here hx rfl (hb hby at_77) rfl rfl k) ?_
    show own_go _ _ _ _ _ _ _ (T58.setTop (mkF m 78 #[.val (.int p0), .val (.ref b35), .val (.int (3 : Int32)), .val (.ref c_SYS_INIT), .val (.int (0 : Int32)), .unset, .unset] [(.ref c_SYS_INIT)]))
    obtain ⟨v69, T69, L69, X69, hQ69, st69⟩ := own_callV X58 hx hZ (argsL := []) (rest := []) (rm1_3 l Z a0 hw c_INPUT c_OUTPUT c_ENV_INIT c_SYS_INIT c_ENV_TRANS c_SYS_TRANS c_ENV_LIVENESS c_SYS_LIVENESS h58 n0 O59 hS) hown (hw _ (List.mem_of_getElem? (i := 20) rfl)) (hw _ (List.mem_of_getElem? (i := 21) rfl)) (notFace_of_selects (args := #[]) (mvT hZ (hw _ (List.mem_of_getElem? (i := 23) rfl)))) (hw _ (List.mem_of_getElem? (i := 23) rfl)) (hw _ (List.mem_of_getElem? (i := 22) rfl)) (hw _ (List.mem_of_getElem? (i := 3) rfl)) (hw _ (List.mem_of_getElem? (i := 24) rfl)) (by decide) e58 (hS.2.2.2.2.2.2.2.1.ext O59.2) (g := (mkF m 78 #[.val (.int p0), .val (.ref b35), .val (.int (3 : Int32)), .val (.ref c_SYS_INIT), .val (.int (0 : Int32)), .unset, .unset] [(.ref c_SYS_INIT)])) rfl (by rw [hml]; rfl) (lenOf own_pd__28_29Z rfl) rfl (W := 0) (by show 2 * 0 + _ ≤ _; exact Nat.le_of_eq rfl) (hb hby at_78) (by decide) (by decide) (by decide) (by decide)
    obtain ⟨rfl, Nq69, eq69⟩ := hQ69
    have N69 := Fr.app N58 Nq69
    refine own_st st69 ?_
    show own_go _ _ _ _ _ _ _ (T69.setTop (mkF m 81 #[.val (.int p0), .val (.ref b35), .val (.int (3 : Int32)), .val (.ref c_SYS_INIT), .val (.int (0 : Int32)), .unset, .unset] [(.int (0 : Int32))]))
    refine own_st (fun _ k => XS.istore X69.here hx rfl (hb hby at_81) rfl (l' := #[.val (.int p0), .val (.ref b35), .val (.int (3 : Int32)), .val (.ref c_SYS_INIT), .val (.int (0 : Int32)), .val (.int (0 : Int32)), .unset]) rfl k) ?_
    show own_go _ _ _ _ _ _ _ (T69.setTop (mkF m 83 #[.val (.int p0), .val (.ref b35), .val (.int (3 : Int32)), .val (.ref c_SYS_INIT), .val (.int (0 : Int32)), .val (.int (0 : Int32)), .unset] []))
    refine own_st (fun _ k => XS.iload X69.here hx rfl (hb hby at_83) rfl k) ?_
    show own_go _ _ _ _ _ _ _ (T69.setTop (mkF m 85 #[.val (.int p0), .val (.ref b35), .val (.int (3 : Int32)), .val (.ref c_SYS_INIT), .val (.int (0 : Int32)), .val (.int (0 : Int32)), .unset] [(.int (0 : Int32))]))
    refine own_st (fun _ k => XS.iload X69.here hx rfl (hb hby at_85) rfl k) ?_
    show own_go _ _ _ _ _ _ _ (T69.setTop (mkF m 87 #[.val (.int p0), .val (.ref b35), .val (.int (3 : Int32)), .val (.ref c_SYS_INIT), .val (.int (0 : Int32)), .val (.int (0 : Int32)), .unset] [(.int (0 : Int32)), (.int (0 : Int32))]))
    refine own_st (fun _ k => XS.icmpYes X69.here hx rfl (pc0 := 87) (pc' := 92) rfl (hb hby at_87) rfl (by decide) (by decide) (by decide) k) ?_
    show own_go _ _ _ _ _ _ _ (T69.setTop (mkF m 92 #[.val (.int p0), .val (.ref b35), .val (.int (3 : Int32)), .val (.ref c_SYS_INIT), .val (.int (0 : Int32)), .val (.int (0 : Int32)), .unset] []))
    refine own_st (fun _ k => XS.aloadN X69.here hx rfl (hb hby at_92) rfl rfl k) ?_
    show own_go _ _ _ _ _ _ _ (T69.setTop (mkF m 93 #[.val (.int p0), .val (.ref b35), .val (.int (3 : Int32)), .val (.ref c_SYS_INIT), .val (.int (0 : Int32)), .val (.int (0 : Int32)), .unset] [(.ref c_SYS_INIT)]))
    obtain ⟨T70, X70, e70, st70⟩ := getS2 X69 hx hZ hown (host := "") (Or.inl (hw _ (List.mem_of_getElem? (i := 2) rfl))) Via.refl eq69 (hS.1.ext O59.2) (g := (mkF m 93 #[.val (.int p0), .val (.ref b35), .val (.int (3 : Int32)), .val (.ref c_SYS_INIT), .val (.int (0 : Int32)), .val (.int (0 : Int32)), .unset] [(.ref c_SYS_INIT)])) rfl (hb hby at_93)
    refine own_st st70 ?_
    show own_go _ _ _ _ _ _ _ (T70.setTop (mkF m 96 #[.val (.int p0), .val (.ref b35), .val (.int (3 : Int32)), .val (.ref c_SYS_INIT), .val (.int (0 : Int32)), .val (.int (0 : Int32)), .unset] [(.ref c_INPUT), (.ref c_SYS_INIT)]))
    refine own_st (fun _ k => XS.iconst X70.here hx rfl (hb hby at_96) k) ?_
    show own_go _ _ _ _ _ _ _ (T70.setTop (mkF m 97 #[.val (.int p0), .val (.ref b35), .val (.int (3 : Int32)), .val (.ref c_SYS_INIT), .val (.int (0 : Int32)), .val (.int (0 : Int32)), .unset] [(.int (0 : Int32)), (.ref c_INPUT), (.ref c_SYS_INIT)]))
    obtain ⟨v71, T71, L71, X71, hQ71, st71⟩ := own_callV X70 hx hZ (argsL := [(.ref c_INPUT), (.int (0 : Int32))]) (rest := []) (rm2_3 l Z a0 hw c_INPUT c_OUTPUT c_ENV_INIT c_SYS_INIT c_ENV_TRANS c_SYS_TRANS c_ENV_LIVENESS c_SYS_LIVENESS h58 n0 O59 hS) hown (hw _ (List.mem_of_getElem? (i := 26) rfl)) (hw _ (List.mem_of_getElem? (i := 27) rfl)) (notFace_of_selects (args := #[]) (mvT hZ (hw _ (List.mem_of_getElem? (i := 29) rfl)))) (hw _ (List.mem_of_getElem? (i := 29) rfl)) (hw _ (List.mem_of_getElem? (i := 28) rfl)) (hw _ (List.mem_of_getElem? (i := 3) rfl)) (hw _ (List.mem_of_getElem? (i := 30) rfl)) (by decide) e70 (hS.2.2.2.2.2.2.2.1.ext O59.2) (g := (mkF m 97 #[.val (.int p0), .val (.ref b35), .val (.int (3 : Int32)), .val (.ref c_SYS_INIT), .val (.int (0 : Int32)), .val (.int (0 : Int32)), .unset] [(.int (0 : Int32)), (.ref c_INPUT), (.ref c_SYS_INIT)])) rfl (by rw [hml]; rfl) (lenOf own_pd__28Lcom_2fexample_2fbridgr_2fbridgr_2fspec_2fSection_3bZ_29Z rfl) rfl (W := 0) (by show 2 * 0 + _ ≤ _; exact Nat.le_of_eq rfl) (hb hby at_97) (by decide) (by decide) (by decide) (by decide)
    obtain ⟨rfl, Nq71, eq71⟩ := hQ71
    have N71 := Fr.app N69 Nq71
    refine own_st st71 ?_
    show own_go _ _ _ _ _ _ _ (T71.setTop (mkF m 100 #[.val (.int p0), .val (.ref b35), .val (.int (3 : Int32)), .val (.ref c_SYS_INIT), .val (.int (0 : Int32)), .val (.int (0 : Int32)), .unset] [(.int (1 : Int32))]))
    refine own_st (fun _ k => XS.istore X71.here hx rfl (hb hby at_100) rfl (l' := #[.val (.int p0), .val (.ref b35), .val (.int (3 : Int32)), .val (.ref c_SYS_INIT), .val (.int (0 : Int32)), .val (.int (0 : Int32)), .val (.int (1 : Int32))]) rfl k) ?_
    show own_go _ _ _ _ _ _ _ (T71.setTop (mkF m 102 #[.val (.int p0), .val (.ref b35), .val (.int (3 : Int32)), .val (.ref c_SYS_INIT), .val (.int (0 : Int32)), .val (.int (0 : Int32)), .val (.int (1 : Int32))] []))
    refine own_st (fun _ k => XS.iload X71.here hx rfl (hb hby at_102) rfl k) ?_
    show own_go _ _ _ _ _ _ _ (T71.setTop (mkF m 104 #[.val (.int p0), .val (.ref b35), .val (.int (3 : Int32)), .val (.ref c_SYS_INIT), .val (.int (0 : Int32)), .val (.int (0 : Int32)), .val (.int (1 : Int32))] [(.int (0 : Int32))]))
    refine own_st (fun _ k => XS.iload X71.here hx rfl (hb hby at_104) rfl k) ?_
    show own_go _ _ _ _ _ _ _ (T71.setTop (mkF m 106 #[.val (.int p0), .val (.ref b35), .val (.int (3 : Int32)), .val (.ref c_SYS_INIT), .val (.int (0 : Int32)), .val (.int (0 : Int32)), .val (.int (1 : Int32))] [(.int (1 : Int32)), (.int (0 : Int32))]))
    refine own_st (fun _ k => XS.ifYes X71.here hx rfl (pc0 := 106) (pc' := 113) rfl (hb hby at_106) rfl (by decide) (by decide) (by decide) k) ?_
    show own_go _ _ _ _ _ _ _ (T71.setTop (mkF m 113 #[.val (.int p0), .val (.ref b35), .val (.int (3 : Int32)), .val (.ref c_SYS_INIT), .val (.int (0 : Int32)), .val (.int (0 : Int32)), .val (.int (1 : Int32))] [(.int (0 : Int32))]))
    refine own_st (fun _ k => XS.iconst X71.here hx rfl (hb hby at_113) k) ?_
    show own_go _ _ _ _ _ _ _ (T71.setTop (mkF m 114 #[.val (.int p0), .val (.ref b35), .val (.int (3 : Int32)), .val (.ref c_SYS_INIT), .val (.int (0 : Int32)), .val (.int (0 : Int32)), .val (.int (1 : Int32))] [(.int (0 : Int32)), (.int (0 : Int32))]))
    refine own_st (fun _ k => XS.icmpNo X71.here hx rfl (hb hby at_114) rfl (by decide) k) ?_
    show own_go _ _ _ _ _ _ _ (T71.setTop (mkF m 117 #[.val (.int p0), .val (.ref b35), .val (.int (3 : Int32)), .val (.ref c_SYS_INIT), .val (.int (0 : Int32)), .val (.int (0 : Int32)), .val (.int (1 : Int32))] []))
    refine own_st (fun _ k => XS.iconst X71.here hx rfl (hb hby at_117) k) ?_
    show own_go _ _ _ _ _ _ _ (T71.setTop (mkF m 118 #[.val (.int p0), .val (.ref b35), .val (.int (3 : Int32)), .val (.ref c_SYS_INIT), .val (.int (0 : Int32)), .val (.int (0 : Int32)), .val (.int (1 : Int32))] [(.int (1 : Int32))]))
    refine own_st (fun _ k => XS.goto X71.here hx rfl (pc0 := 118) (pc' := 122) rfl (hb hby at_118) (by decide) (by decide) k) ?_
    show own_go _ _ _ _ _ _ _ (T71.setTop (mkF m 122 #[.val (.int p0), .val (.ref b35), .val (.int (3 : Int32)), .val (.ref c_SYS_INIT), .val (.int (0 : Int32)), .val (.int (0 : Int32)), .val (.int (1 : Int32))] [(.int (1 : Int32))]))
    exact own_retN X71 hx hlk (t := .boolean) hret (by simp) rfl (hb hby at_122) (by decide) (by decide) (⟨rfl, N71⟩)
  · skip
    rw [q]
    show own_go _ _ _ _ _ _ _ (T58.setTop (mkF m 60 #[.val (.int p0), .val (.ref b35), .unset, .unset, .unset, .unset, .unset] [(.int (4 : Int32))]))
    refine own_st (fun _ k => XS.istoreN X58.here hx rfl (hb hby at_60) rfl (l' := #[.val (.int p0), .val (.ref b35), .val (.int (4 : Int32)), .unset, .unset, .unset, .unset]) rfl k) ?_
    show own_go _ _ _ _ _ _ _ (T58.setTop (mkF m 61 #[.val (.int p0), .val (.ref b35), .val (.int (4 : Int32)), .unset, .unset, .unset, .unset] []))
    refine own_st (fun _ k => XS.aloadN X58.here hx rfl (hb hby at_61) rfl rfl k) ?_
    show own_go _ _ _ _ _ _ _ (T58.setTop (mkF m 62 #[.val (.int p0), .val (.ref b35), .val (.int (4 : Int32)), .unset, .unset, .unset, .unset] [(.ref b35)]))
    refine own_st (fun _ k => XS.iloadN X58.here hx rfl (hb hby at_62) rfl k) ?_
    show own_go _ _ _ _ _ _ _ (T58.setTop (mkF m 63 #[.val (.int p0), .val (.ref b35), .val (.int (4 : Int32)), .unset, .unset, .unset, .unset] [(.int (4 : Int32)), (.ref b35)]))
    refine own_st (own_get X58 hx hZ e58 V58 rfl (j := (4 : Int32)) (by decide) (v := (.ref c_ENV_TRANS)) rfl (g := (mkF m 63 #[.val (.int p0), .val (.ref b35), .val (.int (4 : Int32)), .unset, .unset, .unset, .unset] [(.int (4 : Int32)), (.ref b35)])) rfl rfl (hb hby at_63)) ?_
    show own_go _ _ _ _ _ _ _ (T58.setTop (mkF m 64 #[.val (.int p0), .val (.ref b35), .val (.int (4 : Int32)), .unset, .unset, .unset, .unset] [(.ref c_ENV_TRANS)]))
    refine own_st (fun _ k => XS.astoreN X58.here hx rfl (hb hby at_64) rfl rfl (l' := #[.val (.int p0), .val (.ref b35), .val (.int (4 : Int32)), .val (.ref c_ENV_TRANS), .unset, .unset, .unset]) rfl k) ?_
    show own_go _ _ _ _ _ _ _ (T58.setTop (mkF m 65 #[.val (.int p0), .val (.ref b35), .val (.int (4 : Int32)), .val (.ref c_ENV_TRANS), .unset, .unset, .unset] []))
    refine own_st (fun _ k => XS.iloadN X58.here hx rfl (hb hby at_65) rfl k) ?_
    show own_go _ _ _ _ _ _ _ (T58.setTop (mkF m 66 #[.val (.int p0), .val (.ref b35), .val (.int (4 : Int32)), .val (.ref c_ENV_TRANS), .unset, .unset, .unset] [(.int (4 : Int32))]))
    refine own_st (fun _ k => XS.iconst X58.here hx rfl (hb hby at_66) k) ?_
    show own_go _ _ _ _ _ _ _ (T58.setTop (mkF m 67 #[.val (.int p0), .val (.ref b35), .val (.int (4 : Int32)), .val (.ref c_ENV_TRANS), .unset, .unset, .unset] [(.int (2 : Int32)), (.int (4 : Int32))]))
    refine own_st (fun _ k => XS.icmpYes X58.here hx rfl (pc0 := 67) (pc' := 74) rfl (hb hby at_67) rfl (by decide) (by decide) (by decide) k) ?_
    show own_go _ _ _ _ _ _ _ (T58.setTop (mkF m 74 #[.val (.int p0), .val (.ref b35), .val (.int (4 : Int32)), .val (.ref c_ENV_TRANS), .unset, .unset, .unset] []))
    refine own_st (fun _ k => XS.iconst X58.here hx rfl (hb hby at_74) k) ?_
    show own_go _ _ _ _ _ _ _ (T58.setTop (mkF m 75 #[.val (.int p0), .val (.ref b35), .val (.int (4 : Int32)), .val (.ref c_ENV_TRANS), .unset, .unset, .unset] [(.int (0 : Int32))]))
    refine own_st (fun _ k => XS.istore X58.here hx rfl (hb hby at_75) rfl (l' := #[.val (.int p0), .val (.ref b35), .val (.int (4 : Int32)), .val (.ref c_ENV_TRANS), .val (.int (0 : Int32)), .unset, .unset]) rfl k) ?_
    show own_go _ _ _ _ _ _ _ (T58.setTop (mkF m 77 #[.val (.int p0), .val (.ref b35), .val (.int (4 : Int32)), .val (.ref c_ENV_TRANS), .val (.int (0 : Int32)), .unset, .unset] []))
    refine own_st (fun _ k => XS.aloadN X58.here hx rfl (hb hby at_77) rfl rfl k) ?_
    show own_go _ _ _ _ _ _ _ (T58.setTop (mkF m 78 #[.val (.int p0), .val (.ref b35), .val (.int (4 : Int32)), .val (.ref c_ENV_TRANS), .val (.int (0 : Int32)), .unset, .unset] [(.ref c_ENV_TRANS)]))
    obtain ⟨v72, T72, L72, X72, hQ72, st72⟩ := own_callV X58 hx hZ (argsL := []) (rest := []) (rm1_4 l Z a0 hw c_INPUT c_OUTPUT c_ENV_INIT c_SYS_INIT c_ENV_TRANS c_SYS_TRANS c_ENV_LIVENESS c_SYS_LIVENESS h58 n0 O59 hS) hown (hw _ (List.mem_of_getElem? (i := 20) rfl)) (hw _ (List.mem_of_getElem? (i := 21) rfl)) (notFace_of_selects (args := #[]) (mvT hZ (hw _ (List.mem_of_getElem? (i := 23) rfl)))) (hw _ (List.mem_of_getElem? (i := 23) rfl)) (hw _ (List.mem_of_getElem? (i := 22) rfl)) (hw _ (List.mem_of_getElem? (i := 3) rfl)) (hw _ (List.mem_of_getElem? (i := 24) rfl)) (by decide) e58 (hS.2.2.2.2.2.2.2.2.2.1.ext O59.2) (g := (mkF m 78 #[.val (.int p0), .val (.ref b35), .val (.int (4 : Int32)), .val (.ref c_ENV_TRANS), .val (.int (0 : Int32)), .unset, .unset] [(.ref c_ENV_TRANS)])) rfl (by rw [hml]; rfl) (lenOf own_pd__28_29Z rfl) rfl (W := 0) (by show 2 * 0 + _ ≤ _; exact Nat.le_of_eq rfl) (hb hby at_78) (by decide) (by decide) (by decide) (by decide)
    obtain ⟨rfl, Nq72, eq72⟩ := hQ72
    have N72 := Fr.app N58 Nq72
    refine own_st st72 ?_
    show own_go _ _ _ _ _ _ _ (T72.setTop (mkF m 81 #[.val (.int p0), .val (.ref b35), .val (.int (4 : Int32)), .val (.ref c_ENV_TRANS), .val (.int (0 : Int32)), .unset, .unset] [(.int (0 : Int32))]))
    refine own_st (fun _ k => XS.istore X72.here hx rfl (hb hby at_81) rfl (l' := #[.val (.int p0), .val (.ref b35), .val (.int (4 : Int32)), .val (.ref c_ENV_TRANS), .val (.int (0 : Int32)), .val (.int (0 : Int32)), .unset]) rfl k) ?_
    show own_go _ _ _ _ _ _ _ (T72.setTop (mkF m 83 #[.val (.int p0), .val (.ref b35), .val (.int (4 : Int32)), .val (.ref c_ENV_TRANS), .val (.int (0 : Int32)), .val (.int (0 : Int32)), .unset] []))
    refine own_st (fun _ k => XS.iload X72.here hx rfl (hb hby at_83) rfl k) ?_
    show own_go _ _ _ _ _ _ _ (T72.setTop (mkF m 85 #[.val (.int p0), .val (.ref b35), .val (.int (4 : Int32)), .val (.ref c_ENV_TRANS), .val (.int (0 : Int32)), .val (.int (0 : Int32)), .unset] [(.int (0 : Int32))]))
    refine own_st (fun _ k => XS.iload X72.here hx rfl (hb hby at_85) rfl k) ?_
    show own_go _ _ _ _ _ _ _ (T72.setTop (mkF m 87 #[.val (.int p0), .val (.ref b35), .val (.int (4 : Int32)), .val (.ref c_ENV_TRANS), .val (.int (0 : Int32)), .val (.int (0 : Int32)), .unset] [(.int (0 : Int32)), (.int (0 : Int32))]))
    refine own_st (fun _ k => XS.icmpYes X72.here hx rfl (pc0 := 87) (pc' := 92) rfl (hb hby at_87) rfl (by decide) (by decide) (by decide) k) ?_
    show own_go _ _ _ _ _ _ _ (T72.setTop (mkF m 92 #[.val (.int p0), .val (.ref b35), .val (.int (4 : Int32)), .val (.ref c_ENV_TRANS), .val (.int (0 : Int32)), .val (.int (0 : Int32)), .unset] []))
    refine own_st (fun _ k => XS.aloadN X72.here hx rfl (hb hby at_92) rfl rfl k) ?_
    show own_go _ _ _ _ _ _ _ (T72.setTop (mkF m 93 #[.val (.int p0), .val (.ref b35), .val (.int (4 : Int32)), .val (.ref c_ENV_TRANS), .val (.int (0 : Int32)), .val (.int (0 : Int32)), .unset] [(.ref c_ENV_TRANS)]))
    obtain ⟨T73, X73, e73, st73⟩ := getS2 X72 hx hZ hown (host := "") (Or.inl (hw _ (List.mem_of_getElem? (i := 2) rfl))) Via.refl eq72 (hS.1.ext O59.2) (g := (mkF m 93 #[.val (.int p0), .val (.ref b35), .val (.int (4 : Int32)), .val (.ref c_ENV_TRANS), .val (.int (0 : Int32)), .val (.int (0 : Int32)), .unset] [(.ref c_ENV_TRANS)])) rfl (hb hby at_93)
    refine own_st st73 ?_
    show own_go _ _ _ _ _ _ _ (T73.setTop (mkF m 96 #[.val (.int p0), .val (.ref b35), .val (.int (4 : Int32)), .val (.ref c_ENV_TRANS), .val (.int (0 : Int32)), .val (.int (0 : Int32)), .unset] [(.ref c_INPUT), (.ref c_ENV_TRANS)]))
    refine own_st (fun _ k => XS.iconst X73.here hx rfl (hb hby at_96) k) ?_
    show own_go _ _ _ _ _ _ _ (T73.setTop (mkF m 97 #[.val (.int p0), .val (.ref b35), .val (.int (4 : Int32)), .val (.ref c_ENV_TRANS), .val (.int (0 : Int32)), .val (.int (0 : Int32)), .unset] [(.int (0 : Int32)), (.ref c_INPUT), (.ref c_ENV_TRANS)]))
    obtain ⟨v74, T74, L74, X74, hQ74, st74⟩ := own_callV X73 hx hZ (argsL := [(.ref c_INPUT), (.int (0 : Int32))]) (rest := []) (rm2_4 l Z a0 hw c_INPUT c_OUTPUT c_ENV_INIT c_SYS_INIT c_ENV_TRANS c_SYS_TRANS c_ENV_LIVENESS c_SYS_LIVENESS h58 n0 O59 hS) hown (hw _ (List.mem_of_getElem? (i := 26) rfl)) (hw _ (List.mem_of_getElem? (i := 27) rfl)) (notFace_of_selects (args := #[]) (mvT hZ (hw _ (List.mem_of_getElem? (i := 29) rfl)))) (hw _ (List.mem_of_getElem? (i := 29) rfl)) (hw _ (List.mem_of_getElem? (i := 28) rfl)) (hw _ (List.mem_of_getElem? (i := 3) rfl)) (hw _ (List.mem_of_getElem? (i := 30) rfl)) (by decide) e73 (hS.2.2.2.2.2.2.2.2.2.1.ext O59.2) (g := (mkF m 97 #[.val (.int p0), .val (.ref b35), .val (.int (4 : Int32)), .val (.ref c_ENV_TRANS), .val (.int (0 : Int32)), .val (.int (0 : Int32)), .unset] [(.int (0 : Int32)), (.ref c_INPUT), (.ref c_ENV_TRANS)])) rfl (by rw [hml]; rfl) (lenOf own_pd__28Lcom_2fexample_2fbridgr_2fbridgr_2fspec_2fSection_3bZ_29Z rfl) rfl (W := 0) (by show 2 * 0 + _ ≤ _; exact Nat.le_of_eq rfl) (hb hby at_97) (by decide) (by decide) (by decide) (by decide)
    obtain ⟨rfl, Nq74, eq74⟩ := hQ74
    have N74 := Fr.app N72 Nq74
    refine own_st st74 ?_
    show own_go _ _ _ _ _ _ _ (T74.setTop (mkF m 100 #[.val (.int p0), .val (.ref b35), .val (.int (4 : Int32)), .val (.ref c_ENV_TRANS), .val (.int (0 : Int32)), .val (.int (0 : Int32)), .unset] [(.int (1 : Int32))]))
    refine own_st (fun _ k => XS.istore X74.here hx rfl (hb hby at_100) rfl (l' := #[.val (.int p0), .val (.ref b35), .val (.int (4 : Int32)), .val (.ref c_ENV_TRANS), .val (.int (0 : Int32)), .val (.int (0 : Int32)), .val (.int (1 : Int32))]) rfl k) ?_
    show own_go _ _ _ _ _ _ _ (T74.setTop (mkF m 102 #[.val (.int p0), .val (.ref b35), .val (.int (4 : Int32)), .val (.ref c_ENV_TRANS), .val (.int (0 : Int32)), .val (.int (0 : Int32)), .val (.int (1 : Int32))] []))
    refine own_st (fun _ k => XS.iload X74.here hx rfl (hb hby at_102) rfl k) ?_
    show own_go _ _ _ _ _ _ _ (T74.setTop (mkF m 104 #[.val (.int p0), .val (.ref b35), .val (.int (4 : Int32)), .val (.ref c_ENV_TRANS), .val (.int (0 : Int32)), .val (.int (0 : Int32)), .val (.int (1 : Int32))] [(.int (0 : Int32))]))
    refine own_st (fun _ k => XS.iload X74.here hx rfl (hb hby at_104) rfl k) ?_
    show own_go _ _ _ _ _ _ _ (T74.setTop (mkF m 106 #[.val (.int p0), .val (.ref b35), .val (.int (4 : Int32)), .val (.ref c_ENV_TRANS), .val (.int (0 : Int32)), .val (.int (0 : Int32)), .val (.int (1 : Int32))] [(.int (1 : Int32)), (.int (0 : Int32))]))
    refine own_st (fun _ k => XS.ifYes X74.here hx rfl (pc0 := 106) (pc' := 113) rfl (hb hby at_106) rfl (by decide) (by decide) (by decide) k) ?_
    show own_go _ _ _ _ _ _ _ (T74.setTop (mkF m 113 #[.val (.int p0), .val (.ref b35), .val (.int (4 : Int32)), .val (.ref c_ENV_TRANS), .val (.int (0 : Int32)), .val (.int (0 : Int32)), .val (.int (1 : Int32))] [(.int (0 : Int32))]))
    refine own_st (fun _ k => XS.iconst X74.here hx rfl (hb hby at_113) k) ?_
    show own_go _ _ _ _ _ _ _ (T74.setTop (mkF m 114 #[.val (.int p0), .val (.ref b35), .val (.int (4 : Int32)), .val (.ref c_ENV_TRANS), .val (.int (0 : Int32)), .val (.int (0 : Int32)), .val (.int (1 : Int32))] [(.int (0 : Int32)), (.int (0 : Int32))]))
    refine own_st (fun _ k => XS.icmpNo X74.here hx rfl (hb hby at_114) rfl (by decide) k) ?_
    show own_go _ _ _ _ _ _ _ (T74.setTop (mkF m 117 #[.val (.int p0), .val (.ref b35), .val (.int (4 : Int32)), .val (.ref c_ENV_TRANS), .val (.int (0 : Int32)), .val (.int (0 : Int32)), .val (.int (1 : Int32))] []))
    refine own_st (fun _ k => XS.iconst X74.here hx rfl (hb hby at_117) k) ?_
    show own_go _ _ _ _ _ _ _ (T74.setTop (mkF m 118 #[.val (.int p0), .val (.ref b35), .val (.int (4 : Int32)), .val (.ref c_ENV_TRANS), .val (.int (0 : Int32)), .val (.int (0 : Int32)), .val (.int (1 : Int32))] [(.int (1 : Int32))]))
    refine own_st (fun _ k => XS.goto X74.here hx rfl (pc0 := 118) (pc' := 122) rfl (hb hby at_118) (by decide) (by decide) k) ?_
    show own_go _ _ _ _ _ _ _ (T74.setTop (mkF m 122 #[.val (.int p0), .val (.ref b35), .val (.int (4 : Int32)), .val (.ref c_ENV_TRANS), .val (.int (0 : Int32)), .val (.int (0 : Int32)), .val (.int (1 : Int32))] [(.int (1 : Int32))]))
    exact own_retN X74 hx hlk (t := .boolean) hret (by simp) rfl (hb hby at_122) (by decide) (by decide) (⟨rfl, N74⟩)
  · skip
    rw [q]
    show own_go _ _ _ _ _ _ _ (T58.setTop (mkF m 60 #[.val (.int p0), .val (.ref b35), .unset, .unset, .unset, .unset, .unset] [(.int (5 : Int32))]))
    refine own_st (fun _ k => XS.istoreN X58.here hx rfl (hb hby at_60) rfl (l' := #[.val (.int p0), .val (.ref b35), .val (.int (5 : Int32)), .unset, .unset, .unset, .unset]) rfl k) ?_
    show own_go _ _ _ _ _ _ _ (T58.setTop (mkF m 61 #[.val (.int p0), .val (.ref b35), .val (.int (5 : Int32)), .unset, .unset, .unset, .unset] []))
    refine own_st (fun _ k => XS.aloadN X58.here hx rfl (hb hby at_61) rfl rfl k) ?_
    show own_go _ _ _ _ _ _ _ (T58.setTop (mkF m 62 #[.val (.int p0), .val (.ref b35), .val (.int (5 : Int32)), .unset, .unset, .unset, .unset] [(.ref b35)]))
    refine own_st (fun _ k => XS.iloadN X58.here hx rfl (hb hby at_62) rfl k) ?_
    show own_go _ _ _ _ _ _ _ (T58.setTop (mkF m 63 #[.val (.int p0), .val (.ref b35), .val (.int (5 : Int32)), .unset, .unset, .unset, .unset] [(.int (5 : Int32)), (.ref b35)]))
    refine own_st (own_get X58 hx hZ e58 V58 rfl (j := (5 : Int32)) (by decide) (v := (.ref c_SYS_TRANS)) rfl (g := (mkF m 63 #[.val (.int p0), .val (.ref b35), .val (.int (5 : Int32)), .unset, .unset, .unset, .unset] [(.int (5 : Int32)), (.ref b35)])) rfl rfl (hb hby at_63)) ?_
    show own_go _ _ _ _ _ _ _ (T58.setTop (mkF m 64 #[.val (.int p0), .val (.ref b35), .val (.int (5 : Int32)), .unset, .unset, .unset, .unset] [(.ref c_SYS_TRANS)]))
    refine own_st (fun _ k => XS.astoreN X58.here hx rfl (hb hby at_64) rfl rfl (l' := #[.val (.int p0), .val (.ref b35), .val (.int (5 : Int32)), .val (.ref c_SYS_TRANS), .unset, .unset, .unset]) rfl k) ?_
    show own_go _ _ _ _ _ _ _ (T58.setTop (mkF m 65 #[.val (.int p0), .val (.ref b35), .val (.int (5 : Int32)), .val (.ref c_SYS_TRANS), .unset, .unset, .unset] []))
    refine own_st (fun _ k => XS.iloadN X58.here hx rfl (hb hby at_65) rfl k) ?_
    show own_go _ _ _ _ _ _ _ (T58.setTop (mkF m 66 #[.val (.int p0), .val (.ref b35), .val (.int (5 : Int32)), .val (.ref c_SYS_TRANS), .unset, .unset, .unset] [(.int (5 : Int32))]))
    refine own_st (fun _ k => XS.iconst X58.here hx rfl (hb hby at_66) k) ?_
    show own_go _ _ _ _ _ _ _ (T58.setTop (mkF m 67 #[.val (.int p0), .val (.ref b35), .val (.int (5 : Int32)), .val (.ref c_SYS_TRANS), .unset, .unset, .unset] [(.int (2 : Int32)), (.int (5 : Int32))]))
    refine own_st (fun _ k => XS.icmpYes X58.here hx rfl (pc0 := 67) (pc' := 74) rfl (hb hby at_67) rfl (by decide) (by decide) (by decide) k) ?_
    show own_go _ _ _ _ _ _ _ (T58.setTop (mkF m 74 #[.val (.int p0), .val (.ref b35), .val (.int (5 : Int32)), .val (.ref c_SYS_TRANS), .unset, .unset, .unset] []))
    refine own_st (fun _ k => XS.iconst X58.here hx rfl (hb hby at_74) k) ?_
    show own_go _ _ _ _ _ _ _ (T58.setTop (mkF m 75 #[.val (.int p0), .val (.ref b35), .val (.int (5 : Int32)), .val (.ref c_SYS_TRANS), .unset, .unset, .unset] [(.int (0 : Int32))]))
    refine own_st (fun _ k => XS.istore X58.here hx rfl (hb hby at_75) rfl (l' := #[.val (.int p0), .val (.ref b35), .val (.int (5 : Int32)), .val (.ref c_SYS_TRANS), .val (.int (0 : Int32)), .unset, .unset]) rfl k) ?_
    show own_go _ _ _ _ _ _ _ (T58.setTop (mkF m 77 #[.val (.int p0), .val (.ref b35), .val (.int (5 : Int32)), .val (.ref c_SYS_TRANS), .val (.int (0 : Int32)), .unset, .unset] []))
    refine own_st (fun _ k => XS.aloadN X58.here hx rfl (hb hby at_77) rfl rfl k) ?_
    show own_go _ _ _ _ _ _ _ (T58.setTop (mkF m 78 #[.val (.int p0), .val (.ref b35), .val (.int (5 : Int32)), .val (.ref c_SYS_TRANS), .val (.int (0 : Int32)), .unset, .unset] [(.ref c_SYS_TRANS)]))
    obtain ⟨v75, T75, L75, X75, hQ75, st75⟩ := own_callV X58 hx hZ (argsL := []) (rest := []) (rm1_5 l Z a0 hw c_INPUT c_OUTPUT c_ENV_INIT c_SYS_INIT c_ENV_TRANS c_SYS_TRANS c_ENV_LIVENESS c_SYS_LIVENESS h58 n0 O59 hS) hown (hw _ (List.mem_of_getElem? (i := 20) rfl)) (hw _ (List.mem_of_getElem? (i := 21) rfl)) (notFace_of_selects (args := #[]) (mvT hZ (hw _ (List.mem_of_getElem? (i := 23) rfl)))) (hw _ (List.mem_of_getElem? (i := 23) rfl)) (hw _ (List.mem_of_getElem? (i := 22) rfl)) (hw _ (List.mem_of_getElem? (i := 3) rfl)) (hw _ (List.mem_of_getElem? (i := 24) rfl)) (by decide) e58 (hS.2.2.2.2.2.2.2.2.2.2.2.1.ext O59.2) (g := (mkF m 78 #[.val (.int p0), .val (.ref b35), .val (.int (5 : Int32)), .val (.ref c_SYS_TRANS), .val (.int (0 : Int32)), .unset, .unset] [(.ref c_SYS_TRANS)])) rfl (by rw [hml]; rfl) (lenOf own_pd__28_29Z rfl) rfl (W := 0) (by show 2 * 0 + _ ≤ _; exact Nat.le_of_eq rfl) (hb hby at_78) (by decide) (by decide) (by decide) (by decide)
    obtain ⟨rfl, Nq75, eq75⟩ := hQ75
    have N75 := Fr.app N58 Nq75
    refine own_st st75 ?_
    show own_go _ _ _ _ _ _ _ (T75.setTop (mkF m 81 #[.val (.int p0), .val (.ref b35), .val (.int (5 : Int32)), .val (.ref c_SYS_TRANS), .val (.int (0 : Int32)), .unset, .unset] [(.int (0 : Int32))]))
    refine own_st (fun _ k => XS.istore X75.here hx rfl (hb hby at_81) rfl (l' := #[.val (.int p0), .val (.ref b35), .val (.int (5 : Int32)), .val (.ref c_SYS_TRANS), .val (.int (0 : Int32)), .val (.int (0 : Int32)), .unset]) rfl k) ?_
    show own_go _ _ _ _ _ _ _ (T75.setTop (mkF m 83 #[.val (.int p0), .val (.ref b35), .val (.int (5 : Int32)), .val (.ref c_SYS_TRANS), .val (.int (0 : Int32)), .val (.int (0 : Int32)), .unset] []))
    refine own_st (fun _ k => XS.iload X75.here hx rfl (hb hby at_83) rfl k) ?_
    show own_go _ _ _ _ _ _ _ (T75.setTop (mkF m 85 #[.val (.int p0), .val (.ref b35), .val (.int (5 : Int32)), .val (.ref c_SYS_TRANS), .val (.int (0 : Int32)), .val (.int (0 : Int32)), .unset] [(.int (0 : Int32))]))
    refine own_st (fun _ k => XS.iload X75.here hx rfl (hb hby at_85) rfl k) ?_
    show own_go _ _ _ _ _ _ _ (T75.setTop (mkF m 87 #[.val (.int p0), .val (.ref b35), .val (.int (5 : Int32)), .val (.ref c_SYS_TRANS), .val (.int (0 : Int32)), .val (.int (0 : Int32)), .unset] [(.int (0 : Int32)), (.int (0 : Int32))]))
    refine own_st (fun _ k => XS.icmpYes X75.here hx rfl (pc0 := 87) (pc' := 92) rfl (hb hby at_87) rfl (by decide) (by decide) (by decide) k) ?_
    show own_go _ _ _ _ _ _ _ (T75.setTop (mkF m 92 #[.val (.int p0), .val (.ref b35), .val (.int (5 : Int32)), .val (.ref c_SYS_TRANS), .val (.int (0 : Int32)), .val (.int (0 : Int32)), .unset] []))
    refine own_st (fun _ k => XS.aloadN X75.here hx rfl (hb hby at_92) rfl rfl k) ?_
    show own_go _ _ _ _ _ _ _ (T75.setTop (mkF m 93 #[.val (.int p0), .val (.ref b35), .val (.int (5 : Int32)), .val (.ref c_SYS_TRANS), .val (.int (0 : Int32)), .val (.int (0 : Int32)), .unset] [(.ref c_SYS_TRANS)]))
    obtain ⟨T76, X76, e76, st76⟩ := getS2 X75 hx hZ hown (host := "") (Or.inl (hw _ (List.mem_of_getElem? (i := 2) rfl))) Via.refl eq75 (hS.1.ext O59.2) (g := (mkF m 93 #[.val (.int p0), .val (.ref b35), .val (.int (5 : Int32)), .val (.ref c_SYS_TRANS), .val (.int (0 : Int32)), .val (.int (0 : Int32)), .unset] [(.ref c_SYS_TRANS)])) rfl (hb hby at_93)
    refine own_st st76 ?_
    show own_go _ _ _ _ _ _ _ (T76.setTop (mkF m 96 #[.val (.int p0), .val (.ref b35), .val (.int (5 : Int32)), .val (.ref c_SYS_TRANS), .val (.int (0 : Int32)), .val (.int (0 : Int32)), .unset] [(.ref c_INPUT), (.ref c_SYS_TRANS)]))
    refine own_st (fun _ k => XS.iconst X76.here hx rfl (hb hby at_96) k) ?_
    show own_go _ _ _ _ _ _ _ (T76.setTop (mkF m 97 #[.val (.int p0), .val (.ref b35), .val (.int (5 : Int32)), .val (.ref c_SYS_TRANS), .val (.int (0 : Int32)), .val (.int (0 : Int32)), .unset] [(.int (0 : Int32)), (.ref c_INPUT), (.ref c_SYS_TRANS)]))
    obtain ⟨v77, T77, L77, X77, hQ77, st77⟩ := own_callV X76 hx hZ (argsL := [(.ref c_INPUT), (.int (0 : Int32))]) (rest := []) (rm2_5 l Z a0 hw c_INPUT c_OUTPUT c_ENV_INIT c_SYS_INIT c_ENV_TRANS c_SYS_TRANS c_ENV_LIVENESS c_SYS_LIVENESS h58 n0 O59 hS) hown (hw _ (List.mem_of_getElem? (i := 26) rfl)) (hw _ (List.mem_of_getElem? (i := 27) rfl)) (notFace_of_selects (args := #[]) (mvT hZ (hw _ (List.mem_of_getElem? (i := 29) rfl)))) (hw _ (List.mem_of_getElem? (i := 29) rfl)) (hw _ (List.mem_of_getElem? (i := 28) rfl)) (hw _ (List.mem_of_getElem? (i := 3) rfl)) (hw _ (List.mem_of_getElem? (i := 30) rfl)) (by decide) e76 (hS.2.2.2.2.2.2.2.2.2.2.2.1.ext O59.2) (g := (mkF m 97 #[.val (.int p0), .val (.ref b35), .val (.int (5 : Int32)), .val (.ref c_SYS_TRANS), .val (.int (0 : Int32)), .val (.int (0 : Int32)), .unset] [(.int (0 : Int32)), (.ref c_INPUT), (.ref c_SYS_TRANS)])) rfl (by rw [hml]; rfl) (lenOf own_pd__28Lcom_2fexample_2fbridgr_2fbridgr_2fspec_2fSection_3bZ_29Z rfl) rfl (W := 0) (by show 2 * 0 + _ ≤ _; exact Nat.le_of_eq rfl) (hb hby at_97) (by decide) (by decide) (by decide) (by decide)
    obtain ⟨rfl, Nq77, eq77⟩ := hQ77
    have N77 := Fr.app N75 Nq77
    refine own_st st77 ?_
    show own_go _ _ _ _ _ _ _ (T77.setTop (mkF m 100 #[.val (.int p0), .val (.ref b35), .val (.int (5 : Int32)), .val (.ref c_SYS_TRANS), .val (.int (0 : Int32)), .val (.int (0 : Int32)), .unset] [(.int (1 : Int32))]))
    refine own_st (fun _ k => XS.istore X77.here hx rfl (hb hby at_100) rfl (l' := #[.val (.int p0), .val (.ref b35), .val (.int (5 : Int32)), .val (.ref c_SYS_TRANS), .val (.int (0 : Int32)), .val (.int (0 : Int32)), .val (.int (1 : Int32))]) rfl k) ?_
    show own_go _ _ _ _ _ _ _ (T77.setTop (mkF m 102 #[.val (.int p0), .val (.ref b35), .val (.int (5 : Int32)), .val (.ref c_SYS_TRANS), .val (.int (0 : Int32)), .val (.int (0 : Int32)), .val (.int (1 : Int32))] []))
    refine own_st (fun _ k => XS.iload X77.here hx rfl (hb hby at_102) rfl k) ?_
    show own_go _ _ _ _ _ _ _ (T77.setTop (mkF m 104 #[.val (.int p0), .val (.ref b35), .val (.int (5 : Int32)), .val (.ref c_SYS_TRANS), .val (.int (0 : Int32)), .val (.int (0 : Int32)), .val (.int (1 : Int32))] [(.int (0 : Int32))]))
    refine own_st (fun _ k => XS.iload X77.here hx rfl (hb hby at_104) rfl k) ?_
    show own_go _ _ _ _ _ _ _ (T77.setTop (mkF m 106 #[.val (.int p0), .val (.ref b35), .val (.int (5 : Int32)), .val (.ref c_SYS_TRANS), .val (.int (0 : Int32)), .val (.int (0 : Int32)), .val (.int (1 : Int32))] [(.int (1 : Int32)), (.int (0 : Int32))]))
    refine own_st (fun _ k => XS.ifYes X77.here hx rfl (pc0 := 106) (pc' := 113) rfl (hb hby at_106) rfl (by decide) (by decide) (by decide) k) ?_
    show own_go _ _ _ _ _ _ _ (T77.setTop (mkF m 113 #[.val (.int p0), .val (.ref b35), .val (.int (5 : Int32)), .val (.ref c_SYS_TRANS), .val (.int (0 : Int32)), .val (.int (0 : Int32)), .val (.int (1 : Int32))] [(.int (0 : Int32))]))
    refine own_st (fun _ k => XS.iconst X77.here hx rfl (hb hby at_113) k) ?_
    show own_go _ _ _ _ _ _ _ (T77.setTop (mkF m 114 #[.val (.int p0), .val (.ref b35), .val (.int (5 : Int32)), .val (.ref c_SYS_TRANS), .val (.int (0 : Int32)), .val (.int (0 : Int32)), .val (.int (1 : Int32))] [(.int (0 : Int32)), (.int (0 : Int32))]))
    refine own_st (fun _ k => XS.icmpNo X77.here hx rfl (hb hby at_114) rfl (by decide) k) ?_
    show own_go _ _ _ _ _ _ _ (T77.setTop (mkF m 117 #[.val (.int p0), .val (.ref b35), .val (.int (5 : Int32)), .val (.ref c_SYS_TRANS), .val (.int (0 : Int32)), .val (.int (0 : Int32)), .val (.int (1 : Int32))] []))
    refine own_st (fun _ k => XS.iconst X77.here hx rfl (hb hby at_117) k) ?_
    show own_go _ _ _ _ _ _ _ (T77.setTop (mkF m 118 #[.val (.int p0), .val (.ref b35), .val (.int (5 : Int32)), .val (.ref c_SYS_TRANS), .val (.int (0 : Int32)), .val (.int (0 : Int32)), .val (.int (1 : Int32))] [(.int (1 : Int32))]))
    refine own_st (fun _ k => XS.goto X77.here hx rfl (pc0 := 118) (pc' := 122) rfl (hb hby at_118) (by decide) (by decide) k) ?_
    show own_go _ _ _ _ _ _ _ (T77.setTop (mkF m 122 #[.val (.int p0), .val (.ref b35), .val (.int (5 : Int32)), .val (.ref c_SYS_TRANS), .val (.int (0 : Int32)), .val (.int (0 : Int32)), .val (.int (1 : Int32))] [(.int (1 : Int32))]))
    exact own_retN X77 hx hlk (t := .boolean) hret (by simp) rfl (hb hby at_122) (by decide) (by decide) (⟨rfl, N77⟩)
  · skip
    rw [q]
    show own_go _ _ _ _ _ _ _ (T58.setTop (mkF m 60 #[.val (.int p0), .val (.ref b35), .unset, .unset, .unset, .unset, .unset] [(.int (6 : Int32))]))
    refine own_st (fun _ k => XS.istoreN X58.here hx rfl (hb hby at_60) rfl (l' := #[.val (.int p0), .val (.ref b35), .val (.int (6 : Int32)), .unset, .unset, .unset, .unset]) rfl k) ?_
    show own_go _ _ _ _ _ _ _ (T58.setTop (mkF m 61 #[.val (.int p0), .val (.ref b35), .val (.int (6 : Int32)), .unset, .unset, .unset, .unset] []))
    refine own_st (fun _ k => XS.aloadN X58.here hx rfl (hb hby at_61) rfl rfl k) ?_
    show own_go _ _ _ _ _ _ _ (T58.setTop (mkF m 62 #[.val (.int p0), .val (.ref b35), .val (.int (6 : Int32)), .unset, .unset, .unset, .unset] [(.ref b35)]))
    refine own_st (fun _ k => XS.iloadN X58.here hx rfl (hb hby at_62) rfl k) ?_
    show own_go _ _ _ _ _ _ _ (T58.setTop (mkF m 63 #[.val (.int p0), .val (.ref b35), .val (.int (6 : Int32)), .unset, .unset, .unset, .unset] [(.int (6 : Int32)), (.ref b35)]))
    refine own_st (own_get X58 hx hZ e58 V58 rfl (j := (6 : Int32)) (by decide) (v := (.ref c_ENV_LIVENESS)) rfl (g := (mkF m 63 #[.val (.int p0), .val (.ref b35), .val (.int (6 : Int32)), .unset, .unset, .unset, .unset] [(.int (6 : Int32)), (.ref b35)])) rfl rfl (hb hby at_63)) ?_
    show own_go _ _ _ _ _ _ _ (T58.setTop (mkF m 64 #[.val (.int p0), .val (.ref b35), .val (.int (6 : Int32)), .unset, .unset, .unset, .unset] [(.ref c_ENV_LIVENESS)]))
    refine own_st (fun _ k => XS.astoreN X58.here hx rfl (hb hby at_64) rfl rfl (l' := #[.val (.int p0), .val (.ref b35), .val (.int (6 : Int32)), .val (.ref c_ENV_LIVENESS), .unset, .unset, .unset]) rfl k) ?_
    show own_go _ _ _ _ _ _ _ (T58.setTop (mkF m 65 #[.val (.int p0), .val (.ref b35), .val (.int (6 : Int32)), .val (.ref c_ENV_LIVENESS), .unset, .unset, .unset] []))
    refine own_st (fun _ k => XS.iloadN X58.here hx rfl (hb hby at_65) rfl k) ?_
    show own_go _ _ _ _ _ _ _ (T58.setTop (mkF m 66 #[.val (.int p0), .val (.ref b35), .val (.int (6 : Int32)), .val (.ref c_ENV_LIVENESS), .unset, .unset, .unset] [(.int (6 : Int32))]))
    refine own_st (fun _ k => XS.iconst X58.here hx rfl (hb hby at_66) k) ?_
    show own_go _ _ _ _ _ _ _ (T58.setTop (mkF m 67 #[.val (.int p0), .val (.ref b35), .val (.int (6 : Int32)), .val (.ref c_ENV_LIVENESS), .unset, .unset, .unset] [(.int (2 : Int32)), (.int (6 : Int32))]))
    refine own_st (fun _ k => XS.icmpYes X58.here hx rfl (pc0 := 67) (pc' := 74) rfl (hb hby at_67) rfl (by decide) (by decide) (by decide) k) ?_
    show own_go _ _ _ _ _ _ _ (T58.setTop (mkF m 74 #[.val (.int p0), .val (.ref b35), .val (.int (6 : Int32)), .val (.ref c_ENV_LIVENESS), .unset, .unset, .unset] []))
    refine own_st (fun _ k => XS.iconst X58.here hx rfl (hb hby at_74) k) ?_
    show own_go _ _ _ _ _ _ _ (T58.setTop (mkF m 75 #[.val (.int p0), .val (.ref b35), .val (.int (6 : Int32)), .val (.ref c_ENV_LIVENESS), .unset, .unset, .unset] [(.int (0 : Int32))]))
    refine own_st (fun _ k => XS.istore X58.here hx rfl (hb hby at_75) rfl (l' := #[.val (.int p0), .val (.ref b35), .val (.int (6 : Int32)), .val (.ref c_ENV_LIVENESS), .val (.int (0 : Int32)), .unset, .unset]) rfl k) ?_
    show own_go _ _ _ _ _ _ _ (T58.setTop (mkF m 77 #[.val (.int p0), .val (.ref b35), .val (.int (6 : Int32)), .val (.ref c_ENV_LIVENESS), .val (.int (0 : Int32)), .unset, .unset] []))
    refine own_st (fun _ k => XS.aloadN X58.here hx rfl (hb hby at_77) rfl rfl k) ?_
    show own_go _ _ _ _ _ _ _ (T58.setTop (mkF m 78 #[.val (.int p0), .val (.ref b35), .val (.int (6 : Int32)), .val (.ref c_ENV_LIVENESS), .val (.int (0 : Int32)), .unset, .unset] [(.ref c_ENV_LIVENESS)]))
    obtain ⟨v78, T78, L78, X78, hQ78, st78⟩ := own_callV X58 hx hZ (argsL := []) (rest := []) (rm1_6 l Z a0 hw c_INPUT c_OUTPUT c_ENV_INIT c_SYS_INIT c_ENV_TRANS c_SYS_TRANS c_ENV_LIVENESS c_SYS_LIVENESS h58 n0 O59 hS) hown (hw _ (List.mem_of_getElem? (i := 20) rfl)) (hw _ (List.mem_of_getElem? (i := 21) rfl)) (notFace_of_selects (args := #[]) (mvT hZ (hw _ (List.mem_of_getElem? (i := 23) rfl)))) (hw _ (List.mem_of_getElem? (i := 23) rfl)) (hw _ (List.mem_of_getElem? (i := 22) rfl)) (hw _ (List.mem_of_getElem? (i := 3) rfl)) (hw _ (List.mem_of_getElem? (i := 24) rfl)) (by decide) e58 (hS.2.2.2.2.2.2.2.2.2.2.2.2.2.1.ext O59.2) (g := (mkF m 78 #[.val (.int p0), .val (.ref b35), .val (.int (6 : Int32)), .val (.ref c_ENV_LIVENESS), .val (.int (0 : Int32)), .unset, .unset] [(.ref c_ENV_LIVENESS)])) rfl (by rw [hml]; rfl) (lenOf own_pd__28_29Z rfl) rfl (W := 0) (by show 2 * 0 + _ ≤ _; exact Nat.le_of_eq rfl) (hb hby at_78) (by decide) (by decide) (by decide) (by decide)
    obtain ⟨rfl, Nq78, eq78⟩ := hQ78
    have N78 := Fr.app N58 Nq78
    refine own_st st78 ?_
    show own_go _ _ _ _ _ _ _ (T78.setTop (mkF m 81 #[.val (.int p0), .val (.ref b35), .val (.int (6 : Int32)), .val (.ref c_ENV_LIVENESS), .val (.int (0 : Int32)), .unset, .unset] [(.int (0 : Int32))]))
    refine own_st (fun _ k => XS.istore X78.here hx rfl (hb hby at_81) rfl (l' := #[.val (.int p0), .val (.ref b35), .val (.int (6 : Int32)), .val (.ref c_ENV_LIVENESS), .val (.int (0 : Int32)), .val (.int (0 : Int32)), .unset]) rfl k) ?_
    show own_go _ _ _ _ _ _ _ (T78.setTop (mkF m 83 #[.val (.int p0), .val (.ref b35), .val (.int (6 : Int32)), .val (.ref c_ENV_LIVENESS), .val (.int (0 : Int32)), .val (.int (0 : Int32)), .unset] []))
    refine own_st (fun _ k => XS.iload X78.here hx rfl (hb hby at_83) rfl k) ?_
    show own_go _ _ _ _ _ _ _ (T78.setTop (mkF m 85 #[.val (.int p0), .val (.ref b35), .val (.int (6 : Int32)), .val (.ref c_ENV_LIVENESS), .val (.int (0 : Int32)), .val (.int (0 : Int32)), .unset] [(.int (0 : Int32))]))
    refine own_st (fun _ k => XS.iload X78.here hx rfl (hb hby at_85) rfl k) ?_
    show own_go _ _ _ _ _ _ _ (T78.setTop (mkF m 87 #[.val (.int p0), .val (.ref b35), .val (.int (6 : Int32)), .val (.ref c_ENV_LIVENESS), .val (.int (0 : Int32)), .val (.int (0 : Int32)), .unset] [(.int (0 : Int32)), (.int (0 : Int32))]))
    refine own_st (fun _ k => XS.icmpYes X78.here hx rfl (pc0 := 87) (pc' := 92) rfl (hb hby at_87) rfl (by decide) (by decide) (by decide) k) ?_
    show own_go _ _ _ _ _ _ _ (T78.setTop (mkF m 92 #[.val (.int p0), .val (.ref b35), .val (.int (6 : Int32)), .val (.ref c_ENV_LIVENESS), .val (.int (0 : Int32)), .val (.int (0 : Int32)), .unset] []))
    refine own_st (fun _ k => XS.aloadN X78.here hx rfl (hb hby at_92) rfl rfl k) ?_
    show own_go _ _ _ _ _ _ _ (T78.setTop (mkF m 93 #[.val (.int p0), .val (.ref b35), .val (.int (6 : Int32)), .val (.ref c_ENV_LIVENESS), .val (.int (0 : Int32)), .val (.int (0 : Int32)), .unset] [(.ref c_ENV_LIVENESS)]))
    obtain ⟨T79, X79, e79, st79⟩ := getS2 X78 hx hZ hown (host := "") (Or.inl (hw _ (List.mem_of_getElem? (i := 2) rfl))) Via.refl eq78 (hS.1.ext O59.2) (g := (mkF m 93 #[.val (.int p0), .val (.ref b35), .val (.int (6 : Int32)), .val (.ref c_ENV_LIVENESS), .val (.int (0 : Int32)), .val (.int (0 : Int32)), .unset] [(.ref c_ENV_LIVENESS)])) rfl (hb hby at_93)
    refine own_st st79 ?_
    show own_go _ _ _ _ _ _ _ (T79.setTop (mkF m 96 #[.val (.int p0), .val (.ref b35), .val (.int (6 : Int32)), .val (.ref c_ENV_LIVENESS), .val (.int (0 : Int32)), .val (.int (0 : Int32)), .unset] [(.ref c_INPUT), (.ref c_ENV_LIVENESS)]))
    refine own_st (fun _ k => XS.iconst X79.here hx rfl (hb hby at_96) k) ?_
    show own_go _ _ _ _ _ _ _ (T79.setTop (mkF m 97 #[.val (.int p0), .val (.ref b35), .val (.int (6 : Int32)), .val (.ref c_ENV_LIVENESS), .val (.int (0 : Int32)), .val (.int (0 : Int32)), .unset] [(.int (0 : Int32)), (.ref c_INPUT), (.ref c_ENV_LIVENESS)]))
    obtain ⟨v80, T80, L80, X80, hQ80, st80⟩ := own_callV X79 hx hZ (argsL := [(.ref c_INPUT), (.int (0 : Int32))]) (rest := []) (rm2_6 l Z a0 hw c_INPUT c_OUTPUT c_ENV_INIT c_SYS_INIT c_ENV_TRANS c_SYS_TRANS c_ENV_LIVENESS c_SYS_LIVENESS h58 n0 O59 hS) hown (hw _ (List.mem_of_getElem? (i := 26) rfl)) (hw _ (List.mem_of_getElem? (i := 27) rfl)) (notFace_of_selects (args := #[]) (mvT hZ (hw _ (List.mem_of_getElem? (i := 29) rfl)))) (hw _ (List.mem_of_getElem? (i := 29) rfl)) (hw _ (List.mem_of_getElem? (i := 28) rfl)) (hw _ (List.mem_of_getElem? (i := 3) rfl)) (hw _ (List.mem_of_getElem? (i := 30) rfl)) (by decide) e79 (hS.2.2.2.2.2.2.2.2.2.2.2.2.2.1.ext O59.2) (g := (mkF m 97 #[.val (.int p0), .val (.ref b35), .val (.int (6 : Int32)), .val (.ref c_ENV_LIVENESS), .val (.int (0 : Int32)), .val (.int (0 : Int32)), .unset] [(.int (0 : Int32)), (.ref c_INPUT), (.ref c_ENV_LIVENESS)])) rfl (by rw [hml]; rfl) (lenOf own_pd__28Lcom_2fexample_2fbridgr_2fbridgr_2fspec_2fSection_3bZ_29Z rfl) rfl (W := 0) (by show 2 * 0 + _ ≤ _; exact Nat.le_of_eq rfl) (hb hby at_97) (by decide) (by decide) (by decide) (by decide)
    obtain ⟨rfl, Nq80, eq80⟩ := hQ80
    have N80 := Fr.app N78 Nq80
    refine own_st st80 ?_
    show own_go _ _ _ _ _ _ _ (T80.setTop (mkF m 100 #[.val (.int p0), .val (.ref b35), .val (.int (6 : Int32)), .val (.ref c_ENV_LIVENESS), .val (.int (0 : Int32)), .val (.int (0 : Int32)), .unset] [(.int (1 : Int32))]))
    refine own_st (fun _ k => XS.istore X80.here hx rfl (hb hby at_100) rfl (l' := #[.val (.int p0), .val (.ref b35), .val (.int (6 : Int32)), .val (.ref c_ENV_LIVENESS), .val (.int (0 : Int32)), .val (.int (0 : Int32)), .val (.int (1 : Int32))]) rfl k) ?_
    show own_go _ _ _ _ _ _ _ (T80.setTop (mkF m 102 #[.val (.int p0), .val (.ref b35), .val (.int (6 : Int32)), .val (.ref c_ENV_LIVENESS), .val (.int (0 : Int32)), .val (.int (0 : Int32)), .val (.int (1 : Int32))] []))
    refine own_st (fun _ k => XS.iload X80.here hx rfl (hb hby at_102) rfl k) ?_
    show own_go _ _ _ _ _ _ _ (T80.setTop (mkF m 104 #[.val (.int p0), .val (.ref b35), .val (.int (6 : Int32)), .val (.ref c_ENV_LIVENESS), .val (.int (0 : Int32)), .val (.int (0 : Int32)), .val (.int (1 : Int32))] [(.int (0 : Int32))]))
    refine own_st (fun _ k => XS.iload X80.here hx rfl (hb hby at_104) rfl k) ?_
    show own_go _ _ _ _ _ _ _ (T80.setTop (mkF m 106 #[.val (.int p0), .val (.ref b35), .val (.int (6 : Int32)), .val (.ref c_ENV_LIVENESS), .val (.int (0 : Int32)), .val (.int (0 : Int32)), .val (.int (1 : Int32))] [(.int (1 : Int32)), (.int (0 : Int32))]))
    refine own_st (fun _ k => XS.ifYes X80.here hx rfl (pc0 := 106) (pc' := 113) rfl (hb hby at_106) rfl (by decide) (by decide) (by decide) k) ?_
    show own_go _ _ _ _ _ _ _ (T80.setTop (mkF m 113 #[.val (.int p0), .val (.ref b35), .val (.int (6 : Int32)), .val (.ref c_ENV_LIVENESS), .val (.int (0 : Int32)), .val (.int (0 : Int32)), .val (.int (1 : Int32))] [(.int (0 : Int32))]))
    refine own_st (fun _ k => XS.iconst X80.here hx rfl (hb hby at_113) k) ?_
    show own_go _ _ _ _ _ _ _ (T80.setTop (mkF m 114 #[.val (.int p0), .val (.ref b35), .val (.int (6 : Int32)), .val (.ref c_ENV_LIVENESS), .val (.int (0 : Int32)), .val (.int (0 : Int32)), .val (.int (1 : Int32))] [(.int (0 : Int32)), (.int (0 : Int32))]))
    refine own_st (fun _ k => XS.icmpNo X80.here hx rfl (hb hby at_114) rfl (by decide) k) ?_
    show own_go _ _ _ _ _ _ _ (T80.setTop (mkF m 117 #[.val (.int p0), .val (.ref b35), .val (.int (6 : Int32)), .val (.ref c_ENV_LIVENESS), .val (.int (0 : Int32)), .val (.int (0 : Int32)), .val (.int (1 : Int32))] []))
    refine own_st (fun _ k => XS.iconst X80.here hx rfl (hb hby at_117) k) ?_
    show own_go _ _ _ _ _ _ _ (T80.setTop (mkF m 118 #[.val (.int p0), .val (.ref b35), .val (.int (6 : Int32)), .val (.ref c_ENV_LIVENESS), .val (.int (0 : Int32)), .val (.int (0 : Int32)), .val (.int (1 : Int32))] [(.int (1 : Int32))]))
    refine own_st (fun _ k => XS.goto X80.here hx rfl (pc0 := 118) (pc' := 122) rfl (hb hby at_118) (by decide) (by decide) k) ?_
    show own_go _ _ _ _ _ _ _ (T80.setTop (mkF m 122 #[.val (.int p0), .val (.ref b35), .val (.int (6 : Int32)), .val (.ref c_ENV_LIVENESS), .val (.int (0 : Int32)), .val (.int (0 : Int32)), .val (.int (1 : Int32))] [(.int (1 : Int32))]))
    exact own_retN X80 hx hlk (t := .boolean) hret (by simp) rfl (hb hby at_122) (by decide) (by decide) (⟨rfl, N80⟩)
  · skip
    rw [q]
    show own_go _ _ _ _ _ _ _ (T58.setTop (mkF m 60 #[.val (.int p0), .val (.ref b35), .unset, .unset, .unset, .unset, .unset] [(.int (7 : Int32))]))
    refine own_st (fun _ k => XS.istoreN X58.here hx rfl (hb hby at_60) rfl (l' := #[.val (.int p0), .val (.ref b35), .val (.int (7 : Int32)), .unset, .unset, .unset, .unset]) rfl k) ?_
    show own_go _ _ _ _ _ _ _ (T58.setTop (mkF m 61 #[.val (.int p0), .val (.ref b35), .val (.int (7 : Int32)), .unset, .unset, .unset, .unset] []))
    refine own_st (fun _ k => XS.aloadN X58.here hx rfl (hb hby at_61) rfl rfl k) ?_
    show own_go _ _ _ _ _ _ _ (T58.setTop (mkF m 62 #[.val (.int p0), .val (.ref b35), .val (.int (7 : Int32)), .unset, .unset, .unset, .unset] [(.ref b35)]))
    refine own_st (fun _ k => XS.iloadN X58.here hx rfl (hb hby at_62) rfl k) ?_
    show own_go _ _ _ _ _ _ _ (T58.setTop (mkF m 63 #[.val (.int p0), .val (.ref b35), .val (.int (7 : Int32)), .unset, .unset, .unset, .unset] [(.int (7 : Int32)), (.ref b35)]))
    refine own_st (own_get X58 hx hZ e58 V58 rfl (j := (7 : Int32)) (by decide) (v := (.ref c_SYS_LIVENESS)) rfl (g := (mkF m 63 #[.val (.int p0), .val (.ref b35), .val (.int (7 : Int32)), .unset, .unset, .unset, .unset] [(.int (7 : Int32)), (.ref b35)])) rfl rfl (hb hby at_63)) ?_
    show own_go _ _ _ _ _ _ _ (T58.setTop (mkF m 64 #[.val (.int p0), .val (.ref b35), .val (.int (7 : Int32)), .unset, .unset, .unset, .unset] [(.ref c_SYS_LIVENESS)]))
    refine own_st (fun _ k => XS.astoreN X58.here hx rfl (hb hby at_64) rfl rfl (l' := #[.val (.int p0), .val (.ref b35), .val (.int (7 : Int32)), .val (.ref c_SYS_LIVENESS), .unset, .unset, .unset]) rfl k) ?_
    show own_go _ _ _ _ _ _ _ (T58.setTop (mkF m 65 #[.val (.int p0), .val (.ref b35), .val (.int (7 : Int32)), .val (.ref c_SYS_LIVENESS), .unset, .unset, .unset] []))
    refine own_st (fun _ k => XS.iloadN X58.here hx rfl (hb hby at_65) rfl k) ?_
    show own_go _ _ _ _ _ _ _ (T58.setTop (mkF m 66 #[.val (.int p0), .val (.ref b35), .val (.int (7 : Int32)), .val (.ref c_SYS_LIVENESS), .unset, .unset, .unset] [(.int (7 : Int32))]))
    refine own_st (fun _ k => XS.iconst X58.here hx rfl (hb hby at_66) k) ?_
    show own_go _ _ _ _ _ _ _ (T58.setTop (mkF m 67 #[.val (.int p0), .val (.ref b35), .val (.int (7 : Int32)), .val (.ref c_SYS_LIVENESS), .unset, .unset, .unset] [(.int (2 : Int32)), (.int (7 : Int32))]))
    refine own_st (fun _ k => XS.icmpYes X58.here hx rfl (pc0 := 67) (pc' := 74) rfl (hb hby at_67) rfl (by decide) (by decide) (by decide) k) ?_
    show own_go _ _ _ _ _ _ _ (T58.setTop (mkF m 74 #[.val (.int p0), .val (.ref b35), .val (.int (7 : Int32)), .val (.ref c_SYS_LIVENESS), .unset, .unset, .unset] []))
    refine own_st (fun _ k => XS.iconst X58.here hx rfl (hb hby at_74) k) ?_
    show own_go _ _ _ _ _ _ _ (T58.setTop (mkF m 75 #[.val (.int p0), .val (.ref b35), .val (.int (7 : Int32)), .val (.ref c_SYS_LIVENESS), .unset, .unset, .unset] [(.int (0 : Int32))]))
    refine own_st (fun _ k => XS.istore X58.here hx rfl (hb hby at_75) rfl (l' := #[.val (.int p0), .val (.ref b35), .val (.int (7 : Int32)), .val (.ref c_SYS_LIVENESS), .val (.int (0 : Int32)), .unset, .unset]) rfl k) ?_
    show own_go _ _ _ _ _ _ _ (T58.setTop (mkF m 77 #[.val (.int p0), .val (.ref b35), .val (.int (7 : Int32)), .val (.ref c_SYS_LIVENESS), .val (.int (0 : Int32)), .unset, .unset] []))
    refine own_st (fun _ k => XS.aloadN X58.here hx rfl (hb hby at_77) rfl rfl k) ?_
    show own_go _ _ _ _ _ _ _ (T58.setTop (mkF m 78 #[.val (.int p0), .val (.ref b35), .val (.int (7 : Int32)), .val (.ref c_SYS_LIVENESS), .val (.int (0 : Int32)), .unset, .unset] [(.ref c_SYS_LIVENESS)]))
    obtain ⟨v81, T81, L81, X81, hQ81, st81⟩ := own_callV X58 hx hZ (argsL := []) (rest := []) (rm1_7 l Z a0 hw c_INPUT c_OUTPUT c_ENV_INIT c_SYS_INIT c_ENV_TRANS c_SYS_TRANS c_ENV_LIVENESS c_SYS_LIVENESS h58 n0 O59 hS) hown (hw _ (List.mem_of_getElem? (i := 20) rfl)) (hw _ (List.mem_of_getElem? (i := 21) rfl)) (notFace_of_selects (args := #[]) (mvT hZ (hw _ (List.mem_of_getElem? (i := 23) rfl)))) (hw _ (List.mem_of_getElem? (i := 23) rfl)) (hw _ (List.mem_of_getElem? (i := 22) rfl)) (hw _ (List.mem_of_getElem? (i := 3) rfl)) (hw _ (List.mem_of_getElem? (i := 24) rfl)) (by decide) e58 (hS.2.2.2.2.2.2.2.2.2.2.2.2.2.2.2.1.ext O59.2) (g := (mkF m 78 #[.val (.int p0), .val (.ref b35), .val (.int (7 : Int32)), .val (.ref c_SYS_LIVENESS), .val (.int (0 : Int32)), .unset, .unset] [(.ref c_SYS_LIVENESS)])) rfl (by rw [hml]; rfl) (lenOf own_pd__28_29Z rfl) rfl (W := 0) (by show 2 * 0 + _ ≤ _; exact Nat.le_of_eq rfl) (hb hby at_78) (by decide) (by decide) (by decide) (by decide)
    obtain ⟨rfl, Nq81, eq81⟩ := hQ81
    have N81 := Fr.app N58 Nq81
    refine own_st st81 ?_
    show own_go _ _ _ _ _ _ _ (T81.setTop (mkF m 81 #[.val (.int p0), .val (.ref b35), .val (.int (7 : Int32)), .val (.ref c_SYS_LIVENESS), .val (.int (0 : Int32)), .unset, .unset] [(.int (0 : Int32))]))
    refine own_st (fun _ k => XS.istore X81.here hx rfl (hb hby at_81) rfl (l' := #[.val (.int p0), .val (.ref b35), .val (.int (7 : Int32)), .val (.ref c_SYS_LIVENESS), .val (.int (0 : Int32)), .val (.int (0 : Int32)), .unset]) rfl k) ?_
    show own_go _ _ _ _ _ _ _ (T81.setTop (mkF m 83 #[.val (.int p0), .val (.ref b35), .val (.int (7 : Int32)), .val (.ref c_SYS_LIVENESS), .val (.int (0 : Int32)), .val (.int (0 : Int32)), .unset] []))
    refine own_st (fun _ k => XS.iload X81.here hx rfl (hb hby at_83) rfl k) ?_
    show own_go _ _ _ _ _ _ _ (T81.setTop (mkF m 85 #[.val (.int p0), .val (.ref b35), .val (.int (7 : Int32)), .val (.ref c_SYS_LIVENESS), .val (.int (0 : Int32)), .val (.int (0 : Int32)), .unset] [(.int (0 : Int32))]))
    refine own_st (fun _ k => XS.iload X81.here hx rfl (hb hby at_85) rfl k) ?_
    show own_go _ _ _ _ _ _ _ (T81.setTop (mkF m 87 #[.val (.int p0), .val (.ref b35), .val (.int (7 : Int32)), .val (.ref c_SYS_LIVENESS), .val (.int (0 : Int32)), .val (.int (0 : Int32)), .unset] [(.int (0 : Int32)), (.int (0 : Int32))]))
    refine own_st (fun _ k => XS.icmpYes X81.here hx rfl (pc0 := 87) (pc' := 92) rfl (hb hby at_87) rfl (by decide) (by decide) (by decide) k) ?_
    show own_go _ _ _ _ _ _ _ (T81.setTop (mkF m 92 #[.val (.int p0), .val (.ref b35), .val (.int (7 : Int32)), .val (.ref c_SYS_LIVENESS), .val (.int (0 : Int32)), .val (.int (0 : Int32)), .unset] []))
    refine own_st (fun _ k => XS.aloadN X81.here hx rfl (hb hby at_92) rfl rfl k) ?_
    show own_go _ _ _ _ _ _ _ (T81.setTop (mkF m 93 #[.val (.int p0), .val (.ref b35), .val (.int (7 : Int32)), .val (.ref c_SYS_LIVENESS), .val (.int (0 : Int32)), .val (.int (0 : Int32)), .unset] [(.ref c_SYS_LIVENESS)]))
    obtain ⟨T82, X82, e82, st82⟩ := getS2 X81 hx hZ hown (host := "") (Or.inl (hw _ (List.mem_of_getElem? (i := 2) rfl))) Via.refl eq81 (hS.1.ext O59.2) (g := (mkF m 93 #[.val (.int p0), .val (.ref b35), .val (.int (7 : Int32)), .val (.ref c_SYS_LIVENESS), .val (.int (0 : Int32)), .val (.int (0 : Int32)), .unset] [(.ref c_SYS_LIVENESS)])) rfl (hb hby at_93)
    refine own_st st82 ?_
    show own_go _ _ _ _ _ _ _ (T82.setTop (mkF m 96 #[.val (.int p0), .val (.ref b35), .val (.int (7 : Int32)), .val (.ref c_SYS_LIVENESS), .val (.int (0 : Int32)), .val (.int (0 : Int32)), .unset] [(.ref c_INPUT), (.ref c_SYS_LIVENESS)]))
    refine own_st (fun _ k => XS.iconst X82.here hx rfl (hb hby at_96) k) ?_
    show own_go _ _ _ _ _ _ _ (T82.setTop (mkF m 97 #[.val (.int p0), .val (.ref b35), .val (.int (7 : Int32)), .val (.ref c_SYS_LIVENESS), .val (.int (0 : Int32)), .val (.int (0 : Int32)), .unset] [(.int (0 : Int32)), (.ref c_INPUT), (.ref c_SYS_LIVENESS)]))
    obtain ⟨v83, T83, L83, X83, hQ83, st83⟩ := own_callV X82 hx hZ (argsL := [(.ref c_INPUT), (.int (0 : Int32))]) (rest := []) (rm2_7 l Z a0 hw c_INPUT c_OUTPUT c_ENV_INIT c_SYS_INIT c_ENV_TRANS c_SYS_TRANS c_ENV_LIVENESS c_SYS_LIVENESS h58 n0 O59 hS) hown (hw _ (List.mem_of_getElem? (i := 26) rfl)) (hw _ (List.mem_of_getElem? (i := 27) rfl)) (notFace_of_selects (args := #[]) (mvT hZ (hw _ (List.mem_of_getElem? (i := 29) rfl)))) (hw _ (List.mem_of_getElem? (i := 29) rfl)) (hw _ (List.mem_of_getElem? (i := 28) rfl)) (hw _ (List.mem_of_getElem? (i := 3) rfl)) (hw _ (List.mem_of_getElem? (i := 30) rfl)) (by decide) e82 (hS.2.2.2.2.2.2.2.2.2.2.2.2.2.2.2.1.ext O59.2) (g := (mkF m 97 #[.val (.int p0), .val (.ref b35), .val (.int (7 : Int32)), .val (.ref c_SYS_LIVENESS), .val (.int (0 : Int32)), .val (.int (0 : Int32)), .unset] [(.int (0 : Int32)), (.ref c_INPUT), (.ref c_SYS_LIVENESS)])) rfl (by rw [hml]; rfl) (lenOf own_pd__28Lcom_2fexample_2fbridgr_2fbridgr_2fspec_2fSection_3bZ_29Z rfl) rfl (W := 0) (by show 2 * 0 + _ ≤ _; exact Nat.le_of_eq rfl) (hb hby at_97) (by decide) (by decide) (by decide) (by decide)
    obtain ⟨rfl, Nq83, eq83⟩ := hQ83
    have N83 := Fr.app N81 Nq83
    refine own_st st83 ?_
    show own_go _ _ _ _ _ _ _ (T83.setTop (mkF m 100 #[.val (.int p0), .val (.ref b35), .val (.int (7 : Int32)), .val (.ref c_SYS_LIVENESS), .val (.int (0 : Int32)), .val (.int (0 : Int32)), .unset] [(.int (1 : Int32))]))
    refine own_st (fun _ k => XS.istore X83.here hx rfl (hb hby at_100) rfl (l' := #[.val (.int p0), .val (.ref b35), .val (.int (7 : Int32)), .val (.ref c_SYS_LIVENESS), .val (.int (0 : Int32)), .val (.int (0 : Int32)), .val (.int (1 : Int32))]) rfl k) ?_
    show own_go _ _ _ _ _ _ _ (T83.setTop (mkF m 102 #[.val (.int p0), .val (.ref b35), .val (.int (7 : Int32)), .val (.ref c_SYS_LIVENESS), .val (.int (0 : Int32)), .val (.int (0 : Int32)), .val (.int (1 : Int32))] []))
    refine own_st (fun _ k => XS.iload X83.here hx rfl (hb hby at_102) rfl k) ?_
    show own_go _ _ _ _ _ _ _ (T83.setTop (mkF m 104 #[.val (.int p0), .val (.ref b35), .val (.int (7 : Int32)), .val (.ref c_SYS_LIVENESS), .val (.int (0 : Int32)), .val (.int (0 : Int32)), .val (.int (1 : Int32))] [(.int (0 : Int32))]))
    refine own_st (fun _ k => XS.iload X83.here hx rfl (hb hby at_104) rfl k) ?_
    show own_go _ _ _ _ _ _ _ (T83.setTop (mkF m 106 #[.val (.int p0), .val (.ref b35), .val (.int (7 : Int32)), .val (.ref c_SYS_LIVENESS), .val (.int (0 : Int32)), .val (.int (0 : Int32)), .val (.int (1 : Int32))] [(.int (1 : Int32)), (.int (0 : Int32))]))
    refine own_st (fun _ k => XS.ifYes X83.here hx rfl (pc0 := 106) (pc' := 113) rfl (hb hby at_106) rfl (by decide) (by decide) (by decide) k) ?_
    show own_go _ _ _ _ _ _ _ (T83.setTop (mkF m 113 #[.val (.int p0), .val (.ref b35), .val (.int (7 : Int32)), .val (.ref c_SYS_LIVENESS), .val (.int (0 : Int32)), .val (.int (0 : Int32)), .val (.int (1 : Int32))] [(.int (0 : Int32))]))
    refine own_st (fun _ k => XS.iconst X83.here hx rfl (hb hby at_113) k) ?_
    show own_go _ _ _ _ _ _ _ (T83.setTop (mkF m 114 #[.val (.int p0), .val (.ref b35), .val (.int (7 : Int32)), .val (.ref c_SYS_LIVENESS), .val (.int (0 : Int32)), .val (.int (0 : Int32)), .val (.int (1 : Int32))] [(.int (0 : Int32)), (.int (0 : Int32))]))
    refine own_st (fun _ k => XS.icmpNo X83.here hx rfl (hb hby at_114) rfl (by decide) k) ?_
    show own_go _ _ _ _ _ _ _ (T83.setTop (mkF m 117 #[.val (.int p0), .val (.ref b35), .val (.int (7 : Int32)), .val (.ref c_SYS_LIVENESS), .val (.int (0 : Int32)), .val (.int (0 : Int32)), .val (.int (1 : Int32))] []))
    refine own_st (fun _ k => XS.iconst X83.here hx rfl (hb hby at_117) k) ?_
    show own_go _ _ _ _ _ _ _ (T83.setTop (mkF m 118 #[.val (.int p0), .val (.ref b35), .val (.int (7 : Int32)), .val (.ref c_SYS_LIVENESS), .val (.int (0 : Int32)), .val (.int (0 : Int32)), .val (.int (1 : Int32))] [(.int (1 : Int32))]))
    refine own_st (fun _ k => XS.goto X83.here hx rfl (pc0 := 118) (pc' := 122) rfl (hb hby at_118) (by decide) (by decide) k) ?_
    show own_go _ _ _ _ _ _ _ (T83.setTop (mkF m 122 #[.val (.int p0), .val (.ref b35), .val (.int (7 : Int32)), .val (.ref c_SYS_LIVENESS), .val (.int (0 : Int32)), .val (.int (0 : Int32)), .val (.int (1 : Int32))] [(.int (1 : Int32))]))
    exact own_retN X83 hx hlk (t := .boolean) hret (by simp) rfl (hb hby at_122) (by decide) (by decide) (⟨rfl, N83⟩)
set_option maxRecDepth 65536 in
set_option maxHeartbeats 40000000 in
theorem comes_1 {Post : Tables → Env → Array Value → State → Outcome → State → Prop} (hpost : ∀ tb e args s v u, (limb_1_1.after args s (.returned v) u = true ∧ limb_1_2.after args s (.returned v) u = true ∧ True) → FrameEnd s (.returned v) u (Jvm.fieldLocs frame_1_writes args s ++ Jvm.arrayLocs frame_1_arrays args s ++ Jvm.staticLocs frame_1_statics s) 16 128 → Post tb e args s (.returned v) u) :
    ArmFor flags0 classFile x code maxLocals ret World_1 tables_1 room_1 Calls_1 rest_1 Pre_1 Post := by
  intro l hfl _ _ p e ha hc hk s m args below hf hA hF happ hP
  obtain ⟨hcalls, hrest, hpre⟩ := hP
  obtain ⟨-, -, -, hnamed, -, -, -, hat⟩ := (Spec.applies_iff hf).mp happ
  obtain ⟨hg, hn⟩ := and_e (Cond.before_iff.mp (show (Jvm.Cond.and given_1 narrow_1).before args s = true from hpre))
  obtain ⟨h1, hg0⟩ := and_e hg
  obtain ⟨w0, rfl⟩ : ∃ w0 : Value, args = #[w0] := by
    have hs : args.size = 1 := by simpa [Cond.value, given_1] using h1
    obtain ⟨L⟩ := args
    match L, hs with
    | [w0], _ => exact ⟨w0, rfl⟩
  have hw := fun d (hd : d ∈ tables_1) => atoms_spec (ws := Jvm.Cond.code x code maxLocals ret :: tables_1) hat d (List.mem_cons_of_mem _ hd)
  obtain ⟨i0, e0⟩ := is_v hg0
  obtain rfl : w0 = (.int i0) := Option.some.inj e0
  have hfit : Fit s := fun {y c} hc i hi => by
    obtain ⟨ha, rfl⟩ := Array.getElem?_eq_some_iff.mp hc
    have q := List.all_eq_true.mp ((Array.all_eq_true_iff_forall_mem.mp hF) _ (Array.getElem_mem ha)) i (List.mem_range.mpr hi)
    simpa [Array.getElem?_eq_getElem hi] using q
  obtain ⟨n1, r1⟩ := and_e hn
  obtain ⟨n2, r2⟩ := and_e r1
  obtain ⟨n3, r3⟩ := and_e r2
  obtain ⟨n4, r4⟩ := and_e r3
  obtain ⟨n5, r5⟩ := and_e r4
  obtain ⟨n6, r6⟩ := and_e r5
  obtain ⟨n7, r7⟩ := and_e r6
  obtain ⟨n8, r8⟩ := and_e r7
  obtain ⟨n9, r9⟩ := and_e r8
  obtain ⟨n10, r10⟩ := and_e r9
  obtain ⟨n11, r11⟩ := and_e r10
  obtain ⟨n12, r12⟩ := and_e r11
  obtain ⟨n13, r13⟩ := and_e r12
  obtain ⟨n14, r14⟩ := and_e r13
  obtain ⟨n15, r15⟩ := and_e r14
  have n16 := r15
  obtain ⟨c_INPUT, v_c_INPUT⟩ := exa_v n1
  have E_c_INPUT := Exa.start v_c_INPUT n1
  have S_c_INPUT := Sta.start v_c_INPUT (Or.inr ⟨(hw _ (List.mem_of_getElem? (i := 3) rfl)), (hw _ (List.mem_of_getElem? (i := 4) rfl))⟩)
  obtain ⟨c_OUTPUT, v_c_OUTPUT⟩ := exa_v n2
  have E_c_OUTPUT := Exa.start v_c_OUTPUT n2
  have S_c_OUTPUT := Sta.start v_c_OUTPUT (Or.inr ⟨(hw _ (List.mem_of_getElem? (i := 3) rfl)), (hw _ (List.mem_of_getElem? (i := 7) rfl))⟩)
  obtain ⟨c_ENV_INIT, v_c_ENV_INIT⟩ := exa_v n3
  have E_c_ENV_INIT := Exa.start v_c_ENV_INIT n3
  have S_c_ENV_INIT := Sta.start v_c_ENV_INIT (Or.inr ⟨(hw _ (List.mem_of_getElem? (i := 3) rfl)), (hw _ (List.mem_of_getElem? (i := 9) rfl))⟩)
  obtain ⟨c_SYS_INIT, v_c_SYS_INIT⟩ := exa_v n4
  have E_c_SYS_INIT := Exa.start v_c_SYS_INIT n4
  have S_c_SYS_INIT := Sta.start v_c_SYS_INIT (Or.inr ⟨(hw _ (List.mem_of_getElem? (i := 3) rfl)), (hw _ (List.mem_of_getElem? (i := 11) rfl))⟩)
  obtain ⟨c_ENV_TRANS, v_c_ENV_TRANS⟩ := exa_v n5
  have E_c_ENV_TRANS := Exa.start v_c_ENV_TRANS n5
  have S_c_ENV_TRANS := Sta.start v_c_ENV_TRANS (Or.inr ⟨(hw _ (List.mem_of_getElem? (i := 3) rfl)), (hw _ (List.mem_of_getElem? (i := 13) rfl))⟩)
  obtain ⟨c_SYS_TRANS, v_c_SYS_TRANS⟩ := exa_v n6
  have E_c_SYS_TRANS := Exa.start v_c_SYS_TRANS n6
  have S_c_SYS_TRANS := Sta.start v_c_SYS_TRANS (Or.inr ⟨(hw _ (List.mem_of_getElem? (i := 3) rfl)), (hw _ (List.mem_of_getElem? (i := 15) rfl))⟩)
  obtain ⟨c_ENV_LIVENESS, v_c_ENV_LIVENESS⟩ := exa_v n7
  have E_c_ENV_LIVENESS := Exa.start v_c_ENV_LIVENESS n7
  have S_c_ENV_LIVENESS := Sta.start v_c_ENV_LIVENESS (Or.inr ⟨(hw _ (List.mem_of_getElem? (i := 3) rfl)), (hw _ (List.mem_of_getElem? (i := 17) rfl))⟩)
  obtain ⟨c_SYS_LIVENESS, v_c_SYS_LIVENESS⟩ := exa_v n8
  have E_c_SYS_LIVENESS := Exa.start v_c_SYS_LIVENESS n8
  have S_c_SYS_LIVENESS := Sta.start v_c_SYS_LIVENESS (Or.inr ⟨(hw _ (List.mem_of_getElem? (i := 3) rfl)), (hw _ (List.mem_of_getElem? (i := 19) rfl))⟩)
  have F_c_INPUT_ordinal := own_fldI v_c_INPUT n9
  have F_c_SYS_INIT_ordinal := own_fldI v_c_SYS_INIT n10
  have F_c_OUTPUT_ordinal := own_fldI v_c_OUTPUT n11
  have F_c_ENV_LIVENESS_ordinal := own_fldI v_c_ENV_LIVENESS n12
  have F_c_SYS_LIVENESS_ordinal := own_fldI v_c_SYS_LIVENESS n13
  have F_c_ENV_INIT_ordinal := own_fldI v_c_ENV_INIT n14
  have F_c_ENV_TRANS_ordinal := own_fldI v_c_ENV_TRANS n15
  have F_c_SYS_TRANS_ordinal := own_fldI v_c_SYS_TRANS n16
  have hS : own_S s c_INPUT c_OUTPUT c_ENV_INIT c_SYS_INIT c_ENV_TRANS c_SYS_TRANS c_ENV_LIVENESS c_SYS_LIVENESS := ⟨S_c_INPUT, E_c_INPUT, S_c_OUTPUT, E_c_OUTPUT, S_c_ENV_INIT, E_c_ENV_INIT, S_c_SYS_INIT, E_c_SYS_INIT, S_c_ENV_TRANS, E_c_ENV_TRANS, S_c_SYS_TRANS, E_c_SYS_TRANS, S_c_ENV_LIVENESS, E_c_ENV_LIVENESS, S_c_SYS_LIVENESS, E_c_SYS_LIVENESS, F_c_INPUT_ordinal, F_c_SYS_INIT_ordinal, F_c_OUTPUT_ordinal, F_c_ENV_LIVENESS_ordinal, F_c_SYS_LIVENESS_ordinal, F_c_ENV_INIT_ordinal, F_c_ENV_TRANS_ordinal, F_c_SYS_TRANS_ordinal⟩

  obtain ⟨n, o, h1, h2, h3, _, L, rfl, ⟨rfl, N⟩, hq⟩ := rm0 l s _ hw tables_1 i0 c_INPUT c_OUTPUT c_ENV_INIT c_SYS_INIT c_ENV_TRANS c_SYS_TRANS c_ENV_LIVENESS c_SYS_LIVENESS s.heap s.heap.size (Old.start s) hS p e ha hc hk s m _ below hf ((Spec.applies_iff_loose hf).mp happ).1 ⟨rfl, State.Warmed39.refl s, rfl⟩ trivial
  refine ⟨n, _, h1, h2, h3, hpost _ _ _ _ _ _ ⟨Cond.after_iff.mpr rfl, Cond.after_iff.mpr (eq_i res_at (Term.int_eval (1)) rfl), trivial⟩ ⟨hq.1, hq.2.1, (hq.2.2.sift fun y hy => Or.inr (N y hy)).mono (by decide) (by decide)⟩⟩
theorem main_1_1 : Claimed_1_1 := comes_1 fun _ _ _ _ _ _ h hF => ⟨h.1, hF⟩
theorem main_1_2 : Claimed_1_2 := comes_1 fun _ _ _ _ _ _ h hF => ⟨h.2.1, hF⟩
end Jvm.Pilot.@@N@@
namespace Jvm.Pilot.@@N@@
open Jvm Jvm.ClassFile Sem Op Lib Jvm.Free Jvm.Stand Jvm.Pilot.@@N@@.Jvm.D
/-! MADE BY PROGRAM (witnessworld.py) out of the Statement's table words and the real class files: 13 classes; the members and pool entries that the words name. The judged class is class 1, her method 1. -/
namespace start1
open Jvm.ClassFile
def u (s : String) : CpInfo := .utf8 (stringToUtf16 s)
/-- a pool by its gaps: so many unusable entries, then the entry; so many at the end -/
def gap : Nat → List CpInfo → List CpInfo
  | 0, r => r
  | n + 1, r => .unusable :: gap n r
def poolList (es : List (Nat × CpInfo)) (last : Nat) : List CpInfo := es.foldr (fun e r => gap e.1 (e.2 :: r)) (gap last [])
def pool (es : List (Nat × CpInfo)) (last : Nat) : Array CpInfo := ⟨poolList es last⟩
def fileOf (pool : Array CpInfo) (this : Nat) (attrs : Array Attribute := #[]) (ms : Array MethodInfo := #[]) (fl : Nat := 33) (sup : Nat := 0) (ifs : Array Nat := #[]) (fds : Array FieldInfo := #[]) : ClassFile where
  minorVersion := 0
  majorVersion := 65
  constantPool := pool
  accessFlags := fl
  thisClass := this
  superClass := sup
  interfaces := ifs
  fields := fds
  methods := ms
  attributes := attrs
def plain (name : String) (sup : Option ClassId) : Class where
  name := name
  kind := .ordinary
  loader := none
  accessFlags := 33
  super := sup
  interfaces := #[]
  cf := none
  fields := #[]
  methods := #[]
  instanceTypes := #[]
  staticTypes := #[]
  resolved := #[]
  callSites := []
  init := .initialized
  statics := none
  mirror := none

def pool0 : Array CpInfo := pool [(5, u "<init>"), (0, u "()V"), (1, .class_ 10), (1, u "java/lang/Object")] 113

def k0m0 : Method := { name := "<init>", desc := "()V", sig := { parameters := [], returnType := none }, accessFlags := 1, code := none }
/-- java/lang/Object -/
def k0 : Class := { plain "java/lang/Object" none with
  accessFlags := 33
  interfaces := #[]
  cf := some (fileOf pool0 8 #[] #[{ accessFlags := 1, nameIndex := 5, descriptorIndex := 6, attributes := #[] }] 33 0 #[] #[])
  fields := #[]
  methods := #[k0m0]
  instanceTypes := #[]
  staticTypes := #[]
  resolved := Array.replicate 124 none
  statics := none }

def pool1 : Array CpInfo := pool [(2, .class_ 4), (1, u "java/lang/Object"), (0, u "<init>"), (0, u "()V"), (0, .class_ 8), (0, u "com/example/bridgr/bridgr/spec/Section"), (0, .fieldref 7 10), (0, .nameAndType 11 12), (0, u "INPUT"), (0, u "Lcom/example/bridgr/bridgr/spec/Section;"), (0, .fieldref 7 14), (0, .nameAndType 15 12), (0, u "OUTPUT"), (0, .fieldref 7 17), (0, .nameAndType 18 12), (0, u "ENV_INIT"), (0, .fieldref 7 20), (0, .nameAndType 21 12), (0, u "SYS_INIT"), (0, .fieldref 7 23), (0, .nameAndType 24 12), (0, u "ENV_TRANS"), (0, .fieldref 7 26), (0, .nameAndType 27 12), (0, u "SYS_TRANS"), (0, .fieldref 7 29), (0, .nameAndType 30 12), (0, u "ENV_LIVENESS"), (0, .fieldref 7 32), (0, .nameAndType 33 12), (0, u "SYS_LIVENESS"), (0, .methodref 7 35), (0, .nameAndType 36 37), (0, u "declaresVariables"), (0, u "()Z"), (0, .methodref 7 39), (0, .nameAndType 40 41), (0, u "admits"), (0, u "(Lcom/example/bridgr/bridgr/spec/Section;Z)Z"), (0, .class_ 43), (0, u "com/example/bridgr/bridgr/spec/SectionDeclaresVariablesPinLaw"), (2, u "law"), (0, u "(I)Z")] 5

def k1m0 : Method := { name := "<init>", desc := "()V", sig := { parameters := [], returnType := none }, accessFlags := 1, code := none }
def k1c1 : Code := { maxStack := 4, maxLocals := 7, code := code, exceptionTable := #[], attributes := #[] }
def k1m1 : Method := { name := "law", desc := "(I)Z", sig := { parameters := [.int], returnType := some .boolean }, accessFlags := 9, code := some k1c1 }
/-- com/example/bridgr/bridgr/spec/SectionDeclaresVariablesPinLaw -/
def k1 : Class := { plain "com/example/bridgr/bridgr/spec/SectionDeclaresVariablesPinLaw" (some 0) with
  accessFlags := 49
  interfaces := #[]
  cf := some (fileOf pool1 42 #[] #[{ accessFlags := 1, nameIndex := 5, descriptorIndex := 6, attributes := #[] }, { accessFlags := 9, nameIndex := 46, descriptorIndex := 47, attributes := #[] }] 49 2 #[] #[])
  fields := #[]
  methods := #[k1m0, k1m1]
  instanceTypes := #[]
  staticTypes := #[]
  resolved := Array.replicate 53 none
  statics := none }

def pool2 : Array CpInfo := pool [(1, .class_ 2), (0, u "java/lang/constant/Constable"), (0, .class_ 4), (0, u "java/lang/Object")] 6

/-- java/lang/constant/Constable -/
def k2 : Class := { plain "java/lang/constant/Constable" (some 0) with
  accessFlags := 1537
  interfaces := #[]
  cf := some (fileOf pool2 1 #[] #[] 1537 3 #[] #[])
  fields := #[]
  methods := #[]
  instanceTypes := #[]
  staticTypes := #[]
  resolved := Array.replicate 11 none
  statics := none }

def pool3 : Array CpInfo := pool [(1, .class_ 2), (0, u "java/lang/Comparable"), (0, .class_ 4), (0, u "java/lang/Object")] 7

/-- java/lang/Comparable -/
def k3 : Class := { plain "java/lang/Comparable" (some 0) with
  accessFlags := 1537
  interfaces := #[]
  cf := some (fileOf pool3 1 #[] #[] 1537 3 #[] #[])
  fields := #[]
  methods := #[]
  instanceTypes := #[]
  staticTypes := #[]
  resolved := Array.replicate 12 none
  statics := none }

def pool4 : Array CpInfo := pool [(1, .class_ 2), (0, u "java/io/Serializable"), (0, .class_ 4), (0, u "java/lang/Object")] 2

/-- java/io/Serializable -/
def k4 : Class := { plain "java/io/Serializable" (some 0) with
  accessFlags := 1537
  interfaces := #[]
  cf := some (fileOf pool4 1 #[] #[] 1537 3 #[] #[])
  fields := #[]
  methods := #[]
  instanceTypes := #[]
  staticTypes := #[]
  resolved := Array.replicate 7 none
  statics := none }

def pool5 : Array CpInfo := pool [(2, .class_ 4), (1, u "java/lang/Enum"), (0, u "name"), (0, u "Ljava/lang/String;"), (0, .fieldref 2 8), (0, .nameAndType 9 10), (0, u "ordinal"), (0, u "I"), (1, .class_ 14), (1, u "java/lang/Object"), (4, u "hash"), (86, .class_ 108), (1, u "java/lang/Enum$EnumDesc"), (2, .class_ 112), (0, u "java/lang/constant/Constable"), (0, .class_ 114), (0, u "java/lang/Comparable"), (0, .class_ 116), (0, u "java/io/Serializable"), (9, u "()I")] 77

def k5c0 : Code := { maxStack := 1, maxLocals := 1, code := jdk_37_method_2_code, exceptionTable := #[], attributes := #[] }
def k5m0 : Method := { name := "ordinal", desc := "()I", sig := { parameters := [], returnType := some .int }, accessFlags := 17, code := some k5c0 }
/-- java/lang/Enum -/
def k5 : Class := { plain "java/lang/Enum" (some 0) with
  accessFlags := 1057
  interfaces := #[2, 3, 4]
  cf := some (fileOf pool5 2 #[.nestMembers #[106]] #[{ accessFlags := 17, nameIndex := 9, descriptorIndex := 126, attributes := #[] }] 1057 12 #[111, 113, 115] #[{ accessFlags := 18, nameIndex := 5, descriptorIndex := 6, attributes := #[] }, { accessFlags := 18, nameIndex := 9, descriptorIndex := 10, attributes := #[] }, { accessFlags := 2, nameIndex := 19, descriptorIndex := 10, attributes := #[] }])
  fields := #[{ name := "name", type := (.object "java/lang/String"), accessFlags := 18, slot := 0, constantValue := 0 }, { name := "ordinal", type := .int, accessFlags := 18, slot := 1, constantValue := 0 }, { name := "hash", type := .int, accessFlags := 2, slot := 2, constantValue := 0 }]
  methods := #[k5m0]
  instanceTypes := #[(.object "java/lang/String"), .int, .int]
  staticTypes := #[]
  resolved := Array.replicate 204 none
  statics := none }

def pool6 : Array CpInfo := pool [(1, .class_ 2), (0, u "com/example/bridgr/bridgr/spec/Section"), (0, .fieldref 1 4), (0, .nameAndType 5 6), (0, u "INPUT"), (0, u "Lcom/example/bridgr/bridgr/spec/Section;"), (0, .fieldref 1 8), (0, .nameAndType 9 6), (0, u "OUTPUT"), (2, u "ENV_INIT"), (2, u "SYS_INIT"), (2, u "ENV_TRANS"), (2, u "SYS_TRANS"), (2, u "ENV_LIVENESS"), (2, u "SYS_LIVENESS"), (2, u "$VALUES"), (0, u "[Lcom/example/bridgr/bridgr/spec/Section;"), (6, .class_ 40), (1, u "java/lang/Enum"), (35, u "()I"), (19, .methodref 1 97), (0, .nameAndType 98 99), (0, u "declaresVariables"), (0, u "()Z"), (12, .methodref 1 113), (0, .nameAndType 114 76), (0, u "ordinal"), (27, u "admits"), (0, u "(Lcom/example/bridgr/bridgr/spec/Section;Z)Z")] 19

def k6c0 : Code := { maxStack := 2, maxLocals := 1, code := prog_19_method_6_code, exceptionTable := #[], attributes := #[] }
def k6m0 : Method := { name := "declaresVariables", desc := "()Z", sig := { parameters := [], returnType := some .boolean }, accessFlags := 1, code := some k6c0 }
def k6c1 : Code := { maxStack := 4, maxLocals := 3, code := prog_19_method_7_code, exceptionTable := #[], attributes := #[] }
def k6m1 : Method := { name := "admits", desc := "(Lcom/example/bridgr/bridgr/spec/Section;Z)Z", sig := { parameters := [(.object "com/example/bridgr/bridgr/spec/Section"), .boolean], returnType := some .boolean }, accessFlags := 1, code := some k6c1 }
/-- com/example/bridgr/bridgr/spec/Section -/
def k6 : Class := { plain "com/example/bridgr/bridgr/spec/Section" (some 5) with
  accessFlags := 16433
  interfaces := #[]
  cf := some (fileOf pool6 1 #[] #[{ accessFlags := 1, nameIndex := 98, descriptorIndex := 99, attributes := #[] }, { accessFlags := 1, nameIndex := 142, descriptorIndex := 143, attributes := #[] }] 16433 38 #[] #[{ accessFlags := 16409, nameIndex := 5, descriptorIndex := 6, attributes := #[] }, { accessFlags := 16409, nameIndex := 9, descriptorIndex := 6, attributes := #[] }, { accessFlags := 16409, nameIndex := 12, descriptorIndex := 6, attributes := #[] }, { accessFlags := 16409, nameIndex := 15, descriptorIndex := 6, attributes := #[] }, { accessFlags := 16409, nameIndex := 18, descriptorIndex := 6, attributes := #[] }, { accessFlags := 16409, nameIndex := 21, descriptorIndex := 6, attributes := #[] }, { accessFlags := 16409, nameIndex := 24, descriptorIndex := 6, attributes := #[] }, { accessFlags := 16409, nameIndex := 27, descriptorIndex := 6, attributes := #[] }, { accessFlags := 4122, nameIndex := 30, descriptorIndex := 31, attributes := #[] }])
  fields := #[{ name := "INPUT", type := (.object "com/example/bridgr/bridgr/spec/Section"), accessFlags := 16409, slot := 0, constantValue := 0 }, { name := "OUTPUT", type := (.object "com/example/bridgr/bridgr/spec/Section"), accessFlags := 16409, slot := 1, constantValue := 0 }, { name := "ENV_INIT", type := (.object "com/example/bridgr/bridgr/spec/Section"), accessFlags := 16409, slot := 2, constantValue := 0 }, { name := "SYS_INIT", type := (.object "com/example/bridgr/bridgr/spec/Section"), accessFlags := 16409, slot := 3, constantValue := 0 }, { name := "ENV_TRANS", type := (.object "com/example/bridgr/bridgr/spec/Section"), accessFlags := 16409, slot := 4, constantValue := 0 }, { name := "SYS_TRANS", type := (.object "com/example/bridgr/bridgr/spec/Section"), accessFlags := 16409, slot := 5, constantValue := 0 }, { name := "ENV_LIVENESS", type := (.object "com/example/bridgr/bridgr/spec/Section"), accessFlags := 16409, slot := 6, constantValue := 0 }, { name := "SYS_LIVENESS", type := (.object "com/example/bridgr/bridgr/spec/Section"), accessFlags := 16409, slot := 7, constantValue := 0 }, { name := "$VALUES", type := (.array (.object "com/example/bridgr/bridgr/spec/Section")), accessFlags := 4122, slot := 8, constantValue := 0 }]
  methods := #[k6m0, k6m1]
  instanceTypes := #[(.object "java/lang/String"), .int, .int]
  staticTypes := #[(.object "com/example/bridgr/bridgr/spec/Section"), (.object "com/example/bridgr/bridgr/spec/Section"), (.object "com/example/bridgr/bridgr/spec/Section"), (.object "com/example/bridgr/bridgr/spec/Section"), (.object "com/example/bridgr/bridgr/spec/Section"), (.object "com/example/bridgr/bridgr/spec/Section"), (.object "com/example/bridgr/bridgr/spec/Section"), (.object "com/example/bridgr/bridgr/spec/Section"), (.array (.object "com/example/bridgr/bridgr/spec/Section"))]
  resolved := Array.replicate 163 none
  statics := some 0 }

def pool7 : Array CpInfo := pool [(1, u "java/lang/Cloneable"), (0, .class_ 1), (0, u "java/lang/Object"), (0, .class_ 3)] 3

/-- java/lang/Cloneable -/
def k7 : Class := { plain "java/lang/Cloneable" (some 0) with
  accessFlags := 1537
  interfaces := #[]
  cf := some (fileOf pool7 2 #[] #[] 1537 4 #[] #[])
  fields := #[]
  methods := #[]
  instanceTypes := #[]
  staticTypes := #[]
  resolved := Array.replicate 8 none
  statics := none }

/-- the primitive byte -/
def k8 : Class := { plain "byte" none with kind := .primitive 'B', accessFlags := 0x411 }
/-- [B -/
def k9 : Class := { plain "[B" (some 0) with kind := .array 8 .byte, interfaces := #[7, 4], accessFlags := 1041 }

/-- the primitive int -/
def k10 : Class := { plain "int" none with kind := .primitive 'I', accessFlags := 0x411 }
/-- [I -/
def k11 : Class := { plain "[I" (some 0) with kind := .array 10 .int, interfaces := #[7, 4], accessFlags := 1041 }

/-- [Lcom/example/bridgr/bridgr/spec/Section; -/
def k12 : Class := { plain "[Lcom/example/bridgr/bridgr/spec/Section;" (some 0) with kind := .array 6 (.object "com/example/bridgr/bridgr/spec/Section"), interfaces := #[7, 4], accessFlags := 1041 }

def heap : Heap := #[{ cls := 6, slots := #[.ref 1, .ref 2, .ref 3, .ref 4, .ref 5, .ref 6, .ref 7, .ref 8, .null], vm := .statics 6 },
  { cls := 6, slots := #[.null, .int 0, .int 0], vm := .none },
  { cls := 6, slots := #[.null, .int 1, .int 0], vm := .none },
  { cls := 6, slots := #[.null, .int 2, .int 0], vm := .none },
  { cls := 6, slots := #[.null, .int 3, .int 0], vm := .none },
  { cls := 6, slots := #[.null, .int 4, .int 0], vm := .none },
  { cls := 6, slots := #[.null, .int 5, .int 0], vm := .none },
  { cls := 6, slots := #[.null, .int 6, .int 0], vm := .none },
  { cls := 6, slots := #[.null, .int 7, .int 0], vm := .none }]
def classes : Array Class := #[k0, k1, k2, k3, k4, k5, k6, k7, k8, k9, k10, k11, k12]
def interned : List (Array UInt16 × Addr) := []
def slotsUsed : Nat := 33
def theMethod : MethodId := ⟨1, 1⟩
def args0 : Array Value := #[.int 5]
def aboutOver (below : List Frame) : State where
  vm := { classes := classes, interned := interned.toArray }
  heap := heap
  slotsUsed := slotsUsed
  threads := #[{ frames := .invoking theMethod args0 :: below }]
def below0 : List Frame := [.native { method := ⟨0, 0⟩, args := #[] }]
def about1 : State := aboutOver below0
def p0 : Program := .bare "" "" ""
def e0 : Env := launch0.env 0 0 0
theorem w_frames : about1.frames = Frame.invoking theMethod args0 :: below0 := rfl
set_option maxRecDepth 65536 in
theorem w_args : argsFit about1.vm theMethod args0 = true := by decide +kernel
set_option maxRecDepth 65536 in
theorem w_heap : heapFits about1 = true := by decide +kernel
set_option maxRecDepth 65536 in
theorem w_runnable : about1.curStatus? = some .runnable := by decide +kernel
set_option maxRecDepth 65536 in
theorem w_alone : about1.alone = true := by decide +kernel
set_option maxRecDepth 65536 in
theorem w_named : about1.methodNamed? x = some theMethod := by decide +kernel
set_option maxRecDepth 65536 in
theorem w_hears : about1.hears theMethod below0 = true := by decide +kernel
set_option maxRecDepth 65536 in
theorem w_ripe : about1.ripe theMethod args0 below0 = true := by decide +kernel
theorem w_running : about1.status = .running := rfl
set_option maxRecDepth 65536 in
theorem w_room : about1.hasRoom e0.platform room_1 = true :=
  launch0.hasRoom_least _ room_1 (by decide +kernel) (by decide +kernel) (by decide +kernel) (by decide +kernel) (by decide +kernel) (by decide +kernel)
theorem allAtoms_all (ts : List Jvm.Cond) (a : Array Jvm.Value) (st : Jvm.State) : (allAtoms ts).before a st = ts.all (fun c => c.before a st) := by
  induction ts with
  | nil => rfl
  | cons c t ih =>
    show (Jvm.Cond.and c (allAtoms t)).before a st = _
    rw [Jvm.Cond.before_and, ih, List.all_cons]
def words1 : List Jvm.Cond := Jvm.Cond.code x code maxLocals ret :: tables_1
/-- a 'code' word, met by the world's own term for the bytes: nothing is compared byte by byte -/
theorem code_word {y : MethodName} {bytes : ByteArray} {mx : Nat} {rt : Option FieldType} {a : Array Value} {s : State} {m : MethodId} {meth : Method} {c : Code} (h1 : s.methodNamed? y = some m) (h2 : s.vm.method? m = some meth) (h3 : meth.code = some c) (h4 : c.code = bytes)
    (h5 : (c.maxLocals == mx && c.exceptionTable.isEmpty && decide (c.maxStack ≤ mostOperands) && decide (meth.sig.returnType = rt) && !meth.locks && decide (parseMethodDescriptor y.desc = some meth.sig)) = true) : (Jvm.Cond.code y bytes mx rt).before a s = true := by
  simp only [Bool.and_eq_true, beq_iff_eq, Bool.not_eq_true', decide_eq_true_eq] at h5
  obtain ⟨⟨⟨⟨⟨g1, g2⟩, g3⟩, g4⟩, g5⟩, g6⟩ := h5
  simp [Cond.before, Cond.holds, Cond.value, h1, h2, h3, h4, g1, g2, g3, g4, g5, g6]
def isCode : Jvm.Cond → Bool
  | .code _ _ _ _ => true
  | _ => false
theorem all_split {L : List Jvm.Cond} {P : Jvm.Cond → Bool} (h1 : L.all (fun c => isCode c || P c) = true) (h2 : ∀ c ∈ L.filter isCode, P c = true) : L.all P = true := by
  refine List.all_eq_true.mpr fun c hc => ?_
  have h := List.all_eq_true.mp h1 c hc
  rcases Bool.eq_false_or_eq_true (isCode c) with hi | hi
  · exact h2 c (List.mem_filter.mpr ⟨hc, hi⟩)
  · simpa [hi] using h
set_option maxRecDepth 65536 in
theorem w_c0 : (Jvm.Cond.code x code maxLocals ret).before args0 about1 = true := code_word (m := ⟨1, 1⟩) (meth := k1m1) (c := k1c1) (by decide +kernel) rfl rfl rfl (by decide +kernel)
set_option maxRecDepth 65536 in
theorem w_c1 : (Jvm.Cond.code ({ cls := "com/example/bridgr/bridgr/spec/Section", name := "declaresVariables", desc := "()Z" } : Jvm.MethodName) prog_19_method_6_code (1 : Nat) (Option.some Jvm.ClassFile.FieldType.boolean)).before args0 about1 = true := code_word (m := ⟨6, 0⟩) (meth := k6m0) (c := k6c0) (by decide +kernel) rfl rfl rfl (by decide +kernel)
set_option maxRecDepth 65536 in
theorem w_c2 : (Jvm.Cond.code ({ cls := "com/example/bridgr/bridgr/spec/Section", name := "admits", desc := "(Lcom/example/bridgr/bridgr/spec/Section;Z)Z" } : Jvm.MethodName) prog_19_method_7_code (3 : Nat) (Option.some Jvm.ClassFile.FieldType.boolean)).before args0 about1 = true := code_word (m := ⟨6, 1⟩) (meth := k6m1) (c := k6c1) (by decide +kernel) rfl rfl rfl (by decide +kernel)
set_option maxRecDepth 65536 in
theorem w_c3 : (Jvm.Cond.code ({ cls := "java/lang/Enum", name := "ordinal", desc := "()I" } : Jvm.MethodName) jdk_37_method_2_code (1 : Nat) (Option.some Jvm.ClassFile.FieldType.int)).before args0 about1 = true := code_word (m := ⟨5, 0⟩) (meth := k5m0) (c := k5c0) (by decide +kernel) rfl rfl rfl (by decide +kernel)
def codes1 : List Jvm.Cond := [Jvm.Cond.code x code maxLocals ret, Jvm.Cond.code ({ cls := "com/example/bridgr/bridgr/spec/Section", name := "declaresVariables", desc := "()Z" } : Jvm.MethodName) prog_19_method_6_code (1 : Nat) (Option.some Jvm.ClassFile.FieldType.boolean), Jvm.Cond.code ({ cls := "com/example/bridgr/bridgr/spec/Section", name := "admits", desc := "(Lcom/example/bridgr/bridgr/spec/Section;Z)Z" } : Jvm.MethodName) prog_19_method_7_code (3 : Nat) (Option.some Jvm.ClassFile.FieldType.boolean), Jvm.Cond.code ({ cls := "java/lang/Enum", name := "ordinal", desc := "()I" } : Jvm.MethodName) jdk_37_method_2_code (1 : Nat) (Option.some Jvm.ClassFile.FieldType.int)]
set_option maxRecDepth 65536 in
theorem codes_eq : words1.filter isCode = codes1 := rfl
theorem w_codes : ∀ c ∈ words1.filter isCode, c.before args0 about1 = true := by
  rw [codes_eq]
  intro c hc
  simp only [codes1, List.mem_cons, List.not_mem_nil, or_false] at hc
  rcases hc with rfl | rfl | rfl | rfl
  · exact w_c0
  · exact w_c1
  · exact w_c2
  · exact w_c3
set_option maxRecDepth 65536 in
theorem w_t1 : (words1.take 24).all (fun c => isCode c || c.before args0 about1) = true := by decide +kernel
set_option maxRecDepth 65536 in
theorem w_t2 : (words1.drop 24).all (fun c => isCode c || c.before args0 about1) = true := by decide +kernel
theorem w_tables : (allAtoms (Jvm.Cond.code x code maxLocals ret :: tables_1)).before args0 about1 = true := by
  rw [allAtoms_all]
  show words1.all (fun c => c.before args0 about1) = true
  refine all_split ?_ w_codes
  rw [← List.take_append_drop 24 words1, List.all_append, w_t1, w_t2]
  rfl
set_option maxRecDepth 65536 in
theorem w_case : (Jvm.Cond.and given_1 narrow_1).before args0 about1 = true := by decide +kernel
theorem w_applies : (headSpec (Jvm.Cond.code x code maxLocals ret :: tables_1) room_1).applies x e0.platform about1 = true :=
  (Spec.applies_iff w_frames).mpr ⟨w_running, w_runnable, w_alone, w_named, w_hears, w_ripe, w_room, w_tables⟩
theorem atStart : AtStart classFile x code maxLocals ret World_1 tables_1 room_1 Calls_1 rest_1 Pre_1 launch0 p0 e0 about1 theMethod args0 below0 :=
  ⟨lists_1, trivial, launch0.admits_env _ _ _, launch0.least_env, fairChoices_fair.cas, fairChoices_fair.clock, w_frames, w_args, w_heap, w_applies, trivial, trivial, w_case⟩
end start1
theorem witness_1 : WitnessClaimed_1 := ⟨start1.p0, start1.e0, start1.about1, start1.theMethod, start1.args0, start1.below0, start1.atStart⟩
end Jvm.Pilot.@@N@@
