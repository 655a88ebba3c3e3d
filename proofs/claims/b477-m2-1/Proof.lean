import JvmDerived
import JvmDerived.Pilot.@@N@@Statement
import JvmDerived.Pilot.@@N@@Code
set_option linter.unusedVariables false
set_option linter.unusedSimpArgs false
namespace Jvm.Pilot.@@N@@
open Jvm Jvm.ClassFile Sem Op Lib Jvm.Free Jvm.Stand Jvm.LawKit Jvm.RoadKit Bundle Jvm.Pilot.@@N@@.Jvm.D
section OwnKit
variable {p : Program} {l : Launch} {e : Env} {R : Room} {s : State} {m : MethodId} {args : Array Value} {below : List Frame} {meth : Method} {c : Code} {T : State} {locs : List Loc} {cells slots : Nat} {Z : State} {a0 : Array Value} {h : Heap} {Q : Option Value → Heap → List Loc → Prop} {rc rs : Nat} {S S' : State}
/-- from S the body ends well -/
def own_go (p : Program) (e : Env) (below : List Frame) (s : State) (Q : Option Value → Heap → List Loc → Prop) (rc rs : Nat) (S : State) : Prop :=
  ∃ s₂ o, Steps p.tables e below S s₂ ∧ s₂.status = .running ∧ Ended s₂ below o ∧ ∃ v L, o = .returned v ∧ Q v s₂.heap L ∧ FrameEnd s o s₂ L rc rs
theorem own_st (k : ∀ t, Steps p.tables e below S' t → Steps p.tables e below S t) (g : own_go p e below s Q rc rs S') : own_go p e below s Q rc rs S := by
  obtain ⟨s₂, o, h1, h2⟩ := g
  exact ⟨s₂, o, k _ h1, h2⟩
theorem own_ret (X : Stand p l e R s m args below meth c T locs cells slots) (hx : p.tables.exec = Jvm.exec) (hlk : meth.locks = false) {pc : Nat} {Ls : Array Slot} {w : Value} {t : FieldType} {i : Instr} {rest : List Value} (hret : meth.sig.returnType = some t) (hn : narrow t w = w)
    (hi : (i = .ireturn ∧ (t = .int ∨ t = .boolean ∨ t = .byte ∨ t = .char ∨ t = .short) ∧ ∃ z, w = .int z) ∨ (i = .lreturn ∧ t = .long ∧ ∃ z, w = .long z) ∨ (i = .dreturn ∧ t = .double ∧ ∃ z, w = .double z) ∨ (i = .freturn ∧ t = .float ∧ ∃ z, w = .float z) ∨ (i = .areturn ∧ t.isReference = true ∧ w.isRef = true))
    (hd : decode c.code pc = .ok (i, 1)) (hc : cells ≤ rc) (hs : slots ≤ rs) (hQ : Q (some w) T.heap locs) : own_go p e below s Q rc rs (T.setTop (mkF m pc Ls (w :: rest))) := by
  obtain ⟨fs, hr, hrun, hended, hW, hsame⟩ := X.leave (v := some w) (fun h => by rw [hret] at h; cases h) hlk
  exact ⟨_, _, retOut X hx hret hn hi hd hr, hrun, hended, _, _, rfl, hQ, ⟨_, rfl⟩, hW, hsame.mono hc hs⟩
theorem own_retI (X : Stand p l e R s m args below meth c T locs cells slots) (hx : p.tables.exec = Jvm.exec) (hlk : meth.locks = false) {pc : Nat} {Ls : Array Slot} {z : Int32} {rest : List Value} (hret : meth.sig.returnType = some .int)
    (hd : decode c.code pc = .ok (.ireturn, 1)) (hc : cells ≤ rc) (hs : slots ≤ rs) (hQ : Q (some (.int z)) T.heap locs) : own_go p e below s Q rc rs (T.setTop (mkF m pc Ls (.int z :: rest))) :=
  own_ret X hx hlk hret rfl (Or.inl ⟨rfl, Or.inl rfl, z, rfl⟩) hd hc hs hQ
theorem own_retN (X : Stand p l e R s m args below meth c T locs cells slots) (hx : p.tables.exec = Jvm.exec) (hlk : meth.locks = false) {pc : Nat} {Ls : Array Slot} {z : Int32} {t : FieldType} {rest : List Value} (hret : meth.sig.returnType = some t) (ht : t = .boolean ∨ t = .byte ∨ t = .char ∨ t = .short) (hn : narrow t (.int z) = .int z)
    (hd : decode c.code pc = .ok (.ireturn, 1)) (hc : cells ≤ rc) (hs : slots ≤ rs) (hQ : Q (some (.int z)) T.heap locs) : own_go p e below s Q rc rs (T.setTop (mkF m pc Ls (.int z :: rest))) :=
  own_ret X hx hlk hret hn (Or.inl ⟨rfl, Or.inr ht, z, rfl⟩) hd hc hs hQ
theorem own_retJ (X : Stand p l e R s m args below meth c T locs cells slots) (hx : p.tables.exec = Jvm.exec) (hlk : meth.locks = false) {pc : Nat} {Ls : Array Slot} {z : Int64} {rest : List Value} (hret : meth.sig.returnType = some .long)
    (hd : decode c.code pc = .ok (.lreturn, 1)) (hc : cells ≤ rc) (hs : slots ≤ rs) (hQ : Q (some (.long z)) T.heap locs) : own_go p e below s Q rc rs (T.setTop (mkF m pc Ls (.long z :: rest))) :=
  own_ret X hx hlk hret rfl (Or.inr (Or.inl ⟨rfl, rfl, z, rfl⟩)) hd hc hs hQ
theorem own_retA (X : Stand p l e R s m args below meth c T locs cells slots) (hx : p.tables.exec = Jvm.exec) (hlk : meth.locks = false) {pc : Nat} {Ls : Array Slot} {w : Value} {t : FieldType} {rest : List Value} (hret : meth.sig.returnType = some t) (ht : t.isReference = true) (hw : w.isRef = true)
    (hd : decode c.code pc = .ok (.areturn, 1)) (hc : cells ≤ rc) (hs : slots ≤ rs) (hQ : Q (some w) T.heap locs) : own_go p e below s Q rc rs (T.setTop (mkF m pc Ls (w :: rest))) :=
  own_ret X hx hlk hret (by cases w <;> cases t <;> first | rfl | (simp [Value.isRef] at hw; done) | (simp [FieldType.isReference] at ht; done)) (Or.inr (Or.inr (Or.inr (Or.inr ⟨rfl, ht, hw⟩)))) hd hc hs hQ
theorem own_ret0 (X : Stand p l e R s m args below meth c T locs cells slots) (hx : p.tables.exec = Jvm.exec) (hlk : meth.locks = false) {pc : Nat} {Ls : Array Slot} (hret : meth.sig.returnType = none)
    (hd : decode c.code pc = .ok (.return_, 1)) (hc : cells ≤ rc) (hs : slots ≤ rs) (hQ : Q none T.heap locs) : own_go p e below s Q rc rs (T.setTop (mkF m pc Ls [])) := by
  obtain ⟨fs, hr, hrun, hended, hW, hsame⟩ := X.leave (v := none) (fun _ => rfl) hlk
  exact ⟨_, _, X.returnOut hx hret hd hr, hrun, hended, _, _, rfl, hQ, ⟨_, rfl⟩, hW, hsame.mono hc hs⟩
/-- a body's contract at a heap -/
def own_Met (l : Launch) (Z : State) (y : MethodName) (bytes : ByteArray) (maxL : Nat) (ret : Option FieldType) (ws : List Jvm.Cond) (rm : Room) (as' : Array Value) (h : Heap) (Q : Option Value → Heap → List Loc → Prop) : Prop :=
  MetFree l y (head1 (Jvm.Cond.code y bytes maxL ret :: ws) rm) (fun a U => a = as' ∧ Z.Warmed39 U.vm ∧ U.heap = h) (fun _ _ _ _ _ => True) (fun _ U o U' => ∃ v L, o = .returned v ∧ Q v U'.heap L ∧ FrameEnd U o U' L rm.cells rm.slots)
theorem own_body {y : MethodName} {bytes : ByteArray} {maxL : Nat} {ret : Option FieldType} {ws : List Jvm.Cond} {rm : Room} {as' : Array Value} (hp : plainFor y = true)
    (k : ∀ (p : Program) (e : Env) (s : State) (m : MethodId) (below : List Frame) (meth : Method) (c : Code) (s₁ : State), p.tables.exec = Jvm.exec → c.code = bytes → c.maxLocals = maxL → s.vm.findClass y.cls = some m.cls → meth.name = y.name → meth.sig.returnType = ret → meth.locks = false → Stand p l e rm s m as' below meth c s₁ [] 0 0 → Z.Warmed39 s.vm → s₁.heap = h → own_go p e below s Q rm.cells rm.slots (s₁.setTop (entryFrame m as' maxL))) :
    own_Met l Z y bytes maxL ret ws rm as' h Q := by
  refine MetFree.of_bodySF hp hisR ?_
  intro p e s m args below meth c s₁ Bd hml0 hP hK
  obtain ⟨rfl, hZ, hh⟩ := hP
  exact k p e s m below meth c s₁ Bd.exec Bd.bytes hml0 (findClass_of_methodNamed Bd.named) (name_of_methodNamed Bd.named Bd.method).1 Bd.returns Bd.notSynchronized (Stand.of_body Bd) hZ (by rw [← hh, Bd.state]; rfl)
theorem own_callS (X : Stand p l e R s m args below meth c T locs cells slots) (hx : p.tables.exec = Jvm.exec) (hZ : Z.Warmed39 s.vm) {own : String} {index : Nat} {y : MethodName} {bytes : ByteArray} {maxL : Nat} {ret : Option FieldType} {rm : Room} {argsL rest : List Value} {Q' : Option Value → Heap → List Loc → Prop}
    (hM : own_Met l Z y bytes maxL ret [] rm argsL.toArray h Q') (hown : s.vm.findClass own = some m.cls) (w1 : (Jvm.Cond.methodLink own index y).before a0 Z = true) (w2 : (Jvm.Cond.static y).before a0 Z = true) (w3 : (Jvm.Cond.initialized y.cls).before a0 Z = true) (w4 : (Jvm.Cond.code y bytes maxL ret).before a0 Z = true)
    (hy : y.cls ≠ "java/lang/invoke/MethodHandle" ∧ y.cls ≠ "java/lang/invoke/VarHandle") (eT : T.heap = h) {g : JFrame} (hg : g.method = m) (hsize : g.locals.size = c.maxLocals) (hlen : ∀ sig, parseMethodDescriptor y.desc = some sig → argsL.length = sig.parameters.length) (hstack : g.stack = argsL.reverse ++ rest) {W : Nat} (hW : 2 * g.monitorRoom + (rest.map fun v => v.category).sum ≤ W)
    (hd : decode c.code g.pc = .ok (.invokestatic index, 3)) (hf : rm.frames + 1 ≤ R.frames) (hl : W + (maxL + 11) + rm.locals ≤ R.locals) (hc : cells + rm.cells ≤ R.cells) (hs : slots + rm.slots ≤ R.slots) :
    ∃ v T' L, Stand p l e R s m args below meth c T' (locs ++ L) (cells + rm.cells) (slots + rm.slots) ∧ Q' v T'.heap L ∧ ∀ target, Steps p.tables e below (T'.setTop { g with pc := g.pc + 3, stack := v.toList ++ rest }) target → Steps p.tables e below (T.setTop g) target := by
  obtain ⟨v, _, ⟨T1, L1, k1, n1⟩, -, X1, ⟨Lc, hQ, l1, y1, z1⟩, st⟩ := Jvm.LawKit.callS X hx (y := y) hown (mvT hZ w1) (mvT hZ w2) (mvT hZ w3) (mvT hZ w4) hy (backOf (W := W) hM hZ w4 w3 hf hl) hg hsize hlen hstack hW hd (fun _ _ => ⟨rfl, eT, hc, hs⟩)
  dsimp only [Pt.U, Pt.locs, Pt.cells, Pt.slots] at X1 l1 y1 z1 st hQ
  subst l1 y1 z1
  exact ⟨v, T1, Lc, X1, hQ, st⟩
theorem own_callV (X : Stand p l e R s m args below meth c T locs cells slots) (hx : p.tables.exec = Jvm.exec) (hZ : Z.Warmed39 s.vm) {own C : String} {index : Nat} {y z : MethodName} {bytes : ByteArray} {maxL : Nat} {ret : Option FieldType} {rm : Room} {b : Addr} {argsL rest : List Value} {Q' : Option Value → Heap → List Loc → Prop}
    (hM : own_Met l Z z bytes maxL ret [] rm (.ref b :: argsL).toArray h Q') (hown : s.vm.findClass own = some m.cls) (w1 : (Jvm.Cond.methodLink own index y).before a0 Z = true) (w2 : (Jvm.Cond.declares y).before a0 Z = true) (nf : NotFace s y) (w3 : (Jvm.Cond.selects C y z).before a0 Z = true) (w5 : (Jvm.Cond.instanceMethod z).before a0 Z = true)
    (w6 : (Jvm.Cond.initialized z.cls).before a0 Z = true) (w4 : (Jvm.Cond.code z bytes maxL ret).before a0 Z = true)
    (hy : y.cls ≠ "java/lang/invoke/MethodHandle" ∧ y.cls ≠ "java/lang/invoke/VarHandle") (eT : T.heap = h) (E : Exa Z h b C) {g : JFrame} (hg : g.method = m) (hsize : g.locals.size = c.maxLocals) (hlen : ∀ sig, parseMethodDescriptor y.desc = some sig → argsL.length = sig.parameters.length) (hstack : g.stack = argsL.reverse ++ .ref b :: rest) {W : Nat} (hW : 2 * g.monitorRoom + (rest.map fun v => v.category).sum ≤ W)
    (hd : decode c.code g.pc = .ok (.invokevirtual index, 3)) (hf : rm.frames + 1 ≤ R.frames) (hl : W + (maxL + 11) + rm.locals ≤ R.locals) (hc : cells + rm.cells ≤ R.cells) (hs : slots + rm.slots ≤ R.slots) :
    ∃ v T' L, Stand p l e R s m args below meth c T' (locs ++ L) (cells + rm.cells) (slots + rm.slots) ∧ Q' v T'.heap L ∧ ∀ target, Steps p.tables e below (T'.setTop { g with pc := g.pc + 3, stack := v.toList ++ rest }) target → Steps p.tables e below (T.setTop g) target := by
  obtain ⟨cq, kq, qa, qb, qc⟩ := isOf hZ eT E
  obtain ⟨v, _, ⟨T1, L1, k1, n1⟩, -, X1, ⟨Lc, hQ, l1, y1, z1⟩, st⟩ := X.virtualBack hx (y := y) (z := z) hown (mvT hZ w1) (mvT hZ w2) nf (mvT hZ w3) (mvT hZ w5) hy (backOf (W := W) hM hZ w4 w6 hf hl) qa qc hg hsize (Steps.refl _) hlen hstack hW hd (fun _ _ => ⟨rfl, eT, hc, hs⟩)
  dsimp only [Pt.U, Pt.locs, Pt.cells, Pt.slots] at X1 l1 y1 z1 st hQ
  subst l1 y1 z1
  exact ⟨v, T1, Lc, X1, hQ, fun _ k => st.trans k⟩
theorem own_callU (X : Stand p l e R s m args below meth c T locs cells slots) (hx : p.tables.exec = Jvm.exec) (hZ : Z.Warmed39 s.vm) {own C owner : String} {index : Nat} {y z : MethodName} {bytes : ByteArray} {maxL : Nat} {ret : Option FieldType} {rm : Room} {b : Addr} {argsL rest : List Value} {Q' : Option Value → Heap → List Loc → Prop}
    (hM : own_Met l Z z bytes maxL ret [] rm (.ref b :: argsL).toArray h Q') (hown : s.vm.findClass own = some m.cls) (w1 : (Jvm.Cond.methodLink own index y).before a0 Z = true) (w2 : (Jvm.Cond.sameMethod y.cls owner y.name y.desc).before a0 Z = true) (w7 : (Jvm.Cond.declares ⟨owner, y.name, y.desc⟩).before a0 Z = true) (w3 : (Jvm.Cond.selects C y z).before a0 Z = true) (w5 : (Jvm.Cond.instanceMethod z).before a0 Z = true)
    (w6 : (Jvm.Cond.initialized z.cls).before a0 Z = true) (w4 : (Jvm.Cond.code z bytes maxL ret).before a0 Z = true)
    (hy : owner ≠ "java/lang/invoke/MethodHandle" ∧ owner ≠ "java/lang/invoke/VarHandle") (eT : T.heap = h) (E : Exa Z h b C) {g : JFrame} (hg : g.method = m) (hsize : g.locals.size = c.maxLocals) (hlen : ∀ sig, parseMethodDescriptor y.desc = some sig → argsL.length = sig.parameters.length) (hstack : g.stack = argsL.reverse ++ .ref b :: rest) {W : Nat} (hW : 2 * g.monitorRoom + (rest.map fun v => v.category).sum ≤ W)
    (hd : decode c.code g.pc = .ok (.invokevirtual index, 3)) (hf : rm.frames + 1 ≤ R.frames) (hl : W + (maxL + 11) + rm.locals ≤ R.locals) (hc : cells + rm.cells ≤ R.cells) (hs : slots + rm.slots ≤ R.slots) :
    ∃ v T' L, Stand p l e R s m args below meth c T' (locs ++ L) (cells + rm.cells) (slots + rm.slots) ∧ Q' v T'.heap L ∧ ∀ target, Steps p.tables e below (T'.setTop { g with pc := g.pc + 3, stack := v.toList ++ rest }) target → Steps p.tables e below (T.setTop g) target := by
  obtain ⟨cq, kq, qa, qb, qc⟩ := isOf hZ eT E
  obtain ⟨v, _, ⟨T1, L1, k1, n1⟩, -, X1, ⟨Lc, hQ, l1, y1, z1⟩, st⟩ := X.virtualBackUp hx (x := y) (y := z) hown (mvT hZ w1) (mvT hZ w2) (mvT hZ w7) hy (mvT hZ w3) (mvT hZ w5) (backOf (W := W) hM hZ w4 w6 hf hl) qa qc hg hsize (Steps.refl _) hlen hstack hW hd (fun _ _ => ⟨rfl, eT, hc, hs⟩)
  dsimp only [Pt.U, Pt.locs, Pt.cells, Pt.slots] at X1 l1 y1 z1 st hQ
  subst l1 y1 z1
  exact ⟨v, T1, Lc, X1, hQ, fun _ k => st.trans k⟩
theorem own_callN (X : Stand p l e R s m args below meth c T locs cells slots) (hx : p.tables.exec = Jvm.exec) (hZ : Z.Warmed39 s.vm) {own : String} {index : Nat} {y : MethodName} {bytes : ByteArray} {maxL : Nat} {rm : Room} {b : Addr} {argsL rest : List Value} {Q' : Option Value → Heap → List Loc → Prop}
    (hM : own_Met l Z y bytes maxL none [] rm (.ref b :: argsL).toArray h Q') (hi : y.name = "<init>") (hown : s.vm.findClass own = some m.cls) (w1 : (Jvm.Cond.methodLink own index y).before a0 Z = true) (w2 : (Jvm.Cond.instanceMethod y).before a0 Z = true)
    (w3 : (Jvm.Cond.initialized y.cls).before a0 Z = true) (w4 : (Jvm.Cond.code y bytes maxL none).before a0 Z = true)
    (hy : y.cls ≠ "java/lang/invoke/MethodHandle" ∧ y.cls ≠ "java/lang/invoke/VarHandle") (eT : T.heap = h) {g : JFrame} (hg : g.method = m) (hsize : g.locals.size = c.maxLocals) (hlen : ∀ sig, parseMethodDescriptor y.desc = some sig → argsL.length = sig.parameters.length) (hstack : g.stack = argsL.reverse ++ .ref b :: rest) {W : Nat} (hW : 2 * g.monitorRoom + (rest.map fun v => v.category).sum ≤ W)
    (hd : decode c.code g.pc = .ok (.invokespecial index, 3)) (hf : rm.frames + 1 ≤ R.frames) (hl : W + (maxL + 11) + rm.locals ≤ R.locals) (hc : cells + rm.cells ≤ R.cells) (hs : slots + rm.slots ≤ R.slots) :
    ∃ v T' L, Stand p l e R s m args below meth c T' (locs ++ L) (cells + rm.cells) (slots + rm.slots) ∧ Q' v T'.heap L ∧ ∀ target, Steps p.tables e below (T'.setTop { g with pc := g.pc + 3, stack := v.toList ++ rest }) target → Steps p.tables e below (T.setTop g) target := by
  obtain ⟨v, _, ⟨T1, L1, k1, n1⟩, -, X1, ⟨Lc, hQ, l1, y1, z1⟩, st⟩ := X.specialBack hx (y := y) hi hown (mvT hZ w1) (mvT hZ w2) (mvT hZ w4) hy (backOf (W := W) hM hZ w4 w3 hf hl) hg hsize (Steps.refl _) hlen hstack hW hd (fun _ _ => ⟨rfl, eT, hc, hs⟩)
  dsimp only [Pt.U, Pt.locs, Pt.cells, Pt.slots] at X1 l1 y1 z1 st hQ
  subst l1 y1 z1
  exact ⟨v, T1, Lc, X1, hQ, fun _ k => st.trans k⟩
/-- a reference laid into an array that the walk has made -/
theorem own_put (X : Stand p l e R s m args below meth c T locs cells slots) (hx : p.tables.exec = Jvm.exec) (hZ : Z.Warmed39 s.vm) (eT : T.heap = h) {a : Addr} {k : ClassId} {C : String} {z : Int32} {vs : List Value} {dv : Value} (V : Arv Z h a k (.object C) z vs dv) (O : Ovr Z k C) {y : Addr} (I : Ins Z h y C true) {j : Int32} (hj : ¬ j < 0 ∧ j < z) (i : Nat) (hi : j.toNatClampNeg = i) (hl : i < vs.length)
    {g : JFrame} (hg : g.method = m) {rest : List Value} (hs : g.stack = .ref y :: .int j :: .ref a :: rest) (hd : decode c.code g.pc = .ok (.aastore, 1)) :
    ∃ T' h', Stand p l e R s m args below meth c T' (locs ++ [⟨a, j.toNatClampNeg⟩]) cells slots ∧ T'.heap = h' ∧ Wr h h' a j.toNatClampNeg (.ref y) ∧ Arv Z h' a k (.object C) z (vs.set i (.ref y)) dv ∧ ∀ target, Steps p.tables e below (T'.setTop { g with pc := g.pc + 1, stack := rest }) target → Steps p.tables e below (T.setTop g) target := by
  obtain ⟨cl, A, q1, S, q3, H, G⟩ := V
  obtain ⟨T', h', X', e', W, st⟩ := stR X hx hZ eT A (j := j) (inb_of S hj) rfl (Sto.ofV A q1 O I) hg hs hd
  exact ⟨T', h', X', e', W, Arv.set A q1 S q3 H G rfl W i hi hl, st⟩
theorem own_get (X : Stand p l e R s m args below meth c T locs cells slots) (hx : p.tables.exec = Jvm.exec) (hZ : Z.Warmed39 s.vm) (eT : T.heap = h) {a : Addr} {k : ClassId} {ty : FieldType} {z : Int32} {vs : List Value} {dv : Value} (V : Arv Z h a k ty z vs dv) (hty : ty.isReference = true) {j : Int32} (hj : ¬ j < 0 ∧ j < z) {v : Value} (hv : vs.getD j.toNatClampNeg dv = v)
    {g : JFrame} (hg : g.method = m) {rest : List Value} (hs : g.stack = .int j :: .ref a :: rest) (hd : decode c.code g.pc = .ok (.aaload, 1)) :
    ∀ target, Steps p.tables e below (T.setTop { g with pc := g.pc + 1, stack := v :: rest }) target → Steps p.tables e below (T.setTop g) target := by
  obtain ⟨cl, A, q1, S, q3, H, G⟩ := V
  intro target k
  exact X.aaload hx (by rw [eT]; exact A.1) (State.isArrayOf_alike hZ.alike A.2.1) hty A.2.2 (inb_of S hj) (H.at (inb_of S hj) hv) hg hs hd target k
/-- an array of references of a written length, made -/
theorem own_arr (X : Stand p l e R s m args below meth c T locs cells slots) (hx : p.tables.exec = Jvm.exec) (hZ : Z.Warmed39 s.vm) {own C : String} {index : Nat} (hown : s.vm.findClass own = some m.cls) (w1 : (Jvm.Cond.classLink own index C).before a0 Z = true) (w2 : (Jvm.Cond.arrayOver (.object C)).before a0 Z = true) (eT : T.heap = h)
    {g : JFrame} (hg : g.method = m) (hd : decode c.code g.pc = .ok (.anewarray index, 3)) {n : Int32} {rest : List Value} (hs : g.stack = .int n :: rest) (hn : ¬ n < 0) {cap : Nat} (hcap : n.toNatClampNeg ≤ cap) (hb : cap * 8 ≤ 536870912) (hc : cells + 1 ≤ R.cells) (hl : slots + cap ≤ R.slots) :
    ∃ T' h' k a, Stand p l e R s m args below meth c T' locs (cells + 1) (slots + cap) ∧ T'.heap = h' ∧ a = h.size ∧ Ext h h' ∧ Arv Z h' a k (.object C) n (List.replicate cap .null) .null ∧ Ovr Z k C ∧
      ∀ target, Steps p.tables e below (T'.setTop { g with pc := g.pc + 3, stack := .ref a :: rest }) target → Steps p.tables e below (T.setTop g) target := by
  obtain ⟨T', h', k, X', e', E, A, O, st⟩ := newR X hx hZ hown w1 w2 eT hg hd hs hn hcap hb hc hl
  exact ⟨T', h', k, _, X', e', rfl, E, (Arv.new A hn).pad (pad_rep [] .null cap), O, st⟩
theorem own_len (X : Stand p l e R s m args below meth c T locs cells slots) (hx : p.tables.exec = Jvm.exec) (hZ : Z.Warmed39 s.vm) (eT : T.heap = h) {a : Addr} {k : ClassId} {ty : FieldType} {z : Int32} {vs : List Value} {dv : Value} (V : Arv Z h a k ty z vs dv)
    {g : JFrame} (hg : g.method = m) {rest : List Value} (hs : g.stack = .ref a :: rest) (hd : decode c.code g.pc = .ok (.arraylength, 1)) :
    ∀ target, Steps p.tables e below (T.setTop { g with pc := g.pc + 1, stack := .int z :: rest }) target → Steps p.tables e below (T.setTop g) target := by
  obtain ⟨cl, A, q1, S, q3, H, G⟩ := V
  intro target k
  refine X.arraylength hx (by rw [eT]; exact A.1) (State.isArrayOf_alike hZ.alike A.2.1) hg hs hd _ ?_
  rw [len_of S q3]
  exact k
theorem own_osz {n0 : Nat} (O : Old Z n0 h) : n0 ≤ h.size := by have := O.2.1; rw [O.1] at this; exact this
theorem own_fldI {t : Term} {C n d : String} {k : Int32} {a : Addr} (ev : t.eval args Z none [] Z = some (.ref a)) (hh : (Jvm.Cond.eq (Term.field t C n d) (Term.int k)).value args Z none Z [] = some true) : Fld Z Z.heap a C n d (.int k) := by
  refine Fld.start ?_
  rw [← fld_at (t := t) (args := args) (first := Z) (o := none) (idx := []) ev]
  cases hq : (Term.field t C n d).eval args Z none [] Z with
  | none => simp [Cond.value, hq] at hh
  | some v =>
    simp only [Cond.value, hq, Term.int_eval] at hh
    cases v <;> simp at hh ⊢ <;> exact hh
theorem own_fldJ {t : Term} {C n d : String} {k : Int64} {a : Addr} (ev : t.eval args Z none [] Z = some (.ref a)) (hh : (Jvm.Cond.eq (Term.field t C n d) (Term.long k)).value args Z none Z [] = some true) : Fld Z Z.heap a C n d (.long k) := by
  refine Fld.start ?_
  rw [← fld_at (t := t) (args := args) (first := Z) (o := none) (idx := []) ev]
  cases hq : (Term.field t C n d).eval args Z none [] Z with
  | none => simp [Cond.value, hq] at hh
  | some v =>
    have hk : (Term.long k).eval args Z none [] Z = some (.long k) := rfl
    simp only [Cond.value, hq, hk] at hh
    cases v <;> simp at hh ⊢ <;> exact hh
theorem own_fldN {t : Term} {C n d : String} {a : Addr} (ev : t.eval args Z none [] Z = some (.ref a)) (hh : (Jvm.Cond.eq (Term.field t C n d) Term.null).value args Z none Z [] = some true) : Fld Z Z.heap a C n d .null := by
  refine Fld.start ?_
  rw [← fld_at (t := t) (args := args) (first := Z) (o := none) (idx := []) ev]
  exact null_v hh
theorem own_fldR {t u : Term} {C n d : String} {a b : Addr} (ev : t.eval args Z none [] Z = some (.ref a)) (eu : u.eval args Z none [] Z = some (.ref b)) (hh : (Jvm.Cond.eq (Term.field t C n d) u).value args Z none Z [] = some true) : Fld Z Z.heap a C n d (.ref b) := by
  refine Fld.start ?_
  rw [← fld_at (t := t) (args := args) (first := Z) (o := none) (idx := []) ev]
  cases hq : (Term.field t C n d).eval args Z none [] Z with
  | none => simp [Cond.value, hq] at hh
  | some v => cases v <;> simp [Cond.value, hq, eu] at hh ⊢ <;> exact hh
theorem own_fldX {t : Term} {C n d K : String} {a : Addr} (ev : t.eval args Z none [] Z = some (.ref a)) (hh : (Jvm.Cond.exactly (Term.field t C n d) K).value args Z none Z [] = some true) : ∃ b, Fld Z Z.heap a C n d (.ref b) ∧ Exa Z Z.heap b K := by
  obtain ⟨b, hb⟩ := exa_v hh
  refine ⟨b, Fld.start ?_, Exa.start hb hh⟩
  rw [← fld_at (t := t) (args := args) (first := Z) (o := none) (idx := []) ev]
  exact hb
theorem own_ne {h : Heap} {a b : Addr} {C n d : String} {i j : Int32} (F : Fld Z h a C n d (.int i)) (G : Fld Z h b C n d (.int j)) (q : i ≠ j) : a ≠ b := F.ne G fun r => q (Value.int.inj r)
end OwnKit
section OwnKit2
variable {p : Program} {l : Launch} {e : Env} {R : Room} {s : State} {m : MethodId} {args : Array Value} {below : List Frame} {meth : Method} {c : Code} {T : State} {locs : List Loc} {cells slots : Nat} {Z : State} {a0 : Array Value} {h : Heap}
/-- a table of references as the start holds it -/
def own_Vals (Z : State) (a : Addr) (C : String) (z : Int32) (vs : List Value) : Prop := ∃ cl : Cell, Arr Z Z.heap a cl (.object C) ∧ FitC Z cl ∧ cl.slots.size = z.toNatClampNeg ∧ ¬ z < 0 ∧ Has cl vs .null ∧ ∀ i, i < cl.slots.size → fits (.object C) (vs.getD i .null) = true
theorem own_vals {a : Addr} {C : String} {z : Int32} {vs : List Value} {cl : Cell} (hf : Fit Z) (A : Arr Z Z.heap a cl (.object C)) (q : cl.slots.size < 2 ^ 31 ∧ cl.slots.size.toInt32 = z) (hz : ¬ z < 0) (hl : z.toNatClampNeg = vs.length) (H : HasL cl 0 vs) : own_Vals Z a C z vs := by
  obtain ⟨c2, A2, q1, S, q3, H2, G⟩ := Arv.start (dv := .null) hf A q.1 q.2 hz hl H
  cases A.1.symm.trans A2.1
  exact ⟨cl, A, FitC.start hf A, S, q3, H2, G⟩
theorem own_lenV {t : Term} {k : Int32} {a : Addr} {cl : Cell} {ty : FieldType} (ev : t.eval args Z none [] Z = some (.ref a)) (A : Arr Z Z.heap a cl ty) (hh : (Jvm.Cond.eq (Term.length t) (Term.int k)).value args Z none Z [] = some true) : cl.slots.size < 2 ^ 31 ∧ cl.slots.size.toInt32 = k := by
  have ha := A.fin (Vm.Alike.refl _)
  by_cases q : cl.slots.size < 2 ^ 31
  · refine ⟨q, ?_⟩
    have e1 := len_f ev ha q
    simp only [Cond.value, e1, Term.int_eval] at hh
    simpa using hh
  · have e1 : (Term.length t).eval args Z none [] Z = none := by simp [Term.eval, ev, ha, q]
    simp [Cond.value, e1] at hh
theorem own_elemR {t u : Term} {j : Int32} {i : Nat} {a b : Addr} {cl : Cell} {ty : FieldType} (ev : t.eval args Z none [] Z = some (.ref a)) (eu : u.eval args Z none [] Z = some (.ref b)) (A : Arr Z Z.heap a cl ty) (hi : j.toNatClampNeg = i) (hh : (Jvm.Cond.eq (Term.elem t (Term.int j)) u).value args Z none Z [] = some true) : cl.slots[i]? = some (.ref b) := by
  subst hi
  cases hq : (Term.elem t (Term.int j)).eval args Z none [] Z with
  | none => simp [Cond.value, hq] at hh
  | some v =>
    have q := (elem_in hq ev (Term.int_eval j) A.1).2
    rw [q]
    cases v <;> simp [Cond.value, hq, eu] at hh ⊢ <;> exact hh
theorem own_elemI {t : Term} {j k : Int32} {i : Nat} {a : Addr} {cl : Cell} {ty : FieldType} (ev : t.eval args Z none [] Z = some (.ref a)) (A : Arr Z Z.heap a cl ty) (hi : j.toNatClampNeg = i) (hh : (Jvm.Cond.eq (Term.elem t (Term.int j)) (Term.int k)).value args Z none Z [] = some true) : cl.slots[i]? = some (.int k) := by
  subst hi
  cases hq : (Term.elem t (Term.int j)).eval args Z none [] Z with
  | none => simp [Cond.value, hq] at hh
  | some v =>
    have q := (elem_in hq ev (Term.int_eval j) A.1).2
    rw [q]
    simp only [Cond.value, hq, Term.int_eval] at hh
    cases v <;> simp at hh ⊢ <;> exact hh
theorem own_clone (X : Stand p l e R s m args below meth c T locs cells slots) (hx : p.tables.exec = Jvm.exec) (hZ : Z.Warmed39 s.vm) {own ad C : String} {index : Nat} (hown : s.vm.findClass own = some m.cls)
    (w1 : (Jvm.Cond.methodLink own index ⟨ad, "clone", "()Ljava/lang/Object;"⟩).before a0 Z = true) (w2 : (Jvm.Cond.sameMethod ad "java/lang/Object" "clone" "()Ljava/lang/Object;").before a0 Z = true) (w3 : (Jvm.Cond.native ⟨"java/lang/Object", "clone", "()Ljava/lang/Object;"⟩).before a0 Z = true)
    (w4 : (Jvm.Cond.instanceMethod ⟨"java/lang/Object", "clone", "()Ljava/lang/Object;"⟩).before a0 Z = true) (w5 : (Jvm.Cond.selects ad ⟨ad, "clone", "()Ljava/lang/Object;"⟩ ⟨"java/lang/Object", "clone", "()Ljava/lang/Object;"⟩).before a0 Z = true) (w6 : (Jvm.Cond.castable ad "java/lang/Cloneable").before a0 Z = true)
    (eT : T.heap = h) {n0 : Nat} (O : Old Z n0 h) {a : Addr} {z : Int32} {vs : List Value} (Vs : own_Vals Z a C z vs) (Ex : Exa Z Z.heap a ad) {g : JFrame} (hg : g.method = m) (hsize : g.locals.size = c.maxLocals) {rest : List Value} (hs : g.stack = .ref a :: rest) (hd : decode c.code g.pc = .ok (.invokevirtual index, 3))
    (hf : 1 ≤ R.frames) {W cap : Nat} (hW : 2 * g.monitorRoom + (rest.map fun v => v.category).sum ≤ W) (hl : W + 14 ≤ R.locals) (hcap : z.toNatClampNeg ≤ cap) (hc : cells + 1 ≤ R.cells) (hsl : slots + cap ≤ R.slots) :
    ∃ T' h' k b, Stand p l e R s m args below meth c T' locs (cells + 1) (slots + cap) ∧ T'.heap = h' ∧ b = h.size ∧ Ext h h' ∧ Arv Z h' b k (.object C) z vs .null ∧ Exa Z h' b ad ∧
      ∀ target, Steps p.tables e below (T'.setTop { g with pc := g.pc + 3, stack := .ref b :: rest }) target → Steps p.tables e below (T.setTop g) target := by
  obtain ⟨cl, A, F, S, q3, H, G⟩ := Vs
  obtain ⟨T', h', X', e', E, A', Ex', st⟩ := cloneA X hx hZ hown w1 w2 w3 w4 w5 w6 eT (A.ext O.2) (Ex.ext O.2) F hg hsize hs hd hf hW hl (by rw [S]; exact hcap) hc hsl
  exact ⟨T', h', cl.cls, _, X', e', rfl, E, ⟨_, A', rfl, S, q3, H, G⟩, Ex', st⟩
end OwnKit2
def own_S (Z : State) (c__VALUES c_SHA_1 c_SHA_256 c_SHA_384 c_SHA_512 c_EMPTY : Addr) : Prop := (Sta Z Z.heap "com/example/watchword/watchword/model/SrpHash" "$VALUES" "[Lcom/example/watchword/watchword/model/SrpHash;" (.ref c__VALUES)) ∧
  (Exa Z Z.heap c__VALUES "[Lcom/example/watchword/watchword/model/SrpHash;") ∧
  (Sta Z Z.heap "com/example/watchword/watchword/model/SrpHash" "SHA_1" "Lcom/example/watchword/watchword/model/SrpHash;" (.ref c_SHA_1)) ∧
  (Exa Z Z.heap c_SHA_1 "com/example/watchword/watchword/model/SrpHash") ∧
  (Sta Z Z.heap "com/example/watchword/watchword/model/SrpHash" "SHA_256" "Lcom/example/watchword/watchword/model/SrpHash;" (.ref c_SHA_256)) ∧
  (Exa Z Z.heap c_SHA_256 "com/example/watchword/watchword/model/SrpHash") ∧
  (Sta Z Z.heap "com/example/watchword/watchword/model/SrpHash" "SHA_384" "Lcom/example/watchword/watchword/model/SrpHash;" (.ref c_SHA_384)) ∧
  (Exa Z Z.heap c_SHA_384 "com/example/watchword/watchword/model/SrpHash") ∧
  (Sta Z Z.heap "com/example/watchword/watchword/model/SrpHash" "SHA_512" "Lcom/example/watchword/watchword/model/SrpHash;" (.ref c_SHA_512)) ∧
  (Exa Z Z.heap c_SHA_512 "com/example/watchword/watchword/model/SrpHash") ∧
  (Fld Z Z.heap c_SHA_1 "com/example/watchword/watchword/model/SrpHash" "id" "B" (.int (1 : Int32))) ∧
  (Fld Z Z.heap c_SHA_256 "com/example/watchword/watchword/model/SrpHash" "id" "B" (.int (2 : Int32))) ∧
  (Fld Z Z.heap c_SHA_384 "com/example/watchword/watchword/model/SrpHash" "id" "B" (.int (3 : Int32))) ∧
  (Fld Z Z.heap c_SHA_512 "com/example/watchword/watchword/model/SrpHash" "id" "B" (.int (4 : Int32))) ∧
  (Sta Z Z.heap "java/util/Optional" "EMPTY" "Ljava/util/Optional;" (.ref c_EMPTY)) ∧
  (Exa Z Z.heap c_EMPTY "java/util/Optional") ∧
  (Fld Z Z.heap c_EMPTY "java/util/Optional" "value" "Ljava/lang/Object;" .null) ∧
  (own_Vals Z c__VALUES "com/example/watchword/watchword/model/SrpHash" (4 : Int32) [(.ref c_SHA_1), (.ref c_SHA_256), (.ref c_SHA_384), (.ref c_SHA_512)])
theorem d1_0 : decode method_2_code 0 = .ok (.iload_n 0, 1) := by decide +kernel
theorem d1_1 : decode method_2_code 1 = .ok (.iconst 1, 1) := by decide +kernel
theorem d1_2 : decode method_2_code 2 = .ok (.if_icmp .ne 7, 3) := by decide +kernel
theorem d1_5 : decode method_2_code 5 = .ok (.getstatic 7, 3) := by decide +kernel
theorem d1_8 : decode method_2_code 8 = .ok (.areturn, 1) := by decide +kernel
theorem own_pn_1 : plainFor (⟨"com/example/watchword/watchword/model/SrpHashByIdPinLaw", "expected", "(B)Lcom/example/watchword/watchword/model/SrpHash;"⟩ : MethodName) = true := plainFor_of_name (show plainName "com/example/watchword/watchword/model/SrpHashByIdPinLaw" = true by first | (simp [plainName, overriddenIn]; done) | decide +kernel)
theorem own_ef_rmx_1 (m : MethodId)  : entryFrame m #[(.int (1 : Int32))] 1 = mkF m 0 #[.val (.int (1 : Int32))] [] := by first | (simp [entryFrame, mkF, argsToLocals, Value.category]; done) | rfl
set_option maxRecDepth 65536 in
set_option maxHeartbeats 40000000 in
theorem rmx_1 (l : Launch) (Z : State) (a0 : Array Value) (hw : ∀ d ∈ tables_1, d.before a0 Z = true) (c__VALUES c_SHA_1 c_SHA_256 c_SHA_384 c_SHA_512 c_EMPTY : Addr) (h0 : Heap) (n0 : Nat) (O0 : Old Z n0 h0) (hS : own_S Z c__VALUES c_SHA_1 c_SHA_256 c_SHA_384 c_SHA_512 c_EMPTY) :
    own_Met l Z (⟨"com/example/watchword/watchword/model/SrpHashByIdPinLaw", "expected", "(B)Lcom/example/watchword/watchword/model/SrpHash;"⟩ : MethodName) method_2_code 1 (some (.object "com/example/watchword/watchword/model/SrpHash")) [] ({ frames := 0, cells := 0, slots := 0, locals := 0 } : Room) #[(.int (1 : Int32))] h0 (fun v h L => v = some (.ref c_SHA_1) ∧ Fr n0 L ∧ h = h0) := by
  refine own_body own_pn_1 ?_
  intro p e s m below meth c s₁ hx hby hml hown hnm hret hlk X0 hZ e0
  replace hown : s.vm.findClass "com/example/watchword/watchword/model/SrpHashByIdPinLaw" = some m.cls := hown
  have N0 := Fr.nil n0
  have K0 := Keep.refl h0 []
  refine own_st (fun _ k => castTop (own_ef_rmx_1 m ) k) ?_
  show own_go _ _ _ _ _ _ _ (s₁.setTop (mkF m 0 #[.val (.int (1 : Int32))] []))
  refine own_st (fun _ k => XS.iloadN X0.here hx rfl (hb hby d1_0) rfl k) ?_
  show own_go _ _ _ _ _ _ _ (s₁.setTop (mkF m 1 #[.val (.int (1 : Int32))] [(.int (1 : Int32))]))
  refine own_st (fun _ k => XS.iconst X0.here hx rfl (hb hby d1_1) k) ?_
  show own_go _ _ _ _ _ _ _ (s₁.setTop (mkF m 2 #[.val (.int (1 : Int32))] [(.int (1 : Int32)), (.int (1 : Int32))]))
  refine own_st (fun _ k => XS.icmpNo X0.here hx rfl (hb hby d1_2) rfl (by decide) k) ?_
  show own_go _ _ _ _ _ _ _ (s₁.setTop (mkF m 5 #[.val (.int (1 : Int32))] []))
  obtain ⟨T1, X1, e1, st1⟩ := getS2 X0 hx hZ hown (host := "") (Or.inl (hw _ (List.mem_of_getElem? (i := 64) rfl))) Via.refl e0 (hS.2.2.1.ext O0.2) (g := (mkF m 5 #[.val (.int (1 : Int32))] [])) rfl (hb hby d1_5)
  refine own_st st1 ?_
  show own_go _ _ _ _ _ _ _ (T1.setTop (mkF m 8 #[.val (.int (1 : Int32))] [(.ref c_SHA_1)]))
  exact own_retA X1 hx hlk hret rfl rfl (hb hby d1_8) (by decide) (by decide) (⟨rfl, N0, e1⟩)
theorem d1_9 : decode method_2_code 9 = .ok (.iload_n 0, 1) := by decide +kernel
theorem d1_10 : decode method_2_code 10 = .ok (.iconst 2, 1) := by decide +kernel
theorem d1_11 : decode method_2_code 11 = .ok (.if_icmp .ne 7, 3) := by decide +kernel
theorem d1_14 : decode method_2_code 14 = .ok (.getstatic 13, 3) := by decide +kernel
theorem d1_17 : decode method_2_code 17 = .ok (.areturn, 1) := by decide +kernel
theorem own_ef_rmx_2 (m : MethodId)  : entryFrame m #[(.int (2 : Int32))] 1 = mkF m 0 #[.val (.int (2 : Int32))] [] := by first | (simp [entryFrame, mkF, argsToLocals, Value.category]; done) | rfl
set_option maxRecDepth 65536 in
set_option maxHeartbeats 40000000 in
theorem rmx_2 (l : Launch) (Z : State) (a0 : Array Value) (hw : ∀ d ∈ tables_1, d.before a0 Z = true) (c__VALUES c_SHA_1 c_SHA_256 c_SHA_384 c_SHA_512 c_EMPTY : Addr) (h0 : Heap) (n0 : Nat) (O0 : Old Z n0 h0) (hS : own_S Z c__VALUES c_SHA_1 c_SHA_256 c_SHA_384 c_SHA_512 c_EMPTY) :
    own_Met l Z (⟨"com/example/watchword/watchword/model/SrpHashByIdPinLaw", "expected", "(B)Lcom/example/watchword/watchword/model/SrpHash;"⟩ : MethodName) method_2_code 1 (some (.object "com/example/watchword/watchword/model/SrpHash")) [] ({ frames := 0, cells := 0, slots := 0, locals := 0 } : Room) #[(.int (2 : Int32))] h0 (fun v h L => v = some (.ref c_SHA_256) ∧ Fr n0 L ∧ h = h0) := by
  refine own_body own_pn_1 ?_
  intro p e s m below meth c s₁ hx hby hml hown hnm hret hlk X0 hZ e0
  replace hown : s.vm.findClass "com/example/watchword/watchword/model/SrpHashByIdPinLaw" = some m.cls := hown
  have N0 := Fr.nil n0
  have K0 := Keep.refl h0 []
  refine own_st (fun _ k => castTop (own_ef_rmx_2 m ) k) ?_
  show own_go _ _ _ _ _ _ _ (s₁.setTop (mkF m 0 #[.val (.int (2 : Int32))] []))
  refine own_st (fun _ k => XS.iloadN X0.here hx rfl (hb hby d1_0) rfl k) ?_
  show own_go _ _ _ _ _ _ _ (s₁.setTop (mkF m 1 #[.val (.int (2 : Int32))] [(.int (2 : Int32))]))
  refine own_st (fun _ k => XS.iconst X0.here hx rfl (hb hby d1_1) k) ?_
  show own_go _ _ _ _ _ _ _ (s₁.setTop (mkF m 2 #[.val (.int (2 : Int32))] [(.int (1 : Int32)), (.int (2 : Int32))]))
  refine own_st (fun _ k => XS.icmpYes X0.here hx rfl (pc0 := 2) (pc' := 9) rfl (hb hby d1_2) rfl (by decide) (by decide) (by decide) k) ?_
  show own_go _ _ _ _ _ _ _ (s₁.setTop (mkF m 9 #[.val (.int (2 : Int32))] []))
  refine own_st (fun _ k => XS.iloadN X0.here hx rfl (hb hby d1_9) rfl k) ?_
  show own_go _ _ _ _ _ _ _ (s₁.setTop (mkF m 10 #[.val (.int (2 : Int32))] [(.int (2 : Int32))]))
  refine own_st (fun _ k => XS.iconst X0.here hx rfl (hb hby d1_10) k) ?_
  show own_go _ _ _ _ _ _ _ (s₁.setTop (mkF m 11 #[.val (.int (2 : Int32))] [(.int (2 : Int32)), (.int (2 : Int32))]))
  refine own_st (fun _ k => XS.icmpNo X0.here hx rfl (hb hby d1_11) rfl (by decide) k) ?_
  show own_go _ _ _ _ _ _ _ (s₁.setTop (mkF m 14 #[.val (.int (2 : Int32))] []))
  obtain ⟨T2, X2, e2, st2⟩ := getS2 X0 hx hZ hown (host := "") (Or.inl (hw _ (List.mem_of_getElem? (i := 63) rfl))) Via.refl e0 (hS.2.2.2.2.1.ext O0.2) (g := (mkF m 14 #[.val (.int (2 : Int32))] [])) rfl (hb hby d1_14)
  refine own_st st2 ?_
  show own_go _ _ _ _ _ _ _ (T2.setTop (mkF m 17 #[.val (.int (2 : Int32))] [(.ref c_SHA_256)]))
  exact own_retA X2 hx hlk hret rfl rfl (hb hby d1_17) (by decide) (by decide) (⟨rfl, N0, e2⟩)
theorem d1_18 : decode method_2_code 18 = .ok (.iload_n 0, 1) := by decide +kernel
theorem d1_19 : decode method_2_code 19 = .ok (.iconst 3, 1) := by decide +kernel
theorem d1_20 : decode method_2_code 20 = .ok (.if_icmp .ne 7, 3) := by decide +kernel
theorem d1_23 : decode method_2_code 23 = .ok (.getstatic 16, 3) := by decide +kernel
theorem d1_26 : decode method_2_code 26 = .ok (.areturn, 1) := by decide +kernel
theorem own_ef_rmx_3 (m : MethodId)  : entryFrame m #[(.int (3 : Int32))] 1 = mkF m 0 #[.val (.int (3 : Int32))] [] := by first | (simp [entryFrame, mkF, argsToLocals, Value.category]; done) | rfl
set_option maxRecDepth 65536 in
set_option maxHeartbeats 40000000 in
theorem rmx_3 (l : Launch) (Z : State) (a0 : Array Value) (hw : ∀ d ∈ tables_1, d.before a0 Z = true) (c__VALUES c_SHA_1 c_SHA_256 c_SHA_384 c_SHA_512 c_EMPTY : Addr) (h0 : Heap) (n0 : Nat) (O0 : Old Z n0 h0) (hS : own_S Z c__VALUES c_SHA_1 c_SHA_256 c_SHA_384 c_SHA_512 c_EMPTY) :
    own_Met l Z (⟨"com/example/watchword/watchword/model/SrpHashByIdPinLaw", "expected", "(B)Lcom/example/watchword/watchword/model/SrpHash;"⟩ : MethodName) method_2_code 1 (some (.object "com/example/watchword/watchword/model/SrpHash")) [] ({ frames := 0, cells := 0, slots := 0, locals := 0 } : Room) #[(.int (3 : Int32))] h0 (fun v h L => v = some (.ref c_SHA_384) ∧ Fr n0 L ∧ h = h0) := by
  refine own_body own_pn_1 ?_
  intro p e s m below meth c s₁ hx hby hml hown hnm hret hlk X0 hZ e0
  replace hown : s.vm.findClass "com/example/watchword/watchword/model/SrpHashByIdPinLaw" = some m.cls := hown
  have N0 := Fr.nil n0
  have K0 := Keep.refl h0 []
  refine own_st (fun _ k => castTop (own_ef_rmx_3 m ) k) ?_
  show own_go _ _ _ _ _ _ _ (s₁.setTop (mkF m 0 #[.val (.int (3 : Int32))] []))
  refine own_st (fun _ k => XS.iloadN X0.here hx rfl (hb hby d1_0) rfl k) ?_
  show own_go _ _ _ _ _ _ _ (s₁.setTop (mkF m 1 #[.val (.int (3 : Int32))] [(.int (3 : Int32))]))
  refine own_st (fun _ k => XS.iconst X0.here hx rfl (hb hby d1_1) k) ?_
  show own_go _ _ _ _ _ _ _ (s₁.setTop (mkF m 2 #[.val (.int (3 : Int32))] [(.int (1 : Int32)), (.int (3 : Int32))]))
  refine own_st (fun _ k => XS.icmpYes X0.here hx rfl (pc0 := 2) (pc' := 9) rfl (hb hby d1_2) rfl (by decide) (by decide) (by decide) k) ?_
  show own_go _ _ _ _ _ _ _ (s₁.setTop (mkF m 9 #[.val (.int (3 : Int32))] []))
  refine own_st (fun _ k => XS.iloadN X0.here hx rfl (hb hby d1_9) rfl k) ?_
  show own_go _ _ _ _ _ _ _ (s₁.setTop (mkF m 10 #[.val (.int (3 : Int32))] [(.int (3 : Int32))]))
  refine own_st (fun _ k => XS.iconst X0.here hx rfl (hb hby d1_10) k) ?_
  show own_go _ _ _ _ _ _ _ (s₁.setTop (mkF m 11 #[.val (.int (3 : Int32))] [(.int (2 : Int32)), (.int (3 : Int32))]))
  refine own_st (fun _ k => XS.icmpYes X0.here hx rfl (pc0 := 11) (pc' := 18) rfl (hb hby d1_11) rfl (by decide) (by decide) (by decide) k) ?_
  show own_go _ _ _ _ _ _ _ (s₁.setTop (mkF m 18 #[.val (.int (3 : Int32))] []))
  refine own_st (fun _ k => XS.iloadN X0.here hx rfl (hb hby d1_18) rfl k) ?_
  show own_go _ _ _ _ _ _ _ (s₁.setTop (mkF m 19 #[.val (.int (3 : Int32))] [(.int (3 : Int32))]))
  refine own_st (fun _ k => XS.iconst X0.here hx rfl (hb hby d1_19) k) ?_
  show own_go _ _ _ _ _ _ _ (s₁.setTop (mkF m 20 #[.val (.int (3 : Int32))] [(.int (3 : Int32)), (.int (3 : Int32))]))
  refine own_st (fun _ k => XS.icmpNo X0.here hx rfl (hb hby d1_20) rfl (by decide) k) ?_
  show own_go _ _ _ _ _ _ _ (s₁.setTop (mkF m 23 #[.val (.int (3 : Int32))] []))
  obtain ⟨T3, X3, e3, st3⟩ := getS2 X0 hx hZ hown (host := "") (Or.inl (hw _ (List.mem_of_getElem? (i := 41) rfl))) Via.refl e0 (hS.2.2.2.2.2.2.1.ext O0.2) (g := (mkF m 23 #[.val (.int (3 : Int32))] [])) rfl (hb hby d1_23)
  refine own_st st3 ?_
  show own_go _ _ _ _ _ _ _ (T3.setTop (mkF m 26 #[.val (.int (3 : Int32))] [(.ref c_SHA_384)]))
  exact own_retA X3 hx hlk hret rfl rfl (hb hby d1_26) (by decide) (by decide) (⟨rfl, N0, e3⟩)
theorem d1_27 : decode method_2_code 27 = .ok (.iload_n 0, 1) := by decide +kernel
theorem d1_28 : decode method_2_code 28 = .ok (.iconst 4, 1) := by decide +kernel
theorem d1_29 : decode method_2_code 29 = .ok (.if_icmp .ne 7, 3) := by decide +kernel
theorem d1_32 : decode method_2_code 32 = .ok (.getstatic 19, 3) := by decide +kernel
theorem d1_35 : decode method_2_code 35 = .ok (.areturn, 1) := by decide +kernel
theorem own_ef_rmx_4 (m : MethodId)  : entryFrame m #[(.int (4 : Int32))] 1 = mkF m 0 #[.val (.int (4 : Int32))] [] := by first | (simp [entryFrame, mkF, argsToLocals, Value.category]; done) | rfl
set_option maxRecDepth 65536 in
set_option maxHeartbeats 40000000 in
theorem rmx_4 (l : Launch) (Z : State) (a0 : Array Value) (hw : ∀ d ∈ tables_1, d.before a0 Z = true) (c__VALUES c_SHA_1 c_SHA_256 c_SHA_384 c_SHA_512 c_EMPTY : Addr) (h0 : Heap) (n0 : Nat) (O0 : Old Z n0 h0) (hS : own_S Z c__VALUES c_SHA_1 c_SHA_256 c_SHA_384 c_SHA_512 c_EMPTY) :
    own_Met l Z (⟨"com/example/watchword/watchword/model/SrpHashByIdPinLaw", "expected", "(B)Lcom/example/watchword/watchword/model/SrpHash;"⟩ : MethodName) method_2_code 1 (some (.object "com/example/watchword/watchword/model/SrpHash")) [] ({ frames := 0, cells := 0, slots := 0, locals := 0 } : Room) #[(.int (4 : Int32))] h0 (fun v h L => v = some (.ref c_SHA_512) ∧ Fr n0 L ∧ h = h0) := by
  refine own_body own_pn_1 ?_
  intro p e s m below meth c s₁ hx hby hml hown hnm hret hlk X0 hZ e0
  replace hown : s.vm.findClass "com/example/watchword/watchword/model/SrpHashByIdPinLaw" = some m.cls := hown
  have N0 := Fr.nil n0
  have K0 := Keep.refl h0 []
  refine own_st (fun _ k => castTop (own_ef_rmx_4 m ) k) ?_
  show own_go _ _ _ _ _ _ _ (s₁.setTop (mkF m 0 #[.val (.int (4 : Int32))] []))
  refine own_st (fun _ k => XS.iloadN X0.here hx rfl (hb hby d1_0) rfl k) ?_
  show own_go _ _ _ _ _ _ _ (s₁.setTop (mkF m 1 #[.val (.int (4 : Int32))] [(.int (4 : Int32))]))
  refine own_st (fun _ k => XS.iconst X0.here hx rfl (hb hby d1_1) k) ?_
  show own_go _ _ _ _ _ _ _ (s₁.setTop (mkF m 2 #[.val (.int (4 : Int32))] [(.int (1 : Int32)), (.int (4 : Int32))]))
  refine own_st (fun _ k => XS.icmpYes X0.here hx rfl (pc0 := 2) (pc' := 9) rfl (hb hby d1_2) rfl (by decide) (by decide) (by decide) k) ?_
  show own_go _ _ _ _ _ _ _ (s₁.setTop (mkF m 9 #[.val (.int (4 : Int32))] []))
  refine own_st (fun _ k => XS.iloadN X0.here hx rfl (hb hby d1_9) rfl k) ?_
  show own_go _ _ _ _ _ _ _ (s₁.setTop (mkF m 10 #[.val (.int (4 : Int32))] [(.int (4 : Int32))]))
  refine own_st (fun _ k => XS.iconst X0.here hx rfl (hb hby d1_10) k) ?_
  show own_go _ _ _ _ _ _ _ (s₁.setTop (mkF m 11 #[.val (.int (4 : Int32))] [(.int (2 : Int32)), (.int (4 : Int32))]))
  refine own_st (fun _ k => XS.icmpYes X0.here hx rfl (pc0 := 11) (pc' := 18) rfl (hb hby d1_11) rfl (by decide) (by decide) (by decide) k) ?_
  show own_go _ _ _ _ _ _ _ (s₁.setTop (mkF m 18 #[.val (.int (4 : Int32))] []))
  refine own_st (fun _ k => XS.iloadN X0.here hx rfl (hb hby d1_18) rfl k) ?_
  show own_go _ _ _ _ _ _ _ (s₁.setTop (mkF m 19 #[.val (.int (4 : Int32))] [(.int (4 : Int32))]))
  refine own_st (fun _ k => XS.iconst X0.here hx rfl (hb hby d1_19) k) ?_
  show own_go _ _ _ _ _ _ _ (s₁.setTop (mkF m 20 #[.val (.int (4 : Int32))] [(.int (3 : Int32)), (.int (4 : Int32))]))
  refine own_st (fun _ k => XS.icmpYes X0.here hx rfl (pc0 := 20) (pc' := 27) rfl (hb hby d1_20) rfl (by decide) (by decide) (by decide) k) ?_
  show own_go _ _ _ _ _ _ _ (s₁.setTop (mkF m 27 #[.val (.int (4 : Int32))] []))
  refine own_st (fun _ k => XS.iloadN X0.here hx rfl (hb hby d1_27) rfl k) ?_
  show own_go _ _ _ _ _ _ _ (s₁.setTop (mkF m 28 #[.val (.int (4 : Int32))] [(.int (4 : Int32))]))
  refine own_st (fun _ k => XS.iconst X0.here hx rfl (hb hby d1_28) k) ?_
  show own_go _ _ _ _ _ _ _ (s₁.setTop (mkF m 29 #[.val (.int (4 : Int32))] [(.int (4 : Int32)), (.int (4 : Int32))]))
  refine own_st (fun _ k => XS.icmpNo X0.here hx rfl (hb hby d1_29) rfl (by decide) k) ?_
  show own_go _ _ _ _ _ _ _ (s₁.setTop (mkF m 32 #[.val (.int (4 : Int32))] []))
  obtain ⟨T4, X4, e4, st4⟩ := getS2 X0 hx hZ hown (host := "") (Or.inl (hw _ (List.mem_of_getElem? (i := 65) rfl))) Via.refl e0 (hS.2.2.2.2.2.2.2.2.1.ext O0.2) (g := (mkF m 32 #[.val (.int (4 : Int32))] [])) rfl (hb hby d1_32)
  refine own_st st4 ?_
  show own_go _ _ _ _ _ _ _ (T4.setTop (mkF m 35 #[.val (.int (4 : Int32))] [(.ref c_SHA_512)]))
  exact own_retA X4 hx hlk hret rfl rfl (hb hby d1_35) (by decide) (by decide) (⟨rfl, N0, e4⟩)
theorem d1_36 : decode method_2_code 36 = .ok (.aconst_null, 1) := by decide +kernel
theorem d1_37 : decode method_2_code 37 = .ok (.areturn, 1) := by decide +kernel
theorem own_ef_rmx_0 (m : MethodId) (p1 : Int32) : entryFrame m #[(.int p1)] 1 = mkF m 0 #[.val (.int p1)] [] := by first | (simp [entryFrame, mkF, argsToLocals, Value.category]; done) | rfl
set_option maxRecDepth 65536 in
set_option maxHeartbeats 40000000 in
theorem rmx_0 (l : Launch) (Z : State) (a0 : Array Value) (hw : ∀ d ∈ tables_1, d.before a0 Z = true) (p1 : Int32) (h0 : Heap) (n0 : Nat) (O0 : Old Z n0 h0) (q1 : ¬ p1 = (1 : Int32)) (q2 : ¬ p1 = (2 : Int32)) (q3 : ¬ p1 = (3 : Int32)) (q4 : ¬ p1 = (4 : Int32)) :
    own_Met l Z (⟨"com/example/watchword/watchword/model/SrpHashByIdPinLaw", "expected", "(B)Lcom/example/watchword/watchword/model/SrpHash;"⟩ : MethodName) method_2_code 1 (some (.object "com/example/watchword/watchword/model/SrpHash")) [] ({ frames := 0, cells := 0, slots := 0, locals := 0 } : Room) #[(.int p1)] h0 (fun v h L => v = some .null ∧ Fr n0 L ∧ h = h0) := by
  refine own_body own_pn_1 ?_
  intro p e s m below meth c s₁ hx hby hml hown hnm hret hlk X0 hZ e0
  replace hown : s.vm.findClass "com/example/watchword/watchword/model/SrpHashByIdPinLaw" = some m.cls := hown
  have N0 := Fr.nil n0
  have K0 := Keep.refl h0 []
  refine own_st (fun _ k => castTop (own_ef_rmx_0 m p1) k) ?_
  show own_go _ _ _ _ _ _ _ (s₁.setTop (mkF m 0 #[.val (.int p1)] []))
  refine own_st (fun _ k => XS.iloadN X0.here hx rfl (hb hby d1_0) rfl k) ?_
  show own_go _ _ _ _ _ _ _ (s₁.setTop (mkF m 1 #[.val (.int p1)] [(.int p1)]))
  refine own_st (fun _ k => XS.iconst X0.here hx rfl (hb hby d1_1) k) ?_
  show own_go _ _ _ _ _ _ _ (s₁.setTop (mkF m 2 #[.val (.int p1)] [(.int (1 : Int32)), (.int p1)]))
  refine own_st (fun _ k => XS.icmpYes X0.here hx rfl (pc0 := 2) (pc' := 9) rfl (hb hby d1_2) rfl (XT.ii_ne_t q1) (by decide) (by decide) k) ?_
  show own_go _ _ _ _ _ _ _ (s₁.setTop (mkF m 9 #[.val (.int p1)] []))
  refine own_st (fun _ k => XS.iloadN X0.here hx rfl (hb hby d1_9) rfl k) ?_
  show own_go _ _ _ _ _ _ _ (s₁.setTop (mkF m 10 #[.val (.int p1)] [(.int p1)]))
  refine own_st (fun _ k => XS.iconst X0.here hx rfl (hb hby d1_10) k) ?_
  show own_go _ _ _ _ _ _ _ (s₁.setTop (mkF m 11 #[.val (.int p1)] [(.int (2 : Int32)), (.int p1)]))
  refine own_st (fun _ k => XS.icmpYes X0.here hx rfl (pc0 := 11) (pc' := 18) rfl (hb hby d1_11) rfl (XT.ii_ne_t q2) (by decide) (by decide) k) ?_
  show own_go _ _ _ _ _ _ _ (s₁.setTop (mkF m 18 #[.val (.int p1)] []))
  refine own_st (fun _ k => XS.iloadN X0.here hx rfl (hb hby d1_18) rfl k) ?_
  show own_go _ _ _ _ _ _ _ (s₁.setTop (mkF m 19 #[.val (.int p1)] [(.int p1)]))
  refine own_st (fun _ k => XS.iconst X0.here hx rfl (hb hby d1_19) k) ?_
  show own_go _ _ _ _ _ _ _ (s₁.setTop (mkF m 20 #[.val (.int p1)] [(.int (3 : Int32)), (.int p1)]))
  refine own_st (fun _ k => XS.icmpYes X0.here hx rfl (pc0 := 20) (pc' := 27) rfl (hb hby d1_20) rfl (XT.ii_ne_t q3) (by decide) (by decide) k) ?_
  show own_go _ _ _ _ _ _ _ (s₁.setTop (mkF m 27 #[.val (.int p1)] []))
  refine own_st (fun _ k => XS.iloadN X0.here hx rfl (hb hby d1_27) rfl k) ?_
  show own_go _ _ _ _ _ _ _ (s₁.setTop (mkF m 28 #[.val (.int p1)] [(.int p1)]))
  refine own_st (fun _ k => XS.iconst X0.here hx rfl (hb hby d1_28) k) ?_
  show own_go _ _ _ _ _ _ _ (s₁.setTop (mkF m 29 #[.val (.int p1)] [(.int (4 : Int32)), (.int p1)]))
  refine own_st (fun _ k => XS.icmpYes X0.here hx rfl (pc0 := 29) (pc' := 36) rfl (hb hby d1_29) rfl (XT.ii_ne_t q4) (by decide) (by decide) k) ?_
  show own_go _ _ _ _ _ _ _ (s₁.setTop (mkF m 36 #[.val (.int p1)] []))
  refine own_st (fun _ k => XS.aconstNull X0.here hx rfl (hb hby d1_36) k) ?_
  show own_go _ _ _ _ _ _ _ (s₁.setTop (mkF m 37 #[.val (.int p1)] [.null]))
  exact own_retA X0 hx hlk hret rfl rfl (hb hby d1_37) (by decide) (by decide) (⟨rfl, N0, e0⟩)
theorem d3_0 : decode prog_29_method_1_code 0 = .ok (.getstatic 16, 3) := by decide +kernel
theorem d3_3 : decode prog_29_method_1_code 3 = .ok (.invokevirtual 20, 3) := by decide +kernel
theorem d3_6 : decode prog_29_method_1_code 6 = .ok (.checkcast 21, 3) := by decide +kernel
theorem d3_9 : decode prog_29_method_1_code 9 = .ok (.areturn, 1) := by decide +kernel
theorem own_pn_3 : plainFor (⟨"com/example/watchword/watchword/model/SrpHash", "values", "()[Lcom/example/watchword/watchword/model/SrpHash;"⟩ : MethodName) = true := plainFor_of_name (show plainName "com/example/watchword/watchword/model/SrpHash" = true by first | (simp [plainName, overriddenIn]; done) | decide +kernel)
theorem own_ef_rmv (m : MethodId)  : entryFrame m #[] 0 = mkF m 0 #[] [] := by first | (simp [entryFrame, mkF, argsToLocals, Value.category]; done) | rfl
set_option maxRecDepth 65536 in
set_option maxHeartbeats 40000000 in
theorem rmv (l : Launch) (Z : State) (a0 : Array Value) (hw : ∀ d ∈ tables_1, d.before a0 Z = true) (c__VALUES c_SHA_1 c_SHA_256 c_SHA_384 c_SHA_512 c_EMPTY : Addr) (h0 : Heap) (n0 : Nat) (O0 : Old Z n0 h0) (hS : own_S Z c__VALUES c_SHA_1 c_SHA_256 c_SHA_384 c_SHA_512 c_EMPTY) :
    own_Met l Z (⟨"com/example/watchword/watchword/model/SrpHash", "values", "()[Lcom/example/watchword/watchword/model/SrpHash;"⟩ : MethodName) prog_29_method_1_code 0 (some (.array (.object "com/example/watchword/watchword/model/SrpHash"))) [] ({ frames := 1, cells := 1, slots := 4, locals := 14 } : Room) #[] h0 (fun v h L => ∃ a, v = some (.ref a) ∧ Fr n0 L ∧ Keep h0 h [] ∧ h0.size ≤ a ∧ ∃ k, Arv Z h a k (.object "com/example/watchword/watchword/model/SrpHash") 4 [(.ref c_SHA_1), (.ref c_SHA_256), (.ref c_SHA_384), (.ref c_SHA_512)] .null) := by
  refine own_body own_pn_3 ?_
  intro p e s m below meth c s₁ hx hby hml hown hnm hret hlk X0 hZ e0
  replace hown : s.vm.findClass "com/example/watchword/watchword/model/SrpHash" = some m.cls := hown
  have N0 := Fr.nil n0
  have K0 := Keep.refl h0 []
  refine own_st (fun _ k => castTop (own_ef_rmv m ) k) ?_
  show own_go _ _ _ _ _ _ _ (s₁.setTop (mkF m 0 #[] []))
  obtain ⟨T5, X5, e5, st5⟩ := getS2 X0 hx hZ hown (host := "") (Or.inl (hw _ (List.mem_of_getElem? (i := 11) rfl))) Via.refl e0 (hS.1.ext O0.2) (g := (mkF m 0 #[] [])) rfl (hb hby d3_0)
  refine own_st st5 ?_
  show own_go _ _ _ _ _ _ _ (T5.setTop (mkF m 3 #[] [(.ref c__VALUES)]))
  obtain ⟨T6, h6, k6, b6, X6, e6, g6, E6, V6, A6, st6⟩ := own_clone X5 hx hZ hown (hw _ (List.mem_of_getElem? (i := 13) rfl)) (hw _ (List.mem_of_getElem? (i := 14) rfl)) (hw _ (List.mem_of_getElem? (i := 18) rfl)) (hw _ (List.mem_of_getElem? (i := 16) rfl)) (hw _ (List.mem_of_getElem? (i := 17) rfl)) (hw _ (List.mem_of_getElem? (i := 19) rfl)) e5 O0 hS.2.2.2.2.2.2.2.2.2.2.2.2.2.2.2.2.2 hS.2.1 (g := (mkF m 3 #[] [(.ref c__VALUES)])) rfl (by rw [hml]; rfl) rfl (hb hby d3_3) (by decide) (W := 0) (cap := 4) (by show 2 * 0 + _ ≤ _; exact Nat.le_of_eq rfl) (by decide) (by decide) (by decide) (by decide)
  have ge_b6 : n0 ≤ b6 := by rw [g6]; exact own_osz O0
  have sz_b6 : h0.size ≤ b6 := by rw [g6]; exact K0.1
  have O6 := O0.ext E6
  have K6 := K0.ext E6
  refine own_st st6 ?_
  show own_go _ _ _ _ _ _ _ (T6.setTop (mkF m 6 #[] [(.ref b6)]))
  obtain ⟨T7, X7, e7, st7⟩ := castY X6 hx hZ hown (hw _ (List.mem_of_getElem? (i := 25) rfl)) e6 (Ins.self A6) (g := (mkF m 6 #[] [(.ref b6)])) rfl rfl (hb hby d3_6)
  refine own_st st7 ?_
  show own_go _ _ _ _ _ _ _ (T7.setTop (mkF m 9 #[] [(.ref b6)]))
  exact own_retA X7 hx hlk hret rfl rfl (hb hby d3_9) (by decide) (by decide) (by rw [e7]; exact ⟨_, rfl, N0, K6, sz_b6, _, V6⟩)
theorem d4_0 : decode jdk_32_method_1_code 0 = .ok (.getstatic 1, 3) := by decide +kernel
theorem d4_3 : decode jdk_32_method_1_code 3 = .ok (.astore_n 0, 1) := by decide +kernel
theorem d4_4 : decode jdk_32_method_1_code 4 = .ok (.aload_n 0, 1) := by decide +kernel
theorem d4_5 : decode jdk_32_method_1_code 5 = .ok (.areturn, 1) := by decide +kernel
theorem own_pn_4 : plainFor (⟨"java/util/Optional", "empty", "()Ljava/util/Optional;"⟩ : MethodName) = true := plainFor_of_name (show plainName "java/util/Optional" = true by first | (simp [plainName, overriddenIn]; done) | decide +kernel)
theorem own_ef_rmo_empty (m : MethodId)  : entryFrame m #[] 1 = mkF m 0 #[.unset] [] := by first | (simp [entryFrame, mkF, argsToLocals, Value.category]; done) | rfl
set_option maxRecDepth 65536 in
set_option maxHeartbeats 40000000 in
theorem rmo_empty (l : Launch) (Z : State) (a0 : Array Value) (hw : ∀ d ∈ tables_1, d.before a0 Z = true) (c__VALUES c_SHA_1 c_SHA_256 c_SHA_384 c_SHA_512 c_EMPTY : Addr) (h0 : Heap) (n0 : Nat) (O0 : Old Z n0 h0) (hS : own_S Z c__VALUES c_SHA_1 c_SHA_256 c_SHA_384 c_SHA_512 c_EMPTY) :
    own_Met l Z (⟨"java/util/Optional", "empty", "()Ljava/util/Optional;"⟩ : MethodName) jdk_32_method_1_code 1 (some (.object "java/util/Optional")) [] ({ frames := 0, cells := 0, slots := 0, locals := 0 } : Room) #[] h0 (fun v h L => v = some (.ref c_EMPTY) ∧ Fr n0 L ∧ h = h0) := by
  refine own_body own_pn_4 ?_
  intro p e s m below meth c s₁ hx hby hml hown hnm hret hlk X0 hZ e0
  replace hown : s.vm.findClass "java/util/Optional" = some m.cls := hown
  have N0 := Fr.nil n0
  have K0 := Keep.refl h0 []
  refine own_st (fun _ k => castTop (own_ef_rmo_empty m ) k) ?_
  show own_go _ _ _ _ _ _ _ (s₁.setTop (mkF m 0 #[.unset] []))
  obtain ⟨T8, X8, e8, st8⟩ := getS2 X0 hx hZ hown (host := "") (Or.inl (hw _ (List.mem_of_getElem? (i := 33) rfl))) Via.refl e0 (hS.2.2.2.2.2.2.2.2.2.2.2.2.2.2.1.ext O0.2) (g := (mkF m 0 #[.unset] [])) rfl (hb hby d4_0)
  refine own_st st8 ?_
  show own_go _ _ _ _ _ _ _ (T8.setTop (mkF m 3 #[.unset] [(.ref c_EMPTY)]))
  refine own_st (fun _ k => XS.astoreN X8.here hx rfl (hb hby d4_3) rfl rfl (l' := #[.val (.ref c_EMPTY)]) rfl k) ?_
  show own_go _ _ _ _ _ _ _ (T8.setTop (mkF m 4 #[.val (.ref c_EMPTY)] []))
  refine own_st (fun _ k => XS.aloadN X8.here hx rfl (hb hby d4_4) rfl rfl k) ?_
  show own_go _ _ _ _ _ _ _ (T8.setTop (mkF m 5 #[.val (.ref c_EMPTY)] [(.ref c_EMPTY)]))
  exact own_retA X8 hx hlk hret rfl rfl (hb hby d4_5) (by decide) (by decide) (⟨rfl, N0, e8⟩)
theorem d7_0 : decode jdk_31_method_10_code 0 = .ok (.aload_n 0, 1) := by decide +kernel
theorem d7_1 : decode jdk_31_method_10_code 1 = .ok (.ifnonnull 11, 3) := by decide +kernel
theorem d7_12 : decode jdk_31_method_10_code 12 = .ok (.aload_n 0, 1) := by decide +kernel
theorem d7_13 : decode jdk_31_method_10_code 13 = .ok (.areturn, 1) := by decide +kernel
theorem own_pn_7 : plainFor (⟨"java/util/Objects", "requireNonNull", "(Ljava/lang/Object;)Ljava/lang/Object;"⟩ : MethodName) = true := plainFor_of_name (show plainName "java/util/Objects" = true by first | (simp [plainName, overriddenIn]; done) | decide +kernel)
theorem own_ef_rmo_req (m : MethodId) (a1 : Addr) : entryFrame m #[(.ref a1)] 1 = mkF m 0 #[.val (.ref a1)] [] := by first | (simp [entryFrame, mkF, argsToLocals, Value.category]; done) | rfl
set_option maxRecDepth 65536 in
set_option maxHeartbeats 40000000 in
theorem rmo_req (l : Launch) (Z : State) (a0 : Array Value) (hw : ∀ d ∈ tables_1, d.before a0 Z = true) (a1 : Addr) (h0 : Heap) (n0 : Nat) (O0 : Old Z n0 h0)  :
    own_Met l Z (⟨"java/util/Objects", "requireNonNull", "(Ljava/lang/Object;)Ljava/lang/Object;"⟩ : MethodName) jdk_31_method_10_code 1 (some (.object "java/lang/Object")) [] ({ frames := 0, cells := 0, slots := 0, locals := 0 } : Room) #[(.ref a1)] h0 (fun v h L => v = some (.ref a1) ∧ Fr n0 L ∧ h = h0) := by
  refine own_body own_pn_7 ?_
  intro p e s m below meth c s₁ hx hby hml hown hnm hret hlk X0 hZ e0
  replace hown : s.vm.findClass "java/util/Objects" = some m.cls := hown
  have N0 := Fr.nil n0
  have K0 := Keep.refl h0 []
  refine own_st (fun _ k => castTop (own_ef_rmo_req m a1) k) ?_
  show own_go _ _ _ _ _ _ _ (s₁.setTop (mkF m 0 #[.val (.ref a1)] []))
  refine own_st (fun _ k => XS.aloadN X0.here hx rfl (hb hby d7_0) rfl rfl k) ?_
  show own_go _ _ _ _ _ _ _ (s₁.setTop (mkF m 1 #[.val (.ref a1)] [(.ref a1)]))
  refine own_st (fun _ k => XS.ifnonnullYes X0.here hx rfl (pc0 := 1) (pc' := 12) rfl (hb hby d7_1) rfl (by decide) (by decide) k) ?_
  show own_go _ _ _ _ _ _ _ (s₁.setTop (mkF m 12 #[.val (.ref a1)] []))
  refine own_st (fun _ k => XS.aloadN X0.here hx rfl (hb hby d7_12) rfl rfl k) ?_
  show own_go _ _ _ _ _ _ _ (s₁.setTop (mkF m 13 #[.val (.ref a1)] [(.ref a1)]))
  exact own_retA X0 hx hlk hret rfl rfl (hb hby d7_13) (by decide) (by decide) (⟨rfl, N0, e0⟩)
theorem d8_0 : decode jdk_32_method_2_code 0 = .ok (.aload_n 0, 1) := by decide +kernel
theorem d8_1 : decode jdk_32_method_2_code 1 = .ok (.invokespecial 7, 3) := by decide +kernel
theorem d8_4 : decode jdk_32_method_2_code 4 = .ok (.aload_n 0, 1) := by decide +kernel
theorem d8_5 : decode jdk_32_method_2_code 5 = .ok (.aload_n 1, 1) := by decide +kernel
theorem d8_6 : decode jdk_32_method_2_code 6 = .ok (.putfield 13, 3) := by decide +kernel
theorem d8_9 : decode jdk_32_method_2_code 9 = .ok (.return_, 1) := by decide +kernel
theorem own_pn_8 : plainFor (⟨"java/util/Optional", "<init>", "(Ljava/lang/Object;)V"⟩ : MethodName) = true := plainFor_of_name (show plainName "java/util/Optional" = true by first | (simp [plainName, overriddenIn]; done) | decide +kernel)
theorem own_ef_rmo_init (m : MethodId) (a1 : Addr) (a2 : Addr) : entryFrame m #[(.ref a1), (.ref a2)] 2 = mkF m 0 #[.val (.ref a1), .val (.ref a2)] [] := by first | (simp [entryFrame, mkF, argsToLocals, Value.category]; done) | rfl
set_option maxRecDepth 65536 in
set_option maxHeartbeats 40000000 in
theorem rmo_init (l : Launch) (Z : State) (a0 : Array Value) (hw : ∀ d ∈ tables_1, d.before a0 Z = true) (a1 a2 : Addr) (h0 : Heap) (n0 : Nat) (O0 : Old Z n0 h0) (g1 : n0 ≤ a1) (E1 : Exa Z h0 a1 "java/util/Optional") (F1 : Fld Z h0 a1 "java/util/Optional" "value" "Ljava/lang/Object;" .null) :
    own_Met l Z (⟨"java/util/Optional", "<init>", "(Ljava/lang/Object;)V"⟩ : MethodName) jdk_32_method_2_code 2 none [] ({ frames := 1, cells := 0, slots := 0, locals := 12 } : Room) #[(.ref a1), (.ref a2)] h0 (fun v h L => v = none ∧ Fr n0 L ∧ Keep h0 h [a1] ∧ Fld Z h a1 "java/util/Optional" "value" "Ljava/lang/Object;" (.ref a2)) := by
  refine own_body own_pn_8 ?_
  intro p e s m below meth c s₁ hx hby hml hown hnm hret hlk X0 hZ e0
  replace hown : s.vm.findClass "java/util/Optional" = some m.cls := hown
  have N0 := Fr.nil n0
  have K0 := Keep.refl h0 [a1]
  refine own_st (fun _ k => castTop (own_ef_rmo_init m a1 a2) k) ?_
  show own_go _ _ _ _ _ _ _ (s₁.setTop (mkF m 0 #[.val (.ref a1), .val (.ref a2)] []))
  refine own_st (fun _ k => XS.aloadN X0.here hx rfl (hb hby d8_0) rfl rfl k) ?_
  show own_go _ _ _ _ _ _ _ (s₁.setTop (mkF m 1 #[.val (.ref a1), .val (.ref a2)] [(.ref a1)]))
  obtain ⟨T10, X10, e10, st10⟩ := initO X0 hx hZ hown (hw _ (List.mem_of_getElem? (i := 55) rfl)) (hw _ (List.mem_of_getElem? (i := 56) rfl)) (hw _ (List.mem_of_getElem? (i := 57) rfl)) e0 (g := (mkF m 1 #[.val (.ref a1), .val (.ref a2)] [(.ref a1)])) rfl (by rw [hml]; rfl) rfl (hb hby d8_1) (by decide) (W := 0) (by show 2 * 0 + _ ≤ _; exact Nat.le_of_eq rfl) (by decide)
  refine own_st st10 ?_
  show own_go _ _ _ _ _ _ _ (T10.setTop (mkF m 4 #[.val (.ref a1), .val (.ref a2)] []))
  refine own_st (fun _ k => XS.aloadN X10.here hx rfl (hb hby d8_4) rfl rfl k) ?_
  show own_go _ _ _ _ _ _ _ (T10.setTop (mkF m 5 #[.val (.ref a1), .val (.ref a2)] [(.ref a1)]))
  refine own_st (fun _ k => XS.aloadN X10.here hx rfl (hb hby d8_5) rfl rfl k) ?_
  show own_go _ _ _ _ _ _ _ (T10.setTop (mkF m 6 #[.val (.ref a1), .val (.ref a2)] [(.ref a2), (.ref a1)]))
  obtain ⟨T11, h11, X11, e11, W11, st11⟩ := putF X10 hx hZ hown (host := "") (Or.inl (hw _ (List.mem_of_getElem? (i := 39) rfl))) Via.refl e10 F1 E1 (Or.inr ⟨(hw _ (List.mem_of_getElem? (i := 40) rfl)), rfl, hnm⟩) (hw _ (List.mem_of_getElem? (i := 46) rfl)) (ty := (.object "java/lang/Object")) (by decide) rfl rfl (g := (mkF m 6 #[.val (.ref a1), .val (.ref a2)] [(.ref a2), (.ref a1)])) rfl rfl (hb hby d8_6)
  have N11 := Fr.snoc X11 N0 g1
  have O12 := O0.wr W11 g1
  have K12 := K0.wr W11 (Or.inl (List.mem_of_getElem? (i := 0) rfl))
  have F11 := F1.same W11
  refine own_st st11 ?_
  show own_go _ _ _ _ _ _ _ (T11.setTop (mkF m 9 #[.val (.ref a1), .val (.ref a2)] []))
  exact own_ret0 X11 hx hlk hret (hb hby d8_9) (by decide) (by decide) (by rw [e11]; exact ⟨rfl, N11, K12, F11⟩)
theorem d6_0 : decode jdk_32_method_3_code 0 = .ok (.new 2, 3) := by decide +kernel
theorem d6_3 : decode jdk_32_method_3_code 3 = .ok (.dup, 1) := by decide +kernel
theorem d6_4 : decode jdk_32_method_3_code 4 = .ok (.aload_n 0, 1) := by decide +kernel
theorem d6_5 : decode jdk_32_method_3_code 5 = .ok (.invokestatic 17, 3) := by decide +kernel
theorem d6_8 : decode jdk_32_method_3_code 8 = .ok (.invokespecial 23, 3) := by decide +kernel
theorem d6_11 : decode jdk_32_method_3_code 11 = .ok (.areturn, 1) := by decide +kernel
theorem own_pn_6 : plainFor (⟨"java/util/Optional", "of", "(Ljava/lang/Object;)Ljava/util/Optional;"⟩ : MethodName) = true := plainFor_of_name (show plainName "java/util/Optional" = true by first | (simp [plainName, overriddenIn]; done) | decide +kernel)
theorem own_pd__28Ljava_2flang_2fObject_3b_29Ljava_2flang_2fObject_3b : parseMethodDescriptor "(Ljava/lang/Object;)Ljava/lang/Object;" = some ⟨[(.object "java/lang/Object")], some (.object "java/lang/Object")⟩ := by decide +kernel
theorem own_pd__28Ljava_2flang_2fObject_3b_29V : parseMethodDescriptor "(Ljava/lang/Object;)V" = some ⟨[(.object "java/lang/Object")], none⟩ := by decide +kernel
theorem own_ef_rmo_of (m : MethodId) (a1 : Addr) : entryFrame m #[(.ref a1)] 1 = mkF m 0 #[.val (.ref a1)] [] := by first | (simp [entryFrame, mkF, argsToLocals, Value.category]; done) | rfl
set_option maxRecDepth 65536 in
set_option maxHeartbeats 40000000 in
theorem rmo_of (l : Launch) (Z : State) (a0 : Array Value) (hw : ∀ d ∈ tables_1, d.before a0 Z = true) (a1 : Addr) (h0 : Heap) (n0 : Nat) (O0 : Old Z n0 h0)  :
    own_Met l Z (⟨"java/util/Optional", "of", "(Ljava/lang/Object;)Ljava/util/Optional;"⟩ : MethodName) jdk_32_method_3_code 1 (some (.object "java/util/Optional")) [] ({ frames := 2, cells := 1, slots := 1, locals := 26 } : Room) #[(.ref a1)] h0 (fun v h L => ∃ a, v = some (.ref a) ∧ Fr n0 L ∧ Keep h0 h [] ∧ h0.size ≤ a ∧ Exa Z h a "java/util/Optional" ∧ Fld Z h a "java/util/Optional" "value" "Ljava/lang/Object;" (.ref a1)) := by
  refine own_body own_pn_6 ?_
  intro p e s m below meth c s₁ hx hby hml hown hnm hret hlk X0 hZ e0
  replace hown : s.vm.findClass "java/util/Optional" = some m.cls := hown
  have N0 := Fr.nil n0
  have K0 := Keep.refl h0 []
  refine own_st (fun _ k => castTop (own_ef_rmo_of m a1) k) ?_
  show own_go _ _ _ _ _ _ _ (s₁.setTop (mkF m 0 #[.val (.ref a1)] []))
  obtain ⟨T13, h13, X13, e13, E13, A13, D13, -, st13⟩ := newO X0 hx hZ hown (hw _ (List.mem_of_getElem? (i := 45) rfl)) (hw _ (List.mem_of_getElem? (i := 46) rfl)) (hw _ (List.mem_of_getElem? (i := 31) rfl)) e0 (g := (mkF m 0 #[.val (.ref a1)] [])) rfl (hb hby d6_0) (by decide) (by decide)
  obtain ⟨b13, g13⟩ : ∃ z, z = h0.size := ⟨_, rfl⟩
  rw [← g13] at A13 D13 st13
  have ge_b13 : n0 ≤ b13 := by rw [g13]; exact own_osz O0
  have sz_b13 : h0.size ≤ b13 := by rw [g13]; exact K0.1
  have O13 := O0.ext E13
  have K13 := K0.ext E13
  refine own_st st13 ?_
  show own_go _ _ _ _ _ _ _ (T13.setTop (mkF m 3 #[.val (.ref a1)] [(.ref b13)]))
  refine own_st (fun _ k => XS.dup X13.here hx rfl (hb hby d6_3) rfl rfl k) ?_
  show own_go _ _ _ _ _ _ _ (T13.setTop (mkF m 4 #[.val (.ref a1)] [(.ref b13), (.ref b13)]))
  refine own_st (fun _ k => XS.aloadN X13.here hx rfl (hb hby d6_4) rfl rfl k) ?_
  show own_go _ _ _ _ _ _ _ (T13.setTop (mkF m 5 #[.val (.ref a1)] [(.ref a1), (.ref b13), (.ref b13)]))
  obtain ⟨v14, T14, L14, X14, hQ14, st14⟩ := own_callS X13 hx hZ (argsL := [(.ref a1)]) (rest := [(.ref b13), (.ref b13)]) (rmo_req l Z a0 hw a1 h13 n0 O13) hown (hw _ (List.mem_of_getElem? (i := 47) rfl)) (hw _ (List.mem_of_getElem? (i := 48) rfl)) (hw _ (List.mem_of_getElem? (i := 49) rfl)) (hw _ (List.mem_of_getElem? (i := 50) rfl)) (by decide) e13 (g := (mkF m 5 #[.val (.ref a1)] [(.ref a1), (.ref b13), (.ref b13)])) rfl (by rw [hml]; rfl) (lenOf own_pd__28Ljava_2flang_2fObject_3b_29Ljava_2flang_2fObject_3b rfl) rfl (W := 2) (by show 2 * 0 + _ ≤ _; exact Nat.le_of_eq rfl) (hb hby d6_5) (by decide) (by decide) (by decide) (by decide)
  obtain ⟨rfl, Nq14, eq14⟩ := hQ14
  have N14 := Fr.app N0 Nq14
  refine own_st st14 ?_
  show own_go _ _ _ _ _ _ _ (T14.setTop (mkF m 8 #[.val (.ref a1)] [(.ref a1), (.ref b13), (.ref b13)]))
  obtain ⟨v15, T15, L15, X15, hQ15, st15⟩ := own_callN X14 hx hZ (argsL := [(.ref a1)]) (rest := [(.ref b13)]) (rmo_init l Z a0 hw b13 a1 h13 n0 O13 ge_b13 A13 (D13 (Or.inr (hw _ (List.mem_of_getElem? (i := 40) rfl))) (ty := (.object "java/lang/Object")) (by decide))) rfl hown (hw _ (List.mem_of_getElem? (i := 51) rfl)) (hw _ (List.mem_of_getElem? (i := 52) rfl)) (hw _ (List.mem_of_getElem? (i := 31) rfl)) (hw _ (List.mem_of_getElem? (i := 54) rfl)) (by decide) eq14 (g := (mkF m 8 #[.val (.ref a1)] [(.ref a1), (.ref b13), (.ref b13)])) rfl (by rw [hml]; rfl) (lenOf own_pd__28Ljava_2flang_2fObject_3b_29V rfl) rfl (W := 1) (by show 2 * 0 + _ ≤ _; exact Nat.le_of_eq rfl) (hb hby d6_8) (by decide) (by decide) (by decide) (by decide)
  obtain ⟨rfl, Nq15, Kq15, F15_0⟩ := hQ15
  have N15 := Fr.app N14 Nq15
  have O15 := O13.keep Kq15 (allS ge_b13 all0)
  have K15 := K13.trans Kq15 (allS (Or.inr sz_b13) all0)
  refine own_st st15 ?_
  show own_go _ _ _ _ _ _ _ (T15.setTop (mkF m 11 #[.val (.ref a1)] [(.ref b13)]))
  have f16 := (A13.keep Kq15)
  exact own_retA X15 hx hlk hret rfl rfl (hb hby d6_11) (by decide) (by decide) ⟨_, rfl, N15, K15, sz_b13, f16, F15_0⟩
theorem d5_0 : decode jdk_32_method_6_code 0 = .ok (.aload_n 0, 1) := by decide +kernel
theorem d5_1 : decode jdk_32_method_6_code 1 = .ok (.getfield 13, 3) := by decide +kernel
theorem d5_4 : decode jdk_32_method_6_code 4 = .ok (.ifnull 7, 3) := by decide +kernel
theorem d5_7 : decode jdk_32_method_6_code 7 = .ok (.iconst 1, 1) := by decide +kernel
theorem d5_8 : decode jdk_32_method_6_code 8 = .ok (.goto 4, 3) := by decide +kernel
theorem d5_12 : decode jdk_32_method_6_code 12 = .ok (.ireturn, 1) := by decide +kernel
theorem own_pn_5 : plainFor (⟨"java/util/Optional", "isPresent", "()Z"⟩ : MethodName) = true := plainFor_of_name (show plainName "java/util/Optional" = true by first | (simp [plainName, overriddenIn]; done) | decide +kernel)
theorem own_ef_rmo_isPresent_R (m : MethodId) (a1 : Addr) : entryFrame m #[(.ref a1)] 1 = mkF m 0 #[.val (.ref a1)] [] := by first | (simp [entryFrame, mkF, argsToLocals, Value.category]; done) | rfl
set_option maxRecDepth 65536 in
set_option maxHeartbeats 40000000 in
theorem rmo_isPresent_R (l : Launch) (Z : State) (a0 : Array Value) (hw : ∀ d ∈ tables_1, d.before a0 Z = true) (a1 a2 : Addr) (h0 : Heap) (n0 : Nat) (O0 : Old Z n0 h0) (F1 : Fld Z h0 a1 "java/util/Optional" "value" "Ljava/lang/Object;" (.ref a2)) :
    own_Met l Z (⟨"java/util/Optional", "isPresent", "()Z"⟩ : MethodName) jdk_32_method_6_code 1 (some .boolean) [] ({ frames := 0, cells := 0, slots := 0, locals := 0 } : Room) #[(.ref a1)] h0 (fun v h L => v = some (.int (1 : Int32)) ∧ Fr n0 L ∧ h = h0) := by
  refine own_body own_pn_5 ?_
  intro p e s m below meth c s₁ hx hby hml hown hnm hret hlk X0 hZ e0
  replace hown : s.vm.findClass "java/util/Optional" = some m.cls := hown
  have N0 := Fr.nil n0
  have K0 := Keep.refl h0 []
  refine own_st (fun _ k => castTop (own_ef_rmo_isPresent_R m a1) k) ?_
  show own_go _ _ _ _ _ _ _ (s₁.setTop (mkF m 0 #[.val (.ref a1)] []))
  refine own_st (fun _ k => XS.aloadN X0.here hx rfl (hb hby d5_0) rfl rfl k) ?_
  show own_go _ _ _ _ _ _ _ (s₁.setTop (mkF m 1 #[.val (.ref a1)] [(.ref a1)]))
  obtain ⟨T17, X17, e17, st17⟩ := getF X0 hx hZ hown (host := "") (Or.inl (hw _ (List.mem_of_getElem? (i := 39) rfl))) Via.refl e0 F1 (g := (mkF m 1 #[.val (.ref a1)] [(.ref a1)])) rfl rfl (hb hby d5_1)
  refine own_st st17 ?_
  show own_go _ _ _ _ _ _ _ (T17.setTop (mkF m 4 #[.val (.ref a1)] [(.ref a2)]))
  refine own_st (fun _ k => XS.ifnullNo X17.here hx rfl (hb hby d5_4) rfl k) ?_
  show own_go _ _ _ _ _ _ _ (T17.setTop (mkF m 7 #[.val (.ref a1)] []))
  refine own_st (fun _ k => XS.iconst X17.here hx rfl (hb hby d5_7) k) ?_
  show own_go _ _ _ _ _ _ _ (T17.setTop (mkF m 8 #[.val (.ref a1)] [(.int (1 : Int32))]))
  refine own_st (fun _ k => XS.goto X17.here hx rfl (pc0 := 8) (pc' := 12) rfl (hb hby d5_8) (by decide) (by decide) k) ?_
  show own_go _ _ _ _ _ _ _ (T17.setTop (mkF m 12 #[.val (.ref a1)] [(.int (1 : Int32))]))
  exact own_retN X17 hx hlk (t := .boolean) hret (by simp) rfl (hb hby d5_12) (by decide) (by decide) (⟨rfl, N0, e17⟩)
theorem d5_11 : decode jdk_32_method_6_code 11 = .ok (.iconst 0, 1) := by decide +kernel
theorem own_ef_rmo_isPresent_N (m : MethodId) (a1 : Addr) : entryFrame m #[(.ref a1)] 1 = mkF m 0 #[.val (.ref a1)] [] := by first | (simp [entryFrame, mkF, argsToLocals, Value.category]; done) | rfl
set_option maxRecDepth 65536 in
set_option maxHeartbeats 40000000 in
theorem rmo_isPresent_N (l : Launch) (Z : State) (a0 : Array Value) (hw : ∀ d ∈ tables_1, d.before a0 Z = true) (a1 : Addr) (h0 : Heap) (n0 : Nat) (O0 : Old Z n0 h0) (F1 : Fld Z h0 a1 "java/util/Optional" "value" "Ljava/lang/Object;" .null) :
    own_Met l Z (⟨"java/util/Optional", "isPresent", "()Z"⟩ : MethodName) jdk_32_method_6_code 1 (some .boolean) [] ({ frames := 0, cells := 0, slots := 0, locals := 0 } : Room) #[(.ref a1)] h0 (fun v h L => v = some (.int (0 : Int32)) ∧ Fr n0 L ∧ h = h0) := by
  refine own_body own_pn_5 ?_
  intro p e s m below meth c s₁ hx hby hml hown hnm hret hlk X0 hZ e0
  replace hown : s.vm.findClass "java/util/Optional" = some m.cls := hown
  have N0 := Fr.nil n0
  have K0 := Keep.refl h0 []
  refine own_st (fun _ k => castTop (own_ef_rmo_isPresent_N m a1) k) ?_
  show own_go _ _ _ _ _ _ _ (s₁.setTop (mkF m 0 #[.val (.ref a1)] []))
  refine own_st (fun _ k => XS.aloadN X0.here hx rfl (hb hby d5_0) rfl rfl k) ?_
  show own_go _ _ _ _ _ _ _ (s₁.setTop (mkF m 1 #[.val (.ref a1)] [(.ref a1)]))
  obtain ⟨T18, X18, e18, st18⟩ := getF X0 hx hZ hown (host := "") (Or.inl (hw _ (List.mem_of_getElem? (i := 39) rfl))) Via.refl e0 F1 (g := (mkF m 1 #[.val (.ref a1)] [(.ref a1)])) rfl rfl (hb hby d5_1)
  refine own_st st18 ?_
  show own_go _ _ _ _ _ _ _ (T18.setTop (mkF m 4 #[.val (.ref a1)] [.null]))
  refine own_st (fun _ k => XS.ifnullYes X18.here hx rfl (pc0 := 4) (pc' := 11) rfl (hb hby d5_4) rfl (by decide) (by decide) k) ?_
  show own_go _ _ _ _ _ _ _ (T18.setTop (mkF m 11 #[.val (.ref a1)] []))
  refine own_st (fun _ k => XS.iconst X18.here hx rfl (hb hby d5_11) k) ?_
  show own_go _ _ _ _ _ _ _ (T18.setTop (mkF m 12 #[.val (.ref a1)] [(.int (0 : Int32))]))
  exact own_retN X18 hx hlk (t := .boolean) hret (by simp) rfl (hb hby d5_12) (by decide) (by decide) (⟨rfl, N0, e18⟩)
theorem d10_0 : decode jdk_32_method_5_code 0 = .ok (.aload_n 0, 1) := by decide +kernel
theorem d10_1 : decode jdk_32_method_5_code 1 = .ok (.getfield 13, 3) := by decide +kernel
theorem d10_4 : decode jdk_32_method_5_code 4 = .ok (.ifnonnull 13, 3) := by decide +kernel
theorem d10_17 : decode jdk_32_method_5_code 17 = .ok (.aload_n 0, 1) := by decide +kernel
theorem d10_18 : decode jdk_32_method_5_code 18 = .ok (.getfield 13, 3) := by decide +kernel
theorem d10_21 : decode jdk_32_method_5_code 21 = .ok (.areturn, 1) := by decide +kernel
theorem own_pn_10 : plainFor (⟨"java/util/Optional", "get", "()Ljava/lang/Object;"⟩ : MethodName) = true := plainFor_of_name (show plainName "java/util/Optional" = true by first | (simp [plainName, overriddenIn]; done) | decide +kernel)
theorem own_ef_rmo_get_R (m : MethodId) (a1 : Addr) : entryFrame m #[(.ref a1)] 1 = mkF m 0 #[.val (.ref a1)] [] := by first | (simp [entryFrame, mkF, argsToLocals, Value.category]; done) | rfl
set_option maxRecDepth 65536 in
set_option maxHeartbeats 40000000 in
theorem rmo_get_R (l : Launch) (Z : State) (a0 : Array Value) (hw : ∀ d ∈ tables_1, d.before a0 Z = true) (a1 a2 : Addr) (h0 : Heap) (n0 : Nat) (O0 : Old Z n0 h0) (F1 : Fld Z h0 a1 "java/util/Optional" "value" "Ljava/lang/Object;" (.ref a2)) :
    own_Met l Z (⟨"java/util/Optional", "get", "()Ljava/lang/Object;"⟩ : MethodName) jdk_32_method_5_code 1 (some (.object "java/lang/Object")) [] ({ frames := 0, cells := 0, slots := 0, locals := 0 } : Room) #[(.ref a1)] h0 (fun v h L => v = some (.ref a2) ∧ Fr n0 L ∧ h = h0) := by
  refine own_body own_pn_10 ?_
  intro p e s m below meth c s₁ hx hby hml hown hnm hret hlk X0 hZ e0
  replace hown : s.vm.findClass "java/util/Optional" = some m.cls := hown
  have N0 := Fr.nil n0
  have K0 := Keep.refl h0 []
  refine own_st (fun _ k => castTop (own_ef_rmo_get_R m a1) k) ?_
  show own_go _ _ _ _ _ _ _ (s₁.setTop (mkF m 0 #[.val (.ref a1)] []))
  refine own_st (fun _ k => XS.aloadN X0.here hx rfl (hb hby d10_0) rfl rfl k) ?_
  show own_go _ _ _ _ _ _ _ (s₁.setTop (mkF m 1 #[.val (.ref a1)] [(.ref a1)]))
  obtain ⟨T19, X19, e19, st19⟩ := getF X0 hx hZ hown (host := "") (Or.inl (hw _ (List.mem_of_getElem? (i := 39) rfl))) Via.refl e0 F1 (g := (mkF m 1 #[.val (.ref a1)] [(.ref a1)])) rfl rfl (hb hby d10_1)
  refine own_st st19 ?_
  show own_go _ _ _ _ _ _ _ (T19.setTop (mkF m 4 #[.val (.ref a1)] [(.ref a2)]))
  refine own_st (fun _ k => XS.ifnonnullYes X19.here hx rfl (pc0 := 4) (pc' := 17) rfl (hb hby d10_4) rfl (by decide) (by decide) k) ?_
  show own_go _ _ _ _ _ _ _ (T19.setTop (mkF m 17 #[.val (.ref a1)] []))
  refine own_st (fun _ k => XS.aloadN X19.here hx rfl (hb hby d10_17) rfl rfl k) ?_
  show own_go _ _ _ _ _ _ _ (T19.setTop (mkF m 18 #[.val (.ref a1)] [(.ref a1)]))
  obtain ⟨T20, X20, e20, st20⟩ := getF X19 hx hZ hown (host := "") (Or.inl (hw _ (List.mem_of_getElem? (i := 39) rfl))) Via.refl e19 F1 (g := (mkF m 18 #[.val (.ref a1)] [(.ref a1)])) rfl rfl (hb hby d10_18)
  refine own_st st20 ?_
  show own_go _ _ _ _ _ _ _ (T20.setTop (mkF m 21 #[.val (.ref a1)] [(.ref a2)]))
  exact own_retA X20 hx hlk hret rfl rfl (hb hby d10_21) (by decide) (by decide) (⟨rfl, N0, e20⟩)
theorem d2_0 : decode prog_29_method_4_code 0 = .ok (.invokestatic 50, 3) := by decide +kernel
theorem d2_3 : decode prog_29_method_4_code 3 = .ok (.astore_n 1, 1) := by decide +kernel
theorem d2_4 : decode prog_29_method_4_code 4 = .ok (.aload_n 1, 1) := by decide +kernel
theorem d2_5 : decode prog_29_method_4_code 5 = .ok (.arraylength, 1) := by decide +kernel
theorem d2_6 : decode prog_29_method_4_code 6 = .ok (.istore_n 2, 1) := by decide +kernel
theorem d2_7 : decode prog_29_method_4_code 7 = .ok (.iconst 0, 1) := by decide +kernel
theorem d2_8 : decode prog_29_method_4_code 8 = .ok (.istore_n 3, 1) := by decide +kernel
theorem d2_9 : decode prog_29_method_4_code 9 = .ok (.iload_n 3, 1) := by decide +kernel
theorem d2_10 : decode prog_29_method_4_code 10 = .ok (.iload_n 2, 1) := by decide +kernel
theorem d2_11 : decode prog_29_method_4_code 11 = .ok (.if_icmp .ge 29, 3) := by decide +kernel
theorem d2_14 : decode prog_29_method_4_code 14 = .ok (.aload_n 1, 1) := by decide +kernel
theorem d2_15 : decode prog_29_method_4_code 15 = .ok (.iload_n 3, 1) := by decide +kernel
theorem d2_16 : decode prog_29_method_4_code 16 = .ok (.aaload, 1) := by decide +kernel
theorem d2_17 : decode prog_29_method_4_code 17 = .ok (.astore 4, 2) := by decide +kernel
theorem d2_19 : decode prog_29_method_4_code 19 = .ok (.aload 4, 2) := by decide +kernel
theorem d2_21 : decode prog_29_method_4_code 21 = .ok (.getfield 35, 3) := by decide +kernel
theorem d2_24 : decode prog_29_method_4_code 24 = .ok (.iload_n 0, 1) := by decide +kernel
theorem d2_25 : decode prog_29_method_4_code 25 = .ok (.if_icmp .ne 9, 3) := by decide +kernel
theorem d2_34 : decode prog_29_method_4_code 34 = .ok (.iinc 3 1, 3) := by decide +kernel
theorem d2_37 : decode prog_29_method_4_code 37 = .ok (.goto (-28), 3) := by decide +kernel
theorem d2_40 : decode prog_29_method_4_code 40 = .ok (.invokestatic 60, 3) := by decide +kernel
theorem d2_43 : decode prog_29_method_4_code 43 = .ok (.areturn, 1) := by decide +kernel
theorem own_pn_2 : plainFor (⟨"com/example/watchword/watchword/model/SrpHash", "byId", "(B)Ljava/util/Optional;"⟩ : MethodName) = true := plainFor_of_name (show plainName "com/example/watchword/watchword/model/SrpHash" = true by first | (simp [plainName, overriddenIn]; done) | decide +kernel)
theorem own_pd__28_29_5bLcom_2fexample_2fwatchword_2fwatchword_2fmodel_2fSrpHash_3b : parseMethodDescriptor "()[Lcom/example/watchword/watchword/model/SrpHash;" = some ⟨[], some (.array (.object "com/example/watchword/watchword/model/SrpHash"))⟩ := by decide +kernel
theorem own_pd__28_29Ljava_2futil_2fOptional_3b : parseMethodDescriptor "()Ljava/util/Optional;" = some ⟨[], some (.object "java/util/Optional")⟩ := by decide +kernel
theorem own_ef_rmb_0 (m : MethodId) (p1 : Int32) : entryFrame m #[(.int p1)] 5 = mkF m 0 #[.val (.int p1), .unset, .unset, .unset, .unset] [] := by first | (simp [entryFrame, mkF, argsToLocals, Value.category]; done) | rfl
set_option maxRecDepth 65536 in
set_option maxHeartbeats 40000000 in
theorem rmb_0 (l : Launch) (Z : State) (a0 : Array Value) (hw : ∀ d ∈ tables_1, d.before a0 Z = true) (p1 : Int32) (c__VALUES c_SHA_1 c_SHA_256 c_SHA_384 c_SHA_512 c_EMPTY : Addr) (h0 : Heap) (n0 : Nat) (O0 : Old Z n0 h0) (hS : own_S Z c__VALUES c_SHA_1 c_SHA_256 c_SHA_384 c_SHA_512 c_EMPTY) (q1 : ¬ p1 = (1 : Int32)) (q2 : ¬ p1 = (2 : Int32)) (q3 : ¬ p1 = (3 : Int32)) (q4 : ¬ p1 = (4 : Int32)) :
    own_Met l Z (⟨"com/example/watchword/watchword/model/SrpHash", "byId", "(B)Ljava/util/Optional;"⟩ : MethodName) prog_29_method_4_code 5 (some (.object "java/util/Optional")) [] ({ frames := 3, cells := 2, slots := 5, locals := 38 } : Room) #[(.int p1)] h0 (fun v h L => v = some (.ref c_EMPTY) ∧ Fr n0 L ∧ Keep h0 h []) := by
  refine own_body own_pn_2 ?_
  intro p e s m below meth c s₁ hx hby hml hown hnm hret hlk X0 hZ e0
  replace hown : s.vm.findClass "com/example/watchword/watchword/model/SrpHash" = some m.cls := hown
  have N0 := Fr.nil n0
  have K0 := Keep.refl h0 []
  refine own_st (fun _ k => castTop (own_ef_rmb_0 m p1) k) ?_
  show own_go _ _ _ _ _ _ _ (s₁.setTop (mkF m 0 #[.val (.int p1), .unset, .unset, .unset, .unset] []))
  obtain ⟨v21, T21, L21, X21, hQ21, st21⟩ := own_callS X0 hx hZ (argsL := []) (rest := []) (rmv l Z a0 hw c__VALUES c_SHA_1 c_SHA_256 c_SHA_384 c_SHA_512 c_EMPTY h0 n0 O0 hS) hown (hw _ (List.mem_of_getElem? (i := 8) rfl)) (hw _ (List.mem_of_getElem? (i := 9) rfl)) (hw _ (List.mem_of_getElem? (i := 6) rfl)) (hw _ (List.mem_of_getElem? (i := 10) rfl)) (by decide) e0 (g := (mkF m 0 #[.val (.int p1), .unset, .unset, .unset, .unset] [])) rfl (by rw [hml]; rfl) (lenOf own_pd__28_29_5bLcom_2fexample_2fwatchword_2fwatchword_2fmodel_2fSrpHash_3b rfl) rfl (W := 0) (by show 2 * 0 + _ ≤ _; exact Nat.le_of_eq rfl) (hb hby d2_0) (by decide) (by decide) (by decide) (by decide)
  obtain ⟨r21, rfl, Nq21, Kq21, sz21, k21, V21⟩ := hQ21
  have N21 := Fr.app N0 Nq21
  have O21 := O0.keep Kq21 all0
  have K21 := K0.trans Kq21 all0
  refine own_st st21 ?_
  show own_go _ _ _ _ _ _ _ (T21.setTop (mkF m 3 #[.val (.int p1), .unset, .unset, .unset, .unset] [(.ref r21)]))
  refine own_st (fun _ k => XS.astoreN X21.here hx rfl (hb hby d2_3) rfl rfl (l' := #[.val (.int p1), .val (.ref r21), .unset, .unset, .unset]) rfl k) ?_
  show own_go _ _ _ _ _ _ _ (T21.setTop (mkF m 4 #[.val (.int p1), .val (.ref r21), .unset, .unset, .unset] []))
  refine own_st (fun _ k => XS.aloadN X21.here hx rfl (hb hby d2_4) rfl rfl k) ?_
  show own_go _ _ _ _ _ _ _ (T21.setTop (mkF m 5 #[.val (.int p1), .val (.ref r21), .unset, .unset, .unset] [(.ref r21)]))
  refine own_st (own_len X21 hx hZ rfl V21 (g := (mkF m 5 #[.val (.int p1), .val (.ref r21), .unset, .unset, .unset] [(.ref r21)])) rfl rfl (hb hby d2_5)) ?_
  show own_go _ _ _ _ _ _ _ (T21.setTop (mkF m 6 #[.val (.int p1), .val (.ref r21), .unset, .unset, .unset] [(.int (4 : Int32))]))
  refine own_st (fun _ k => XS.istoreN X21.here hx rfl (hb hby d2_6) rfl (l' := #[.val (.int p1), .val (.ref r21), .val (.int (4 : Int32)), .unset, .unset]) rfl k) ?_
  show own_go _ _ _ _ _ _ _ (T21.setTop (mkF m 7 #[.val (.int p1), .val (.ref r21), .val (.int (4 : Int32)), .unset, .unset] []))
  refine own_st (fun _ k => XS.iconst X21.here hx rfl (hb hby d2_7) k) ?_
  show own_go _ _ _ _ _ _ _ (T21.setTop (mkF m 8 #[.val (.int p1), .val (.ref r21), .val (.int (4 : Int32)), .unset, .unset] [(.int (0 : Int32))]))
  refine own_st (fun _ k => XS.istoreN X21.here hx rfl (hb hby d2_8) rfl (l' := #[.val (.int p1), .val (.ref r21), .val (.int (4 : Int32)), .val (.int (0 : Int32)), .unset]) rfl k) ?_
  show own_go _ _ _ _ _ _ _ (T21.setTop (mkF m 9 #[.val (.int p1), .val (.ref r21), .val (.int (4 : Int32)), .val (.int (0 : Int32)), .unset] []))
  refine own_st (fun _ k => XS.iloadN X21.here hx rfl (hb hby d2_9) rfl k) ?_
  show own_go _ _ _ _ _ _ _ (T21.setTop (mkF m 10 #[.val (.int p1), .val (.ref r21), .val (.int (4 : Int32)), .val (.int (0 : Int32)), .unset] [(.int (0 : Int32))]))
  refine own_st (fun _ k => XS.iloadN X21.here hx rfl (hb hby d2_10) rfl k) ?_
  show own_go _ _ _ _ _ _ _ (T21.setTop (mkF m 11 #[.val (.int p1), .val (.ref r21), .val (.int (4 : Int32)), .val (.int (0 : Int32)), .unset] [(.int (4 : Int32)), (.int (0 : Int32))]))
  refine own_st (fun _ k => XS.icmpNo X21.here hx rfl (hb hby d2_11) rfl (by decide) k) ?_
  show own_go _ _ _ _ _ _ _ (T21.setTop (mkF m 14 #[.val (.int p1), .val (.ref r21), .val (.int (4 : Int32)), .val (.int (0 : Int32)), .unset] []))
  refine own_st (fun _ k => XS.aloadN X21.here hx rfl (hb hby d2_14) rfl rfl k) ?_
  show own_go _ _ _ _ _ _ _ (T21.setTop (mkF m 15 #[.val (.int p1), .val (.ref r21), .val (.int (4 : Int32)), .val (.int (0 : Int32)), .unset] [(.ref r21)]))
  refine own_st (fun _ k => XS.iloadN X21.here hx rfl (hb hby d2_15) rfl k) ?_
  show own_go _ _ _ _ _ _ _ (T21.setTop (mkF m 16 #[.val (.int p1), .val (.ref r21), .val (.int (4 : Int32)), .val (.int (0 : Int32)), .unset] [(.int (0 : Int32)), (.ref r21)]))
  refine own_st (own_get X21 hx hZ rfl V21 rfl (j := (0 : Int32)) (by decide) (v := (.ref c_SHA_1)) rfl (g := (mkF m 16 #[.val (.int p1), .val (.ref r21), .val (.int (4 : Int32)), .val (.int (0 : Int32)), .unset] [(.int (0 : Int32)), (.ref r21)])) rfl rfl (hb hby d2_16)) ?_
  show own_go _ _ _ _ _ _ _ (T21.setTop (mkF m 17 #[.val (.int p1), .val (.ref r21), .val (.int (4 : Int32)), .val (.int (0 : Int32)), .unset] [(.ref c_SHA_1)]))
  refine own_st (fun _ k => XS.astore X21.here hx rfl (hb hby d2_17) rfl rfl (l' := #[.val (.int p1), .val (.ref r21), .val (.int (4 : Int32)), .val (.int (0 : Int32)), .val (.ref c_SHA_1)]) rfl k) ?_
  show own_go _ _ _ _ _ _ _ (T21.setTop (mkF m 19 #[.val (.int p1), .val (.ref r21), .val (.int (4 : Int32)), .val (.int (0 : Int32)), .val (.ref c_SHA_1)] []))
  refine own_st (fun _ k => XS.aload X21.here hx rfl (hb hby d2_19) rfl rfl k) ?_
  show own_go _ _ _ _ _ _ _ (T21.setTop (mkF m 21 #[.val (.int p1), .val (.ref r21), .val (.int (4 : Int32)), .val (.int (0 : Int32)), .val (.ref c_SHA_1)] [(.ref c_SHA_1)]))
  obtain ⟨T22, X22, e22, st22⟩ := getF X21 hx hZ hown (host := "") (Or.inl (hw _ (List.mem_of_getElem? (i := 27) rfl))) Via.refl rfl (hS.2.2.2.2.2.2.2.2.2.2.1.ext O21.2) (g := (mkF m 21 #[.val (.int p1), .val (.ref r21), .val (.int (4 : Int32)), .val (.int (0 : Int32)), .val (.ref c_SHA_1)] [(.ref c_SHA_1)])) rfl rfl (hb hby d2_21)
  refine own_st st22 ?_
  show own_go _ _ _ _ _ _ _ (T22.setTop (mkF m 24 #[.val (.int p1), .val (.ref r21), .val (.int (4 : Int32)), .val (.int (0 : Int32)), .val (.ref c_SHA_1)] [(.int (1 : Int32))]))
  refine own_st (fun _ k => XS.iloadN X22.here hx rfl (hb hby d2_24) rfl k) ?_
  show own_go _ _ _ _ _ _ _ (T22.setTop (mkF m 25 #[.val (.int p1), .val (.ref r21), .val (.int (4 : Int32)), .val (.int (0 : Int32)), .val (.ref c_SHA_1)] [(.int p1), (.int (1 : Int32))]))
  refine own_st (fun _ k => XS.icmpYes X22.here hx rfl (pc0 := 25) (pc' := 34) rfl (hb hby d2_25) rfl (XT.ii_ne_t (fun q => q1 q.symm)) (by decide) (by decide) k) ?_
  show own_go _ _ _ _ _ _ _ (T22.setTop (mkF m 34 #[.val (.int p1), .val (.ref r21), .val (.int (4 : Int32)), .val (.int (0 : Int32)), .val (.ref c_SHA_1)] []))
  refine own_st (fun _ k => XS.iinc X22.here hx rfl (hb hby d2_34) rfl (l' := #[.val (.int p1), .val (.ref r21), .val (.int (4 : Int32)), .val (.int (1 : Int32)), .val (.ref c_SHA_1)]) rfl k) ?_
  show own_go _ _ _ _ _ _ _ (T22.setTop (mkF m 37 #[.val (.int p1), .val (.ref r21), .val (.int (4 : Int32)), .val (.int (1 : Int32)), .val (.ref c_SHA_1)] []))
  refine own_st (fun _ k => XS.goto X22.here hx rfl (pc0 := 37) (pc' := 9) rfl (hb hby d2_37) (by decide) (by decide) k) ?_
  show own_go _ _ _ _ _ _ _ (T22.setTop (mkF m 9 #[.val (.int p1), .val (.ref r21), .val (.int (4 : Int32)), .val (.int (1 : Int32)), .val (.ref c_SHA_1)] []))
  refine own_st (fun _ k => XS.iloadN X22.here hx rfl (hb hby d2_9) rfl k) ?_
  show own_go _ _ _ _ _ _ _ (T22.setTop (mkF m 10 #[.val (.int p1), .val (.ref r21), .val (.int (4 : Int32)), .val (.int (1 : Int32)), .val (.ref c_SHA_1)] [(.int (1 : Int32))]))
  refine own_st (fun _ k => XS.iloadN X22.here hx rfl (hb hby d2_10) rfl k) ?_
  show own_go _ _ _ _ _ _ _ (T22.setTop (mkF m 11 #[.val (.int p1), .val (.ref r21), .val (.int (4 : Int32)), .val (.int (1 : Int32)), .val (.ref c_SHA_1)] [(.int (4 : Int32)), (.int (1 : Int32))]))
  refine own_st (fun _ k => XS.icmpNo X22.here hx rfl (hb hby d2_11) rfl (by decide) k) ?_
  show own_go _ _ _ _ _ _ _ (T22.setTop (mkF m 14 #[.val (.int p1), .val (.ref r21), .val (.int (4 : Int32)), .val (.int (1 : Int32)), .val (.ref c_SHA_1)] []))
  refine own_st (fun _ k => XS.aloadN X22.here hx rfl (hb hby d2_14) rfl rfl k) ?_
  show own_go _ _ _ _ _ _ _ (T22.setTop (mkF m 15 #[.val (.int p1), .val (.ref r21), .val (.int (4 : Int32)), .val (.int (1 : Int32)), .val (.ref c_SHA_1)] [(.ref r21)]))
  refine own_st (fun _ k => XS.iloadN X22.here hx rfl (hb hby d2_15) rfl k) ?_
  show own_go _ _ _ _ _ _ _ (T22.setTop (mkF m 16 #[.val (.int p1), .val (.ref r21), .val (.int (4 : Int32)), .val (.int (1 : Int32)), .val (.ref c_SHA_1)] [(.int (1 : Int32)), (.ref r21)]))
  refine own_st (own_get X22 hx hZ e22 V21 rfl (j := (1 : Int32)) (by decide) (v := (.ref c_SHA_256)) rfl (g := (mkF m 16 #[.val (.int p1), .val (.ref r21), .val (.int (4 : Int32)), .val (.int (1 : Int32)), .val (.ref c_SHA_1)] [(.int (1 : Int32)), (.ref r21)])) rfl rfl (hb hby d2_16)) ?_
  show own_go _ _ _ _ _ _ _ (T22.setTop (mkF m 17 #[.val (.int p1), .val (.ref r21), .val (.int (4 : Int32)), .val (.int (1 : Int32)), .val (.ref c_SHA_1)] [(.ref c_SHA_256)]))
  refine own_st (fun _ k => XS.astore X22.here hx rfl (hb hby d2_17) rfl rfl (l' := #[.val (.int p1), .val (.ref r21), .val (.int (4 : Int32)), .val (.int (1 : Int32)), .val (.ref c_SHA_256)]) rfl k) ?_
  show own_go _ _ _ _ _ _ _ (T22.setTop (mkF m 19 #[.val (.int p1), .val (.ref r21), .val (.int (4 : Int32)), .val (.int (1 : Int32)), .val (.ref c_SHA_256)] []))
  refine own_st (fun _ k => XS.aload X22.here hx rfl (hb hby d2_19) rfl rfl k) ?_
  show own_go _ _ _ _ _ _ _ (T22.setTop (mkF m 21 #[.val (.int p1), .val (.ref r21), .val (.int (4 : Int32)), .val (.int (1 : Int32)), .val (.ref c_SHA_256)] [(.ref c_SHA_256)]))
  obtain ⟨T23, X23, e23, st23⟩ := getF X22 hx hZ hown (host := "") (Or.inl (hw _ (List.mem_of_getElem? (i := 27) rfl))) Via.refl e22 (hS.2.2.2.2.2.2.2.2.2.2.2.1.ext O21.2) (g := (mkF m 21 #[.val (.int p1), .val (.ref r21), .val (.int (4 : Int32)), .val (.int (1 : Int32)), .val (.ref c_SHA_256)] [(.ref c_SHA_256)])) rfl rfl (hb hby d2_21)
  refine own_st st23 ?_
  show own_go _ _ _ _ _ _ _ (T23.setTop (mkF m 24 #[.val (.int p1), .val (.ref r21), .val (.int (4 : Int32)), .val (.int (1 : Int32)), .val (.ref c_SHA_256)] [(.int (2 : Int32))]))
  refine own_st (fun _ k => XS.iloadN X23.here hx rfl (hb hby d2_24) rfl k) ?_
  show own_go _ _ _ _ _ _ _ (T23.setTop (mkF m 25 #[.val (.int p1), .val (.ref r21), .val (.int (4 : Int32)), .val (.int (1 : Int32)), .val (.ref c_SHA_256)] [(.int p1), (.int (2 : Int32))]))
  refine own_st (fun _ k => XS.icmpYes X23.here hx rfl (pc0 := 25) (pc' := 34) rfl (hb hby d2_25) rfl (XT.ii_ne_t (fun q => q2 q.symm)) (by decide) (by decide) k) ?_
  show own_go _ _ _ _ _ _ _ (T23.setTop (mkF m 34 #[.val (.int p1), .val (.ref r21), .val (.int (4 : Int32)), .val (.int (1 : Int32)), .val (.ref c_SHA_256)] []))
  refine own_st (fun _ k => XS.iinc X23.here hx rfl (hb hby d2_34) rfl (l' := #[.val (.int p1), .val (.ref r21), .val (.int (4 : Int32)), .val (.int (2 : Int32)), .val (.ref c_SHA_256)]) rfl k) ?_
  show own_go _ _ _ _ _ _ _ (T23.setTop (mkF m 37 #[.val (.int p1), .val (.ref r21), .val (.int (4 : Int32)), .val (.int (2 : Int32)), .val (.ref c_SHA_256)] []))
  refine own_st (fun _ k => XS.goto X23.here hx rfl (pc0 := 37) (pc' := 9) rfl (hb hby d2_37) (by decide) (by decide) k) ?_
  show own_go _ _ _ _ _ _ _ (T23.setTop (mkF m 9 #[.val (.int p1), .val (.ref r21), .val (.int (4 : Int32)), .val (.int (2 : Int32)), .val (.ref c_SHA_256)] []))
  refine own_st (fun _ k => XS.iloadN X23.here hx rfl (hb hby d2_9) rfl k) ?_
  show own_go _ _ _ _ _ _ _ (T23.setTop (mkF m 10 #[.val (.int p1), .val (.ref r21), .val (.int (4 : Int32)), .val (.int (2 : Int32)), .val (.ref c_SHA_256)] [(.int (2 : Int32))]))
  refine own_st (fun _ k => XS.iloadN X23.here hx rfl (hb hby d2_10) rfl k) ?_
  show own_go _ _ _ _ _ _ _ (T23.setTop (mkF m 11 #[.val (.int p1), .val (.ref r21), .val (.int (4 : Int32)), .val (.int (2 : Int32)), .val (.ref c_SHA_256)] [(.int (4 : Int32)), (.int (2 : Int32))]))
  refine own_st (fun _ k => XS.icmpNo X23.here hx rfl (hb hby d2_11) rfl (by decide) k) ?_
  show own_go _ _ _ _ _ _ _ (T23.setTop (mkF m 14 #[.val (.int p1), .val (.ref r21), .val (.int (4 : Int32)), .val (.int (2 : Int32)), .val (.ref c_SHA_256)] []))
  refine own_st (fun _ k => XS.aloadN X23.here hx rfl (hb hby d2_14) rfl rfl k) ?_
  show own_go _ _ _ _ _ _ _ (T23.setTop (mkF m 15 #[.val (.int p1), .val (.ref r21), .val (.int (4 : Int32)), .val (.int (2 : Int32)), .val (.ref c_SHA_256)] [(.ref r21)]))
  refine own_st (fun _ k => XS.iloadN X23.here hx rfl (hb hby d2_15) rfl k) ?_
  show own_go _ _ _ _ _ _ _ (T23.setTop (mkF m 16 #[.val (.int p1), .val (.ref r21), .val (.int (4 : Int32)), .val (.int (2 : Int32)), .val (.ref c_SHA_256)] [(.int (2 : Int32)), (.ref r21)]))
  refine own_st (own_get X23 hx hZ e23 V21 rfl (j := (2 : Int32)) (by decide) (v := (.ref c_SHA_384)) rfl (g := (mkF m 16 #[.val (.int p1), .val (.ref r21), .val (.int (4 : Int32)), .val (.int (2 : Int32)), .val (.ref c_SHA_256)] [(.int (2 : Int32)), (.ref r21)])) rfl rfl (hb hby d2_16)) ?_
  show own_go _ _ _ _ _ _ _ (T23.setTop (mkF m 17 #[.val (.int p1), .val (.ref r21), .val (.int (4 : Int32)), .val (.int (2 : Int32)), .val (.ref c_SHA_256)] [(.ref c_SHA_384)]))
  refine own_st (fun _ k => XS.astore X23.here hx rfl (hb hby d2_17) rfl rfl (l' := #[.val (.int p1), .val (.ref r21), .val (.int (4 : Int32)), .val (.int (2 : Int32)), .val (.ref c_SHA_384)]) rfl k) ?_
  show own_go _ _ _ _ _ _ _ (T23.setTop (mkF m 19 #[.val (.int p1), .val (.ref r21), .val (.int (4 : Int32)), .val (.int (2 : Int32)), .val (.ref c_SHA_384)] []))
  refine own_st (fun _ k => XS.aload X23.here hx rfl (hb hby d2_19) rfl rfl k) ?_
  show own_go _ _ _ _ _ _ _ (T23.setTop (mkF m 21 #[.val (.int p1), .val (.ref r21), .val (.int (4 : Int32)), .val (.int (2 : Int32)), .val (.ref c_SHA_384)] [(.ref c_SHA_384)]))
  obtain ⟨T24, X24, e24, st24⟩ := getF X23 hx hZ hown (host := "") (Or.inl (hw _ (List.mem_of_getElem? (i := 27) rfl))) Via.refl e23 (hS.2.2.2.2.2.2.2.2.2.2.2.2.1.ext O21.2) (g := (mkF m 21 #[.val (.int p1), .val (.ref r21), .val (.int (4 : Int32)), .val (.int (2 : Int32)), .val (.ref c_SHA_384)] [(.ref c_SHA_384)])) rfl rfl (hb hby d2_21)
  refine own_st st24 ?_
  show own_go _ _ _ _ _ _ _ (T24.setTop (mkF m 24 #[.val (.int p1), .val (.ref r21), .val (.int (4 : Int32)), .val (.int (2 : Int32)), .val (.ref c_SHA_384)] [(.int (3 : Int32))]))
  refine own_st (fun _ k => XS.iloadN X24.here hx rfl (hb hby d2_24) rfl k) ?_
  show own_go _ _ _ _ _ _ _ (T24.setTop (mkF m 25 #[.val (.int p1), .val (.ref r21), .val (.int (4 : Int32)), .val (.int (2 : Int32)), .val (.ref c_SHA_384)] [(.int p1), (.int (3 : Int32))]))
  refine own_st (fun _ k => XS.icmpYes X24.here hx rfl (pc0 := 25) (pc' := 34) rfl (hb hby d2_25) rfl (XT.ii_ne_t (fun q => q3 q.symm)) (by decide) (by decide) k) ?_
  show own_go _ _ _ _ _ _ _ (T24.setTop (mkF m 34 #[.val (.int p1), .val (.ref r21), .val (.int (4 : Int32)), .val (.int (2 : Int32)), .val (.ref c_SHA_384)] []))
  refine own_st (fun _ k => XS.iinc X24.here hx rfl (hb hby d2_34) rfl (l' := #[.val (.int p1), .val (.ref r21), .val (.int (4 : Int32)), .val (.int (3 : Int32)), .val (.ref c_SHA_384)]) rfl k) ?_
  show own_go _ _ _ _ _ _ _ (T24.setTop (mkF m 37 #[.val (.int p1), .val (.ref r21), .val (.int (4 : Int32)), .val (.int (3 : Int32)), .val (.ref c_SHA_384)] []))
  refine own_st (fun _ k => XS.goto X24.here hx rfl (pc0 := 37) (pc' := 9) rfl (hb hby d2_37) (by decide) (by decide) k) ?_
  show own_go _ _ _ _ _ _ _ (T24.setTop (mkF m 9 #[.val (.int p1), .val (.ref r21), .val (.int (4 : Int32)), .val (.int (3 : Int32)), .val (.ref c_SHA_384)] []))
  refine own_st (fun _ k => XS.iloadN X24.here hx rfl (hb hby d2_9) rfl k) ?_
  show own_go _ _ _ _ _ _ _ (T24.setTop (mkF m 10 #[.val (.int p1), .val (.ref r21), .val (.int (4 : Int32)), .val (.int (3 : Int32)), .val (.ref c_SHA_384)] [(.int (3 : Int32))]))
  refine own_st (fun _ k => XS.iloadN X24.here hx rfl (hb hby d2_10) rfl k) ?_
  show own_go _ _ _ _ _ _ _ (T24.setTop (mkF m 11 #[.val (.int p1), .val (.ref r21), .val (.int (4 : Int32)), .val (.int (3 : Int32)), .val (.ref c_SHA_384)] [(.int (4 : Int32)), (.int (3 : Int32))]))
  refine own_st (fun _ k => XS.icmpNo X24.here hx rfl (hb hby d2_11) rfl (by decide) k) ?_
  show own_go _ _ _ _ _ _ _ (T24.setTop (mkF m 14 #[.val (.int p1), .val (.ref r21), .val (.int (4 : Int32)), .val (.int (3 : Int32)), .val (.ref c_SHA_384)] []))
  refine own_st (fun _ k => XS.aloadN X24.here hx rfl (hb hby d2_14) rfl rfl k) ?_
  show own_go _ _ _ _ _ _ _ (T24.setTop (mkF m 15 #[.val (.int p1), .val (.ref r21), .val (.int (4 : Int32)), .val (.int (3 : Int32)), .val (.ref c_SHA_384)] [(.ref r21)]))
  refine own_st (fun _ k => XS.iloadN X24.here hx rfl (hb hby d2_15) rfl k) ?_
  show own_go _ _ _ _ _ _ _ (T24.setTop (mkF m 16 #[.val (.int p1), .val (.ref r21), .val (.int (4 : Int32)), .val (.int (3 : Int32)), .val (.ref c_SHA_384)] [(.int (3 : Int32)), (.ref r21)]))
  refine own_st (own_get X24 hx hZ e24 V21 rfl (j := (3 : Int32)) (by decide) (v := (.ref c_SHA_512)) rfl (g := (mkF m 16 #[.val (.int p1), .val (.ref r21), .val (.int (4 : Int32)), .val (.int (3 : Int32)), .val (.ref c_SHA_384)] [(.int (3 : Int32)), (.ref r21)])) rfl rfl (hb hby d2_16)) ?_
  show own_go _ _ _ _ _ _ _ (T24.setTop (mkF m 17 #[.val (.int p1), .val (.ref r21), .val (.int (4 : Int32)), .val (.int (3 : Int32)), .val (.ref c_SHA_384)] [(.ref c_SHA_512)]))
  refine own_st (fun _ k => XS.astore X24.here hx rfl (hb hby d2_17) rfl rfl (l' := #[.val (.int p1), .val (.ref r21), .val (.int (4 : Int32)), .val (.int (3 : Int32)), .val (.ref c_SHA_512)]) rfl k) ?_
  show own_go _ _ _ _ _ _ _ (T24.setTop (mkF m 19 #[.val (.int p1), .val (.ref r21), .val (.int (4 : Int32)), .val (.int (3 : Int32)), .val (.ref c_SHA_512)] []))
  refine own_st (fun _ k => XS.aload X24.here hx rfl (hb hby d2_19) rfl rfl k) ?_
  show own_go _ _ _ _ _ _ _ (T24.setTop (mkF m 21 #[.val (.int p1), .val (.ref r21), .val (.int (4 : Int32)), .val (.int (3 : Int32)), .val (.ref c_SHA_512)] [(.ref c_SHA_512)]))
  obtain ⟨T25, X25, e25, st25⟩ := getF X24 hx hZ hown (host := "") (Or.inl (hw _ (List.mem_of_getElem? (i := 27) rfl))) Via.refl e24 (hS.2.2.2.2.2.2.2.2.2.2.2.2.2.1.ext O21.2) (g := (mkF m 21 #[.val (.int p1), .val (.ref r21), .val (.int (4 : Int32)), .val (.int (3 : Int32)), .val (.ref c_SHA_512)] [(.ref c_SHA_512)])) rfl rfl (hb hby d2_21)
  refine own_st st25 ?_
  show own_go _ _ _ _ _ _ _ (T25.setTop (mkF m 24 #[.val (.int p1), .val (.ref r21), .val (.int (4 : Int32)), .val (.int (3 : Int32)), .val (.ref c_SHA_512)] [(.int (4 : Int32))]))
  refine own_st (fun _ k => XS.iloadN X25.here hx rfl (hb hby d2_24) rfl k) ?_
  show own_go _ _ _ _ _ _ _ (T25.setTop (mkF m 25 #[.val (.int p1), .val (.ref r21), .val (.int (4 : Int32)), .val (.int (3 : Int32)), .val (.ref c_SHA_512)] [(.int p1), (.int (4 : Int32))]))
  refine own_st (fun _ k => XS.icmpYes X25.here hx rfl (pc0 := 25) (pc' := 34) rfl (hb hby d2_25) rfl (XT.ii_ne_t (fun q => q4 q.symm)) (by decide) (by decide) k) ?_
  show own_go _ _ _ _ _ _ _ (T25.setTop (mkF m 34 #[.val (.int p1), .val (.ref r21), .val (.int (4 : Int32)), .val (.int (3 : Int32)), .val (.ref c_SHA_512)] []))
  refine own_st (fun _ k => XS.iinc X25.here hx rfl (hb hby d2_34) rfl (l' := #[.val (.int p1), .val (.ref r21), .val (.int (4 : Int32)), .val (.int (4 : Int32)), .val (.ref c_SHA_512)]) rfl k) ?_
  show own_go _ _ _ _ _ _ _ (T25.setTop (mkF m 37 #[.val (.int p1), .val (.ref r21), .val (.int (4 : Int32)), .val (.int (4 : Int32)), .val (.ref c_SHA_512)] []))
  refine own_st (fun _ k => XS.goto X25.here hx rfl (pc0 := 37) (pc' := 9) rfl (hb hby d2_37) (by decide) (by decide) k) ?_
  show own_go _ _ _ _ _ _ _ (T25.setTop (mkF m 9 #[.val (.int p1), .val (.ref r21), .val (.int (4 : Int32)), .val (.int (4 : Int32)), .val (.ref c_SHA_512)] []))
  refine own_st (fun _ k => XS.iloadN X25.here hx rfl (hb hby d2_9) rfl k) ?_
  show own_go _ _ _ _ _ _ _ (T25.setTop (mkF m 10 #[.val (.int p1), .val (.ref r21), .val (.int (4 : Int32)), .val (.int (4 : Int32)), .val (.ref c_SHA_512)] [(.int (4 : Int32))]))
  refine own_st (fun _ k => XS.iloadN X25.here hx rfl (hb hby d2_10) rfl k) ?_
  show own_go _ _ _ _ _ _ _ (T25.setTop (mkF m 11 #[.val (.int p1), .val (.ref r21), .val (.int (4 : Int32)), .val (.int (4 : Int32)), .val (.ref c_SHA_512)] [(.int (4 : Int32)), (.int (4 : Int32))]))
  refine own_st (fun _ k => XS.icmpYes X25.here hx rfl (pc0 := 11) (pc' := 40) rfl (hb hby d2_11) rfl (by decide) (by decide) (by decide) k) ?_
  show own_go _ _ _ _ _ _ _ (T25.setTop (mkF m 40 #[.val (.int p1), .val (.ref r21), .val (.int (4 : Int32)), .val (.int (4 : Int32)), .val (.ref c_SHA_512)] []))
  obtain ⟨v26, T26, L26, X26, hQ26, st26⟩ := own_callS X25 hx hZ (argsL := []) (rest := []) (rmo_empty l Z a0 hw c__VALUES c_SHA_1 c_SHA_256 c_SHA_384 c_SHA_512 c_EMPTY T21.heap n0 O21 hS) hown (hw _ (List.mem_of_getElem? (i := 29) rfl)) (hw _ (List.mem_of_getElem? (i := 30) rfl)) (hw _ (List.mem_of_getElem? (i := 31) rfl)) (hw _ (List.mem_of_getElem? (i := 32) rfl)) (by decide) e25 (g := (mkF m 40 #[.val (.int p1), .val (.ref r21), .val (.int (4 : Int32)), .val (.int (4 : Int32)), .val (.ref c_SHA_512)] [])) rfl (by rw [hml]; rfl) (lenOf own_pd__28_29Ljava_2futil_2fOptional_3b rfl) rfl (W := 0) (by show 2 * 0 + _ ≤ _; exact Nat.le_of_eq rfl) (hb hby d2_40) (by decide) (by decide) (by decide) (by decide)
  obtain ⟨rfl, Nq26, eq26⟩ := hQ26
  have N26 := Fr.app N21 Nq26
  refine own_st st26 ?_
  show own_go _ _ _ _ _ _ _ (T26.setTop (mkF m 43 #[.val (.int p1), .val (.ref r21), .val (.int (4 : Int32)), .val (.int (4 : Int32)), .val (.ref c_SHA_512)] [(.ref c_EMPTY)]))
  exact own_retA X26 hx hlk hret rfl rfl (hb hby d2_43) (by decide) (by decide) (by rw [eq26]; exact ⟨rfl, N26, K21⟩)
theorem d2_28 : decode prog_29_method_4_code 28 = .ok (.aload 4, 2) := by decide +kernel
theorem d2_30 : decode prog_29_method_4_code 30 = .ok (.invokestatic 54, 3) := by decide +kernel
theorem d2_33 : decode prog_29_method_4_code 33 = .ok (.areturn, 1) := by decide +kernel
theorem own_pd__28Ljava_2flang_2fObject_3b_29Ljava_2futil_2fOptional_3b : parseMethodDescriptor "(Ljava/lang/Object;)Ljava/util/Optional;" = some ⟨[(.object "java/lang/Object")], some (.object "java/util/Optional")⟩ := by decide +kernel
theorem own_ef_rmb_1 (m : MethodId)  : entryFrame m #[(.int (1 : Int32))] 5 = mkF m 0 #[.val (.int (1 : Int32)), .unset, .unset, .unset, .unset] [] := by first | (simp [entryFrame, mkF, argsToLocals, Value.category]; done) | rfl
set_option maxRecDepth 65536 in
set_option maxHeartbeats 40000000 in
theorem rmb_1 (l : Launch) (Z : State) (a0 : Array Value) (hw : ∀ d ∈ tables_1, d.before a0 Z = true) (c__VALUES c_SHA_1 c_SHA_256 c_SHA_384 c_SHA_512 c_EMPTY : Addr) (h0 : Heap) (n0 : Nat) (O0 : Old Z n0 h0) (hS : own_S Z c__VALUES c_SHA_1 c_SHA_256 c_SHA_384 c_SHA_512 c_EMPTY) :
    own_Met l Z (⟨"com/example/watchword/watchword/model/SrpHash", "byId", "(B)Ljava/util/Optional;"⟩ : MethodName) prog_29_method_4_code 5 (some (.object "java/util/Optional")) [] ({ frames := 3, cells := 2, slots := 5, locals := 38 } : Room) #[(.int (1 : Int32))] h0 (fun v h L => ∃ a, v = some (.ref a) ∧ Fr n0 L ∧ Keep h0 h [] ∧ h0.size ≤ a ∧ Exa Z h a "java/util/Optional" ∧ Fld Z h a "java/util/Optional" "value" "Ljava/lang/Object;" (.ref c_SHA_1)) := by
  refine own_body own_pn_2 ?_
  intro p e s m below meth c s₁ hx hby hml hown hnm hret hlk X0 hZ e0
  replace hown : s.vm.findClass "com/example/watchword/watchword/model/SrpHash" = some m.cls := hown
  have N0 := Fr.nil n0
  have K0 := Keep.refl h0 []
  refine own_st (fun _ k => castTop (own_ef_rmb_1 m ) k) ?_
  show own_go _ _ _ _ _ _ _ (s₁.setTop (mkF m 0 #[.val (.int (1 : Int32)), .unset, .unset, .unset, .unset] []))
  obtain ⟨v27, T27, L27, X27, hQ27, st27⟩ := own_callS X0 hx hZ (argsL := []) (rest := []) (rmv l Z a0 hw c__VALUES c_SHA_1 c_SHA_256 c_SHA_384 c_SHA_512 c_EMPTY h0 n0 O0 hS) hown (hw _ (List.mem_of_getElem? (i := 8) rfl)) (hw _ (List.mem_of_getElem? (i := 9) rfl)) (hw _ (List.mem_of_getElem? (i := 6) rfl)) (hw _ (List.mem_of_getElem? (i := 10) rfl)) (by decide) e0 (g := (mkF m 0 #[.val (.int (1 : Int32)), .unset, .unset, .unset, .unset] [])) rfl (by rw [hml]; rfl) (lenOf own_pd__28_29_5bLcom_2fexample_2fwatchword_2fwatchword_2fmodel_2fSrpHash_3b rfl) rfl (W := 0) (by show 2 * 0 + _ ≤ _; exact Nat.le_of_eq rfl) (hb hby d2_0) (by decide) (by decide) (by decide) (by decide)
  obtain ⟨r27, rfl, Nq27, Kq27, sz27, k27, V27⟩ := hQ27
  have N27 := Fr.app N0 Nq27
  have O27 := O0.keep Kq27 all0
  have K27 := K0.trans Kq27 all0
  refine own_st st27 ?_
  show own_go _ _ _ _ _ _ _ (T27.setTop (mkF m 3 #[.val (.int (1 : Int32)), .unset, .unset, .unset, .unset] [(.ref r27)]))
  refine own_st (fun _ k => XS.astoreN X27.here hx rfl (hb hby d2_3) rfl rfl (l' := #[.val (.int (1 : Int32)), .val (.ref r27), .unset, .unset, .unset]) rfl k) ?_
  show own_go _ _ _ _ _ _ _ (T27.setTop (mkF m 4 #[.val (.int (1 : Int32)), .val (.ref r27), .unset, .unset, .unset] []))
  refine own_st (fun _ k => XS.aloadN X27.here hx rfl (hb hby d2_4) rfl rfl k) ?_
  show own_go _ _ _ _ _ _ _ (T27.setTop (mkF m 5 #[.val (.int (1 : Int32)), .val (.ref r27), .unset, .unset, .unset] [(.ref r27)]))
  refine own_st (own_len X27 hx hZ rfl V27 (g := (mkF m 5 #[.val (.int (1 : Int32)), .val (.ref r27), .unset, .unset, .unset] [(.ref r27)])) rfl rfl (hb hby d2_5)) ?_
  show own_go _ _ _ _ _ _ _ (T27.setTop (mkF m 6 #[.val (.int (1 : Int32)), .val (.ref r27), .unset, .unset, .unset] [(.int (4 : Int32))]))
  refine own_st (fun _ k => XS.istoreN X27.here hx rfl (hb hby d2_6) rfl (l' := #[.val (.int (1 : Int32)), .val (.ref r27), .val (.int (4 : Int32)), .unset, .unset]) rfl k) ?_
  show own_go _ _ _ _ _ _ _ (T27.setTop (mkF m 7 #[.val (.int (1 : Int32)), .val (.ref r27), .val (.int (4 : Int32)), .unset, .unset] []))
  refine own_st (fun _ k => XS.iconst X27.here hx rfl (hb hby d2_7) k) ?_
  show own_go _ _ _ _ _ _ _ (T27.setTop (mkF m 8 #[.val (.int (1 : Int32)), .val (.ref r27), .val (.int (4 : Int32)), .unset, .unset] [(.int (0 : Int32))]))
  refine own_st (fun _ k => XS.istoreN X27.here hx rfl (hb hby d2_8) rfl (l' := #[.val (.int (1 : Int32)), .val (.ref r27), .val (.int (4 : Int32)), .val (.int (0 : Int32)), .unset]) rfl k) ?_
  show own_go _ _ _ _ _ _ _ (T27.setTop (mkF m 9 #[.val (.int (1 : Int32)), .val (.ref r27), .val (.int (4 : Int32)), .val (.int (0 : Int32)), .unset] []))
  refine own_st (fun _ k => XS.iloadN X27.here hx rfl (hb hby d2_9) rfl k) ?_
  show own_go _ _ _ _ _ _ _ (T27.setTop (mkF m 10 #[.val (.int (1 : Int32)), .val (.ref r27), .val (.int (4 : Int32)), .val (.int (0 : Int32)), .unset] [(.int (0 : Int32))]))
  refine own_st (fun _ k => XS.iloadN X27.here hx rfl (hb hby d2_10) rfl k) ?_
  show own_go _ _ _ _ _ _ _ (T27.setTop (mkF m 11 #[.val (.int (1 : Int32)), .val (.ref r27), .val (.int (4 : Int32)), .val (.int (0 : Int32)), .unset] [(.int (4 : Int32)), (.int (0 : Int32))]))
  refine own_st (fun _ k => XS.icmpNo X27.here hx rfl (hb hby d2_11) rfl (by decide) k) ?_
  show own_go _ _ _ _ _ _ _ (T27.setTop (mkF m 14 #[.val (.int (1 : Int32)), .val (.ref r27), .val (.int (4 : Int32)), .val (.int (0 : Int32)), .unset] []))
  refine own_st (fun _ k => XS.aloadN X27.here hx rfl (hb hby d2_14) rfl rfl k) ?_
  show own_go _ _ _ _ _ _ _ (T27.setTop (mkF m 15 #[.val (.int (1 : Int32)), .val (.ref r27), .val (.int (4 : Int32)), .val (.int (0 : Int32)), .unset] [(.ref r27)]))
  refine own_st (fun _ k => XS.iloadN X27.here hx rfl (hb hby d2_15) rfl k) ?_
  show own_go _ _ _ _ _ _ _ (T27.setTop (mkF m 16 #[.val (.int (1 : Int32)), .val (.ref r27), .val (.int (4 : Int32)), .val (.int (0 : Int32)), .unset] [(.int (0 : Int32)), (.ref r27)]))
  refine own_st (own_get X27 hx hZ rfl V27 rfl (j := (0 : Int32)) (by decide) (v := (.ref c_SHA_1)) rfl (g := (mkF m 16 #[.val (.int (1 : Int32)), .val (.ref r27), .val (.int (4 : Int32)), .val (.int (0 : Int32)), .unset] [(.int (0 : Int32)), (.ref r27)])) rfl rfl (hb hby d2_16)) ?_
  show own_go _ _ _ _ _ _ _ (T27.setTop (mkF m 17 #[.val (.int (1 : Int32)), .val (.ref r27), .val (.int (4 : Int32)), .val (.int (0 : Int32)), .unset] [(.ref c_SHA_1)]))
  refine own_st (fun _ k => XS.astore X27.here hx rfl (hb hby d2_17) rfl rfl (l' := #[.val (.int (1 : Int32)), .val (.ref r27), .val (.int (4 : Int32)), .val (.int (0 : Int32)), .val (.ref c_SHA_1)]) rfl k) ?_
  show own_go _ _ _ _ _ _ _ (T27.setTop (mkF m 19 #[.val (.int (1 : Int32)), .val (.ref r27), .val (.int (4 : Int32)), .val (.int (0 : Int32)), .val (.ref c_SHA_1)] []))
  refine own_st (fun _ k => XS.aload X27.here hx rfl (hb hby d2_19) rfl rfl k) ?_
  show own_go _ _ _ _ _ _ _ (T27.setTop (mkF m 21 #[.val (.int (1 : Int32)), .val (.ref r27), .val (.int (4 : Int32)), .val (.int (0 : Int32)), .val (.ref c_SHA_1)] [(.ref c_SHA_1)]))
  obtain ⟨T28, X28, e28, st28⟩ := getF X27 hx hZ hown (host := "") (Or.inl (hw _ (List.mem_of_getElem? (i := 27) rfl))) Via.refl rfl (hS.2.2.2.2.2.2.2.2.2.2.1.ext O27.2) (g := (mkF m 21 #[.val (.int (1 : Int32)), .val (.ref r27), .val (.int (4 : Int32)), .val (.int (0 : Int32)), .val (.ref c_SHA_1)] [(.ref c_SHA_1)])) rfl rfl (hb hby d2_21)
  refine own_st st28 ?_
  show own_go _ _ _ _ _ _ _ (T28.setTop (mkF m 24 #[.val (.int (1 : Int32)), .val (.ref r27), .val (.int (4 : Int32)), .val (.int (0 : Int32)), .val (.ref c_SHA_1)] [(.int (1 : Int32))]))
  refine own_st (fun _ k => XS.iloadN X28.here hx rfl (hb hby d2_24) rfl k) ?_
  show own_go _ _ _ _ _ _ _ (T28.setTop (mkF m 25 #[.val (.int (1 : Int32)), .val (.ref r27), .val (.int (4 : Int32)), .val (.int (0 : Int32)), .val (.ref c_SHA_1)] [(.int (1 : Int32)), (.int (1 : Int32))]))
  refine own_st (fun _ k => XS.icmpNo X28.here hx rfl (hb hby d2_25) rfl (by decide) k) ?_
  show own_go _ _ _ _ _ _ _ (T28.setTop (mkF m 28 #[.val (.int (1 : Int32)), .val (.ref r27), .val (.int (4 : Int32)), .val (.int (0 : Int32)), .val (.ref c_SHA_1)] []))
  refine own_st (fun _ k => XS.aload X28.here hx rfl (hb hby d2_28) rfl rfl k) ?_
  show own_go _ _ _ _ _ _ _ (T28.setTop (mkF m 30 #[.val (.int (1 : Int32)), .val (.ref r27), .val (.int (4 : Int32)), .val (.int (0 : Int32)), .val (.ref c_SHA_1)] [(.ref c_SHA_1)]))
  obtain ⟨v29, T29, L29, X29, hQ29, st29⟩ := own_callS X28 hx hZ (argsL := [(.ref c_SHA_1)]) (rest := []) (rmo_of l Z a0 hw c_SHA_1 T27.heap n0 O27) hown (hw _ (List.mem_of_getElem? (i := 42) rfl)) (hw _ (List.mem_of_getElem? (i := 43) rfl)) (hw _ (List.mem_of_getElem? (i := 31) rfl)) (hw _ (List.mem_of_getElem? (i := 44) rfl)) (by decide) e28 (g := (mkF m 30 #[.val (.int (1 : Int32)), .val (.ref r27), .val (.int (4 : Int32)), .val (.int (0 : Int32)), .val (.ref c_SHA_1)] [(.ref c_SHA_1)])) rfl (by rw [hml]; rfl) (lenOf own_pd__28Ljava_2flang_2fObject_3b_29Ljava_2futil_2fOptional_3b rfl) rfl (W := 0) (by show 2 * 0 + _ ≤ _; exact Nat.le_of_eq rfl) (hb hby d2_30) (by decide) (by decide) (by decide) (by decide)
  obtain ⟨r29, rfl, Nq29, Kq29, sz29, A29, F29_0⟩ := hQ29
  have N29 := Fr.app N27 Nq29
  have ne_r27_r29 : r27 ≠ r29 := (Nat.ne_of_lt (Nat.lt_of_lt_of_le V27.lt sz29))
  have O29 := O27.keep Kq29 all0
  have K29 := K27.trans Kq29 all0
  refine own_st st29 ?_
  show own_go _ _ _ _ _ _ _ (T29.setTop (mkF m 33 #[.val (.int (1 : Int32)), .val (.ref r27), .val (.int (4 : Int32)), .val (.int (0 : Int32)), .val (.ref c_SHA_1)] [(.ref r29)]))
  exact own_retA X29 hx hlk hret rfl rfl (hb hby d2_33) (by decide) (by decide) ⟨_, rfl, N29, K29, (Nat.le_trans K27.1 sz29), A29, F29_0⟩
theorem own_ef_rmb_2 (m : MethodId)  : entryFrame m #[(.int (2 : Int32))] 5 = mkF m 0 #[.val (.int (2 : Int32)), .unset, .unset, .unset, .unset] [] := by first | (simp [entryFrame, mkF, argsToLocals, Value.category]; done) | rfl
set_option maxRecDepth 65536 in
set_option maxHeartbeats 40000000 in
theorem rmb_2 (l : Launch) (Z : State) (a0 : Array Value) (hw : ∀ d ∈ tables_1, d.before a0 Z = true) (c__VALUES c_SHA_1 c_SHA_256 c_SHA_384 c_SHA_512 c_EMPTY : Addr) (h0 : Heap) (n0 : Nat) (O0 : Old Z n0 h0) (hS : own_S Z c__VALUES c_SHA_1 c_SHA_256 c_SHA_384 c_SHA_512 c_EMPTY) :
    own_Met l Z (⟨"com/example/watchword/watchword/model/SrpHash", "byId", "(B)Ljava/util/Optional;"⟩ : MethodName) prog_29_method_4_code 5 (some (.object "java/util/Optional")) [] ({ frames := 3, cells := 2, slots := 5, locals := 38 } : Room) #[(.int (2 : Int32))] h0 (fun v h L => ∃ a, v = some (.ref a) ∧ Fr n0 L ∧ Keep h0 h [] ∧ h0.size ≤ a ∧ Exa Z h a "java/util/Optional" ∧ Fld Z h a "java/util/Optional" "value" "Ljava/lang/Object;" (.ref c_SHA_256)) := by
  refine own_body own_pn_2 ?_
  intro p e s m below meth c s₁ hx hby hml hown hnm hret hlk X0 hZ e0
  replace hown : s.vm.findClass "com/example/watchword/watchword/model/SrpHash" = some m.cls := hown
  have N0 := Fr.nil n0
  have K0 := Keep.refl h0 []
  refine own_st (fun _ k => castTop (own_ef_rmb_2 m ) k) ?_
  show own_go _ _ _ _ _ _ _ (s₁.setTop (mkF m 0 #[.val (.int (2 : Int32)), .unset, .unset, .unset, .unset] []))
  obtain ⟨v30, T30, L30, X30, hQ30, st30⟩ := own_callS X0 hx hZ (argsL := []) (rest := []) (rmv l Z a0 hw c__VALUES c_SHA_1 c_SHA_256 c_SHA_384 c_SHA_512 c_EMPTY h0 n0 O0 hS) hown (hw _ (List.mem_of_getElem? (i := 8) rfl)) (hw _ (List.mem_of_getElem? (i := 9) rfl)) (hw _ (List.mem_of_getElem? (i := 6) rfl)) (hw _ (List.mem_of_getElem? (i := 10) rfl)) (by decide) e0 (g := (mkF m 0 #[.val (.int (2 : Int32)), .unset, .unset, .unset, .unset] [])) rfl (by rw [hml]; rfl) (lenOf own_pd__28_29_5bLcom_2fexample_2fwatchword_2fwatchword_2fmodel_2fSrpHash_3b rfl) rfl (W := 0) (by show 2 * 0 + _ ≤ _; exact Nat.le_of_eq rfl) (hb hby d2_0) (by decide) (by decide) (by decide) (by decide)
  obtain ⟨r30, rfl, Nq30, Kq30, sz30, k30, V30⟩ := hQ30
  have N30 := Fr.app N0 Nq30
  have O30 := O0.keep Kq30 all0
  have K30 := K0.trans Kq30 all0
  refine own_st st30 ?_
  show own_go _ _ _ _ _ _ _ (T30.setTop (mkF m 3 #[.val (.int (2 : Int32)), .unset, .unset, .unset, .unset] [(.ref r30)]))
  refine own_st (fun _ k => XS.astoreN X30.here hx rfl (hb hby d2_3) rfl rfl (l' := #[.val (.int (2 : Int32)), .val (.ref r30), .unset, .unset, .unset]) rfl k) ?_
  show own_go _ _ _ _ _ _ _ (T30.setTop (mkF m 4 #[.val (.int (2 : Int32)), .val (.ref r30), .unset, .unset, .unset] []))
  refine own_st (fun _ k => XS.aloadN X30.here hx rfl (hb hby d2_4) rfl rfl k) ?_
  show own_go _ _ _ _ _ _ _ (T30.setTop (mkF m 5 #[.val (.int (2 : Int32)), .val (.ref r30), .unset, .unset, .unset] [(.ref r30)]))
  refine own_st (own_len X30 hx hZ rfl V30 (g := (mkF m 5 #[.val (.int (2 : Int32)), .val (.ref r30), .unset, .unset, .unset] [(.ref r30)])) rfl rfl (hb hby d2_5)) ?_
  show own_go _ _ _ _ _ _ _ (T30.setTop (mkF m 6 #[.val (.int (2 : Int32)), .val (.ref r30), .unset, .unset, .unset] [(.int (4 : Int32))]))
  refine own_st (fun _ k => XS.istoreN X30.here hx rfl (hb hby d2_6) rfl (l' := #[.val (.int (2 : Int32)), .val (.ref r30), .val (.int (4 : Int32)), .unset, .unset]) rfl k) ?_
  show own_go _ _ _ _ _ _ _ (T30.setTop (mkF m 7 #[.val (.int (2 : Int32)), .val (.ref r30), .val (.int (4 : Int32)), .unset, .unset] []))
  refine own_st (fun _ k => XS.iconst X30.here hx rfl (hb hby d2_7) k) ?_
  show own_go _ _ _ _ _ _ _ (T30.setTop (mkF m 8 #[.val (.int (2 : Int32)), .val (.ref r30), .val (.int (4 : Int32)), .unset, .unset] [(.int (0 : Int32))]))
  refine own_st (fun _ k => XS.istoreN X30.here hx rfl (hb hby d2_8) rfl (l' := #[.val (.int (2 : Int32)), .val (.ref r30), .val (.int (4 : Int32)), .val (.int (0 : Int32)), .unset]) rfl k) ?_
  show own_go _ _ _ _ _ _ _ (T30.setTop (mkF m 9 #[.val (.int (2 : Int32)), .val (.ref r30), .val (.int (4 : Int32)), .val (.int (0 : Int32)), .unset] []))
  refine own_st (fun _ k => XS.iloadN X30.here hx rfl (hb hby d2_9) rfl k) ?_
  show own_go _ _ _ _ _ _ _ (T30.setTop (mkF m 10 #[.val (.int (2 : Int32)), .val (.ref r30), .val (.int (4 : Int32)), .val (.int (0 : Int32)), .unset] [(.int (0 : Int32))]))
  refine own_st (fun _ k => XS.iloadN X30.here hx rfl (hb hby d2_10) rfl k) ?_
  show own_go _ _ _ _ _ _ _ (T30.setTop (mkF m 11 #[.val (.int (2 : Int32)), .val (.ref r30), .val (.int (4 : Int32)), .val (.int (0 : Int32)), .unset] [(.int (4 : Int32)), (.int (0 : Int32))]))
  refine own_st (fun _ k => XS.icmpNo X30.here hx rfl (hb hby d2_11) rfl (by decide) k) ?_
  show own_go _ _ _ _ _ _ _ (T30.setTop (mkF m 14 #[.val (.int (2 : Int32)), .val (.ref r30), .val (.int (4 : Int32)), .val (.int (0 : Int32)), .unset] []))
  refine own_st (fun _ k => XS.aloadN X30.here hx rfl (hb hby d2_14) rfl rfl k) ?_
  show own_go _ _ _ _ _ _ _ (T30.setTop (mkF m 15 #[.val (.int (2 : Int32)), .val (.ref r30), .val (.int (4 : Int32)), .val (.int (0 : Int32)), .unset] [(.ref r30)]))
  refine own_st (fun _ k => XS.iloadN X30.here hx rfl (hb hby d2_15) rfl k) ?_
  show own_go _ _ _ _ _ _ _ (T30.setTop (mkF m 16 #[.val (.int (2 : Int32)), .val (.ref r30), .val (.int (4 : Int32)), .val (.int (0 : Int32)), .unset] [(.int (0 : Int32)), (.ref r30)]))
  refine own_st (own_get X30 hx hZ rfl V30 rfl (j := (0 : Int32)) (by decide) (v := (.ref c_SHA_1)) rfl (g := (mkF m 16 #[.val (.int (2 : Int32)), .val (.ref r30), .val (.int (4 : Int32)), .val (.int (0 : Int32)), .unset] [(.int (0 : Int32)), (.ref r30)])) rfl rfl (hb hby d2_16)) ?_
  show own_go _ _ _ _ _ _ _ (T30.setTop (mkF m 17 #[.val (.int (2 : Int32)), .val (.ref r30), .val (.int (4 : Int32)), .val (.int (0 : Int32)), .unset] [(.ref c_SHA_1)]))
  refine own_st (fun _ k => XS.astore X30.here hx rfl (hb hby d2_17) rfl rfl (l' := #[.val (.int (2 : Int32)), .val (.ref r30), .val (.int (4 : Int32)), .val (.int (0 : Int32)), .val (.ref c_SHA_1)]) rfl k) ?_
  show own_go _ _ _ _ _ _ _ (T30.setTop (mkF m 19 #[.val (.int (2 : Int32)), .val (.ref r30), .val (.int (4 : Int32)), .val (.int (0 : Int32)), .val (.ref c_SHA_1)] []))
  refine own_st (fun _ k => XS.aload X30.here hx rfl (hb hby d2_19) rfl rfl k) ?_
  show own_go _ _ _ _ _ _ _ (T30.setTop (mkF m 21 #[.val (.int (2 : Int32)), .val (.ref r30), .val (.int (4 : Int32)), .val (.int (0 : Int32)), .val (.ref c_SHA_1)] [(.ref c_SHA_1)]))
  obtain ⟨T31, X31, e31, st31⟩ := getF X30 hx hZ hown (host := "") (Or.inl (hw _ (List.mem_of_getElem? (i := 27) rfl))) Via.refl rfl (hS.2.2.2.2.2.2.2.2.2.2.1.ext O30.2) (g := (mkF m 21 #[.val (.int (2 : Int32)), .val (.ref r30), .val (.int (4 : Int32)), .val (.int (0 : Int32)), .val (.ref c_SHA_1)] [(.ref c_SHA_1)])) rfl rfl (hb hby d2_21)
  refine own_st st31 ?_
  show own_go _ _ _ _ _ _ _ (T31.setTop (mkF m 24 #[.val (.int (2 : Int32)), .val (.ref r30), .val (.int (4 : Int32)), .val (.int (0 : Int32)), .val (.ref c_SHA_1)] [(.int (1 : Int32))]))
  refine own_st (fun _ k => XS.iloadN X31.here hx rfl (hb hby d2_24) rfl k) ?_
  show own_go _ _ _ _ _ _ _ (T31.setTop (mkF m 25 #[.val (.int (2 : Int32)), .val (.ref r30), .val (.int (4 : Int32)), .val (.int (0 : Int32)), .val (.ref c_SHA_1)] [(.int (2 : Int32)), (.int (1 : Int32))]))
  refine own_st (fun _ k => XS.icmpYes X31.here hx rfl (pc0 := 25) (pc' := 34) rfl (hb hby d2_25) rfl (by decide) (by decide) (by decide) k) ?_
  show own_go _ _ _ _ _ _ _ (T31.setTop (mkF m 34 #[.val (.int (2 : Int32)), .val (.ref r30), .val (.int (4 : Int32)), .val (.int (0 : Int32)), .val (.ref c_SHA_1)] []))
  refine own_st (fun _ k => XS.iinc X31.here hx rfl (hb hby d2_34) rfl (l' := #[.val (.int (2 : Int32)), .val (.ref r30), .val (.int (4 : Int32)), .val (.int (1 : Int32)), .val (.ref c_SHA_1)]) rfl k) ?_
  show own_go _ _ _ _ _ _ _ (T31.setTop (mkF m 37 #[.val (.int (2 : Int32)), .val (.ref r30), .val (.int (4 : Int32)), .val (.int (1 : Int32)), .val (.ref c_SHA_1)] []))
  refine own_st (fun _ k => XS.goto X31.here hx rfl (pc0 := 37) (pc' := 9) rfl (hb hby d2_37) (by decide) (by decide) k) ?_
  show own_go _ _ _ _ _ _ _ (T31.setTop (mkF m 9 #[.val (.int (2 : Int32)), .val (.ref r30), .val (.int (4 : Int32)), .val (.int (1 : Int32)), .val (.ref c_SHA_1)] []))
  refine own_st (fun _ k => XS.iloadN X31.here hx rfl (hb hby d2_9) rfl k) ?_
  show own_go _ _ _ _ _ _ _ (T31.setTop (mkF m 10 #[.val (.int (2 : Int32)), .val (.ref r30), .val (.int (4 : Int32)), .val (.int (1 : Int32)), .val (.ref c_SHA_1)] [(.int (1 : Int32))]))
  refine own_st (fun _ k => XS.iloadN X31.here hx rfl (hb hby d2_10) rfl k) ?_
  show own_go _ _ _ _ _ _ _ (T31.setTop (mkF m 11 #[.val (.int (2 : Int32)), .val (.ref r30), .val (.int (4 : Int32)), .val (.int (1 : Int32)), .val (.ref c_SHA_1)] [(.int (4 : Int32)), (.int (1 : Int32))]))
  refine own_st (fun _ k => XS.icmpNo X31.here hx rfl (hb hby d2_11) rfl (by decide) k) ?_
  show own_go _ _ _ _ _ _ _ (T31.setTop (mkF m 14 #[.val (.int (2 : Int32)), .val (.ref r30), .val (.int (4 : Int32)), .val (.int (1 : Int32)), .val (.ref c_SHA_1)] []))
  refine own_st (fun _ k => XS.aloadN X31.here hx rfl (hb hby d2_14) rfl rfl k) ?_
  show own_go _ _ _ _ _ _ _ (T31.setTop (mkF m 15 #[.val (.int (2 : Int32)), .val (.ref r30), .val (.int (4 : Int32)), .val (.int (1 : Int32)), .val (.ref c_SHA_1)] [(.ref r30)]))
  refine own_st (fun _ k => XS.iloadN X31.here hx rfl (hb hby d2_15) rfl k) ?_
  show own_go _ _ _ _ _ _ _ (T31.setTop (mkF m 16 #[.val (.int (2 : Int32)), .val (.ref r30), .val (.int (4 : Int32)), .val (.int (1 : Int32)), .val (.ref c_SHA_1)] [(.int (1 : Int32)), (.ref r30)]))
  refine own_st (own_get X31 hx hZ e31 V30 rfl (j := (1 : Int32)) (by decide) (v := (.ref c_SHA_256)) rfl (g := (mkF m 16 #[.val (.int (2 : Int32)), .val (.ref r30), .val (.int (4 : Int32)), .val (.int (1 : Int32)), .val (.ref c_SHA_1)] [(.int (1 : Int32)), (.ref r30)])) rfl rfl (hb hby d2_16)) ?_
  show own_go _ _ _ _ _ _ _ (T31.setTop (mkF m 17 #[.val (.int (2 : Int32)), .val (.ref r30), .val (.int (4 : Int32)), .val (.int (1 : Int32)), .val (.ref c_SHA_1)] [(.ref c_SHA_256)]))
  refine own_st (fun _ k => XS.astore X31.here hx rfl (hb hby d2_17) rfl rfl (l' := #[.val (.int (2 : Int32)), .val (.ref r30), .val (.int (4 : Int32)), .val (.int (1 : Int32)), .val (.ref c_SHA_256)]) rfl k) ?_
  show own_go _ _ _ _ _ _ _ (T31.setTop (mkF m 19 #[.val (.int (2 : Int32)), .val (.ref r30), .val (.int (4 : Int32)), .val (.int (1 : Int32)), .val (.ref c_SHA_256)] []))
  refine own_st (fun _ k => XS.aload X31.here hx rfl (hb hby d2_19) rfl rfl k) ?_
  show own_go _ _ _ _ _ _ _ (T31.setTop (mkF m 21 #[.val (.int (2 : Int32)), .val (.ref r30), .val (.int (4 : Int32)), .val (.int (1 : Int32)), .val (.ref c_SHA_256)] [(.ref c_SHA_256)]))
  obtain ⟨T32, X32, e32, st32⟩ := getF X31 hx hZ hown (host := "") (Or.inl (hw _ (List.mem_of_getElem? (i := 27) rfl))) Via.refl e31 (hS.2.2.2.2.2.2.2.2.2.2.2.1.ext O30.2) (g := (mkF m 21 #[.val (.int (2 : Int32)), .val (.ref r30), .val (.int (4 : Int32)), .val (.int (1 : Int32)), .val (.ref c_SHA_256)] [(.ref c_SHA_256)])) rfl rfl (hb hby d2_21)
  refine own_st st32 ?_
  show own_go _ _ _ _ _ _ _ (T32.setTop (mkF m 24 #[.val (.int (2 : Int32)), .val (.ref r30), .val (.int (4 : Int32)), .val (.int (1 : Int32)), .val (.ref c_SHA_256)] [(.int (2 : Int32))]))
  refine own_st (fun _ k => XS.iloadN X32.here hx rfl (hb hby d2_24) rfl k) ?_
  show own_go _ _ _ _ _ _ _ (T32.setTop (mkF m 25 #[.val (.int (2 : Int32)), .val (.ref r30), .val (.int (4 : Int32)), .val (.int (1 : Int32)), .val (.ref c_SHA_256)] [(.int (2 : Int32)), (.int (2 : Int32))]))
  refine own_st (fun _ k => XS.icmpNo X32.here hx rfl (hb hby d2_25) rfl (by decide) k) ?_
  show own_go _ _ _ _ _ _ _ (T32.setTop (mkF m 28 #[.val (.int (2 : Int32)), .val (.ref r30), .val (.int (4 : Int32)), .val (.int (1 : Int32)), .val (.ref c_SHA_256)] []))
  refine own_st (fun _ k => XS.aload X32.here hx rfl (hb hby d2_28) rfl rfl k) ?_
  show own_go _ _ _ _ _ _ _ (T32.setTop (mkF m 30 #[.val (.int (2 : Int32)), .val (.ref r30), .val (.int (4 : Int32)), .val (.int (1 : Int32)), .val (.ref c_SHA_256)] [(.ref c_SHA_256)]))
  obtain ⟨v33, T33, L33, X33, hQ33, st33⟩ := own_callS X32 hx hZ (argsL := [(.ref c_SHA_256)]) (rest := []) (rmo_of l Z a0 hw c_SHA_256 T30.heap n0 O30) hown (hw _ (List.mem_of_getElem? (i := 42) rfl)) (hw _ (List.mem_of_getElem? (i := 43) rfl)) (hw _ (List.mem_of_getElem? (i := 31) rfl)) (hw _ (List.mem_of_getElem? (i := 44) rfl)) (by decide) e32 (g := (mkF m 30 #[.val (.int (2 : Int32)), .val (.ref r30), .val (.int (4 : Int32)), .val (.int (1 : Int32)), .val (.ref c_SHA_256)] [(.ref c_SHA_256)])) rfl (by rw [hml]; rfl) (lenOf own_pd__28Ljava_2flang_2fObject_3b_29Ljava_2futil_2fOptional_3b rfl) rfl (W := 0) (by show 2 * 0 + _ ≤ _; exact Nat.le_of_eq rfl) (hb hby d2_30) (by decide) (by decide) (by decide) (by decide)
  obtain ⟨r33, rfl, Nq33, Kq33, sz33, A33, F33_0⟩ := hQ33
  have N33 := Fr.app N30 Nq33
  have ne_r30_r33 : r30 ≠ r33 := (Nat.ne_of_lt (Nat.lt_of_lt_of_le V30.lt sz33))
  have O33 := O30.keep Kq33 all0
  have K33 := K30.trans Kq33 all0
  refine own_st st33 ?_
  show own_go _ _ _ _ _ _ _ (T33.setTop (mkF m 33 #[.val (.int (2 : Int32)), .val (.ref r30), .val (.int (4 : Int32)), .val (.int (1 : Int32)), .val (.ref c_SHA_256)] [(.ref r33)]))
  exact own_retA X33 hx hlk hret rfl rfl (hb hby d2_33) (by decide) (by decide) ⟨_, rfl, N33, K33, (Nat.le_trans K30.1 sz33), A33, F33_0⟩
theorem own_ef_rmb_3 (m : MethodId)  : entryFrame m #[(.int (3 : Int32))] 5 = mkF m 0 #[.val (.int (3 : Int32)), .unset, .unset, .unset, .unset] [] := by first | (simp [entryFrame, mkF, argsToLocals, Value.category]; done) | rfl
set_option maxRecDepth 65536 in
set_option maxHeartbeats 40000000 in
theorem rmb_3 (l : Launch) (Z : State) (a0 : Array Value) (hw : ∀ d ∈ tables_1, d.before a0 Z = true) (c__VALUES c_SHA_1 c_SHA_256 c_SHA_384 c_SHA_512 c_EMPTY : Addr) (h0 : Heap) (n0 : Nat) (O0 : Old Z n0 h0) (hS : own_S Z c__VALUES c_SHA_1 c_SHA_256 c_SHA_384 c_SHA_512 c_EMPTY) :
    own_Met l Z (⟨"com/example/watchword/watchword/model/SrpHash", "byId", "(B)Ljava/util/Optional;"⟩ : MethodName) prog_29_method_4_code 5 (some (.object "java/util/Optional")) [] ({ frames := 3, cells := 2, slots := 5, locals := 38 } : Room) #[(.int (3 : Int32))] h0 (fun v h L => ∃ a, v = some (.ref a) ∧ Fr n0 L ∧ Keep h0 h [] ∧ h0.size ≤ a ∧ Exa Z h a "java/util/Optional" ∧ Fld Z h a "java/util/Optional" "value" "Ljava/lang/Object;" (.ref c_SHA_384)) := by
  refine own_body own_pn_2 ?_
  intro p e s m below meth c s₁ hx hby hml hown hnm hret hlk X0 hZ e0
  replace hown : s.vm.findClass "com/example/watchword/watchword/model/SrpHash" = some m.cls := hown
  have N0 := Fr.nil n0
  have K0 := Keep.refl h0 []
  refine own_st (fun _ k => castTop (own_ef_rmb_3 m ) k) ?_
  show own_go _ _ _ _ _ _ _ (s₁.setTop (mkF m 0 #[.val (.int (3 : Int32)), .unset, .unset, .unset, .unset] []))
  obtain ⟨v34, T34, L34, X34, hQ34, st34⟩ := own_callS X0 hx hZ (argsL := []) (rest := []) (rmv l Z a0 hw c__VALUES c_SHA_1 c_SHA_256 c_SHA_384 c_SHA_512 c_EMPTY h0 n0 O0 hS) hown (hw _ (List.mem_of_getElem? (i := 8) rfl)) (hw _ (List.mem_of_getElem? (i := 9) rfl)) (hw _ (List.mem_of_getElem? (i := 6) rfl)) (hw _ (List.mem_of_getElem? (i := 10) rfl)) (by decide) e0 (g := (mkF m 0 #[.val (.int (3 : Int32)), .unset, .unset, .unset, .unset] [])) rfl (by rw [hml]; rfl) (lenOf own_pd__28_29_5bLcom_2fexample_2fwatchword_2fwatchword_2fmodel_2fSrpHash_3b rfl) rfl (W := 0) (by show 2 * 0 + _ ≤ _; exact Nat.le_of_eq rfl) (hb hby d2_0) (by decide) (by decide) (by decide) (by decide)
  obtain ⟨r34, rfl, Nq34, Kq34, sz34, k34, V34⟩ := hQ34
  have N34 := Fr.app N0 Nq34
  have O34 := O0.keep Kq34 all0
  have K34 := K0.trans Kq34 all0
  refine own_st st34 ?_
  show own_go _ _ _ _ _ _ _ (T34.setTop (mkF m 3 #[.val (.int (3 : Int32)), .unset, .unset, .unset, .unset] [(.ref r34)]))
  refine own_st (fun _ k => XS.astoreN X34.here hx rfl (hb hby d2_3) rfl rfl (l' := #[.val (.int (3 : Int32)), .val (.ref r34), .unset, .unset, .unset]) rfl k) ?_
  show own_go _ _ _ _ _ _ _ (T34.setTop (mkF m 4 #[.val (.int (3 : Int32)), .val (.ref r34), .unset, .unset, .unset] []))
  refine own_st (fun _ k => XS.aloadN X34.here hx rfl (hb hby d2_4) rfl rfl k) ?_
  show own_go _ _ _ _ _ _ _ (T34.setTop (mkF m 5 #[.val (.int (3 : Int32)), .val (.ref r34), .unset, .unset, .unset] [(.ref r34)]))
  refine own_st (own_len X34 hx hZ rfl V34 (g := (mkF m 5 #[.val (.int (3 : Int32)), .val (.ref r34), .unset, .unset, .unset] [(.ref r34)])) rfl rfl (hb hby d2_5)) ?_
  show own_go _ _ _ _ _ _ _ (T34.setTop (mkF m 6 #[.val (.int (3 : Int32)), .val (.ref r34), .unset, .unset, .unset] [(.int (4 : Int32))]))
  refine own_st (fun _ k => XS.istoreN X34.here hx rfl (hb hby d2_6) rfl (l' := #[.val (.int (3 : Int32)), .val (.ref r34), .val (.int (4 : Int32)), .unset, .unset]) rfl k) ?_
  show own_go _ _ _ _ _ _ _ (T34.setTop (mkF m 7 #[.val (.int (3 : Int32)), .val (.ref r34), .val (.int (4 : Int32)), .unset, .unset] []))
  refine own_st (fun _ k => XS.iconst X34.here hx rfl (hb hby d2_7) k) ?_
  show own_go _ _ _ _ _ _ _ (T34.setTop (mkF m 8 #[.val (.int (3 : Int32)), .val (.ref r34), .val (.int (4 : Int32)), .unset, .unset] [(.int (0 : Int32))]))
  refine own_st (fun _ k => XS.istoreN X34.here hx rfl (hb hby d2_8) rfl (l' := #[.val (.int (3 : Int32)), .val (.ref r34), .val (.int (4 : Int32)), .val (.int (0 : Int32)), .unset]) rfl k) ?_
  show own_go _ _ _ _ _ _ _ (T34.setTop (mkF m 9 #[.val (.int (3 : Int32)), .val (.ref r34), .val (.int (4 : Int32)), .val (.int (0 : Int32)), .unset] []))
  refine own_st (fun _ k => XS.iloadN X34.here hx rfl (hb hby d2_9) rfl k) ?_
  show own_go _ _ _ _ _ _ _ (T34.setTop (mkF m 10 #[.val (.int (3 : Int32)), .val (.ref r34), .val (.int (4 : Int32)), .val (.int (0 : Int32)), .unset] [(.int (0 : Int32))]))
  refine own_st (fun _ k => XS.iloadN X34.here hx rfl (hb hby d2_10) rfl k) ?_
  show own_go _ _ _ _ _ _ _ (T34.setTop (mkF m 11 #[.val (.int (3 : Int32)), .val (.ref r34), .val (.int (4 : Int32)), .val (.int (0 : Int32)), .unset] [(.int (4 : Int32)), (.int (0 : Int32))]))
  refine own_st (fun _ k => XS.icmpNo X34.here hx rfl (hb hby d2_11) rfl (by decide) k) ?_
  show own_go _ _ _ _ _ _ _ (T34.setTop (mkF m 14 #[.val (.int (3 : Int32)), .val (.ref r34), .val (.int (4 : Int32)), .val (.int (0 : Int32)), .unset] []))
  refine own_st (fun _ k => XS.aloadN X34.here hx rfl (hb hby d2_14) rfl rfl k) ?_
  show own_go _ _ _ _ _ _ _ (T34.setTop (mkF m 15 #[.val (.int (3 : Int32)), .val (.ref r34), .val (.int (4 : Int32)), .val (.int (0 : Int32)), .unset] [(.ref r34)]))
  refine own_st (fun _ k => XS.iloadN X34.here hx rfl (hb hby d2_15) rfl k) ?_
  show own_go _ _ _ _ _ _ _ (T34.setTop (mkF m 16 #[.val (.int (3 : Int32)), .val (.ref r34), .val (.int (4 : Int32)), .val (.int (0 : Int32)), .unset] [(.int (0 : Int32)), (.ref r34)]))
  refine own_st (own_get X34 hx hZ rfl V34 rfl (j := (0 : Int32)) (by decide) (v := (.ref c_SHA_1)) rfl (g := (mkF m 16 #[.val (.int (3 : Int32)), .val (.ref r34), .val (.int (4 : Int32)), .val (.int (0 : Int32)), .unset] [(.int (0 : Int32)), (.ref r34)])) rfl rfl (hb hby d2_16)) ?_
  show own_go _ _ _ _ _ _ _ (T34.setTop (mkF m 17 #[.val (.int (3 : Int32)), .val (.ref r34), .val (.int (4 : Int32)), .val (.int (0 : Int32)), .unset] [(.ref c_SHA_1)]))
  refine own_st (fun _ k => XS.astore X34.here hx rfl (hb hby d2_17) rfl rfl (l' := #[.val (.int (3 : Int32)), .val (.ref r34), .val (.int (4 : Int32)), .val (.int (0 : Int32)), .val (.ref c_SHA_1)]) rfl k) ?_
  show own_go _ _ _ _ _ _ _ (T34.setTop (mkF m 19 #[.val (.int (3 : Int32)), .val (.ref r34), .val (.int (4 : Int32)), .val (.int (0 : Int32)), .val (.ref c_SHA_1)] []))
  refine own_st (fun _ k => XS.aload X34.here hx rfl (hb hby d2_19) rfl rfl k) ?_
  show own_go _ _ _ _ _ _ _ (T34.setTop (mkF m 21 #[.val (.int (3 : Int32)), .val (.ref r34), .val (.int (4 : Int32)), .val (.int (0 : Int32)), .val (.ref c_SHA_1)] [(.ref c_SHA_1)]))
  obtain ⟨T35, X35, e35, st35⟩ := getF X34 hx hZ hown (host := "") (Or.inl (hw _ (List.mem_of_getElem? (i := 27) rfl))) Via.refl rfl (hS.2.2.2.2.2.2.2.2.2.2.1.ext O34.2) (g := (mkF m 21 #[.val (.int (3 : Int32)), .val (.ref r34), .val (.int (4 : Int32)), .val (.int (0 : Int32)), .val (.ref c_SHA_1)] [(.ref c_SHA_1)])) rfl rfl (hb hby d2_21)
  refine own_st st35 ?_
  show own_go _ _ _ _ _ _ _ (T35.setTop (mkF m 24 #[.val (.int (3 : Int32)), .val (.ref r34), .val (.int (4 : Int32)), .val (.int (0 : Int32)), .val (.ref c_SHA_1)] [(.int (1 : Int32))]))
  refine own_st (fun _ k => XS.iloadN X35.here hx rfl (hb hby d2_24) rfl k) ?_
  show own_go _ _ _ _ _ _ _ (T35.setTop (mkF m 25 #[.val (.int (3 : Int32)), .val (.ref r34), .val (.int (4 : Int32)), .val (.int (0 : Int32)), .val (.ref c_SHA_1)] [(.int (3 : Int32)), (.int (1 : Int32))]))
  refine own_st (fun _ k => XS.icmpYes X35.here hx rfl (pc0 := 25) (pc' := 34) rfl (hb hby d2_25) rfl (by decide) (by decide) (by decide) k) ?_
  show own_go _ _ _ _ _ _ _ (T35.setTop (mkF m 34 #[.val (.int (3 : Int32)), .val (.ref r34), .val (.int (4 : Int32)), .val (.int (0 : Int32)), .val (.ref c_SHA_1)] []))
  refine own_st (fun _ k => XS.iinc X35.here hx rfl (hb hby d2_34) rfl (l' := #[.val (.int (3 : Int32)), .val (.ref r34), .val (.int (4 : Int32)), .val (.int (1 : Int32)), .val (.ref c_SHA_1)]) rfl k) ?_
  show own_go _ _ _ _ _ _ _ (T35.setTop (mkF m 37 #[.val (.int (3 : Int32)), .val (.ref r34), .val (.int (4 : Int32)), .val (.int (1 : Int32)), .val (.ref c_SHA_1)] []))
  refine own_st (fun _ k => XS.goto X35.here hx rfl (pc0 := 37) (pc' := 9) rfl (hb hby d2_37) (by decide) (by decide) k) ?_
  show own_go _ _ _ _ _ _ _ (T35.setTop (mkF m 9 #[.val (.int (3 : Int32)), .val (.ref r34), .val (.int (4 : Int32)), .val (.int (1 : Int32)), .val (.ref c_SHA_1)] []))
  refine own_st (fun _ k => XS.iloadN X35.here hx rfl (hb hby d2_9) rfl k) ?_
  show own_go _ _ _ _ _ _ _ (T35.setTop (mkF m 10 #[.val (.int (3 : Int32)), .val (.ref r34), .val (.int (4 : Int32)), .val (.int (1 : Int32)), .val (.ref c_SHA_1)] [(.int (1 : Int32))]))
  refine own_st (fun _ k => XS.iloadN X35.here hx rfl (hb hby d2_10) rfl k) ?_
  show own_go _ _ _ _ _ _ _ (T35.setTop (mkF m 11 #[.val (.int (3 : Int32)), .val (.ref r34), .val (.int (4 : Int32)), .val (.int (1 : Int32)), .val (.ref c_SHA_1)] [(.int (4 : Int32)), (.int (1 : Int32))]))
  refine own_st (fun _ k => XS.icmpNo X35.here hx rfl (hb hby d2_11) rfl (by decide) k) ?_
  show own_go _ _ _ _ _ _ _ (T35.setTop (mkF m 14 #[.val (.int (3 : Int32)), .val (.ref r34), .val (.int (4 : Int32)), .val (.int (1 : Int32)), .val (.ref c_SHA_1)] []))
  refine own_st (fun _ k => XS.aloadN X35.here hx rfl (hb hby d2_14) rfl rfl k) ?_
  show own_go _ _ _ _ _ _ _ (T35.setTop (mkF m 15 #[.val (.int (3 : Int32)), .val (.ref r34), .val (.int (4 : Int32)), .val (.int (1 : Int32)), .val (.ref c_SHA_1)] [(.ref r34)]))
  refine own_st (fun _ k => XS.iloadN X35.here hx rfl (hb hby d2_15) rfl k) ?_
  show own_go _ _ _ _ _ _ _ (T35.setTop (mkF m 16 #[.val (.int (3 : Int32)), .val (.ref r34), .val (.int (4 : Int32)), .val (.int (1 : Int32)), .val (.ref c_SHA_1)] [(.int (1 : Int32)), (.ref r34)]))
  refine own_st (own_get X35 hx hZ e35 V34 rfl (j := (1 : Int32)) (by decide) (v := (.ref c_SHA_256)) rfl (g := (mkF m 16 #[.val (.int (3 : Int32)), .val (.ref r34), .val (.int (4 : Int32)), .val (.int (1 : Int32)), .val (.ref c_SHA_1)] [(.int (1 : Int32)), (.ref r34)])) rfl rfl (hb hby d2_16)) ?_
  show own_go _ _ _ _ _ _ _ (T35.setTop (mkF m 17 #[.val (.int (3 : Int32)), .val (.ref r34), .val (.int (4 : Int32)), .val (.int (1 : Int32)), .val (.ref c_SHA_1)] [(.ref c_SHA_256)]))
  refine own_st (fun _ k => XS.astore X35.here hx rfl (hb hby d2_17) rfl rfl (l' := #[.val (.int (3 : Int32)), .val (.ref r34), .val (.int (4 : Int32)), .val (.int (1 : Int32)), .val (.ref c_SHA_256)]) rfl k) ?_
  show own_go _ _ _ _ _ _ _ (T35.setTop (mkF m 19 #[.val (.int (3 : Int32)), .val (.ref r34), .val (.int (4 : Int32)), .val (.int (1 : Int32)), .val (.ref c_SHA_256)] []))
  refine own_st (fun _ k => XS.aload X35.here hx rfl (hb hby d2_19) rfl rfl k) ?_
  show own_go _ _ _ _ _ _ _ (T35.setTop (mkF m 21 #[.val (.int (3 : Int32)), .val (.ref r34), .val (.int (4 : Int32)), .val (.int (1 : Int32)), .val (.ref c_SHA_256)] [(.ref c_SHA_256)]))
  obtain ⟨T36, X36, e36, st36⟩ := getF X35 hx hZ hown (host := "") (Or.inl (hw _ (List.mem_of_getElem? (i := 27) rfl))) Via.refl e35 (hS.2.2.2.2.2.2.2.2.2.2.2.1.ext O34.2) (g := (mkF m 21 #[.val (.int (3 : Int32)), .val (.ref r34), .val (.int (4 : Int32)), .val (.int (1 : Int32)), .val (.ref c_SHA_256)] [(.ref c_SHA_256)])) rfl rfl (hb hby d2_21)
  refine own_st st36 ?_
  show own_go _ _ _ _ _ _ _ (T36.setTop (mkF m 24 #[.val (.int (3 : Int32)), .val (.ref r34), .val (.int (4 : Int32)), .val (.int (1 : Int32)), .val (.ref c_SHA_256)] [(.int (2 : Int32))]))
  refine own_st (fun _ k => XS.iloadN X36.here hx rfl (hb hby d2_24) rfl k) ?_
  show own_go _ _ _ _ _ _ _ (T36.setTop (mkF m 25 #[.val (.int (3 : Int32)), .val (.ref r34), .val (.int (4 : Int32)), .val (.int (1 : Int32)), .val (.ref c_SHA_256)] [(.int (3 : Int32)), (.int (2 : Int32))]))
  refine own_st (fun _ k => XS.icmpYes X36.here hx rfl (pc0 := 25) (pc' := 34) rfl (hb hby d2_25) rfl (by decide) (by decide) (by decide) k) ?_
  show own_go _ _ _ _ _ _ _ (T36.setTop (mkF m 34 #[.val (.int (3 : Int32)), .val (.ref r34), .val (.int (4 : Int32)), .val (.int (1 : Int32)), .val (.ref c_SHA_256)] []))
  refine own_st (fun _ k => XS.iinc X36.here hx rfl (hb hby d2_34) rfl (l' := #[.val (.int (3 : Int32)), .val (.ref r34), .val (.int (4 : Int32)), .val (.int (2 : Int32)), .val (.ref c_SHA_256)]) rfl k) ?_
  show own_go _ _ _ _ _ _ _ (T36.setTop (mkF m 37 #[.val (.int (3 : Int32)), .val (.ref r34), .val (.int (4 : Int32)), .val (.int (2 : Int32)), .val (.ref c_SHA_256)] []))
  refine own_st (fun _ k => XS.goto X36.here hx rfl (pc0 := 37) (pc' := 9) rfl (hb hby d2_37) (by decide) (by decide) k) ?_
  show own_go _ _ _ _ _ _ _ (T36.setTop (mkF m 9 #[.val (.int (3 : Int32)), .val (.ref r34), .val (.int (4 : Int32)), .val (.int (2 : Int32)), .val (.ref c_SHA_256)] []))
  refine own_st (fun _ k => XS.iloadN X36.here hx rfl (hb hby d2_9) rfl k) ?_
  show own_go _ _ _ _ _ _ _ (T36.setTop (mkF m 10 #[.val (.int (3 : Int32)), .val (.ref r34), .val (.int (4 : Int32)), .val (.int (2 : Int32)), .val (.ref c_SHA_256)] [(.int (2 : Int32))]))
  refine own_st (fun _ k => XS.iloadN X36.here hx rfl (hb hby d2_10) rfl k) ?_
  show own_go _ _ _ _ _ _ _ (T36.setTop (mkF m 11 #[.val (.int (3 : Int32)), .val (.ref r34), .val (.int (4 : Int32)), .val (.int (2 : Int32)), .val (.ref c_SHA_256)] [(.int (4 : Int32)), (.int (2 : Int32))]))
  refine own_st (fun _ k => XS.icmpNo X36.here hx rfl (hb hby d2_11) rfl (by decide) k) ?_
  show own_go _ _ _ _ _ _ _ (T36.setTop (mkF m 14 #[.val (.int (3 : Int32)), .val (.ref r34), .val (.int (4 : Int32)), .val (.int (2 : Int32)), .val (.ref c_SHA_256)] []))
  refine own_st (fun _ k => XS.aloadN X36.here hx rfl (hb hby d2_14) rfl rfl k) ?_
  show own_go _ _ _ _ _ _ _ (T36.setTop (mkF m 15 #[.val (.int (3 : Int32)), .val (.ref r34), .val (.int (4 : Int32)), .val (.int (2 : Int32)), .val (.ref c_SHA_256)] [(.ref r34)]))
  refine own_st (fun _ k => XS.iloadN X36.here hx rfl (hb hby d2_15) rfl k) ?_
  show own_go _ _ _ _ _ _ _ (T36.setTop (mkF m 16 #[.val (.int (3 : Int32)), .val (.ref r34), .val (.int (4 : Int32)), .val (.int (2 : Int32)), .val (.ref c_SHA_256)] [(.int (2 : Int32)), (.ref r34)]))
  refine own_st (own_get X36 hx hZ e36 V34 rfl (j := (2 : Int32)) (by decide) (v := (.ref c_SHA_384)) rfl (g := (mkF m 16 #[.val (.int (3 : Int32)), .val (.ref r34), .val (.int (4 : Int32)), .val (.int (2 : Int32)), .val (.ref c_SHA_256)] [(.int (2 : Int32)), (.ref r34)])) rfl rfl (hb hby d2_16)) ?_
  show own_go _ _ _ _ _ _ _ (T36.setTop (mkF m 17 #[.val (.int (3 : Int32)), .val (.ref r34), .val (.int (4 : Int32)), .val (.int (2 : Int32)), .val (.ref c_SHA_256)] [(.ref c_SHA_384)]))
  refine own_st (fun _ k => XS.astore X36.here hx rfl (hb hby d2_17) rfl rfl (l' := #[.val (.int (3 : Int32)), .val (.ref r34), .val (.int (4 : Int32)), .val (.int (2 : Int32)), .val (.ref c_SHA_384)]) rfl k) ?_
  show own_go _ _ _ _ _ _ _ (T36.setTop (mkF m 19 #[.val (.int (3 : Int32)), .val (.ref r34), .val (.int (4 : Int32)), .val (.int (2 : Int32)), .val (.ref c_SHA_384)] []))
  refine own_st (fun _ k => XS.aload X36.here hx rfl (hb hby d2_19) rfl rfl k) ?_
  show own_go _ _ _ _ _ _ _ (T36.setTop (mkF m 21 #[.val (.int (3 : Int32)), .val (.ref r34), .val (.int (4 : Int32)), .val (.int (2 : Int32)), .val (.ref c_SHA_384)] [(.ref c_SHA_384)]))
  obtain ⟨T37, X37, e37, st37⟩ := getF X36 hx hZ hown (host := "") (Or.inl (hw _ (List.mem_of_getElem? (i := 27) rfl))) Via.refl e36 (hS.2.2.2.2.2.2.2.2.2.2.2.2.1.ext O34.2) (g := (mkF m 21 #[.val (.int (3 : Int32)), .val (.ref r34), .val (.int (4 : Int32)), .val (.int (2 : Int32)), .val (.ref c_SHA_384)] [(.ref c_SHA_384)])) rfl rfl (hb hby d2_21)
  refine own_st st37 ?_
  show own_go _ _ _ _ _ _ _ (T37.setTop (mkF m 24 #[.val (.int (3 : Int32)), .val (.ref r34), .val (.int (4 : Int32)), .val (.int (2 : Int32)), .val (.ref c_SHA_384)] [(.int (3 : Int32))]))
  refine own_st (fun _ k => XS.iloadN X37.here hx rfl (hb hby d2_24) rfl k) ?_
  show own_go _ _ _ _ _ _ _ (T37.setTop (mkF m 25 #[.val (.int (3 : Int32)), .val (.ref r34), .val (.int (4 : Int32)), .val (.int (2 : Int32)), .val (.ref c_SHA_384)] [(.int (3 : Int32)), (.int (3 : Int32))]))
  refine own_st (fun _ k => XS.icmpNo X37.here hx rfl (hb hby d2_25) rfl (by decide) k) ?_
  show own_go _ _ _ _ _ _ _ (T37.setTop (mkF m 28 #[.val (.int (3 : Int32)), .val (.ref r34), .val (.int (4 : Int32)), .val (.int (2 : Int32)), .val (.ref c_SHA_384)] []))
  refine own_st (fun _ k => XS.aload X37.here hx rfl (hb hby d2_28) rfl rfl k) ?_
  show own_go _ _ _ _ _ _ _ (T37.setTop (mkF m 30 #[.val (.int (3 : Int32)), .val (.ref r34), .val (.int (4 : Int32)), .val (.int (2 : Int32)), .val (.ref c_SHA_384)] [(.ref c_SHA_384)]))
  obtain ⟨v38, T38, L38, X38, hQ38, st38⟩ := own_callS X37 hx hZ (argsL := [(.ref c_SHA_384)]) (rest := []) (rmo_of l Z a0 hw c_SHA_384 T34.heap n0 O34) hown (hw _ (List.mem_of_getElem? (i := 42) rfl)) (hw _ (List.mem_of_getElem? (i := 43) rfl)) (hw _ (List.mem_of_getElem? (i := 31) rfl)) (hw _ (List.mem_of_getElem? (i := 44) rfl)) (by decide) e37 (g := (mkF m 30 #[.val (.int (3 : Int32)), .val (.ref r34), .val (.int (4 : Int32)), .val (.int (2 : Int32)), .val (.ref c_SHA_384)] [(.ref c_SHA_384)])) rfl (by rw [hml]; rfl) (lenOf own_pd__28Ljava_2flang_2fObject_3b_29Ljava_2futil_2fOptional_3b rfl) rfl (W := 0) (by show 2 * 0 + _ ≤ _; exact Nat.le_of_eq rfl) (hb hby d2_30) (by decide) (by decide) (by decide) (by decide)
  obtain ⟨r38, rfl, Nq38, Kq38, sz38, A38, F38_0⟩ := hQ38
  have N38 := Fr.app N34 Nq38
  have ne_r34_r38 : r34 ≠ r38 := (Nat.ne_of_lt (Nat.lt_of_lt_of_le V34.lt sz38))
  have O38 := O34.keep Kq38 all0
  have K38 := K34.trans Kq38 all0
  refine own_st st38 ?_
  show own_go _ _ _ _ _ _ _ (T38.setTop (mkF m 33 #[.val (.int (3 : Int32)), .val (.ref r34), .val (.int (4 : Int32)), .val (.int (2 : Int32)), .val (.ref c_SHA_384)] [(.ref r38)]))
  exact own_retA X38 hx hlk hret rfl rfl (hb hby d2_33) (by decide) (by decide) ⟨_, rfl, N38, K38, (Nat.le_trans K34.1 sz38), A38, F38_0⟩
theorem own_ef_rmb_4 (m : MethodId)  : entryFrame m #[(.int (4 : Int32))] 5 = mkF m 0 #[.val (.int (4 : Int32)), .unset, .unset, .unset, .unset] [] := by first | (simp [entryFrame, mkF, argsToLocals, Value.category]; done) | rfl
set_option maxRecDepth 65536 in
set_option maxHeartbeats 40000000 in
theorem rmb_4 (l : Launch) (Z : State) (a0 : Array Value) (hw : ∀ d ∈ tables_1, d.before a0 Z = true) (c__VALUES c_SHA_1 c_SHA_256 c_SHA_384 c_SHA_512 c_EMPTY : Addr) (h0 : Heap) (n0 : Nat) (O0 : Old Z n0 h0) (hS : own_S Z c__VALUES c_SHA_1 c_SHA_256 c_SHA_384 c_SHA_512 c_EMPTY) :
    own_Met l Z (⟨"com/example/watchword/watchword/model/SrpHash", "byId", "(B)Ljava/util/Optional;"⟩ : MethodName) prog_29_method_4_code 5 (some (.object "java/util/Optional")) [] ({ frames := 3, cells := 2, slots := 5, locals := 38 } : Room) #[(.int (4 : Int32))] h0 (fun v h L => ∃ a, v = some (.ref a) ∧ Fr n0 L ∧ Keep h0 h [] ∧ h0.size ≤ a ∧ Exa Z h a "java/util/Optional" ∧ Fld Z h a "java/util/Optional" "value" "Ljava/lang/Object;" (.ref c_SHA_512)) := by
  refine own_body own_pn_2 ?_
  intro p e s m below meth c s₁ hx hby hml hown hnm hret hlk X0 hZ e0
  replace hown : s.vm.findClass "com/example/watchword/watchword/model/SrpHash" = some m.cls := hown
  have N0 := Fr.nil n0
  have K0 := Keep.refl h0 []
  refine own_st (fun _ k => castTop (own_ef_rmb_4 m ) k) ?_
  show own_go _ _ _ _ _ _ _ (s₁.setTop (mkF m 0 #[.val (.int (4 : Int32)), .unset, .unset, .unset, .unset] []))
  obtain ⟨v39, T39, L39, X39, hQ39, st39⟩ := own_callS X0 hx hZ (argsL := []) (rest := []) (rmv l Z a0 hw c__VALUES c_SHA_1 c_SHA_256 c_SHA_384 c_SHA_512 c_EMPTY h0 n0 O0 hS) hown (hw _ (List.mem_of_getElem? (i := 8) rfl)) (hw _ (List.mem_of_getElem? (i := 9) rfl)) (hw _ (List.mem_of_getElem? (i := 6) rfl)) (hw _ (List.mem_of_getElem? (i := 10) rfl)) (by decide) e0 (g := (mkF m 0 #[.val (.int (4 : Int32)), .unset, .unset, .unset, .unset] [])) rfl (by rw [hml]; rfl) (lenOf own_pd__28_29_5bLcom_2fexample_2fwatchword_2fwatchword_2fmodel_2fSrpHash_3b rfl) rfl (W := 0) (by show 2 * 0 + _ ≤ _; exact Nat.le_of_eq rfl) (hb hby d2_0) (by decide) (by decide) (by decide) (by decide)
  obtain ⟨r39, rfl, Nq39, Kq39, sz39, k39, V39⟩ := hQ39
  have N39 := Fr.app N0 Nq39
  have O39 := O0.keep Kq39 all0
  have K39 := K0.trans Kq39 all0
  refine own_st st39 ?_
  show own_go _ _ _ _ _ _ _ (T39.setTop (mkF m 3 #[.val (.int (4 : Int32)), .unset, .unset, .unset, .unset] [(.ref r39)]))
  refine own_st (fun _ k => XS.astoreN X39.here hx rfl (hb hby d2_3) rfl rfl (l' := #[.val (.int (4 : Int32)), .val (.ref r39), .unset, .unset, .unset]) rfl k) ?_
  show own_go _ _ _ _ _ _ _ (T39.setTop (mkF m 4 #[.val (.int (4 : Int32)), .val (.ref r39), .unset, .unset, .unset] []))
  refine own_st (fun _ k => XS.aloadN X39.here hx rfl (hb hby d2_4) rfl rfl k) ?_
  show own_go _ _ _ _ _ _ _ (T39.setTop (mkF m 5 #[.val (.int (4 : Int32)), .val (.ref r39), .unset, .unset, .unset] [(.ref r39)]))
  refine own_st (own_len X39 hx hZ rfl V39 (g := (mkF m 5 #[.val (.int (4 : Int32)), .val (.ref r39), .unset, .unset, .unset] [(.ref r39)])) rfl rfl (hb hby d2_5)) ?_
  show own_go _ _ _ _ _ _ _ (T39.setTop (mkF m 6 #[.val (.int (4 : Int32)), .val (.ref r39), .unset, .unset, .unset] [(.int (4 : Int32))]))
  refine own_st (fun _ k => XS.istoreN X39.here hx rfl (hb hby d2_6) rfl (l' := #[.val (.int (4 : Int32)), .val (.ref r39), .val (.int (4 : Int32)), .unset, .unset]) rfl k) ?_
  show own_go _ _ _ _ _ _ _ (T39.setTop (mkF m 7 #[.val (.int (4 : Int32)), .val (.ref r39), .val (.int (4 : Int32)), .unset, .unset] []))
  refine own_st (fun _ k => XS.iconst X39.here hx rfl (hb hby d2_7) k) ?_
  show own_go _ _ _ _ _ _ _ (T39.setTop (mkF m 8 #[.val (.int (4 : Int32)), .val (.ref r39), .val (.int (4 : Int32)), .unset, .unset] [(.int (0 : Int32))]))
  refine own_st (fun _ k => XS.istoreN X39.here hx rfl (hb hby d2_8) rfl (l' := #[.val (.int (4 : Int32)), .val (.ref r39), .val (.int (4 : Int32)), .val (.int (0 : Int32)), .unset]) rfl k) ?_
  show own_go _ _ _ _ _ _ _ (T39.setTop (mkF m 9 #[.val (.int (4 : Int32)), .val (.ref r39), .val (.int (4 : Int32)), .val (.int (0 : Int32)), .unset] []))
  refine own_st (fun _ k => XS.iloadN X39.here hx rfl (hb hby d2_9) rfl k) ?_
  show own_go _ _ _ _ _ _ _ (T39.setTop (mkF m 10 #[.val (.int (4 : Int32)), .val (.ref r39), .val (.int (4 : Int32)), .val (.int (0 : Int32)), .unset] [(.int (0 : Int32))]))
  refine own_st (fun _ k => XS.iloadN X39.here hx rfl (hb hby d2_10) rfl k) ?_
  show own_go _ _ _ _ _ _ _ (T39.setTop (mkF m 11 #[.val (.int (4 : Int32)), .val (.ref r39), .val (.int (4 : Int32)), .val (.int (0 : Int32)), .unset] [(.int (4 : Int32)), (.int (0 : Int32))]))
  refine own_st (fun _ k => XS.icmpNo X39.here hx rfl (hb hby d2_11) rfl (by decide) k) ?_
  show own_go _ _ _ _ _ _ _ (T39.setTop (mkF m 14 #[.val (.int (4 : Int32)), .val (.ref r39), .val (.int (4 : Int32)), .val (.int (0 : Int32)), .unset] []))
  refine own_st (fun _ k => XS.aloadN X39.here hx rfl (hb hby d2_14) rfl rfl k) ?_
  show own_go _ _ _ _ _ _ _ (T39.setTop (mkF m 15 #[.val (.int (4 : Int32)), .val (.ref r39), .val (.int (4 : Int32)), .val (.int (0 : Int32)), .unset] [(.ref r39)]))
  refine own_st (fun _ k => XS.iloadN X39.here hx rfl (hb hby d2_15) rfl k) ?_
  show own_go _ _ _ _ _ _ _ (T39.setTop (mkF m 16 #[.val (.int (4 : Int32)), .val (.ref r39), .val (.int (4 : Int32)), .val (.int (0 : Int32)), .unset] [(.int (0 : Int32)), (.ref r39)]))
  refine own_st (own_get X39 hx hZ rfl V39 rfl (j := (0 : Int32)) (by decide) (v := (.ref c_SHA_1)) rfl (g := (mkF m 16 #[.val (.int (4 : Int32)), .val (.ref r39), .val (.int (4 : Int32)), .val (.int (0 : Int32)), .unset] [(.int (0 : Int32)), (.ref r39)])) rfl rfl (hb hby d2_16)) ?_
  show own_go _ _ _ _ _ _ _ (T39.setTop (mkF m 17 #[.val (.int (4 : Int32)), .val (.ref r39), .val (.int (4 : Int32)), .val (.int (0 : Int32)), .unset] [(.ref c_SHA_1)]))
  refine own_st (fun _ k => XS.astore X39.here hx rfl (hb hby d2_17) rfl rfl (l' := #[.val (.int (4 : Int32)), .val (.ref r39), .val (.int (4 : Int32)), .val (.int (0 : Int32)), .val (.ref c_SHA_1)]) rfl k) ?_
  show own_go _ _ _ _ _ _ _ (T39.setTop (mkF m 19 #[.val (.int (4 : Int32)), .val (.ref r39), .val (.int (4 : Int32)), .val (.int (0 : Int32)), .val (.ref c_SHA_1)] []))
  refine own_st (fun _ k => XS.aload X39.here hx rfl (hb hby d2_19) rfl rfl k) ?_
  show own_go _ _ _ _ _ _ _ (T39.setTop (mkF m 21 #[.val (.int (4 : Int32)), .val (.ref r39), .val (.int (4 : Int32)), .val (.int (0 : Int32)), .val (.ref c_SHA_1)] [(.ref c_SHA_1)]))
  obtain ⟨T40, X40, e40, st40⟩ := getF X39 hx hZ hown (host := "") (Or.inl (hw _ (List.mem_of_getElem? (i := 27) rfl))) Via.refl rfl (hS.2.2.2.2.2.2.2.2.2.2.1.ext O39.2) (g := (mkF m 21 #[.val (.int (4 : Int32)), .val (.ref r39), .val (.int (4 : Int32)), .val (.int (0 : Int32)), .val (.ref c_SHA_1)] [(.ref c_SHA_1)])) rfl rfl (hb hby d2_21)
  refine own_st st40 ?_
  show own_go _ _ _ _ _ _ _ (T40.setTop (mkF m 24 #[.val (.int (4 : Int32)), .val (.ref r39), .val (.int (4 : Int32)), .val (.int (0 : Int32)), .val (.ref c_SHA_1)] [(.int (1 : Int32))]))
  refine own_st (fun _ k => XS.iloadN X40.here hx rfl (hb hby d2_24) rfl k) ?_
  show own_go _ _ _ _ _ _ _ (T40.setTop (mkF m 25 #[.val (.int (4 : Int32)), .val (.ref r39), .val (.int (4 : Int32)), .val (.int (0 : Int32)), .val (.ref c_SHA_1)] [(.int (4 : Int32)), (.int (1 : Int32))]))
  refine own_st (fun _ k => XS.icmpYes X40.here hx rfl (pc0 := 25) (pc' := 34) rfl (hb hby d2_25) rfl (by decide) (by decide) (by decide) k) ?_
  show own_go _ _ _ _ _ _ _ (T40.setTop (mkF m 34 #[.val (.int (4 : Int32)), .val (.ref r39), .val (.int (4 : Int32)), .val (.int (0 : Int32)), .val (.ref c_SHA_1)] []))
  refine own_st (fun _ k => XS.iinc X40.here hx rfl (hb hby d2_34) rfl (l' := #[.val (.int (4 : Int32)), .val (.ref r39), .val (.int (4 : Int32)), .val (.int (1 : Int32)), .val (.ref c_SHA_1)]) rfl k) ?_
  show own_go _ _ _ _ _ _ _ (T40.setTop (mkF m 37 #[.val (.int (4 : Int32)), .val (.ref r39), .val (.int (4 : Int32)), .val (.int (1 : Int32)), .val (.ref c_SHA_1)] []))
  refine own_st (fun _ k => XS.goto X40.here hx rfl (pc0 := 37) (pc' := 9) rfl (hb hby d2_37) (by decide) (by decide) k) ?_
  show own_go _ _ _ _ _ _ _ (T40.setTop (mkF m 9 #[.val (.int (4 : Int32)), .val (.ref r39), .val (.int (4 : Int32)), .val (.int (1 : Int32)), .val (.ref c_SHA_1)] []))
  refine own_st (fun _ k => XS.iloadN X40.here hx rfl (hb hby d2_9) rfl k) ?_
  show own_go _ _ _ _ _ _ _ (T40.setTop (mkF m 10 #[.val (.int (4 : Int32)), .val (.ref r39), .val (.int (4 : Int32)), .val (.int (1 : Int32)), .val (.ref c_SHA_1)] [(.int (1 : Int32))]))
  refine own_st (fun _ k => XS.iloadN X40.here hx rfl (hb hby d2_10) rfl k) ?_
  show own_go _ _ _ _ _ _ _ (T40.setTop (mkF m 11 #[.val (.int (4 : Int32)), .val (.ref r39), .val (.int (4 : Int32)), .val (.int (1 : Int32)), .val (.ref c_SHA_1)] [(.int (4 : Int32)), (.int (1 : Int32))]))
  refine own_st (fun _ k => XS.icmpNo X40.here hx rfl (hb hby d2_11) rfl (by decide) k) ?_
  show own_go _ _ _ _ _ _ _ (T40.setTop (mkF m 14 #[.val (.int (4 : Int32)), .val (.ref r39), .val (.int (4 : Int32)), .val (.int (1 : Int32)), .val (.ref c_SHA_1)] []))
  refine own_st (fun _ k => XS.aloadN X40.here hx rfl (hb hby d2_14) rfl rfl k) ?_
  show own_go _ _ _ _ _ _ _ (T40.setTop (mkF m 15 #[.val (.int (4 : Int32)), .val (.ref r39), .val (.int (4 : Int32)), .val (.int (1 : Int32)), .val (.ref c_SHA_1)] [(.ref r39)]))
  refine own_st (fun _ k => XS.iloadN X40.here hx rfl (hb hby d2_15) rfl k) ?_
  show own_go _ _ _ _ _ _ _ (T40.setTop (mkF m 16 #[.val (.int (4 : Int32)), .val (.ref r39), .val (.int (4 : Int32)), .val (.int (1 : Int32)), .val (.ref c_SHA_1)] [(.int (1 : Int32)), (.ref r39)]))
  refine own_st (own_get X40 hx hZ e40 V39 rfl (j := (1 : Int32)) (by decide) (v := (.ref c_SHA_256)) rfl (g := (mkF m 16 #[.val (.int (4 : Int32)), .val (.ref r39), .val (.int (4 : Int32)), .val (.int (1 : Int32)), .val (.ref c_SHA_1)] [(.int (1 : Int32)), (.ref r39)])) rfl rfl (hb hby d2_16)) ?_
  show own_go _ _ _ _ _ _ _ (T40.setTop (mkF m 17 #[.val (.int (4 : Int32)), .val (.ref r39), .val (.int (4 : Int32)), .val (.int (1 : Int32)), .val (.ref c_SHA_1)] [(.ref c_SHA_256)]))
  refine own_st (fun _ k => XS.astore X40.here hx rfl (hb hby d2_17) rfl rfl (l' := #[.val (.int (4 : Int32)), .val (.ref r39), .val (.int (4 : Int32)), .val (.int (1 : Int32)), .val (.ref c_SHA_256)]) rfl k) ?_
  show own_go _ _ _ _ _ _ _ (T40.setTop (mkF m 19 #[.val (.int (4 : Int32)), .val (.ref r39), .val (.int (4 : Int32)), .val (.int (1 : Int32)), .val (.ref c_SHA_256)] []))
  refine own_st (fun _ k => XS.aload X40.here hx rfl (hb hby d2_19) rfl rfl k) ?_
  show own_go _ _ _ _ _ _ _ (T40.setTop (mkF m 21 #[.val (.int (4 : Int32)), .val (.ref r39), .val (.int (4 : Int32)), .val (.int (1 : Int32)), .val (.ref c_SHA_256)] [(.ref c_SHA_256)]))
  obtain ⟨T41, X41, e41, st41⟩ := getF X40 hx hZ hown (host := "") (Or.inl (hw _ (List.mem_of_getElem? (i := 27) rfl))) Via.refl e40 (hS.2.2.2.2.2.2.2.2.2.2.2.1.ext O39.2) (g := (mkF m 21 #[.val (.int (4 : Int32)), .val (.ref r39), .val (.int (4 : Int32)), .val (.int (1 : Int32)), .val (.ref c_SHA_256)] [(.ref c_SHA_256)])) rfl rfl (hb hby d2_21)
  refine own_st st41 ?_
  show own_go _ _ _ _ _ _ _ (T41.setTop (mkF m 24 #[.val (.int (4 : Int32)), .val (.ref r39), .val (.int (4 : Int32)), .val (.int (1 : Int32)), .val (.ref c_SHA_256)] [(.int (2 : Int32))]))
  refine own_st (fun _ k => XS.iloadN X41.here hx rfl (hb hby d2_24) rfl k) ?_
  show own_go _ _ _ _ _ _ _ (T41.setTop (mkF m 25 #[.val (.int (4 : Int32)), .val (.ref r39), .val (.int (4 : Int32)), .val (.int (1 : Int32)), .val (.ref c_SHA_256)] [(.int (4 : Int32)), (.int (2 : Int32))]))
  refine own_st (fun _ k => XS.icmpYes X41.here hx rfl (pc0 := 25) (pc' := 34) rfl (hb hby d2_25) rfl (by decide) (by decide) (by decide) k) ?_
  show own_go _ _ _ _ _ _ _ (T41.setTop (mkF m 34 #[.val (.int (4 : Int32)), .val (.ref r39), .val (.int (4 : Int32)), .val (.int (1 : Int32)), .val (.ref c_SHA_256)] []))
  refine own_st (fun _ k => XS.iinc X41.here hx rfl (hb hby d2_34) rfl (l' := #[.val (.int (4 : Int32)), .val (.ref r39), .val (.int (4 : Int32)), .val (.int (2 : Int32)), .val (.ref c_SHA_256)]) rfl k) ?_
  show own_go _ _ _ _ _ _ _ (T41.setTop (mkF m 37 #[.val (.int (4 : Int32)), .val (.ref r39), .val (.int (4 : Int32)), .val (.int (2 : Int32)), .val (.ref c_SHA_256)] []))
  refine own_st (fun _ k => XS.goto X41.here hx rfl (pc0 := 37) (pc' := 9) rfl (hb hby d2_37) (by decide) (by decide) k) ?_
  show own_go _ _ _ _ _ _ _ (T41.setTop (mkF m 9 #[.val (.int (4 : Int32)), .val (.ref r39), .val (.int (4 : Int32)), .val (.int (2 : Int32)), .val (.ref c_SHA_256)] []))
  refine own_st (fun _ k => XS.iloadN X41.here hx rfl (hb hby d2_9) rfl k) ?_
  show own_go _ _ _ _ _ _ _ (T41.setTop (mkF m 10 #[.val (.int (4 : Int32)), .val (.ref r39), .val (.int (4 : Int32)), .val (.int (2 : Int32)), .val (.ref c_SHA_256)] [(.int (2 : Int32))]))
  refine own_st (fun _ k => XS.iloadN X41.here hx rfl (hb hby d2_10) rfl k) ?_
  show own_go _ _ _ _ _ _ _ (T41.setTop (mkF m 11 #[.val (.int (4 : Int32)), .val (.ref r39), .val (.int (4 : Int32)), .val (.int (2 : Int32)), .val (.ref c_SHA_256)] [(.int (4 : Int32)), (.int (2 : Int32))]))
  refine own_st (fun _ k => XS.icmpNo X41.here hx rfl (hb hby d2_11) rfl (by decide) k) ?_
  show own_go _ _ _ _ _ _ _ (T41.setTop (mkF m 14 #[.val (.int (4 : Int32)), .val (.ref r39), .val (.int (4 : Int32)), .val (.int (2 : Int32)), .val (.ref c_SHA_256)] []))
  refine own_st (fun _ k => XS.aloadN X41.here hx rfl (hb hby d2_14) rfl rfl k) ?_
  show own_go _ _ _ _ _ _ _ (T41.setTop (mkF m 15 #[.val (.int (4 : Int32)), .val (.ref r39), .val (.int (4 : Int32)), .val (.int (2 : Int32)), .val (.ref c_SHA_256)] [(.ref r39)]))
  refine own_st (fun _ k => XS.iloadN X41.here hx rfl (hb hby d2_15) rfl k) ?_
  show own_go _ _ _ _ _ _ _ (T41.setTop (mkF m 16 #[.val (.int (4 : Int32)), .val (.ref r39), .val (.int (4 : Int32)), .val (.int (2 : Int32)), .val (.ref c_SHA_256)] [(.int (2 : Int32)), (.ref r39)]))
  refine own_st (own_get X41 hx hZ e41 V39 rfl (j := (2 : Int32)) (by decide) (v := (.ref c_SHA_384)) rfl (g := (mkF m 16 #[.val (.int (4 : Int32)), .val (.ref r39), .val (.int (4 : Int32)), .val (.int (2 : Int32)), .val (.ref c_SHA_256)] [(.int (2 : Int32)), (.ref r39)])) rfl rfl (hb hby d2_16)) ?_
  show own_go _ _ _ _ _ _ _ (T41.setTop (mkF m 17 #[.val (.int (4 : Int32)), .val (.ref r39), .val (.int (4 : Int32)), .val (.int (2 : Int32)), .val (.ref c_SHA_256)] [(.ref c_SHA_384)]))
  refine own_st (fun _ k => XS.astore X41.here hx rfl (hb hby d2_17) rfl rfl (l' := #[.val (.int (4 : Int32)), .val (.ref r39), .val (.int (4 : Int32)), .val (.int (2 : Int32)), .val (.ref c_SHA_384)]) rfl k) ?_
  show own_go _ _ _ _ _ _ _ (T41.setTop (mkF m 19 #[.val (.int (4 : Int32)), .val (.ref r39), .val (.int (4 : Int32)), .val (.int (2 : Int32)), .val (.ref c_SHA_384)] []))
  refine own_st (fun _ k => XS.aload X41.here hx rfl (hb hby d2_19) rfl rfl k) ?_
  show own_go _ _ _ _ _ _ _ (T41.setTop (mkF m 21 #[.val (.int (4 : Int32)), .val (.ref r39), .val (.int (4 : Int32)), .val (.int (2 : Int32)), .val (.ref c_SHA_384)] [(.ref c_SHA_384)]))
  obtain ⟨T42, X42, e42, st42⟩ := getF X41 hx hZ hown (host := "") (Or.inl (hw _ (List.mem_of_getElem? (i := 27) rfl))) Via.refl e41 (hS.2.2.2.2.2.2.2.2.2.2.2.2.1.ext O39.2) (g := (mkF m 21 #[.val (.int (4 : Int32)), .val (.ref r39), .val (.int (4 : Int32)), .val (.int (2 : Int32)), .val (.ref c_SHA_384)] [(.ref c_SHA_384)])) rfl rfl (hb hby d2_21)
  refine own_st st42 ?_
  show own_go _ _ _ _ _ _ _ (T42.setTop (mkF m 24 #[.val (.int (4 : Int32)), .val (.ref r39), .val (.int (4 : Int32)), .val (.int (2 : Int32)), .val (.ref c_SHA_384)] [(.int (3 : Int32))]))
  refine own_st (fun _ k => XS.iloadN X42.here hx rfl (hb hby d2_24) rfl k) ?_
  show own_go _ _ _ _ _ _ _ (T42.setTop (mkF m 25 #[.val (.int (4 : Int32)), .val (.ref r39), .val (.int (4 : Int32)), .val (.int (2 : Int32)), .val (.ref c_SHA_384)] [(.int (4 : Int32)), (.int (3 : Int32))]))
  refine own_st (fun _ k => XS.icmpYes X42.here hx rfl (pc0 := 25) (pc' := 34) rfl (hb hby d2_25) rfl (by decide) (by decide) (by decide) k) ?_
  show own_go _ _ _ _ _ _ _ (T42.setTop (mkF m 34 #[.val (.int (4 : Int32)), .val (.ref r39), .val (.int (4 : Int32)), .val (.int (2 : Int32)), .val (.ref c_SHA_384)] []))
  refine own_st (fun _ k => XS.iinc X42.here hx rfl (hb hby d2_34) rfl (l' := #[.val (.int (4 : Int32)), .val (.ref r39), .val (.int (4 : Int32)), .val (.int (3 : Int32)), .val (.ref c_SHA_384)]) rfl k) ?_
  show own_go _ _ _ _ _ _ _ (T42.setTop (mkF m 37 #[.val (.int (4 : Int32)), .val (.ref r39), .val (.int (4 : Int32)), .val (.int (3 : Int32)), .val (.ref c_SHA_384)] []))
  refine own_st (fun _ k => XS.goto X42.here hx rfl (pc0 := 37) (pc' := 9) rfl (hb hby d2_37) (by decide) (by decide) k) ?_
  show own_go _ _ _ _ _ _ _ (T42.setTop (mkF m 9 #[.val (.int (4 : Int32)), .val (.ref r39), .val (.int (4 : Int32)), .val (.int (3 : Int32)), .val (.ref c_SHA_384)] []))
  refine own_st (fun _ k => XS.iloadN X42.here hx rfl (hb hby d2_9) rfl k) ?_
  show own_go _ _ _ _ _ _ _ (T42.setTop (mkF m 10 #[.val (.int (4 : Int32)), .val (.ref r39), .val (.int (4 : Int32)), .val (.int (3 : Int32)), .val (.ref c_SHA_384)] [(.int (3 : Int32))]))
  refine own_st (fun _ k => XS.iloadN X42.here hx rfl (hb hby d2_10) rfl k) ?_
  show own_go _ _ _ _ _ _ _ (T42.setTop (mkF m 11 #[.val (.int (4 : Int32)), .val (.ref r39), .val (.int (4 : Int32)), .val (.int (3 : Int32)), .val (.ref c_SHA_384)] [(.int (4 : Int32)), (.int (3 : Int32))]))
  refine own_st (fun _ k => XS.icmpNo X42.here hx rfl (hb hby d2_11) rfl (by decide) k) ?_
  show own_go _ _ _ _ _ _ _ (T42.setTop (mkF m 14 #[.val (.int (4 : Int32)), .val (.ref r39), .val (.int (4 : Int32)), .val (.int (3 : Int32)), .val (.ref c_SHA_384)] []))
  refine own_st (fun _ k => XS.aloadN X42.here hx rfl (hb hby d2_14) rfl rfl k) ?_
  show own_go _ _ _ _ _ _ _ (T42.setTop (mkF m 15 #[.val (.int (4 : Int32)), .val (.ref r39), .val (.int (4 : Int32)), .val (.int (3 : Int32)), .val (.ref c_SHA_384)] [(.ref r39)]))
  refine own_st (fun _ k => XS.iloadN X42.here hx rfl (hb hby d2_15) rfl k) ?_
  show own_go _ _ _ _ _ _ _ (T42.setTop (mkF m 16 #[.val (.int (4 : Int32)), .val (.ref r39), .val (.int (4 : Int32)), .val (.int (3 : Int32)), .val (.ref c_SHA_384)] [(.int (3 : Int32)), (.ref r39)]))
  refine own_st (own_get X42 hx hZ e42 V39 rfl (j := (3 : Int32)) (by decide) (v := (.ref c_SHA_512)) rfl (g := (mkF m 16 #[.val (.int (4 : Int32)), .val (.ref r39), .val (.int (4 : Int32)), .val (.int (3 : Int32)), .val (.ref c_SHA_384)] [(.int (3 : Int32)), (.ref r39)])) rfl rfl (hb hby d2_16)) ?_
  show own_go _ _ _ _ _ _ _ (T42.setTop (mkF m 17 #[.val (.int (4 : Int32)), .val (.ref r39), .val (.int (4 : Int32)), .val (.int (3 : Int32)), .val (.ref c_SHA_384)] [(.ref c_SHA_512)]))
  refine own_st (fun _ k => XS.astore X42.here hx rfl (hb hby d2_17) rfl rfl (l' := #[.val (.int (4 : Int32)), .val (.ref r39), .val (.int (4 : Int32)), .val (.int (3 : Int32)), .val (.ref c_SHA_512)]) rfl k) ?_
  show own_go _ _ _ _ _ _ _ (T42.setTop (mkF m 19 #[.val (.int (4 : Int32)), .val (.ref r39), .val (.int (4 : Int32)), .val (.int (3 : Int32)), .val (.ref c_SHA_512)] []))
  refine own_st (fun _ k => XS.aload X42.here hx rfl (hb hby d2_19) rfl rfl k) ?_
  show own_go _ _ _ _ _ _ _ (T42.setTop (mkF m 21 #[.val (.int (4 : Int32)), .val (.ref r39), .val (.int (4 : Int32)), .val (.int (3 : Int32)), .val (.ref c_SHA_512)] [(.ref c_SHA_512)]))
  obtain ⟨T43, X43, e43, st43⟩ := getF X42 hx hZ hown (host := "") (Or.inl (hw _ (List.mem_of_getElem? (i := 27) rfl))) Via.refl e42 (hS.2.2.2.2.2.2.2.2.2.2.2.2.2.1.ext O39.2) (g := (mkF m 21 #[.val (.int (4 : Int32)), .val (.ref r39), .val (.int (4 : Int32)), .val (.int (3 : Int32)), .val (.ref c_SHA_512)] [(.ref c_SHA_512)])) rfl rfl (hb hby d2_21)
  refine own_st st43 ?_
  show own_go _ _ _ _ _ _ _ (T43.setTop (mkF m 24 #[.val (.int (4 : Int32)), .val (.ref r39), .val (.int (4 : Int32)), .val (.int (3 : Int32)), .val (.ref c_SHA_512)] [(.int (4 : Int32))]))
  refine own_st (fun _ k => XS.iloadN X43.here hx rfl (hb hby d2_24) rfl k) ?_
  show own_go _ _ _ _ _ _ _ (T43.setTop (mkF m 25 #[.val (.int (4 : Int32)), .val (.ref r39), .val (.int (4 : Int32)), .val (.int (3 : Int32)), .val (.ref c_SHA_512)] [(.int (4 : Int32)), (.int (4 : Int32))]))
  refine own_st (fun _ k => XS.icmpNo X43.here hx rfl (hb hby d2_25) rfl (by decide) k) ?_
  show own_go _ _ _ _ _ _ _ (T43.setTop (mkF m 28 #[.val (.int (4 : Int32)), .val (.ref r39), .val (.int (4 : Int32)), .val (.int (3 : Int32)), .val (.ref c_SHA_512)] []))
  refine own_st (fun _ k => XS.aload X43.here hx rfl (hb hby d2_28) rfl rfl k) ?_
  show own_go _ _ _ _ _ _ _ (T43.setTop (mkF m 30 #[.val (.int (4 : Int32)), .val (.ref r39), .val (.int (4 : Int32)), .val (.int (3 : Int32)), .val (.ref c_SHA_512)] [(.ref c_SHA_512)]))
  obtain ⟨v44, T44, L44, X44, hQ44, st44⟩ := own_callS X43 hx hZ (argsL := [(.ref c_SHA_512)]) (rest := []) (rmo_of l Z a0 hw c_SHA_512 T39.heap n0 O39) hown (hw _ (List.mem_of_getElem? (i := 42) rfl)) (hw _ (List.mem_of_getElem? (i := 43) rfl)) (hw _ (List.mem_of_getElem? (i := 31) rfl)) (hw _ (List.mem_of_getElem? (i := 44) rfl)) (by decide) e43 (g := (mkF m 30 #[.val (.int (4 : Int32)), .val (.ref r39), .val (.int (4 : Int32)), .val (.int (3 : Int32)), .val (.ref c_SHA_512)] [(.ref c_SHA_512)])) rfl (by rw [hml]; rfl) (lenOf own_pd__28Ljava_2flang_2fObject_3b_29Ljava_2futil_2fOptional_3b rfl) rfl (W := 0) (by show 2 * 0 + _ ≤ _; exact Nat.le_of_eq rfl) (hb hby d2_30) (by decide) (by decide) (by decide) (by decide)
  obtain ⟨r44, rfl, Nq44, Kq44, sz44, A44, F44_0⟩ := hQ44
  have N44 := Fr.app N39 Nq44
  have ne_r39_r44 : r39 ≠ r44 := (Nat.ne_of_lt (Nat.lt_of_lt_of_le V39.lt sz44))
  have O44 := O39.keep Kq44 all0
  have K44 := K39.trans Kq44 all0
  refine own_st st44 ?_
  show own_go _ _ _ _ _ _ _ (T44.setTop (mkF m 33 #[.val (.int (4 : Int32)), .val (.ref r39), .val (.int (4 : Int32)), .val (.int (3 : Int32)), .val (.ref c_SHA_512)] [(.ref r44)]))
  exact own_retA X44 hx hlk hret rfl rfl (hb hby d2_33) (by decide) (by decide) ⟨_, rfl, N44, K44, (Nat.le_trans K39.1 sz44), A44, F44_0⟩
theorem own_five (z : Int32) : z = (1 : Int32) ∨ z = (2 : Int32) ∨ z = (3 : Int32) ∨ z = (4 : Int32) ∨ (¬ z = (1 : Int32) ∧ ¬ z = (2 : Int32) ∧ ¬ z = (3 : Int32) ∧ ¬ z = (4 : Int32)) := by
  by_cases h1 : z = 1
  · exact Or.inl h1
  by_cases h2 : z = 2
  · exact Or.inr (Or.inl h2)
  by_cases h3 : z = 3
  · exact Or.inr (Or.inr (Or.inl h3))
  by_cases h4 : z = 4
  · exact Or.inr (Or.inr (Or.inr (Or.inl h4)))
  · exact Or.inr (Or.inr (Or.inr (Or.inr ⟨h1, h2, h3, h4⟩)))
theorem own_pn_0 : plainFor x = true := plainFor_of_name (show plainName "com/example/watchword/watchword/model/SrpHashByIdPinLaw" = true by first | (simp [plainName, overriddenIn]; done) | decide +kernel)
theorem own_pd__28B_29Lcom_2fexample_2fwatchword_2fwatchword_2fmodel_2fSrpHash_3b : parseMethodDescriptor "(B)Lcom/example/watchword/watchword/model/SrpHash;" = some ⟨[.byte], some (.object "com/example/watchword/watchword/model/SrpHash")⟩ := by decide +kernel
theorem own_pd__28B_29Ljava_2futil_2fOptional_3b : parseMethodDescriptor "(B)Ljava/util/Optional;" = some ⟨[.byte], some (.object "java/util/Optional")⟩ := by decide +kernel
theorem own_pd__28_29Z : parseMethodDescriptor "()Z" = some ⟨[], some .boolean⟩ := by decide +kernel
theorem own_pd__28_29Ljava_2flang_2fObject_3b : parseMethodDescriptor "()Ljava/lang/Object;" = some ⟨[], some (.object "java/lang/Object")⟩ := by decide +kernel
theorem own_ef_rm0 (m : MethodId) (p0 : Int32) : entryFrame m #[(.int p0)] maxLocals = mkF m 0 #[.val (.int p0), .unset, .unset, .unset] [] := by first | (simp [entryFrame, mkF, argsToLocals, Value.category, maxLocals]; done) | rfl
set_option maxRecDepth 65536 in
set_option maxHeartbeats 40000000 in
theorem rm0 (l : Launch) (Z : State) (a0 : Array Value) (hw : ∀ d ∈ tables_1, d.before a0 Z = true) (ws : List Jvm.Cond) (p0 : Int32) (c__VALUES c_SHA_1 c_SHA_256 c_SHA_384 c_SHA_512 c_EMPTY : Addr) (h0 : Heap) (n0 : Nat) (O0 : Old Z n0 h0) (hS : own_S Z c__VALUES c_SHA_1 c_SHA_256 c_SHA_384 c_SHA_512 c_EMPTY) :
    own_Met l Z x code maxLocals ret ws room_1 #[(.int p0)] h0 (fun v h L => v = some (.int 1) ∧ Fr n0 L) := by
  refine own_body own_pn_0 ?_
  intro p e s m below meth c s₁ hx hby hml hown hnm hret hlk X0 hZ e0
  replace hown : s.vm.findClass "com/example/watchword/watchword/model/SrpHashByIdPinLaw" = some m.cls := hown
  have N0 := Fr.nil n0
  have K0 := Keep.refl h0 []
  refine own_st (fun _ k => castTop (own_ef_rm0 m p0) k) ?_
  show own_go _ _ _ _ _ _ _ (s₁.setTop (mkF m 0 #[.val (.int p0), .unset, .unset, .unset] []))
  refine own_st (fun _ k => XS.iloadN X0.here hx rfl (hb hby at_0) rfl k) ?_
  show own_go _ _ _ _ _ _ _ (s₁.setTop (mkF m 1 #[.val (.int p0), .unset, .unset, .unset] [(.int p0)]))
  refine own_st (fun _ k => XS.i2b X0.here hx rfl (hb hby at_1) rfl k) ?_
  show own_go _ _ _ _ _ _ _ (s₁.setTop (mkF m 2 #[.val (.int p0), .unset, .unset, .unset] [(.int (p0.toInt8.toInt32))]))
  rcases own_five (p0.toInt8.toInt32) with q | q | q | q | q
  · skip
    rw [q]
    show own_go _ _ _ _ _ _ _ (s₁.setTop (mkF m 2 #[.val (.int p0), .unset, .unset, .unset] [(.int (1 : Int32))]))
    refine own_st (fun _ k => XS.istoreN X0.here hx rfl (hb hby at_2) rfl (l' := #[.val (.int p0), .val (.int (1 : Int32)), .unset, .unset]) rfl k) ?_
    show own_go _ _ _ _ _ _ _ (s₁.setTop (mkF m 3 #[.val (.int p0), .val (.int (1 : Int32)), .unset, .unset] []))
    refine own_st (fun _ k => XS.iloadN X0.here hx rfl (hb hby at_3) rfl k) ?_
    show own_go _ _ _ _ _ _ _ (s₁.setTop (mkF m 4 #[.val (.int p0), .val (.int (1 : Int32)), .unset, .unset] [(.int (1 : Int32))]))
    obtain ⟨v45, T45, L45, X45, hQ45, st45⟩ := own_callS X0 hx hZ (argsL := [(.int (1 : Int32))]) (rest := []) (rmx_1 l Z a0 hw c__VALUES c_SHA_1 c_SHA_256 c_SHA_384 c_SHA_512 c_EMPTY h0 n0 O0 hS) hown (hw _ (List.mem_of_getElem? (i := 0) rfl)) (hw _ (List.mem_of_getElem? (i := 1) rfl)) (hw _ (List.mem_of_getElem? (i := 2) rfl)) (hw _ (List.mem_of_getElem? (i := 3) rfl)) (by decide) e0 (g := (mkF m 4 #[.val (.int p0), .val (.int (1 : Int32)), .unset, .unset] [(.int (1 : Int32))])) rfl (by rw [hml]; rfl) (lenOf own_pd__28B_29Lcom_2fexample_2fwatchword_2fwatchword_2fmodel_2fSrpHash_3b rfl) rfl (W := 0) (by show 2 * 0 + _ ≤ _; exact Nat.le_of_eq rfl) (hb hby at_4) (by decide) (by decide) (by decide) (by decide)
    obtain ⟨rfl, Nq45, eq45⟩ := hQ45
    have N45 := Fr.app N0 Nq45
    refine own_st st45 ?_
    show own_go _ _ _ _ _ _ _ (T45.setTop (mkF m 7 #[.val (.int p0), .val (.int (1 : Int32)), .unset, .unset] [(.ref c_SHA_1)]))
    refine own_st (fun _ k => XS.astoreN X45.here hx rfl (hb hby at_7) rfl rfl (l' := #[.val (.int p0), .val (.int (1 : Int32)), .val (.ref c_SHA_1), .unset]) rfl k) ?_
    show own_go _ _ _ _ _ _ _ (T45.setTop (mkF m 8 #[.val (.int p0), .val (.int (1 : Int32)), .val (.ref c_SHA_1), .unset] []))
    refine own_st (fun _ k => XS.iloadN X45.here hx rfl (hb hby at_8) rfl k) ?_
    show own_go _ _ _ _ _ _ _ (T45.setTop (mkF m 9 #[.val (.int p0), .val (.int (1 : Int32)), .val (.ref c_SHA_1), .unset] [(.int (1 : Int32))]))
    obtain ⟨v46, T46, L46, X46, hQ46, st46⟩ := own_callS X45 hx hZ (argsL := [(.int (1 : Int32))]) (rest := []) (rmb_1 l Z a0 hw c__VALUES c_SHA_1 c_SHA_256 c_SHA_384 c_SHA_512 c_EMPTY h0 n0 O0 hS) hown (hw _ (List.mem_of_getElem? (i := 4) rfl)) (hw _ (List.mem_of_getElem? (i := 5) rfl)) (hw _ (List.mem_of_getElem? (i := 6) rfl)) (hw _ (List.mem_of_getElem? (i := 7) rfl)) (by decide) eq45 (g := (mkF m 9 #[.val (.int p0), .val (.int (1 : Int32)), .val (.ref c_SHA_1), .unset] [(.int (1 : Int32))])) rfl (by rw [hml]; rfl) (lenOf own_pd__28B_29Ljava_2futil_2fOptional_3b rfl) rfl (W := 0) (by show 2 * 0 + _ ≤ _; exact Nat.le_of_eq rfl) (hb hby at_9) (by decide) (by decide) (by decide) (by decide)
    obtain ⟨r46, rfl, Nq46, Kq46, sz46, A46, F46_0⟩ := hQ46
    have N46 := Fr.app N45 Nq46
    have O46 := O0.keep Kq46 all0
    have K46 := K0.trans Kq46 all0
    refine own_st st46 ?_
    show own_go _ _ _ _ _ _ _ (T46.setTop (mkF m 12 #[.val (.int p0), .val (.int (1 : Int32)), .val (.ref c_SHA_1), .unset] [(.ref r46)]))
    refine own_st (fun _ k => XS.astoreN X46.here hx rfl (hb hby at_12) rfl rfl (l' := #[.val (.int p0), .val (.int (1 : Int32)), .val (.ref c_SHA_1), .val (.ref r46)]) rfl k) ?_
    show own_go _ _ _ _ _ _ _ (T46.setTop (mkF m 13 #[.val (.int p0), .val (.int (1 : Int32)), .val (.ref c_SHA_1), .val (.ref r46)] []))
    refine own_st (fun _ k => XS.aloadN X46.here hx rfl (hb hby at_13) rfl rfl k) ?_
    show own_go _ _ _ _ _ _ _ (T46.setTop (mkF m 14 #[.val (.int p0), .val (.int (1 : Int32)), .val (.ref c_SHA_1), .val (.ref r46)] [(.ref r46)]))
    refine own_st (fun _ k => XS.ifnonnullYes X46.here hx rfl (pc0 := 14) (pc' := 19) rfl (hb hby at_14) rfl (by decide) (by decide) k) ?_
    show own_go _ _ _ _ _ _ _ (T46.setTop (mkF m 19 #[.val (.int p0), .val (.int (1 : Int32)), .val (.ref c_SHA_1), .val (.ref r46)] []))
    refine own_st (fun _ k => XS.aloadN X46.here hx rfl (hb hby at_19) rfl rfl k) ?_
    show own_go _ _ _ _ _ _ _ (T46.setTop (mkF m 20 #[.val (.int p0), .val (.int (1 : Int32)), .val (.ref c_SHA_1), .val (.ref r46)] [(.ref c_SHA_1)]))
    refine own_st (fun _ k => XS.ifnonnullYes X46.here hx rfl (pc0 := 20) (pc' := 36) rfl (hb hby at_20) rfl (by decide) (by decide) k) ?_
    show own_go _ _ _ _ _ _ _ (T46.setTop (mkF m 36 #[.val (.int p0), .val (.int (1 : Int32)), .val (.ref c_SHA_1), .val (.ref r46)] []))
    refine own_st (fun _ k => XS.aloadN X46.here hx rfl (hb hby at_36) rfl rfl k) ?_
    show own_go _ _ _ _ _ _ _ (T46.setTop (mkF m 37 #[.val (.int p0), .val (.int (1 : Int32)), .val (.ref c_SHA_1), .val (.ref r46)] [(.ref r46)]))
    obtain ⟨v47, T47, L47, X47, hQ47, st47⟩ := own_callV X46 hx hZ (argsL := []) (rest := []) (rmo_isPresent_R l Z a0 hw r46 c_SHA_1 T46.heap n0 O46 F46_0) hown (hw _ (List.mem_of_getElem? (i := 34) rfl)) (hw _ (List.mem_of_getElem? (i := 35) rfl)) (notFace_of_selects (args := #[]) (mvT hZ (hw _ (List.mem_of_getElem? (i := 37) rfl)))) (hw _ (List.mem_of_getElem? (i := 37) rfl)) (hw _ (List.mem_of_getElem? (i := 36) rfl)) (hw _ (List.mem_of_getElem? (i := 31) rfl)) (hw _ (List.mem_of_getElem? (i := 38) rfl)) (by decide) rfl A46 (g := (mkF m 37 #[.val (.int p0), .val (.int (1 : Int32)), .val (.ref c_SHA_1), .val (.ref r46)] [(.ref r46)])) rfl (by rw [hml]; rfl) (lenOf own_pd__28_29Z rfl) rfl (W := 0) (by show 2 * 0 + _ ≤ _; exact Nat.le_of_eq rfl) (hb hby at_37) (by decide) (by decide) (by decide) (by decide)
    obtain ⟨rfl, Nq47, eq47⟩ := hQ47
    have N47 := Fr.app N46 Nq47
    refine own_st st47 ?_
    show own_go _ _ _ _ _ _ _ (T47.setTop (mkF m 40 #[.val (.int p0), .val (.int (1 : Int32)), .val (.ref c_SHA_1), .val (.ref r46)] [(.int (1 : Int32))]))
    refine own_st (fun _ k => XS.ifNo X47.here hx rfl (hb hby at_40) rfl (by decide) k) ?_
    show own_go _ _ _ _ _ _ _ (T47.setTop (mkF m 43 #[.val (.int p0), .val (.int (1 : Int32)), .val (.ref c_SHA_1), .val (.ref r46)] []))
    refine own_st (fun _ k => XS.aloadN X47.here hx rfl (hb hby at_43) rfl rfl k) ?_
    show own_go _ _ _ _ _ _ _ (T47.setTop (mkF m 44 #[.val (.int p0), .val (.int (1 : Int32)), .val (.ref c_SHA_1), .val (.ref r46)] [(.ref r46)]))
    obtain ⟨v48, T48, L48, X48, hQ48, st48⟩ := own_callV X47 hx hZ (argsL := []) (rest := []) (rmo_get_R l Z a0 hw r46 c_SHA_1 T46.heap n0 O46 F46_0) hown (hw _ (List.mem_of_getElem? (i := 58) rfl)) (hw _ (List.mem_of_getElem? (i := 59) rfl)) (notFace_of_selects (args := #[]) (mvT hZ (hw _ (List.mem_of_getElem? (i := 61) rfl)))) (hw _ (List.mem_of_getElem? (i := 61) rfl)) (hw _ (List.mem_of_getElem? (i := 60) rfl)) (hw _ (List.mem_of_getElem? (i := 31) rfl)) (hw _ (List.mem_of_getElem? (i := 62) rfl)) (by decide) eq47 A46 (g := (mkF m 44 #[.val (.int p0), .val (.int (1 : Int32)), .val (.ref c_SHA_1), .val (.ref r46)] [(.ref r46)])) rfl (by rw [hml]; rfl) (lenOf own_pd__28_29Ljava_2flang_2fObject_3b rfl) rfl (W := 0) (by show 2 * 0 + _ ≤ _; exact Nat.le_of_eq rfl) (hb hby at_44) (by decide) (by decide) (by decide) (by decide)
    obtain ⟨rfl, Nq48, eq48⟩ := hQ48
    have N48 := Fr.app N47 Nq48
    refine own_st st48 ?_
    show own_go _ _ _ _ _ _ _ (T48.setTop (mkF m 47 #[.val (.int p0), .val (.int (1 : Int32)), .val (.ref c_SHA_1), .val (.ref r46)] [(.ref c_SHA_1)]))
    refine own_st (fun _ k => XS.aloadN X48.here hx rfl (hb hby at_47) rfl rfl k) ?_
    show own_go _ _ _ _ _ _ _ (T48.setTop (mkF m 48 #[.val (.int p0), .val (.int (1 : Int32)), .val (.ref c_SHA_1), .val (.ref r46)] [(.ref c_SHA_1), (.ref c_SHA_1)]))
    refine own_st (fun _ k => Jvm.RoadKit.acmp (g := (mkF m 48 #[.val (.int p0), .val (.int (1 : Int32)), .val (.ref c_SHA_1), .val (.ref r46)] [(.ref c_SHA_1), (.ref c_SHA_1)])) X48 hx rfl rfl rfl (pc0 := 48) (pc' := 51) (same := true) rfl (hb hby at_48) rfl (decide_eq_true rfl) (by decide) (by decide) k) ?_
    show own_go _ _ _ _ _ _ _ (T48.setTop (mkF m 51 #[.val (.int p0), .val (.int (1 : Int32)), .val (.ref c_SHA_1), .val (.ref r46)] []))
    refine own_st (fun _ k => XS.iconst X48.here hx rfl (hb hby at_51) k) ?_
    show own_go _ _ _ _ _ _ _ (T48.setTop (mkF m 52 #[.val (.int p0), .val (.int (1 : Int32)), .val (.ref c_SHA_1), .val (.ref r46)] [(.int (1 : Int32))]))
    refine own_st (fun _ k => XS.goto X48.here hx rfl (pc0 := 52) (pc' := 56) rfl (hb hby at_52) (by decide) (by decide) k) ?_
    show own_go _ _ _ _ _ _ _ (T48.setTop (mkF m 56 #[.val (.int p0), .val (.int (1 : Int32)), .val (.ref c_SHA_1), .val (.ref r46)] [(.int (1 : Int32))]))
    exact own_retN X48 hx hlk (t := .boolean) hret (by simp) rfl (hb hby at_56) (by decide) (by decide) (⟨rfl, N48⟩)
  · skip
    rw [q]
    show own_go _ _ _ _ _ _ _ (s₁.setTop (mkF m 2 #[.val (.int p0), .unset, .unset, .unset] [(.int (2 : Int32))]))
    refine own_st (fun _ k => XS.istoreN X0.here hx rfl (hb hby at_2) rfl (l' := #[.val (.int p0), .val (.int (2 : Int32)), .unset, .unset]) rfl k) ?_
    show own_go _ _ _ _ _ _ _ (s₁.setTop (mkF m 3 #[.val (.int p0), .val (.int (2 : Int32)), .unset, .unset] []))
    refine own_st (fun _ k => XS.iloadN X0.here hx rfl (hb hby at_3) rfl k) ?_
    show own_go _ _ _ _ _ _ _ (s₁.setTop (mkF m 4 #[.val (.int p0), .val (.int (2 : Int32)), .unset, .unset] [(.int (2 : Int32))]))
    obtain ⟨v49, T49, L49, X49, hQ49, st49⟩ := own_callS X0 hx hZ (argsL := [(.int (2 : Int32))]) (rest := []) (rmx_2 l Z a0 hw c__VALUES c_SHA_1 c_SHA_256 c_SHA_384 c_SHA_512 c_EMPTY h0 n0 O0 hS) hown (hw _ (List.mem_of_getElem? (i := 0) rfl)) (hw _ (List.mem_of_getElem? (i := 1) rfl)) (hw _ (List.mem_of_getElem? (i := 2) rfl)) (hw _ (List.mem_of_getElem? (i := 3) rfl)) (by decide) e0 (g := (mkF m 4 #[.val (.int p0), .val (.int (2 : Int32)), .unset, .unset] [(.int (2 : Int32))])) rfl (by rw [hml]; rfl) (lenOf own_pd__28B_29Lcom_2fexample_2fwatchword_2fwatchword_2fmodel_2fSrpHash_3b rfl) rfl (W := 0) (by show 2 * 0 + _ ≤ _; exact Nat.le_of_eq rfl) (hb hby at_4) (by decide) (by decide) (by decide) (by decide)
    obtain ⟨rfl, Nq49, eq49⟩ := hQ49
    have N49 := Fr.app N0 Nq49
    refine own_st st49 ?_
    show own_go _ _ _ _ _ _ _ (T49.setTop (mkF m 7 #[.val (.int p0), .val (.int (2 : Int32)), .unset, .unset] [(.ref c_SHA_256)]))
    refine own_st (fun _ k => XS.astoreN X49.here hx rfl (hb hby at_7) rfl rfl (l' := #[.val (.int p0), .val (.int (2 : Int32)), .val (.ref c_SHA_256), .unset]) rfl k) ?_
    show own_go _ _ _ _ _ _ _ (T49.setTop (mkF m 8 #[.val (.int p0), .val (.int (2 : Int32)), .val (.ref c_SHA_256), .unset] []))
    refine own_st (fun _ k => XS.iloadN X49.here hx rfl (hb hby at_8) rfl k) ?_
    show own_go _ _ _ _ _ _ _ (T49.setTop (mkF m 9 #[.val (.int p0), .val (.int (2 : Int32)), .val (.ref c_SHA_256), .unset] [(.int (2 : Int32))]))
    obtain ⟨v50, T50, L50, X50, hQ50, st50⟩ := own_callS X49 hx hZ (argsL := [(.int (2 : Int32))]) (rest := []) (rmb_2 l Z a0 hw c__VALUES c_SHA_1 c_SHA_256 c_SHA_384 c_SHA_512 c_EMPTY h0 n0 O0 hS) hown (hw _ (List.mem_of_getElem? (i := 4) rfl)) (hw _ (List.mem_of_getElem? (i := 5) rfl)) (hw _ (List.mem_of_getElem? (i := 6) rfl)) (hw _ (List.mem_of_getElem? (i := 7) rfl)) (by decide) eq49 (g := (mkF m 9 #[.val (.int p0), .val (.int (2 : Int32)), .val (.ref c_SHA_256), .unset] [(.int (2 : Int32))])) rfl (by rw [hml]; rfl) (lenOf own_pd__28B_29Ljava_2futil_2fOptional_3b rfl) rfl (W := 0) (by show 2 * 0 + _ ≤ _; exact Nat.le_of_eq rfl) (hb hby at_9) (by decide) (by decide) (by decide) (by decide)
    obtain ⟨r50, rfl, Nq50, Kq50, sz50, A50, F50_0⟩ := hQ50
    have N50 := Fr.app N49 Nq50
    have O50 := O0.keep Kq50 all0
    have K50 := K0.trans Kq50 all0
    refine own_st st50 ?_
    show own_go _ _ _ _ _ _ _ (T50.setTop (mkF m 12 #[.val (.int p0), .val (.int (2 : Int32)), .val (.ref c_SHA_256), .unset] [(.ref r50)]))
    refine own_st (fun _ k => XS.astoreN X50.here hx rfl (hb hby at_12) rfl rfl (l' := #[.val (.int p0), .val (.int (2 : Int32)), .val (.ref c_SHA_256), .val (.ref r50)]) rfl k) ?_
    show own_go _ _ _ _ _ _ _ (T50.setTop (mkF m 13 #[.val (.int p0), .val (.int (2 : Int32)), .val (.ref c_SHA_256), .val (.ref r50)] []))
    refine own_st (fun _ k => XS.aloadN X50.here hx rfl (hb hby at_13) rfl rfl k) ?_
    show own_go _ _ _ _ _ _ _ (T50.setTop (mkF m 14 #[.val (.int p0), .val (.int (2 : Int32)), .val (.ref c_SHA_256), .val (.ref r50)] [(.ref r50)]))
    refine own_st (fun _ k => XS.ifnonnullYes X50.here hx rfl (pc0 := 14) (pc' := 19) rfl (hb hby at_14) rfl (by decide) (by decide) k) ?_
    show own_go _ _ _ _ _ _ _ (T50.setTop (mkF m 19 #[.val (.int p0), .val (.int (2 : Int32)), .val (.ref c_SHA_256), .val (.ref r50)] []))
    refine own_st (fun _ k => XS.aloadN X50.here hx rfl (hb hby at_19) rfl rfl k) ?_
    show own_go _ _ _ _ _ _ _ (T50.setTop (mkF m 20 #[.val (.int p0), .val (.int (2 : Int32)), .val (.ref c_SHA_256), .val (.ref r50)] [(.ref c_SHA_256)]))
    refine own_st (fun _ k => XS.ifnonnullYes X50.here hx rfl (pc0 := 20) (pc' := 36) rfl (hb hby at_20) rfl (by decide) (by decide) k) ?_
    show own_go _ _ _ _ _ _ _ (T50.setTop (mkF m 36 #[.val (.int p0), .val (.int (2 : Int32)), .val (.ref c_SHA_256), .val (.ref r50)] []))
    refine own_st (fun _ k => XS.aloadN X50.here hx rfl (hb hby at_36) rfl rfl k) ?_
    show own_go _ _ _ _ _ _ _ (T50.setTop (mkF m 37 #[.val (.int p0), .val (.int (2 : Int32)), .val (.ref c_SHA_256), .val (.ref r50)] [(.ref r50)]))
    obtain ⟨v51, T51, L51, X51, hQ51, st51⟩ := own_callV X50 hx hZ (argsL := []) (rest := []) (rmo_isPresent_R l Z a0 hw r50 c_SHA_256 T50.heap n0 O50 F50_0) hown (hw _ (List.mem_of_getElem? (i := 34) rfl)) (hw _ (List.mem_of_getElem? (i := 35) rfl)) (notFace_of_selects (args := #[]) (mvT hZ (hw _ (List.mem_of_getElem? (i := 37) rfl)))) (hw _ (List.mem_of_getElem? (i := 37) rfl)) (hw _ (List.mem_of_getElem? (i := 36) rfl)) (hw _ (List.mem_of_getElem? (i := 31) rfl)) (hw _ (List.mem_of_getElem? (i := 38) rfl)) (by decide) rfl A50 (g := (mkF m 37 #[.val (.int p0), .val (.int (2 : Int32)), .val (.ref c_SHA_256), .val (.ref r50)] [(.ref r50)])) rfl (by rw [hml]; rfl) (lenOf own_pd__28_29Z rfl) rfl (W := 0) (by show 2 * 0 + _ ≤ _; exact Nat.le_of_eq rfl) (hb hby at_37) (by decide) (by decide) (by decide) (by decide)
    obtain ⟨rfl, Nq51, eq51⟩ := hQ51
    have N51 := Fr.app N50 Nq51
    refine own_st st51 ?_
    show own_go _ _ _ _ _ _ _ (T51.setTop (mkF m 40 #[.val (.int p0), .val (.int (2 : Int32)), .val (.ref c_SHA_256), .val (.ref r50)] [(.int (1 : Int32))]))
    refine own_st (fun _ k => XS.ifNo X51.here hx rfl (hb hby at_40) rfl (by decide) k) ?_
    show own_go _ _ _ _ _ _ _ (T51.setTop (mkF m 43 #[.val (.int p0), .val (.int (2 : Int32)), .val (.ref c_SHA_256), .val (.ref r50)] []))
    refine own_st (fun _ k => XS.aloadN X51.here hx rfl (hb hby at_43) rfl rfl k) ?_
    show own_go _ _ _ _ _ _ _ (T51.setTop (mkF m 44 #[.val (.int p0), .val (.int (2 : Int32)), .val (.ref c_SHA_256), .val (.ref r50)] [(.ref r50)]))
    obtain ⟨v52, T52, L52, X52, hQ52, st52⟩ := own_callV X51 hx hZ (argsL := []) (rest := []) (rmo_get_R l Z a0 hw r50 c_SHA_256 T50.heap n0 O50 F50_0) hown (hw _ (List.mem_of_getElem? (i := 58) rfl)) (hw _ (List.mem_of_getElem? (i := 59) rfl)) (notFace_of_selects (args := #[]) (mvT hZ (hw _ (List.mem_of_getElem? (i := 61) rfl)))) (hw _ (List.mem_of_getElem? (i := 61) rfl)) (hw _ (List.mem_of_getElem? (i := 60) rfl)) (hw _ (List.mem_of_getElem? (i := 31) rfl)) (hw _ (List.mem_of_getElem? (i := 62) rfl)) (by decide) eq51 A50 (g := (mkF m 44 #[.val (.int p0), .val (.int (2 : Int32)), .val (.ref c_SHA_256), .val (.ref r50)] [(.ref r50)])) rfl (by rw [hml]; rfl) (lenOf own_pd__28_29Ljava_2flang_2fObject_3b rfl) rfl (W := 0) (by show 2 * 0 + _ ≤ _; exact Nat.le_of_eq rfl) (hb hby at_44) (by decide) (by decide) (by decide) (by decide)
    obtain ⟨rfl, Nq52, eq52⟩ := hQ52
    have N52 := Fr.app N51 Nq52
    refine own_st st52 ?_
    show own_go _ _ _ _ _ _ _ (T52.setTop (mkF m 47 #[.val (.int p0), .val (.int (2 : Int32)), .val (.ref c_SHA_256), .val (.ref r50)] [(.ref c_SHA_256)]))
    refine own_st (fun _ k => XS.aloadN X52.here hx rfl (hb hby at_47) rfl rfl k) ?_
    show own_go _ _ _ _ _ _ _ (T52.setTop (mkF m 48 #[.val (.int p0), .val (.int (2 : Int32)), .val (.ref c_SHA_256), .val (.ref r50)] [(.ref c_SHA_256), (.ref c_SHA_256)]))
    refine own_st (fun _ k => Jvm.RoadKit.acmp (g := (mkF m 48 #[.val (.int p0), .val (.int (2 : Int32)), .val (.ref c_SHA_256), .val (.ref r50)] [(.ref c_SHA_256), (.ref c_SHA_256)])) X52 hx rfl rfl rfl (pc0 := 48) (pc' := 51) (same := true) rfl (hb hby at_48) rfl (decide_eq_true rfl) (by decide) (by decide) k) ?_
    show own_go _ _ _ _ _ _ _ (T52.setTop (mkF m 51 #[.val (.int p0), .val (.int (2 : Int32)), .val (.ref c_SHA_256), .val (.ref r50)] []))
    refine own_st (fun _ k => XS.iconst X52.here hx rfl (hb hby at_51) k) ?_
    show own_go _ _ _ _ _ _ _ (T52.setTop (mkF m 52 #[.val (.int p0), .val (.int (2 : Int32)), .val (.ref c_SHA_256), .val (.ref r50)] [(.int (1 : Int32))]))
    refine own_st (fun _ k => XS.goto X52.here hx rfl (pc0 := 52) (pc' := 56) rfl (hb hby at_52) (by decide) (by decide) k) ?_
    show own_go _ _ _ _ _ _ _ (T52.setTop (mkF m 56 #[.val (.int p0), .val (.int (2 : Int32)), .val (.ref c_SHA_256), .val (.ref r50)] [(.int (1 : Int32))]))
    exact own_retN X52 hx hlk (t := .boolean) hret (by simp) rfl (hb hby at_56) (by decide) (by decide) (⟨rfl, N52⟩)
  · skip
    rw [q]
    show own_go _ _ _ _ _ _ _ (s₁.setTop (mkF m 2 #[.val (.int p0), .unset, .unset, .unset] [(.int (3 : Int32))]))
    refine own_st (fun _ k => XS.istoreN X0.here hx rfl (hb hby at_2) rfl (l' := #[.val (.int p0), .val (.int (3 : Int32)), .unset, .unset]) rfl k) ?_
    show own_go _ _ _ _ _ _ _ (s₁.setTop (mkF m 3 #[.val (.int p0), .val (.int (3 : Int32)), .unset, .unset] []))
    refine own_st (fun _ k => XS.iloadN X0.here hx rfl (hb hby at_3) rfl k) ?_
    show own_go _ _ _ _ _ _ _ (s₁.setTop (mkF m 4 #[.val (.int p0), .val (.int (3 : Int32)), .unset, .unset] [(.int (3 : Int32))]))
    obtain ⟨v53, T53, L53, X53, hQ53, st53⟩ := own_callS X0 hx hZ (argsL := [(.int (3 : Int32))]) (rest := []) (rmx_3 l Z a0 hw c__VALUES c_SHA_1 c_SHA_256 c_SHA_384 c_SHA_512 c_EMPTY h0 n0 O0 hS) hown (hw _ (List.mem_of_getElem? (i := 0) rfl)) (hw _ (List.mem_of_getElem? (i := 1) rfl)) (hw _ (List.mem_of_getElem? (i := 2) rfl)) (hw _ (List.mem_of_getElem? (i := 3) rfl)) (by decide) e0 (g := (mkF m 4 #[.val (.int p0), .val (.int (3 : Int32)), .unset, .unset] [(.int (3 : Int32))])) rfl (by rw [hml]; rfl) (lenOf own_pd__28B_29Lcom_2fexample_2fwatchword_2fwatchword_2fmodel_2fSrpHash_3b rfl) rfl (W := 0) (by show 2 * 0 + _ ≤ _; exact Nat.le_of_eq rfl) (hb hby at_4) (by decide) (by decide) (by decide) (by decide)
    obtain ⟨rfl, Nq53, eq53⟩ := hQ53
    have N53 := Fr.app N0 Nq53
    refine own_st st53 ?_
    show own_go _ _ _ _ _ _ _ (T53.setTop (mkF m 7 #[.val (.int p0), .val (.int (3 : Int32)), .unset, .unset] [(.ref c_SHA_384)]))
    refine own_st (fun _ k => XS.astoreN X53.here hx rfl (hb hby at_7) rfl rfl (l' := #[.val (.int p0), .val (.int (3 : Int32)), .val (.ref c_SHA_384), .unset]) rfl k) ?_
    show own_go _ _ _ _ _ _ _ (T53.setTop (mkF m 8 #[.val (.int p0), .val (.int (3 : Int32)), .val (.ref c_SHA_384), .unset] []))
    refine own_st (fun _ k => XS.iloadN X53.here hx rfl (hb hby at_8) rfl k) ?_
    show own_go _ _ _ _ _ _ _ (T53.setTop (mkF m 9 #[.val (.int p0), .val (.int (3 : Int32)), .val (.ref c_SHA_384), .unset] [(.int (3 : Int32))]))
    obtain ⟨v54, T54, L54, X54, hQ54, st54⟩ := own_callS X53 hx hZ (argsL := [(.int (3 : Int32))]) (rest := []) (rmb_3 l Z a0 hw c__VALUES c_SHA_1 c_SHA_256 c_SHA_384 c_SHA_512 c_EMPTY h0 n0 O0 hS) hown (hw _ (List.mem_of_getElem? (i := 4) rfl)) (hw _ (List.mem_of_getElem? (i := 5) rfl)) (hw _ (List.mem_of_getElem? (i := 6) rfl)) (hw _ (List.mem_of_getElem? (i := 7) rfl)) (by decide) eq53 (g := (mkF m 9 #[.val (.int p0), .val (.int (3 : Int32)), .val (.ref c_SHA_384), .unset] [(.int (3 : Int32))])) rfl (by rw [hml]; rfl) (lenOf own_pd__28B_29Ljava_2futil_2fOptional_3b rfl) rfl (W := 0) (by show 2 * 0 + _ ≤ _; exact Nat.le_of_eq rfl) (hb hby at_9) (by decide) (by decide) (by decide) (by decide)
    obtain ⟨r54, rfl, Nq54, Kq54, sz54, A54, F54_0⟩ := hQ54
    have N54 := Fr.app N53 Nq54
    have O54 := O0.keep Kq54 all0
    have K54 := K0.trans Kq54 all0
    refine own_st st54 ?_
    show own_go _ _ _ _ _ _ _ (T54.setTop (mkF m 12 #[.val (.int p0), .val (.int (3 : Int32)), .val (.ref c_SHA_384), .unset] [(.ref r54)]))
    refine own_st (fun _ k => XS.astoreN X54.here hx rfl (hb hby at_12) rfl rfl (l' := #[.val (.int p0), .val (.int (3 : Int32)), .val (.ref c_SHA_384), .val (.ref r54)]) rfl k) ?_
    show own_go _ _ _ _ _ _ _ (T54.setTop (mkF m 13 #[.val (.int p0), .val (.int (3 : Int32)), .val (.ref c_SHA_384), .val (.ref r54)] []))
    refine own_st (fun _ k => XS.aloadN X54.here hx rfl (hb hby at_13) rfl rfl k) ?_
    show own_go _ _ _ _ _ _ _ (T54.setTop (mkF m 14 #[.val (.int p0), .val (.int (3 : Int32)), .val (.ref c_SHA_384), .val (.ref r54)] [(.ref r54)]))
    refine own_st (fun _ k => XS.ifnonnullYes X54.here hx rfl (pc0 := 14) (pc' := 19) rfl (hb hby at_14) rfl (by decide) (by decide) k) ?_
    show own_go _ _ _ _ _ _ _ (T54.setTop (mkF m 19 #[.val (.int p0), .val (.int (3 : Int32)), .val (.ref c_SHA_384), .val (.ref r54)] []))
    refine own_st (fun _ k => XS.aloadN X54.here hx rfl (hb hby at_19) rfl rfl k) ?_
    show own_go _ _ _ _ _ _ _ (T54.setTop (mkF m 20 #[.val (.int p0), .val (.int (3 : Int32)), .val (.ref c_SHA_384), .val (.ref r54)] [(.ref c_SHA_384)]))
    refine own_st (fun _ k => XS.ifnonnullYes X54.here hx rfl (pc0 := 20) (pc' := 36) rfl (hb hby at_20) rfl (by decide) (by decide) k) ?_
    show own_go _ _ _ _ _ _ _ (T54.setTop (mkF m 36 #[.val (.int p0), .val (.int (3 : Int32)), .val (.ref c_SHA_384), .val (.ref r54)] []))
    refine own_st (fun _ k => XS.aloadN X54.here hx rfl (hb hby at_36) rfl rfl k) ?_
    show own_go _ _ _ _ _ _ _ (T54.setTop (mkF m 37 #[.val (.int p0), .val (.int (3 : Int32)), .val (.ref c_SHA_384), .val (.ref r54)] [(.ref r54)]))
    obtain ⟨v55, T55, L55, X55, hQ55, st55⟩ := own_callV X54 hx hZ (argsL := []) (rest := []) (rmo_isPresent_R l Z a0 hw r54 c_SHA_384 T54.heap n0 O54 F54_0) hown (hw _ (List.mem_of_getElem? (i := 34) rfl)) (hw _ (List.mem_of_getElem? (i := 35) rfl)) (notFace_of_selects (args := #[]) (mvT hZ (hw _ (List.mem_of_getElem? (i := 37) rfl)))) (hw _ (List.mem_of_getElem? (i := 37) rfl)) (hw _ (List.mem_of_getElem? (i := 36) rfl)) (hw _ (List.mem_of_getElem? (i := 31) rfl)) (hw _ (List.mem_of_getElem? (i := 38) rfl)) (by decide) rfl A54 (g := (mkF m 37 #[.val (.int p0), .val (.int (3 : Int32)), .val (.ref c_SHA_384), .val (.ref r54)] [(.ref r54)])) rfl (by rw [hml]; rfl) (lenOf own_pd__28_29Z rfl) rfl (W := 0) (by show 2 * 0 + _ ≤ _; exact Nat.le_of_eq rfl) (hb hby at_37) (by decide) (by decide) (by decide) (by decide)
    obtain ⟨rfl, Nq55, eq55⟩ := hQ55
    have N55 := Fr.app N54 Nq55
    refine own_st st55 ?_
    show own_go _ _ _ _ _ _ _ (T55.setTop (mkF m 40 #[.val (.int p0), .val (.int (3 : Int32)), .val (.ref c_SHA_384), .val (.ref r54)] [(.int (1 : Int32))]))
    refine own_st (fun _ k => XS.ifNo X55.here hx rfl (hb hby at_40) rfl (by decide) k) ?_
    show own_go _ _ _ _ _ _ _ (T55.setTop (mkF m 43 #[.val (.int p0), .val (.int (3 : Int32)), .val (.ref c_SHA_384), .val (.ref r54)] []))
    refine own_st (fun _ k => XS.aloadN X55.here hx rfl (hb hby at_43) rfl rfl k) ?_
    show own_go _ _ _ _ _ _ _ (T55.setTop (mkF m 44 #[.val (.int p0), .val (.int (3 : Int32)), .val (.ref c_SHA_384), .val (.ref r54)] [(.ref r54)]))
    obtain ⟨v56, T56, L56, X56, hQ56, st56⟩ := own_callV X55 hx hZ (argsL := []) (rest := []) (rmo_get_R l Z a0 hw r54 c_SHA_384 T54.heap n0 O54 F54_0) hown (hw _ (List.mem_of_getElem? (i := 58) rfl)) (hw _ (List.mem_of_getElem? (i := 59) rfl)) (notFace_of_selects (args := #[]) (mvT hZ (hw _ (List.mem_of_getElem? (i := 61) rfl)))) (hw _ (List.mem_of_getElem? (i := 61) rfl)) (hw _ (List.mem_of_getElem? (i := 60) rfl)) (hw _ (List.mem_of_getElem? (i := 31) rfl)) (hw _ (List.mem_of_getElem? (i := 62) rfl)) (by decide) eq55 A54 (g := (mkF m 44 #[.val (.int p0), .val (.int (3 : Int32)), .val (.ref c_SHA_384), .val (.ref r54)] [(.ref r54)])) rfl (by rw [hml]; rfl) (lenOf own_pd__28_29Ljava_2flang_2fObject_3b rfl) rfl (W := 0) (by show 2 * 0 + _ ≤ _; exact Nat.le_of_eq rfl) (hb hby at_44) (by decide) (by decide) (by decide) (by decide)
    obtain ⟨rfl, Nq56, eq56⟩ := hQ56
    have N56 := Fr.app N55 Nq56
    refine own_st st56 ?_
    show own_go _ _ _ _ _ _ _ (T56.setTop (mkF m 47 #[.val (.int p0), .val (.int (3 : Int32)), .val (.ref c_SHA_384), .val (.ref r54)] [(.ref c_SHA_384)]))
    refine own_st (fun _ k => XS.aloadN X56.here hx rfl (hb hby at_47) rfl rfl k) ?_
    show own_go _ _ _ _ _ _ _ (T56.setTop (mkF m 48 #[.val (.int p0), .val (.int (3 : Int32)), .val (.ref c_SHA_384), .val (.ref r54)] [(.ref c_SHA_384), (.ref c_SHA_384)]))
    refine own_st (fun _ k => Jvm.RoadKit.acmp (g := (mkF m 48 #[.val (.int p0), .val (.int (3 : Int32)), .val (.ref c_SHA_384), .val (.ref r54)] [(.ref c_SHA_384), (.ref c_SHA_384)])) X56 hx rfl rfl rfl (pc0 := 48) (pc' := 51) (same := true) rfl (hb hby at_48) rfl (decide_eq_true rfl) (by decide) (by decide) k) ?_
    show own_go _ _ _ _ _ _ _ (T56.setTop (mkF m 51 #[.val (.int p0), .val (.int (3 : Int32)), .val (.ref c_SHA_384), .val (.ref r54)] []))
    refine own_st (fun _ k => XS.iconst X56.here hx rfl (hb hby at_51) k) ?_
    show own_go _ _ _ _ _ _ _ (T56.setTop (mkF m 52 #[.val (.int p0), .val (.int (3 : Int32)), .val (.ref c_SHA_384), .val (.ref r54)] [(.int (1 : Int32))]))
    refine own_st (fun _ k => XS.goto X56.here hx rfl (pc0 := 52) (pc' := 56) rfl (hb hby at_52) (by decide) (by decide) k) ?_
    show own_go _ _ _ _ _ _ _ (T56.setTop (mkF m 56 #[.val (.int p0), .val (.int (3 : Int32)), .val (.ref c_SHA_384), .val (.ref r54)] [(.int (1 : Int32))]))
    exact own_retN X56 hx hlk (t := .boolean) hret (by simp) rfl (hb hby at_56) (by decide) (by decide) (⟨rfl, N56⟩)
  · skip
    rw [q]
    show own_go _ _ _ _ _ _ _ (s₁.setTop (mkF m 2 #[.val (.int p0), .unset, .unset, .unset] [(.int (4 : Int32))]))
    refine own_st (fun _ k => XS.istoreN X0.here hx rfl (hb hby at_2) rfl (l' := #[.val (.int p0), .val (.int (4 : Int32)), .unset, .unset]) rfl k) ?_
    show own_go _ _ _ _ _ _ _ (s₁.setTop (mkF m 3 #[.val (.int p0), .val (.int (4 : Int32)), .unset, .unset] []))
    refine own_st (fun _ k => XS.iloadN X0.here hx rfl (hb hby at_3) rfl k) ?_
    show own_go _ _ _ _ _ _ _ (s₁.setTop (mkF m 4 #[.val (.int p0), .val (.int (4 : Int32)), .unset, .unset] [(.int (4 : Int32))]))
    obtain ⟨v57, T57, L57, X57, hQ57, st57⟩ := own_callS X0 hx hZ (argsL := [(.int (4 : Int32))]) (rest := []) (rmx_4 l Z a0 hw c__VALUES c_SHA_1 c_SHA_256 c_SHA_384 c_SHA_512 c_EMPTY h0 n0 O0 hS) hown (hw _ (List.mem_of_getElem? (i := 0) rfl)) (hw _ (List.mem_of_getElem? (i := 1) rfl)) (hw _ (List.mem_of_getElem? (i := 2) rfl)) (hw _ (List.mem_of_getElem? (i := 3) rfl)) (by decide) e0 (g := (mkF m 4 #[.val (.int p0), .val (.int (4 : Int32)), .unset, .unset] [(.int (4 : Int32))])) rfl (by rw [hml]; rfl) (lenOf own_pd__28B_29Lcom_2fexample_2fwatchword_2fwatchword_2fmodel_2fSrpHash_3b rfl) rfl (W := 0) (by show 2 * 0 + _ ≤ _; exact Nat.le_of_eq rfl) (hb hby at_4) (by decide) (by decide) (by decide) (by decide)
    obtain ⟨rfl, Nq57, eq57⟩ := hQ57
    have N57 := Fr.app N0 Nq57
    refine own_st st57 ?_
    show own_go _ _ _ _ _ _ _ (T57.setTop (mkF m 7 #[.val (.int p0), .val (.int (4 : Int32)), .unset, .unset] [(.ref c_SHA_512)]))
    refine own_st (fun _ k => XS.astoreN X57.here hx rfl (hb hby at_7) rfl rfl (l' := #[.val (.int p0), .val (.int (4 : Int32)), .val (.ref c_SHA_512), .unset]) rfl k) ?_
    show own_go _ _ _ _ _ _ _ (T57.setTop (mkF m 8 #[.val (.int p0), .val (.int (4 : Int32)), .val (.ref c_SHA_512), .unset] []))
    refine own_st (fun _ k => XS.iloadN X57.here hx rfl (hb hby at_8) rfl k) ?_
    show own_go _ _ _ _ _ _ _ (T57.setTop (mkF m 9 #[.val (.int p0), .val (.int (4 : Int32)), .val (.ref c_SHA_512), .unset] [(.int (4 : Int32))]))
    obtain ⟨v58, T58, L58, X58, hQ58, st58⟩ := own_callS X57 hx hZ (argsL := [(.int (4 : Int32))]) (rest := []) (rmb_4 l Z a0 hw c__VALUES c_SHA_1 c_SHA_256 c_SHA_384 c_SHA_512 c_EMPTY h0 n0 O0 hS) hown (hw _ (List.mem_of_getElem? (i := 4) rfl)) (hw _ (List.mem_of_getElem? (i := 5) rfl)) (hw _ (List.mem_of_getElem? (i := 6) rfl)) (hw _ (List.mem_of_getElem? (i := 7) rfl)) (by decide) eq57 (g := (mkF m 9 #[.val (.int p0), .val (.int (4 : Int32)), .val (.ref c_SHA_512), .unset] [(.int (4 : Int32))])) rfl (by rw [hml]; rfl) (lenOf own_pd__28B_29Ljava_2futil_2fOptional_3b rfl) rfl (W := 0) (by show 2 * 0 + _ ≤ _; exact Nat.le_of_eq rfl) (hb hby at_9) (by decide) (by decide) (by decide) (by decide)
    obtain ⟨r58, rfl, Nq58, Kq58, sz58, A58, F58_0⟩ := hQ58
    have N58 := Fr.app N57 Nq58
    have O58 := O0.keep Kq58 all0
    have K58 := K0.trans Kq58 all0
    refine own_st st58 ?_
    show own_go _ _ _ _ _ _ _ (T58.setTop (mkF m 12 #[.val (.int p0), .val (.int (4 : Int32)), .val (.ref c_SHA_512), .unset] [(.ref r58)]))
    refine own_st (fun _ k => XS.astoreN X58.here hx rfl (hb hby at_12) rfl rfl (l' := #[.val (.int p0), .val (.int (4 : Int32)), .val (.ref c_SHA_512), .val (.ref r58)]) rfl k) ?_
    show own_go _ _ _ _ _ _ _ (T58.setTop (mkF m 13 #[.val (.int p0), .val (.int (4 : Int32)), .val (.ref c_SHA_512), .val (.ref r58)] []))
    refine own_st (fun _ k => XS.aloadN X58.here hx rfl (hb hby at_13) rfl rfl k) ?_
    show own_go _ _ _ _ _ _ _ (T58.setTop (mkF m 14 #[.val (.int p0), .val (.int (4 : Int32)), .val (.ref c_SHA_512), .val (.ref r58)] [(.ref r58)]))
    refine own_st (fun _ k => XS.ifnonnullYes X58.here hx rfl (pc0 := 14) (pc' := 19) rfl (hb hby at_14) rfl (by decide) (by decide) k) ?_
    show own_go _ _ _ _ _ _ _ (T58.setTop (mkF m 19 #[.val (.int p0), .val (.int (4 : Int32)), .val (.ref c_SHA_512), .val (.ref r58)] []))
    refine own_st (fun _ k => XS.aloadN X58.here hx rfl (hb hby at_19) rfl rfl k) ?_
    show own_go _ _ _ _ _ _ _ (T58.setTop (mkF m 20 #[.val (.int p0), .val (.int (4 : Int32)), .val (.ref c_SHA_512), .val (.ref r58)] [(.ref c_SHA_512)]))
    refine own_st (fun _ k => XS.ifnonnullYes X58.here hx rfl (pc0 := 20) (pc' := 36) rfl (hb hby at_20) rfl (by decide) (by decide) k) ?_
    show own_go _ _ _ _ _ _ _ (T58.setTop (mkF m 36 #[.val (.int p0), .val (.int (4 : Int32)), .val (.ref c_SHA_512), .val (.ref r58)] []))
    refine own_st (fun _ k => XS.aloadN X58.here hx rfl (hb hby at_36) rfl rfl k) ?_
    show own_go _ _ _ _ _ _ _ (T58.setTop (mkF m 37 #[.val (.int p0), .val (.int (4 : Int32)), .val (.ref c_SHA_512), .val (.ref r58)] [(.ref r58)]))
    obtain ⟨v59, T59, L59, X59, hQ59, st59⟩ := own_callV X58 hx hZ (argsL := []) (rest := []) (rmo_isPresent_R l Z a0 hw r58 c_SHA_512 T58.heap n0 O58 F58_0) hown (hw _ (List.mem_of_getElem? (i := 34) rfl)) (hw _ (List.mem_of_getElem? (i := 35) rfl)) (notFace_of_selects (args := #[]) (mvT hZ (hw _ (List.mem_of_getElem? (i := 37) rfl)))) (hw _ (List.mem_of_getElem? (i := 37) rfl)) (hw _ (List.mem_of_getElem? (i := 36) rfl)) (hw _ (List.mem_of_getElem? (i := 31) rfl)) (hw _ (List.mem_of_getElem? (i := 38) rfl)) (by decide) rfl A58 (g := (mkF m 37 #[.val (.int p0), .val (.int (4 : Int32)), .val (.ref c_SHA_512), .val (.ref r58)] [(.ref r58)])) rfl (by rw [hml]; rfl) (lenOf own_pd__28_29Z rfl) rfl (W := 0) (by show 2 * 0 + _ ≤ _; exact Nat.le_of_eq rfl) (hb hby at_37) (by decide) (by decide) (by decide) (by decide)
    obtain ⟨rfl, Nq59, eq59⟩ := hQ59
    have N59 := Fr.app N58 Nq59
    refine own_st st59 ?_
    show own_go _ _ _ _ _ _ _ (T59.setTop (mkF m 40 #[.val (.int p0), .val (.int (4 : Int32)), .val (.ref c_SHA_512), .val (.ref r58)] [(.int (1 : Int32))]))
    refine own_st (fun _ k => XS.ifNo X59.here hx rfl (hb hby at_40) rfl (by decide) k) ?_
    show own_go _ _ _ _ _ _ _ (T59.setTop (mkF m 43 #[.val (.int p0), .val (.int (4 : Int32)), .val (.ref c_SHA_512), .val (.ref r58)] []))
    refine own_st (fun _ k => XS.aloadN X59.here hx rfl (hb hby at_43) rfl rfl k) ?_
    show own_go _ _ _ _ _ _ _ (T59.setTop (mkF m 44 #[.val (.int p0), .val (.int (4 : Int32)), .val (.ref c_SHA_512), .val (.ref r58)] [(.ref r58)]))
    obtain ⟨v60, T60, L60, X60, hQ60, st60⟩ := own_callV X59 hx hZ (argsL := []) (rest := []) (rmo_get_R l Z a0 hw r58 c_SHA_512 T58.heap n0 O58 F58_0) hown (hw _ (List.mem_of_getElem? (i := 58) rfl)) (hw _ (List.mem_of_getElem? (i := 59) rfl)) (notFace_of_selects (args := #[]) (mvT hZ (hw _ (List.mem_of_getElem? (i := 61) rfl)))) (hw _ (List.mem_of_getElem? (i := 61) rfl)) (hw _ (List.mem_of_getElem? (i := 60) rfl)) (hw _ (List.mem_of_getElem? (i := 31) rfl)) (hw _ (List.mem_of_getElem? (i := 62) rfl)) (by decide) eq59 A58 (g := (mkF m 44 #[.val (.int p0), .val (.int (4 : Int32)), .val (.ref c_SHA_512), .val (.ref r58)] [(.ref r58)])) rfl (by rw [hml]; rfl) (lenOf own_pd__28_29Ljava_2flang_2fObject_3b rfl) rfl (W := 0) (by show 2 * 0 + _ ≤ _; exact Nat.le_of_eq rfl) (hb hby at_44) (by decide) (by decide) (by decide) (by decide)
    obtain ⟨rfl, Nq60, eq60⟩ := hQ60
    have N60 := Fr.app N59 Nq60
    refine own_st st60 ?_
    show own_go _ _ _ _ _ _ _ (T60.setTop (mkF m 47 #[.val (.int p0), .val (.int (4 : Int32)), .val (.ref c_SHA_512), .val (.ref r58)] [(.ref c_SHA_512)]))
    refine own_st (fun _ k => XS.aloadN X60.here hx rfl (hb hby at_47) rfl rfl k) ?_
    show own_go _ _ _ _ _ _ _ (T60.setTop (mkF m 48 #[.val (.int p0), .val (.int (4 : Int32)), .val (.ref c_SHA_512), .val (.ref r58)] [(.ref c_SHA_512), (.ref c_SHA_512)]))
    refine own_st (fun _ k => Jvm.RoadKit.acmp (g := (mkF m 48 #[.val (.int p0), .val (.int (4 : Int32)), .val (.ref c_SHA_512), .val (.ref r58)] [(.ref c_SHA_512), (.ref c_SHA_512)])) X60 hx rfl rfl rfl (pc0 := 48) (pc' := 51) (same := true) rfl (hb hby at_48) rfl (decide_eq_true rfl) (by decide) (by decide) k) ?_
    show own_go _ _ _ _ _ _ _ (T60.setTop (mkF m 51 #[.val (.int p0), .val (.int (4 : Int32)), .val (.ref c_SHA_512), .val (.ref r58)] []))
    refine own_st (fun _ k => XS.iconst X60.here hx rfl (hb hby at_51) k) ?_
    show own_go _ _ _ _ _ _ _ (T60.setTop (mkF m 52 #[.val (.int p0), .val (.int (4 : Int32)), .val (.ref c_SHA_512), .val (.ref r58)] [(.int (1 : Int32))]))
    refine own_st (fun _ k => XS.goto X60.here hx rfl (pc0 := 52) (pc' := 56) rfl (hb hby at_52) (by decide) (by decide) k) ?_
    show own_go _ _ _ _ _ _ _ (T60.setTop (mkF m 56 #[.val (.int p0), .val (.int (4 : Int32)), .val (.ref c_SHA_512), .val (.ref r58)] [(.int (1 : Int32))]))
    exact own_retN X60 hx hlk (t := .boolean) hret (by simp) rfl (hb hby at_56) (by decide) (by decide) (⟨rfl, N60⟩)
  · skip
    obtain ⟨q1, q2, q3, q4⟩ := q
    refine own_st (fun _ k => XS.istoreN X0.here hx rfl (hb hby at_2) rfl (l' := #[.val (.int p0), .val (.int (p0.toInt8.toInt32)), .unset, .unset]) rfl k) ?_
    show own_go _ _ _ _ _ _ _ (s₁.setTop (mkF m 3 #[.val (.int p0), .val (.int (p0.toInt8.toInt32)), .unset, .unset] []))
    refine own_st (fun _ k => XS.iloadN X0.here hx rfl (hb hby at_3) rfl k) ?_
    show own_go _ _ _ _ _ _ _ (s₁.setTop (mkF m 4 #[.val (.int p0), .val (.int (p0.toInt8.toInt32)), .unset, .unset] [(.int (p0.toInt8.toInt32))]))
    obtain ⟨v61, T61, L61, X61, hQ61, st61⟩ := own_callS X0 hx hZ (argsL := [(.int (p0.toInt8.toInt32))]) (rest := []) (rmx_0 l Z a0 hw (p0.toInt8.toInt32) h0 n0 O0 q1 q2 q3 q4) hown (hw _ (List.mem_of_getElem? (i := 0) rfl)) (hw _ (List.mem_of_getElem? (i := 1) rfl)) (hw _ (List.mem_of_getElem? (i := 2) rfl)) (hw _ (List.mem_of_getElem? (i := 3) rfl)) (by decide) e0 (g := (mkF m 4 #[.val (.int p0), .val (.int (p0.toInt8.toInt32)), .unset, .unset] [(.int (p0.toInt8.toInt32))])) rfl (by rw [hml]; rfl) (lenOf own_pd__28B_29Lcom_2fexample_2fwatchword_2fwatchword_2fmodel_2fSrpHash_3b rfl) rfl (W := 0) (by show 2 * 0 + _ ≤ _; exact Nat.le_of_eq rfl) (hb hby at_4) (by decide) (by decide) (by decide) (by decide)
    obtain ⟨rfl, Nq61, eq61⟩ := hQ61
    have N61 := Fr.app N0 Nq61
    refine own_st st61 ?_
    show own_go _ _ _ _ _ _ _ (T61.setTop (mkF m 7 #[.val (.int p0), .val (.int (p0.toInt8.toInt32)), .unset, .unset] [.null]))
    refine own_st (fun _ k => XS.astoreN X61.here hx rfl (hb hby at_7) rfl rfl (l' := #[.val (.int p0), .val (.int (p0.toInt8.toInt32)), .val .null, .unset]) rfl k) ?_
    show own_go _ _ _ _ _ _ _ (T61.setTop (mkF m 8 #[.val (.int p0), .val (.int (p0.toInt8.toInt32)), .val .null, .unset] []))
    refine own_st (fun _ k => XS.iloadN X61.here hx rfl (hb hby at_8) rfl k) ?_
    show own_go _ _ _ _ _ _ _ (T61.setTop (mkF m 9 #[.val (.int p0), .val (.int (p0.toInt8.toInt32)), .val .null, .unset] [(.int (p0.toInt8.toInt32))]))
    obtain ⟨v62, T62, L62, X62, hQ62, st62⟩ := own_callS X61 hx hZ (argsL := [(.int (p0.toInt8.toInt32))]) (rest := []) (rmb_0 l Z a0 hw (p0.toInt8.toInt32) c__VALUES c_SHA_1 c_SHA_256 c_SHA_384 c_SHA_512 c_EMPTY h0 n0 O0 hS q1 q2 q3 q4) hown (hw _ (List.mem_of_getElem? (i := 4) rfl)) (hw _ (List.mem_of_getElem? (i := 5) rfl)) (hw _ (List.mem_of_getElem? (i := 6) rfl)) (hw _ (List.mem_of_getElem? (i := 7) rfl)) (by decide) eq61 (g := (mkF m 9 #[.val (.int p0), .val (.int (p0.toInt8.toInt32)), .val .null, .unset] [(.int (p0.toInt8.toInt32))])) rfl (by rw [hml]; rfl) (lenOf own_pd__28B_29Ljava_2futil_2fOptional_3b rfl) rfl (W := 0) (by show 2 * 0 + _ ≤ _; exact Nat.le_of_eq rfl) (hb hby at_9) (by decide) (by decide) (by decide) (by decide)
    obtain ⟨rfl, Nq62, Kq62⟩ := hQ62
    have N62 := Fr.app N61 Nq62
    have O62 := O0.keep Kq62 all0
    have K62 := K0.trans Kq62 all0
    refine own_st st62 ?_
    show own_go _ _ _ _ _ _ _ (T62.setTop (mkF m 12 #[.val (.int p0), .val (.int (p0.toInt8.toInt32)), .val .null, .unset] [(.ref c_EMPTY)]))
    refine own_st (fun _ k => XS.astoreN X62.here hx rfl (hb hby at_12) rfl rfl (l' := #[.val (.int p0), .val (.int (p0.toInt8.toInt32)), .val .null, .val (.ref c_EMPTY)]) rfl k) ?_
    show own_go _ _ _ _ _ _ _ (T62.setTop (mkF m 13 #[.val (.int p0), .val (.int (p0.toInt8.toInt32)), .val .null, .val (.ref c_EMPTY)] []))
    refine own_st (fun _ k => XS.aloadN X62.here hx rfl (hb hby at_13) rfl rfl k) ?_
    show own_go _ _ _ _ _ _ _ (T62.setTop (mkF m 14 #[.val (.int p0), .val (.int (p0.toInt8.toInt32)), .val .null, .val (.ref c_EMPTY)] [(.ref c_EMPTY)]))
    refine own_st (fun _ k => XS.ifnonnullYes X62.here hx rfl (pc0 := 14) (pc' := 19) rfl (hb hby at_14) rfl (by decide) (by decide) k) ?_
    show own_go _ _ _ _ _ _ _ (T62.setTop (mkF m 19 #[.val (.int p0), .val (.int (p0.toInt8.toInt32)), .val .null, .val (.ref c_EMPTY)] []))
    refine own_st (fun _ k => XS.aloadN X62.here hx rfl (hb hby at_19) rfl rfl k) ?_
    show own_go _ _ _ _ _ _ _ (T62.setTop (mkF m 20 #[.val (.int p0), .val (.int (p0.toInt8.toInt32)), .val .null, .val (.ref c_EMPTY)] [.null]))
    refine own_st (fun _ k => XS.ifnonnullNo X62.here hx rfl (hb hby at_20) rfl k) ?_
    show own_go _ _ _ _ _ _ _ (T62.setTop (mkF m 23 #[.val (.int p0), .val (.int (p0.toInt8.toInt32)), .val .null, .val (.ref c_EMPTY)] []))
    refine own_st (fun _ k => XS.aloadN X62.here hx rfl (hb hby at_23) rfl rfl k) ?_
    show own_go _ _ _ _ _ _ _ (T62.setTop (mkF m 24 #[.val (.int p0), .val (.int (p0.toInt8.toInt32)), .val .null, .val (.ref c_EMPTY)] [(.ref c_EMPTY)]))
    obtain ⟨v63, T63, L63, X63, hQ63, st63⟩ := own_callV X62 hx hZ (argsL := []) (rest := []) (rmo_isPresent_N l Z a0 hw c_EMPTY  T62.heap n0 O62 (hS.2.2.2.2.2.2.2.2.2.2.2.2.2.2.2.2.1.ext O62.2)) hown (hw _ (List.mem_of_getElem? (i := 34) rfl)) (hw _ (List.mem_of_getElem? (i := 35) rfl)) (notFace_of_selects (args := #[]) (mvT hZ (hw _ (List.mem_of_getElem? (i := 37) rfl)))) (hw _ (List.mem_of_getElem? (i := 37) rfl)) (hw _ (List.mem_of_getElem? (i := 36) rfl)) (hw _ (List.mem_of_getElem? (i := 31) rfl)) (hw _ (List.mem_of_getElem? (i := 38) rfl)) (by decide) rfl (hS.2.2.2.2.2.2.2.2.2.2.2.2.2.2.2.1.ext O62.2) (g := (mkF m 24 #[.val (.int p0), .val (.int (p0.toInt8.toInt32)), .val .null, .val (.ref c_EMPTY)] [(.ref c_EMPTY)])) rfl (by rw [hml]; rfl) (lenOf own_pd__28_29Z rfl) rfl (W := 0) (by show 2 * 0 + _ ≤ _; exact Nat.le_of_eq rfl) (hb hby at_24) (by decide) (by decide) (by decide) (by decide)
    obtain ⟨rfl, Nq63, eq63⟩ := hQ63
    have N63 := Fr.app N62 Nq63
    refine own_st st63 ?_
    show own_go _ _ _ _ _ _ _ (T63.setTop (mkF m 27 #[.val (.int p0), .val (.int (p0.toInt8.toInt32)), .val .null, .val (.ref c_EMPTY)] [(.int (0 : Int32))]))
    refine own_st (fun _ k => XS.ifNo X63.here hx rfl (hb hby at_27) rfl (by decide) k) ?_
    show own_go _ _ _ _ _ _ _ (T63.setTop (mkF m 30 #[.val (.int p0), .val (.int (p0.toInt8.toInt32)), .val .null, .val (.ref c_EMPTY)] []))
    refine own_st (fun _ k => XS.iconst X63.here hx rfl (hb hby at_30) k) ?_
    show own_go _ _ _ _ _ _ _ (T63.setTop (mkF m 31 #[.val (.int p0), .val (.int (p0.toInt8.toInt32)), .val .null, .val (.ref c_EMPTY)] [(.int (1 : Int32))]))
    refine own_st (fun _ k => XS.goto X63.here hx rfl (pc0 := 31) (pc' := 35) rfl (hb hby at_31) (by decide) (by decide) k) ?_
    show own_go _ _ _ _ _ _ _ (T63.setTop (mkF m 35 #[.val (.int p0), .val (.int (p0.toInt8.toInt32)), .val .null, .val (.ref c_EMPTY)] [(.int (1 : Int32))]))
    exact own_retN X63 hx hlk (t := .boolean) hret (by simp) rfl (hb hby at_35) (by decide) (by decide) (⟨rfl, N63⟩)
set_option maxRecDepth 65536 in
set_option maxHeartbeats 40000000 in
theorem comes_1 {Post : Tables → Env → Array Value → State → Outcome → State → Prop} (hpost : ∀ tb e args s v u, (limb_1_1.after args s (.returned v) u = true ∧ limb_1_2.after args s (.returned v) u = true ∧ True) → FrameEnd s (.returned v) u (Jvm.fieldLocs frame_1_writes args s ++ Jvm.arrayLocs frame_1_arrays args s ++ Jvm.staticLocs frame_1_statics s) 16 128 → Post tb e args s (.returned v) u) :
    ArmFor flags0 classFile x code maxLocals ret World_1 tables_1 room_1 Calls_1 rest_1 Pre_1 Post := by
  intro l hfl _ _ p e ha hc hk s m args below hf hA hF happ hP
  obtain ⟨hcalls, hrest, hpre⟩ := hP
  obtain ⟨-, -, -, hnamed, -, -, -, hat⟩ := (Spec.applies_iff hf).mp happ
  obtain ⟨hg, hn⟩ := and_e (Cond.before_iff.mp (show (Jvm.Cond.and given_1 narrow_1).before args s = true from hpre))
  obtain ⟨h1, hg0⟩ := and_e hg
  obtain ⟨w0, rfl⟩ : ∃ w0 : Value, args = #[w0] := by
    have hs : args.size = 1 := by simpa [Cond.value, given_1] using h1
    obtain ⟨L⟩ := args
    match L, hs with
    | [w0], _ => exact ⟨w0, rfl⟩
  have hw := fun d (hd : d ∈ tables_1) => atoms_spec (ws := Jvm.Cond.code x code maxLocals ret :: tables_1) hat d (List.mem_cons_of_mem _ hd)
  obtain ⟨i0, e0⟩ := is_v hg0
  obtain rfl : w0 = (.int i0) := Option.some.inj e0
  obtain ⟨hsets, hown0⟩ := atoms_of _ (rest_1_c_eq ▸ (show rest_1_c.before _ s = true from hrest))
  have hfit : Fit s := fun {y c} hc i hi => by
    obtain ⟨ha, rfl⟩ := Array.getElem?_eq_some_iff.mp hc
    have q := List.all_eq_true.mp ((Array.all_eq_true_iff_forall_mem.mp hF) _ (Array.getElem_mem ha)) i (List.mem_range.mpr hi)
    simpa [Array.getElem?_eq_getElem hi] using q
  obtain ⟨n1, r1⟩ := and_e hn
  obtain ⟨n2, r2⟩ := and_e r1
  obtain ⟨n3, r3⟩ := and_e r2
  obtain ⟨n4, r4⟩ := and_e r3
  obtain ⟨n5, r5⟩ := and_e r4
  obtain ⟨n6, r6⟩ := and_e r5
  obtain ⟨n7, r7⟩ := and_e r6
  obtain ⟨n8, r8⟩ := and_e r7
  obtain ⟨n9, r9⟩ := and_e r8
  obtain ⟨n10, r10⟩ := and_e r9
  obtain ⟨n11, r11⟩ := and_e r10
  obtain ⟨n12, r12⟩ := and_e r11
  obtain ⟨n13, r13⟩ := and_e r12
  obtain ⟨n14, r14⟩ := and_e r13
  have n15 := r14
  obtain ⟨c__VALUES, v_c__VALUES⟩ := exa_v n2
  have E_c__VALUES := Exa.start v_c__VALUES n2
  have S_c__VALUES := Sta.start v_c__VALUES (Or.inr ⟨(hw _ (List.mem_of_getElem? (i := 6) rfl)), (hw _ (List.mem_of_getElem? (i := 12) rfl))⟩)
  obtain ⟨c_SHA_1, v_c_SHA_1⟩ := exa_v n4
  have E_c_SHA_1 := Exa.start v_c_SHA_1 n4
  have S_c_SHA_1 := Sta.start v_c_SHA_1 (Or.inr ⟨(hw _ (List.mem_of_getElem? (i := 6) rfl)), (hw _ (List.mem_of_getElem? (i := 20) rfl))⟩)
  obtain ⟨c_SHA_256, v_c_SHA_256⟩ := exa_v n6
  have E_c_SHA_256 := Exa.start v_c_SHA_256 n6
  have S_c_SHA_256 := Sta.start v_c_SHA_256 (Or.inr ⟨(hw _ (List.mem_of_getElem? (i := 6) rfl)), (hw _ (List.mem_of_getElem? (i := 21) rfl))⟩)
  obtain ⟨c_SHA_384, v_c_SHA_384⟩ := exa_v n8
  have E_c_SHA_384 := Exa.start v_c_SHA_384 n8
  have S_c_SHA_384 := Sta.start v_c_SHA_384 (Or.inr ⟨(hw _ (List.mem_of_getElem? (i := 6) rfl)), (hw _ (List.mem_of_getElem? (i := 22) rfl))⟩)
  obtain ⟨c_SHA_512, v_c_SHA_512⟩ := exa_v n10
  have E_c_SHA_512 := Exa.start v_c_SHA_512 n10
  have S_c_SHA_512 := Sta.start v_c_SHA_512 (Or.inr ⟨(hw _ (List.mem_of_getElem? (i := 6) rfl)), (hw _ (List.mem_of_getElem? (i := 23) rfl))⟩)
  have F_c_SHA_1_id := own_fldI v_c_SHA_1 n12
  have F_c_SHA_256_id := own_fldI v_c_SHA_256 n13
  have F_c_SHA_384_id := own_fldI v_c_SHA_384 n14
  have F_c_SHA_512_id := own_fldI v_c_SHA_512 n15
  have m2 := Cond.before_iff.mp (hsets _ (List.mem_of_getElem? (i := 2) rfl))
  obtain ⟨c_EMPTY, v_c_EMPTY⟩ := exa_v m2
  have E_c_EMPTY := Exa.start v_c_EMPTY m2
  have S_c_EMPTY := Sta.start v_c_EMPTY (Or.inl (hsets _ (List.mem_of_getElem? (i := 1) rfl)))
  have m3 := Cond.before_iff.mp (hsets _ (List.mem_of_getElem? (i := 3) rfl))
  have F_c_EMPTY_value := own_fldN v_c_EMPTY m3
  obtain ⟨cl_c__VALUES, A_c__VALUES⟩ := Arr.start v_c__VALUES n1
  have W_c__VALUES := own_vals hfit A_c__VALUES (own_lenV v_c__VALUES A_c__VALUES n3) (by decide) (vs := [(.ref c_SHA_1), (.ref c_SHA_256), (.ref c_SHA_384), (.ref c_SHA_512)]) (by show _ = 4; decide) ⟨own_elemR v_c__VALUES v_c_SHA_1 A_c__VALUES (i := 0) (by decide) n5, own_elemR v_c__VALUES v_c_SHA_256 A_c__VALUES (i := 1) (by decide) n7, own_elemR v_c__VALUES v_c_SHA_384 A_c__VALUES (i := 2) (by decide) n9, own_elemR v_c__VALUES v_c_SHA_512 A_c__VALUES (i := 3) (by decide) n11, trivial⟩
  have hS : own_S s c__VALUES c_SHA_1 c_SHA_256 c_SHA_384 c_SHA_512 c_EMPTY := ⟨S_c__VALUES, E_c__VALUES, S_c_SHA_1, E_c_SHA_1, S_c_SHA_256, E_c_SHA_256, S_c_SHA_384, E_c_SHA_384, S_c_SHA_512, E_c_SHA_512, F_c_SHA_1_id, F_c_SHA_256_id, F_c_SHA_384_id, F_c_SHA_512_id, S_c_EMPTY, E_c_EMPTY, F_c_EMPTY_value, W_c__VALUES⟩

  obtain ⟨n, o, h1, h2, h3, _, L, rfl, ⟨rfl, N⟩, hq⟩ := rm0 l s _ hw tables_1 i0 c__VALUES c_SHA_1 c_SHA_256 c_SHA_384 c_SHA_512 c_EMPTY s.heap s.heap.size (Old.start s) hS p e ha hc hk s m _ below hf ((Spec.applies_iff_loose hf).mp happ).1 ⟨rfl, State.Warmed39.refl s, rfl⟩ trivial
  refine ⟨n, _, h1, h2, h3, hpost _ _ _ _ _ _ ⟨Cond.after_iff.mpr rfl, Cond.after_iff.mpr (eq_i res_at (Term.int_eval (1)) rfl), trivial⟩ ⟨hq.1, hq.2.1, (hq.2.2.sift fun y hy => Or.inr (N y hy)).mono (by decide) (by decide)⟩⟩
theorem main_1_1 : Claimed_1_1 := comes_1 fun _ _ _ _ _ _ h hF => ⟨h.1, hF⟩
theorem main_1_2 : Claimed_1_2 := comes_1 fun _ _ _ _ _ _ h hF => ⟨h.2.1, hF⟩
end Jvm.Pilot.@@N@@
namespace Jvm.Pilot.@@N@@
open Jvm Jvm.ClassFile Sem Op Lib Jvm.Free Jvm.Stand Jvm.Pilot.@@N@@.Jvm.D
/-! MADE BY PROGRAM (witnessworld.py) out of the Statement's table words and the real class files: 15 classes; the members and pool entries that the words name. The judged class is class 1, her method 2. -/
namespace start1
open Jvm.ClassFile
def u (s : String) : CpInfo := .utf8 (stringToUtf16 s)
/-- a pool by its gaps: so many unusable entries, then the entry; so many at the end -/
def gap : Nat → List CpInfo → List CpInfo
  | 0, r => r
  | n + 1, r => .unusable :: gap n r
def poolList (es : List (Nat × CpInfo)) (last : Nat) : List CpInfo := es.foldr (fun e r => gap e.1 (e.2 :: r)) (gap last [])
def pool (es : List (Nat × CpInfo)) (last : Nat) : Array CpInfo := ⟨poolList es last⟩
def fileOf (pool : Array CpInfo) (this : Nat) (attrs : Array Attribute := #[]) (ms : Array MethodInfo := #[]) (fl : Nat := 33) (sup : Nat := 0) (ifs : Array Nat := #[]) (fds : Array FieldInfo := #[]) : ClassFile where
  minorVersion := 0
  majorVersion := 65
  constantPool := pool
  accessFlags := fl
  thisClass := this
  superClass := sup
  interfaces := ifs
  fields := fds
  methods := ms
  attributes := attrs
def plain (name : String) (sup : Option ClassId) : Class where
  name := name
  kind := .ordinary
  loader := none
  accessFlags := 33
  super := sup
  interfaces := #[]
  cf := none
  fields := #[]
  methods := #[]
  instanceTypes := #[]
  staticTypes := #[]
  resolved := #[]
  callSites := []
  init := .initialized
  statics := none
  mirror := none

def pool0 : Array CpInfo := pool [(5, u "<init>"), (0, u "()V"), (1, .class_ 10), (1, u "java/lang/Object"), (85, u "clone"), (0, u "()Ljava/lang/Object;")] 26

def k0c0 : Code := { maxStack := 0, maxLocals := 1, code := object_method_1_code, exceptionTable := #[], attributes := #[] }
def k0m0 : Method := { name := "<init>", desc := "()V", sig := { parameters := [], returnType := none }, accessFlags := 1, code := some k0c0 }
def k0m1 : Method := { name := "clone", desc := "()Ljava/lang/Object;", sig := { parameters := [], returnType := some (.object "java/lang/Object") }, accessFlags := 260, code := none }
/-- java/lang/Object -/
def k0 : Class := { plain "java/lang/Object" none with
  accessFlags := 33
  interfaces := #[]
  cf := some (fileOf pool0 8 #[] #[{ accessFlags := 1, nameIndex := 5, descriptorIndex := 6, attributes := #[] }, { accessFlags := 260, nameIndex := 96, descriptorIndex := 97, attributes := #[] }] 33 0 #[] #[])
  fields := #[]
  methods := #[k0m0, k0m1]
  instanceTypes := #[]
  staticTypes := #[]
  resolved := Array.replicate 124 none
  statics := none }

def pool1 : Array CpInfo := pool [(2, .class_ 4), (1, u "java/lang/Object"), (0, u "<init>"), (0, u "()V"), (0, .fieldref 8 9), (0, .class_ 10), (0, .nameAndType 11 12), (0, u "com/example/watchword/watchword/model/SrpHash"), (0, u "SHA_1"), (0, u "Lcom/example/watchword/watchword/model/SrpHash;"), (0, .fieldref 8 14), (0, .nameAndType 15 12), (0, u "SHA_256"), (0, .fieldref 8 17), (0, .nameAndType 18 12), (0, u "SHA_384"), (0, .fieldref 8 20), (0, .nameAndType 21 12), (0, u "SHA_512"), (0, .methodref 23 24), (0, .class_ 25), (0, .nameAndType 26 27), (0, u "com/example/watchword/watchword/model/SrpHashByIdPinLaw"), (0, u "expected"), (0, u "(B)Lcom/example/watchword/watchword/model/SrpHash;"), (0, .methodref 8 29), (0, .nameAndType 30 31), (0, u "byId"), (0, u "(B)Ljava/util/Optional;"), (0, .methodref 33 34), (0, .class_ 35), (0, .nameAndType 36 37), (0, u "java/util/Optional"), (0, u "isPresent"), (0, u "()Z"), (0, .methodref 33 39), (0, .nameAndType 40 41), (0, u "get"), (0, u "()Ljava/lang/Object;"), (3, u "law"), (0, u "(I)Z")] 2

def k1m0 : Method := { name := "<init>", desc := "()V", sig := { parameters := [], returnType := none }, accessFlags := 2, code := none }
def k1c1 : Code := { maxStack := 2, maxLocals := 1, code := method_2_code, exceptionTable := #[], attributes := #[] }
def k1m1 : Method := { name := "expected", desc := "(B)Lcom/example/watchword/watchword/model/SrpHash;", sig := { parameters := [.byte], returnType := some (.object "com/example/watchword/watchword/model/SrpHash") }, accessFlags := 10, code := some k1c1 }
def k1c2 : Code := { maxStack := 2, maxLocals := 4, code := code, exceptionTable := #[], attributes := #[] }
def k1m2 : Method := { name := "law", desc := "(I)Z", sig := { parameters := [.int], returnType := some .boolean }, accessFlags := 9, code := some k1c2 }
/-- com/example/watchword/watchword/model/SrpHashByIdPinLaw -/
def k1 : Class := { plain "com/example/watchword/watchword/model/SrpHashByIdPinLaw" (some 0) with
  accessFlags := 49
  interfaces := #[]
  cf := some (fileOf pool1 23 #[] #[{ accessFlags := 2, nameIndex := 5, descriptorIndex := 6, attributes := #[] }, { accessFlags := 10, nameIndex := 26, descriptorIndex := 27, attributes := #[] }, { accessFlags := 9, nameIndex := 45, descriptorIndex := 46, attributes := #[] }] 49 2 #[] #[])
  fields := #[]
  methods := #[k1m0, k1m1, k1m2]
  instanceTypes := #[]
  staticTypes := #[]
  resolved := Array.replicate 49 none
  statics := none }

def pool2 : Array CpInfo := pool [(1, .class_ 2), (0, u "java/lang/constant/Constable"), (0, .class_ 4), (0, u "java/lang/Object")] 6

/-- java/lang/constant/Constable -/
def k2 : Class := { plain "java/lang/constant/Constable" (some 0) with
  accessFlags := 1537
  interfaces := #[]
  cf := some (fileOf pool2 1 #[] #[] 1537 3 #[] #[])
  fields := #[]
  methods := #[]
  instanceTypes := #[]
  staticTypes := #[]
  resolved := Array.replicate 11 none
  statics := none }

def pool3 : Array CpInfo := pool [(1, .class_ 2), (0, u "java/lang/Comparable"), (0, .class_ 4), (0, u "java/lang/Object")] 7

/-- java/lang/Comparable -/
def k3 : Class := { plain "java/lang/Comparable" (some 0) with
  accessFlags := 1537
  interfaces := #[]
  cf := some (fileOf pool3 1 #[] #[] 1537 3 #[] #[])
  fields := #[]
  methods := #[]
  instanceTypes := #[]
  staticTypes := #[]
  resolved := Array.replicate 12 none
  statics := none }

def pool4 : Array CpInfo := pool [(1, .class_ 2), (0, u "java/io/Serializable"), (0, .class_ 4), (0, u "java/lang/Object")] 2

/-- java/io/Serializable -/
def k4 : Class := { plain "java/io/Serializable" (some 0) with
  accessFlags := 1537
  interfaces := #[]
  cf := some (fileOf pool4 1 #[] #[] 1537 3 #[] #[])
  fields := #[]
  methods := #[]
  instanceTypes := #[]
  staticTypes := #[]
  resolved := Array.replicate 7 none
  statics := none }

def pool5 : Array CpInfo := pool [(2, .class_ 4), (1, u "java/lang/Enum"), (0, u "name"), (0, u "Ljava/lang/String;"), (2, u "ordinal"), (0, u "I"), (1, .class_ 14), (1, u "java/lang/Object"), (4, u "hash"), (86, .class_ 108), (1, u "java/lang/Enum$EnumDesc"), (2, .class_ 112), (0, u "java/lang/constant/Constable"), (0, .class_ 114), (0, u "java/lang/Comparable"), (0, .class_ 116), (0, u "java/io/Serializable")] 87

/-- java/lang/Enum -/
def k5 : Class := { plain "java/lang/Enum" (some 0) with
  accessFlags := 1057
  interfaces := #[2, 3, 4]
  cf := some (fileOf pool5 2 #[.nestMembers #[106]] #[] 1057 12 #[111, 113, 115] #[{ accessFlags := 18, nameIndex := 5, descriptorIndex := 6, attributes := #[] }, { accessFlags := 18, nameIndex := 9, descriptorIndex := 10, attributes := #[] }, { accessFlags := 2, nameIndex := 19, descriptorIndex := 10, attributes := #[] }])
  fields := #[{ name := "name", type := (.object "java/lang/String"), accessFlags := 18, slot := 0, constantValue := 0 }, { name := "ordinal", type := .int, accessFlags := 18, slot := 1, constantValue := 0 }, { name := "hash", type := .int, accessFlags := 2, slot := 2, constantValue := 0 }]
  methods := #[]
  instanceTypes := #[(.object "java/lang/String"), .int, .int]
  staticTypes := #[]
  resolved := Array.replicate 204 none
  statics := none }

def pool6 : Array CpInfo := pool [(1, .class_ 2), (0, u "com/example/watchword/watchword/model/SrpHash"), (2, u "SHA_1"), (0, u "Lcom/example/watchword/watchword/model/SrpHash;"), (2, u "SHA_256"), (2, u "SHA_384"), (2, u "SHA_512"), (0, .fieldref 1 17), (0, .nameAndType 18 19), (0, u "$VALUES"), (0, u "[Lcom/example/watchword/watchword/model/SrpHash;"), (0, .methodref 21 22), (0, .class_ 19), (0, .nameAndType 23 24), (0, u "clone"), (0, u "()Ljava/lang/Object;"), (1, .class_ 28), (1, u "java/lang/Enum"), (6, .fieldref 1 36), (0, .nameAndType 37 38), (0, u "id"), (0, u "B"), (2, u "algorithm"), (0, u "Ljava/lang/String;"), (2, u "recordName"), (2, u "digestLength"), (0, u "I"), (0, .methodref 1 51), (0, .nameAndType 52 53), (0, u "values"), (0, u "()[Lcom/example/watchword/watchword/model/SrpHash;"), (0, .methodref 55 56), (0, .class_ 57), (0, .nameAndType 58 59), (0, u "java/util/Optional"), (0, u "of"), (0, u "(Ljava/lang/Object;)Ljava/util/Optional;"), (0, .methodref 55 61), (0, .nameAndType 62 63), (0, u "empty"), (0, u "()Ljava/util/Optional;"), (28, u "DEFAULT"), (6, u "byId"), (0, u "(B)Ljava/util/Optional;")] 10

def k6c0 : Code := { maxStack := 1, maxLocals := 0, code := prog_29_method_1_code, exceptionTable := #[], attributes := #[] }
def k6m0 : Method := { name := "values", desc := "()[Lcom/example/watchword/watchword/model/SrpHash;", sig := { parameters := [], returnType := some (.array (.object "com/example/watchword/watchword/model/SrpHash")) }, accessFlags := 9, code := some k6c0 }
def k6c1 : Code := { maxStack := 2, maxLocals := 5, code := prog_29_method_4_code, exceptionTable := #[], attributes := #[] }
def k6m1 : Method := { name := "byId", desc := "(B)Ljava/util/Optional;", sig := { parameters := [.byte], returnType := some (.object "java/util/Optional") }, accessFlags := 9, code := some k6c1 }
/-- com/example/watchword/watchword/model/SrpHash -/
def k6 : Class := { plain "com/example/watchword/watchword/model/SrpHash" (some 5) with
  accessFlags := 16433
  interfaces := #[]
  cf := some (fileOf pool6 1 #[] #[{ accessFlags := 9, nameIndex := 52, descriptorIndex := 53, attributes := #[] }, { accessFlags := 9, nameIndex := 99, descriptorIndex := 100, attributes := #[] }] 16433 26 #[] #[{ accessFlags := 16409, nameIndex := 5, descriptorIndex := 6, attributes := #[] }, { accessFlags := 16409, nameIndex := 9, descriptorIndex := 6, attributes := #[] }, { accessFlags := 16409, nameIndex := 12, descriptorIndex := 6, attributes := #[] }, { accessFlags := 16409, nameIndex := 15, descriptorIndex := 6, attributes := #[] }, { accessFlags := 25, nameIndex := 92, descriptorIndex := 6, attributes := #[] }, { accessFlags := 18, nameIndex := 37, descriptorIndex := 38, attributes := #[] }, { accessFlags := 18, nameIndex := 41, descriptorIndex := 42, attributes := #[] }, { accessFlags := 18, nameIndex := 45, descriptorIndex := 42, attributes := #[] }, { accessFlags := 18, nameIndex := 48, descriptorIndex := 49, attributes := #[] }, { accessFlags := 4122, nameIndex := 18, descriptorIndex := 19, attributes := #[] }])
  fields := #[{ name := "SHA_1", type := (.object "com/example/watchword/watchword/model/SrpHash"), accessFlags := 16409, slot := 0, constantValue := 0 }, { name := "SHA_256", type := (.object "com/example/watchword/watchword/model/SrpHash"), accessFlags := 16409, slot := 1, constantValue := 0 }, { name := "SHA_384", type := (.object "com/example/watchword/watchword/model/SrpHash"), accessFlags := 16409, slot := 2, constantValue := 0 }, { name := "SHA_512", type := (.object "com/example/watchword/watchword/model/SrpHash"), accessFlags := 16409, slot := 3, constantValue := 0 }, { name := "DEFAULT", type := (.object "com/example/watchword/watchword/model/SrpHash"), accessFlags := 25, slot := 4, constantValue := 0 }, { name := "id", type := .byte, accessFlags := 18, slot := 3, constantValue := 0 }, { name := "algorithm", type := (.object "java/lang/String"), accessFlags := 18, slot := 4, constantValue := 0 }, { name := "recordName", type := (.object "java/lang/String"), accessFlags := 18, slot := 5, constantValue := 0 }, { name := "digestLength", type := .int, accessFlags := 18, slot := 6, constantValue := 0 }, { name := "$VALUES", type := (.array (.object "com/example/watchword/watchword/model/SrpHash")), accessFlags := 4122, slot := 5, constantValue := 0 }]
  methods := #[k6m0, k6m1]
  instanceTypes := #[(.object "java/lang/String"), .int, .int, .byte, (.object "java/lang/String"), (.object "java/lang/String"), .int]
  staticTypes := #[(.object "com/example/watchword/watchword/model/SrpHash"), (.object "com/example/watchword/watchword/model/SrpHash"), (.object "com/example/watchword/watchword/model/SrpHash"), (.object "com/example/watchword/watchword/model/SrpHash"), (.object "com/example/watchword/watchword/model/SrpHash"), (.array (.object "com/example/watchword/watchword/model/SrpHash"))]
  resolved := Array.replicate 111 none
  statics := some 0 }

def pool7 : Array CpInfo := pool [(1, .class_ 2), (0, u "java/lang/Cloneable"), (0, .class_ 4), (0, u "java/lang/Object")] 2

/-- java/lang/Cloneable -/
def k7 : Class := { plain "java/lang/Cloneable" (some 0) with
  accessFlags := 1537
  interfaces := #[]
  cf := some (fileOf pool7 1 #[] #[] 1537 3 #[] #[])
  fields := #[]
  methods := #[]
  instanceTypes := #[]
  staticTypes := #[]
  resolved := Array.replicate 7 none
  statics := none }

def pool8 : Array CpInfo := pool [(1, .fieldref 2 3), (0, .class_ 4), (0, .nameAndType 5 6), (0, u "java/util/Optional"), (0, u "EMPTY"), (0, u "Ljava/util/Optional;"), (0, .methodref 8 9), (0, .class_ 10), (0, .nameAndType 11 12), (0, u "java/lang/Object"), (0, u "<init>"), (0, u "()V"), (0, .fieldref 2 14), (0, .nameAndType 15 16), (0, u "value"), (0, u "Ljava/lang/Object;"), (0, .methodref 18 19), (0, .class_ 20), (0, .nameAndType 21 22), (0, u "java/util/Objects"), (0, u "requireNonNull"), (0, u "(Ljava/lang/Object;)Ljava/lang/Object;"), (0, .methodref 2 24), (0, .nameAndType 11 25), (0, u "(Ljava/lang/Object;)V"), (20, u "()Z"), (8, u "empty"), (0, u "()Ljava/util/Optional;"), (8, u "(Ljava/lang/Object;)Ljava/util/Optional;"), (2, u "isPresent"), (4, u "get"), (0, u "()Ljava/lang/Object;"), (7, u "of")] 104

def k8c0 : Code := { maxStack := 1, maxLocals := 1, code := jdk_32_method_1_code, exceptionTable := #[], attributes := #[] }
def k8m0 : Method := { name := "empty", desc := "()Ljava/util/Optional;", sig := { parameters := [], returnType := some (.object "java/util/Optional") }, accessFlags := 9, code := some k8c0 }
def k8c1 : Code := { maxStack := 2, maxLocals := 2, code := jdk_32_method_2_code, exceptionTable := #[], attributes := #[] }
def k8m1 : Method := { name := "<init>", desc := "(Ljava/lang/Object;)V", sig := { parameters := [(.object "java/lang/Object")], returnType := none }, accessFlags := 2, code := some k8c1 }
def k8c2 : Code := { maxStack := 3, maxLocals := 1, code := jdk_32_method_3_code, exceptionTable := #[], attributes := #[] }
def k8m2 : Method := { name := "of", desc := "(Ljava/lang/Object;)Ljava/util/Optional;", sig := { parameters := [(.object "java/lang/Object")], returnType := some (.object "java/util/Optional") }, accessFlags := 9, code := some k8c2 }
def k8c3 : Code := { maxStack := 3, maxLocals := 1, code := jdk_32_method_5_code, exceptionTable := #[], attributes := #[] }
def k8m3 : Method := { name := "get", desc := "()Ljava/lang/Object;", sig := { parameters := [], returnType := some (.object "java/lang/Object") }, accessFlags := 1, code := some k8c3 }
def k8c4 : Code := { maxStack := 1, maxLocals := 1, code := jdk_32_method_6_code, exceptionTable := #[], attributes := #[] }
def k8m4 : Method := { name := "isPresent", desc := "()Z", sig := { parameters := [], returnType := some .boolean }, accessFlags := 1, code := some k8c4 }
/-- java/util/Optional -/
def k8 : Class := { plain "java/util/Optional" (some 0) with
  accessFlags := 49
  interfaces := #[]
  cf := some (fileOf pool8 2 #[] #[{ accessFlags := 9, nameIndex := 55, descriptorIndex := 56, attributes := #[] }, { accessFlags := 2, nameIndex := 11, descriptorIndex := 25, attributes := #[] }, { accessFlags := 9, nameIndex := 82, descriptorIndex := 65, attributes := #[] }, { accessFlags := 1, nameIndex := 73, descriptorIndex := 74, attributes := #[] }, { accessFlags := 1, nameIndex := 68, descriptorIndex := 46, attributes := #[] }] 49 8 #[] #[{ accessFlags := 26, nameIndex := 5, descriptorIndex := 6, attributes := #[] }, { accessFlags := 18, nameIndex := 15, descriptorIndex := 16, attributes := #[] }])
  fields := #[{ name := "EMPTY", type := (.object "java/util/Optional"), accessFlags := 26, slot := 0, constantValue := 0 }, { name := "value", type := (.object "java/lang/Object"), accessFlags := 18, slot := 0, constantValue := 0 }]
  methods := #[k8m0, k8m1, k8m2, k8m3, k8m4]
  instanceTypes := #[(.object "java/lang/Object")]
  staticTypes := #[(.object "java/util/Optional")]
  resolved := Array.replicate 187 none
  statics := some 1 }

def pool9 : Array CpInfo := pool [(2, .class_ 4), (1, u "java/lang/Object"), (0, u "<init>"), (0, u "()V"), (35, .class_ 44), (1, u "java/util/Objects"), (0, u "requireNonNull"), (0, u "(Ljava/lang/Object;)Ljava/lang/Object;")] 137

def k9m0 : Method := { name := "<init>", desc := "()V", sig := { parameters := [], returnType := none }, accessFlags := 2, code := none }
def k9c1 : Code := { maxStack := 2, maxLocals := 1, code := jdk_31_method_10_code, exceptionTable := #[], attributes := #[] }
def k9m1 : Method := { name := "requireNonNull", desc := "(Ljava/lang/Object;)Ljava/lang/Object;", sig := { parameters := [(.object "java/lang/Object")], returnType := some (.object "java/lang/Object") }, accessFlags := 9, code := some k9c1 }
/-- java/util/Objects -/
def k9 : Class := { plain "java/util/Objects" (some 0) with
  accessFlags := 49
  interfaces := #[]
  cf := some (fileOf pool9 42 #[] #[{ accessFlags := 2, nameIndex := 5, descriptorIndex := 6, attributes := #[] }, { accessFlags := 9, nameIndex := 45, descriptorIndex := 46, attributes := #[] }] 49 2 #[] #[])
  fields := #[]
  methods := #[k9m0, k9m1]
  instanceTypes := #[]
  staticTypes := #[]
  resolved := Array.replicate 184 none
  statics := none }

/-- the primitive byte -/
def k10 : Class := { plain "byte" none with kind := .primitive 'B', accessFlags := 0x411 }
/-- [B -/
def k11 : Class := { plain "[B" (some 0) with kind := .array 10 .byte, interfaces := #[7, 4], accessFlags := 1041 }

/-- the primitive int -/
def k12 : Class := { plain "int" none with kind := .primitive 'I', accessFlags := 0x411 }
/-- [I -/
def k13 : Class := { plain "[I" (some 0) with kind := .array 12 .int, interfaces := #[7, 4], accessFlags := 1041 }

/-- [Lcom/example/watchword/watchword/model/SrpHash; -/
def k14 : Class := { plain "[Lcom/example/watchword/watchword/model/SrpHash;" (some 0) with kind := .array 6 (.object "com/example/watchword/watchword/model/SrpHash"), interfaces := #[7, 4], accessFlags := 1041 }

def heap : Heap := #[{ cls := 6, slots := #[.ref 3, .ref 4, .ref 5, .ref 6, .null, .ref 2], vm := .statics 6 },
  { cls := 8, slots := #[.ref 7], vm := .statics 8 },
  { cls := 14, slots := #[.ref 3, .ref 4, .ref 5, .ref 6], vm := .none },
  { cls := 6, slots := #[.null, .int 0, .int 0, .int 1, .null, .null, .int 0], vm := .none },
  { cls := 6, slots := #[.null, .int 0, .int 0, .int 2, .null, .null, .int 0], vm := .none },
  { cls := 6, slots := #[.null, .int 0, .int 0, .int 3, .null, .null, .int 0], vm := .none },
  { cls := 6, slots := #[.null, .int 0, .int 0, .int 4, .null, .null, .int 0], vm := .none },
  { cls := 8, slots := #[.null], vm := .none }]
def classes : Array Class := #[k0, k1, k2, k3, k4, k5, k6, k7, k8, k9, k10, k11, k12, k13, k14]
def interned : List (Array UInt16 × Addr) := []
def slotsUsed : Nat := 40
def theMethod : MethodId := ⟨1, 2⟩
def args0 : Array Value := #[.int 5]
def aboutOver (below : List Frame) : State where
  vm := { classes := classes, interned := interned.toArray }
  heap := heap
  slotsUsed := slotsUsed
  threads := #[{ frames := .invoking theMethod args0 :: below }]
def below0 : List Frame := [.native { method := ⟨0, 0⟩, args := #[] }]
def about1 : State := aboutOver below0
def p0 : Program := .bare "" "" ""
def e0 : Env := launch0.env 0 0 0
theorem w_frames : about1.frames = Frame.invoking theMethod args0 :: below0 := rfl
set_option maxRecDepth 65536 in
theorem w_args : argsFit about1.vm theMethod args0 = true := by decide +kernel
set_option maxRecDepth 65536 in
theorem w_heap : heapFits about1 = true := by decide +kernel
set_option maxRecDepth 65536 in
theorem w_runnable : about1.curStatus? = some .runnable := by decide +kernel
set_option maxRecDepth 65536 in
theorem w_alone : about1.alone = true := by decide +kernel
set_option maxRecDepth 65536 in
theorem w_named : about1.methodNamed? x = some theMethod := by decide +kernel
set_option maxRecDepth 65536 in
theorem w_hears : about1.hears theMethod below0 = true := by decide +kernel
set_option maxRecDepth 65536 in
theorem w_ripe : about1.ripe theMethod args0 below0 = true := by decide +kernel
theorem w_running : about1.status = .running := rfl
set_option maxRecDepth 65536 in
theorem w_room : about1.hasRoom e0.platform room_1 = true :=
  launch0.hasRoom_least _ room_1 (by decide +kernel) (by decide +kernel) (by decide +kernel) (by decide +kernel) (by decide +kernel) (by decide +kernel)
theorem allAtoms_all (ts : List Jvm.Cond) (a : Array Jvm.Value) (st : Jvm.State) : (allAtoms ts).before a st = ts.all (fun c => c.before a st) := by
  induction ts with
  | nil => rfl
  | cons c t ih =>
    show (Jvm.Cond.and c (allAtoms t)).before a st = _
    rw [Jvm.Cond.before_and, ih, List.all_cons]
def words1 : List Jvm.Cond := Jvm.Cond.code x code maxLocals ret :: tables_1
/-- a 'code' word, met by the world's own term for the bytes: nothing is compared byte by byte -/
theorem code_word {y : MethodName} {bytes : ByteArray} {mx : Nat} {rt : Option FieldType} {a : Array Value} {s : State} {m : MethodId} {meth : Method} {c : Code} (h1 : s.methodNamed? y = some m) (h2 : s.vm.method? m = some meth) (h3 : meth.code = some c) (h4 : c.code = bytes)
    (h5 : (c.maxLocals == mx && c.exceptionTable.isEmpty && decide (c.maxStack ≤ mostOperands) && decide (meth.sig.returnType = rt) && !meth.locks && decide (parseMethodDescriptor y.desc = some meth.sig)) = true) : (Jvm.Cond.code y bytes mx rt).before a s = true := by
  simp only [Bool.and_eq_true, beq_iff_eq, Bool.not_eq_true', decide_eq_true_eq] at h5
  obtain ⟨⟨⟨⟨⟨g1, g2⟩, g3⟩, g4⟩, g5⟩, g6⟩ := h5
  simp [Cond.before, Cond.holds, Cond.value, h1, h2, h3, h4, g1, g2, g3, g4, g5, g6]
def isCode : Jvm.Cond → Bool
  | .code _ _ _ _ => true
  | _ => false
theorem all_split {L : List Jvm.Cond} {P : Jvm.Cond → Bool} (h1 : L.all (fun c => isCode c || P c) = true) (h2 : ∀ c ∈ L.filter isCode, P c = true) : L.all P = true := by
  refine List.all_eq_true.mpr fun c hc => ?_
  have h := List.all_eq_true.mp h1 c hc
  rcases Bool.eq_false_or_eq_true (isCode c) with hi | hi
  · exact h2 c (List.mem_filter.mpr ⟨hc, hi⟩)
  · simpa [hi] using h
set_option maxRecDepth 65536 in
theorem w_c0 : (Jvm.Cond.code x code maxLocals ret).before args0 about1 = true := code_word (m := ⟨1, 2⟩) (meth := k1m2) (c := k1c2) (by decide +kernel) rfl rfl rfl (by decide +kernel)
set_option maxRecDepth 65536 in
theorem w_c1 : (Jvm.Cond.code ({ cls := "com/example/watchword/watchword/model/SrpHashByIdPinLaw", name := "expected", desc := "(B)Lcom/example/watchword/watchword/model/SrpHash;" } : Jvm.MethodName) method_2_code (1 : Nat) (Option.some (Jvm.ClassFile.FieldType.object "com/example/watchword/watchword/model/SrpHash"))).before args0 about1 = true := code_word (m := ⟨1, 1⟩) (meth := k1m1) (c := k1c1) (by decide +kernel) rfl rfl rfl (by decide +kernel)
set_option maxRecDepth 65536 in
theorem w_c2 : (Jvm.Cond.code ({ cls := "com/example/watchword/watchword/model/SrpHash", name := "byId", desc := "(B)Ljava/util/Optional;" } : Jvm.MethodName) prog_29_method_4_code (5 : Nat) (Option.some (Jvm.ClassFile.FieldType.object "java/util/Optional"))).before args0 about1 = true := code_word (m := ⟨6, 1⟩) (meth := k6m1) (c := k6c1) (by decide +kernel) rfl rfl rfl (by decide +kernel)
set_option maxRecDepth 65536 in
theorem w_c3 : (Jvm.Cond.code ({ cls := "com/example/watchword/watchword/model/SrpHash", name := "values", desc := "()[Lcom/example/watchword/watchword/model/SrpHash;" } : Jvm.MethodName) prog_29_method_1_code (0 : Nat) (Option.some (Jvm.ClassFile.FieldType.array (Jvm.ClassFile.FieldType.object "com/example/watchword/watchword/model/SrpHash")))).before args0 about1 = true := code_word (m := ⟨6, 0⟩) (meth := k6m0) (c := k6c0) (by decide +kernel) rfl rfl rfl (by decide +kernel)
set_option maxRecDepth 65536 in
theorem w_c4 : (Jvm.Cond.code ({ cls := "java/util/Optional", name := "empty", desc := "()Ljava/util/Optional;" } : Jvm.MethodName) jdk_32_method_1_code (1 : Nat) (Option.some (Jvm.ClassFile.FieldType.object "java/util/Optional"))).before args0 about1 = true := code_word (m := ⟨8, 0⟩) (meth := k8m0) (c := k8c0) (by decide +kernel) rfl rfl rfl (by decide +kernel)
set_option maxRecDepth 65536 in
theorem w_c5 : (Jvm.Cond.code ({ cls := "java/util/Optional", name := "isPresent", desc := "()Z" } : Jvm.MethodName) jdk_32_method_6_code (1 : Nat) (Option.some Jvm.ClassFile.FieldType.boolean)).before args0 about1 = true := code_word (m := ⟨8, 4⟩) (meth := k8m4) (c := k8c4) (by decide +kernel) rfl rfl rfl (by decide +kernel)
set_option maxRecDepth 65536 in
theorem w_c6 : (Jvm.Cond.code ({ cls := "java/util/Optional", name := "of", desc := "(Ljava/lang/Object;)Ljava/util/Optional;" } : Jvm.MethodName) jdk_32_method_3_code (1 : Nat) (Option.some (Jvm.ClassFile.FieldType.object "java/util/Optional"))).before args0 about1 = true := code_word (m := ⟨8, 2⟩) (meth := k8m2) (c := k8c2) (by decide +kernel) rfl rfl rfl (by decide +kernel)
set_option maxRecDepth 65536 in
theorem w_c7 : (Jvm.Cond.code ({ cls := "java/util/Objects", name := "requireNonNull", desc := "(Ljava/lang/Object;)Ljava/lang/Object;" } : Jvm.MethodName) jdk_31_method_10_code (1 : Nat) (Option.some (Jvm.ClassFile.FieldType.object "java/lang/Object"))).before args0 about1 = true := code_word (m := ⟨9, 1⟩) (meth := k9m1) (c := k9c1) (by decide +kernel) rfl rfl rfl (by decide +kernel)
set_option maxRecDepth 65536 in
theorem w_c8 : (Jvm.Cond.code ({ cls := "java/util/Optional", name := "<init>", desc := "(Ljava/lang/Object;)V" } : Jvm.MethodName) jdk_32_method_2_code (2 : Nat) (Option.none : Option Jvm.ClassFile.FieldType)).before args0 about1 = true := code_word (m := ⟨8, 1⟩) (meth := k8m1) (c := k8c1) (by decide +kernel) rfl rfl rfl (by decide +kernel)
set_option maxRecDepth 65536 in
theorem w_c9 : (Jvm.Cond.code ({ cls := "java/lang/Object", name := "<init>", desc := "()V" } : Jvm.MethodName) object_method_1_code (1 : Nat) (Option.none : Option Jvm.ClassFile.FieldType)).before args0 about1 = true := code_word (m := ⟨0, 0⟩) (meth := k0m0) (c := k0c0) (by decide +kernel) rfl rfl rfl (by decide +kernel)
set_option maxRecDepth 65536 in
theorem w_c10 : (Jvm.Cond.code ({ cls := "java/util/Optional", name := "get", desc := "()Ljava/lang/Object;" } : Jvm.MethodName) jdk_32_method_5_code (1 : Nat) (Option.some (Jvm.ClassFile.FieldType.object "java/lang/Object"))).before args0 about1 = true := code_word (m := ⟨8, 3⟩) (meth := k8m3) (c := k8c3) (by decide +kernel) rfl rfl rfl (by decide +kernel)
def codes1 : List Jvm.Cond := [Jvm.Cond.code x code maxLocals ret, Jvm.Cond.code ({ cls := "com/example/watchword/watchword/model/SrpHashByIdPinLaw", name := "expected", desc := "(B)Lcom/example/watchword/watchword/model/SrpHash;" } : Jvm.MethodName) method_2_code (1 : Nat) (Option.some (Jvm.ClassFile.FieldType.object "com/example/watchword/watchword/model/SrpHash")), Jvm.Cond.code ({ cls := "com/example/watchword/watchword/model/SrpHash", name := "byId", desc := "(B)Ljava/util/Optional;" } : Jvm.MethodName) prog_29_method_4_code (5 : Nat) (Option.some (Jvm.ClassFile.FieldType.object "java/util/Optional")), Jvm.Cond.code ({ cls := "com/example/watchword/watchword/model/SrpHash", name := "values", desc := "()[Lcom/example/watchword/watchword/model/SrpHash;" } : Jvm.MethodName) prog_29_method_1_code (0 : Nat) (Option.some (Jvm.ClassFile.FieldType.array (Jvm.ClassFile.FieldType.object "com/example/watchword/watchword/model/SrpHash"))), Jvm.Cond.code ({ cls := "java/util/Optional", name := "empty", desc := "()Ljava/util/Optional;" } : Jvm.MethodName) jdk_32_method_1_code (1 : Nat) (Option.some (Jvm.ClassFile.FieldType.object "java/util/Optional")), Jvm.Cond.code ({ cls := "java/util/Optional", name := "isPresent", desc := "()Z" } : Jvm.MethodName) jdk_32_method_6_code (1 : Nat) (Option.some Jvm.ClassFile.FieldType.boolean), Jvm.Cond.code ({ cls := "java/util/Optional", name := "of", desc := "(Ljava/lang/Object;)Ljava/util/Optional;" } : Jvm.MethodName) jdk_32_method_3_code (1 : Nat) (Option.some (Jvm.ClassFile.FieldType.object "java/util/Optional")), Jvm.Cond.code ({ cls := "java/util/Objects", name := "requireNonNull", desc := "(Ljava/lang/Object;)Ljava/lang/Object;" } : Jvm.MethodName) jdk_31_method_10_code (1 : Nat) (Option.some (Jvm.ClassFile.FieldType.object "java/lang/Object")), Jvm.Cond.code ({ cls := "java/util/Optional", name := "<init>", desc := "(Ljava/lang/Object;)V" } : Jvm.MethodName) jdk_32_method_2_code (2 : Nat) (Option.none : Option Jvm.ClassFile.FieldType), Jvm.Cond.code ({ cls := "java/lang/Object", name := "<init>", desc := "()V" } : Jvm.MethodName) object_method_1_code (1 : Nat) (Option.none : Option Jvm.ClassFile.FieldType), Jvm.Cond.code ({ cls := "java/util/Optional", name := "get", desc := "()Ljava/lang/Object;" } : Jvm.MethodName) jdk_32_method_5_code (1 : Nat) (Option.some (Jvm.ClassFile.FieldType.object "java/lang/Object"))]
set_option maxRecDepth 65536 in
theorem codes_eq : words1.filter isCode = codes1 := rfl
theorem w_codes : ∀ c ∈ words1.filter isCode, c.before args0 about1 = true := by
  rw [codes_eq]
  intro c hc
  simp only [codes1, List.mem_cons, List.not_mem_nil, or_false] at hc
  rcases hc with rfl | rfl | rfl | rfl | rfl | rfl | rfl | rfl | rfl | rfl | rfl
  · exact w_c0
  · exact w_c1
  · exact w_c2
  · exact w_c3
  · exact w_c4
  · exact w_c5
  · exact w_c6
  · exact w_c7
  · exact w_c8
  · exact w_c9
  · exact w_c10
set_option maxRecDepth 65536 in
theorem w_t1 : (words1.take 24).all (fun c => isCode c || c.before args0 about1) = true := by decide +kernel
set_option maxRecDepth 65536 in
theorem w_t2 : ((words1.drop 24).take 24).all (fun c => isCode c || c.before args0 about1) = true := by decide +kernel
set_option maxRecDepth 65536 in
theorem w_t3 : ((words1.drop 24).drop 24).all (fun c => isCode c || c.before args0 about1) = true := by decide +kernel
theorem w_tables : (allAtoms (Jvm.Cond.code x code maxLocals ret :: tables_1)).before args0 about1 = true := by
  rw [allAtoms_all]
  show words1.all (fun c => c.before args0 about1) = true
  refine all_split ?_ w_codes
  rw [← List.take_append_drop 24 words1, List.all_append, w_t1, ← List.take_append_drop 24 (words1.drop 24), List.all_append, w_t2, w_t3]
  rfl
set_option maxRecDepth 65536 in
theorem w_rest : rest_1_c.before args0 about1 = true := by decide +kernel
set_option maxRecDepth 65536 in
theorem w_case : (Jvm.Cond.and given_1 narrow_1).before args0 about1 = true := by decide +kernel
theorem w_applies : (headSpec (Jvm.Cond.code x code maxLocals ret :: tables_1) room_1).applies x e0.platform about1 = true :=
  (Spec.applies_iff w_frames).mpr ⟨w_running, w_runnable, w_alone, w_named, w_hears, w_ripe, w_room, w_tables⟩
theorem atStart : AtStart classFile x code maxLocals ret World_1 tables_1 room_1 Calls_1 rest_1 Pre_1 launch0 p0 e0 about1 theMethod args0 below0 :=
  ⟨lists_1, trivial, launch0.admits_env _ _ _, launch0.least_env, fairChoices_fair.cas, fairChoices_fair.clock, w_frames, w_args, w_heap, w_applies, trivial, w_rest, w_case⟩
end start1
theorem witness_1 : WitnessClaimed_1 := ⟨start1.p0, start1.e0, start1.about1, start1.theMethod, start1.args0, start1.below0, start1.atStart⟩
end Jvm.Pilot.@@N@@
