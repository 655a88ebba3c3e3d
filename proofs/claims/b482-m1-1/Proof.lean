import JvmDerived
import JvmDerived.Pilot.@@N@@Statement
import JvmDerived.Pilot.@@N@@Code
set_option linter.unusedVariables false
set_option linter.unusedSimpArgs false
namespace Jvm.Pilot.@@N@@
open Jvm Jvm.ClassFile Sem Op Lib Jvm.Free Jvm.Stand Jvm.LawKit Jvm.RoadKit Bundle Jvm.Pilot.@@N@@.Jvm.D
section OwnKit
variable {p : Program} {l : Launch} {e : Env} {R : Room} {s : State} {m : MethodId} {args : Array Value} {below : List Frame} {meth : Method} {c : Code} {T : State} {locs : List Loc} {cells slots : Nat} {Z : State} {a0 : Array Value} {h : Heap} {Q : Option Value → Heap → List Loc → Prop} {rc rs : Nat} {S S' : State}
/-- from S the body ends well -/
def own_go (p : Program) (e : Env) (below : List Frame) (s : State) (Q : Option Value → Heap → List Loc → Prop) (rc rs : Nat) (S : State) : Prop :=
  ∃ s₂ o, Steps p.tables e below S s₂ ∧ s₂.status = .running ∧ Ended s₂ below o ∧ ∃ v L, o = .returned v ∧ Q v s₂.heap L ∧ FrameEnd s o s₂ L rc rs
theorem own_st (k : ∀ t, Steps p.tables e below S' t → Steps p.tables e below S t) (g : own_go p e below s Q rc rs S') : own_go p e below s Q rc rs S := by
  obtain ⟨s₂, o, h1, h2⟩ := g
  exact ⟨s₂, o, k _ h1, h2⟩
theorem own_ret (X : Stand p l e R s m args below meth c T locs cells slots) (hx : p.tables.exec = Jvm.exec) (hlk : meth.locks = false) {pc : Nat} {Ls : Array Slot} {w : Value} {t : FieldType} {i : Instr} {rest : List Value} (hret : meth.sig.returnType = some t) (hn : narrow t w = w)
    (hi : (i = .ireturn ∧ (t = .int ∨ t = .boolean ∨ t = .byte ∨ t = .char ∨ t = .short) ∧ ∃ z, w = .int z) ∨ (i = .lreturn ∧ t = .long ∧ ∃ z, w = .long z) ∨ (i = .dreturn ∧ t = .double ∧ ∃ z, w = .double z) ∨ (i = .freturn ∧ t = .float ∧ ∃ z, w = .float z) ∨ (i = .areturn ∧ t.isReference = true ∧ w.isRef = true))
    (hd : decode c.code pc = .ok (i, 1)) (hc : cells ≤ rc) (hs : slots ≤ rs) (hQ : Q (some w) T.heap locs) : own_go p e below s Q rc rs (T.setTop (mkF m pc Ls (w :: rest))) := by
  obtain ⟨fs, hr, hrun, hended, hW, hsame⟩ := X.leave (v := some w) (fun h => by rw [hret] at h; cases h) hlk
  exact ⟨_, _, retOut X hx hret hn hi hd hr, hrun, hended, _, _, rfl, hQ, ⟨_, rfl⟩, hW, hsame.mono hc hs⟩
theorem own_retI (X : Stand p l e R s m args below meth c T locs cells slots) (hx : p.tables.exec = Jvm.exec) (hlk : meth.locks = false) {pc : Nat} {Ls : Array Slot} {z : Int32} {rest : List Value} (hret : meth.sig.returnType = some .int)
    (hd : decode c.code pc = .ok (.ireturn, 1)) (hc : cells ≤ rc) (hs : slots ≤ rs) (hQ : Q (some (.int z)) T.heap locs) : own_go p e below s Q rc rs (T.setTop (mkF m pc Ls (.int z :: rest))) :=
  own_ret X hx hlk hret rfl (Or.inl ⟨rfl, Or.inl rfl, z, rfl⟩) hd hc hs hQ
theorem own_retN (X : Stand p l e R s m args below meth c T locs cells slots) (hx : p.tables.exec = Jvm.exec) (hlk : meth.locks = false) {pc : Nat} {Ls : Array Slot} {z : Int32} {t : FieldType} {rest : List Value} (hret : meth.sig.returnType = some t) (ht : t = .boolean ∨ t = .byte ∨ t = .char ∨ t = .short) (hn : narrow t (.int z) = .int z)
    (hd : decode c.code pc = .ok (.ireturn, 1)) (hc : cells ≤ rc) (hs : slots ≤ rs) (hQ : Q (some (.int z)) T.heap locs) : own_go p e below s Q rc rs (T.setTop (mkF m pc Ls (.int z :: rest))) :=
  own_ret X hx hlk hret hn (Or.inl ⟨rfl, Or.inr ht, z, rfl⟩) hd hc hs hQ
theorem own_retJ (X : Stand p l e R s m args below meth c T locs cells slots) (hx : p.tables.exec = Jvm.exec) (hlk : meth.locks = false) {pc : Nat} {Ls : Array Slot} {z : Int64} {rest : List Value} (hret : meth.sig.returnType = some .long)
    (hd : decode c.code pc = .ok (.lreturn, 1)) (hc : cells ≤ rc) (hs : slots ≤ rs) (hQ : Q (some (.long z)) T.heap locs) : own_go p e below s Q rc rs (T.setTop (mkF m pc Ls (.long z :: rest))) :=
  own_ret X hx hlk hret rfl (Or.inr (Or.inl ⟨rfl, rfl, z, rfl⟩)) hd hc hs hQ
theorem own_retA (X : Stand p l e R s m args below meth c T locs cells slots) (hx : p.tables.exec = Jvm.exec) (hlk : meth.locks = false) {pc : Nat} {Ls : Array Slot} {w : Value} {t : FieldType} {rest : List Value} (hret : meth.sig.returnType = some t) (ht : t.isReference = true) (hw : w.isRef = true)
    (hd : decode c.code pc = .ok (.areturn, 1)) (hc : cells ≤ rc) (hs : slots ≤ rs) (hQ : Q (some w) T.heap locs) : own_go p e below s Q rc rs (T.setTop (mkF m pc Ls (w :: rest))) :=
  own_ret X hx hlk hret (by cases w <;> cases t <;> first | rfl | (simp [Value.isRef] at hw; done) | (simp [FieldType.isReference] at ht; done)) (Or.inr (Or.inr (Or.inr (Or.inr ⟨rfl, ht, hw⟩)))) hd hc hs hQ
theorem own_ret0 (X : Stand p l e R s m args below meth c T locs cells slots) (hx : p.tables.exec = Jvm.exec) (hlk : meth.locks = false) {pc : Nat} {Ls : Array Slot} (hret : meth.sig.returnType = none)
    (hd : decode c.code pc = .ok (.return_, 1)) (hc : cells ≤ rc) (hs : slots ≤ rs) (hQ : Q none T.heap locs) : own_go p e below s Q rc rs (T.setTop (mkF m pc Ls [])) := by
  obtain ⟨fs, hr, hrun, hended, hW, hsame⟩ := X.leave (v := none) (fun _ => rfl) hlk
  exact ⟨_, _, X.returnOut hx hret hd hr, hrun, hended, _, _, rfl, hQ, ⟨_, rfl⟩, hW, hsame.mono hc hs⟩
/-- a body's contract at a heap -/
def own_Met (l : Launch) (Z : State) (y : MethodName) (bytes : ByteArray) (maxL : Nat) (ret : Option FieldType) (ws : List Jvm.Cond) (rm : Room) (as' : Array Value) (h : Heap) (Q : Option Value → Heap → List Loc → Prop) : Prop :=
  MetFree l y (head1 (Jvm.Cond.code y bytes maxL ret :: ws) rm) (fun a U => a = as' ∧ Z.Warmed39 U.vm ∧ U.heap = h) (fun _ _ _ _ _ => True) (fun _ U o U' => ∃ v L, o = .returned v ∧ Q v U'.heap L ∧ FrameEnd U o U' L rm.cells rm.slots)
theorem own_body {y : MethodName} {bytes : ByteArray} {maxL : Nat} {ret : Option FieldType} {ws : List Jvm.Cond} {rm : Room} {as' : Array Value} (hp : plainFor y = true)
    (k : ∀ (p : Program) (e : Env) (s : State) (m : MethodId) (below : List Frame) (meth : Method) (c : Code) (s₁ : State), p.tables.exec = Jvm.exec → c.code = bytes → c.maxLocals = maxL → s.vm.findClass y.cls = some m.cls → meth.name = y.name → meth.sig.returnType = ret → meth.locks = false → Stand p l e rm s m as' below meth c s₁ [] 0 0 → Z.Warmed39 s.vm → s₁.heap = h → own_go p e below s Q rm.cells rm.slots (s₁.setTop (entryFrame m as' maxL))) :
    own_Met l Z y bytes maxL ret ws rm as' h Q := by
  refine MetFree.of_bodySF hp hisR ?_
  intro p e s m args below meth c s₁ Bd hml0 hP hK
  obtain ⟨rfl, hZ, hh⟩ := hP
  exact k p e s m below meth c s₁ Bd.exec Bd.bytes hml0 (findClass_of_methodNamed Bd.named) (name_of_methodNamed Bd.named Bd.method).1 Bd.returns Bd.notSynchronized (Stand.of_body Bd) hZ (by rw [← hh, Bd.state]; rfl)
theorem own_callS (X : Stand p l e R s m args below meth c T locs cells slots) (hx : p.tables.exec = Jvm.exec) (hZ : Z.Warmed39 s.vm) {own : String} {index : Nat} {y : MethodName} {bytes : ByteArray} {maxL : Nat} {ret : Option FieldType} {rm : Room} {argsL rest : List Value} {Q' : Option Value → Heap → List Loc → Prop}
    (hM : own_Met l Z y bytes maxL ret [] rm argsL.toArray h Q') (hown : s.vm.findClass own = some m.cls) (w1 : (Jvm.Cond.methodLink own index y).before a0 Z = true) (w2 : (Jvm.Cond.static y).before a0 Z = true) (w3 : (Jvm.Cond.initialized y.cls).before a0 Z = true) (w4 : (Jvm.Cond.code y bytes maxL ret).before a0 Z = true)
    (hy : y.cls ≠ "java/lang/invoke/MethodHandle" ∧ y.cls ≠ "java/lang/invoke/VarHandle") (eT : T.heap = h) {g : JFrame} (hg : g.method = m) (hsize : g.locals.size = c.maxLocals) (hlen : ∀ sig, parseMethodDescriptor y.desc = some sig → argsL.length = sig.parameters.length) (hstack : g.stack = argsL.reverse ++ rest) {W : Nat} (hW : 2 * g.monitorRoom + (rest.map fun v => v.category).sum ≤ W)
    (hd : decode c.code g.pc = .ok (.invokestatic index, 3)) (hf : rm.frames + 1 ≤ R.frames) (hl : W + (maxL + 11) + rm.locals ≤ R.locals) (hc : cells + rm.cells ≤ R.cells) (hs : slots + rm.slots ≤ R.slots) :
    ∃ v T' L, Stand p l e R s m args below meth c T' (locs ++ L) (cells + rm.cells) (slots + rm.slots) ∧ Q' v T'.heap L ∧ ∀ target, Steps p.tables e below (T'.setTop { g with pc := g.pc + 3, stack := v.toList ++ rest }) target → Steps p.tables e below (T.setTop g) target := by
  obtain ⟨v, _, ⟨T1, L1, k1, n1⟩, -, X1, ⟨Lc, hQ, l1, y1, z1⟩, st⟩ := Jvm.LawKit.callS X hx (y := y) hown (mvT hZ w1) (mvT hZ w2) (mvT hZ w3) (mvT hZ w4) hy (backOf (W := W) hM hZ w4 w3 hf hl) hg hsize hlen hstack hW hd (fun _ _ => ⟨rfl, eT, hc, hs⟩)
  dsimp only [Pt.U, Pt.locs, Pt.cells, Pt.slots] at X1 l1 y1 z1 st hQ
  subst l1 y1 z1
  exact ⟨v, T1, Lc, X1, hQ, st⟩
theorem own_callV (X : Stand p l e R s m args below meth c T locs cells slots) (hx : p.tables.exec = Jvm.exec) (hZ : Z.Warmed39 s.vm) {own C : String} {index : Nat} {y z : MethodName} {bytes : ByteArray} {maxL : Nat} {ret : Option FieldType} {rm : Room} {b : Addr} {argsL rest : List Value} {Q' : Option Value → Heap → List Loc → Prop}
    (hM : own_Met l Z z bytes maxL ret [] rm (.ref b :: argsL).toArray h Q') (hown : s.vm.findClass own = some m.cls) (w1 : (Jvm.Cond.methodLink own index y).before a0 Z = true) (w2 : (Jvm.Cond.declares y).before a0 Z = true) (nf : NotFace s y) (w3 : (Jvm.Cond.selects C y z).before a0 Z = true) (w5 : (Jvm.Cond.instanceMethod z).before a0 Z = true)
    (w6 : (Jvm.Cond.initialized z.cls).before a0 Z = true) (w4 : (Jvm.Cond.code z bytes maxL ret).before a0 Z = true)
    (hy : y.cls ≠ "java/lang/invoke/MethodHandle" ∧ y.cls ≠ "java/lang/invoke/VarHandle") (eT : T.heap = h) (E : Exa Z h b C) {g : JFrame} (hg : g.method = m) (hsize : g.locals.size = c.maxLocals) (hlen : ∀ sig, parseMethodDescriptor y.desc = some sig → argsL.length = sig.parameters.length) (hstack : g.stack = argsL.reverse ++ .ref b :: rest) {W : Nat} (hW : 2 * g.monitorRoom + (rest.map fun v => v.category).sum ≤ W)
    (hd : decode c.code g.pc = .ok (.invokevirtual index, 3)) (hf : rm.frames + 1 ≤ R.frames) (hl : W + (maxL + 11) + rm.locals ≤ R.locals) (hc : cells + rm.cells ≤ R.cells) (hs : slots + rm.slots ≤ R.slots) :
    ∃ v T' L, Stand p l e R s m args below meth c T' (locs ++ L) (cells + rm.cells) (slots + rm.slots) ∧ Q' v T'.heap L ∧ ∀ target, Steps p.tables e below (T'.setTop { g with pc := g.pc + 3, stack := v.toList ++ rest }) target → Steps p.tables e below (T.setTop g) target := by
  obtain ⟨cq, kq, qa, qb, qc⟩ := isOf hZ eT E
  obtain ⟨v, _, ⟨T1, L1, k1, n1⟩, -, X1, ⟨Lc, hQ, l1, y1, z1⟩, st⟩ := X.virtualBack hx (y := y) (z := z) hown (mvT hZ w1) (mvT hZ w2) nf (mvT hZ w3) (mvT hZ w5) hy (backOf (W := W) hM hZ w4 w6 hf hl) qa qc hg hsize (Steps.refl _) hlen hstack hW hd (fun _ _ => ⟨rfl, eT, hc, hs⟩)
  dsimp only [Pt.U, Pt.locs, Pt.cells, Pt.slots] at X1 l1 y1 z1 st hQ
  subst l1 y1 z1
  exact ⟨v, T1, Lc, X1, hQ, fun _ k => st.trans k⟩
theorem own_callU (X : Stand p l e R s m args below meth c T locs cells slots) (hx : p.tables.exec = Jvm.exec) (hZ : Z.Warmed39 s.vm) {own C owner : String} {index : Nat} {y z : MethodName} {bytes : ByteArray} {maxL : Nat} {ret : Option FieldType} {rm : Room} {b : Addr} {argsL rest : List Value} {Q' : Option Value → Heap → List Loc → Prop}
    (hM : own_Met l Z z bytes maxL ret [] rm (.ref b :: argsL).toArray h Q') (hown : s.vm.findClass own = some m.cls) (w1 : (Jvm.Cond.methodLink own index y).before a0 Z = true) (w2 : (Jvm.Cond.sameMethod y.cls owner y.name y.desc).before a0 Z = true) (w7 : (Jvm.Cond.declares ⟨owner, y.name, y.desc⟩).before a0 Z = true) (w3 : (Jvm.Cond.selects C y z).before a0 Z = true) (w5 : (Jvm.Cond.instanceMethod z).before a0 Z = true)
    (w6 : (Jvm.Cond.initialized z.cls).before a0 Z = true) (w4 : (Jvm.Cond.code z bytes maxL ret).before a0 Z = true)
    (hy : owner ≠ "java/lang/invoke/MethodHandle" ∧ owner ≠ "java/lang/invoke/VarHandle") (eT : T.heap = h) (E : Exa Z h b C) {g : JFrame} (hg : g.method = m) (hsize : g.locals.size = c.maxLocals) (hlen : ∀ sig, parseMethodDescriptor y.desc = some sig → argsL.length = sig.parameters.length) (hstack : g.stack = argsL.reverse ++ .ref b :: rest) {W : Nat} (hW : 2 * g.monitorRoom + (rest.map fun v => v.category).sum ≤ W)
    (hd : decode c.code g.pc = .ok (.invokevirtual index, 3)) (hf : rm.frames + 1 ≤ R.frames) (hl : W + (maxL + 11) + rm.locals ≤ R.locals) (hc : cells + rm.cells ≤ R.cells) (hs : slots + rm.slots ≤ R.slots) :
    ∃ v T' L, Stand p l e R s m args below meth c T' (locs ++ L) (cells + rm.cells) (slots + rm.slots) ∧ Q' v T'.heap L ∧ ∀ target, Steps p.tables e below (T'.setTop { g with pc := g.pc + 3, stack := v.toList ++ rest }) target → Steps p.tables e below (T.setTop g) target := by
  obtain ⟨cq, kq, qa, qb, qc⟩ := isOf hZ eT E
  obtain ⟨v, _, ⟨T1, L1, k1, n1⟩, -, X1, ⟨Lc, hQ, l1, y1, z1⟩, st⟩ := X.virtualBackUp hx (x := y) (y := z) hown (mvT hZ w1) (mvT hZ w2) (mvT hZ w7) hy (mvT hZ w3) (mvT hZ w5) (backOf (W := W) hM hZ w4 w6 hf hl) qa qc hg hsize (Steps.refl _) hlen hstack hW hd (fun _ _ => ⟨rfl, eT, hc, hs⟩)
  dsimp only [Pt.U, Pt.locs, Pt.cells, Pt.slots] at X1 l1 y1 z1 st hQ
  subst l1 y1 z1
  exact ⟨v, T1, Lc, X1, hQ, fun _ k => st.trans k⟩
theorem own_callN (X : Stand p l e R s m args below meth c T locs cells slots) (hx : p.tables.exec = Jvm.exec) (hZ : Z.Warmed39 s.vm) {own : String} {index : Nat} {y : MethodName} {bytes : ByteArray} {maxL : Nat} {rm : Room} {b : Addr} {argsL rest : List Value} {Q' : Option Value → Heap → List Loc → Prop}
    (hM : own_Met l Z y bytes maxL none [] rm (.ref b :: argsL).toArray h Q') (hi : y.name = "<init>") (hown : s.vm.findClass own = some m.cls) (w1 : (Jvm.Cond.methodLink own index y).before a0 Z = true) (w2 : (Jvm.Cond.instanceMethod y).before a0 Z = true)
    (w3 : (Jvm.Cond.initialized y.cls).before a0 Z = true) (w4 : (Jvm.Cond.code y bytes maxL none).before a0 Z = true)
    (hy : y.cls ≠ "java/lang/invoke/MethodHandle" ∧ y.cls ≠ "java/lang/invoke/VarHandle") (eT : T.heap = h) {g : JFrame} (hg : g.method = m) (hsize : g.locals.size = c.maxLocals) (hlen : ∀ sig, parseMethodDescriptor y.desc = some sig → argsL.length = sig.parameters.length) (hstack : g.stack = argsL.reverse ++ .ref b :: rest) {W : Nat} (hW : 2 * g.monitorRoom + (rest.map fun v => v.category).sum ≤ W)
    (hd : decode c.code g.pc = .ok (.invokespecial index, 3)) (hf : rm.frames + 1 ≤ R.frames) (hl : W + (maxL + 11) + rm.locals ≤ R.locals) (hc : cells + rm.cells ≤ R.cells) (hs : slots + rm.slots ≤ R.slots) :
    ∃ v T' L, Stand p l e R s m args below meth c T' (locs ++ L) (cells + rm.cells) (slots + rm.slots) ∧ Q' v T'.heap L ∧ ∀ target, Steps p.tables e below (T'.setTop { g with pc := g.pc + 3, stack := v.toList ++ rest }) target → Steps p.tables e below (T.setTop g) target := by
  obtain ⟨v, _, ⟨T1, L1, k1, n1⟩, -, X1, ⟨Lc, hQ, l1, y1, z1⟩, st⟩ := X.specialBack hx (y := y) hi hown (mvT hZ w1) (mvT hZ w2) (mvT hZ w4) hy (backOf (W := W) hM hZ w4 w3 hf hl) hg hsize (Steps.refl _) hlen hstack hW hd (fun _ _ => ⟨rfl, eT, hc, hs⟩)
  dsimp only [Pt.U, Pt.locs, Pt.cells, Pt.slots] at X1 l1 y1 z1 st hQ
  subst l1 y1 z1
  exact ⟨v, T1, Lc, X1, hQ, fun _ k => st.trans k⟩
/-- a reference laid into an array that the walk has made -/
theorem own_put (X : Stand p l e R s m args below meth c T locs cells slots) (hx : p.tables.exec = Jvm.exec) (hZ : Z.Warmed39 s.vm) (eT : T.heap = h) {a : Addr} {k : ClassId} {C : String} {z : Int32} {vs : List Value} {dv : Value} (V : Arv Z h a k (.object C) z vs dv) (O : Ovr Z k C) {y : Addr} (I : Ins Z h y C true) {j : Int32} (hj : ¬ j < 0 ∧ j < z) (i : Nat) (hi : j.toNatClampNeg = i) (hl : i < vs.length)
    {g : JFrame} (hg : g.method = m) {rest : List Value} (hs : g.stack = .ref y :: .int j :: .ref a :: rest) (hd : decode c.code g.pc = .ok (.aastore, 1)) :
    ∃ T' h', Stand p l e R s m args below meth c T' (locs ++ [⟨a, j.toNatClampNeg⟩]) cells slots ∧ T'.heap = h' ∧ Wr h h' a j.toNatClampNeg (.ref y) ∧ Arv Z h' a k (.object C) z (vs.set i (.ref y)) dv ∧ ∀ target, Steps p.tables e below (T'.setTop { g with pc := g.pc + 1, stack := rest }) target → Steps p.tables e below (T.setTop g) target := by
  obtain ⟨cl, A, q1, S, q3, H, G⟩ := V
  obtain ⟨T', h', X', e', W, st⟩ := stR X hx hZ eT A (j := j) (inb_of S hj) rfl (Sto.ofV A q1 O I) hg hs hd
  exact ⟨T', h', X', e', W, Arv.set A q1 S q3 H G rfl W i hi hl, st⟩
theorem own_get (X : Stand p l e R s m args below meth c T locs cells slots) (hx : p.tables.exec = Jvm.exec) (hZ : Z.Warmed39 s.vm) (eT : T.heap = h) {a : Addr} {k : ClassId} {ty : FieldType} {z : Int32} {vs : List Value} {dv : Value} (V : Arv Z h a k ty z vs dv) (hty : ty.isReference = true) {j : Int32} (hj : ¬ j < 0 ∧ j < z) {v : Value} (hv : vs.getD j.toNatClampNeg dv = v)
    {g : JFrame} (hg : g.method = m) {rest : List Value} (hs : g.stack = .int j :: .ref a :: rest) (hd : decode c.code g.pc = .ok (.aaload, 1)) :
    ∀ target, Steps p.tables e below (T.setTop { g with pc := g.pc + 1, stack := v :: rest }) target → Steps p.tables e below (T.setTop g) target := by
  obtain ⟨cl, A, q1, S, q3, H, G⟩ := V
  intro target k
  exact X.aaload hx (by rw [eT]; exact A.1) (State.isArrayOf_alike hZ.alike A.2.1) hty A.2.2 (inb_of S hj) (H.at (inb_of S hj) hv) hg hs hd target k
/-- an array of references of a written length, made -/
theorem own_arr (X : Stand p l e R s m args below meth c T locs cells slots) (hx : p.tables.exec = Jvm.exec) (hZ : Z.Warmed39 s.vm) {own C : String} {index : Nat} (hown : s.vm.findClass own = some m.cls) (w1 : (Jvm.Cond.classLink own index C).before a0 Z = true) (w2 : (Jvm.Cond.arrayOver (.object C)).before a0 Z = true) (eT : T.heap = h)
    {g : JFrame} (hg : g.method = m) (hd : decode c.code g.pc = .ok (.anewarray index, 3)) {n : Int32} {rest : List Value} (hs : g.stack = .int n :: rest) (hn : ¬ n < 0) {cap : Nat} (hcap : n.toNatClampNeg ≤ cap) (hb : cap * 8 ≤ 536870912) (hc : cells + 1 ≤ R.cells) (hl : slots + cap ≤ R.slots) :
    ∃ T' h' k a, Stand p l e R s m args below meth c T' locs (cells + 1) (slots + cap) ∧ T'.heap = h' ∧ a = h.size ∧ Ext h h' ∧ Arv Z h' a k (.object C) n (List.replicate cap .null) .null ∧ Ovr Z k C ∧
      ∀ target, Steps p.tables e below (T'.setTop { g with pc := g.pc + 3, stack := .ref a :: rest }) target → Steps p.tables e below (T.setTop g) target := by
  obtain ⟨T', h', k, X', e', E, A, O, st⟩ := newR X hx hZ hown w1 w2 eT hg hd hs hn hcap hb hc hl
  exact ⟨T', h', k, _, X', e', rfl, E, (Arv.new A hn).pad (pad_rep [] .null cap), O, st⟩
theorem own_len (X : Stand p l e R s m args below meth c T locs cells slots) (hx : p.tables.exec = Jvm.exec) (hZ : Z.Warmed39 s.vm) (eT : T.heap = h) {a : Addr} {k : ClassId} {ty : FieldType} {z : Int32} {vs : List Value} {dv : Value} (V : Arv Z h a k ty z vs dv)
    {g : JFrame} (hg : g.method = m) {rest : List Value} (hs : g.stack = .ref a :: rest) (hd : decode c.code g.pc = .ok (.arraylength, 1)) :
    ∀ target, Steps p.tables e below (T.setTop { g with pc := g.pc + 1, stack := .int z :: rest }) target → Steps p.tables e below (T.setTop g) target := by
  obtain ⟨cl, A, q1, S, q3, H, G⟩ := V
  intro target k
  refine X.arraylength hx (by rw [eT]; exact A.1) (State.isArrayOf_alike hZ.alike A.2.1) hg hs hd _ ?_
  rw [len_of S q3]
  exact k
theorem own_osz {n0 : Nat} (O : Old Z n0 h) : n0 ≤ h.size := by have := O.2.1; rw [O.1] at this; exact this
theorem own_fldI {t : Term} {C n d : String} {k : Int32} {a : Addr} (ev : t.eval args Z none [] Z = some (.ref a)) (hh : (Jvm.Cond.eq (Term.field t C n d) (Term.int k)).value args Z none Z [] = some true) : Fld Z Z.heap a C n d (.int k) := by
  refine Fld.start ?_
  rw [← fld_at (t := t) (args := args) (first := Z) (o := none) (idx := []) ev]
  cases hq : (Term.field t C n d).eval args Z none [] Z with
  | none => simp [Cond.value, hq] at hh
  | some v =>
    simp only [Cond.value, hq, Term.int_eval] at hh
    cases v <;> simp at hh ⊢ <;> exact hh
theorem own_fldJ {t : Term} {C n d : String} {k : Int64} {a : Addr} (ev : t.eval args Z none [] Z = some (.ref a)) (hh : (Jvm.Cond.eq (Term.field t C n d) (Term.long k)).value args Z none Z [] = some true) : Fld Z Z.heap a C n d (.long k) := by
  refine Fld.start ?_
  rw [← fld_at (t := t) (args := args) (first := Z) (o := none) (idx := []) ev]
  cases hq : (Term.field t C n d).eval args Z none [] Z with
  | none => simp [Cond.value, hq] at hh
  | some v =>
    have hk : (Term.long k).eval args Z none [] Z = some (.long k) := rfl
    simp only [Cond.value, hq, hk] at hh
    cases v <;> simp at hh ⊢ <;> exact hh
theorem own_fldN {t : Term} {C n d : String} {a : Addr} (ev : t.eval args Z none [] Z = some (.ref a)) (hh : (Jvm.Cond.eq (Term.field t C n d) Term.null).value args Z none Z [] = some true) : Fld Z Z.heap a C n d .null := by
  refine Fld.start ?_
  rw [← fld_at (t := t) (args := args) (first := Z) (o := none) (idx := []) ev]
  exact null_v hh
theorem own_fldR {t u : Term} {C n d : String} {a b : Addr} (ev : t.eval args Z none [] Z = some (.ref a)) (eu : u.eval args Z none [] Z = some (.ref b)) (hh : (Jvm.Cond.eq (Term.field t C n d) u).value args Z none Z [] = some true) : Fld Z Z.heap a C n d (.ref b) := by
  refine Fld.start ?_
  rw [← fld_at (t := t) (args := args) (first := Z) (o := none) (idx := []) ev]
  cases hq : (Term.field t C n d).eval args Z none [] Z with
  | none => simp [Cond.value, hq] at hh
  | some v => cases v <;> simp [Cond.value, hq, eu] at hh ⊢ <;> exact hh
theorem own_fldX {t : Term} {C n d K : String} {a : Addr} (ev : t.eval args Z none [] Z = some (.ref a)) (hh : (Jvm.Cond.exactly (Term.field t C n d) K).value args Z none Z [] = some true) : ∃ b, Fld Z Z.heap a C n d (.ref b) ∧ Exa Z Z.heap b K := by
  obtain ⟨b, hb⟩ := exa_v hh
  refine ⟨b, Fld.start ?_, Exa.start hb hh⟩
  rw [← fld_at (t := t) (args := args) (first := Z) (o := none) (idx := []) ev]
  exact hb
theorem own_ne {h : Heap} {a b : Addr} {C n d : String} {i j : Int32} (F : Fld Z h a C n d (.int i)) (G : Fld Z h b C n d (.int j)) (q : i ≠ j) : a ≠ b := F.ne G fun r => q (Value.int.inj r)
end OwnKit
def own_S (Z : State) (c_BINARY c_BITS c_BOOLEAN c_DECIMAL64 c_EMPTY c_ENUMERATION c_IDENTITYREF c_INSTANCE_IDENTIFIER c_INT8 c_INT16 c_INT32 c_INT64 c_LEAFREF c_STRING c_UINT8 c_UINT16 c_UINT32 c_UINT64 c_UNION o_c_UINT16_min o_c_UINT64_min o_c_INT64_min o_c_INT32_min o_c_INT8_min o_c_UINT8_min o_c_UINT32_min o_c_INT16_min : Addr) : Prop := (Sta Z Z.heap "com/example/bough/bough/BuiltInType" "BINARY" "Lcom/example/bough/bough/BuiltInType;" (.ref c_BINARY)) ∧
  (Exa Z Z.heap c_BINARY "com/example/bough/bough/BuiltInType") ∧
  (Sta Z Z.heap "com/example/bough/bough/BuiltInType" "BITS" "Lcom/example/bough/bough/BuiltInType;" (.ref c_BITS)) ∧
  (Exa Z Z.heap c_BITS "com/example/bough/bough/BuiltInType") ∧
  (Sta Z Z.heap "com/example/bough/bough/BuiltInType" "BOOLEAN" "Lcom/example/bough/bough/BuiltInType;" (.ref c_BOOLEAN)) ∧
  (Exa Z Z.heap c_BOOLEAN "com/example/bough/bough/BuiltInType") ∧
  (Sta Z Z.heap "com/example/bough/bough/BuiltInType" "DECIMAL64" "Lcom/example/bough/bough/BuiltInType;" (.ref c_DECIMAL64)) ∧
  (Exa Z Z.heap c_DECIMAL64 "com/example/bough/bough/BuiltInType") ∧
  (Sta Z Z.heap "com/example/bough/bough/BuiltInType" "EMPTY" "Lcom/example/bough/bough/BuiltInType;" (.ref c_EMPTY)) ∧
  (Exa Z Z.heap c_EMPTY "com/example/bough/bough/BuiltInType") ∧
  (Sta Z Z.heap "com/example/bough/bough/BuiltInType" "ENUMERATION" "Lcom/example/bough/bough/BuiltInType;" (.ref c_ENUMERATION)) ∧
  (Exa Z Z.heap c_ENUMERATION "com/example/bough/bough/BuiltInType") ∧
  (Sta Z Z.heap "com/example/bough/bough/BuiltInType" "IDENTITYREF" "Lcom/example/bough/bough/BuiltInType;" (.ref c_IDENTITYREF)) ∧
  (Exa Z Z.heap c_IDENTITYREF "com/example/bough/bough/BuiltInType") ∧
  (Sta Z Z.heap "com/example/bough/bough/BuiltInType" "INSTANCE_IDENTIFIER" "Lcom/example/bough/bough/BuiltInType;" (.ref c_INSTANCE_IDENTIFIER)) ∧
  (Exa Z Z.heap c_INSTANCE_IDENTIFIER "com/example/bough/bough/BuiltInType") ∧
  (Sta Z Z.heap "com/example/bough/bough/BuiltInType" "INT8" "Lcom/example/bough/bough/BuiltInType;" (.ref c_INT8)) ∧
  (Exa Z Z.heap c_INT8 "com/example/bough/bough/BuiltInType") ∧
  (Sta Z Z.heap "com/example/bough/bough/BuiltInType" "INT16" "Lcom/example/bough/bough/BuiltInType;" (.ref c_INT16)) ∧
  (Exa Z Z.heap c_INT16 "com/example/bough/bough/BuiltInType") ∧
  (Sta Z Z.heap "com/example/bough/bough/BuiltInType" "INT32" "Lcom/example/bough/bough/BuiltInType;" (.ref c_INT32)) ∧
  (Exa Z Z.heap c_INT32 "com/example/bough/bough/BuiltInType") ∧
  (Sta Z Z.heap "com/example/bough/bough/BuiltInType" "INT64" "Lcom/example/bough/bough/BuiltInType;" (.ref c_INT64)) ∧
  (Exa Z Z.heap c_INT64 "com/example/bough/bough/BuiltInType") ∧
  (Sta Z Z.heap "com/example/bough/bough/BuiltInType" "LEAFREF" "Lcom/example/bough/bough/BuiltInType;" (.ref c_LEAFREF)) ∧
  (Exa Z Z.heap c_LEAFREF "com/example/bough/bough/BuiltInType") ∧
  (Sta Z Z.heap "com/example/bough/bough/BuiltInType" "STRING" "Lcom/example/bough/bough/BuiltInType;" (.ref c_STRING)) ∧
  (Exa Z Z.heap c_STRING "com/example/bough/bough/BuiltInType") ∧
  (Sta Z Z.heap "com/example/bough/bough/BuiltInType" "UINT8" "Lcom/example/bough/bough/BuiltInType;" (.ref c_UINT8)) ∧
  (Exa Z Z.heap c_UINT8 "com/example/bough/bough/BuiltInType") ∧
  (Sta Z Z.heap "com/example/bough/bough/BuiltInType" "UINT16" "Lcom/example/bough/bough/BuiltInType;" (.ref c_UINT16)) ∧
  (Exa Z Z.heap c_UINT16 "com/example/bough/bough/BuiltInType") ∧
  (Sta Z Z.heap "com/example/bough/bough/BuiltInType" "UINT32" "Lcom/example/bough/bough/BuiltInType;" (.ref c_UINT32)) ∧
  (Exa Z Z.heap c_UINT32 "com/example/bough/bough/BuiltInType") ∧
  (Sta Z Z.heap "com/example/bough/bough/BuiltInType" "UINT64" "Lcom/example/bough/bough/BuiltInType;" (.ref c_UINT64)) ∧
  (Exa Z Z.heap c_UINT64 "com/example/bough/bough/BuiltInType") ∧
  (Sta Z Z.heap "com/example/bough/bough/BuiltInType" "UNION" "Lcom/example/bough/bough/BuiltInType;" (.ref c_UNION)) ∧
  (Exa Z Z.heap c_UNION "com/example/bough/bough/BuiltInType") ∧
  (Fld Z Z.heap c_BINARY "com/example/bough/bough/BuiltInType" "min" "Ljava/math/BigDecimal;" .null) ∧
  (Fld Z Z.heap c_DECIMAL64 "com/example/bough/bough/BuiltInType" "min" "Ljava/math/BigDecimal;" .null) ∧
  (Fld Z Z.heap c_UINT16 "com/example/bough/bough/BuiltInType" "min" "Ljava/math/BigDecimal;" (.ref o_c_UINT16_min)) ∧
  (Exa Z Z.heap o_c_UINT16_min "java/math/BigDecimal") ∧
  (Fld Z Z.heap c_ENUMERATION "com/example/bough/bough/BuiltInType" "min" "Ljava/math/BigDecimal;" .null) ∧
  (Fld Z Z.heap c_UINT64 "com/example/bough/bough/BuiltInType" "min" "Ljava/math/BigDecimal;" (.ref o_c_UINT64_min)) ∧
  (Exa Z Z.heap o_c_UINT64_min "java/math/BigDecimal") ∧
  (Fld Z Z.heap c_INSTANCE_IDENTIFIER "com/example/bough/bough/BuiltInType" "min" "Ljava/math/BigDecimal;" .null) ∧
  (Fld Z Z.heap c_BOOLEAN "com/example/bough/bough/BuiltInType" "min" "Ljava/math/BigDecimal;" .null) ∧
  (Fld Z Z.heap c_INT64 "com/example/bough/bough/BuiltInType" "min" "Ljava/math/BigDecimal;" (.ref o_c_INT64_min)) ∧
  (Exa Z Z.heap o_c_INT64_min "java/math/BigDecimal") ∧
  (Fld Z Z.heap c_INT32 "com/example/bough/bough/BuiltInType" "min" "Ljava/math/BigDecimal;" (.ref o_c_INT32_min)) ∧
  (Exa Z Z.heap o_c_INT32_min "java/math/BigDecimal") ∧
  (Fld Z Z.heap c_INT8 "com/example/bough/bough/BuiltInType" "min" "Ljava/math/BigDecimal;" (.ref o_c_INT8_min)) ∧
  (Exa Z Z.heap o_c_INT8_min "java/math/BigDecimal") ∧
  (Fld Z Z.heap c_BITS "com/example/bough/bough/BuiltInType" "min" "Ljava/math/BigDecimal;" .null) ∧
  (Fld Z Z.heap c_UINT8 "com/example/bough/bough/BuiltInType" "min" "Ljava/math/BigDecimal;" (.ref o_c_UINT8_min)) ∧
  (Exa Z Z.heap o_c_UINT8_min "java/math/BigDecimal") ∧
  (Fld Z Z.heap c_UNION "com/example/bough/bough/BuiltInType" "min" "Ljava/math/BigDecimal;" .null) ∧
  (Fld Z Z.heap c_IDENTITYREF "com/example/bough/bough/BuiltInType" "min" "Ljava/math/BigDecimal;" .null) ∧
  (Fld Z Z.heap c_UINT32 "com/example/bough/bough/BuiltInType" "min" "Ljava/math/BigDecimal;" (.ref o_c_UINT32_min)) ∧
  (Exa Z Z.heap o_c_UINT32_min "java/math/BigDecimal") ∧
  (Fld Z Z.heap c_EMPTY "com/example/bough/bough/BuiltInType" "min" "Ljava/math/BigDecimal;" .null) ∧
  (Fld Z Z.heap c_INT16 "com/example/bough/bough/BuiltInType" "min" "Ljava/math/BigDecimal;" (.ref o_c_INT16_min)) ∧
  (Exa Z Z.heap o_c_INT16_min "java/math/BigDecimal") ∧
  (Fld Z Z.heap c_LEAFREF "com/example/bough/bough/BuiltInType" "min" "Ljava/math/BigDecimal;" .null) ∧
  (Fld Z Z.heap c_STRING "com/example/bough/bough/BuiltInType" "min" "Ljava/math/BigDecimal;" .null)
theorem own_rem (k : Int32) : ((k &&& (2147483647 : Int32)) % (19 : Int32)) = (0 : Int32) ∨ ((k &&& (2147483647 : Int32)) % (19 : Int32)) = (1 : Int32) ∨ ((k &&& (2147483647 : Int32)) % (19 : Int32)) = (2 : Int32) ∨ ((k &&& (2147483647 : Int32)) % (19 : Int32)) = (3 : Int32) ∨ ((k &&& (2147483647 : Int32)) % (19 : Int32)) = (4 : Int32) ∨ ((k &&& (2147483647 : Int32)) % (19 : Int32)) = (5 : Int32) ∨ ((k &&& (2147483647 : Int32)) % (19 : Int32)) = (6 : Int32) ∨ ((k &&& (2147483647 : Int32)) % (19 : Int32)) = (7 : Int32) ∨ ((k &&& (2147483647 : Int32)) % (19 : Int32)) = (8 : Int32) ∨ ((k &&& (2147483647 : Int32)) % (19 : Int32)) = (9 : Int32) ∨ ((k &&& (2147483647 : Int32)) % (19 : Int32)) = (10 : Int32) ∨ ((k &&& (2147483647 : Int32)) % (19 : Int32)) = (11 : Int32) ∨ ((k &&& (2147483647 : Int32)) % (19 : Int32)) = (12 : Int32) ∨ ((k &&& (2147483647 : Int32)) % (19 : Int32)) = (13 : Int32) ∨ ((k &&& (2147483647 : Int32)) % (19 : Int32)) = (14 : Int32) ∨ ((k &&& (2147483647 : Int32)) % (19 : Int32)) = (15 : Int32) ∨ ((k &&& (2147483647 : Int32)) % (19 : Int32)) = (16 : Int32) ∨ ((k &&& (2147483647 : Int32)) % (19 : Int32)) = (17 : Int32) ∨ ((k &&& (2147483647 : Int32)) % (19 : Int32)) = (18 : Int32) := by
  have h1 := c_and k 2147483647 (by decide)
  have h2 := (c_irem (k &&& 2147483647) 19 19 rfl).1 h1.1
  have h3 : ((k &&& (2147483647 : Int32)) % (19 : Int32)).toInt = 0 ∨ ((k &&& (2147483647 : Int32)) % (19 : Int32)).toInt = 1 ∨ ((k &&& (2147483647 : Int32)) % (19 : Int32)).toInt = 2 ∨ ((k &&& (2147483647 : Int32)) % (19 : Int32)).toInt = 3 ∨ ((k &&& (2147483647 : Int32)) % (19 : Int32)).toInt = 4 ∨ ((k &&& (2147483647 : Int32)) % (19 : Int32)).toInt = 5 ∨ ((k &&& (2147483647 : Int32)) % (19 : Int32)).toInt = 6 ∨ ((k &&& (2147483647 : Int32)) % (19 : Int32)).toInt = 7 ∨ ((k &&& (2147483647 : Int32)) % (19 : Int32)).toInt = 8 ∨ ((k &&& (2147483647 : Int32)) % (19 : Int32)).toInt = 9 ∨ ((k &&& (2147483647 : Int32)) % (19 : Int32)).toInt = 10 ∨ ((k &&& (2147483647 : Int32)) % (19 : Int32)).toInt = 11 ∨ ((k &&& (2147483647 : Int32)) % (19 : Int32)).toInt = 12 ∨ ((k &&& (2147483647 : Int32)) % (19 : Int32)).toInt = 13 ∨ ((k &&& (2147483647 : Int32)) % (19 : Int32)).toInt = 14 ∨ ((k &&& (2147483647 : Int32)) % (19 : Int32)).toInt = 15 ∨ ((k &&& (2147483647 : Int32)) % (19 : Int32)).toInt = 16 ∨ ((k &&& (2147483647 : Int32)) % (19 : Int32)).toInt = 17 ∨ ((k &&& (2147483647 : Int32)) % (19 : Int32)).toInt = 18 := by omega
  rcases h3 with q | q | q | q | q | q | q | q | q | q | q | q | q | q | q | q | q | q | q
  · exact Or.inl (Int32.toInt_inj.mp (q.trans rfl))
  · exact Or.inr (Or.inl (Int32.toInt_inj.mp (q.trans rfl)))
  · exact Or.inr (Or.inr (Or.inl (Int32.toInt_inj.mp (q.trans rfl))))
  · exact Or.inr (Or.inr (Or.inr (Or.inl (Int32.toInt_inj.mp (q.trans rfl)))))
  · exact Or.inr (Or.inr (Or.inr (Or.inr (Or.inl (Int32.toInt_inj.mp (q.trans rfl))))))
  · exact Or.inr (Or.inr (Or.inr (Or.inr (Or.inr (Or.inl (Int32.toInt_inj.mp (q.trans rfl)))))))
  · exact Or.inr (Or.inr (Or.inr (Or.inr (Or.inr (Or.inr (Or.inl (Int32.toInt_inj.mp (q.trans rfl))))))))
  · exact Or.inr (Or.inr (Or.inr (Or.inr (Or.inr (Or.inr (Or.inr (Or.inl (Int32.toInt_inj.mp (q.trans rfl)))))))))
  · exact Or.inr (Or.inr (Or.inr (Or.inr (Or.inr (Or.inr (Or.inr (Or.inr (Or.inl (Int32.toInt_inj.mp (q.trans rfl))))))))))
  · exact Or.inr (Or.inr (Or.inr (Or.inr (Or.inr (Or.inr (Or.inr (Or.inr (Or.inr (Or.inl (Int32.toInt_inj.mp (q.trans rfl)))))))))))
  · exact Or.inr (Or.inr (Or.inr (Or.inr (Or.inr (Or.inr (Or.inr (Or.inr (Or.inr (Or.inr (Or.inl (Int32.toInt_inj.mp (q.trans rfl))))))))))))
  · exact Or.inr (Or.inr (Or.inr (Or.inr (Or.inr (Or.inr (Or.inr (Or.inr (Or.inr (Or.inr (Or.inr (Or.inl (Int32.toInt_inj.mp (q.trans rfl)))))))))))))
  · exact Or.inr (Or.inr (Or.inr (Or.inr (Or.inr (Or.inr (Or.inr (Or.inr (Or.inr (Or.inr (Or.inr (Or.inr (Or.inl (Int32.toInt_inj.mp (q.trans rfl))))))))))))))
  · exact Or.inr (Or.inr (Or.inr (Or.inr (Or.inr (Or.inr (Or.inr (Or.inr (Or.inr (Or.inr (Or.inr (Or.inr (Or.inr (Or.inl (Int32.toInt_inj.mp (q.trans rfl)))))))))))))))
  · exact Or.inr (Or.inr (Or.inr (Or.inr (Or.inr (Or.inr (Or.inr (Or.inr (Or.inr (Or.inr (Or.inr (Or.inr (Or.inr (Or.inr (Or.inl (Int32.toInt_inj.mp (q.trans rfl))))))))))))))))
  · exact Or.inr (Or.inr (Or.inr (Or.inr (Or.inr (Or.inr (Or.inr (Or.inr (Or.inr (Or.inr (Or.inr (Or.inr (Or.inr (Or.inr (Or.inr (Or.inl (Int32.toInt_inj.mp (q.trans rfl)))))))))))))))))
  · exact Or.inr (Or.inr (Or.inr (Or.inr (Or.inr (Or.inr (Or.inr (Or.inr (Or.inr (Or.inr (Or.inr (Or.inr (Or.inr (Or.inr (Or.inr (Or.inr (Or.inl (Int32.toInt_inj.mp (q.trans rfl))))))))))))))))))
  · exact Or.inr (Or.inr (Or.inr (Or.inr (Or.inr (Or.inr (Or.inr (Or.inr (Or.inr (Or.inr (Or.inr (Or.inr (Or.inr (Or.inr (Or.inr (Or.inr (Or.inr (Or.inl (Int32.toInt_inj.mp (q.trans rfl)))))))))))))))))))
  · exact Or.inr (Or.inr (Or.inr (Or.inr (Or.inr (Or.inr (Or.inr (Or.inr (Or.inr (Or.inr (Or.inr (Or.inr (Or.inr (Or.inr (Or.inr (Or.inr (Or.inr (Or.inr (Int32.toInt_inj.mp (q.trans rfl)))))))))))))))))))
theorem d1_0 : decode prog_5_method_10_code 0 = .ok (.aload_n 0, 1) := by decide +kernel
theorem d1_1 : decode prog_5_method_10_code 1 = .ok (.getfield 94, 3) := by decide +kernel
theorem d1_4 : decode prog_5_method_10_code 4 = .ok (.ifnull 7, 3) := by decide +kernel
theorem d1_11 : decode prog_5_method_10_code 11 = .ok (.iconst 0, 1) := by decide +kernel
theorem d1_12 : decode prog_5_method_10_code 12 = .ok (.ireturn, 1) := by decide +kernel
theorem own_pn_1 : plainFor (⟨"com/example/bough/bough/BuiltInType", "isInteger", "()Z"⟩ : MethodName) = true := plainFor_of_name (show plainName "com/example/bough/bough/BuiltInType" = true by first | (simp [plainName, overriddenIn]; done) | decide +kernel)
theorem own_ef_rm1_0 (m : MethodId) (c_BINARY : Addr) : entryFrame m #[(.ref c_BINARY)] 1 = mkF m 0 #[.val (.ref c_BINARY)] [] := by first | (simp [entryFrame, mkF, argsToLocals, Value.category]; done) | rfl
set_option maxRecDepth 65536 in
set_option maxHeartbeats 40000000 in
theorem rm1_0 (l : Launch) (Z : State) (a0 : Array Value) (hw : ∀ d ∈ tables_1, d.before a0 Z = true) (c_BINARY c_BITS c_BOOLEAN c_DECIMAL64 c_EMPTY c_ENUMERATION c_IDENTITYREF c_INSTANCE_IDENTIFIER c_INT8 c_INT16 c_INT32 c_INT64 c_LEAFREF c_STRING c_UINT8 c_UINT16 c_UINT32 c_UINT64 c_UNION o_c_UINT16_min o_c_UINT64_min o_c_INT64_min o_c_INT32_min o_c_INT8_min o_c_UINT8_min o_c_UINT32_min o_c_INT16_min : Addr) (h0 : Heap) (n0 : Nat) (O0 : Old Z n0 h0) (hS : own_S Z c_BINARY c_BITS c_BOOLEAN c_DECIMAL64 c_EMPTY c_ENUMERATION c_IDENTITYREF c_INSTANCE_IDENTIFIER c_INT8 c_INT16 c_INT32 c_INT64 c_LEAFREF c_STRING c_UINT8 c_UINT16 c_UINT32 c_UINT64 c_UNION o_c_UINT16_min o_c_UINT64_min o_c_INT64_min o_c_INT32_min o_c_INT8_min o_c_UINT8_min o_c_UINT32_min o_c_INT16_min) :
    own_Met l Z (⟨"com/example/bough/bough/BuiltInType", "isInteger", "()Z"⟩ : MethodName) prog_5_method_10_code 1 (some .boolean) [] ({ frames := 0, cells := 0, slots := 0, locals := 0 } : Room) #[(.ref c_BINARY)] h0 (fun v h L => v = some (.int (0 : Int32)) ∧ Fr n0 L ∧ h = h0) := by
  refine own_body own_pn_1 ?_
  intro p e s m below meth c s₁ hx hby hml hown hnm hret hlk X0 hZ e0
  replace hown : s.vm.findClass "com/example/bough/bough/BuiltInType" = some m.cls := hown
  have N0 := Fr.nil n0
  have K0 := Keep.refl h0 []
  refine own_st (fun _ k => castTop (own_ef_rm1_0 m c_BINARY) k) ?_
  show own_go _ _ _ _ _ _ _ (s₁.setTop (mkF m 0 #[.val (.ref c_BINARY)] []))
  refine own_st (fun _ k => XS.aloadN X0.here hx rfl (hb hby d1_0) rfl rfl k) ?_
  show own_go _ _ _ _ _ _ _ (s₁.setTop (mkF m 1 #[.val (.ref c_BINARY)] [(.ref c_BINARY)]))
  obtain ⟨T1, X1, e1, st1⟩ := getF X0 hx hZ hown (host := "") (Or.inl (hw _ (List.mem_of_getElem? (i := 48) rfl))) Via.refl e0 (hS.2.2.2.2.2.2.2.2.2.2.2.2.2.2.2.2.2.2.2.2.2.2.2.2.2.2.2.2.2.2.2.2.2.2.2.2.2.2.1.ext O0.2) (g := (mkF m 1 #[.val (.ref c_BINARY)] [(.ref c_BINARY)])) rfl rfl (hb hby d1_1)
  refine own_st st1 ?_
  show own_go _ _ _ _ _ _ _ (T1.setTop (mkF m 4 #[.val (.ref c_BINARY)] [.null]))
  refine own_st (fun _ k => XS.ifnullYes X1.here hx rfl (pc0 := 4) (pc' := 11) rfl (hb hby d1_4) rfl (by decide) (by decide) k) ?_
  show own_go _ _ _ _ _ _ _ (T1.setTop (mkF m 11 #[.val (.ref c_BINARY)] []))
  refine own_st (fun _ k => XS.iconst X1.here hx rfl (hb hby d1_11) k) ?_
  show own_go _ _ _ _ _ _ _ (T1.setTop (mkF m 12 #[.val (.ref c_BINARY)] [(.int (0 : Int32))]))
  exact own_retN X1 hx hlk (t := .boolean) hret (by simp) rfl (hb hby d1_12) (by decide) (by decide) (⟨rfl, N0, e1⟩)
theorem own_ef_rm1_1 (m : MethodId) (c_BITS : Addr) : entryFrame m #[(.ref c_BITS)] 1 = mkF m 0 #[.val (.ref c_BITS)] [] := by first | (simp [entryFrame, mkF, argsToLocals, Value.category]; done) | rfl
set_option maxRecDepth 65536 in
set_option maxHeartbeats 40000000 in
theorem rm1_1 (l : Launch) (Z : State) (a0 : Array Value) (hw : ∀ d ∈ tables_1, d.before a0 Z = true) (c_BINARY c_BITS c_BOOLEAN c_DECIMAL64 c_EMPTY c_ENUMERATION c_IDENTITYREF c_INSTANCE_IDENTIFIER c_INT8 c_INT16 c_INT32 c_INT64 c_LEAFREF c_STRING c_UINT8 c_UINT16 c_UINT32 c_UINT64 c_UNION o_c_UINT16_min o_c_UINT64_min o_c_INT64_min o_c_INT32_min o_c_INT8_min o_c_UINT8_min o_c_UINT32_min o_c_INT16_min : Addr) (h0 : Heap) (n0 : Nat) (O0 : Old Z n0 h0) (hS : own_S Z c_BINARY c_BITS c_BOOLEAN c_DECIMAL64 c_EMPTY c_ENUMERATION c_IDENTITYREF c_INSTANCE_IDENTIFIER c_INT8 c_INT16 c_INT32 c_INT64 c_LEAFREF c_STRING c_UINT8 c_UINT16 c_UINT32 c_UINT64 c_UNION o_c_UINT16_min o_c_UINT64_min o_c_INT64_min o_c_INT32_min o_c_INT8_min o_c_UINT8_min o_c_UINT32_min o_c_INT16_min) :
    own_Met l Z (⟨"com/example/bough/bough/BuiltInType", "isInteger", "()Z"⟩ : MethodName) prog_5_method_10_code 1 (some .boolean) [] ({ frames := 0, cells := 0, slots := 0, locals := 0 } : Room) #[(.ref c_BITS)] h0 (fun v h L => v = some (.int (0 : Int32)) ∧ Fr n0 L ∧ h = h0) := by
  refine own_body own_pn_1 ?_
  intro p e s m below meth c s₁ hx hby hml hown hnm hret hlk X0 hZ e0
  replace hown : s.vm.findClass "com/example/bough/bough/BuiltInType" = some m.cls := hown
  have N0 := Fr.nil n0
  have K0 := Keep.refl h0 []
  refine own_st (fun _ k => castTop (own_ef_rm1_1 m c_BITS) k) ?_
  show own_go _ _ _ _ _ _ _ (s₁.setTop (mkF m 0 #[.val (.ref c_BITS)] []))
  refine own_st (fun _ k => XS.aloadN X0.here hx rfl (hb hby d1_0) rfl rfl k) ?_
  show own_go _ _ _ _ _ _ _ (s₁.setTop (mkF m 1 #[.val (.ref c_BITS)] [(.ref c_BITS)]))
  obtain ⟨T2, X2, e2, st2⟩ := getF X0 hx hZ hown (host := "") (Or.inl (hw _ (List.mem_of_getElem? (i := 48) rfl))) Via.refl e0 (hS.2.2.2.2.2.2.2.2.2.2.2.2.2.2.2.2.2.2.2.2.2.2.2.2.2.2.2.2.2.2.2.2.2.2.2.2.2.2.2.2.2.2.2.2.2.2.2.2.2.2.2.2.2.1.ext O0.2) (g := (mkF m 1 #[.val (.ref c_BITS)] [(.ref c_BITS)])) rfl rfl (hb hby d1_1)
  refine own_st st2 ?_
  show own_go _ _ _ _ _ _ _ (T2.setTop (mkF m 4 #[.val (.ref c_BITS)] [.null]))
  refine own_st (fun _ k => XS.ifnullYes X2.here hx rfl (pc0 := 4) (pc' := 11) rfl (hb hby d1_4) rfl (by decide) (by decide) k) ?_
  show own_go _ _ _ _ _ _ _ (T2.setTop (mkF m 11 #[.val (.ref c_BITS)] []))
  refine own_st (fun _ k => XS.iconst X2.here hx rfl (hb hby d1_11) k) ?_
  show own_go _ _ _ _ _ _ _ (T2.setTop (mkF m 12 #[.val (.ref c_BITS)] [(.int (0 : Int32))]))
  exact own_retN X2 hx hlk (t := .boolean) hret (by simp) rfl (hb hby d1_12) (by decide) (by decide) (⟨rfl, N0, e2⟩)
theorem own_ef_rm1_2 (m : MethodId) (c_BOOLEAN : Addr) : entryFrame m #[(.ref c_BOOLEAN)] 1 = mkF m 0 #[.val (.ref c_BOOLEAN)] [] := by first | (simp [entryFrame, mkF, argsToLocals, Value.category]; done) | rfl
set_option maxRecDepth 65536 in
set_option maxHeartbeats 40000000 in
theorem rm1_2 (l : Launch) (Z : State) (a0 : Array Value) (hw : ∀ d ∈ tables_1, d.before a0 Z = true) (c_BINARY c_BITS c_BOOLEAN c_DECIMAL64 c_EMPTY c_ENUMERATION c_IDENTITYREF c_INSTANCE_IDENTIFIER c_INT8 c_INT16 c_INT32 c_INT64 c_LEAFREF c_STRING c_UINT8 c_UINT16 c_UINT32 c_UINT64 c_UNION o_c_UINT16_min o_c_UINT64_min o_c_INT64_min o_c_INT32_min o_c_INT8_min o_c_UINT8_min o_c_UINT32_min o_c_INT16_min : Addr) (h0 : Heap) (n0 : Nat) (O0 : Old Z n0 h0) (hS : own_S Z c_BINARY c_BITS c_BOOLEAN c_DECIMAL64 c_EMPTY c_ENUMERATION c_IDENTITYREF c_INSTANCE_IDENTIFIER c_INT8 c_INT16 c_INT32 c_INT64 c_LEAFREF c_STRING c_UINT8 c_UINT16 c_UINT32 c_UINT64 c_UNION o_c_UINT16_min o_c_UINT64_min o_c_INT64_min o_c_INT32_min o_c_INT8_min o_c_UINT8_min o_c_UINT32_min o_c_INT16_min) :
    own_Met l Z (⟨"com/example/bough/bough/BuiltInType", "isInteger", "()Z"⟩ : MethodName) prog_5_method_10_code 1 (some .boolean) [] ({ frames := 0, cells := 0, slots := 0, locals := 0 } : Room) #[(.ref c_BOOLEAN)] h0 (fun v h L => v = some (.int (0 : Int32)) ∧ Fr n0 L ∧ h = h0) := by
  refine own_body own_pn_1 ?_
  intro p e s m below meth c s₁ hx hby hml hown hnm hret hlk X0 hZ e0
  replace hown : s.vm.findClass "com/example/bough/bough/BuiltInType" = some m.cls := hown
  have N0 := Fr.nil n0
  have K0 := Keep.refl h0 []
  refine own_st (fun _ k => castTop (own_ef_rm1_2 m c_BOOLEAN) k) ?_
  show own_go _ _ _ _ _ _ _ (s₁.setTop (mkF m 0 #[.val (.ref c_BOOLEAN)] []))
  refine own_st (fun _ k => XS.aloadN X0.here hx rfl (hb hby d1_0) rfl rfl k) ?_
  show own_go _ _ _ _ _ _ _ (s₁.setTop (mkF m 1 #[.val (.ref c_BOOLEAN)] [(.ref c_BOOLEAN)]))
  obtain ⟨T3, X3, e3, st3⟩ := getF X0 hx hZ hown (host := "") (Or.inl (hw _ (List.mem_of_getElem? (i := 48) rfl))) Via.refl e0 (hS.2.2.2.2.2.2.2.2.2.2.2.2.2.2.2.2.2.2.2.2.2.2.2.2.2.2.2.2.2.2.2.2.2.2.2.2.2.2.2.2.2.2.2.2.2.2.1.ext O0.2) (g := (mkF m 1 #[.val (.ref c_BOOLEAN)] [(.ref c_BOOLEAN)])) rfl rfl (hb hby d1_1)
  refine own_st st3 ?_
  show own_go _ _ _ _ _ _ _ (T3.setTop (mkF m 4 #[.val (.ref c_BOOLEAN)] [.null]))
  refine own_st (fun _ k => XS.ifnullYes X3.here hx rfl (pc0 := 4) (pc' := 11) rfl (hb hby d1_4) rfl (by decide) (by decide) k) ?_
  show own_go _ _ _ _ _ _ _ (T3.setTop (mkF m 11 #[.val (.ref c_BOOLEAN)] []))
  refine own_st (fun _ k => XS.iconst X3.here hx rfl (hb hby d1_11) k) ?_
  show own_go _ _ _ _ _ _ _ (T3.setTop (mkF m 12 #[.val (.ref c_BOOLEAN)] [(.int (0 : Int32))]))
  exact own_retN X3 hx hlk (t := .boolean) hret (by simp) rfl (hb hby d1_12) (by decide) (by decide) (⟨rfl, N0, e3⟩)
theorem own_ef_rm1_3 (m : MethodId) (c_DECIMAL64 : Addr) : entryFrame m #[(.ref c_DECIMAL64)] 1 = mkF m 0 #[.val (.ref c_DECIMAL64)] [] := by first | (simp [entryFrame, mkF, argsToLocals, Value.category]; done) | rfl
set_option maxRecDepth 65536 in
set_option maxHeartbeats 40000000 in
theorem rm1_3 (l : Launch) (Z : State) (a0 : Array Value) (hw : ∀ d ∈ tables_1, d.before a0 Z = true) (c_BINARY c_BITS c_BOOLEAN c_DECIMAL64 c_EMPTY c_ENUMERATION c_IDENTITYREF c_INSTANCE_IDENTIFIER c_INT8 c_INT16 c_INT32 c_INT64 c_LEAFREF c_STRING c_UINT8 c_UINT16 c_UINT32 c_UINT64 c_UNION o_c_UINT16_min o_c_UINT64_min o_c_INT64_min o_c_INT32_min o_c_INT8_min o_c_UINT8_min o_c_UINT32_min o_c_INT16_min : Addr) (h0 : Heap) (n0 : Nat) (O0 : Old Z n0 h0) (hS : own_S Z c_BINARY c_BITS c_BOOLEAN c_DECIMAL64 c_EMPTY c_ENUMERATION c_IDENTITYREF c_INSTANCE_IDENTIFIER c_INT8 c_INT16 c_INT32 c_INT64 c_LEAFREF c_STRING c_UINT8 c_UINT16 c_UINT32 c_UINT64 c_UNION o_c_UINT16_min o_c_UINT64_min o_c_INT64_min o_c_INT32_min o_c_INT8_min o_c_UINT8_min o_c_UINT32_min o_c_INT16_min) :
    own_Met l Z (⟨"com/example/bough/bough/BuiltInType", "isInteger", "()Z"⟩ : MethodName) prog_5_method_10_code 1 (some .boolean) [] ({ frames := 0, cells := 0, slots := 0, locals := 0 } : Room) #[(.ref c_DECIMAL64)] h0 (fun v h L => v = some (.int (0 : Int32)) ∧ Fr n0 L ∧ h = h0) := by
  refine own_body own_pn_1 ?_
  intro p e s m below meth c s₁ hx hby hml hown hnm hret hlk X0 hZ e0
  replace hown : s.vm.findClass "com/example/bough/bough/BuiltInType" = some m.cls := hown
  have N0 := Fr.nil n0
  have K0 := Keep.refl h0 []
  refine own_st (fun _ k => castTop (own_ef_rm1_3 m c_DECIMAL64) k) ?_
  show own_go _ _ _ _ _ _ _ (s₁.setTop (mkF m 0 #[.val (.ref c_DECIMAL64)] []))
  refine own_st (fun _ k => XS.aloadN X0.here hx rfl (hb hby d1_0) rfl rfl k) ?_
  show own_go _ _ _ _ _ _ _ (s₁.setTop (mkF m 1 #[.val (.ref c_DECIMAL64)] [(.ref c_DECIMAL64)]))
  obtain ⟨T4, X4, e4, st4⟩ := getF X0 hx hZ hown (host := "") (Or.inl (hw _ (List.mem_of_getElem? (i := 48) rfl))) Via.refl e0 (hS.2.2.2.2.2.2.2.2.2.2.2.2.2.2.2.2.2.2.2.2.2.2.2.2.2.2.2.2.2.2.2.2.2.2.2.2.2.2.2.1.ext O0.2) (g := (mkF m 1 #[.val (.ref c_DECIMAL64)] [(.ref c_DECIMAL64)])) rfl rfl (hb hby d1_1)
  refine own_st st4 ?_
  show own_go _ _ _ _ _ _ _ (T4.setTop (mkF m 4 #[.val (.ref c_DECIMAL64)] [.null]))
  refine own_st (fun _ k => XS.ifnullYes X4.here hx rfl (pc0 := 4) (pc' := 11) rfl (hb hby d1_4) rfl (by decide) (by decide) k) ?_
  show own_go _ _ _ _ _ _ _ (T4.setTop (mkF m 11 #[.val (.ref c_DECIMAL64)] []))
  refine own_st (fun _ k => XS.iconst X4.here hx rfl (hb hby d1_11) k) ?_
  show own_go _ _ _ _ _ _ _ (T4.setTop (mkF m 12 #[.val (.ref c_DECIMAL64)] [(.int (0 : Int32))]))
  exact own_retN X4 hx hlk (t := .boolean) hret (by simp) rfl (hb hby d1_12) (by decide) (by decide) (⟨rfl, N0, e4⟩)
theorem own_ef_rm1_4 (m : MethodId) (c_EMPTY : Addr) : entryFrame m #[(.ref c_EMPTY)] 1 = mkF m 0 #[.val (.ref c_EMPTY)] [] := by first | (simp [entryFrame, mkF, argsToLocals, Value.category]; done) | rfl
set_option maxRecDepth 65536 in
set_option maxHeartbeats 40000000 in
theorem rm1_4 (l : Launch) (Z : State) (a0 : Array Value) (hw : ∀ d ∈ tables_1, d.before a0 Z = true) (c_BINARY c_BITS c_BOOLEAN c_DECIMAL64 c_EMPTY c_ENUMERATION c_IDENTITYREF c_INSTANCE_IDENTIFIER c_INT8 c_INT16 c_INT32 c_INT64 c_LEAFREF c_STRING c_UINT8 c_UINT16 c_UINT32 c_UINT64 c_UNION o_c_UINT16_min o_c_UINT64_min o_c_INT64_min o_c_INT32_min o_c_INT8_min o_c_UINT8_min o_c_UINT32_min o_c_INT16_min : Addr) (h0 : Heap) (n0 : Nat) (O0 : Old Z n0 h0) (hS : own_S Z c_BINARY c_BITS c_BOOLEAN c_DECIMAL64 c_EMPTY c_ENUMERATION c_IDENTITYREF c_INSTANCE_IDENTIFIER c_INT8 c_INT16 c_INT32 c_INT64 c_LEAFREF c_STRING c_UINT8 c_UINT16 c_UINT32 c_UINT64 c_UNION o_c_UINT16_min o_c_UINT64_min o_c_INT64_min o_c_INT32_min o_c_INT8_min o_c_UINT8_min o_c_UINT32_min o_c_INT16_min) :
    own_Met l Z (⟨"com/example/bough/bough/BuiltInType", "isInteger", "()Z"⟩ : MethodName) prog_5_method_10_code 1 (some .boolean) [] ({ frames := 0, cells := 0, slots := 0, locals := 0 } : Room) #[(.ref c_EMPTY)] h0 (fun v h L => v = some (.int (0 : Int32)) ∧ Fr n0 L ∧ h = h0) := by
  refine own_body own_pn_1 ?_
  intro p e s m below meth c s₁ hx hby hml hown hnm hret hlk X0 hZ e0
  replace hown : s.vm.findClass "com/example/bough/bough/BuiltInType" = some m.cls := hown
  have N0 := Fr.nil n0
  have K0 := Keep.refl h0 []
  refine own_st (fun _ k => castTop (own_ef_rm1_4 m c_EMPTY) k) ?_
  show own_go _ _ _ _ _ _ _ (s₁.setTop (mkF m 0 #[.val (.ref c_EMPTY)] []))
  refine own_st (fun _ k => XS.aloadN X0.here hx rfl (hb hby d1_0) rfl rfl k) ?_
  show own_go _ _ _ _ _ _ _ (s₁.setTop (mkF m 1 #[.val (.ref c_EMPTY)] [(.ref c_EMPTY)]))
  obtain ⟨T5, X5, e5, st5⟩ := getF X0 hx hZ hown (host := "") (Or.inl (hw _ (List.mem_of_getElem? (i := 48) rfl))) Via.refl e0 (hS.2.2.2.2.2.2.2.2.2.2.2.2.2.2.2.2.2.2.2.2.2.2.2.2.2.2.2.2.2.2.2.2.2.2.2.2.2.2.2.2.2.2.2.2.2.2.2.2.2.2.2.2.2.2.2.2.2.2.2.2.1.ext O0.2) (g := (mkF m 1 #[.val (.ref c_EMPTY)] [(.ref c_EMPTY)])) rfl rfl (hb hby d1_1)
  refine own_st st5 ?_
  show own_go _ _ _ _ _ _ _ (T5.setTop (mkF m 4 #[.val (.ref c_EMPTY)] [.null]))
  refine own_st (fun _ k => XS.ifnullYes X5.here hx rfl (pc0 := 4) (pc' := 11) rfl (hb hby d1_4) rfl (by decide) (by decide) k) ?_
  show own_go _ _ _ _ _ _ _ (T5.setTop (mkF m 11 #[.val (.ref c_EMPTY)] []))
  refine own_st (fun _ k => XS.iconst X5.here hx rfl (hb hby d1_11) k) ?_
  show own_go _ _ _ _ _ _ _ (T5.setTop (mkF m 12 #[.val (.ref c_EMPTY)] [(.int (0 : Int32))]))
  exact own_retN X5 hx hlk (t := .boolean) hret (by simp) rfl (hb hby d1_12) (by decide) (by decide) (⟨rfl, N0, e5⟩)
theorem own_ef_rm1_5 (m : MethodId) (c_ENUMERATION : Addr) : entryFrame m #[(.ref c_ENUMERATION)] 1 = mkF m 0 #[.val (.ref c_ENUMERATION)] [] := by first | (simp [entryFrame, mkF, argsToLocals, Value.category]; done) | rfl
set_option maxRecDepth 65536 in
set_option maxHeartbeats 40000000 in
theorem rm1_5 (l : Launch) (Z : State) (a0 : Array Value) (hw : ∀ d ∈ tables_1, d.before a0 Z = true) (c_BINARY c_BITS c_BOOLEAN c_DECIMAL64 c_EMPTY c_ENUMERATION c_IDENTITYREF c_INSTANCE_IDENTIFIER c_INT8 c_INT16 c_INT32 c_INT64 c_LEAFREF c_STRING c_UINT8 c_UINT16 c_UINT32 c_UINT64 c_UNION o_c_UINT16_min o_c_UINT64_min o_c_INT64_min o_c_INT32_min o_c_INT8_min o_c_UINT8_min o_c_UINT32_min o_c_INT16_min : Addr) (h0 : Heap) (n0 : Nat) (O0 : Old Z n0 h0) (hS : own_S Z c_BINARY c_BITS c_BOOLEAN c_DECIMAL64 c_EMPTY c_ENUMERATION c_IDENTITYREF c_INSTANCE_IDENTIFIER c_INT8 c_INT16 c_INT32 c_INT64 c_LEAFREF c_STRING c_UINT8 c_UINT16 c_UINT32 c_UINT64 c_UNION o_c_UINT16_min o_c_UINT64_min o_c_INT64_min o_c_INT32_min o_c_INT8_min o_c_UINT8_min o_c_UINT32_min o_c_INT16_min) :
    own_Met l Z (⟨"com/example/bough/bough/BuiltInType", "isInteger", "()Z"⟩ : MethodName) prog_5_method_10_code 1 (some .boolean) [] ({ frames := 0, cells := 0, slots := 0, locals := 0 } : Room) #[(.ref c_ENUMERATION)] h0 (fun v h L => v = some (.int (0 : Int32)) ∧ Fr n0 L ∧ h = h0) := by
  refine own_body own_pn_1 ?_
  intro p e s m below meth c s₁ hx hby hml hown hnm hret hlk X0 hZ e0
  replace hown : s.vm.findClass "com/example/bough/bough/BuiltInType" = some m.cls := hown
  have N0 := Fr.nil n0
  have K0 := Keep.refl h0 []
  refine own_st (fun _ k => castTop (own_ef_rm1_5 m c_ENUMERATION) k) ?_
  show own_go _ _ _ _ _ _ _ (s₁.setTop (mkF m 0 #[.val (.ref c_ENUMERATION)] []))
  refine own_st (fun _ k => XS.aloadN X0.here hx rfl (hb hby d1_0) rfl rfl k) ?_
  show own_go _ _ _ _ _ _ _ (s₁.setTop (mkF m 1 #[.val (.ref c_ENUMERATION)] [(.ref c_ENUMERATION)]))
  obtain ⟨T6, X6, e6, st6⟩ := getF X0 hx hZ hown (host := "") (Or.inl (hw _ (List.mem_of_getElem? (i := 48) rfl))) Via.refl e0 (hS.2.2.2.2.2.2.2.2.2.2.2.2.2.2.2.2.2.2.2.2.2.2.2.2.2.2.2.2.2.2.2.2.2.2.2.2.2.2.2.2.2.2.1.ext O0.2) (g := (mkF m 1 #[.val (.ref c_ENUMERATION)] [(.ref c_ENUMERATION)])) rfl rfl (hb hby d1_1)
  refine own_st st6 ?_
  show own_go _ _ _ _ _ _ _ (T6.setTop (mkF m 4 #[.val (.ref c_ENUMERATION)] [.null]))
  refine own_st (fun _ k => XS.ifnullYes X6.here hx rfl (pc0 := 4) (pc' := 11) rfl (hb hby d1_4) rfl (by decide) (by decide) k) ?_
  show own_go _ _ _ _ _ _ _ (T6.setTop (mkF m 11 #[.val (.ref c_ENUMERATION)] []))
  refine own_st (fun _ k => XS.iconst X6.here hx rfl (hb hby d1_11) k) ?_
  show own_go _ _ _ _ _ _ _ (T6.setTop (mkF m 12 #[.val (.ref c_ENUMERATION)] [(.int (0 : Int32))]))
  exact own_retN X6 hx hlk (t := .boolean) hret (by simp) rfl (hb hby d1_12) (by decide) (by decide) (⟨rfl, N0, e6⟩)
theorem own_ef_rm1_6 (m : MethodId) (c_IDENTITYREF : Addr) : entryFrame m #[(.ref c_IDENTITYREF)] 1 = mkF m 0 #[.val (.ref c_IDENTITYREF)] [] := by first | (simp [entryFrame, mkF, argsToLocals, Value.category]; done) | rfl
set_option maxRecDepth 65536 in
set_option maxHeartbeats 40000000 in
theorem rm1_6 (l : Launch) (Z : State) (a0 : Array Value) (hw : ∀ d ∈ tables_1, d.before a0 Z = true) (c_BINARY c_BITS c_BOOLEAN c_DECIMAL64 c_EMPTY c_ENUMERATION c_IDENTITYREF c_INSTANCE_IDENTIFIER c_INT8 c_INT16 c_INT32 c_INT64 c_LEAFREF c_STRING c_UINT8 c_UINT16 c_UINT32 c_UINT64 c_UNION o_c_UINT16_min o_c_UINT64_min o_c_INT64_min o_c_INT32_min o_c_INT8_min o_c_UINT8_min o_c_UINT32_min o_c_INT16_min : Addr) (h0 : Heap) (n0 : Nat) (O0 : Old Z n0 h0) (hS : own_S Z c_BINARY c_BITS c_BOOLEAN c_DECIMAL64 c_EMPTY c_ENUMERATION c_IDENTITYREF c_INSTANCE_IDENTIFIER c_INT8 c_INT16 c_INT32 c_INT64 c_LEAFREF c_STRING c_UINT8 c_UINT16 c_UINT32 c_UINT64 c_UNION o_c_UINT16_min o_c_UINT64_min o_c_INT64_min o_c_INT32_min o_c_INT8_min o_c_UINT8_min o_c_UINT32_min o_c_INT16_min) :
    own_Met l Z (⟨"com/example/bough/bough/BuiltInType", "isInteger", "()Z"⟩ : MethodName) prog_5_method_10_code 1 (some .boolean) [] ({ frames := 0, cells := 0, slots := 0, locals := 0 } : Room) #[(.ref c_IDENTITYREF)] h0 (fun v h L => v = some (.int (0 : Int32)) ∧ Fr n0 L ∧ h = h0) := by
  refine own_body own_pn_1 ?_
  intro p e s m below meth c s₁ hx hby hml hown hnm hret hlk X0 hZ e0
  replace hown : s.vm.findClass "com/example/bough/bough/BuiltInType" = some m.cls := hown
  have N0 := Fr.nil n0
  have K0 := Keep.refl h0 []
  refine own_st (fun _ k => castTop (own_ef_rm1_6 m c_IDENTITYREF) k) ?_
  show own_go _ _ _ _ _ _ _ (s₁.setTop (mkF m 0 #[.val (.ref c_IDENTITYREF)] []))
  refine own_st (fun _ k => XS.aloadN X0.here hx rfl (hb hby d1_0) rfl rfl k) ?_
  show own_go _ _ _ _ _ _ _ (s₁.setTop (mkF m 1 #[.val (.ref c_IDENTITYREF)] [(.ref c_IDENTITYREF)]))
  obtain ⟨T7, X7, e7, st7⟩ := getF X0 hx hZ hown (host := "") (Or.inl (hw _ (List.mem_of_getElem? (i := 48) rfl))) Via.refl e0 (hS.2.2.2.2.2.2.2.2.2.2.2.2.2.2.2.2.2.2.2.2.2.2.2.2.2.2.2.2.2.2.2.2.2.2.2.2.2.2.2.2.2.2.2.2.2.2.2.2.2.2.2.2.2.2.2.2.2.1.ext O0.2) (g := (mkF m 1 #[.val (.ref c_IDENTITYREF)] [(.ref c_IDENTITYREF)])) rfl rfl (hb hby d1_1)
  refine own_st st7 ?_
  show own_go _ _ _ _ _ _ _ (T7.setTop (mkF m 4 #[.val (.ref c_IDENTITYREF)] [.null]))
  refine own_st (fun _ k => XS.ifnullYes X7.here hx rfl (pc0 := 4) (pc' := 11) rfl (hb hby d1_4) rfl (by decide) (by decide) k) ?_
  show own_go _ _ _ _ _ _ _ (T7.setTop (mkF m 11 #[.val (.ref c_IDENTITYREF)] []))
  refine own_st (fun _ k => XS.iconst X7.here hx rfl (hb hby d1_11) k) ?_
  show own_go _ _ _ _ _ _ _ (T7.setTop (mkF m 12 #[.val (.ref c_IDENTITYREF)] [(.int (0 : Int32))]))
  exact own_retN X7 hx hlk (t := .boolean) hret (by simp) rfl (hb hby d1_12) (by decide) (by decide) (⟨rfl, N0, e7⟩)
theorem own_ef_rm1_7 (m : MethodId) (c_INSTANCE_IDENTIFIER : Addr) : entryFrame m #[(.ref c_INSTANCE_IDENTIFIER)] 1 = mkF m 0 #[.val (.ref c_INSTANCE_IDENTIFIER)] [] := by first | (simp [entryFrame, mkF, argsToLocals, Value.category]; done) | rfl
set_option maxRecDepth 65536 in
set_option maxHeartbeats 40000000 in
theorem rm1_7 (l : Launch) (Z : State) (a0 : Array Value) (hw : ∀ d ∈ tables_1, d.before a0 Z = true) (c_BINARY c_BITS c_BOOLEAN c_DECIMAL64 c_EMPTY c_ENUMERATION c_IDENTITYREF c_INSTANCE_IDENTIFIER c_INT8 c_INT16 c_INT32 c_INT64 c_LEAFREF c_STRING c_UINT8 c_UINT16 c_UINT32 c_UINT64 c_UNION o_c_UINT16_min o_c_UINT64_min o_c_INT64_min o_c_INT32_min o_c_INT8_min o_c_UINT8_min o_c_UINT32_min o_c_INT16_min : Addr) (h0 : Heap) (n0 : Nat) (O0 : Old Z n0 h0) (hS : own_S Z c_BINARY c_BITS c_BOOLEAN c_DECIMAL64 c_EMPTY c_ENUMERATION c_IDENTITYREF c_INSTANCE_IDENTIFIER c_INT8 c_INT16 c_INT32 c_INT64 c_LEAFREF c_STRING c_UINT8 c_UINT16 c_UINT32 c_UINT64 c_UNION o_c_UINT16_min o_c_UINT64_min o_c_INT64_min o_c_INT32_min o_c_INT8_min o_c_UINT8_min o_c_UINT32_min o_c_INT16_min) :
    own_Met l Z (⟨"com/example/bough/bough/BuiltInType", "isInteger", "()Z"⟩ : MethodName) prog_5_method_10_code 1 (some .boolean) [] ({ frames := 0, cells := 0, slots := 0, locals := 0 } : Room) #[(.ref c_INSTANCE_IDENTIFIER)] h0 (fun v h L => v = some (.int (0 : Int32)) ∧ Fr n0 L ∧ h = h0) := by
  refine own_body own_pn_1 ?_
  intro p e s m below meth c s₁ hx hby hml hown hnm hret hlk X0 hZ e0
  replace hown : s.vm.findClass "com/example/bough/bough/BuiltInType" = some m.cls := hown
  have N0 := Fr.nil n0
  have K0 := Keep.refl h0 []
  refine own_st (fun _ k => castTop (own_ef_rm1_7 m c_INSTANCE_IDENTIFIER) k) ?_
  show own_go _ _ _ _ _ _ _ (s₁.setTop (mkF m 0 #[.val (.ref c_INSTANCE_IDENTIFIER)] []))
  refine own_st (fun _ k => XS.aloadN X0.here hx rfl (hb hby d1_0) rfl rfl k) ?_
  show own_go _ _ _ _ _ _ _ (s₁.setTop (mkF m 1 #[.val (.ref c_INSTANCE_IDENTIFIER)] [(.ref c_INSTANCE_IDENTIFIER)]))
  obtain ⟨T8, X8, e8, st8⟩ := getF X0 hx hZ hown (host := "") (Or.inl (hw _ (List.mem_of_getElem? (i := 48) rfl))) Via.refl e0 (hS.2.2.2.2.2.2.2.2.2.2.2.2.2.2.2.2.2.2.2.2.2.2.2.2.2.2.2.2.2.2.2.2.2.2.2.2.2.2.2.2.2.2.2.2.2.1.ext O0.2) (g := (mkF m 1 #[.val (.ref c_INSTANCE_IDENTIFIER)] [(.ref c_INSTANCE_IDENTIFIER)])) rfl rfl (hb hby d1_1)
  refine own_st st8 ?_
  show own_go _ _ _ _ _ _ _ (T8.setTop (mkF m 4 #[.val (.ref c_INSTANCE_IDENTIFIER)] [.null]))
  refine own_st (fun _ k => XS.ifnullYes X8.here hx rfl (pc0 := 4) (pc' := 11) rfl (hb hby d1_4) rfl (by decide) (by decide) k) ?_
  show own_go _ _ _ _ _ _ _ (T8.setTop (mkF m 11 #[.val (.ref c_INSTANCE_IDENTIFIER)] []))
  refine own_st (fun _ k => XS.iconst X8.here hx rfl (hb hby d1_11) k) ?_
  show own_go _ _ _ _ _ _ _ (T8.setTop (mkF m 12 #[.val (.ref c_INSTANCE_IDENTIFIER)] [(.int (0 : Int32))]))
  exact own_retN X8 hx hlk (t := .boolean) hret (by simp) rfl (hb hby d1_12) (by decide) (by decide) (⟨rfl, N0, e8⟩)
theorem d1_7 : decode prog_5_method_10_code 7 = .ok (.iconst 1, 1) := by decide +kernel
theorem d1_8 : decode prog_5_method_10_code 8 = .ok (.goto 4, 3) := by decide +kernel
theorem own_ef_rm1_8 (m : MethodId) (c_INT8 : Addr) : entryFrame m #[(.ref c_INT8)] 1 = mkF m 0 #[.val (.ref c_INT8)] [] := by first | (simp [entryFrame, mkF, argsToLocals, Value.category]; done) | rfl
set_option maxRecDepth 65536 in
set_option maxHeartbeats 40000000 in
theorem rm1_8 (l : Launch) (Z : State) (a0 : Array Value) (hw : ∀ d ∈ tables_1, d.before a0 Z = true) (c_BINARY c_BITS c_BOOLEAN c_DECIMAL64 c_EMPTY c_ENUMERATION c_IDENTITYREF c_INSTANCE_IDENTIFIER c_INT8 c_INT16 c_INT32 c_INT64 c_LEAFREF c_STRING c_UINT8 c_UINT16 c_UINT32 c_UINT64 c_UNION o_c_UINT16_min o_c_UINT64_min o_c_INT64_min o_c_INT32_min o_c_INT8_min o_c_UINT8_min o_c_UINT32_min o_c_INT16_min : Addr) (h0 : Heap) (n0 : Nat) (O0 : Old Z n0 h0) (hS : own_S Z c_BINARY c_BITS c_BOOLEAN c_DECIMAL64 c_EMPTY c_ENUMERATION c_IDENTITYREF c_INSTANCE_IDENTIFIER c_INT8 c_INT16 c_INT32 c_INT64 c_LEAFREF c_STRING c_UINT8 c_UINT16 c_UINT32 c_UINT64 c_UNION o_c_UINT16_min o_c_UINT64_min o_c_INT64_min o_c_INT32_min o_c_INT8_min o_c_UINT8_min o_c_UINT32_min o_c_INT16_min) :
    own_Met l Z (⟨"com/example/bough/bough/BuiltInType", "isInteger", "()Z"⟩ : MethodName) prog_5_method_10_code 1 (some .boolean) [] ({ frames := 0, cells := 0, slots := 0, locals := 0 } : Room) #[(.ref c_INT8)] h0 (fun v h L => v = some (.int (1 : Int32)) ∧ Fr n0 L ∧ h = h0) := by
  refine own_body own_pn_1 ?_
  intro p e s m below meth c s₁ hx hby hml hown hnm hret hlk X0 hZ e0
  replace hown : s.vm.findClass "com/example/bough/bough/BuiltInType" = some m.cls := hown
  have N0 := Fr.nil n0
  have K0 := Keep.refl h0 []
  refine own_st (fun _ k => castTop (own_ef_rm1_8 m c_INT8) k) ?_
  show own_go _ _ _ _ _ _ _ (s₁.setTop (mkF m 0 #[.val (.ref c_INT8)] []))
  refine own_st (fun _ k => XS.aloadN X0.here hx rfl (hb hby d1_0) rfl rfl k) ?_
  show own_go _ _ _ _ _ _ _ (s₁.setTop (mkF m 1 #[.val (.ref c_INT8)] [(.ref c_INT8)]))
  obtain ⟨T9, X9, e9, st9⟩ := getF X0 hx hZ hown (host := "") (Or.inl (hw _ (List.mem_of_getElem? (i := 48) rfl))) Via.refl e0 (hS.2.2.2.2.2.2.2.2.2.2.2.2.2.2.2.2.2.2.2.2.2.2.2.2.2.2.2.2.2.2.2.2.2.2.2.2.2.2.2.2.2.2.2.2.2.2.2.2.2.2.2.1.ext O0.2) (g := (mkF m 1 #[.val (.ref c_INT8)] [(.ref c_INT8)])) rfl rfl (hb hby d1_1)
  refine own_st st9 ?_
  show own_go _ _ _ _ _ _ _ (T9.setTop (mkF m 4 #[.val (.ref c_INT8)] [(.ref o_c_INT8_min)]))
  refine own_st (fun _ k => XS.ifnullNo X9.here hx rfl (hb hby d1_4) rfl k) ?_
  show own_go _ _ _ _ _ _ _ (T9.setTop (mkF m 7 #[.val (.ref c_INT8)] []))
  refine own_st (fun _ k => XS.iconst X9.here hx rfl (hb hby d1_7) k) ?_
  show own_go _ _ _ _ _ _ _ (T9.setTop (mkF m 8 #[.val (.ref c_INT8)] [(.int (1 : Int32))]))
  refine own_st (fun _ k => XS.goto X9.here hx rfl (pc0 := 8) (pc' := 12) rfl (hb hby d1_8) (by decide) (by decide) k) ?_
  show own_go _ _ _ _ _ _ _ (T9.setTop (mkF m 12 #[.val (.ref c_INT8)] [(.int (1 : Int32))]))
  exact own_retN X9 hx hlk (t := .boolean) hret (by simp) rfl (hb hby d1_12) (by decide) (by decide) (⟨rfl, N0, e9⟩)
theorem own_ef_rm1_9 (m : MethodId) (c_INT16 : Addr) : entryFrame m #[(.ref c_INT16)] 1 = mkF m 0 #[.val (.ref c_INT16)] [] := by first | (simp [entryFrame, mkF, argsToLocals, Value.category]; done) | rfl
set_option maxRecDepth 65536 in
set_option maxHeartbeats 40000000 in
theorem rm1_9 (l : Launch) (Z : State) (a0 : Array Value) (hw : ∀ d ∈ tables_1, d.before a0 Z = true) (c_BINARY c_BITS c_BOOLEAN c_DECIMAL64 c_EMPTY c_ENUMERATION c_IDENTITYREF c_INSTANCE_IDENTIFIER c_INT8 c_INT16 c_INT32 c_INT64 c_LEAFREF c_STRING c_UINT8 c_UINT16 c_UINT32 c_UINT64 c_UNION o_c_UINT16_min o_c_UINT64_min o_c_INT64_min o_c_INT32_min o_c_INT8_min o_c_UINT8_min o_c_UINT32_min o_c_INT16_min : Addr) (h0 : Heap) (n0 : Nat) (O0 : Old Z n0 h0) (hS : own_S Z c_BINARY c_BITS c_BOOLEAN c_DECIMAL64 c_EMPTY c_ENUMERATION c_IDENTITYREF c_INSTANCE_IDENTIFIER c_INT8 c_INT16 c_INT32 c_INT64 c_LEAFREF c_STRING c_UINT8 c_UINT16 c_UINT32 c_UINT64 c_UNION o_c_UINT16_min o_c_UINT64_min o_c_INT64_min o_c_INT32_min o_c_INT8_min o_c_UINT8_min o_c_UINT32_min o_c_INT16_min) :
    own_Met l Z (⟨"com/example/bough/bough/BuiltInType", "isInteger", "()Z"⟩ : MethodName) prog_5_method_10_code 1 (some .boolean) [] ({ frames := 0, cells := 0, slots := 0, locals := 0 } : Room) #[(.ref c_INT16)] h0 (fun v h L => v = some (.int (1 : Int32)) ∧ Fr n0 L ∧ h = h0) := by
  refine own_body own_pn_1 ?_
  intro p e s m below meth c s₁ hx hby hml hown hnm hret hlk X0 hZ e0
  replace hown : s.vm.findClass "com/example/bough/bough/BuiltInType" = some m.cls := hown
  have N0 := Fr.nil n0
  have K0 := Keep.refl h0 []
  refine own_st (fun _ k => castTop (own_ef_rm1_9 m c_INT16) k) ?_
  show own_go _ _ _ _ _ _ _ (s₁.setTop (mkF m 0 #[.val (.ref c_INT16)] []))
  refine own_st (fun _ k => XS.aloadN X0.here hx rfl (hb hby d1_0) rfl rfl k) ?_
  show own_go _ _ _ _ _ _ _ (s₁.setTop (mkF m 1 #[.val (.ref c_INT16)] [(.ref c_INT16)]))
  obtain ⟨T10, X10, e10, st10⟩ := getF X0 hx hZ hown (host := "") (Or.inl (hw _ (List.mem_of_getElem? (i := 48) rfl))) Via.refl e0 (hS.2.2.2.2.2.2.2.2.2.2.2.2.2.2.2.2.2.2.2.2.2.2.2.2.2.2.2.2.2.2.2.2.2.2.2.2.2.2.2.2.2.2.2.2.2.2.2.2.2.2.2.2.2.2.2.2.2.2.2.2.2.1.ext O0.2) (g := (mkF m 1 #[.val (.ref c_INT16)] [(.ref c_INT16)])) rfl rfl (hb hby d1_1)
  refine own_st st10 ?_
  show own_go _ _ _ _ _ _ _ (T10.setTop (mkF m 4 #[.val (.ref c_INT16)] [(.ref o_c_INT16_min)]))
  refine own_st (fun _ k => XS.ifnullNo X10.here hx rfl (hb hby d1_4) rfl k) ?_
  show own_go _ _ _ _ _ _ _ (T10.setTop (mkF m 7 #[.val (.ref c_INT16)] []))
  refine own_st (fun _ k => XS.iconst X10.here hx rfl (hb hby d1_7) k) ?_
  show own_go _ _ _ _ _ _ _ (T10.setTop (mkF m 8 #[.val (.ref c_INT16)] [(.int (1 : Int32))]))
  refine own_st (fun _ k => XS.goto X10.here hx rfl (pc0 := 8) (pc' := 12) rfl (hb hby d1_8) (by decide) (by decide) k) ?_
  show own_go _ _ _ _ _ _ _ (T10.setTop (mkF m 12 #[.val (.ref c_INT16)] [(.int (1 : Int32))]))
  exact own_retN X10 hx hlk (t := .boolean) hret (by simp) rfl (hb hby d1_12) (by decide) (by decide) (⟨rfl, N0, e10⟩)
theorem own_ef_rm1_10 (m : MethodId) (c_INT32 : Addr) : entryFrame m #[(.ref c_INT32)] 1 = mkF m 0 #[.val (.ref c_INT32)] [] := by first | (simp [entryFrame, mkF, argsToLocals, Value.category]; done) | rfl
set_option maxRecDepth 65536 in
set_option maxHeartbeats 40000000 in
theorem rm1_10 (l : Launch) (Z : State) (a0 : Array Value) (hw : ∀ d ∈ tables_1, d.before a0 Z = true) (c_BINARY c_BITS c_BOOLEAN c_DECIMAL64 c_EMPTY c_ENUMERATION c_IDENTITYREF c_INSTANCE_IDENTIFIER c_INT8 c_INT16 c_INT32 c_INT64 c_LEAFREF c_STRING c_UINT8 c_UINT16 c_UINT32 c_UINT64 c_UNION o_c_UINT16_min o_c_UINT64_min o_c_INT64_min o_c_INT32_min o_c_INT8_min o_c_UINT8_min o_c_UINT32_min o_c_INT16_min : Addr) (h0 : Heap) (n0 : Nat) (O0 : Old Z n0 h0) (hS : own_S Z c_BINARY c_BITS c_BOOLEAN c_DECIMAL64 c_EMPTY c_ENUMERATION c_IDENTITYREF c_INSTANCE_IDENTIFIER c_INT8 c_INT16 c_INT32 c_INT64 c_LEAFREF c_STRING c_UINT8 c_UINT16 c_UINT32 c_UINT64 c_UNION o_c_UINT16_min o_c_UINT64_min o_c_INT64_min o_c_INT32_min o_c_INT8_min o_c_UINT8_min o_c_UINT32_min o_c_INT16_min) :
    own_Met l Z (⟨"com/example/bough/bough/BuiltInType", "isInteger", "()Z"⟩ : MethodName) prog_5_method_10_code 1 (some .boolean) [] ({ frames := 0, cells := 0, slots := 0, locals := 0 } : Room) #[(.ref c_INT32)] h0 (fun v h L => v = some (.int (1 : Int32)) ∧ Fr n0 L ∧ h = h0) := by
  refine own_body own_pn_1 ?_
  intro p e s m below meth c s₁ hx hby hml hown hnm hret hlk X0 hZ e0
  replace hown : s.vm.findClass "com/example/bough/bough/BuiltInType" = some m.cls := hown
  have N0 := Fr.nil n0
  have K0 := Keep.refl h0 []
  refine own_st (fun _ k => castTop (own_ef_rm1_10 m c_INT32) k) ?_
  show own_go _ _ _ _ _ _ _ (s₁.setTop (mkF m 0 #[.val (.ref c_INT32)] []))
  refine own_st (fun _ k => XS.aloadN X0.here hx rfl (hb hby d1_0) rfl rfl k) ?_
  show own_go _ _ _ _ _ _ _ (s₁.setTop (mkF m 1 #[.val (.ref c_INT32)] [(.ref c_INT32)]))
  obtain ⟨T11, X11, e11, st11⟩ := getF X0 hx hZ hown (host := "") (Or.inl (hw _ (List.mem_of_getElem? (i := 48) rfl))) Via.refl e0 (hS.2.2.2.2.2.2.2.2.2.2.2.2.2.2.2.2.2.2.2.2.2.2.2.2.2.2.2.2.2.2.2.2.2.2.2.2.2.2.2.2.2.2.2.2.2.2.2.2.2.1.ext O0.2) (g := (mkF m 1 #[.val (.ref c_INT32)] [(.ref c_INT32)])) rfl rfl (hb hby d1_1)
  refine own_st st11 ?_
  show own_go _ _ _ _ _ _ _ (T11.setTop (mkF m 4 #[.val (.ref c_INT32)] [(.ref o_c_INT32_min)]))
  refine own_st (fun _ k => XS.ifnullNo X11.here hx rfl (hb hby d1_4) rfl k) ?_
  show own_go _ _ _ _ _ _ _ (T11.setTop (mkF m 7 #[.val (.ref c_INT32)] []))
  refine own_st (fun _ k => XS.iconst X11.here hx rfl (hb hby d1_7) k) ?_
  show own_go _ _ _ _ _ _ _ (T11.setTop (mkF m 8 #[.val (.ref c_INT32)] [(.int (1 : Int32))]))
  refine own_st (fun _ k => XS.goto X11.here hx rfl (pc0 := 8) (pc' := 12) rfl (hb hby d1_8) (by decide) (by decide) k) ?_
  show own_go _ _ _ _ _ _ _ (T11.setTop (mkF m 12 #[.val (.ref c_INT32)] [(.int (1 : Int32))]))
  exact own_retN X11 hx hlk (t := .boolean) hret (by simp) rfl (hb hby d1_12) (by decide) (by decide) (⟨rfl, N0, e11⟩)
theorem own_ef_rm1_11 (m : MethodId) (c_INT64 : Addr) : entryFrame m #[(.ref c_INT64)] 1 = mkF m 0 #[.val (.ref c_INT64)] [] := by first | (simp [entryFrame, mkF, argsToLocals, Value.category]; done) | rfl
set_option maxRecDepth 65536 in
set_option maxHeartbeats 40000000 in
theorem rm1_11 (l : Launch) (Z : State) (a0 : Array Value) (hw : ∀ d ∈ tables_1, d.before a0 Z = true) (c_BINARY c_BITS c_BOOLEAN c_DECIMAL64 c_EMPTY c_ENUMERATION c_IDENTITYREF c_INSTANCE_IDENTIFIER c_INT8 c_INT16 c_INT32 c_INT64 c_LEAFREF c_STRING c_UINT8 c_UINT16 c_UINT32 c_UINT64 c_UNION o_c_UINT16_min o_c_UINT64_min o_c_INT64_min o_c_INT32_min o_c_INT8_min o_c_UINT8_min o_c_UINT32_min o_c_INT16_min : Addr) (h0 : Heap) (n0 : Nat) (O0 : Old Z n0 h0) (hS : own_S Z c_BINARY c_BITS c_BOOLEAN c_DECIMAL64 c_EMPTY c_ENUMERATION c_IDENTITYREF c_INSTANCE_IDENTIFIER c_INT8 c_INT16 c_INT32 c_INT64 c_LEAFREF c_STRING c_UINT8 c_UINT16 c_UINT32 c_UINT64 c_UNION o_c_UINT16_min o_c_UINT64_min o_c_INT64_min o_c_INT32_min o_c_INT8_min o_c_UINT8_min o_c_UINT32_min o_c_INT16_min) :
    own_Met l Z (⟨"com/example/bough/bough/BuiltInType", "isInteger", "()Z"⟩ : MethodName) prog_5_method_10_code 1 (some .boolean) [] ({ frames := 0, cells := 0, slots := 0, locals := 0 } : Room) #[(.ref c_INT64)] h0 (fun v h L => v = some (.int (1 : Int32)) ∧ Fr n0 L ∧ h = h0) := by
  refine own_body own_pn_1 ?_
  intro p e s m below meth c s₁ hx hby hml hown hnm hret hlk X0 hZ e0
  replace hown : s.vm.findClass "com/example/bough/bough/BuiltInType" = some m.cls := hown
  have N0 := Fr.nil n0
  have K0 := Keep.refl h0 []
  refine own_st (fun _ k => castTop (own_ef_rm1_11 m c_INT64) k) ?_
  show own_go _ _ _ _ _ _ _ (s₁.setTop (mkF m 0 #[.val (.ref c_INT64)] []))
  refine own_st (fun _ k => XS.aloadN X0.here hx rfl (hb hby d1_0) rfl rfl k) ?_
  show own_go _ _ _ _ _ _ _ (s₁.setTop (mkF m 1 #[.val (.ref c_INT64)] [(.ref c_INT64)]))
  obtain ⟨T12, X12, e12, st12⟩ := getF X0 hx hZ hown (host := "") (Or.inl (hw _ (List.mem_of_getElem? (i := 48) rfl))) Via.refl e0 (hS.2.2.2.2.2.2.2.2.2.2.2.2.2.2.2.2.2.2.2.2.2.2.2.2.2.2.2.2.2.2.2.2.2.2.2.2.2.2.2.2.2.2.2.2.2.2.2.1.ext O0.2) (g := (mkF m 1 #[.val (.ref c_INT64)] [(.ref c_INT64)])) rfl rfl (hb hby d1_1)
  refine own_st st12 ?_
  show own_go _ _ _ _ _ _ _ (T12.setTop (mkF m 4 #[.val (.ref c_INT64)] [(.ref o_c_INT64_min)]))
  refine own_st (fun _ k => XS.ifnullNo X12.here hx rfl (hb hby d1_4) rfl k) ?_
  show own_go _ _ _ _ _ _ _ (T12.setTop (mkF m 7 #[.val (.ref c_INT64)] []))
  refine own_st (fun _ k => XS.iconst X12.here hx rfl (hb hby d1_7) k) ?_
  show own_go _ _ _ _ _ _ _ (T12.setTop (mkF m 8 #[.val (.ref c_INT64)] [(.int (1 : Int32))]))
  refine own_st (fun _ k => XS.goto X12.here hx rfl (pc0 := 8) (pc' := 12) rfl (hb hby d1_8) (by decide) (by decide) k) ?_
  show own_go _ _ _ _ _ _ _ (T12.setTop (mkF m 12 #[.val (.ref c_INT64)] [(.int (1 : Int32))]))
  exact own_retN X12 hx hlk (t := .boolean) hret (by simp) rfl (hb hby d1_12) (by decide) (by decide) (⟨rfl, N0, e12⟩)
theorem own_ef_rm1_12 (m : MethodId) (c_LEAFREF : Addr) : entryFrame m #[(.ref c_LEAFREF)] 1 = mkF m 0 #[.val (.ref c_LEAFREF)] [] := by first | (simp [entryFrame, mkF, argsToLocals, Value.category]; done) | rfl
set_option maxRecDepth 65536 in
set_option maxHeartbeats 40000000 in
theorem rm1_12 (l : Launch) (Z : State) (a0 : Array Value) (hw : ∀ d ∈ tables_1, d.before a0 Z = true) (c_BINARY c_BITS c_BOOLEAN c_DECIMAL64 c_EMPTY c_ENUMERATION c_IDENTITYREF c_INSTANCE_IDENTIFIER c_INT8 c_INT16 c_INT32 c_INT64 c_LEAFREF c_STRING c_UINT8 c_UINT16 c_UINT32 c_UINT64 c_UNION o_c_UINT16_min o_c_UINT64_min o_c_INT64_min o_c_INT32_min o_c_INT8_min o_c_UINT8_min o_c_UINT32_min o_c_INT16_min : Addr) (h0 : Heap) (n0 : Nat) (O0 : Old Z n0 h0) (hS : own_S Z c_BINARY c_BITS c_BOOLEAN c_DECIMAL64 c_EMPTY c_ENUMERATION c_IDENTITYREF c_INSTANCE_IDENTIFIER c_INT8 c_INT16 c_INT32 c_INT64 c_LEAFREF c_STRING c_UINT8 c_UINT16 c_UINT32 c_UINT64 c_UNION o_c_UINT16_min o_c_UINT64_min o_c_INT64_min o_c_INT32_min o_c_INT8_min o_c_UINT8_min o_c_UINT32_min o_c_INT16_min) :
    own_Met l Z (⟨"com/example/bough/bough/BuiltInType", "isInteger", "()Z"⟩ : MethodName) prog_5_method_10_code 1 (some .boolean) [] ({ frames := 0, cells := 0, slots := 0, locals := 0 } : Room) #[(.ref c_LEAFREF)] h0 (fun v h L => v = some (.int (0 : Int32)) ∧ Fr n0 L ∧ h = h0) := by
  refine own_body own_pn_1 ?_
  intro p e s m below meth c s₁ hx hby hml hown hnm hret hlk X0 hZ e0
  replace hown : s.vm.findClass "com/example/bough/bough/BuiltInType" = some m.cls := hown
  have N0 := Fr.nil n0
  have K0 := Keep.refl h0 []
  refine own_st (fun _ k => castTop (own_ef_rm1_12 m c_LEAFREF) k) ?_
  show own_go _ _ _ _ _ _ _ (s₁.setTop (mkF m 0 #[.val (.ref c_LEAFREF)] []))
  refine own_st (fun _ k => XS.aloadN X0.here hx rfl (hb hby d1_0) rfl rfl k) ?_
  show own_go _ _ _ _ _ _ _ (s₁.setTop (mkF m 1 #[.val (.ref c_LEAFREF)] [(.ref c_LEAFREF)]))
  obtain ⟨T13, X13, e13, st13⟩ := getF X0 hx hZ hown (host := "") (Or.inl (hw _ (List.mem_of_getElem? (i := 48) rfl))) Via.refl e0 (hS.2.2.2.2.2.2.2.2.2.2.2.2.2.2.2.2.2.2.2.2.2.2.2.2.2.2.2.2.2.2.2.2.2.2.2.2.2.2.2.2.2.2.2.2.2.2.2.2.2.2.2.2.2.2.2.2.2.2.2.2.2.2.2.1.ext O0.2) (g := (mkF m 1 #[.val (.ref c_LEAFREF)] [(.ref c_LEAFREF)])) rfl rfl (hb hby d1_1)
  refine own_st st13 ?_
  show own_go _ _ _ _ _ _ _ (T13.setTop (mkF m 4 #[.val (.ref c_LEAFREF)] [.null]))
  refine own_st (fun _ k => XS.ifnullYes X13.here hx rfl (pc0 := 4) (pc' := 11) rfl (hb hby d1_4) rfl (by decide) (by decide) k) ?_
  show own_go _ _ _ _ _ _ _ (T13.setTop (mkF m 11 #[.val (.ref c_LEAFREF)] []))
  refine own_st (fun _ k => XS.iconst X13.here hx rfl (hb hby d1_11) k) ?_
  show own_go _ _ _ _ _ _ _ (T13.setTop (mkF m 12 #[.val (.ref c_LEAFREF)] [(.int (0 : Int32))]))
  exact own_retN X13 hx hlk (t := .boolean) hret (by simp) rfl (hb hby d1_12) (by decide) (by decide) (⟨rfl, N0, e13⟩)
theorem own_ef_rm1_13 (m : MethodId) (c_STRING : Addr) : entryFrame m #[(.ref c_STRING)] 1 = mkF m 0 #[.val (.ref c_STRING)] [] := by first | (simp [entryFrame, mkF, argsToLocals, Value.category]; done) | rfl
set_option maxRecDepth 65536 in
set_option maxHeartbeats 40000000 in
theorem rm1_13 (l : Launch) (Z : State) (a0 : Array Value) (hw : ∀ d ∈ tables_1, d.before a0 Z = true) (c_BINARY c_BITS c_BOOLEAN c_DECIMAL64 c_EMPTY c_ENUMERATION c_IDENTITYREF c_INSTANCE_IDENTIFIER c_INT8 c_INT16 c_INT32 c_INT64 c_LEAFREF c_STRING c_UINT8 c_UINT16 c_UINT32 c_UINT64 c_UNION o_c_UINT16_min o_c_UINT64_min o_c_INT64_min o_c_INT32_min o_c_INT8_min o_c_UINT8_min o_c_UINT32_min o_c_INT16_min : Addr) (h0 : Heap) (n0 : Nat) (O0 : Old Z n0 h0) (hS : own_S Z c_BINARY c_BITS c_BOOLEAN c_DECIMAL64 c_EMPTY c_ENUMERATION c_IDENTITYREF c_INSTANCE_IDENTIFIER c_INT8 c_INT16 c_INT32 c_INT64 c_LEAFREF c_STRING c_UINT8 c_UINT16 c_UINT32 c_UINT64 c_UNION o_c_UINT16_min o_c_UINT64_min o_c_INT64_min o_c_INT32_min o_c_INT8_min o_c_UINT8_min o_c_UINT32_min o_c_INT16_min) :
    own_Met l Z (⟨"com/example/bough/bough/BuiltInType", "isInteger", "()Z"⟩ : MethodName) prog_5_method_10_code 1 (some .boolean) [] ({ frames := 0, cells := 0, slots := 0, locals := 0 } : Room) #[(.ref c_STRING)] h0 (fun v h L => v = some (.int (0 : Int32)) ∧ Fr n0 L ∧ h = h0) := by
  refine own_body own_pn_1 ?_
  intro p e s m below meth c s₁ hx hby hml hown hnm hret hlk X0 hZ e0
  replace hown : s.vm.findClass "com/example/bough/bough/BuiltInType" = some m.cls := hown
  have N0 := Fr.nil n0
  have K0 := Keep.refl h0 []
  refine own_st (fun _ k => castTop (own_ef_rm1_13 m c_STRING) k) ?_
  show own_go _ _ _ _ _ _ _ (s₁.setTop (mkF m 0 #[.val (.ref c_STRING)] []))
  refine own_st (fun _ k => XS.aloadN X0.here hx rfl (hb hby d1_0) rfl rfl k) ?_
  show own_go _ _ _ _ _ _ _ (s₁.setTop (mkF m 1 #[.val (.ref c_STRING)] [(.ref c_STRING)]))
  obtain ⟨T14, X14, e14, st14⟩ := getF X0 hx hZ hown (host := "") (Or.inl (hw _ (List.mem_of_getElem? (i := 48) rfl))) Via.refl e0 (hS.2.2.2.2.2.2.2.2.2.2.2.2.2.2.2.2.2.2.2.2.2.2.2.2.2.2.2.2.2.2.2.2.2.2.2.2.2.2.2.2.2.2.2.2.2.2.2.2.2.2.2.2.2.2.2.2.2.2.2.2.2.2.2.2.ext O0.2) (g := (mkF m 1 #[.val (.ref c_STRING)] [(.ref c_STRING)])) rfl rfl (hb hby d1_1)
  refine own_st st14 ?_
  show own_go _ _ _ _ _ _ _ (T14.setTop (mkF m 4 #[.val (.ref c_STRING)] [.null]))
  refine own_st (fun _ k => XS.ifnullYes X14.here hx rfl (pc0 := 4) (pc' := 11) rfl (hb hby d1_4) rfl (by decide) (by decide) k) ?_
  show own_go _ _ _ _ _ _ _ (T14.setTop (mkF m 11 #[.val (.ref c_STRING)] []))
  refine own_st (fun _ k => XS.iconst X14.here hx rfl (hb hby d1_11) k) ?_
  show own_go _ _ _ _ _ _ _ (T14.setTop (mkF m 12 #[.val (.ref c_STRING)] [(.int (0 : Int32))]))
  exact own_retN X14 hx hlk (t := .boolean) hret (by simp) rfl (hb hby d1_12) (by decide) (by decide) (⟨rfl, N0, e14⟩)
theorem own_ef_rm1_14 (m : MethodId) (c_UINT8 : Addr) : entryFrame m #[(.ref c_UINT8)] 1 = mkF m 0 #[.val (.ref c_UINT8)] [] := by first | (simp [entryFrame, mkF, argsToLocals, Value.category]; done) | rfl
set_option maxRecDepth 65536 in
set_option maxHeartbeats 40000000 in
theorem rm1_14 (l : Launch) (Z : State) (a0 : Array Value) (hw : ∀ d ∈ tables_1, d.before a0 Z = true) (c_BINARY c_BITS c_BOOLEAN c_DECIMAL64 c_EMPTY c_ENUMERATION c_IDENTITYREF c_INSTANCE_IDENTIFIER c_INT8 c_INT16 c_INT32 c_INT64 c_LEAFREF c_STRING c_UINT8 c_UINT16 c_UINT32 c_UINT64 c_UNION o_c_UINT16_min o_c_UINT64_min o_c_INT64_min o_c_INT32_min o_c_INT8_min o_c_UINT8_min o_c_UINT32_min o_c_INT16_min : Addr) (h0 : Heap) (n0 : Nat) (O0 : Old Z n0 h0) (hS : own_S Z c_BINARY c_BITS c_BOOLEAN c_DECIMAL64 c_EMPTY c_ENUMERATION c_IDENTITYREF c_INSTANCE_IDENTIFIER c_INT8 c_INT16 c_INT32 c_INT64 c_LEAFREF c_STRING c_UINT8 c_UINT16 c_UINT32 c_UINT64 c_UNION o_c_UINT16_min o_c_UINT64_min o_c_INT64_min o_c_INT32_min o_c_INT8_min o_c_UINT8_min o_c_UINT32_min o_c_INT16_min) :
    own_Met l Z (⟨"com/example/bough/bough/BuiltInType", "isInteger", "()Z"⟩ : MethodName) prog_5_method_10_code 1 (some .boolean) [] ({ frames := 0, cells := 0, slots := 0, locals := 0 } : Room) #[(.ref c_UINT8)] h0 (fun v h L => v = some (.int (1 : Int32)) ∧ Fr n0 L ∧ h = h0) := by
  refine own_body own_pn_1 ?_
  intro p e s m below meth c s₁ hx hby hml hown hnm hret hlk X0 hZ e0
  replace hown : s.vm.findClass "com/example/bough/bough/BuiltInType" = some m.cls := hown
  have N0 := Fr.nil n0
  have K0 := Keep.refl h0 []
  refine own_st (fun _ k => castTop (own_ef_rm1_14 m c_UINT8) k) ?_
  show own_go _ _ _ _ _ _ _ (s₁.setTop (mkF m 0 #[.val (.ref c_UINT8)] []))
  refine own_st (fun _ k => XS.aloadN X0.here hx rfl (hb hby d1_0) rfl rfl k) ?_
  show own_go _ _ _ _ _ _ _ (s₁.setTop (mkF m 1 #[.val (.ref c_UINT8)] [(.ref c_UINT8)]))
  obtain ⟨T15, X15, e15, st15⟩ := getF X0 hx hZ hown (host := "") (Or.inl (hw _ (List.mem_of_getElem? (i := 48) rfl))) Via.refl e0 (hS.2.2.2.2.2.2.2.2.2.2.2.2.2.2.2.2.2.2.2.2.2.2.2.2.2.2.2.2.2.2.2.2.2.2.2.2.2.2.2.2.2.2.2.2.2.2.2.2.2.2.2.2.2.2.1.ext O0.2) (g := (mkF m 1 #[.val (.ref c_UINT8)] [(.ref c_UINT8)])) rfl rfl (hb hby d1_1)
  refine own_st st15 ?_
  show own_go _ _ _ _ _ _ _ (T15.setTop (mkF m 4 #[.val (.ref c_UINT8)] [(.ref o_c_UINT8_min)]))
  refine own_st (fun _ k => XS.ifnullNo X15.here hx rfl (hb hby d1_4) rfl k) ?_
  show own_go _ _ _ _ _ _ _ (T15.setTop (mkF m 7 #[.val (.ref c_UINT8)] []))
  refine own_st (fun _ k => XS.iconst X15.here hx rfl (hb hby d1_7) k) ?_
  show own_go _ _ _ _ _ _ _ (T15.setTop (mkF m 8 #[.val (.ref c_UINT8)] [(.int (1 : Int32))]))
  refine own_st (fun _ k => XS.goto X15.here hx rfl (pc0 := 8) (pc' := 12) rfl (hb hby d1_8) (by decide) (by decide) k) ?_
  show own_go _ _ _ _ _ _ _ (T15.setTop (mkF m 12 #[.val (.ref c_UINT8)] [(.int (1 : Int32))]))
  exact own_retN X15 hx hlk (t := .boolean) hret (by simp) rfl (hb hby d1_12) (by decide) (by decide) (⟨rfl, N0, e15⟩)
theorem own_ef_rm1_15 (m : MethodId) (c_UINT16 : Addr) : entryFrame m #[(.ref c_UINT16)] 1 = mkF m 0 #[.val (.ref c_UINT16)] [] := by first | (simp [entryFrame, mkF, argsToLocals, Value.category]; done) | rfl
set_option maxRecDepth 65536 in
set_option maxHeartbeats 40000000 in
theorem rm1_15 (l : Launch) (Z : State) (a0 : Array Value) (hw : ∀ d ∈ tables_1, d.before a0 Z = true) (c_BINARY c_BITS c_BOOLEAN c_DECIMAL64 c_EMPTY c_ENUMERATION c_IDENTITYREF c_INSTANCE_IDENTIFIER c_INT8 c_INT16 c_INT32 c_INT64 c_LEAFREF c_STRING c_UINT8 c_UINT16 c_UINT32 c_UINT64 c_UNION o_c_UINT16_min o_c_UINT64_min o_c_INT64_min o_c_INT32_min o_c_INT8_min o_c_UINT8_min o_c_UINT32_min o_c_INT16_min : Addr) (h0 : Heap) (n0 : Nat) (O0 : Old Z n0 h0) (hS : own_S Z c_BINARY c_BITS c_BOOLEAN c_DECIMAL64 c_EMPTY c_ENUMERATION c_IDENTITYREF c_INSTANCE_IDENTIFIER c_INT8 c_INT16 c_INT32 c_INT64 c_LEAFREF c_STRING c_UINT8 c_UINT16 c_UINT32 c_UINT64 c_UNION o_c_UINT16_min o_c_UINT64_min o_c_INT64_min o_c_INT32_min o_c_INT8_min o_c_UINT8_min o_c_UINT32_min o_c_INT16_min) :
    own_Met l Z (⟨"com/example/bough/bough/BuiltInType", "isInteger", "()Z"⟩ : MethodName) prog_5_method_10_code 1 (some .boolean) [] ({ frames := 0, cells := 0, slots := 0, locals := 0 } : Room) #[(.ref c_UINT16)] h0 (fun v h L => v = some (.int (1 : Int32)) ∧ Fr n0 L ∧ h = h0) := by
  refine own_body own_pn_1 ?_
  intro p e s m below meth c s₁ hx hby hml hown hnm hret hlk X0 hZ e0
  replace hown : s.vm.findClass "com/example/bough/bough/BuiltInType" = some m.cls := hown
  have N0 := Fr.nil n0
  have K0 := Keep.refl h0 []
  refine own_st (fun _ k => castTop (own_ef_rm1_15 m c_UINT16) k) ?_
  show own_go _ _ _ _ _ _ _ (s₁.setTop (mkF m 0 #[.val (.ref c_UINT16)] []))
  refine own_st (fun _ k => XS.aloadN X0.here hx rfl (hb hby d1_0) rfl rfl k) ?_
  show own_go _ _ _ _ _ _ _ (s₁.setTop (mkF m 1 #[.val (.ref c_UINT16)] [(.ref c_UINT16)]))
  obtain ⟨T16, X16, e16, st16⟩ := getF X0 hx hZ hown (host := "") (Or.inl (hw _ (List.mem_of_getElem? (i := 48) rfl))) Via.refl e0 (hS.2.2.2.2.2.2.2.2.2.2.2.2.2.2.2.2.2.2.2.2.2.2.2.2.2.2.2.2.2.2.2.2.2.2.2.2.2.2.2.2.1.ext O0.2) (g := (mkF m 1 #[.val (.ref c_UINT16)] [(.ref c_UINT16)])) rfl rfl (hb hby d1_1)
  refine own_st st16 ?_
  show own_go _ _ _ _ _ _ _ (T16.setTop (mkF m 4 #[.val (.ref c_UINT16)] [(.ref o_c_UINT16_min)]))
  refine own_st (fun _ k => XS.ifnullNo X16.here hx rfl (hb hby d1_4) rfl k) ?_
  show own_go _ _ _ _ _ _ _ (T16.setTop (mkF m 7 #[.val (.ref c_UINT16)] []))
  refine own_st (fun _ k => XS.iconst X16.here hx rfl (hb hby d1_7) k) ?_
  show own_go _ _ _ _ _ _ _ (T16.setTop (mkF m 8 #[.val (.ref c_UINT16)] [(.int (1 : Int32))]))
  refine own_st (fun _ k => XS.goto X16.here hx rfl (pc0 := 8) (pc' := 12) rfl (hb hby d1_8) (by decide) (by decide) k) ?_
  show own_go _ _ _ _ _ _ _ (T16.setTop (mkF m 12 #[.val (.ref c_UINT16)] [(.int (1 : Int32))]))
  exact own_retN X16 hx hlk (t := .boolean) hret (by simp) rfl (hb hby d1_12) (by decide) (by decide) (⟨rfl, N0, e16⟩)
theorem own_ef_rm1_16 (m : MethodId) (c_UINT32 : Addr) : entryFrame m #[(.ref c_UINT32)] 1 = mkF m 0 #[.val (.ref c_UINT32)] [] := by first | (simp [entryFrame, mkF, argsToLocals, Value.category]; done) | rfl
set_option maxRecDepth 65536 in
set_option maxHeartbeats 40000000 in
theorem rm1_16 (l : Launch) (Z : State) (a0 : Array Value) (hw : ∀ d ∈ tables_1, d.before a0 Z = true) (c_BINARY c_BITS c_BOOLEAN c_DECIMAL64 c_EMPTY c_ENUMERATION c_IDENTITYREF c_INSTANCE_IDENTIFIER c_INT8 c_INT16 c_INT32 c_INT64 c_LEAFREF c_STRING c_UINT8 c_UINT16 c_UINT32 c_UINT64 c_UNION o_c_UINT16_min o_c_UINT64_min o_c_INT64_min o_c_INT32_min o_c_INT8_min o_c_UINT8_min o_c_UINT32_min o_c_INT16_min : Addr) (h0 : Heap) (n0 : Nat) (O0 : Old Z n0 h0) (hS : own_S Z c_BINARY c_BITS c_BOOLEAN c_DECIMAL64 c_EMPTY c_ENUMERATION c_IDENTITYREF c_INSTANCE_IDENTIFIER c_INT8 c_INT16 c_INT32 c_INT64 c_LEAFREF c_STRING c_UINT8 c_UINT16 c_UINT32 c_UINT64 c_UNION o_c_UINT16_min o_c_UINT64_min o_c_INT64_min o_c_INT32_min o_c_INT8_min o_c_UINT8_min o_c_UINT32_min o_c_INT16_min) :
    own_Met l Z (⟨"com/example/bough/bough/BuiltInType", "isInteger", "()Z"⟩ : MethodName) prog_5_method_10_code 1 (some .boolean) [] ({ frames := 0, cells := 0, slots := 0, locals := 0 } : Room) #[(.ref c_UINT32)] h0 (fun v h L => v = some (.int (1 : Int32)) ∧ Fr n0 L ∧ h = h0) := by
  refine own_body own_pn_1 ?_
  intro p e s m below meth c s₁ hx hby hml hown hnm hret hlk X0 hZ e0
  replace hown : s.vm.findClass "com/example/bough/bough/BuiltInType" = some m.cls := hown
  have N0 := Fr.nil n0
  have K0 := Keep.refl h0 []
  refine own_st (fun _ k => castTop (own_ef_rm1_16 m c_UINT32) k) ?_
  show own_go _ _ _ _ _ _ _ (s₁.setTop (mkF m 0 #[.val (.ref c_UINT32)] []))
  refine own_st (fun _ k => XS.aloadN X0.here hx rfl (hb hby d1_0) rfl rfl k) ?_
  show own_go _ _ _ _ _ _ _ (s₁.setTop (mkF m 1 #[.val (.ref c_UINT32)] [(.ref c_UINT32)]))
  obtain ⟨T17, X17, e17, st17⟩ := getF X0 hx hZ hown (host := "") (Or.inl (hw _ (List.mem_of_getElem? (i := 48) rfl))) Via.refl e0 (hS.2.2.2.2.2.2.2.2.2.2.2.2.2.2.2.2.2.2.2.2.2.2.2.2.2.2.2.2.2.2.2.2.2.2.2.2.2.2.2.2.2.2.2.2.2.2.2.2.2.2.2.2.2.2.2.2.2.2.1.ext O0.2) (g := (mkF m 1 #[.val (.ref c_UINT32)] [(.ref c_UINT32)])) rfl rfl (hb hby d1_1)
  refine own_st st17 ?_
  show own_go _ _ _ _ _ _ _ (T17.setTop (mkF m 4 #[.val (.ref c_UINT32)] [(.ref o_c_UINT32_min)]))
  refine own_st (fun _ k => XS.ifnullNo X17.here hx rfl (hb hby d1_4) rfl k) ?_
  show own_go _ _ _ _ _ _ _ (T17.setTop (mkF m 7 #[.val (.ref c_UINT32)] []))
  refine own_st (fun _ k => XS.iconst X17.here hx rfl (hb hby d1_7) k) ?_
  show own_go _ _ _ _ _ _ _ (T17.setTop (mkF m 8 #[.val (.ref c_UINT32)] [(.int (1 : Int32))]))
  refine own_st (fun _ k => XS.goto X17.here hx rfl (pc0 := 8) (pc' := 12) rfl (hb hby d1_8) (by decide) (by decide) k) ?_
  show own_go _ _ _ _ _ _ _ (T17.setTop (mkF m 12 #[.val (.ref c_UINT32)] [(.int (1 : Int32))]))
  exact own_retN X17 hx hlk (t := .boolean) hret (by simp) rfl (hb hby d1_12) (by decide) (by decide) (⟨rfl, N0, e17⟩)
theorem own_ef_rm1_17 (m : MethodId) (c_UINT64 : Addr) : entryFrame m #[(.ref c_UINT64)] 1 = mkF m 0 #[.val (.ref c_UINT64)] [] := by first | (simp [entryFrame, mkF, argsToLocals, Value.category]; done) | rfl
set_option maxRecDepth 65536 in
set_option maxHeartbeats 40000000 in
theorem rm1_17 (l : Launch) (Z : State) (a0 : Array Value) (hw : ∀ d ∈ tables_1, d.before a0 Z = true) (c_BINARY c_BITS c_BOOLEAN c_DECIMAL64 c_EMPTY c_ENUMERATION c_IDENTITYREF c_INSTANCE_IDENTIFIER c_INT8 c_INT16 c_INT32 c_INT64 c_LEAFREF c_STRING c_UINT8 c_UINT16 c_UINT32 c_UINT64 c_UNION o_c_UINT16_min o_c_UINT64_min o_c_INT64_min o_c_INT32_min o_c_INT8_min o_c_UINT8_min o_c_UINT32_min o_c_INT16_min : Addr) (h0 : Heap) (n0 : Nat) (O0 : Old Z n0 h0) (hS : own_S Z c_BINARY c_BITS c_BOOLEAN c_DECIMAL64 c_EMPTY c_ENUMERATION c_IDENTITYREF c_INSTANCE_IDENTIFIER c_INT8 c_INT16 c_INT32 c_INT64 c_LEAFREF c_STRING c_UINT8 c_UINT16 c_UINT32 c_UINT64 c_UNION o_c_UINT16_min o_c_UINT64_min o_c_INT64_min o_c_INT32_min o_c_INT8_min o_c_UINT8_min o_c_UINT32_min o_c_INT16_min) :
    own_Met l Z (⟨"com/example/bough/bough/BuiltInType", "isInteger", "()Z"⟩ : MethodName) prog_5_method_10_code 1 (some .boolean) [] ({ frames := 0, cells := 0, slots := 0, locals := 0 } : Room) #[(.ref c_UINT64)] h0 (fun v h L => v = some (.int (1 : Int32)) ∧ Fr n0 L ∧ h = h0) := by
  refine own_body own_pn_1 ?_
  intro p e s m below meth c s₁ hx hby hml hown hnm hret hlk X0 hZ e0
  replace hown : s.vm.findClass "com/example/bough/bough/BuiltInType" = some m.cls := hown
  have N0 := Fr.nil n0
  have K0 := Keep.refl h0 []
  refine own_st (fun _ k => castTop (own_ef_rm1_17 m c_UINT64) k) ?_
  show own_go _ _ _ _ _ _ _ (s₁.setTop (mkF m 0 #[.val (.ref c_UINT64)] []))
  refine own_st (fun _ k => XS.aloadN X0.here hx rfl (hb hby d1_0) rfl rfl k) ?_
  show own_go _ _ _ _ _ _ _ (s₁.setTop (mkF m 1 #[.val (.ref c_UINT64)] [(.ref c_UINT64)]))
  obtain ⟨T18, X18, e18, st18⟩ := getF X0 hx hZ hown (host := "") (Or.inl (hw _ (List.mem_of_getElem? (i := 48) rfl))) Via.refl e0 (hS.2.2.2.2.2.2.2.2.2.2.2.2.2.2.2.2.2.2.2.2.2.2.2.2.2.2.2.2.2.2.2.2.2.2.2.2.2.2.2.2.2.2.2.1.ext O0.2) (g := (mkF m 1 #[.val (.ref c_UINT64)] [(.ref c_UINT64)])) rfl rfl (hb hby d1_1)
  refine own_st st18 ?_
  show own_go _ _ _ _ _ _ _ (T18.setTop (mkF m 4 #[.val (.ref c_UINT64)] [(.ref o_c_UINT64_min)]))
  refine own_st (fun _ k => XS.ifnullNo X18.here hx rfl (hb hby d1_4) rfl k) ?_
  show own_go _ _ _ _ _ _ _ (T18.setTop (mkF m 7 #[.val (.ref c_UINT64)] []))
  refine own_st (fun _ k => XS.iconst X18.here hx rfl (hb hby d1_7) k) ?_
  show own_go _ _ _ _ _ _ _ (T18.setTop (mkF m 8 #[.val (.ref c_UINT64)] [(.int (1 : Int32))]))
  refine own_st (fun _ k => XS.goto X18.here hx rfl (pc0 := 8) (pc' := 12) rfl (hb hby d1_8) (by decide) (by decide) k) ?_
  show own_go _ _ _ _ _ _ _ (T18.setTop (mkF m 12 #[.val (.ref c_UINT64)] [(.int (1 : Int32))]))
  exact own_retN X18 hx hlk (t := .boolean) hret (by simp) rfl (hb hby d1_12) (by decide) (by decide) (⟨rfl, N0, e18⟩)
theorem own_ef_rm1_18 (m : MethodId) (c_UNION : Addr) : entryFrame m #[(.ref c_UNION)] 1 = mkF m 0 #[.val (.ref c_UNION)] [] := by first | (simp [entryFrame, mkF, argsToLocals, Value.category]; done) | rfl
set_option maxRecDepth 65536 in
set_option maxHeartbeats 40000000 in
theorem rm1_18 (l : Launch) (Z : State) (a0 : Array Value) (hw : ∀ d ∈ tables_1, d.before a0 Z = true) (c_BINARY c_BITS c_BOOLEAN c_DECIMAL64 c_EMPTY c_ENUMERATION c_IDENTITYREF c_INSTANCE_IDENTIFIER c_INT8 c_INT16 c_INT32 c_INT64 c_LEAFREF c_STRING c_UINT8 c_UINT16 c_UINT32 c_UINT64 c_UNION o_c_UINT16_min o_c_UINT64_min o_c_INT64_min o_c_INT32_min o_c_INT8_min o_c_UINT8_min o_c_UINT32_min o_c_INT16_min : Addr) (h0 : Heap) (n0 : Nat) (O0 : Old Z n0 h0) (hS : own_S Z c_BINARY c_BITS c_BOOLEAN c_DECIMAL64 c_EMPTY c_ENUMERATION c_IDENTITYREF c_INSTANCE_IDENTIFIER c_INT8 c_INT16 c_INT32 c_INT64 c_LEAFREF c_STRING c_UINT8 c_UINT16 c_UINT32 c_UINT64 c_UNION o_c_UINT16_min o_c_UINT64_min o_c_INT64_min o_c_INT32_min o_c_INT8_min o_c_UINT8_min o_c_UINT32_min o_c_INT16_min) :
    own_Met l Z (⟨"com/example/bough/bough/BuiltInType", "isInteger", "()Z"⟩ : MethodName) prog_5_method_10_code 1 (some .boolean) [] ({ frames := 0, cells := 0, slots := 0, locals := 0 } : Room) #[(.ref c_UNION)] h0 (fun v h L => v = some (.int (0 : Int32)) ∧ Fr n0 L ∧ h = h0) := by
  refine own_body own_pn_1 ?_
  intro p e s m below meth c s₁ hx hby hml hown hnm hret hlk X0 hZ e0
  replace hown : s.vm.findClass "com/example/bough/bough/BuiltInType" = some m.cls := hown
  have N0 := Fr.nil n0
  have K0 := Keep.refl h0 []
  refine own_st (fun _ k => castTop (own_ef_rm1_18 m c_UNION) k) ?_
  show own_go _ _ _ _ _ _ _ (s₁.setTop (mkF m 0 #[.val (.ref c_UNION)] []))
  refine own_st (fun _ k => XS.aloadN X0.here hx rfl (hb hby d1_0) rfl rfl k) ?_
  show own_go _ _ _ _ _ _ _ (s₁.setTop (mkF m 1 #[.val (.ref c_UNION)] [(.ref c_UNION)]))
  obtain ⟨T19, X19, e19, st19⟩ := getF X0 hx hZ hown (host := "") (Or.inl (hw _ (List.mem_of_getElem? (i := 48) rfl))) Via.refl e0 (hS.2.2.2.2.2.2.2.2.2.2.2.2.2.2.2.2.2.2.2.2.2.2.2.2.2.2.2.2.2.2.2.2.2.2.2.2.2.2.2.2.2.2.2.2.2.2.2.2.2.2.2.2.2.2.2.2.1.ext O0.2) (g := (mkF m 1 #[.val (.ref c_UNION)] [(.ref c_UNION)])) rfl rfl (hb hby d1_1)
  refine own_st st19 ?_
  show own_go _ _ _ _ _ _ _ (T19.setTop (mkF m 4 #[.val (.ref c_UNION)] [.null]))
  refine own_st (fun _ k => XS.ifnullYes X19.here hx rfl (pc0 := 4) (pc' := 11) rfl (hb hby d1_4) rfl (by decide) (by decide) k) ?_
  show own_go _ _ _ _ _ _ _ (T19.setTop (mkF m 11 #[.val (.ref c_UNION)] []))
  refine own_st (fun _ k => XS.iconst X19.here hx rfl (hb hby d1_11) k) ?_
  show own_go _ _ _ _ _ _ _ (T19.setTop (mkF m 12 #[.val (.ref c_UNION)] [(.int (0 : Int32))]))
  exact own_retN X19 hx hlk (t := .boolean) hret (by simp) rfl (hb hby d1_12) (by decide) (by decide) (⟨rfl, N0, e19⟩)
theorem own_pn_0 : plainFor x = true := plainFor_of_name (show plainName "com/example/bough/bough/BuiltInTypeIsIntegerPinLaw" = true by first | (simp [plainName, overriddenIn]; done) | decide +kernel)
theorem own_pd__28_29Z : parseMethodDescriptor "()Z" = some ⟨[], some .boolean⟩ := by decide +kernel
theorem own_ef_rm0 (m : MethodId) (p0 : Int32) : entryFrame m #[(.int p0)] maxLocals = mkF m 0 #[.val (.int p0), .unset, .unset, .unset] [] := by first | (simp [entryFrame, mkF, argsToLocals, Value.category, maxLocals]; done) | rfl
set_option maxRecDepth 65536 in
set_option maxHeartbeats 40000000 in
theorem rm0 (l : Launch) (Z : State) (a0 : Array Value) (hw : ∀ d ∈ tables_1, d.before a0 Z = true) (ws : List Jvm.Cond) (p0 : Int32) (c_BINARY c_BITS c_BOOLEAN c_DECIMAL64 c_EMPTY c_ENUMERATION c_IDENTITYREF c_INSTANCE_IDENTIFIER c_INT8 c_INT16 c_INT32 c_INT64 c_LEAFREF c_STRING c_UINT8 c_UINT16 c_UINT32 c_UINT64 c_UNION o_c_UINT16_min o_c_UINT64_min o_c_INT64_min o_c_INT32_min o_c_INT8_min o_c_UINT8_min o_c_UINT32_min o_c_INT16_min : Addr) (h0 : Heap) (n0 : Nat) (O0 : Old Z n0 h0) (hS : own_S Z c_BINARY c_BITS c_BOOLEAN c_DECIMAL64 c_EMPTY c_ENUMERATION c_IDENTITYREF c_INSTANCE_IDENTIFIER c_INT8 c_INT16 c_INT32 c_INT64 c_LEAFREF c_STRING c_UINT8 c_UINT16 c_UINT32 c_UINT64 c_UNION o_c_UINT16_min o_c_UINT64_min o_c_INT64_min o_c_INT32_min o_c_INT8_min o_c_UINT8_min o_c_UINT32_min o_c_INT16_min) :
    own_Met l Z x code maxLocals ret ws room_1 #[(.int p0)] h0 (fun v h L => v = some (.int 1) ∧ Fr n0 L) := by
  refine own_body own_pn_0 ?_
  intro p e s m below meth c s₁ hx hby hml hown hnm hret hlk X0 hZ e0
  replace hown : s.vm.findClass "com/example/bough/bough/BuiltInTypeIsIntegerPinLaw" = some m.cls := hown
  have N0 := Fr.nil n0
  have K0 := Keep.refl h0 []
  refine own_st (fun _ k => castTop (own_ef_rm0 m p0) k) ?_
  show own_go _ _ _ _ _ _ _ (s₁.setTop (mkF m 0 #[.val (.int p0), .unset, .unset, .unset] []))
  refine own_st (fun _ k => XS.bipush X0.here hx rfl (hb hby at_0) k) ?_
  show own_go _ _ _ _ _ _ _ (s₁.setTop (mkF m 2 #[.val (.int p0), .unset, .unset, .unset] [(.int (19 : Int32))]))
  obtain ⟨T20, h20, k20, b20, X20, e20, g20, E20, V20, Ov20, st20⟩ := own_arr X0 hx hZ hown (hw _ (List.mem_of_getElem? (i := 0) rfl)) (hw _ (List.mem_of_getElem? (i := 1) rfl)) e0 (g := (mkF m 2 #[.val (.int p0), .unset, .unset, .unset] [(.int (19 : Int32))])) rfl (hb hby at_2) rfl (by decide) (cap := 19) (by decide) (by decide) (by decide) (by decide)
  have ge_b20 : n0 ≤ b20 := by rw [g20]; exact own_osz O0
  have sz_b20 : h0.size ≤ b20 := by rw [g20]; exact K0.1
  have O20 := O0.ext E20
  have K20 := K0.ext E20
  refine own_st st20 ?_
  show own_go _ _ _ _ _ _ _ (T20.setTop (mkF m 5 #[.val (.int p0), .unset, .unset, .unset] [(.ref b20)]))
  refine own_st (fun _ k => XS.dup X20.here hx rfl (hb hby at_5) rfl rfl k) ?_
  show own_go _ _ _ _ _ _ _ (T20.setTop (mkF m 6 #[.val (.int p0), .unset, .unset, .unset] [(.ref b20), (.ref b20)]))
  refine own_st (fun _ k => XS.iconst X20.here hx rfl (hb hby at_6) k) ?_
  show own_go _ _ _ _ _ _ _ (T20.setTop (mkF m 7 #[.val (.int p0), .unset, .unset, .unset] [(.int (0 : Int32)), (.ref b20), (.ref b20)]))
  obtain ⟨T21, X21, e21, st21⟩ := getS2 X20 hx hZ hown (host := "") (Or.inl (hw _ (List.mem_of_getElem? (i := 2) rfl))) Via.refl e20 (hS.1.ext O20.2) (g := (mkF m 7 #[.val (.int p0), .unset, .unset, .unset] [(.int (0 : Int32)), (.ref b20), (.ref b20)])) rfl (hb hby at_7)
  refine own_st st21 ?_
  show own_go _ _ _ _ _ _ _ (T21.setTop (mkF m 10 #[.val (.int p0), .unset, .unset, .unset] [(.ref c_BINARY), (.int (0 : Int32)), (.ref b20), (.ref b20)]))
  obtain ⟨T22, h22, X22, e22, W22, V22, st22⟩ := own_put X21 hx hZ e21 V20 Ov20 (Ins.self (hS.2.1.ext O20.2)) (j := (0 : Int32)) (by decide) 0 (by decide) (by show 0 < 19; decide) (g := (mkF m 10 #[.val (.int p0), .unset, .unset, .unset] [(.ref c_BINARY), (.int (0 : Int32)), (.ref b20), (.ref b20)])) rfl rfl (hb hby at_10)
  have N22 := Fr.snoc X22 N0 ge_b20
  replace V22 : Arv Z h22 b20 k20 (.object "com/example/bough/bough/BuiltInType") (19 : Int32) [(.ref c_BINARY), .null, .null, .null, .null, .null, .null, .null, .null, .null, .null, .null, .null, .null, .null, .null, .null, .null, .null] .null := V22
  have O23 := O20.wr W22 ge_b20
  have K23 := K20.wr W22 (Or.inr sz_b20)
  refine own_st st22 ?_
  show own_go _ _ _ _ _ _ _ (T22.setTop (mkF m 11 #[.val (.int p0), .unset, .unset, .unset] [(.ref b20)]))
  refine own_st (fun _ k => XS.dup X22.here hx rfl (hb hby at_11) rfl rfl k) ?_
  show own_go _ _ _ _ _ _ _ (T22.setTop (mkF m 12 #[.val (.int p0), .unset, .unset, .unset] [(.ref b20), (.ref b20)]))
  refine own_st (fun _ k => XS.iconst X22.here hx rfl (hb hby at_12) k) ?_
  show own_go _ _ _ _ _ _ _ (T22.setTop (mkF m 13 #[.val (.int p0), .unset, .unset, .unset] [(.int (1 : Int32)), (.ref b20), (.ref b20)]))
  obtain ⟨T24, X24, e24, st24⟩ := getS2 X22 hx hZ hown (host := "") (Or.inl (hw _ (List.mem_of_getElem? (i := 6) rfl))) Via.refl e22 (hS.2.2.1.ext O23.2) (g := (mkF m 13 #[.val (.int p0), .unset, .unset, .unset] [(.int (1 : Int32)), (.ref b20), (.ref b20)])) rfl (hb hby at_13)
  refine own_st st24 ?_
  show own_go _ _ _ _ _ _ _ (T24.setTop (mkF m 16 #[.val (.int p0), .unset, .unset, .unset] [(.ref c_BITS), (.int (1 : Int32)), (.ref b20), (.ref b20)]))
  obtain ⟨T25, h25, X25, e25, W25, V25, st25⟩ := own_put X24 hx hZ e24 V22 Ov20 (Ins.self (hS.2.2.2.1.ext O23.2)) (j := (1 : Int32)) (by decide) 1 (by decide) (by show 1 < 19; decide) (g := (mkF m 16 #[.val (.int p0), .unset, .unset, .unset] [(.ref c_BITS), (.int (1 : Int32)), (.ref b20), (.ref b20)])) rfl rfl (hb hby at_16)
  have N25 := Fr.snoc X25 N22 ge_b20
  replace V25 : Arv Z h25 b20 k20 (.object "com/example/bough/bough/BuiltInType") (19 : Int32) [(.ref c_BINARY), (.ref c_BITS), .null, .null, .null, .null, .null, .null, .null, .null, .null, .null, .null, .null, .null, .null, .null, .null, .null] .null := V25
  have O26 := O23.wr W25 ge_b20
  have K26 := K23.wr W25 (Or.inr sz_b20)
  refine own_st st25 ?_
  show own_go _ _ _ _ _ _ _ (T25.setTop (mkF m 17 #[.val (.int p0), .unset, .unset, .unset] [(.ref b20)]))
  refine own_st (fun _ k => XS.dup X25.here hx rfl (hb hby at_17) rfl rfl k) ?_
  show own_go _ _ _ _ _ _ _ (T25.setTop (mkF m 18 #[.val (.int p0), .unset, .unset, .unset] [(.ref b20), (.ref b20)]))
  refine own_st (fun _ k => XS.iconst X25.here hx rfl (hb hby at_18) k) ?_
  show own_go _ _ _ _ _ _ _ (T25.setTop (mkF m 19 #[.val (.int p0), .unset, .unset, .unset] [(.int (2 : Int32)), (.ref b20), (.ref b20)]))
  obtain ⟨T27, X27, e27, st27⟩ := getS2 X25 hx hZ hown (host := "") (Or.inl (hw _ (List.mem_of_getElem? (i := 8) rfl))) Via.refl e25 (hS.2.2.2.2.1.ext O26.2) (g := (mkF m 19 #[.val (.int p0), .unset, .unset, .unset] [(.int (2 : Int32)), (.ref b20), (.ref b20)])) rfl (hb hby at_19)
  refine own_st st27 ?_
  show own_go _ _ _ _ _ _ _ (T27.setTop (mkF m 22 #[.val (.int p0), .unset, .unset, .unset] [(.ref c_BOOLEAN), (.int (2 : Int32)), (.ref b20), (.ref b20)]))
  obtain ⟨T28, h28, X28, e28, W28, V28, st28⟩ := own_put X27 hx hZ e27 V25 Ov20 (Ins.self (hS.2.2.2.2.2.1.ext O26.2)) (j := (2 : Int32)) (by decide) 2 (by decide) (by show 2 < 19; decide) (g := (mkF m 22 #[.val (.int p0), .unset, .unset, .unset] [(.ref c_BOOLEAN), (.int (2 : Int32)), (.ref b20), (.ref b20)])) rfl rfl (hb hby at_22)
  have N28 := Fr.snoc X28 N25 ge_b20
  replace V28 : Arv Z h28 b20 k20 (.object "com/example/bough/bough/BuiltInType") (19 : Int32) [(.ref c_BINARY), (.ref c_BITS), (.ref c_BOOLEAN), .null, .null, .null, .null, .null, .null, .null, .null, .null, .null, .null, .null, .null, .null, .null, .null] .null := V28
  have O29 := O26.wr W28 ge_b20
  have K29 := K26.wr W28 (Or.inr sz_b20)
  refine own_st st28 ?_
  show own_go _ _ _ _ _ _ _ (T28.setTop (mkF m 23 #[.val (.int p0), .unset, .unset, .unset] [(.ref b20)]))
  refine own_st (fun _ k => XS.dup X28.here hx rfl (hb hby at_23) rfl rfl k) ?_
  show own_go _ _ _ _ _ _ _ (T28.setTop (mkF m 24 #[.val (.int p0), .unset, .unset, .unset] [(.ref b20), (.ref b20)]))
  refine own_st (fun _ k => XS.iconst X28.here hx rfl (hb hby at_24) k) ?_
  show own_go _ _ _ _ _ _ _ (T28.setTop (mkF m 25 #[.val (.int p0), .unset, .unset, .unset] [(.int (3 : Int32)), (.ref b20), (.ref b20)]))
  obtain ⟨T30, X30, e30, st30⟩ := getS2 X28 hx hZ hown (host := "") (Or.inl (hw _ (List.mem_of_getElem? (i := 10) rfl))) Via.refl e28 (hS.2.2.2.2.2.2.1.ext O29.2) (g := (mkF m 25 #[.val (.int p0), .unset, .unset, .unset] [(.int (3 : Int32)), (.ref b20), (.ref b20)])) rfl (hb hby at_25)
  refine own_st st30 ?_
  show own_go _ _ _ _ _ _ _ (T30.setTop (mkF m 28 #[.val (.int p0), .unset, .unset, .unset] [(.ref c_DECIMAL64), (.int (3 : Int32)), (.ref b20), (.ref b20)]))
  obtain ⟨T31, h31, X31, e31, W31, V31, st31⟩ := own_put X30 hx hZ e30 V28 Ov20 (Ins.self (hS.2.2.2.2.2.2.2.1.ext O29.2)) (j := (3 : Int32)) (by decide) 3 (by decide) (by show 3 < 19; decide) (g := (mkF m 28 #[.val (.int p0), .unset, .unset, .unset] [(.ref c_DECIMAL64), (.int (3 : Int32)), (.ref b20), (.ref b20)])) rfl rfl (hb hby at_28)
  have N31 := Fr.snoc X31 N28 ge_b20
  replace V31 : Arv Z h31 b20 k20 (.object "com/example/bough/bough/BuiltInType") (19 : Int32) [(.ref c_BINARY), (.ref c_BITS), (.ref c_BOOLEAN), (.ref c_DECIMAL64), .null, .null, .null, .null, .null, .null, .null, .null, .null, .null, .null, .null, .null, .null, .null] .null := V31
  have O32 := O29.wr W31 ge_b20
  have K32 := K29.wr W31 (Or.inr sz_b20)
  refine own_st st31 ?_
  show own_go _ _ _ _ _ _ _ (T31.setTop (mkF m 29 #[.val (.int p0), .unset, .unset, .unset] [(.ref b20)]))
  refine own_st (fun _ k => XS.dup X31.here hx rfl (hb hby at_29) rfl rfl k) ?_
  show own_go _ _ _ _ _ _ _ (T31.setTop (mkF m 30 #[.val (.int p0), .unset, .unset, .unset] [(.ref b20), (.ref b20)]))
  refine own_st (fun _ k => XS.iconst X31.here hx rfl (hb hby at_30) k) ?_
  show own_go _ _ _ _ _ _ _ (T31.setTop (mkF m 31 #[.val (.int p0), .unset, .unset, .unset] [(.int (4 : Int32)), (.ref b20), (.ref b20)]))
  obtain ⟨T33, X33, e33, st33⟩ := getS2 X31 hx hZ hown (host := "") (Or.inl (hw _ (List.mem_of_getElem? (i := 12) rfl))) Via.refl e31 (hS.2.2.2.2.2.2.2.2.1.ext O32.2) (g := (mkF m 31 #[.val (.int p0), .unset, .unset, .unset] [(.int (4 : Int32)), (.ref b20), (.ref b20)])) rfl (hb hby at_31)
  refine own_st st33 ?_
  show own_go _ _ _ _ _ _ _ (T33.setTop (mkF m 34 #[.val (.int p0), .unset, .unset, .unset] [(.ref c_EMPTY), (.int (4 : Int32)), (.ref b20), (.ref b20)]))
  obtain ⟨T34, h34, X34, e34, W34, V34, st34⟩ := own_put X33 hx hZ e33 V31 Ov20 (Ins.self (hS.2.2.2.2.2.2.2.2.2.1.ext O32.2)) (j := (4 : Int32)) (by decide) 4 (by decide) (by show 4 < 19; decide) (g := (mkF m 34 #[.val (.int p0), .unset, .unset, .unset] [(.ref c_EMPTY), (.int (4 : Int32)), (.ref b20), (.ref b20)])) rfl rfl (hb hby at_34)
  have N34 := Fr.snoc X34 N31 ge_b20
  replace V34 : Arv Z h34 b20 k20 (.object "com/example/bough/bough/BuiltInType") (19 : Int32) [(.ref c_BINARY), (.ref c_BITS), (.ref c_BOOLEAN), (.ref c_DECIMAL64), (.ref c_EMPTY), .null, .null, .null, .null, .null, .null, .null, .null, .null, .null, .null, .null, .null, .null] .null := V34
  have O35 := O32.wr W34 ge_b20
  have K35 := K32.wr W34 (Or.inr sz_b20)
  refine own_st st34 ?_
  show own_go _ _ _ _ _ _ _ (T34.setTop (mkF m 35 #[.val (.int p0), .unset, .unset, .unset] [(.ref b20)]))
  refine own_st (fun _ k => XS.dup X34.here hx rfl (hb hby at_35) rfl rfl k) ?_
  show own_go _ _ _ _ _ _ _ (T34.setTop (mkF m 36 #[.val (.int p0), .unset, .unset, .unset] [(.ref b20), (.ref b20)]))
  refine own_st (fun _ k => XS.iconst X34.here hx rfl (hb hby at_36) k) ?_
  show own_go _ _ _ _ _ _ _ (T34.setTop (mkF m 37 #[.val (.int p0), .unset, .unset, .unset] [(.int (5 : Int32)), (.ref b20), (.ref b20)]))
  obtain ⟨T36, X36, e36, st36⟩ := getS2 X34 hx hZ hown (host := "") (Or.inl (hw _ (List.mem_of_getElem? (i := 14) rfl))) Via.refl e34 (hS.2.2.2.2.2.2.2.2.2.2.1.ext O35.2) (g := (mkF m 37 #[.val (.int p0), .unset, .unset, .unset] [(.int (5 : Int32)), (.ref b20), (.ref b20)])) rfl (hb hby at_37)
  refine own_st st36 ?_
  show own_go _ _ _ _ _ _ _ (T36.setTop (mkF m 40 #[.val (.int p0), .unset, .unset, .unset] [(.ref c_ENUMERATION), (.int (5 : Int32)), (.ref b20), (.ref b20)]))
  obtain ⟨T37, h37, X37, e37, W37, V37, st37⟩ := own_put X36 hx hZ e36 V34 Ov20 (Ins.self (hS.2.2.2.2.2.2.2.2.2.2.2.1.ext O35.2)) (j := (5 : Int32)) (by decide) 5 (by decide) (by show 5 < 19; decide) (g := (mkF m 40 #[.val (.int p0), .unset, .unset, .unset] [(.ref c_ENUMERATION), (.int (5 : Int32)), (.ref b20), (.ref b20)])) rfl rfl (hb hby at_40)
  have N37 := Fr.snoc X37 N34 ge_b20
  replace V37 : Arv Z h37 b20 k20 (.object "com/example/bough/bough/BuiltInType") (19 : Int32) [(.ref c_BINARY), (.ref c_BITS), (.ref c_BOOLEAN), (.ref c_DECIMAL64), (.ref c_EMPTY), (.ref c_ENUMERATION), .null, .null, .null, .null, .null, .null, .null, .null, .null, .null, .null, .null, .null] .null := V37
  have O38 := O35.wr W37 ge_b20
  have K38 := K35.wr W37 (Or.inr sz_b20)
  refine own_st st37 ?_
  show own_go _ _ _ _ _ _ _ (T37.setTop (mkF m 41 #[.val (.int p0), .unset, .unset, .unset] [(.ref b20)]))
  refine own_st (fun _ k => XS.dup X37.here hx rfl (hb hby at_41) rfl rfl k) ?_
  show own_go _ _ _ _ _ _ _ (T37.setTop (mkF m 42 #[.val (.int p0), .unset, .unset, .unset] [(.ref b20), (.ref b20)]))
  refine own_st (fun _ k => XS.bipush X37.here hx rfl (hb hby at_42) k) ?_
  show own_go _ _ _ _ _ _ _ (T37.setTop (mkF m 44 #[.val (.int p0), .unset, .unset, .unset] [(.int (6 : Int32)), (.ref b20), (.ref b20)]))
  obtain ⟨T39, X39, e39, st39⟩ := getS2 X37 hx hZ hown (host := "") (Or.inl (hw _ (List.mem_of_getElem? (i := 16) rfl))) Via.refl e37 (hS.2.2.2.2.2.2.2.2.2.2.2.2.1.ext O38.2) (g := (mkF m 44 #[.val (.int p0), .unset, .unset, .unset] [(.int (6 : Int32)), (.ref b20), (.ref b20)])) rfl (hb hby at_44)
  refine own_st st39 ?_
  show own_go _ _ _ _ _ _ _ (T39.setTop (mkF m 47 #[.val (.int p0), .unset, .unset, .unset] [(.ref c_IDENTITYREF), (.int (6 : Int32)), (.ref b20), (.ref b20)]))
  obtain ⟨T40, h40, X40, e40, W40, V40, st40⟩ := own_put X39 hx hZ e39 V37 Ov20 (Ins.self (hS.2.2.2.2.2.2.2.2.2.2.2.2.2.1.ext O38.2)) (j := (6 : Int32)) (by decide) 6 (by decide) (by show 6 < 19; decide) (g := (mkF m 47 #[.val (.int p0), .unset, .unset, .unset] [(.ref c_IDENTITYREF), (.int (6 : Int32)), (.ref b20), (.ref b20)])) rfl rfl (hb hby at_47)
  have N40 := Fr.snoc X40 N37 ge_b20
  replace V40 : Arv Z h40 b20 k20 (.object "com/example/bough/bough/BuiltInType") (19 : Int32) [(.ref c_BINARY), (.ref c_BITS), (.ref c_BOOLEAN), (.ref c_DECIMAL64), (.ref c_EMPTY), (.ref c_ENUMERATION), (.ref c_IDENTITYREF), .null, .null, .null, .null, .null, .null, .null, .null, .null, .null, .null, .null] .null := V40
  have O41 := O38.wr W40 ge_b20
  have K41 := K38.wr W40 (Or.inr sz_b20)
  refine own_st st40 ?_
  show own_go _ _ _ _ _ _ _ (T40.setTop (mkF m 48 #[.val (.int p0), .unset, .unset, .unset] [(.ref b20)]))
  refine own_st (fun _ k => XS.dup X40.here hx rfl (hb hby at_48) rfl rfl k) ?_
  show own_go _ _ _ _ _ _ _ (T40.setTop (mkF m 49 #[.val (.int p0), .unset, .unset, .unset] [(.ref b20), (.ref b20)]))
  refine own_st (fun _ k => XS.bipush X40.here hx rfl (hb hby at_49) k) ?_
  show own_go _ _ _ _ _ _ _ (T40.setTop (mkF m 51 #[.val (.int p0), .unset, .unset, .unset] [(.int (7 : Int32)), (.ref b20), (.ref b20)]))
  obtain ⟨T42, X42, e42, st42⟩ := getS2 X40 hx hZ hown (host := "") (Or.inl (hw _ (List.mem_of_getElem? (i := 18) rfl))) Via.refl e40 (hS.2.2.2.2.2.2.2.2.2.2.2.2.2.2.1.ext O41.2) (g := (mkF m 51 #[.val (.int p0), .unset, .unset, .unset] [(.int (7 : Int32)), (.ref b20), (.ref b20)])) rfl (hb hby at_51)
  refine own_st st42 ?_
  show own_go _ _ _ _ _ _ _ (T42.setTop (mkF m 54 #[.val (.int p0), .unset, .unset, .unset] [(.ref c_INSTANCE_IDENTIFIER), (.int (7 : Int32)), (.ref b20), (.ref b20)]))
  obtain ⟨T43, h43, X43, e43, W43, V43, st43⟩ := own_put X42 hx hZ e42 V40 Ov20 (Ins.self (hS.2.2.2.2.2.2.2.2.2.2.2.2.2.2.2.1.ext O41.2)) (j := (7 : Int32)) (by decide) 7 (by decide) (by show 7 < 19; decide) (g := (mkF m 54 #[.val (.int p0), .unset, .unset, .unset] [(.ref c_INSTANCE_IDENTIFIER), (.int (7 : Int32)), (.ref b20), (.ref b20)])) rfl rfl (hb hby at_54)
  have N43 := Fr.snoc X43 N40 ge_b20
  replace V43 : Arv Z h43 b20 k20 (.object "com/example/bough/bough/BuiltInType") (19 : Int32) [(.ref c_BINARY), (.ref c_BITS), (.ref c_BOOLEAN), (.ref c_DECIMAL64), (.ref c_EMPTY), (.ref c_ENUMERATION), (.ref c_IDENTITYREF), (.ref c_INSTANCE_IDENTIFIER), .null, .null, .null, .null, .null, .null, .null, .null, .null, .null, .null] .null := V43
  have O44 := O41.wr W43 ge_b20
  have K44 := K41.wr W43 (Or.inr sz_b20)
  refine own_st st43 ?_
  show own_go _ _ _ _ _ _ _ (T43.setTop (mkF m 55 #[.val (.int p0), .unset, .unset, .unset] [(.ref b20)]))
  refine own_st (fun _ k => XS.dup X43.here hx rfl (hb hby at_55) rfl rfl k) ?_
  show own_go _ _ _ _ _ _ _ (T43.setTop (mkF m 56 #[.val (.int p0), .unset, .unset, .unset] [(.ref b20), (.ref b20)]))
  refine own_st (fun _ k => XS.bipush X43.here hx rfl (hb hby at_56) k) ?_
  show own_go _ _ _ _ _ _ _ (T43.setTop (mkF m 58 #[.val (.int p0), .unset, .unset, .unset] [(.int (8 : Int32)), (.ref b20), (.ref b20)]))
  obtain ⟨T45, X45, e45, st45⟩ := getS2 X43 hx hZ hown (host := "") (Or.inl (hw _ (List.mem_of_getElem? (i := 20) rfl))) Via.refl e43 (hS.2.2.2.2.2.2.2.2.2.2.2.2.2.2.2.2.1.ext O44.2) (g := (mkF m 58 #[.val (.int p0), .unset, .unset, .unset] [(.int (8 : Int32)), (.ref b20), (.ref b20)])) rfl (hb hby at_58)
  refine own_st st45 ?_
  show own_go _ _ _ _ _ _ _ (T45.setTop (mkF m 61 #[.val (.int p0), .unset, .unset, .unset] [(.ref c_INT8), (.int (8 : Int32)), (.ref b20), (.ref b20)]))
  obtain ⟨T46, h46, X46, e46, W46, V46, st46⟩ := own_put X45 hx hZ e45 V43 Ov20 (Ins.self (hS.2.2.2.2.2.2.2.2.2.2.2.2.2.2.2.2.2.1.ext O44.2)) (j := (8 : Int32)) (by decide) 8 (by decide) (by show 8 < 19; decide) (g := (mkF m 61 #[.val (.int p0), .unset, .unset, .unset] [(.ref c_INT8), (.int (8 : Int32)), (.ref b20), (.ref b20)])) rfl rfl (hb hby at_61)
  have N46 := Fr.snoc X46 N43 ge_b20
  replace V46 : Arv Z h46 b20 k20 (.object "com/example/bough/bough/BuiltInType") (19 : Int32) [(.ref c_BINARY), (.ref c_BITS), (.ref c_BOOLEAN), (.ref c_DECIMAL64), (.ref c_EMPTY), (.ref c_ENUMERATION), (.ref c_IDENTITYREF), (.ref c_INSTANCE_IDENTIFIER), (.ref c_INT8), .null, .null, .null, .null, .null, .null, .null, .null, .null, .null] .null := V46
  have O47 := O44.wr W46 ge_b20
  have K47 := K44.wr W46 (Or.inr sz_b20)
  refine own_st st46 ?_
  show own_go _ _ _ _ _ _ _ (T46.setTop (mkF m 62 #[.val (.int p0), .unset, .unset, .unset] [(.ref b20)]))
  refine own_st (fun _ k => XS.dup X46.here hx rfl (hb hby at_62) rfl rfl k) ?_
  show own_go _ _ _ _ _ _ _ (T46.setTop (mkF m 63 #[.val (.int p0), .unset, .unset, .unset] [(.ref b20), (.ref b20)]))
  refine own_st (fun _ k => XS.bipush X46.here hx rfl (hb hby at_63) k) ?_
  show own_go _ _ _ _ _ _ _ (T46.setTop (mkF m 65 #[.val (.int p0), .unset, .unset, .unset] [(.int (9 : Int32)), (.ref b20), (.ref b20)]))
  obtain ⟨T48, X48, e48, st48⟩ := getS2 X46 hx hZ hown (host := "") (Or.inl (hw _ (List.mem_of_getElem? (i := 22) rfl))) Via.refl e46 (hS.2.2.2.2.2.2.2.2.2.2.2.2.2.2.2.2.2.2.1.ext O47.2) (g := (mkF m 65 #[.val (.int p0), .unset, .unset, .unset] [(.int (9 : Int32)), (.ref b20), (.ref b20)])) rfl (hb hby at_65)
  refine own_st st48 ?_
  show own_go _ _ _ _ _ _ _ (T48.setTop (mkF m 68 #[.val (.int p0), .unset, .unset, .unset] [(.ref c_INT16), (.int (9 : Int32)), (.ref b20), (.ref b20)]))
  obtain ⟨T49, h49, X49, e49, W49, V49, st49⟩ := own_put X48 hx hZ e48 V46 Ov20 (Ins.self (hS.2.2.2.2.2.2.2.2.2.2.2.2.2.2.2.2.2.2.2.1.ext O47.2)) (j := (9 : Int32)) (by decide) 9 (by decide) (by show 9 < 19; decide) (g := (mkF m 68 #[.val (.int p0), .unset, .unset, .unset] [(.ref c_INT16), (.int (9 : Int32)), (.ref b20), (.ref b20)])) rfl rfl (hb hby at_68)
  have N49 := Fr.snoc X49 N46 ge_b20
  replace V49 : Arv Z h49 b20 k20 (.object "com/example/bough/bough/BuiltInType") (19 : Int32) [(.ref c_BINARY), (.ref c_BITS), (.ref c_BOOLEAN), (.ref c_DECIMAL64), (.ref c_EMPTY), (.ref c_ENUMERATION), (.ref c_IDENTITYREF), (.ref c_INSTANCE_IDENTIFIER), (.ref c_INT8), (.ref c_INT16), .null, .null, .null, .null, .null, .null, .null, .null, .null] .null := V49
  have O50 := O47.wr W49 ge_b20
  have K50 := K47.wr W49 (Or.inr sz_b20)
  refine own_st st49 ?_
  show own_go _ _ _ _ _ _ _ (T49.setTop (mkF m 69 #[.val (.int p0), .unset, .unset, .unset] [(.ref b20)]))
  refine own_st (fun _ k => XS.dup X49.here hx rfl (hb hby at_69) rfl rfl k) ?_
  show own_go _ _ _ _ _ _ _ (T49.setTop (mkF m 70 #[.val (.int p0), .unset, .unset, .unset] [(.ref b20), (.ref b20)]))
  refine own_st (fun _ k => XS.bipush X49.here hx rfl (hb hby at_70) k) ?_
  show own_go _ _ _ _ _ _ _ (T49.setTop (mkF m 72 #[.val (.int p0), .unset, .unset, .unset] [(.int (10 : Int32)), (.ref b20), (.ref b20)]))
  obtain ⟨T51, X51, e51, st51⟩ := getS2 X49 hx hZ hown (host := "") (Or.inl (hw _ (List.mem_of_getElem? (i := 24) rfl))) Via.refl e49 (hS.2.2.2.2.2.2.2.2.2.2.2.2.2.2.2.2.2.2.2.2.1.ext O50.2) (g := (mkF m 72 #[.val (.int p0), .unset, .unset, .unset] [(.int (10 : Int32)), (.ref b20), (.ref b20)])) rfl (hb hby at_72)
  refine own_st st51 ?_
  show own_go _ _ _ _ _ _ _ (T51.setTop (mkF m 75 #[.val (.int p0), .unset, .unset, .unset] [(.ref c_INT32), (.int (10 : Int32)), (.ref b20), (.ref b20)]))
  obtain ⟨T52, h52, X52, e52, W52, V52, st52⟩ := own_put X51 hx hZ e51 V49 Ov20 (Ins.self (hS.2.2.2.2.2.2.2.2.2.2.2.2.2.2.2.2.2.2.2.2.2.1.ext O50.2)) (j := (10 : Int32)) (by decide) 10 (by decide) (by show 10 < 19; decide) (g := (mkF m 75 #[.val (.int p0), .unset, .unset, .unset] [(.ref c_INT32), (.int (10 : Int32)), (.ref b20), (.ref b20)])) rfl rfl (hb hby at_75)
  have N52 := Fr.snoc X52 N49 ge_b20
  replace V52 : Arv Z h52 b20 k20 (.object "com/example/bough/bough/BuiltInType") (19 : Int32) [(.ref c_BINARY), (.ref c_BITS), (.ref c_BOOLEAN), (.ref c_DECIMAL64), (.ref c_EMPTY), (.ref c_ENUMERATION), (.ref c_IDENTITYREF), (.ref c_INSTANCE_IDENTIFIER), (.ref c_INT8), (.ref c_INT16), (.ref c_INT32), .null, .null, .null, .null, .null, .null, .null, .null] .null := V52
  have O53 := O50.wr W52 ge_b20
  have K53 := K50.wr W52 (Or.inr sz_b20)
  refine own_st st52 ?_
  show own_go _ _ _ _ _ _ _ (T52.setTop (mkF m 76 #[.val (.int p0), .unset, .unset, .unset] [(.ref b20)]))
  refine own_st (fun _ k => XS.dup X52.here hx rfl (hb hby at_76) rfl rfl k) ?_
  show own_go _ _ _ _ _ _ _ (T52.setTop (mkF m 77 #[.val (.int p0), .unset, .unset, .unset] [(.ref b20), (.ref b20)]))
  refine own_st (fun _ k => XS.bipush X52.here hx rfl (hb hby at_77) k) ?_
  show own_go _ _ _ _ _ _ _ (T52.setTop (mkF m 79 #[.val (.int p0), .unset, .unset, .unset] [(.int (11 : Int32)), (.ref b20), (.ref b20)]))
  obtain ⟨T54, X54, e54, st54⟩ := getS2 X52 hx hZ hown (host := "") (Or.inl (hw _ (List.mem_of_getElem? (i := 26) rfl))) Via.refl e52 (hS.2.2.2.2.2.2.2.2.2.2.2.2.2.2.2.2.2.2.2.2.2.2.1.ext O53.2) (g := (mkF m 79 #[.val (.int p0), .unset, .unset, .unset] [(.int (11 : Int32)), (.ref b20), (.ref b20)])) rfl (hb hby at_79)
  refine own_st st54 ?_
  show own_go _ _ _ _ _ _ _ (T54.setTop (mkF m 82 #[.val (.int p0), .unset, .unset, .unset] [(.ref c_INT64), (.int (11 : Int32)), (.ref b20), (.ref b20)]))
  obtain ⟨T55, h55, X55, e55, W55, V55, st55⟩ := own_put X54 hx hZ e54 V52 Ov20 (Ins.self (hS.2.2.2.2.2.2.2.2.2.2.2.2.2.2.2.2.2.2.2.2.2.2.2.1.ext O53.2)) (j := (11 : Int32)) (by decide) 11 (by decide) (by show 11 < 19; decide) (g := (mkF m 82 #[.val (.int p0), .unset, .unset, .unset] [(.ref c_INT64), (.int (11 : Int32)), (.ref b20), (.ref b20)])) rfl rfl (hb hby at_82)
  have N55 := Fr.snoc X55 N52 ge_b20
  replace V55 : Arv Z h55 b20 k20 (.object "com/example/bough/bough/BuiltInType") (19 : Int32) [(.ref c_BINARY), (.ref c_BITS), (.ref c_BOOLEAN), (.ref c_DECIMAL64), (.ref c_EMPTY), (.ref c_ENUMERATION), (.ref c_IDENTITYREF), (.ref c_INSTANCE_IDENTIFIER), (.ref c_INT8), (.ref c_INT16), (.ref c_INT32), (.ref c_INT64), .null, .null, .null, .null, .null, .null, .null] .null := V55
  have O56 := O53.wr W55 ge_b20
  have K56 := K53.wr W55 (Or.inr sz_b20)
  refine own_st st55 ?_
  show own_go _ _ _ _ _ _ _ (T55.setTop (mkF m 83 #[.val (.int p0), .unset, .unset, .unset] [(.ref b20)]))
  refine own_st (fun _ k => XS.dup X55.here hx rfl (hb hby at_83) rfl rfl k) ?_
  show own_go _ _ _ _ _ _ _ (T55.setTop (mkF m 84 #[.val (.int p0), .unset, .unset, .unset] [(.ref b20), (.ref b20)]))
  refine own_st (fun _ k => XS.bipush X55.here hx rfl (hb hby at_84) k) ?_
  show own_go _ _ _ _ _ _ _ (T55.setTop (mkF m 86 #[.val (.int p0), .unset, .unset, .unset] [(.int (12 : Int32)), (.ref b20), (.ref b20)]))
  obtain ⟨T57, X57, e57, st57⟩ := getS2 X55 hx hZ hown (host := "") (Or.inl (hw _ (List.mem_of_getElem? (i := 28) rfl))) Via.refl e55 (hS.2.2.2.2.2.2.2.2.2.2.2.2.2.2.2.2.2.2.2.2.2.2.2.2.1.ext O56.2) (g := (mkF m 86 #[.val (.int p0), .unset, .unset, .unset] [(.int (12 : Int32)), (.ref b20), (.ref b20)])) rfl (hb hby at_86)
  refine own_st st57 ?_
  show own_go _ _ _ _ _ _ _ (T57.setTop (mkF m 89 #[.val (.int p0), .unset, .unset, .unset] [(.ref c_LEAFREF), (.int (12 : Int32)), (.ref b20), (.ref b20)]))
  obtain ⟨T58, h58, X58, e58, W58, V58, st58⟩ := own_put X57 hx hZ e57 V55 Ov20 (Ins.self (hS.2.2.2.2.2.2.2.2.2.2.2.2.2.2.2.2.2.2.2.2.2.2.2.2.2.1.ext O56.2)) (j := (12 : Int32)) (by decide) 12 (by decide) (by show 12 < 19; decide) (g := (mkF m 89 #[.val (.int p0), .unset, .unset, .unset] [(.ref c_LEAFREF), (.int (12 : Int32)), (.ref b20), (.ref b20)])) rfl rfl (hb hby at_89)
  have N58 := Fr.snoc X58 N55 ge_b20
  replace V58 : Arv Z h58 b20 k20 (.object "com/example/bough/bough/BuiltInType") (19 : Int32) [(.ref c_BINARY), (.ref c_BITS), (.ref c_BOOLEAN), (.ref c_DECIMAL64), (.ref c_EMPTY), (.ref c_ENUMERATION), (.ref c_IDENTITYREF), (.ref c_INSTANCE_IDENTIFIER), (.ref c_INT8), (.ref c_INT16), (.ref c_INT32), (.ref c_INT64), (.ref c_LEAFREF), .null, .null, .null, .null, .null, .null] .null := V58
  have O59 := O56.wr W58 ge_b20
  have K59 := K56.wr W58 (Or.inr sz_b20)
  refine own_st st58 ?_
  show own_go _ _ _ _ _ _ _ (T58.setTop (mkF m 90 #[.val (.int p0), .unset, .unset, .unset] [(.ref b20)]))
  refine own_st (fun _ k => XS.dup X58.here hx rfl (hb hby at_90) rfl rfl k) ?_
  show own_go _ _ _ _ _ _ _ (T58.setTop (mkF m 91 #[.val (.int p0), .unset, .unset, .unset] [(.ref b20), (.ref b20)]))
  refine own_st (fun _ k => XS.bipush X58.here hx rfl (hb hby at_91) k) ?_
  show own_go _ _ _ _ _ _ _ (T58.setTop (mkF m 93 #[.val (.int p0), .unset, .unset, .unset] [(.int (13 : Int32)), (.ref b20), (.ref b20)]))
  obtain ⟨T60, X60, e60, st60⟩ := getS2 X58 hx hZ hown (host := "") (Or.inl (hw _ (List.mem_of_getElem? (i := 30) rfl))) Via.refl e58 (hS.2.2.2.2.2.2.2.2.2.2.2.2.2.2.2.2.2.2.2.2.2.2.2.2.2.2.1.ext O59.2) (g := (mkF m 93 #[.val (.int p0), .unset, .unset, .unset] [(.int (13 : Int32)), (.ref b20), (.ref b20)])) rfl (hb hby at_93)
  refine own_st st60 ?_
  show own_go _ _ _ _ _ _ _ (T60.setTop (mkF m 96 #[.val (.int p0), .unset, .unset, .unset] [(.ref c_STRING), (.int (13 : Int32)), (.ref b20), (.ref b20)]))
  obtain ⟨T61, h61, X61, e61, W61, V61, st61⟩ := own_put X60 hx hZ e60 V58 Ov20 (Ins.self (hS.2.2.2.2.2.2.2.2.2.2.2.2.2.2.2.2.2.2.2.2.2.2.2.2.2.2.2.1.ext O59.2)) (j := (13 : Int32)) (by decide) 13 (by decide) (by show 13 < 19; decide) (g := (mkF m 96 #[.val (.int p0), .unset, .unset, .unset] [(.ref c_STRING), (.int (13 : Int32)), (.ref b20), (.ref b20)])) rfl rfl (hb hby at_96)
  have N61 := Fr.snoc X61 N58 ge_b20
  replace V61 : Arv Z h61 b20 k20 (.object "com/example/bough/bough/BuiltInType") (19 : Int32) [(.ref c_BINARY), (.ref c_BITS), (.ref c_BOOLEAN), (.ref c_DECIMAL64), (.ref c_EMPTY), (.ref c_ENUMERATION), (.ref c_IDENTITYREF), (.ref c_INSTANCE_IDENTIFIER), (.ref c_INT8), (.ref c_INT16), (.ref c_INT32), (.ref c_INT64), (.ref c_LEAFREF), (.ref c_STRING), .null, .null, .null, .null, .null] .null := V61
  have O62 := O59.wr W61 ge_b20
  have K62 := K59.wr W61 (Or.inr sz_b20)
  refine own_st st61 ?_
  show own_go _ _ _ _ _ _ _ (T61.setTop (mkF m 97 #[.val (.int p0), .unset, .unset, .unset] [(.ref b20)]))
  refine own_st (fun _ k => XS.dup X61.here hx rfl (hb hby at_97) rfl rfl k) ?_
  show own_go _ _ _ _ _ _ _ (T61.setTop (mkF m 98 #[.val (.int p0), .unset, .unset, .unset] [(.ref b20), (.ref b20)]))
  refine own_st (fun _ k => XS.bipush X61.here hx rfl (hb hby at_98) k) ?_
  show own_go _ _ _ _ _ _ _ (T61.setTop (mkF m 100 #[.val (.int p0), .unset, .unset, .unset] [(.int (14 : Int32)), (.ref b20), (.ref b20)]))
  obtain ⟨T63, X63, e63, st63⟩ := getS2 X61 hx hZ hown (host := "") (Or.inl (hw _ (List.mem_of_getElem? (i := 32) rfl))) Via.refl e61 (hS.2.2.2.2.2.2.2.2.2.2.2.2.2.2.2.2.2.2.2.2.2.2.2.2.2.2.2.2.1.ext O62.2) (g := (mkF m 100 #[.val (.int p0), .unset, .unset, .unset] [(.int (14 : Int32)), (.ref b20), (.ref b20)])) rfl (hb hby at_100)
  refine own_st st63 ?_
  show own_go _ _ _ _ _ _ _ (T63.setTop (mkF m 103 #[.val (.int p0), .unset, .unset, .unset] [(.ref c_UINT8), (.int (14 : Int32)), (.ref b20), (.ref b20)]))
  obtain ⟨T64, h64, X64, e64, W64, V64, st64⟩ := own_put X63 hx hZ e63 V61 Ov20 (Ins.self (hS.2.2.2.2.2.2.2.2.2.2.2.2.2.2.2.2.2.2.2.2.2.2.2.2.2.2.2.2.2.1.ext O62.2)) (j := (14 : Int32)) (by decide) 14 (by decide) (by show 14 < 19; decide) (g := (mkF m 103 #[.val (.int p0), .unset, .unset, .unset] [(.ref c_UINT8), (.int (14 : Int32)), (.ref b20), (.ref b20)])) rfl rfl (hb hby at_103)
  have N64 := Fr.snoc X64 N61 ge_b20
  replace V64 : Arv Z h64 b20 k20 (.object "com/example/bough/bough/BuiltInType") (19 : Int32) [(.ref c_BINARY), (.ref c_BITS), (.ref c_BOOLEAN), (.ref c_DECIMAL64), (.ref c_EMPTY), (.ref c_ENUMERATION), (.ref c_IDENTITYREF), (.ref c_INSTANCE_IDENTIFIER), (.ref c_INT8), (.ref c_INT16), (.ref c_INT32), (.ref c_INT64), (.ref c_LEAFREF), (.ref c_STRING), (.ref c_UINT8), .null, .null, .null, .null] .null := V64
  have O65 := O62.wr W64 ge_b20
  have K65 := K62.wr W64 (Or.inr sz_b20)
  refine own_st st64 ?_
  show own_go _ _ _ _ _ _ _ (T64.setTop (mkF m 104 #[.val (.int p0), .unset, .unset, .unset] [(.ref b20)]))
  refine own_st (fun _ k => XS.dup X64.here hx rfl (hb hby at_104) rfl rfl k) ?_
  show own_go _ _ _ _ _ _ _ (T64.setTop (mkF m 105 #[.val (.int p0), .unset, .unset, .unset] [(.ref b20), (.ref b20)]))
  refine own_st (fun _ k => XS.bipush X64.here hx rfl (hb hby at_105) k) ?_
  show own_go _ _ _ _ _ _ _ (T64.setTop (mkF m 107 #[.val (.int p0), .unset, .unset, .unset] [(.int (15 : Int32)), (.ref b20), (.ref b20)]))
  obtain ⟨T66, X66, e66, st66⟩ := getS2 X64 hx hZ hown (host := "") (Or.inl (hw _ (List.mem_of_getElem? (i := 34) rfl))) Via.refl e64 (hS.2.2.2.2.2.2.2.2.2.2.2.2.2.2.2.2.2.2.2.2.2.2.2.2.2.2.2.2.2.2.1.ext O65.2) (g := (mkF m 107 #[.val (.int p0), .unset, .unset, .unset] [(.int (15 : Int32)), (.ref b20), (.ref b20)])) rfl (hb hby at_107)
  refine own_st st66 ?_
  show own_go _ _ _ _ _ _ _ (T66.setTop (mkF m 110 #[.val (.int p0), .unset, .unset, .unset] [(.ref c_UINT16), (.int (15 : Int32)), (.ref b20), (.ref b20)]))
  obtain ⟨T67, h67, X67, e67, W67, V67, st67⟩ := own_put X66 hx hZ e66 V64 Ov20 (Ins.self (hS.2.2.2.2.2.2.2.2.2.2.2.2.2.2.2.2.2.2.2.2.2.2.2.2.2.2.2.2.2.2.2.1.ext O65.2)) (j := (15 : Int32)) (by decide) 15 (by decide) (by show 15 < 19; decide) (g := (mkF m 110 #[.val (.int p0), .unset, .unset, .unset] [(.ref c_UINT16), (.int (15 : Int32)), (.ref b20), (.ref b20)])) rfl rfl (hb hby at_110)
  have N67 := Fr.snoc X67 N64 ge_b20
  replace V67 : Arv Z h67 b20 k20 (.object "com/example/bough/bough/BuiltInType") (19 : Int32) [(.ref c_BINARY), (.ref c_BITS), (.ref c_BOOLEAN), (.ref c_DECIMAL64), (.ref c_EMPTY), (.ref c_ENUMERATION), (.ref c_IDENTITYREF), (.ref c_INSTANCE_IDENTIFIER), (.ref c_INT8), (.ref c_INT16), (.ref c_INT32), (.ref c_INT64), (.ref c_LEAFREF), (.ref c_STRING), (.ref c_UINT8), (.ref c_UINT16), .null, .null, .null] .null := V67
  have O68 := O65.wr W67 ge_b20
  have K68 := K65.wr W67 (Or.inr sz_b20)
  refine own_st st67 ?_
  show own_go _ _ _ _ _ _ _ (T67.setTop (mkF m 111 #[.val (.int p0), .unset, .unset, .unset] [(.ref b20)]))
  refine own_st (fun _ k => XS.dup X67.here hx rfl (hb hby at_111) rfl rfl k) ?_
  show own_go _ _ _ _ _ _ _ (T67.setTop (mkF m 112 #[.val (.int p0), .unset, .unset, .unset] [(.ref b20), (.ref b20)]))
  refine own_st (fun _ k => XS.bipush X67.here hx rfl (hb hby at_112) k) ?_
  show own_go _ _ _ _ _ _ _ (T67.setTop (mkF m 114 #[.val (.int p0), .unset, .unset, .unset] [(.int (16 : Int32)), (.ref b20), (.ref b20)]))
  obtain ⟨T69, X69, e69, st69⟩ := getS2 X67 hx hZ hown (host := "") (Or.inl (hw _ (List.mem_of_getElem? (i := 36) rfl))) Via.refl e67 (hS.2.2.2.2.2.2.2.2.2.2.2.2.2.2.2.2.2.2.2.2.2.2.2.2.2.2.2.2.2.2.2.2.1.ext O68.2) (g := (mkF m 114 #[.val (.int p0), .unset, .unset, .unset] [(.int (16 : Int32)), (.ref b20), (.ref b20)])) rfl (hb hby at_114)
  refine own_st st69 ?_
  show own_go _ _ _ _ _ _ _ (T69.setTop (mkF m 117 #[.val (.int p0), .unset, .unset, .unset] [(.ref c_UINT32), (.int (16 : Int32)), (.ref b20), (.ref b20)]))
  obtain ⟨T70, h70, X70, e70, W70, V70, st70⟩ := own_put X69 hx hZ e69 V67 Ov20 (Ins.self (hS.2.2.2.2.2.2.2.2.2.2.2.2.2.2.2.2.2.2.2.2.2.2.2.2.2.2.2.2.2.2.2.2.2.1.ext O68.2)) (j := (16 : Int32)) (by decide) 16 (by decide) (by show 16 < 19; decide) (g := (mkF m 117 #[.val (.int p0), .unset, .unset, .unset] [(.ref c_UINT32), (.int (16 : Int32)), (.ref b20), (.ref b20)])) rfl rfl (hb hby at_117)
  have N70 := Fr.snoc X70 N67 ge_b20
  replace V70 : Arv Z h70 b20 k20 (.object "com/example/bough/bough/BuiltInType") (19 : Int32) [(.ref c_BINARY), (.ref c_BITS), (.ref c_BOOLEAN), (.ref c_DECIMAL64), (.ref c_EMPTY), (.ref c_ENUMERATION), (.ref c_IDENTITYREF), (.ref c_INSTANCE_IDENTIFIER), (.ref c_INT8), (.ref c_INT16), (.ref c_INT32), (.ref c_INT64), (.ref c_LEAFREF), (.ref c_STRING), (.ref c_UINT8), (.ref c_UINT16), (.ref c_UINT32), .null, .null] .null := V70
  have O71 := O68.wr W70 ge_b20
  have K71 := K68.wr W70 (Or.inr sz_b20)
  refine own_st st70 ?_
  show own_go _ _ _ _ _ _ _ (T70.setTop (mkF m 118 #[.val (.int p0), .unset, .unset, .unset] [(.ref b20)]))
  refine own_st (fun _ k => XS.dup X70.here hx rfl (hb hby at_118) rfl rfl k) ?_
  show own_go _ _ _ _ _ _ _ (T70.setTop (mkF m 119 #[.val (.int p0), .unset, .unset, .unset] [(.ref b20), (.ref b20)]))
  refine own_st (fun _ k => XS.bipush X70.here hx rfl (hb hby at_119) k) ?_
  show own_go _ _ _ _ _ _ _ (T70.setTop (mkF m 121 #[.val (.int p0), .unset, .unset, .unset] [(.int (17 : Int32)), (.ref b20), (.ref b20)]))
  obtain ⟨T72, X72, e72, st72⟩ := getS2 X70 hx hZ hown (host := "") (Or.inl (hw _ (List.mem_of_getElem? (i := 38) rfl))) Via.refl e70 (hS.2.2.2.2.2.2.2.2.2.2.2.2.2.2.2.2.2.2.2.2.2.2.2.2.2.2.2.2.2.2.2.2.2.2.1.ext O71.2) (g := (mkF m 121 #[.val (.int p0), .unset, .unset, .unset] [(.int (17 : Int32)), (.ref b20), (.ref b20)])) rfl (hb hby at_121)
  refine own_st st72 ?_
  show own_go _ _ _ _ _ _ _ (T72.setTop (mkF m 124 #[.val (.int p0), .unset, .unset, .unset] [(.ref c_UINT64), (.int (17 : Int32)), (.ref b20), (.ref b20)]))
  obtain ⟨T73, h73, X73, e73, W73, V73, st73⟩ := own_put X72 hx hZ e72 V70 Ov20 (Ins.self (hS.2.2.2.2.2.2.2.2.2.2.2.2.2.2.2.2.2.2.2.2.2.2.2.2.2.2.2.2.2.2.2.2.2.2.2.1.ext O71.2)) (j := (17 : Int32)) (by decide) 17 (by decide) (by show 17 < 19; decide) (g := (mkF m 124 #[.val (.int p0), .unset, .unset, .unset] [(.ref c_UINT64), (.int (17 : Int32)), (.ref b20), (.ref b20)])) rfl rfl (hb hby at_124)
  have N73 := Fr.snoc X73 N70 ge_b20
  replace V73 : Arv Z h73 b20 k20 (.object "com/example/bough/bough/BuiltInType") (19 : Int32) [(.ref c_BINARY), (.ref c_BITS), (.ref c_BOOLEAN), (.ref c_DECIMAL64), (.ref c_EMPTY), (.ref c_ENUMERATION), (.ref c_IDENTITYREF), (.ref c_INSTANCE_IDENTIFIER), (.ref c_INT8), (.ref c_INT16), (.ref c_INT32), (.ref c_INT64), (.ref c_LEAFREF), (.ref c_STRING), (.ref c_UINT8), (.ref c_UINT16), (.ref c_UINT32), (.ref c_UINT64), .null] .null := V73
  have O74 := O71.wr W73 ge_b20
  have K74 := K71.wr W73 (Or.inr sz_b20)
  refine own_st st73 ?_
  show own_go _ _ _ _ _ _ _ (T73.setTop (mkF m 125 #[.val (.int p0), .unset, .unset, .unset] [(.ref b20)]))
  refine own_st (fun _ k => XS.dup X73.here hx rfl (hb hby at_125) rfl rfl k) ?_
  show own_go _ _ _ _ _ _ _ (T73.setTop (mkF m 126 #[.val (.int p0), .unset, .unset, .unset] [(.ref b20), (.ref b20)]))
  refine own_st (fun _ k => XS.bipush X73.here hx rfl (hb hby at_126) k) ?_
  show own_go _ _ _ _ _ _ _ (T73.setTop (mkF m 128 #[.val (.int p0), .unset, .unset, .unset] [(.int (18 : Int32)), (.ref b20), (.ref b20)]))
  obtain ⟨T75, X75, e75, st75⟩ := getS2 X73 hx hZ hown (host := "") (Or.inl (hw _ (List.mem_of_getElem? (i := 40) rfl))) Via.refl e73 (hS.2.2.2.2.2.2.2.2.2.2.2.2.2.2.2.2.2.2.2.2.2.2.2.2.2.2.2.2.2.2.2.2.2.2.2.2.1.ext O74.2) (g := (mkF m 128 #[.val (.int p0), .unset, .unset, .unset] [(.int (18 : Int32)), (.ref b20), (.ref b20)])) rfl (hb hby at_128)
  refine own_st st75 ?_
  show own_go _ _ _ _ _ _ _ (T75.setTop (mkF m 131 #[.val (.int p0), .unset, .unset, .unset] [(.ref c_UNION), (.int (18 : Int32)), (.ref b20), (.ref b20)]))
  obtain ⟨T76, h76, X76, e76, W76, V76, st76⟩ := own_put X75 hx hZ e75 V73 Ov20 (Ins.self (hS.2.2.2.2.2.2.2.2.2.2.2.2.2.2.2.2.2.2.2.2.2.2.2.2.2.2.2.2.2.2.2.2.2.2.2.2.2.1.ext O74.2)) (j := (18 : Int32)) (by decide) 18 (by decide) (by show 18 < 19; decide) (g := (mkF m 131 #[.val (.int p0), .unset, .unset, .unset] [(.ref c_UNION), (.int (18 : Int32)), (.ref b20), (.ref b20)])) rfl rfl (hb hby at_131)
  have N76 := Fr.snoc X76 N73 ge_b20
  replace V76 : Arv Z h76 b20 k20 (.object "com/example/bough/bough/BuiltInType") (19 : Int32) [(.ref c_BINARY), (.ref c_BITS), (.ref c_BOOLEAN), (.ref c_DECIMAL64), (.ref c_EMPTY), (.ref c_ENUMERATION), (.ref c_IDENTITYREF), (.ref c_INSTANCE_IDENTIFIER), (.ref c_INT8), (.ref c_INT16), (.ref c_INT32), (.ref c_INT64), (.ref c_LEAFREF), (.ref c_STRING), (.ref c_UINT8), (.ref c_UINT16), (.ref c_UINT32), (.ref c_UINT64), (.ref c_UNION)] .null := V76
  have O77 := O74.wr W76 ge_b20
  have K77 := K74.wr W76 (Or.inr sz_b20)
  refine own_st st76 ?_
  show own_go _ _ _ _ _ _ _ (T76.setTop (mkF m 132 #[.val (.int p0), .unset, .unset, .unset] [(.ref b20)]))
  refine own_st (fun _ k => XS.astoreN X76.here hx rfl (hb hby at_132) rfl rfl (l' := #[.val (.int p0), .val (.ref b20), .unset, .unset]) rfl k) ?_
  show own_go _ _ _ _ _ _ _ (T76.setTop (mkF m 133 #[.val (.int p0), .val (.ref b20), .unset, .unset] []))
  refine own_st (fun _ k => XS.iloadN X76.here hx rfl (hb hby at_133) rfl k) ?_
  show own_go _ _ _ _ _ _ _ (T76.setTop (mkF m 134 #[.val (.int p0), .val (.ref b20), .unset, .unset] [(.int p0)]))
  refine own_st (X76.ldcInt hx hown (mvT hZ (hw _ (List.mem_of_getElem? (i := 42) rfl))) (g := (mkF m 134 #[.val (.int p0), .val (.ref b20), .unset, .unset] [(.int p0)])) rfl (hb hby at_134)) ?_
  show own_go _ _ _ _ _ _ _ (T76.setTop (mkF m 136 #[.val (.int p0), .val (.ref b20), .unset, .unset] [(.int (2147483647 : Int32)), (.int p0)]))
  refine own_st (fun _ k => XS.iand X76.here hx rfl (hb hby at_136) rfl k) ?_
  show own_go _ _ _ _ _ _ _ (T76.setTop (mkF m 137 #[.val (.int p0), .val (.ref b20), .unset, .unset] [(.int (p0 &&& (2147483647 : Int32)))]))
  refine own_st (fun _ k => XS.bipush X76.here hx rfl (hb hby at_137) k) ?_
  show own_go _ _ _ _ _ _ _ (T76.setTop (mkF m 139 #[.val (.int p0), .val (.ref b20), .unset, .unset] [(.int (19 : Int32)), (.int (p0 &&& (2147483647 : Int32)))]))
  refine own_st (fun _ k => iremM (g := (mkF m 139 #[.val (.int p0), .val (.ref b20), .unset, .unset] [(.int (19 : Int32)), (.int (p0 &&& (2147483647 : Int32)))])) X76 hx rfl (hb hby at_139) rfl (by decide) k) ?_
  show own_go _ _ _ _ _ _ _ (T76.setTop (mkF m 140 #[.val (.int p0), .val (.ref b20), .unset, .unset] [(.int ((p0 &&& (2147483647 : Int32)) % (19 : Int32)))]))
  rcases own_rem p0 with q | q | q | q | q | q | q | q | q | q | q | q | q | q | q | q | q | q | q
  · skip
    rw [q]
    show own_go _ _ _ _ _ _ _ (T76.setTop (mkF m 140 #[.val (.int p0), .val (.ref b20), .unset, .unset] [(.int (0 : Int32))]))
    refine own_st (fun _ k => XS.istoreN X76.here hx rfl (hb hby at_140) rfl (l' := #[.val (.int p0), .val (.ref b20), .val (.int (0 : Int32)), .unset]) rfl k) ?_
    show own_go _ _ _ _ _ _ _ (T76.setTop (mkF m 141 #[.val (.int p0), .val (.ref b20), .val (.int (0 : Int32)), .unset] []))
    refine own_st (fun _ k => XS.iloadN X76.here hx rfl (hb hby at_141) rfl k) ?_
    show own_go _ _ _ _ _ _ _ (T76.setTop (mkF m 142 #[.val (.int p0), .val (.ref b20), .val (.int (0 : Int32)), .unset] [(.int (0 : Int32))]))
    refine own_st (fun _ k => XS.bipush X76.here hx rfl (hb hby at_142) k) ?_
    show own_go _ _ _ _ _ _ _ (T76.setTop (mkF m 144 #[.val (.int p0), .val (.ref b20), .val (.int (0 : Int32)), .unset] [(.int (8 : Int32)), (.int (0 : Int32))]))
    refine own_st (fun _ k => XS.icmpYes X76.here hx rfl (pc0 := 144) (pc' := 153) rfl (hb hby at_144) rfl (by decide) (by decide) (by decide) k) ?_
    show own_go _ _ _ _ _ _ _ (T76.setTop (mkF m 153 #[.val (.int p0), .val (.ref b20), .val (.int (0 : Int32)), .unset] []))
    refine own_st (fun _ k => XS.iloadN X76.here hx rfl (hb hby at_153) rfl k) ?_
    show own_go _ _ _ _ _ _ _ (T76.setTop (mkF m 154 #[.val (.int p0), .val (.ref b20), .val (.int (0 : Int32)), .unset] [(.int (0 : Int32))]))
    refine own_st (fun _ k => XS.bipush X76.here hx rfl (hb hby at_154) k) ?_
    show own_go _ _ _ _ _ _ _ (T76.setTop (mkF m 156 #[.val (.int p0), .val (.ref b20), .val (.int (0 : Int32)), .unset] [(.int (14 : Int32)), (.int (0 : Int32))]))
    refine own_st (fun _ k => XS.icmpYes X76.here hx rfl (pc0 := 156) (pc' := 169) rfl (hb hby at_156) rfl (by decide) (by decide) (by decide) k) ?_
    show own_go _ _ _ _ _ _ _ (T76.setTop (mkF m 169 #[.val (.int p0), .val (.ref b20), .val (.int (0 : Int32)), .unset] []))
    refine own_st (fun _ k => XS.iconst X76.here hx rfl (hb hby at_169) k) ?_
    show own_go _ _ _ _ _ _ _ (T76.setTop (mkF m 170 #[.val (.int p0), .val (.ref b20), .val (.int (0 : Int32)), .unset] [(.int (0 : Int32))]))
    refine own_st (fun _ k => XS.istoreN X76.here hx rfl (hb hby at_170) rfl (l' := #[.val (.int p0), .val (.ref b20), .val (.int (0 : Int32)), .val (.int (0 : Int32))]) rfl k) ?_
    show own_go _ _ _ _ _ _ _ (T76.setTop (mkF m 171 #[.val (.int p0), .val (.ref b20), .val (.int (0 : Int32)), .val (.int (0 : Int32))] []))
    refine own_st (fun _ k => XS.aloadN X76.here hx rfl (hb hby at_171) rfl rfl k) ?_
    show own_go _ _ _ _ _ _ _ (T76.setTop (mkF m 172 #[.val (.int p0), .val (.ref b20), .val (.int (0 : Int32)), .val (.int (0 : Int32))] [(.ref b20)]))
    refine own_st (fun _ k => XS.iloadN X76.here hx rfl (hb hby at_172) rfl k) ?_
    show own_go _ _ _ _ _ _ _ (T76.setTop (mkF m 173 #[.val (.int p0), .val (.ref b20), .val (.int (0 : Int32)), .val (.int (0 : Int32))] [(.int (0 : Int32)), (.ref b20)]))
    refine own_st (own_get X76 hx hZ e76 V76 rfl (j := (0 : Int32)) (by decide) (v := (.ref c_BINARY)) rfl (g := (mkF m 173 #[.val (.int p0), .val (.ref b20), .val (.int (0 : Int32)), .val (.int (0 : Int32))] [(.int (0 : Int32)), (.ref b20)])) rfl rfl (hb hby at_173)) ?_
    show own_go _ _ _ _ _ _ _ (T76.setTop (mkF m 174 #[.val (.int p0), .val (.ref b20), .val (.int (0 : Int32)), .val (.int (0 : Int32))] [(.ref c_BINARY)]))
    obtain ⟨v78, T78, L78, X78, hQ78, st78⟩ := own_callV X76 hx hZ (argsL := []) (rest := []) (rm1_0 l Z a0 hw c_BINARY c_BITS c_BOOLEAN c_DECIMAL64 c_EMPTY c_ENUMERATION c_IDENTITYREF c_INSTANCE_IDENTIFIER c_INT8 c_INT16 c_INT32 c_INT64 c_LEAFREF c_STRING c_UINT8 c_UINT16 c_UINT32 c_UINT64 c_UNION o_c_UINT16_min o_c_UINT64_min o_c_INT64_min o_c_INT32_min o_c_INT8_min o_c_UINT8_min o_c_UINT32_min o_c_INT16_min h76 n0 O77 hS) hown (hw _ (List.mem_of_getElem? (i := 43) rfl)) (hw _ (List.mem_of_getElem? (i := 44) rfl)) (notFace_of_selects (args := #[]) (mvT hZ (hw _ (List.mem_of_getElem? (i := 46) rfl)))) (hw _ (List.mem_of_getElem? (i := 46) rfl)) (hw _ (List.mem_of_getElem? (i := 45) rfl)) (hw _ (List.mem_of_getElem? (i := 3) rfl)) (hw _ (List.mem_of_getElem? (i := 47) rfl)) (by decide) e76 (hS.2.1.ext O77.2) (g := (mkF m 174 #[.val (.int p0), .val (.ref b20), .val (.int (0 : Int32)), .val (.int (0 : Int32))] [(.ref c_BINARY)])) rfl (by rw [hml]; rfl) (lenOf own_pd__28_29Z rfl) rfl (W := 0) (by show 2 * 0 + _ ≤ _; exact Nat.le_of_eq rfl) (hb hby at_174) (by decide) (by decide) (by decide) (by decide)
    obtain ⟨rfl, Nq78, eq78⟩ := hQ78
    have N78 := Fr.app N76 Nq78
    refine own_st st78 ?_
    show own_go _ _ _ _ _ _ _ (T78.setTop (mkF m 177 #[.val (.int p0), .val (.ref b20), .val (.int (0 : Int32)), .val (.int (0 : Int32))] [(.int (0 : Int32))]))
    refine own_st (fun _ k => XS.iloadN X78.here hx rfl (hb hby at_177) rfl k) ?_
    show own_go _ _ _ _ _ _ _ (T78.setTop (mkF m 178 #[.val (.int p0), .val (.ref b20), .val (.int (0 : Int32)), .val (.int (0 : Int32))] [(.int (0 : Int32)), (.int (0 : Int32))]))
    refine own_st (fun _ k => XS.icmpNo X78.here hx rfl (hb hby at_178) rfl (by decide) k) ?_
    show own_go _ _ _ _ _ _ _ (T78.setTop (mkF m 181 #[.val (.int p0), .val (.ref b20), .val (.int (0 : Int32)), .val (.int (0 : Int32))] []))
    refine own_st (fun _ k => XS.iconst X78.here hx rfl (hb hby at_181) k) ?_
    show own_go _ _ _ _ _ _ _ (T78.setTop (mkF m 182 #[.val (.int p0), .val (.ref b20), .val (.int (0 : Int32)), .val (.int (0 : Int32))] [(.int (1 : Int32))]))
    refine own_st (fun _ k => XS.goto X78.here hx rfl (pc0 := 182) (pc' := 186) rfl (hb hby at_182) (by decide) (by decide) k) ?_
    show own_go _ _ _ _ _ _ _ (T78.setTop (mkF m 186 #[.val (.int p0), .val (.ref b20), .val (.int (0 : Int32)), .val (.int (0 : Int32))] [(.int (1 : Int32))]))
    exact own_retN X78 hx hlk (t := .boolean) hret (by simp) rfl (hb hby at_186) (by decide) (by decide) (⟨rfl, N78⟩)
  · skip
    rw [q]
    show own_go _ _ _ _ _ _ _ (T76.setTop (mkF m 140 #[.val (.int p0), .val (.ref b20), .unset, .unset] [(.int (1 : Int32))]))
    refine own_st (fun _ k => XS.istoreN X76.here hx rfl (hb hby at_140) rfl (l' := #[.val (.int p0), .val (.ref b20), .val (.int (1 : Int32)), .unset]) rfl k) ?_
    show own_go _ _ _ _ _ _ _ (T76.setTop (mkF m 141 #[.val (.int p0), .val (.ref b20), .val (.int (1 : Int32)), .unset] []))
    refine own_st (fun _ k => XS.iloadN X76.here hx rfl (hb hby at_141) rfl k) ?_
    show own_go _ _ _ _ _ _ _ (T76.setTop (mkF m 142 #[.val (.int p0), .val (.ref b20), .val (.int (1 : Int32)), .unset] [(.int (1 : Int32))]))
    refine own_st (fun _ k => XS.bipush X76.here hx rfl (hb hby at_142) k) ?_
    show own_go _ _ _ _ _ _ _ (T76.setTop (mkF m 144 #[.val (.int p0), .val (.ref b20), .val (.int (1 : Int32)), .unset] [(.int (8 : Int32)), (.int (1 : Int32))]))
    refine own_st (fun _ k => XS.icmpYes X76.here hx rfl (pc0 := 144) (pc' := 153) rfl (hb hby at_144) rfl (by decide) (by decide) (by decide) k) ?_
    show own_go _ _ _ _ _ _ _ (T76.setTop (mkF m 153 #[.val (.int p0), .val (.ref b20), .val (.int (1 : Int32)), .unset] []))
    refine own_st (fun _ k => XS.iloadN X76.here hx rfl (hb hby at_153) rfl k) ?_
    show own_go _ _ _ _ _ _ _ (T76.setTop (mkF m 154 #[.val (.int p0), .val (.ref b20), .val (.int (1 : Int32)), .unset] [(.int (1 : Int32))]))
    refine own_st (fun _ k => XS.bipush X76.here hx rfl (hb hby at_154) k) ?_
    show own_go _ _ _ _ _ _ _ (T76.setTop (mkF m 156 #[.val (.int p0), .val (.ref b20), .val (.int (1 : Int32)), .unset] [(.int (14 : Int32)), (.int (1 : Int32))]))
    refine own_st (fun _ k => XS.icmpYes X76.here hx rfl (pc0 := 156) (pc' := 169) rfl (hb hby at_156) rfl (by decide) (by decide) (by decide) k) ?_
    show own_go _ _ _ _ _ _ _ (T76.setTop (mkF m 169 #[.val (.int p0), .val (.ref b20), .val (.int (1 : Int32)), .unset] []))
    refine own_st (fun _ k => XS.iconst X76.here hx rfl (hb hby at_169) k) ?_
    show own_go _ _ _ _ _ _ _ (T76.setTop (mkF m 170 #[.val (.int p0), .val (.ref b20), .val (.int (1 : Int32)), .unset] [(.int (0 : Int32))]))
    refine own_st (fun _ k => XS.istoreN X76.here hx rfl (hb hby at_170) rfl (l' := #[.val (.int p0), .val (.ref b20), .val (.int (1 : Int32)), .val (.int (0 : Int32))]) rfl k) ?_
    show own_go _ _ _ _ _ _ _ (T76.setTop (mkF m 171 #[.val (.int p0), .val (.ref b20), .val (.int (1 : Int32)), .val (.int (0 : Int32))] []))
    refine own_st (fun _ k => XS.aloadN X76.here hx rfl (hb hby at_171) rfl rfl k) ?_
    show own_go _ _ _ _ _ _ _ (T76.setTop (mkF m 172 #[.val (.int p0), .val (.ref b20), .val (.int (1 : Int32)), .val (.int (0 : Int32))] [(.ref b20)]))
    refine own_st (fun _ k => XS.iloadN X76.here hx rfl (hb hby at_172) rfl k) ?_
    show own_go _ _ _ _ _ _ _ (T76.setTop (mkF m 173 #[.val (.int p0), .val (.ref b20), .val (.int (1 : Int32)), .val (.int (0 : Int32))] [(.int (1 : Int32)), (.ref b20)]))
    refine own_st (own_get X76 hx hZ e76 V76 rfl (j := (1 : Int32)) (by decide) (v := (.ref c_BITS)) rfl (g := (mkF m 173 #[.val (.int p0), .val (.ref b20), .val (.int (1 : Int32)), .val (.int (0 : Int32))] [(.int (1 : Int32)), (.ref b20)])) rfl rfl (hb hby at_173)) ?_
    show own_go _ _ _ _ _ _ _ (T76.setTop (mkF m 174 #[.val (.int p0), .val (.ref b20), .val (.int (1 : Int32)), .val (.int (0 : Int32))] [(.ref c_BITS)]))
    obtain ⟨v79, T79, L79, X79, hQ79, st79⟩ := own_callV X76 hx hZ (argsL := []) (rest := []) (rm1_1 l Z a0 hw c_BINARY c_BITS c_BOOLEAN c_DECIMAL64 c_EMPTY c_ENUMERATION c_IDENTITYREF c_INSTANCE_IDENTIFIER c_INT8 c_INT16 c_INT32 c_INT64 c_LEAFREF c_STRING c_UINT8 c_UINT16 c_UINT32 c_UINT64 c_UNION o_c_UINT16_min o_c_UINT64_min o_c_INT64_min o_c_INT32_min o_c_INT8_min o_c_UINT8_min o_c_UINT32_min o_c_INT16_min h76 n0 O77 hS) hown (hw _ (List.mem_of_getElem? (i := 43) rfl)) (hw _ (List.mem_of_getElem? (i := 44) rfl)) (notFace_of_selects (args := #[]) (mvT hZ (hw _ (List.mem_of_getElem? (i := 46) rfl)))) (hw _ (List.mem_of_getElem? (i := 46) rfl)) (hw _ (List.mem_of_getElem? (i := 45) rfl)) (hw _ (List.mem_of_getElem? (i := 3) rfl)) (hw _ (List.mem_of_getElem? (i := 47) rfl)) (by decide) e76 (hS.2.2.2.1.ext O77.2) (g := (mkF m 174 #[.val (.int p0), .val (.ref b20), .val (.int (1 : Int32)), .val (.int (0 : Int32))] [(.ref c_BITS)])) rfl (by rw [hml]; rfl) (lenOf own_pd__28_29Z rfl) rfl (W := 0) (by show 2 * 0 + _ ≤ _; exact Nat.le_of_eq rfl) (hb hby at_174) (by decide) (by decide) (by decide) (by decide)
    obtain ⟨rfl, Nq79, eq79⟩ := hQ79
    have N79 := Fr.app N76 Nq79
    refine own_st st79 ?_
    show own_go _ _ _ _ _ _ _ (T79.setTop (mkF m 177 #[.val (.int p0), .val (.ref b20), .val (.int (1 : Int32)), .val (.int (0 : Int32))] [(.int (0 : Int32))]))
    refine own_st (fun _ k => XS.iloadN X79.here hx rfl (hb hby at_177) rfl k) ?_
    show own_go _ _ _ _ _ _ _ (T79.setTop (mkF m 178 #[.val (.int p0), .val (.ref b20), .val (.int (1 : Int32)), .val (.int (0 : Int32))] [(.int (0 : Int32)), (.int (0 : Int32))]))
    refine own_st (fun _ k => XS.icmpNo X79.here hx rfl (hb hby at_178) rfl (by decide) k) ?_
    show own_go _ _ _ _ _ _ _ (T79.setTop (mkF m 181 #[.val (.int p0), .val (.ref b20), .val (.int (1 : Int32)), .val (.int (0 : Int32))] []))
    refine own_st (fun _ k => XS.iconst X79.here hx rfl (hb hby at_181) k) ?_
    show own_go _ _ _ _ _ _ _ (T79.setTop (mkF m 182 #[.val (.int p0), .val (.ref b20), .val (.int (1 : Int32)), .val (.int (0 : Int32))] [(.int (1 : Int32))]))
    refine own_st (fun _ k => XS.goto X79.here hx rfl (pc0 := 182) (pc' := 186) rfl (hb hby at_182) (by decide) (by decide) k) ?_
    show own_go _ _ _ _ _ _ _ (T79.setTop (mkF m 186 #[.val (.int p0), .val (.ref b20), .val (.int (1 : Int32)), .val (.int (0 : Int32))] [(.int (1 : Int32))]))
    exact own_retN X79 hx hlk (t := .boolean) hret (by simp) rfl (hb hby at_186) (by decide) (by decide) (⟨rfl, N79⟩)
  · skip
    rw [q]
    show own_go _ _ _ _ _ _ _ (T76.setTop (mkF m 140 #[.val (.int p0), .val (.ref b20), .unset, .unset] [(.int (2 : Int32))]))
    refine own_st (fun _ k => XS.istoreN X76.here hx rfl (hb hby at_140) rfl (l' := #[.val (.int p0), .val (.ref b20), .val (.int (2 : Int32)), .unset]) rfl k) ?_
    show own_go _ _ _ _ _ _ _ (T76.setTop (mkF m 141 #[.val (.int p0), .val (.ref b20), .val (.int (2 : Int32)), .unset] []))
    refine own_st (fun _ k => XS.iloadN X76.here hx rfl (hb hby at_141) rfl k) ?_
    show own_go _ _ _ _ _ _ _ (T76.setTop (mkF m 142 #[.val (.int p0), .val (.ref b20), .val (.int (2 : Int32)), .unset] [(.int (2 : Int32))]))
    refine own_st (fun _ k => XS.bipush X76.here hx rfl (hb hby at_142) k) ?_
    show own_go _ _ _ _ _ _ _ (T76.setTop (mkF m 144 #[.val (.int p0), .val (.ref b20), .val (.int (2 : Int32)), .unset] [(.int (8 : Int32)), (.int (2 : Int32))]))
    refine own_st (fun _ k => XS.icmpYes X76.here hx rfl (pc0 := 144) (pc' := 153) rfl (hb hby at_144) rfl (by decide) (by decide) (by decide) k) ?_
    show own_go _ _ _ _ _ _ _ (T76.setTop (mkF m 153 #[.val (.int p0), .val (.ref b20), .val (.int (2 : Int32)), .unset] []))
    refine own_st (fun _ k => XS.iloadN X76.here hx rfl (hb hby at_153) rfl k) ?_
    show own_go _ _ _ _ _ _ _ (T76.setTop (mkF m 154 #[.val (.int p0), .val (.ref b20), .val (.int (2 : Int32)), .unset] [(.int (2 : Int32))]))
    refine own_st (fun _ k => XS.bipush X76.here hx rfl (hb hby at_154) k) ?_
    show own_go _ _ _ _ _ _ _ (T76.setTop (mkF m 156 #[.val (.int p0), .val (.ref b20), .val (.int (2 : Int32)), .unset] [(.int (14 : Int32)), (.int (2 : Int32))]))
    refine own_st (fun _ k => XS.icmpYes X76.here hx rfl (pc0 := 156) (pc' := 169) rfl (hb hby at_156) rfl (by decide) (by decide) (by decide) k) ?_
    show own_go _ _ _ _ _ _ _ (T76.setTop (mkF m 169 #[.val (.int p0), .val (.ref b20), .val (.int (2 : Int32)), .unset] []))
    refine own_st (fun _ k => XS.iconst X76.here hx rfl (hb hby at_169) k) ?_
    show own_go _ _ _ _ _ _ _ (T76.setTop (mkF m 170 #[.val (.int p0), .val (.ref b20), .val (.int (2 : Int32)), .unset] [(.int (0 : Int32))]))
    refine own_st (fun _ k => XS.istoreN X76.here hx rfl (hb hby at_170) rfl (l' := #[.val (.int p0), .val (.ref b20), .val (.int (2 : Int32)), .val (.int (0 : Int32))]) rfl k) ?_
    show own_go _ _ _ _ _ _ _ (T76.setTop (mkF m 171 #[.val (.int p0), .val (.ref b20), .val (.int (2 : Int32)), .val (.int (0 : Int32))] []))
    refine own_st (fun _ k => XS.aloadN X76.here hx rfl (hb hby at_171) rfl rfl k) ?_
    show own_go _ _ _ _ _ _ _ (T76.setTop (mkF m 172 #[.val (.int p0), .val (.ref b20), .val (.int (2 : Int32)), .val (.int (0 : Int32))] [(.ref b20)]))
    refine own_st (fun _ k => XS.iloadN X76.here hx rfl (hb hby at_172) rfl k) ?_
    show own_go _ _ _ _ _ _ _ (T76.setTop (mkF m 173 #[.val (.int p0), .val (.ref b20), .val (.int (2 : Int32)), .val (.int (0 : Int32))] [(.int (2 : Int32)), (.ref b20)]))
    refine own_st (own_get X76 hx hZ e76 V76 rfl (j := (2 : Int32)) (by decide) (v := (.ref c_BOOLEAN)) rfl (g := (mkF m 173 #[.val (.int p0), .val (.ref b20), .val (.int (2 : Int32)), .val (.int (0 : Int32))] [(.int (2 : Int32)), (.ref b20)])) rfl rfl (hb hby at_173)) ?_
    show own_go _ _ _ _ _ _ _ (T76.setTop (mkF m 174 #[.val (.int p0), .val (.ref b20), .val (.int (2 : Int32)), .val (.int (0 : Int32))] [(.ref c_BOOLEAN)]))
    obtain ⟨v80, T80, L80, X80, hQ80, st80⟩ := own_callV X76 hx hZ (argsL := []) (rest := []) (rm1_2 l Z a0 hw c_BINARY c_BITS c_BOOLEAN c_DECIMAL64 c_EMPTY c_ENUMERATION c_IDENTITYREF c_INSTANCE_IDENTIFIER c_INT8 c_INT16 c_INT32 c_INT64 c_LEAFREF c_STRING c_UINT8 c_UINT16 c_UINT32 c_UINT64 c_UNION o_c_UINT16_min o_c_UINT64_min o_c_INT64_min o_c_INT32_min o_c_INT8_min o_c_UINT8_min o_c_UINT32_min o_c_INT16_min h76 n0 O77 hS) hown (hw _ (List.mem_of_getElem? (i := 43) rfl)) (hw _ (List.mem_of_getElem? (i := 44) rfl)) (notFace_of_selects (args := #[]) (mvT hZ (hw _ (List.mem_of_getElem? (i := 46) rfl)))) (hw _ (List.mem_of_getElem? (i := 46) rfl)) (hw _ (List.mem_of_getElem? (i := 45) rfl)) (hw _ (List.mem_of_getElem? (i := 3) rfl)) (hw _ (List.mem_of_getElem? (i := 47) rfl)) (by decide) e76 (hS.2.2.2.2.2.1.ext O77.2) (g := (mkF m 174 #[.val (.int p0), .val (.ref b20), .val (.int (2 : Int32)), .val (.int (0 : Int32))] [(.ref c_BOOLEAN)])) rfl (by rw [hml]; rfl) (lenOf own_pd__28_29Z rfl) rfl (W := 0) (by show 2 * 0 + _ ≤ _; exact Nat.le_of_eq rfl) (hb hby at_174) (by decide) (by decide) (by decide) (by decide)
    obtain ⟨rfl, Nq80, eq80⟩ := hQ80
    have N80 := Fr.app N76 Nq80
    refine own_st st80 ?_
    show own_go _ _ _ _ _ _ _ (T80.setTop (mkF m 177 #[.val (.int p0), .val (.ref b20), .val (.int (2 : Int32)), .val (.int (0 : Int32))] [(.int (0 : Int32))]))
    refine own_st (fun _ k => XS.iloadN X80.here hx rfl (hb hby at_177) rfl k) ?_
    show own_go _ _ _ _ _ _ _ (T80.setTop (mkF m 178 #[.val (.int p0), .val (.ref b20), .val (.int (2 : Int32)), .val (.int (0 : Int32))] [(.int (0 : Int32)), (.int (0 : Int32))]))
    refine own_st (fun _ k => XS.icmpNo X80.here hx rfl (hb hby at_178) rfl (by decide) k) ?_
    show own_go _ _ _ _ _ _ _ (T80.setTop (mkF m 181 #[.val (.int p0), .val (.ref b20), .val (.int (2 : Int32)), .val (.int (0 : Int32))] []))
    refine own_st (fun _ k => XS.iconst X80.here hx rfl (hb hby at_181) k) ?_
    show own_go _ _ _ _ _ _ _ (T80.setTop (mkF m 182 #[.val (.int p0), .val (.ref b20), .val (.int (2 : Int32)), .val (.int (0 : Int32))] [(.int (1 : Int32))]))
    refine own_st (fun _ k => XS.goto X80.here hx rfl (pc0 := 182) (pc' := 186) rfl (hb hby at_182) (by decide) (by decide) k) ?_
    show own_go _ _ _ _ _ _ _ (T80.setTop (mkF m 186 #[.val (.int p0), .val (.ref b20), .val (.int (2 : Int32)), .val (.int (0 : Int32))] [(.int (1 : Int32))]))
    exact own_retN X80 hx hlk (t := .boolean) hret (by simp) rfl (hb hby at_186) (by decide) (by decide) (⟨rfl, N80⟩)
  · skip
    rw [q]
    show own_go _ _ _ _ _ _ _ (T76.setTop (mkF m 140 #[.val (.int p0), .val (.ref b20), .unset, .unset] [(.int (3 : Int32))]))
    refine own_st (fun _ k => XS.istoreN X76.here hx rfl (hb hby at_140) rfl (l' := #[.val (.int p0), .val (.ref b20), .val (.int (3 : Int32)), .unset]) rfl k) ?_
    show own_go _ _ _ _ _ _ _ (T76.setTop (mkF m 141 #[.val (.int p0), .val (.ref b20), .val (.int (3 : Int32)), .unset] []))
    refine own_st (fun _ k => XS.iloadN X76.here hx rfl (hb hby at_141) rfl k) ?_
    show own_go _ _ _ _ _ _ _ (T76.setTop (mkF m 142 #[.val (.int p0), .val (.ref b20), .val (.int (3 : Int32)), .unset] [(.int (3 : Int32))]))
    refine own_st (fun _ k => XS.bipush X76.here hx rfl (hb hby at_142) k) ?_
    show own_go _ _ _ _ _ _ _ (T76.setTop (mkF m 144 #[.val (.int p0), .val (.ref b20), .val (.int (3 : Int32)), .unset] [(.int (8 : Int32)), (.int (3 : Int32))]))
    refine own_st (fun _ k => XS.icmpYes X76.here hx rfl (pc0 := 144) (pc' := 153) rfl (hb hby at_144) rfl (by decide) (by decide) (by decide) k) ?_
    show own_go _ _ _ _ _ _ _ (T76.setTop (mkF m 153 #[.val (.int p0), .val (.ref b20), .val (.int (3 : Int32)), .unset] []))
    refine own_st (fun _ k => XS.iloadN X76.here hx rfl (hb hby at_153) rfl k) ?_
    show own_go _ _ _ _ _ _ _ (T76.setTop (mkF m 154 #[.val (.int p0), .val (.ref b20), .val (.int (3 : Int32)), .unset] [(.int (3 : Int32))]))
    refine own_st (fun _ k => XS.bipush X76.here hx rfl (hb hby at_154) k) ?_
    show own_go _ _ _ _ _ _ _ (T76.setTop (mkF m 156 #[.val (.int p0), .val (.ref b20), .val (.int (3 : Int32)), .unset] [(.int (14 : Int32)), (.int (3 : Int32))]))
    refine own_st (fun _ k => XS.icmpYes X76.here hx rfl (pc0 := 156) (pc' := 169) rfl (hb hby at_156) rfl (by decide) (by decide) (by decide) k) ?_
    show own_go _ _ _ _ _ _ _ (T76.setTop (mkF m 169 #[.val (.int p0), .val (.ref b20), .val (.int (3 : Int32)), .unset] []))
    refine own_st (fun _ k => XS.iconst X76.here hx rfl (hb hby at_169) k) ?_
    show own_go _ _ _ _ _ _ _ (T76.setTop (mkF m 170 #[.val (.int p0), .val (.ref b20), .val (.int (3 : Int32)), .unset] [(.int (0 : Int32))]))
    refine own_st (fun _ k => XS.istoreN X76.here hx rfl (hb hby at_170) rfl (l' := #[.val (.int p0), .val (.ref b20), .val (.int (3 : Int32)), .val (.int (0 : Int32))]) rfl k) ?_
    show own_go _ _ _ _ _ _ _ (T76.setTop (mkF m 171 #[.val (.int p0), .val (.ref b20), .val (.int (3 : Int32)), .val (.int (0 : Int32))] []))
    refine own_st (fun _ k => XS.aloadN X76.here hx rfl (hb hby at_171) rfl rfl k) ?_
    show own_go _ _ _ _ _ _ _ (T76.setTop (mkF m 172 #[.val (.int p0), .val (.ref b20), .val (.int (3 : Int32)), .val (.int (0 : Int32))] [(.ref b20)]))
    refine own_st (fun _ k => XS.iloadN X76.here hx rfl (hb hby at_172) rfl k) ?_
    show own_go _ _ _ _ _ _ _ (T76.setTop (mkF m 173 #[.val (.int p0), .val (.ref b20), .val (.int (3 : Int32)), .val (.int (0 : Int32))] [(.int (3 : Int32)), (.ref b20)]))
    refine own_st (own_get X76 hx hZ e76 V76 rfl (j := (3 : Int32)) (by decide) (v := (.ref c_DECIMAL64)) rfl (g := (mkF m 173 #[.val (.int p0), .val (.ref b20), .val (.int (3 : Int32)), .val (.int (0 : Int32))] [(.int (3 : Int32)), (.ref b20)])) rfl rfl (hb hby at_173)) ?_
    show own_go _ _ _ _ _ _ _ (T76.setTop (mkF m 174 #[.val (.int p0), .val (.ref b20), .val (.int (3 : Int32)), .val (.int (0 : Int32))] [(.ref c_DECIMAL64)]))
    obtain ⟨v81, T81, L81, X81, hQ81, st81⟩ := own_callV X76 hx hZ (argsL := []) (rest := []) (rm1_3 l Z a0 hw c_BINARY c_BITS c_BOOLEAN c_DECIMAL64 c_EMPTY c_ENUMERATION c_IDENTITYREF c_INSTANCE_IDENTIFIER c_INT8 c_INT16 c_INT32 c_INT64 c_LEAFREF c_STRING c_UINT8 c_UINT16 c_UINT32 c_UINT64 c_UNION o_c_UINT16_min o_c_UINT64_min o_c_INT64_min o_c_INT32_min o_c_INT8_min o_c_UINT8_min o_c_UINT32_min o_c_INT16_min h76 n0 O77 hS) hown (hw _ (List.mem_of_getElem? (i := 43) rfl)) (hw _ (List.mem_of_getElem? (i := 44) rfl)) (notFace_of_selects (args := #[]) (mvT hZ (hw _ (List.mem_of_getElem? (i := 46) rfl)))) (hw _ (List.mem_of_getElem? (i := 46) rfl)) (hw _ (List.mem_of_getElem? (i := 45) rfl)) (hw _ (List.mem_of_getElem? (i := 3) rfl)) (hw _ (List.mem_of_getElem? (i := 47) rfl)) (by decide) e76 (hS.2.2.2.2.2.2.2.1.ext O77.2) (g := (mkF m 174 #[.val (.int p0), .val (.ref b20), .val (.int (3 : Int32)), .val (.int (0 : Int32))] [(.ref c_DECIMAL64)])) rfl (by rw [hml]; rfl) (lenOf own_pd__28_29Z rfl) rfl (W := 0) (by show 2 * 0 + _ ≤ _; exact Nat.le_of_eq rfl) (hb hby at_174) (by decide) (by decide) (by decide) (by decide)
    obtain ⟨rfl, Nq81, eq81⟩ := hQ81
    have N81 := Fr.app N76 Nq81
    refine own_st st81 ?_
    show own_go _ _ _ _ _ _ _ (T81.setTop (mkF m 177 #[.val (.int p0), .val (.ref b20), .val (.int (3 : Int32)), .val (.int (0 : Int32))] [(.int (0 : Int32))]))
    refine own_st (fun _ k => XS.iloadN X81.here hx rfl (hb hby at_177) rfl k) ?_
    show own_go _ _ _ _ _ _ _ (T81.setTop (mkF m 178 #[.val (.int p0), .val (.ref b20), .val (.int (3 : Int32)), .val (.int (0 : Int32))] [(.int (0 : Int32)), (.int (0 : Int32))]))
    refine own_st (fun _ k => XS.icmpNo X81.here hx rfl (hb hby at_178) rfl (by decide) k) ?_
    show own_go _ _ _ _ _ _ _ (T81.setTop (mkF m 181 #[.val (.int p0), .val (.ref b20), .val (.int (3 : Int32)), .val (.int (0 : Int32))] []))
    refine own_st (fun _ k => XS.iconst X81.here hx rfl (hb hby at_181) k) ?_
    show own_go _ _ _ _ _ _ _ (T81.setTop (mkF m 182 #[.val (.int p0), .val (.ref b20), .val (.int (3 : Int32)), .val (.int (0 : Int32))] [(.int (1 : Int32))]))
    refine own_st (fun _ k => XS.goto X81.here hx rfl (pc0 := 182) (pc' := 186) rfl (hb hby at_182) (by decide) (by decide) k) ?_
    show own_go _ _ _ _ _ _ _ (T81.setTop (mkF m 186 #[.val (.int p0), .val (.ref b20), .val (.int (3 : Int32)), .val (.int (0 : Int32))] [(.int (1 : Int32))]))
    exact own_retN X81 hx hlk (t := .boolean) hret (by simp) rfl (hb hby at_186) (by decide) (by decide) (⟨rfl, N81⟩)
  · skip
    rw [q]
    show own_go _ _ _ _ _ _ _ (T76.setTop (mkF m 140 #[.val (.int p0), .val (.ref b20), .unset, .unset] [(.int (4 : Int32))]))
    refine own_st (fun _ k => XS.istoreN X76.here hx rfl (hb hby at_140) rfl (l' := #[.val (.int p0), .val (.ref b20), .val (.int (4 : Int32)), .unset]) rfl k) ?_
    show own_go _ _ _ _ _ _ _ (T76.setTop (mkF m 141 #[.val (.int p0), .val (.ref b20), .val (.int (4 : Int32)), .unset] []))
    refine own_st (fun _ k => XS.iloadN X76.here hx rfl (hb hby at_141) rfl k) ?_
    show own_go _ _ _ _ _ _ _ (T76.setTop (mkF m 142 #[.val (.int p0), .val (.ref b20), .val (.int (4 : Int32)), .unset] [(.int (4 : Int32))]))
    refine own_st (fun _ k => XS.bipush X76.here hx rfl (hb hby at_142) k) ?_
    show own_go _ _ _ _ _ _ _ (T76.setTop (mkF m 144 #[.val (.int p0), .val (.ref b20), .val (.int (4 : Int32)), .unset] [(.int (8 : Int32)), (.int (4 : Int32))]))
    refine own_st (fun _ k => XS.icmpYes X76.here hx rfl (pc0 := 144) (pc' := 153) rfl (hb hby at_144) rfl (by decide) (by decide) (by decide) k) ?_
    show own_go _ _ _ _ _ _ _ (T76.setTop (mkF m 153 #[.val (.int p0), .val (.ref b20), .val (.int (4 : Int32)), .unset] []))
    refine own_st (fun _ k => XS.iloadN X76.here hx rfl (hb hby at_153) rfl k) ?_
    show own_go _ _ _ _ _ _ _ (T76.setTop (mkF m 154 #[.val (.int p0), .val (.ref b20), .val (.int (4 : Int32)), .unset] [(.int (4 : Int32))]))
    refine own_st (fun _ k => XS.bipush X76.here hx rfl (hb hby at_154) k) ?_
    show own_go _ _ _ _ _ _ _ (T76.setTop (mkF m 156 #[.val (.int p0), .val (.ref b20), .val (.int (4 : Int32)), .unset] [(.int (14 : Int32)), (.int (4 : Int32))]))
    refine own_st (fun _ k => XS.icmpYes X76.here hx rfl (pc0 := 156) (pc' := 169) rfl (hb hby at_156) rfl (by decide) (by decide) (by decide) k) ?_
    show own_go _ _ _ _ _ _ _ (T76.setTop (mkF m 169 #[.val (.int p0), .val (.ref b20), .val (.int (4 : Int32)), .unset] []))
    refine own_st (fun _ k => XS.iconst X76.here hx rfl (hb hby at_169) k) ?_
    show own_go _ _ _ _ _ _ _ (T76.setTop (mkF m 170 #[.val (.int p0), .val (.ref b20), .val (.int (4 : Int32)), .unset] [(.int (0 : Int32))]))
    refine own_st (fun _ k => XS.istoreN X76.here hx rfl (hb hby at_170) rfl (l' := #[.val (.int p0), .val (.ref b20), .val (.int (4 : Int32)), .val (.int (0 : Int32))]) rfl k) ?_
    show own_go _ _ _ _ _ _ _ (T76.setTop (mkF m 171 #[.val (.int p0), .val (.ref b20), .val (.int (4 : Int32)), .val (.int (0 : Int32))] []))
    refine own_st (fun _ k => XS.aloadN X76.here hx rfl (hb hby at_171) rfl rfl k) ?_
    show own_go _ _ _ _ _ _ _ (T76.setTop (mkF m 172 #[.val (.int p0), .val (.ref b20), .val (.int (4 : Int32)), .val (.int (0 : Int32))] [(.ref b20)]))
    refine own_st (fun _ k => XS.iloadN X76.here hx rfl (hb hby at_172) rfl k) ?_
    show own_go _ _ _ _ _ _ _ (T76.setTop (mkF m 173 #[.val (.int p0), .val (.ref b20), .val (.int (4 : Int32)), .val (.int (0 : Int32))] [(.int (4 : Int32)), (.ref b20)]))
    refine own_st (own_get X76 hx hZ e76 V76 rfl (j := (4 : Int32)) (by decide) (v := (.ref c_EMPTY)) rfl (g := (mkF m 173 #[.val (.int p0), .val (.ref b20), .val (.int (4 : Int32)), .val (.int (0 : Int32))] [(.int (4 : Int32)), (.ref b20)])) rfl rfl (hb hby at_173)) ?_
    show own_go _ _ _ _ _ _ _ (T76.setTop (mkF m 174 #[.val (.int p0), .val (.ref b20), .val (.int (4 : Int32)), .val (.int (0 : Int32))] [(.ref c_EMPTY)]))
    obtain ⟨v82, T82, L82, X82, hQ82, st82⟩ := own_callV X76 hx hZ (argsL := []) (rest := []) (rm1_4 l Z a0 hw c_BINARY c_BITS c_BOOLEAN c_DECIMAL64 c_EMPTY c_ENUMERATION c_IDENTITYREF c_INSTANCE_IDENTIFIER c_INT8 c_INT16 c_INT32 c_INT64 c_LEAFREF c_STRING c_UINT8 c_UINT16 c_UINT32 c_UINT64 c_UNION o_c_UINT16_min o_c_UINT64_min o_c_INT64_min o_c_INT32_min o_c_INT8_min o_c_UINT8_min o_c_UINT32_min o_c_INT16_min h76 n0 O77 hS) hown (hw _ (List.mem_of_getElem? (i := 43) rfl)) (hw _ (List.mem_of_getElem? (i := 44) rfl)) (notFace_of_selects (args := #[]) (mvT hZ (hw _ (List.mem_of_getElem? (i := 46) rfl)))) (hw _ (List.mem_of_getElem? (i := 46) rfl)) (hw _ (List.mem_of_getElem? (i := 45) rfl)) (hw _ (List.mem_of_getElem? (i := 3) rfl)) (hw _ (List.mem_of_getElem? (i := 47) rfl)) (by decide) e76 (hS.2.2.2.2.2.2.2.2.2.1.ext O77.2) (g := (mkF m 174 #[.val (.int p0), .val (.ref b20), .val (.int (4 : Int32)), .val (.int (0 : Int32))] [(.ref c_EMPTY)])) rfl (by rw [hml]; rfl) (lenOf own_pd__28_29Z rfl) rfl (W := 0) (by show 2 * 0 + _ ≤ _; exact Nat.le_of_eq rfl) (hb hby at_174) (by decide) (by decide) (by decide) (by decide)
    obtain ⟨rfl, Nq82, eq82⟩ := hQ82
    have N82 := Fr.app N76 Nq82
    refine own_st st82 ?_
    show own_go _ _ _ _ _ _ _ (T82.setTop (mkF m 177 #[.val (.int p0), .val (.ref b20), .val (.int (4 : Int32)), .val (.int (0 : Int32))] [(.int (0 : Int32))]))
    refine own_st (fun _ k => XS.iloadN X82.here hx rfl (hb hby at_177) rfl k) ?_
    show own_go _ _ _ _ _ _ _ (T82.setTop (mkF m 178 #[.val (.int p0), .val (.ref b20), .val (.int (4 : Int32)), .val (.int (0 : Int32))] [(.int (0 : Int32)), (.int (0 : Int32))]))
    refine own_st (fun _ k => XS.icmpNo X82.here hx rfl (hb hby at_178) rfl (by decide) k) ?_
    show own_go _ _ _ _ _ _ _ (T82.setTop (mkF m 181 #[.val (.int p0), .val (.ref b20), .val (.int (4 : Int32)), .val (.int (0 : Int32))] []))
    refine own_st (fun _ k => XS.iconst X82.here hx rfl (hb hby at_181) k) ?_
    show own_go _ _ _ _ _ _ _ (T82.setTop (mkF m 182 #[.val (.int p0), .val (.ref b20), .val (.int (4 : Int32)), .val (.int (0 : Int32))] [(.int (1 : Int32))]))
    refine own_st (fun _ k => XS.goto X82.here hx rfl (pc0 := 182) (pc' := 186) rfl (hb hby at_182) (by decide) (by decide) k) ?_
    show own_go _ _ _ _ _ _ _ (T82.setTop (mkF m 186 #[.val (.int p0), .val (.ref b20), .val (.int (4 : Int32)), .val (.int (0 : Int32))] [(.int (1 : Int32))]))
    exact own_retN X82 hx hlk (t := .boolean) hret (by simp) rfl (hb hby at_186) (by decide) (by decide) (⟨rfl, N82⟩)
  · skip
    rw [q]
    show own_go _ _ _ _ _ _ _ (T76.setTop (mkF m 140 #[.val (.int p0), .val (.ref b20), .unset, .unset] [(.int (5 : Int32))]))
    refine own_st (fun _ k => XS.istoreN X76.here hx rfl (hb hby at_140) rfl (l' := #[.val (.int p0), .val (.ref b20), .val (.int (5 : Int32)), .unset]) rfl k) ?_
    show own_go _ _ _ _ _ _ _ (T76.setTop (mkF m 141 #[.val (.int p0), .val (.ref b20), .val (.int (5 : Int32)), .unset] []))
    refine own_st (fun _ k => XS.iloadN X76.here hx rfl (hb hby at_141) rfl k) ?_
    show own_go _ _ _ _ _ _ _ (T76.setTop (mkF m 142 #[.val (.int p0), .val (.ref b20), .val (.int (5 : Int32)), .unset] [(.int (5 : Int32))]))
    refine own_st (fun _ k => XS.bipush X76.here hx rfl (hb hby at_142) k) ?_
    show own_go _ _ _ _ _ _ _ (T76.setTop (mkF m 144 #[.val (.int p0), .val (.ref b20), .val (.int (5 : Int32)), .unset] [(.int (8 : Int32)), (.int (5 : Int32))]))
    refine own_st (fun _ k => XS.icmpYes X76.here hx rfl (pc0 := 144) (pc' := 153) rfl (hb hby at_144) rfl (by decide) (by decide) (by decide) k) ?_
    show own_go _ _ _ _ _ _ _ (T76.setTop (mkF m 153 #[.val (.int p0), .val (.ref b20), .val (.int (5 : Int32)), .unset] []))
    refine own_st (fun _ k => XS.iloadN X76.here hx rfl (hb hby at_153) rfl k) ?_
    show own_go _ _ _ _ _ _ _ (T76.setTop (mkF m 154 #[.val (.int p0), .val (.ref b20), .val (.int (5 : Int32)), .unset] [(.int (5 : Int32))]))
    refine own_st (fun _ k => XS.bipush X76.here hx rfl (hb hby at_154) k) ?_
    show own_go _ _ _ _ _ _ _ (T76.setTop (mkF m 156 #[.val (.int p0), .val (.ref b20), .val (.int (5 : Int32)), .unset] [(.int (14 : Int32)), (.int (5 : Int32))]))
    refine own_st (fun _ k => XS.icmpYes X76.here hx rfl (pc0 := 156) (pc' := 169) rfl (hb hby at_156) rfl (by decide) (by decide) (by decide) k) ?_
    show own_go _ _ _ _ _ _ _ (T76.setTop (mkF m 169 #[.val (.int p0), .val (.ref b20), .val (.int (5 : Int32)), .unset] []))
    refine own_st (fun _ k => XS.iconst X76.here hx rfl (hb hby at_169) k) ?_
    show own_go _ _ _ _ _ _ _ (T76.setTop (mkF m 170 #[.val (.int p0), .val (.ref b20), .val (.int (5 : Int32)), .unset] [(.int (0 : Int32))]))
    refine own_st (fun _ k => XS.istoreN X76.here hx rfl (hb hby at_170) rfl (l' := #[.val (.int p0), .val (.ref b20), .val (.int (5 : Int32)), .val (.int (0 : Int32))]) rfl k) ?_
    show own_go _ _ _ _ _ _ _ (T76.setTop (mkF m 171 #[.val (.int p0), .val (.ref b20), .val (.int (5 : Int32)), .val (.int (0 : Int32))] []))
    refine own_st (fun _ k => XS.aloadN X76.here hx rfl (hb hby at_171) rfl rfl k) ?_
    show own_go _ _ _ _ _ _ _ (T76.setTop (mkF m 172 #[.val (.int p0), .val (.ref b20), .val (.int (5 : Int32)), .val (.int (0 : Int32))] [(.ref b20)]))
    refine own_st (fun _ k => XS.iloadN X76.here hx rfl (hb hby at_172) rfl k) ?_
    show own_go _ _ _ _ _ _ _ (T76.setTop (mkF m 173 #[.val (.int p0), .val (.ref b20), .val (.int (5 : Int32)), .val (.int (0 : Int32))] [(.int (5 : Int32)), (.ref b20)]))
    refine own_st (own_get X76 hx hZ e76 V76 rfl (j := (5 : Int32)) (by decide) (v := (.ref c_ENUMERATION)) rfl (g := (mkF m 173 #[.val (.int p0), .val (.ref b20), .val (.int (5 : Int32)), .val (.int (0 : Int32))] [(.int (5 : Int32)), (.ref b20)])) rfl rfl (hb hby at_173)) ?_
    show own_go _ _ _ _ _ _ _ (T76.setTop (mkF m 174 #[.val (.int p0), .val (.ref b20), .val (.int (5 : Int32)), .val (.int (0 : Int32))] [(.ref c_ENUMERATION)]))
    obtain ⟨v83, T83, L83, X83, hQ83, st83⟩ := own_callV X76 hx hZ (argsL := []) (rest := []) (rm1_5 l Z a0 hw c_BINARY c_BITS c_BOOLEAN c_DECIMAL64 c_EMPTY c_ENUMERATION c_IDENTITYREF c_INSTANCE_IDENTIFIER c_INT8 c_INT16 c_INT32 c_INT64 c_LEAFREF c_STRING c_UINT8 c_UINT16 c_UINT32 c_UINT64 c_UNION o_c_UINT16_min o_c_UINT64_min o_c_INT64_min o_c_INT32_min o_c_INT8_min o_c_UINT8_min o_c_UINT32_min o_c_INT16_min h76 n0 O77 hS) hown (hw _ (List.mem_of_getElem? (i := 43) rfl)) (hw _ (List.mem_of_getElem? (i := 44) rfl)) (notFace_of_selects (args := #[]) (mvT hZ (hw _ (List.mem_of_getElem? (i := 46) rfl)))) (hw _ (List.mem_of_getElem? (i := 46) rfl)) (hw _ (List.mem_of_getElem? (i := 45) rfl)) (hw _ (List.mem_of_getElem? (i := 3) rfl)) (hw _ (List.mem_of_getElem? (i := 47) rfl)) (by decide) e76 (hS.2.2.2.2.2.2.2.2.2.2.2.1.ext O77.2) (g := (mkF m 174 #[.val (.int p0), .val (.ref b20), .val (.int (5 : Int32)), .val (.int (0 : Int32))] [(.ref c_ENUMERATION)])) rfl (by rw [hml]; rfl) (lenOf own_pd__28_29Z rfl) rfl (W := 0) (by show 2 * 0 + _ ≤ _; exact Nat.le_of_eq rfl) (hb hby at_174) (by decide) (by decide) (by decide) (by decide)
    obtain ⟨rfl, Nq83, eq83⟩ := hQ83
    have N83 := Fr.app N76 Nq83
    refine own_st st83 ?_
    show own_go _ _ _ _ _ _ _ (T83.setTop (mkF m 177 #[.val (.int p0), .val (.ref b20), .val (.int (5 : Int32)), .val (.int (0 : Int32))] [(.int (0 : Int32))]))
    refine own_st (fun _ k => XS.iloadN X83.here hx rfl (hb hby at_177) rfl k) ?_
    show own_go _ _ _ _ _ _ _ (T83.setTop (mkF m 178 #[.val (.int p0), .val (.ref b20), .val (.int (5 : Int32)), .val (.int (0 : Int32))] [(.int (0 : Int32)), (.int (0 : Int32))]))
    refine own_st (fun _ k => XS.icmpNo X83.here hx rfl (hb hby at_178) rfl (by decide) k) ?_
    show own_go _ _ _ _ _ _ _ (T83.setTop (mkF m 181 #[.val (.int p0), .val (.ref b20), .val (.int (5 : Int32)), .val (.int (0 : Int32))] []))
    refine own_st (fun _ k => XS.iconst X83.here hx rfl (hb hby at_181) k) ?_
    show own_go _ _ _ _ _ _ _ (T83.setTop (mkF m 182 #[.val (.int p0), .val (.ref b20), .val (.int (5 : Int32)), .val (.int (0 : Int32))] [(.int (1 : Int32))]))
    refine own_st (fun _ k => XS.goto X83.here hx rfl (pc0 := 182) (pc' := 186) rfl (hb hby at_182) (by decide) (by decide) k) ?_
    show own_go _ _ _ _ _ _ _ (T83.setTop (mkF m 186 #[.val (.int p0), .val (.ref b20), .val (.int (5 : Int32)), .val (.int (0 : Int32))] [(.int (1 : Int32))]))
    exact own_retN X83 hx hlk (t := .boolean) hret (by simp) rfl (hb hby at_186) (by decide) (by decide) (⟨rfl, N83⟩)
  · skip
    rw [q]
    show own_go _ _ _ _ _ _ _ (T76.setTop (mkF m 140 #[.val (.int p0), .val (.ref b20), .unset, .unset] [(.int (6 : Int32))]))
    refine own_st (fun _ k => XS.istoreN X76.here hx rfl (hb hby at_140) rfl (l' := #[.val (.int p0), .val (.ref b20), .val (.int (6 : Int32)), .unset]) rfl k) ?_
    show own_go _ _ _ _ _ _ _ (T76.setTop (mkF m 141 #[.val (.int p0), .val (.ref b20), .val (.int (6 : Int32)), .unset] []))
    refine own_st (fun _ k => XS.iloadN X76.here hx rfl (hb hby at_141) rfl k) ?_
    show own_go _ _ _ _ _ _ _ (T76.setTop (mkF m 142 #[.val (.int p0), .val (.ref b20), .val (.int (6 : Int32)), .unset] [(.int (6 : Int32))]))
    refine own_st (fun _ k => XS.bipush X76.here hx rfl (hb hby at_142) k) ?_
    show own_go _ _ _ _ _ _ _ (T76.setTop (mkF m 144 #[.val (.int p0), .val (.ref b20), .val (.int (6 : Int32)), .unset] [(.int (8 : Int32)), (.int (6 : Int32))]))
    refine own_st (fun _ k => XS.icmpYes X76.here hx rfl (pc0 := 144) (pc' := 153) rfl (hb hby at_144) rfl (by decide) (by decide) (by decide) k) ?_
    show own_go _ _ _ _ _ _ _ (T76.setTop (mkF m 153 #[.val (.int p0), .val (.ref b20), .val (.int (6 : Int32)), .unset] []))
    refine own_st (fun _ k => XS.iloadN X76.here hx rfl (hb hby at_153) rfl k) ?_
    show own_go _ _ _ _ _ _ _ (T76.setTop (mkF m 154 #[.val (.int p0), .val (.ref b20), .val (.int (6 : Int32)), .unset] [(.int (6 : Int32))]))
    refine own_st (fun _ k => XS.bipush X76.here hx rfl (hb hby at_154) k) ?_
    show own_go _ _ _ _ _ _ _ (T76.setTop (mkF m 156 #[.val (.int p0), .val (.ref b20), .val (.int (6 : Int32)), .unset] [(.int (14 : Int32)), (.int (6 : Int32))]))
    refine own_st (fun _ k => XS.icmpYes X76.here hx rfl (pc0 := 156) (pc' := 169) rfl (hb hby at_156) rfl (by decide) (by decide) (by decide) k) ?_
    show own_go _ _ _ _ _ _ _ (T76.setTop (mkF m 169 #[.val (.int p0), .val (.ref b20), .val (.int (6 : Int32)), .unset] []))
    refine own_st (fun _ k => XS.iconst X76.here hx rfl (hb hby at_169) k) ?_
    show own_go _ _ _ _ _ _ _ (T76.setTop (mkF m 170 #[.val (.int p0), .val (.ref b20), .val (.int (6 : Int32)), .unset] [(.int (0 : Int32))]))
    refine own_st (fun _ k => XS.istoreN X76.here hx rfl (hb hby at_170) rfl (l' := #[.val (.int p0), .val (.ref b20), .val (.int (6 : Int32)), .val (.int (0 : Int32))]) rfl k) ?_
    show own_go _ _ _ _ _ _ _ (T76.setTop (mkF m 171 #[.val (.int p0), .val (.ref b20), .val (.int (6 : Int32)), .val (.int (0 : Int32))] []))
    refine own_st (fun _ k => XS.aloadN X76.here hx rfl (hb hby at_171) rfl rfl k) ?_
    show own_go _ _ _ _ _ _ _ (T76.setTop (mkF m 172 #[.val (.int p0), .val (.ref b20), .val (.int (6 : Int32)), .val (.int (0 : Int32))] [(.ref b20)]))
    refine own_st (fun _ k => XS.iloadN X76.here hx rfl (hb hby at_172) rfl k) ?_
    show own_go _ _ _ _ _ _ _ (T76.setTop (mkF m 173 #[.val (.int p0), .val (.ref b20), .val (.int (6 : Int32)), .val (.int (0 : Int32))] [(.int (6 : Int32)), (.ref b20)]))
    refine own_st (own_get X76 hx hZ e76 V76 rfl (j := (6 : Int32)) (by decide) (v := (.ref c_IDENTITYREF)) rfl (g := (mkF m 173 #[.val (.int p0), .val (.ref b20), .val (.int (6 : Int32)), .val (.int (0 : Int32))] [(.int (6 : Int32)), (.ref b20)])) rfl rfl (hb hby at_173)) ?_
    show own_go _ _ _ _ _ _ _ (T76.setTop (mkF m 174 #[.val (.int p0), .val (.ref b20), .val (.int (6 : Int32)), .val (.int (0 : Int32))] [(.ref c_IDENTITYREF)]))
    obtain ⟨v84, T84, L84, X84, hQ84, st84⟩ := own_callV X76 hx hZ (argsL := []) (rest := []) (rm1_6 l Z a0 hw c_BINARY c_BITS c_BOOLEAN c_DECIMAL64 c_EMPTY c_ENUMERATION c_IDENTITYREF c_INSTANCE_IDENTIFIER c_INT8 c_INT16 c_INT32 c_INT64 c_LEAFREF c_STRING c_UINT8 c_UINT16 c_UINT32 c_UINT64 c_UNION o_c_UINT16_min o_c_UINT64_min o_c_INT64_min o_c_INT32_min o_c_INT8_min o_c_UINT8_min o_c_UINT32_min o_c_INT16_min h76 n0 O77 hS) hown (hw _ (List.mem_of_getElem? (i := 43) rfl)) (hw _ (List.mem_of_getElem? (i := 44) rfl)) (notFace_of_selects (args := #[]) (mvT hZ (hw _ (List.mem_of_getElem? (i := 46) rfl)))) (hw _ (List.mem_of_getElem? (i := 46) rfl)) (hw _ (List.mem_of_getElem? (i := 45) rfl)) (hw _ (List.mem_of_getElem? (i := 3) rfl)) (hw _ (List.mem_of_getElem? (i := 47) rfl)) (by decide) e76 (hS.2.2.2.2.2.2.2.2.2.2.2.2.2.1.ext O77.2) (g := (mkF m 174 #[.val (.int p0), .val (.ref b20), .val (.int (6 : Int32)), .val (.int (0 : Int32))] [(.ref c_IDENTITYREF)])) rfl (by rw [hml]; rfl) (lenOf own_pd__28_29Z rfl) rfl (W := 0) (by show 2 * 0 + _ ≤ _; exact Nat.le_of_eq rfl) (hb hby at_174) (by decide) (by decide) (by decide) (by decide)
    obtain ⟨rfl, Nq84, eq84⟩ := hQ84
    have N84 := Fr.app N76 Nq84
    refine own_st st84 ?_
    show own_go _ _ _ _ _ _ _ (T84.setTop (mkF m 177 #[.val (.int p0), .val (.ref b20), .val (.int (6 : Int32)), .val (.int (0 : Int32))] [(.int (0 : Int32))]))
    refine own_st (fun _ k => XS.iloadN X84.here hx rfl (hb hby at_177) rfl k) ?_
    show own_go _ _ _ _ _ _ _ (T84.setTop (mkF m 178 #[.val (.int p0), .val (.ref b20), .val (.int (6 : Int32)), .val (.int (0 : Int32))] [(.int (0 : Int32)), (.int (0 : Int32))]))
    refine own_st (fun _ k => XS.icmpNo X84.here hx rfl (hb hby at_178) rfl (by decide) k) ?_
    show own_go _ _ _ _ _ _ _ (T84.setTop (mkF m 181 #[.val (.int p0), .val (.ref b20), .val (.int (6 : Int32)), .val (.int (0 : Int32))] []))
    refine own_st (fun _ k => XS.iconst X84.here hx rfl (hb hby at_181) k) ?_
    show own_go _ _ _ _ _ _ _ (T84.setTop (mkF m 182 #[.val (.int p0), .val (.ref b20), .val (.int (6 : Int32)), .val (.int (0 : Int32))] [(.int (1 : Int32))]))
    refine own_st (fun _ k => XS.goto X84.here hx rfl (pc0 := 182) (pc' := 186) rfl (hb hby at_182) (by decide) (by decide) k) ?_
    show own_go _ _ _ _ _ _ _ (T84.setTop (mkF m 186 #[.val (.int p0), .val (.ref b20), .val (.int (6 : Int32)), .val (.int (0 : Int32))] [(.int (1 : Int32))]))
    exact own_retN X84 hx hlk (t := .boolean) hret (by simp) rfl (hb hby at_186) (by decide) (by decide) (⟨rfl, N84⟩)
  · skip
    rw [q]
    show own_go _ _ _ _ _ _ _ (T76.setTop (mkF m 140 #[.val (.int p0), .val (.ref b20), .unset, .unset] [(.int (7 : Int32))]))
    refine own_st (fun _ k => XS.istoreN X76.here hx rfl (hb hby at_140) rfl (l' := #[.val (.int p0), .val (.ref b20), .val (.int (7 : Int32)), .unset]) rfl k) ?_
    show own_go _ _ _ _ _ _ _ (T76.setTop (mkF m 141 #[.val (.int p0), .val (.ref b20), .val (.int (7 : Int32)), .unset] []))
    refine own_st (fun _ k => XS.iloadN X76.here hx rfl (hb hby at_141) rfl k) ?_
    show own_go _ _ _ _ _ _ _ (T76.setTop (mkF m 142 #[.val (.int p0), .val (.ref b20), .val (.int (7 : Int32)), .unset] [(.int (7 : Int32))]))
    refine own_st (fun _ k => XS.bipush X76.here hx rfl (hb hby at_142) k) ?_
    show own_go _ _ _ _ _ _ _ (T76.setTop (mkF m 144 #[.val (.int p0), .val (.ref b20), .val (.int (7 : Int32)), .unset] [(.int (8 : Int32)), (.int (7 : Int32))]))
    refine own_st (fun _ k => XS.icmpYes X76.here hx rfl (pc0 := 144) (pc' := 153) rfl (hb hby at_144) rfl (by decide) (by decide) (by decide) k) ?_
    show own_go _ _ _ _ _ _ _ (T76.setTop (mkF m 153 #[.val (.int p0), .val (.ref b20), .val (.int (7 : Int32)), .unset] []))
    refine own_st (fun _ k => XS.iloadN X76.here hx rfl (hb hby at_153) rfl k) ?_
    show own_go _ _ _ _ _ _ _ (T76.setTop (mkF m 154 #[.val (.int p0), .val (.ref b20), .val (.int (7 : Int32)), .unset] [(.int (7 : Int32))]))
    refine own_st (fun _ k => XS.bipush X76.here hx rfl (hb hby at_154) k) ?_
    show own_go _ _ _ _ _ _ _ (T76.setTop (mkF m 156 #[.val (.int p0), .val (.ref b20), .val (.int (7 : Int32)), .unset] [(.int (14 : Int32)), (.int (7 : Int32))]))
    refine own_st (fun _ k => XS.icmpYes X76.here hx rfl (pc0 := 156) (pc' := 169) rfl (hb hby at_156) rfl (by decide) (by decide) (by decide) k) ?_
    show own_go _ _ _ _ _ _ _ (T76.setTop (mkF m 169 #[.val (.int p0), .val (.ref b20), .val (.int (7 : Int32)), .unset] []))
    refine own_st (fun _ k => XS.iconst X76.here hx rfl (hb hby at_169) k) ?_
    show own_go _ _ _ _ _ _ _ (T76.setTop (mkF m 170 #[.val (.int p0), .val (.ref b20), .val (.int (7 : Int32)), .unset] [(.int (0 : Int32))]))
    refine own_st (fun _ k => XS.istoreN X76.here hx rfl (hb hby at_170) rfl (l' := #[.val (.int p0), .val (.ref b20), .val (.int (7 : Int32)), .val (.int (0 : Int32))]) rfl k) ?_
    show own_go _ _ _ _ _ _ _ (T76.setTop (mkF m 171 #[.val (.int p0), .val (.ref b20), .val (.int (7 : Int32)), .val (.int (0 : Int32))] []))
    refine own_st (fun _ k => XS.aloadN X76.here hx rfl (hb hby at_171) rfl rfl k) ?_
    show own_go _ _ _ _ _ _ _ (T76.setTop (mkF m 172 #[.val (.int p0), .val (.ref b20), .val (.int (7 : Int32)), .val (.int (0 : Int32))] [(.ref b20)]))
    refine own_st (fun _ k => XS.iloadN X76.here hx rfl (hb hby at_172) rfl k) ?_
    show own_go _ _ _ _ _ _ _ (T76.setTop (mkF m 173 #[.val (.int p0), .val (.ref b20), .val (.int (7 : Int32)), .val (.int (0 : Int32))] [(.int (7 : Int32)), (.ref b20)]))
    refine own_st (own_get X76 hx hZ e76 V76 rfl (j := (7 : Int32)) (by decide) (v := (.ref c_INSTANCE_IDENTIFIER)) rfl (g := (mkF m 173 #[.val (.int p0), .val (.ref b20), .val (.int (7 : Int32)), .val (.int (0 : Int32))] [(.int (7 : Int32)), (.ref b20)])) rfl rfl (hb hby at_173)) ?_
    show own_go _ _ _ _ _ _ _ (T76.setTop (mkF m 174 #[.val (.int p0), .val (.ref b20), .val (.int (7 : Int32)), .val (.int (0 : Int32))] [(.ref c_INSTANCE_IDENTIFIER)]))
    obtain ⟨v85, T85, L85, X85, hQ85, st85⟩ := own_callV X76 hx hZ (argsL := []) (rest := []) (rm1_7 l Z a0 hw c_BINARY c_BITS c_BOOLEAN c_DECIMAL64 c_EMPTY c_ENUMERATION c_IDENTITYREF c_INSTANCE_IDENTIFIER c_INT8 c_INT16 c_INT32 c_INT64 c_LEAFREF c_STRING c_UINT8 c_UINT16 c_UINT32 c_UINT64 c_UNION o_c_UINT16_min o_c_UINT64_min o_c_INT64_min o_c_INT32_min o_c_INT8_min o_c_UINT8_min o_c_UINT32_min o_c_INT16_min h76 n0 O77 hS) hown (hw _ (List.mem_of_getElem? (i := 43) rfl)) (hw _ (List.mem_of_getElem? (i := 44) rfl)) (notFace_of_selects (args := #[]) (mvT hZ (hw _ (List.mem_of_getElem? (i := 46) rfl)))) (hw _ (List.mem_of_getElem? (i := 46) rfl)) (hw _ (List.mem_of_getElem? (i := 45) rfl)) (hw _ (List.mem_of_getElem? (i := 3) rfl)) (hw _ (List.mem_of_getElem? (i := 47) rfl)) (by decide) e76 (hS.2.2.2.2.2.2.2.2.2.2.2.2.2.2.2.1.ext O77.2) (g := (mkF m 174 #[.val (.int p0), .val (.ref b20), .val (.int (7 : Int32)), .val (.int (0 : Int32))] [(.ref c_INSTANCE_IDENTIFIER)])) rfl (by rw [hml]; rfl) (lenOf own_pd__28_29Z rfl) rfl (W := 0) (by show 2 * 0 + _ ≤ _; exact Nat.le_of_eq rfl) (hb hby at_174) (by decide) (by decide) (by decide) (by decide)
    obtain ⟨rfl, Nq85, eq85⟩ := hQ85
    have N85 := Fr.app N76 Nq85
    refine own_st st85 ?_
    show own_go _ _ _ _ _ _ _ (T85.setTop (mkF m 177 #[.val (.int p0), .val (.ref b20), .val (.int (7 : Int32)), .val (.int (0 : Int32))] [(.int (0 : Int32))]))
    refine own_st (fun _ k => XS.iloadN X85.here hx rfl (hb hby at_177) rfl k) ?_
    show own_go _ _ _ _ _ _ _ (T85.setTop (mkF m 178 #[.val (.int p0), .val (.ref b20), .val (.int (7 : Int32)), .val (.int (0 : Int32))] [(.int (0 : Int32)), (.int (0 : Int32))]))
    refine own_st (fun _ k => XS.icmpNo X85.here hx rfl (hb hby at_178) rfl (by decide) k) ?_
    show own_go _ _ _ _ _ _ _ (T85.setTop (mkF m 181 #[.val (.int p0), .val (.ref b20), .val (.int (7 : Int32)), .val (.int (0 : Int32))] []))
    refine own_st (fun _ k => XS.iconst X85.here hx rfl (hb hby at_181) k) ?_
    show own_go _ _ _ _ _ _ _ (T85.setTop (mkF m 182 #[.val (.int p0), .val (.ref b20), .val (.int (7 : Int32)), .val (.int (0 : Int32))] [(.int (1 : Int32))]))
    refine own_st (fun _ k => XS.goto X85.here hx rfl (pc0 := 182) (pc' := 186) rfl (hb hby at_182) (by decide) (by decide) k) ?_
    show own_go _ _ _ _ _ _ _ (T85.setTop (mkF m 186 #[.val (.int p0), .val (.ref b20), .val (.int (7 : Int32)), .val (.int (0 : Int32))] [(.int (1 : Int32))]))
    exact own_retN X85 hx hlk (t := .boolean) hret (by simp) rfl (hb hby at_186) (by decide) (by decide) (⟨rfl, N85⟩)
  · skip
    rw [q]
    show own_go _ _ _ _ _ _ _ (T76.setTop (mkF m 140 #[.val (.int p0), .val (.ref b20), .unset, .unset] [(.int (8 : Int32))]))
    refine own_st (fun _ k => XS.istoreN X76.here hx rfl (hb hby at_140) rfl (l' := #[.val (.int p0), .val (.ref b20), .val (.int (8 : Int32)), .unset]) rfl k) ?_
    show own_go _ _ _ _ _ _ _ (T76.setTop (mkF m 141 #[.val (.int p0), .val (.ref b20), .val (.int (8 : Int32)), .unset] []))
    refine own_st (fun _ k => XS.iloadN X76.here hx rfl (hb hby at_141) rfl k) ?_
    show own_go _ _ _ _ _ _ _ (T76.setTop (mkF m 142 #[.val (.int p0), .val (.ref b20), .val (.int (8 : Int32)), .unset] [(.int (8 : Int32))]))
    refine own_st (fun _ k => XS.bipush X76.here hx rfl (hb hby at_142) k) ?_
    show own_go _ _ _ _ _ _ _ (T76.setTop (mkF m 144 #[.val (.int p0), .val (.ref b20), .val (.int (8 : Int32)), .unset] [(.int (8 : Int32)), (.int (8 : Int32))]))
    refine own_st (fun _ k => XS.icmpNo X76.here hx rfl (hb hby at_144) rfl (by decide) k) ?_
    show own_go _ _ _ _ _ _ _ (T76.setTop (mkF m 147 #[.val (.int p0), .val (.ref b20), .val (.int (8 : Int32)), .unset] []))
    refine own_st (fun _ k => XS.iloadN X76.here hx rfl (hb hby at_147) rfl k) ?_
    show own_go _ _ _ _ _ _ _ (T76.setTop (mkF m 148 #[.val (.int p0), .val (.ref b20), .val (.int (8 : Int32)), .unset] [(.int (8 : Int32))]))
    refine own_st (fun _ k => XS.bipush X76.here hx rfl (hb hby at_148) k) ?_
    show own_go _ _ _ _ _ _ _ (T76.setTop (mkF m 150 #[.val (.int p0), .val (.ref b20), .val (.int (8 : Int32)), .unset] [(.int (11 : Int32)), (.int (8 : Int32))]))
    refine own_st (fun _ k => XS.icmpYes X76.here hx rfl (pc0 := 150) (pc' := 165) rfl (hb hby at_150) rfl (by decide) (by decide) (by decide) k) ?_
    show own_go _ _ _ _ _ _ _ (T76.setTop (mkF m 165 #[.val (.int p0), .val (.ref b20), .val (.int (8 : Int32)), .unset] []))
    refine own_st (fun _ k => XS.iconst X76.here hx rfl (hb hby at_165) k) ?_
    show own_go _ _ _ _ _ _ _ (T76.setTop (mkF m 166 #[.val (.int p0), .val (.ref b20), .val (.int (8 : Int32)), .unset] [(.int (1 : Int32))]))
    refine own_st (fun _ k => XS.goto X76.here hx rfl (pc0 := 166) (pc' := 170) rfl (hb hby at_166) (by decide) (by decide) k) ?_
    show own_go _ _ _ _ _ _ _ (T76.setTop (mkF m 170 #[.val (.int p0), .val (.ref b20), .val (.int (8 : Int32)), .unset] [(.int (1 : Int32))]))
    refine own_st (fun _ k => XS.istoreN X76.here hx rfl (hb hby at_170) rfl (l' := #[.val (.int p0), .val (.ref b20), .val (.int (8 : Int32)), .val (.int (1 : Int32))]) rfl k) ?_
    show own_go _ _ _ _ _ _ _ (T76.setTop (mkF m 171 #[.val (.int p0), .val (.ref b20), .val (.int (8 : Int32)), .val (.int (1 : Int32))] []))
    refine own_st (fun _ k => XS.aloadN X76.here hx rfl (hb hby at_171) rfl rfl k) ?_
    show own_go _ _ _ _ _ _ _ (T76.setTop (mkF m 172 #[.val (.int p0), .val (.ref b20), .val (.int (8 : Int32)), .val (.int (1 : Int32))] [(.ref b20)]))
    refine own_st (fun _ k => XS.iloadN X76.here hx rfl (hb hby at_172) rfl k) ?_
    show own_go _ _ _ _ _ _ _ (T76.setTop (mkF m 173 #[.val (.int p0), .val (.ref b20), .val (.int (8 : Int32)), .val (.int (1 : Int32))] [(.int (8 : Int32)), (.ref b20)]))
    refine own_st (own_get X76 hx hZ e76 V76 rfl (j := (8 : Int32)) (by decide) (v := (.ref c_INT8)) rfl (g := (mkF m 173 #[.val (.int p0), .val (.ref b20), .val (.int (8 : Int32)), .val (.int (1 : Int32))] [(.int (8 : Int32)), (.ref b20)])) rfl rfl (hb hby at_173)) ?_
    show own_go _ _ _ _ _ _ _ (T76.setTop (mkF m 174 #[.val (.int p0), .val (.ref b20), .val (.int (8 : Int32)), .val (.int (1 : Int32))] [(.ref c_INT8)]))
    obtain ⟨v86, T86, L86, X86, hQ86, st86⟩ := own_callV X76 hx hZ (argsL := []) (rest := []) (rm1_8 l Z a0 hw c_BINARY c_BITS c_BOOLEAN c_DECIMAL64 c_EMPTY c_ENUMERATION c_IDENTITYREF c_INSTANCE_IDENTIFIER c_INT8 c_INT16 c_INT32 c_INT64 c_LEAFREF c_STRING c_UINT8 c_UINT16 c_UINT32 c_UINT64 c_UNION o_c_UINT16_min o_c_UINT64_min o_c_INT64_min o_c_INT32_min o_c_INT8_min o_c_UINT8_min o_c_UINT32_min o_c_INT16_min h76 n0 O77 hS) hown (hw _ (List.mem_of_getElem? (i := 43) rfl)) (hw _ (List.mem_of_getElem? (i := 44) rfl)) (notFace_of_selects (args := #[]) (mvT hZ (hw _ (List.mem_of_getElem? (i := 46) rfl)))) (hw _ (List.mem_of_getElem? (i := 46) rfl)) (hw _ (List.mem_of_getElem? (i := 45) rfl)) (hw _ (List.mem_of_getElem? (i := 3) rfl)) (hw _ (List.mem_of_getElem? (i := 47) rfl)) (by decide) e76 (hS.2.2.2.2.2.2.2.2.2.2.2.2.2.2.2.2.2.1.ext O77.2) (g := (mkF m 174 #[.val (.int p0), .val (.ref b20), .val (.int (8 : Int32)), .val (.int (1 : Int32))] [(.ref c_INT8)])) rfl (by rw [hml]; rfl) (lenOf own_pd__28_29Z rfl) rfl (W := 0) (by show 2 * 0 + _ ≤ _; exact Nat.le_of_eq rfl) (hb hby at_174) (by decide) (by decide) (by decide) (by decide)
    obtain ⟨rfl, Nq86, eq86⟩ := hQ86
    have N86 := Fr.app N76 Nq86
    refine own_st st86 ?_
    show own_go _ _ _ _ _ _ _ (T86.setTop (mkF m 177 #[.val (.int p0), .val (.ref b20), .val (.int (8 : Int32)), .val (.int (1 : Int32))] [(.int (1 : Int32))]))
    refine own_st (fun _ k => XS.iloadN X86.here hx rfl (hb hby at_177) rfl k) ?_
    show own_go _ _ _ _ _ _ _ (T86.setTop (mkF m 178 #[.val (.int p0), .val (.ref b20), .val (.int (8 : Int32)), .val (.int (1 : Int32))] [(.int (1 : Int32)), (.int (1 : Int32))]))
    refine own_st (fun _ k => XS.icmpNo X86.here hx rfl (hb hby at_178) rfl (by decide) k) ?_
    show own_go _ _ _ _ _ _ _ (T86.setTop (mkF m 181 #[.val (.int p0), .val (.ref b20), .val (.int (8 : Int32)), .val (.int (1 : Int32))] []))
    refine own_st (fun _ k => XS.iconst X86.here hx rfl (hb hby at_181) k) ?_
    show own_go _ _ _ _ _ _ _ (T86.setTop (mkF m 182 #[.val (.int p0), .val (.ref b20), .val (.int (8 : Int32)), .val (.int (1 : Int32))] [(.int (1 : Int32))]))
    refine own_st (fun _ k => XS.goto X86.here hx rfl (pc0 := 182) (pc' := 186) rfl (hb hby at_182) (by decide) (by decide) k) ?_
    show own_go _ _ _ _ _ _ _ (T86.setTop (mkF m 186 #[.val (.int p0), .val (.ref b20), .val (.int (8 : Int32)), .val (.int (1 : Int32))] [(.int (1 : Int32))]))
    exact own_retN X86 hx hlk (t := .boolean) hret (by simp) rfl (hb hby at_186) (by decide) (by decide) (⟨rfl, N86⟩)
  · skip
    rw [q]
    show own_go _ _ _ _ _ _ _ (T76.setTop (mkF m 140 #[.val (.int p0), .val (.ref b20), .unset, .unset] [(.int (9 : Int32))]))
    refine own_st (fun _ k => XS.istoreN X76.here hx rfl (hb hby at_140) rfl (l' := #[.val (.int p0), .val (.ref b20), .val (.int (9 : Int32)), .unset]) rfl k) ?_
    show own_go _ _ _ _ _ _ _ (T76.setTop (mkF m 141 #[.val (.int p0), .val (.ref b20), .val (.int (9 : Int32)), .unset] []))
    refine own_st (fun _ k => XS.iloadN X76.here hx rfl (hb hby at_141) rfl k) ?_
    show own_go _ _ _ _ _ _ _ (T76.setTop (mkF m 142 #[.val (.int p0), .val (.ref b20), .val (.int (9 : Int32)), .unset] [(.int (9 : Int32))]))
    refine own_st (fun _ k => XS.bipush X76.here hx rfl (hb hby at_142) k) ?_
    show own_go _ _ _ _ _ _ _ (T76.setTop (mkF m 144 #[.val (.int p0), .val (.ref b20), .val (.int (9 : Int32)), .unset] [(.int (8 : Int32)), (.int (9 : Int32))]))
    refine own_st (fun _ k => XS.icmpNo X76.here hx rfl (hb hby at_144) rfl (by decide) k) ?_
    show own_go _ _ _ _ _ _ _ (T76.setTop (mkF m 147 #[.val (.int p0), .val (.ref b20), .val (.int (9 : Int32)), .unset] []))
    refine own_st (fun _ k => XS.iloadN X76.here hx rfl (hb hby at_147) rfl k) ?_
    show own_go _ _ _ _ _ _ _ (T76.setTop (mkF m 148 #[.val (.int p0), .val (.ref b20), .val (.int (9 : Int32)), .unset] [(.int (9 : Int32))]))
    refine own_st (fun _ k => XS.bipush X76.here hx rfl (hb hby at_148) k) ?_
    show own_go _ _ _ _ _ _ _ (T76.setTop (mkF m 150 #[.val (.int p0), .val (.ref b20), .val (.int (9 : Int32)), .unset] [(.int (11 : Int32)), (.int (9 : Int32))]))
    refine own_st (fun _ k => XS.icmpYes X76.here hx rfl (pc0 := 150) (pc' := 165) rfl (hb hby at_150) rfl (by decide) (by decide) (by decide) k) ?_
    show own_go _ _ _ _ _ _ _ (T76.setTop (mkF m 165 #[.val (.int p0), .val (.ref b20), .val (.int (9 : Int32)), .unset] []))
    refine own_st (fun _ k => XS.iconst X76.here hx rfl (hb hby at_165) k) ?_
    show own_go _ _ _ _ _ _ _ (T76.setTop (mkF m 166 #[.val (.int p0), .val (.ref b20), .val (.int (9 : Int32)), .unset] [(.int (1 : Int32))]))
    refine own_st (fun _ k => XS.goto X76.here hx rfl (pc0 := 166) (pc' := 170) rfl (hb hby at_166) (by decide) (by decide) k) ?_
    show own_go _ _ _ _ _ _ _ (T76.setTop (mkF m 170 #[.val (.int p0), .val (.ref b20), .val (.int (9 : Int32)), .unset] [(.int (1 : Int32))]))
    refine own_st (fun _ k => XS.istoreN X76.here hx rfl (hb hby at_170) rfl (l' := #[.val (.int p0), .val (.ref b20), .val (.int (9 : Int32)), .val (.int (1 : Int32))]) rfl k) ?_
    show own_go _ _ _ _ _ _ _ (T76.setTop (mkF m 171 #[.val (.int p0), .val (.ref b20), .val (.int (9 : Int32)), .val (.int (1 : Int32))] []))
    refine own_st (fun _ k => XS.aloadN X76.here hx rfl (hb hby at_171) rfl rfl k) ?_
    show own_go _ _ _ _ _ _ _ (T76.setTop (mkF m 172 #[.val (.int p0), .val (.ref b20), .val (.int (9 : Int32)), .val (.int (1 : Int32))] [(.ref b20)]))
    refine own_st (fun _ k => XS.iloadN X76.here hx rfl (hb hby at_172) rfl k) ?_
    show own_go _ _ _ _ _ _ _ (T76.setTop (mkF m 173 #[.val (.int p0), .val (.ref b20), .val (.int (9 : Int32)), .val (.int (1 : Int32))] [(.int (9 : Int32)), (.ref b20)]))
    refine own_st (own_get X76 hx hZ e76 V76 rfl (j := (9 : Int32)) (by decide) (v := (.ref c_INT16)) rfl (g := (mkF m 173 #[.val (.int p0), .val (.ref b20), .val (.int (9 : Int32)), .val (.int (1 : Int32))] [(.int (9 : Int32)), (.ref b20)])) rfl rfl (hb hby at_173)) ?_
    show own_go _ _ _ _ _ _ _ (T76.setTop (mkF m 174 #[.val (.int p0), .val (.ref b20), .val (.int (9 : Int32)), .val (.int (1 : Int32))] [(.ref c_INT16)]))
    obtain ⟨v87, T87, L87, X87, hQ87, st87⟩ := own_callV X76 hx hZ (argsL := []) (rest := []) (rm1_9 l Z a0 hw c_BINARY c_BITS c_BOOLEAN c_DECIMAL64 c_EMPTY c_ENUMERATION c_IDENTITYREF c_INSTANCE_IDENTIFIER c_INT8 c_INT16 c_INT32 c_INT64 c_LEAFREF c_STRING c_UINT8 c_UINT16 c_UINT32 c_UINT64 c_UNION o_c_UINT16_min o_c_UINT64_min o_c_INT64_min o_c_INT32_min o_c_INT8_min o_c_UINT8_min o_c_UINT32_min o_c_INT16_min h76 n0 O77 hS) hown (hw _ (List.mem_of_getElem? (i := 43) rfl)) (hw _ (List.mem_of_getElem? (i := 44) rfl)) (notFace_of_selects (args := #[]) (mvT hZ (hw _ (List.mem_of_getElem? (i := 46) rfl)))) (hw _ (List.mem_of_getElem? (i := 46) rfl)) (hw _ (List.mem_of_getElem? (i := 45) rfl)) (hw _ (List.mem_of_getElem? (i := 3) rfl)) (hw _ (List.mem_of_getElem? (i := 47) rfl)) (by decide) e76 (hS.2.2.2.2.2.2.2.2.2.2.2.2.2.2.2.2.2.2.2.1.ext O77.2) (g := (mkF m 174 #[.val (.int p0), .val (.ref b20), .val (.int (9 : Int32)), .val (.int (1 : Int32))] [(.ref c_INT16)])) rfl (by rw [hml]; rfl) (lenOf own_pd__28_29Z rfl) rfl (W := 0) (by show 2 * 0 + _ ≤ _; exact Nat.le_of_eq rfl) (hb hby at_174) (by decide) (by decide) (by decide) (by decide)
    obtain ⟨rfl, Nq87, eq87⟩ := hQ87
    have N87 := Fr.app N76 Nq87
    refine own_st st87 ?_
    show own_go _ _ _ _ _ _ _ (T87.setTop (mkF m 177 #[.val (.int p0), .val (.ref b20), .val (.int (9 : Int32)), .val (.int (1 : Int32))] [(.int (1 : Int32))]))
    refine own_st (fun _ k => XS.iloadN X87.here hx rfl (hb hby at_177) rfl k) ?_
    show own_go _ _ _ _ _ _ _ (T87.setTop (mkF m 178 #[.val (.int p0), .val (.ref b20), .val (.int (9 : Int32)), .val (.int (1 : Int32))] [(.int (1 : Int32)), (.int (1 : Int32))]))
    refine own_st (fun _ k => XS.icmpNo X87.here hx rfl (hb hby at_178) rfl (by decide) k) ?_
    show own_go _ _ _ _ _ _ _ (T87.setTop (mkF m 181 #[.val (.int p0), .val (.ref b20), .val (.int (9 : Int32)), .val (.int (1 : Int32))] []))
    refine own_st (fun _ k => XS.iconst X87.here hx rfl (hb hby at_181) k) ?_
    show own_go _ _ _ _ _ _ _ (T87.setTop (mkF m 182 #[.val (.int p0), .val (.ref b20), .val (.int (9 : Int32)), .val (.int (1 : Int32))] [(.int (1 : Int32))]))
    refine own_st (fun _ k => XS.goto X87.here hx rfl (pc0 := 182) (pc' := 186) rfl (hb hby at_182) (by decide) (by decide) k) ?_
    show own_go _ _ _ _ _ _ _ (T87.setTop (mkF m 186 #[.val (.int p0), .val (.ref b20), .val (.int (9 : Int32)), .val (.int (1 : Int32))] [(.int (1 : Int32))]))
    exact own_retN X87 hx hlk (t := .boolean) hret (by simp) rfl (hb hby at_186) (by decide) (by decide) (⟨rfl, N87⟩)
  · skip
    rw [q]
    show own_go _ _ _ _ _ _ _ (T76.setTop (mkF m 140 #[.val (.int p0), .val (.ref b20), .unset, .unset] [(.int (10 : Int32))]))
    refine own_st (fun _ k => XS.istoreN X76.here hx rfl (hb hby at_140) rfl (l' := #[.val (.int p0), .val (.ref b20), .val (.int (10 : Int32)), .unset]) rfl k) ?_
    show own_go _ _ _ _ _ _ _ (T76.setTop (mkF m 141 #[.val (.int p0), .val (.ref b20), .val (.int (10 : Int32)), .unset] []))
    refine own_st (fun _ k => XS.iloadN X76.here hx rfl (hb hby at_141) rfl k) ?_
    show own_go _ _ _ _ _ _ _ (T76.setTop (mkF m 142 #[.val (.int p0), .val (.ref b20), .val (.int (10 : Int32)), .unset] [(.int (10 : Int32))]))
    refine own_st (fun _ k => XS.bipush X76.here hx rfl (hb hby at_142) k) ?_
    show own_go _ _ _ _ _ _ _ (T76.setTop (mkF m 144 #[.val (.int p0), .val (.ref b20), .val (.int (10 : Int32)), .unset] [(.int (8 : Int32)), (.int (10 : Int32))]))
    refine own_st (fun _ k => XS.icmpNo X76.here hx rfl (hb hby at_144) rfl (by decide) k) ?_
    show own_go _ _ _ _ _ _ _ (T76.setTop (mkF m 147 #[.val (.int p0), .val (.ref b20), .val (.int (10 : Int32)), .unset] []))
    refine own_st (fun _ k => XS.iloadN X76.here hx rfl (hb hby at_147) rfl k) ?_
    show own_go _ _ _ _ _ _ _ (T76.setTop (mkF m 148 #[.val (.int p0), .val (.ref b20), .val (.int (10 : Int32)), .unset] [(.int (10 : Int32))]))
    refine own_st (fun _ k => XS.bipush X76.here hx rfl (hb hby at_148) k) ?_
    show own_go _ _ _ _ _ _ _ (T76.setTop (mkF m 150 #[.val (.int p0), .val (.ref b20), .val (.int (10 : Int32)), .unset] [(.int (11 : Int32)), (.int (10 : Int32))]))
    refine own_st (fun _ k => XS.icmpYes X76.here hx rfl (pc0 := 150) (pc' := 165) rfl (hb hby at_150) rfl (by decide) (by decide) (by decide) k) ?_
    show own_go _ _ _ _ _ _ _ (T76.setTop (mkF m 165 #[.val (.int p0), .val (.ref b20), .val (.int (10 : Int32)), .unset] []))
    refine own_st (fun _ k => XS.iconst X76.here hx rfl (hb hby at_165) k) ?_
    show own_go _ _ _ _ _ _ _ (T76.setTop (mkF m 166 #[.val (.int p0), .val (.ref b20), .val (.int (10 : Int32)), .unset] [(.int (1 : Int32))]))
    refine own_st (fun _ k => XS.goto X76.here hx rfl (pc0 := 166) (pc' := 170) rfl (hb hby at_166) (by decide) (by decide) k) ?_
    show own_go _ _ _ _ _ _ _ (T76.setTop (mkF m 170 #[.val (.int p0), .val (.ref b20), .val (.int (10 : Int32)), .unset] [(.int (1 : Int32))]))
    refine own_st (fun _ k => XS.istoreN X76.here hx rfl (hb hby at_170) rfl (l' := #[.val (.int p0), .val (.ref b20), .val (.int (10 : Int32)), .val (.int (1 : Int32))]) rfl k) ?_
    show own_go _ _ _ _ _ _ _ (T76.setTop (mkF m 171 #[.val (.int p0), .val (.ref b20), .val (.int (10 : Int32)), .val (.int (1 : Int32))] []))
    refine own_st (fun _ k => XS.aloadN X76.here hx rfl (hb hby at_171) rfl rfl k) ?_
    show own_go _ _ _ _ _ _ _ (T76.setTop (mkF m 172 #[.val (.int p0), .val (.ref b20), .val (.int (10 : Int32)), .val (.int (1 : Int32))] [(.ref b20)]))
    refine own_st (fun _ k => XS.iloadN X76.here hx rfl (hb hby at_172) rfl k) ?_
    show own_go _ _ _ _ _ _ _ (T76.setTop (mkF m 173 #[.val (.int p0), .val (.ref b20), .val (.int (10 : Int32)), .val (.int (1 : Int32))] [(.int (10 : Int32)), (.ref b20)]))
    refine own_st (own_get X76 hx hZ e76 V76 rfl (j := (10 : Int32)) (by decide) (v := (.ref c_INT32)) rfl (g := (mkF m 173 #[.val (.int p0), .val (.ref b20), .val (.int (10 : Int32)), .val (.int (1 : Int32))] [(.int (10 : Int32)), (.ref b20)])) rfl rfl (hb hby at_173)) ?_
    show own_go _ _ _ _ _ _ _ (T76.setTop (mkF m 174 #[.val (.int p0), .val (.ref b20), .val (.int (10 : Int32)), .val (.int (1 : Int32))] [(.ref c_INT32)]))
    obtain ⟨v88, T88, L88, X88, hQ88, st88⟩ := own_callV X76 hx hZ (argsL := []) (rest := []) (rm1_10 l Z a0 hw c_BINARY c_BITS c_BOOLEAN c_DECIMAL64 c_EMPTY c_ENUMERATION c_IDENTITYREF c_INSTANCE_IDENTIFIER c_INT8 c_INT16 c_INT32 c_INT64 c_LEAFREF c_STRING c_UINT8 c_UINT16 c_UINT32 c_UINT64 c_UNION o_c_UINT16_min o_c_UINT64_min o_c_INT64_min o_c_INT32_min o_c_INT8_min o_c_UINT8_min o_c_UINT32_min o_c_INT16_min h76 n0 O77 hS) hown (hw _ (List.mem_of_getElem? (i := 43) rfl)) (hw _ (List.mem_of_getElem? (i := 44) rfl)) (notFace_of_selects (args := #[]) (mvT hZ (hw _ (List.mem_of_getElem? (i := 46) rfl)))) (hw _ (List.mem_of_getElem? (i := 46) rfl)) (hw _ (List.mem_of_getElem? (i := 45) rfl)) (hw _ (List.mem_of_getElem? (i := 3) rfl)) (hw _ (List.mem_of_getElem? (i := 47) rfl)) (by decide) e76 (hS.2.2.2.2.2.2.2.2.2.2.2.2.2.2.2.2.2.2.2.2.2.1.ext O77.2) (g := (mkF m 174 #[.val (.int p0), .val (.ref b20), .val (.int (10 : Int32)), .val (.int (1 : Int32))] [(.ref c_INT32)])) rfl (by rw [hml]; rfl) (lenOf own_pd__28_29Z rfl) rfl (W := 0) (by show 2 * 0 + _ ≤ _; exact Nat.le_of_eq rfl) (hb hby at_174) (by decide) (by decide) (by decide) (by decide)
    obtain ⟨rfl, Nq88, eq88⟩ := hQ88
    have N88 := Fr.app N76 Nq88
    refine own_st st88 ?_
    show own_go _ _ _ _ _ _ _ (T88.setTop (mkF m 177 #[.val (.int p0), .val (.ref b20), .val (.int (10 : Int32)), .val (.int (1 : Int32))] [(.int (1 : Int32))]))
    refine own_st (fun _ k => XS.iloadN X88.here hx rfl (hb hby at_177) rfl k) ?_
    show own_go _ _ _ _ _ _ _ (T88.setTop (mkF m 178 #[.val (.int p0), .val (.ref b20), .val (.int (10 : Int32)), .val (.int (1 : Int32))] [(.int (1 : Int32)), (.int (1 : Int32))]))
    refine own_st (fun _ k => XS.icmpNo X88.here hx rfl (hb hby at_178) rfl (by decide) k) ?_
    show own_go _ _ _ _ _ _ _ (T88.setTop (mkF m 181 #[.val (.int p0), .val (.ref b20), .val (.int (10 : Int32)), .val (.int (1 : Int32))] []))
    refine own_st (fun _ k => XS.iconst X88.here hx rfl (hb hby at_181) k) ?_
    show own_go _ _ _ _ _ _ _ (T88.setTop (mkF m 182 #[.val (.int p0), .val (.ref b20), .val (.int (10 : Int32)), .val (.int (1 : Int32))] [(.int (1 : Int32))]))
    refine own_st (fun _ k => XS.goto X88.here hx rfl (pc0 := 182) (pc' := 186) rfl (hb hby at_182) (by decide) (by decide) k) ?_
    show own_go _ _ _ _ _ _ _ (T88.setTop (mkF m 186 #[.val (.int p0), .val (.ref b20), .val (.int (10 : Int32)), .val (.int (1 : Int32))] [(.int (1 : Int32))]))
    exact own_retN X88 hx hlk (t := .boolean) hret (by simp) rfl (hb hby at_186) (by decide) (by decide) (⟨rfl, N88⟩)
  · skip
    rw [q]
    show own_go _ _ _ _ _ _ _ (T76.setTop (mkF m 140 #[.val (.int p0), .val (.ref b20), .unset, .unset] [(.int (11 : Int32))]))
    refine own_st (fun _ k => XS.istoreN X76.here hx rfl (hb hby at_140) rfl (l' := #[.val (.int p0), .val (.ref b20), .val (.int (11 : Int32)), .unset]) rfl k) ?_
    show own_go _ _ _ _ _ _ _ (T76.setTop (mkF m 141 #[.val (.int p0), .val (.ref b20), .val (.int (11 : Int32)), .unset] []))
    refine own_st (fun _ k => XS.iloadN X76.here hx rfl (hb hby at_141) rfl k) ?_
    show own_go _ _ _ _ _ _ _ (T76.setTop (mkF m 142 #[.val (.int p0), .val (.ref b20), .val (.int (11 : Int32)), .unset] [(.int (11 : Int32))]))
    refine own_st (fun _ k => XS.bipush X76.here hx rfl (hb hby at_142) k) ?_
    show own_go _ _ _ _ _ _ _ (T76.setTop (mkF m 144 #[.val (.int p0), .val (.ref b20), .val (.int (11 : Int32)), .unset] [(.int (8 : Int32)), (.int (11 : Int32))]))
    refine own_st (fun _ k => XS.icmpNo X76.here hx rfl (hb hby at_144) rfl (by decide) k) ?_
    show own_go _ _ _ _ _ _ _ (T76.setTop (mkF m 147 #[.val (.int p0), .val (.ref b20), .val (.int (11 : Int32)), .unset] []))
    refine own_st (fun _ k => XS.iloadN X76.here hx rfl (hb hby at_147) rfl k) ?_
    show own_go _ _ _ _ _ _ _ (T76.setTop (mkF m 148 #[.val (.int p0), .val (.ref b20), .val (.int (11 : Int32)), .unset] [(.int (11 : Int32))]))
    refine own_st (fun _ k => XS.bipush X76.here hx rfl (hb hby at_148) k) ?_
    show own_go _ _ _ _ _ _ _ (T76.setTop (mkF m 150 #[.val (.int p0), .val (.ref b20), .val (.int (11 : Int32)), .unset] [(.int (11 : Int32)), (.int (11 : Int32))]))
    refine own_st (fun _ k => XS.icmpYes X76.here hx rfl (pc0 := 150) (pc' := 165) rfl (hb hby at_150) rfl (by decide) (by decide) (by decide) k) ?_
    show own_go _ _ _ _ _ _ _ (T76.setTop (mkF m 165 #[.val (.int p0), .val (.ref b20), .val (.int (11 : Int32)), .unset] []))
    refine own_st (fun _ k => XS.iconst X76.here hx rfl (hb hby at_165) k) ?_
    show own_go _ _ _ _ _ _ _ (T76.setTop (mkF m 166 #[.val (.int p0), .val (.ref b20), .val (.int (11 : Int32)), .unset] [(.int (1 : Int32))]))
    refine own_st (fun _ k => XS.goto X76.here hx rfl (pc0 := 166) (pc' := 170) rfl (hb hby at_166) (by decide) (by decide) k) ?_
    show own_go _ _ _ _ _ _ _ (T76.setTop (mkF m 170 #[.val (.int p0), .val (.ref b20), .val (.int (11 : Int32)), .unset] [(.int (1 : Int32))]))
    refine own_st (fun _ k => XS.istoreN X76.here hx rfl (hb hby at_170) rfl (l' := #[.val (.int p0), .val (.ref b20), .val (.int (11 : Int32)), .val (.int (1 : Int32))]) rfl k) ?_
    show own_go _ _ _ _ _ _ _ (T76.setTop (mkF m 171 #[.val (.int p0), .val (.ref b20), .val (.int (11 : Int32)), .val (.int (1 : Int32))] []))
    refine own_st (fun _ k => XS.aloadN X76.here hx rfl (hb hby at_171) rfl rfl k) ?_
    show own_go _ _ _ _ _ _ _ (T76.setTop (mkF m 172 #[.val (.int p0), .val (.ref b20), .val (.int (11 : Int32)), .val (.int (1 : Int32))] [(.ref b20)]))
    refine own_st (fun _ k => XS.iloadN X76.here hx rfl (hb hby at_172) rfl k) ?_
    show own_go _ _ _ _ _ _ _ (T76.setTop (mkF m 173 #[.val (.int p0), .val (.ref b20), .val (.int (11 : Int32)), .val (.int (1 : Int32))] [(.int (11 : Int32)), (.ref b20)]))
    refine own_st (own_get X76 hx hZ e76 V76 rfl (j := (11 : Int32)) (by decide) (v := (.ref c_INT64)) rfl (g := (mkF m 173 #[.val (.int p0), .val (.ref b20), .val (.int (11 : Int32)), .val (.int (1 : Int32))] [(.int (11 : Int32)), (.ref b20)])) rfl rfl (hb hby at_173)) ?_
    show own_go _ _ _ _ _ _ _ (T76.setTop (mkF m 174 #[.val (.int p0), .val (.ref b20), .val (.int (11 : Int32)), .val (.int (1 : Int32))] [(.ref c_INT64)]))
    obtain ⟨v89, T89, L89, X89, hQ89, st89⟩ := own_callV X76 hx hZ (argsL := []) (rest := []) (rm1_11 l Z a0 hw c_BINARY c_BITS c_BOOLEAN c_DECIMAL64 c_EMPTY c_ENUMERATION c_IDENTITYREF c_INSTANCE_IDENTIFIER c_INT8 c_INT16 c_INT32 c_INT64 c_LEAFREF c_STRING c_UINT8 c_UINT16 c_UINT32 c_UINT64 c_UNION o_c_UINT16_min o_c_UINT64_min o_c_INT64_min o_c_INT32_min o_c_INT8_min o_c_UINT8_min o_c_UINT32_min o_c_INT16_min h76 n0 O77 hS) hown (hw _ (List.mem_of_getElem? (i := 43) rfl)) (hw _ (List.mem_of_getElem? (i := 44) rfl)) (notFace_of_selects (args := #[]) (mvT hZ (hw _ (List.mem_of_getElem? (i := 46) rfl)))) (hw _ (List.mem_of_getElem? (i := 46) rfl)) (hw _ (List.mem_of_getElem? (i := 45) rfl)) (hw _ (List.mem_of_getElem? (i := 3) rfl)) (hw _ (List.mem_of_getElem? (i := 47) rfl)) (by decide) e76 (hS.2.2.2.2.2.2.2.2.2.2.2.2.2.2.2.2.2.2.2.2.2.2.2.1.ext O77.2) (g := (mkF m 174 #[.val (.int p0), .val (.ref b20), .val (.int (11 : Int32)), .val (.int (1 : Int32))] [(.ref c_INT64)])) rfl (by rw [hml]; rfl) (lenOf own_pd__28_29Z rfl) rfl (W := 0) (by show 2 * 0 + _ ≤ _; exact Nat.le_of_eq rfl) (hb hby at_174) (by decide) (by decide) (by decide) (by decide)
    obtain ⟨rfl, Nq89, eq89⟩ := hQ89
    have N89 := Fr.app N76 Nq89
    refine own_st st89 ?_
    show own_go _ _ _ _ _ _ _ (T89.setTop (mkF m 177 #[.val (.int p0), .val (.ref b20), .val (.int (11 : Int32)), .val (.int (1 : Int32))] [(.int (1 : Int32))]))
    refine own_st (fun _ k => XS.iloadN X89.here hx rfl (hb hby at_177) rfl k) ?_
    show own_go _ _ _ _ _ _ _ (T89.setTop (mkF m 178 #[.val (.int p0), .val (.ref b20), .val (.int (11 : Int32)), .val (.int (1 : Int32))] [(.int (1 : Int32)), (.int (1 : Int32))]))
    refine own_st (fun _ k => XS.icmpNo X89.here hx rfl (hb hby at_178) rfl (by decide) k) ?_
    show own_go _ _ _ _ _ _ _ (T89.setTop (mkF m 181 #[.val (.int p0), .val (.ref b20), .val (.int (11 : Int32)), .val (.int (1 : Int32))] []))
    refine own_st (fun _ k => XS.iconst X89.here hx rfl (hb hby at_181) k) ?_
    show own_go _ _ _ _ _ _ _ (T89.setTop (mkF m 182 #[.val (.int p0), .val (.ref b20), .val (.int (11 : Int32)), .val (.int (1 : Int32))] [(.int (1 : Int32))]))
    refine own_st (fun _ k => XS.goto X89.here hx rfl (pc0 := 182) (pc' := 186) rfl (hb hby at_182) (by decide) (by decide) k) ?_
    show own_go _ _ _ _ _ _ _ (T89.setTop (mkF m 186 #[.val (.int p0), .val (.ref b20), .val (.int (11 : Int32)), .val (.int (1 : Int32))] [(.int (1 : Int32))]))
    exact own_retN X89 hx hlk (t := .boolean) hret (by simp) rfl (hb hby at_186) (by decide) (by decide) (⟨rfl, N89⟩)
  · skip
    rw [q]
    show own_go _ _ _ _ _ _ _ (T76.setTop (mkF m 140 #[.val (.int p0), .val (.ref b20), .unset, .unset] [(.int (12 : Int32))]))
    refine own_st (fun _ k => XS.istoreN X76.here hx rfl (hb hby at_140) rfl (l' := #[.val (.int p0), .val (.ref b20), .val (.int (12 : Int32)), .unset]) rfl k) ?_
    show own_go _ _ _ _ _ _ _ (T76.setTop (mkF m 141 #[.val (.int p0), .val (.ref b20), .val (.int (12 : Int32)), .unset] []))
    refine own_st (fun _ k => XS.iloadN X76.here hx rfl (hb hby at_141) rfl k) ?_
    show own_go _ _ _ _ _ _ _ (T76.setTop (mkF m 142 #[.val (.int p0), .val (.ref b20), .val (.int (12 : Int32)), .unset] [(.int (12 : Int32))]))
    refine own_st (fun _ k => XS.bipush X76.here hx rfl (hb hby at_142) k) ?_
    show own_go _ _ _ _ _ _ _ (T76.setTop (mkF m 144 #[.val (.int p0), .val (.ref b20), .val (.int (12 : Int32)), .unset] [(.int (8 : Int32)), (.int (12 : Int32))]))
    refine own_st (fun _ k => XS.icmpNo X76.here hx rfl (hb hby at_144) rfl (by decide) k) ?_
    show own_go _ _ _ _ _ _ _ (T76.setTop (mkF m 147 #[.val (.int p0), .val (.ref b20), .val (.int (12 : Int32)), .unset] []))
    refine own_st (fun _ k => XS.iloadN X76.here hx rfl (hb hby at_147) rfl k) ?_
    show own_go _ _ _ _ _ _ _ (T76.setTop (mkF m 148 #[.val (.int p0), .val (.ref b20), .val (.int (12 : Int32)), .unset] [(.int (12 : Int32))]))
    refine own_st (fun _ k => XS.bipush X76.here hx rfl (hb hby at_148) k) ?_
    show own_go _ _ _ _ _ _ _ (T76.setTop (mkF m 150 #[.val (.int p0), .val (.ref b20), .val (.int (12 : Int32)), .unset] [(.int (11 : Int32)), (.int (12 : Int32))]))
    refine own_st (fun _ k => XS.icmpNo X76.here hx rfl (hb hby at_150) rfl (by decide) k) ?_
    show own_go _ _ _ _ _ _ _ (T76.setTop (mkF m 153 #[.val (.int p0), .val (.ref b20), .val (.int (12 : Int32)), .unset] []))
    refine own_st (fun _ k => XS.iloadN X76.here hx rfl (hb hby at_153) rfl k) ?_
    show own_go _ _ _ _ _ _ _ (T76.setTop (mkF m 154 #[.val (.int p0), .val (.ref b20), .val (.int (12 : Int32)), .unset] [(.int (12 : Int32))]))
    refine own_st (fun _ k => XS.bipush X76.here hx rfl (hb hby at_154) k) ?_
    show own_go _ _ _ _ _ _ _ (T76.setTop (mkF m 156 #[.val (.int p0), .val (.ref b20), .val (.int (12 : Int32)), .unset] [(.int (14 : Int32)), (.int (12 : Int32))]))
    refine own_st (fun _ k => XS.icmpYes X76.here hx rfl (pc0 := 156) (pc' := 169) rfl (hb hby at_156) rfl (by decide) (by decide) (by decide) k) ?_
    show own_go _ _ _ _ _ _ _ (T76.setTop (mkF m 169 #[.val (.int p0), .val (.ref b20), .val (.int (12 : Int32)), .unset] []))
    refine own_st (fun _ k => XS.iconst X76.here hx rfl (hb hby at_169) k) ?_
    show own_go _ _ _ _ _ _ _ (T76.setTop (mkF m 170 #[.val (.int p0), .val (.ref b20), .val (.int (12 : Int32)), .unset] [(.int (0 : Int32))]))
    refine own_st (fun _ k => XS.istoreN X76.here hx rfl (hb hby at_170) rfl (l' := #[.val (.int p0), .val (.ref b20), .val (.int (12 : Int32)), .val (.int (0 : Int32))]) rfl k) ?_
    show own_go _ _ _ _ _ _ _ (T76.setTop (mkF m 171 #[.val (.int p0), .val (.ref b20), .val (.int (12 : Int32)), .val (.int (0 : Int32))] []))
    refine own_st (fun _ k => XS.aloadN X76.here hx rfl (hb hby at_171) rfl rfl k) ?_
    show own_go _ _ _ _ _ _ _ (T76.setTop (mkF m 172 #[.val (.int p0), .val (.ref b20), .val (.int (12 : Int32)), .val (.int (0 : Int32))] [(.ref b20)]))
    refine own_st (fun _ k => XS.iloadN X76.here hx rfl (hb hby at_172) rfl k) ?_
    show own_go _ _ _ _ _ _ _ (T76.setTop (mkF m 173 #[.val (.int p0), .val (.ref b20), .val (.int (12 : Int32)), .val (.int (0 : Int32))] [(.int (12 : Int32)), (.ref b20)]))
    refine own_st (own_get X76 hx hZ e76 V76 rfl (j := (12 : Int32)) (by decide) (v := (.ref c_LEAFREF)) rfl (g := (mkF m 173 #[.val (.int p0), .val (.ref b20), .val (.int (12 : Int32)), .val (.int (0 : Int32))] [(.int (12 : Int32)), (.ref b20)])) rfl rfl (hb hby at_173)) ?_
    show own_go _ _ _ _ _ _ _ (T76.setTop (mkF m 174 #[.val (.int p0), .val (.ref b20), .val (.int (12 : Int32)), .val (.int (0 : Int32))] [(.ref c_LEAFREF)]))
    obtain ⟨v90, T90, L90, X90, hQ90, st90⟩ := own_callV X76 hx hZ (argsL := []) (rest := []) (rm1_12 l Z a0 hw c_BINARY c_BITS c_BOOLEAN c_DECIMAL64 c_EMPTY c_ENUMERATION c_IDENTITYREF c_INSTANCE_IDENTIFIER c_INT8 c_INT16 c_INT32 c_INT64 c_LEAFREF c_STRING c_UINT8 c_UINT16 c_UINT32 c_UINT64 c_UNION o_c_UINT16_min o_c_UINT64_min o_c_INT64_min o_c_INT32_min o_c_INT8_min o_c_UINT8_min o_c_UINT32_min o_c_INT16_min h76 n0 O77 hS) hown (hw _ (List.mem_of_getElem? (i := 43) rfl)) (hw _ (List.mem_of_getElem? (i := 44) rfl)) (notFace_of_selects (args := #[]) (mvT hZ (hw _ (List.mem_of_getElem? (i := 46) rfl)))) (hw _ (List.mem_of_getElem? (i := 46) rfl)) (hw _ (List.mem_of_getElem? (i := 45) rfl)) (hw _ (List.mem_of_getElem? (i := 3) rfl)) (hw _ (List.mem_of_getElem? (i := 47) rfl)) (by decide) e76 (hS.2.2.2.2.2.2.2.2.2.2.2.2.2.2.2.2.2.2.2.2.2.2.2.2.2.1.ext O77.2) (g := (mkF m 174 #[.val (.int p0), .val (.ref b20), .val (.int (12 : Int32)), .val (.int (0 : Int32))] [(.ref c_LEAFREF)])) rfl (by rw [hml]; rfl) (lenOf own_pd__28_29Z rfl) rfl (W := 0) (by show 2 * 0 + _ ≤ _; exact Nat.le_of_eq rfl) (hb hby at_174) (by decide) (by decide) (by decide) (by decide)
    obtain ⟨rfl, Nq90, eq90⟩ := hQ90
    have N90 := Fr.app N76 Nq90
    refine own_st st90 ?_
    show own_go _ _ _ _ _ _ _ (T90.setTop (mkF m 177 #[.val (.int p0), .val (.ref b20), .val (.int (12 : Int32)), .val (.int (0 : Int32))] [(.int (0 : Int32))]))
    refine own_st (fun _ k => XS.iloadN X90.here hx rfl (hb hby at_177) rfl k) ?_
    show own_go _ _ _ _ _ _ _ (T90.setTop (mkF m 178 #[.val (.int p0), .val (.ref b20), .val (.int (12 : Int32)), .val (.int (0 : Int32))] [(.int (0 : Int32)), (.int (0 : Int32))]))
    refine own_st (fun _ k => XS.icmpNo X90.here hx rfl (hb hby at_178) rfl (by decide) k) ?_
    show own_go _ _ _ _ _ _ _ (T90.setTop (mkF m 181 #[.val (.int p0), .val (.ref b20), .val (.int (12 : Int32)), .val (.int (0 : Int32))] []))
    refine own_st (fun _ k => XS.iconst X90.here hx rfl (hb hby at_181) k) ?_
    show own_go _ _ _ _ _ _ _ (T90.setTop (mkF m 182 #[.val (.int p0), .val (.ref b20), .val (.int (12 : Int32)), .val (.int (0 : Int32))] [(.int (1 : Int32))]))
    refine own_st (fun _ k => XS.goto X90.here hx rfl (pc0 := 182) (pc' := 186) rfl (hb hby at_182) (by decide) (by decide) k) ?_
    show own_go _ _ _ _ _ _ _ (T90.setTop (mkF m 186 #[.val (.int p0), .val (.ref b20), .val (.int (12 : Int32)), .val (.int (0 : Int32))] [(.int (1 : Int32))]))
    exact own_retN X90 hx hlk (t := .boolean) hret (by simp) rfl (hb hby at_186) (by decide) (by decide) (⟨rfl, N90⟩)
  · skip
    rw [q]
    show own_go _ _ _ _ _ _ _ (T76.setTop (mkF m 140 #[.val (.int p0), .val (.ref b20), .unset, .unset] [(.int (13 : Int32))]))
    refine own_st (fun _ k => XS.istoreN X76.here hx rfl (hb hby at_140) rfl (l' := #[.val (.int p0), .val (.ref b20), .val (.int (13 : Int32)), .unset]) rfl k) ?_
    show own_go _ _ _ _ _ _ _ (T76.setTop (mkF m 141 #[.val (.int p0), .val (.ref b20), .val (.int (13 : Int32)), .unset] []))
    refine own_st (fun _ k => XS.iloadN X76.here hx rfl (hb hby at_141) rfl k) ?_
    show own_go _ _ _ _ _ _ _ (T76.setTop (mkF m 142 #[.val (.int p0), .val (.ref b20), .val (.int (13 : Int32)), .unset] [(.int (13 : Int32))]))
    refine own_st (fun _ k => XS.bipush X76.here hx rfl (hb hby at_142) k) ?_
    show own_go _ _ _ _ _ _ _ (T76.setTop (mkF m 144 #[.val (.int p0), .val (.ref b20), .val (.int (13 : Int32)), .unset] [(.int (8 : Int32)), (.int (13 : Int32))]))
    refine own_st (fun _ k => XS.icmpNo X76.here hx rfl (hb hby at_144) rfl (by decide) k) ?_
    show own_go _ _ _ _ _ _ _ (T76.setTop (mkF m 147 #[.val (.int p0), .val (.ref b20), .val (.int (13 : Int32)), .unset] []))
    refine own_st (fun _ k => XS.iloadN X76.here hx rfl (hb hby at_147) rfl k) ?_
    show own_go _ _ _ _ _ _ _ (T76.setTop (mkF m 148 #[.val (.int p0), .val (.ref b20), .val (.int (13 : Int32)), .unset] [(.int (13 : Int32))]))
    refine own_st (fun _ k => XS.bipush X76.here hx rfl (hb hby at_148) k) ?_
    show own_go _ _ _ _ _ _ _ (T76.setTop (mkF m 150 #[.val (.int p0), .val (.ref b20), .val (.int (13 : Int32)), .unset] [(.int (11 : Int32)), (.int (13 : Int32))]))
    refine own_st (fun _ k => XS.icmpNo X76.here hx rfl (hb hby at_150) rfl (by decide) k) ?_
    show own_go _ _ _ _ _ _ _ (T76.setTop (mkF m 153 #[.val (.int p0), .val (.ref b20), .val (.int (13 : Int32)), .unset] []))
    refine own_st (fun _ k => XS.iloadN X76.here hx rfl (hb hby at_153) rfl k) ?_
    show own_go _ _ _ _ _ _ _ (T76.setTop (mkF m 154 #[.val (.int p0), .val (.ref b20), .val (.int (13 : Int32)), .unset] [(.int (13 : Int32))]))
    refine own_st (fun _ k => XS.bipush X76.here hx rfl (hb hby at_154) k) ?_
    show own_go _ _ _ _ _ _ _ (T76.setTop (mkF m 156 #[.val (.int p0), .val (.ref b20), .val (.int (13 : Int32)), .unset] [(.int (14 : Int32)), (.int (13 : Int32))]))
    refine own_st (fun _ k => XS.icmpYes X76.here hx rfl (pc0 := 156) (pc' := 169) rfl (hb hby at_156) rfl (by decide) (by decide) (by decide) k) ?_
    show own_go _ _ _ _ _ _ _ (T76.setTop (mkF m 169 #[.val (.int p0), .val (.ref b20), .val (.int (13 : Int32)), .unset] []))
    refine own_st (fun _ k => XS.iconst X76.here hx rfl (hb hby at_169) k) ?_
    show own_go _ _ _ _ _ _ _ (T76.setTop (mkF m 170 #[.val (.int p0), .val (.ref b20), .val (.int (13 : Int32)), .unset] [(.int (0 : Int32))]))
    refine own_st (fun _ k => XS.istoreN X76.here hx rfl (hb hby at_170) rfl (l' := #[.val (.int p0), .val (.ref b20), .val (.int (13 : Int32)), .val (.int (0 : Int32))]) rfl k) ?_
    show own_go _ _ _ _ _ _ _ (T76.setTop (mkF m 171 #[.val (.int p0), .val (.ref b20), .val (.int (13 : Int32)), .val (.int (0 : Int32))] []))
    refine own_st (fun _ k => XS.aloadN X76.here hx rfl (hb hby at_171) rfl rfl k) ?_
    show own_go _ _ _ _ _ _ _ (T76.setTop (mkF m 172 #[.val (.int p0), .val (.ref b20), .val (.int (13 : Int32)), .val (.int (0 : Int32))] [(.ref b20)]))
    refine own_st (fun _ k => XS.iloadN X76.here hx rfl (hb hby at_172) rfl k) ?_
    show own_go _ _ _ _ _ _ _ (T76.setTop (mkF m 173 #[.val (.int p0), .val (.ref b20), .val (.int (13 : Int32)), .val (.int (0 : Int32))] [(.int (13 : Int32)), (.ref b20)]))
    refine own_st (own_get X76 hx hZ e76 V76 rfl (j := (13 : Int32)) (by decide) (v := (.ref c_STRING)) rfl (g := (mkF m 173 #[.val (.int p0), .val (.ref b20), .val (.int (13 : Int32)), .val (.int (0 : Int32))] [(.int (13 : Int32)), (.ref b20)])) rfl rfl (hb hby at_173)) ?_
    show own_go _ _ _ _ _ _ _ (T76.setTop (mkF m 174 #[.val (.int p0), .val (.ref b20), .val (.int (13 : Int32)), .val (.int (0 : Int32))] [(.ref c_STRING)]))
    obtain ⟨v91, T91, L91, X91, hQ91, st91⟩ := own_callV X76 hx hZ (argsL := []) (rest := []) (rm1_13 l Z a0 hw c_BINARY c_BITS c_BOOLEAN c_DECIMAL64 c_EMPTY c_ENUMERATION c_IDENTITYREF c_INSTANCE_IDENTIFIER c_INT8 c_INT16 c_INT32 c_INT64 c_LEAFREF c_STRING c_UINT8 c_UINT16 c_UINT32 c_UINT64 c_UNION o_c_UINT16_min o_c_UINT64_min o_c_INT64_min o_c_INT32_min o_c_INT8_min o_c_UINT8_min o_c_UINT32_min o_c_INT16_min h76 n0 O77 hS) hown (hw _ (List.mem_of_getElem? (i := 43) rfl)) (hw _ (List.mem_of_getElem? (i := 44) rfl)) (notFace_of_selects (args := #[]) (mvT hZ (hw _ (List.mem_of_getElem? (i := 46) rfl)))) (hw _ (List.mem_of_getElem? (i := 46) rfl)) (hw _ (List.mem_of_getElem? (i := 45) rfl)) (hw _ (List.mem_of_getElem? (i := 3) rfl)) (hw _ (List.mem_of_getElem? (i := 47) rfl)) (by decide) e76 (hS.2.2.2.2.2.2.2.2.2.2.2.2.2.2.2.2.2.2.2.2.2.2.2.2.2.2.2.1.ext O77.2) (g := (mkF m 174 #[.val (.int p0), .val (.ref b20), .val (.int (13 : Int32)), .val (.int (0 : Int32))] [(.ref c_STRING)])) rfl (by rw [hml]; rfl) (lenOf own_pd__28_29Z rfl) rfl (W := 0) (by show 2 * 0 + _ ≤ _; exact Nat.le_of_eq rfl) (hb hby at_174) (by decide) (by decide) (by decide) (by decide)
    obtain ⟨rfl, Nq91, eq91⟩ := hQ91
    have N91 := Fr.app N76 Nq91
    refine own_st st91 ?_
    show own_go _ _ _ _ _ _ _ (T91.setTop (mkF m 177 #[.val (.int p0), .val (.ref b20), .val (.int (13 : Int32)), .val (.int (0 : Int32))] [(.int (0 : Int32))]))
    refine own_st (fun _ k => XS.iloadN X91.here hx rfl (hb hby at_177) rfl k) ?_
    show own_go _ _ _ _ _ _ _ (T91.setTop (mkF m 178 #[.val (.int p0), .val (.ref b20), .val (.int (13 : Int32)), .val (.int (0 : Int32))] [(.int (0 : Int32)), (.int (0 : Int32))]))
    refine own_st (fun _ k => XS.icmpNo X91.here hx rfl (hb hby at_178) rfl (by decide) k) ?_
    show own_go _ _ _ _ _ _ _ (T91.setTop (mkF m 181 #[.val (.int p0), .val (.ref b20), .val (.int (13 : Int32)), .val (.int (0 : Int32))] []))
    refine own_st (fun _ k => XS.iconst X91.here hx rfl (hb hby at_181) k) ?_
    show own_go _ _ _ _ _ _ _ (T91.setTop (mkF m 182 #[.val (.int p0), .val (.ref b20), .val (.int (13 : Int32)), .val (.int (0 : Int32))] [(.int (1 : Int32))]))
    refine own_st (fun _ k => XS.goto X91.here hx rfl (pc0 := 182) (pc' := 186) rfl (hb hby at_182) (by decide) (by decide) k) ?_
    show own_go _ _ _ _ _ _ _ (T91.setTop (mkF m 186 #[.val (.int p0), .val (.ref b20), .val (.int (13 : Int32)), .val (.int (0 : Int32))] [(.int (1 : Int32))]))
    exact own_retN X91 hx hlk (t := .boolean) hret (by simp) rfl (hb hby at_186) (by decide) (by decide) (⟨rfl, N91⟩)
  · skip
    rw [q]
    show own_go _ _ _ _ _ _ _ (T76.setTop (mkF m 140 #[.val (.int p0), .val (.ref b20), .unset, .unset] [(.int (14 : Int32))]))
    refine own_st (fun _ k => XS.istoreN X76.here hx rfl (hb hby at_140) rfl (l' := #[.val (.int p0), .val (.ref b20), .val (.int (14 : Int32)), .unset]) rfl k) ?_
    show own_go _ _ _ _ _ _ _ (T76.setTop (mkF m 141 #[.val (.int p0), .val (.ref b20), .val (.int (14 : Int32)), .unset] []))
    refine own_st (fun _ k => XS.iloadN X76.here hx rfl (hb hby at_141) rfl k) ?_
    show own_go _ _ _ _ _ _ _ (T76.setTop (mkF m 142 #[.val (.int p0), .val (.ref b20), .val (.int (14 : Int32)), .unset] [(.int (14 : Int32))]))
    refine own_st (fun _ k => XS.bipush X76.here hx rfl (hb hby at_142) k) ?_
    show own_go _ _ _ _ _ _ _ (T76.setTop (mkF m 144 #[.val (.int p0), .val (.ref b20), .val (.int (14 : Int32)), .unset] [(.int (8 : Int32)), (.int (14 : Int32))]))
    refine own_st (fun _ k => XS.icmpNo X76.here hx rfl (hb hby at_144) rfl (by decide) k) ?_
    show own_go _ _ _ _ _ _ _ (T76.setTop (mkF m 147 #[.val (.int p0), .val (.ref b20), .val (.int (14 : Int32)), .unset] []))
    refine own_st (fun _ k => XS.iloadN X76.here hx rfl (hb hby at_147) rfl k) ?_
    show own_go _ _ _ _ _ _ _ (T76.setTop (mkF m 148 #[.val (.int p0), .val (.ref b20), .val (.int (14 : Int32)), .unset] [(.int (14 : Int32))]))
    refine own_st (fun _ k => XS.bipush X76.here hx rfl (hb hby at_148) k) ?_
    show own_go _ _ _ _ _ _ _ (T76.setTop (mkF m 150 #[.val (.int p0), .val (.ref b20), .val (.int (14 : Int32)), .unset] [(.int (11 : Int32)), (.int (14 : Int32))]))
    refine own_st (fun _ k => XS.icmpNo X76.here hx rfl (hb hby at_150) rfl (by decide) k) ?_
    show own_go _ _ _ _ _ _ _ (T76.setTop (mkF m 153 #[.val (.int p0), .val (.ref b20), .val (.int (14 : Int32)), .unset] []))
    refine own_st (fun _ k => XS.iloadN X76.here hx rfl (hb hby at_153) rfl k) ?_
    show own_go _ _ _ _ _ _ _ (T76.setTop (mkF m 154 #[.val (.int p0), .val (.ref b20), .val (.int (14 : Int32)), .unset] [(.int (14 : Int32))]))
    refine own_st (fun _ k => XS.bipush X76.here hx rfl (hb hby at_154) k) ?_
    show own_go _ _ _ _ _ _ _ (T76.setTop (mkF m 156 #[.val (.int p0), .val (.ref b20), .val (.int (14 : Int32)), .unset] [(.int (14 : Int32)), (.int (14 : Int32))]))
    refine own_st (fun _ k => XS.icmpNo X76.here hx rfl (hb hby at_156) rfl (by decide) k) ?_
    show own_go _ _ _ _ _ _ _ (T76.setTop (mkF m 159 #[.val (.int p0), .val (.ref b20), .val (.int (14 : Int32)), .unset] []))
    refine own_st (fun _ k => XS.iloadN X76.here hx rfl (hb hby at_159) rfl k) ?_
    show own_go _ _ _ _ _ _ _ (T76.setTop (mkF m 160 #[.val (.int p0), .val (.ref b20), .val (.int (14 : Int32)), .unset] [(.int (14 : Int32))]))
    refine own_st (fun _ k => XS.bipush X76.here hx rfl (hb hby at_160) k) ?_
    show own_go _ _ _ _ _ _ _ (T76.setTop (mkF m 162 #[.val (.int p0), .val (.ref b20), .val (.int (14 : Int32)), .unset] [(.int (17 : Int32)), (.int (14 : Int32))]))
    refine own_st (fun _ k => XS.icmpNo X76.here hx rfl (hb hby at_162) rfl (by decide) k) ?_
    show own_go _ _ _ _ _ _ _ (T76.setTop (mkF m 165 #[.val (.int p0), .val (.ref b20), .val (.int (14 : Int32)), .unset] []))
    refine own_st (fun _ k => XS.iconst X76.here hx rfl (hb hby at_165) k) ?_
    show own_go _ _ _ _ _ _ _ (T76.setTop (mkF m 166 #[.val (.int p0), .val (.ref b20), .val (.int (14 : Int32)), .unset] [(.int (1 : Int32))]))
    refine own_st (fun _ k => XS.goto X76.here hx rfl (pc0 := 166) (pc' := 170) rfl (hb hby at_166) (by decide) (by decide) k) ?_
    show own_go _ _ _ _ _ _ _ (T76.setTop (mkF m 170 #[.val (.int p0), .val (.ref b20), .val (.int (14 : Int32)), .unset] [(.int (1 : Int32))]))
    refine own_st (fun _ k => XS.istoreN X76.here hx rfl (hb hby at_170) rfl (l' := #[.val (.int p0), .val (.ref b20), .val (.int (14 : Int32)), .val (.int (1 : Int32))]) rfl k) ?_
    show own_go _ _ _ _ _ _ _ (T76.setTop (mkF m 171 #[.val (.int p0), .val (.ref b20), .val (.int (14 : Int32)), .val (.int (1 : Int32))] []))
    refine own_st (fun _ k => XS.aloadN X76.here hx rfl (hb hby at_171) rfl rfl k) ?_
    show own_go _ _ _ _ _ _ _ (T76.setTop (mkF m 172 #[.val (.int p0), .val (.ref b20), .val (.int (14 : Int32)), .val (.int (1 : Int32))] [(.ref b20)]))
    refine own_st (fun _ k => XS.iloadN X76.here hx rfl (hb hby at_172) rfl k) ?_
    show own_go _ _ _ _ _ _ _ (T76.setTop (mkF m 173 #[.val (.int p0), .val (.ref b20), .val (.int (14 : Int32)), .val (.int (1 : Int32))] [(.int (14 : Int32)), (.ref b20)]))
    refine own_st (own_get X76 hx hZ e76 V76 rfl (j := (14 : Int32)) (by decide) (v := (.ref c_UINT8)) rfl (g := (mkF m 173 #[.val (.int p0), .val (.ref b20), .val (.int (14 : Int32)), .val (.int (1 : Int32))] [(.int (14 : Int32)), (.ref b20)])) rfl rfl (hb hby at_173)) ?_
    show own_go _ _ _ _ _ _ _ (T76.setTop (mkF m 174 #[.val (.int p0), .val (.ref b20), .val (.int (14 : Int32)), .val (.int (1 : Int32))] [(.ref c_UINT8)]))
    obtain ⟨v92, T92, L92, X92, hQ92, st92⟩ := own_callV X76 hx hZ (argsL := []) (rest := []) (rm1_14 l Z a0 hw c_BINARY c_BITS c_BOOLEAN c_DECIMAL64 c_EMPTY c_ENUMERATION c_IDENTITYREF c_INSTANCE_IDENTIFIER c_INT8 c_INT16 c_INT32 c_INT64 c_LEAFREF c_STRING c_UINT8 c_UINT16 c_UINT32 c_UINT64 c_UNION o_c_UINT16_min o_c_UINT64_min o_c_INT64_min o_c_INT32_min o_c_INT8_min o_c_UINT8_min o_c_UINT32_min o_c_INT16_min h76 n0 O77 hS) hown (hw _ (List.mem_of_getElem? (i := 43) rfl)) (hw _ (List.mem_of_getElem? (i := 44) rfl)) (notFace_of_selects (args := #[]) (mvT hZ (hw _ (List.mem_of_getElem? (i := 46) rfl)))) (hw _ (List.mem_of_getElem? (i := 46) rfl)) (hw _ (List.mem_of_getElem? (i := 45) rfl)) (hw _ (List.mem_of_getElem? (i := 3) rfl)) (hw _ (List.mem_of_getElem? (i := 47) rfl)) (by decide) e76 (hS.2.2.2.2.2.2.2.2.2.2.2.2.2.2.2.2.2.2.2.2.2.2.2.2.2.2.2.2.2.1.ext O77.2) (g := (mkF m 174 #[.val (.int p0), .val (.ref b20), .val (.int (14 : Int32)), .val (.int (1 : Int32))] [(.ref c_UINT8)])) rfl (by rw [hml]; rfl) (lenOf own_pd__28_29Z rfl) rfl (W := 0) (by show 2 * 0 + _ ≤ _; exact Nat.le_of_eq rfl) (hb hby at_174) (by decide) (by decide) (by decide) (by decide)
    obtain ⟨rfl, Nq92, eq92⟩ := hQ92
    have N92 := Fr.app N76 Nq92
    refine own_st st92 ?_
    show own_go _ _ _ _ _ _ _ (T92.setTop (mkF m 177 #[.val (.int p0), .val (.ref b20), .val (.int (14 : Int32)), .val (.int (1 : Int32))] [(.int (1 : Int32))]))
    refine own_st (fun _ k => XS.iloadN X92.here hx rfl (hb hby at_177) rfl k) ?_
    show own_go _ _ _ _ _ _ _ (T92.setTop (mkF m 178 #[.val (.int p0), .val (.ref b20), .val (.int (14 : Int32)), .val (.int (1 : Int32))] [(.int (1 : Int32)), (.int (1 : Int32))]))
    refine own_st (fun _ k => XS.icmpNo X92.here hx rfl (hb hby at_178) rfl (by decide) k) ?_
    show own_go _ _ _ _ _ _ _ (T92.setTop (mkF m 181 #[.val (.int p0), .val (.ref b20), .val (.int (14 : Int32)), .val (.int (1 : Int32))] []))
    refine own_st (fun _ k => XS.iconst X92.here hx rfl (hb hby at_181) k) ?_
    show own_go _ _ _ _ _ _ _ (T92.setTop (mkF m 182 #[.val (.int p0), .val (.ref b20), .val (.int (14 : Int32)), .val (.int (1 : Int32))] [(.int (1 : Int32))]))
    refine own_st (fun _ k => XS.goto X92.here hx rfl (pc0 := 182) (pc' := 186) rfl (hb hby at_182) (by decide) (by decide) k) ?_
    show own_go _ _ _ _ _ _ _ (T92.setTop (mkF m 186 #[.val (.int p0), .val (.ref b20), .val (.int (14 : Int32)), .val (.int (1 : Int32))] [(.int (1 : Int32))]))
    exact own_retN X92 hx hlk (t := .boolean) hret (by simp) rfl (hb hby at_186) (by decide) (by decide) (⟨rfl, N92⟩)
  · skip
    rw [q]
    show own_go _ _ _ _ _ _ _ (T76.setTop (mkF m 140 #[.val (.int p0), .val (.ref b20), .unset, .unset] [(.int (15 : Int32))]))
    refine own_st (fun _ k => XS.istoreN X76.here hx rfl (hb hby at_140) rfl (l' := #[.val (.int p0), .val (.ref b20), .val (.int (15 : Int32)), .unset]) rfl k) ?_
    show own_go _ _ _ _ _ _ _ (T76.setTop (mkF m 141 #[.val (.int p0), .val (.ref b20), .val (.int (15 : Int32)), .unset] []))
    refine own_st (fun _ k => XS.iloadN X76.here hx rfl (hb hby at_141) rfl k) ?_
    show own_go _ _ _ _ _ _ _ (T76.setTop (mkF m 142 #[.val (.int p0), .val (.ref b20), .val (.int (15 : Int32)), .unset] [(.int (15 : Int32))]))
    refine own_st (fun _ k => XS.bipush X76.here hx rfl (hb hby at_142) k) ?_
    show own_go _ _ _ _ _ _ _ (T76.setTop (mkF m 144 #[.val (.int p0), .val (.ref b20), .val (.int (15 : Int32)), .unset] [(.int (8 : Int32)), (.int (15 : Int32))]))
    refine own_st (fun _ k => XS.icmpNo X76.here hx rfl (hb hby at_144) rfl (by decide) k) ?_
    show own_go _ _ _ _ _ _ _ (T76.setTop (mkF m 147 #[.val (.int p0), .val (.ref b20), .val (.int (15 : Int32)), .unset] []))
    refine own_st (fun _ k => XS.iloadN X76.here hx rfl (hb hby at_147) rfl k) ?_
    show own_go _ _ _ _ _ _ _ (T76.setTop (mkF m 148 #[.val (.int p0), .val (.ref b20), .val (.int (15 : Int32)), .unset] [(.int (15 : Int32))]))
    refine own_st (fun _ k => XS.bipush X76.here hx rfl (hb hby at_148) k) ?_
    show own_go _ _ _ _ _ _ _ (T76.setTop (mkF m 150 #[.val (.int p0), .val (.ref b20), .val (.int (15 : Int32)), .unset] [(.int (11 : Int32)), (.int (15 : Int32))]))
    refine own_st (fun _ k => XS.icmpNo X76.here hx rfl (hb hby at_150) rfl (by decide) k) ?_
    show own_go _ _ _ _ _ _ _ (T76.setTop (mkF m 153 #[.val (.int p0), .val (.ref b20), .val (.int (15 : Int32)), .unset] []))
    refine own_st (fun _ k => XS.iloadN X76.here hx rfl (hb hby at_153) rfl k) ?_
    show own_go _ _ _ _ _ _ _ (T76.setTop (mkF m 154 #[.val (.int p0), .val (.ref b20), .val (.int (15 : Int32)), .unset] [(.int (15 : Int32))]))
    refine own_st (fun _ k => XS.bipush X76.here hx rfl (hb hby at_154) k) ?_
    show own_go _ _ _ _ _ _ _ (T76.setTop (mkF m 156 #[.val (.int p0), .val (.ref b20), .val (.int (15 : Int32)), .unset] [(.int (14 : Int32)), (.int (15 : Int32))]))
    refine own_st (fun _ k => XS.icmpNo X76.here hx rfl (hb hby at_156) rfl (by decide) k) ?_
    show own_go _ _ _ _ _ _ _ (T76.setTop (mkF m 159 #[.val (.int p0), .val (.ref b20), .val (.int (15 : Int32)), .unset] []))
    refine own_st (fun _ k => XS.iloadN X76.here hx rfl (hb hby at_159) rfl k) ?_
    show own_go _ _ _ _ _ _ _ (T76.setTop (mkF m 160 #[.val (.int p0), .val (.ref b20), .val (.int (15 : Int32)), .unset] [(.int (15 : Int32))]))
    refine own_st (fun _ k => XS.bipush X76.here hx rfl (hb hby at_160) k) ?_
    show own_go _ _ _ _ _ _ _ (T76.setTop (mkF m 162 #[.val (.int p0), .val (.ref b20), .val (.int (15 : Int32)), .unset] [(.int (17 : Int32)), (.int (15 : Int32))]))
    refine own_st (fun _ k => XS.icmpNo X76.here hx rfl (hb hby at_162) rfl (by decide) k) ?_
    show own_go _ _ _ _ _ _ _ (T76.setTop (mkF m 165 #[.val (.int p0), .val (.ref b20), .val (.int (15 : Int32)), .unset] []))
    refine own_st (fun _ k => XS.iconst X76.here hx rfl (hb hby at_165) k) ?_
    show own_go _ _ _ _ _ _ _ (T76.setTop (mkF m 166 #[.val (.int p0), .val (.ref b20), .val (.int (15 : Int32)), .unset] [(.int (1 : Int32))]))
    refine own_st (fun _ k => XS.goto X76.here hx rfl (pc0 := 166) (pc' := 170) rfl (hb hby at_166) (by decide) (by decide) k) ?_
    show own_go _ _ _ _ _ _ _ (T76.setTop (mkF m 170 #[.val (.int p0), .val (.ref b20), .val (.int (15 : Int32)), .unset] [(.int (1 : Int32))]))
    refine own_st (fun _ k => XS.istoreN X76.here hx rfl (hb hby at_170) rfl (l' := #[.val (.int p0), .val (.ref b20), .val (.int (15 : Int32)), .val (.int (1 : Int32))]) rfl k) ?_
    show own_go _ _ _ _ _ _ _ (T76.setTop (mkF m 171 #[.val (.int p0), .val (.ref b20), .val (.int (15 : Int32)), .val (.int (1 : Int32))] []))
    refine own_st (fun _ k => XS.aloadN X76.here hx rfl (hb hby at_171) rfl rfl k) ?_
    show own_go _ _ _ _ _ _ _ (T76.setTop (mkF m 172 #[.val (.int p0), .val (.ref b20), .val (.int (15 : Int32)), .val (.int (1 : Int32))] [(.ref b20)]))
    refine own_st (fun _ k => XS.iloadN X76.here hx rfl (hb hby at_172) rfl k) ?_
    show own_go _ _ _ _ _ _ _ (T76.setTop (mkF m 173 #[.val (.int p0), .val (.ref b20), .val (.int (15 : Int32)), .val (.int (1 : Int32))] [(.int (15 : Int32)), (.ref b20)]))
    refine own_st (own_get X76 hx hZ e76 V76 rfl (j := (15 : Int32)) (by decide) (v := (.ref c_UINT16)) rfl (g := (mkF m 173 #[.val (.int p0), .val (.ref b20), .val (.int (15 : Int32)), .val (.int (1 : Int32))] [(.int (15 : Int32)), (.ref b20)])) rfl rfl (hb hby at_173)) ?_
    show own_go _ _ _ _ _ _ _ (T76.setTop (mkF m 174 #[.val (.int p0), .val (.ref b20), .val (.int (15 : Int32)), .val (.int (1 : Int32))] [(.ref c_UINT16)]))
    obtain ⟨v93, T93, L93, X93, hQ93, st93⟩ := own_callV X76 hx hZ (argsL := []) (rest := []) (rm1_15 l Z a0 hw c_BINARY c_BITS c_BOOLEAN c_DECIMAL64 c_EMPTY c_ENUMERATION c_IDENTITYREF c_INSTANCE_IDENTIFIER c_INT8 c_INT16 c_INT32 c_INT64 c_LEAFREF c_STRING c_UINT8 c_UINT16 c_UINT32 c_UINT64 c_UNION o_c_UINT16_min o_c_UINT64_min o_c_INT64_min o_c_INT32_min o_c_INT8_min o_c_UINT8_min o_c_UINT32_min o_c_INT16_min h76 n0 O77 hS) hown (hw _ (List.mem_of_getElem? (i := 43) rfl)) (hw _ (List.mem_of_getElem? (i := 44) rfl)) (notFace_of_selects (args := #[]) (mvT hZ (hw _ (List.mem_of_getElem? (i := 46) rfl)))) (hw _ (List.mem_of_getElem? (i := 46) rfl)) (hw _ (List.mem_of_getElem? (i := 45) rfl)) (hw _ (List.mem_of_getElem? (i := 3) rfl)) (hw _ (List.mem_of_getElem? (i := 47) rfl)) (by decide) e76 (hS.2.2.2.2.2.2.2.2.2.2.2.2.2.2.2.2.2.2.2.2.2.2.2.2.2.2.2.2.2.2.2.1.ext O77.2) (g := (mkF m 174 #[.val (.int p0), .val (.ref b20), .val (.int (15 : Int32)), .val (.int (1 : Int32))] [(.ref c_UINT16)])) rfl (by rw [hml]; rfl) (lenOf own_pd__28_29Z rfl) rfl (W := 0) (by show 2 * 0 + _ ≤ _; exact Nat.le_of_eq rfl) (hb hby at_174) (by decide) (by decide) (by decide) (by decide)
    obtain ⟨rfl, Nq93, eq93⟩ := hQ93
    have N93 := Fr.app N76 Nq93
    refine own_st st93 ?_
    show own_go _ _ _ _ _ _ _ (T93.setTop (mkF m 177 #[.val (.int p0), .val (.ref b20), .val (.int (15 : Int32)), .val (.int (1 : Int32))] [(.int (1 : Int32))]))
    refine own_st (fun _ k => XS.iloadN X93.here hx rfl (hb hby at_177) rfl k) ?_
    show own_go _ _ _ _ _ _ _ (T93.setTop (mkF m 178 #[.val (.int p0), .val (.ref b20), .val (.int (15 : Int32)), .val (.int (1 : Int32))] [(.int (1 : Int32)), (.int (1 : Int32))]))
    refine own_st (fun _ k => XS.icmpNo X93.here hx rfl (hb hby at_178) rfl (by decide) k) ?_
    show own_go _ _ _ _ _ _ _ (T93.setTop (mkF m 181 #[.val (.int p0), .val (.ref b20), .val (.int (15 : Int32)), .val (.int (1 : Int32))] []))
    refine own_st (fun _ k => XS.iconst X93.here hx rfl (hb hby at_181) k) ?_
    show own_go _ _ _ _ _ _ _ (T93.setTop (mkF m 182 #[.val (.int p0), .val (.ref b20), .val (.int (15 : Int32)), .val (.int (1 : Int32))] [(.int (1 : Int32))]))
    refine own_st (fun _ k => XS.goto X93.here hx rfl (pc0 := 182) (pc' := 186) rfl (hb hby at_182) (by decide) (by decide) k) ?_
    show own_go _ _ _ _ _ _ _ (T93.setTop (mkF m 186 #[.val (.int p0), .val (.ref b20), .val (.int (15 : Int32)), .val (.int (1 : Int32))] [(.int (1 : Int32))]))
    exact own_retN X93 hx hlk (t := .boolean) hret (by simp) rfl (hb hby at_186) (by decide) (by decide) (⟨rfl, N93⟩)
  · skip
    rw [q]
    show own_go _ _ _ _ _ _ _ (T76.setTop (mkF m 140 #[.val (.int p0), .val (.ref b20), .unset, .unset] [(.int (16 : Int32))]))
    refine own_st (fun _ k => XS.istoreN X76.here hx rfl (hb hby at_140) rfl (l' := #[.val (.int p0), .val (.ref b20), .val (.int (16 : Int32)), .unset]) rfl k) ?_
    show own_go _ _ _ _ _ _ _ (T76.setTop (mkF m 141 #[.val (.int p0), .val (.ref b20), .val (.int (16 : Int32)), .unset] []))
    refine own_st (fun _ k => XS.iloadN X76.here hx rfl (hb hby at_141) rfl k) ?_
    show own_go _ _ _ _ _ _ _ (T76.setTop (mkF m 142 #[.val (.int p0), .val (.ref b20), .val (.int (16 : Int32)), .unset] [(.int (16 : Int32))]))
    refine own_st (fun _ k => XS.bipush X76.here hx rfl (hb hby at_142) k) ?_
    show own_go _ _ _ _ _ _ _ (T76.setTop (mkF m 144 #[.val (.int p0), .val (.ref b20), .val (.int (16 : Int32)), .unset] [(.int (8 : Int32)), (.int (16 : Int32))]))
    refine own_st (fun _ k => XS.icmpNo X76.here hx rfl (hb hby at_144) rfl (by decide) k) ?_
    show own_go _ _ _ _ _ _ _ (T76.setTop (mkF m 147 #[.val (.int p0), .val (.ref b20), .val (.int (16 : Int32)), .unset] []))
    refine own_st (fun _ k => XS.iloadN X76.here hx rfl (hb hby at_147) rfl k) ?_
    show own_go _ _ _ _ _ _ _ (T76.setTop (mkF m 148 #[.val (.int p0), .val (.ref b20), .val (.int (16 : Int32)), .unset] [(.int (16 : Int32))]))
    refine own_st (fun _ k => XS.bipush X76.here hx rfl (hb hby at_148) k) ?_
    show own_go _ _ _ _ _ _ _ (T76.setTop (mkF m 150 #[.val (.int p0), .val (.ref b20), .val (.int (16 : Int32)), .unset] [(.int (11 : Int32)), (.int (16 : Int32))]))
    refine own_st (fun _ k => XS.icmpNo X76.here hx rfl (hb hby at_150) rfl (by decide) k) ?_
    show own_go _ _ _ _ _ _ _ (T76.setTop (mkF m 153 #[.val (.int p0), .val (.ref b20), .val (.int (16 : Int32)), .unset] []))
    refine own_st (fun _ k => XS.iloadN X76.here hx rfl (hb hby at_153) rfl k) ?_
    show own_go _ _ _ _ _ _ _ (T76.setTop (mkF m 154 #[.val (.int p0), .val (.ref b20), .val (.int (16 : Int32)), .unset] [(.int (16 : Int32))]))
    refine own_st (fun _ k => XS.bipush X76.here hx rfl (hb hby at_154) k) ?_
    show own_go _ _ _ _ _ _ _ (T76.setTop (mkF m 156 #[.val (.int p0), .val (.ref b20), .val (.int (16 : Int32)), .unset] [(.int (14 : Int32)), (.int (16 : Int32))]))
    refine own_st (fun _ k => XS.icmpNo X76.here hx rfl (hb hby at_156) rfl (by decide) k) ?_
    show own_go _ _ _ _ _ _ _ (T76.setTop (mkF m 159 #[.val (.int p0), .val (.ref b20), .val (.int (16 : Int32)), .unset] []))
    refine own_st (fun _ k => XS.iloadN X76.here hx rfl (hb hby at_159) rfl k) ?_
    show own_go _ _ _ _ _ _ _ (T76.setTop (mkF m 160 #[.val (.int p0), .val (.ref b20), .val (.int (16 : Int32)), .unset] [(.int (16 : Int32))]))
    refine own_st (fun _ k => XS.bipush X76.here hx rfl (hb hby at_160) k) ?_
    show own_go _ _ _ _ _ _ _ (T76.setTop (mkF m 162 #[.val (.int p0), .val (.ref b20), .val (.int (16 : Int32)), .unset] [(.int (17 : Int32)), (.int (16 : Int32))]))
    refine own_st (fun _ k => XS.icmpNo X76.here hx rfl (hb hby at_162) rfl (by decide) k) ?_
    show own_go _ _ _ _ _ _ _ (T76.setTop (mkF m 165 #[.val (.int p0), .val (.ref b20), .val (.int (16 : Int32)), .unset] []))
    refine own_st (fun _ k => XS.iconst X76.here hx rfl (hb hby at_165) k) ?_
    show own_go _ _ _ _ _ _ _ (T76.setTop (mkF m 166 #[.val (.int p0), .val (.ref b20), .val (.int (16 : Int32)), .unset] [(.int (1 : Int32))]))
    refine own_st (fun _ k => XS.goto X76.here hx rfl (pc0 := 166) (pc' := 170) rfl (hb hby at_166) (by decide) (by decide) k) ?_
    show own_go _ _ _ _ _ _ _ (T76.setTop (mkF m 170 #[.val (.int p0), .val (.ref b20), .val (.int (16 : Int32)), .unset] [(.int (1 : Int32))]))
    refine own_st (fun _ k => XS.istoreN X76.here hx rfl (hb hby at_170) rfl (l' := #[.val (.int p0), .val (.ref b20), .val (.int (16 : Int32)), .val (.int (1 : Int32))]) rfl k) ?_
    show own_go _ _ _ _ _ _ _ (T76.setTop (mkF m 171 #[.val (.int p0), .val (.ref b20), .val (.int (16 : Int32)), .val (.int (1 : Int32))] []))
    refine own_st (fun _ k => XS.aloadN X76.here hx rfl (hb hby at_171) rfl rfl k) ?_
    show own_go _ _ _ _ _ _ _ (T76.setTop (mkF m 172 #[.val (.int p0), .val (.ref b20), .val (.int (16 : Int32)), .val (.int (1 : Int32))] [(.ref b20)]))
    refine own_st (fun _ k => XS.iloadN X76.here hx rfl (hb hby at_172) rfl k) ?_
    show own_go _ _ _ _ _ _ _ (T76.setTop (mkF m 173 #[.val (.int p0), .val (.ref b20), .val (.int (16 : Int32)), .val (.int (1 : Int32))] [(.int (16 : Int32)), (.ref b20)]))
    refine own_st (own_get X76 hx hZ e76 V76 rfl (j := (16 : Int32)) (by decide) (v := (.ref c_UINT32)) rfl (g := (mkF m 173 #[.val (.int p0), .val (.ref b20), .val (.int (16 : Int32)), .val (.int (1 : Int32))] [(.int (16 : Int32)), (.ref b20)])) rfl rfl (hb hby at_173)) ?_
    show own_go _ _ _ _ _ _ _ (T76.setTop (mkF m 174 #[.val (.int p0), .val (.ref b20), .val (.int (16 : Int32)), .val (.int (1 : Int32))] [(.ref c_UINT32)]))
    obtain ⟨v94, T94, L94, X94, hQ94, st94⟩ := own_callV X76 hx hZ (argsL := []) (rest := []) (rm1_16 l Z a0 hw c_BINARY c_BITS c_BOOLEAN c_DECIMAL64 c_EMPTY c_ENUMERATION c_IDENTITYREF c_INSTANCE_IDENTIFIER c_INT8 c_INT16 c_INT32 c_INT64 c_LEAFREF c_STRING c_UINT8 c_UINT16 c_UINT32 c_UINT64 c_UNION o_c_UINT16_min o_c_UINT64_min o_c_INT64_min o_c_INT32_min o_c_INT8_min o_c_UINT8_min o_c_UINT32_min o_c_INT16_min h76 n0 O77 hS) hown (hw _ (List.mem_of_getElem? (i := 43) rfl)) (hw _ (List.mem_of_getElem? (i := 44) rfl)) (notFace_of_selects (args := #[]) (mvT hZ (hw _ (List.mem_of_getElem? (i := 46) rfl)))) (hw _ (List.mem_of_getElem? (i := 46) rfl)) (hw _ (List.mem_of_getElem? (i := 45) rfl)) (hw _ (List.mem_of_getElem? (i := 3) rfl)) (hw _ (List.mem_of_getElem? (i := 47) rfl)) (by decide) e76 (hS.2.2.2.2.2.2.2.2.2.2.2.2.2.2.2.2.2.2.2.2.2.2.2.2.2.2.2.2.2.2.2.2.2.1.ext O77.2) (g := (mkF m 174 #[.val (.int p0), .val (.ref b20), .val (.int (16 : Int32)), .val (.int (1 : Int32))] [(.ref c_UINT32)])) rfl (by rw [hml]; rfl) (lenOf own_pd__28_29Z rfl) rfl (W := 0) (by show 2 * 0 + _ ≤ _; exact Nat.le_of_eq rfl) (hb hby at_174) (by decide) (by decide) (by decide) (by decide)
    obtain ⟨rfl, Nq94, eq94⟩ := hQ94
    have N94 := Fr.app N76 Nq94
    refine own_st st94 ?_
    show own_go _ _ _ _ _ _ _ (T94.setTop (mkF m 177 #[.val (.int p0), .val (.ref b20), .val (.int (16 : Int32)), .val (.int (1 : Int32))] [(.int (1 : Int32))]))
    refine own_st (fun _ k => XS.iloadN X94.here hx rfl (hb hby at_177) rfl k) ?_
    show own_go _ _ _ _ _ _ _ (T94.setTop (mkF m 178 #[.val (.int p0), .val (.ref b20), .val (.int (16 : Int32)), .val (.int (1 : Int32))] [(.int (1 : Int32)), (.int (1 : Int32))]))
    refine own_st (fun _ k => XS.icmpNo X94.here hx rfl (hb hby at_178) rfl (by decide) k) ?_
    show own_go _ _ _ _ _ _ _ (T94.setTop (mkF m 181 #[.val (.int p0), .val (.ref b20), .val (.int (16 : Int32)), .val (.int (1 : Int32))] []))
    refine own_st (fun _ k => XS.iconst X94.here hx rfl (hb hby at_181) k) ?_
    show own_go _ _ _ _ _ _ _ (T94.setTop (mkF m 182 #[.val (.int p0), .val (.ref b20), .val (.int (16 : Int32)), .val (.int (1 : Int32))] [(.int (1 : Int32))]))
    refine own_st (fun _ k => XS.goto X94.here hx rfl (pc0 := 182) (pc' := 186) rfl (hb hby at_182) (by decide) (by decide) k) ?_
    show own_go _ _ _ _ _ _ _ (T94.setTop (mkF m 186 #[.val (.int p0), .val (.ref b20), .val (.int (16 : Int32)), .val (.int (1 : Int32))] [(.int (1 : Int32))]))
    exact own_retN X94 hx hlk (t := .boolean) hret (by simp) rfl (hb hby at_186) (by decide) (by decide) (⟨rfl, N94⟩)
  · skip
    rw [q]
    show own_go _ _ _ _ _ _ _ (T76.setTop (mkF m 140 #[.val (.int p0), .val (.ref b20), .unset, .unset] [(.int (17 : Int32))]))
    refine own_st (fun _ k => XS.istoreN X76.here hx rfl (hb hby at_140) rfl (l' := #[.val (.int p0), .val (.ref b20), .val (.int (17 : Int32)), .unset]) rfl k) ?_
    show own_go _ _ _ _ _ _ _ (T76.setTop (mkF m 141 #[.val (.int p0), .val (.ref b20), .val (.int (17 : Int32)), .unset] []))
    refine own_st (fun _ k => XS.iloadN X76.here hx rfl (hb hby at_141) rfl k) ?_
    show own_go _ _ _ _ _ _ _ (T76.setTop (mkF m 142 #[.val (.int p0), .val (.ref b20), .val (.int (17 : Int32)), .unset] [(.int (17 : Int32))]))
    refine own_st (fun _ k => XS.bipush X76.here hx rfl (hb hby at_142) k) ?_
    show own_go _ _ _ _ _ _ _ (T76.setTop (mkF m 144 #[.val (.int p0), .val (.ref b20), .val (.int (17 : Int32)), .unset] [(.int (8 : Int32)), (.int (17 : Int32))]))
    refine own_st (fun _ k => XS.icmpNo X76.here hx rfl (hb hby at_144) rfl (by decide) k) ?_
    show own_go _ _ _ _ _ _ _ (T76.setTop (mkF m 147 #[.val (.int p0), .val (.ref b20), .val (.int (17 : Int32)), .unset] []))
    refine own_st (fun _ k => XS.iloadN X76.here hx rfl (hb hby at_147) rfl k) ?_
    show own_go _ _ _ _ _ _ _ (T76.setTop (mkF m 148 #[.val (.int p0), .val (.ref b20), .val (.int (17 : Int32)), .unset] [(.int (17 : Int32))]))
    refine own_st (fun _ k => XS.bipush X76.here hx rfl (hb hby at_148) k) ?_
    show own_go _ _ _ _ _ _ _ (T76.setTop (mkF m 150 #[.val (.int p0), .val (.ref b20), .val (.int (17 : Int32)), .unset] [(.int (11 : Int32)), (.int (17 : Int32))]))
    refine own_st (fun _ k => XS.icmpNo X76.here hx rfl (hb hby at_150) rfl (by decide) k) ?_
    show own_go _ _ _ _ _ _ _ (T76.setTop (mkF m 153 #[.val (.int p0), .val (.ref b20), .val (.int (17 : Int32)), .unset] []))
    refine own_st (fun _ k => XS.iloadN X76.here hx rfl (hb hby at_153) rfl k) ?_
    show own_go _ _ _ _ _ _ _ (T76.setTop (mkF m 154 #[.val (.int p0), .val (.ref b20), .val (.int (17 : Int32)), .unset] [(.int (17 : Int32))]))
    refine own_st (fun _ k => XS.bipush X76.here hx rfl (hb hby at_154) k) ?_
    show own_go _ _ _ _ _ _ _ (T76.setTop (mkF m 156 #[.val (.int p0), .val (.ref b20), .val (.int (17 : Int32)), .unset] [(.int (14 : Int32)), (.int (17 : Int32))]))
    refine own_st (fun _ k => XS.icmpNo X76.here hx rfl (hb hby at_156) rfl (by decide) k) ?_
    show own_go _ _ _ _ _ _ _ (T76.setTop (mkF m 159 #[.val (.int p0), .val (.ref b20), .val (.int (17 : Int32)), .unset] []))
    refine own_st (fun _ k => XS.iloadN X76.here hx rfl (hb hby at_159) rfl k) ?_
    show own_go _ _ _ _ _ _ _ (T76.setTop (mkF m 160 #[.val (.int p0), .val (.ref b20), .val (.int (17 : Int32)), .unset] [(.int (17 : Int32))]))
    refine own_st (fun _ k => XS.bipush X76.here hx rfl (hb hby at_160) k) ?_
    show own_go _ _ _ _ _ _ _ (T76.setTop (mkF m 162 #[.val (.int p0), .val (.ref b20), .val (.int (17 : Int32)), .unset] [(.int (17 : Int32)), (.int (17 : Int32))]))
    refine own_st (fun _ k => XS.icmpNo X76.here hx rfl (hb hby at_162) rfl (by decide) k) ?_
    show own_go _ _ _ _ _ _ _ (T76.setTop (mkF m 165 #[.val (.int p0), .val (.ref b20), .val (.int (17 : Int32)), .unset] []))
    refine own_st (fun _ k => XS.iconst X76.here hx rfl (hb hby at_165) k) ?_
    show own_go _ _ _ _ _ _ _ (T76.setTop (mkF m 166 #[.val (.int p0), .val (.ref b20), .val (.int (17 : Int32)), .unset] [(.int (1 : Int32))]))
    refine own_st (fun _ k => XS.goto X76.here hx rfl (pc0 := 166) (pc' := 170) rfl (hb hby at_166) (by decide) (by decide) k) ?_
    show own_go _ _ _ _ _ _ _ (T76.setTop (mkF m 170 #[.val (.int p0), .val (.ref b20), .val (.int (17 : Int32)), .unset] [(.int (1 : Int32))]))
    refine own_st (fun _ k => XS.istoreN X76.here hx rfl (hb hby at_170) rfl (l' := #[.val (.int p0), .val (.ref b20), .val (.int (17 : Int32)), .val (.int (1 : Int32))]) rfl k) ?_
    show own_go _ _ _ _ _ _ _ (T76.setTop (mkF m 171 #[.val (.int p0), .val (.ref b20), .val (.int (17 : Int32)), .val (.int (1 : Int32))] []))
    refine own_st (fun _ k => XS.aloadN X76.here hx rfl (hb hby at_171) rfl rfl k) ?_
    show own_go _ _ _ _ _ _ _ (T76.setTop (mkF m 172 #[.val (.int p0), .val (.ref b20), .val (.int (17 : Int32)), .val (.int (1 : Int32))] [(.ref b20)]))
    refine own_st (fun _ k => XS.iloadN X76.here hx rfl (hb hby at_172) rfl k) ?_
    show own_go _ _ _ _ _ _ _ (T76.setTop (mkF m 173 #[.val (.int p0), .val (.ref b20), .val (.int (17 : Int32)), .val (.int (1 : Int32))] [(.int (17 : Int32)), (.ref b20)]))
    refine own_st (own_get X76 hx hZ e76 V76 rfl (j := (17 : Int32)) (by decide) (v := (.ref c_UINT64)) rfl (g := (mkF m 173 #[.val (.int p0), .val (.ref b20), .val (.int (17 : Int32)), .val (.int (1 : Int32))] [(.int (17 : Int32)), (.ref b20)])) rfl rfl (hb hby at_173)) ?_
    show own_go _ _ _ _ _ _ _ (T76.setTop (mkF m 174 #[.val (.int p0), .val (.ref b20), .val (.int (17 : Int32)), .val (.int (1 : Int32))] [(.ref c_UINT64)]))
    obtain ⟨v95, T95, L95, X95, hQ95, st95⟩ := own_callV X76 hx hZ (argsL := []) (rest := []) (rm1_17 l Z a0 hw c_BINARY c_BITS c_BOOLEAN c_DECIMAL64 c_EMPTY c_ENUMERATION c_IDENTITYREF c_INSTANCE_IDENTIFIER c_INT8 c_INT16 c_INT32 c_INT64 c_LEAFREF c_STRING c_UINT8 c_UINT16 c_UINT32 c_UINT64 c_UNION o_c_UINT16_min o_c_UINT64_min o_c_INT64_min o_c_INT32_min o_c_INT8_min o_c_UINT8_min o_c_UINT32_min o_c_INT16_min h76 n0 O77 hS) hown (hw _ (List.mem_of_getElem? (i := 43) rfl)) (hw _ (List.mem_of_getElem? (i := 44) rfl)) (notFace_of_selects (args := #[]) (mvT hZ (hw _ (List.mem_of_getElem? (i := 46) rfl)))) (hw _ (List.mem_of_getElem? (i := 46) rfl)) (hw _ (List.mem_of_getElem? (i := 45) rfl)) (hw _ (List.mem_of_getElem? (i := 3) rfl)) (hw _ (List.mem_of_getElem? (i := 47) rfl)) (by decide) e76 (hS.2.2.2.2.2.2.2.2.2.2.2.2.2.2.2.2.2.2.2.2.2.2.2.2.2.2.2.2.2.2.2.2.2.2.2.1.ext O77.2) (g := (mkF m 174 #[.val (.int p0), .val (.ref b20), .val (.int (17 : Int32)), .val (.int (1 : Int32))] [(.ref c_UINT64)])) rfl (by rw [hml]; rfl) (lenOf own_pd__28_29Z rfl) rfl (W := 0) (by show 2 * 0 + _ ≤ _; exact Nat.le_of_eq rfl) (hb hby at_174) (by decide) (by decide) (by decide) (by decide)
    obtain ⟨rfl, Nq95, eq95⟩ := hQ95
    have N95 := Fr.app N76 Nq95
    refine own_st st95 ?_
    show own_go _ _ _ _ _ _ _ (T95.setTop (mkF m 177 #[.val (.int p0), .val (.ref b20), .val (.int (17 : Int32)), .val (.int (1 : Int32))] [(.int (1 : Int32))]))
    refine own_st (fun _ k => XS.iloadN X95.here hx rfl (hb hby at_177) rfl k) ?_
    show own_go _ _ _ _ _ _ _ (T95.setTop (mkF m 178 #[.val (.int p0), .val (.ref b20), .val (.int (17 : Int32)), .val (.int (1 : Int32))] [(.int (1 : Int32)), (.int (1 : Int32))]))
    refine own_st (fun _ k => XS.icmpNo X95.here hx rfl (hb hby at_178) rfl (by decide) k) ?_
    show own_go _ _ _ _ _ _ _ (T95.setTop (mkF m 181 #[.val (.int p0), .val (.ref b20), .val (.int (17 : Int32)), .val (.int (1 : Int32))] []))
    refine own_st (fun _ k => XS.iconst X95.here hx rfl (hb hby at_181) k) ?_
    show own_go _ _ _ _ _ _ _ (T95.setTop (mkF m 182 #[.val (.int p0), .val (.ref b20), .val (.int (17 : Int32)), .val (.int (1 : Int32))] [(.int (1 : Int32))]))
    refine own_st (fun _ k => XS.goto X95.here hx rfl (pc0 := 182) (pc' := 186) rfl (hb hby at_182) (by decide) (by decide) k) ?_
    show own_go _ _ _ _ _ _ _ (T95.setTop (mkF m 186 #[.val (.int p0), .val (.ref b20), .val (.int (17 : Int32)), .val (.int (1 : Int32))] [(.int (1 : Int32))]))
    exact own_retN X95 hx hlk (t := .boolean) hret (by simp) rfl (hb hby at_186) (by decide) (by decide) (⟨rfl, N95⟩)
  · skip
    rw [q]
    show own_go _ _ _ _ _ _ _ (T76.setTop (mkF m 140 #[.val (.int p0), .val (.ref b20), .unset, .unset] [(.int (18 : Int32))]))
    refine own_st (fun _ k => XS.istoreN X76.here hx rfl (hb hby at_140) rfl (l' := #[.val (.int p0), .val (.ref b20), .val (.int (18 : Int32)), .unset]) rfl k) ?_
    show own_go _ _ _ _ _ _ _ (T76.setTop (mkF m 141 #[.val (.int p0), .val (.ref b20), .val (.int (18 : Int32)), .unset] []))
    refine own_st (fun _ k => XS.iloadN X76.here hx rfl (hb hby at_141) rfl k) ?_
    show own_go _ _ _ _ _ _ _ (T76.setTop (mkF m 142 #[.val (.int p0), .val (.ref b20), .val (.int (18 : Int32)), .unset] [(.int (18 : Int32))]))
    refine own_st (fun _ k => XS.bipush X76.here hx rfl (hb hby at_142) k) ?_
    show own_go _ _ _ _ _ _ _ (T76.setTop (mkF m 144 #[.val (.int p0), .val (.ref b20), .val (.int (18 : Int32)), .unset] [(.int (8 : Int32)), (.int (18 : Int32))]))
    refine own_st (fun _ k => XS.icmpNo X76.here hx rfl (hb hby at_144) rfl (by decide) k) ?_
    show own_go _ _ _ _ _ _ _ (T76.setTop (mkF m 147 #[.val (.int p0), .val (.ref b20), .val (.int (18 : Int32)), .unset] []))
    refine own_st (fun _ k => XS.iloadN X76.here hx rfl (hb hby at_147) rfl k) ?_
    show own_go _ _ _ _ _ _ _ (T76.setTop (mkF m 148 #[.val (.int p0), .val (.ref b20), .val (.int (18 : Int32)), .unset] [(.int (18 : Int32))]))
    refine own_st (fun _ k => XS.bipush X76.here hx rfl (hb hby at_148) k) ?_
    show own_go _ _ _ _ _ _ _ (T76.setTop (mkF m 150 #[.val (.int p0), .val (.ref b20), .val (.int (18 : Int32)), .unset] [(.int (11 : Int32)), (.int (18 : Int32))]))
    refine own_st (fun _ k => XS.icmpNo X76.here hx rfl (hb hby at_150) rfl (by decide) k) ?_
    show own_go _ _ _ _ _ _ _ (T76.setTop (mkF m 153 #[.val (.int p0), .val (.ref b20), .val (.int (18 : Int32)), .unset] []))
    refine own_st (fun _ k => XS.iloadN X76.here hx rfl (hb hby at_153) rfl k) ?_
    show own_go _ _ _ _ _ _ _ (T76.setTop (mkF m 154 #[.val (.int p0), .val (.ref b20), .val (.int (18 : Int32)), .unset] [(.int (18 : Int32))]))
    refine own_st (fun _ k => XS.bipush X76.here hx rfl (hb hby at_154) k) ?_
    show own_go _ _ _ _ _ _ _ (T76.setTop (mkF m 156 #[.val (.int p0), .val (.ref b20), .val (.int (18 : Int32)), .unset] [(.int (14 : Int32)), (.int (18 : Int32))]))
    refine own_st (fun _ k => XS.icmpNo X76.here hx rfl (hb hby at_156) rfl (by decide) k) ?_
    show own_go _ _ _ _ _ _ _ (T76.setTop (mkF m 159 #[.val (.int p0), .val (.ref b20), .val (.int (18 : Int32)), .unset] []))
    refine own_st (fun _ k => XS.iloadN X76.here hx rfl (hb hby at_159) rfl k) ?_
    show own_go _ _ _ _ _ _ _ (T76.setTop (mkF m 160 #[.val (.int p0), .val (.ref b20), .val (.int (18 : Int32)), .unset] [(.int (18 : Int32))]))
    refine own_st (fun _ k => XS.bipush X76.here hx rfl (hb hby at_160) k) ?_
    show own_go _ _ _ _ _ _ _ (T76.setTop (mkF m 162 #[.val (.int p0), .val (.ref b20), .val (.int (18 : Int32)), .unset] [(.int (17 : Int32)), (.int (18 : Int32))]))
    refine own_st (fun _ k => XS.icmpYes X76.here hx rfl (pc0 := 162) (pc' := 169) rfl (hb hby at_162) rfl (by decide) (by decide) (by decide) k) ?_
    show own_go _ _ _ _ _ _ _ (T76.setTop (mkF m 169 #[.val (.int p0), .val (.ref b20), .val (.int (18 : Int32)), .unset] []))
    refine own_st (fun _ k => XS.iconst X76.here hx rfl (hb hby at_169) k) ?_
    show own_go _ _ _ _ _ _ _ (T76.setTop (mkF m 170 #[.val (.int p0), .val (.ref b20), .val (.int (18 : Int32)), .unset] [(.int (0 : Int32))]))
    refine own_st (fun _ k => XS.istoreN X76.here hx rfl (hb hby at_170) rfl (l' := #[.val (.int p0), .val (.ref b20), .val (.int (18 : Int32)), .val (.int (0 : Int32))]) rfl k) ?_
    show own_go _ _ _ _ _ _ _ (T76.setTop (mkF m 171 #[.val (.int p0), .val (.ref b20), .val (.int (18 : Int32)), .val (.int (0 : Int32))] []))
    refine own_st (fun _ k => XS.aloadN X76.here hx rfl (hb hby at_171) rfl rfl k) ?_
    show own_go _ _ _ _ _ _ _ (T76.setTop (mkF m 172 #[.val (.int p0), .val (.ref b20), .val (.int (18 : Int32)), .val (.int (0 : Int32))] [(.ref b20)]))
    refine own_st (fun _ k => XS.iloadN X76.here hx rfl (hb hby at_172) rfl k) ?_
    show own_go _ _ _ _ _ _ _ (T76.setTop (mkF m 173 #[.val (.int p0), .val (.ref b20), .val (.int (18 : Int32)), .val (.int (0 : Int32))] [(.int (18 : Int32)), (.ref b20)]))
    refine own_st (own_get X76 hx hZ e76 V76 rfl (j := (18 : Int32)) (by decide) (v := (.ref c_UNION)) rfl (g := (mkF m 173 #[.val (.int p0), .val (.ref b20), .val (.int (18 : Int32)), .val (.int (0 : Int32))] [(.int (18 : Int32)), (.ref b20)])) rfl rfl (hb hby at_173)) ?_
    show own_go _ _ _ _ _ _ _ (T76.setTop (mkF m 174 #[.val (.int p0), .val (.ref b20), .val (.int (18 : Int32)), .val (.int (0 : Int32))] [(.ref c_UNION)]))
    obtain ⟨v96, T96, L96, X96, hQ96, st96⟩ := own_callV X76 hx hZ (argsL := []) (rest := []) (rm1_18 l Z a0 hw c_BINARY c_BITS c_BOOLEAN c_DECIMAL64 c_EMPTY c_ENUMERATION c_IDENTITYREF c_INSTANCE_IDENTIFIER c_INT8 c_INT16 c_INT32 c_INT64 c_LEAFREF c_STRING c_UINT8 c_UINT16 c_UINT32 c_UINT64 c_UNION o_c_UINT16_min o_c_UINT64_min o_c_INT64_min o_c_INT32_min o_c_INT8_min o_c_UINT8_min o_c_UINT32_min o_c_INT16_min h76 n0 O77 hS) hown (hw _ (List.mem_of_getElem? (i := 43) rfl)) (hw _ (List.mem_of_getElem? (i := 44) rfl)) (notFace_of_selects (args := #[]) (mvT hZ (hw _ (List.mem_of_getElem? (i := 46) rfl)))) (hw _ (List.mem_of_getElem? (i := 46) rfl)) (hw _ (List.mem_of_getElem? (i := 45) rfl)) (hw _ (List.mem_of_getElem? (i := 3) rfl)) (hw _ (List.mem_of_getElem? (i := 47) rfl)) (by decide) e76 (hS.2.2.2.2.2.2.2.2.2.2.2.2.2.2.2.2.2.2.2.2.2.2.2.2.2.2.2.2.2.2.2.2.2.2.2.2.2.1.ext O77.2) (g := (mkF m 174 #[.val (.int p0), .val (.ref b20), .val (.int (18 : Int32)), .val (.int (0 : Int32))] [(.ref c_UNION)])) rfl (by rw [hml]; rfl) (lenOf own_pd__28_29Z rfl) rfl (W := 0) (by show 2 * 0 + _ ≤ _; exact Nat.le_of_eq rfl) (hb hby at_174) (by decide) (by decide) (by decide) (by decide)
    obtain ⟨rfl, Nq96, eq96⟩ := hQ96
    have N96 := Fr.app N76 Nq96
    refine own_st st96 ?_
    show own_go _ _ _ _ _ _ _ (T96.setTop (mkF m 177 #[.val (.int p0), .val (.ref b20), .val (.int (18 : Int32)), .val (.int (0 : Int32))] [(.int (0 : Int32))]))
    refine own_st (fun _ k => XS.iloadN X96.here hx rfl (hb hby at_177) rfl k) ?_
    show own_go _ _ _ _ _ _ _ (T96.setTop (mkF m 178 #[.val (.int p0), .val (.ref b20), .val (.int (18 : Int32)), .val (.int (0 : Int32))] [(.int (0 : Int32)), (.int (0 : Int32))]))
    refine own_st (fun _ k => XS.icmpNo X96.here hx rfl (hb hby at_178) rfl (by decide) k) ?_
    show own_go _ _ _ _ _ _ _ (T96.setTop (mkF m 181 #[.val (.int p0), .val (.ref b20), .val (.int (18 : Int32)), .val (.int (0 : Int32))] []))
    refine own_st (fun _ k => XS.iconst X96.here hx rfl (hb hby at_181) k) ?_
    show own_go _ _ _ _ _ _ _ (T96.setTop (mkF m 182 #[.val (.int p0), .val (.ref b20), .val (.int (18 : Int32)), .val (.int (0 : Int32))] [(.int (1 : Int32))]))
    refine own_st (fun _ k => XS.goto X96.here hx rfl (pc0 := 182) (pc' := 186) rfl (hb hby at_182) (by decide) (by decide) k) ?_
    show own_go _ _ _ _ _ _ _ (T96.setTop (mkF m 186 #[.val (.int p0), .val (.ref b20), .val (.int (18 : Int32)), .val (.int (0 : Int32))] [(.int (1 : Int32))]))
    exact own_retN X96 hx hlk (t := .boolean) hret (by simp) rfl (hb hby at_186) (by decide) (by decide) (⟨rfl, N96⟩)
set_option maxRecDepth 65536 in
set_option maxHeartbeats 40000000 in
theorem comes_1 {Post : Tables → Env → Array Value → State → Outcome → State → Prop} (hpost : ∀ tb e args s v u, (limb_1_1.after args s (.returned v) u = true ∧ limb_1_2.after args s (.returned v) u = true ∧ True) → FrameEnd s (.returned v) u (Jvm.fieldLocs frame_1_writes args s ++ Jvm.arrayLocs frame_1_arrays args s ++ Jvm.staticLocs frame_1_statics s) 16 128 → Post tb e args s (.returned v) u) :
    ArmFor flags0 classFile x code maxLocals ret World_1 tables_1 room_1 Calls_1 rest_1 Pre_1 Post := by
  intro l hfl _ _ p e ha hc hk s m args below hf hA hF happ hP
  obtain ⟨hcalls, hrest, hpre⟩ := hP
  obtain ⟨-, -, -, hnamed, -, -, -, hat⟩ := (Spec.applies_iff hf).mp happ
  obtain ⟨hg, hn⟩ := and_e (Cond.before_iff.mp (show (Jvm.Cond.and given_1 narrow_1).before args s = true from hpre))
  obtain ⟨h1, hg0⟩ := and_e hg
  obtain ⟨w0, rfl⟩ : ∃ w0 : Value, args = #[w0] := by
    have hs : args.size = 1 := by simpa [Cond.value, given_1] using h1
    obtain ⟨L⟩ := args
    match L, hs with
    | [w0], _ => exact ⟨w0, rfl⟩
  have hw := fun d (hd : d ∈ tables_1) => atoms_spec (ws := Jvm.Cond.code x code maxLocals ret :: tables_1) hat d (List.mem_cons_of_mem _ hd)
  obtain ⟨i0, e0⟩ := is_v hg0
  obtain rfl : w0 = (.int i0) := Option.some.inj e0
  have hfit : Fit s := fun {y c} hc i hi => by
    obtain ⟨ha, rfl⟩ := Array.getElem?_eq_some_iff.mp hc
    have q := List.all_eq_true.mp ((Array.all_eq_true_iff_forall_mem.mp hF) _ (Array.getElem_mem ha)) i (List.mem_range.mpr hi)
    simpa [Array.getElem?_eq_getElem hi] using q
  obtain ⟨n1, r1⟩ := and_e hn
  obtain ⟨n2, r2⟩ := and_e r1
  obtain ⟨n3, r3⟩ := and_e r2
  obtain ⟨n4, r4⟩ := and_e r3
  obtain ⟨n5, r5⟩ := and_e r4
  obtain ⟨n6, r6⟩ := and_e r5
  obtain ⟨n7, r7⟩ := and_e r6
  obtain ⟨n8, r8⟩ := and_e r7
  obtain ⟨n9, r9⟩ := and_e r8
  obtain ⟨n10, r10⟩ := and_e r9
  obtain ⟨n11, r11⟩ := and_e r10
  obtain ⟨n12, r12⟩ := and_e r11
  obtain ⟨n13, r13⟩ := and_e r12
  obtain ⟨n14, r14⟩ := and_e r13
  obtain ⟨n15, r15⟩ := and_e r14
  obtain ⟨n16, r16⟩ := and_e r15
  obtain ⟨n17, r17⟩ := and_e r16
  obtain ⟨n18, r18⟩ := and_e r17
  obtain ⟨n19, r19⟩ := and_e r18
  obtain ⟨n20, r20⟩ := and_e r19
  obtain ⟨n21, r21⟩ := and_e r20
  obtain ⟨n22, r22⟩ := and_e r21
  obtain ⟨n23, r23⟩ := and_e r22
  obtain ⟨n24, r24⟩ := and_e r23
  obtain ⟨n25, r25⟩ := and_e r24
  obtain ⟨n26, r26⟩ := and_e r25
  obtain ⟨n27, r27⟩ := and_e r26
  obtain ⟨n28, r28⟩ := and_e r27
  obtain ⟨n29, r29⟩ := and_e r28
  obtain ⟨n30, r30⟩ := and_e r29
  obtain ⟨n31, r31⟩ := and_e r30
  obtain ⟨n32, r32⟩ := and_e r31
  obtain ⟨n33, r33⟩ := and_e r32
  obtain ⟨n34, r34⟩ := and_e r33
  obtain ⟨n35, r35⟩ := and_e r34
  obtain ⟨n36, r36⟩ := and_e r35
  obtain ⟨n37, r37⟩ := and_e r36
  have n38 := r37
  obtain ⟨c_BINARY, v_c_BINARY⟩ := exa_v n1
  have E_c_BINARY := Exa.start v_c_BINARY n1
  have S_c_BINARY := Sta.start v_c_BINARY (Or.inr ⟨(hw _ (List.mem_of_getElem? (i := 3) rfl)), (hw _ (List.mem_of_getElem? (i := 4) rfl))⟩)
  obtain ⟨c_BITS, v_c_BITS⟩ := exa_v n2
  have E_c_BITS := Exa.start v_c_BITS n2
  have S_c_BITS := Sta.start v_c_BITS (Or.inr ⟨(hw _ (List.mem_of_getElem? (i := 3) rfl)), (hw _ (List.mem_of_getElem? (i := 7) rfl))⟩)
  obtain ⟨c_BOOLEAN, v_c_BOOLEAN⟩ := exa_v n3
  have E_c_BOOLEAN := Exa.start v_c_BOOLEAN n3
  have S_c_BOOLEAN := Sta.start v_c_BOOLEAN (Or.inr ⟨(hw _ (List.mem_of_getElem? (i := 3) rfl)), (hw _ (List.mem_of_getElem? (i := 9) rfl))⟩)
  obtain ⟨c_DECIMAL64, v_c_DECIMAL64⟩ := exa_v n4
  have E_c_DECIMAL64 := Exa.start v_c_DECIMAL64 n4
  have S_c_DECIMAL64 := Sta.start v_c_DECIMAL64 (Or.inr ⟨(hw _ (List.mem_of_getElem? (i := 3) rfl)), (hw _ (List.mem_of_getElem? (i := 11) rfl))⟩)
  obtain ⟨c_EMPTY, v_c_EMPTY⟩ := exa_v n5
  have E_c_EMPTY := Exa.start v_c_EMPTY n5
  have S_c_EMPTY := Sta.start v_c_EMPTY (Or.inr ⟨(hw _ (List.mem_of_getElem? (i := 3) rfl)), (hw _ (List.mem_of_getElem? (i := 13) rfl))⟩)
  obtain ⟨c_ENUMERATION, v_c_ENUMERATION⟩ := exa_v n6
  have E_c_ENUMERATION := Exa.start v_c_ENUMERATION n6
  have S_c_ENUMERATION := Sta.start v_c_ENUMERATION (Or.inr ⟨(hw _ (List.mem_of_getElem? (i := 3) rfl)), (hw _ (List.mem_of_getElem? (i := 15) rfl))⟩)
  obtain ⟨c_IDENTITYREF, v_c_IDENTITYREF⟩ := exa_v n7
  have E_c_IDENTITYREF := Exa.start v_c_IDENTITYREF n7
  have S_c_IDENTITYREF := Sta.start v_c_IDENTITYREF (Or.inr ⟨(hw _ (List.mem_of_getElem? (i := 3) rfl)), (hw _ (List.mem_of_getElem? (i := 17) rfl))⟩)
  obtain ⟨c_INSTANCE_IDENTIFIER, v_c_INSTANCE_IDENTIFIER⟩ := exa_v n8
  have E_c_INSTANCE_IDENTIFIER := Exa.start v_c_INSTANCE_IDENTIFIER n8
  have S_c_INSTANCE_IDENTIFIER := Sta.start v_c_INSTANCE_IDENTIFIER (Or.inr ⟨(hw _ (List.mem_of_getElem? (i := 3) rfl)), (hw _ (List.mem_of_getElem? (i := 19) rfl))⟩)
  obtain ⟨c_INT8, v_c_INT8⟩ := exa_v n9
  have E_c_INT8 := Exa.start v_c_INT8 n9
  have S_c_INT8 := Sta.start v_c_INT8 (Or.inr ⟨(hw _ (List.mem_of_getElem? (i := 3) rfl)), (hw _ (List.mem_of_getElem? (i := 21) rfl))⟩)
  obtain ⟨c_INT16, v_c_INT16⟩ := exa_v n10
  have E_c_INT16 := Exa.start v_c_INT16 n10
  have S_c_INT16 := Sta.start v_c_INT16 (Or.inr ⟨(hw _ (List.mem_of_getElem? (i := 3) rfl)), (hw _ (List.mem_of_getElem? (i := 23) rfl))⟩)
  obtain ⟨c_INT32, v_c_INT32⟩ := exa_v n11
  have E_c_INT32 := Exa.start v_c_INT32 n11
  have S_c_INT32 := Sta.start v_c_INT32 (Or.inr ⟨(hw _ (List.mem_of_getElem? (i := 3) rfl)), (hw _ (List.mem_of_getElem? (i := 25) rfl))⟩)
  obtain ⟨c_INT64, v_c_INT64⟩ := exa_v n12
  have E_c_INT64 := Exa.start v_c_INT64 n12
  have S_c_INT64 := Sta.start v_c_INT64 (Or.inr ⟨(hw _ (List.mem_of_getElem? (i := 3) rfl)), (hw _ (List.mem_of_getElem? (i := 27) rfl))⟩)
  obtain ⟨c_LEAFREF, v_c_LEAFREF⟩ := exa_v n13
  have E_c_LEAFREF := Exa.start v_c_LEAFREF n13
  have S_c_LEAFREF := Sta.start v_c_LEAFREF (Or.inr ⟨(hw _ (List.mem_of_getElem? (i := 3) rfl)), (hw _ (List.mem_of_getElem? (i := 29) rfl))⟩)
  obtain ⟨c_STRING, v_c_STRING⟩ := exa_v n14
  have E_c_STRING := Exa.start v_c_STRING n14
  have S_c_STRING := Sta.start v_c_STRING (Or.inr ⟨(hw _ (List.mem_of_getElem? (i := 3) rfl)), (hw _ (List.mem_of_getElem? (i := 31) rfl))⟩)
  obtain ⟨c_UINT8, v_c_UINT8⟩ := exa_v n15
  have E_c_UINT8 := Exa.start v_c_UINT8 n15
  have S_c_UINT8 := Sta.start v_c_UINT8 (Or.inr ⟨(hw _ (List.mem_of_getElem? (i := 3) rfl)), (hw _ (List.mem_of_getElem? (i := 33) rfl))⟩)
  obtain ⟨c_UINT16, v_c_UINT16⟩ := exa_v n16
  have E_c_UINT16 := Exa.start v_c_UINT16 n16
  have S_c_UINT16 := Sta.start v_c_UINT16 (Or.inr ⟨(hw _ (List.mem_of_getElem? (i := 3) rfl)), (hw _ (List.mem_of_getElem? (i := 35) rfl))⟩)
  obtain ⟨c_UINT32, v_c_UINT32⟩ := exa_v n17
  have E_c_UINT32 := Exa.start v_c_UINT32 n17
  have S_c_UINT32 := Sta.start v_c_UINT32 (Or.inr ⟨(hw _ (List.mem_of_getElem? (i := 3) rfl)), (hw _ (List.mem_of_getElem? (i := 37) rfl))⟩)
  obtain ⟨c_UINT64, v_c_UINT64⟩ := exa_v n18
  have E_c_UINT64 := Exa.start v_c_UINT64 n18
  have S_c_UINT64 := Sta.start v_c_UINT64 (Or.inr ⟨(hw _ (List.mem_of_getElem? (i := 3) rfl)), (hw _ (List.mem_of_getElem? (i := 39) rfl))⟩)
  obtain ⟨c_UNION, v_c_UNION⟩ := exa_v n19
  have E_c_UNION := Exa.start v_c_UNION n19
  have S_c_UNION := Sta.start v_c_UNION (Or.inr ⟨(hw _ (List.mem_of_getElem? (i := 3) rfl)), (hw _ (List.mem_of_getElem? (i := 41) rfl))⟩)
  have F_c_BINARY_min := own_fldN v_c_BINARY n20
  have F_c_DECIMAL64_min := own_fldN v_c_DECIMAL64 n21
  obtain ⟨o_c_UINT16_min, F_c_UINT16_min, E_o_c_UINT16_min⟩ := own_fldX v_c_UINT16 n22
  have F_c_ENUMERATION_min := own_fldN v_c_ENUMERATION n23
  obtain ⟨o_c_UINT64_min, F_c_UINT64_min, E_o_c_UINT64_min⟩ := own_fldX v_c_UINT64 n24
  have F_c_INSTANCE_IDENTIFIER_min := own_fldN v_c_INSTANCE_IDENTIFIER n25
  have F_c_BOOLEAN_min := own_fldN v_c_BOOLEAN n26
  obtain ⟨o_c_INT64_min, F_c_INT64_min, E_o_c_INT64_min⟩ := own_fldX v_c_INT64 n27
  obtain ⟨o_c_INT32_min, F_c_INT32_min, E_o_c_INT32_min⟩ := own_fldX v_c_INT32 n28
  obtain ⟨o_c_INT8_min, F_c_INT8_min, E_o_c_INT8_min⟩ := own_fldX v_c_INT8 n29
  have F_c_BITS_min := own_fldN v_c_BITS n30
  obtain ⟨o_c_UINT8_min, F_c_UINT8_min, E_o_c_UINT8_min⟩ := own_fldX v_c_UINT8 n31
  have F_c_UNION_min := own_fldN v_c_UNION n32
  have F_c_IDENTITYREF_min := own_fldN v_c_IDENTITYREF n33
  obtain ⟨o_c_UINT32_min, F_c_UINT32_min, E_o_c_UINT32_min⟩ := own_fldX v_c_UINT32 n34
  have F_c_EMPTY_min := own_fldN v_c_EMPTY n35
  obtain ⟨o_c_INT16_min, F_c_INT16_min, E_o_c_INT16_min⟩ := own_fldX v_c_INT16 n36
  have F_c_LEAFREF_min := own_fldN v_c_LEAFREF n37
  have F_c_STRING_min := own_fldN v_c_STRING n38
  have hS : own_S s c_BINARY c_BITS c_BOOLEAN c_DECIMAL64 c_EMPTY c_ENUMERATION c_IDENTITYREF c_INSTANCE_IDENTIFIER c_INT8 c_INT16 c_INT32 c_INT64 c_LEAFREF c_STRING c_UINT8 c_UINT16 c_UINT32 c_UINT64 c_UNION o_c_UINT16_min o_c_UINT64_min o_c_INT64_min o_c_INT32_min o_c_INT8_min o_c_UINT8_min o_c_UINT32_min o_c_INT16_min := ⟨S_c_BINARY, E_c_BINARY, S_c_BITS, E_c_BITS, S_c_BOOLEAN, E_c_BOOLEAN, S_c_DECIMAL64, E_c_DECIMAL64, S_c_EMPTY, E_c_EMPTY, S_c_ENUMERATION, E_c_ENUMERATION, S_c_IDENTITYREF, E_c_IDENTITYREF, S_c_INSTANCE_IDENTIFIER, E_c_INSTANCE_IDENTIFIER, S_c_INT8, E_c_INT8, S_c_INT16, E_c_INT16, S_c_INT32, E_c_INT32, S_c_INT64, E_c_INT64, S_c_LEAFREF, E_c_LEAFREF, S_c_STRING, E_c_STRING, S_c_UINT8, E_c_UINT8, S_c_UINT16, E_c_UINT16, S_c_UINT32, E_c_UINT32, S_c_UINT64, E_c_UINT64, S_c_UNION, E_c_UNION, F_c_BINARY_min, F_c_DECIMAL64_min, F_c_UINT16_min, E_o_c_UINT16_min, F_c_ENUMERATION_min, F_c_UINT64_min, E_o_c_UINT64_min, F_c_INSTANCE_IDENTIFIER_min, F_c_BOOLEAN_min, F_c_INT64_min, E_o_c_INT64_min, F_c_INT32_min, E_o_c_INT32_min, F_c_INT8_min, E_o_c_INT8_min, F_c_BITS_min, F_c_UINT8_min, E_o_c_UINT8_min, F_c_UNION_min, F_c_IDENTITYREF_min, F_c_UINT32_min, E_o_c_UINT32_min, F_c_EMPTY_min, F_c_INT16_min, E_o_c_INT16_min, F_c_LEAFREF_min, F_c_STRING_min⟩

  obtain ⟨n, o, h1, h2, h3, _, L, rfl, ⟨rfl, N⟩, hq⟩ := rm0 l s _ hw tables_1 i0 c_BINARY c_BITS c_BOOLEAN c_DECIMAL64 c_EMPTY c_ENUMERATION c_IDENTITYREF c_INSTANCE_IDENTIFIER c_INT8 c_INT16 c_INT32 c_INT64 c_LEAFREF c_STRING c_UINT8 c_UINT16 c_UINT32 c_UINT64 c_UNION o_c_UINT16_min o_c_UINT64_min o_c_INT64_min o_c_INT32_min o_c_INT8_min o_c_UINT8_min o_c_UINT32_min o_c_INT16_min s.heap s.heap.size (Old.start s) hS p e ha hc hk s m _ below hf ((Spec.applies_iff_loose hf).mp happ).1 ⟨rfl, State.Warmed39.refl s, rfl⟩ trivial
  refine ⟨n, _, h1, h2, h3, hpost _ _ _ _ _ _ ⟨Cond.after_iff.mpr rfl, Cond.after_iff.mpr (eq_i res_at (Term.int_eval (1)) rfl), trivial⟩ ⟨hq.1, hq.2.1, (hq.2.2.sift fun y hy => Or.inr (N y hy)).mono (by decide) (by decide)⟩⟩
theorem main_1_1 : Claimed_1_1 := comes_1 fun _ _ _ _ _ _ h hF => ⟨h.1, hF⟩
theorem main_1_2 : Claimed_1_2 := comes_1 fun _ _ _ _ _ _ h hF => ⟨h.2.1, hF⟩
end Jvm.Pilot.@@N@@
namespace Jvm.Pilot.@@N@@
open Jvm Jvm.ClassFile Sem Op Lib Jvm.Free Jvm.Stand Jvm.Pilot.@@N@@.Jvm.D
/-! MADE BY PROGRAM (witnessworld.py) out of the Statement's table words and the real class files: 15 classes; the members and pool entries that the words name. The judged class is class 1, her method 1. -/
namespace start1
open Jvm.ClassFile
def u (s : String) : CpInfo := .utf8 (stringToUtf16 s)
/-- a pool by its gaps: so many unusable entries, then the entry; so many at the end -/
def gap : Nat → List CpInfo → List CpInfo
  | 0, r => r
  | n + 1, r => .unusable :: gap n r
def poolList (es : List (Nat × CpInfo)) (last : Nat) : List CpInfo := es.foldr (fun e r => gap e.1 (e.2 :: r)) (gap last [])
def pool (es : List (Nat × CpInfo)) (last : Nat) : Array CpInfo := ⟨poolList es last⟩
def fileOf (pool : Array CpInfo) (this : Nat) (attrs : Array Attribute := #[]) (ms : Array MethodInfo := #[]) (fl : Nat := 33) (sup : Nat := 0) (ifs : Array Nat := #[]) (fds : Array FieldInfo := #[]) : ClassFile where
  minorVersion := 0
  majorVersion := 65
  constantPool := pool
  accessFlags := fl
  thisClass := this
  superClass := sup
  interfaces := ifs
  fields := fds
  methods := ms
  attributes := attrs
def plain (name : String) (sup : Option ClassId) : Class where
  name := name
  kind := .ordinary
  loader := none
  accessFlags := 33
  super := sup
  interfaces := #[]
  cf := none
  fields := #[]
  methods := #[]
  instanceTypes := #[]
  staticTypes := #[]
  resolved := #[]
  callSites := []
  init := .initialized
  statics := none
  mirror := none

def pool0 : Array CpInfo := pool [(5, u "<init>"), (0, u "()V"), (1, .class_ 10), (1, u "java/lang/Object")] 113

def k0m0 : Method := { name := "<init>", desc := "()V", sig := { parameters := [], returnType := none }, accessFlags := 1, code := none }
/-- java/lang/Object -/
def k0 : Class := { plain "java/lang/Object" none with
  accessFlags := 33
  interfaces := #[]
  cf := some (fileOf pool0 8 #[] #[{ accessFlags := 1, nameIndex := 5, descriptorIndex := 6, attributes := #[] }] 33 0 #[] #[])
  fields := #[]
  methods := #[k0m0]
  instanceTypes := #[]
  staticTypes := #[]
  resolved := Array.replicate 124 none
  statics := none }

def pool1 : Array CpInfo := pool [(2, .class_ 4), (1, u "java/lang/Object"), (0, u "<init>"), (0, u "()V"), (0, .class_ 8), (0, u "com/example/bough/bough/BuiltInType"), (0, .fieldref 7 10), (0, .nameAndType 11 12), (0, u "BINARY"), (0, u "Lcom/example/bough/bough/BuiltInType;"), (0, .fieldref 7 14), (0, .nameAndType 15 12), (0, u "BITS"), (0, .fieldref 7 17), (0, .nameAndType 18 12), (0, u "BOOLEAN"), (0, .fieldref 7 20), (0, .nameAndType 21 12), (0, u "DECIMAL64"), (0, .fieldref 7 23), (0, .nameAndType 24 12), (0, u "EMPTY"), (0, .fieldref 7 26), (0, .nameAndType 27 12), (0, u "ENUMERATION"), (0, .fieldref 7 29), (0, .nameAndType 30 12), (0, u "IDENTITYREF"), (0, .fieldref 7 32), (0, .nameAndType 33 12), (0, u "INSTANCE_IDENTIFIER"), (0, .fieldref 7 35), (0, .nameAndType 36 12), (0, u "INT8"), (0, .fieldref 7 38), (0, .nameAndType 39 12), (0, u "INT16"), (0, .fieldref 7 41), (0, .nameAndType 42 12), (0, u "INT32"), (0, .fieldref 7 44), (0, .nameAndType 45 12), (0, u "INT64"), (0, .fieldref 7 47), (0, .nameAndType 48 12), (0, u "LEAFREF"), (0, .fieldref 7 50), (0, .nameAndType 51 12), (0, u "STRING"), (0, .fieldref 7 53), (0, .nameAndType 54 12), (0, u "UINT8"), (0, .fieldref 7 56), (0, .nameAndType 57 12), (0, u "UINT16"), (0, .fieldref 7 59), (0, .nameAndType 60 12), (0, u "UINT32"), (0, .fieldref 7 62), (0, .nameAndType 63 12), (0, u "UINT64"), (0, .fieldref 7 65), (0, .nameAndType 66 12), (0, u "UNION"), (0, .integer 2147483647), (0, .methodref 7 69), (0, .nameAndType 70 71), (0, u "isInteger"), (0, u "()Z"), (0, .class_ 73), (0, u "com/example/bough/bough/BuiltInTypeIsIntegerPinLaw"), (2, u "law"), (0, u "(I)Z")] 5

def k1m0 : Method := { name := "<init>", desc := "()V", sig := { parameters := [], returnType := none }, accessFlags := 1, code := none }
def k1c1 : Code := { maxStack := 4, maxLocals := 4, code := code, exceptionTable := #[], attributes := #[] }
def k1m1 : Method := { name := "law", desc := "(I)Z", sig := { parameters := [.int], returnType := some .boolean }, accessFlags := 9, code := some k1c1 }
/-- com/example/bough/bough/BuiltInTypeIsIntegerPinLaw -/
def k1 : Class := { plain "com/example/bough/bough/BuiltInTypeIsIntegerPinLaw" (some 0) with
  accessFlags := 49
  interfaces := #[]
  cf := some (fileOf pool1 72 #[] #[{ accessFlags := 1, nameIndex := 5, descriptorIndex := 6, attributes := #[] }, { accessFlags := 9, nameIndex := 76, descriptorIndex := 77, attributes := #[] }] 49 2 #[] #[])
  fields := #[]
  methods := #[k1m0, k1m1]
  instanceTypes := #[]
  staticTypes := #[]
  resolved := Array.replicate 83 none
  statics := none }

def pool2 : Array CpInfo := pool [(1, .class_ 2), (0, u "java/lang/constant/Constable"), (0, .class_ 4), (0, u "java/lang/Object")] 6

/-- java/lang/constant/Constable -/
def k2 : Class := { plain "java/lang/constant/Constable" (some 0) with
  accessFlags := 1537
  interfaces := #[]
  cf := some (fileOf pool2 1 #[] #[] 1537 3 #[] #[])
  fields := #[]
  methods := #[]
  instanceTypes := #[]
  staticTypes := #[]
  resolved := Array.replicate 11 none
  statics := none }

def pool3 : Array CpInfo := pool [(1, .class_ 2), (0, u "java/lang/Comparable"), (0, .class_ 4), (0, u "java/lang/Object")] 7

/-- java/lang/Comparable -/
def k3 : Class := { plain "java/lang/Comparable" (some 0) with
  accessFlags := 1537
  interfaces := #[]
  cf := some (fileOf pool3 1 #[] #[] 1537 3 #[] #[])
  fields := #[]
  methods := #[]
  instanceTypes := #[]
  staticTypes := #[]
  resolved := Array.replicate 12 none
  statics := none }

def pool4 : Array CpInfo := pool [(1, .class_ 2), (0, u "java/io/Serializable"), (0, .class_ 4), (0, u "java/lang/Object")] 2

/-- java/io/Serializable -/
def k4 : Class := { plain "java/io/Serializable" (some 0) with
  accessFlags := 1537
  interfaces := #[]
  cf := some (fileOf pool4 1 #[] #[] 1537 3 #[] #[])
  fields := #[]
  methods := #[]
  instanceTypes := #[]
  staticTypes := #[]
  resolved := Array.replicate 7 none
  statics := none }

def pool5 : Array CpInfo := pool [(2, .class_ 4), (1, u "java/lang/Enum"), (0, u "name"), (0, u "Ljava/lang/String;"), (2, u "ordinal"), (0, u "I"), (1, .class_ 14), (1, u "java/lang/Object"), (4, u "hash"), (86, .class_ 108), (1, u "java/lang/Enum$EnumDesc"), (2, .class_ 112), (0, u "java/lang/constant/Constable"), (0, .class_ 114), (0, u "java/lang/Comparable"), (0, .class_ 116), (0, u "java/io/Serializable")] 87

/-- java/lang/Enum -/
def k5 : Class := { plain "java/lang/Enum" (some 0) with
  accessFlags := 1057
  interfaces := #[2, 3, 4]
  cf := some (fileOf pool5 2 #[.nestMembers #[106]] #[] 1057 12 #[111, 113, 115] #[{ accessFlags := 18, nameIndex := 5, descriptorIndex := 6, attributes := #[] }, { accessFlags := 18, nameIndex := 9, descriptorIndex := 10, attributes := #[] }, { accessFlags := 2, nameIndex := 19, descriptorIndex := 10, attributes := #[] }])
  fields := #[{ name := "name", type := (.object "java/lang/String"), accessFlags := 18, slot := 0, constantValue := 0 }, { name := "ordinal", type := .int, accessFlags := 18, slot := 1, constantValue := 0 }, { name := "hash", type := .int, accessFlags := 2, slot := 2, constantValue := 0 }]
  methods := #[]
  instanceTypes := #[(.object "java/lang/String"), .int, .int]
  staticTypes := #[]
  resolved := Array.replicate 204 none
  statics := none }

def pool6 : Array CpInfo := pool [(1, .class_ 2), (0, u "com/example/bough/bough/BuiltInType"), (2, u "BINARY"), (0, u "Lcom/example/bough/bough/BuiltInType;"), (2, u "BITS"), (2, u "BOOLEAN"), (2, u "DECIMAL64"), (2, u "EMPTY"), (2, u "ENUMERATION"), (2, u "IDENTITYREF"), (2, u "INSTANCE_IDENTIFIER"), (2, u "INT8"), (2, u "INT16"), (2, u "INT32"), (2, u "INT64"), (2, u "LEAFREF"), (2, u "STRING"), (2, u "UINT8"), (2, u "UINT16"), (2, u "UINT32"), (2, u "UINT64"), (2, u "UNION"), (2, u "$VALUES"), (0, u "[Lcom/example/bough/bough/BuiltInType;"), (6, .class_ 73), (1, u "java/lang/Enum"), (8, u "text"), (0, u "Ljava/lang/String;"), (8, u "takes"), (0, u "Ljava/util/Set;"), (0, .fieldref 1 95), (0, .nameAndType 96 97), (0, u "min"), (0, u "Ljava/math/BigDecimal;"), (2, u "max"), (13, u "BY_NAME"), (0, u "Ljava/util/Map;"), (12, u "DEFINING"), (2, u "CHOOSING"), (23, u "isInteger"), (0, u "()Z"), (157, u "RESTRICTIONS")] 49

def k6c0 : Code := { maxStack := 1, maxLocals := 1, code := prog_5_method_10_code, exceptionTable := #[], attributes := #[] }
def k6m0 : Method := { name := "isInteger", desc := "()Z", sig := { parameters := [], returnType := some .boolean }, accessFlags := 0, code := some k6c0 }
/-- com/example/bough/bough/BuiltInType -/
def k6 : Class := { plain "com/example/bough/bough/BuiltInType" (some 5) with
  accessFlags := 16432
  interfaces := #[]
  cf := some (fileOf pool6 1 #[] #[{ accessFlags := 0, nameIndex := 155, descriptorIndex := 156, attributes := #[] }] 16432 71 #[] #[{ accessFlags := 16409, nameIndex := 5, descriptorIndex := 6, attributes := #[] }, { accessFlags := 16409, nameIndex := 9, descriptorIndex := 6, attributes := #[] }, { accessFlags := 16409, nameIndex := 12, descriptorIndex := 6, attributes := #[] }, { accessFlags := 16409, nameIndex := 15, descriptorIndex := 6, attributes := #[] }, { accessFlags := 16409, nameIndex := 18, descriptorIndex := 6, attributes := #[] }, { accessFlags := 16409, nameIndex := 21, descriptorIndex := 6, attributes := #[] }, { accessFlags := 16409, nameIndex := 24, descriptorIndex := 6, attributes := #[] }, { accessFlags := 16409, nameIndex := 27, descriptorIndex := 6, attributes := #[] }, { accessFlags := 16409, nameIndex := 30, descriptorIndex := 6, attributes := #[] }, { accessFlags := 16409, nameIndex := 33, descriptorIndex := 6, attributes := #[] }, { accessFlags := 16409, nameIndex := 36, descriptorIndex := 6, attributes := #[] }, { accessFlags := 16409, nameIndex := 39, descriptorIndex := 6, attributes := #[] }, { accessFlags := 16409, nameIndex := 42, descriptorIndex := 6, attributes := #[] }, { accessFlags := 16409, nameIndex := 45, descriptorIndex := 6, attributes := #[] }, { accessFlags := 16409, nameIndex := 48, descriptorIndex := 6, attributes := #[] }, { accessFlags := 16409, nameIndex := 51, descriptorIndex := 6, attributes := #[] }, { accessFlags := 16409, nameIndex := 54, descriptorIndex := 6, attributes := #[] }, { accessFlags := 16409, nameIndex := 57, descriptorIndex := 6, attributes := #[] }, { accessFlags := 16409, nameIndex := 60, descriptorIndex := 6, attributes := #[] }, { accessFlags := 24, nameIndex := 314, descriptorIndex := 93, attributes := #[] }, { accessFlags := 24, nameIndex := 128, descriptorIndex := 93, attributes := #[] }, { accessFlags := 24, nameIndex := 131, descriptorIndex := 93, attributes := #[] }, { accessFlags := 26, nameIndex := 114, descriptorIndex := 115, attributes := #[] }, { accessFlags := 18, nameIndex := 82, descriptorIndex := 83, attributes := #[] }, { accessFlags := 18, nameIndex := 92, descriptorIndex := 93, attributes := #[] }, { accessFlags := 18, nameIndex := 96, descriptorIndex := 97, attributes := #[] }, { accessFlags := 18, nameIndex := 100, descriptorIndex := 97, attributes := #[] }, { accessFlags := 4122, nameIndex := 63, descriptorIndex := 64, attributes := #[] }])
  fields := #[{ name := "BINARY", type := (.object "com/example/bough/bough/BuiltInType"), accessFlags := 16409, slot := 0, constantValue := 0 }, { name := "BITS", type := (.object "com/example/bough/bough/BuiltInType"), accessFlags := 16409, slot := 1, constantValue := 0 }, { name := "BOOLEAN", type := (.object "com/example/bough/bough/BuiltInType"), accessFlags := 16409, slot := 2, constantValue := 0 }, { name := "DECIMAL64", type := (.object "com/example/bough/bough/BuiltInType"), accessFlags := 16409, slot := 3, constantValue := 0 }, { name := "EMPTY", type := (.object "com/example/bough/bough/BuiltInType"), accessFlags := 16409, slot := 4, constantValue := 0 }, { name := "ENUMERATION", type := (.object "com/example/bough/bough/BuiltInType"), accessFlags := 16409, slot := 5, constantValue := 0 }, { name := "IDENTITYREF", type := (.object "com/example/bough/bough/BuiltInType"), accessFlags := 16409, slot := 6, constantValue := 0 }, { name := "INSTANCE_IDENTIFIER", type := (.object "com/example/bough/bough/BuiltInType"), accessFlags := 16409, slot := 7, constantValue := 0 }, { name := "INT8", type := (.object "com/example/bough/bough/BuiltInType"), accessFlags := 16409, slot := 8, constantValue := 0 }, { name := "INT16", type := (.object "com/example/bough/bough/BuiltInType"), accessFlags := 16409, slot := 9, constantValue := 0 }, { name := "INT32", type := (.object "com/example/bough/bough/BuiltInType"), accessFlags := 16409, slot := 10, constantValue := 0 }, { name := "INT64", type := (.object "com/example/bough/bough/BuiltInType"), accessFlags := 16409, slot := 11, constantValue := 0 }, { name := "LEAFREF", type := (.object "com/example/bough/bough/BuiltInType"), accessFlags := 16409, slot := 12, constantValue := 0 }, { name := "STRING", type := (.object "com/example/bough/bough/BuiltInType"), accessFlags := 16409, slot := 13, constantValue := 0 }, { name := "UINT8", type := (.object "com/example/bough/bough/BuiltInType"), accessFlags := 16409, slot := 14, constantValue := 0 }, { name := "UINT16", type := (.object "com/example/bough/bough/BuiltInType"), accessFlags := 16409, slot := 15, constantValue := 0 }, { name := "UINT32", type := (.object "com/example/bough/bough/BuiltInType"), accessFlags := 16409, slot := 16, constantValue := 0 }, { name := "UINT64", type := (.object "com/example/bough/bough/BuiltInType"), accessFlags := 16409, slot := 17, constantValue := 0 }, { name := "UNION", type := (.object "com/example/bough/bough/BuiltInType"), accessFlags := 16409, slot := 18, constantValue := 0 }, { name := "RESTRICTIONS", type := (.object "java/util/Set"), accessFlags := 24, slot := 19, constantValue := 0 }, { name := "DEFINING", type := (.object "java/util/Set"), accessFlags := 24, slot := 20, constantValue := 0 }, { name := "CHOOSING", type := (.object "java/util/Set"), accessFlags := 24, slot := 21, constantValue := 0 }, { name := "BY_NAME", type := (.object "java/util/Map"), accessFlags := 26, slot := 22, constantValue := 0 }, { name := "text", type := (.object "java/lang/String"), accessFlags := 18, slot := 3, constantValue := 0 }, { name := "takes", type := (.object "java/util/Set"), accessFlags := 18, slot := 4, constantValue := 0 }, { name := "min", type := (.object "java/math/BigDecimal"), accessFlags := 18, slot := 5, constantValue := 0 }, { name := "max", type := (.object "java/math/BigDecimal"), accessFlags := 18, slot := 6, constantValue := 0 }, { name := "$VALUES", type := (.array (.object "com/example/bough/bough/BuiltInType")), accessFlags := 4122, slot := 23, constantValue := 0 }]
  methods := #[k6m0]
  instanceTypes := #[(.object "java/lang/String"), .int, .int, (.object "java/lang/String"), (.object "java/util/Set"), (.object "java/math/BigDecimal"), (.object "java/math/BigDecimal")]
  staticTypes := #[(.object "com/example/bough/bough/BuiltInType"), (.object "com/example/bough/bough/BuiltInType"), (.object "com/example/bough/bough/BuiltInType"), (.object "com/example/bough/bough/BuiltInType"), (.object "com/example/bough/bough/BuiltInType"), (.object "com/example/bough/bough/BuiltInType"), (.object "com/example/bough/bough/BuiltInType"), (.object "com/example/bough/bough/BuiltInType"), (.object "com/example/bough/bough/BuiltInType"), (.object "com/example/bough/bough/BuiltInType"), (.object "com/example/bough/bough/BuiltInType"), (.object "com/example/bough/bough/BuiltInType"), (.object "com/example/bough/bough/BuiltInType"), (.object "com/example/bough/bough/BuiltInType"), (.object "com/example/bough/bough/BuiltInType"), (.object "com/example/bough/bough/BuiltInType"), (.object "com/example/bough/bough/BuiltInType"), (.object "com/example/bough/bough/BuiltInType"), (.object "com/example/bough/bough/BuiltInType"), (.object "java/util/Set"), (.object "java/util/Set"), (.object "java/util/Set"), (.object "java/util/Map"), (.array (.object "com/example/bough/bough/BuiltInType"))]
  resolved := Array.replicate 364 none
  statics := some 0 }

def pool7 : Array CpInfo := pool [(2, .class_ 4), (1, u "java/lang/Object"), (0, u "<init>"), (0, u "()V"), (1, .class_ 10), (1, u "java/lang/Number"), (2, .class_ 14), (0, u "java/io/Serializable"), (0, u "serialVersionUID"), (0, u "J")] 20

def k7m0 : Method := { name := "<init>", desc := "()V", sig := { parameters := [], returnType := none }, accessFlags := 1, code := none }
/-- java/lang/Number -/
def k7 : Class := { plain "java/lang/Number" (some 0) with
  accessFlags := 1057
  interfaces := #[4]
  cf := some (fileOf pool7 8 #[] #[{ accessFlags := 1, nameIndex := 5, descriptorIndex := 6, attributes := #[] }] 1057 2 #[13] #[{ accessFlags := 26, nameIndex := 15, descriptorIndex := 16, attributes := #[] }])
  fields := #[{ name := "serialVersionUID", type := .long, accessFlags := 26, slot := 0, constantValue := 0 }]
  methods := #[k7m0]
  instanceTypes := #[]
  staticTypes := #[.long]
  resolved := Array.replicate 37 none
  statics := none }

def pool8 : Array CpInfo := pool [(3, .class_ 4), (0, u "java/math/BigDecimal"), (7, .class_ 14), (1, u "java/lang/Number"), (4, u "scale"), (0, u "I"), (2, u "precision"), (2, u "intCompact"), (0, u "J"), (2, u "intVal"), (0, u "Ljava/math/BigInteger;"), (65, u "LONG_TEN_POWERS_TABLE"), (0, u "[J"), (88, u "ZERO"), (2, u "INFLATED_BIGINT"), (15, u "TWO"), (41, u "ZERO_THROUGH_TEN"), (0, u "[Ljava/math/BigDecimal;"), (2, u "ZERO_SCALED_BY"), (60, u "$assertionsDisabled"), (0, u "Z"), (163, u "ONE_TENTH"), (0, u "Ljava/math/BigDecimal;"), (5, u "TEN"), (14, .class_ 502), (1, u "java/math/BigDecimal$1"), (15, u "ONE_HALF"), (16, u "ONE"), (107, u "stringCache"), (0, u "Ljava/lang/String;"), (52, .class_ 699), (1, u "java/math/BigDecimal$LongOverflow"), (8, u "FLOAT_10_POW"), (0, u "[F"), (39, u "DOUBLE_10_POW"), (0, u "[D"), (19, .class_ 772), (1, u "java/math/BigDecimal$StringBuilderHelper"), (35, u "BIG_TEN_POWERS_TABLE_MAX"), (2, u "BIG_TEN_POWERS_TABLE"), (0, u "[Ljava/math/BigInteger;"), (14, u "THRESHOLDS_TABLE"), (23, .class_ 853), (1, u "java/math/BigDecimal$UnsafeHolder"), (214, u "LONGLONG_TEN_POWERS_TABLE"), (0, u "[[J"), (112, u "BIG_TEN_POWERS_TABLE_INITLEN"), (113, .class_ 1297), (0, u "java/lang/Comparable"), (0, u "L"), (0, u "D"), (1, u "P_F"), (1, u "Q_MIN_F"), (1, u "Q_MAX_F"), (1, u "P_D"), (1, u "Q_MIN_D"), (1, u "Q_MAX_D"), (1, u "INFLATED"), (0, u "MAX_COMPACT_DIGITS"), (1, u "serialVersionUID"), (2, u "HALF_LONG_MAX_VALUE"), (0, u "HALF_LONG_MIN_VALUE"), (0, u "ROUND_UP"), (6, u "ROUND_DOWN"), (1, u "ROUND_CEILING"), (1, u "ROUND_FLOOR"), (1, u "ROUND_HALF_UP"), (1, u "ROUND_HALF_DOWN"), (1, u "ROUND_HALF_EVEN"), (1, u "ROUND_UNNECESSARY"), (1, u "DIV_NUM_BASE")] 294

/-- java/math/BigDecimal -/
def k8 : Class := { plain "java/math/BigDecimal" (some 7) with
  accessFlags := 33
  interfaces := #[3]
  cf := some (fileOf pool8 3 #[.nestMembers #[500, 851, 770, 697]] #[] 33 12 #[1296] #[{ accessFlags := 26, nameIndex := 1298, descriptorIndex := 1299, attributes := #[] }, { accessFlags := 26, nameIndex := 1301, descriptorIndex := 20, attributes := #[] }, { accessFlags := 26, nameIndex := 1303, descriptorIndex := 20, attributes := #[] }, { accessFlags := 26, nameIndex := 1305, descriptorIndex := 20, attributes := #[] }, { accessFlags := 26, nameIndex := 1307, descriptorIndex := 20, attributes := #[] }, { accessFlags := 26, nameIndex := 1309, descriptorIndex := 20, attributes := #[] }, { accessFlags := 26, nameIndex := 1311, descriptorIndex := 20, attributes := #[] }, { accessFlags := 18, nameIndex := 30, descriptorIndex := 31, attributes := #[] }, { accessFlags := 18, nameIndex := 19, descriptorIndex := 20, attributes := #[] }, { accessFlags := 130, nameIndex := 23, descriptorIndex := 20, attributes := #[] }, { accessFlags := 130, nameIndex := 643, descriptorIndex := 644, attributes := #[] }, { accessFlags := 24, nameIndex := 1313, descriptorIndex := 27, attributes := #[] }, { accessFlags := 26, nameIndex := 190, descriptorIndex := 31, attributes := #[] }, { accessFlags := 146, nameIndex := 26, descriptorIndex := 27, attributes := #[] }, { accessFlags := 26, nameIndex := 1314, descriptorIndex := 20, attributes := #[] }, { accessFlags := 26, nameIndex := 1316, descriptorIndex := 27, attributes := #[] }, { accessFlags := 26, nameIndex := 248, descriptorIndex := 249, attributes := #[] }, { accessFlags := 26, nameIndex := 252, descriptorIndex := 249, attributes := #[] }, { accessFlags := 26, nameIndex := 1319, descriptorIndex := 27, attributes := #[] }, { accessFlags := 26, nameIndex := 1320, descriptorIndex := 27, attributes := #[] }, { accessFlags := 25, nameIndex := 187, descriptorIndex := 479, attributes := #[] }, { accessFlags := 25, nameIndex := 535, descriptorIndex := 479, attributes := #[] }, { accessFlags := 25, nameIndex := 206, descriptorIndex := 479, attributes := #[] }, { accessFlags := 25, nameIndex := 485, descriptorIndex := 479, attributes := #[] }, { accessFlags := 26, nameIndex := 478, descriptorIndex := 479, attributes := #[] }, { accessFlags := 26, nameIndex := 518, descriptorIndex := 479, attributes := #[] }, { accessFlags := 25, nameIndex := 1321, descriptorIndex := 20, attributes := #[] }, { accessFlags := 25, nameIndex := 1328, descriptorIndex := 20, attributes := #[] }, { accessFlags := 25, nameIndex := 1330, descriptorIndex := 20, attributes := #[] }, { accessFlags := 25, nameIndex := 1332, descriptorIndex := 20, attributes := #[] }, { accessFlags := 25, nameIndex := 1334, descriptorIndex := 20, attributes := #[] }, { accessFlags := 25, nameIndex := 1336, descriptorIndex := 20, attributes := #[] }, { accessFlags := 25, nameIndex := 1338, descriptorIndex := 20, attributes := #[] }, { accessFlags := 25, nameIndex := 1340, descriptorIndex := 20, attributes := #[] }, { accessFlags := 26, nameIndex := 749, descriptorIndex := 750, attributes := #[] }, { accessFlags := 26, nameIndex := 708, descriptorIndex := 709, attributes := #[] }, { accessFlags := 26, nameIndex := 97, descriptorIndex := 98, attributes := #[] }, { accessFlags := 74, nameIndex := 811, descriptorIndex := 812, attributes := #[] }, { accessFlags := 26, nameIndex := 1182, descriptorIndex := 20, attributes := #[] }, { accessFlags := 26, nameIndex := 808, descriptorIndex := 20, attributes := #[] }, { accessFlags := 26, nameIndex := 827, descriptorIndex := 98, attributes := #[] }, { accessFlags := 26, nameIndex := 1342, descriptorIndex := 27, attributes := #[] }, { accessFlags := 26, nameIndex := 1068, descriptorIndex := 1069, attributes := #[] }, { accessFlags := 4120, nameIndex := 313, descriptorIndex := 314, attributes := #[] }])
  fields := #[{ name := "L", type := .double, accessFlags := 26, slot := 0, constantValue := 0 }, { name := "P_F", type := .int, accessFlags := 26, slot := 1, constantValue := 0 }, { name := "Q_MIN_F", type := .int, accessFlags := 26, slot := 2, constantValue := 0 }, { name := "Q_MAX_F", type := .int, accessFlags := 26, slot := 3, constantValue := 0 }, { name := "P_D", type := .int, accessFlags := 26, slot := 4, constantValue := 0 }, { name := "Q_MIN_D", type := .int, accessFlags := 26, slot := 5, constantValue := 0 }, { name := "Q_MAX_D", type := .int, accessFlags := 26, slot := 6, constantValue := 0 }, { name := "intVal", type := (.object "java/math/BigInteger"), accessFlags := 18, slot := 0, constantValue := 0 }, { name := "scale", type := .int, accessFlags := 18, slot := 1, constantValue := 0 }, { name := "precision", type := .int, accessFlags := 130, slot := 2, constantValue := 0 }, { name := "stringCache", type := (.object "java/lang/String"), accessFlags := 130, slot := 3, constantValue := 0 }, { name := "INFLATED", type := .long, accessFlags := 24, slot := 7, constantValue := 0 }, { name := "INFLATED_BIGINT", type := (.object "java/math/BigInteger"), accessFlags := 26, slot := 8, constantValue := 0 }, { name := "intCompact", type := .long, accessFlags := 146, slot := 4, constantValue := 0 }, { name := "MAX_COMPACT_DIGITS", type := .int, accessFlags := 26, slot := 9, constantValue := 0 }, { name := "serialVersionUID", type := .long, accessFlags := 26, slot := 10, constantValue := 0 }, { name := "ZERO_THROUGH_TEN", type := (.array (.object "java/math/BigDecimal")), accessFlags := 26, slot := 11, constantValue := 0 }, { name := "ZERO_SCALED_BY", type := (.array (.object "java/math/BigDecimal")), accessFlags := 26, slot := 12, constantValue := 0 }, { name := "HALF_LONG_MAX_VALUE", type := .long, accessFlags := 26, slot := 13, constantValue := 0 }, { name := "HALF_LONG_MIN_VALUE", type := .long, accessFlags := 26, slot := 14, constantValue := 0 }, { name := "ZERO", type := (.object "java/math/BigDecimal"), accessFlags := 25, slot := 15, constantValue := 0 }, { name := "ONE", type := (.object "java/math/BigDecimal"), accessFlags := 25, slot := 16, constantValue := 0 }, { name := "TWO", type := (.object "java/math/BigDecimal"), accessFlags := 25, slot := 17, constantValue := 0 }, { name := "TEN", type := (.object "java/math/BigDecimal"), accessFlags := 25, slot := 18, constantValue := 0 }, { name := "ONE_TENTH", type := (.object "java/math/BigDecimal"), accessFlags := 26, slot := 19, constantValue := 0 }, { name := "ONE_HALF", type := (.object "java/math/BigDecimal"), accessFlags := 26, slot := 20, constantValue := 0 }, { name := "ROUND_UP", type := .int, accessFlags := 25, slot := 21, constantValue := 0 }, { name := "ROUND_DOWN", type := .int, accessFlags := 25, slot := 22, constantValue := 0 }, { name := "ROUND_CEILING", type := .int, accessFlags := 25, slot := 23, constantValue := 0 }, { name := "ROUND_FLOOR", type := .int, accessFlags := 25, slot := 24, constantValue := 0 }, { name := "ROUND_HALF_UP", type := .int, accessFlags := 25, slot := 25, constantValue := 0 }, { name := "ROUND_HALF_DOWN", type := .int, accessFlags := 25, slot := 26, constantValue := 0 }, { name := "ROUND_HALF_EVEN", type := .int, accessFlags := 25, slot := 27, constantValue := 0 }, { name := "ROUND_UNNECESSARY", type := .int, accessFlags := 25, slot := 28, constantValue := 0 }, { name := "DOUBLE_10_POW", type := (.array .double), accessFlags := 26, slot := 29, constantValue := 0 }, { name := "FLOAT_10_POW", type := (.array .float), accessFlags := 26, slot := 30, constantValue := 0 }, { name := "LONG_TEN_POWERS_TABLE", type := (.array .long), accessFlags := 26, slot := 31, constantValue := 0 }, { name := "BIG_TEN_POWERS_TABLE", type := (.array (.object "java/math/BigInteger")), accessFlags := 74, slot := 32, constantValue := 0 }, { name := "BIG_TEN_POWERS_TABLE_INITLEN", type := .int, accessFlags := 26, slot := 33, constantValue := 0 }, { name := "BIG_TEN_POWERS_TABLE_MAX", type := .int, accessFlags := 26, slot := 34, constantValue := 0 }, { name := "THRESHOLDS_TABLE", type := (.array .long), accessFlags := 26, slot := 35, constantValue := 0 }, { name := "DIV_NUM_BASE", type := .long, accessFlags := 26, slot := 36, constantValue := 0 }, { name := "LONGLONG_TEN_POWERS_TABLE", type := (.array (.array .long)), accessFlags := 26, slot := 37, constantValue := 0 }, { name := "$assertionsDisabled", type := .boolean, accessFlags := 4120, slot := 38, constantValue := 0 }]
  methods := #[]
  instanceTypes := #[(.object "java/math/BigInteger"), .int, .int, (.object "java/lang/String"), .long]
  staticTypes := #[.double, .int, .int, .int, .int, .int, .int, .long, (.object "java/math/BigInteger"), .int, .long, (.array (.object "java/math/BigDecimal")), (.array (.object "java/math/BigDecimal")), .long, .long, (.object "java/math/BigDecimal"), (.object "java/math/BigDecimal"), (.object "java/math/BigDecimal"), (.object "java/math/BigDecimal"), (.object "java/math/BigDecimal"), (.object "java/math/BigDecimal"), .int, .int, .int, .int, .int, .int, .int, .int, (.array .double), (.array .float), (.array .long), (.array (.object "java/math/BigInteger")), .int, .int, (.array .long), .long, (.array (.array .long)), .boolean]
  resolved := Array.replicate 1637 none
  statics := none }

def pool9 : Array CpInfo := pool [(1, u "java/lang/Cloneable"), (0, .class_ 1), (0, u "java/lang/Object"), (0, .class_ 3)] 3

/-- java/lang/Cloneable -/
def k9 : Class := { plain "java/lang/Cloneable" (some 0) with
  accessFlags := 1537
  interfaces := #[]
  cf := some (fileOf pool9 2 #[] #[] 1537 4 #[] #[])
  fields := #[]
  methods := #[]
  instanceTypes := #[]
  staticTypes := #[]
  resolved := Array.replicate 8 none
  statics := none }

/-- the primitive byte -/
def k10 : Class := { plain "byte" none with kind := .primitive 'B', accessFlags := 0x411 }
/-- [B -/
def k11 : Class := { plain "[B" (some 0) with kind := .array 10 .byte, interfaces := #[9, 4], accessFlags := 1041 }

/-- the primitive int -/
def k12 : Class := { plain "int" none with kind := .primitive 'I', accessFlags := 0x411 }
/-- [I -/
def k13 : Class := { plain "[I" (some 0) with kind := .array 12 .int, interfaces := #[9, 4], accessFlags := 1041 }

/-- [Lcom/example/bough/bough/BuiltInType; -/
def k14 : Class := { plain "[Lcom/example/bough/bough/BuiltInType;" (some 0) with kind := .array 6 (.object "com/example/bough/bough/BuiltInType"), interfaces := #[9, 4], accessFlags := 1041 }

def heap : Heap := #[{ cls := 6, slots := #[.ref 1, .ref 2, .ref 3, .ref 4, .ref 5, .ref 6, .ref 7, .ref 8, .ref 9, .ref 10, .ref 11, .ref 12, .ref 13, .ref 14, .ref 15, .ref 16, .ref 17, .ref 18, .ref 19, .null, .null, .null, .null, .null], vm := .statics 6 },
  { cls := 6, slots := #[.null, .int 0, .int 0, .null, .null, .null, .null], vm := .none },
  { cls := 6, slots := #[.null, .int 0, .int 0, .null, .null, .null, .null], vm := .none },
  { cls := 6, slots := #[.null, .int 0, .int 0, .null, .null, .null, .null], vm := .none },
  { cls := 6, slots := #[.null, .int 0, .int 0, .null, .null, .null, .null], vm := .none },
  { cls := 6, slots := #[.null, .int 0, .int 0, .null, .null, .null, .null], vm := .none },
  { cls := 6, slots := #[.null, .int 0, .int 0, .null, .null, .null, .null], vm := .none },
  { cls := 6, slots := #[.null, .int 0, .int 0, .null, .null, .null, .null], vm := .none },
  { cls := 6, slots := #[.null, .int 0, .int 0, .null, .null, .null, .null], vm := .none },
  { cls := 6, slots := #[.null, .int 0, .int 0, .null, .null, .ref 24, .null], vm := .none },
  { cls := 6, slots := #[.null, .int 0, .int 0, .null, .null, .ref 27, .null], vm := .none },
  { cls := 6, slots := #[.null, .int 0, .int 0, .null, .null, .ref 23, .null], vm := .none },
  { cls := 6, slots := #[.null, .int 0, .int 0, .null, .null, .ref 22, .null], vm := .none },
  { cls := 6, slots := #[.null, .int 0, .int 0, .null, .null, .null, .null], vm := .none },
  { cls := 6, slots := #[.null, .int 0, .int 0, .null, .null, .null, .null], vm := .none },
  { cls := 6, slots := #[.null, .int 0, .int 0, .null, .null, .ref 25, .null], vm := .none },
  { cls := 6, slots := #[.null, .int 0, .int 0, .null, .null, .ref 20, .null], vm := .none },
  { cls := 6, slots := #[.null, .int 0, .int 0, .null, .null, .ref 26, .null], vm := .none },
  { cls := 6, slots := #[.null, .int 0, .int 0, .null, .null, .ref 21, .null], vm := .none },
  { cls := 6, slots := #[.null, .int 0, .int 0, .null, .null, .null, .null], vm := .none },
  { cls := 8, slots := #[.null, .int 0, .int 0, .null, .long 0], vm := .none },
  { cls := 8, slots := #[.null, .int 0, .int 0, .null, .long 0], vm := .none },
  { cls := 8, slots := #[.null, .int 0, .int 0, .null, .long 0], vm := .none },
  { cls := 8, slots := #[.null, .int 0, .int 0, .null, .long 0], vm := .none },
  { cls := 8, slots := #[.null, .int 0, .int 0, .null, .long 0], vm := .none },
  { cls := 8, slots := #[.null, .int 0, .int 0, .null, .long 0], vm := .none },
  { cls := 8, slots := #[.null, .int 0, .int 0, .null, .long 0], vm := .none },
  { cls := 8, slots := #[.null, .int 0, .int 0, .null, .long 0], vm := .none }]
def classes : Array Class := #[k0, k1, k2, k3, k4, k5, k6, k7, k8, k9, k10, k11, k12, k13, k14]
def interned : List (Array UInt16 × Addr) := []
def slotsUsed : Nat := 197
def theMethod : MethodId := ⟨1, 1⟩
def args0 : Array Value := #[.int 5]
def aboutOver (below : List Frame) : State where
  vm := { classes := classes, interned := interned.toArray }
  heap := heap
  slotsUsed := slotsUsed
  threads := #[{ frames := .invoking theMethod args0 :: below }]
def below0 : List Frame := [.native { method := ⟨0, 0⟩, args := #[] }]
def about1 : State := aboutOver below0
def p0 : Program := .bare "" "" ""
def e0 : Env := launch0.env 0 0 0
theorem w_frames : about1.frames = Frame.invoking theMethod args0 :: below0 := rfl
set_option maxRecDepth 65536 in
theorem w_args : argsFit about1.vm theMethod args0 = true := by decide +kernel
set_option maxRecDepth 65536 in
theorem w_heap : heapFits about1 = true := by decide +kernel
set_option maxRecDepth 65536 in
theorem w_runnable : about1.curStatus? = some .runnable := by decide +kernel
set_option maxRecDepth 65536 in
theorem w_alone : about1.alone = true := by decide +kernel
set_option maxRecDepth 65536 in
theorem w_named : about1.methodNamed? x = some theMethod := by decide +kernel
set_option maxRecDepth 65536 in
theorem w_hears : about1.hears theMethod below0 = true := by decide +kernel
set_option maxRecDepth 65536 in
theorem w_ripe : about1.ripe theMethod args0 below0 = true := by decide +kernel
theorem w_running : about1.status = .running := rfl
set_option maxRecDepth 65536 in
theorem w_room : about1.hasRoom e0.platform room_1 = true :=
  launch0.hasRoom_least _ room_1 (by decide +kernel) (by decide +kernel) (by decide +kernel) (by decide +kernel) (by decide +kernel) (by decide +kernel)
theorem allAtoms_all (ts : List Jvm.Cond) (a : Array Jvm.Value) (st : Jvm.State) : (allAtoms ts).before a st = ts.all (fun c => c.before a st) := by
  induction ts with
  | nil => rfl
  | cons c t ih =>
    show (Jvm.Cond.and c (allAtoms t)).before a st = _
    rw [Jvm.Cond.before_and, ih, List.all_cons]
def words1 : List Jvm.Cond := Jvm.Cond.code x code maxLocals ret :: tables_1
/-- a 'code' word, met by the world's own term for the bytes: nothing is compared byte by byte -/
theorem code_word {y : MethodName} {bytes : ByteArray} {mx : Nat} {rt : Option FieldType} {a : Array Value} {s : State} {m : MethodId} {meth : Method} {c : Code} (h1 : s.methodNamed? y = some m) (h2 : s.vm.method? m = some meth) (h3 : meth.code = some c) (h4 : c.code = bytes)
    (h5 : (c.maxLocals == mx && c.exceptionTable.isEmpty && decide (c.maxStack ≤ mostOperands) && decide (meth.sig.returnType = rt) && !meth.locks && decide (parseMethodDescriptor y.desc = some meth.sig)) = true) : (Jvm.Cond.code y bytes mx rt).before a s = true := by
  simp only [Bool.and_eq_true, beq_iff_eq, Bool.not_eq_true', decide_eq_true_eq] at h5
  obtain ⟨⟨⟨⟨⟨g1, g2⟩, g3⟩, g4⟩, g5⟩, g6⟩ := h5
  simp [Cond.before, Cond.holds, Cond.value, h1, h2, h3, h4, g1, g2, g3, g4, g5, g6]
def isCode : Jvm.Cond → Bool
  | .code _ _ _ _ => true
  | _ => false
theorem all_split {L : List Jvm.Cond} {P : Jvm.Cond → Bool} (h1 : L.all (fun c => isCode c || P c) = true) (h2 : ∀ c ∈ L.filter isCode, P c = true) : L.all P = true := by
  refine List.all_eq_true.mpr fun c hc => ?_
  have h := List.all_eq_true.mp h1 c hc
  rcases Bool.eq_false_or_eq_true (isCode c) with hi | hi
  · exact h2 c (List.mem_filter.mpr ⟨hc, hi⟩)
  · simpa [hi] using h
set_option maxRecDepth 65536 in
theorem w_c0 : (Jvm.Cond.code x code maxLocals ret).before args0 about1 = true := code_word (m := ⟨1, 1⟩) (meth := k1m1) (c := k1c1) (by decide +kernel) rfl rfl rfl (by decide +kernel)
set_option maxRecDepth 65536 in
theorem w_c1 : (Jvm.Cond.code ({ cls := "com/example/bough/bough/BuiltInType", name := "isInteger", desc := "()Z" } : Jvm.MethodName) prog_5_method_10_code (1 : Nat) (Option.some Jvm.ClassFile.FieldType.boolean)).before args0 about1 = true := code_word (m := ⟨6, 0⟩) (meth := k6m0) (c := k6c0) (by decide +kernel) rfl rfl rfl (by decide +kernel)
def codes1 : List Jvm.Cond := [Jvm.Cond.code x code maxLocals ret, Jvm.Cond.code ({ cls := "com/example/bough/bough/BuiltInType", name := "isInteger", desc := "()Z" } : Jvm.MethodName) prog_5_method_10_code (1 : Nat) (Option.some Jvm.ClassFile.FieldType.boolean)]
set_option maxRecDepth 65536 in
theorem codes_eq : words1.filter isCode = codes1 := rfl
theorem w_codes : ∀ c ∈ words1.filter isCode, c.before args0 about1 = true := by
  rw [codes_eq]
  intro c hc
  simp only [codes1, List.mem_cons, List.not_mem_nil, or_false] at hc
  rcases hc with rfl | rfl
  · exact w_c0
  · exact w_c1
set_option maxRecDepth 65536 in
theorem w_t1 : (words1.take 24).all (fun c => isCode c || c.before args0 about1) = true := by decide +kernel
set_option maxRecDepth 65536 in
theorem w_t2 : ((words1.drop 24).take 24).all (fun c => isCode c || c.before args0 about1) = true := by decide +kernel
set_option maxRecDepth 65536 in
theorem w_t3 : ((words1.drop 24).drop 24).all (fun c => isCode c || c.before args0 about1) = true := by decide +kernel
theorem w_tables : (allAtoms (Jvm.Cond.code x code maxLocals ret :: tables_1)).before args0 about1 = true := by
  rw [allAtoms_all]
  show words1.all (fun c => c.before args0 about1) = true
  refine all_split ?_ w_codes
  rw [← List.take_append_drop 24 words1, List.all_append, w_t1, ← List.take_append_drop 24 (words1.drop 24), List.all_append, w_t2, w_t3]
  rfl
set_option maxRecDepth 65536 in
theorem w_case : (Jvm.Cond.and given_1 narrow_1).before args0 about1 = true := by decide +kernel
theorem w_applies : (headSpec (Jvm.Cond.code x code maxLocals ret :: tables_1) room_1).applies x e0.platform about1 = true :=
  (Spec.applies_iff w_frames).mpr ⟨w_running, w_runnable, w_alone, w_named, w_hears, w_ripe, w_room, w_tables⟩
theorem atStart : AtStart classFile x code maxLocals ret World_1 tables_1 room_1 Calls_1 rest_1 Pre_1 launch0 p0 e0 about1 theMethod args0 below0 :=
  ⟨lists_1, trivial, launch0.admits_env _ _ _, launch0.least_env, fairChoices_fair.cas, fairChoices_fair.clock, w_frames, w_args, w_heap, w_applies, trivial, trivial, w_case⟩
end start1
theorem witness_1 : WitnessClaimed_1 := ⟨start1.p0, start1.e0, start1.about1, start1.theMethod, start1.args0, start1.below0, start1.atStart⟩
end Jvm.Pilot.@@N@@
