import JvmDerived
import JvmDerived.Pilot.@@N@@Statement
import JvmDerived.Pilot.@@N@@Code
set_option linter.unusedVariables false
set_option linter.unusedSimpArgs false
namespace Jvm.Pilot.@@N@@
open Jvm Jvm.ClassFile Sem Op Lib Jvm.Free Jvm.Stand Jvm.LawKit Jvm.RoadKit Bundle Jvm.Pilot.@@N@@.Jvm.D
section OwnKit
variable {p : Program} {l : Launch} {e : Env} {R : Room} {s : State} {m : MethodId} {args : Array Value} {below : List Frame} {meth : Method} {c : Code} {T : State} {locs : List Loc} {cells slots : Nat} {Z : State} {a0 : Array Value} {h : Heap} {Q : Option Value → Heap → List Loc → Prop} {rc rs : Nat} {S S' : State}
/-- from S the body ends well -/
def own_go (p : Program) (e : Env) (below : List Frame) (s : State) (Q : Option Value → Heap → List Loc → Prop) (rc rs : Nat) (S : State) : Prop :=
  ∃ s₂ o, Steps p.tables e below S s₂ ∧ s₂.status = .running ∧ Ended s₂ below o ∧ ∃ v L, o = .returned v ∧ Q v s₂.heap L ∧ FrameEnd s o s₂ L rc rs
theorem own_st (k : ∀ t, Steps p.tables e below S' t → Steps p.tables e below S t) (g : own_go p e below s Q rc rs S') : own_go p e below s Q rc rs S := by
  obtain ⟨s₂, o, h1, h2⟩ := g
  exact ⟨s₂, o, k _ h1, h2⟩
theorem own_ret (X : Stand p l e R s m args below meth c T locs cells slots) (hx : p.tables.exec = Jvm.exec) (hlk : meth.locks = false) {pc : Nat} {Ls : Array Slot} {w : Value} {t : FieldType} {i : Instr} {rest : List Value} (hret : meth.sig.returnType = some t) (hn : narrow t w = w)
    (hi : (i = .ireturn ∧ (t = .int ∨ t = .boolean ∨ t = .byte ∨ t = .char ∨ t = .short) ∧ ∃ z, w = .int z) ∨ (i = .lreturn ∧ t = .long ∧ ∃ z, w = .long z) ∨ (i = .dreturn ∧ t = .double ∧ ∃ z, w = .double z) ∨ (i = .freturn ∧ t = .float ∧ ∃ z, w = .float z) ∨ (i = .areturn ∧ t.isReference = true ∧ w.isRef = true))
    (hd : decode c.code pc = .ok (i, 1)) (hc : cells ≤ rc) (hs : slots ≤ rs) (hQ : Q (some w) T.heap locs) : own_go p e below s Q rc rs (T.setTop (mkF m pc Ls (w :: rest))) := by
  obtain ⟨fs, hr, hrun, hended, hW, hsame⟩ := X.leave (v := some w) (fun h => by rw [hret] at h; cases h) hlk
  exact ⟨_, _, retOut X hx hret hn hi hd hr, hrun, hended, _, _, rfl, hQ, ⟨_, rfl⟩, hW, hsame.mono hc hs⟩
theorem own_retI (X : Stand p l e R s m args below meth c T locs cells slots) (hx : p.tables.exec = Jvm.exec) (hlk : meth.locks = false) {pc : Nat} {Ls : Array Slot} {z : Int32} {rest : List Value} (hret : meth.sig.returnType = some .int)
    (hd : decode c.code pc = .ok (.ireturn, 1)) (hc : cells ≤ rc) (hs : slots ≤ rs) (hQ : Q (some (.int z)) T.heap locs) : own_go p e below s Q rc rs (T.setTop (mkF m pc Ls (.int z :: rest))) :=
  own_ret X hx hlk hret rfl (Or.inl ⟨rfl, Or.inl rfl, z, rfl⟩) hd hc hs hQ
theorem own_retN (X : Stand p l e R s m args below meth c T locs cells slots) (hx : p.tables.exec = Jvm.exec) (hlk : meth.locks = false) {pc : Nat} {Ls : Array Slot} {z : Int32} {t : FieldType} {rest : List Value} (hret : meth.sig.returnType = some t) (ht : t = .boolean ∨ t = .byte ∨ t = .char ∨ t = .short) (hn : narrow t (.int z) = .int z)
    (hd : decode c.code pc = .ok (.ireturn, 1)) (hc : cells ≤ rc) (hs : slots ≤ rs) (hQ : Q (some (.int z)) T.heap locs) : own_go p e below s Q rc rs (T.setTop (mkF m pc Ls (.int z :: rest))) :=
  own_ret X hx hlk hret hn (Or.inl ⟨rfl, Or.inr ht, z, rfl⟩) hd hc hs hQ
theorem own_retJ (X : Stand p l e R s m args below meth c T locs cells slots) (hx : p.tables.exec = Jvm.exec) (hlk : meth.locks = false) {pc : Nat} {Ls : Array Slot} {z : Int64} {rest : List Value} (hret : meth.sig.returnType = some .long)
    (hd : decode c.code pc = .ok (.lreturn, 1)) (hc : cells ≤ rc) (hs : slots ≤ rs) (hQ : Q (some (.long z)) T.heap locs) : own_go p e below s Q rc rs (T.setTop (mkF m pc Ls (.long z :: rest))) :=
  own_ret X hx hlk hret rfl (Or.inr (Or.inl ⟨rfl, rfl, z, rfl⟩)) hd hc hs hQ
theorem own_retA (X : Stand p l e R s m args below meth c T locs cells slots) (hx : p.tables.exec = Jvm.exec) (hlk : meth.locks = false) {pc : Nat} {Ls : Array Slot} {w : Value} {t : FieldType} {rest : List Value} (hret : meth.sig.returnType = some t) (ht : t.isReference = true) (hw : w.isRef = true)
    (hd : decode c.code pc = .ok (.areturn, 1)) (hc : cells ≤ rc) (hs : slots ≤ rs) (hQ : Q (some w) T.heap locs) : own_go p e below s Q rc rs (T.setTop (mkF m pc Ls (w :: rest))) :=
  own_ret X hx hlk hret (by cases w <;> cases t <;> first | rfl | (simp [Value.isRef] at hw; done) | (simp [FieldType.isReference] at ht; done)) (Or.inr (Or.inr (Or.inr (Or.inr ⟨rfl, ht, hw⟩)))) hd hc hs hQ
theorem own_ret0 (X : Stand p l e R s m args below meth c T locs cells slots) (hx : p.tables.exec = Jvm.exec) (hlk : meth.locks = false) {pc : Nat} {Ls : Array Slot} (hret : meth.sig.returnType = none)
    (hd : decode c.code pc = .ok (.return_, 1)) (hc : cells ≤ rc) (hs : slots ≤ rs) (hQ : Q none T.heap locs) : own_go p e below s Q rc rs (T.setTop (mkF m pc Ls [])) := by
  obtain ⟨fs, hr, hrun, hended, hW, hsame⟩ := X.leave (v := none) (fun _ => rfl) hlk
  exact ⟨_, _, X.returnOut hx hret hd hr, hrun, hended, _, _, rfl, hQ, ⟨_, rfl⟩, hW, hsame.mono hc hs⟩
/-- a body's contract at a heap -/
def own_Met (l : Launch) (Z : State) (y : MethodName) (bytes : ByteArray) (maxL : Nat) (ret : Option FieldType) (ws : List Jvm.Cond) (rm : Room) (as' : Array Value) (h : Heap) (Q : Option Value → Heap → List Loc → Prop) : Prop :=
  MetFree l y (head1 (Jvm.Cond.code y bytes maxL ret :: ws) rm) (fun a U => a = as' ∧ Z.Warmed39 U.vm ∧ U.heap = h) (fun _ _ _ _ _ => True) (fun _ U o U' => ∃ v L, o = .returned v ∧ Q v U'.heap L ∧ FrameEnd U o U' L rm.cells rm.slots)
theorem own_body {y : MethodName} {bytes : ByteArray} {maxL : Nat} {ret : Option FieldType} {ws : List Jvm.Cond} {rm : Room} {as' : Array Value} (hp : plainFor y = true)
    (k : ∀ (p : Program) (e : Env) (s : State) (m : MethodId) (below : List Frame) (meth : Method) (c : Code) (s₁ : State), p.tables.exec = Jvm.exec → c.code = bytes → c.maxLocals = maxL → s.vm.findClass y.cls = some m.cls → meth.name = y.name → meth.sig.returnType = ret → meth.locks = false → Stand p l e rm s m as' below meth c s₁ [] 0 0 → Z.Warmed39 s.vm → s₁.heap = h → own_go p e below s Q rm.cells rm.slots (s₁.setTop (entryFrame m as' maxL))) :
    own_Met l Z y bytes maxL ret ws rm as' h Q := by
  refine MetFree.of_bodySF hp hisR ?_
  intro p e s m args below meth c s₁ Bd hml0 hP hK
  obtain ⟨rfl, hZ, hh⟩ := hP
  exact k p e s m below meth c s₁ Bd.exec Bd.bytes hml0 (findClass_of_methodNamed Bd.named) (name_of_methodNamed Bd.named Bd.method).1 Bd.returns Bd.notSynchronized (Stand.of_body Bd) hZ (by rw [← hh, Bd.state]; rfl)
theorem own_callS (X : Stand p l e R s m args below meth c T locs cells slots) (hx : p.tables.exec = Jvm.exec) (hZ : Z.Warmed39 s.vm) {own : String} {index : Nat} {y : MethodName} {bytes : ByteArray} {maxL : Nat} {ret : Option FieldType} {rm : Room} {argsL rest : List Value} {Q' : Option Value → Heap → List Loc → Prop}
    (hM : own_Met l Z y bytes maxL ret [] rm argsL.toArray h Q') (hown : s.vm.findClass own = some m.cls) (w1 : (Jvm.Cond.methodLink own index y).before a0 Z = true) (w2 : (Jvm.Cond.static y).before a0 Z = true) (w3 : (Jvm.Cond.initialized y.cls).before a0 Z = true) (w4 : (Jvm.Cond.code y bytes maxL ret).before a0 Z = true)
    (hy : y.cls ≠ "java/lang/invoke/MethodHandle" ∧ y.cls ≠ "java/lang/invoke/VarHandle") (eT : T.heap = h) {g : JFrame} (hg : g.method = m) (hsize : g.locals.size = c.maxLocals) (hlen : ∀ sig, parseMethodDescriptor y.desc = some sig → argsL.length = sig.parameters.length) (hstack : g.stack = argsL.reverse ++ rest) {W : Nat} (hW : 2 * g.monitorRoom + (rest.map fun v => v.category).sum ≤ W)
    (hd : decode c.code g.pc = .ok (.invokestatic index, 3)) (hf : rm.frames + 1 ≤ R.frames) (hl : W + (maxL + 11) + rm.locals ≤ R.locals) (hc : cells + rm.cells ≤ R.cells) (hs : slots + rm.slots ≤ R.slots) :
    ∃ v T' L, Stand p l e R s m args below meth c T' (locs ++ L) (cells + rm.cells) (slots + rm.slots) ∧ Q' v T'.heap L ∧ ∀ target, Steps p.tables e below (T'.setTop { g with pc := g.pc + 3, stack := v.toList ++ rest }) target → Steps p.tables e below (T.setTop g) target := by
  obtain ⟨v, _, ⟨T1, L1, k1, n1⟩, -, X1, ⟨Lc, hQ, l1, y1, z1⟩, st⟩ := Jvm.LawKit.callS X hx (y := y) hown (mvT hZ w1) (mvT hZ w2) (mvT hZ w3) (mvT hZ w4) hy (backOf (W := W) hM hZ w4 w3 hf hl) hg hsize hlen hstack hW hd (fun _ _ => ⟨rfl, eT, hc, hs⟩)
  dsimp only [Pt.U, Pt.locs, Pt.cells, Pt.slots] at X1 l1 y1 z1 st hQ
  subst l1 y1 z1
  exact ⟨v, T1, Lc, X1, hQ, st⟩
theorem own_callV (X : Stand p l e R s m args below meth c T locs cells slots) (hx : p.tables.exec = Jvm.exec) (hZ : Z.Warmed39 s.vm) {own C : String} {index : Nat} {y z : MethodName} {bytes : ByteArray} {maxL : Nat} {ret : Option FieldType} {rm : Room} {b : Addr} {argsL rest : List Value} {Q' : Option Value → Heap → List Loc → Prop}
    (hM : own_Met l Z z bytes maxL ret [] rm (.ref b :: argsL).toArray h Q') (hown : s.vm.findClass own = some m.cls) (w1 : (Jvm.Cond.methodLink own index y).before a0 Z = true) (w2 : (Jvm.Cond.declares y).before a0 Z = true) (nf : NotFace s y) (w3 : (Jvm.Cond.selects C y z).before a0 Z = true) (w5 : (Jvm.Cond.instanceMethod z).before a0 Z = true)
    (w6 : (Jvm.Cond.initialized z.cls).before a0 Z = true) (w4 : (Jvm.Cond.code z bytes maxL ret).before a0 Z = true)
    (hy : y.cls ≠ "java/lang/invoke/MethodHandle" ∧ y.cls ≠ "java/lang/invoke/VarHandle") (eT : T.heap = h) (E : Exa Z h b C) {g : JFrame} (hg : g.method = m) (hsize : g.locals.size = c.maxLocals) (hlen : ∀ sig, parseMethodDescriptor y.desc = some sig → argsL.length = sig.parameters.length) (hstack : g.stack = argsL.reverse ++ .ref b :: rest) {W : Nat} (hW : 2 * g.monitorRoom + (rest.map fun v => v.category).sum ≤ W)
    (hd : decode c.code g.pc = .ok (.invokevirtual index, 3)) (hf : rm.frames + 1 ≤ R.frames) (hl : W + (maxL + 11) + rm.locals ≤ R.locals) (hc : cells + rm.cells ≤ R.cells) (hs : slots + rm.slots ≤ R.slots) :
    ∃ v T' L, Stand p l e R s m args below meth c T' (locs ++ L) (cells + rm.cells) (slots + rm.slots) ∧ Q' v T'.heap L ∧ ∀ target, Steps p.tables e below (T'.setTop { g with pc := g.pc + 3, stack := v.toList ++ rest }) target → Steps p.tables e below (T.setTop g) target := by
  obtain ⟨cq, kq, qa, qb, qc⟩ := isOf hZ eT E
  obtain ⟨v, _, ⟨T1, L1, k1, n1⟩, -, X1, ⟨Lc, hQ, l1, y1, z1⟩, st⟩ := X.virtualBack hx (y := y) (z := z) hown (mvT hZ w1) (mvT hZ w2) nf (mvT hZ w3) (mvT hZ w5) hy (backOf (W := W) hM hZ w4 w6 hf hl) qa qc hg hsize (Steps.refl _) hlen hstack hW hd (fun _ _ => ⟨rfl, eT, hc, hs⟩)
  dsimp only [Pt.U, Pt.locs, Pt.cells, Pt.slots] at X1 l1 y1 z1 st hQ
  subst l1 y1 z1
  exact ⟨v, T1, Lc, X1, hQ, fun _ k => st.trans k⟩
theorem own_callU (X : Stand p l e R s m args below meth c T locs cells slots) (hx : p.tables.exec = Jvm.exec) (hZ : Z.Warmed39 s.vm) {own C owner : String} {index : Nat} {y z : MethodName} {bytes : ByteArray} {maxL : Nat} {ret : Option FieldType} {rm : Room} {b : Addr} {argsL rest : List Value} {Q' : Option Value → Heap → List Loc → Prop}
    (hM : own_Met l Z z bytes maxL ret [] rm (.ref b :: argsL).toArray h Q') (hown : s.vm.findClass own = some m.cls) (w1 : (Jvm.Cond.methodLink own index y).before a0 Z = true) (w2 : (Jvm.Cond.sameMethod y.cls owner y.name y.desc).before a0 Z = true) (w7 : (Jvm.Cond.declares ⟨owner, y.name, y.desc⟩).before a0 Z = true) (w3 : (Jvm.Cond.selects C y z).before a0 Z = true) (w5 : (Jvm.Cond.instanceMethod z).before a0 Z = true)
    (w6 : (Jvm.Cond.initialized z.cls).before a0 Z = true) (w4 : (Jvm.Cond.code z bytes maxL ret).before a0 Z = true)
    (hy : owner ≠ "java/lang/invoke/MethodHandle" ∧ owner ≠ "java/lang/invoke/VarHandle") (eT : T.heap = h) (E : Exa Z h b C) {g : JFrame} (hg : g.method = m) (hsize : g.locals.size = c.maxLocals) (hlen : ∀ sig, parseMethodDescriptor y.desc = some sig → argsL.length = sig.parameters.length) (hstack : g.stack = argsL.reverse ++ .ref b :: rest) {W : Nat} (hW : 2 * g.monitorRoom + (rest.map fun v => v.category).sum ≤ W)
    (hd : decode c.code g.pc = .ok (.invokevirtual index, 3)) (hf : rm.frames + 1 ≤ R.frames) (hl : W + (maxL + 11) + rm.locals ≤ R.locals) (hc : cells + rm.cells ≤ R.cells) (hs : slots + rm.slots ≤ R.slots) :
    ∃ v T' L, Stand p l e R s m args below meth c T' (locs ++ L) (cells + rm.cells) (slots + rm.slots) ∧ Q' v T'.heap L ∧ ∀ target, Steps p.tables e below (T'.setTop { g with pc := g.pc + 3, stack := v.toList ++ rest }) target → Steps p.tables e below (T.setTop g) target := by
  obtain ⟨cq, kq, qa, qb, qc⟩ := isOf hZ eT E
  obtain ⟨v, _, ⟨T1, L1, k1, n1⟩, -, X1, ⟨Lc, hQ, l1, y1, z1⟩, st⟩ := X.virtualBackUp hx (x := y) (y := z) hown (mvT hZ w1) (mvT hZ w2) (mvT hZ w7) hy (mvT hZ w3) (mvT hZ w5) (backOf (W := W) hM hZ w4 w6 hf hl) qa qc hg hsize (Steps.refl _) hlen hstack hW hd (fun _ _ => ⟨rfl, eT, hc, hs⟩)
  dsimp only [Pt.U, Pt.locs, Pt.cells, Pt.slots] at X1 l1 y1 z1 st hQ
  subst l1 y1 z1
  exact ⟨v, T1, Lc, X1, hQ, fun _ k => st.trans k⟩
theorem own_callN (X : Stand p l e R s m args below meth c T locs cells slots) (hx : p.tables.exec = Jvm.exec) (hZ : Z.Warmed39 s.vm) {own : String} {index : Nat} {y : MethodName} {bytes : ByteArray} {maxL : Nat} {rm : Room} {b : Addr} {argsL rest : List Value} {Q' : Option Value → Heap → List Loc → Prop}
    (hM : own_Met l Z y bytes maxL none [] rm (.ref b :: argsL).toArray h Q') (hi : y.name = "<init>") (hown : s.vm.findClass own = some m.cls) (w1 : (Jvm.Cond.methodLink own index y).before a0 Z = true) (w2 : (Jvm.Cond.instanceMethod y).before a0 Z = true)
    (w3 : (Jvm.Cond.initialized y.cls).before a0 Z = true) (w4 : (Jvm.Cond.code y bytes maxL none).before a0 Z = true)
    (hy : y.cls ≠ "java/lang/invoke/MethodHandle" ∧ y.cls ≠ "java/lang/invoke/VarHandle") (eT : T.heap = h) {g : JFrame} (hg : g.method = m) (hsize : g.locals.size = c.maxLocals) (hlen : ∀ sig, parseMethodDescriptor y.desc = some sig → argsL.length = sig.parameters.length) (hstack : g.stack = argsL.reverse ++ .ref b :: rest) {W : Nat} (hW : 2 * g.monitorRoom + (rest.map fun v => v.category).sum ≤ W)
    (hd : decode c.code g.pc = .ok (.invokespecial index, 3)) (hf : rm.frames + 1 ≤ R.frames) (hl : W + (maxL + 11) + rm.locals ≤ R.locals) (hc : cells + rm.cells ≤ R.cells) (hs : slots + rm.slots ≤ R.slots) :
    ∃ v T' L, Stand p l e R s m args below meth c T' (locs ++ L) (cells + rm.cells) (slots + rm.slots) ∧ Q' v T'.heap L ∧ ∀ target, Steps p.tables e below (T'.setTop { g with pc := g.pc + 3, stack := v.toList ++ rest }) target → Steps p.tables e below (T.setTop g) target := by
  obtain ⟨v, _, ⟨T1, L1, k1, n1⟩, -, X1, ⟨Lc, hQ, l1, y1, z1⟩, st⟩ := X.specialBack hx (y := y) hi hown (mvT hZ w1) (mvT hZ w2) (mvT hZ w4) hy (backOf (W := W) hM hZ w4 w3 hf hl) hg hsize (Steps.refl _) hlen hstack hW hd (fun _ _ => ⟨rfl, eT, hc, hs⟩)
  dsimp only [Pt.U, Pt.locs, Pt.cells, Pt.slots] at X1 l1 y1 z1 st hQ
  subst l1 y1 z1
  exact ⟨v, T1, Lc, X1, hQ, fun _ k => st.trans k⟩
/-- a reference laid into an array that the walk has made -/
theorem own_put (X : Stand p l e R s m args below meth c T locs cells slots) (hx : p.tables.exec = Jvm.exec) (hZ : Z.Warmed39 s.vm) (eT : T.heap = h) {a : Addr} {k : ClassId} {C : String} {z : Int32} {vs : List Value} {dv : Value} (V : Arv Z h a k (.object C) z vs dv) (O : Ovr Z k C) {y : Addr} (I : Ins Z h y C true) {j : Int32} (hj : ¬ j < 0 ∧ j < z) (i : Nat) (hi : j.toNatClampNeg = i) (hl : i < vs.length)
    {g : JFrame} (hg : g.method = m) {rest : List Value} (hs : g.stack = .ref y :: .int j :: .ref a :: rest) (hd : decode c.code g.pc = .ok (.aastore, 1)) :
    ∃ T' h', Stand p l e R s m args below meth c T' (locs ++ [⟨a, j.toNatClampNeg⟩]) cells slots ∧ T'.heap = h' ∧ Wr h h' a j.toNatClampNeg (.ref y) ∧ Arv Z h' a k (.object C) z (vs.set i (.ref y)) dv ∧ ∀ target, Steps p.tables e below (T'.setTop { g with pc := g.pc + 1, stack := rest }) target → Steps p.tables e below (T.setTop g) target := by
  obtain ⟨cl, A, q1, S, q3, H, G⟩ := V
  obtain ⟨T', h', X', e', W, st⟩ := stR X hx hZ eT A (j := j) (inb_of S hj) rfl (Sto.ofV A q1 O I) hg hs hd
  exact ⟨T', h', X', e', W, Arv.set A q1 S q3 H G rfl W i hi hl, st⟩
theorem own_get (X : Stand p l e R s m args below meth c T locs cells slots) (hx : p.tables.exec = Jvm.exec) (hZ : Z.Warmed39 s.vm) (eT : T.heap = h) {a : Addr} {k : ClassId} {ty : FieldType} {z : Int32} {vs : List Value} {dv : Value} (V : Arv Z h a k ty z vs dv) (hty : ty.isReference = true) {j : Int32} (hj : ¬ j < 0 ∧ j < z) {v : Value} (hv : vs.getD j.toNatClampNeg dv = v)
    {g : JFrame} (hg : g.method = m) {rest : List Value} (hs : g.stack = .int j :: .ref a :: rest) (hd : decode c.code g.pc = .ok (.aaload, 1)) :
    ∀ target, Steps p.tables e below (T.setTop { g with pc := g.pc + 1, stack := v :: rest }) target → Steps p.tables e below (T.setTop g) target := by
  obtain ⟨cl, A, q1, S, q3, H, G⟩ := V
  intro target k
  exact X.aaload hx (by rw [eT]; exact A.1) (State.isArrayOf_alike hZ.alike A.2.1) hty A.2.2 (inb_of S hj) (H.at (inb_of S hj) hv) hg hs hd target k
/-- an array of references of a written length, made -/
theorem own_arr (X : Stand p l e R s m args below meth c T locs cells slots) (hx : p.tables.exec = Jvm.exec) (hZ : Z.Warmed39 s.vm) {own C : String} {index : Nat} (hown : s.vm.findClass own = some m.cls) (w1 : (Jvm.Cond.classLink own index C).before a0 Z = true) (w2 : (Jvm.Cond.arrayOver (.object C)).before a0 Z = true) (eT : T.heap = h)
    {g : JFrame} (hg : g.method = m) (hd : decode c.code g.pc = .ok (.anewarray index, 3)) {n : Int32} {rest : List Value} (hs : g.stack = .int n :: rest) (hn : ¬ n < 0) {cap : Nat} (hcap : n.toNatClampNeg ≤ cap) (hb : cap * 8 ≤ 536870912) (hc : cells + 1 ≤ R.cells) (hl : slots + cap ≤ R.slots) :
    ∃ T' h' k a, Stand p l e R s m args below meth c T' locs (cells + 1) (slots + cap) ∧ T'.heap = h' ∧ a = h.size ∧ Ext h h' ∧ Arv Z h' a k (.object C) n (List.replicate cap .null) .null ∧ Ovr Z k C ∧
      ∀ target, Steps p.tables e below (T'.setTop { g with pc := g.pc + 3, stack := .ref a :: rest }) target → Steps p.tables e below (T.setTop g) target := by
  obtain ⟨T', h', k, X', e', E, A, O, st⟩ := newR X hx hZ hown w1 w2 eT hg hd hs hn hcap hb hc hl
  exact ⟨T', h', k, _, X', e', rfl, E, (Arv.new A hn).pad (pad_rep [] .null cap), O, st⟩
theorem own_len (X : Stand p l e R s m args below meth c T locs cells slots) (hx : p.tables.exec = Jvm.exec) (hZ : Z.Warmed39 s.vm) (eT : T.heap = h) {a : Addr} {k : ClassId} {ty : FieldType} {z : Int32} {vs : List Value} {dv : Value} (V : Arv Z h a k ty z vs dv)
    {g : JFrame} (hg : g.method = m) {rest : List Value} (hs : g.stack = .ref a :: rest) (hd : decode c.code g.pc = .ok (.arraylength, 1)) :
    ∀ target, Steps p.tables e below (T.setTop { g with pc := g.pc + 1, stack := .int z :: rest }) target → Steps p.tables e below (T.setTop g) target := by
  obtain ⟨cl, A, q1, S, q3, H, G⟩ := V
  intro target k
  refine X.arraylength hx (by rw [eT]; exact A.1) (State.isArrayOf_alike hZ.alike A.2.1) hg hs hd _ ?_
  rw [len_of S q3]
  exact k
theorem own_osz {n0 : Nat} (O : Old Z n0 h) : n0 ≤ h.size := by have := O.2.1; rw [O.1] at this; exact this
theorem own_fldI {t : Term} {C n d : String} {k : Int32} {a : Addr} (ev : t.eval args Z none [] Z = some (.ref a)) (hh : (Jvm.Cond.eq (Term.field t C n d) (Term.int k)).value args Z none Z [] = some true) : Fld Z Z.heap a C n d (.int k) := by
  refine Fld.start ?_
  rw [← fld_at (t := t) (args := args) (first := Z) (o := none) (idx := []) ev]
  cases hq : (Term.field t C n d).eval args Z none [] Z with
  | none => simp [Cond.value, hq] at hh
  | some v =>
    simp only [Cond.value, hq, Term.int_eval] at hh
    cases v <;> simp at hh ⊢ <;> exact hh
theorem own_fldJ {t : Term} {C n d : String} {k : Int64} {a : Addr} (ev : t.eval args Z none [] Z = some (.ref a)) (hh : (Jvm.Cond.eq (Term.field t C n d) (Term.long k)).value args Z none Z [] = some true) : Fld Z Z.heap a C n d (.long k) := by
  refine Fld.start ?_
  rw [← fld_at (t := t) (args := args) (first := Z) (o := none) (idx := []) ev]
  cases hq : (Term.field t C n d).eval args Z none [] Z with
  | none => simp [Cond.value, hq] at hh
  | some v =>
    have hk : (Term.long k).eval args Z none [] Z = some (.long k) := rfl
    simp only [Cond.value, hq, hk] at hh
    cases v <;> simp at hh ⊢ <;> exact hh
theorem own_fldN {t : Term} {C n d : String} {a : Addr} (ev : t.eval args Z none [] Z = some (.ref a)) (hh : (Jvm.Cond.eq (Term.field t C n d) Term.null).value args Z none Z [] = some true) : Fld Z Z.heap a C n d .null := by
  refine Fld.start ?_
  rw [← fld_at (t := t) (args := args) (first := Z) (o := none) (idx := []) ev]
  exact null_v hh
theorem own_fldR {t u : Term} {C n d : String} {a b : Addr} (ev : t.eval args Z none [] Z = some (.ref a)) (eu : u.eval args Z none [] Z = some (.ref b)) (hh : (Jvm.Cond.eq (Term.field t C n d) u).value args Z none Z [] = some true) : Fld Z Z.heap a C n d (.ref b) := by
  refine Fld.start ?_
  rw [← fld_at (t := t) (args := args) (first := Z) (o := none) (idx := []) ev]
  cases hq : (Term.field t C n d).eval args Z none [] Z with
  | none => simp [Cond.value, hq] at hh
  | some v => cases v <;> simp [Cond.value, hq, eu] at hh ⊢ <;> exact hh
theorem own_fldX {t : Term} {C n d K : String} {a : Addr} (ev : t.eval args Z none [] Z = some (.ref a)) (hh : (Jvm.Cond.exactly (Term.field t C n d) K).value args Z none Z [] = some true) : ∃ b, Fld Z Z.heap a C n d (.ref b) ∧ Exa Z Z.heap b K := by
  obtain ⟨b, hb⟩ := exa_v hh
  refine ⟨b, Fld.start ?_, Exa.start hb hh⟩
  rw [← fld_at (t := t) (args := args) (first := Z) (o := none) (idx := []) ev]
  exact hb
theorem own_ne {h : Heap} {a b : Addr} {C n d : String} {i j : Int32} (F : Fld Z h a C n d (.int i)) (G : Fld Z h b C n d (.int j)) (q : i ≠ j) : a ≠ b := F.ne G fun r => q (Value.int.inj r)
end OwnKit
def own_S (Z : State) (c_CONTAINER c_LIST c_LEAF c_LEAF_LIST c_CHOICE c_CASE c_ANYDATA c_ANYXML c_RPC c_ACTION c_INPUT c_OUTPUT c_NOTIFICATION : Addr) : Prop := (Sta Z Z.heap "com/example/bough/bough/SchemaNode$Kind" "CONTAINER" "Lcom/example/bough/bough/SchemaNode$Kind;" (.ref c_CONTAINER)) ∧
  (Exa Z Z.heap c_CONTAINER "com/example/bough/bough/SchemaNode$Kind") ∧
  (Sta Z Z.heap "com/example/bough/bough/SchemaNode$Kind" "LIST" "Lcom/example/bough/bough/SchemaNode$Kind;" (.ref c_LIST)) ∧
  (Exa Z Z.heap c_LIST "com/example/bough/bough/SchemaNode$Kind") ∧
  (Sta Z Z.heap "com/example/bough/bough/SchemaNode$Kind" "LEAF" "Lcom/example/bough/bough/SchemaNode$Kind;" (.ref c_LEAF)) ∧
  (Exa Z Z.heap c_LEAF "com/example/bough/bough/SchemaNode$Kind") ∧
  (Sta Z Z.heap "com/example/bough/bough/SchemaNode$Kind" "LEAF_LIST" "Lcom/example/bough/bough/SchemaNode$Kind;" (.ref c_LEAF_LIST)) ∧
  (Exa Z Z.heap c_LEAF_LIST "com/example/bough/bough/SchemaNode$Kind") ∧
  (Sta Z Z.heap "com/example/bough/bough/SchemaNode$Kind" "CHOICE" "Lcom/example/bough/bough/SchemaNode$Kind;" (.ref c_CHOICE)) ∧
  (Exa Z Z.heap c_CHOICE "com/example/bough/bough/SchemaNode$Kind") ∧
  (Sta Z Z.heap "com/example/bough/bough/SchemaNode$Kind" "CASE" "Lcom/example/bough/bough/SchemaNode$Kind;" (.ref c_CASE)) ∧
  (Exa Z Z.heap c_CASE "com/example/bough/bough/SchemaNode$Kind") ∧
  (Sta Z Z.heap "com/example/bough/bough/SchemaNode$Kind" "ANYDATA" "Lcom/example/bough/bough/SchemaNode$Kind;" (.ref c_ANYDATA)) ∧
  (Exa Z Z.heap c_ANYDATA "com/example/bough/bough/SchemaNode$Kind") ∧
  (Sta Z Z.heap "com/example/bough/bough/SchemaNode$Kind" "ANYXML" "Lcom/example/bough/bough/SchemaNode$Kind;" (.ref c_ANYXML)) ∧
  (Exa Z Z.heap c_ANYXML "com/example/bough/bough/SchemaNode$Kind") ∧
  (Sta Z Z.heap "com/example/bough/bough/SchemaNode$Kind" "RPC" "Lcom/example/bough/bough/SchemaNode$Kind;" (.ref c_RPC)) ∧
  (Exa Z Z.heap c_RPC "com/example/bough/bough/SchemaNode$Kind") ∧
  (Sta Z Z.heap "com/example/bough/bough/SchemaNode$Kind" "ACTION" "Lcom/example/bough/bough/SchemaNode$Kind;" (.ref c_ACTION)) ∧
  (Exa Z Z.heap c_ACTION "com/example/bough/bough/SchemaNode$Kind") ∧
  (Sta Z Z.heap "com/example/bough/bough/SchemaNode$Kind" "INPUT" "Lcom/example/bough/bough/SchemaNode$Kind;" (.ref c_INPUT)) ∧
  (Exa Z Z.heap c_INPUT "com/example/bough/bough/SchemaNode$Kind") ∧
  (Sta Z Z.heap "com/example/bough/bough/SchemaNode$Kind" "OUTPUT" "Lcom/example/bough/bough/SchemaNode$Kind;" (.ref c_OUTPUT)) ∧
  (Exa Z Z.heap c_OUTPUT "com/example/bough/bough/SchemaNode$Kind") ∧
  (Sta Z Z.heap "com/example/bough/bough/SchemaNode$Kind" "NOTIFICATION" "Lcom/example/bough/bough/SchemaNode$Kind;" (.ref c_NOTIFICATION)) ∧
  (Exa Z Z.heap c_NOTIFICATION "com/example/bough/bough/SchemaNode$Kind") ∧
  (Fld Z Z.heap c_CONTAINER "java/lang/Enum" "ordinal" "I" (.int (0 : Int32))) ∧
  (Fld Z Z.heap c_RPC "java/lang/Enum" "ordinal" "I" (.int (8 : Int32))) ∧
  (Fld Z Z.heap c_ACTION "java/lang/Enum" "ordinal" "I" (.int (9 : Int32))) ∧
  (Fld Z Z.heap c_INPUT "java/lang/Enum" "ordinal" "I" (.int (10 : Int32))) ∧
  (Fld Z Z.heap c_OUTPUT "java/lang/Enum" "ordinal" "I" (.int (11 : Int32))) ∧
  (Fld Z Z.heap c_NOTIFICATION "java/lang/Enum" "ordinal" "I" (.int (12 : Int32))) ∧
  (Fld Z Z.heap c_CASE "java/lang/Enum" "ordinal" "I" (.int (5 : Int32))) ∧
  (Fld Z Z.heap c_LEAF_LIST "java/lang/Enum" "ordinal" "I" (.int (3 : Int32))) ∧
  (Fld Z Z.heap c_ANYDATA "java/lang/Enum" "ordinal" "I" (.int (6 : Int32))) ∧
  (Fld Z Z.heap c_ANYXML "java/lang/Enum" "ordinal" "I" (.int (7 : Int32))) ∧
  (Fld Z Z.heap c_LEAF "java/lang/Enum" "ordinal" "I" (.int (2 : Int32))) ∧
  (Fld Z Z.heap c_LIST "java/lang/Enum" "ordinal" "I" (.int (1 : Int32))) ∧
  (Fld Z Z.heap c_CHOICE "java/lang/Enum" "ordinal" "I" (.int (4 : Int32)))
theorem own_rem (k : Int32) : ((k &&& (2147483647 : Int32)) % (13 : Int32)) = (0 : Int32) ∨ ((k &&& (2147483647 : Int32)) % (13 : Int32)) = (1 : Int32) ∨ ((k &&& (2147483647 : Int32)) % (13 : Int32)) = (2 : Int32) ∨ ((k &&& (2147483647 : Int32)) % (13 : Int32)) = (3 : Int32) ∨ ((k &&& (2147483647 : Int32)) % (13 : Int32)) = (4 : Int32) ∨ ((k &&& (2147483647 : Int32)) % (13 : Int32)) = (5 : Int32) ∨ ((k &&& (2147483647 : Int32)) % (13 : Int32)) = (6 : Int32) ∨ ((k &&& (2147483647 : Int32)) % (13 : Int32)) = (7 : Int32) ∨ ((k &&& (2147483647 : Int32)) % (13 : Int32)) = (8 : Int32) ∨ ((k &&& (2147483647 : Int32)) % (13 : Int32)) = (9 : Int32) ∨ ((k &&& (2147483647 : Int32)) % (13 : Int32)) = (10 : Int32) ∨ ((k &&& (2147483647 : Int32)) % (13 : Int32)) = (11 : Int32) ∨ ((k &&& (2147483647 : Int32)) % (13 : Int32)) = (12 : Int32) := by
  have h1 := c_and k 2147483647 (by decide)
  have h2 := (c_irem (k &&& 2147483647) 13 13 rfl).1 h1.1
  have h3 : ((k &&& (2147483647 : Int32)) % (13 : Int32)).toInt = 0 ∨ ((k &&& (2147483647 : Int32)) % (13 : Int32)).toInt = 1 ∨ ((k &&& (2147483647 : Int32)) % (13 : Int32)).toInt = 2 ∨ ((k &&& (2147483647 : Int32)) % (13 : Int32)).toInt = 3 ∨ ((k &&& (2147483647 : Int32)) % (13 : Int32)).toInt = 4 ∨ ((k &&& (2147483647 : Int32)) % (13 : Int32)).toInt = 5 ∨ ((k &&& (2147483647 : Int32)) % (13 : Int32)).toInt = 6 ∨ ((k &&& (2147483647 : Int32)) % (13 : Int32)).toInt = 7 ∨ ((k &&& (2147483647 : Int32)) % (13 : Int32)).toInt = 8 ∨ ((k &&& (2147483647 : Int32)) % (13 : Int32)).toInt = 9 ∨ ((k &&& (2147483647 : Int32)) % (13 : Int32)).toInt = 10 ∨ ((k &&& (2147483647 : Int32)) % (13 : Int32)).toInt = 11 ∨ ((k &&& (2147483647 : Int32)) % (13 : Int32)).toInt = 12 := by omega
  rcases h3 with q | q | q | q | q | q | q | q | q | q | q | q | q
  · exact Or.inl (Int32.toInt_inj.mp (q.trans rfl))
  · exact Or.inr (Or.inl (Int32.toInt_inj.mp (q.trans rfl)))
  · exact Or.inr (Or.inr (Or.inl (Int32.toInt_inj.mp (q.trans rfl))))
  · exact Or.inr (Or.inr (Or.inr (Or.inl (Int32.toInt_inj.mp (q.trans rfl)))))
  · exact Or.inr (Or.inr (Or.inr (Or.inr (Or.inl (Int32.toInt_inj.mp (q.trans rfl))))))
  · exact Or.inr (Or.inr (Or.inr (Or.inr (Or.inr (Or.inl (Int32.toInt_inj.mp (q.trans rfl)))))))
  · exact Or.inr (Or.inr (Or.inr (Or.inr (Or.inr (Or.inr (Or.inl (Int32.toInt_inj.mp (q.trans rfl))))))))
  · exact Or.inr (Or.inr (Or.inr (Or.inr (Or.inr (Or.inr (Or.inr (Or.inl (Int32.toInt_inj.mp (q.trans rfl)))))))))
  · exact Or.inr (Or.inr (Or.inr (Or.inr (Or.inr (Or.inr (Or.inr (Or.inr (Or.inl (Int32.toInt_inj.mp (q.trans rfl))))))))))
  · exact Or.inr (Or.inr (Or.inr (Or.inr (Or.inr (Or.inr (Or.inr (Or.inr (Or.inr (Or.inl (Int32.toInt_inj.mp (q.trans rfl)))))))))))
  · exact Or.inr (Or.inr (Or.inr (Or.inr (Or.inr (Or.inr (Or.inr (Or.inr (Or.inr (Or.inr (Or.inl (Int32.toInt_inj.mp (q.trans rfl))))))))))))
  · exact Or.inr (Or.inr (Or.inr (Or.inr (Or.inr (Or.inr (Or.inr (Or.inr (Or.inr (Or.inr (Or.inr (Or.inl (Int32.toInt_inj.mp (q.trans rfl)))))))))))))
  · exact Or.inr (Or.inr (Or.inr (Or.inr (Or.inr (Or.inr (Or.inr (Or.inr (Or.inr (Or.inr (Or.inr (Or.inr (Int32.toInt_inj.mp (q.trans rfl)))))))))))))
theorem d2_0 : decode jdk_37_method_2_code 0 = .ok (.aload_n 0, 1) := by decide +kernel
theorem d2_1 : decode jdk_37_method_2_code 1 = .ok (.getfield 7, 3) := by decide +kernel
theorem d2_4 : decode jdk_37_method_2_code 4 = .ok (.ireturn, 1) := by decide +kernel
theorem own_pn_2 : plainFor (⟨"java/lang/Enum", "ordinal", "()I"⟩ : MethodName) = true := plainFor_of_name (show plainName "java/lang/Enum" = true by first | (simp [plainName, overriddenIn]; done) | decide +kernel)
theorem own_ef_rm_ord (m : MethodId) (a1 : Addr) : entryFrame m #[(.ref a1)] 1 = mkF m 0 #[.val (.ref a1)] [] := by first | (simp [entryFrame, mkF, argsToLocals, Value.category]; done) | rfl
set_option maxRecDepth 65536 in
set_option maxHeartbeats 40000000 in
theorem rm_ord (l : Launch) (Z : State) (a0 : Array Value) (hw : ∀ d ∈ tables_1, d.before a0 Z = true) (a1 : Addr) (z1 : Int32) (h0 : Heap) (n0 : Nat) (O0 : Old Z n0 h0) (F1 : Fld Z h0 a1 "java/lang/Enum" "ordinal" "I" (.int z1)) :
    own_Met l Z (⟨"java/lang/Enum", "ordinal", "()I"⟩ : MethodName) jdk_37_method_2_code 1 (some .int) [] ({ frames := 0, cells := 0, slots := 0, locals := 0 } : Room) #[(.ref a1)] h0 (fun v h L => v = some (.int z1) ∧ Fr n0 L ∧ h = h0) := by
  refine own_body own_pn_2 ?_
  intro p e s m below meth c s₁ hx hby hml hown hnm hret hlk X0 hZ e0
  replace hown : s.vm.findClass "java/lang/Enum" = some m.cls := hown
  have N0 := Fr.nil n0
  have K0 := Keep.refl h0 []
  refine own_st (fun _ k => castTop (own_ef_rm_ord m a1) k) ?_
  show own_go _ _ _ _ _ _ _ (s₁.setTop (mkF m 0 #[.val (.ref a1)] []))
  refine own_st (fun _ k => XS.aloadN X0.here hx rfl (hb hby d2_0) rfl rfl k) ?_
  show own_go _ _ _ _ _ _ _ (s₁.setTop (mkF m 1 #[.val (.ref a1)] [(.ref a1)]))
  obtain ⟨T1, X1, e1, st1⟩ := getF X0 hx hZ hown (host := "") (Or.inl (hw _ (List.mem_of_getElem? (i := 43) rfl))) Via.refl e0 F1 (g := (mkF m 1 #[.val (.ref a1)] [(.ref a1)])) rfl rfl (hb hby d2_1)
  refine own_st st1 ?_
  show own_go _ _ _ _ _ _ _ (T1.setTop (mkF m 4 #[.val (.ref a1)] [(.int z1)]))
  exact own_retI X1 hx hlk hret (hb hby d2_4) (by decide) (by decide) (⟨rfl, N0, e1⟩)
theorem d1_0 : decode prog_61_method_6_code 0 = .ok (.aload_n 0, 1) := by decide +kernel
theorem d1_1 : decode prog_61_method_6_code 1 = .ok (.invokevirtual 76, 3) := by decide +kernel
theorem d1_4 : decode prog_61_method_6_code 4 = .ok (.tableswitch 68 0 12 #[78, 78, 78, 78, 78, 82, 78, 78, 82, 82, 82, 82, 82], 68) := by decide +kernel
theorem d1_82 : decode prog_61_method_6_code 82 = .ok (.iconst 1, 1) := by decide +kernel
theorem d1_83 : decode prog_61_method_6_code 83 = .ok (.goto 4, 3) := by decide +kernel
theorem d1_87 : decode prog_61_method_6_code 87 = .ok (.ireturn, 1) := by decide +kernel
theorem own_pn_1 : plainFor (⟨"com/example/bough/bough/SchemaNode$Kind", "isCaseShorthand", "()Z"⟩ : MethodName) = true := plainFor_of_name (show plainName "com/example/bough/bough/SchemaNode$Kind" = true by first | (simp [plainName, overriddenIn]; done) | decide +kernel)
theorem own_pd__28_29I : parseMethodDescriptor "()I" = some ⟨[], some .int⟩ := by decide +kernel
theorem own_ef_rm1_0 (m : MethodId) (c_CONTAINER : Addr) : entryFrame m #[(.ref c_CONTAINER)] 1 = mkF m 0 #[.val (.ref c_CONTAINER)] [] := by first | (simp [entryFrame, mkF, argsToLocals, Value.category]; done) | rfl
set_option maxRecDepth 65536 in
set_option maxHeartbeats 40000000 in
theorem rm1_0 (l : Launch) (Z : State) (a0 : Array Value) (hw : ∀ d ∈ tables_1, d.before a0 Z = true) (c_CONTAINER c_LIST c_LEAF c_LEAF_LIST c_CHOICE c_CASE c_ANYDATA c_ANYXML c_RPC c_ACTION c_INPUT c_OUTPUT c_NOTIFICATION : Addr) (h0 : Heap) (n0 : Nat) (O0 : Old Z n0 h0) (hS : own_S Z c_CONTAINER c_LIST c_LEAF c_LEAF_LIST c_CHOICE c_CASE c_ANYDATA c_ANYXML c_RPC c_ACTION c_INPUT c_OUTPUT c_NOTIFICATION) :
    own_Met l Z (⟨"com/example/bough/bough/SchemaNode$Kind", "isCaseShorthand", "()Z"⟩ : MethodName) prog_61_method_6_code 1 (some .boolean) [] ({ frames := 1, cells := 0, slots := 0, locals := 12 } : Room) #[(.ref c_CONTAINER)] h0 (fun v h L => v = some (.int (1 : Int32)) ∧ Fr n0 L ∧ h = h0) := by
  refine own_body own_pn_1 ?_
  intro p e s m below meth c s₁ hx hby hml hown hnm hret hlk X0 hZ e0
  replace hown : s.vm.findClass "com/example/bough/bough/SchemaNode$Kind" = some m.cls := hown
  have N0 := Fr.nil n0
  have K0 := Keep.refl h0 []
  refine own_st (fun _ k => castTop (own_ef_rm1_0 m c_CONTAINER) k) ?_
  show own_go _ _ _ _ _ _ _ (s₁.setTop (mkF m 0 #[.val (.ref c_CONTAINER)] []))
  refine own_st (fun _ k => XS.aloadN X0.here hx rfl (hb hby d1_0) rfl rfl k) ?_
  show own_go _ _ _ _ _ _ _ (s₁.setTop (mkF m 1 #[.val (.ref c_CONTAINER)] [(.ref c_CONTAINER)]))
  obtain ⟨v2, T2, L2, X2, hQ2, st2⟩ := own_callU X0 hx hZ (argsL := []) (rest := []) (rm_ord l Z a0 hw c_CONTAINER (0 : Int32) h0 n0 O0 (hS.2.2.2.2.2.2.2.2.2.2.2.2.2.2.2.2.2.2.2.2.2.2.2.2.2.2.1.ext O0.2)) hown (hw _ (List.mem_of_getElem? (i := 36) rfl)) (hw _ (List.mem_of_getElem? (i := 37) rfl)) (hw _ (List.mem_of_getElem? (i := 38) rfl)) (hw _ (List.mem_of_getElem? (i := 40) rfl)) (hw _ (List.mem_of_getElem? (i := 39) rfl)) (hw _ (List.mem_of_getElem? (i := 41) rfl)) (hw _ (List.mem_of_getElem? (i := 42) rfl)) (by decide) e0 (hS.2.1.ext O0.2) (g := (mkF m 1 #[.val (.ref c_CONTAINER)] [(.ref c_CONTAINER)])) rfl (by rw [hml]; rfl) (lenOf own_pd__28_29I rfl) rfl (W := 0) (by show 2 * 0 + _ ≤ _; exact Nat.le_of_eq rfl) (hb hby d1_1) (by decide) (by decide) (by decide) (by decide)
  obtain ⟨rfl, Nq2, eq2⟩ := hQ2
  have N2 := Fr.app N0 Nq2
  refine own_st st2 ?_
  show own_go _ _ _ _ _ _ _ (T2.setTop (mkF m 4 #[.val (.ref c_CONTAINER)] [(.int (0 : Int32))]))
  refine own_st (fun _ k => XS.tswIn X2.here hx rfl (pc0 := 4) (pc' := 82) rfl (hb hby d1_4) rfl (by decide) (o := 78) (by decide) (by decide) (by decide) k) ?_
  show own_go _ _ _ _ _ _ _ (T2.setTop (mkF m 82 #[.val (.ref c_CONTAINER)] []))
  refine own_st (fun _ k => XS.iconst X2.here hx rfl (hb hby d1_82) k) ?_
  show own_go _ _ _ _ _ _ _ (T2.setTop (mkF m 83 #[.val (.ref c_CONTAINER)] [(.int (1 : Int32))]))
  refine own_st (fun _ k => XS.goto X2.here hx rfl (pc0 := 83) (pc' := 87) rfl (hb hby d1_83) (by decide) (by decide) k) ?_
  show own_go _ _ _ _ _ _ _ (T2.setTop (mkF m 87 #[.val (.ref c_CONTAINER)] [(.int (1 : Int32))]))
  exact own_retN X2 hx hlk (t := .boolean) hret (by simp) rfl (hb hby d1_87) (by decide) (by decide) (⟨rfl, N2, eq2⟩)
theorem own_ef_rm1_1 (m : MethodId) (c_LIST : Addr) : entryFrame m #[(.ref c_LIST)] 1 = mkF m 0 #[.val (.ref c_LIST)] [] := by first | (simp [entryFrame, mkF, argsToLocals, Value.category]; done) | rfl
set_option maxRecDepth 65536 in
set_option maxHeartbeats 40000000 in
theorem rm1_1 (l : Launch) (Z : State) (a0 : Array Value) (hw : ∀ d ∈ tables_1, d.before a0 Z = true) (c_CONTAINER c_LIST c_LEAF c_LEAF_LIST c_CHOICE c_CASE c_ANYDATA c_ANYXML c_RPC c_ACTION c_INPUT c_OUTPUT c_NOTIFICATION : Addr) (h0 : Heap) (n0 : Nat) (O0 : Old Z n0 h0) (hS : own_S Z c_CONTAINER c_LIST c_LEAF c_LEAF_LIST c_CHOICE c_CASE c_ANYDATA c_ANYXML c_RPC c_ACTION c_INPUT c_OUTPUT c_NOTIFICATION) :
    own_Met l Z (⟨"com/example/bough/bough/SchemaNode$Kind", "isCaseShorthand", "()Z"⟩ : MethodName) prog_61_method_6_code 1 (some .boolean) [] ({ frames := 1, cells := 0, slots := 0, locals := 12 } : Room) #[(.ref c_LIST)] h0 (fun v h L => v = some (.int (1 : Int32)) ∧ Fr n0 L ∧ h = h0) := by
  refine own_body own_pn_1 ?_
  intro p e s m below meth c s₁ hx hby hml hown hnm hret hlk X0 hZ e0
  replace hown : s.vm.findClass "com/example/bough/bough/SchemaNode$Kind" = some m.cls := hown
  have N0 := Fr.nil n0
  have K0 := Keep.refl h0 []
  refine own_st (fun _ k => castTop (own_ef_rm1_1 m c_LIST) k) ?_
  show own_go _ _ _ _ _ _ _ (s₁.setTop (mkF m 0 #[.val (.ref c_LIST)] []))
  refine own_st (fun _ k => XS.aloadN X0.here hx rfl (hb hby d1_0) rfl rfl k) ?_
  show own_go _ _ _ _ _ _ _ (s₁.setTop (mkF m 1 #[.val (.ref c_LIST)] [(.ref c_LIST)]))
  obtain ⟨v3, T3, L3, X3, hQ3, st3⟩ := own_callU X0 hx hZ (argsL := []) (rest := []) (rm_ord l Z a0 hw c_LIST (1 : Int32) h0 n0 O0 (hS.2.2.2.2.2.2.2.2.2.2.2.2.2.2.2.2.2.2.2.2.2.2.2.2.2.2.2.2.2.2.2.2.2.2.2.2.2.1.ext O0.2)) hown (hw _ (List.mem_of_getElem? (i := 36) rfl)) (hw _ (List.mem_of_getElem? (i := 37) rfl)) (hw _ (List.mem_of_getElem? (i := 38) rfl)) (hw _ (List.mem_of_getElem? (i := 40) rfl)) (hw _ (List.mem_of_getElem? (i := 39) rfl)) (hw _ (List.mem_of_getElem? (i := 41) rfl)) (hw _ (List.mem_of_getElem? (i := 42) rfl)) (by decide) e0 (hS.2.2.2.1.ext O0.2) (g := (mkF m 1 #[.val (.ref c_LIST)] [(.ref c_LIST)])) rfl (by rw [hml]; rfl) (lenOf own_pd__28_29I rfl) rfl (W := 0) (by show 2 * 0 + _ ≤ _; exact Nat.le_of_eq rfl) (hb hby d1_1) (by decide) (by decide) (by decide) (by decide)
  obtain ⟨rfl, Nq3, eq3⟩ := hQ3
  have N3 := Fr.app N0 Nq3
  refine own_st st3 ?_
  show own_go _ _ _ _ _ _ _ (T3.setTop (mkF m 4 #[.val (.ref c_LIST)] [(.int (1 : Int32))]))
  refine own_st (fun _ k => XS.tswIn X3.here hx rfl (pc0 := 4) (pc' := 82) rfl (hb hby d1_4) rfl (by decide) (o := 78) (by decide) (by decide) (by decide) k) ?_
  show own_go _ _ _ _ _ _ _ (T3.setTop (mkF m 82 #[.val (.ref c_LIST)] []))
  refine own_st (fun _ k => XS.iconst X3.here hx rfl (hb hby d1_82) k) ?_
  show own_go _ _ _ _ _ _ _ (T3.setTop (mkF m 83 #[.val (.ref c_LIST)] [(.int (1 : Int32))]))
  refine own_st (fun _ k => XS.goto X3.here hx rfl (pc0 := 83) (pc' := 87) rfl (hb hby d1_83) (by decide) (by decide) k) ?_
  show own_go _ _ _ _ _ _ _ (T3.setTop (mkF m 87 #[.val (.ref c_LIST)] [(.int (1 : Int32))]))
  exact own_retN X3 hx hlk (t := .boolean) hret (by simp) rfl (hb hby d1_87) (by decide) (by decide) (⟨rfl, N3, eq3⟩)
theorem own_ef_rm1_2 (m : MethodId) (c_LEAF : Addr) : entryFrame m #[(.ref c_LEAF)] 1 = mkF m 0 #[.val (.ref c_LEAF)] [] := by first | (simp [entryFrame, mkF, argsToLocals, Value.category]; done) | rfl
set_option maxRecDepth 65536 in
set_option maxHeartbeats 40000000 in
theorem rm1_2 (l : Launch) (Z : State) (a0 : Array Value) (hw : ∀ d ∈ tables_1, d.before a0 Z = true) (c_CONTAINER c_LIST c_LEAF c_LEAF_LIST c_CHOICE c_CASE c_ANYDATA c_ANYXML c_RPC c_ACTION c_INPUT c_OUTPUT c_NOTIFICATION : Addr) (h0 : Heap) (n0 : Nat) (O0 : Old Z n0 h0) (hS : own_S Z c_CONTAINER c_LIST c_LEAF c_LEAF_LIST c_CHOICE c_CASE c_ANYDATA c_ANYXML c_RPC c_ACTION c_INPUT c_OUTPUT c_NOTIFICATION) :
    own_Met l Z (⟨"com/example/bough/bough/SchemaNode$Kind", "isCaseShorthand", "()Z"⟩ : MethodName) prog_61_method_6_code 1 (some .boolean) [] ({ frames := 1, cells := 0, slots := 0, locals := 12 } : Room) #[(.ref c_LEAF)] h0 (fun v h L => v = some (.int (1 : Int32)) ∧ Fr n0 L ∧ h = h0) := by
  refine own_body own_pn_1 ?_
  intro p e s m below meth c s₁ hx hby hml hown hnm hret hlk X0 hZ e0
  replace hown : s.vm.findClass "com/example/bough/bough/SchemaNode$Kind" = some m.cls := hown
  have N0 := Fr.nil n0
  have K0 := Keep.refl h0 []
  refine own_st (fun _ k => castTop (own_ef_rm1_2 m c_LEAF) k) ?_
  show own_go _ _ _ _ _ _ _ (s₁.setTop (mkF m 0 #[.val (.ref c_LEAF)] []))
  refine own_st (fun _ k => XS.aloadN X0.here hx rfl (hb hby d1_0) rfl rfl k) ?_
  show own_go _ _ _ _ _ _ _ (s₁.setTop (mkF m 1 #[.val (.ref c_LEAF)] [(.ref c_LEAF)]))
  obtain ⟨v4, T4, L4, X4, hQ4, st4⟩ := own_callU X0 hx hZ (argsL := []) (rest := []) (rm_ord l Z a0 hw c_LEAF (2 : Int32) h0 n0 O0 (hS.2.2.2.2.2.2.2.2.2.2.2.2.2.2.2.2.2.2.2.2.2.2.2.2.2.2.2.2.2.2.2.2.2.2.2.2.1.ext O0.2)) hown (hw _ (List.mem_of_getElem? (i := 36) rfl)) (hw _ (List.mem_of_getElem? (i := 37) rfl)) (hw _ (List.mem_of_getElem? (i := 38) rfl)) (hw _ (List.mem_of_getElem? (i := 40) rfl)) (hw _ (List.mem_of_getElem? (i := 39) rfl)) (hw _ (List.mem_of_getElem? (i := 41) rfl)) (hw _ (List.mem_of_getElem? (i := 42) rfl)) (by decide) e0 (hS.2.2.2.2.2.1.ext O0.2) (g := (mkF m 1 #[.val (.ref c_LEAF)] [(.ref c_LEAF)])) rfl (by rw [hml]; rfl) (lenOf own_pd__28_29I rfl) rfl (W := 0) (by show 2 * 0 + _ ≤ _; exact Nat.le_of_eq rfl) (hb hby d1_1) (by decide) (by decide) (by decide) (by decide)
  obtain ⟨rfl, Nq4, eq4⟩ := hQ4
  have N4 := Fr.app N0 Nq4
  refine own_st st4 ?_
  show own_go _ _ _ _ _ _ _ (T4.setTop (mkF m 4 #[.val (.ref c_LEAF)] [(.int (2 : Int32))]))
  refine own_st (fun _ k => XS.tswIn X4.here hx rfl (pc0 := 4) (pc' := 82) rfl (hb hby d1_4) rfl (by decide) (o := 78) (by decide) (by decide) (by decide) k) ?_
  show own_go _ _ _ _ _ _ _ (T4.setTop (mkF m 82 #[.val (.ref c_LEAF)] []))
  refine own_st (fun _ k => XS.iconst X4.here hx rfl (hb hby d1_82) k) ?_
  show own_go _ _ _ _ _ _ _ (T4.setTop (mkF m 83 #[.val (.ref c_LEAF)] [(.int (1 : Int32))]))
  refine own_st (fun _ k => XS.goto X4.here hx rfl (pc0 := 83) (pc' := 87) rfl (hb hby d1_83) (by decide) (by decide) k) ?_
  show own_go _ _ _ _ _ _ _ (T4.setTop (mkF m 87 #[.val (.ref c_LEAF)] [(.int (1 : Int32))]))
  exact own_retN X4 hx hlk (t := .boolean) hret (by simp) rfl (hb hby d1_87) (by decide) (by decide) (⟨rfl, N4, eq4⟩)
theorem own_ef_rm1_3 (m : MethodId) (c_LEAF_LIST : Addr) : entryFrame m #[(.ref c_LEAF_LIST)] 1 = mkF m 0 #[.val (.ref c_LEAF_LIST)] [] := by first | (simp [entryFrame, mkF, argsToLocals, Value.category]; done) | rfl
set_option maxRecDepth 65536 in
set_option maxHeartbeats 40000000 in
theorem rm1_3 (l : Launch) (Z : State) (a0 : Array Value) (hw : ∀ d ∈ tables_1, d.before a0 Z = true) (c_CONTAINER c_LIST c_LEAF c_LEAF_LIST c_CHOICE c_CASE c_ANYDATA c_ANYXML c_RPC c_ACTION c_INPUT c_OUTPUT c_NOTIFICATION : Addr) (h0 : Heap) (n0 : Nat) (O0 : Old Z n0 h0) (hS : own_S Z c_CONTAINER c_LIST c_LEAF c_LEAF_LIST c_CHOICE c_CASE c_ANYDATA c_ANYXML c_RPC c_ACTION c_INPUT c_OUTPUT c_NOTIFICATION) :
    own_Met l Z (⟨"com/example/bough/bough/SchemaNode$Kind", "isCaseShorthand", "()Z"⟩ : MethodName) prog_61_method_6_code 1 (some .boolean) [] ({ frames := 1, cells := 0, slots := 0, locals := 12 } : Room) #[(.ref c_LEAF_LIST)] h0 (fun v h L => v = some (.int (1 : Int32)) ∧ Fr n0 L ∧ h = h0) := by
  refine own_body own_pn_1 ?_
  intro p e s m below meth c s₁ hx hby hml hown hnm hret hlk X0 hZ e0
  replace hown : s.vm.findClass "com/example/bough/bough/SchemaNode$Kind" = some m.cls := hown
  have N0 := Fr.nil n0
  have K0 := Keep.refl h0 []
  refine own_st (fun _ k => castTop (own_ef_rm1_3 m c_LEAF_LIST) k) ?_
  show own_go _ _ _ _ _ _ _ (s₁.setTop (mkF m 0 #[.val (.ref c_LEAF_LIST)] []))
  refine own_st (fun _ k => XS.aloadN X0.here hx rfl (hb hby d1_0) rfl rfl k) ?_
  show own_go _ _ _ _ _ _ _ (s₁.setTop (mkF m 1 #[.val (.ref c_LEAF_LIST)] [(.ref c_LEAF_LIST)]))
  obtain ⟨v5, T5, L5, X5, hQ5, st5⟩ := own_callU X0 hx hZ (argsL := []) (rest := []) (rm_ord l Z a0 hw c_LEAF_LIST (3 : Int32) h0 n0 O0 (hS.2.2.2.2.2.2.2.2.2.2.2.2.2.2.2.2.2.2.2.2.2.2.2.2.2.2.2.2.2.2.2.2.2.1.ext O0.2)) hown (hw _ (List.mem_of_getElem? (i := 36) rfl)) (hw _ (List.mem_of_getElem? (i := 37) rfl)) (hw _ (List.mem_of_getElem? (i := 38) rfl)) (hw _ (List.mem_of_getElem? (i := 40) rfl)) (hw _ (List.mem_of_getElem? (i := 39) rfl)) (hw _ (List.mem_of_getElem? (i := 41) rfl)) (hw _ (List.mem_of_getElem? (i := 42) rfl)) (by decide) e0 (hS.2.2.2.2.2.2.2.1.ext O0.2) (g := (mkF m 1 #[.val (.ref c_LEAF_LIST)] [(.ref c_LEAF_LIST)])) rfl (by rw [hml]; rfl) (lenOf own_pd__28_29I rfl) rfl (W := 0) (by show 2 * 0 + _ ≤ _; exact Nat.le_of_eq rfl) (hb hby d1_1) (by decide) (by decide) (by decide) (by decide)
  obtain ⟨rfl, Nq5, eq5⟩ := hQ5
  have N5 := Fr.app N0 Nq5
  refine own_st st5 ?_
  show own_go _ _ _ _ _ _ _ (T5.setTop (mkF m 4 #[.val (.ref c_LEAF_LIST)] [(.int (3 : Int32))]))
  refine own_st (fun _ k => XS.tswIn X5.here hx rfl (pc0 := 4) (pc' := 82) rfl (hb hby d1_4) rfl (by decide) (o := 78) (by decide) (by decide) (by decide) k) ?_
  show own_go _ _ _ _ _ _ _ (T5.setTop (mkF m 82 #[.val (.ref c_LEAF_LIST)] []))
  refine own_st (fun _ k => XS.iconst X5.here hx rfl (hb hby d1_82) k) ?_
  show own_go _ _ _ _ _ _ _ (T5.setTop (mkF m 83 #[.val (.ref c_LEAF_LIST)] [(.int (1 : Int32))]))
  refine own_st (fun _ k => XS.goto X5.here hx rfl (pc0 := 83) (pc' := 87) rfl (hb hby d1_83) (by decide) (by decide) k) ?_
  show own_go _ _ _ _ _ _ _ (T5.setTop (mkF m 87 #[.val (.ref c_LEAF_LIST)] [(.int (1 : Int32))]))
  exact own_retN X5 hx hlk (t := .boolean) hret (by simp) rfl (hb hby d1_87) (by decide) (by decide) (⟨rfl, N5, eq5⟩)
theorem own_ef_rm1_4 (m : MethodId) (c_CHOICE : Addr) : entryFrame m #[(.ref c_CHOICE)] 1 = mkF m 0 #[.val (.ref c_CHOICE)] [] := by first | (simp [entryFrame, mkF, argsToLocals, Value.category]; done) | rfl
set_option maxRecDepth 65536 in
set_option maxHeartbeats 40000000 in
theorem rm1_4 (l : Launch) (Z : State) (a0 : Array Value) (hw : ∀ d ∈ tables_1, d.before a0 Z = true) (c_CONTAINER c_LIST c_LEAF c_LEAF_LIST c_CHOICE c_CASE c_ANYDATA c_ANYXML c_RPC c_ACTION c_INPUT c_OUTPUT c_NOTIFICATION : Addr) (h0 : Heap) (n0 : Nat) (O0 : Old Z n0 h0) (hS : own_S Z c_CONTAINER c_LIST c_LEAF c_LEAF_LIST c_CHOICE c_CASE c_ANYDATA c_ANYXML c_RPC c_ACTION c_INPUT c_OUTPUT c_NOTIFICATION) :
    own_Met l Z (⟨"com/example/bough/bough/SchemaNode$Kind", "isCaseShorthand", "()Z"⟩ : MethodName) prog_61_method_6_code 1 (some .boolean) [] ({ frames := 1, cells := 0, slots := 0, locals := 12 } : Room) #[(.ref c_CHOICE)] h0 (fun v h L => v = some (.int (1 : Int32)) ∧ Fr n0 L ∧ h = h0) := by
  refine own_body own_pn_1 ?_
  intro p e s m below meth c s₁ hx hby hml hown hnm hret hlk X0 hZ e0
  replace hown : s.vm.findClass "com/example/bough/bough/SchemaNode$Kind" = some m.cls := hown
  have N0 := Fr.nil n0
  have K0 := Keep.refl h0 []
  refine own_st (fun _ k => castTop (own_ef_rm1_4 m c_CHOICE) k) ?_
  show own_go _ _ _ _ _ _ _ (s₁.setTop (mkF m 0 #[.val (.ref c_CHOICE)] []))
  refine own_st (fun _ k => XS.aloadN X0.here hx rfl (hb hby d1_0) rfl rfl k) ?_
  show own_go _ _ _ _ _ _ _ (s₁.setTop (mkF m 1 #[.val (.ref c_CHOICE)] [(.ref c_CHOICE)]))
  obtain ⟨v6, T6, L6, X6, hQ6, st6⟩ := own_callU X0 hx hZ (argsL := []) (rest := []) (rm_ord l Z a0 hw c_CHOICE (4 : Int32) h0 n0 O0 (hS.2.2.2.2.2.2.2.2.2.2.2.2.2.2.2.2.2.2.2.2.2.2.2.2.2.2.2.2.2.2.2.2.2.2.2.2.2.2.ext O0.2)) hown (hw _ (List.mem_of_getElem? (i := 36) rfl)) (hw _ (List.mem_of_getElem? (i := 37) rfl)) (hw _ (List.mem_of_getElem? (i := 38) rfl)) (hw _ (List.mem_of_getElem? (i := 40) rfl)) (hw _ (List.mem_of_getElem? (i := 39) rfl)) (hw _ (List.mem_of_getElem? (i := 41) rfl)) (hw _ (List.mem_of_getElem? (i := 42) rfl)) (by decide) e0 (hS.2.2.2.2.2.2.2.2.2.1.ext O0.2) (g := (mkF m 1 #[.val (.ref c_CHOICE)] [(.ref c_CHOICE)])) rfl (by rw [hml]; rfl) (lenOf own_pd__28_29I rfl) rfl (W := 0) (by show 2 * 0 + _ ≤ _; exact Nat.le_of_eq rfl) (hb hby d1_1) (by decide) (by decide) (by decide) (by decide)
  obtain ⟨rfl, Nq6, eq6⟩ := hQ6
  have N6 := Fr.app N0 Nq6
  refine own_st st6 ?_
  show own_go _ _ _ _ _ _ _ (T6.setTop (mkF m 4 #[.val (.ref c_CHOICE)] [(.int (4 : Int32))]))
  refine own_st (fun _ k => XS.tswIn X6.here hx rfl (pc0 := 4) (pc' := 82) rfl (hb hby d1_4) rfl (by decide) (o := 78) (by decide) (by decide) (by decide) k) ?_
  show own_go _ _ _ _ _ _ _ (T6.setTop (mkF m 82 #[.val (.ref c_CHOICE)] []))
  refine own_st (fun _ k => XS.iconst X6.here hx rfl (hb hby d1_82) k) ?_
  show own_go _ _ _ _ _ _ _ (T6.setTop (mkF m 83 #[.val (.ref c_CHOICE)] [(.int (1 : Int32))]))
  refine own_st (fun _ k => XS.goto X6.here hx rfl (pc0 := 83) (pc' := 87) rfl (hb hby d1_83) (by decide) (by decide) k) ?_
  show own_go _ _ _ _ _ _ _ (T6.setTop (mkF m 87 #[.val (.ref c_CHOICE)] [(.int (1 : Int32))]))
  exact own_retN X6 hx hlk (t := .boolean) hret (by simp) rfl (hb hby d1_87) (by decide) (by decide) (⟨rfl, N6, eq6⟩)
theorem d1_86 : decode prog_61_method_6_code 86 = .ok (.iconst 0, 1) := by decide +kernel
theorem own_ef_rm1_5 (m : MethodId) (c_CASE : Addr) : entryFrame m #[(.ref c_CASE)] 1 = mkF m 0 #[.val (.ref c_CASE)] [] := by first | (simp [entryFrame, mkF, argsToLocals, Value.category]; done) | rfl
set_option maxRecDepth 65536 in
set_option maxHeartbeats 40000000 in
theorem rm1_5 (l : Launch) (Z : State) (a0 : Array Value) (hw : ∀ d ∈ tables_1, d.before a0 Z = true) (c_CONTAINER c_LIST c_LEAF c_LEAF_LIST c_CHOICE c_CASE c_ANYDATA c_ANYXML c_RPC c_ACTION c_INPUT c_OUTPUT c_NOTIFICATION : Addr) (h0 : Heap) (n0 : Nat) (O0 : Old Z n0 h0) (hS : own_S Z c_CONTAINER c_LIST c_LEAF c_LEAF_LIST c_CHOICE c_CASE c_ANYDATA c_ANYXML c_RPC c_ACTION c_INPUT c_OUTPUT c_NOTIFICATION) :
    own_Met l Z (⟨"com/example/bough/bough/SchemaNode$Kind", "isCaseShorthand", "()Z"⟩ : MethodName) prog_61_method_6_code 1 (some .boolean) [] ({ frames := 1, cells := 0, slots := 0, locals := 12 } : Room) #[(.ref c_CASE)] h0 (fun v h L => v = some (.int (0 : Int32)) ∧ Fr n0 L ∧ h = h0) := by
  refine own_body own_pn_1 ?_
  intro p e s m below meth c s₁ hx hby hml hown hnm hret hlk X0 hZ e0
  replace hown : s.vm.findClass "com/example/bough/bough/SchemaNode$Kind" = some m.cls := hown
  have N0 := Fr.nil n0
  have K0 := Keep.refl h0 []
  refine own_st (fun _ k => castTop (own_ef_rm1_5 m c_CASE) k) ?_
  show own_go _ _ _ _ _ _ _ (s₁.setTop (mkF m 0 #[.val (.ref c_CASE)] []))
  refine own_st (fun _ k => XS.aloadN X0.here hx rfl (hb hby d1_0) rfl rfl k) ?_
  show own_go _ _ _ _ _ _ _ (s₁.setTop (mkF m 1 #[.val (.ref c_CASE)] [(.ref c_CASE)]))
  obtain ⟨v7, T7, L7, X7, hQ7, st7⟩ := own_callU X0 hx hZ (argsL := []) (rest := []) (rm_ord l Z a0 hw c_CASE (5 : Int32) h0 n0 O0 (hS.2.2.2.2.2.2.2.2.2.2.2.2.2.2.2.2.2.2.2.2.2.2.2.2.2.2.2.2.2.2.2.2.1.ext O0.2)) hown (hw _ (List.mem_of_getElem? (i := 36) rfl)) (hw _ (List.mem_of_getElem? (i := 37) rfl)) (hw _ (List.mem_of_getElem? (i := 38) rfl)) (hw _ (List.mem_of_getElem? (i := 40) rfl)) (hw _ (List.mem_of_getElem? (i := 39) rfl)) (hw _ (List.mem_of_getElem? (i := 41) rfl)) (hw _ (List.mem_of_getElem? (i := 42) rfl)) (by decide) e0 (hS.2.2.2.2.2.2.2.2.2.2.2.1.ext O0.2) (g := (mkF m 1 #[.val (.ref c_CASE)] [(.ref c_CASE)])) rfl (by rw [hml]; rfl) (lenOf own_pd__28_29I rfl) rfl (W := 0) (by show 2 * 0 + _ ≤ _; exact Nat.le_of_eq rfl) (hb hby d1_1) (by decide) (by decide) (by decide) (by decide)
  obtain ⟨rfl, Nq7, eq7⟩ := hQ7
  have N7 := Fr.app N0 Nq7
  refine own_st st7 ?_
  show own_go _ _ _ _ _ _ _ (T7.setTop (mkF m 4 #[.val (.ref c_CASE)] [(.int (5 : Int32))]))
  refine own_st (fun _ k => XS.tswIn X7.here hx rfl (pc0 := 4) (pc' := 86) rfl (hb hby d1_4) rfl (by decide) (o := 82) (by decide) (by decide) (by decide) k) ?_
  show own_go _ _ _ _ _ _ _ (T7.setTop (mkF m 86 #[.val (.ref c_CASE)] []))
  refine own_st (fun _ k => XS.iconst X7.here hx rfl (hb hby d1_86) k) ?_
  show own_go _ _ _ _ _ _ _ (T7.setTop (mkF m 87 #[.val (.ref c_CASE)] [(.int (0 : Int32))]))
  exact own_retN X7 hx hlk (t := .boolean) hret (by simp) rfl (hb hby d1_87) (by decide) (by decide) (⟨rfl, N7, eq7⟩)
theorem own_ef_rm1_6 (m : MethodId) (c_ANYDATA : Addr) : entryFrame m #[(.ref c_ANYDATA)] 1 = mkF m 0 #[.val (.ref c_ANYDATA)] [] := by first | (simp [entryFrame, mkF, argsToLocals, Value.category]; done) | rfl
set_option maxRecDepth 65536 in
set_option maxHeartbeats 40000000 in
theorem rm1_6 (l : Launch) (Z : State) (a0 : Array Value) (hw : ∀ d ∈ tables_1, d.before a0 Z = true) (c_CONTAINER c_LIST c_LEAF c_LEAF_LIST c_CHOICE c_CASE c_ANYDATA c_ANYXML c_RPC c_ACTION c_INPUT c_OUTPUT c_NOTIFICATION : Addr) (h0 : Heap) (n0 : Nat) (O0 : Old Z n0 h0) (hS : own_S Z c_CONTAINER c_LIST c_LEAF c_LEAF_LIST c_CHOICE c_CASE c_ANYDATA c_ANYXML c_RPC c_ACTION c_INPUT c_OUTPUT c_NOTIFICATION) :
    own_Met l Z (⟨"com/example/bough/bough/SchemaNode$Kind", "isCaseShorthand", "()Z"⟩ : MethodName) prog_61_method_6_code 1 (some .boolean) [] ({ frames := 1, cells := 0, slots := 0, locals := 12 } : Room) #[(.ref c_ANYDATA)] h0 (fun v h L => v = some (.int (1 : Int32)) ∧ Fr n0 L ∧ h = h0) := by
  refine own_body own_pn_1 ?_
  intro p e s m below meth c s₁ hx hby hml hown hnm hret hlk X0 hZ e0
  replace hown : s.vm.findClass "com/example/bough/bough/SchemaNode$Kind" = some m.cls := hown
  have N0 := Fr.nil n0
  have K0 := Keep.refl h0 []
  refine own_st (fun _ k => castTop (own_ef_rm1_6 m c_ANYDATA) k) ?_
  show own_go _ _ _ _ _ _ _ (s₁.setTop (mkF m 0 #[.val (.ref c_ANYDATA)] []))
  refine own_st (fun _ k => XS.aloadN X0.here hx rfl (hb hby d1_0) rfl rfl k) ?_
  show own_go _ _ _ _ _ _ _ (s₁.setTop (mkF m 1 #[.val (.ref c_ANYDATA)] [(.ref c_ANYDATA)]))
  obtain ⟨v8, T8, L8, X8, hQ8, st8⟩ := own_callU X0 hx hZ (argsL := []) (rest := []) (rm_ord l Z a0 hw c_ANYDATA (6 : Int32) h0 n0 O0 (hS.2.2.2.2.2.2.2.2.2.2.2.2.2.2.2.2.2.2.2.2.2.2.2.2.2.2.2.2.2.2.2.2.2.2.1.ext O0.2)) hown (hw _ (List.mem_of_getElem? (i := 36) rfl)) (hw _ (List.mem_of_getElem? (i := 37) rfl)) (hw _ (List.mem_of_getElem? (i := 38) rfl)) (hw _ (List.mem_of_getElem? (i := 40) rfl)) (hw _ (List.mem_of_getElem? (i := 39) rfl)) (hw _ (List.mem_of_getElem? (i := 41) rfl)) (hw _ (List.mem_of_getElem? (i := 42) rfl)) (by decide) e0 (hS.2.2.2.2.2.2.2.2.2.2.2.2.2.1.ext O0.2) (g := (mkF m 1 #[.val (.ref c_ANYDATA)] [(.ref c_ANYDATA)])) rfl (by rw [hml]; rfl) (lenOf own_pd__28_29I rfl) rfl (W := 0) (by show 2 * 0 + _ ≤ _; exact Nat.le_of_eq rfl) (hb hby d1_1) (by decide) (by decide) (by decide) (by decide)
  obtain ⟨rfl, Nq8, eq8⟩ := hQ8
  have N8 := Fr.app N0 Nq8
  refine own_st st8 ?_
  show own_go _ _ _ _ _ _ _ (T8.setTop (mkF m 4 #[.val (.ref c_ANYDATA)] [(.int (6 : Int32))]))
  refine own_st (fun _ k => XS.tswIn X8.here hx rfl (pc0 := 4) (pc' := 82) rfl (hb hby d1_4) rfl (by decide) (o := 78) (by decide) (by decide) (by decide) k) ?_
  show own_go _ _ _ _ _ _ _ (T8.setTop (mkF m 82 #[.val (.ref c_ANYDATA)] []))
  refine own_st (fun _ k => XS.iconst X8.here hx rfl (hb hby d1_82) k) ?_
  show own_go _ _ _ _ _ _ _ (T8.setTop (mkF m 83 #[.val (.ref c_ANYDATA)] [(.int (1 : Int32))]))
  refine own_st (fun _ k => XS.goto X8.here hx rfl (pc0 := 83) (pc' := 87) rfl (hb hby d1_83) (by decide) (by decide) k) ?_
  show own_go _ _ _ _ _ _ _ (T8.setTop (mkF m 87 #[.val (.ref c_ANYDATA)] [(.int (1 : Int32))]))
  exact own_retN X8 hx hlk (t := .boolean) hret (by simp) rfl (hb hby d1_87) (by decide) (by decide) (⟨rfl, N8, eq8⟩)
theorem own_ef_rm1_7 (m : MethodId) (c_ANYXML : Addr) : entryFrame m #[(.ref c_ANYXML)] 1 = mkF m 0 #[.val (.ref c_ANYXML)] [] := by first | (simp [entryFrame, mkF, argsToLocals, Value.category]; done) | rfl
set_option maxRecDepth 65536 in
set_option maxHeartbeats 40000000 in
theorem rm1_7 (l : Launch) (Z : State) (a0 : Array Value) (hw : ∀ d ∈ tables_1, d.before a0 Z = true) (c_CONTAINER c_LIST c_LEAF c_LEAF_LIST c_CHOICE c_CASE c_ANYDATA c_ANYXML c_RPC c_ACTION c_INPUT c_OUTPUT c_NOTIFICATION : Addr) (h0 : Heap) (n0 : Nat) (O0 : Old Z n0 h0) (hS : own_S Z c_CONTAINER c_LIST c_LEAF c_LEAF_LIST c_CHOICE c_CASE c_ANYDATA c_ANYXML c_RPC c_ACTION c_INPUT c_OUTPUT c_NOTIFICATION) :
    own_Met l Z (⟨"com/example/bough/bough/SchemaNode$Kind", "isCaseShorthand", "()Z"⟩ : MethodName) prog_61_method_6_code 1 (some .boolean) [] ({ frames := 1, cells := 0, slots := 0, locals := 12 } : Room) #[(.ref c_ANYXML)] h0 (fun v h L => v = some (.int (1 : Int32)) ∧ Fr n0 L ∧ h = h0) := by
  refine own_body own_pn_1 ?_
  intro p e s m below meth c s₁ hx hby hml hown hnm hret hlk X0 hZ e0
  replace hown : s.vm.findClass "com/example/bough/bough/SchemaNode$Kind" = some m.cls := hown
  have N0 := Fr.nil n0
  have K0 := Keep.refl h0 []
  refine own_st (fun _ k => castTop (own_ef_rm1_7 m c_ANYXML) k) ?_
  show own_go _ _ _ _ _ _ _ (s₁.setTop (mkF m 0 #[.val (.ref c_ANYXML)] []))
  refine own_st (fun _ k => XS.aloadN X0.here hx rfl (hb hby d1_0) rfl rfl k) ?_
  show own_go _ _ _ _ _ _ _ (s₁.setTop (mkF m 1 #[.val (.ref c_ANYXML)] [(.ref c_ANYXML)]))
  obtain ⟨v9, T9, L9, X9, hQ9, st9⟩ := own_callU X0 hx hZ (argsL := []) (rest := []) (rm_ord l Z a0 hw c_ANYXML (7 : Int32) h0 n0 O0 (hS.2.2.2.2.2.2.2.2.2.2.2.2.2.2.2.2.2.2.2.2.2.2.2.2.2.2.2.2.2.2.2.2.2.2.2.1.ext O0.2)) hown (hw _ (List.mem_of_getElem? (i := 36) rfl)) (hw _ (List.mem_of_getElem? (i := 37) rfl)) (hw _ (List.mem_of_getElem? (i := 38) rfl)) (hw _ (List.mem_of_getElem? (i := 40) rfl)) (hw _ (List.mem_of_getElem? (i := 39) rfl)) (hw _ (List.mem_of_getElem? (i := 41) rfl)) (hw _ (List.mem_of_getElem? (i := 42) rfl)) (by decide) e0 (hS.2.2.2.2.2.2.2.2.2.2.2.2.2.2.2.1.ext O0.2) (g := (mkF m 1 #[.val (.ref c_ANYXML)] [(.ref c_ANYXML)])) rfl (by rw [hml]; rfl) (lenOf own_pd__28_29I rfl) rfl (W := 0) (by show 2 * 0 + _ ≤ _; exact Nat.le_of_eq rfl) (hb hby d1_1) (by decide) (by decide) (by decide) (by decide)
  obtain ⟨rfl, Nq9, eq9⟩ := hQ9
  have N9 := Fr.app N0 Nq9
  refine own_st st9 ?_
  show own_go _ _ _ _ _ _ _ (T9.setTop (mkF m 4 #[.val (.ref c_ANYXML)] [(.int (7 : Int32))]))
  refine own_st (fun _ k => XS.tswIn X9.here hx rfl (pc0 := 4) (pc' := 82) rfl (hb hby d1_4) rfl (by decide) (o := 78) (by decide) (by decide) (by decide) k) ?_
  show own_go _ _ _ _ _ _ _ (T9.setTop (mkF m 82 #[.val (.ref c_ANYXML)] []))
  refine own_st (fun _ k => XS.iconst X9.here hx rfl (hb hby d1_82) k) ?_
  show own_go _ _ _ _ _ _ _ (T9.setTop (mkF m 83 #[.val (.ref c_ANYXML)] [(.int (1 : Int32))]))
  refine own_st (fun _ k => XS.goto X9.here hx rfl (pc0 := 83) (pc' := 87) rfl (hb hby d1_83) (by decide) (by decide) k) ?_
  show own_go _ _ _ _ _ _ _ (T9.setTop (mkF m 87 #[.val (.ref c_ANYXML)] [(.int (1 : Int32))]))
  exact own_retN X9 hx hlk (t := .boolean) hret (by simp) rfl (hb hby d1_87) (by decide) (by decide) (⟨rfl, N9, eq9⟩)
theorem own_ef_rm1_8 (m : MethodId) (c_RPC : Addr) : entryFrame m #[(.ref c_RPC)] 1 = mkF m 0 #[.val (.ref c_RPC)] [] := by first | (simp [entryFrame, mkF, argsToLocals, Value.category]; done) | rfl
set_option maxRecDepth 65536 in
set_option maxHeartbeats 40000000 in
theorem rm1_8 (l : Launch) (Z : State) (a0 : Array Value) (hw : ∀ d ∈ tables_1, d.before a0 Z = true) (c_CONTAINER c_LIST c_LEAF c_LEAF_LIST c_CHOICE c_CASE c_ANYDATA c_ANYXML c_RPC c_ACTION c_INPUT c_OUTPUT c_NOTIFICATION : Addr) (h0 : Heap) (n0 : Nat) (O0 : Old Z n0 h0) (hS : own_S Z c_CONTAINER c_LIST c_LEAF c_LEAF_LIST c_CHOICE c_CASE c_ANYDATA c_ANYXML c_RPC c_ACTION c_INPUT c_OUTPUT c_NOTIFICATION) :
    own_Met l Z (⟨"com/example/bough/bough/SchemaNode$Kind", "isCaseShorthand", "()Z"⟩ : MethodName) prog_61_method_6_code 1 (some .boolean) [] ({ frames := 1, cells := 0, slots := 0, locals := 12 } : Room) #[(.ref c_RPC)] h0 (fun v h L => v = some (.int (0 : Int32)) ∧ Fr n0 L ∧ h = h0) := by
  refine own_body own_pn_1 ?_
  intro p e s m below meth c s₁ hx hby hml hown hnm hret hlk X0 hZ e0
  replace hown : s.vm.findClass "com/example/bough/bough/SchemaNode$Kind" = some m.cls := hown
  have N0 := Fr.nil n0
  have K0 := Keep.refl h0 []
  refine own_st (fun _ k => castTop (own_ef_rm1_8 m c_RPC) k) ?_
  show own_go _ _ _ _ _ _ _ (s₁.setTop (mkF m 0 #[.val (.ref c_RPC)] []))
  refine own_st (fun _ k => XS.aloadN X0.here hx rfl (hb hby d1_0) rfl rfl k) ?_
  show own_go _ _ _ _ _ _ _ (s₁.setTop (mkF m 1 #[.val (.ref c_RPC)] [(.ref c_RPC)]))
  obtain ⟨v10, T10, L10, X10, hQ10, st10⟩ := own_callU X0 hx hZ (argsL := []) (rest := []) (rm_ord l Z a0 hw c_RPC (8 : Int32) h0 n0 O0 (hS.2.2.2.2.2.2.2.2.2.2.2.2.2.2.2.2.2.2.2.2.2.2.2.2.2.2.2.1.ext O0.2)) hown (hw _ (List.mem_of_getElem? (i := 36) rfl)) (hw _ (List.mem_of_getElem? (i := 37) rfl)) (hw _ (List.mem_of_getElem? (i := 38) rfl)) (hw _ (List.mem_of_getElem? (i := 40) rfl)) (hw _ (List.mem_of_getElem? (i := 39) rfl)) (hw _ (List.mem_of_getElem? (i := 41) rfl)) (hw _ (List.mem_of_getElem? (i := 42) rfl)) (by decide) e0 (hS.2.2.2.2.2.2.2.2.2.2.2.2.2.2.2.2.2.1.ext O0.2) (g := (mkF m 1 #[.val (.ref c_RPC)] [(.ref c_RPC)])) rfl (by rw [hml]; rfl) (lenOf own_pd__28_29I rfl) rfl (W := 0) (by show 2 * 0 + _ ≤ _; exact Nat.le_of_eq rfl) (hb hby d1_1) (by decide) (by decide) (by decide) (by decide)
  obtain ⟨rfl, Nq10, eq10⟩ := hQ10
  have N10 := Fr.app N0 Nq10
  refine own_st st10 ?_
  show own_go _ _ _ _ _ _ _ (T10.setTop (mkF m 4 #[.val (.ref c_RPC)] [(.int (8 : Int32))]))
  refine own_st (fun _ k => XS.tswIn X10.here hx rfl (pc0 := 4) (pc' := 86) rfl (hb hby d1_4) rfl (by decide) (o := 82) (by decide) (by decide) (by decide) k) ?_
  show own_go _ _ _ _ _ _ _ (T10.setTop (mkF m 86 #[.val (.ref c_RPC)] []))
  refine own_st (fun _ k => XS.iconst X10.here hx rfl (hb hby d1_86) k) ?_
  show own_go _ _ _ _ _ _ _ (T10.setTop (mkF m 87 #[.val (.ref c_RPC)] [(.int (0 : Int32))]))
  exact own_retN X10 hx hlk (t := .boolean) hret (by simp) rfl (hb hby d1_87) (by decide) (by decide) (⟨rfl, N10, eq10⟩)
theorem own_ef_rm1_9 (m : MethodId) (c_ACTION : Addr) : entryFrame m #[(.ref c_ACTION)] 1 = mkF m 0 #[.val (.ref c_ACTION)] [] := by first | (simp [entryFrame, mkF, argsToLocals, Value.category]; done) | rfl
set_option maxRecDepth 65536 in
set_option maxHeartbeats 40000000 in
theorem rm1_9 (l : Launch) (Z : State) (a0 : Array Value) (hw : ∀ d ∈ tables_1, d.before a0 Z = true) (c_CONTAINER c_LIST c_LEAF c_LEAF_LIST c_CHOICE c_CASE c_ANYDATA c_ANYXML c_RPC c_ACTION c_INPUT c_OUTPUT c_NOTIFICATION : Addr) (h0 : Heap) (n0 : Nat) (O0 : Old Z n0 h0) (hS : own_S Z c_CONTAINER c_LIST c_LEAF c_LEAF_LIST c_CHOICE c_CASE c_ANYDATA c_ANYXML c_RPC c_ACTION c_INPUT c_OUTPUT c_NOTIFICATION) :
    own_Met l Z (⟨"com/example/bough/bough/SchemaNode$Kind", "isCaseShorthand", "()Z"⟩ : MethodName) prog_61_method_6_code 1 (some .boolean) [] ({ frames := 1, cells := 0, slots := 0, locals := 12 } : Room) #[(.ref c_ACTION)] h0 (fun v h L => v = some (.int (0 : Int32)) ∧ Fr n0 L ∧ h = h0) := by
  refine own_body own_pn_1 ?_
  intro p e s m below meth c s₁ hx hby hml hown hnm hret hlk X0 hZ e0
  replace hown : s.vm.findClass "com/example/bough/bough/SchemaNode$Kind" = some m.cls := hown
  have N0 := Fr.nil n0
  have K0 := Keep.refl h0 []
  refine own_st (fun _ k => castTop (own_ef_rm1_9 m c_ACTION) k) ?_
  show own_go _ _ _ _ _ _ _ (s₁.setTop (mkF m 0 #[.val (.ref c_ACTION)] []))
  refine own_st (fun _ k => XS.aloadN X0.here hx rfl (hb hby d1_0) rfl rfl k) ?_
  show own_go _ _ _ _ _ _ _ (s₁.setTop (mkF m 1 #[.val (.ref c_ACTION)] [(.ref c_ACTION)]))
  obtain ⟨v11, T11, L11, X11, hQ11, st11⟩ := own_callU X0 hx hZ (argsL := []) (rest := []) (rm_ord l Z a0 hw c_ACTION (9 : Int32) h0 n0 O0 (hS.2.2.2.2.2.2.2.2.2.2.2.2.2.2.2.2.2.2.2.2.2.2.2.2.2.2.2.2.1.ext O0.2)) hown (hw _ (List.mem_of_getElem? (i := 36) rfl)) (hw _ (List.mem_of_getElem? (i := 37) rfl)) (hw _ (List.mem_of_getElem? (i := 38) rfl)) (hw _ (List.mem_of_getElem? (i := 40) rfl)) (hw _ (List.mem_of_getElem? (i := 39) rfl)) (hw _ (List.mem_of_getElem? (i := 41) rfl)) (hw _ (List.mem_of_getElem? (i := 42) rfl)) (by decide) e0 (hS.2.2.2.2.2.2.2.2.2.2.2.2.2.2.2.2.2.2.2.1.ext O0.2) (g := (mkF m 1 #[.val (.ref c_ACTION)] [(.ref c_ACTION)])) rfl (by rw [hml]; rfl) (lenOf own_pd__28_29I rfl) rfl (W := 0) (by show 2 * 0 + _ ≤ _; exact Nat.le_of_eq rfl) (hb hby d1_1) (by decide) (by decide) (by decide) (by decide)
  obtain ⟨rfl, Nq11, eq11⟩ := hQ11
  have N11 := Fr.app N0 Nq11
  refine own_st st11 ?_
  show own_go _ _ _ _ _ _ _ (T11.setTop (mkF m 4 #[.val (.ref c_ACTION)] [(.int (9 : Int32))]))
  refine own_st (fun _ k => XS.tswIn X11.here hx rfl (pc0 := 4) (pc' := 86) rfl (hb hby d1_4) rfl (by decide) (o := 82) (by decide) (by decide) (by decide) k) ?_
  show own_go _ _ _ _ _ _ _ (T11.setTop (mkF m 86 #[.val (.ref c_ACTION)] []))
  refine own_st (fun _ k => XS.iconst X11.here hx rfl (hb hby d1_86) k) ?_
  show own_go _ _ _ _ _ _ _ (T11.setTop (mkF m 87 #[.val (.ref c_ACTION)] [(.int (0 : Int32))]))
  exact own_retN X11 hx hlk (t := .boolean) hret (by simp) rfl (hb hby d1_87) (by decide) (by decide) (⟨rfl, N11, eq11⟩)
theorem own_ef_rm1_10 (m : MethodId) (c_INPUT : Addr) : entryFrame m #[(.ref c_INPUT)] 1 = mkF m 0 #[.val (.ref c_INPUT)] [] := by first | (simp [entryFrame, mkF, argsToLocals, Value.category]; done) | rfl
set_option maxRecDepth 65536 in
set_option maxHeartbeats 40000000 in
theorem rm1_10 (l : Launch) (Z : State) (a0 : Array Value) (hw : ∀ d ∈ tables_1, d.before a0 Z = true) (c_CONTAINER c_LIST c_LEAF c_LEAF_LIST c_CHOICE c_CASE c_ANYDATA c_ANYXML c_RPC c_ACTION c_INPUT c_OUTPUT c_NOTIFICATION : Addr) (h0 : Heap) (n0 : Nat) (O0 : Old Z n0 h0) (hS : own_S Z c_CONTAINER c_LIST c_LEAF c_LEAF_LIST c_CHOICE c_CASE c_ANYDATA c_ANYXML c_RPC c_ACTION c_INPUT c_OUTPUT c_NOTIFICATION) :
    own_Met l Z (⟨"com/example/bough/bough/SchemaNode$Kind", "isCaseShorthand", "()Z"⟩ : MethodName) prog_61_method_6_code 1 (some .boolean) [] ({ frames := 1, cells := 0, slots := 0, locals := 12 } : Room) #[(.ref c_INPUT)] h0 (fun v h L => v = some (.int (0 : Int32)) ∧ Fr n0 L ∧ h = h0) := by
  refine own_body own_pn_1 ?_
  intro p e s m below meth c s₁ hx hby hml hown hnm hret hlk X0 hZ e0
  replace hown : s.vm.findClass "com/example/bough/bough/SchemaNode$Kind" = some m.cls := hown
  have N0 := Fr.nil n0
  have K0 := Keep.refl h0 []
  refine own_st (fun _ k => castTop (own_ef_rm1_10 m c_INPUT) k) ?_
  show own_go _ _ _ _ _ _ _ (s₁.setTop (mkF m 0 #[.val (.ref c_INPUT)] []))
  refine own_st (fun _ k => XS.aloadN X0.here hx rfl (hb hby d1_0) rfl rfl k) ?_
  show own_go _ _ _ _ _ _ _ (s₁.setTop (mkF m 1 #[.val (.ref c_INPUT)] [(.ref c_INPUT)]))
  obtain ⟨v12, T12, L12, X12, hQ12, st12⟩ := own_callU X0 hx hZ (argsL := []) (rest := []) (rm_ord l Z a0 hw c_INPUT (10 : Int32) h0 n0 O0 (hS.2.2.2.2.2.2.2.2.2.2.2.2.2.2.2.2.2.2.2.2.2.2.2.2.2.2.2.2.2.1.ext O0.2)) hown (hw _ (List.mem_of_getElem? (i := 36) rfl)) (hw _ (List.mem_of_getElem? (i := 37) rfl)) (hw _ (List.mem_of_getElem? (i := 38) rfl)) (hw _ (List.mem_of_getElem? (i := 40) rfl)) (hw _ (List.mem_of_getElem? (i := 39) rfl)) (hw _ (List.mem_of_getElem? (i := 41) rfl)) (hw _ (List.mem_of_getElem? (i := 42) rfl)) (by decide) e0 (hS.2.2.2.2.2.2.2.2.2.2.2.2.2.2.2.2.2.2.2.2.2.1.ext O0.2) (g := (mkF m 1 #[.val (.ref c_INPUT)] [(.ref c_INPUT)])) rfl (by rw [hml]; rfl) (lenOf own_pd__28_29I rfl) rfl (W := 0) (by show 2 * 0 + _ ≤ _; exact Nat.le_of_eq rfl) (hb hby d1_1) (by decide) (by decide) (by decide) (by decide)
  obtain ⟨rfl, Nq12, eq12⟩ := hQ12
  have N12 := Fr.app N0 Nq12
  refine own_st st12 ?_
  show own_go _ _ _ _ _ _ _ (T12.setTop (mkF m 4 #[.val (.ref c_INPUT)] [(.int (10 : Int32))]))
  refine own_st (fun _ k => XS.tswIn X12.here hx rfl (pc0 := 4) (pc' := 86) rfl (hb hby d1_4) rfl (by decide) (o := 82) (by decide) (by decide) (by decide) k) ?_
  show own_go _ _ _ _ _ _ _ (T12.setTop (mkF m 86 #[.val (.ref c_INPUT)] []))
  refine own_st (fun _ k => XS.iconst X12.here hx rfl (hb hby d1_86) k) ?_
  show own_go _ _ _ _ _ _ _ (T12.setTop (mkF m 87 #[.val (.ref c_INPUT)] [(.int (0 : Int32))]))
  exact own_retN X12 hx hlk (t := .boolean) hret (by simp) rfl (hb hby d1_87) (by decide) (by decide) (⟨rfl, N12, eq12⟩)
theorem own_ef_rm1_11 (m : MethodId) (c_OUTPUT : Addr) : entryFrame m #[(.ref c_OUTPUT)] 1 = mkF m 0 #[.val (.ref c_OUTPUT)] [] := by first | (simp [entryFrame, mkF, argsToLocals, Value.category]; done) | rfl
set_option maxRecDepth 65536 in
set_option maxHeartbeats 40000000 in
theorem rm1_11 (l : Launch) (Z : State) (a0 : Array Value) (hw : ∀ d ∈ tables_1, d.before a0 Z = true) (c_CONTAINER c_LIST c_LEAF c_LEAF_LIST c_CHOICE c_CASE c_ANYDATA c_ANYXML c_RPC c_ACTION c_INPUT c_OUTPUT c_NOTIFICATION : Addr) (h0 : Heap) (n0 : Nat) (O0 : Old Z n0 h0) (hS : own_S Z c_CONTAINER c_LIST c_LEAF c_LEAF_LIST c_CHOICE c_CASE c_ANYDATA c_ANYXML c_RPC c_ACTION c_INPUT c_OUTPUT c_NOTIFICATION) :
    own_Met l Z (⟨"com/example/bough/bough/SchemaNode$Kind", "isCaseShorthand", "()Z"⟩ : MethodName) prog_61_method_6_code 1 (some .boolean) [] ({ frames := 1, cells := 0, slots := 0, locals := 12 } : Room) #[(.ref c_OUTPUT)] h0 (fun v h L => v = some (.int (0 : Int32)) ∧ Fr n0 L ∧ h = h0) := by
  refine own_body own_pn_1 ?_
  intro p e s m below meth c s₁ hx hby hml hown hnm hret hlk X0 hZ e0
  replace hown : s.vm.findClass "com/example/bough/bough/SchemaNode$Kind" = some m.cls := hown
  have N0 := Fr.nil n0
  have K0 := Keep.refl h0 []
  refine own_st (fun _ k => castTop (own_ef_rm1_11 m c_OUTPUT) k) ?_
  show own_go _ _ _ _ _ _ _ (s₁.setTop (mkF m 0 #[.val (.ref c_OUTPUT)] []))
  refine own_st (fun _ k => XS.aloadN X0.here hx rfl (hb hby d1_0) rfl rfl k) ?_
  show own_go _ _ _ _ _ _ _ (s₁.setTop (mkF m 1 #[.val (.ref c_OUTPUT)] [(.ref c_OUTPUT)]))
  obtain ⟨v13, T13, L13, X13, hQ13, st13⟩ := own_callU X0 hx hZ (argsL := []) (rest := []) (rm_ord l Z a0 hw c_OUTPUT (11 : Int32) h0 n0 O0 (hS.2.2.2.2.2.2.2.2.2.2.2.2.2.2.2.2.2.2.2.2.2.2.2.2.2.2.2.2.2.2.1.ext O0.2)) hown (hw _ (List.mem_of_getElem? (i := 36) rfl)) (hw _ (List.mem_of_getElem? (i := 37) rfl)) (hw _ (List.mem_of_getElem? (i := 38) rfl)) (hw _ (List.mem_of_getElem? (i := 40) rfl)) (hw _ (List.mem_of_getElem? (i := 39) rfl)) (hw _ (List.mem_of_getElem? (i := 41) rfl)) (hw _ (List.mem_of_getElem? (i := 42) rfl)) (by decide) e0 (hS.2.2.2.2.2.2.2.2.2.2.2.2.2.2.2.2.2.2.2.2.2.2.2.1.ext O0.2) (g := (mkF m 1 #[.val (.ref c_OUTPUT)] [(.ref c_OUTPUT)])) rfl (by rw [hml]; rfl) (lenOf own_pd__28_29I rfl) rfl (W := 0) (by show 2 * 0 + _ ≤ _; exact Nat.le_of_eq rfl) (hb hby d1_1) (by decide) (by decide) (by decide) (by decide)
  obtain ⟨rfl, Nq13, eq13⟩ := hQ13
  have N13 := Fr.app N0 Nq13
  refine own_st st13 ?_
  show own_go _ _ _ _ _ _ _ (T13.setTop (mkF m 4 #[.val (.ref c_OUTPUT)] [(.int (11 : Int32))]))
  refine own_st (fun _ k => XS.tswIn X13.here hx rfl (pc0 := 4) (pc' := 86) rfl (hb hby d1_4) rfl (by decide) (o := 82) (by decide) (by decide) (by decide) k) ?_
  show own_go _ _ _ _ _ _ _ (T13.setTop (mkF m 86 #[.val (.ref c_OUTPUT)] []))
  refine own_st (fun _ k => XS.iconst X13.here hx rfl (hb hby d1_86) k) ?_
  show own_go _ _ _ _ _ _ _ (T13.setTop (mkF m 87 #[.val (.ref c_OUTPUT)] [(.int (0 : Int32))]))
  exact own_retN X13 hx hlk (t := .boolean) hret (by simp) rfl (hb hby d1_87) (by decide) (by decide) (⟨rfl, N13, eq13⟩)
theorem own_ef_rm1_12 (m : MethodId) (c_NOTIFICATION : Addr) : entryFrame m #[(.ref c_NOTIFICATION)] 1 = mkF m 0 #[.val (.ref c_NOTIFICATION)] [] := by first | (simp [entryFrame, mkF, argsToLocals, Value.category]; done) | rfl
set_option maxRecDepth 65536 in
set_option maxHeartbeats 40000000 in
theorem rm1_12 (l : Launch) (Z : State) (a0 : Array Value) (hw : ∀ d ∈ tables_1, d.before a0 Z = true) (c_CONTAINER c_LIST c_LEAF c_LEAF_LIST c_CHOICE c_CASE c_ANYDATA c_ANYXML c_RPC c_ACTION c_INPUT c_OUTPUT c_NOTIFICATION : Addr) (h0 : Heap) (n0 : Nat) (O0 : Old Z n0 h0) (hS : own_S Z c_CONTAINER c_LIST c_LEAF c_LEAF_LIST c_CHOICE c_CASE c_ANYDATA c_ANYXML c_RPC c_ACTION c_INPUT c_OUTPUT c_NOTIFICATION) :
    own_Met l Z (⟨"com/example/bough/bough/SchemaNode$Kind", "isCaseShorthand", "()Z"⟩ : MethodName) prog_61_method_6_code 1 (some .boolean) [] ({ frames := 1, cells := 0, slots := 0, locals := 12 } : Room) #[(.ref c_NOTIFICATION)] h0 (fun v h L => v = some (.int (0 : Int32)) ∧ Fr n0 L ∧ h = h0) := by
  refine own_body own_pn_1 ?_
  intro p e s m below meth c s₁ hx hby hml hown hnm hret hlk X0 hZ e0
  replace hown : s.vm.findClass "com/example/bough/bough/SchemaNode$Kind" = some m.cls := hown
  have N0 := Fr.nil n0
  have K0 := Keep.refl h0 []
  refine own_st (fun _ k => castTop (own_ef_rm1_12 m c_NOTIFICATION) k) ?_
  show own_go _ _ _ _ _ _ _ (s₁.setTop (mkF m 0 #[.val (.ref c_NOTIFICATION)] []))
  refine own_st (fun _ k => XS.aloadN X0.here hx rfl (hb hby d1_0) rfl rfl k) ?_
  show own_go _ _ _ _ _ _ _ (s₁.setTop (mkF m 1 #[.val (.ref c_NOTIFICATION)] [(.ref c_NOTIFICATION)]))
  obtain ⟨v14, T14, L14, X14, hQ14, st14⟩ := own_callU X0 hx hZ (argsL := []) (rest := []) (rm_ord l Z a0 hw c_NOTIFICATION (12 : Int32) h0 n0 O0 (hS.2.2.2.2.2.2.2.2.2.2.2.2.2.2.2.2.2.2.2.2.2.2.2.2.2.2.2.2.2.2.2.1.ext O0.2)) hown (hw _ (List.mem_of_getElem? (i := 36) rfl)) (hw _ (List.mem_of_getElem? (i := 37) rfl)) (hw _ (List.mem_of_getElem? (i := 38) rfl)) (hw _ (List.mem_of_getElem? (i := 40) rfl)) (hw _ (List.mem_of_getElem? (i := 39) rfl)) (hw _ (List.mem_of_getElem? (i := 41) rfl)) (hw _ (List.mem_of_getElem? (i := 42) rfl)) (by decide) e0 (hS.2.2.2.2.2.2.2.2.2.2.2.2.2.2.2.2.2.2.2.2.2.2.2.2.2.1.ext O0.2) (g := (mkF m 1 #[.val (.ref c_NOTIFICATION)] [(.ref c_NOTIFICATION)])) rfl (by rw [hml]; rfl) (lenOf own_pd__28_29I rfl) rfl (W := 0) (by show 2 * 0 + _ ≤ _; exact Nat.le_of_eq rfl) (hb hby d1_1) (by decide) (by decide) (by decide) (by decide)
  obtain ⟨rfl, Nq14, eq14⟩ := hQ14
  have N14 := Fr.app N0 Nq14
  refine own_st st14 ?_
  show own_go _ _ _ _ _ _ _ (T14.setTop (mkF m 4 #[.val (.ref c_NOTIFICATION)] [(.int (12 : Int32))]))
  refine own_st (fun _ k => XS.tswIn X14.here hx rfl (pc0 := 4) (pc' := 86) rfl (hb hby d1_4) rfl (by decide) (o := 82) (by decide) (by decide) (by decide) k) ?_
  show own_go _ _ _ _ _ _ _ (T14.setTop (mkF m 86 #[.val (.ref c_NOTIFICATION)] []))
  refine own_st (fun _ k => XS.iconst X14.here hx rfl (hb hby d1_86) k) ?_
  show own_go _ _ _ _ _ _ _ (T14.setTop (mkF m 87 #[.val (.ref c_NOTIFICATION)] [(.int (0 : Int32))]))
  exact own_retN X14 hx hlk (t := .boolean) hret (by simp) rfl (hb hby d1_87) (by decide) (by decide) (⟨rfl, N14, eq14⟩)
theorem own_pn_0 : plainFor x = true := plainFor_of_name (show plainName "com/example/bough/bough/KindIsCaseShorthandPinLaw" = true by first | (simp [plainName, overriddenIn]; done) | decide +kernel)
theorem own_pd__28_29Z : parseMethodDescriptor "()Z" = some ⟨[], some .boolean⟩ := by decide +kernel
theorem own_ef_rm0 (m : MethodId) (p0 : Int32) : entryFrame m #[(.int p0)] maxLocals = mkF m 0 #[.val (.int p0), .unset, .unset, .unset, .unset] [] := by first | (simp [entryFrame, mkF, argsToLocals, Value.category, maxLocals]; done) | rfl
set_option maxRecDepth 65536 in
set_option maxHeartbeats 40000000 in
theorem rm0 (l : Launch) (Z : State) (a0 : Array Value) (hw : ∀ d ∈ tables_1, d.before a0 Z = true) (ws : List Jvm.Cond) (p0 : Int32) (c_CONTAINER c_LIST c_LEAF c_LEAF_LIST c_CHOICE c_CASE c_ANYDATA c_ANYXML c_RPC c_ACTION c_INPUT c_OUTPUT c_NOTIFICATION : Addr) (h0 : Heap) (n0 : Nat) (O0 : Old Z n0 h0) (hS : own_S Z c_CONTAINER c_LIST c_LEAF c_LEAF_LIST c_CHOICE c_CASE c_ANYDATA c_ANYXML c_RPC c_ACTION c_INPUT c_OUTPUT c_NOTIFICATION) :
    own_Met l Z x code maxLocals ret ws room_1 #[(.int p0)] h0 (fun v h L => v = some (.int 1) ∧ Fr n0 L) := by
  refine own_body own_pn_0 ?_
  intro p e s m below meth c s₁ hx hby hml hown hnm hret hlk X0 hZ e0
  replace hown : s.vm.findClass "com/example/bough/bough/KindIsCaseShorthandPinLaw" = some m.cls := hown
  have N0 := Fr.nil n0
  have K0 := Keep.refl h0 []
  refine own_st (fun _ k => castTop (own_ef_rm0 m p0) k) ?_
  show own_go _ _ _ _ _ _ _ (s₁.setTop (mkF m 0 #[.val (.int p0), .unset, .unset, .unset, .unset] []))
  refine own_st (fun _ k => XS.bipush X0.here hx rfl (hb hby at_0) k) ?_
  show own_go _ _ _ _ _ _ _ (s₁.setTop (mkF m 2 #[.val (.int p0), .unset, .unset, .unset, .unset] [(.int (13 : Int32))]))
  obtain ⟨T15, h15, k15, b15, X15, e15, g15, E15, V15, Ov15, st15⟩ := own_arr X0 hx hZ hown (hw _ (List.mem_of_getElem? (i := 0) rfl)) (hw _ (List.mem_of_getElem? (i := 1) rfl)) e0 (g := (mkF m 2 #[.val (.int p0), .unset, .unset, .unset, .unset] [(.int (13 : Int32))])) rfl (hb hby at_2) rfl (by decide) (cap := 13) (by decide) (by decide) (by decide) (by decide)
  have ge_b15 : n0 ≤ b15 := by rw [g15]; exact own_osz O0
  have sz_b15 : h0.size ≤ b15 := by rw [g15]; exact K0.1
  have O15 := O0.ext E15
  have K15 := K0.ext E15
  refine own_st st15 ?_
  show own_go _ _ _ _ _ _ _ (T15.setTop (mkF m 5 #[.val (.int p0), .unset, .unset, .unset, .unset] [(.ref b15)]))
  refine own_st (fun _ k => XS.dup X15.here hx rfl (hb hby at_5) rfl rfl k) ?_
  show own_go _ _ _ _ _ _ _ (T15.setTop (mkF m 6 #[.val (.int p0), .unset, .unset, .unset, .unset] [(.ref b15), (.ref b15)]))
  refine own_st (fun _ k => XS.iconst X15.here hx rfl (hb hby at_6) k) ?_
  show own_go _ _ _ _ _ _ _ (T15.setTop (mkF m 7 #[.val (.int p0), .unset, .unset, .unset, .unset] [(.int (0 : Int32)), (.ref b15), (.ref b15)]))
  obtain ⟨T16, X16, e16, st16⟩ := getS2 X15 hx hZ hown (host := "") (Or.inl (hw _ (List.mem_of_getElem? (i := 2) rfl))) Via.refl e15 (hS.1.ext O15.2) (g := (mkF m 7 #[.val (.int p0), .unset, .unset, .unset, .unset] [(.int (0 : Int32)), (.ref b15), (.ref b15)])) rfl (hb hby at_7)
  refine own_st st16 ?_
  show own_go _ _ _ _ _ _ _ (T16.setTop (mkF m 10 #[.val (.int p0), .unset, .unset, .unset, .unset] [(.ref c_CONTAINER), (.int (0 : Int32)), (.ref b15), (.ref b15)]))
  obtain ⟨T17, h17, X17, e17, W17, V17, st17⟩ := own_put X16 hx hZ e16 V15 Ov15 (Ins.self (hS.2.1.ext O15.2)) (j := (0 : Int32)) (by decide) 0 (by decide) (by show 0 < 13; decide) (g := (mkF m 10 #[.val (.int p0), .unset, .unset, .unset, .unset] [(.ref c_CONTAINER), (.int (0 : Int32)), (.ref b15), (.ref b15)])) rfl rfl (hb hby at_10)
  have N17 := Fr.snoc X17 N0 ge_b15
  replace V17 : Arv Z h17 b15 k15 (.object "com/example/bough/bough/SchemaNode$Kind") (13 : Int32) [(.ref c_CONTAINER), .null, .null, .null, .null, .null, .null, .null, .null, .null, .null, .null, .null] .null := V17
  have O18 := O15.wr W17 ge_b15
  have K18 := K15.wr W17 (Or.inr sz_b15)
  refine own_st st17 ?_
  show own_go _ _ _ _ _ _ _ (T17.setTop (mkF m 11 #[.val (.int p0), .unset, .unset, .unset, .unset] [(.ref b15)]))
  refine own_st (fun _ k => XS.dup X17.here hx rfl (hb hby at_11) rfl rfl k) ?_
  show own_go _ _ _ _ _ _ _ (T17.setTop (mkF m 12 #[.val (.int p0), .unset, .unset, .unset, .unset] [(.ref b15), (.ref b15)]))
  refine own_st (fun _ k => XS.iconst X17.here hx rfl (hb hby at_12) k) ?_
  show own_go _ _ _ _ _ _ _ (T17.setTop (mkF m 13 #[.val (.int p0), .unset, .unset, .unset, .unset] [(.int (1 : Int32)), (.ref b15), (.ref b15)]))
  obtain ⟨T19, X19, e19, st19⟩ := getS2 X17 hx hZ hown (host := "") (Or.inl (hw _ (List.mem_of_getElem? (i := 6) rfl))) Via.refl e17 (hS.2.2.1.ext O18.2) (g := (mkF m 13 #[.val (.int p0), .unset, .unset, .unset, .unset] [(.int (1 : Int32)), (.ref b15), (.ref b15)])) rfl (hb hby at_13)
  refine own_st st19 ?_
  show own_go _ _ _ _ _ _ _ (T19.setTop (mkF m 16 #[.val (.int p0), .unset, .unset, .unset, .unset] [(.ref c_LIST), (.int (1 : Int32)), (.ref b15), (.ref b15)]))
  obtain ⟨T20, h20, X20, e20, W20, V20, st20⟩ := own_put X19 hx hZ e19 V17 Ov15 (Ins.self (hS.2.2.2.1.ext O18.2)) (j := (1 : Int32)) (by decide) 1 (by decide) (by show 1 < 13; decide) (g := (mkF m 16 #[.val (.int p0), .unset, .unset, .unset, .unset] [(.ref c_LIST), (.int (1 : Int32)), (.ref b15), (.ref b15)])) rfl rfl (hb hby at_16)
  have N20 := Fr.snoc X20 N17 ge_b15
  replace V20 : Arv Z h20 b15 k15 (.object "com/example/bough/bough/SchemaNode$Kind") (13 : Int32) [(.ref c_CONTAINER), (.ref c_LIST), .null, .null, .null, .null, .null, .null, .null, .null, .null, .null, .null] .null := V20
  have O21 := O18.wr W20 ge_b15
  have K21 := K18.wr W20 (Or.inr sz_b15)
  refine own_st st20 ?_
  show own_go _ _ _ _ _ _ _ (T20.setTop (mkF m 17 #[.val (.int p0), .unset, .unset, .unset, .unset] [(.ref b15)]))
  refine own_st (fun _ k => XS.dup X20.here hx rfl (hb hby at_17) rfl rfl k) ?_
  show own_go _ _ _ _ _ _ _ (T20.setTop (mkF m 18 #[.val (.int p0), .unset, .unset, .unset, .unset] [(.ref b15), (.ref b15)]))
  refine own_st (fun _ k => XS.iconst X20.here hx rfl (hb hby at_18) k) ?_
  show own_go _ _ _ _ _ _ _ (T20.setTop (mkF m 19 #[.val (.int p0), .unset, .unset, .unset, .unset] [(.int (2 : Int32)), (.ref b15), (.ref b15)]))
  obtain ⟨T22, X22, e22, st22⟩ := getS2 X20 hx hZ hown (host := "") (Or.inl (hw _ (List.mem_of_getElem? (i := 8) rfl))) Via.refl e20 (hS.2.2.2.2.1.ext O21.2) (g := (mkF m 19 #[.val (.int p0), .unset, .unset, .unset, .unset] [(.int (2 : Int32)), (.ref b15), (.ref b15)])) rfl (hb hby at_19)
  refine own_st st22 ?_
  show own_go _ _ _ _ _ _ _ (T22.setTop (mkF m 22 #[.val (.int p0), .unset, .unset, .unset, .unset] [(.ref c_LEAF), (.int (2 : Int32)), (.ref b15), (.ref b15)]))
  obtain ⟨T23, h23, X23, e23, W23, V23, st23⟩ := own_put X22 hx hZ e22 V20 Ov15 (Ins.self (hS.2.2.2.2.2.1.ext O21.2)) (j := (2 : Int32)) (by decide) 2 (by decide) (by show 2 < 13; decide) (g := (mkF m 22 #[.val (.int p0), .unset, .unset, .unset, .unset] [(.ref c_LEAF), (.int (2 : Int32)), (.ref b15), (.ref b15)])) rfl rfl (hb hby at_22)
  have N23 := Fr.snoc X23 N20 ge_b15
  replace V23 : Arv Z h23 b15 k15 (.object "com/example/bough/bough/SchemaNode$Kind") (13 : Int32) [(.ref c_CONTAINER), (.ref c_LIST), (.ref c_LEAF), .null, .null, .null, .null, .null, .null, .null, .null, .null, .null] .null := V23
  have O24 := O21.wr W23 ge_b15
  have K24 := K21.wr W23 (Or.inr sz_b15)
  refine own_st st23 ?_
  show own_go _ _ _ _ _ _ _ (T23.setTop (mkF m 23 #[.val (.int p0), .unset, .unset, .unset, .unset] [(.ref b15)]))
  refine own_st (fun _ k => XS.dup X23.here hx rfl (hb hby at_23) rfl rfl k) ?_
  show own_go _ _ _ _ _ _ _ (T23.setTop (mkF m 24 #[.val (.int p0), .unset, .unset, .unset, .unset] [(.ref b15), (.ref b15)]))
  refine own_st (fun _ k => XS.iconst X23.here hx rfl (hb hby at_24) k) ?_
  show own_go _ _ _ _ _ _ _ (T23.setTop (mkF m 25 #[.val (.int p0), .unset, .unset, .unset, .unset] [(.int (3 : Int32)), (.ref b15), (.ref b15)]))
  obtain ⟨T25, X25, e25, st25⟩ := getS2 X23 hx hZ hown (host := "") (Or.inl (hw _ (List.mem_of_getElem? (i := 10) rfl))) Via.refl e23 (hS.2.2.2.2.2.2.1.ext O24.2) (g := (mkF m 25 #[.val (.int p0), .unset, .unset, .unset, .unset] [(.int (3 : Int32)), (.ref b15), (.ref b15)])) rfl (hb hby at_25)
  refine own_st st25 ?_
  show own_go _ _ _ _ _ _ _ (T25.setTop (mkF m 28 #[.val (.int p0), .unset, .unset, .unset, .unset] [(.ref c_LEAF_LIST), (.int (3 : Int32)), (.ref b15), (.ref b15)]))
  obtain ⟨T26, h26, X26, e26, W26, V26, st26⟩ := own_put X25 hx hZ e25 V23 Ov15 (Ins.self (hS.2.2.2.2.2.2.2.1.ext O24.2)) (j := (3 : Int32)) (by decide) 3 (by decide) (by show 3 < 13; decide) (g := (mkF m 28 #[.val (.int p0), .unset, .unset, .unset, .unset] [(.ref c_LEAF_LIST), (.int (3 : Int32)), (.ref b15), (.ref b15)])) rfl rfl (hb hby at_28)
  have N26 := Fr.snoc X26 N23 ge_b15
  replace V26 : Arv Z h26 b15 k15 (.object "com/example/bough/bough/SchemaNode$Kind") (13 : Int32) [(.ref c_CONTAINER), (.ref c_LIST), (.ref c_LEAF), (.ref c_LEAF_LIST), .null, .null, .null, .null, .null, .null, .null, .null, .null] .null := V26
  have O27 := O24.wr W26 ge_b15
  have K27 := K24.wr W26 (Or.inr sz_b15)
  refine own_st st26 ?_
  show own_go _ _ _ _ _ _ _ (T26.setTop (mkF m 29 #[.val (.int p0), .unset, .unset, .unset, .unset] [(.ref b15)]))
  refine own_st (fun _ k => XS.dup X26.here hx rfl (hb hby at_29) rfl rfl k) ?_
  show own_go _ _ _ _ _ _ _ (T26.setTop (mkF m 30 #[.val (.int p0), .unset, .unset, .unset, .unset] [(.ref b15), (.ref b15)]))
  refine own_st (fun _ k => XS.iconst X26.here hx rfl (hb hby at_30) k) ?_
  show own_go _ _ _ _ _ _ _ (T26.setTop (mkF m 31 #[.val (.int p0), .unset, .unset, .unset, .unset] [(.int (4 : Int32)), (.ref b15), (.ref b15)]))
  obtain ⟨T28, X28, e28, st28⟩ := getS2 X26 hx hZ hown (host := "") (Or.inl (hw _ (List.mem_of_getElem? (i := 12) rfl))) Via.refl e26 (hS.2.2.2.2.2.2.2.2.1.ext O27.2) (g := (mkF m 31 #[.val (.int p0), .unset, .unset, .unset, .unset] [(.int (4 : Int32)), (.ref b15), (.ref b15)])) rfl (hb hby at_31)
  refine own_st st28 ?_
  show own_go _ _ _ _ _ _ _ (T28.setTop (mkF m 34 #[.val (.int p0), .unset, .unset, .unset, .unset] [(.ref c_CHOICE), (.int (4 : Int32)), (.ref b15), (.ref b15)]))
  obtain ⟨T29, h29, X29, e29, W29, V29, st29⟩ := own_put X28 hx hZ e28 V26 Ov15 (Ins.self (hS.2.2.2.2.2.2.2.2.2.1.ext O27.2)) (j := (4 : Int32)) (by decide) 4 (by decide) (by show 4 < 13; decide) (g := (mkF m 34 #[.val (.int p0), .unset, .unset, .unset, .unset] [(.ref c_CHOICE), (.int (4 : Int32)), (.ref b15), (.ref b15)])) rfl rfl (hb hby at_34)
  have N29 := Fr.snoc X29 N26 ge_b15
  replace V29 : Arv Z h29 b15 k15 (.object "com/example/bough/bough/SchemaNode$Kind") (13 : Int32) [(.ref c_CONTAINER), (.ref c_LIST), (.ref c_LEAF), (.ref c_LEAF_LIST), (.ref c_CHOICE), .null, .null, .null, .null, .null, .null, .null, .null] .null := V29
  have O30 := O27.wr W29 ge_b15
  have K30 := K27.wr W29 (Or.inr sz_b15)
  refine own_st st29 ?_
  show own_go _ _ _ _ _ _ _ (T29.setTop (mkF m 35 #[.val (.int p0), .unset, .unset, .unset, .unset] [(.ref b15)]))
  refine own_st (fun _ k => XS.dup X29.here hx rfl (hb hby at_35) rfl rfl k) ?_
  show own_go _ _ _ _ _ _ _ (T29.setTop (mkF m 36 #[.val (.int p0), .unset, .unset, .unset, .unset] [(.ref b15), (.ref b15)]))
  refine own_st (fun _ k => XS.iconst X29.here hx rfl (hb hby at_36) k) ?_
  show own_go _ _ _ _ _ _ _ (T29.setTop (mkF m 37 #[.val (.int p0), .unset, .unset, .unset, .unset] [(.int (5 : Int32)), (.ref b15), (.ref b15)]))
  obtain ⟨T31, X31, e31, st31⟩ := getS2 X29 hx hZ hown (host := "") (Or.inl (hw _ (List.mem_of_getElem? (i := 14) rfl))) Via.refl e29 (hS.2.2.2.2.2.2.2.2.2.2.1.ext O30.2) (g := (mkF m 37 #[.val (.int p0), .unset, .unset, .unset, .unset] [(.int (5 : Int32)), (.ref b15), (.ref b15)])) rfl (hb hby at_37)
  refine own_st st31 ?_
  show own_go _ _ _ _ _ _ _ (T31.setTop (mkF m 40 #[.val (.int p0), .unset, .unset, .unset, .unset] [(.ref c_CASE), (.int (5 : Int32)), (.ref b15), (.ref b15)]))
  obtain ⟨T32, h32, X32, e32, W32, V32, st32⟩ := own_put X31 hx hZ e31 V29 Ov15 (Ins.self (hS.2.2.2.2.2.2.2.2.2.2.2.1.ext O30.2)) (j := (5 : Int32)) (by decide) 5 (by decide) (by show 5 < 13; decide) (g := (mkF m 40 #[.val (.int p0), .unset, .unset, .unset, .unset] [(.ref c_CASE), (.int (5 : Int32)), (.ref b15), (.ref b15)])) rfl rfl (hb hby at_40)
  have N32 := Fr.snoc X32 N29 ge_b15
  replace V32 : Arv Z h32 b15 k15 (.object "com/example/bough/bough/SchemaNode$Kind") (13 : Int32) [(.ref c_CONTAINER), (.ref c_LIST), (.ref c_LEAF), (.ref c_LEAF_LIST), (.ref c_CHOICE), (.ref c_CASE), .null, .null, .null, .null, .null, .null, .null] .null := V32
  have O33 := O30.wr W32 ge_b15
  have K33 := K30.wr W32 (Or.inr sz_b15)
  refine own_st st32 ?_
  show own_go _ _ _ _ _ _ _ (T32.setTop (mkF m 41 #[.val (.int p0), .unset, .unset, .unset, .unset] [(.ref b15)]))
  refine own_st (fun _ k => XS.dup X32.here hx rfl (hb hby at_41) rfl rfl k) ?_
  show own_go _ _ _ _ _ _ _ (T32.setTop (mkF m 42 #[.val (.int p0), .unset, .unset, .unset, .unset] [(.ref b15), (.ref b15)]))
  refine own_st (fun _ k => XS.bipush X32.here hx rfl (hb hby at_42) k) ?_
  show own_go _ _ _ _ _ _ _ (T32.setTop (mkF m 44 #[.val (.int p0), .unset, .unset, .unset, .unset] [(.int (6 : Int32)), (.ref b15), (.ref b15)]))
  obtain ⟨T34, X34, e34, st34⟩ := getS2 X32 hx hZ hown (host := "") (Or.inl (hw _ (List.mem_of_getElem? (i := 16) rfl))) Via.refl e32 (hS.2.2.2.2.2.2.2.2.2.2.2.2.1.ext O33.2) (g := (mkF m 44 #[.val (.int p0), .unset, .unset, .unset, .unset] [(.int (6 : Int32)), (.ref b15), (.ref b15)])) rfl (hb hby at_44)
  refine own_st st34 ?_
  show own_go _ _ _ _ _ _ _ (T34.setTop (mkF m 47 #[.val (.int p0), .unset, .unset, .unset, .unset] [(.ref c_ANYDATA), (.int (6 : Int32)), (.ref b15), (.ref b15)]))
  obtain ⟨T35, h35, X35, e35, W35, V35, st35⟩ := own_put X34 hx hZ e34 V32 Ov15 (Ins.self (hS.2.2.2.2.2.2.2.2.2.2.2.2.2.1.ext O33.2)) (j := (6 : Int32)) (by decide) 6 (by decide) (by show 6 < 13; decide) (g := (mkF m 47 #[.val (.int p0), .unset, .unset, .unset, .unset] [(.ref c_ANYDATA), (.int (6 : Int32)), (.ref b15), (.ref b15)])) rfl rfl (hb hby at_47)
  have N35 := Fr.snoc X35 N32 ge_b15
  replace V35 : Arv Z h35 b15 k15 (.object "com/example/bough/bough/SchemaNode$Kind") (13 : Int32) [(.ref c_CONTAINER), (.ref c_LIST), (.ref c_LEAF), (.ref c_LEAF_LIST), (.ref c_CHOICE), (.ref c_CASE), (.ref c_ANYDATA), .null, .null, .null, .null, .null, .null] .null := V35
  have O36 := O33.wr W35 ge_b15
  have K36 := K33.wr W35 (Or.inr sz_b15)
  refine own_st st35 ?_
  show own_go _ _ _ _ _ _ _ (T35.setTop (mkF m 48 #[.val (.int p0), .unset, .unset, .unset, .unset] [(.ref b15)]))
  refine own_st (fun _ k => XS.dup X35.here hx rfl (hb hby at_48) rfl rfl k) ?_
  show own_go _ _ _ _ _ _ _ (T35.setTop (mkF m 49 #[.val (.int p0), .unset, .unset, .unset, .unset] [(.ref b15), (.ref b15)]))
  refine own_st (fun _ k => XS.bipush X35.here hx rfl (hb hby at_49) k) ?_
  show own_go _ _ _ _ _ _ _ (T35.setTop (mkF m 51 #[.val (.int p0), .unset, .unset, .unset, .unset] [(.int (7 : Int32)), (.ref b15), (.ref b15)]))
  obtain ⟨T37, X37, e37, st37⟩ := getS2 X35 hx hZ hown (host := "") (Or.inl (hw _ (List.mem_of_getElem? (i := 18) rfl))) Via.refl e35 (hS.2.2.2.2.2.2.2.2.2.2.2.2.2.2.1.ext O36.2) (g := (mkF m 51 #[.val (.int p0), .unset, .unset, .unset, .unset] [(.int (7 : Int32)), (.ref b15), (.ref b15)])) rfl (hb hby at_51)
  refine own_st st37 ?_
  show own_go _ _ _ _ _ _ _ (T37.setTop (mkF m 54 #[.val (.int p0), .unset, .unset, .unset, .unset] [(.ref c_ANYXML), (.int (7 : Int32)), (.ref b15), (.ref b15)]))
  obtain ⟨T38, h38, X38, e38, W38, V38, st38⟩ := own_put X37 hx hZ e37 V35 Ov15 (Ins.self (hS.2.2.2.2.2.2.2.2.2.2.2.2.2.2.2.1.ext O36.2)) (j := (7 : Int32)) (by decide) 7 (by decide) (by show 7 < 13; decide) (g := (mkF m 54 #[.val (.int p0), .unset, .unset, .unset, .unset] [(.ref c_ANYXML), (.int (7 : Int32)), (.ref b15), (.ref b15)])) rfl rfl (hb hby at_54)
  have N38 := Fr.snoc X38 N35 ge_b15
  replace V38 : Arv Z h38 b15 k15 (.object "com/example/bough/bough/SchemaNode$Kind") (13 : Int32) [(.ref c_CONTAINER), (.ref c_LIST), (.ref c_LEAF), (.ref c_LEAF_LIST), (.ref c_CHOICE), (.ref c_CASE), (.ref c_ANYDATA), (.ref c_ANYXML), .null, .null, .null, .null, .null] .null := V38
  have O39 := O36.wr W38 ge_b15
  have K39 := K36.wr W38 (Or.inr sz_b15)
  refine own_st st38 ?_
  show own_go _ _ _ _ _ _ _ (T38.setTop (mkF m 55 #[.val (.int p0), .unset, .unset, .unset, .unset] [(.ref b15)]))
  refine own_st (fun _ k => XS.dup X38.here hx rfl (hb hby at_55) rfl rfl k) ?_
  show own_go _ _ _ _ _ _ _ (T38.setTop (mkF m 56 #[.val (.int p0), .unset, .unset, .unset, .unset] [(.ref b15), (.ref b15)]))
  refine own_st (fun _ k => XS.bipush X38.here hx rfl (hb hby at_56) k) ?_
  show own_go _ _ _ _ _ _ _ (T38.setTop (mkF m 58 #[.val (.int p0), .unset, .unset, .unset, .unset] [(.int (8 : Int32)), (.ref b15), (.ref b15)]))
  obtain ⟨T40, X40, e40, st40⟩ := getS2 X38 hx hZ hown (host := "") (Or.inl (hw _ (List.mem_of_getElem? (i := 20) rfl))) Via.refl e38 (hS.2.2.2.2.2.2.2.2.2.2.2.2.2.2.2.2.1.ext O39.2) (g := (mkF m 58 #[.val (.int p0), .unset, .unset, .unset, .unset] [(.int (8 : Int32)), (.ref b15), (.ref b15)])) rfl (hb hby at_58)
  refine own_st st40 ?_
  show own_go _ _ _ _ _ _ _ (T40.setTop (mkF m 61 #[.val (.int p0), .unset, .unset, .unset, .unset] [(.ref c_RPC), (.int (8 : Int32)), (.ref b15), (.ref b15)]))
  obtain ⟨T41, h41, X41, e41, W41, V41, st41⟩ := own_put X40 hx hZ e40 V38 Ov15 (Ins.self (hS.2.2.2.2.2.2.2.2.2.2.2.2.2.2.2.2.2.1.ext O39.2)) (j := (8 : Int32)) (by decide) 8 (by decide) (by show 8 < 13; decide) (g := (mkF m 61 #[.val (.int p0), .unset, .unset, .unset, .unset] [(.ref c_RPC), (.int (8 : Int32)), (.ref b15), (.ref b15)])) rfl rfl (hb hby at_61)
  have N41 := Fr.snoc X41 N38 ge_b15
  replace V41 : Arv Z h41 b15 k15 (.object "com/example/bough/bough/SchemaNode$Kind") (13 : Int32) [(.ref c_CONTAINER), (.ref c_LIST), (.ref c_LEAF), (.ref c_LEAF_LIST), (.ref c_CHOICE), (.ref c_CASE), (.ref c_ANYDATA), (.ref c_ANYXML), (.ref c_RPC), .null, .null, .null, .null] .null := V41
  have O42 := O39.wr W41 ge_b15
  have K42 := K39.wr W41 (Or.inr sz_b15)
  refine own_st st41 ?_
  show own_go _ _ _ _ _ _ _ (T41.setTop (mkF m 62 #[.val (.int p0), .unset, .unset, .unset, .unset] [(.ref b15)]))
  refine own_st (fun _ k => XS.dup X41.here hx rfl (hb hby at_62) rfl rfl k) ?_
  show own_go _ _ _ _ _ _ _ (T41.setTop (mkF m 63 #[.val (.int p0), .unset, .unset, .unset, .unset] [(.ref b15), (.ref b15)]))
  refine own_st (fun _ k => XS.bipush X41.here hx rfl (hb hby at_63) k) ?_
  show own_go _ _ _ _ _ _ _ (T41.setTop (mkF m 65 #[.val (.int p0), .unset, .unset, .unset, .unset] [(.int (9 : Int32)), (.ref b15), (.ref b15)]))
  obtain ⟨T43, X43, e43, st43⟩ := getS2 X41 hx hZ hown (host := "") (Or.inl (hw _ (List.mem_of_getElem? (i := 22) rfl))) Via.refl e41 (hS.2.2.2.2.2.2.2.2.2.2.2.2.2.2.2.2.2.2.1.ext O42.2) (g := (mkF m 65 #[.val (.int p0), .unset, .unset, .unset, .unset] [(.int (9 : Int32)), (.ref b15), (.ref b15)])) rfl (hb hby at_65)
  refine own_st st43 ?_
  show own_go _ _ _ _ _ _ _ (T43.setTop (mkF m 68 #[.val (.int p0), .unset, .unset, .unset, .unset] [(.ref c_ACTION), (.int (9 : Int32)), (.ref b15), (.ref b15)]))
  obtain ⟨T44, h44, X44, e44, W44, V44, st44⟩ := own_put X43 hx hZ e43 V41 Ov15 (Ins.self (hS.2.2.2.2.2.2.2.2.2.2.2.2.2.2.2.2.2.2.2.1.ext O42.2)) (j := (9 : Int32)) (by decide) 9 (by decide) (by show 9 < 13; decide) (g := (mkF m 68 #[.val (.int p0), .unset, .unset, .unset, .unset] [(.ref c_ACTION), (.int (9 : Int32)), (.ref b15), (.ref b15)])) rfl rfl (hb hby at_68)
  have N44 := Fr.snoc X44 N41 ge_b15
  replace V44 : Arv Z h44 b15 k15 (.object "com/example/bough/bough/SchemaNode$Kind") (13 : Int32) [(.ref c_CONTAINER), (.ref c_LIST), (.ref c_LEAF), (.ref c_LEAF_LIST), (.ref c_CHOICE), (.ref c_CASE), (.ref c_ANYDATA), (.ref c_ANYXML), (.ref c_RPC), (.ref c_ACTION), .null, .null, .null] .null := V44
  have O45 := O42.wr W44 ge_b15
  have K45 := K42.wr W44 (Or.inr sz_b15)
  refine own_st st44 ?_
  show own_go _ _ _ _ _ _ _ (T44.setTop (mkF m 69 #[.val (.int p0), .unset, .unset, .unset, .unset] [(.ref b15)]))
  refine own_st (fun _ k => XS.dup X44.here hx rfl (hb hby at_69) rfl rfl k) ?_
  show own_go _ _ _ _ _ _ _ (T44.setTop (mkF m 70 #[.val (.int p0), .unset, .unset, .unset, .unset] [(.ref b15), (.ref b15)]))
  refine own_st (fun _ k => XS.bipush X44.here hx rfl (hb hby at_70) k) ?_
  show own_go _ _ _ _ _ _ _ (T44.setTop (mkF m 72 #[.val (.int p0), .unset, .unset, .unset, .unset] [(.int (10 : Int32)), (.ref b15), (.ref b15)]))
  obtain ⟨T46, X46, e46, st46⟩ := getS2 X44 hx hZ hown (host := "") (Or.inl (hw _ (List.mem_of_getElem? (i := 24) rfl))) Via.refl e44 (hS.2.2.2.2.2.2.2.2.2.2.2.2.2.2.2.2.2.2.2.2.1.ext O45.2) (g := (mkF m 72 #[.val (.int p0), .unset, .unset, .unset, .unset] [(.int (10 : Int32)), (.ref b15), (.ref b15)])) rfl (hb hby at_72)
  refine own_st st46 ?_
  show own_go _ _ _ _ _ _ _ (T46.setTop (mkF m 75 #[.val (.int p0), .unset, .unset, .unset, .unset] [(.ref c_INPUT), (.int (10 : Int32)), (.ref b15), (.ref b15)]))
  obtain ⟨T47, h47, X47, e47, W47, V47, st47⟩ := own_put X46 hx hZ e46 V44 Ov15 (Ins.self (hS.2.2.2.2.2.2.2.2.2.2.2.2.2.2.2.2.2.2.2.2.2.1.ext O45.2)) (j := (10 : Int32)) (by decide) 10 (by decide) (by show 10 < 13; decide) (g := (mkF m 75 #[.val (.int p0), .unset, .unset, .unset, .unset] [(.ref c_INPUT), (.int (10 : Int32)), (.ref b15), (.ref b15)])) rfl rfl (hb hby at_75)
  have N47 := Fr.snoc X47 N44 ge_b15
  replace V47 : Arv Z h47 b15 k15 (.object "com/example/bough/bough/SchemaNode$Kind") (13 : Int32) [(.ref c_CONTAINER), (.ref c_LIST), (.ref c_LEAF), (.ref c_LEAF_LIST), (.ref c_CHOICE), (.ref c_CASE), (.ref c_ANYDATA), (.ref c_ANYXML), (.ref c_RPC), (.ref c_ACTION), (.ref c_INPUT), .null, .null] .null := V47
  have O48 := O45.wr W47 ge_b15
  have K48 := K45.wr W47 (Or.inr sz_b15)
  refine own_st st47 ?_
  show own_go _ _ _ _ _ _ _ (T47.setTop (mkF m 76 #[.val (.int p0), .unset, .unset, .unset, .unset] [(.ref b15)]))
  refine own_st (fun _ k => XS.dup X47.here hx rfl (hb hby at_76) rfl rfl k) ?_
  show own_go _ _ _ _ _ _ _ (T47.setTop (mkF m 77 #[.val (.int p0), .unset, .unset, .unset, .unset] [(.ref b15), (.ref b15)]))
  refine own_st (fun _ k => XS.bipush X47.here hx rfl (hb hby at_77) k) ?_
  show own_go _ _ _ _ _ _ _ (T47.setTop (mkF m 79 #[.val (.int p0), .unset, .unset, .unset, .unset] [(.int (11 : Int32)), (.ref b15), (.ref b15)]))
  obtain ⟨T49, X49, e49, st49⟩ := getS2 X47 hx hZ hown (host := "") (Or.inl (hw _ (List.mem_of_getElem? (i := 26) rfl))) Via.refl e47 (hS.2.2.2.2.2.2.2.2.2.2.2.2.2.2.2.2.2.2.2.2.2.2.1.ext O48.2) (g := (mkF m 79 #[.val (.int p0), .unset, .unset, .unset, .unset] [(.int (11 : Int32)), (.ref b15), (.ref b15)])) rfl (hb hby at_79)
  refine own_st st49 ?_
  show own_go _ _ _ _ _ _ _ (T49.setTop (mkF m 82 #[.val (.int p0), .unset, .unset, .unset, .unset] [(.ref c_OUTPUT), (.int (11 : Int32)), (.ref b15), (.ref b15)]))
  obtain ⟨T50, h50, X50, e50, W50, V50, st50⟩ := own_put X49 hx hZ e49 V47 Ov15 (Ins.self (hS.2.2.2.2.2.2.2.2.2.2.2.2.2.2.2.2.2.2.2.2.2.2.2.1.ext O48.2)) (j := (11 : Int32)) (by decide) 11 (by decide) (by show 11 < 13; decide) (g := (mkF m 82 #[.val (.int p0), .unset, .unset, .unset, .unset] [(.ref c_OUTPUT), (.int (11 : Int32)), (.ref b15), (.ref b15)])) rfl rfl (hb hby at_82)
  have N50 := Fr.snoc X50 N47 ge_b15
  replace V50 : Arv Z h50 b15 k15 (.object "com/example/bough/bough/SchemaNode$Kind") (13 : Int32) [(.ref c_CONTAINER), (.ref c_LIST), (.ref c_LEAF), (.ref c_LEAF_LIST), (.ref c_CHOICE), (.ref c_CASE), (.ref c_ANYDATA), (.ref c_ANYXML), (.ref c_RPC), (.ref c_ACTION), (.ref c_INPUT), (.ref c_OUTPUT), .null] .null := V50
  have O51 := O48.wr W50 ge_b15
  have K51 := K48.wr W50 (Or.inr sz_b15)
  refine own_st st50 ?_
  show own_go _ _ _ _ _ _ _ (T50.setTop (mkF m 83 #[.val (.int p0), .unset, .unset, .unset, .unset] [(.ref b15)]))
  refine own_st (fun _ k => XS.dup X50.here hx rfl (hb hby at_83) rfl rfl k) ?_
  show own_go _ _ _ _ _ _ _ (T50.setTop (mkF m 84 #[.val (.int p0), .unset, .unset, .unset, .unset] [(.ref b15), (.ref b15)]))
  refine own_st (fun _ k => XS.bipush X50.here hx rfl (hb hby at_84) k) ?_
  show own_go _ _ _ _ _ _ _ (T50.setTop (mkF m 86 #[.val (.int p0), .unset, .unset, .unset, .unset] [(.int (12 : Int32)), (.ref b15), (.ref b15)]))
  obtain ⟨T52, X52, e52, st52⟩ := getS2 X50 hx hZ hown (host := "") (Or.inl (hw _ (List.mem_of_getElem? (i := 28) rfl))) Via.refl e50 (hS.2.2.2.2.2.2.2.2.2.2.2.2.2.2.2.2.2.2.2.2.2.2.2.2.1.ext O51.2) (g := (mkF m 86 #[.val (.int p0), .unset, .unset, .unset, .unset] [(.int (12 : Int32)), (.ref b15), (.ref b15)])) rfl (hb hby at_86)
  refine own_st st52 ?_
  show own_go _ _ _ _ _ _ _ (T52.setTop (mkF m 89 #[.val (.int p0), .unset, .unset, .unset, .unset] [(.ref c_NOTIFICATION), (.int (12 : Int32)), (.ref b15), (.ref b15)]))
  obtain ⟨T53, h53, X53, e53, W53, V53, st53⟩ := own_put X52 hx hZ e52 V50 Ov15 (Ins.self (hS.2.2.2.2.2.2.2.2.2.2.2.2.2.2.2.2.2.2.2.2.2.2.2.2.2.1.ext O51.2)) (j := (12 : Int32)) (by decide) 12 (by decide) (by show 12 < 13; decide) (g := (mkF m 89 #[.val (.int p0), .unset, .unset, .unset, .unset] [(.ref c_NOTIFICATION), (.int (12 : Int32)), (.ref b15), (.ref b15)])) rfl rfl (hb hby at_89)
  have N53 := Fr.snoc X53 N50 ge_b15
  replace V53 : Arv Z h53 b15 k15 (.object "com/example/bough/bough/SchemaNode$Kind") (13 : Int32) [(.ref c_CONTAINER), (.ref c_LIST), (.ref c_LEAF), (.ref c_LEAF_LIST), (.ref c_CHOICE), (.ref c_CASE), (.ref c_ANYDATA), (.ref c_ANYXML), (.ref c_RPC), (.ref c_ACTION), (.ref c_INPUT), (.ref c_OUTPUT), (.ref c_NOTIFICATION)] .null := V53
  have O54 := O51.wr W53 ge_b15
  have K54 := K51.wr W53 (Or.inr sz_b15)
  refine own_st st53 ?_
  show own_go _ _ _ _ _ _ _ (T53.setTop (mkF m 90 #[.val (.int p0), .unset, .unset, .unset, .unset] [(.ref b15)]))
  refine own_st (fun _ k => XS.astoreN X53.here hx rfl (hb hby at_90) rfl rfl (l' := #[.val (.int p0), .val (.ref b15), .unset, .unset, .unset]) rfl k) ?_
  show own_go _ _ _ _ _ _ _ (T53.setTop (mkF m 91 #[.val (.int p0), .val (.ref b15), .unset, .unset, .unset] []))
  refine own_st (fun _ k => XS.aloadN X53.here hx rfl (hb hby at_91) rfl rfl k) ?_
  show own_go _ _ _ _ _ _ _ (T53.setTop (mkF m 92 #[.val (.int p0), .val (.ref b15), .unset, .unset, .unset] [(.ref b15)]))
  refine own_st (fun _ k => XS.iloadN X53.here hx rfl (hb hby at_92) rfl k) ?_
  show own_go _ _ _ _ _ _ _ (T53.setTop (mkF m 93 #[.val (.int p0), .val (.ref b15), .unset, .unset, .unset] [(.int p0), (.ref b15)]))
  refine own_st (X53.ldcInt hx hown (mvT hZ (hw _ (List.mem_of_getElem? (i := 30) rfl))) (g := (mkF m 93 #[.val (.int p0), .val (.ref b15), .unset, .unset, .unset] [(.int p0), (.ref b15)])) rfl (hb hby at_93)) ?_
  show own_go _ _ _ _ _ _ _ (T53.setTop (mkF m 95 #[.val (.int p0), .val (.ref b15), .unset, .unset, .unset] [(.int (2147483647 : Int32)), (.int p0), (.ref b15)]))
  refine own_st (fun _ k => XS.iand X53.here hx rfl (hb hby at_95) rfl k) ?_
  show own_go _ _ _ _ _ _ _ (T53.setTop (mkF m 96 #[.val (.int p0), .val (.ref b15), .unset, .unset, .unset] [(.int (p0 &&& (2147483647 : Int32))), (.ref b15)]))
  refine own_st (fun _ k => XS.bipush X53.here hx rfl (hb hby at_96) k) ?_
  show own_go _ _ _ _ _ _ _ (T53.setTop (mkF m 98 #[.val (.int p0), .val (.ref b15), .unset, .unset, .unset] [(.int (13 : Int32)), (.int (p0 &&& (2147483647 : Int32))), (.ref b15)]))
  refine own_st (fun _ k => iremM (g := (mkF m 98 #[.val (.int p0), .val (.ref b15), .unset, .unset, .unset] [(.int (13 : Int32)), (.int (p0 &&& (2147483647 : Int32))), (.ref b15)])) X53 hx rfl (hb hby at_98) rfl (by decide) k) ?_
  show own_go _ _ _ _ _ _ _ (T53.setTop (mkF m 99 #[.val (.int p0), .val (.ref b15), .unset, .unset, .unset] [(.int ((p0 &&& (2147483647 : Int32)) % (13 : Int32))), (.ref b15)]))
  rcases own_rem p0 with q | q | q | q | q | q | q | q | q | q | q | q | q
  · skip
    rw [q]
    show own_go _ _ _ _ _ _ _ (T53.setTop (mkF m 99 #[.val (.int p0), .val (.ref b15), .unset, .unset, .unset] [(.int (0 : Int32)), (.ref b15)]))
    refine own_st (own_get X53 hx hZ e53 V53 rfl (j := (0 : Int32)) (by decide) (v := (.ref c_CONTAINER)) rfl (g := (mkF m 99 #[.val (.int p0), .val (.ref b15), .unset, .unset, .unset] [(.int (0 : Int32)), (.ref b15)])) rfl rfl (hb hby at_99)) ?_
    show own_go _ _ _ _ _ _ _ (T53.setTop (mkF m 100 #[.val (.int p0), .val (.ref b15), .unset, .unset, .unset] [(.ref c_CONTAINER)]))
    refine own_st (fun _ k => XS.astoreN X53.here hx rfl (hb hby at_100) rfl rfl (l' := #[.val (.int p0), .val (.ref b15), .val (.ref c_CONTAINER), .unset, .unset]) rfl k) ?_
    show own_go _ _ _ _ _ _ _ (T53.setTop (mkF m 101 #[.val (.int p0), .val (.ref b15), .val (.ref c_CONTAINER), .unset, .unset] []))
    refine own_st (fun _ k => XS.aloadN X53.here hx rfl (hb hby at_101) rfl rfl k) ?_
    show own_go _ _ _ _ _ _ _ (T53.setTop (mkF m 102 #[.val (.int p0), .val (.ref b15), .val (.ref c_CONTAINER), .unset, .unset] [(.ref c_CONTAINER)]))
    obtain ⟨T55, X55, e55, st55⟩ := getS2 X53 hx hZ hown (host := "") (Or.inl (hw _ (List.mem_of_getElem? (i := 20) rfl))) Via.refl e53 (hS.2.2.2.2.2.2.2.2.2.2.2.2.2.2.2.2.1.ext O54.2) (g := (mkF m 102 #[.val (.int p0), .val (.ref b15), .val (.ref c_CONTAINER), .unset, .unset] [(.ref c_CONTAINER)])) rfl (hb hby at_102)
    refine own_st st55 ?_
    show own_go _ _ _ _ _ _ _ (T55.setTop (mkF m 105 #[.val (.int p0), .val (.ref b15), .val (.ref c_CONTAINER), .unset, .unset] [(.ref c_RPC), (.ref c_CONTAINER)]))
    refine own_st (fun _ k => Jvm.RoadKit.acmp (g := (mkF m 105 #[.val (.int p0), .val (.ref b15), .val (.ref c_CONTAINER), .unset, .unset] [(.ref c_RPC), (.ref c_CONTAINER)])) X55 hx rfl rfl rfl (pc0 := 105) (pc' := 108) (same := false) rfl (hb hby at_105) rfl (decide_eq_false fun q => (own_ne hS.2.2.2.2.2.2.2.2.2.2.2.2.2.2.2.2.2.2.2.2.2.2.2.2.2.2.1 hS.2.2.2.2.2.2.2.2.2.2.2.2.2.2.2.2.2.2.2.2.2.2.2.2.2.2.2.1 (by decide)) (Value.ref.inj q)) (by decide) (by decide) k) ?_
    show own_go _ _ _ _ _ _ _ (T55.setTop (mkF m 108 #[.val (.int p0), .val (.ref b15), .val (.ref c_CONTAINER), .unset, .unset] []))
    refine own_st (fun _ k => XS.aloadN X55.here hx rfl (hb hby at_108) rfl rfl k) ?_
    show own_go _ _ _ _ _ _ _ (T55.setTop (mkF m 109 #[.val (.int p0), .val (.ref b15), .val (.ref c_CONTAINER), .unset, .unset] [(.ref c_CONTAINER)]))
    obtain ⟨T56, X56, e56, st56⟩ := getS2 X55 hx hZ hown (host := "") (Or.inl (hw _ (List.mem_of_getElem? (i := 22) rfl))) Via.refl e55 (hS.2.2.2.2.2.2.2.2.2.2.2.2.2.2.2.2.2.2.1.ext O54.2) (g := (mkF m 109 #[.val (.int p0), .val (.ref b15), .val (.ref c_CONTAINER), .unset, .unset] [(.ref c_CONTAINER)])) rfl (hb hby at_109)
    refine own_st st56 ?_
    show own_go _ _ _ _ _ _ _ (T56.setTop (mkF m 112 #[.val (.int p0), .val (.ref b15), .val (.ref c_CONTAINER), .unset, .unset] [(.ref c_ACTION), (.ref c_CONTAINER)]))
    refine own_st (fun _ k => Jvm.RoadKit.acmp (g := (mkF m 112 #[.val (.int p0), .val (.ref b15), .val (.ref c_CONTAINER), .unset, .unset] [(.ref c_ACTION), (.ref c_CONTAINER)])) X56 hx rfl rfl rfl (pc0 := 112) (pc' := 115) (same := false) rfl (hb hby at_112) rfl (decide_eq_false fun q => (own_ne hS.2.2.2.2.2.2.2.2.2.2.2.2.2.2.2.2.2.2.2.2.2.2.2.2.2.2.1 hS.2.2.2.2.2.2.2.2.2.2.2.2.2.2.2.2.2.2.2.2.2.2.2.2.2.2.2.2.1 (by decide)) (Value.ref.inj q)) (by decide) (by decide) k) ?_
    show own_go _ _ _ _ _ _ _ (T56.setTop (mkF m 115 #[.val (.int p0), .val (.ref b15), .val (.ref c_CONTAINER), .unset, .unset] []))
    refine own_st (fun _ k => XS.aloadN X56.here hx rfl (hb hby at_115) rfl rfl k) ?_
    show own_go _ _ _ _ _ _ _ (T56.setTop (mkF m 116 #[.val (.int p0), .val (.ref b15), .val (.ref c_CONTAINER), .unset, .unset] [(.ref c_CONTAINER)]))
    obtain ⟨T57, X57, e57, st57⟩ := getS2 X56 hx hZ hown (host := "") (Or.inl (hw _ (List.mem_of_getElem? (i := 24) rfl))) Via.refl e56 (hS.2.2.2.2.2.2.2.2.2.2.2.2.2.2.2.2.2.2.2.2.1.ext O54.2) (g := (mkF m 116 #[.val (.int p0), .val (.ref b15), .val (.ref c_CONTAINER), .unset, .unset] [(.ref c_CONTAINER)])) rfl (hb hby at_116)
    refine own_st st57 ?_
    show own_go _ _ _ _ _ _ _ (T57.setTop (mkF m 119 #[.val (.int p0), .val (.ref b15), .val (.ref c_CONTAINER), .unset, .unset] [(.ref c_INPUT), (.ref c_CONTAINER)]))
    refine own_st (fun _ k => Jvm.RoadKit.acmp (g := (mkF m 119 #[.val (.int p0), .val (.ref b15), .val (.ref c_CONTAINER), .unset, .unset] [(.ref c_INPUT), (.ref c_CONTAINER)])) X57 hx rfl rfl rfl (pc0 := 119) (pc' := 122) (same := false) rfl (hb hby at_119) rfl (decide_eq_false fun q => (own_ne hS.2.2.2.2.2.2.2.2.2.2.2.2.2.2.2.2.2.2.2.2.2.2.2.2.2.2.1 hS.2.2.2.2.2.2.2.2.2.2.2.2.2.2.2.2.2.2.2.2.2.2.2.2.2.2.2.2.2.1 (by decide)) (Value.ref.inj q)) (by decide) (by decide) k) ?_
    show own_go _ _ _ _ _ _ _ (T57.setTop (mkF m 122 #[.val (.int p0), .val (.ref b15), .val (.ref c_CONTAINER), .unset, .unset] []))
    refine own_st (fun _ k => XS.aloadN X57.here hx rfl (hb hby at_122) rfl rfl k) ?_
    show own_go _ _ _ _ _ _ _ (T57.setTop (mkF m 123 #[.val (.int p0), .val (.ref b15), .val (.ref c_CONTAINER), .unset, .unset] [(.ref c_CONTAINER)]))
    obtain ⟨T58, X58, e58, st58⟩ := getS2 X57 hx hZ hown (host := "") (Or.inl (hw _ (List.mem_of_getElem? (i := 26) rfl))) Via.refl e57 (hS.2.2.2.2.2.2.2.2.2.2.2.2.2.2.2.2.2.2.2.2.2.2.1.ext O54.2) (g := (mkF m 123 #[.val (.int p0), .val (.ref b15), .val (.ref c_CONTAINER), .unset, .unset] [(.ref c_CONTAINER)])) rfl (hb hby at_123)
    refine own_st st58 ?_
    show own_go _ _ _ _ _ _ _ (T58.setTop (mkF m 126 #[.val (.int p0), .val (.ref b15), .val (.ref c_CONTAINER), .unset, .unset] [(.ref c_OUTPUT), (.ref c_CONTAINER)]))
    refine own_st (fun _ k => Jvm.RoadKit.acmp (g := (mkF m 126 #[.val (.int p0), .val (.ref b15), .val (.ref c_CONTAINER), .unset, .unset] [(.ref c_OUTPUT), (.ref c_CONTAINER)])) X58 hx rfl rfl rfl (pc0 := 126) (pc' := 129) (same := false) rfl (hb hby at_126) rfl (decide_eq_false fun q => (own_ne hS.2.2.2.2.2.2.2.2.2.2.2.2.2.2.2.2.2.2.2.2.2.2.2.2.2.2.1 hS.2.2.2.2.2.2.2.2.2.2.2.2.2.2.2.2.2.2.2.2.2.2.2.2.2.2.2.2.2.2.1 (by decide)) (Value.ref.inj q)) (by decide) (by decide) k) ?_
    show own_go _ _ _ _ _ _ _ (T58.setTop (mkF m 129 #[.val (.int p0), .val (.ref b15), .val (.ref c_CONTAINER), .unset, .unset] []))
    refine own_st (fun _ k => XS.aloadN X58.here hx rfl (hb hby at_129) rfl rfl k) ?_
    show own_go _ _ _ _ _ _ _ (T58.setTop (mkF m 130 #[.val (.int p0), .val (.ref b15), .val (.ref c_CONTAINER), .unset, .unset] [(.ref c_CONTAINER)]))
    obtain ⟨T59, X59, e59, st59⟩ := getS2 X58 hx hZ hown (host := "") (Or.inl (hw _ (List.mem_of_getElem? (i := 28) rfl))) Via.refl e58 (hS.2.2.2.2.2.2.2.2.2.2.2.2.2.2.2.2.2.2.2.2.2.2.2.2.1.ext O54.2) (g := (mkF m 130 #[.val (.int p0), .val (.ref b15), .val (.ref c_CONTAINER), .unset, .unset] [(.ref c_CONTAINER)])) rfl (hb hby at_130)
    refine own_st st59 ?_
    show own_go _ _ _ _ _ _ _ (T59.setTop (mkF m 133 #[.val (.int p0), .val (.ref b15), .val (.ref c_CONTAINER), .unset, .unset] [(.ref c_NOTIFICATION), (.ref c_CONTAINER)]))
    refine own_st (fun _ k => Jvm.RoadKit.acmp (g := (mkF m 133 #[.val (.int p0), .val (.ref b15), .val (.ref c_CONTAINER), .unset, .unset] [(.ref c_NOTIFICATION), (.ref c_CONTAINER)])) X59 hx rfl rfl rfl (pc0 := 133) (pc' := 140) (same := false) rfl (hb hby at_133) rfl (decide_eq_false fun q => (own_ne hS.2.2.2.2.2.2.2.2.2.2.2.2.2.2.2.2.2.2.2.2.2.2.2.2.2.2.1 hS.2.2.2.2.2.2.2.2.2.2.2.2.2.2.2.2.2.2.2.2.2.2.2.2.2.2.2.2.2.2.2.1 (by decide)) (Value.ref.inj q)) (by decide) (by decide) k) ?_
    show own_go _ _ _ _ _ _ _ (T59.setTop (mkF m 140 #[.val (.int p0), .val (.ref b15), .val (.ref c_CONTAINER), .unset, .unset] []))
    refine own_st (fun _ k => XS.iconst X59.here hx rfl (hb hby at_140) k) ?_
    show own_go _ _ _ _ _ _ _ (T59.setTop (mkF m 141 #[.val (.int p0), .val (.ref b15), .val (.ref c_CONTAINER), .unset, .unset] [(.int (0 : Int32))]))
    refine own_st (fun _ k => XS.istoreN X59.here hx rfl (hb hby at_141) rfl (l' := #[.val (.int p0), .val (.ref b15), .val (.ref c_CONTAINER), .val (.int (0 : Int32)), .unset]) rfl k) ?_
    show own_go _ _ _ _ _ _ _ (T59.setTop (mkF m 142 #[.val (.int p0), .val (.ref b15), .val (.ref c_CONTAINER), .val (.int (0 : Int32)), .unset] []))
    refine own_st (fun _ k => XS.aloadN X59.here hx rfl (hb hby at_142) rfl rfl k) ?_
    show own_go _ _ _ _ _ _ _ (T59.setTop (mkF m 143 #[.val (.int p0), .val (.ref b15), .val (.ref c_CONTAINER), .val (.int (0 : Int32)), .unset] [(.ref c_CONTAINER)]))
    obtain ⟨T60, X60, e60, st60⟩ := getS2 X59 hx hZ hown (host := "") (Or.inl (hw _ (List.mem_of_getElem? (i := 14) rfl))) Via.refl e59 (hS.2.2.2.2.2.2.2.2.2.2.1.ext O54.2) (g := (mkF m 143 #[.val (.int p0), .val (.ref b15), .val (.ref c_CONTAINER), .val (.int (0 : Int32)), .unset] [(.ref c_CONTAINER)])) rfl (hb hby at_143)
    refine own_st st60 ?_
    show own_go _ _ _ _ _ _ _ (T60.setTop (mkF m 146 #[.val (.int p0), .val (.ref b15), .val (.ref c_CONTAINER), .val (.int (0 : Int32)), .unset] [(.ref c_CASE), (.ref c_CONTAINER)]))
    refine own_st (fun _ k => Jvm.RoadKit.acmp (g := (mkF m 146 #[.val (.int p0), .val (.ref b15), .val (.ref c_CONTAINER), .val (.int (0 : Int32)), .unset] [(.ref c_CASE), (.ref c_CONTAINER)])) X60 hx rfl rfl rfl (pc0 := 146) (pc' := 149) (same := false) rfl (hb hby at_146) rfl (decide_eq_false fun q => (own_ne hS.2.2.2.2.2.2.2.2.2.2.2.2.2.2.2.2.2.2.2.2.2.2.2.2.2.2.1 hS.2.2.2.2.2.2.2.2.2.2.2.2.2.2.2.2.2.2.2.2.2.2.2.2.2.2.2.2.2.2.2.2.1 (by decide)) (Value.ref.inj q)) (by decide) (by decide) k) ?_
    show own_go _ _ _ _ _ _ _ (T60.setTop (mkF m 149 #[.val (.int p0), .val (.ref b15), .val (.ref c_CONTAINER), .val (.int (0 : Int32)), .unset] []))
    refine own_st (fun _ k => XS.iloadN X60.here hx rfl (hb hby at_149) rfl k) ?_
    show own_go _ _ _ _ _ _ _ (T60.setTop (mkF m 150 #[.val (.int p0), .val (.ref b15), .val (.ref c_CONTAINER), .val (.int (0 : Int32)), .unset] [(.int (0 : Int32))]))
    refine own_st (fun _ k => XS.ifNo X60.here hx rfl (hb hby at_150) rfl (by decide) k) ?_
    show own_go _ _ _ _ _ _ _ (T60.setTop (mkF m 153 #[.val (.int p0), .val (.ref b15), .val (.ref c_CONTAINER), .val (.int (0 : Int32)), .unset] []))
    refine own_st (fun _ k => XS.iconst X60.here hx rfl (hb hby at_153) k) ?_
    show own_go _ _ _ _ _ _ _ (T60.setTop (mkF m 154 #[.val (.int p0), .val (.ref b15), .val (.ref c_CONTAINER), .val (.int (0 : Int32)), .unset] [(.int (1 : Int32))]))
    refine own_st (fun _ k => XS.goto X60.here hx rfl (pc0 := 154) (pc' := 158) rfl (hb hby at_154) (by decide) (by decide) k) ?_
    show own_go _ _ _ _ _ _ _ (T60.setTop (mkF m 158 #[.val (.int p0), .val (.ref b15), .val (.ref c_CONTAINER), .val (.int (0 : Int32)), .unset] [(.int (1 : Int32))]))
    refine own_st (fun _ k => XS.istore X60.here hx rfl (hb hby at_158) rfl (l' := #[.val (.int p0), .val (.ref b15), .val (.ref c_CONTAINER), .val (.int (0 : Int32)), .val (.int (1 : Int32))]) rfl k) ?_
    show own_go _ _ _ _ _ _ _ (T60.setTop (mkF m 160 #[.val (.int p0), .val (.ref b15), .val (.ref c_CONTAINER), .val (.int (0 : Int32)), .val (.int (1 : Int32))] []))
    refine own_st (fun _ k => XS.aloadN X60.here hx rfl (hb hby at_160) rfl rfl k) ?_
    show own_go _ _ _ _ _ _ _ (T60.setTop (mkF m 161 #[.val (.int p0), .val (.ref b15), .val (.ref c_CONTAINER), .val (.int (0 : Int32)), .val (.int (1 : Int32))] [(.ref c_CONTAINER)]))
    obtain ⟨v61, T61, L61, X61, hQ61, st61⟩ := own_callV X60 hx hZ (argsL := []) (rest := []) (rm1_0 l Z a0 hw c_CONTAINER c_LIST c_LEAF c_LEAF_LIST c_CHOICE c_CASE c_ANYDATA c_ANYXML c_RPC c_ACTION c_INPUT c_OUTPUT c_NOTIFICATION h53 n0 O54 hS) hown (hw _ (List.mem_of_getElem? (i := 31) rfl)) (hw _ (List.mem_of_getElem? (i := 32) rfl)) (notFace_of_selects (args := #[]) (mvT hZ (hw _ (List.mem_of_getElem? (i := 34) rfl)))) (hw _ (List.mem_of_getElem? (i := 34) rfl)) (hw _ (List.mem_of_getElem? (i := 33) rfl)) (hw _ (List.mem_of_getElem? (i := 3) rfl)) (hw _ (List.mem_of_getElem? (i := 35) rfl)) (by decide) e60 (hS.2.1.ext O54.2) (g := (mkF m 161 #[.val (.int p0), .val (.ref b15), .val (.ref c_CONTAINER), .val (.int (0 : Int32)), .val (.int (1 : Int32))] [(.ref c_CONTAINER)])) rfl (by rw [hml]; rfl) (lenOf own_pd__28_29Z rfl) rfl (W := 0) (by show 2 * 0 + _ ≤ _; exact Nat.le_of_eq rfl) (hb hby at_161) (by decide) (by decide) (by decide) (by decide)
    obtain ⟨rfl, Nq61, eq61⟩ := hQ61
    have N61 := Fr.app N53 Nq61
    refine own_st st61 ?_
    show own_go _ _ _ _ _ _ _ (T61.setTop (mkF m 164 #[.val (.int p0), .val (.ref b15), .val (.ref c_CONTAINER), .val (.int (0 : Int32)), .val (.int (1 : Int32))] [(.int (1 : Int32))]))
    refine own_st (fun _ k => XS.iload X61.here hx rfl (hb hby at_164) rfl k) ?_
    show own_go _ _ _ _ _ _ _ (T61.setTop (mkF m 166 #[.val (.int p0), .val (.ref b15), .val (.ref c_CONTAINER), .val (.int (0 : Int32)), .val (.int (1 : Int32))] [(.int (1 : Int32)), (.int (1 : Int32))]))
    refine own_st (fun _ k => XS.icmpNo X61.here hx rfl (hb hby at_166) rfl (by decide) k) ?_
    show own_go _ _ _ _ _ _ _ (T61.setTop (mkF m 169 #[.val (.int p0), .val (.ref b15), .val (.ref c_CONTAINER), .val (.int (0 : Int32)), .val (.int (1 : Int32))] []))
    refine own_st (fun _ k => XS.iconst X61.here hx rfl (hb hby at_169) k) ?_
    show own_go _ _ _ _ _ _ _ (T61.setTop (mkF m 170 #[.val (.int p0), .val (.ref b15), .val (.ref c_CONTAINER), .val (.int (0 : Int32)), .val (.int (1 : Int32))] [(.int (1 : Int32))]))
    refine own_st (fun _ k => XS.goto X61.here hx rfl (pc0 := 170) (pc' := 174) rfl (hb hby at_170) (by decide) (by decide) k) ?_
    show own_go _ _ _ _ _ _ _ (T61.setTop (mkF m 174 #[.val (.int p0), .val (.ref b15), .val (.ref c_CONTAINER), .val (.int (0 : Int32)), .val (.int (1 : Int32))] [(.int (1 : Int32))]))
    exact own_retN X61 hx hlk (t := .boolean) hret (by simp) rfl (hb hby at_174) (by decide) (by decide) (⟨rfl, N61⟩)
  · skip
    rw [q]
    show own_go _ _ _ _ _ _ _ (T53.setTop (mkF m 99 #[.val (.int p0), .val (.ref b15), .unset, .unset, .unset] [(.int (1 : Int32)), (.ref b15)]))
    refine own_st (own_get X53 hx hZ e53 V53 rfl (j := (1 : Int32)) (by decide) (v := (.ref c_LIST)) rfl (g := (mkF m 99 #[.val (.int p0), .val (.ref b15), .unset, .unset, .unset] [(.int (1 : Int32)), (.ref b15)])) rfl rfl (hb hby at_99)) ?_
    show own_go _ _ _ _ _ _ _ (T53.setTop (mkF m 100 #[.val (.int p0), .val (.ref b15), .unset, .unset, .unset] [(.ref c_LIST)]))
    refine own_st (fun _ k => XS.astoreN X53.here hx rfl (hb hby at_100) rfl rfl (l' := #[.val (.int p0), .val (.ref b15), .val (.ref c_LIST), .unset, .unset]) rfl k) ?_
    show own_go _ _ _ _ _ _ _ (T53.setTop (mkF m 101 #[.val (.int p0), .val (.ref b15), .val (.ref c_LIST), .unset, .unset] []))
    refine own_st (fun _ k => XS.aloadN X53.here hx rfl (hb hby at_101) rfl rfl k) ?_
    show own_go _ _ _ _ _ _ _ (T53.setTop (mkF m 102 #[.val (.int p0), .val (.ref b15), .val (.ref c_LIST), .unset, .unset] [(.ref c_LIST)]))
    obtain ⟨T62, X62, e62, st62⟩ := getS2 X53 hx hZ hown (host := "") (Or.inl (hw _ (List.mem_of_getElem? (i := 20) rfl))) Via.refl e53 (hS.2.2.2.2.2.2.2.2.2.2.2.2.2.2.2.2.1.ext O54.2) (g := (mkF m 102 #[.val (.int p0), .val (.ref b15), .val (.ref c_LIST), .unset, .unset] [(.ref c_LIST)])) rfl (hb hby at_102)
    refine own_st st62 ?_
    show own_go _ _ _ _ _ _ _ (T62.setTop (mkF m 105 #[.val (.int p0), .val (.ref b15), .val (.ref c_LIST), .unset, .unset] [(.ref c_RPC), (.ref c_LIST)]))
    refine own_st (fun _ k => Jvm.RoadKit.acmp (g := (mkF m 105 #[.val (.int p0), .val (.ref b15), .val (.ref c_LIST), .unset, .unset] [(.ref c_RPC), (.ref c_LIST)])) X62 hx rfl rfl rfl (pc0 := 105) (pc' := 108) (same := false) rfl (hb hby at_105) rfl (decide_eq_false fun q => (own_ne hS.2.2.2.2.2.2.2.2.2.2.2.2.2.2.2.2.2.2.2.2.2.2.2.2.2.2.2.2.2.2.2.2.2.2.2.2.2.1 hS.2.2.2.2.2.2.2.2.2.2.2.2.2.2.2.2.2.2.2.2.2.2.2.2.2.2.2.1 (by decide)) (Value.ref.inj q)) (by decide) (by decide) k) ?_
    show own_go _ _ _ _ _ _ _ (T62.setTop (mkF m 108 #[.val (.int p0), .val (.ref b15), .val (.ref c_LIST), .unset, .unset] []))
    refine own_st (fun _ k => XS.aloadN X62.here hx rfl (hb hby at_108) rfl rfl k) ?_
    show own_go _ _ _ _ _ _ _ (T62.setTop (mkF m 109 #[.val (.int p0), .val (.ref b15), .val (.ref c_LIST), .unset, .unset] [(.ref c_LIST)]))
    obtain ⟨T63, X63, e63, st63⟩ := getS2 X62 hx hZ hown (host := "") (Or.inl (hw _ (List.mem_of_getElem? (i := 22) rfl))) Via.refl e62 (hS.2.2.2.2.2.2.2.2.2.2.2.2.2.2.2.2.2.2.1.ext O54.2) (g := (mkF m 109 #[.val (.int p0), .val (.ref b15), .val (.ref c_LIST), .unset, .unset] [(.ref c_LIST)])) rfl (hb hby at_109)
    refine own_st st63 ?_
    show own_go _ _ _ _ _ _ _ (T63.setTop (mkF m 112 #[.val (.int p0), .val (.ref b15), .val (.ref c_LIST), .unset, .unset] [(.ref c_ACTION), (.ref c_LIST)]))
    refine own_st (fun _ k => Jvm.RoadKit.acmp (g := (mkF m 112 #[.val (.int p0), .val (.ref b15), .val (.ref c_LIST), .unset, .unset] [(.ref c_ACTION), (.ref c_LIST)])) X63 hx rfl rfl rfl (pc0 := 112) (pc' := 115) (same := false) rfl (hb hby at_112) rfl (decide_eq_false fun q => (own_ne hS.2.2.2.2.2.2.2.2.2.2.2.2.2.2.2.2.2.2.2.2.2.2.2.2.2.2.2.2.2.2.2.2.2.2.2.2.2.1 hS.2.2.2.2.2.2.2.2.2.2.2.2.2.2.2.2.2.2.2.2.2.2.2.2.2.2.2.2.1 (by decide)) (Value.ref.inj q)) (by decide) (by decide) k) ?_
    show own_go _ _ _ _ _ _ _ (T63.setTop (mkF m 115 #[.val (.int p0), .val (.ref b15), .val (.ref c_LIST), .unset, .unset] []))
    refine own_st (fun _ k => XS.aloadN X63.here hx rfl (hb hby at_115) rfl rfl k) ?_
    show own_go _ _ _ _ _ _ _ (T63.setTop (mkF m 116 #[.val (.int p0), .val (.ref b15), .val (.ref c_LIST), .unset, .unset] [(.ref c_LIST)]))
    obtain ⟨T64, X64, e64, st64⟩ := getS2 X63 hx hZ hown (host := "") (Or.inl (hw _ (List.mem_of_getElem? (i := 24) rfl))) Via.refl e63 (hS.2.2.2.2.2.2.2.2.2.2.2.2.2.2.2.2.2.2.2.2.1.ext O54.2) (g := (mkF m 116 #[.val (.int p0), .val (.ref b15), .val (.ref c_LIST), .unset, .unset] [(.ref c_LIST)])) rfl (hb hby at_116)
    refine own_st st64 ?_
    show own_go _ _ _ _ _ _ _ (T64.setTop (mkF m 119 #[.val (.int p0), .val (.ref b15), .val (.ref c_LIST), .unset, .unset] [(.ref c_INPUT), (.ref c_LIST)]))
    refine own_st (fun _ k => Jvm.RoadKit.acmp (g := (mkF m 119 #[.val (.int p0), .val (.ref b15), .val (.ref c_LIST), .unset, .unset] [(.ref c_INPUT), (.ref c_LIST)])) X64 hx rfl rfl rfl (pc0 := 119) (pc' := 122) (same := false) rfl (hb hby at_119) rfl (decide_eq_false fun q => (own_ne hS.2.2.2.2.2.2.2.2.2.2.2.2.2.2.2.2.2.2.2.2.2.2.2.2.2.2.2.2.2.2.2.2.2.2.2.2.2.1 hS.2.2.2.2.2.2.2.2.2.2.2.2.2.2.2.2.2.2.2.2.2.2.2.2.2.2.2.2.2.1 (by decide)) (Value.ref.inj q)) (by decide) (by decide) k) ?_
    show own_go _ _ _ _ _ _ _ (T64.setTop (mkF m 122 #[.val (.int p0), .val (.ref b15), .val (.ref c_LIST), .unset, .unset] []))
    refine own_st (fun _ k => XS.aloadN X64.here hx rfl (hb hby at_122) rfl rfl k) ?_
    show own_go _ _ _ _ _ _ _ (T64.setTop (mkF m 123 #[.val (.int p0), .val (.ref b15), .val (.ref c_LIST), .unset, .unset] [(.ref c_LIST)]))
    obtain ⟨T65, X65, e65, st65⟩ := getS2 X64 hx hZ hown (host := "") (Or.inl (hw _ (List.mem_of_getElem? (i := 26) rfl))) Via.refl e64 (hS.2.2.2.2.2.2.2.2.2.2.2.2.2.2.2.2.2.2.2.2.2.2.1.ext O54.2) (g := (mkF m 123 #[.val (.int p0), .val (.ref b15), .val (.ref c_LIST), .unset, .unset] [(.ref c_LIST)])) rfl (hb hby at_123)
    refine own_st st65 ?_
    show own_go _ _ _ _ _ _ _ (T65.setTop (mkF m 126 #[.val (.int p0), .val (.ref b15), .val (.ref c_LIST), .unset, .unset] [(.ref c_OUTPUT), (.ref c_LIST)]))
    refine own_st (fun _ k => Jvm.RoadKit.acmp (g := (mkF m 126 #[.val (.int p0), .val (.ref b15), .val (.ref c_LIST), .unset, .unset] [(.ref c_OUTPUT), (.ref c_LIST)])) X65 hx rfl rfl rfl (pc0 := 126) (pc' := 129) (same := false) rfl (hb hby at_126) rfl (decide_eq_false fun q => (own_ne hS.2.2.2.2.2.2.2.2.2.2.2.2.2.2.2.2.2.2.2.2.2.2.2.2.2.2.2.2.2.2.2.2.2.2.2.2.2.1 hS.2.2.2.2.2.2.2.2.2.2.2.2.2.2.2.2.2.2.2.2.2.2.2.2.2.2.2.2.2.2.1 (by decide)) (Value.ref.inj q)) (by decide) (by decide) k) ?_
    show own_go _ _ _ _ _ _ _ (T65.setTop (mkF m 129 #[.val (.int p0), .val (.ref b15), .val (.ref c_LIST), .unset, .unset] []))
    refine own_st (fun _ k => XS.aloadN X65.here hx rfl (hb hby at_129) rfl rfl k) ?_
    show own_go _ _ _ _ _ _ _ (T65.setTop (mkF m 130 #[.val (.int p0), .val (.ref b15), .val (.ref c_LIST), .unset, .unset] [(.ref c_LIST)]))
    obtain ⟨T66, X66, e66, st66⟩ := getS2 X65 hx hZ hown (host := "") (Or.inl (hw _ (List.mem_of_getElem? (i := 28) rfl))) Via.refl e65 (hS.2.2.2.2.2.2.2.2.2.2.2.2.2.2.2.2.2.2.2.2.2.2.2.2.1.ext O54.2) (g := (mkF m 130 #[.val (.int p0), .val (.ref b15), .val (.ref c_LIST), .unset, .unset] [(.ref c_LIST)])) rfl (hb hby at_130)
    refine own_st st66 ?_
    show own_go _ _ _ _ _ _ _ (T66.setTop (mkF m 133 #[.val (.int p0), .val (.ref b15), .val (.ref c_LIST), .unset, .unset] [(.ref c_NOTIFICATION), (.ref c_LIST)]))
    refine own_st (fun _ k => Jvm.RoadKit.acmp (g := (mkF m 133 #[.val (.int p0), .val (.ref b15), .val (.ref c_LIST), .unset, .unset] [(.ref c_NOTIFICATION), (.ref c_LIST)])) X66 hx rfl rfl rfl (pc0 := 133) (pc' := 140) (same := false) rfl (hb hby at_133) rfl (decide_eq_false fun q => (own_ne hS.2.2.2.2.2.2.2.2.2.2.2.2.2.2.2.2.2.2.2.2.2.2.2.2.2.2.2.2.2.2.2.2.2.2.2.2.2.1 hS.2.2.2.2.2.2.2.2.2.2.2.2.2.2.2.2.2.2.2.2.2.2.2.2.2.2.2.2.2.2.2.1 (by decide)) (Value.ref.inj q)) (by decide) (by decide) k) ?_
    show own_go _ _ _ _ _ _ _ (T66.setTop (mkF m 140 #[.val (.int p0), .val (.ref b15), .val (.ref c_LIST), .unset, .unset] []))
    refine own_st (fun _ k => XS.iconst X66.here hx rfl (hb hby at_140) k) ?_
    show own_go _ _ _ _ _ _ _ (T66.setTop (mkF m 141 #[.val (.int p0), .val (.ref b15), .val (.ref c_LIST), .unset, .unset] [(.int (0 : Int32))]))
    refine own_st (fun _ k => XS.istoreN X66.here hx rfl (hb hby at_141) rfl (l' := #[.val (.int p0), .val (.ref b15), .val (.ref c_LIST), .val (.int (0 : Int32)), .unset]) rfl k) ?_
    show own_go _ _ _ _ _ _ _ (T66.setTop (mkF m 142 #[.val (.int p0), .val (.ref b15), .val (.ref c_LIST), .val (.int (0 : Int32)), .unset] []))
    refine own_st (fun _ k => XS.aloadN X66.here hx rfl (hb hby at_142) rfl rfl k) ?_
    show own_go _ _ _ _ _ _ _ (T66.setTop (mkF m 143 #[.val (.int p0), .val (.ref b15), .val (.ref c_LIST), .val (.int (0 : Int32)), .unset] [(.ref c_LIST)]))
    obtain ⟨T67, X67, e67, st67⟩ := getS2 X66 hx hZ hown (host := "") (Or.inl (hw _ (List.mem_of_getElem? (i := 14) rfl))) Via.refl e66 (hS.2.2.2.2.2.2.2.2.2.2.1.ext O54.2) (g := (mkF m 143 #[.val (.int p0), .val (.ref b15), .val (.ref c_LIST), .val (.int (0 : Int32)), .unset] [(.ref c_LIST)])) rfl (hb hby at_143)
    refine own_st st67 ?_
    show own_go _ _ _ _ _ _ _ (T67.setTop (mkF m 146 #[.val (.int p0), .val (.ref b15), .val (.ref c_LIST), .val (.int (0 : Int32)), .unset] [(.ref c_CASE), (.ref c_LIST)]))
    refine own_st (fun _ k => Jvm.RoadKit.acmp (g := (mkF m 146 #[.val (.int p0), .val (.ref b15), .val (.ref c_LIST), .val (.int (0 : Int32)), .unset] [(.ref c_CASE), (.ref c_LIST)])) X67 hx rfl rfl rfl (pc0 := 146) (pc' := 149) (same := false) rfl (hb hby at_146) rfl (decide_eq_false fun q => (own_ne hS.2.2.2.2.2.2.2.2.2.2.2.2.2.2.2.2.2.2.2.2.2.2.2.2.2.2.2.2.2.2.2.2.2.2.2.2.2.1 hS.2.2.2.2.2.2.2.2.2.2.2.2.2.2.2.2.2.2.2.2.2.2.2.2.2.2.2.2.2.2.2.2.1 (by decide)) (Value.ref.inj q)) (by decide) (by decide) k) ?_
    show own_go _ _ _ _ _ _ _ (T67.setTop (mkF m 149 #[.val (.int p0), .val (.ref b15), .val (.ref c_LIST), .val (.int (0 : Int32)), .unset] []))
    refine own_st (fun _ k => XS.iloadN X67.here hx rfl (hb hby at_149) rfl k) ?_
    show own_go _ _ _ _ _ _ _ (T67.setTop (mkF m 150 #[.val (.int p0), .val (.ref b15), .val (.ref c_LIST), .val (.int (0 : Int32)), .unset] [(.int (0 : Int32))]))
    refine own_st (fun _ k => XS.ifNo X67.here hx rfl (hb hby at_150) rfl (by decide) k) ?_
    show own_go _ _ _ _ _ _ _ (T67.setTop (mkF m 153 #[.val (.int p0), .val (.ref b15), .val (.ref c_LIST), .val (.int (0 : Int32)), .unset] []))
    refine own_st (fun _ k => XS.iconst X67.here hx rfl (hb hby at_153) k) ?_
    show own_go _ _ _ _ _ _ _ (T67.setTop (mkF m 154 #[.val (.int p0), .val (.ref b15), .val (.ref c_LIST), .val (.int (0 : Int32)), .unset] [(.int (1 : Int32))]))
    refine own_st (fun _ k => XS.goto X67.here hx rfl (pc0 := 154) (pc' := 158) rfl (hb hby at_154) (by decide) (by decide) k) ?_
    show own_go _ _ _ _ _ _ _ (T67.setTop (mkF m 158 #[.val (.int p0), .val (.ref b15), .val (.ref c_LIST), .val (.int (0 : Int32)), .unset] [(.int (1 : Int32))]))
    refine own_st (fun _ k => XS.istore X67.here hx rfl (hb hby at_158) rfl (l' := #[.val (.int p0), .val (.ref b15), .val (.ref c_LIST), .val (.int (0 : Int32)), .val (.int (1 : Int32))]) rfl k) ?_
    show own_go _ _ _ _ _ _ _ (T67.setTop (mkF m 160 #[.val (.int p0), .val (.ref b15), .val (.ref c_LIST), .val (.int (0 : Int32)), .val (.int (1 : Int32))] []))
    refine own_st (fun _ k => XS.aloadN X67.here hx rfl (hb hby at_160) rfl rfl k) ?_
    show own_go _ _ _ _ _ _ _ (T67.setTop (mkF m 161 #[.val (.int p0), .val (.ref b15), .val (.ref c_LIST), .val (.int (0 : Int32)), .val (.int (1 : Int32))] [(.ref c_LIST)]))
    obtain ⟨v68, T68, L68, X68, hQ68, st68⟩ := own_callV X67 hx hZ (argsL := []) (rest := []) (rm1_1 l Z a0 hw c_CONTAINER c_LIST c_LEAF c_LEAF_LIST c_CHOICE c_CASE c_ANYDATA c_ANYXML c_RPC c_ACTION c_INPUT c_OUTPUT c_NOTIFICATION h53 n0 O54 hS) hown (hw _ (List.mem_of_getElem? (i := 31) rfl)) (hw _ (List.mem_of_getElem? (i := 32) rfl)) (notFace_of_selects (args := #[]) (mvT hZ (hw _ (List.mem_of_getElem? (i := 34) rfl)))) (hw _ (List.mem_of_getElem? (i := 34) rfl)) (hw _ (List.mem_of_getElem? (i := 33) rfl)) (hw _ (List.mem_of_getElem? (i := 3) rfl)) (hw _ (List.mem_of_getElem? (i := 35) rfl)) (by decide) e67 (hS.2.2.2.1.ext O54.2) (g := (mkF m 161 #[.val (.int p0), .val (.ref b15), .val (.ref c_LIST), .val (.int (0 : Int32)), .val (.int (1 : Int32))] [(.ref c_LIST)])) rfl (by rw [hml]; rfl) (lenOf own_pd__28_29Z rfl) rfl (W := 0) (by show 2 * 0 + _ ≤ _; exact Nat.le_of_eq rfl) (hb hby at_161) (by decide) (by decide) (by decide) (by decide)
    obtain ⟨rfl, Nq68, eq68⟩ := hQ68
    have N68 := Fr.app N53 Nq68
    refine own_st st68 ?_
    show own_go _ _ _ _ _ _ _ (T68.setTop (mkF m 164 #[.val (.int p0), .val (.ref b15), .val (.ref c_LIST), .val (.int (0 : Int32)), .val (.int (1 : Int32))] [(.int (1 : Int32))]))
    refine own_st (fun _ k => XS.iload X68.here hx rfl (hb hby at_164) rfl k) ?_
    show own_go _ _ _ _ _ _ _ (T68.setTop (mkF m 166 #[.val (.int p0), .val (.ref b15), .val (.ref c_LIST), .val (.int (0 : Int32)), .val (.int (1 : Int32))] [(.int (1 : Int32)), (.int (1 : Int32))]))
    refine own_st (fun _ k => XS.icmpNo X68.here hx rfl (hb hby at_166) rfl (by decide) k) ?_
    show own_go _ _ _ _ _ _ _ (T68.setTop (mkF m 169 #[.val (.int p0), .val (.ref b15), .val (.ref c_LIST), .val (.int (0 : Int32)), .val (.int (1 : Int32))] []))
    refine own_st (fun _ k => XS.iconst X68.here hx rfl (hb hby at_169) k) ?_
    show own_go _ _ _ _ _ _ _ (T68.setTop (mkF m 170 #[.val (.int p0), .val (.ref b15), .val (.ref c_LIST), .val (.int (0 : Int32)), .val (.int (1 : Int32))] [(.int (1 : Int32))]))
    refine own_st (fun _ k => XS.goto X68.here hx rfl (pc0 := 170) (pc' := 174) rfl (hb hby at_170) (by decide) (by decide) k) ?_
    show own_go _ _ _ _ _ _ _ (T68.setTop (mkF m 174 #[.val (.int p0), .val (.ref b15), .val (.ref c_LIST), .val (.int (0 : Int32)), .val (.int (1 : Int32))] [(.int (1 : Int32))]))
    exact own_retN X68 hx hlk (t := .boolean) hret (by simp) rfl (hb hby at_174) (by decide) (by decide) (⟨rfl, N68⟩)
  · skip
    rw [q]
    show own_go _ _ _ _ _ _ _ (T53.setTop (mkF m 99 #[.val (.int p0), .val (.ref b15), .unset, .unset, .unset] [(.int (2 : Int32)), (.ref b15)]))
    refine own_st (own_get X53 hx hZ e53 V53 rfl (j := (2 : Int32)) (by decide) (v := (.ref c_LEAF)) rfl (g := (mkF m 99 #[.val (.int p0), .val (.ref b15), .unset, .unset, .unset] [(.int (2 : Int32)), (.ref b15)])) rfl rfl (hb hby at_99)) ?_
    show own_go _ _ _ _ _ _ _ (T53.setTop (mkF m 100 #[.val (.int p0), .val (.ref b15), .unset, .unset, .unset] [(.ref c_LEAF)]))
    refine own_st (fun _ k => XS.astoreN X53.here hx rfl (hb hby at_100) rfl rfl (l' := #[.val (.int p0), .val (.ref b15), .val (.ref c_LEAF), .unset, .unset]) rfl k) ?_
    show own_go _ _ _ _ _ _ _ (T53.setTop (mkF m 101 #[.val (.int p0), .val (.ref b15), .val (.ref c_LEAF), .unset, .unset] []))
    refine own_st (fun _ k => XS.aloadN X53.here hx rfl (hb hby at_101) rfl rfl k) ?_
    show own_go _ _ _ _ _ _ _ (T53.setTop (mkF m 102 #[.val (.int p0), .val (.ref b15), .val (.ref c_LEAF), .unset, .unset] [(.ref c_LEAF)]))
    obtain ⟨T69, X69, e69, st69⟩ := getS2 X53 hx hZ hown (host := "") (Or.inl (hw _ (List.mem_of_getElem? (i := 20) rfl))) Via.refl e53 (hS.2.2.2.2.2.2.2.2.2.2.2.2.2.2.2.2.1.ext O54.2) (g := (mkF m 102 #[.val (.int p0), .val (.ref b15), .val (.ref c_LEAF), .unset, .unset] [(.ref c_LEAF)])) rfl (hb hby at_102)
    refine own_st st69 ?_
    show own_go _ _ _ _ _ _ _ (T69.setTop (mkF m 105 #[.val (.int p0), .val (.ref b15), .val (.ref c_LEAF), .unset, .unset] [(.ref c_RPC), (.ref c_LEAF)]))
    refine own_st (fun _ k => Jvm.RoadKit.acmp (g := (mkF m 105 #[.val (.int p0), .val (.ref b15), .val (.ref c_LEAF), .unset, .unset] [(.ref c_RPC), (.ref c_LEAF)])) X69 hx rfl rfl rfl (pc0 := 105) (pc' := 108) (same := false) rfl (hb hby at_105) rfl (decide_eq_false fun q => (own_ne hS.2.2.2.2.2.2.2.2.2.2.2.2.2.2.2.2.2.2.2.2.2.2.2.2.2.2.2.2.2.2.2.2.2.2.2.2.1 hS.2.2.2.2.2.2.2.2.2.2.2.2.2.2.2.2.2.2.2.2.2.2.2.2.2.2.2.1 (by decide)) (Value.ref.inj q)) (by decide) (by decide) k) ?_
    show own_go _ _ _ _ _ _ _ (T69.setTop (mkF m 108 #[.val (.int p0), .val (.ref b15), .val (.ref c_LEAF), .unset, .unset] []))
    refine own_st (fun _ k => XS.aloadN X69.here hx rfl (hb hby at_108) rfl rfl k) ?_
    show own_go _ _ _ _ _ _ _ (T69.setTop (mkF m 109 #[.val (.int p0), .val (.ref b15), .val (.ref c_LEAF), .unset, .unset] [(.ref c_LEAF)]))
    obtain ⟨T70, X70, e70, st70⟩ := getS2 X69 hx hZ hown (host := "") (Or.inl (hw _ (List.mem_of_getElem? (i := 22) rfl))) Via.refl e69 (hS.2.2.2.2.2.2.2.2.2.2.2.2.2.2.2.2.2.2.1.ext O54.2) (g := (mkF m 109 #[.val (.int p0), .val (.ref b15), .val (.ref c_LEAF), .unset, .unset] [(.ref c_LEAF)])) rfl (hb hby at_109)
    refine own_st st70 ?_
    show own_go _ _ _ _ _ _ _ (T70.setTop (mkF m 112 #[.val (.int p0), .val (.ref b15), .val (.ref c_LEAF), .unset, .unset] [(.ref c_ACTION), (.ref c_LEAF)]))
    refine own_st (fun _ k => Jvm.RoadKit.acmp (g := (mkF m 112 #[.val (.int p0), .val (.ref b15), .val (.ref c_LEAF), .unset, .unset] [(.ref c_ACTION), (.ref c_LEAF)])) X70 hx rfl rfl rfl (pc0 := 112) (pc' := 115) (same := false) rfl (hb hby at_112) rfl (decide_eq_false fun q => (own_ne hS.2.2.2.2.2.2.2.2.2.2.2.2.2.2.2.2.2.2.2.2.2.2.2.2.2.2.2.2.2.2.2.2.2.2.2.2.1 hS.2.2.2.2.2.2.2.2.2.2.2.2.2.2.2.2.2.2.2.2.2.2.2.2.2.2.2.2.1 (by decide)) (Value.ref.inj q)) (by decide) (by decide) k) ?_
    show own_go _ _ _ _ _ _ _ (T70.setTop (mkF m 115 #[.val (.int p0), .val (.ref b15), .val (.ref c_LEAF), .unset, .unset] []))
    refine own_st (fun _ k => XS.aloadN X70.here hx rfl (hb hby at_115) rfl rfl k) ?_
    show own_go _ _ _ _ _ _ _ (T70.setTop (mkF m 116 #[.val (.int p0), .val (.ref b15), .val (.ref c_LEAF), .unset, .unset] [(.ref c_LEAF)]))
    obtain ⟨T71, X71, e71, st71⟩ := getS2 X70 hx hZ hown (host := "") (Or.inl (hw _ (List.mem_of_getElem? (i := 24) rfl))) Via.refl e70 (hS.2.2.2.2.2.2.2.2.2.2.2.2.2.2.2.2.2.2.2.2.1.ext O54.2) (g := (mkF m 116 #[.val (.int p0), .val (.ref b15), .val (.ref c_LEAF), .unset, .unset] [(.ref c_LEAF)])) rfl (hb hby at_116)
    refine own_st st71 ?_
    show own_go _ _ _ _ _ _ _ (T71.setTop (mkF m 119 #[.val (.int p0), .val (.ref b15), .val (.ref c_LEAF), .unset, .unset] [(.ref c_INPUT), (.ref c_LEAF)]))
    refine own_st (fun _ k => Jvm.RoadKit.acmp (g := (mkF m 119 #[.val (.int p0), .val (.ref b15), .val (.ref c_LEAF), .unset, .unset] [(.ref c_INPUT), (.ref c_LEAF)])) X71 hx rfl rfl rfl (pc0 := 119) (pc' := 122) (same := false) rfl (hb hby at_119) rfl (decide_eq_false fun q => (own_ne hS.2.2.2.2.2.2.2.2.2.2.2.2.2.2.2.2.2.2.2.2.2.2.2.2.2.2.2.2.2.2.2.2.2.2.2.2.1 hS.2.2.2.2.2.2.2.2.2.2.2.2.2.2.2.2.2.2.2.2.2.2.2.2.2.2.2.2.2.1 (by decide)) (Value.ref.inj q)) (by decide) (by decide) k) ?_
    show own_go _ _ _ _ _ _ _ (T71.setTop (mkF m 122 #[.val (.int p0), .val (.ref b15), .val (.ref c_LEAF), .unset, .unset] []))
    refine own_st (fun _ k => XS.aloadN X71.here hx rfl (hb hby at_122) rfl rfl k) ?_
    show own_go _ _ _ _ _ _ _ (T71.setTop (mkF m 123 #[.val (.int p0), .val (.ref b15), .val (.ref c_LEAF), .unset, .unset] [(.ref c_LEAF)]))
    obtain ⟨T72, X72, e72, st72⟩ := getS2 X71 hx hZ hown (host := "") (Or.inl (hw _ (List.mem_of_getElem? (i := 26) rfl))) Via.refl e71 (hS.2.2.2.2.2.2.2.2.2.2.2.2.2.2.2.2.2.2.2.2.2.2.1.ext O54.2) (g := (mkF m 123 #[.val (.int p0), .val (.ref b15), .val (.ref c_LEAF), .unset, .unset] [(.ref c_LEAF)])) rfl (hb hby at_123)
    refine own_st st72 ?_
    show own_go _ _ _ _ _ _ _ (T72.setTop (mkF m 126 #[.val (.int p0), .val (.ref b15), .val (.ref c_LEAF), .unset, .unset] [(.ref c_OUTPUT), (.ref c_LEAF)]))
    refine own_st (fun _ k => Jvm.RoadKit.acmp (g := (mkF m 126 #[.val (.int p0), .val (.ref b15), .val (.ref c_LEAF), .unset, .unset] [(.ref c_OUTPUT), (.ref c_LEAF)])) X72 hx rfl rfl rfl (pc0 := 126) (pc' := 129) (same := false) rfl (hb hby at_126) rfl (decide_eq_false fun q => (own_ne hS.2.2.2.2.2.2.2.2.2.2.2.2.2.2.2.2.2.2.2.2.2.2.2.2.2.2.2.2.2.2.2.2.2.2.2.2.1 hS.2.2.2.2.2.2.2.2.2.2.2.2.2.2.2.2.2.2.2.2.2.2.2.2.2.2.2.2.2.2.1 (by decide)) (Value.ref.inj q)) (by decide) (by decide) k) ?_
    show own_go _ _ _ _ _ _ _ (T72.setTop (mkF m 129 #[.val (.int p0), .val (.ref b15), .val (.ref c_LEAF), .unset, .unset] []))
    refine own_st (fun _ k => XS.aloadN X72.here hx rfl (hb hby at_129) rfl rfl k) ?_
    show own_go _ _ _ _ _ _ _ (T72.setTop (mkF m 130 #[.val (.int p0), .val (.ref b15), .val (.ref c_LEAF), .unset, .unset] [(.ref c_LEAF)]))
    obtain ⟨T73, X73, e73, st73⟩ := getS2 X72 hx hZ hown (host := "") (Or.inl (hw _ (List.mem_of_getElem? (i := 28) rfl))) Via.refl e72 (hS.2.2.2.2.2.2.2.2.2.2.2.2.2.2.2.2.2.2.2.2.2.2.2.2.1.ext O54.2) (g := (mkF m 130 #[.val (.int p0), .val (.ref b15), .val (.ref c_LEAF), .unset, .unset] [(.ref c_LEAF)])) rfl (hb hby at_130)
    refine own_st st73 ?_
    show own_go _ _ _ _ _ _ _ (T73.setTop (mkF m 133 #[.val (.int p0), .val (.ref b15), .val (.ref c_LEAF), .unset, .unset] [(.ref c_NOTIFICATION), (.ref c_LEAF)]))
    refine own_st (fun _ k => Jvm.RoadKit.acmp (g := (mkF m 133 #[.val (.int p0), .val (.ref b15), .val (.ref c_LEAF), .unset, .unset] [(.ref c_NOTIFICATION), (.ref c_LEAF)])) X73 hx rfl rfl rfl (pc0 := 133) (pc' := 140) (same := false) rfl (hb hby at_133) rfl (decide_eq_false fun q => (own_ne hS.2.2.2.2.2.2.2.2.2.2.2.2.2.2.2.2.2.2.2.2.2.2.2.2.2.2.2.2.2.2.2.2.2.2.2.2.1 hS.2.2.2.2.2.2.2.2.2.2.2.2.2.2.2.2.2.2.2.2.2.2.2.2.2.2.2.2.2.2.2.1 (by decide)) (Value.ref.inj q)) (by decide) (by decide) k) ?_
    show own_go _ _ _ _ _ _ _ (T73.setTop (mkF m 140 #[.val (.int p0), .val (.ref b15), .val (.ref c_LEAF), .unset, .unset] []))
    refine own_st (fun _ k => XS.iconst X73.here hx rfl (hb hby at_140) k) ?_
    show own_go _ _ _ _ _ _ _ (T73.setTop (mkF m 141 #[.val (.int p0), .val (.ref b15), .val (.ref c_LEAF), .unset, .unset] [(.int (0 : Int32))]))
    refine own_st (fun _ k => XS.istoreN X73.here hx rfl (hb hby at_141) rfl (l' := #[.val (.int p0), .val (.ref b15), .val (.ref c_LEAF), .val (.int (0 : Int32)), .unset]) rfl k) ?_
    show own_go _ _ _ _ _ _ _ (T73.setTop (mkF m 142 #[.val (.int p0), .val (.ref b15), .val (.ref c_LEAF), .val (.int (0 : Int32)), .unset] []))
    refine own_st (fun _ k => XS.aloadN X73.here hx rfl (hb hby at_142) rfl rfl k) ?_
    show own_go _ _ _ _ _ _ _ (T73.setTop (mkF m 143 #[.val (.int p0), .val (.ref b15), .val (.ref c_LEAF), .val (.int (0 : Int32)), .unset] [(.ref c_LEAF)]))
    obtain ⟨T74, X74, e74, st74⟩ := getS2 X73 hx hZ hown (host := "") (Or.inl (hw _ (List.mem_of_getElem? (i := 14) rfl))) Via.refl e73 (hS.2.2.2.2.2.2.2.2.2.2.1.ext O54.2) (g := (mkF m 143 #[.val (.int p0), .val (.ref b15), .val (.ref c_LEAF), .val (.int (0 : Int32)), .unset] [(.ref c_LEAF)])) rfl (hb hby at_143)
    refine own_st st74 ?_
    show own_go _ _ _ _ _ _ _ (T74.setTop (mkF m 146 #[.val (.int p0), .val (.ref b15), .val (.ref c_LEAF), .val (.int (0 : Int32)), .unset] [(.ref c_CASE), (.ref c_LEAF)]))
    refine own_st (fun _ k => Jvm.RoadKit.acmp (g := (mkF m 146 #[.val (.int p0), .val (.ref b15), .val (.ref c_LEAF), .val (.int (0 : Int32)), .unset] [(.ref c_CASE), (.ref c_LEAF)])) X74 hx rfl rfl rfl (pc0 := 146) (pc' := 149) (same := false) rfl (hb hby at_146) rfl (decide_eq_false fun q => (own_ne hS.2.2.2.2.2.2.2.2.2.2.2.2.2.2.2.2.2.2.2.2.2.2.2.2.2.2.2.2.2.2.2.2.2.2.2.2.1 hS.2.2.2.2.2.2.2.2.2.2.2.2.2.2.2.2.2.2.2.2.2.2.2.2.2.2.2.2.2.2.2.2.1 (by decide)) (Value.ref.inj q)) (by decide) (by decide) k) ?_
    show own_go _ _ _ _ _ _ _ (T74.setTop (mkF m 149 #[.val (.int p0), .val (.ref b15), .val (.ref c_LEAF), .val (.int (0 : Int32)), .unset] []))
    refine own_st (fun _ k => XS.iloadN X74.here hx rfl (hb hby at_149) rfl k) ?_
    show own_go _ _ _ _ _ _ _ (T74.setTop (mkF m 150 #[.val (.int p0), .val (.ref b15), .val (.ref c_LEAF), .val (.int (0 : Int32)), .unset] [(.int (0 : Int32))]))
    refine own_st (fun _ k => XS.ifNo X74.here hx rfl (hb hby at_150) rfl (by decide) k) ?_
    show own_go _ _ _ _ _ _ _ (T74.setTop (mkF m 153 #[.val (.int p0), .val (.ref b15), .val (.ref c_LEAF), .val (.int (0 : Int32)), .unset] []))
    refine own_st (fun _ k => XS.iconst X74.here hx rfl (hb hby at_153) k) ?_
    show own_go _ _ _ _ _ _ _ (T74.setTop (mkF m 154 #[.val (.int p0), .val (.ref b15), .val (.ref c_LEAF), .val (.int (0 : Int32)), .unset] [(.int (1 : Int32))]))
    refine own_st (fun _ k => XS.goto X74.here hx rfl (pc0 := 154) (pc' := 158) rfl (hb hby at_154) (by decide) (by decide) k) ?_
    show own_go _ _ _ _ _ _ _ (T74.setTop (mkF m 158 #[.val (.int p0), .val (.ref b15), .val (.ref c_LEAF), .val (.int (0 : Int32)), .unset] [(.int (1 : Int32))]))
    refine own_st (fun _ k => XS.istore X74.here hx rfl (hb hby at_158) rfl (l' := #[.val (.int p0), .val (.ref b15), .val (.ref c_LEAF), .val (.int (0 : Int32)), .val (.int (1 : Int32))]) rfl k) ?_
    show own_go _ _ _ _ _ _ _ (T74.setTop (mkF m 160 #[.val (.int p0), .val (.ref b15), .val (.ref c_LEAF), .val (.int (0 : Int32)), .val (.int (1 : Int32))] []))
    refine own_st (fun _ k => XS.aloadN X74.here hx rfl (hb hby at_160) rfl rfl k) ?_
    show own_go _ _ _ _ _ _ _ (T74.setTop (mkF m 161 #[.val (.int p0), .val (.ref b15), .val (.ref c_LEAF), .val (.int (0 : Int32)), .val (.int (1 : Int32))] [(.ref c_LEAF)]))
    obtain ⟨v75, T75, L75, X75, hQ75, st75⟩ := own_callV X74 hx hZ (argsL := []) (rest := []) (rm1_2 l Z a0 hw c_CONTAINER c_LIST c_LEAF c_LEAF_LIST c_CHOICE c_CASE c_ANYDATA c_ANYXML c_RPC c_ACTION c_INPUT c_OUTPUT c_NOTIFICATION h53 n0 O54 hS) hown (hw _ (List.mem_of_getElem? (i := 31) rfl)) (hw _ (List.mem_of_getElem? (i := 32) rfl)) (notFace_of_selects (args := #[]) (mvT hZ (hw _ (List.mem_of_getElem? (i := 34) rfl)))) (hw _ (List.mem_of_getElem? (i := 34) rfl)) (hw _ (List.mem_of_getElem? (i := 33) rfl)) (hw _ (List.mem_of_getElem? (i := 3) rfl)) (hw _ (List.mem_of_getElem? (i := 35) rfl)) (by decide) e74 (hS.2.2.2.2.2.1.ext O54.2) (g := (mkF m 161 #[.val (.int p0), .val (.ref b15), .val (.ref c_LEAF), .val (.int (0 : Int32)), .val (.int (1 : Int32))] [(.ref c_LEAF)])) rfl (by rw [hml]; rfl) (lenOf own_pd__28_29Z rfl) rfl (W := 0) (by show 2 * 0 + _ ≤ _; exact Nat.le_of_eq rfl) (hb hby at_161) (by decide) (by decide) (by decide) (by decide)
    obtain ⟨rfl, Nq75, eq75⟩ := hQ75
    have N75 := Fr.app N53 Nq75
    refine own_st st75 ?_
    show own_go _ _ _ _ _ _ _ (T75.setTop (mkF m 164 #[.val (.int p0), .val (.ref b15), .val (.ref c_LEAF), .val (.int (0 : Int32)), .val (.int (1 : Int32))] [(.int (1 : Int32))]))
    refine own_st (fun _ k => XS.iload X75.here hx rfl (hb hby at_164) rfl k) ?_
    show own_go _ _ _ _ _ _ _ (T75.setTop (mkF m 166 #[.val (.int p0), .val (.ref b15), .val (.ref c_LEAF), .val (.int (0 : Int32)), .val (.int (1 : Int32))] [(.int (1 : Int32)), (.int (1 : Int32))]))
    refine own_st (fun _ k => XS.icmpNo X75.here hx rfl (hb hby at_166) rfl (by decide) k) ?_
    show own_go _ _ _ _ _ _ _ (T75.setTop (mkF m 169 #[.val (.int p0), .val (.ref b15), .val (.ref c_LEAF), .val (.int (0 : Int32)), .val (.int (1 : Int32))] []))
    refine own_st (fun _ k => XS.iconst X75.here hx rfl (hb hby at_169) k) ?_
    show own_go _ _ _ _ _ _ _ (T75.setTop (mkF m 170 #[.val (.int p0), .val (.ref b15), .val (.ref c_LEAF), .val (.int (0 : Int32)), .val (.int (1 : Int32))] [(.int (1 : Int32))]))
    refine own_st (fun _ k => XS.goto X75.here hx rfl (pc0 := 170) (pc' := 174) rfl (hb hby at_170) (by decide) (by decide) k) ?_
    show own_go _ _ _ _ _ _ _ (T75.setTop (mkF m 174 #[.val (.int p0), .val (.ref b15), .val (.ref c_LEAF), .val (.int (0 : Int32)), .val (.int (1 : Int32))] [(.int (1 : Int32))]))
    exact own_retN X75 hx hlk (t := .boolean) hret (by simp) rfl (hb hby at_174) (by decide) (by decide) (⟨rfl, N75⟩)
  · skip
    rw [q]
    show own_go _ _ _ _ _ _ _ (T53.setTop (mkF m 99 #[.val (.int p0), .val (.ref b15), .unset, .unset, .unset] [(.int (3 : Int32)), (.ref b15)]))
    refine own_st (own_get X53 hx hZ e53 V53 rfl (j := (3 : Int32)) (by decide) (v := (.ref c_LEAF_LIST)) rfl (g := (mkF m 99 #[.val (.int p0), .val (.ref b15), .unset, .unset, .unset] [(.int (3 : Int32)), (.ref b15)])) rfl rfl (hb hby at_99)) ?_
    show own_go _ _ _ _ _ _ _ (T53.setTop (mkF m 100 #[.val (.int p0), .val (.ref b15), .unset, .unset, .unset] [(.ref c_LEAF_LIST)]))
    refine own_st (fun _ k => XS.astoreN X53.here hx rfl (hb hby at_100) rfl rfl (l' := #[.val (.int p0), .val (.ref b15), .val (.ref c_LEAF_LIST), .unset, .unset]) rfl k) ?_
    show own_go _ _ _ _ _ _ _ (T53.setTop (mkF m 101 #[.val (.int p0), .val (.ref b15), .val (.ref c_LEAF_LIST), .unset, .unset] []))
    refine own_st (fun _ k => XS.aloadN X53.here hx rfl (hb hby at_101) rfl rfl k) ?_
    show own_go _ _ _ _ _ _ _ (T53.setTop (mkF m 102 #[.val (.int p0), .val (.ref b15), .val (.ref c_LEAF_LIST), .unset, .unset] [(.ref c_LEAF_LIST)]))
    obtain ⟨T76, X76, e76, st76⟩ := getS2 X53 hx hZ hown (host := "") (Or.inl (hw _ (List.mem_of_getElem? (i := 20) rfl))) Via.refl e53 (hS.2.2.2.2.2.2.2.2.2.2.2.2.2.2.2.2.1.ext O54.2) (g := (mkF m 102 #[.val (.int p0), .val (.ref b15), .val (.ref c_LEAF_LIST), .unset, .unset] [(.ref c_LEAF_LIST)])) rfl (hb hby at_102)
    refine own_st st76 ?_
    show own_go _ _ _ _ _ _ _ (T76.setTop (mkF m 105 #[.val (.int p0), .val (.ref b15), .val (.ref c_LEAF_LIST), .unset, .unset] [(.ref c_RPC), (.ref c_LEAF_LIST)]))
    refine own_st (fun _ k => Jvm.RoadKit.acmp (g := (mkF m 105 #[.val (.int p0), .val (.ref b15), .val (.ref c_LEAF_LIST), .unset, .unset] [(.ref c_RPC), (.ref c_LEAF_LIST)])) X76 hx rfl rfl rfl (pc0 := 105) (pc' := 108) (same := false) rfl (hb hby at_105) rfl (decide_eq_false fun q => (own_ne hS.2.2.2.2.2.2.2.2.2.2.2.2.2.2.2.2.2.2.2.2.2.2.2.2.2.2.2.2.2.2.2.2.2.1 hS.2.2.2.2.2.2.2.2.2.2.2.2.2.2.2.2.2.2.2.2.2.2.2.2.2.2.2.1 (by decide)) (Value.ref.inj q)) (by decide) (by decide) k) ?_
    show own_go _ _ _ _ _ _ _ (T76.setTop (mkF m 108 #[.val (.int p0), .val (.ref b15), .val (.ref c_LEAF_LIST), .unset, .unset] []))
    refine own_st (fun _ k => XS.aloadN X76.here hx rfl (hb hby at_108) rfl rfl k) ?_
    show own_go _ _ _ _ _ _ _ (T76.setTop (mkF m 109 #[.val (.int p0), .val (.ref b15), .val (.ref c_LEAF_LIST), .unset, .unset] [(.ref c_LEAF_LIST)]))
    obtain ⟨T77, X77, e77, st77⟩ := getS2 X76 hx hZ hown (host := "") (Or.inl (hw _ (List.mem_of_getElem? (i := 22) rfl))) Via.refl e76 (hS.2.2.2.2.2.2.2.2.2.2.2.2.2.2.2.2.2.2.1.ext O54.2) (g := (mkF m 109 #[.val (.int p0), .val (.ref b15), .val (.ref c_LEAF_LIST), .unset, .unset] [(.ref c_LEAF_LIST)])) rfl (hb hby at_109)
    refine own_st st77 ?_
    show own_go _ _ _ _ _ _ _ (T77.setTop (mkF m 112 #[.val (.int p0), .val (.ref b15), .val (.ref c_LEAF_LIST), .unset, .unset] [(.ref c_ACTION), (.ref c_LEAF_LIST)]))
    refine own_st (fun _ k => Jvm.RoadKit.acmp (g := (mkF m 112 #[.val (.int p0), .val (.ref b15), .val (.ref c_LEAF_LIST), .unset, .unset] [(.ref c_ACTION), (.ref c_LEAF_LIST)])) X77 hx rfl rfl rfl (pc0 := 112) (pc' := 115) (same := false) rfl (hb hby at_112) rfl (decide_eq_false fun q => (own_ne hS.2.2.2.2.2.2.2.2.2.2.2.2.2.2.2.2.2.2.2.2.2.2.2.2.2.2.2.2.2.2.2.2.2.1 hS.2.2.2.2.2.2.2.2.2.2.2.2.2.2.2.2.2.2.2.2.2.2.2.2.2.2.2.2.1 (by decide)) (Value.ref.inj q)) (by decide) (by decide) k) ?_
    show own_go _ _ _ _ _ _ _ (T77.setTop (mkF m 115 #[.val (.int p0), .val (.ref b15), .val (.ref c_LEAF_LIST), .unset, .unset] []))
    refine own_st (fun _ k => XS.aloadN X77.here hx rfl (hb hby at_115) rfl rfl k) ?_
    show own_go _ _ _ _ _ _ _ (T77.setTop (mkF m 116 #[.val (.int p0), .val (.ref b15), .val (.ref c_LEAF_LIST), .unset, .unset] [(.ref c_LEAF_LIST)]))
    obtain ⟨T78, X78, e78, st78⟩ := getS2 X77 hx hZ hown (host := "") (Or.inl (hw _ (List.mem_of_getElem? (i := 24) rfl))) Via.refl e77 (hS.2.2.2.2.2.2.2.2.2.2.2.2.2.2.2.2.2.2.2.2.1.ext O54.2) (g := (mkF m 116 #[.val (.int p0), .val (.ref b15), .val (.ref c_LEAF_LIST), .unset, .unset] [(.ref c_LEAF_LIST)])) rfl (hb hby at_116)
    refine own_st st78 ?_
    show own_go _ _ _ _ _ _ _ (T78.setTop (mkF m 119 #[.val (.int p0), .val (.ref b15), .val (.ref c_LEAF_LIST), .unset, .unset] [(.ref c_INPUT), (.ref c_LEAF_LIST)]))
    refine own_st (fun _ k => Jvm.RoadKit.acmp (g := (mkF m 119 #[.val (.int p0), .val (.ref b15), .val (.ref c_LEAF_LIST), .unset, .unset] [(.ref c_INPUT), (.ref c_LEAF_LIST)])) X78 hx rfl rfl rfl (pc0 := 119) (pc' := 122) (same := false) rfl (hb hby at_119) rfl (decide_eq_false fun q => (own_ne hS.2.2.2.2.2.2.2.2.2.2.2.2.2.2.2.2.2.2.2.2.2.2.2.2.2.2.2.2.2.2.2.2.2.1 hS.2.2.2.2.2.2.2.2.2.2.2.2.2.2.2.2.2.2.2.2.2.2.2.2.2.2.2.2.2.1 (by decide)) (Value.ref.inj q)) (by decide) (by decide) k) ?_
    show own_go _ _ _ _ _ _ _ (T78.setTop (mkF m 122 #[.val (.int p0), .val (.ref b15), .val (.ref c_LEAF_LIST), .unset, .unset] []))
    refine own_st (fun _ k => XS.aloadN X78.here hx rfl (hb hby at_122) rfl rfl k) ?_
    show own_go _ _ _ _ _ _ _ (T78.setTop (mkF m 123 #[.val (.int p0), .val (.ref b15), .val (.ref c_LEAF_LIST), .unset, .unset] [(.ref c_LEAF_LIST)]))
    obtain ⟨T79, X79, e79, st79⟩ := getS2 X78 hx hZ hown (host := "") (Or.inl (hw _ (List.mem_of_getElem? (i := 26) rfl))) Via.refl e78 (hS.2.2.2.2.2.2.2.2.2.2.2.2.2.2.2.2.2.2.2.2.2.2.1.ext O54.2) (g := (mkF m 123 #[.val (.int p0), .val (.ref b15), .val (.ref c_LEAF_LIST), .unset, .unset] [(.ref c_LEAF_LIST)])) rfl (hb hby at_123)
    refine own_st st79 ?_
    show own_go _ _ _ _ _ _ _ (T79.setTop (mkF m 126 #[.val (.int p0), .val (.ref b15), .val (.ref c_LEAF_LIST), .unset, .unset] [(.ref c_OUTPUT), (.ref c_LEAF_LIST)]))
    refine own_st (fun _ k => Jvm.RoadKit.acmp (g := (mkF m 126 #[.val (.int p0), .val (.ref b15), .val (.ref c_LEAF_LIST), .unset, .unset] [(.ref c_OUTPUT), (.ref c_LEAF_LIST)])) X79 hx rfl rfl rfl (pc0 := 126) (pc' := 129) (same := false) rfl (hb hby at_126) rfl (decide_eq_false fun q => (own_ne hS.2.2.2.2.2.2.2.2.2.2.2.2.2.2.2.2.2.2.2.2.2.2.2.2.2.2.2.2.2.2.2.2.2.1 hS.2.2.2.2.2.2.2.2.2.2.2.2.2.2.2.2.2.2.2.2.2.2.2.2.2.2.2.2.2.2.1 (by decide)) (Value.ref.inj q)) (by decide) (by decide) k) ?_
    show own_go _ _ _ _ _ _ _ (T79.setTop (mkF m 129 #[.val (.int p0), .val (.ref b15), .val (.ref c_LEAF_LIST), .unset, .unset] []))
    refine own_st (fun _ k => XS.aloadN X79.here hx rfl (hb hby at_129) rfl rfl k) ?_
    show own_go _ _ _ _ _ _ _ (T79.setTop (mkF m 130 #[.val (.int p0), .val (.ref b15), .val (.ref c_LEAF_LIST), .unset, .unset] [(.ref c_LEAF_LIST)]))
    obtain ⟨T80, X80, e80, st80⟩ := getS2 X79 hx hZ hown (host := "") (Or.inl (hw _ (List.mem_of_getElem? (i := 28) rfl))) Via.refl e79 (hS.2.2.2.2.2.2.2.2.2.2.2.2.2.2.2.2.2.2.2.2.2.2.2.2.1.ext O54.2) (g := (mkF m 130 #[.val (.int p0), .val (.ref b15), .val (.ref c_LEAF_LIST), .unset, .unset] [(.ref c_LEAF_LIST)])) rfl (hb hby at_130)
    refine own_st st80 ?_
    show own_go _ _ _ _ _ _ _ (T80.setTop (mkF m 133 #[.val (.int p0), .val (.ref b15), .val (.ref c_LEAF_LIST), .unset, .unset] [(.ref c_NOTIFICATION), (.ref c_LEAF_LIST)]))
    refine own_st (fun _ k => Jvm.RoadKit.acmp (g := (mkF m 133 #[.val (.int p0), .val (.ref b15), .val (.ref c_LEAF_LIST), .unset, .unset] [(.ref c_NOTIFICATION), (.ref c_LEAF_LIST)])) X80 hx rfl rfl rfl (pc0 := 133) (pc' := 140) (same := false) rfl (hb hby at_133) rfl (decide_eq_false fun q => (own_ne hS.2.2.2.2.2.2.2.2.2.2.2.2.2.2.2.2.2.2.2.2.2.2.2.2.2.2.2.2.2.2.2.2.2.1 hS.2.2.2.2.2.2.2.2.2.2.2.2.2.2.2.2.2.2.2.2.2.2.2.2.2.2.2.2.2.2.2.1 (by decide)) (Value.ref.inj q)) (by decide) (by decide) k) ?_
    show own_go _ _ _ _ _ _ _ (T80.setTop (mkF m 140 #[.val (.int p0), .val (.ref b15), .val (.ref c_LEAF_LIST), .unset, .unset] []))
    refine own_st (fun _ k => XS.iconst X80.here hx rfl (hb hby at_140) k) ?_
    show own_go _ _ _ _ _ _ _ (T80.setTop (mkF m 141 #[.val (.int p0), .val (.ref b15), .val (.ref c_LEAF_LIST), .unset, .unset] [(.int (0 : Int32))]))
    refine own_st (fun _ k => XS.istoreN X80.here hx rfl (hb hby at_141) rfl (l' := #[.val (.int p0), .val (.ref b15), .val (.ref c_LEAF_LIST), .val (.int (0 : Int32)), .unset]) rfl k) ?_
    show own_go _ _ _ _ _ _ _ (T80.setTop (mkF m 142 #[.val (.int p0), .val (.ref b15), .val (.ref c_LEAF_LIST), .val (.int (0 : Int32)), .unset] []))
    refine own_st (fun _ k => XS.aloadN X80.here hx rfl (hb hby at_142) rfl rfl k) ?_
    show own_go _ _ _ _ _ _ _ (T80.setTop (mkF m 143 #[.val (.int p0), .val (.ref b15), .val (.ref c_LEAF_LIST), .val (.int (0 : Int32)), .unset] [(.ref c_LEAF_LIST)]))
    obtain ⟨T81, X81, e81, st81⟩ := getS2 X80 hx hZ hown (host := "") (Or.inl (hw _ (List.mem_of_getElem? (i := 14) rfl))) Via.refl e80 (hS.2.2.2.2.2.2.2.2.2.2.1.ext O54.2) (g := (mkF m 143 #[.val (.int p0), .val (.ref b15), .val (.ref c_LEAF_LIST), .val (.int (0 : Int32)), .unset] [(.ref c_LEAF_LIST)])) rfl (hb hby at_143)
    refine own_st st81 ?_
    show own_go _ _ _ _ _ _ _ (T81.setTop (mkF m 146 #[.val (.int p0), .val (.ref b15), .val (.ref c_LEAF_LIST), .val (.int (0 : Int32)), .unset] [(.ref c_CASE), (.ref c_LEAF_LIST)]))
    refine own_st (fun _ k => Jvm.RoadKit.acmp (g := (mkF m 146 #[.val (.int p0), .val (.ref b15), .val (.ref c_LEAF_LIST), .val (.int (0 : Int32)), .unset] [(.ref c_CASE), (.ref c_LEAF_LIST)])) X81 hx rfl rfl rfl (pc0 := 146) (pc' := 149) (same := false) rfl (hb hby at_146) rfl (decide_eq_false fun q => (own_ne hS.2.2.2.2.2.2.2.2.2.2.2.2.2.2.2.2.2.2.2.2.2.2.2.2.2.2.2.2.2.2.2.2.2.1 hS.2.2.2.2.2.2.2.2.2.2.2.2.2.2.2.2.2.2.2.2.2.2.2.2.2.2.2.2.2.2.2.2.1 (by decide)) (Value.ref.inj q)) (by decide) (by decide) k) ?_
    show own_go _ _ _ _ _ _ _ (T81.setTop (mkF m 149 #[.val (.int p0), .val (.ref b15), .val (.ref c_LEAF_LIST), .val (.int (0 : Int32)), .unset] []))
    refine own_st (fun _ k => XS.iloadN X81.here hx rfl (hb hby at_149) rfl k) ?_
    show own_go _ _ _ _ _ _ _ (T81.setTop (mkF m 150 #[.val (.int p0), .val (.ref b15), .val (.ref c_LEAF_LIST), .val (.int (0 : Int32)), .unset] [(.int (0 : Int32))]))
    refine own_st (fun _ k => XS.ifNo X81.here hx rfl (hb hby at_150) rfl (by decide) k) ?_
    show own_go _ _ _ _ _ _ _ (T81.setTop (mkF m 153 #[.val (.int p0), .val (.ref b15), .val (.ref c_LEAF_LIST), .val (.int (0 : Int32)), .unset] []))
    refine own_st (fun _ k => XS.iconst X81.here hx rfl (hb hby at_153) k) ?_
    show own_go _ _ _ _ _ _ _ (T81.setTop (mkF m 154 #[.val (.int p0), .val (.ref b15), .val (.ref c_LEAF_LIST), .val (.int (0 : Int32)), .unset] [(.int (1 : Int32))]))
    refine own_st (fun _ k => XS.goto X81.here hx rfl (pc0 := 154) (pc' := 158) rfl (hb hby at_154) (by decide) (by decide) k) ?_
    show own_go _ _ _ _ _ _ _ (T81.setTop (mkF m 158 #[.val (.int p0), .val (.ref b15), .val (.ref c_LEAF_LIST), .val (.int (0 : Int32)), .unset] [(.int (1 : Int32))]))
    refine own_st (fun _ k => XS.istore X81.here hx rfl (hb hby at_158) rfl (l' := #[.val (.int p0), .val (.ref b15), .val (.ref c_LEAF_LIST), .val (.int (0 : Int32)), .val (.int (1 : Int32))]) rfl k) ?_
    show own_go _ _ _ _ _ _ _ (T81.setTop (mkF m 160 #[.val (.int p0), .val (.ref b15), .val (.ref c_LEAF_LIST), .val (.int (0 : Int32)), .val (.int (1 : Int32))] []))
    refine own_st (fun _ k => XS.aloadN X81.here hx rfl (hb hby at_160) rfl rfl k) ?_
    show own_go _ _ _ _ _ _ _ (T81.setTop (mkF m 161 #[.val (.int p0), .val (.ref b15), .val (.ref c_LEAF_LIST), .val (.int (0 : Int32)), .val (.int (1 : Int32))] [(.ref c_LEAF_LIST)]))
    obtain ⟨v82, T82, L82, X82, hQ82, st82⟩ := own_callV X81 hx hZ (argsL := []) (rest := []) (rm1_3 l Z a0 hw c_CONTAINER c_LIST c_LEAF c_LEAF_LIST c_CHOICE c_CASE c_ANYDATA c_ANYXML c_RPC c_ACTION c_INPUT c_OUTPUT c_NOTIFICATION h53 n0 O54 hS) hown (hw _ (List.mem_of_getElem? (i := 31) rfl)) (hw _ (List.mem_of_getElem? (i := 32) rfl)) (notFace_of_selects (args := #[]) (mvT hZ (hw _ (List.mem_of_getElem? (i := 34) rfl)))) (hw _ (List.mem_of_getElem? (i := 34) rfl)) (hw _ (List.mem_of_getElem? (i := 33) rfl)) (hw _ (List.mem_of_getElem? (i := 3) rfl)) (hw _ (List.mem_of_getElem? (i := 35) rfl)) (by decide) e81 (hS.2.2.2.2.2.2.2.1.ext O54.2) (g := (mkF m 161 #[.val (.int p0), .val (.ref b15), .val (.ref c_LEAF_LIST), .val (.int (0 : Int32)), .val (.int (1 : Int32))] [(.ref c_LEAF_LIST)])) rfl (by rw [hml]; rfl) (lenOf own_pd__28_29Z rfl) rfl (W := 0) (by show 2 * 0 + _ ≤ _; exact Nat.le_of_eq rfl) (hb hby at_161) (by decide) (by decide) (by decide) (by decide)
    obtain ⟨rfl, Nq82, eq82⟩ := hQ82
    have N82 := Fr.app N53 Nq82
    refine own_st st82 ?_
    show own_go _ _ _ _ _ _ _ (T82.setTop (mkF m 164 #[.val (.int p0), .val (.ref b15), .val (.ref c_LEAF_LIST), .val (.int (0 : Int32)), .val (.int (1 : Int32))] [(.int (1 : Int32))]))
    refine own_st (fun _ k => XS.iload X82.here hx rfl (hb hby at_164) rfl k) ?_
    show own_go _ _ _ _ _ _ _ (T82.setTop (mkF m 166 #[.val (.int p0), .val (.ref b15), .val (.ref c_LEAF_LIST), .val (.int (0 : Int32)), .val (.int (1 : Int32))] [(.int (1 : Int32)), (.int (1 : Int32))]))
    refine own_st (fun _ k => XS.icmpNo X82.here hx rfl (hb hby at_166) rfl (by decide) k) ?_
    show own_go _ _ _ _ _ _ _ (T82.setTop (mkF m 169 #[.val (.int p0), .val (.ref b15), .val (.ref c_LEAF_LIST), .val (.int (0 : Int32)), .val (.int (1 : Int32))] []))
    refine own_st (fun _ k => XS.iconst X82.here hx rfl (hb hby at_169) k) ?_
    show own_go _ _ _ _ _ _ _ (T82.setTop (mkF m 170 #[.val (.int p0), .val (.ref b15), .val (.ref c_LEAF_LIST), .val (.int (0 : Int32)), .val (.int (1 : Int32))] [(.int (1 : Int32))]))
    refine own_st (fun _ k => XS.goto X82.here hx rfl (pc0 := 170) (pc' := 174) rfl (hb hby at_170) (by decide) (by decide) k) ?_
    show own_go _ _ _ _ _ _ _ (T82.setTop (mkF m 174 #[.val (.int p0), .val (.ref b15), .val (.ref c_LEAF_LIST), .val (.int (0 : Int32)), .val (.int (1 : Int32))] [(.int (1 : Int32))]))
    exact own_retN X82 hx hlk (t := .boolean) hret (by simp) rfl (hb hby at_174) (by decide) (by decide) (⟨rfl, N82⟩)
  · skip
    rw [q]
    show own_go _ _ _ _ _ _ _ (T53.setTop (mkF m 99 #[.val (.int p0), .val (.ref b15), .unset, .unset, .unset] [(.int (4 : Int32)), (.ref b15)]))
    refine own_st (own_get X53 hx hZ e53 V53 rfl (j := (4 : Int32)) (by decide) (v := (.ref c_CHOICE)) rfl (g := (mkF m 99 #[.val (.int p0), .val (.ref b15), .unset, .unset, .unset] [(.int (4 : Int32)), (.ref b15)])) rfl rfl (hb hby at_99)) ?_
    show own_go _ _ _ _ _ _ _ (T53.setTop (mkF m 100 #[.val (.int p0), .val (.ref b15), .unset, .unset, .unset] [(.ref c_CHOICE)]))
    refine own_st (fun _ k => XS.astoreN X53.here hx rfl (hb hby at_100) rfl rfl (l' := #[.val (.int p0), .val (.ref b15), .val (.ref c_CHOICE), .unset, .unset]) rfl k) ?_
    show own_go _ _ _ _ _ _ _ (T53.setTop (mkF m 101 #[.val (.int p0), .val (.ref b15), .val (.ref c_CHOICE), .unset, .unset] []))
    refine own_st (fun _ k => XS.aloadN X53.here hx rfl (hb hby at_101) rfl rfl k) ?_
    show own_go _ _ _ _ _ _ _ (T53.setTop (mkF m 102 #[.val (.int p0), .val (.ref b15), .val (.ref c_CHOICE), .unset, .unset] [(.ref c_CHOICE)]))
    obtain ⟨T83, X83, e83, st83⟩ := getS2 X53 hx hZ hown (host := "") (Or.inl (hw _ (List.mem_of_getElem? (i := 20) rfl))) Via.refl e53 (hS.2.2.2.2.2.2.2.2.2.2.2.2.2.2.2.2.1.ext O54.2) (g := (mkF m 102 #[.val (.int p0), .val (.ref b15), .val (.ref c_CHOICE), .unset, .unset] [(.ref c_CHOICE)])) rfl (hb hby at_102)
    refine own_st st83 ?_
    show own_go _ _ _ _ _ _ _ (T83.setTop (mkF m 105 #[.val (.int p0), .val (.ref b15), .val (.ref c_CHOICE), .unset, .unset] [(.ref c_RPC), (.ref c_CHOICE)]))
    refine own_st (fun _ k => Jvm.RoadKit.acmp (g := (mkF m 105 #[.val (.int p0), .val (.ref b15), .val (.ref c_CHOICE), .unset, .unset] [(.ref c_RPC), (.ref c_CHOICE)])) X83 hx rfl rfl rfl (pc0 := 105) (pc' := 108) (same := false) rfl (hb hby at_105) rfl (decide_eq_false fun q => (own_ne hS.2.2.2.2.2.2.2.2.2.2.2.2.2.2.2.2.2.2.2.2.2.2.2.2.2.2.2.2.2.2.2.2.2.2.2.2.2.2 hS.2.2.2.2.2.2.2.2.2.2.2.2.2.2.2.2.2.2.2.2.2.2.2.2.2.2.2.1 (by decide)) (Value.ref.inj q)) (by decide) (by decide) k) ?_
    show own_go _ _ _ _ _ _ _ (T83.setTop (mkF m 108 #[.val (.int p0), .val (.ref b15), .val (.ref c_CHOICE), .unset, .unset] []))
    refine own_st (fun _ k => XS.aloadN X83.here hx rfl (hb hby at_108) rfl rfl k) ?_
    show own_go _ _ _ _ _ _ _ (T83.setTop (mkF m 109 #[.val (.int p0), .val (.ref b15), .val (.ref c_CHOICE), .unset, .unset] [(.ref c_CHOICE)]))
    obtain ⟨T84, X84, e84, st84⟩ := getS2 X83 hx hZ hown (host := "") (Or.inl (hw _ (List.mem_of_getElem? (i := 22) rfl))) Via.refl e83 (hS.2.2.2.2.2.2.2.2.2.2.2.2.2.2.2.2.2.2.1.ext O54.2) (g := (mkF m 109 #[.val (.int p0), .val (.ref b15), .val (.ref c_CHOICE), .unset, .unset] [(.ref c_CHOICE)])) rfl (hb hby at_109)
    refine own_st st84 ?_
    show own_go _ _ _ _ _ _ _ (T84.setTop (mkF m 112 #[.val (.int p0), .val (.ref b15), .val (.ref c_CHOICE), .unset, .unset] [(.ref c_ACTION), (.ref c_CHOICE)]))
    refine own_st (fun _ k => Jvm.RoadKit.acmp (g := (mkF m 112 #[.val (.int p0), .val (.ref b15), .val (.ref c_CHOICE), .unset, .unset] [(.ref c_ACTION), (.ref c_CHOICE)])) X84 hx rfl rfl rfl (pc0 := 112) (pc' := 115) (same := false) rfl (hb hby at_112) rfl (decide_eq_false fun q => (own_ne hS.2.2.2.2.2.2.2.2.2.2.2.2.2.2.2.2.2.2.2.2.2.2.2.2.2.2.2.2.2.2.2.2.2.2.2.2.2.2 hS.2.2.2.2.2.2.2.2.2.2.2.2.2.2.2.2.2.2.2.2.2.2.2.2.2.2.2.2.1 (by decide)) (Value.ref.inj q)) (by decide) (by decide) k) ?_
    show own_go _ _ _ _ _ _ _ (T84.setTop (mkF m 115 #[.val (.int p0), .val (.ref b15), .val (.ref c_CHOICE), .unset, .unset] []))
    refine own_st (fun _ k => XS.aloadN X84.here hx rfl (hb hby at_115) rfl rfl k) ?_
    show own_go _ _ _ _ _ _ _ (T84.setTop (mkF m 116 #[.val (.int p0), .val (.ref b15), .val (.ref c_CHOICE), .unset, .unset] [(.ref c_CHOICE)]))
    obtain ⟨T85, X85, e85, st85⟩ := getS2 X84 hx hZ hown (host := "") (Or.inl (hw _ (List.mem_of_getElem? (i := 24) rfl))) Via.refl e84 (hS.2.2.2.2.2.2.2.2.2.2.2.2.2.2.2.2.2.2.2.2.1.ext O54.2) (g := (mkF m 116 #[.val (.int p0), .val (.ref b15), .val (.ref c_CHOICE), .unset, .unset] [(.ref c_CHOICE)])) rfl (hb hby at_116)
    refine own_st st85 ?_
    show own_go _ _ _ _ _ _ _ (T85.setTop (mkF m 119 #[.val (.int p0), .val (.ref b15), .val (.ref c_CHOICE), .unset, .unset] [(.ref c_INPUT), (.ref c_CHOICE)]))
    refine own_st (fun _ k => Jvm.RoadKit.acmp (g := (mkF m 119 #[.val (.int p0), .val (.ref b15), .val (.ref c_CHOICE), .unset, .unset] [(.ref c_INPUT), (.ref c_CHOICE)])) X85 hx rfl rfl rfl (pc0 := 119) (pc' := 122) (same := false) rfl (hb hby at_119) rfl (decide_eq_false fun q => (own_ne hS.2.2.2.2.2.2.2.2.2.2.2.2.2.2.2.2.2.2.2.2.2.2.2.2.2.2.2.2.2.2.2.2.2.2.2.2.2.2 hS.2.2.2.2.2.2.2.2.2.2.2.2.2.2.2.2.2.2.2.2.2.2.2.2.2.2.2.2.2.1 (by decide)) (Value.ref.inj q)) (by decide) (by decide) k) ?_
    show own_go _ _ _ _ _ _ _ (T85.setTop (mkF m 122 #[.val (.int p0), .val (.ref b15), .val (.ref c_CHOICE), .unset, .unset] []))
    refine own_st (fun _ k => XS.aloadN X85.here hx rfl (hb hby at_122) rfl rfl k) ?_
    show own_go _ _ _ _ _ _ _ (T85.setTop (mkF m 123 #[.val (.int p0), .val (.ref b15), .val (.ref c_CHOICE), .unset, .unset] [(.ref c_CHOICE)]))
    obtain ⟨T86, X86, e86, st86⟩ := getS2 X85 hx hZ hown (host := "") (Or.inl (hw _ (List.mem_of_getElem? (i := 26) rfl))) Via.refl e85 (hS.2.2.2.2.2.2.2.2.2.2.2.2.2.2.2.2.2.2.2.2.2.2.1.ext O54.2) (g := (mkF m 123 #[.val (.int p0), .val (.ref b15), .val (.ref c_CHOICE), .unset, .unset] [(.ref c_CHOICE)])) rfl (hb hby at_123)
    refine own_st st86 ?_
    show own_go _ _ _ _ _ _ _ (T86.setTop (mkF m 126 #[.val (.int p0), .val (.ref b15), .val (.ref c_CHOICE), .unset, .unset] [(.ref c_OUTPUT), (.ref c_CHOICE)]))
    refine own_st (fun _ k => Jvm.RoadKit.acmp (g := (mkF m 126 #[.val (.int p0), .val (.ref b15), .val (.ref c_CHOICE), .unset, .unset] [(.ref c_OUTPUT), (.ref c_CHOICE)])) X86 hx rfl rfl rfl (pc0 := 126) (pc' := 129) (same := false) rfl (hb hby at_126) rfl (decide_eq_false fun q => (own_ne hS.2.2.2.2.2.2.2.2.2.2.2.2.2.2.2.2.2.2.2.2.2.2.2.2.2.2.2.2.2.2.2.2.2.2.2.2.2.2 hS.2.2.2.2.2.2.2.2.2.2.2.2.2.2.2.2.2.2.2.2.2.2.2.2.2.2.2.2.2.2.1 (by decide)) (Value.ref.inj q)) (by decide) (by decide) k) ?_
    show own_go _ _ _ _ _ _ _ (T86.setTop (mkF m 129 #[.val (.int p0), .val (.ref b15), .val (.ref c_CHOICE), .unset, .unset] []))
    refine own_st (fun _ k => XS.aloadN X86.here hx rfl (hb hby at_129) rfl rfl k) ?_
    show own_go _ _ _ _ _ _ _ (T86.setTop (mkF m 130 #[.val (.int p0), .val (.ref b15), .val (.ref c_CHOICE), .unset, .unset] [(.ref c_CHOICE)]))
    obtain ⟨T87, X87, e87, st87⟩ := getS2 X86 hx hZ hown (host := "") (Or.inl (hw _ (List.mem_of_getElem? (i := 28) rfl))) Via.refl e86 (hS.2.2.2.2.2.2.2.2.2.2.2.2.2.2.2.2.2.2.2.2.2.2.2.2.1.ext O54.2) (g := (mkF m 130 #[.val (.int p0), .val (.ref b15), .val (.ref c_CHOICE), .unset, .unset] [(.ref c_CHOICE)])) rfl (hb hby at_130)
    refine own_st st87 ?_
    show own_go _ _ _ _ _ _ _ (T87.setTop (mkF m 133 #[.val (.int p0), .val (.ref b15), .val (.ref c_CHOICE), .unset, .unset] [(.ref c_NOTIFICATION), (.ref c_CHOICE)]))
    refine own_st (fun _ k => Jvm.RoadKit.acmp (g := (mkF m 133 #[.val (.int p0), .val (.ref b15), .val (.ref c_CHOICE), .unset, .unset] [(.ref c_NOTIFICATION), (.ref c_CHOICE)])) X87 hx rfl rfl rfl (pc0 := 133) (pc' := 140) (same := false) rfl (hb hby at_133) rfl (decide_eq_false fun q => (own_ne hS.2.2.2.2.2.2.2.2.2.2.2.2.2.2.2.2.2.2.2.2.2.2.2.2.2.2.2.2.2.2.2.2.2.2.2.2.2.2 hS.2.2.2.2.2.2.2.2.2.2.2.2.2.2.2.2.2.2.2.2.2.2.2.2.2.2.2.2.2.2.2.1 (by decide)) (Value.ref.inj q)) (by decide) (by decide) k) ?_
    show own_go _ _ _ _ _ _ _ (T87.setTop (mkF m 140 #[.val (.int p0), .val (.ref b15), .val (.ref c_CHOICE), .unset, .unset] []))
    refine own_st (fun _ k => XS.iconst X87.here hx rfl (hb hby at_140) k) ?_
    show own_go _ _ _ _ _ _ _ (T87.setTop (mkF m 141 #[.val (.int p0), .val (.ref b15), .val (.ref c_CHOICE), .unset, .unset] [(.int (0 : Int32))]))
    refine own_st (fun _ k => XS.istoreN X87.here hx rfl (hb hby at_141) rfl (l' := #[.val (.int p0), .val (.ref b15), .val (.ref c_CHOICE), .val (.int (0 : Int32)), .unset]) rfl k) ?_
    show own_go _ _ _ _ _ _ _ (T87.setTop (mkF m 142 #[.val (.int p0), .val (.ref b15), .val (.ref c_CHOICE), .val (.int (0 : Int32)), .unset] []))
    refine own_st (fun _ k => XS.aloadN X87.here hx rfl (hb hby at_142) rfl rfl k) ?_
    show own_go _ _ _ _ _ _ _ (T87.setTop (mkF m 143 #[.val (.int p0), .val (.ref b15), .val (.ref c_CHOICE), .val (.int (0 : Int32)), .unset] [(.ref c_CHOICE)]))
    obtain ⟨T88, X88, e88, st88⟩ := getS2 X87 hx hZ hown (host := "") (Or.inl (hw _ (List.mem_of_getElem? (i := 14) rfl))) Via.refl e87 (hS.2.2.2.2.2.2.2.2.2.2.1.ext O54.2) (g := (mkF m 143 #[.val (.int p0), .val (.ref b15), .val (.ref c_CHOICE), .val (.int (0 : Int32)), .unset] [(.ref c_CHOICE)])) rfl (hb hby at_143)
    refine own_st st88 ?_
    show own_go _ _ _ _ _ _ _ (T88.setTop (mkF m 146 #[.val (.int p0), .val (.ref b15), .val (.ref c_CHOICE), .val (.int (0 : Int32)), .unset] [(.ref c_CASE), (.ref c_CHOICE)]))
    refine own_st (fun _ k => Jvm.RoadKit.acmp (g := (mkF m 146 #[.val (.int p0), .val (.ref b15), .val (.ref c_CHOICE), .val (.int (0 : Int32)), .unset] [(.ref c_CASE), (.ref c_CHOICE)])) X88 hx rfl rfl rfl (pc0 := 146) (pc' := 149) (same := false) rfl (hb hby at_146) rfl (decide_eq_false fun q => (own_ne hS.2.2.2.2.2.2.2.2.2.2.2.2.2.2.2.2.2.2.2.2.2.2.2.2.2.2.2.2.2.2.2.2.2.2.2.2.2.2 hS.2.2.2.2.2.2.2.2.2.2.2.2.2.2.2.2.2.2.2.2.2.2.2.2.2.2.2.2.2.2.2.2.1 (by decide)) (Value.ref.inj q)) (by decide) (by decide) k) ?_
    show own_go _ _ _ _ _ _ _ (T88.setTop (mkF m 149 #[.val (.int p0), .val (.ref b15), .val (.ref c_CHOICE), .val (.int (0 : Int32)), .unset] []))
    refine own_st (fun _ k => XS.iloadN X88.here hx rfl (hb hby at_149) rfl k) ?_
    show own_go _ _ _ _ _ _ _ (T88.setTop (mkF m 150 #[.val (.int p0), .val (.ref b15), .val (.ref c_CHOICE), .val (.int (0 : Int32)), .unset] [(.int (0 : Int32))]))
    refine own_st (fun _ k => XS.ifNo X88.here hx rfl (hb hby at_150) rfl (by decide) k) ?_
    show own_go _ _ _ _ _ _ _ (T88.setTop (mkF m 153 #[.val (.int p0), .val (.ref b15), .val (.ref c_CHOICE), .val (.int (0 : Int32)), .unset] []))
    refine own_st (fun _ k => XS.iconst X88.here hx rfl (hb hby at_153) k) ?_
    show own_go _ _ _ _ _ _ _ (T88.setTop (mkF m 154 #[.val (.int p0), .val (.ref b15), .val (.ref c_CHOICE), .val (.int (0 : Int32)), .unset] [(.int (1 : Int32))]))
    refine own_st (fun _ k => XS.goto X88.here hx rfl (pc0 := 154) (pc' := 158) rfl (hb hby at_154) (by decide) (by decide) k) ?_
    show own_go _ _ _ _ _ _ _ (T88.setTop (mkF m 158 #[.val (.int p0), .val (.ref b15), .val (.ref c_CHOICE), .val (.int (0 : Int32)), .unset] [(.int (1 : Int32))]))
    refine own_st (fun _ k => XS.istore X88.here hx rfl (hb hby at_158) rfl (l' := #[.val (.int p0), .val (.ref b15), .val (.ref c_CHOICE), .val (.int (0 : Int32)), .val (.int (1 : Int32))]) rfl k) ?_
    show own_go _ _ _ _ _ _ _ (T88.setTop (mkF m 160 #[.val (.int p0), .val (.ref b15), .val (.ref c_CHOICE), .val (.int (0 : Int32)), .val (.int (1 : Int32))] []))
    refine own_st (fun _ k => XS.aloadN X88.here hx rfl (hb hby at_160) rfl rfl k) ?_
    show own_go _ _ _ _ _ _ _ (T88.setTop (mkF m 161 #[.val (.int p0), .val (.ref b15), .val (.ref c_CHOICE), .val (.int (0 : Int32)), .val (.int (1 : Int32))] [(.ref c_CHOICE)]))
    obtain ⟨v89, T89, L89, X89, hQ89, st89⟩ := own_callV X88 hx hZ (argsL := []) (rest := []) (rm1_4 l Z a0 hw c_CONTAINER c_LIST c_LEAF c_LEAF_LIST c_CHOICE c_CASE c_ANYDATA c_ANYXML c_RPC c_ACTION c_INPUT c_OUTPUT c_NOTIFICATION h53 n0 O54 hS) hown (hw _ (List.mem_of_getElem? (i := 31) rfl)) (hw _ (List.mem_of_getElem? (i := 32) rfl)) (notFace_of_selects (args := #[]) (mvT hZ (hw _ (List.mem_of_getElem? (i := 34) rfl)))) (hw _ (List.mem_of_getElem? (i := 34) rfl)) (hw _ (List.mem_of_getElem? (i := 33) rfl)) (hw _ (List.mem_of_getElem? (i := 3) rfl)) (hw _ (List.mem_of_getElem? (i := 35) rfl)) (by decide) e88 (hS.2.2.2.2.2.2.2.2.2.1.ext O54.2) (g := (mkF m 161 #[.val (.int p0), .val (.ref b15), .val (.ref c_CHOICE), .val (.int (0 : Int32)), .val (.int (1 : Int32))] [(.ref c_CHOICE)])) rfl (by rw [hml]; rfl) (lenOf own_pd__28_29Z rfl) rfl (W := 0) (by show 2 * 0 + _ ≤ _; exact Nat.le_of_eq rfl) (hb hby at_161) (by decide) (by decide) (by decide) (by decide)
    obtain ⟨rfl, Nq89, eq89⟩ := hQ89
    have N89 := Fr.app N53 Nq89
    refine own_st st89 ?_
    show own_go _ _ _ _ _ _ _ (T89.setTop (mkF m 164 #[.val (.int p0), .val (.ref b15), .val (.ref c_CHOICE), .val (.int (0 : Int32)), .val (.int (1 : Int32))] [(.int (1 : Int32))]))
    refine own_st (fun _ k => XS.iload X89.here hx rfl (hb hby at_164) rfl k) ?_
    show own_go _ _ _ _ _ _ _ (T89.setTop (mkF m 166 #[.val (.int p0), .val (.ref b15), .val (.ref c_CHOICE), .val (.int (0 : Int32)), .val (.int (1 : Int32))] [(.int (1 : Int32)), (.int (1 : Int32))]))
    refine own_st (fun _ k => XS.icmpNo X89.here hx rfl (hb hby at_166) rfl (by decide) k) ?_
    show own_go _ _ _ _ _ _ _ (T89.setTop (mkF m 169 #[.val (.int p0), .val (.ref b15), .val (.ref c_CHOICE), .val (.int (0 : Int32)), .val (.int (1 : Int32))] []))
    refine own_st (fun _ k => XS.iconst X89.here hx rfl (hb hby at_169) k) ?_
    show own_go _ _ _ _ _ _ _ (T89.setTop (mkF m 170 #[.val (.int p0), .val (.ref b15), .val (.ref c_CHOICE), .val (.int (0 : Int32)), .val (.int (1 : Int32))] [(.int (1 : Int32))]))
    refine own_st (fun _ k => XS.goto X89.here hx rfl (pc0 := 170) (pc' := 174) rfl (hb hby at_170) (by decide) (by decide) k) ?_
    show own_go _ _ _ _ _ _ _ (T89.setTop (mkF m 174 #[.val (.int p0), .val (.ref b15), .val (.ref c_CHOICE), .val (.int (0 : Int32)), .val (.int (1 : Int32))] [(.int (1 : Int32))]))
    exact own_retN X89 hx hlk (t := .boolean) hret (by simp) rfl (hb hby at_174) (by decide) (by decide) (⟨rfl, N89⟩)
  · skip
    rw [q]
    show own_go _ _ _ _ _ _ _ (T53.setTop (mkF m 99 #[.val (.int p0), .val (.ref b15), .unset, .unset, .unset] [(.int (5 : Int32)), (.ref b15)]))
    refine own_st (own_get X53 hx hZ e53 V53 rfl (j := (5 : Int32)) (by decide) (v := (.ref c_CASE)) rfl (g := (mkF m 99 #[.val (.int p0), .val (.ref b15), .unset, .unset, .unset] [(.int (5 : Int32)), (.ref b15)])) rfl rfl (hb hby at_99)) ?_
    show own_go _ _ _ _ _ _ _ (T53.setTop (mkF m 100 #[.val (.int p0), .val (.ref b15), .unset, .unset, .unset] [(.ref c_CASE)]))
    refine own_st (fun _ k => XS.astoreN X53.here hx rfl (hb hby at_100) rfl rfl (l' := #[.val (.int p0), .val (.ref b15), .val (.ref c_CASE), .unset, .unset]) rfl k) ?_
    show own_go _ _ _ _ _ _ _ (T53.setTop (mkF m 101 #[.val (.int p0), .val (.ref b15), .val (.ref c_CASE), .unset, .unset] []))
    refine own_st (fun _ k => XS.aloadN X53.here hx rfl (hb hby at_101) rfl rfl k) ?_
    show own_go _ _ _ _ _ _ _ (T53.setTop (mkF m 102 #[.val (.int p0), .val (.ref b15), .val (.ref c_CASE), .unset, .unset] [(.ref c_CASE)]))
    obtain ⟨T90, X90, e90, st90⟩ := getS2 X53 hx hZ hown (host := "") (Or.inl (hw _ (List.mem_of_getElem? (i := 20) rfl))) Via.refl e53 (hS.2.2.2.2.2.2.2.2.2.2.2.2.2.2.2.2.1.ext O54.2) (g := (mkF m 102 #[.val (.int p0), .val (.ref b15), .val (.ref c_CASE), .unset, .unset] [(.ref c_CASE)])) rfl (hb hby at_102)
    refine own_st st90 ?_
    show own_go _ _ _ _ _ _ _ (T90.setTop (mkF m 105 #[.val (.int p0), .val (.ref b15), .val (.ref c_CASE), .unset, .unset] [(.ref c_RPC), (.ref c_CASE)]))
    refine own_st (fun _ k => Jvm.RoadKit.acmp (g := (mkF m 105 #[.val (.int p0), .val (.ref b15), .val (.ref c_CASE), .unset, .unset] [(.ref c_RPC), (.ref c_CASE)])) X90 hx rfl rfl rfl (pc0 := 105) (pc' := 108) (same := false) rfl (hb hby at_105) rfl (decide_eq_false fun q => (own_ne hS.2.2.2.2.2.2.2.2.2.2.2.2.2.2.2.2.2.2.2.2.2.2.2.2.2.2.2.2.2.2.2.2.1 hS.2.2.2.2.2.2.2.2.2.2.2.2.2.2.2.2.2.2.2.2.2.2.2.2.2.2.2.1 (by decide)) (Value.ref.inj q)) (by decide) (by decide) k) ?_
    show own_go _ _ _ _ _ _ _ (T90.setTop (mkF m 108 #[.val (.int p0), .val (.ref b15), .val (.ref c_CASE), .unset, .unset] []))
    refine own_st (fun _ k => XS.aloadN X90.here hx rfl (hb hby at_108) rfl rfl k) ?_
    show own_go _ _ _ _ _ _ _ (T90.setTop (mkF m 109 #[.val (.int p0), .val (.ref b15), .val (.ref c_CASE), .unset, .unset] [(.ref c_CASE)]))
    obtain ⟨T91, X91, e91, st91⟩ := getS2 X90 hx hZ hown (host := "") (Or.inl (hw _ (List.mem_of_getElem? (i := 22) rfl))) Via.refl e90 (hS.2.2.2.2.2.2.2.2.2.2.2.2.2.2.2.2.2.2.1.ext O54.2) (g := (mkF m 109 #[.val (.int p0), .val (.ref b15), .val (.ref c_CASE), .unset, .unset] [(.ref c_CASE)])) rfl (hb hby at_109)
    refine own_st st91 ?_
    show own_go _ _ _ _ _ _ _ (T91.setTop (mkF m 112 #[.val (.int p0), .val (.ref b15), .val (.ref c_CASE), .unset, .unset] [(.ref c_ACTION), (.ref c_CASE)]))
    refine own_st (fun _ k => Jvm.RoadKit.acmp (g := (mkF m 112 #[.val (.int p0), .val (.ref b15), .val (.ref c_CASE), .unset, .unset] [(.ref c_ACTION), (.ref c_CASE)])) X91 hx rfl rfl rfl (pc0 := 112) (pc' := 115) (same := false) rfl (hb hby at_112) rfl (decide_eq_false fun q => (own_ne hS.2.2.2.2.2.2.2.2.2.2.2.2.2.2.2.2.2.2.2.2.2.2.2.2.2.2.2.2.2.2.2.2.1 hS.2.2.2.2.2.2.2.2.2.2.2.2.2.2.2.2.2.2.2.2.2.2.2.2.2.2.2.2.1 (by decide)) (Value.ref.inj q)) (by decide) (by decide) k) ?_
    show own_go _ _ _ _ _ _ _ (T91.setTop (mkF m 115 #[.val (.int p0), .val (.ref b15), .val (.ref c_CASE), .unset, .unset] []))
    refine own_st (fun _ k => XS.aloadN X91.here hx rfl (hb hby at_115) rfl rfl k) ?_
    show own_go _ _ _ _ _ _ _ (T91.setTop (mkF m 116 #[.val (.int p0), .val (.ref b15), .val (.ref c_CASE), .unset, .unset] [(.ref c_CASE)]))
    obtain ⟨T92, X92, e92, st92⟩ := getS2 X91 hx hZ hown (host := "") (Or.inl (hw _ (List.mem_of_getElem? (i := 24) rfl))) Via.refl e91 (hS.2.2.2.2.2.2.2.2.2.2.2.2.2.2.2.2.2.2.2.2.1.ext O54.2) (g := (mkF m 116 #[.val (.int p0), .val (.ref b15), .val (.ref c_CASE), .unset, .unset] [(.ref c_CASE)])) rfl (hb hby at_116)
    refine own_st st92 ?_
    show own_go _ _ _ _ _ _ _ (T92.setTop (mkF m 119 #[.val (.int p0), .val (.ref b15), .val (.ref c_CASE), .unset, .unset] [(.ref c_INPUT), (.ref c_CASE)]))
    refine own_st (fun _ k => Jvm.RoadKit.acmp (g := (mkF m 119 #[.val (.int p0), .val (.ref b15), .val (.ref c_CASE), .unset, .unset] [(.ref c_INPUT), (.ref c_CASE)])) X92 hx rfl rfl rfl (pc0 := 119) (pc' := 122) (same := false) rfl (hb hby at_119) rfl (decide_eq_false fun q => (own_ne hS.2.2.2.2.2.2.2.2.2.2.2.2.2.2.2.2.2.2.2.2.2.2.2.2.2.2.2.2.2.2.2.2.1 hS.2.2.2.2.2.2.2.2.2.2.2.2.2.2.2.2.2.2.2.2.2.2.2.2.2.2.2.2.2.1 (by decide)) (Value.ref.inj q)) (by decide) (by decide) k) ?_
    show own_go _ _ _ _ _ _ _ (T92.setTop (mkF m 122 #[.val (.int p0), .val (.ref b15), .val (.ref c_CASE), .unset, .unset] []))
    refine own_st (fun _ k => XS.aloadN X92.here hx rfl (hb hby at_122) rfl rfl k) ?_
    show own_go _ _ _ _ _ _ _ (T92.setTop (mkF m 123 #[.val (.int p0), .val (.ref b15), .val (.ref c_CASE), .unset, .unset] [(.ref c_CASE)]))
    obtain ⟨T93, X93, e93, st93⟩ := getS2 X92 hx hZ hown (host := "") (Or.inl (hw _ (List.mem_of_getElem? (i := 26) rfl))) Via.refl e92 (hS.2.2.2.2.2.2.2.2.2.2.2.2.2.2.2.2.2.2.2.2.2.2.1.ext O54.2) (g := (mkF m 123 #[.val (.int p0), .val (.ref b15), .val (.ref c_CASE), .unset, .unset] [(.ref c_CASE)])) rfl (hb hby at_123)
    refine own_st st93 ?_
    show own_go _ _ _ _ _ _ _ (T93.setTop (mkF m 126 #[.val (.int p0), .val (.ref b15), .val (.ref c_CASE), .unset, .unset] [(.ref c_OUTPUT), (.ref c_CASE)]))
    refine own_st (fun _ k => Jvm.RoadKit.acmp (g := (mkF m 126 #[.val (.int p0), .val (.ref b15), .val (.ref c_CASE), .unset, .unset] [(.ref c_OUTPUT), (.ref c_CASE)])) X93 hx rfl rfl rfl (pc0 := 126) (pc' := 129) (same := false) rfl (hb hby at_126) rfl (decide_eq_false fun q => (own_ne hS.2.2.2.2.2.2.2.2.2.2.2.2.2.2.2.2.2.2.2.2.2.2.2.2.2.2.2.2.2.2.2.2.1 hS.2.2.2.2.2.2.2.2.2.2.2.2.2.2.2.2.2.2.2.2.2.2.2.2.2.2.2.2.2.2.1 (by decide)) (Value.ref.inj q)) (by decide) (by decide) k) ?_
    show own_go _ _ _ _ _ _ _ (T93.setTop (mkF m 129 #[.val (.int p0), .val (.ref b15), .val (.ref c_CASE), .unset, .unset] []))
    refine own_st (fun _ k => XS.aloadN X93.here hx rfl (hb hby at_129) rfl rfl k) ?_
    show own_go _ _ _ _ _ _ _ (T93.setTop (mkF m 130 #[.val (.int p0), .val (.ref b15), .val (.ref c_CASE), .unset, .unset] [(.ref c_CASE)]))
    obtain ⟨T94, X94, e94, st94⟩ := getS2 X93 hx hZ hown (host := "") (Or.inl (hw _ (List.mem_of_getElem? (i := 28) rfl))) Via.refl e93 (hS.2.2.2.2.2.2.2.2.2.2.2.2.2.2.2.2.2.2.2.2.2.2.2.2.1.ext O54.2) (g := (mkF m 130 #[.val (.int p0), .val (.ref b15), .val (.ref c_CASE), .unset, .unset] [(.ref c_CASE)])) rfl (hb hby at_130)
    refine own_st st94 ?_
    show own_go _ _ _ _ _ _ _ (T94.setTop (mkF m 133 #[.val (.int p0), .val (.ref b15), .val (.ref c_CASE), .unset, .unset] [(.ref c_NOTIFICATION), (.ref c_CASE)]))
    refine own_st (fun _ k => Jvm.RoadKit.acmp (g := (mkF m 133 #[.val (.int p0), .val (.ref b15), .val (.ref c_CASE), .unset, .unset] [(.ref c_NOTIFICATION), (.ref c_CASE)])) X94 hx rfl rfl rfl (pc0 := 133) (pc' := 140) (same := false) rfl (hb hby at_133) rfl (decide_eq_false fun q => (own_ne hS.2.2.2.2.2.2.2.2.2.2.2.2.2.2.2.2.2.2.2.2.2.2.2.2.2.2.2.2.2.2.2.2.1 hS.2.2.2.2.2.2.2.2.2.2.2.2.2.2.2.2.2.2.2.2.2.2.2.2.2.2.2.2.2.2.2.1 (by decide)) (Value.ref.inj q)) (by decide) (by decide) k) ?_
    show own_go _ _ _ _ _ _ _ (T94.setTop (mkF m 140 #[.val (.int p0), .val (.ref b15), .val (.ref c_CASE), .unset, .unset] []))
    refine own_st (fun _ k => XS.iconst X94.here hx rfl (hb hby at_140) k) ?_
    show own_go _ _ _ _ _ _ _ (T94.setTop (mkF m 141 #[.val (.int p0), .val (.ref b15), .val (.ref c_CASE), .unset, .unset] [(.int (0 : Int32))]))
    refine own_st (fun _ k => XS.istoreN X94.here hx rfl (hb hby at_141) rfl (l' := #[.val (.int p0), .val (.ref b15), .val (.ref c_CASE), .val (.int (0 : Int32)), .unset]) rfl k) ?_
    show own_go _ _ _ _ _ _ _ (T94.setTop (mkF m 142 #[.val (.int p0), .val (.ref b15), .val (.ref c_CASE), .val (.int (0 : Int32)), .unset] []))
    refine own_st (fun _ k => XS.aloadN X94.here hx rfl (hb hby at_142) rfl rfl k) ?_
    show own_go _ _ _ _ _ _ _ (T94.setTop (mkF m 143 #[.val (.int p0), .val (.ref b15), .val (.ref c_CASE), .val (.int (0 : Int32)), .unset] [(.ref c_CASE)]))
    obtain ⟨T95, X95, e95, st95⟩ := getS2 X94 hx hZ hown (host := "") (Or.inl (hw _ (List.mem_of_getElem? (i := 14) rfl))) Via.refl e94 (hS.2.2.2.2.2.2.2.2.2.2.1.ext O54.2) (g := (mkF m 143 #[.val (.int p0), .val (.ref b15), .val (.ref c_CASE), .val (.int (0 : Int32)), .unset] [(.ref c_CASE)])) rfl (hb hby at_143)
    refine own_st st95 ?_
    show own_go _ _ _ _ _ _ _ (T95.setTop (mkF m 146 #[.val (.int p0), .val (.ref b15), .val (.ref c_CASE), .val (.int (0 : Int32)), .unset] [(.ref c_CASE), (.ref c_CASE)]))
    refine own_st (fun _ k => Jvm.RoadKit.acmp (g := (mkF m 146 #[.val (.int p0), .val (.ref b15), .val (.ref c_CASE), .val (.int (0 : Int32)), .unset] [(.ref c_CASE), (.ref c_CASE)])) X95 hx rfl rfl rfl (pc0 := 146) (pc' := 157) (same := true) rfl (hb hby at_146) rfl (decide_eq_true rfl) (by decide) (by decide) k) ?_
    show own_go _ _ _ _ _ _ _ (T95.setTop (mkF m 157 #[.val (.int p0), .val (.ref b15), .val (.ref c_CASE), .val (.int (0 : Int32)), .unset] []))
    refine own_st (fun _ k => XS.iconst X95.here hx rfl (hb hby at_157) k) ?_
    show own_go _ _ _ _ _ _ _ (T95.setTop (mkF m 158 #[.val (.int p0), .val (.ref b15), .val (.ref c_CASE), .val (.int (0 : Int32)), .unset] [(.int (0 : Int32))]))
    refine own_st (fun _ k => XS.istore X95.here hx rfl (hb hby at_158) rfl (l' := #[.val (.int p0), .val (.ref b15), .val (.ref c_CASE), .val (.int (0 : Int32)), .val (.int (0 : Int32))]) rfl k) ?_
    show own_go _ _ _ _ _ _ _ (T95.setTop (mkF m 160 #[.val (.int p0), .val (.ref b15), .val (.ref c_CASE), .val (.int (0 : Int32)), .val (.int (0 : Int32))] []))
    refine own_st (fun _ k => XS.aloadN X95.here hx rfl (hb hby at_160) rfl rfl k) ?_
    show own_go _ _ _ _ _ _ _ (T95.setTop (mkF m 161 #[.val (.int p0), .val (.ref b15), .val (.ref c_CASE), .val (.int (0 : Int32)), .val (.int (0 : Int32))] [(.ref c_CASE)]))
    obtain ⟨v96, T96, L96, X96, hQ96, st96⟩ := own_callV X95 hx hZ (argsL := []) (rest := []) (rm1_5 l Z a0 hw c_CONTAINER c_LIST c_LEAF c_LEAF_LIST c_CHOICE c_CASE c_ANYDATA c_ANYXML c_RPC c_ACTION c_INPUT c_OUTPUT c_NOTIFICATION h53 n0 O54 hS) hown (hw _ (List.mem_of_getElem? (i := 31) rfl)) (hw _ (List.mem_of_getElem? (i := 32) rfl)) (notFace_of_selects (args := #[]) (mvT hZ (hw _ (List.mem_of_getElem? (i := 34) rfl)))) (hw _ (List.mem_of_getElem? (i := 34) rfl)) (hw _ (List.mem_of_getElem? (i := 33) rfl)) (hw _ (List.mem_of_getElem? (i := 3) rfl)) (hw _ (List.mem_of_getElem? (i := 35) rfl)) (by decide) e95 (hS.2.2.2.2.2.2.2.2.2.2.2.1.ext O54.2) (g := (mkF m 161 #[.val (.int p0), .val (.ref b15), .val (.ref c_CASE), .val (.int (0 : Int32)), .val (.int (0 : Int32))] [(.ref c_CASE)])) rfl (by rw [hml]; rfl) (lenOf own_pd__28_29Z rfl) rfl (W := 0) (by show 2 * 0 + _ ≤ _; exact Nat.le_of_eq rfl) (hb hby at_161) (by decide) (by decide) (by decide) (by decide)
    obtain ⟨rfl, Nq96, eq96⟩ := hQ96
    have N96 := Fr.app N53 Nq96
    refine own_st st96 ?_
    show own_go _ _ _ _ _ _ _ (T96.setTop (mkF m 164 #[.val (.int p0), .val (.ref b15), .val (.ref c_CASE), .val (.int (0 : Int32)), .val (.int (0 : Int32))] [(.int (0 : Int32))]))
    refine own_st (fun _ k => XS.iload X96.here hx rfl (hb hby at_164) rfl k) ?_
    show own_go _ _ _ _ _ _ _ (T96.setTop (mkF m 166 #[.val (.int p0), .val (.ref b15), .val (.ref c_CASE), .val (.int (0 : Int32)), .val (.int (0 : Int32))] [(.int (0 : Int32)), (.int (0 : Int32))]))
    refine own_st (fun _ k => XS.icmpNo X96.here hx rfl (hb hby at_166) rfl (by decide) k) ?_
    show own_go _ _ _ _ _ _ _ (T96.setTop (mkF m 169 #[.val (.int p0), .val (.ref b15), .val (.ref c_CASE), .val (.int (0 : Int32)), .val (.int (0 : Int32))] []))
    refine own_st (fun _ k => XS.iconst X96.here hx rfl (hb hby at_169) k) ?_
    show own_go _ _ _ _ _ _ _ (T96.setTop (mkF m 170 #[.val (.int p0), .val (.ref b15), .val (.ref c_CASE), .val (.int (0 : Int32)), .val (.int (0 : Int32))] [(.int (1 : Int32))]))
    refine own_st (fun _ k => XS.goto X96.here hx rfl (pc0 := 170) (pc' := 174) rfl (hb hby at_170) (by decide) (by decide) k) ?_
    show own_go _ _ _ _ _ _ _ (T96.setTop (mkF m 174 #[.val (.int p0), .val (.ref b15), .val (.ref c_CASE), .val (.int (0 : Int32)), .val (.int (0 : Int32))] [(.int (1 : Int32))]))
    exact own_retN X96 hx hlk (t := .boolean) hret (by simp) rfl (hb hby at_174) (by decide) (by decide) (⟨rfl, N96⟩)
  · skip
    rw [q]
    show own_go _ _ _ _ _ _ _ (T53.setTop (mkF m 99 #[.val (.int p0), .val (.ref b15), .unset, .unset, .unset] [(.int (6 : Int32)), (.ref b15)]))
    refine own_st (own_get X53 hx hZ e53 V53 rfl (j := (6 : Int32)) (by decide) (v := (.ref c_ANYDATA)) rfl (g := (mkF m 99 #[.val (.int p0), .val (.ref b15), .unset, .unset, .unset] [(.int (6 : Int32)), (.ref b15)])) rfl rfl (hb hby at_99)) ?_
    show own_go _ _ _ _ _ _ _ (T53.setTop (mkF m 100 #[.val (.int p0), .val (.ref b15), .unset, .unset, .unset] [(.ref c_ANYDATA)]))
    refine own_st (fun _ k => XS.astoreN X53.here hx rfl (hb hby at_100) rfl rfl (l' := #[.val (.int p0), .val (.ref b15), .val (.ref c_ANYDATA), .unset, .unset]) rfl k) ?_
    show own_go _ _ _ _ _ _ _ (T53.setTop (mkF m 101 #[.val (.int p0), .val (.ref b15), .val (.ref c_ANYDATA), .unset, .unset] []))
    refine own_st (fun _ k => XS.aloadN X53.here hx rfl (hb hby at_101) rfl rfl k) ?_
    show own_go _ _ _ _ _ _ _ (T53.setTop (mkF m 102 #[.val (.int p0), .val (.ref b15), .val (.ref c_ANYDATA), .unset, .unset] [(.ref c_ANYDATA)]))
    obtain ⟨T97, X97, e97, st97⟩ := getS2 X53 hx hZ hown (host := "") (Or.inl (hw _ (List.mem_of_getElem? (i := 20) rfl))) Via.refl e53 (hS.2.2.2.2.2.2.2.2.2.2.2.2.2.2.2.2.1.ext O54.2) (g := (mkF m 102 #[.val (.int p0), .val (.ref b15), .val (.ref c_ANYDATA), .unset, .unset] [(.ref c_ANYDATA)])) rfl (hb hby at_102)
    refine own_st st97 ?_
    show own_go _ _ _ _ _ _ _ (T97.setTop (mkF m 105 #[.val (.int p0), .val (.ref b15), .val (.ref c_ANYDATA), .unset, .unset] [(.ref c_RPC), (.ref c_ANYDATA)]))
    refine own_st (fun _ k => Jvm.RoadKit.acmp (g := (mkF m 105 #[.val (.int p0), .val (.ref b15), .val (.ref c_ANYDATA), .unset, .unset] [(.ref c_RPC), (.ref c_ANYDATA)])) X97 hx rfl rfl rfl (pc0 := 105) (pc' := 108) (same := false) rfl (hb hby at_105) rfl (decide_eq_false fun q => (own_ne hS.2.2.2.2.2.2.2.2.2.2.2.2.2.2.2.2.2.2.2.2.2.2.2.2.2.2.2.2.2.2.2.2.2.2.1 hS.2.2.2.2.2.2.2.2.2.2.2.2.2.2.2.2.2.2.2.2.2.2.2.2.2.2.2.1 (by decide)) (Value.ref.inj q)) (by decide) (by decide) k) ?_
    show own_go _ _ _ _ _ _ _ (T97.setTop (mkF m 108 #[.val (.int p0), .val (.ref b15), .val (.ref c_ANYDATA), .unset, .unset] []))
    refine own_st (fun _ k => XS.aloadN X97.here hx rfl (hb hby at_108) rfl rfl k) ?_
    show own_go _ _ _ _ _ _ _ (T97.setTop (mkF m 109 #[.val (.int p0), .val (.ref b15), .val (.ref c_ANYDATA), .unset, .unset] [(.ref c_ANYDATA)]))
    obtain ⟨T98, X98, e98, st98⟩ := getS2 X97 hx hZ hown (host := "") (Or.inl (hw _ (List.mem_of_getElem? (i := 22) rfl))) Via.refl e97 (hS.2.2.2.2.2.2.2.2.2.2.2.2.2.2.2.2.2.2.1.ext O54.2) (g := (mkF m 109 #[.val (.int p0), .val (.ref b15), .val (.ref c_ANYDATA), .unset, .unset] [(.ref c_ANYDATA)])) rfl (hb hby at_109)
    refine own_st st98 ?_
    show own_go _ _ _ _ _ _ _ (T98.setTop (mkF m 112 #[.val (.int p0), .val (.ref b15), .val (.ref c_ANYDATA), .unset, .unset] [(.ref c_ACTION), (.ref c_ANYDATA)]))
    refine own_st (fun _ k => Jvm.RoadKit.acmp (g := (mkF m 112 #[.val (.int p0), .val (.ref b15), .val (.ref c_ANYDATA), .unset, .unset] [(.ref c_ACTION), (.ref c_ANYDATA)])) X98 hx rfl rfl rfl (pc0 := 112) (pc' := 115) (same := false) rfl (hb hby at_112) rfl (decide_eq_false fun q => (own_ne hS.2.2.2.2.2.2.2.2.2.2.2.2.2.2.2.2.2.2.2.2.2.2.2.2.2.2.2.2.2.2.2.2.2.2.1 hS.2.2.2.2.2.2.2.2.2.2.2.2.2.2.2.2.2.2.2.2.2.2.2.2.2.2.2.2.1 (by decide)) (Value.ref.inj q)) (by decide) (by decide) k) ?_
    show own_go _ _ _ _ _ _ _ (T98.setTop (mkF m 115 #[.val (.int p0), .val (.ref b15), .val (.ref c_ANYDATA), .unset, .unset] []))
    refine own_st (fun _ k => XS.aloadN X98.here hx rfl (hb hby at_115) rfl rfl k) ?_
    show own_go _ _ _ _ _ _ _ (T98.setTop (mkF m 116 #[.val (.int p0), .val (.ref b15), .val (.ref c_ANYDATA), .unset, .unset] [(.ref c_ANYDATA)]))
    obtain ⟨T99, X99, e99, st99⟩ := getS2 X98 hx hZ hown (host := "") (Or.inl (hw _ (List.mem_of_getElem? (i := 24) rfl))) Via.refl e98 (hS.2.2.2.2.2.2.2.2.2.2.2.2.2.2.2.2.2.2.2.2.1.ext O54.2) (g := (mkF m 116 #[.val (.int p0), .val (.ref b15), .val (.ref c_ANYDATA), .unset, .unset] [(.ref c_ANYDATA)])) rfl (hb hby at_116)
    refine own_st st99 ?_
    show own_go _ _ _ _ _ _ _ (T99.setTop (mkF m 119 #[.val (.int p0), .val (.ref b15), .val (.ref c_ANYDATA), .unset, .unset] [(.ref c_INPUT), (.ref c_ANYDATA)]))
    refine own_st (fun _ k => Jvm.RoadKit.acmp (g := (mkF m 119 #[.val (.int p0), .val (.ref b15), .val (.ref c_ANYDATA), .unset, .unset] [(.ref c_INPUT), (.ref c_ANYDATA)])) X99 hx rfl rfl rfl (pc0 := 119) (pc' := 122) (same := false) rfl (hb hby at_119) rfl (decide_eq_false fun q => (own_ne hS.2.2.2.2.2.2.2.2.2.2.2.2.2.2.2.2.2.2.2.2.2.2.2.2.2.2.2.2.2.2.2.2.2.2.1 hS.2.2.2.2.2.2.2.2.2.2.2.2.2.2.2.2.2.2.2.2.2.2.2.2.2.2.2.2.2.1 (by decide)) (Value.ref.inj q)) (by decide) (by decide) k) ?_
    show own_go _ _ _ _ _ _ _ (T99.setTop (mkF m 122 #[.val (.int p0), .val (.ref b15), .val (.ref c_ANYDATA), .unset, .unset] []))
    refine own_st (fun _ k => XS.aloadN X99.here hx rfl (hb hby at_122) rfl rfl k) ?_
    show own_go _ _ _ _ _ _ _ (T99.setTop (mkF m 123 #[.val (.int p0), .val (.ref b15), .val (.ref c_ANYDATA), .unset, .unset] [(.ref c_ANYDATA)]))
    obtain ⟨T100, X100, e100, st100⟩ := getS2 X99 hx hZ hown (host := "") (Or.inl (hw _ (List.mem_of_getElem? (i := 26) rfl))) Via.refl e99 (hS.2.2.2.2.2.2.2.2.2.2.2.2.2.2.2.2.2.2.2.2.2.2.1.ext O54.2) (g := (mkF m 123 #[.val (.int p0), .val (.ref b15), .val (.ref c_ANYDATA), .unset, .unset] [(.ref c_ANYDATA)])) rfl (hb hby at_123)
    refine own_st st100 ?_
    show own_go _ _ _ _ _ _ _ (T100.setTop (mkF m 126 #[.val (.int p0), .val (.ref b15), .val (.ref c_ANYDATA), .unset, .unset] [(.ref c_OUTPUT), (.ref c_ANYDATA)]))
    refine own_st (fun _ k => Jvm.RoadKit.acmp (g := (mkF m 126 #[.val (.int p0), .val (.ref b15), .val (.ref c_ANYDATA), .unset, .unset] [(.ref c_OUTPUT), (.ref c_ANYDATA)])) X100 hx rfl rfl rfl (pc0 := 126) (pc' := 129) (same := false) rfl (hb hby at_126) rfl (decide_eq_false fun q => (own_ne hS.2.2.2.2.2.2.2.2.2.2.2.2.2.2.2.2.2.2.2.2.2.2.2.2.2.2.2.2.2.2.2.2.2.2.1 hS.2.2.2.2.2.2.2.2.2.2.2.2.2.2.2.2.2.2.2.2.2.2.2.2.2.2.2.2.2.2.1 (by decide)) (Value.ref.inj q)) (by decide) (by decide) k) ?_
    show own_go _ _ _ _ _ _ _ (T100.setTop (mkF m 129 #[.val (.int p0), .val (.ref b15), .val (.ref c_ANYDATA), .unset, .unset] []))
    refine own_st (fun _ k => XS.aloadN X100.here hx rfl (hb hby at_129) rfl rfl k) ?_
    show own_go _ _ _ _ _ _ _ (T100.setTop (mkF m 130 #[.val (.int p0), .val (.ref b15), .val (.ref c_ANYDATA), .unset, .unset] [(.ref c_ANYDATA)]))
    obtain ⟨T101, X101, e101, st101⟩ := getS2 X100 hx hZ hown (host := "") (Or.inl (hw _ (List.mem_of_getElem? (i := 28) rfl))) Via.refl e100 (hS.2.2.2.2.2.2.2.2.2.2.2.2.2.2.2.2.2.2.2.2.2.2.2.2.1.ext O54.2) (g := (mkF m 130 #[.val (.int p0), .val (.ref b15), .val (.ref c_ANYDATA), .unset, .unset] [(.ref c_ANYDATA)])) rfl (hb hby at_130)
    refine own_st st101 ?_
    show own_go _ _ _ _ _ _ _ (T101.setTop (mkF m 133 #[.val (.int p0), .val (.ref b15), .val (.ref c_ANYDATA), .unset, .unset] [(.ref c_NOTIFICATION), (.ref c_ANYDATA)]))
    refine own_st (fun _ k => Jvm.RoadKit.acmp (g := (mkF m 133 #[.val (.int p0), .val (.ref b15), .val (.ref c_ANYDATA), .unset, .unset] [(.ref c_NOTIFICATION), (.ref c_ANYDATA)])) X101 hx rfl rfl rfl (pc0 := 133) (pc' := 140) (same := false) rfl (hb hby at_133) rfl (decide_eq_false fun q => (own_ne hS.2.2.2.2.2.2.2.2.2.2.2.2.2.2.2.2.2.2.2.2.2.2.2.2.2.2.2.2.2.2.2.2.2.2.1 hS.2.2.2.2.2.2.2.2.2.2.2.2.2.2.2.2.2.2.2.2.2.2.2.2.2.2.2.2.2.2.2.1 (by decide)) (Value.ref.inj q)) (by decide) (by decide) k) ?_
    show own_go _ _ _ _ _ _ _ (T101.setTop (mkF m 140 #[.val (.int p0), .val (.ref b15), .val (.ref c_ANYDATA), .unset, .unset] []))
    refine own_st (fun _ k => XS.iconst X101.here hx rfl (hb hby at_140) k) ?_
    show own_go _ _ _ _ _ _ _ (T101.setTop (mkF m 141 #[.val (.int p0), .val (.ref b15), .val (.ref c_ANYDATA), .unset, .unset] [(.int (0 : Int32))]))
    refine own_st (fun _ k => XS.istoreN X101.here hx rfl (hb hby at_141) rfl (l' := #[.val (.int p0), .val (.ref b15), .val (.ref c_ANYDATA), .val (.int (0 : Int32)), .unset]) rfl k) ?_
    show own_go _ _ _ _ _ _ _ (T101.setTop (mkF m 142 #[.val (.int p0), .val (.ref b15), .val (.ref c_ANYDATA), .val (.int (0 : Int32)), .unset] []))
    refine own_st (fun _ k => XS.aloadN X101.here hx rfl (hb hby at_142) rfl rfl k) ?_
    show own_go _ _ _ _ _ _ _ (T101.setTop (mkF m 143 #[.val (.int p0), .val (.ref b15), .val (.ref c_ANYDATA), .val (.int (0 : Int32)), .unset] [(.ref c_ANYDATA)]))
    obtain ⟨T102, X102, e102, st102⟩ := getS2 X101 hx hZ hown (host := "") (Or.inl (hw _ (List.mem_of_getElem? (i := 14) rfl))) Via.refl e101 (hS.2.2.2.2.2.2.2.2.2.2.1.ext O54.2) (g := (mkF m 143 #[.val (.int p0), .val (.ref b15), .val (.ref c_ANYDATA), .val (.int (0 : Int32)), .unset] [(.ref c_ANYDATA)])) rfl (hb hby at_143)
    refine own_st st102 ?_
    show own_go _ _ _ _ _ _ _ (T102.setTop (mkF m 146 #[.val (.int p0), .val (.ref b15), .val (.ref c_ANYDATA), .val (.int (0 : Int32)), .unset] [(.ref c_CASE), (.ref c_ANYDATA)]))
    refine own_st (fun _ k => Jvm.RoadKit.acmp (g := (mkF m 146 #[.val (.int p0), .val (.ref b15), .val (.ref c_ANYDATA), .val (.int (0 : Int32)), .unset] [(.ref c_CASE), (.ref c_ANYDATA)])) X102 hx rfl rfl rfl (pc0 := 146) (pc' := 149) (same := false) rfl (hb hby at_146) rfl (decide_eq_false fun q => (own_ne hS.2.2.2.2.2.2.2.2.2.2.2.2.2.2.2.2.2.2.2.2.2.2.2.2.2.2.2.2.2.2.2.2.2.2.1 hS.2.2.2.2.2.2.2.2.2.2.2.2.2.2.2.2.2.2.2.2.2.2.2.2.2.2.2.2.2.2.2.2.1 (by decide)) (Value.ref.inj q)) (by decide) (by decide) k) ?_
    show own_go _ _ _ _ _ _ _ (T102.setTop (mkF m 149 #[.val (.int p0), .val (.ref b15), .val (.ref c_ANYDATA), .val (.int (0 : Int32)), .unset] []))
    refine own_st (fun _ k => XS.iloadN X102.here hx rfl (hb hby at_149) rfl k) ?_
    show own_go _ _ _ _ _ _ _ (T102.setTop (mkF m 150 #[.val (.int p0), .val (.ref b15), .val (.ref c_ANYDATA), .val (.int (0 : Int32)), .unset] [(.int (0 : Int32))]))
    refine own_st (fun _ k => XS.ifNo X102.here hx rfl (hb hby at_150) rfl (by decide) k) ?_
    show own_go _ _ _ _ _ _ _ (T102.setTop (mkF m 153 #[.val (.int p0), .val (.ref b15), .val (.ref c_ANYDATA), .val (.int (0 : Int32)), .unset] []))
    refine own_st (fun _ k => XS.iconst X102.here hx rfl (hb hby at_153) k) ?_
    show own_go _ _ _ _ _ _ _ (T102.setTop (mkF m 154 #[.val (.int p0), .val (.ref b15), .val (.ref c_ANYDATA), .val (.int (0 : Int32)), .unset] [(.int (1 : Int32))]))
    refine own_st (fun _ k => XS.goto X102.here hx rfl (pc0 := 154) (pc' := 158) rfl (hb hby at_154) (by decide) (by decide) k) ?_
    show own_go _ _ _ _ _ _ _ (T102.setTop (mkF m 158 #[.val (.int p0), .val (.ref b15), .val (.ref c_ANYDATA), .val (.int (0 : Int32)), .unset] [(.int (1 : Int32))]))
    refine own_st (fun _ k => XS.istore X102.here hx rfl (hb hby at_158) rfl (l' := #[.val (.int p0), .val (.ref b15), .val (.ref c_ANYDATA), .val (.int (0 : Int32)), .val (.int (1 : Int32))]) rfl k) ?_
    show own_go _ _ _ _ _ _ _ (T102.setTop (mkF m 160 #[.val (.int p0), .val (.ref b15), .val (.ref c_ANYDATA), .val (.int (0 : Int32)), .val (.int (1 : Int32))] []))
    refine own_st (fun _ k => XS.aloadN X102.here hx rfl (hb hby at_160) rfl rfl k) ?_
    show own_go _ _ _ _ _ _ _ (T102.setTop (mkF m 161 #[.val (.int p0), .val (.ref b15), .val (.ref c_ANYDATA), .val (.int (0 : Int32)), .val (.int (1 : Int32))] [(.ref c_ANYDATA)]))
    obtain ⟨v103, T103, L103, X103, hQ103, st103⟩ := own_callV X102 hx hZ (argsL := []) (rest := []) (rm1_6 l Z a0 hw c_CONTAINER c_LIST c_LEAF c_LEAF_LIST c_CHOICE c_CASE c_ANYDATA c_ANYXML c_RPC c_ACTION c_INPUT c_OUTPUT c_NOTIFICATION h53 n0 O54 hS) hown (hw _ (List.mem_of_getElem? (i := 31) rfl)) (hw _ (List.mem_of_getElem? (i := 32) rfl)) (notFace_of_selects (args := #[]) (mvT hZ (hw _ (List.mem_of_getElem? (i := 34) rfl)))) (hw _ (List.mem_of_getElem? (i := 34) rfl)) (hw _ (List.mem_of_getElem? (i := 33) rfl)) (hw _ (List.mem_of_getElem? (i := 3) rfl)) (hw _ (List.mem_of_getElem? (i := 35) rfl)) (by decide) e102 (hS.2.2.2.2.2.2.2.2.2.2.2.2.2.1.ext O54.2) (g := (mkF m 161 #[.val (.int p0), .val (.ref b15), .val (.ref c_ANYDATA), .val (.int (0 : Int32)), .val (.int (1 : Int32))] [(.ref c_ANYDATA)])) rfl (by rw [hml]; rfl) (lenOf own_pd__28_29Z rfl) rfl (W := 0) (by show 2 * 0 + _ ≤ _; exact Nat.le_of_eq rfl) (hb hby at_161) (by decide) (by decide) (by decide) (by decide)
    obtain ⟨rfl, Nq103, eq103⟩ := hQ103
    have N103 := Fr.app N53 Nq103
    refine own_st st103 ?_
    show own_go _ _ _ _ _ _ _ (T103.setTop (mkF m 164 #[.val (.int p0), .val (.ref b15), .val (.ref c_ANYDATA), .val (.int (0 : Int32)), .val (.int (1 : Int32))] [(.int (1 : Int32))]))
    refine own_st (fun _ k => XS.iload X103.here hx rfl (hb hby at_164) rfl k) ?_
    show own_go _ _ _ _ _ _ _ (T103.setTop (mkF m 166 #[.val (.int p0), .val (.ref b15), .val (.ref c_ANYDATA), .val (.int (0 : Int32)), .val (.int (1 : Int32))] [(.int (1 : Int32)), (.int (1 : Int32))]))
    refine own_st (fun _ k => XS.icmpNo X103.here hx rfl (hb hby at_166) rfl (by decide) k) ?_
    show own_go _ _ _ _ _ _ _ (T103.setTop (mkF m 169 #[.val (.int p0), .val (.ref b15), .val (.ref c_ANYDATA), .val (.int (0 : Int32)), .val (.int (1 : Int32))] []))
    refine own_st (fun _ k => XS.iconst X103.here hx rfl (hb hby at_169) k) ?_
    show own_go _ _ _ _ _ _ _ (T103.setTop (mkF m 170 #[.val (.int p0), .val (.ref b15), .val (.ref c_ANYDATA), .val (.int (0 : Int32)), .val (.int (1 : Int32))] [(.int (1 : Int32))]))
    refine own_st (fun _ k => XS.goto X103.here hx rfl (pc0 := 170) (pc' := 174) rfl (hb hby at_170) (by decide) (by decide) k) ?_
    show own_go _ _ _ _ _ _ _ (T103.setTop (mkF m 174 #[.val (.int p0), .val (.ref b15), .val (.ref c_ANYDATA), .val (.int (0 : Int32)), .val (.int (1 : Int32))] [(.int (1 : Int32))]))
    exact own_retN X103 hx hlk (t := .boolean) hret (by simp) rfl (hb hby at_174) (by decide) (by decide) (⟨rfl, N103⟩)
  · skip
    rw [q]
    show own_go _ _ _ _ _ _ _ (T53.setTop (mkF m 99 #[.val (.int p0), .val (.ref b15), .unset, .unset, .unset] [(.int (7 : Int32)), (.ref b15)]))
    refine own_st (own_get X53 hx hZ e53 V53 rfl (j := (7 : Int32)) (by decide) (v := (.ref c_ANYXML)) rfl (g := (mkF m 99 #[.val (.int p0), .val (.ref b15), .unset, .unset, .unset] [(.int (7 : Int32)), (.ref b15)])) rfl rfl (hb hby at_99)) ?_
    show own_go _ _ _ _ _ _ _ (T53.setTop (mkF m 100 #[.val (.int p0), .val (.ref b15), .unset, .unset, .unset] [(.ref c_ANYXML)]))
    refine own_st (fun _ k => XS.astoreN X53.here hx rfl (hb hby at_100) rfl rfl (l' := #[.val (.int p0), .val (.ref b15), .val (.ref c_ANYXML), .unset, .unset]) rfl k) ?_
    show own_go _ _ _ _ _ _ _ (T53.setTop (mkF m 101 #[.val (.int p0), .val (.ref b15), .val (.ref c_ANYXML), .unset, .unset] []))
    refine own_st (fun _ k => XS.aloadN X53.here hx rfl (hb hby at_101) rfl rfl k) ?_
    show own_go _ _ _ _ _ _ _ (T53.setTop (mkF m 102 #[.val (.int p0), .val (.ref b15), .val (.ref c_ANYXML), .unset, .unset] [(.ref c_ANYXML)]))
    obtain ⟨T104, X104, e104, st104⟩ := getS2 X53 hx hZ hown (host := "") (Or.inl (hw _ (List.mem_of_getElem? (i := 20) rfl))) Via.refl e53 (hS.2.2.2.2.2.2.2.2.2.2.2.2.2.2.2.2.1.ext O54.2) (g := (mkF m 102 #[.val (.int p0), .val (.ref b15), .val (.ref c_ANYXML), .unset, .unset] [(.ref c_ANYXML)])) rfl (hb hby at_102)
    refine own_st st104 ?_
    show own_go _ _ _ _ _ _ _ (T104.setTop (mkF m 105 #[.val (.int p0), .val (.ref b15), .val (.ref c_ANYXML), .unset, .unset] [(.ref c_RPC), (.ref c_ANYXML)]))
    refine own_st (fun _ k => Jvm.RoadKit.acmp (g := (mkF m 105 #[.val (.int p0), .val (.ref b15), .val (.ref c_ANYXML), .unset, .unset] [(.ref c_RPC), (.ref c_ANYXML)])) X104 hx rfl rfl rfl (pc0 := 105) (pc' := 108) (same := false) rfl (hb hby at_105) rfl (decide_eq_false fun q => (own_ne hS.2.2.2.2.2.2.2.2.2.2.2.2.2.2.2.2.2.2.2.2.2.2.2.2.2.2.2.2.2.2.2.2.2.2.2.1 hS.2.2.2.2.2.2.2.2.2.2.2.2.2.2.2.2.2.2.2.2.2.2.2.2.2.2.2.1 (by decide)) (Value.ref.inj q)) (by decide) (by decide) k) ?_
    show own_go _ _ _ _ _ _ _ (T104.setTop (mkF m 108 #[.val (.int p0), .val (.ref b15), .val (.ref c_ANYXML), .unset, .unset] []))
    refine own_st (fun _ k => XS.aloadN X104.here hx rfl (hb hby at_108) rfl rfl k) ?_
    show own_go _ _ _ _ _ _ _ (T104.setTop (mkF m 109 #[.val (.int p0), .val (.ref b15), .val (.ref c_ANYXML), .unset, .unset] [(.ref c_ANYXML)]))
    obtain ⟨T105, X105, e105, st105⟩ := getS2 X104 hx hZ hown (host := "") (Or.inl (hw _ (List.mem_of_getElem? (i := 22) rfl))) Via.refl e104 (hS.2.2.2.2.2.2.2.2.2.2.2.2.2.2.2.2.2.2.1.ext O54.2) (g := (mkF m 109 #[.val (.int p0), .val (.ref b15), .val (.ref c_ANYXML), .unset, .unset] [(.ref c_ANYXML)])) rfl (hb hby at_109)
    refine own_st st105 ?_
    show own_go _ _ _ _ _ _ _ (T105.setTop (mkF m 112 #[.val (.int p0), .val (.ref b15), .val (.ref c_ANYXML), .unset, .unset] [(.ref c_ACTION), (.ref c_ANYXML)]))
    refine own_st (fun _ k => Jvm.RoadKit.acmp (g := (mkF m 112 #[.val (.int p0), .val (.ref b15), .val (.ref c_ANYXML), .unset, .unset] [(.ref c_ACTION), (.ref c_ANYXML)])) X105 hx rfl rfl rfl (pc0 := 112) (pc' := 115) (same := false) rfl (hb hby at_112) rfl (decide_eq_false fun q => (own_ne hS.2.2.2.2.2.2.2.2.2.2.2.2.2.2.2.2.2.2.2.2.2.2.2.2.2.2.2.2.2.2.2.2.2.2.2.1 hS.2.2.2.2.2.2.2.2.2.2.2.2.2.2.2.2.2.2.2.2.2.2.2.2.2.2.2.2.1 (by decide)) (Value.ref.inj q)) (by decide) (by decide) k) ?_
    show own_go _ _ _ _ _ _ _ (T105.setTop (mkF m 115 #[.val (.int p0), .val (.ref b15), .val (.ref c_ANYXML), .unset, .unset] []))
    refine own_st (fun _ k => XS.aloadN X105.here hx rfl (hb hby at_115) rfl rfl k) ?_
    show own_go _ _ _ _ _ _ _ (T105.setTop (mkF m 116 #[.val (.int p0), .val (.ref b15), .val (.ref c_ANYXML), .unset, .unset] [(.ref c_ANYXML)]))
    obtain ⟨T106, X106, e106, st106⟩ := getS2 X105 hx hZ hown (host := "") (Or.inl (hw _ (List.mem_of_getElem? (i := 24) rfl))) Via.refl e105 (hS.2.2.2.2.2.2.2.2.2.2.2.2.2.2.2.2.2.2.2.2.1.ext O54.2) (g := (mkF m 116 #[.val (.int p0), .val (.ref b15), .val (.ref c_ANYXML), .unset, .unset] [(.ref c_ANYXML)])) rfl (hb hby at_116)
    refine own_st st106 ?_
    show own_go _ _ _ _ _ _ _ (T106.setTop (mkF m 119 #[.val (.int p0), .val (.ref b15), .val (.ref c_ANYXML), .unset, .unset] [(.ref c_INPUT), (.ref c_ANYXML)]))
    refine own_st (fun _ k => Jvm.RoadKit.acmp (g := (mkF m 119 #[.val (.int p0), .val (.ref b15), .val (.ref c_ANYXML), .unset, .unset] [(.ref c_INPUT), (.ref c_ANYXML)])) X106 hx rfl rfl rfl (pc0 := 119) (pc' := 122) (same := false) rfl (hb hby at_119) rfl (decide_eq_false fun q => (own_ne hS.2.2.2.2.2.2.2.2.2.2.2.2.2.2.2.2.2.2.2.2.2.2.2.2.2.2.2.2.2.2.2.2.2.2.2.1 hS.2.2.2.2.2.2.2.2.2.2.2.2.2.2.2.2.2.2.2.2.2.2.2.2.2.2.2.2.2.1 (by decide)) (Value.ref.inj q)) (by decide) (by decide) k) ?_
    show own_go _ _ _ _ _ _ _ (T106.setTop (mkF m 122 #[.val (.int p0), .val (.ref b15), .val (.ref c_ANYXML), .unset, .unset] []))
    refine own_st (fun _ k => XS.aloadN X106.here hx rfl (hb hby at_122) rfl rfl k) ?_
    show own_go _ _ _ _ _ _ _ (T106.setTop (mkF m 123 #[.val (.int p0), .val (.ref b15), .val (.ref c_ANYXML), .unset, .unset] [(.ref c_ANYXML)]))
    obtain ⟨T107, X107, e107, st107⟩ := getS2 X106 hx hZ hown (host := "") (Or.inl (hw _ (List.mem_of_getElem? (i := 26) rfl))) Via.refl e106 (hS.2.2.2.2.2.2.2.2.2.2.2.2.2.2.2.2.2.2.2.2.2.2.1.ext O54.2) (g := (mkF m 123 #[.val (.int p0), .val (.ref b15), .val (.ref c_ANYXML), .unset, .unset] [(.ref c_ANYXML)])) rfl (hb hby at_123)
    refine own_st st107 ?_
    show own_go _ _ _ _ _ _ _ (T107.setTop (mkF m 126 #[.val (.int p0), .val (.ref b15), .val (.ref c_ANYXML), .unset, .unset] [(.ref c_OUTPUT), (.ref c_ANYXML)]))
    refine own_st (fun _ k => Jvm.RoadKit.acmp (g := (mkF m 126 #[.val (.int p0), .val (.ref b15), .val (.ref c_ANYXML), .unset, .unset] [(.ref c_OUTPUT), (.ref c_ANYXML)])) X107 hx rfl rfl rfl (pc0 := 126) (pc' := 129) (same := false) rfl (hb hby at_126) rfl (decide_eq_false fun q => (own_ne hS.2.2.2.2.2.2.2.2.2.2.2.2.2.2.2.2.2.2.2.2.2.2.2.2.2.2.2.2.2.2.2.2.2.2.2.1 hS.2.2.2.2.2.2.2.2.2.2.2.2.2.2.2.2.2.2.2.2.2.2.2.2.2.2.2.2.2.2.1 (by decide)) (Value.ref.inj q)) (by decide) (by decide) k) ?_
    show own_go _ _ _ _ _ _ _ (T107.setTop (mkF m 129 #[.val (.int p0), .val (.ref b15), .val (.ref c_ANYXML), .unset, .unset] []))
    refine own_st (fun _ k => XS.aloadN X107.here hx rfl (hb hby at_129) rfl rfl k) ?_
    show own_go _ _ _ _ _ _ _ (T107.setTop (mkF m 130 #[.val (.int p0), .val (.ref b15), .val (.ref c_ANYXML), .unset, .unset] [(.ref c_ANYXML)]))
    obtain ⟨T108, X108, e108, st108⟩ := getS2 X107 hx hZ hown (host := "") (Or.inl (hw _ (List.mem_of_getElem? (i := 28) rfl))) Via.refl e107 (hS.2.2.2.2.2.2.2.2.2.2.2.2.2.2.2.2.2.2.2.2.2.2.2.2.1.ext O54.2) (g := (mkF m 130 #[.val (.int p0), .val (.ref b15), .val (.ref c_ANYXML), .unset, .unset] [(.ref c_ANYXML)])) rfl (hb hby at_130)
    refine own_st st108 ?_
    show own_go _ _ _ _ _ _ _ (T108.setTop (mkF m 133 #[.val (.int p0), .val (.ref b15), .val (.ref c_ANYXML), .unset, .unset] [(.ref c_NOTIFICATION), (.ref c_ANYXML)]))
    refine own_st (fun _ k => Jvm.RoadKit.acmp (g := (mkF m 133 #[.val (.int p0), .val (.ref b15), .val (.ref c_ANYXML), .unset, .unset] [(.ref c_NOTIFICATION), (.ref c_ANYXML)])) X108 hx rfl rfl rfl (pc0 := 133) (pc' := 140) (same := false) rfl (hb hby at_133) rfl (decide_eq_false fun q => (own_ne hS.2.2.2.2.2.2.2.2.2.2.2.2.2.2.2.2.2.2.2.2.2.2.2.2.2.2.2.2.2.2.2.2.2.2.2.1 hS.2.2.2.2.2.2.2.2.2.2.2.2.2.2.2.2.2.2.2.2.2.2.2.2.2.2.2.2.2.2.2.1 (by decide)) (Value.ref.inj q)) (by decide) (by decide) k) ?_
    show own_go _ _ _ _ _ _ _ (T108.setTop (mkF m 140 #[.val (.int p0), .val (.ref b15), .val (.ref c_ANYXML), .unset, .unset] []))
    refine own_st (fun _ k => XS.iconst X108.here hx rfl (hb hby at_140) k) ?_
    show own_go _ _ _ _ _ _ _ (T108.setTop (mkF m 141 #[.val (.int p0), .val (.ref b15), .val (.ref c_ANYXML), .unset, .unset] [(.int (0 : Int32))]))
    refine own_st (fun _ k => XS.istoreN X108.here hx rfl (hb hby at_141) rfl (l' := #[.val (.int p0), .val (.ref b15), .val (.ref c_ANYXML), .val (.int (0 : Int32)), .unset]) rfl k) ?_
    show own_go _ _ _ _ _ _ _ (T108.setTop (mkF m 142 #[.val (.int p0), .val (.ref b15), .val (.ref c_ANYXML), .val (.int (0 : Int32)), .unset] []))
    refine own_st (fun _ k => XS.aloadN X108.here hx rfl (hb hby at_142) rfl rfl k) ?_
    show own_go _ _ _ _ _ _ _ (T108.setTop (mkF m 143 #[.val (.int p0), .val (.ref b15), .val (.ref c_ANYXML), .val (.int (0 : Int32)), .unset] [(.ref c_ANYXML)]))
    obtain ⟨T109, X109, e109, st109⟩ := getS2 X108 hx hZ hown (host := "") (Or.inl (hw _ (List.mem_of_getElem? (i := 14) rfl))) Via.refl e108 (hS.2.2.2.2.2.2.2.2.2.2.1.ext O54.2) (g := (mkF m 143 #[.val (.int p0), .val (.ref b15), .val (.ref c_ANYXML), .val (.int (0 : Int32)), .unset] [(.ref c_ANYXML)])) rfl (hb hby at_143)
    refine own_st st109 ?_
    show own_go _ _ _ _ _ _ _ (T109.setTop (mkF m 146 #[.val (.int p0), .val (.ref b15), .val (.ref c_ANYXML), .val (.int (0 : Int32)), .unset] [(.ref c_CASE), (.ref c_ANYXML)]))
    refine own_st (fun _ k => Jvm.RoadKit.acmp (g := (mkF m 146 #[.val (.int p0), .val (.ref b15), .val (.ref c_ANYXML), .val (.int (0 : Int32)), .unset] [(.ref c_CASE), (.ref c_ANYXML)])) X109 hx rfl rfl rfl (pc0 := 146) (pc' := 149) (same := false) rfl (hb hby at_146) rfl (decide_eq_false fun q => (own_ne hS.2.2.2.2.2.2.2.2.2.2.2.2.2.2.2.2.2.2.2.2.2.2.2.2.2.2.2.2.2.2.2.2.2.2.2.1 hS.2.2.2.2.2.2.2.2.2.2.2.2.2.2.2.2.2.2.2.2.2.2.2.2.2.2.2.2.2.2.2.2.1 (by decide)) (Value.ref.inj q)) (by decide) (by decide) k) ?_
    show own_go _ _ _ _ _ _ _ (T109.setTop (mkF m 149 #[.val (.int p0), .val (.ref b15), .val (.ref c_ANYXML), .val (.int (0 : Int32)), .unset] []))
    refine own_st (fun _ k => XS.iloadN X109.here hx rfl (hb hby at_149) rfl k) ?_
    show own_go _ _ _ _ _ _ _ (T109.setTop (mkF m 150 #[.val (.int p0), .val (.ref b15), .val (.ref c_ANYXML), .val (.int (0 : Int32)), .unset] [(.int (0 : Int32))]))
    refine own_st (fun _ k => XS.ifNo X109.here hx rfl (hb hby at_150) rfl (by decide) k) ?_
    show own_go _ _ _ _ _ _ _ (T109.setTop (mkF m 153 #[.val (.int p0), .val (.ref b15), .val (.ref c_ANYXML), .val (.int (0 : Int32)), .unset] []))
    refine own_st (fun _ k => XS.iconst X109.here hx rfl (hb hby at_153) k) ?_
    show own_go _ _ _ _ _ _ _ (T109.setTop (mkF m 154 #[.val (.int p0), .val (.ref b15), .val (.ref c_ANYXML), .val (.int (0 : Int32)), .unset] [(.int (1 : Int32))]))
    refine own_st (fun _ k => XS.goto X109.here hx rfl (pc0 := 154) (pc' := 158) rfl (hb hby at_154) (by decide) (by decide) k) ?_
    show own_go _ _ _ _ _ _ _ (T109.setTop (mkF m 158 #[.val (.int p0), .val (.ref b15), .val (.ref c_ANYXML), .val (.int (0 : Int32)), .unset] [(.int (1 : Int32))]))
    refine own_st (fun _ k => XS.istore X109.here hx rfl (hb hby at_158) rfl (l' := #[.val (.int p0), .val (.ref b15), .val (.ref c_ANYXML), .val (.int (0 : Int32)), .val (.int (1 : Int32))]) rfl k) ?_
    show own_go _ _ _ _ _ _ _ (T109.setTop (mkF m 160 #[.val (.int p0), .val (.ref b15), .val (.ref c_ANYXML), .val (.int (0 : Int32)), .val (.int (1 : Int32))] []))
    refine own_st (fun _ k => XS.aloadN X109.here hx rfl (hb hby at_160) rfl rfl k) ?_
    show own_go _ _ _ _ _ _ _ (T109.setTop (mkF m 161 #[.val (.int p0), .val (.ref b15), .val (.ref c_ANYXML), .val (.int (0 : Int32)), .val (.int (1 : Int32))] [(.ref c_ANYXML)]))
    obtain ⟨v110, T110, L110, X110, hQ110, st110⟩ := own_callV X109 hx hZ (argsL := []) (rest := []) (rm1_7 l Z a0 hw c_CONTAINER c_LIST c_LEAF c_LEAF_LIST c_CHOICE c_CASE c_ANYDATA c_ANYXML c_RPC c_ACTION c_INPUT c_OUTPUT c_NOTIFICATION h53 n0 O54 hS) hown (hw _ (List.mem_of_getElem? (i := 31) rfl)) (hw _ (List.mem_of_getElem? (i := 32) rfl)) (notFace_of_selects (args := #[]) (mvT hZ (hw _ (List.mem_of_getElem? (i := 34) rfl)))) (hw _ (List.mem_of_getElem? (i := 34) rfl)) (hw _ (List.mem_of_getElem? (i := 33) rfl)) (hw _ (List.mem_of_getElem? (i := 3) rfl)) (hw _ (List.mem_of_getElem? (i := 35) rfl)) (by decide) e109 (hS.2.2.2.2.2.2.2.2.2.2.2.2.2.2.2.1.ext O54.2) (g := (mkF m 161 #[.val (.int p0), .val (.ref b15), .val (.ref c_ANYXML), .val (.int (0 : Int32)), .val (.int (1 : Int32))] [(.ref c_ANYXML)])) rfl (by rw [hml]; rfl) (lenOf own_pd__28_29Z rfl) rfl (W := 0) (by show 2 * 0 + _ ≤ _; exact Nat.le_of_eq rfl) (hb hby at_161) (by decide) (by decide) (by decide) (by decide)
    obtain ⟨rfl, Nq110, eq110⟩ := hQ110
    have N110 := Fr.app N53 Nq110
    refine own_st st110 ?_
    show own_go _ _ _ _ _ _ _ (T110.setTop (mkF m 164 #[.val (.int p0), .val (.ref b15), .val (.ref c_ANYXML), .val (.int (0 : Int32)), .val (.int (1 : Int32))] [(.int (1 : Int32))]))
    refine own_st (fun _ k => XS.iload X110.here hx rfl (hb hby at_164) rfl k) ?_
    show own_go _ _ _ _ _ _ _ (T110.setTop (mkF m 166 #[.val (.int p0), .val (.ref b15), .val (.ref c_ANYXML), .val (.int (0 : Int32)), .val (.int (1 : Int32))] [(.int (1 : Int32)), (.int (1 : Int32))]))
    refine own_st (fun _ k => XS.icmpNo X110.here hx rfl (hb hby at_166) rfl (by decide) k) ?_
    show own_go _ _ _ _ _ _ _ (T110.setTop (mkF m 169 #[.val (.int p0), .val (.ref b15), .val (.ref c_ANYXML), .val (.int (0 : Int32)), .val (.int (1 : Int32))] []))
    refine own_st (fun _ k => XS.iconst X110.here hx rfl (hb hby at_169) k) ?_
    show own_go _ _ _ _ _ _ _ (T110.setTop (mkF m 170 #[.val (.int p0), .val (.ref b15), .val (.ref c_ANYXML), .val (.int (0 : Int32)), .val (.int (1 : Int32))] [(.int (1 : Int32))]))
    refine own_st (fun _ k => XS.goto X110.here hx rfl (pc0 := 170) (pc' := 174) rfl (hb hby at_170) (by decide) (by decide) k) ?_
    show own_go _ _ _ _ _ _ _ (T110.setTop (mkF m 174 #[.val (.int p0), .val (.ref b15), .val (.ref c_ANYXML), .val (.int (0 : Int32)), .val (.int (1 : Int32))] [(.int (1 : Int32))]))
    exact own_retN X110 hx hlk (t := .boolean) hret (by simp) rfl (hb hby at_174) (by decide) (by decide) (⟨rfl, N110⟩)
  · skip
    rw [q]
    show own_go _ _ _ _ _ _ _ (T53.setTop (mkF m 99 #[.val (.int p0), .val (.ref b15), .unset, .unset, .unset] [(.int (8 : Int32)), (.ref b15)]))
    refine own_st (own_get X53 hx hZ e53 V53 rfl (j := (8 : Int32)) (by decide) (v := (.ref c_RPC)) rfl (g := (mkF m 99 #[.val (.int p0), .val (.ref b15), .unset, .unset, .unset] [(.int (8 : Int32)), (.ref b15)])) rfl rfl (hb hby at_99)) ?_
    show own_go _ _ _ _ _ _ _ (T53.setTop (mkF m 100 #[.val (.int p0), .val (.ref b15), .unset, .unset, .unset] [(.ref c_RPC)]))
    refine own_st (fun _ k => XS.astoreN X53.here hx rfl (hb hby at_100) rfl rfl (l' := #[.val (.int p0), .val (.ref b15), .val (.ref c_RPC), .unset, .unset]) rfl k) ?_
    show own_go _ _ _ _ _ _ _ (T53.setTop (mkF m 101 #[.val (.int p0), .val (.ref b15), .val (.ref c_RPC), .unset, .unset] []))
    refine own_st (fun _ k => XS.aloadN X53.here hx rfl (hb hby at_101) rfl rfl k) ?_
    show own_go _ _ _ _ _ _ _ (T53.setTop (mkF m 102 #[.val (.int p0), .val (.ref b15), .val (.ref c_RPC), .unset, .unset] [(.ref c_RPC)]))
    obtain ⟨T111, X111, e111, st111⟩ := getS2 X53 hx hZ hown (host := "") (Or.inl (hw _ (List.mem_of_getElem? (i := 20) rfl))) Via.refl e53 (hS.2.2.2.2.2.2.2.2.2.2.2.2.2.2.2.2.1.ext O54.2) (g := (mkF m 102 #[.val (.int p0), .val (.ref b15), .val (.ref c_RPC), .unset, .unset] [(.ref c_RPC)])) rfl (hb hby at_102)
    refine own_st st111 ?_
    show own_go _ _ _ _ _ _ _ (T111.setTop (mkF m 105 #[.val (.int p0), .val (.ref b15), .val (.ref c_RPC), .unset, .unset] [(.ref c_RPC), (.ref c_RPC)]))
    refine own_st (fun _ k => Jvm.RoadKit.acmp (g := (mkF m 105 #[.val (.int p0), .val (.ref b15), .val (.ref c_RPC), .unset, .unset] [(.ref c_RPC), (.ref c_RPC)])) X111 hx rfl rfl rfl (pc0 := 105) (pc' := 136) (same := true) rfl (hb hby at_105) rfl (decide_eq_true rfl) (by decide) (by decide) k) ?_
    show own_go _ _ _ _ _ _ _ (T111.setTop (mkF m 136 #[.val (.int p0), .val (.ref b15), .val (.ref c_RPC), .unset, .unset] []))
    refine own_st (fun _ k => XS.iconst X111.here hx rfl (hb hby at_136) k) ?_
    show own_go _ _ _ _ _ _ _ (T111.setTop (mkF m 137 #[.val (.int p0), .val (.ref b15), .val (.ref c_RPC), .unset, .unset] [(.int (1 : Int32))]))
    refine own_st (fun _ k => XS.goto X111.here hx rfl (pc0 := 137) (pc' := 141) rfl (hb hby at_137) (by decide) (by decide) k) ?_
    show own_go _ _ _ _ _ _ _ (T111.setTop (mkF m 141 #[.val (.int p0), .val (.ref b15), .val (.ref c_RPC), .unset, .unset] [(.int (1 : Int32))]))
    refine own_st (fun _ k => XS.istoreN X111.here hx rfl (hb hby at_141) rfl (l' := #[.val (.int p0), .val (.ref b15), .val (.ref c_RPC), .val (.int (1 : Int32)), .unset]) rfl k) ?_
    show own_go _ _ _ _ _ _ _ (T111.setTop (mkF m 142 #[.val (.int p0), .val (.ref b15), .val (.ref c_RPC), .val (.int (1 : Int32)), .unset] []))
    refine own_st (fun _ k => XS.aloadN X111.here hx rfl (hb hby at_142) rfl rfl k) ?_
    show own_go _ _ _ _ _ _ _ (T111.setTop (mkF m 143 #[.val (.int p0), .val (.ref b15), .val (.ref c_RPC), .val (.int (1 : Int32)), .unset] [(.ref c_RPC)]))
    obtain ⟨T112, X112, e112, st112⟩ := getS2 X111 hx hZ hown (host := "") (Or.inl (hw _ (List.mem_of_getElem? (i := 14) rfl))) Via.refl e111 (hS.2.2.2.2.2.2.2.2.2.2.1.ext O54.2) (g := (mkF m 143 #[.val (.int p0), .val (.ref b15), .val (.ref c_RPC), .val (.int (1 : Int32)), .unset] [(.ref c_RPC)])) rfl (hb hby at_143)
    refine own_st st112 ?_
    show own_go _ _ _ _ _ _ _ (T112.setTop (mkF m 146 #[.val (.int p0), .val (.ref b15), .val (.ref c_RPC), .val (.int (1 : Int32)), .unset] [(.ref c_CASE), (.ref c_RPC)]))
    refine own_st (fun _ k => Jvm.RoadKit.acmp (g := (mkF m 146 #[.val (.int p0), .val (.ref b15), .val (.ref c_RPC), .val (.int (1 : Int32)), .unset] [(.ref c_CASE), (.ref c_RPC)])) X112 hx rfl rfl rfl (pc0 := 146) (pc' := 149) (same := false) rfl (hb hby at_146) rfl (decide_eq_false fun q => (own_ne hS.2.2.2.2.2.2.2.2.2.2.2.2.2.2.2.2.2.2.2.2.2.2.2.2.2.2.2.1 hS.2.2.2.2.2.2.2.2.2.2.2.2.2.2.2.2.2.2.2.2.2.2.2.2.2.2.2.2.2.2.2.2.1 (by decide)) (Value.ref.inj q)) (by decide) (by decide) k) ?_
    show own_go _ _ _ _ _ _ _ (T112.setTop (mkF m 149 #[.val (.int p0), .val (.ref b15), .val (.ref c_RPC), .val (.int (1 : Int32)), .unset] []))
    refine own_st (fun _ k => XS.iloadN X112.here hx rfl (hb hby at_149) rfl k) ?_
    show own_go _ _ _ _ _ _ _ (T112.setTop (mkF m 150 #[.val (.int p0), .val (.ref b15), .val (.ref c_RPC), .val (.int (1 : Int32)), .unset] [(.int (1 : Int32))]))
    refine own_st (fun _ k => XS.ifYes X112.here hx rfl (pc0 := 150) (pc' := 157) rfl (hb hby at_150) rfl (by decide) (by decide) (by decide) k) ?_
    show own_go _ _ _ _ _ _ _ (T112.setTop (mkF m 157 #[.val (.int p0), .val (.ref b15), .val (.ref c_RPC), .val (.int (1 : Int32)), .unset] []))
    refine own_st (fun _ k => XS.iconst X112.here hx rfl (hb hby at_157) k) ?_
    show own_go _ _ _ _ _ _ _ (T112.setTop (mkF m 158 #[.val (.int p0), .val (.ref b15), .val (.ref c_RPC), .val (.int (1 : Int32)), .unset] [(.int (0 : Int32))]))
    refine own_st (fun _ k => XS.istore X112.here hx rfl (hb hby at_158) rfl (l' := #[.val (.int p0), .val (.ref b15), .val (.ref c_RPC), .val (.int (1 : Int32)), .val (.int (0 : Int32))]) rfl k) ?_
    show own_go _ _ _ _ _ _ _ (T112.setTop (mkF m 160 #[.val (.int p0), .val (.ref b15), .val (.ref c_RPC), .val (.int (1 : Int32)), .val (.int (0 : Int32))] []))
    refine own_st (fun _ k => XS.aloadN X112.here hx rfl (hb hby at_160) rfl rfl k) ?_
    show own_go _ _ _ _ _ _ _ (T112.setTop (mkF m 161 #[.val (.int p0), .val (.ref b15), .val (.ref c_RPC), .val (.int (1 : Int32)), .val (.int (0 : Int32))] [(.ref c_RPC)]))
    obtain ⟨v113, T113, L113, X113, hQ113, st113⟩ := own_callV X112 hx hZ (argsL := []) (rest := []) (rm1_8 l Z a0 hw c_CONTAINER c_LIST c_LEAF c_LEAF_LIST c_CHOICE c_CASE c_ANYDATA c_ANYXML c_RPC c_ACTION c_INPUT c_OUTPUT c_NOTIFICATION h53 n0 O54 hS) hown (hw _ (List.mem_of_getElem? (i := 31) rfl)) (hw _ (List.mem_of_getElem? (i := 32) rfl)) (notFace_of_selects (args := #[]) (mvT hZ (hw _ (List.mem_of_getElem? (i := 34) rfl)))) (hw _ (List.mem_of_getElem? (i := 34) rfl)) (hw _ (List.mem_of_getElem? (i := 33) rfl)) (hw _ (List.mem_of_getElem? (i := 3) rfl)) (hw _ (List.mem_of_getElem? (i := 35) rfl)) (by decide) e112 (hS.2.2.2.2.2.2.2.2.2.2.2.2.2.2.2.2.2.1.ext O54.2) (g := (mkF m 161 #[.val (.int p0), .val (.ref b15), .val (.ref c_RPC), .val (.int (1 : Int32)), .val (.int (0 : Int32))] [(.ref c_RPC)])) rfl (by rw [hml]; rfl) (lenOf own_pd__28_29Z rfl) rfl (W := 0) (by show 2 * 0 + _ ≤ _; exact Nat.le_of_eq rfl) (hb hby at_161) (by decide) (by decide) (by decide) (by decide)
    obtain ⟨rfl, Nq113, eq113⟩ := hQ113
    have N113 := Fr.app N53 Nq113
    refine own_st st113 ?_
    show own_go _ _ _ _ _ _ _ (T113.setTop (mkF m 164 #[.val (.int p0), .val (.ref b15), .val (.ref c_RPC), .val (.int (1 : Int32)), .val (.int (0 : Int32))] [(.int (0 : Int32))]))
    refine own_st (fun _ k => XS.iload X113.here hx rfl (hb hby at_164) rfl k) ?_
    show own_go _ _ _ _ _ _ _ (T113.setTop (mkF m 166 #[.val (.int p0), .val (.ref b15), .val (.ref c_RPC), .val (.int (1 : Int32)), .val (.int (0 : Int32))] [(.int (0 : Int32)), (.int (0 : Int32))]))
    refine own_st (fun _ k => XS.icmpNo X113.here hx rfl (hb hby at_166) rfl (by decide) k) ?_
    show own_go _ _ _ _ _ _ _ (T113.setTop (mkF m 169 #[.val (.int p0), .val (.ref b15), .val (.ref c_RPC), .val (.int (1 : Int32)), .val (.int (0 : Int32))] []))
    refine own_st (fun _ k => XS.iconst X113.here hx rfl (hb hby at_169) k) ?_
    show own_go _ _ _ _ _ _ _ (T113.setTop (mkF m 170 #[.val (.int p0), .val (.ref b15), .val (.ref c_RPC), .val (.int (1 : Int32)), .val (.int (0 : Int32))] [(.int (1 : Int32))]))
    refine own_st (fun _ k => XS.goto X113.here hx rfl (pc0 := 170) (pc' := 174) rfl (hb hby at_170) (by decide) (by decide) k) ?_
    show own_go _ _ _ _ _ _ _ (T113.setTop (mkF m 174 #[.val (.int p0), .val (.ref b15), .val (.ref c_RPC), .val (.int (1 : Int32)), .val (.int (0 : Int32))] [(.int (1 : Int32))]))
    exact own_retN X113 hx hlk (t := .boolean) hret (by simp) rfl (hb hby at_174) (by decide) (by decide) (⟨rfl, N113⟩)
  · skip
    rw [q]
    show own_go _ _ _ _ _ _ _ (T53.setTop (mkF m 99 #[.val (.int p0), .val (.ref b15), .unset, .unset, .unset] [(.int (9 : Int32)), (.ref b15)]))
    refine own_st (own_get X53 hx hZ e53 V53 rfl (j := (9 : Int32)) (by decide) (v := (.ref c_ACTION)) rfl (g := (mkF m 99 #[.val (.int p0), .val (.ref b15), .unset, .unset, .unset] [(.int (9 : Int32)), (.ref b15)])) rfl rfl (hb hby at_99)) ?_
    show own_go _ _ _ _ _ _ _ (T53.setTop (mkF m 100 #[.val (.int p0), .val (.ref b15), .unset, .unset, .unset] [(.ref c_ACTION)]))
    refine own_st (fun _ k => XS.astoreN X53.here hx rfl (hb hby at_100) rfl rfl (l' := #[.val (.int p0), .val (.ref b15), .val (.ref c_ACTION), .unset, .unset]) rfl k) ?_
    show own_go _ _ _ _ _ _ _ (T53.setTop (mkF m 101 #[.val (.int p0), .val (.ref b15), .val (.ref c_ACTION), .unset, .unset] []))
    refine own_st (fun _ k => XS.aloadN X53.here hx rfl (hb hby at_101) rfl rfl k) ?_
    show own_go _ _ _ _ _ _ _ (T53.setTop (mkF m 102 #[.val (.int p0), .val (.ref b15), .val (.ref c_ACTION), .unset, .unset] [(.ref c_ACTION)]))
    obtain ⟨T114, X114, e114, st114⟩ := getS2 X53 hx hZ hown (host := "") (Or.inl (hw _ (List.mem_of_getElem? (i := 20) rfl))) Via.refl e53 (hS.2.2.2.2.2.2.2.2.2.2.2.2.2.2.2.2.1.ext O54.2) (g := (mkF m 102 #[.val (.int p0), .val (.ref b15), .val (.ref c_ACTION), .unset, .unset] [(.ref c_ACTION)])) rfl (hb hby at_102)
    refine own_st st114 ?_
    show own_go _ _ _ _ _ _ _ (T114.setTop (mkF m 105 #[.val (.int p0), .val (.ref b15), .val (.ref c_ACTION), .unset, .unset] [(.ref c_RPC), (.ref c_ACTION)]))
    refine own_st (fun _ k => Jvm.RoadKit.acmp (g := (mkF m 105 #[.val (.int p0), .val (.ref b15), .val (.ref c_ACTION), .unset, .unset] [(.ref c_RPC), (.ref c_ACTION)])) X114 hx rfl rfl rfl (pc0 := 105) (pc' := 108) (same := false) rfl (hb hby at_105) rfl (decide_eq_false fun q => (own_ne hS.2.2.2.2.2.2.2.2.2.2.2.2.2.2.2.2.2.2.2.2.2.2.2.2.2.2.2.2.1 hS.2.2.2.2.2.2.2.2.2.2.2.2.2.2.2.2.2.2.2.2.2.2.2.2.2.2.2.1 (by decide)) (Value.ref.inj q)) (by decide) (by decide) k) ?_
    show own_go _ _ _ _ _ _ _ (T114.setTop (mkF m 108 #[.val (.int p0), .val (.ref b15), .val (.ref c_ACTION), .unset, .unset] []))
    refine own_st (fun _ k => XS.aloadN X114.here hx rfl (hb hby at_108) rfl rfl k) ?_
    show own_go _ _ _ _ _ _ _ (T114.setTop (mkF m 109 #[.val (.int p0), .val (.ref b15), .val (.ref c_ACTION), .unset, .unset] [(.ref c_ACTION)]))
    obtain ⟨T115, X115, e115, st115⟩ := getS2 X114 hx hZ hown (host := "") (Or.inl (hw _ (List.mem_of_getElem? (i := 22) rfl))) Via.refl e114 (hS.2.2.2.2.2.2.2.2.2.2.2.2.2.2.2.2.2.2.1.ext O54.2) (g := (mkF m 109 #[.val (.int p0), .val (.ref b15), .val (.ref c_ACTION), .unset, .unset] [(.ref c_ACTION)])) rfl (hb hby at_109)
    refine own_st st115 ?_
    show own_go _ _ _ _ _ _ _ (T115.setTop (mkF m 112 #[.val (.int p0), .val (.ref b15), .val (.ref c_ACTION), .unset, .unset] [(.ref c_ACTION), (.ref c_ACTION)]))
    refine own_st (fun _ k => Jvm.RoadKit.acmp (g := (mkF m 112 #[.val (.int p0), .val (.ref b15), .val (.ref c_ACTION), .unset, .unset] [(.ref c_ACTION), (.ref c_ACTION)])) X115 hx rfl rfl rfl (pc0 := 112) (pc' := 136) (same := true) rfl (hb hby at_112) rfl (decide_eq_true rfl) (by decide) (by decide) k) ?_
    show own_go _ _ _ _ _ _ _ (T115.setTop (mkF m 136 #[.val (.int p0), .val (.ref b15), .val (.ref c_ACTION), .unset, .unset] []))
    refine own_st (fun _ k => XS.iconst X115.here hx rfl (hb hby at_136) k) ?_
    show own_go _ _ _ _ _ _ _ (T115.setTop (mkF m 137 #[.val (.int p0), .val (.ref b15), .val (.ref c_ACTION), .unset, .unset] [(.int (1 : Int32))]))
    refine own_st (fun _ k => XS.goto X115.here hx rfl (pc0 := 137) (pc' := 141) rfl (hb hby at_137) (by decide) (by decide) k) ?_
    show own_go _ _ _ _ _ _ _ (T115.setTop (mkF m 141 #[.val (.int p0), .val (.ref b15), .val (.ref c_ACTION), .unset, .unset] [(.int (1 : Int32))]))
    refine own_st (fun _ k => XS.istoreN X115.here hx rfl (hb hby at_141) rfl (l' := #[.val (.int p0), .val (.ref b15), .val (.ref c_ACTION), .val (.int (1 : Int32)), .unset]) rfl k) ?_
    show own_go _ _ _ _ _ _ _ (T115.setTop (mkF m 142 #[.val (.int p0), .val (.ref b15), .val (.ref c_ACTION), .val (.int (1 : Int32)), .unset] []))
    refine own_st (fun _ k => XS.aloadN X115.here hx rfl (hb hby at_142) rfl rfl k) ?_
    show own_go _ _ _ _ _ _ _ (T115.setTop (mkF m 143 #[.val (.int p0), .val (.ref b15), .val (.ref c_ACTION), .val (.int (1 : Int32)), .unset] [(.ref c_ACTION)]))
    obtain ⟨T116, X116, e116, st116⟩ := getS2 X115 hx hZ hown (host := "") (Or.inl (hw _ (List.mem_of_getElem? (i := 14) rfl))) Via.refl e115 (hS.2.2.2.2.2.2.2.2.2.2.1.ext O54.2) (g := (mkF m 143 #[.val (.int p0), .val (.ref b15), .val (.ref c_ACTION), .val (.int (1 : Int32)), .unset] [(.ref c_ACTION)])) rfl (hb hby at_143)
    refine own_st st116 ?_
    show own_go _ _ _ _ _ _ _ (T116.setTop (mkF m 146 #[.val (.int p0), .val (.ref b15), .val (.ref c_ACTION), .val (.int (1 : Int32)), .unset] [(.ref c_CASE), (.ref c_ACTION)]))
    refine own_st (fun _ k => Jvm.RoadKit.acmp (g := (mkF m 146 #[.val (.int p0), .val (.ref b15), .val (.ref c_ACTION), .val (.int (1 : Int32)), .unset] [(.ref c_CASE), (.ref c_ACTION)])) X116 hx rfl rfl rfl (pc0 := 146) (pc' := 149) (same := false) rfl (hb hby at_146) rfl (decide_eq_false fun q => (own_ne hS.2.2.2.2.2.2.2.2.2.2.2.2.2.2.2.2.2.2.2.2.2.2.2.2.2.2.2.2.1 hS.2.2.2.2.2.2.2.2.2.2.2.2.2.2.2.2.2.2.2.2.2.2.2.2.2.2.2.2.2.2.2.2.1 (by decide)) (Value.ref.inj q)) (by decide) (by decide) k) ?_
    show own_go _ _ _ _ _ _ _ (T116.setTop (mkF m 149 #[.val (.int p0), .val (.ref b15), .val (.ref c_ACTION), .val (.int (1 : Int32)), .unset] []))
    refine own_st (fun _ k => XS.iloadN X116.here hx rfl (hb hby at_149) rfl k) ?_
    show own_go _ _ _ _ _ _ _ (T116.setTop (mkF m 150 #[.val (.int p0), .val (.ref b15), .val (.ref c_ACTION), .val (.int (1 : Int32)), .unset] [(.int (1 : Int32))]))
    refine own_st (fun _ k => XS.ifYes X116.here hx rfl (pc0 := 150) (pc' := 157) rfl (hb hby at_150) rfl (by decide) (by decide) (by decide) k) ?_
    show own_go _ _ _ _ _ _ _ (T116.setTop (mkF m 157 #[.val (.int p0), .val (.ref b15), .val (.ref c_ACTION), .val (.int (1 : Int32)), .unset] []))
    refine own_st (fun _ k => XS.iconst X116.here hx rfl (hb hby at_157) k) ?_
    show own_go _ _ _ _ _ _ _ (T116.setTop (mkF m 158 #[.val (.int p0), .val (.ref b15), .val (.ref c_ACTION), .val (.int (1 : Int32)), .unset] [(.int (0 : Int32))]))
    refine own_st (fun _ k => XS.istore X116.here hx rfl (hb hby at_158) rfl (l' := #[.val (.int p0), .val (.ref b15), .val (.ref c_ACTION), .val (.int (1 : Int32)), .val (.int (0 : Int32))]) rfl k) ?_
    show own_go _ _ _ _ _ _ _ (T116.setTop (mkF m 160 #[.val (.int p0), .val (.ref b15), .val (.ref c_ACTION), .val (.int (1 : Int32)), .val (.int (0 : Int32))] []))
    refine own_st (fun _ k => XS.aloadN X116.here hx rfl (hb hby at_160) rfl rfl k) ?_
    show own_go _ _ _ _ _ _ _ (T116.setTop (mkF m 161 #[.val (.int p0), .val (.ref b15), .val (.ref c_ACTION), .val (.int (1 : Int32)), .val (.int (0 : Int32))] [(.ref c_ACTION)]))
    obtain ⟨v117, T117, L117, X117, hQ117, st117⟩ := own_callV X116 hx hZ (argsL := []) (rest := []) (rm1_9 l Z a0 hw c_CONTAINER c_LIST c_LEAF c_LEAF_LIST c_CHOICE c_CASE c_ANYDATA c_ANYXML c_RPC c_ACTION c_INPUT c_OUTPUT c_NOTIFICATION h53 n0 O54 hS) hown (hw _ (List.mem_of_getElem? (i := 31) rfl)) (hw _ (List.mem_of_getElem? (i := 32) rfl)) (notFace_of_selects (args := #[]) (mvT hZ (hw _ (List.mem_of_getElem? (i := 34) rfl)))) (hw _ (List.mem_of_getElem? (i := 34) rfl)) (hw _ (List.mem_of_getElem? (i := 33) rfl)) (hw _ (List.mem_of_getElem? (i := 3) rfl)) (hw _ (List.mem_of_getElem? (i := 35) rfl)) (by decide) e116 (hS.2.2.2.2.2.2.2.2.2.2.2.2.2.2.2.2.2.2.2.1.ext O54.2) (g := (mkF m 161 #[.val (.int p0), .val (.ref b15), .val (.ref c_ACTION), .val (.int (1 : Int32)), .val (.int (0 : Int32))] [(.ref c_ACTION)])) rfl (by rw [hml]; rfl) (lenOf own_pd__28_29Z rfl) rfl (W := 0) (by show 2 * 0 + _ ≤ _; exact Nat.le_of_eq rfl) (hb hby at_161) (by decide) (by decide) (by decide) (by decide)
    obtain ⟨rfl, Nq117, eq117⟩ := hQ117
    have N117 := Fr.app N53 Nq117
    refine own_st st117 ?_
    show own_go _ _ _ _ _ _ _ (T117.setTop (mkF m 164 #[.val (.int p0), .val (.ref b15), .val (.ref c_ACTION), .val (.int (1 : Int32)), .val (.int (0 : Int32))] [(.int (0 : Int32))]))
    refine own_st (fun _ k => XS.iload X117.here hx rfl (hb hby at_164) rfl k) ?_
    show own_go _ _ _ _ _ _ _ (T117.setTop (mkF m 166 #[.val (.int p0), .val (.ref b15), .val (.ref c_ACTION), .val (.int (1 : Int32)), .val (.int (0 : Int32))] [(.int (0 : Int32)), (.int (0 : Int32))]))
    refine own_st (fun _ k => XS.icmpNo X117.here hx rfl (hb hby at_166) rfl (by decide) k) ?_
    show own_go _ _ _ _ _ _ _ (T117.setTop (mkF m 169 #[.val (.int p0), .val (.ref b15), .val (.ref c_ACTION), .val (.int (1 : Int32)), .val (.int (0 : Int32))] []))
    refine own_st (fun _ k => XS.iconst X117.here hx rfl (hb hby at_169) k) ?_
    show own_go _ _ _ _ _ _ _ (T117.setTop (mkF m 170 #[.val (.int p0), .val (.ref b15), .val (.ref c_ACTION), .val (.int (1 : Int32)), .val (.int (0 : Int32))] [(.int (1 : Int32))]))
    refine own_st (fun _ k => XS.goto X117.here hx rfl (pc0 := 170) (pc' := 174) rfl (hb hby at_170) (by decide) (by decide) k) ?_
    show own_go _ _ _ _ _ _ _ (T117.setTop (mkF m 174 #[.val (.int p0), .val (.ref b15), .val (.ref c_ACTION), .val (.int (1 : Int32)), .val (.int (0 : Int32))] [(.int (1 : Int32))]))
    exact own_retN X117 hx hlk (t := .boolean) hret (by simp) rfl (hb hby at_174) (by decide) (by decide) (⟨rfl, N117⟩)
  · skip
    rw [q]
    show own_go _ _ _ _ _ _ _ (T53.setTop (mkF m 99 #[.val (.int p0), .val (.ref b15), .unset, .unset, .unset] [(.int (10 : Int32)), (.ref b15)]))
    refine own_st (own_get X53 hx hZ e53 V53 rfl (j := (10 : Int32)) (by decide) (v := (.ref c_INPUT)) rfl (g := (mkF m 99 #[.val (.int p0), .val (.ref b15), .unset, .unset, .unset] [(.int (10 : Int32)), (.ref b15)])) rfl rfl (hb hby at_99)) ?_
    show own_go _ _ _ _ _ _ _ (T53.setTop (mkF m 100 #[.val (.int p0), .val (.ref b15), .unset, .unset, .unset] [(.ref c_INPUT)]))
    refine own_st (fun _ k => XS.astoreN X53.here hx rfl (hb hby at_100) rfl rfl (l' := #[.val (.int p0), .val (.ref b15), .val (.ref c_INPUT), .unset, .unset]) rfl k) ?_
    show own_go _ _ _ _ _ _ _ (T53.setTop (mkF m 101 #[.val (.int p0), .val (.ref b15), .val (.ref c_INPUT), .unset, .unset] []))
    refine own_st (fun _ k => XS.aloadN X53.here hx rfl (hb hby at_101) rfl rfl k) ?_
    show own_go _ _ _ _ _ _ _ (T53.setTop (mkF m 102 #[.val (.int p0), .val (.ref b15), .val (.ref c_INPUT), .unset, .unset] [(.ref c_INPUT)]))
    obtain ⟨T118, X118, e118, st118⟩ := getS2 X53 hx hZ hown (host := "") (Or.inl (hw _ (List.mem_of_getElem? (i := 20) rfl))) Via.refl e53 (hS.2.2.2.2.2.2.2.2.2.2.2.2.2.2.2.2.1.ext O54.2) (g := (mkF m 102 #[.val (.int p0), .val (.ref b15), .val (.ref c_INPUT), .unset, .unset] [(.ref c_INPUT)])) rfl (hb hby at_102)
    refine own_st st118 ?_
    show own_go _ _ _ _ _ _ _ (T118.setTop (mkF m 105 #[.val (.int p0), .val (.ref b15), .val (.ref c_INPUT), .unset, .unset] [(.ref c_RPC), (.ref c_INPUT)]))
    refine own_st (fun _ k => Jvm.RoadKit.acmp (g := (mkF m 105 #[.val (.int p0), .val (.ref b15), .val (.ref c_INPUT), .unset, .unset] [(.ref c_RPC), (.ref c_INPUT)])) X118 hx rfl rfl rfl (pc0 := 105) (pc' := 108) (same := false) rfl (hb hby at_105) rfl (decide_eq_false fun q => (own_ne hS.2.2.2.2.2.2.2.2.2.2.2.2.2.2.2.2.2.2.2.2.2.2.2.2.2.2.2.2.2.1 hS.2.2.2.2.2.2.2.2.2.2.2.2.2.2.2.2.2.2.2.2.2.2.2.2.2.2.2.1 (by decide)) (Value.ref.inj q)) (by decide) (by decide) k) ?_
    show own_go _ _ _ _ _ _ _ (T118.setTop (mkF m 108 #[.val (.int p0), .val (.ref b15), .val (.ref c_INPUT), .unset, .unset] []))
    refine own_st (fun _ k => XS.aloadN X118.here hx rfl (hb hby at_108) rfl rfl k) ?_
    show own_go _ _ _ _ _ _ _ (T118.setTop (mkF m 109 #[.val (.int p0), .val (.ref b15), .val (.ref c_INPUT), .unset, .unset] [(.ref c_INPUT)]))
    obtain ⟨T119, X119, e119, st119⟩ := getS2 X118 hx hZ hown (host := "") (Or.inl (hw _ (List.mem_of_getElem? (i := 22) rfl))) Via.refl e118 (hS.2.2.2.2.2.2.2.2.2.2.2.2.2.2.2.2.2.2.1.ext O54.2) (g := (mkF m 109 #[.val (.int p0), .val (.ref b15), .val (.ref c_INPUT), .unset, .unset] [(.ref c_INPUT)])) rfl (hb hby at_109)
    refine own_st st119 ?_
    show own_go _ _ _ _ _ _ _ (T119.setTop (mkF m 112 #[.val (.int p0), .val (.ref b15), .val (.ref c_INPUT), .unset, .unset] [(.ref c_ACTION), (.ref c_INPUT)]))
    refine own_st (fun _ k => Jvm.RoadKit.acmp (g := (mkF m 112 #[.val (.int p0), .val (.ref b15), .val (.ref c_INPUT), .unset, .unset] [(.ref c_ACTION), (.ref c_INPUT)])) X119 hx rfl rfl rfl (pc0 := 112) (pc' := 115) (same := false) rfl (hb hby at_112) rfl (decide_eq_false fun q => (own_ne hS.2.2.2.2.2.2.2.2.2.2.2.2.2.2.2.2.2.2.2.2.2.2.2.2.2.2.2.2.2.1 hS.2.2.2.2.2.2.2.2.2.2.2.2.2.2.2.2.2.2.2.2.2.2.2.2.2.2.2.2.1 (by decide)) (Value.ref.inj q)) (by decide) (by decide) k) ?_
    show own_go _ _ _ _ _ _ _ (T119.setTop (mkF m 115 #[.val (.int p0), .val (.ref b15), .val (.ref c_INPUT), .unset, .unset] []))
    refine own_st (fun _ k => XS.aloadN X119.here hx rfl (hb hby at_115) rfl rfl k) ?_
    show own_go _ _ _ _ _ _ _ (T119.setTop (mkF m 116 #[.val (.int p0), .val (.ref b15), .val (.ref c_INPUT), .unset, .unset] [(.ref c_INPUT)]))
    obtain ⟨T120, X120, e120, st120⟩ := getS2 X119 hx hZ hown (host := "") (Or.inl (hw _ (List.mem_of_getElem? (i := 24) rfl))) Via.refl e119 (hS.2.2.2.2.2.2.2.2.2.2.2.2.2.2.2.2.2.2.2.2.1.ext O54.2) (g := (mkF m 116 #[.val (.int p0), .val (.ref b15), .val (.ref c_INPUT), .unset, .unset] [(.ref c_INPUT)])) rfl (hb hby at_116)
    refine own_st st120 ?_
    show own_go _ _ _ _ _ _ _ (T120.setTop (mkF m 119 #[.val (.int p0), .val (.ref b15), .val (.ref c_INPUT), .unset, .unset] [(.ref c_INPUT), (.ref c_INPUT)]))
    refine own_st (fun _ k => Jvm.RoadKit.acmp (g := (mkF m 119 #[.val (.int p0), .val (.ref b15), .val (.ref c_INPUT), .unset, .unset] [(.ref c_INPUT), (.ref c_INPUT)])) X120 hx rfl rfl rfl (pc0 := 119) (pc' := 136) (same := true) rfl (hb hby at_119) rfl (decide_eq_true rfl) (by decide) (by decide) k) ?_
    show own_go _ _ _ _ _ _ _ (T120.setTop (mkF m 136 #[.val (.int p0), .val (.ref b15), .val (.ref c_INPUT), .unset, .unset] []))
    refine own_st (fun _ k => XS.iconst X120.here hx rfl (hb hby at_136) k) ?_
    show own_go _ _ _ _ _ _ _ (T120.setTop (mkF m 137 #[.val (.int p0), .val (.ref b15), .val (.ref c_INPUT), .unset, .unset] [(.int (1 : Int32))]))
    refine own_st (fun _ k => XS.goto X120.here hx rfl (pc0 := 137) (pc' := 141) rfl (hb hby at_137) (by decide) (by decide) k) ?_
    show own_go _ _ _ _ _ _ _ (T120.setTop (mkF m 141 #[.val (.int p0), .val (.ref b15), .val (.ref c_INPUT), .unset, .unset] [(.int (1 : Int32))]))
    refine own_st (fun _ k => XS.istoreN X120.here hx rfl (hb hby at_141) rfl (l' := #[.val (.int p0), .val (.ref b15), .val (.ref c_INPUT), .val (.int (1 : Int32)), .unset]) rfl k) ?_
    show own_go _ _ _ _ _ _ _ (T120.setTop (mkF m 142 #[.val (.int p0), .val (.ref b15), .val (.ref c_INPUT), .val (.int (1 : Int32)), .unset] []))
    refine own_st (fun _ k => XS.aloadN X120.here hx rfl (hb hby at_142) rfl rfl k) ?_
    show own_go _ _ _ _ _ _ _ (T120.setTop (mkF m 143 #[.val (.int p0), .val (.ref b15), .val (.ref c_INPUT), .val (.int (1 : Int32)), .unset] [(.ref c_INPUT)]))
    obtain ⟨T121, X121, e121, st121⟩ := getS2 X120 hx hZ hown (host := "") (Or.inl (hw _ (List.mem_of_getElem? (i := 14) rfl))) Via.refl e120 (hS.2.2.2.2.2.2.2.2.2.2.1.ext O54.2) (g := (mkF m 143 #[.val (.int p0), .val (.ref b15), .val (.ref c_INPUT), .val (.int (1 : Int32)), .unset] [(.ref c_INPUT)])) rfl (hb hby at_143)
    refine own_st st121 ?_
    show own_go _ _ _ _ _ _ _ (T121.setTop (mkF m 146 #[.val (.int p0), .val (.ref b15), .val (.ref c_INPUT), .val (.int (1 : Int32)), .unset] [(.ref c_CASE), (.ref c_INPUT)]))
    refine own_st (fun _ k => Jvm.RoadKit.acmp (g := (mkF m 146 #[.val (.int p0), .val (.ref b15), .val (.ref c_INPUT), .val (.int (1 : Int32)), .unset] [(.ref c_CASE), (.ref c_INPUT)])) X121 hx rfl rfl rfl (pc0 := 146) (pc' := 149) (same := false) rfl (hb hby at_146) rfl (decide_eq_false fun q => (own_ne hS.2.2.2.2.2.2.2.2.2.2.2.2.2.2.2.2.2.2.2.2.2.2.2.2.2.2.2.2.2.1 hS.2.2.2.2.2.2.2.2.2.2.2.2.2.2.2.2.2.2.2.2.2.2.2.2.2.2.2.2.2.2.2.2.1 (by decide)) (Value.ref.inj q)) (by decide) (by decide) k) ?_
    show own_go _ _ _ _ _ _ _ (T121.setTop (mkF m 149 #[.val (.int p0), .val (.ref b15), .val (.ref c_INPUT), .val (.int (1 : Int32)), .unset] []))
    refine own_st (fun _ k => XS.iloadN X121.here hx rfl (hb hby at_149) rfl k) ?_
    show own_go _ _ _ _ _ _ _ (T121.setTop (mkF m 150 #[.val (.int p0), .val (.ref b15), .val (.ref c_INPUT), .val (.int (1 : Int32)), .unset] [(.int (1 : Int32))]))
    refine own_st (fun _ k => XS.ifYes X121.here hx rfl (pc0 := 150) (pc' := 157) rfl (hb hby at_150) rfl (by decide) (by decide) (by decide) k) ?_
    show own_go _ _ _ _ _ _ _ (T121.setTop (mkF m 157 #[.val (.int p0), .val (.ref b15), .val (.ref c_INPUT), .val (.int (1 : Int32)), .unset] []))
    refine own_st (fun _ k => XS.iconst X121.here hx rfl (hb hby at_157) k) ?_
    show own_go _ _ _ _ _ _ _ (T121.setTop (mkF m 158 #[.val (.int p0), .val (.ref b15), .val (.ref c_INPUT), .val (.int (1 : Int32)), .unset] [(.int (0 : Int32))]))
    refine own_st (fun _ k => XS.istore X121.here hx rfl (hb hby at_158) rfl (l' := #[.val (.int p0), .val (.ref b15), .val (.ref c_INPUT), .val (.int (1 : Int32)), .val (.int (0 : Int32))]) rfl k) ?_
    show own_go _ _ _ _ _ _ _ (T121.setTop (mkF m 160 #[.val (.int p0), .val (.ref b15), .val (.ref c_INPUT), .val (.int (1 : Int32)), .val (.int (0 : Int32))] []))
    refine own_st (fun _ k => XS.aloadN X121.here hx rfl (hb hby at_160) rfl rfl k) ?_
    show own_go _ _ _ _ _ _ _ (T121.setTop (mkF m 161 #[.val (.int p0), .val (.ref b15), .val (.ref c_INPUT), .val (.int (1 : Int32)), .val (.int (0 : Int32))] [(.ref c_INPUT)]))
    obtain ⟨v122, T122, L122, X122, hQ122, st122⟩ := own_callV X121 hx hZ (argsL := []) (rest := []) (rm1_10 l Z a0 hw c_CONTAINER c_LIST c_LEAF c_LEAF_LIST c_CHOICE c_CASE c_ANYDATA c_ANYXML c_RPC c_ACTION c_INPUT c_OUTPUT c_NOTIFICATION h53 n0 O54 hS) hown (hw _ (List.mem_of_getElem? (i := 31) rfl)) (hw _ (List.mem_of_getElem? (i := 32) rfl)) (notFace_of_selects (args := #[]) (mvT hZ (hw _ (List.mem_of_getElem? (i := 34) rfl)))) (hw _ (List.mem_of_getElem? (i := 34) rfl)) (hw _ (List.mem_of_getElem? (i := 33) rfl)) (hw _ (List.mem_of_getElem? (i := 3) rfl)) (hw _ (List.mem_of_getElem? (i := 35) rfl)) (by decide) e121 (hS.2.2.2.2.2.2.2.2.2.2.2.2.2.2.2.2.2.2.2.2.2.1.ext O54.2) (g := (mkF m 161 #[.val (.int p0), .val (.ref b15), .val (.ref c_INPUT), .val (.int (1 : Int32)), .val (.int (0 : Int32))] [(.ref c_INPUT)])) rfl (by rw [hml]; rfl) (lenOf own_pd__28_29Z rfl) rfl (W := 0) (by show 2 * 0 + _ ≤ _; exact Nat.le_of_eq rfl) (hb hby at_161) (by decide) (by decide) (by decide) (by decide)
    obtain ⟨rfl, Nq122, eq122⟩ := hQ122
    have N122 := Fr.app N53 Nq122
    refine own_st st122 ?_
    show own_go _ _ _ _ _ _ _ (T122.setTop (mkF m 164 #[.val (.int p0), .val (.ref b15), .val (.ref c_INPUT), .val (.int (1 : Int32)), .val (.int (0 : Int32))] [(.int (0 : Int32))]))
    refine own_st (fun _ k => XS.iload X122.here hx rfl (hb hby at_164) rfl k) ?_
    show own_go _ _ _ _ _ _ _ (T122.setTop (mkF m 166 #[.val (.int p0), .val (.ref b15), .val (.ref c_INPUT), .val (.int (1 : Int32)), .val (.int (0 : Int32))] [(.int (0 : Int32)), (.int (0 : Int32))]))
    refine own_st (fun _ k => XS.icmpNo X122.here hx rfl (hb hby at_166) rfl (by decide) k) ?_
    show own_go _ _ _ _ _ _ _ (T122.setTop (mkF m 169 #[.val (.int p0), .val (.ref b15), .val (.ref c_INPUT), .val (.int (1 : Int32)), .val (.int (0 : Int32))] []))
    refine own_st (fun _ k => XS.iconst X122.here hx rfl (hb hby at_169) k) ?_
    show own_go _ _ _ _ _ _ _ (T122.setTop (mkF m 170 #[.val (.int p0), .val (.ref b15), .val (.ref c_INPUT), .val (.int (1 : Int32)), .val (.int (0 : Int32))] [(.int (1 : Int32))]))
    refine own_st (fun _ k => XS.goto X122.here hx rfl (pc0 := 170) (pc' := 174) rfl (hb hby at_170) (by decide) (by decide) k) ?_
    show own_go _ _ _ _ _ _ _ (T122.setTop (mkF m 174 #[.val (.int p0), .val (.ref b15), .val (.ref c_INPUT), .val (.int (1 : Int32)), .val (.int (0 : Int32))] [(.int (1 : Int32))]))
    exact own_retN X122 hx hlk (t := .boolean) hret (by simp) rfl (hb hby at_174) (by decide) (by decide) (⟨rfl, N122⟩)
  · skip
    rw [q]
    show own_go _ _ _ _ _ _ _ (T53.setTop (mkF m 99 #[.val (.int p0), .val (.ref b15), .unset, .unset, .unset] [(.int (11 : Int32)), (.ref b15)]))
    refine own_st (own_get X53 hx hZ e53 V53 rfl (j := (11 : Int32)) (by decide) (v := (.ref c_OUTPUT)) rfl (g := (mkF m 99 #[.val (.int p0), .val (.ref b15), .unset, .unset, .unset] [(.int (11 : Int32)), (.ref b15)])) rfl rfl (hb hby at_99)) ?_
    show own_go _ _ _ _ _ _ _ (T53.setTop (mkF m 100 #[.val (.int p0), .val (.ref b15), .unset, .unset, .unset] [(.ref c_OUTPUT)]))
    refine own_st (fun _ k => XS.astoreN X53.here hx rfl (hb hby at_100) rfl rfl (l' := #[.val (.int p0), .val (.ref b15), .val (.ref c_OUTPUT), .unset, .unset]) rfl k) ?_
    show own_go _ _ _ _ _ _ _ (T53.setTop (mkF m 101 #[.val (.int p0), .val (.ref b15), .val (.ref c_OUTPUT), .unset, .unset] []))
    refine own_st (fun _ k => XS.aloadN X53.here hx rfl (hb hby at_101) rfl rfl k) ?_
    show own_go _ _ _ _ _ _ _ (T53.setTop (mkF m 102 #[.val (.int p0), .val (.ref b15), .val (.ref c_OUTPUT), .unset, .unset] [(.ref c_OUTPUT)]))
    obtain ⟨T123, X123, e123, st123⟩ := getS2 X53 hx hZ hown (host := "") (Or.inl (hw _ (List.mem_of_getElem? (i := 20) rfl))) Via.refl e53 (hS.2.2.2.2.2.2.2.2.2.2.2.2.2.2.2.2.1.ext O54.2) (g := (mkF m 102 #[.val (.int p0), .val (.ref b15), .val (.ref c_OUTPUT), .unset, .unset] [(.ref c_OUTPUT)])) rfl (hb hby at_102)
    refine own_st st123 ?_
    show own_go _ _ _ _ _ _ _ (T123.setTop (mkF m 105 #[.val (.int p0), .val (.ref b15), .val (.ref c_OUTPUT), .unset, .unset] [(.ref c_RPC), (.ref c_OUTPUT)]))
    refine own_st (fun _ k => Jvm.RoadKit.acmp (g := (mkF m 105 #[.val (.int p0), .val (.ref b15), .val (.ref c_OUTPUT), .unset, .unset] [(.ref c_RPC), (.ref c_OUTPUT)])) X123 hx rfl rfl rfl (pc0 := 105) (pc' := 108) (same := false) rfl (hb hby at_105) rfl (decide_eq_false fun q => (own_ne hS.2.2.2.2.2.2.2.2.2.2.2.2.2.2.2.2.2.2.2.2.2.2.2.2.2.2.2.2.2.2.1 hS.2.2.2.2.2.2.2.2.2.2.2.2.2.2.2.2.2.2.2.2.2.2.2.2.2.2.2.1 (by decide)) (Value.ref.inj q)) (by decide) (by decide) k) ?_
    show own_go _ _ _ _ _ _ _ (T123.setTop (mkF m 108 #[.val (.int p0), .val (.ref b15), .val (.ref c_OUTPUT), .unset, .unset] []))
    refine own_st (fun _ k => XS.aloadN X123.here hx rfl (hb hby at_108) rfl rfl k) ?_
    show own_go _ _ _ _ _ _ _ (T123.setTop (mkF m 109 #[.val (.int p0), .val (.ref b15), .val (.ref c_OUTPUT), .unset, .unset] [(.ref c_OUTPUT)]))
    obtain ⟨T124, X124, e124, st124⟩ := getS2 X123 hx hZ hown (host := "") (Or.inl (hw _ (List.mem_of_getElem? (i := 22) rfl))) Via.refl e123 (hS.2.2.2.2.2.2.2.2.2.2.2.2.2.2.2.2.2.2.1.ext O54.2) (g := (mkF m 109 #[.val (.int p0), .val (.ref b15), .val (.ref c_OUTPUT), .unset, .unset] [(.ref c_OUTPUT)])) rfl (hb hby at_109)
    refine own_st st124 ?_
    show own_go _ _ _ _ _ _ _ (T124.setTop (mkF m 112 #[.val (.int p0), .val (.ref b15), .val (.ref c_OUTPUT), .unset, .unset] [(.ref c_ACTION), (.ref c_OUTPUT)]))
    refine own_st (fun _ k => Jvm.RoadKit.acmp (g := (mkF m 112 #[.val (.int p0), .val (.ref b15), .val (.ref c_OUTPUT), .unset, .unset] [(.ref c_ACTION), (.ref c_OUTPUT)])) X124 hx rfl rfl rfl (pc0 := 112) (pc' := 115) (same := false) rfl (hb hby at_112) rfl (decide_eq_false fun q => (own_ne hS.2.2.2.2.2.2.2.2.2.2.2.2.2.2.2.2.2.2.2.2.2.2.2.2.2.2.2.2.2.2.1 hS.2.2.2.2.2.2.2.2.2.2.2.2.2.2.2.2.2.2.2.2.2.2.2.2.2.2.2.2.1 (by decide)) (Value.ref.inj q)) (by decide) (by decide) k) ?_
    show own_go _ _ _ _ _ _ _ (T124.setTop (mkF m 115 #[.val (.int p0), .val (.ref b15), .val (.ref c_OUTPUT), .unset, .unset] []))
    refine own_st (fun _ k => XS.aloadN X124.here hx rfl (hb hby at_115) rfl rfl k) ?_
    show own_go _ _ _ _ _ _ _ (T124.setTop (mkF m 116 #[.val (.int p0), .val (.ref b15), .val (.ref c_OUTPUT), .unset, .unset] [(.ref c_OUTPUT)]))
    obtain ⟨T125, X125, e125, st125⟩ := getS2 X124 hx hZ hown (host := "") (Or.inl (hw _ (List.mem_of_getElem? (i := 24) rfl))) Via.refl e124 (hS.2.2.2.2.2.2.2.2.2.2.2.2.2.2.2.2.2.2.2.2.1.ext O54.2) (g := (mkF m 116 #[.val (.int p0), .val (.ref b15), .val (.ref c_OUTPUT), .unset, .unset] [(.ref c_OUTPUT)])) rfl (hb hby at_116)
    refine own_st st125 ?_
    show own_go _ _ _ _ _ _ _ (T125.setTop (mkF m 119 #[.val (.int p0), .val (.ref b15), .val (.ref c_OUTPUT), .unset, .unset] [(.ref c_INPUT), (.ref c_OUTPUT)]))
    refine own_st (fun _ k => Jvm.RoadKit.acmp (g := (mkF m 119 #[.val (.int p0), .val (.ref b15), .val (.ref c_OUTPUT), .unset, .unset] [(.ref c_INPUT), (.ref c_OUTPUT)])) X125 hx rfl rfl rfl (pc0 := 119) (pc' := 122) (same := false) rfl (hb hby at_119) rfl (decide_eq_false fun q => (own_ne hS.2.2.2.2.2.2.2.2.2.2.2.2.2.2.2.2.2.2.2.2.2.2.2.2.2.2.2.2.2.2.1 hS.2.2.2.2.2.2.2.2.2.2.2.2.2.2.2.2.2.2.2.2.2.2.2.2.2.2.2.2.2.1 (by decide)) (Value.ref.inj q)) (by decide) (by decide) k) ?_
    show own_go _ _ _ _ _ _ _ (T125.setTop (mkF m 122 #[.val (.int p0), .val (.ref b15), .val (.ref c_OUTPUT), .unset, .unset] []))
    refine own_st (fun _ k => XS.aloadN X125.here hx rfl (hb hby at_122) rfl rfl k) ?_
    show own_go _ _ _ _ _ _ _ (T125.setTop (mkF m 123 #[.val (.int p0), .val (.ref b15), .val (.ref c_OUTPUT), .unset, .unset] [(.ref c_OUTPUT)]))
    obtain ⟨T126, X126, e126, st126⟩ := getS2 X125 hx hZ hown (host := "") (Or.inl (hw _ (List.mem_of_getElem? (i := 26) rfl))) Via.refl e125 (hS.2.2.2.2.2.2.2.2.2.2.2.2.2.2.2.2.2.2.2.2.2.2.1.ext O54.2) (g := (mkF m 123 #[.val (.int p0), .val (.ref b15), .val (.ref c_OUTPUT), .unset, .unset] [(.ref c_OUTPUT)])) rfl (hb hby at_123)
    refine own_st st126 ?_
    show own_go _ _ _ _ _ _ _ (T126.setTop (mkF m 126 #[.val (.int p0), .val (.ref b15), .val (.ref c_OUTPUT), .unset, .unset] [(.ref c_OUTPUT), (.ref c_OUTPUT)]))
    refine own_st (fun _ k => Jvm.RoadKit.acmp (g := (mkF m 126 #[.val (.int p0), .val (.ref b15), .val (.ref c_OUTPUT), .unset, .unset] [(.ref c_OUTPUT), (.ref c_OUTPUT)])) X126 hx rfl rfl rfl (pc0 := 126) (pc' := 136) (same := true) rfl (hb hby at_126) rfl (decide_eq_true rfl) (by decide) (by decide) k) ?_
    show own_go _ _ _ _ _ _ _ (T126.setTop (mkF m 136 #[.val (.int p0), .val (.ref b15), .val (.ref c_OUTPUT), .unset, .unset] []))
    refine own_st (fun _ k => XS.iconst X126.here hx rfl (hb hby at_136) k) ?_
    show own_go _ _ _ _ _ _ _ (T126.setTop (mkF m 137 #[.val (.int p0), .val (.ref b15), .val (.ref c_OUTPUT), .unset, .unset] [(.int (1 : Int32))]))
    refine own_st (fun _ k => XS.goto X126.here hx rfl (pc0 := 137) (pc' := 141) rfl (hb hby at_137) (by decide) (by decide) k) ?_
    show own_go _ _ _ _ _ _ _ (T126.setTop (mkF m 141 #[.val (.int p0), .val (.ref b15), .val (.ref c_OUTPUT), .unset, .unset] [(.int (1 : Int32))]))
    refine own_st (fun _ k => XS.istoreN X126.here hx rfl (hb hby at_141) rfl (l' := #[.val (.int p0), .val (.ref b15), .val (.ref c_OUTPUT), .val (.int (1 : Int32)), .unset]) rfl k) ?_
    show own_go _ _ _ _ _ _ _ (T126.setTop (mkF m 142 #[.val (.int p0), .val (.ref b15), .val (.ref c_OUTPUT), .val (.int (1 : Int32)), .unset] []))
    refine own_st (fun _ k => XS.aloadN X126.here hx rfl (hb hby at_142) rfl rfl k) ?_
    show own_go _ _ _ _ _ _ _ (T126.setTop (mkF m 143 #[.val (.int p0), .val (.ref b15), .val (.ref c_OUTPUT), .val (.int (1 : Int32)), .unset] [(.ref c_OUTPUT)]))
    obtain ⟨T127, X127, e127, st127⟩ := getS2 X126 hx hZ hown (host := "") (Or.inl (hw _ (List.mem_of_getElem? (i := 14) rfl))) Via.refl e126 (hS.2.2.2.2.2.2.2.2.2.2.1.ext O54.2) (g := (mkF m 143 #[.val (.int p0), .val (.ref b15), .val (.ref c_OUTPUT), .val (.int (1 : Int32)), .unset] [(.ref c_OUTPUT)])) rfl (hb hby at_143)
    refine own_st st127 ?_
    show own_go _ _ _ _ _ _ _ (T127.setTop (mkF m 146 #[.val (.int p0), .val (.ref b15), .val (.ref c_OUTPUT), .val (.int (1 : Int32)), .unset] [(.ref c_CASE), (.ref c_OUTPUT)]))
    refine own_st (fun _ k => Jvm.RoadKit.acmp (g := (mkF m 146 #[.val (.int p0), .val (.ref b15), .val (.ref c_OUTPUT), .val (.int (1 : Int32)), .unset] [(.ref c_CASE), (.ref c_OUTPUT)])) X127 hx rfl rfl rfl (pc0 := 146) (pc' := 149) (same := false) rfl (hb hby at_146) rfl (decide_eq_false fun q => (own_ne hS.2.2.2.2.2.2.2.2.2.2.2.2.2.2.2.2.2.2.2.2.2.2.2.2.2.2.2.2.2.2.1 hS.2.2.2.2.2.2.2.2.2.2.2.2.2.2.2.2.2.2.2.2.2.2.2.2.2.2.2.2.2.2.2.2.1 (by decide)) (Value.ref.inj q)) (by decide) (by decide) k) ?_
    show own_go _ _ _ _ _ _ _ (T127.setTop (mkF m 149 #[.val (.int p0), .val (.ref b15), .val (.ref c_OUTPUT), .val (.int (1 : Int32)), .unset] []))
    refine own_st (fun _ k => XS.iloadN X127.here hx rfl (hb hby at_149) rfl k) ?_
    show own_go _ _ _ _ _ _ _ (T127.setTop (mkF m 150 #[.val (.int p0), .val (.ref b15), .val (.ref c_OUTPUT), .val (.int (1 : Int32)), .unset] [(.int (1 : Int32))]))
    refine own_st (fun _ k => XS.ifYes X127.here hx rfl (pc0 := 150) (pc' := 157) rfl (hb hby at_150) rfl (by decide) (by decide) (by decide) k) ?_
    show own_go _ _ _ _ _ _ _ (T127.setTop (mkF m 157 #[.val (.int p0), .val (.ref b15), .val (.ref c_OUTPUT), .val (.int (1 : Int32)), .unset] []))
    refine own_st (fun _ k => XS.iconst X127.here hx rfl (hb hby at_157) k) ?_
    show own_go _ _ _ _ _ _ _ (T127.setTop (mkF m 158 #[.val (.int p0), .val (.ref b15), .val (.ref c_OUTPUT), .val (.int (1 : Int32)), .unset] [(.int (0 : Int32))]))
    refine own_st (fun _ k => XS.istore X127.here hx rfl (hb hby at_158) rfl (l' := #[.val (.int p0), .val (.ref b15), .val (.ref c_OUTPUT), .val (.int (1 : Int32)), .val (.int (0 : Int32))]) rfl k) ?_
    show own_go _ _ _ _ _ _ _ (T127.setTop (mkF m 160 #[.val (.int p0), .val (.ref b15), .val (.ref c_OUTPUT), .val (.int (1 : Int32)), .val (.int (0 : Int32))] []))
    refine own_st (fun _ k => XS.aloadN X127.here hx rfl (hb hby at_160) rfl rfl k) ?_
    show own_go _ _ _ _ _ _ _ (T127.setTop (mkF m 161 #[.val (.int p0), .val (.ref b15), .val (.ref c_OUTPUT), .val (.int (1 : Int32)), .val (.int (0 : Int32))] [(.ref c_OUTPUT)]))
    obtain ⟨v128, T128, L128, X128, hQ128, st128⟩ := own_callV X127 hx hZ (argsL := []) (rest := []) (rm1_11 l Z a0 hw c_CONTAINER c_LIST c_LEAF c_LEAF_LIST c_CHOICE c_CASE c_ANYDATA c_ANYXML c_RPC c_ACTION c_INPUT c_OUTPUT c_NOTIFICATION h53 n0 O54 hS) hown (hw _ (List.mem_of_getElem? (i := 31) rfl)) (hw _ (List.mem_of_getElem? (i := 32) rfl)) (notFace_of_selects (args := #[]) (mvT hZ (hw _ (List.mem_of_getElem? (i := 34) rfl)))) (hw _ (List.mem_of_getElem? (i := 34) rfl)) (hw _ (List.mem_of_getElem? (i := 33) rfl)) (hw _ (List.mem_of_getElem? (i := 3) rfl)) (hw _ (List.mem_of_getElem? (i := 35) rfl)) (by decide) e127 (hS.2.2.2.2.2.2.2.2.2.2.2.2.2.2.2.2.2.2.2.2.2.2.2.1.ext O54.2) (g := (mkF m 161 #[.val (.int p0), .val (.ref b15), .val (.ref c_OUTPUT), .val (.int (1 : Int32)), .val (.int (0 : Int32))] [(.ref c_OUTPUT)])) rfl (by rw [hml]; rfl) (lenOf own_pd__28_29Z rfl) rfl (W := 0) (by show 2 * 0 + _ ≤ _; exact Nat.le_of_eq rfl) (hb hby at_161) (by decide) (by decide) (by decide) (by decide)
    obtain ⟨rfl, Nq128, eq128⟩ := hQ128
    have N128 := Fr.app N53 Nq128
    refine own_st st128 ?_
    show own_go _ _ _ _ _ _ _ (T128.setTop (mkF m 164 #[.val (.int p0), .val (.ref b15), .val (.ref c_OUTPUT), .val (.int (1 : Int32)), .val (.int (0 : Int32))] [(.int (0 : Int32))]))
    refine own_st (fun _ k => XS.iload X128.here hx rfl (hb hby at_164) rfl k) ?_
    show own_go _ _ _ _ _ _ _ (T128.setTop (mkF m 166 #[.val (.int p0), .val (.ref b15), .val (.ref c_OUTPUT), .val (.int (1 : Int32)), .val (.int (0 : Int32))] [(.int (0 : Int32)), (.int (0 : Int32))]))
    refine own_st (fun _ k => XS.icmpNo X128.here hx rfl (hb hby at_166) rfl (by decide) k) ?_
    show own_go _ _ _ _ _ _ _ (T128.setTop (mkF m 169 #[.val (.int p0), .val (.ref b15), .val (.ref c_OUTPUT), .val (.int (1 : Int32)), .val (.int (0 : Int32))] []))
    refine own_st (fun _ k => XS.iconst X128.here hx rfl (hb hby at_169) k) ?_
    show own_go _ _ _ _ _ _ _ (T128.setTop (mkF m 170 #[.val (.int p0), .val (.ref b15), .val (.ref c_OUTPUT), .val (.int (1 : Int32)), .val (.int (0 : Int32))] [(.int (1 : Int32))]))
    refine own_st (fun _ k => XS.goto X128.here hx rfl (pc0 := 170) (pc' := 174) rfl (hb hby at_170) (by decide) (by decide) k) ?_
    show own_go _ _ _ _ _ _ _ (T128.setTop (mkF m 174 #[.val (.int p0), .val (.ref b15), .val (.ref c_OUTPUT), .val (.int (1 : Int32)), .val (.int (0 : Int32))] [(.int (1 : Int32))]))
    exact own_retN X128 hx hlk (t := .boolean) hret (by simp) rfl (hb hby at_174) (by decide) (by decide) (⟨rfl, N128⟩)
  · skip
    rw [q]
    show own_go _ _ _ _ _ _ _ (T53.setTop (mkF m 99 #[.val (.int p0), .val (.ref b15), .unset, .unset, .unset] [(.int (12 : Int32)), (.ref b15)]))
    refine own_st (own_get X53 hx hZ e53 V53 rfl (j := (12 : Int32)) (by decide) (v := (.ref c_NOTIFICATION)) rfl (g := (mkF m 99 #[.val (.int p0), .val (.ref b15), .unset, .unset, .unset] [(.int (12 : Int32)), (.ref b15)])) rfl rfl (hb hby at_99)) ?_
    show own_go _ _ _ _ _ _ _ (T53.setTop (mkF m 100 #[.val (.int p0), .val (.ref b15), .unset, .unset, .unset] [(.ref c_NOTIFICATION)]))
    refine own_st (fun _ k => XS.astoreN X53.here hx rfl (hb hby at_100) rfl rfl (l' := #[.val (.int p0), .val (.ref b15), .val (.ref c_NOTIFICATION), .unset, .unset]) rfl k) ?_
    show own_go _ _ _ _ _ _ _ (T53.setTop (mkF m 101 #[.val (.int p0), .val (.ref b15), .val (.ref c_NOTIFICATION), .unset, .unset] []))
    refine own_st (fun _ k => XS.aloadN X53.here hx rfl (hb hby at_101) rfl rfl k) ?_
    show own_go _ _ _ _ _ _ _ (T53.setTop (mkF m 102 #[.val (.int p0), .val (.ref b15), .val (.ref c_NOTIFICATION), .unset, .unset] [(.ref c_NOTIFICATION)]))
    obtain ⟨T129, X129, e129, st129⟩ := getS2 X53 hx hZ hown (host := "") (Or.inl (hw _ (List.mem_of_getElem? (i := 20) rfl))) Via.refl e53 (hS.2.2.2.2.2.2.2.2.2.2.2.2.2.2.2.2.1.ext O54.2) (g := (mkF m 102 #[.val (.int p0), .val (.ref b15), .val (.ref c_NOTIFICATION), .unset, .unset] [(.ref c_NOTIFICATION)])) rfl (hb hby at_102)
    refine own_st st129 ?_
    show own_go _ _ _ _ _ _ _ (T129.setTop (mkF m 105 #[.val (.int p0), .val (.ref b15), .val (.ref c_NOTIFICATION), .unset, .unset] [(.ref c_RPC), (.ref c_NOTIFICATION)]))
    refine own_st (fun _ k => Jvm.RoadKit.acmp (g := (mkF m 105 #[.val (.int p0), .val (.ref b15), .val (.ref c_NOTIFICATION), .unset, .unset] [(.ref c_RPC), (.ref c_NOTIFICATION)])) X129 hx rfl rfl rfl (pc0 := 105) (pc' := 108) (same := false) rfl (hb hby at_105) rfl (decide_eq_false fun q => (own_ne hS.2.2.2.2.2.2.2.2.2.2.2.2.2.2.2.2.2.2.2.2.2.2.2.2.2.2.2.2.2.2.2.1 hS.2.2.2.2.2.2.2.2.2.2.2.2.2.2.2.2.2.2.2.2.2.2.2.2.2.2.2.1 (by decide)) (Value.ref.inj q)) (by decide) (by decide) k) ?_
    show own_go _ _ _ _ _ _ _ (T129.setTop (mkF m 108 #[.val (.int p0), .val (.ref b15), .val (.ref c_NOTIFICATION), .unset, .unset] []))
    refine own_st (fun _ k => XS.aloadN X129.here hx rfl (hb hby at_108) rfl rfl k) ?_
    show own_go _ _ _ _ _ _ _ (T129.setTop (mkF m 109 #[.val (.int p0), .val (.ref b15), .val (.ref c_NOTIFICATION), .unset, .unset] [(.ref c_NOTIFICATION)]))
    obtain ⟨T130, X130, e130, st130⟩ := getS2 X129 hx hZ hown (host := "") (Or.inl (hw _ (List.mem_of_getElem? (i := 22) rfl))) Via.refl e129 (hS.2.2.2.2.2.2.2.2.2.2.2.2.2.2.2.2.2.2.1.ext O54.2) (g := (mkF m 109 #[.val (.int p0), .val (.ref b15), .val (.ref c_NOTIFICATION), .unset, .unset] [(.ref c_NOTIFICATION)])) rfl (hb hby at_109)
    refine own_st st130 ?_
    show own_go _ _ _ _ _ _ _ (T130.setTop (mkF m 112 #[.val (.int p0), .val (.ref b15), .val (.ref c_NOTIFICATION), .unset, .unset] [(.ref c_ACTION), (.ref c_NOTIFICATION)]))
    refine own_st (fun _ k => Jvm.RoadKit.acmp (g := (mkF m 112 #[.val (.int p0), .val (.ref b15), .val (.ref c_NOTIFICATION), .unset, .unset] [(.ref c_ACTION), (.ref c_NOTIFICATION)])) X130 hx rfl rfl rfl (pc0 := 112) (pc' := 115) (same := false) rfl (hb hby at_112) rfl (decide_eq_false fun q => (own_ne hS.2.2.2.2.2.2.2.2.2.2.2.2.2.2.2.2.2.2.2.2.2.2.2.2.2.2.2.2.2.2.2.1 hS.2.2.2.2.2.2.2.2.2.2.2.2.2.2.2.2.2.2.2.2.2.2.2.2.2.2.2.2.1 (by decide)) (Value.ref.inj q)) (by decide) (by decide) k) ?_
    show own_go _ _ _ _ _ _ _ (T130.setTop (mkF m 115 #[.val (.int p0), .val (.ref b15), .val (.ref c_NOTIFICATION), .unset, .unset] []))
    refine own_st (fun _ k => XS.aloadN X130.here hx rfl (hb hby at_115) rfl rfl k) ?_
    show own_go _ _ _ _ _ _ _ (T130.setTop (mkF m 116 #[.val (.int p0), .val (.ref b15), .val (.ref c_NOTIFICATION), .unset, .unset] [(.ref c_NOTIFICATION)]))
    obtain ⟨T131, X131, e131, st131⟩ := getS2 X130 hx hZ hown (host := "") (Or.inl (hw _ (List.mem_of_getElem? (i := 24) rfl))) Via.refl e130 (hS.2.2.2.2.2.2.2.2.2.2.2.2.2.2.2.2.2.2.2.2.1.ext O54.2) (g := (mkF m 116 #[.val (.int p0), .val (.ref b15), .val (.ref c_NOTIFICATION), .unset, .unset] [(.ref c_NOTIFICATION)])) rfl (hb hby at_116)
    refine own_st st131 ?_
    show own_go _ _ _ _ _ _ _ (T131.setTop (mkF m 119 #[.val (.int p0), .val (.ref b15), .val (.ref c_NOTIFICATION), .unset, .unset] [(.ref c_INPUT), (.ref c_NOTIFICATION)]))
    refine own_st (fun _ k => Jvm.RoadKit.acmp (g := (mkF m 119 #[.val (.int p0), .val (.ref b15), .val (.ref c_NOTIFICATION), .unset, .unset] [(.ref c_INPUT), (.ref c_NOTIFICATION)])) X131 hx rfl rfl rfl (pc0 := 119) (pc' := 122) (same := false) rfl (hb hby at_119) rfl (decide_eq_false fun q => (own_ne hS.2.2.2.2.2.2.2.2.2.2.2.2.2.2.2.2.2.2.2.2.2.2.2.2.2.2.2.2.2.2.2.1 hS.2.2.2.2.2.2.2.2.2.2.2.2.2.2.2.2.2.2.2.2.2.2.2.2.2.2.2.2.2.1 (by decide)) (Value.ref.inj q)) (by decide) (by decide) k) ?_
    show own_go _ _ _ _ _ _ _ (T131.setTop (mkF m 122 #[.val (.int p0), .val (.ref b15), .val (.ref c_NOTIFICATION), .unset, .unset] []))
    refine own_st (fun _ k => XS.aloadN X131.here hx rfl (hb hby at_122) rfl rfl k) ?_
    show own_go _ _ _ _ _ _ _ (T131.setTop (mkF m 123 #[.val (.int p0), .val (.ref b15), .val (.ref c_NOTIFICATION), .unset, .unset] [(.ref c_NOTIFICATION)]))
    obtain ⟨T132, X132, e132, st132⟩ := getS2 X131 hx hZ hown (host := "") (Or.inl (hw _ (List.mem_of_getElem? (i := 26) rfl))) Via.refl e131 (hS.2.2.2.2.2.2.2.2.2.2.2.2.2.2.2.2.2.2.2.2.2.2.1.ext O54.2) (g := (mkF m 123 #[.val (.int p0), .val (.ref b15), .val (.ref c_NOTIFICATION), .unset, .unset] [(.ref c_NOTIFICATION)])) rfl (hb hby at_123)
    refine own_st st132 ?_
    show own_go _ _ _ _ _ _ _ (T132.setTop (mkF m 126 #[.val (.int p0), .val (.ref b15), .val (.ref c_NOTIFICATION), .unset, .unset] [(.ref c_OUTPUT), (.ref c_NOTIFICATION)]))
    refine own_st (fun _ k => Jvm.RoadKit.acmp (g := (mkF m 126 #[.val (.int p0), .val (.ref b15), .val (.ref c_NOTIFICATION), .unset, .unset] [(.ref c_OUTPUT), (.ref c_NOTIFICATION)])) X132 hx rfl rfl rfl (pc0 := 126) (pc' := 129) (same := false) rfl (hb hby at_126) rfl (decide_eq_false fun q => (own_ne hS.2.2.2.2.2.2.2.2.2.2.2.2.2.2.2.2.2.2.2.2.2.2.2.2.2.2.2.2.2.2.2.1 hS.2.2.2.2.2.2.2.2.2.2.2.2.2.2.2.2.2.2.2.2.2.2.2.2.2.2.2.2.2.2.1 (by decide)) (Value.ref.inj q)) (by decide) (by decide) k) ?_
    show own_go _ _ _ _ _ _ _ (T132.setTop (mkF m 129 #[.val (.int p0), .val (.ref b15), .val (.ref c_NOTIFICATION), .unset, .unset] []))
    refine own_st (fun _ k => XS.aloadN X132.here hx rfl (hb hby at_129) rfl rfl k) ?_
    show own_go _ _ _ _ _ _ _ (T132.setTop (mkF m 130 #[.val (.int p0), .val (.ref b15), .val (.ref c_NOTIFICATION), .unset, .unset] [(.ref c_NOTIFICATION)]))
    obtain ⟨T133, X133, e133, st133⟩ := getS2 X132 hx hZ hown (host := "") (Or.inl (hw _ (List.mem_of_getElem? (i := 28) rfl))) Via.refl e132 (hS.2.2.2.2.2.2.2.2.2.2.2.2.2.2.2.2.2.2.2.2.2.2.2.2.1.ext O54.2) (g := (mkF m 130 #[.val (.int p0), .val (.ref b15), .val (.ref c_NOTIFICATION), .unset, .unset] [(.ref c_NOTIFICATION)])) rfl (hb hby at_130)
    refine own_st st133 ?_
    show own_go _ _ _ _ _ _ _ (T133.setTop (mkF m 133 #[.val (.int p0), .val (.ref b15), .val (.ref c_NOTIFICATION), .unset, .unset] [(.ref c_NOTIFICATION), (.ref c_NOTIFICATION)]))
    refine own_st (fun _ k => Jvm.RoadKit.acmp (g := (mkF m 133 #[.val (.int p0), .val (.ref b15), .val (.ref c_NOTIFICATION), .unset, .unset] [(.ref c_NOTIFICATION), (.ref c_NOTIFICATION)])) X133 hx rfl rfl rfl (pc0 := 133) (pc' := 136) (same := true) rfl (hb hby at_133) rfl (decide_eq_true rfl) (by decide) (by decide) k) ?_
    show own_go _ _ _ _ _ _ _ (T133.setTop (mkF m 136 #[.val (.int p0), .val (.ref b15), .val (.ref c_NOTIFICATION), .unset, .unset] []))
    refine own_st (fun _ k => XS.iconst X133.here hx rfl (hb hby at_136) k) ?_
    show own_go _ _ _ _ _ _ _ (T133.setTop (mkF m 137 #[.val (.int p0), .val (.ref b15), .val (.ref c_NOTIFICATION), .unset, .unset] [(.int (1 : Int32))]))
    refine own_st (fun _ k => XS.goto X133.here hx rfl (pc0 := 137) (pc' := 141) rfl (hb hby at_137) (by decide) (by decide) k) ?_
    show own_go _ _ _ _ _ _ _ (T133.setTop (mkF m 141 #[.val (.int p0), .val (.ref b15), .val (.ref c_NOTIFICATION), .unset, .unset] [(.int (1 : Int32))]))
    refine own_st (fun _ k => XS.istoreN X133.here hx rfl (hb hby at_141) rfl (l' := #[.val (.int p0), .val (.ref b15), .val (.ref c_NOTIFICATION), .val (.int (1 : Int32)), .unset]) rfl k) ?_
    show own_go _ _ _ _ _ _ _ (T133.setTop (mkF m 142 #[.val (.int p0), .val (.ref b15), .val (.ref c_NOTIFICATION), .val (.int (1 : Int32)), .unset] []))
    refine own_st (fun _ k => XS.aloadN X133.here hx rfl (hb hby at_142) rfl rfl k) ?_
    show own_go _ _ _ _ _ _ _ (T133.setTop (mkF m 143 #[.val (.int p0), .val (.ref b15), .val (.ref c_NOTIFICATION), .val (.int (1 : Int32)), .unset] [(.ref c_NOTIFICATION)]))
    obtain ⟨T134, X134, e134, st134⟩ := getS2 X133 hx hZ hown (host := "") (Or.inl (hw _ (List.mem_of_getElem? (i := 14) rfl))) Via.refl e133 (hS.2.2.2.2.2.2.2.2.2.2.1.ext O54.2) (g := (mkF m 143 #[.val (.int p0), .val (.ref b15), .val (.ref c_NOTIFICATION), .val (.int (1 : Int32)), .unset] [(.ref c_NOTIFICATION)])) rfl (hb hby at_143)
    refine own_st st134 ?_
    show own_go _ _ _ _ _ _ _ (T134.setTop (mkF m 146 #[.val (.int p0), .val (.ref b15), .val (.ref c_NOTIFICATION), .val (.int (1 : Int32)), .unset] [(.ref c_CASE), (.ref c_NOTIFICATION)]))
    refine own_st (fun _ k => Jvm.RoadKit.acmp (g := (mkF m 146 #[.val (.int p0), .val (.ref b15), .val (.ref c_NOTIFICATION), .val (.int (1 : Int32)), .unset] [(.ref c_CASE), (.ref c_NOTIFICATION)])) X134 hx rfl rfl rfl (pc0 := 146) (pc' := 149) (same := false) rfl (hb hby at_146) rfl (decide_eq_false fun q => (own_ne hS.2.2.2.2.2.2.2.2.2.2.2.2.2.2.2.2.2.2.2.2.2.2.2.2.2.2.2.2.2.2.2.1 hS.2.2.2.2.2.2.2.2.2.2.2.2.2.2.2.2.2.2.2.2.2.2.2.2.2.2.2.2.2.2.2.2.1 (by decide)) (Value.ref.inj q)) (by decide) (by decide) k) ?_
    show own_go _ _ _ _ _ _ _ (T134.setTop (mkF m 149 #[.val (.int p0), .val (.ref b15), .val (.ref c_NOTIFICATION), .val (.int (1 : Int32)), .unset] []))
    refine own_st (fun _ k => XS.iloadN X134.here hx rfl (hb hby at_149) rfl k) ?_
    show own_go _ _ _ _ _ _ _ (T134.setTop (mkF m 150 #[.val (.int p0), .val (.ref b15), .val (.ref c_NOTIFICATION), .val (.int (1 : Int32)), .unset] [(.int (1 : Int32))]))
    refine own_st (fun _ k => XS.ifYes X134.here hx rfl (pc0 := 150) (pc' := 157) rfl (hb hby at_150) rfl (by decide) (by decide) (by decide) k) ?_
    show own_go _ _ _ _ _ _ _ (T134.setTop (mkF m 157 #[.val (.int p0), .val (.ref b15), .val (.ref c_NOTIFICATION), .val (.int (1 : Int32)), .unset] []))
    refine own_st (fun _ k => XS.iconst X134.here hx rfl (hb hby at_157) k) ?_
    show own_go _ _ _ _ _ _ _ (T134.setTop (mkF m 158 #[.val (.int p0), .val (.ref b15), .val (.ref c_NOTIFICATION), .val (.int (1 : Int32)), .unset] [(.int (0 : Int32))]))
    refine own_st (fun _ k => XS.istore X134.here hx rfl (hb hby at_158) rfl (l' := #[.val (.int p0), .val (.ref b15), .val (.ref c_NOTIFICATION), .val (.int (1 : Int32)), .val (.int (0 : Int32))]) rfl k) ?_
    show own_go _ _ _ _ _ _ _ (T134.setTop (mkF m 160 #[.val (.int p0), .val (.ref b15), .val (.ref c_NOTIFICATION), .val (.int (1 : Int32)), .val (.int (0 : Int32))] []))
    refine own_st (fun _ k => XS.aloadN X134.here hx rfl (hb hby at_160) rfl rfl k) ?_
    show own_go _ _ _ _ _ _ _ (T134.setTop (mkF m 161 #[.val (.int p0), .val (.ref b15), .val (.ref c_NOTIFICATION), .val (.int (1 : Int32)), .val (.int (0 : Int32))] [(.ref c_NOTIFICATION)]))
    obtain ⟨v135, T135, L135, X135, hQ135, st135⟩ := own_callV X134 hx hZ (argsL := []) (rest := []) (rm1_12 l Z a0 hw c_CONTAINER c_LIST c_LEAF c_LEAF_LIST c_CHOICE c_CASE c_ANYDATA c_ANYXML c_RPC c_ACTION c_INPUT c_OUTPUT c_NOTIFICATION h53 n0 O54 hS) hown (hw _ (List.mem_of_getElem? (i := 31) rfl)) (hw _ (List.mem_of_getElem? (i := 32) rfl)) (notFace_of_selects (args := #[]) (mvT hZ (hw _ (List.mem_of_getElem? (i := 34) rfl)))) (hw _ (List.mem_of_getElem? (i := 34) rfl)) (hw _ (List.mem_of_getElem? (i := 33) rfl)) (hw _ (List.mem_of_getElem? (i := 3) rfl)) (hw _ (List.mem_of_getElem? (i := 35) rfl)) (by decide) e134 (hS.2.2.2.2.2.2.2.2.2.2.2.2.2.2.2.2.2.2.2.2.2.2.2.2.2.1.ext O54.2) (g := (mkF m 161 #[.val (.int p0), .val (.ref b15), .val (.ref c_NOTIFICATION), .val (.int (1 : Int32)), .val (.int (0 : Int32))] [(.ref c_NOTIFICATION)])) rfl (by rw [hml]; rfl) (lenOf own_pd__28_29Z rfl) rfl (W := 0) (by show 2 * 0 + _ ≤ _; exact Nat.le_of_eq rfl) (hb hby at_161) (by decide) (by decide) (by decide) (by decide)
    obtain ⟨rfl, Nq135, eq135⟩ := hQ135
    have N135 := Fr.app N53 Nq135
    refine own_st st135 ?_
    show own_go _ _ _ _ _ _ _ (T135.setTop (mkF m 164 #[.val (.int p0), .val (.ref b15), .val (.ref c_NOTIFICATION), .val (.int (1 : Int32)), .val (.int (0 : Int32))] [(.int (0 : Int32))]))
    refine own_st (fun _ k => XS.iload X135.here hx rfl (hb hby at_164) rfl k) ?_
    show own_go _ _ _ _ _ _ _ (T135.setTop (mkF m 166 #[.val (.int p0), .val (.ref b15), .val (.ref c_NOTIFICATION), .val (.int (1 : Int32)), .val (.int (0 : Int32))] [(.int (0 : Int32)), (.int (0 : Int32))]))
    refine own_st (fun _ k => XS.icmpNo X135.here hx rfl (hb hby at_166) rfl (by decide) k) ?_
    show own_go _ _ _ _ _ _ _ (T135.setTop (mkF m 169 #[.val (.int p0), .val (.ref b15), .val (.ref c_NOTIFICATION), .val (.int (1 : Int32)), .val (.int (0 : Int32))] []))
    refine own_st (fun _ k => XS.iconst X135.here hx rfl (hb hby at_169) k) ?_
    show own_go _ _ _ _ _ _ _ (T135.setTop (mkF m 170 #[.val (.int p0), .val (.ref b15), .val (.ref c_NOTIFICATION), .val (.int (1 : Int32)), .val (.int (0 : Int32))] [(.int (1 : Int32))]))
    refine own_st (fun _ k => XS.goto X135.here hx rfl (pc0 := 170) (pc' := 174) rfl (hb hby at_170) (by decide) (by decide) k) ?_
    show own_go _ _ _ _ _ _ _ (T135.setTop (mkF m 174 #[.val (.int p0), .val (.ref b15), .val (.ref c_NOTIFICATION), .val (.int (1 : Int32)), .val (.int (0 : Int32))] [(.int (1 : Int32))]))
    exact own_retN X135 hx hlk (t := .boolean) hret (by simp) rfl (hb hby at_174) (by decide) (by decide) (⟨rfl, N135⟩)
set_option maxRecDepth 65536 in
set_option maxHeartbeats 40000000 in
theorem comes_1 {Post : Tables → Env → Array Value → State → Outcome → State → Prop} (hpost : ∀ tb e args s v u, (limb_1_1.after args s (.returned v) u = true ∧ limb_1_2.after args s (.returned v) u = true ∧ True) → FrameEnd s (.returned v) u (Jvm.fieldLocs frame_1_writes args s ++ Jvm.arrayLocs frame_1_arrays args s ++ Jvm.staticLocs frame_1_statics s) 16 128 → Post tb e args s (.returned v) u) :
    ArmFor flags0 classFile x code maxLocals ret World_1 tables_1 room_1 Calls_1 rest_1 Pre_1 Post := by
  intro l hfl _ _ p e ha hc hk s m args below hf hA hF happ hP
  obtain ⟨hcalls, hrest, hpre⟩ := hP
  obtain ⟨-, -, -, hnamed, -, -, -, hat⟩ := (Spec.applies_iff hf).mp happ
  obtain ⟨hg, hn⟩ := and_e (Cond.before_iff.mp (show (Jvm.Cond.and given_1 narrow_1).before args s = true from hpre))
  obtain ⟨h1, hg0⟩ := and_e hg
  obtain ⟨w0, rfl⟩ : ∃ w0 : Value, args = #[w0] := by
    have hs : args.size = 1 := by simpa [Cond.value, given_1] using h1
    obtain ⟨L⟩ := args
    match L, hs with
    | [w0], _ => exact ⟨w0, rfl⟩
  have hw := fun d (hd : d ∈ tables_1) => atoms_spec (ws := Jvm.Cond.code x code maxLocals ret :: tables_1) hat d (List.mem_cons_of_mem _ hd)
  obtain ⟨i0, e0⟩ := is_v hg0
  obtain rfl : w0 = (.int i0) := Option.some.inj e0
  have hfit : Fit s := fun {y c} hc i hi => by
    obtain ⟨ha, rfl⟩ := Array.getElem?_eq_some_iff.mp hc
    have q := List.all_eq_true.mp ((Array.all_eq_true_iff_forall_mem.mp hF) _ (Array.getElem_mem ha)) i (List.mem_range.mpr hi)
    simpa [Array.getElem?_eq_getElem hi] using q
  obtain ⟨n1, r1⟩ := and_e hn
  obtain ⟨n2, r2⟩ := and_e r1
  obtain ⟨n3, r3⟩ := and_e r2
  obtain ⟨n4, r4⟩ := and_e r3
  obtain ⟨n5, r5⟩ := and_e r4
  obtain ⟨n6, r6⟩ := and_e r5
  obtain ⟨n7, r7⟩ := and_e r6
  obtain ⟨n8, r8⟩ := and_e r7
  obtain ⟨n9, r9⟩ := and_e r8
  obtain ⟨n10, r10⟩ := and_e r9
  obtain ⟨n11, r11⟩ := and_e r10
  obtain ⟨n12, r12⟩ := and_e r11
  obtain ⟨n13, r13⟩ := and_e r12
  obtain ⟨n14, r14⟩ := and_e r13
  obtain ⟨n15, r15⟩ := and_e r14
  obtain ⟨n16, r16⟩ := and_e r15
  obtain ⟨n17, r17⟩ := and_e r16
  obtain ⟨n18, r18⟩ := and_e r17
  obtain ⟨n19, r19⟩ := and_e r18
  obtain ⟨n20, r20⟩ := and_e r19
  obtain ⟨n21, r21⟩ := and_e r20
  obtain ⟨n22, r22⟩ := and_e r21
  obtain ⟨n23, r23⟩ := and_e r22
  obtain ⟨n24, r24⟩ := and_e r23
  obtain ⟨n25, r25⟩ := and_e r24
  have n26 := r25
  obtain ⟨c_CONTAINER, v_c_CONTAINER⟩ := exa_v n1
  have E_c_CONTAINER := Exa.start v_c_CONTAINER n1
  have S_c_CONTAINER := Sta.start v_c_CONTAINER (Or.inr ⟨(hw _ (List.mem_of_getElem? (i := 3) rfl)), (hw _ (List.mem_of_getElem? (i := 4) rfl))⟩)
  obtain ⟨c_LIST, v_c_LIST⟩ := exa_v n2
  have E_c_LIST := Exa.start v_c_LIST n2
  have S_c_LIST := Sta.start v_c_LIST (Or.inr ⟨(hw _ (List.mem_of_getElem? (i := 3) rfl)), (hw _ (List.mem_of_getElem? (i := 7) rfl))⟩)
  obtain ⟨c_LEAF, v_c_LEAF⟩ := exa_v n3
  have E_c_LEAF := Exa.start v_c_LEAF n3
  have S_c_LEAF := Sta.start v_c_LEAF (Or.inr ⟨(hw _ (List.mem_of_getElem? (i := 3) rfl)), (hw _ (List.mem_of_getElem? (i := 9) rfl))⟩)
  obtain ⟨c_LEAF_LIST, v_c_LEAF_LIST⟩ := exa_v n4
  have E_c_LEAF_LIST := Exa.start v_c_LEAF_LIST n4
  have S_c_LEAF_LIST := Sta.start v_c_LEAF_LIST (Or.inr ⟨(hw _ (List.mem_of_getElem? (i := 3) rfl)), (hw _ (List.mem_of_getElem? (i := 11) rfl))⟩)
  obtain ⟨c_CHOICE, v_c_CHOICE⟩ := exa_v n5
  have E_c_CHOICE := Exa.start v_c_CHOICE n5
  have S_c_CHOICE := Sta.start v_c_CHOICE (Or.inr ⟨(hw _ (List.mem_of_getElem? (i := 3) rfl)), (hw _ (List.mem_of_getElem? (i := 13) rfl))⟩)
  obtain ⟨c_CASE, v_c_CASE⟩ := exa_v n6
  have E_c_CASE := Exa.start v_c_CASE n6
  have S_c_CASE := Sta.start v_c_CASE (Or.inr ⟨(hw _ (List.mem_of_getElem? (i := 3) rfl)), (hw _ (List.mem_of_getElem? (i := 15) rfl))⟩)
  obtain ⟨c_ANYDATA, v_c_ANYDATA⟩ := exa_v n7
  have E_c_ANYDATA := Exa.start v_c_ANYDATA n7
  have S_c_ANYDATA := Sta.start v_c_ANYDATA (Or.inr ⟨(hw _ (List.mem_of_getElem? (i := 3) rfl)), (hw _ (List.mem_of_getElem? (i := 17) rfl))⟩)
  obtain ⟨c_ANYXML, v_c_ANYXML⟩ := exa_v n8
  have E_c_ANYXML := Exa.start v_c_ANYXML n8
  have S_c_ANYXML := Sta.start v_c_ANYXML (Or.inr ⟨(hw _ (List.mem_of_getElem? (i := 3) rfl)), (hw _ (List.mem_of_getElem? (i := 19) rfl))⟩)
  obtain ⟨c_RPC, v_c_RPC⟩ := exa_v n9
  have E_c_RPC := Exa.start v_c_RPC n9
  have S_c_RPC := Sta.start v_c_RPC (Or.inr ⟨(hw _ (List.mem_of_getElem? (i := 3) rfl)), (hw _ (List.mem_of_getElem? (i := 21) rfl))⟩)
  obtain ⟨c_ACTION, v_c_ACTION⟩ := exa_v n10
  have E_c_ACTION := Exa.start v_c_ACTION n10
  have S_c_ACTION := Sta.start v_c_ACTION (Or.inr ⟨(hw _ (List.mem_of_getElem? (i := 3) rfl)), (hw _ (List.mem_of_getElem? (i := 23) rfl))⟩)
  obtain ⟨c_INPUT, v_c_INPUT⟩ := exa_v n11
  have E_c_INPUT := Exa.start v_c_INPUT n11
  have S_c_INPUT := Sta.start v_c_INPUT (Or.inr ⟨(hw _ (List.mem_of_getElem? (i := 3) rfl)), (hw _ (List.mem_of_getElem? (i := 25) rfl))⟩)
  obtain ⟨c_OUTPUT, v_c_OUTPUT⟩ := exa_v n12
  have E_c_OUTPUT := Exa.start v_c_OUTPUT n12
  have S_c_OUTPUT := Sta.start v_c_OUTPUT (Or.inr ⟨(hw _ (List.mem_of_getElem? (i := 3) rfl)), (hw _ (List.mem_of_getElem? (i := 27) rfl))⟩)
  obtain ⟨c_NOTIFICATION, v_c_NOTIFICATION⟩ := exa_v n13
  have E_c_NOTIFICATION := Exa.start v_c_NOTIFICATION n13
  have S_c_NOTIFICATION := Sta.start v_c_NOTIFICATION (Or.inr ⟨(hw _ (List.mem_of_getElem? (i := 3) rfl)), (hw _ (List.mem_of_getElem? (i := 29) rfl))⟩)
  have F_c_CONTAINER_ordinal := own_fldI v_c_CONTAINER n14
  have F_c_RPC_ordinal := own_fldI v_c_RPC n15
  have F_c_ACTION_ordinal := own_fldI v_c_ACTION n16
  have F_c_INPUT_ordinal := own_fldI v_c_INPUT n17
  have F_c_OUTPUT_ordinal := own_fldI v_c_OUTPUT n18
  have F_c_NOTIFICATION_ordinal := own_fldI v_c_NOTIFICATION n19
  have F_c_CASE_ordinal := own_fldI v_c_CASE n20
  have F_c_LEAF_LIST_ordinal := own_fldI v_c_LEAF_LIST n21
  have F_c_ANYDATA_ordinal := own_fldI v_c_ANYDATA n22
  have F_c_ANYXML_ordinal := own_fldI v_c_ANYXML n23
  have F_c_LEAF_ordinal := own_fldI v_c_LEAF n24
  have F_c_LIST_ordinal := own_fldI v_c_LIST n25
  have F_c_CHOICE_ordinal := own_fldI v_c_CHOICE n26
  have hS : own_S s c_CONTAINER c_LIST c_LEAF c_LEAF_LIST c_CHOICE c_CASE c_ANYDATA c_ANYXML c_RPC c_ACTION c_INPUT c_OUTPUT c_NOTIFICATION := ⟨S_c_CONTAINER, E_c_CONTAINER, S_c_LIST, E_c_LIST, S_c_LEAF, E_c_LEAF, S_c_LEAF_LIST, E_c_LEAF_LIST, S_c_CHOICE, E_c_CHOICE, S_c_CASE, E_c_CASE, S_c_ANYDATA, E_c_ANYDATA, S_c_ANYXML, E_c_ANYXML, S_c_RPC, E_c_RPC, S_c_ACTION, E_c_ACTION, S_c_INPUT, E_c_INPUT, S_c_OUTPUT, E_c_OUTPUT, S_c_NOTIFICATION, E_c_NOTIFICATION, F_c_CONTAINER_ordinal, F_c_RPC_ordinal, F_c_ACTION_ordinal, F_c_INPUT_ordinal, F_c_OUTPUT_ordinal, F_c_NOTIFICATION_ordinal, F_c_CASE_ordinal, F_c_LEAF_LIST_ordinal, F_c_ANYDATA_ordinal, F_c_ANYXML_ordinal, F_c_LEAF_ordinal, F_c_LIST_ordinal, F_c_CHOICE_ordinal⟩

  obtain ⟨n, o, h1, h2, h3, _, L, rfl, ⟨rfl, N⟩, hq⟩ := rm0 l s _ hw tables_1 i0 c_CONTAINER c_LIST c_LEAF c_LEAF_LIST c_CHOICE c_CASE c_ANYDATA c_ANYXML c_RPC c_ACTION c_INPUT c_OUTPUT c_NOTIFICATION s.heap s.heap.size (Old.start s) hS p e ha hc hk s m _ below hf ((Spec.applies_iff_loose hf).mp happ).1 ⟨rfl, State.Warmed39.refl s, rfl⟩ trivial
  refine ⟨n, _, h1, h2, h3, hpost _ _ _ _ _ _ ⟨Cond.after_iff.mpr rfl, Cond.after_iff.mpr (eq_i res_at (Term.int_eval (1)) rfl), trivial⟩ ⟨hq.1, hq.2.1, (hq.2.2.sift fun y hy => Or.inr (N y hy)).mono (by decide) (by decide)⟩⟩
theorem main_1_1 : Claimed_1_1 := comes_1 fun _ _ _ _ _ _ h hF => ⟨h.1, hF⟩
theorem main_1_2 : Claimed_1_2 := comes_1 fun _ _ _ _ _ _ h hF => ⟨h.2.1, hF⟩
end Jvm.Pilot.@@N@@
namespace Jvm.Pilot.@@N@@
open Jvm Jvm.ClassFile Sem Op Lib Jvm.Free Jvm.Stand Jvm.Pilot.@@N@@.Jvm.D
/-! MADE BY PROGRAM (witnessworld.py) out of the Statement's table words and the real class files: 13 classes; the members and pool entries that the words name. The judged class is class 1, her method 1. -/
namespace start1
open Jvm.ClassFile
def u (s : String) : CpInfo := .utf8 (stringToUtf16 s)
/-- a pool by its gaps: so many unusable entries, then the entry; so many at the end -/
def gap : Nat → List CpInfo → List CpInfo
  | 0, r => r
  | n + 1, r => .unusable :: gap n r
def poolList (es : List (Nat × CpInfo)) (last : Nat) : List CpInfo := es.foldr (fun e r => gap e.1 (e.2 :: r)) (gap last [])
def pool (es : List (Nat × CpInfo)) (last : Nat) : Array CpInfo := ⟨poolList es last⟩
def fileOf (pool : Array CpInfo) (this : Nat) (attrs : Array Attribute := #[]) (ms : Array MethodInfo := #[]) (fl : Nat := 33) (sup : Nat := 0) (ifs : Array Nat := #[]) (fds : Array FieldInfo := #[]) : ClassFile where
  minorVersion := 0
  majorVersion := 65
  constantPool := pool
  accessFlags := fl
  thisClass := this
  superClass := sup
  interfaces := ifs
  fields := fds
  methods := ms
  attributes := attrs
def plain (name : String) (sup : Option ClassId) : Class where
  name := name
  kind := .ordinary
  loader := none
  accessFlags := 33
  super := sup
  interfaces := #[]
  cf := none
  fields := #[]
  methods := #[]
  instanceTypes := #[]
  staticTypes := #[]
  resolved := #[]
  callSites := []
  init := .initialized
  statics := none
  mirror := none

def pool0 : Array CpInfo := pool [(5, u "<init>"), (0, u "()V"), (1, .class_ 10), (1, u "java/lang/Object")] 113

def k0m0 : Method := { name := "<init>", desc := "()V", sig := { parameters := [], returnType := none }, accessFlags := 1, code := none }
/-- java/lang/Object -/
def k0 : Class := { plain "java/lang/Object" none with
  accessFlags := 33
  interfaces := #[]
  cf := some (fileOf pool0 8 #[] #[{ accessFlags := 1, nameIndex := 5, descriptorIndex := 6, attributes := #[] }] 33 0 #[] #[])
  fields := #[]
  methods := #[k0m0]
  instanceTypes := #[]
  staticTypes := #[]
  resolved := Array.replicate 124 none
  statics := none }

def pool1 : Array CpInfo := pool [(2, .class_ 4), (1, u "java/lang/Object"), (0, u "<init>"), (0, u "()V"), (0, .class_ 8), (0, u "com/example/bough/bough/SchemaNode$Kind"), (0, .fieldref 7 10), (0, .nameAndType 11 12), (0, u "CONTAINER"), (0, u "Lcom/example/bough/bough/SchemaNode$Kind;"), (0, .fieldref 7 14), (0, .nameAndType 15 12), (0, u "LIST"), (0, .fieldref 7 17), (0, .nameAndType 18 12), (0, u "LEAF"), (0, .fieldref 7 20), (0, .nameAndType 21 12), (0, u "LEAF_LIST"), (0, .fieldref 7 23), (0, .nameAndType 24 12), (0, u "CHOICE"), (0, .fieldref 7 26), (0, .nameAndType 27 12), (0, u "CASE"), (0, .fieldref 7 29), (0, .nameAndType 30 12), (0, u "ANYDATA"), (0, .fieldref 7 32), (0, .nameAndType 33 12), (0, u "ANYXML"), (0, .fieldref 7 35), (0, .nameAndType 36 12), (0, u "RPC"), (0, .fieldref 7 38), (0, .nameAndType 39 12), (0, u "ACTION"), (0, .fieldref 7 41), (0, .nameAndType 42 12), (0, u "INPUT"), (0, .fieldref 7 44), (0, .nameAndType 45 12), (0, u "OUTPUT"), (0, .fieldref 7 47), (0, .nameAndType 48 12), (0, u "NOTIFICATION"), (0, .integer 2147483647), (0, .methodref 7 51), (0, .nameAndType 52 53), (0, u "isCaseShorthand"), (0, u "()Z"), (0, .class_ 55), (0, u "com/example/bough/bough/KindIsCaseShorthandPinLaw"), (2, u "law"), (0, u "(I)Z")] 9

def k1m0 : Method := { name := "<init>", desc := "()V", sig := { parameters := [], returnType := none }, accessFlags := 2, code := none }
def k1c1 : Code := { maxStack := 4, maxLocals := 5, code := code, exceptionTable := #[], attributes := #[] }
def k1m1 : Method := { name := "law", desc := "(I)Z", sig := { parameters := [.int], returnType := some .boolean }, accessFlags := 9, code := some k1c1 }
/-- com/example/bough/bough/KindIsCaseShorthandPinLaw -/
def k1 : Class := { plain "com/example/bough/bough/KindIsCaseShorthandPinLaw" (some 0) with
  accessFlags := 49
  interfaces := #[]
  cf := some (fileOf pool1 54 #[] #[{ accessFlags := 2, nameIndex := 5, descriptorIndex := 6, attributes := #[] }, { accessFlags := 9, nameIndex := 58, descriptorIndex := 59, attributes := #[] }] 49 2 #[] #[])
  fields := #[]
  methods := #[k1m0, k1m1]
  instanceTypes := #[]
  staticTypes := #[]
  resolved := Array.replicate 69 none
  statics := none }

def pool2 : Array CpInfo := pool [(1, .class_ 2), (0, u "java/lang/constant/Constable"), (0, .class_ 4), (0, u "java/lang/Object")] 6

/-- java/lang/constant/Constable -/
def k2 : Class := { plain "java/lang/constant/Constable" (some 0) with
  accessFlags := 1537
  interfaces := #[]
  cf := some (fileOf pool2 1 #[] #[] 1537 3 #[] #[])
  fields := #[]
  methods := #[]
  instanceTypes := #[]
  staticTypes := #[]
  resolved := Array.replicate 11 none
  statics := none }

def pool3 : Array CpInfo := pool [(1, .class_ 2), (0, u "java/lang/Comparable"), (0, .class_ 4), (0, u "java/lang/Object")] 7

/-- java/lang/Comparable -/
def k3 : Class := { plain "java/lang/Comparable" (some 0) with
  accessFlags := 1537
  interfaces := #[]
  cf := some (fileOf pool3 1 #[] #[] 1537 3 #[] #[])
  fields := #[]
  methods := #[]
  instanceTypes := #[]
  staticTypes := #[]
  resolved := Array.replicate 12 none
  statics := none }

def pool4 : Array CpInfo := pool [(1, .class_ 2), (0, u "java/io/Serializable"), (0, .class_ 4), (0, u "java/lang/Object")] 2

/-- java/io/Serializable -/
def k4 : Class := { plain "java/io/Serializable" (some 0) with
  accessFlags := 1537
  interfaces := #[]
  cf := some (fileOf pool4 1 #[] #[] 1537 3 #[] #[])
  fields := #[]
  methods := #[]
  instanceTypes := #[]
  staticTypes := #[]
  resolved := Array.replicate 7 none
  statics := none }

def pool5 : Array CpInfo := pool [(2, .class_ 4), (1, u "java/lang/Enum"), (0, u "name"), (0, u "Ljava/lang/String;"), (0, .fieldref 2 8), (0, .nameAndType 9 10), (0, u "ordinal"), (0, u "I"), (1, .class_ 14), (1, u "java/lang/Object"), (4, u "hash"), (86, .class_ 108), (1, u "java/lang/Enum$EnumDesc"), (2, .class_ 112), (0, u "java/lang/constant/Constable"), (0, .class_ 114), (0, u "java/lang/Comparable"), (0, .class_ 116), (0, u "java/io/Serializable"), (9, u "()I")] 77

def k5c0 : Code := { maxStack := 1, maxLocals := 1, code := jdk_37_method_2_code, exceptionTable := #[], attributes := #[] }
def k5m0 : Method := { name := "ordinal", desc := "()I", sig := { parameters := [], returnType := some .int }, accessFlags := 17, code := some k5c0 }
/-- java/lang/Enum -/
def k5 : Class := { plain "java/lang/Enum" (some 0) with
  accessFlags := 1057
  interfaces := #[2, 3, 4]
  cf := some (fileOf pool5 2 #[.nestMembers #[106]] #[{ accessFlags := 17, nameIndex := 9, descriptorIndex := 126, attributes := #[] }] 1057 12 #[111, 113, 115] #[{ accessFlags := 18, nameIndex := 5, descriptorIndex := 6, attributes := #[] }, { accessFlags := 18, nameIndex := 9, descriptorIndex := 10, attributes := #[] }, { accessFlags := 2, nameIndex := 19, descriptorIndex := 10, attributes := #[] }])
  fields := #[{ name := "name", type := (.object "java/lang/String"), accessFlags := 18, slot := 0, constantValue := 0 }, { name := "ordinal", type := .int, accessFlags := 18, slot := 1, constantValue := 0 }, { name := "hash", type := .int, accessFlags := 2, slot := 2, constantValue := 0 }]
  methods := #[k5m0]
  instanceTypes := #[(.object "java/lang/String"), .int, .int]
  staticTypes := #[]
  resolved := Array.replicate 204 none
  statics := none }

def pool6 : Array CpInfo := pool [(1, .class_ 2), (0, u "com/example/bough/bough/SchemaNode$Kind"), (2, u "CONTAINER"), (0, u "Lcom/example/bough/bough/SchemaNode$Kind;"), (2, u "LIST"), (2, u "LEAF"), (2, u "LEAF_LIST"), (2, u "CHOICE"), (2, u "CASE"), (2, u "ANYDATA"), (2, u "ANYXML"), (2, u "RPC"), (2, u "ACTION"), (2, u "INPUT"), (2, u "OUTPUT"), (2, u "NOTIFICATION"), (2, u "$VALUES"), (0, u "[Lcom/example/bough/bough/SchemaNode$Kind;"), (6, .class_ 55), (1, u "java/lang/Enum"), (8, u "keyword"), (0, u "Ljava/lang/String;"), (10, .methodref 1 77), (0, .nameAndType 78 79), (0, u "ordinal"), (0, u "()I"), (59, u "isCaseShorthand"), (0, u "()Z"), (6, .class_ 148), (0, u "com/example/bough/bough/SchemaNode")] 2

def k6c0 : Code := { maxStack := 4, maxLocals := 1, code := prog_61_method_6_code, exceptionTable := #[], attributes := #[] }
def k6m0 : Method := { name := "isCaseShorthand", desc := "()Z", sig := { parameters := [], returnType := some .boolean }, accessFlags := 0, code := some k6c0 }
/-- com/example/bough/bough/SchemaNode$Kind -/
def k6 : Class := { plain "com/example/bough/bough/SchemaNode$Kind" (some 5) with
  accessFlags := 16433
  interfaces := #[]
  cf := some (fileOf pool6 1 #[.nestHost 147] #[{ accessFlags := 0, nameIndex := 139, descriptorIndex := 140, attributes := #[] }] 16433 53 #[] #[{ accessFlags := 16409, nameIndex := 5, descriptorIndex := 6, attributes := #[] }, { accessFlags := 16409, nameIndex := 9, descriptorIndex := 6, attributes := #[] }, { accessFlags := 16409, nameIndex := 12, descriptorIndex := 6, attributes := #[] }, { accessFlags := 16409, nameIndex := 15, descriptorIndex := 6, attributes := #[] }, { accessFlags := 16409, nameIndex := 18, descriptorIndex := 6, attributes := #[] }, { accessFlags := 16409, nameIndex := 21, descriptorIndex := 6, attributes := #[] }, { accessFlags := 16409, nameIndex := 24, descriptorIndex := 6, attributes := #[] }, { accessFlags := 16409, nameIndex := 27, descriptorIndex := 6, attributes := #[] }, { accessFlags := 16409, nameIndex := 30, descriptorIndex := 6, attributes := #[] }, { accessFlags := 16409, nameIndex := 33, descriptorIndex := 6, attributes := #[] }, { accessFlags := 16409, nameIndex := 36, descriptorIndex := 6, attributes := #[] }, { accessFlags := 16409, nameIndex := 39, descriptorIndex := 6, attributes := #[] }, { accessFlags := 16409, nameIndex := 42, descriptorIndex := 6, attributes := #[] }, { accessFlags := 18, nameIndex := 64, descriptorIndex := 65, attributes := #[] }, { accessFlags := 4122, nameIndex := 45, descriptorIndex := 46, attributes := #[] }])
  fields := #[{ name := "CONTAINER", type := (.object "com/example/bough/bough/SchemaNode$Kind"), accessFlags := 16409, slot := 0, constantValue := 0 }, { name := "LIST", type := (.object "com/example/bough/bough/SchemaNode$Kind"), accessFlags := 16409, slot := 1, constantValue := 0 }, { name := "LEAF", type := (.object "com/example/bough/bough/SchemaNode$Kind"), accessFlags := 16409, slot := 2, constantValue := 0 }, { name := "LEAF_LIST", type := (.object "com/example/bough/bough/SchemaNode$Kind"), accessFlags := 16409, slot := 3, constantValue := 0 }, { name := "CHOICE", type := (.object "com/example/bough/bough/SchemaNode$Kind"), accessFlags := 16409, slot := 4, constantValue := 0 }, { name := "CASE", type := (.object "com/example/bough/bough/SchemaNode$Kind"), accessFlags := 16409, slot := 5, constantValue := 0 }, { name := "ANYDATA", type := (.object "com/example/bough/bough/SchemaNode$Kind"), accessFlags := 16409, slot := 6, constantValue := 0 }, { name := "ANYXML", type := (.object "com/example/bough/bough/SchemaNode$Kind"), accessFlags := 16409, slot := 7, constantValue := 0 }, { name := "RPC", type := (.object "com/example/bough/bough/SchemaNode$Kind"), accessFlags := 16409, slot := 8, constantValue := 0 }, { name := "ACTION", type := (.object "com/example/bough/bough/SchemaNode$Kind"), accessFlags := 16409, slot := 9, constantValue := 0 }, { name := "INPUT", type := (.object "com/example/bough/bough/SchemaNode$Kind"), accessFlags := 16409, slot := 10, constantValue := 0 }, { name := "OUTPUT", type := (.object "com/example/bough/bough/SchemaNode$Kind"), accessFlags := 16409, slot := 11, constantValue := 0 }, { name := "NOTIFICATION", type := (.object "com/example/bough/bough/SchemaNode$Kind"), accessFlags := 16409, slot := 12, constantValue := 0 }, { name := "keyword", type := (.object "java/lang/String"), accessFlags := 18, slot := 3, constantValue := 0 }, { name := "$VALUES", type := (.array (.object "com/example/bough/bough/SchemaNode$Kind")), accessFlags := 4122, slot := 13, constantValue := 0 }]
  methods := #[k6m0]
  instanceTypes := #[(.object "java/lang/String"), .int, .int, (.object "java/lang/String")]
  staticTypes := #[(.object "com/example/bough/bough/SchemaNode$Kind"), (.object "com/example/bough/bough/SchemaNode$Kind"), (.object "com/example/bough/bough/SchemaNode$Kind"), (.object "com/example/bough/bough/SchemaNode$Kind"), (.object "com/example/bough/bough/SchemaNode$Kind"), (.object "com/example/bough/bough/SchemaNode$Kind"), (.object "com/example/bough/bough/SchemaNode$Kind"), (.object "com/example/bough/bough/SchemaNode$Kind"), (.object "com/example/bough/bough/SchemaNode$Kind"), (.object "com/example/bough/bough/SchemaNode$Kind"), (.object "com/example/bough/bough/SchemaNode$Kind"), (.object "com/example/bough/bough/SchemaNode$Kind"), (.object "com/example/bough/bough/SchemaNode$Kind"), (.array (.object "com/example/bough/bough/SchemaNode$Kind"))]
  resolved := Array.replicate 151 none
  statics := some 0 }

def pool7 : Array CpInfo := pool [(1, u "java/lang/Cloneable"), (0, .class_ 1), (0, u "java/lang/Object"), (0, .class_ 3)] 3

/-- java/lang/Cloneable -/
def k7 : Class := { plain "java/lang/Cloneable" (some 0) with
  accessFlags := 1537
  interfaces := #[]
  cf := some (fileOf pool7 2 #[] #[] 1537 4 #[] #[])
  fields := #[]
  methods := #[]
  instanceTypes := #[]
  staticTypes := #[]
  resolved := Array.replicate 8 none
  statics := none }

/-- the primitive byte -/
def k8 : Class := { plain "byte" none with kind := .primitive 'B', accessFlags := 0x411 }
/-- [B -/
def k9 : Class := { plain "[B" (some 0) with kind := .array 8 .byte, interfaces := #[7, 4], accessFlags := 1041 }

/-- the primitive int -/
def k10 : Class := { plain "int" none with kind := .primitive 'I', accessFlags := 0x411 }
/-- [I -/
def k11 : Class := { plain "[I" (some 0) with kind := .array 10 .int, interfaces := #[7, 4], accessFlags := 1041 }

/-- [Lcom/example/bough/bough/SchemaNode$Kind; -/
def k12 : Class := { plain "[Lcom/example/bough/bough/SchemaNode$Kind;" (some 0) with kind := .array 6 (.object "com/example/bough/bough/SchemaNode$Kind"), interfaces := #[7, 4], accessFlags := 1041 }

def heap : Heap := #[{ cls := 6, slots := #[.ref 1, .ref 2, .ref 3, .ref 4, .ref 5, .ref 6, .ref 7, .ref 8, .ref 9, .ref 10, .ref 11, .ref 12, .ref 13, .null], vm := .statics 6 },
  { cls := 6, slots := #[.null, .int 0, .int 0, .null], vm := .none },
  { cls := 6, slots := #[.null, .int 1, .int 0, .null], vm := .none },
  { cls := 6, slots := #[.null, .int 2, .int 0, .null], vm := .none },
  { cls := 6, slots := #[.null, .int 3, .int 0, .null], vm := .none },
  { cls := 6, slots := #[.null, .int 4, .int 0, .null], vm := .none },
  { cls := 6, slots := #[.null, .int 5, .int 0, .null], vm := .none },
  { cls := 6, slots := #[.null, .int 6, .int 0, .null], vm := .none },
  { cls := 6, slots := #[.null, .int 7, .int 0, .null], vm := .none },
  { cls := 6, slots := #[.null, .int 8, .int 0, .null], vm := .none },
  { cls := 6, slots := #[.null, .int 9, .int 0, .null], vm := .none },
  { cls := 6, slots := #[.null, .int 10, .int 0, .null], vm := .none },
  { cls := 6, slots := #[.null, .int 11, .int 0, .null], vm := .none },
  { cls := 6, slots := #[.null, .int 12, .int 0, .null], vm := .none }]
def classes : Array Class := #[k0, k1, k2, k3, k4, k5, k6, k7, k8, k9, k10, k11, k12]
def interned : List (Array UInt16 × Addr) := []
def slotsUsed : Nat := 66
def theMethod : MethodId := ⟨1, 1⟩
def args0 : Array Value := #[.int 5]
def aboutOver (below : List Frame) : State where
  vm := { classes := classes, interned := interned.toArray }
  heap := heap
  slotsUsed := slotsUsed
  threads := #[{ frames := .invoking theMethod args0 :: below }]
def below0 : List Frame := [.native { method := ⟨0, 0⟩, args := #[] }]
def about1 : State := aboutOver below0
def p0 : Program := .bare "" "" ""
def e0 : Env := launch0.env 0 0 0
theorem w_frames : about1.frames = Frame.invoking theMethod args0 :: below0 := rfl
set_option maxRecDepth 65536 in
theorem w_args : argsFit about1.vm theMethod args0 = true := by decide +kernel
set_option maxRecDepth 65536 in
theorem w_heap : heapFits about1 = true := by decide +kernel
set_option maxRecDepth 65536 in
theorem w_runnable : about1.curStatus? = some .runnable := by decide +kernel
set_option maxRecDepth 65536 in
theorem w_alone : about1.alone = true := by decide +kernel
set_option maxRecDepth 65536 in
theorem w_named : about1.methodNamed? x = some theMethod := by decide +kernel
set_option maxRecDepth 65536 in
theorem w_hears : about1.hears theMethod below0 = true := by decide +kernel
set_option maxRecDepth 65536 in
theorem w_ripe : about1.ripe theMethod args0 below0 = true := by decide +kernel
theorem w_running : about1.status = .running := rfl
set_option maxRecDepth 65536 in
theorem w_room : about1.hasRoom e0.platform room_1 = true :=
  launch0.hasRoom_least _ room_1 (by decide +kernel) (by decide +kernel) (by decide +kernel) (by decide +kernel) (by decide +kernel) (by decide +kernel)
theorem allAtoms_all (ts : List Jvm.Cond) (a : Array Jvm.Value) (st : Jvm.State) : (allAtoms ts).before a st = ts.all (fun c => c.before a st) := by
  induction ts with
  | nil => rfl
  | cons c t ih =>
    show (Jvm.Cond.and c (allAtoms t)).before a st = _
    rw [Jvm.Cond.before_and, ih, List.all_cons]
def words1 : List Jvm.Cond := Jvm.Cond.code x code maxLocals ret :: tables_1
/-- a 'code' word, met by the world's own term for the bytes: nothing is compared byte by byte -/
theorem code_word {y : MethodName} {bytes : ByteArray} {mx : Nat} {rt : Option FieldType} {a : Array Value} {s : State} {m : MethodId} {meth : Method} {c : Code} (h1 : s.methodNamed? y = some m) (h2 : s.vm.method? m = some meth) (h3 : meth.code = some c) (h4 : c.code = bytes)
    (h5 : (c.maxLocals == mx && c.exceptionTable.isEmpty && decide (c.maxStack ≤ mostOperands) && decide (meth.sig.returnType = rt) && !meth.locks && decide (parseMethodDescriptor y.desc = some meth.sig)) = true) : (Jvm.Cond.code y bytes mx rt).before a s = true := by
  simp only [Bool.and_eq_true, beq_iff_eq, Bool.not_eq_true', decide_eq_true_eq] at h5
  obtain ⟨⟨⟨⟨⟨g1, g2⟩, g3⟩, g4⟩, g5⟩, g6⟩ := h5
  simp [Cond.before, Cond.holds, Cond.value, h1, h2, h3, h4, g1, g2, g3, g4, g5, g6]
def isCode : Jvm.Cond → Bool
  | .code _ _ _ _ => true
  | _ => false
theorem all_split {L : List Jvm.Cond} {P : Jvm.Cond → Bool} (h1 : L.all (fun c => isCode c || P c) = true) (h2 : ∀ c ∈ L.filter isCode, P c = true) : L.all P = true := by
  refine List.all_eq_true.mpr fun c hc => ?_
  have h := List.all_eq_true.mp h1 c hc
  rcases Bool.eq_false_or_eq_true (isCode c) with hi | hi
  · exact h2 c (List.mem_filter.mpr ⟨hc, hi⟩)
  · simpa [hi] using h
set_option maxRecDepth 65536 in
theorem w_c0 : (Jvm.Cond.code x code maxLocals ret).before args0 about1 = true := code_word (m := ⟨1, 1⟩) (meth := k1m1) (c := k1c1) (by decide +kernel) rfl rfl rfl (by decide +kernel)
set_option maxRecDepth 65536 in
theorem w_c1 : (Jvm.Cond.code ({ cls := "com/example/bough/bough/SchemaNode$Kind", name := "isCaseShorthand", desc := "()Z" } : Jvm.MethodName) prog_61_method_6_code (1 : Nat) (Option.some Jvm.ClassFile.FieldType.boolean)).before args0 about1 = true := code_word (m := ⟨6, 0⟩) (meth := k6m0) (c := k6c0) (by decide +kernel) rfl rfl rfl (by decide +kernel)
set_option maxRecDepth 65536 in
theorem w_c2 : (Jvm.Cond.code ({ cls := "java/lang/Enum", name := "ordinal", desc := "()I" } : Jvm.MethodName) jdk_37_method_2_code (1 : Nat) (Option.some Jvm.ClassFile.FieldType.int)).before args0 about1 = true := code_word (m := ⟨5, 0⟩) (meth := k5m0) (c := k5c0) (by decide +kernel) rfl rfl rfl (by decide +kernel)
def codes1 : List Jvm.Cond := [Jvm.Cond.code x code maxLocals ret, Jvm.Cond.code ({ cls := "com/example/bough/bough/SchemaNode$Kind", name := "isCaseShorthand", desc := "()Z" } : Jvm.MethodName) prog_61_method_6_code (1 : Nat) (Option.some Jvm.ClassFile.FieldType.boolean), Jvm.Cond.code ({ cls := "java/lang/Enum", name := "ordinal", desc := "()I" } : Jvm.MethodName) jdk_37_method_2_code (1 : Nat) (Option.some Jvm.ClassFile.FieldType.int)]
set_option maxRecDepth 65536 in
theorem codes_eq : words1.filter isCode = codes1 := rfl
theorem w_codes : ∀ c ∈ words1.filter isCode, c.before args0 about1 = true := by
  rw [codes_eq]
  intro c hc
  simp only [codes1, List.mem_cons, List.not_mem_nil, or_false] at hc
  rcases hc with rfl | rfl | rfl
  · exact w_c0
  · exact w_c1
  · exact w_c2
set_option maxRecDepth 65536 in
theorem w_t1 : (words1.take 24).all (fun c => isCode c || c.before args0 about1) = true := by decide +kernel
set_option maxRecDepth 65536 in
theorem w_t2 : (words1.drop 24).all (fun c => isCode c || c.before args0 about1) = true := by decide +kernel
theorem w_tables : (allAtoms (Jvm.Cond.code x code maxLocals ret :: tables_1)).before args0 about1 = true := by
  rw [allAtoms_all]
  show words1.all (fun c => c.before args0 about1) = true
  refine all_split ?_ w_codes
  rw [← List.take_append_drop 24 words1, List.all_append, w_t1, w_t2]
  rfl
set_option maxRecDepth 65536 in
theorem w_case : (Jvm.Cond.and given_1 narrow_1).before args0 about1 = true := by decide +kernel
theorem w_applies : (headSpec (Jvm.Cond.code x code maxLocals ret :: tables_1) room_1).applies x e0.platform about1 = true :=
  (Spec.applies_iff w_frames).mpr ⟨w_running, w_runnable, w_alone, w_named, w_hears, w_ripe, w_room, w_tables⟩
theorem atStart : AtStart classFile x code maxLocals ret World_1 tables_1 room_1 Calls_1 rest_1 Pre_1 launch0 p0 e0 about1 theMethod args0 below0 :=
  ⟨lists_1, trivial, launch0.admits_env _ _ _, launch0.least_env, fairChoices_fair.cas, fairChoices_fair.clock, w_frames, w_args, w_heap, w_applies, trivial, trivial, w_case⟩
end start1
theorem witness_1 : WitnessClaimed_1 := ⟨start1.p0, start1.e0, start1.about1, start1.theMethod, start1.args0, start1.below0, start1.atStart⟩
end Jvm.Pilot.@@N@@
