import JvmDerived
import JvmDerived.Pilot.@@N@@Statement
import JvmDerived.Pilot.@@N@@Code
set_option linter.unusedVariables false
set_option linter.unusedSimpArgs false
namespace Jvm.Pilot.@@N@@
open Jvm Jvm.ClassFile Sem Op Lib Jvm.Free Jvm.Stand Jvm.LawKit Jvm.RoadKit Bundle Jvm.Pilot.@@N@@.Jvm.D
section OwnKit
variable {p : Program} {l : Launch} {e : Env} {R : Room} {s : State} {m : MethodId} {args : Array Value} {below : List Frame} {meth : Method} {c : Code} {T : State} {locs : List Loc} {cells slots : Nat} {Z : State} {a0 : Array Value} {h : Heap} {Q : Option Value → Heap → List Loc → Prop} {rc rs : Nat} {S S' : State}
/-- from S the body ends well -/
def own_go (p : Program) (e : Env) (below : List Frame) (s : State) (Q : Option Value → Heap → List Loc → Prop) (rc rs : Nat) (S : State) : Prop :=
  ∃ s₂ o, Steps p.tables e below S s₂ ∧ s₂.status = .running ∧ Ended s₂ below o ∧ ∃ v L, o = .returned v ∧ Q v s₂.heap L ∧ FrameEnd s o s₂ L rc rs
theorem own_st (k : ∀ t, Steps p.tables e below S' t → Steps p.tables e below S t) (g : own_go p e below s Q rc rs S') : own_go p e below s Q rc rs S := by
  obtain ⟨s₂, o, h1, h2⟩ := g
  exact ⟨s₂, o, k _ h1, h2⟩
theorem own_ret (X : Stand p l e R s m args below meth c T locs cells slots) (hx : p.tables.exec = Jvm.exec) (hlk : meth.locks = false) {pc : Nat} {Ls : Array Slot} {w : Value} {t : FieldType} {i : Instr} {rest : List Value} (hret : meth.sig.returnType = some t) (hn : narrow t w = w)
    (hi : (i = .ireturn ∧ (t = .int ∨ t = .boolean ∨ t = .byte ∨ t = .char ∨ t = .short) ∧ ∃ z, w = .int z) ∨ (i = .lreturn ∧ t = .long ∧ ∃ z, w = .long z) ∨ (i = .dreturn ∧ t = .double ∧ ∃ z, w = .double z) ∨ (i = .freturn ∧ t = .float ∧ ∃ z, w = .float z) ∨ (i = .areturn ∧ t.isReference = true ∧ w.isRef = true))
    (hd : decode c.code pc = .ok (i, 1)) (hc : cells ≤ rc) (hs : slots ≤ rs) (hQ : Q (some w) T.heap locs) : own_go p e below s Q rc rs (T.setTop (mkF m pc Ls (w :: rest))) := by
  obtain ⟨fs, hr, hrun, hended, hW, hsame⟩ := X.leave (v := some w) (fun h => by rw [hret] at h; cases h) hlk
  exact ⟨_, _, retOut X hx hret hn hi hd hr, hrun, hended, _, _, rfl, hQ, ⟨_, rfl⟩, hW, hsame.mono hc hs⟩
theorem own_retI (X : Stand p l e R s m args below meth c T locs cells slots) (hx : p.tables.exec = Jvm.exec) (hlk : meth.locks = false) {pc : Nat} {Ls : Array Slot} {z : Int32} {rest : List Value} (hret : meth.sig.returnType = some .int)
    (hd : decode c.code pc = .ok (.ireturn, 1)) (hc : cells ≤ rc) (hs : slots ≤ rs) (hQ : Q (some (.int z)) T.heap locs) : own_go p e below s Q rc rs (T.setTop (mkF m pc Ls (.int z :: rest))) :=
  own_ret X hx hlk hret rfl (Or.inl ⟨rfl, Or.inl rfl, z, rfl⟩) hd hc hs hQ
theorem own_retN (X : Stand p l e R s m args below meth c T locs cells slots) (hx : p.tables.exec = Jvm.exec) (hlk : meth.locks = false) {pc : Nat} {Ls : Array Slot} {z : Int32} {t : FieldType} {rest : List Value} (hret : meth.sig.returnType = some t) (ht : t = .boolean ∨ t = .byte ∨ t = .char ∨ t = .short) (hn : narrow t (.int z) = .int z)
    (hd : decode c.code pc = .ok (.ireturn, 1)) (hc : cells ≤ rc) (hs : slots ≤ rs) (hQ : Q (some (.int z)) T.heap locs) : own_go p e below s Q rc rs (T.setTop (mkF m pc Ls (.int z :: rest))) :=
  own_ret X hx hlk hret hn (Or.inl ⟨rfl, Or.inr ht, z, rfl⟩) hd hc hs hQ
theorem own_retJ (X : Stand p l e R s m args below meth c T locs cells slots) (hx : p.tables.exec = Jvm.exec) (hlk : meth.locks = false) {pc : Nat} {Ls : Array Slot} {z : Int64} {rest : List Value} (hret : meth.sig.returnType = some .long)
    (hd : decode c.code pc = .ok (.lreturn, 1)) (hc : cells ≤ rc) (hs : slots ≤ rs) (hQ : Q (some (.long z)) T.heap locs) : own_go p e below s Q rc rs (T.setTop (mkF m pc Ls (.long z :: rest))) :=
  own_ret X hx hlk hret rfl (Or.inr (Or.inl ⟨rfl, rfl, z, rfl⟩)) hd hc hs hQ
theorem own_retA (X : Stand p l e R s m args below meth c T locs cells slots) (hx : p.tables.exec = Jvm.exec) (hlk : meth.locks = false) {pc : Nat} {Ls : Array Slot} {w : Value} {t : FieldType} {rest : List Value} (hret : meth.sig.returnType = some t) (ht : t.isReference = true) (hw : w.isRef = true)
    (hd : decode c.code pc = .ok (.areturn, 1)) (hc : cells ≤ rc) (hs : slots ≤ rs) (hQ : Q (some w) T.heap locs) : own_go p e below s Q rc rs (T.setTop (mkF m pc Ls (w :: rest))) :=
  own_ret X hx hlk hret (by cases w <;> cases t <;> first | rfl | (simp [Value.isRef] at hw; done) | (simp [FieldType.isReference] at ht; done)) (Or.inr (Or.inr (Or.inr (Or.inr ⟨rfl, ht, hw⟩)))) hd hc hs hQ
theorem own_ret0 (X : Stand p l e R s m args below meth c T locs cells slots) (hx : p.tables.exec = Jvm.exec) (hlk : meth.locks = false) {pc : Nat} {Ls : Array Slot} (hret : meth.sig.returnType = none)
    (hd : decode c.code pc = .ok (.return_, 1)) (hc : cells ≤ rc) (hs : slots ≤ rs) (hQ : Q none T.heap locs) : own_go p e below s Q rc rs (T.setTop (mkF m pc Ls [])) := by
  obtain ⟨fs, hr, hrun, hended, hW, hsame⟩ := X.leave (v := none) (fun _ => rfl) hlk
  exact ⟨_, _, X.returnOut hx hret hd hr, hrun, hended, _, _, rfl, hQ, ⟨_, rfl⟩, hW, hsame.mono hc hs⟩
/-- a body's contract at a heap -/
def own_Met (l : Launch) (Z : State) (y : MethodName) (bytes : ByteArray) (maxL : Nat) (ret : Option FieldType) (ws : List Jvm.Cond) (rm : Room) (as' : Array Value) (h : Heap) (Q : Option Value → Heap → List Loc → Prop) : Prop :=
  MetFree l y (head1 (Jvm.Cond.code y bytes maxL ret :: ws) rm) (fun a U => a = as' ∧ Z.Warmed39 U.vm ∧ U.heap = h) (fun _ _ _ _ _ => True) (fun _ U o U' => ∃ v L, o = .returned v ∧ Q v U'.heap L ∧ FrameEnd U o U' L rm.cells rm.slots)
theorem own_body {y : MethodName} {bytes : ByteArray} {maxL : Nat} {ret : Option FieldType} {ws : List Jvm.Cond} {rm : Room} {as' : Array Value} (hp : plainFor y = true)
    (k : ∀ (p : Program) (e : Env) (s : State) (m : MethodId) (below : List Frame) (meth : Method) (c : Code) (s₁ : State), p.tables.exec = Jvm.exec → c.code = bytes → c.maxLocals = maxL → s.vm.findClass y.cls = some m.cls → meth.name = y.name → meth.sig.returnType = ret → meth.locks = false → Stand p l e rm s m as' below meth c s₁ [] 0 0 → Z.Warmed39 s.vm → s₁.heap = h → own_go p e below s Q rm.cells rm.slots (s₁.setTop (entryFrame m as' maxL))) :
    own_Met l Z y bytes maxL ret ws rm as' h Q := by
  refine MetFree.of_bodySF hp hisR ?_
  intro p e s m args below meth c s₁ Bd hml0 hP hK
  obtain ⟨rfl, hZ, hh⟩ := hP
  exact k p e s m below meth c s₁ Bd.exec Bd.bytes hml0 (findClass_of_methodNamed Bd.named) (name_of_methodNamed Bd.named Bd.method).1 Bd.returns Bd.notSynchronized (Stand.of_body Bd) hZ (by rw [← hh, Bd.state]; rfl)
theorem own_callS (X : Stand p l e R s m args below meth c T locs cells slots) (hx : p.tables.exec = Jvm.exec) (hZ : Z.Warmed39 s.vm) {own : String} {index : Nat} {y : MethodName} {bytes : ByteArray} {maxL : Nat} {ret : Option FieldType} {rm : Room} {argsL rest : List Value} {Q' : Option Value → Heap → List Loc → Prop}
    (hM : own_Met l Z y bytes maxL ret [] rm argsL.toArray h Q') (hown : s.vm.findClass own = some m.cls) (w1 : (Jvm.Cond.methodLink own index y).before a0 Z = true) (w2 : (Jvm.Cond.static y).before a0 Z = true) (w3 : (Jvm.Cond.initialized y.cls).before a0 Z = true) (w4 : (Jvm.Cond.code y bytes maxL ret).before a0 Z = true)
    (hy : y.cls ≠ "java/lang/invoke/MethodHandle" ∧ y.cls ≠ "java/lang/invoke/VarHandle") (eT : T.heap = h) {g : JFrame} (hg : g.method = m) (hsize : g.locals.size = c.maxLocals) (hlen : ∀ sig, parseMethodDescriptor y.desc = some sig → argsL.length = sig.parameters.length) (hstack : g.stack = argsL.reverse ++ rest) {W : Nat} (hW : 2 * g.monitorRoom + (rest.map fun v => v.category).sum ≤ W)
    (hd : decode c.code g.pc = .ok (.invokestatic index, 3)) (hf : rm.frames + 1 ≤ R.frames) (hl : W + (maxL + 11) + rm.locals ≤ R.locals) (hc : cells + rm.cells ≤ R.cells) (hs : slots + rm.slots ≤ R.slots) :
    ∃ v T' L, Stand p l e R s m args below meth c T' (locs ++ L) (cells + rm.cells) (slots + rm.slots) ∧ Q' v T'.heap L ∧ ∀ target, Steps p.tables e below (T'.setTop { g with pc := g.pc + 3, stack := v.toList ++ rest }) target → Steps p.tables e below (T.setTop g) target := by
  obtain ⟨v, _, ⟨T1, L1, k1, n1⟩, -, X1, ⟨Lc, hQ, l1, y1, z1⟩, st⟩ := Jvm.LawKit.callS X hx (y := y) hown (mvT hZ w1) (mvT hZ w2) (mvT hZ w3) (mvT hZ w4) hy (backOf (W := W) hM hZ w4 w3 hf hl) hg hsize hlen hstack hW hd (fun _ _ => ⟨rfl, eT, hc, hs⟩)
  dsimp only [Pt.U, Pt.locs, Pt.cells, Pt.slots] at X1 l1 y1 z1 st hQ
  subst l1 y1 z1
  exact ⟨v, T1, Lc, X1, hQ, st⟩
theorem own_callV (X : Stand p l e R s m args below meth c T locs cells slots) (hx : p.tables.exec = Jvm.exec) (hZ : Z.Warmed39 s.vm) {own C : String} {index : Nat} {y z : MethodName} {bytes : ByteArray} {maxL : Nat} {ret : Option FieldType} {rm : Room} {b : Addr} {argsL rest : List Value} {Q' : Option Value → Heap → List Loc → Prop}
    (hM : own_Met l Z z bytes maxL ret [] rm (.ref b :: argsL).toArray h Q') (hown : s.vm.findClass own = some m.cls) (w1 : (Jvm.Cond.methodLink own index y).before a0 Z = true) (w2 : (Jvm.Cond.declares y).before a0 Z = true) (nf : NotFace s y) (w3 : (Jvm.Cond.selects C y z).before a0 Z = true) (w5 : (Jvm.Cond.instanceMethod z).before a0 Z = true)
    (w6 : (Jvm.Cond.initialized z.cls).before a0 Z = true) (w4 : (Jvm.Cond.code z bytes maxL ret).before a0 Z = true)
    (hy : y.cls ≠ "java/lang/invoke/MethodHandle" ∧ y.cls ≠ "java/lang/invoke/VarHandle") (eT : T.heap = h) (E : Exa Z h b C) {g : JFrame} (hg : g.method = m) (hsize : g.locals.size = c.maxLocals) (hlen : ∀ sig, parseMethodDescriptor y.desc = some sig → argsL.length = sig.parameters.length) (hstack : g.stack = argsL.reverse ++ .ref b :: rest) {W : Nat} (hW : 2 * g.monitorRoom + (rest.map fun v => v.category).sum ≤ W)
    (hd : decode c.code g.pc = .ok (.invokevirtual index, 3)) (hf : rm.frames + 1 ≤ R.frames) (hl : W + (maxL + 11) + rm.locals ≤ R.locals) (hc : cells + rm.cells ≤ R.cells) (hs : slots + rm.slots ≤ R.slots) :
    ∃ v T' L, Stand p l e R s m args below meth c T' (locs ++ L) (cells + rm.cells) (slots + rm.slots) ∧ Q' v T'.heap L ∧ ∀ target, Steps p.tables e below (T'.setTop { g with pc := g.pc + 3, stack := v.toList ++ rest }) target → Steps p.tables e below (T.setTop g) target := by
  obtain ⟨cq, kq, qa, qb, qc⟩ := isOf hZ eT E
  obtain ⟨v, _, ⟨T1, L1, k1, n1⟩, -, X1, ⟨Lc, hQ, l1, y1, z1⟩, st⟩ := X.virtualBack hx (y := y) (z := z) hown (mvT hZ w1) (mvT hZ w2) nf (mvT hZ w3) (mvT hZ w5) hy (backOf (W := W) hM hZ w4 w6 hf hl) qa qc hg hsize (Steps.refl _) hlen hstack hW hd (fun _ _ => ⟨rfl, eT, hc, hs⟩)
  dsimp only [Pt.U, Pt.locs, Pt.cells, Pt.slots] at X1 l1 y1 z1 st hQ
  subst l1 y1 z1
  exact ⟨v, T1, Lc, X1, hQ, fun _ k => st.trans k⟩
theorem own_callU (X : Stand p l e R s m args below meth c T locs cells slots) (hx : p.tables.exec = Jvm.exec) (hZ : Z.Warmed39 s.vm) {own C owner : String} {index : Nat} {y z : MethodName} {bytes : ByteArray} {maxL : Nat} {ret : Option FieldType} {rm : Room} {b : Addr} {argsL rest : List Value} {Q' : Option Value → Heap → List Loc → Prop}
    (hM : own_Met l Z z bytes maxL ret [] rm (.ref b :: argsL).toArray h Q') (hown : s.vm.findClass own = some m.cls) (w1 : (Jvm.Cond.methodLink own index y).before a0 Z = true) (w2 : (Jvm.Cond.sameMethod y.cls owner y.name y.desc).before a0 Z = true) (w7 : (Jvm.Cond.declares ⟨owner, y.name, y.desc⟩).before a0 Z = true) (w3 : (Jvm.Cond.selects C y z).before a0 Z = true) (w5 : (Jvm.Cond.instanceMethod z).before a0 Z = true)
    (w6 : (Jvm.Cond.initialized z.cls).before a0 Z = true) (w4 : (Jvm.Cond.code z bytes maxL ret).before a0 Z = true)
    (hy : owner ≠ "java/lang/invoke/MethodHandle" ∧ owner ≠ "java/lang/invoke/VarHandle") (eT : T.heap = h) (E : Exa Z h b C) {g : JFrame} (hg : g.method = m) (hsize : g.locals.size = c.maxLocals) (hlen : ∀ sig, parseMethodDescriptor y.desc = some sig → argsL.length = sig.parameters.length) (hstack : g.stack = argsL.reverse ++ .ref b :: rest) {W : Nat} (hW : 2 * g.monitorRoom + (rest.map fun v => v.category).sum ≤ W)
    (hd : decode c.code g.pc = .ok (.invokevirtual index, 3)) (hf : rm.frames + 1 ≤ R.frames) (hl : W + (maxL + 11) + rm.locals ≤ R.locals) (hc : cells + rm.cells ≤ R.cells) (hs : slots + rm.slots ≤ R.slots) :
    ∃ v T' L, Stand p l e R s m args below meth c T' (locs ++ L) (cells + rm.cells) (slots + rm.slots) ∧ Q' v T'.heap L ∧ ∀ target, Steps p.tables e below (T'.setTop { g with pc := g.pc + 3, stack := v.toList ++ rest }) target → Steps p.tables e below (T.setTop g) target := by
  obtain ⟨cq, kq, qa, qb, qc⟩ := isOf hZ eT E
  obtain ⟨v, _, ⟨T1, L1, k1, n1⟩, -, X1, ⟨Lc, hQ, l1, y1, z1⟩, st⟩ := X.virtualBackUp hx (x := y) (y := z) hown (mvT hZ w1) (mvT hZ w2) (mvT hZ w7) hy (mvT hZ w3) (mvT hZ w5) (backOf (W := W) hM hZ w4 w6 hf hl) qa qc hg hsize (Steps.refl _) hlen hstack hW hd (fun _ _ => ⟨rfl, eT, hc, hs⟩)
  dsimp only [Pt.U, Pt.locs, Pt.cells, Pt.slots] at X1 l1 y1 z1 st hQ
  subst l1 y1 z1
  exact ⟨v, T1, Lc, X1, hQ, fun _ k => st.trans k⟩
theorem own_callN (X : Stand p l e R s m args below meth c T locs cells slots) (hx : p.tables.exec = Jvm.exec) (hZ : Z.Warmed39 s.vm) {own : String} {index : Nat} {y : MethodName} {bytes : ByteArray} {maxL : Nat} {rm : Room} {b : Addr} {argsL rest : List Value} {Q' : Option Value → Heap → List Loc → Prop}
    (hM : own_Met l Z y bytes maxL none [] rm (.ref b :: argsL).toArray h Q') (hi : y.name = "<init>") (hown : s.vm.findClass own = some m.cls) (w1 : (Jvm.Cond.methodLink own index y).before a0 Z = true) (w2 : (Jvm.Cond.instanceMethod y).before a0 Z = true)
    (w3 : (Jvm.Cond.initialized y.cls).before a0 Z = true) (w4 : (Jvm.Cond.code y bytes maxL none).before a0 Z = true)
    (hy : y.cls ≠ "java/lang/invoke/MethodHandle" ∧ y.cls ≠ "java/lang/invoke/VarHandle") (eT : T.heap = h) {g : JFrame} (hg : g.method = m) (hsize : g.locals.size = c.maxLocals) (hlen : ∀ sig, parseMethodDescriptor y.desc = some sig → argsL.length = sig.parameters.length) (hstack : g.stack = argsL.reverse ++ .ref b :: rest) {W : Nat} (hW : 2 * g.monitorRoom + (rest.map fun v => v.category).sum ≤ W)
    (hd : decode c.code g.pc = .ok (.invokespecial index, 3)) (hf : rm.frames + 1 ≤ R.frames) (hl : W + (maxL + 11) + rm.locals ≤ R.locals) (hc : cells + rm.cells ≤ R.cells) (hs : slots + rm.slots ≤ R.slots) :
    ∃ v T' L, Stand p l e R s m args below meth c T' (locs ++ L) (cells + rm.cells) (slots + rm.slots) ∧ Q' v T'.heap L ∧ ∀ target, Steps p.tables e below (T'.setTop { g with pc := g.pc + 3, stack := v.toList ++ rest }) target → Steps p.tables e below (T.setTop g) target := by
  obtain ⟨v, _, ⟨T1, L1, k1, n1⟩, -, X1, ⟨Lc, hQ, l1, y1, z1⟩, st⟩ := X.specialBack hx (y := y) hi hown (mvT hZ w1) (mvT hZ w2) (mvT hZ w4) hy (backOf (W := W) hM hZ w4 w3 hf hl) hg hsize (Steps.refl _) hlen hstack hW hd (fun _ _ => ⟨rfl, eT, hc, hs⟩)
  dsimp only [Pt.U, Pt.locs, Pt.cells, Pt.slots] at X1 l1 y1 z1 st hQ
  subst l1 y1 z1
  exact ⟨v, T1, Lc, X1, hQ, fun _ k => st.trans k⟩
/-- a reference laid into an array that the walk has made -/
theorem own_put (X : Stand p l e R s m args below meth c T locs cells slots) (hx : p.tables.exec = Jvm.exec) (hZ : Z.Warmed39 s.vm) (eT : T.heap = h) {a : Addr} {k : ClassId} {C : String} {z : Int32} {vs : List Value} {dv : Value} (V : Arv Z h a k (.object C) z vs dv) (O : Ovr Z k C) {y : Addr} (I : Ins Z h y C true) {j : Int32} (hj : ¬ j < 0 ∧ j < z) (i : Nat) (hi : j.toNatClampNeg = i) (hl : i < vs.length)
    {g : JFrame} (hg : g.method = m) {rest : List Value} (hs : g.stack = .ref y :: .int j :: .ref a :: rest) (hd : decode c.code g.pc = .ok (.aastore, 1)) :
    ∃ T' h', Stand p l e R s m args below meth c T' (locs ++ [⟨a, j.toNatClampNeg⟩]) cells slots ∧ T'.heap = h' ∧ Wr h h' a j.toNatClampNeg (.ref y) ∧ Arv Z h' a k (.object C) z (vs.set i (.ref y)) dv ∧ ∀ target, Steps p.tables e below (T'.setTop { g with pc := g.pc + 1, stack := rest }) target → Steps p.tables e below (T.setTop g) target := by
  obtain ⟨cl, A, q1, S, q3, H, G⟩ := V
  obtain ⟨T', h', X', e', W, st⟩ := stR X hx hZ eT A (j := j) (inb_of S hj) rfl (Sto.ofV A q1 O I) hg hs hd
  exact ⟨T', h', X', e', W, Arv.set A q1 S q3 H G rfl W i hi hl, st⟩
theorem own_get (X : Stand p l e R s m args below meth c T locs cells slots) (hx : p.tables.exec = Jvm.exec) (hZ : Z.Warmed39 s.vm) (eT : T.heap = h) {a : Addr} {k : ClassId} {ty : FieldType} {z : Int32} {vs : List Value} {dv : Value} (V : Arv Z h a k ty z vs dv) (hty : ty.isReference = true) {j : Int32} (hj : ¬ j < 0 ∧ j < z) {v : Value} (hv : vs.getD j.toNatClampNeg dv = v)
    {g : JFrame} (hg : g.method = m) {rest : List Value} (hs : g.stack = .int j :: .ref a :: rest) (hd : decode c.code g.pc = .ok (.aaload, 1)) :
    ∀ target, Steps p.tables e below (T.setTop { g with pc := g.pc + 1, stack := v :: rest }) target → Steps p.tables e below (T.setTop g) target := by
  obtain ⟨cl, A, q1, S, q3, H, G⟩ := V
  intro target k
  exact X.aaload hx (by rw [eT]; exact A.1) (State.isArrayOf_alike hZ.alike A.2.1) hty A.2.2 (inb_of S hj) (H.at (inb_of S hj) hv) hg hs hd target k
/-- an array of references of a written length, made -/
theorem own_arr (X : Stand p l e R s m args below meth c T locs cells slots) (hx : p.tables.exec = Jvm.exec) (hZ : Z.Warmed39 s.vm) {own C : String} {index : Nat} (hown : s.vm.findClass own = some m.cls) (w1 : (Jvm.Cond.classLink own index C).before a0 Z = true) (w2 : (Jvm.Cond.arrayOver (.object C)).before a0 Z = true) (eT : T.heap = h)
    {g : JFrame} (hg : g.method = m) (hd : decode c.code g.pc = .ok (.anewarray index, 3)) {n : Int32} {rest : List Value} (hs : g.stack = .int n :: rest) (hn : ¬ n < 0) {cap : Nat} (hcap : n.toNatClampNeg ≤ cap) (hb : cap * 8 ≤ 536870912) (hc : cells + 1 ≤ R.cells) (hl : slots + cap ≤ R.slots) :
    ∃ T' h' k a, Stand p l e R s m args below meth c T' locs (cells + 1) (slots + cap) ∧ T'.heap = h' ∧ a = h.size ∧ Ext h h' ∧ Arv Z h' a k (.object C) n (List.replicate cap .null) .null ∧ Ovr Z k C ∧
      ∀ target, Steps p.tables e below (T'.setTop { g with pc := g.pc + 3, stack := .ref a :: rest }) target → Steps p.tables e below (T.setTop g) target := by
  obtain ⟨T', h', k, X', e', E, A, O, st⟩ := newR X hx hZ hown w1 w2 eT hg hd hs hn hcap hb hc hl
  exact ⟨T', h', k, _, X', e', rfl, E, (Arv.new A hn).pad (pad_rep [] .null cap), O, st⟩
theorem own_len (X : Stand p l e R s m args below meth c T locs cells slots) (hx : p.tables.exec = Jvm.exec) (hZ : Z.Warmed39 s.vm) (eT : T.heap = h) {a : Addr} {k : ClassId} {ty : FieldType} {z : Int32} {vs : List Value} {dv : Value} (V : Arv Z h a k ty z vs dv)
    {g : JFrame} (hg : g.method = m) {rest : List Value} (hs : g.stack = .ref a :: rest) (hd : decode c.code g.pc = .ok (.arraylength, 1)) :
    ∀ target, Steps p.tables e below (T.setTop { g with pc := g.pc + 1, stack := .int z :: rest }) target → Steps p.tables e below (T.setTop g) target := by
  obtain ⟨cl, A, q1, S, q3, H, G⟩ := V
  intro target k
  refine X.arraylength hx (by rw [eT]; exact A.1) (State.isArrayOf_alike hZ.alike A.2.1) hg hs hd _ ?_
  rw [len_of S q3]
  exact k
theorem own_osz {n0 : Nat} (O : Old Z n0 h) : n0 ≤ h.size := by have := O.2.1; rw [O.1] at this; exact this
theorem own_fldI {t : Term} {C n d : String} {k : Int32} {a : Addr} (ev : t.eval args Z none [] Z = some (.ref a)) (hh : (Jvm.Cond.eq (Term.field t C n d) (Term.int k)).value args Z none Z [] = some true) : Fld Z Z.heap a C n d (.int k) := by
  refine Fld.start ?_
  rw [← fld_at (t := t) (args := args) (first := Z) (o := none) (idx := []) ev]
  cases hq : (Term.field t C n d).eval args Z none [] Z with
  | none => simp [Cond.value, hq] at hh
  | some v =>
    simp only [Cond.value, hq, Term.int_eval] at hh
    cases v <;> simp at hh ⊢ <;> exact hh
theorem own_fldJ {t : Term} {C n d : String} {k : Int64} {a : Addr} (ev : t.eval args Z none [] Z = some (.ref a)) (hh : (Jvm.Cond.eq (Term.field t C n d) (Term.long k)).value args Z none Z [] = some true) : Fld Z Z.heap a C n d (.long k) := by
  refine Fld.start ?_
  rw [← fld_at (t := t) (args := args) (first := Z) (o := none) (idx := []) ev]
  cases hq : (Term.field t C n d).eval args Z none [] Z with
  | none => simp [Cond.value, hq] at hh
  | some v =>
    have hk : (Term.long k).eval args Z none [] Z = some (.long k) := rfl
    simp only [Cond.value, hq, hk] at hh
    cases v <;> simp at hh ⊢ <;> exact hh
theorem own_fldN {t : Term} {C n d : String} {a : Addr} (ev : t.eval args Z none [] Z = some (.ref a)) (hh : (Jvm.Cond.eq (Term.field t C n d) Term.null).value args Z none Z [] = some true) : Fld Z Z.heap a C n d .null := by
  refine Fld.start ?_
  rw [← fld_at (t := t) (args := args) (first := Z) (o := none) (idx := []) ev]
  exact null_v hh
theorem own_fldR {t u : Term} {C n d : String} {a b : Addr} (ev : t.eval args Z none [] Z = some (.ref a)) (eu : u.eval args Z none [] Z = some (.ref b)) (hh : (Jvm.Cond.eq (Term.field t C n d) u).value args Z none Z [] = some true) : Fld Z Z.heap a C n d (.ref b) := by
  refine Fld.start ?_
  rw [← fld_at (t := t) (args := args) (first := Z) (o := none) (idx := []) ev]
  cases hq : (Term.field t C n d).eval args Z none [] Z with
  | none => simp [Cond.value, hq] at hh
  | some v => cases v <;> simp [Cond.value, hq, eu] at hh ⊢ <;> exact hh
theorem own_fldX {t : Term} {C n d K : String} {a : Addr} (ev : t.eval args Z none [] Z = some (.ref a)) (hh : (Jvm.Cond.exactly (Term.field t C n d) K).value args Z none Z [] = some true) : ∃ b, Fld Z Z.heap a C n d (.ref b) ∧ Exa Z Z.heap b K := by
  obtain ⟨b, hb⟩ := exa_v hh
  refine ⟨b, Fld.start ?_, Exa.start hb hh⟩
  rw [← fld_at (t := t) (args := args) (first := Z) (o := none) (idx := []) ev]
  exact hb
theorem own_ne {h : Heap} {a b : Addr} {C n d : String} {i j : Int32} (F : Fld Z h a C n d (.int i)) (G : Fld Z h b C n d (.int j)) (q : i ≠ j) : a ≠ b := F.ne G fun r => q (Value.int.inj r)
end OwnKit
def own_S (Z : State) (c_Q c_LIMIT c_THRESHOLD c_MEASURE c_EVIDENCE c_WEIGHTS c_MODE c_CLOSURE c_ONE c_LIST c_FLAG : Addr) : Prop := (Sta Z Z.heap "com/example/ariadne/ariadne/Query$Parameter" "Q" "Lcom/example/ariadne/ariadne/Query$Parameter;" (.ref c_Q)) ∧
  (Exa Z Z.heap c_Q "com/example/ariadne/ariadne/Query$Parameter") ∧
  (Sta Z Z.heap "com/example/ariadne/ariadne/Query$Parameter" "LIMIT" "Lcom/example/ariadne/ariadne/Query$Parameter;" (.ref c_LIMIT)) ∧
  (Exa Z Z.heap c_LIMIT "com/example/ariadne/ariadne/Query$Parameter") ∧
  (Sta Z Z.heap "com/example/ariadne/ariadne/Query$Parameter" "THRESHOLD" "Lcom/example/ariadne/ariadne/Query$Parameter;" (.ref c_THRESHOLD)) ∧
  (Exa Z Z.heap c_THRESHOLD "com/example/ariadne/ariadne/Query$Parameter") ∧
  (Sta Z Z.heap "com/example/ariadne/ariadne/Query$Parameter" "MEASURE" "Lcom/example/ariadne/ariadne/Query$Parameter;" (.ref c_MEASURE)) ∧
  (Exa Z Z.heap c_MEASURE "com/example/ariadne/ariadne/Query$Parameter") ∧
  (Sta Z Z.heap "com/example/ariadne/ariadne/Query$Parameter" "EVIDENCE" "Lcom/example/ariadne/ariadne/Query$Parameter;" (.ref c_EVIDENCE)) ∧
  (Exa Z Z.heap c_EVIDENCE "com/example/ariadne/ariadne/Query$Parameter") ∧
  (Sta Z Z.heap "com/example/ariadne/ariadne/Query$Parameter" "WEIGHTS" "Lcom/example/ariadne/ariadne/Query$Parameter;" (.ref c_WEIGHTS)) ∧
  (Exa Z Z.heap c_WEIGHTS "com/example/ariadne/ariadne/Query$Parameter") ∧
  (Sta Z Z.heap "com/example/ariadne/ariadne/Query$Parameter" "MODE" "Lcom/example/ariadne/ariadne/Query$Parameter;" (.ref c_MODE)) ∧
  (Exa Z Z.heap c_MODE "com/example/ariadne/ariadne/Query$Parameter") ∧
  (Sta Z Z.heap "com/example/ariadne/ariadne/Query$Parameter" "CLOSURE" "Lcom/example/ariadne/ariadne/Query$Parameter;" (.ref c_CLOSURE)) ∧
  (Exa Z Z.heap c_CLOSURE "com/example/ariadne/ariadne/Query$Parameter") ∧
  (Sta Z Z.heap "com/example/ariadne/ariadne/Query$Parameter$Kind" "ONE" "Lcom/example/ariadne/ariadne/Query$Parameter$Kind;" (.ref c_ONE)) ∧
  (Exa Z Z.heap c_ONE "com/example/ariadne/ariadne/Query$Parameter$Kind") ∧
  (Fld Z Z.heap c_Q "com/example/ariadne/ariadne/Query$Parameter" "kind" "Lcom/example/ariadne/ariadne/Query$Parameter$Kind;" (.ref c_ONE)) ∧
  (Sta Z Z.heap "com/example/ariadne/ariadne/Query$Parameter$Kind" "LIST" "Lcom/example/ariadne/ariadne/Query$Parameter$Kind;" (.ref c_LIST)) ∧
  (Exa Z Z.heap c_LIST "com/example/ariadne/ariadne/Query$Parameter$Kind") ∧
  (Fld Z Z.heap c_ONE "java/lang/Enum" "ordinal" "I" (.int (0 : Int32))) ∧
  (Fld Z Z.heap c_LIST "java/lang/Enum" "ordinal" "I" (.int (1 : Int32))) ∧
  (Sta Z Z.heap "com/example/ariadne/ariadne/Query$Parameter$Kind" "FLAG" "Lcom/example/ariadne/ariadne/Query$Parameter$Kind;" (.ref c_FLAG)) ∧
  (Exa Z Z.heap c_FLAG "com/example/ariadne/ariadne/Query$Parameter$Kind") ∧
  (Fld Z Z.heap c_FLAG "java/lang/Enum" "ordinal" "I" (.int (2 : Int32))) ∧
  (Fld Z Z.heap c_MEASURE "com/example/ariadne/ariadne/Query$Parameter" "kind" "Lcom/example/ariadne/ariadne/Query$Parameter$Kind;" (.ref c_ONE)) ∧
  (Fld Z Z.heap c_MODE "com/example/ariadne/ariadne/Query$Parameter" "kind" "Lcom/example/ariadne/ariadne/Query$Parameter$Kind;" (.ref c_ONE)) ∧
  (Fld Z Z.heap c_CLOSURE "com/example/ariadne/ariadne/Query$Parameter" "kind" "Lcom/example/ariadne/ariadne/Query$Parameter$Kind;" (.ref c_FLAG)) ∧
  (Fld Z Z.heap c_THRESHOLD "com/example/ariadne/ariadne/Query$Parameter" "kind" "Lcom/example/ariadne/ariadne/Query$Parameter$Kind;" (.ref c_ONE)) ∧
  (Fld Z Z.heap c_LIMIT "com/example/ariadne/ariadne/Query$Parameter" "kind" "Lcom/example/ariadne/ariadne/Query$Parameter$Kind;" (.ref c_ONE)) ∧
  (Fld Z Z.heap c_EVIDENCE "com/example/ariadne/ariadne/Query$Parameter" "kind" "Lcom/example/ariadne/ariadne/Query$Parameter$Kind;" (.ref c_ONE)) ∧
  (Fld Z Z.heap c_WEIGHTS "com/example/ariadne/ariadne/Query$Parameter" "kind" "Lcom/example/ariadne/ariadne/Query$Parameter$Kind;" (.ref c_LIST))
theorem own_rem (k : Int32) : (k &&& (7 : Int32)) = (0 : Int32) ∨ (k &&& (7 : Int32)) = (1 : Int32) ∨ (k &&& (7 : Int32)) = (2 : Int32) ∨ (k &&& (7 : Int32)) = (3 : Int32) ∨ (k &&& (7 : Int32)) = (4 : Int32) ∨ (k &&& (7 : Int32)) = (5 : Int32) ∨ (k &&& (7 : Int32)) = (6 : Int32) ∨ (k &&& (7 : Int32)) = (7 : Int32) := by
  have h1 := c_and k 7 (by decide)
  have h0 : (7 : Int32).toInt = 7 := by decide
  rw [h0] at h1
  have h3 : (k &&& (7 : Int32)).toInt = 0 ∨ (k &&& (7 : Int32)).toInt = 1 ∨ (k &&& (7 : Int32)).toInt = 2 ∨ (k &&& (7 : Int32)).toInt = 3 ∨ (k &&& (7 : Int32)).toInt = 4 ∨ (k &&& (7 : Int32)).toInt = 5 ∨ (k &&& (7 : Int32)).toInt = 6 ∨ (k &&& (7 : Int32)).toInt = 7 := by omega
  rcases h3 with q | q | q | q | q | q | q | q
  · exact Or.inl (Int32.toInt_inj.mp (q.trans rfl))
  · exact Or.inr (Or.inl (Int32.toInt_inj.mp (q.trans rfl)))
  · exact Or.inr (Or.inr (Or.inl (Int32.toInt_inj.mp (q.trans rfl))))
  · exact Or.inr (Or.inr (Or.inr (Or.inl (Int32.toInt_inj.mp (q.trans rfl)))))
  · exact Or.inr (Or.inr (Or.inr (Or.inr (Or.inl (Int32.toInt_inj.mp (q.trans rfl))))))
  · exact Or.inr (Or.inr (Or.inr (Or.inr (Or.inr (Or.inl (Int32.toInt_inj.mp (q.trans rfl)))))))
  · exact Or.inr (Or.inr (Or.inr (Or.inr (Or.inr (Or.inr (Or.inl (Int32.toInt_inj.mp (q.trans rfl))))))))
  · exact Or.inr (Or.inr (Or.inr (Or.inr (Or.inr (Or.inr (Or.inr (Int32.toInt_inj.mp (q.trans rfl))))))))
theorem d1_0 : decode prog_15_method_6_code 0 = .ok (.aload_n 0, 1) := by decide +kernel
theorem d1_1 : decode prog_15_method_6_code 1 = .ok (.getfield 54, 3) := by decide +kernel
theorem d1_4 : decode prog_15_method_6_code 4 = .ok (.getstatic 58, 3) := by decide +kernel
theorem d1_7 : decode prog_15_method_6_code 7 = .ok (.if_acmp .ne 7, 3) := by decide +kernel
theorem d1_14 : decode prog_15_method_6_code 14 = .ok (.iconst 0, 1) := by decide +kernel
theorem d1_15 : decode prog_15_method_6_code 15 = .ok (.ireturn, 1) := by decide +kernel
theorem own_pn_1 : plainFor (⟨"com/example/ariadne/ariadne/Query$Parameter", "isList", "()Z"⟩ : MethodName) = true := plainFor_of_name (show plainName "com/example/ariadne/ariadne/Query$Parameter" = true by first | (simp [plainName, overriddenIn]; done) | decide +kernel)
theorem own_ef_rm1_0 (m : MethodId) (c_Q : Addr) : entryFrame m #[(.ref c_Q)] 1 = mkF m 0 #[.val (.ref c_Q)] [] := by first | (simp [entryFrame, mkF, argsToLocals, Value.category]; done) | rfl
set_option maxRecDepth 65536 in
set_option maxHeartbeats 40000000 in
theorem rm1_0 (l : Launch) (Z : State) (a0 : Array Value) (hw : ∀ d ∈ tables_1, d.before a0 Z = true) (c_Q c_LIMIT c_THRESHOLD c_MEASURE c_EVIDENCE c_WEIGHTS c_MODE c_CLOSURE c_ONE c_LIST c_FLAG : Addr) (h0 : Heap) (n0 : Nat) (O0 : Old Z n0 h0) (hS : own_S Z c_Q c_LIMIT c_THRESHOLD c_MEASURE c_EVIDENCE c_WEIGHTS c_MODE c_CLOSURE c_ONE c_LIST c_FLAG) :
    own_Met l Z (⟨"com/example/ariadne/ariadne/Query$Parameter", "isList", "()Z"⟩ : MethodName) prog_15_method_6_code 1 (some .boolean) [] ({ frames := 0, cells := 0, slots := 0, locals := 0 } : Room) #[(.ref c_Q)] h0 (fun v h L => v = some (.int (0 : Int32)) ∧ Fr n0 L ∧ h = h0) := by
  refine own_body own_pn_1 ?_
  intro p e s m below meth c s₁ hx hby hml hown hnm hret hlk X0 hZ e0
  replace hown : s.vm.findClass "com/example/ariadne/ariadne/Query$Parameter" = some m.cls := hown
  have N0 := Fr.nil n0
  have K0 := Keep.refl h0 []
  refine own_st (fun _ k => castTop (own_ef_rm1_0 m c_Q) k) ?_
  show own_go _ _ _ _ _ _ _ (s₁.setTop (mkF m 0 #[.val (.ref c_Q)] []))
  refine own_st (fun _ k => XS.aloadN X0.here hx rfl (hb hby d1_0) rfl rfl k) ?_
  show own_go _ _ _ _ _ _ _ (s₁.setTop (mkF m 1 #[.val (.ref c_Q)] [(.ref c_Q)]))
  obtain ⟨T1, X1, e1, st1⟩ := getF X0 hx hZ hown (host := "") (Or.inl (hw _ (List.mem_of_getElem? (i := 25) rfl))) Via.refl e0 (hS.2.2.2.2.2.2.2.2.2.2.2.2.2.2.2.2.2.2.1.ext O0.2) (g := (mkF m 1 #[.val (.ref c_Q)] [(.ref c_Q)])) rfl rfl (hb hby d1_1)
  refine own_st st1 ?_
  show own_go _ _ _ _ _ _ _ (T1.setTop (mkF m 4 #[.val (.ref c_Q)] [(.ref c_ONE)]))
  obtain ⟨T2, X2, e2, st2⟩ := getS2 X1 hx hZ hown (host := "") (Or.inl (hw _ (List.mem_of_getElem? (i := 29) rfl))) Via.refl e1 (hS.2.2.2.2.2.2.2.2.2.2.2.2.2.2.2.2.2.2.2.1.ext O0.2) (g := (mkF m 4 #[.val (.ref c_Q)] [(.ref c_ONE)])) rfl (hb hby d1_4)
  refine own_st st2 ?_
  show own_go _ _ _ _ _ _ _ (T2.setTop (mkF m 7 #[.val (.ref c_Q)] [(.ref c_LIST), (.ref c_ONE)]))
  refine own_st (fun _ k => Jvm.RoadKit.acmp (g := (mkF m 7 #[.val (.ref c_Q)] [(.ref c_LIST), (.ref c_ONE)])) X2 hx rfl rfl rfl (pc0 := 7) (pc' := 14) (same := false) rfl (hb hby d1_7) rfl (decide_eq_false fun q => (own_ne hS.2.2.2.2.2.2.2.2.2.2.2.2.2.2.2.2.2.2.2.2.2.1 hS.2.2.2.2.2.2.2.2.2.2.2.2.2.2.2.2.2.2.2.2.2.2.1 (by decide)) (Value.ref.inj q)) (by decide) (by decide) k) ?_
  show own_go _ _ _ _ _ _ _ (T2.setTop (mkF m 14 #[.val (.ref c_Q)] []))
  refine own_st (fun _ k => XS.iconst X2.here hx rfl (hb hby d1_14) k) ?_
  show own_go _ _ _ _ _ _ _ (T2.setTop (mkF m 15 #[.val (.ref c_Q)] [(.int (0 : Int32))]))
  exact own_retN X2 hx hlk (t := .boolean) hret (by simp) rfl (hb hby d1_15) (by decide) (by decide) (⟨rfl, N0, e2⟩)
theorem own_ef_rm1_1 (m : MethodId) (c_LIMIT : Addr) : entryFrame m #[(.ref c_LIMIT)] 1 = mkF m 0 #[.val (.ref c_LIMIT)] [] := by first | (simp [entryFrame, mkF, argsToLocals, Value.category]; done) | rfl
set_option maxRecDepth 65536 in
set_option maxHeartbeats 40000000 in
theorem rm1_1 (l : Launch) (Z : State) (a0 : Array Value) (hw : ∀ d ∈ tables_1, d.before a0 Z = true) (c_Q c_LIMIT c_THRESHOLD c_MEASURE c_EVIDENCE c_WEIGHTS c_MODE c_CLOSURE c_ONE c_LIST c_FLAG : Addr) (h0 : Heap) (n0 : Nat) (O0 : Old Z n0 h0) (hS : own_S Z c_Q c_LIMIT c_THRESHOLD c_MEASURE c_EVIDENCE c_WEIGHTS c_MODE c_CLOSURE c_ONE c_LIST c_FLAG) :
    own_Met l Z (⟨"com/example/ariadne/ariadne/Query$Parameter", "isList", "()Z"⟩ : MethodName) prog_15_method_6_code 1 (some .boolean) [] ({ frames := 0, cells := 0, slots := 0, locals := 0 } : Room) #[(.ref c_LIMIT)] h0 (fun v h L => v = some (.int (0 : Int32)) ∧ Fr n0 L ∧ h = h0) := by
  refine own_body own_pn_1 ?_
  intro p e s m below meth c s₁ hx hby hml hown hnm hret hlk X0 hZ e0
  replace hown : s.vm.findClass "com/example/ariadne/ariadne/Query$Parameter" = some m.cls := hown
  have N0 := Fr.nil n0
  have K0 := Keep.refl h0 []
  refine own_st (fun _ k => castTop (own_ef_rm1_1 m c_LIMIT) k) ?_
  show own_go _ _ _ _ _ _ _ (s₁.setTop (mkF m 0 #[.val (.ref c_LIMIT)] []))
  refine own_st (fun _ k => XS.aloadN X0.here hx rfl (hb hby d1_0) rfl rfl k) ?_
  show own_go _ _ _ _ _ _ _ (s₁.setTop (mkF m 1 #[.val (.ref c_LIMIT)] [(.ref c_LIMIT)]))
  obtain ⟨T3, X3, e3, st3⟩ := getF X0 hx hZ hown (host := "") (Or.inl (hw _ (List.mem_of_getElem? (i := 25) rfl))) Via.refl e0 (hS.2.2.2.2.2.2.2.2.2.2.2.2.2.2.2.2.2.2.2.2.2.2.2.2.2.2.2.2.2.2.1.ext O0.2) (g := (mkF m 1 #[.val (.ref c_LIMIT)] [(.ref c_LIMIT)])) rfl rfl (hb hby d1_1)
  refine own_st st3 ?_
  show own_go _ _ _ _ _ _ _ (T3.setTop (mkF m 4 #[.val (.ref c_LIMIT)] [(.ref c_ONE)]))
  obtain ⟨T4, X4, e4, st4⟩ := getS2 X3 hx hZ hown (host := "") (Or.inl (hw _ (List.mem_of_getElem? (i := 29) rfl))) Via.refl e3 (hS.2.2.2.2.2.2.2.2.2.2.2.2.2.2.2.2.2.2.2.1.ext O0.2) (g := (mkF m 4 #[.val (.ref c_LIMIT)] [(.ref c_ONE)])) rfl (hb hby d1_4)
  refine own_st st4 ?_
  show own_go _ _ _ _ _ _ _ (T4.setTop (mkF m 7 #[.val (.ref c_LIMIT)] [(.ref c_LIST), (.ref c_ONE)]))
  refine own_st (fun _ k => Jvm.RoadKit.acmp (g := (mkF m 7 #[.val (.ref c_LIMIT)] [(.ref c_LIST), (.ref c_ONE)])) X4 hx rfl rfl rfl (pc0 := 7) (pc' := 14) (same := false) rfl (hb hby d1_7) rfl (decide_eq_false fun q => (own_ne hS.2.2.2.2.2.2.2.2.2.2.2.2.2.2.2.2.2.2.2.2.2.1 hS.2.2.2.2.2.2.2.2.2.2.2.2.2.2.2.2.2.2.2.2.2.2.1 (by decide)) (Value.ref.inj q)) (by decide) (by decide) k) ?_
  show own_go _ _ _ _ _ _ _ (T4.setTop (mkF m 14 #[.val (.ref c_LIMIT)] []))
  refine own_st (fun _ k => XS.iconst X4.here hx rfl (hb hby d1_14) k) ?_
  show own_go _ _ _ _ _ _ _ (T4.setTop (mkF m 15 #[.val (.ref c_LIMIT)] [(.int (0 : Int32))]))
  exact own_retN X4 hx hlk (t := .boolean) hret (by simp) rfl (hb hby d1_15) (by decide) (by decide) (⟨rfl, N0, e4⟩)
theorem own_ef_rm1_2 (m : MethodId) (c_THRESHOLD : Addr) : entryFrame m #[(.ref c_THRESHOLD)] 1 = mkF m 0 #[.val (.ref c_THRESHOLD)] [] := by first | (simp [entryFrame, mkF, argsToLocals, Value.category]; done) | rfl
set_option maxRecDepth 65536 in
set_option maxHeartbeats 40000000 in
theorem rm1_2 (l : Launch) (Z : State) (a0 : Array Value) (hw : ∀ d ∈ tables_1, d.before a0 Z = true) (c_Q c_LIMIT c_THRESHOLD c_MEASURE c_EVIDENCE c_WEIGHTS c_MODE c_CLOSURE c_ONE c_LIST c_FLAG : Addr) (h0 : Heap) (n0 : Nat) (O0 : Old Z n0 h0) (hS : own_S Z c_Q c_LIMIT c_THRESHOLD c_MEASURE c_EVIDENCE c_WEIGHTS c_MODE c_CLOSURE c_ONE c_LIST c_FLAG) :
    own_Met l Z (⟨"com/example/ariadne/ariadne/Query$Parameter", "isList", "()Z"⟩ : MethodName) prog_15_method_6_code 1 (some .boolean) [] ({ frames := 0, cells := 0, slots := 0, locals := 0 } : Room) #[(.ref c_THRESHOLD)] h0 (fun v h L => v = some (.int (0 : Int32)) ∧ Fr n0 L ∧ h = h0) := by
  refine own_body own_pn_1 ?_
  intro p e s m below meth c s₁ hx hby hml hown hnm hret hlk X0 hZ e0
  replace hown : s.vm.findClass "com/example/ariadne/ariadne/Query$Parameter" = some m.cls := hown
  have N0 := Fr.nil n0
  have K0 := Keep.refl h0 []
  refine own_st (fun _ k => castTop (own_ef_rm1_2 m c_THRESHOLD) k) ?_
  show own_go _ _ _ _ _ _ _ (s₁.setTop (mkF m 0 #[.val (.ref c_THRESHOLD)] []))
  refine own_st (fun _ k => XS.aloadN X0.here hx rfl (hb hby d1_0) rfl rfl k) ?_
  show own_go _ _ _ _ _ _ _ (s₁.setTop (mkF m 1 #[.val (.ref c_THRESHOLD)] [(.ref c_THRESHOLD)]))
  obtain ⟨T5, X5, e5, st5⟩ := getF X0 hx hZ hown (host := "") (Or.inl (hw _ (List.mem_of_getElem? (i := 25) rfl))) Via.refl e0 (hS.2.2.2.2.2.2.2.2.2.2.2.2.2.2.2.2.2.2.2.2.2.2.2.2.2.2.2.2.2.1.ext O0.2) (g := (mkF m 1 #[.val (.ref c_THRESHOLD)] [(.ref c_THRESHOLD)])) rfl rfl (hb hby d1_1)
  refine own_st st5 ?_
  show own_go _ _ _ _ _ _ _ (T5.setTop (mkF m 4 #[.val (.ref c_THRESHOLD)] [(.ref c_ONE)]))
  obtain ⟨T6, X6, e6, st6⟩ := getS2 X5 hx hZ hown (host := "") (Or.inl (hw _ (List.mem_of_getElem? (i := 29) rfl))) Via.refl e5 (hS.2.2.2.2.2.2.2.2.2.2.2.2.2.2.2.2.2.2.2.1.ext O0.2) (g := (mkF m 4 #[.val (.ref c_THRESHOLD)] [(.ref c_ONE)])) rfl (hb hby d1_4)
  refine own_st st6 ?_
  show own_go _ _ _ _ _ _ _ (T6.setTop (mkF m 7 #[.val (.ref c_THRESHOLD)] [(.ref c_LIST), (.ref c_ONE)]))
  refine own_st (fun _ k => Jvm.RoadKit.acmp (g := (mkF m 7 #[.val (.ref c_THRESHOLD)] [(.ref c_LIST), (.ref c_ONE)])) X6 hx rfl rfl rfl (pc0 := 7) (pc' := 14) (same := false) rfl (hb hby d1_7) rfl (decide_eq_false fun q => (own_ne hS.2.2.2.2.2.2.2.2.2.2.2.2.2.2.2.2.2.2.2.2.2.1 hS.2.2.2.2.2.2.2.2.2.2.2.2.2.2.2.2.2.2.2.2.2.2.1 (by decide)) (Value.ref.inj q)) (by decide) (by decide) k) ?_
  show own_go _ _ _ _ _ _ _ (T6.setTop (mkF m 14 #[.val (.ref c_THRESHOLD)] []))
  refine own_st (fun _ k => XS.iconst X6.here hx rfl (hb hby d1_14) k) ?_
  show own_go _ _ _ _ _ _ _ (T6.setTop (mkF m 15 #[.val (.ref c_THRESHOLD)] [(.int (0 : Int32))]))
  exact own_retN X6 hx hlk (t := .boolean) hret (by simp) rfl (hb hby d1_15) (by decide) (by decide) (⟨rfl, N0, e6⟩)
theorem own_ef_rm1_3 (m : MethodId) (c_MEASURE : Addr) : entryFrame m #[(.ref c_MEASURE)] 1 = mkF m 0 #[.val (.ref c_MEASURE)] [] := by first | (simp [entryFrame, mkF, argsToLocals, Value.category]; done) | rfl
set_option maxRecDepth 65536 in
set_option maxHeartbeats 40000000 in
theorem rm1_3 (l : Launch) (Z : State) (a0 : Array Value) (hw : ∀ d ∈ tables_1, d.before a0 Z = true) (c_Q c_LIMIT c_THRESHOLD c_MEASURE c_EVIDENCE c_WEIGHTS c_MODE c_CLOSURE c_ONE c_LIST c_FLAG : Addr) (h0 : Heap) (n0 : Nat) (O0 : Old Z n0 h0) (hS : own_S Z c_Q c_LIMIT c_THRESHOLD c_MEASURE c_EVIDENCE c_WEIGHTS c_MODE c_CLOSURE c_ONE c_LIST c_FLAG) :
    own_Met l Z (⟨"com/example/ariadne/ariadne/Query$Parameter", "isList", "()Z"⟩ : MethodName) prog_15_method_6_code 1 (some .boolean) [] ({ frames := 0, cells := 0, slots := 0, locals := 0 } : Room) #[(.ref c_MEASURE)] h0 (fun v h L => v = some (.int (0 : Int32)) ∧ Fr n0 L ∧ h = h0) := by
  refine own_body own_pn_1 ?_
  intro p e s m below meth c s₁ hx hby hml hown hnm hret hlk X0 hZ e0
  replace hown : s.vm.findClass "com/example/ariadne/ariadne/Query$Parameter" = some m.cls := hown
  have N0 := Fr.nil n0
  have K0 := Keep.refl h0 []
  refine own_st (fun _ k => castTop (own_ef_rm1_3 m c_MEASURE) k) ?_
  show own_go _ _ _ _ _ _ _ (s₁.setTop (mkF m 0 #[.val (.ref c_MEASURE)] []))
  refine own_st (fun _ k => XS.aloadN X0.here hx rfl (hb hby d1_0) rfl rfl k) ?_
  show own_go _ _ _ _ _ _ _ (s₁.setTop (mkF m 1 #[.val (.ref c_MEASURE)] [(.ref c_MEASURE)]))
  obtain ⟨T7, X7, e7, st7⟩ := getF X0 hx hZ hown (host := "") (Or.inl (hw _ (List.mem_of_getElem? (i := 25) rfl))) Via.refl e0 (hS.2.2.2.2.2.2.2.2.2.2.2.2.2.2.2.2.2.2.2.2.2.2.2.2.2.2.1.ext O0.2) (g := (mkF m 1 #[.val (.ref c_MEASURE)] [(.ref c_MEASURE)])) rfl rfl (hb hby d1_1)
  refine own_st st7 ?_
  show own_go _ _ _ _ _ _ _ (T7.setTop (mkF m 4 #[.val (.ref c_MEASURE)] [(.ref c_ONE)]))
  obtain ⟨T8, X8, e8, st8⟩ := getS2 X7 hx hZ hown (host := "") (Or.inl (hw _ (List.mem_of_getElem? (i := 29) rfl))) Via.refl e7 (hS.2.2.2.2.2.2.2.2.2.2.2.2.2.2.2.2.2.2.2.1.ext O0.2) (g := (mkF m 4 #[.val (.ref c_MEASURE)] [(.ref c_ONE)])) rfl (hb hby d1_4)
  refine own_st st8 ?_
  show own_go _ _ _ _ _ _ _ (T8.setTop (mkF m 7 #[.val (.ref c_MEASURE)] [(.ref c_LIST), (.ref c_ONE)]))
  refine own_st (fun _ k => Jvm.RoadKit.acmp (g := (mkF m 7 #[.val (.ref c_MEASURE)] [(.ref c_LIST), (.ref c_ONE)])) X8 hx rfl rfl rfl (pc0 := 7) (pc' := 14) (same := false) rfl (hb hby d1_7) rfl (decide_eq_false fun q => (own_ne hS.2.2.2.2.2.2.2.2.2.2.2.2.2.2.2.2.2.2.2.2.2.1 hS.2.2.2.2.2.2.2.2.2.2.2.2.2.2.2.2.2.2.2.2.2.2.1 (by decide)) (Value.ref.inj q)) (by decide) (by decide) k) ?_
  show own_go _ _ _ _ _ _ _ (T8.setTop (mkF m 14 #[.val (.ref c_MEASURE)] []))
  refine own_st (fun _ k => XS.iconst X8.here hx rfl (hb hby d1_14) k) ?_
  show own_go _ _ _ _ _ _ _ (T8.setTop (mkF m 15 #[.val (.ref c_MEASURE)] [(.int (0 : Int32))]))
  exact own_retN X8 hx hlk (t := .boolean) hret (by simp) rfl (hb hby d1_15) (by decide) (by decide) (⟨rfl, N0, e8⟩)
theorem own_ef_rm1_4 (m : MethodId) (c_EVIDENCE : Addr) : entryFrame m #[(.ref c_EVIDENCE)] 1 = mkF m 0 #[.val (.ref c_EVIDENCE)] [] := by first | (simp [entryFrame, mkF, argsToLocals, Value.category]; done) | rfl
set_option maxRecDepth 65536 in
set_option maxHeartbeats 40000000 in
theorem rm1_4 (l : Launch) (Z : State) (a0 : Array Value) (hw : ∀ d ∈ tables_1, d.before a0 Z = true) (c_Q c_LIMIT c_THRESHOLD c_MEASURE c_EVIDENCE c_WEIGHTS c_MODE c_CLOSURE c_ONE c_LIST c_FLAG : Addr) (h0 : Heap) (n0 : Nat) (O0 : Old Z n0 h0) (hS : own_S Z c_Q c_LIMIT c_THRESHOLD c_MEASURE c_EVIDENCE c_WEIGHTS c_MODE c_CLOSURE c_ONE c_LIST c_FLAG) :
    own_Met l Z (⟨"com/example/ariadne/ariadne/Query$Parameter", "isList", "()Z"⟩ : MethodName) prog_15_method_6_code 1 (some .boolean) [] ({ frames := 0, cells := 0, slots := 0, locals := 0 } : Room) #[(.ref c_EVIDENCE)] h0 (fun v h L => v = some (.int (0 : Int32)) ∧ Fr n0 L ∧ h = h0) := by
  refine own_body own_pn_1 ?_
  intro p e s m below meth c s₁ hx hby hml hown hnm hret hlk X0 hZ e0
  replace hown : s.vm.findClass "com/example/ariadne/ariadne/Query$Parameter" = some m.cls := hown
  have N0 := Fr.nil n0
  have K0 := Keep.refl h0 []
  refine own_st (fun _ k => castTop (own_ef_rm1_4 m c_EVIDENCE) k) ?_
  show own_go _ _ _ _ _ _ _ (s₁.setTop (mkF m 0 #[.val (.ref c_EVIDENCE)] []))
  refine own_st (fun _ k => XS.aloadN X0.here hx rfl (hb hby d1_0) rfl rfl k) ?_
  show own_go _ _ _ _ _ _ _ (s₁.setTop (mkF m 1 #[.val (.ref c_EVIDENCE)] [(.ref c_EVIDENCE)]))
  obtain ⟨T9, X9, e9, st9⟩ := getF X0 hx hZ hown (host := "") (Or.inl (hw _ (List.mem_of_getElem? (i := 25) rfl))) Via.refl e0 (hS.2.2.2.2.2.2.2.2.2.2.2.2.2.2.2.2.2.2.2.2.2.2.2.2.2.2.2.2.2.2.2.1.ext O0.2) (g := (mkF m 1 #[.val (.ref c_EVIDENCE)] [(.ref c_EVIDENCE)])) rfl rfl (hb hby d1_1)
  refine own_st st9 ?_
  show own_go _ _ _ _ _ _ _ (T9.setTop (mkF m 4 #[.val (.ref c_EVIDENCE)] [(.ref c_ONE)]))
  obtain ⟨T10, X10, e10, st10⟩ := getS2 X9 hx hZ hown (host := "") (Or.inl (hw _ (List.mem_of_getElem? (i := 29) rfl))) Via.refl e9 (hS.2.2.2.2.2.2.2.2.2.2.2.2.2.2.2.2.2.2.2.1.ext O0.2) (g := (mkF m 4 #[.val (.ref c_EVIDENCE)] [(.ref c_ONE)])) rfl (hb hby d1_4)
  refine own_st st10 ?_
  show own_go _ _ _ _ _ _ _ (T10.setTop (mkF m 7 #[.val (.ref c_EVIDENCE)] [(.ref c_LIST), (.ref c_ONE)]))
  refine own_st (fun _ k => Jvm.RoadKit.acmp (g := (mkF m 7 #[.val (.ref c_EVIDENCE)] [(.ref c_LIST), (.ref c_ONE)])) X10 hx rfl rfl rfl (pc0 := 7) (pc' := 14) (same := false) rfl (hb hby d1_7) rfl (decide_eq_false fun q => (own_ne hS.2.2.2.2.2.2.2.2.2.2.2.2.2.2.2.2.2.2.2.2.2.1 hS.2.2.2.2.2.2.2.2.2.2.2.2.2.2.2.2.2.2.2.2.2.2.1 (by decide)) (Value.ref.inj q)) (by decide) (by decide) k) ?_
  show own_go _ _ _ _ _ _ _ (T10.setTop (mkF m 14 #[.val (.ref c_EVIDENCE)] []))
  refine own_st (fun _ k => XS.iconst X10.here hx rfl (hb hby d1_14) k) ?_
  show own_go _ _ _ _ _ _ _ (T10.setTop (mkF m 15 #[.val (.ref c_EVIDENCE)] [(.int (0 : Int32))]))
  exact own_retN X10 hx hlk (t := .boolean) hret (by simp) rfl (hb hby d1_15) (by decide) (by decide) (⟨rfl, N0, e10⟩)
theorem d1_10 : decode prog_15_method_6_code 10 = .ok (.iconst 1, 1) := by decide +kernel
theorem d1_11 : decode prog_15_method_6_code 11 = .ok (.goto 4, 3) := by decide +kernel
theorem own_ef_rm1_5 (m : MethodId) (c_WEIGHTS : Addr) : entryFrame m #[(.ref c_WEIGHTS)] 1 = mkF m 0 #[.val (.ref c_WEIGHTS)] [] := by first | (simp [entryFrame, mkF, argsToLocals, Value.category]; done) | rfl
set_option maxRecDepth 65536 in
set_option maxHeartbeats 40000000 in
theorem rm1_5 (l : Launch) (Z : State) (a0 : Array Value) (hw : ∀ d ∈ tables_1, d.before a0 Z = true) (c_Q c_LIMIT c_THRESHOLD c_MEASURE c_EVIDENCE c_WEIGHTS c_MODE c_CLOSURE c_ONE c_LIST c_FLAG : Addr) (h0 : Heap) (n0 : Nat) (O0 : Old Z n0 h0) (hS : own_S Z c_Q c_LIMIT c_THRESHOLD c_MEASURE c_EVIDENCE c_WEIGHTS c_MODE c_CLOSURE c_ONE c_LIST c_FLAG) :
    own_Met l Z (⟨"com/example/ariadne/ariadne/Query$Parameter", "isList", "()Z"⟩ : MethodName) prog_15_method_6_code 1 (some .boolean) [] ({ frames := 0, cells := 0, slots := 0, locals := 0 } : Room) #[(.ref c_WEIGHTS)] h0 (fun v h L => v = some (.int (1 : Int32)) ∧ Fr n0 L ∧ h = h0) := by
  refine own_body own_pn_1 ?_
  intro p e s m below meth c s₁ hx hby hml hown hnm hret hlk X0 hZ e0
  replace hown : s.vm.findClass "com/example/ariadne/ariadne/Query$Parameter" = some m.cls := hown
  have N0 := Fr.nil n0
  have K0 := Keep.refl h0 []
  refine own_st (fun _ k => castTop (own_ef_rm1_5 m c_WEIGHTS) k) ?_
  show own_go _ _ _ _ _ _ _ (s₁.setTop (mkF m 0 #[.val (.ref c_WEIGHTS)] []))
  refine own_st (fun _ k => XS.aloadN X0.here hx rfl (hb hby d1_0) rfl rfl k) ?_
  show own_go _ _ _ _ _ _ _ (s₁.setTop (mkF m 1 #[.val (.ref c_WEIGHTS)] [(.ref c_WEIGHTS)]))
  obtain ⟨T11, X11, e11, st11⟩ := getF X0 hx hZ hown (host := "") (Or.inl (hw _ (List.mem_of_getElem? (i := 25) rfl))) Via.refl e0 (hS.2.2.2.2.2.2.2.2.2.2.2.2.2.2.2.2.2.2.2.2.2.2.2.2.2.2.2.2.2.2.2.2.ext O0.2) (g := (mkF m 1 #[.val (.ref c_WEIGHTS)] [(.ref c_WEIGHTS)])) rfl rfl (hb hby d1_1)
  refine own_st st11 ?_
  show own_go _ _ _ _ _ _ _ (T11.setTop (mkF m 4 #[.val (.ref c_WEIGHTS)] [(.ref c_LIST)]))
  obtain ⟨T12, X12, e12, st12⟩ := getS2 X11 hx hZ hown (host := "") (Or.inl (hw _ (List.mem_of_getElem? (i := 29) rfl))) Via.refl e11 (hS.2.2.2.2.2.2.2.2.2.2.2.2.2.2.2.2.2.2.2.1.ext O0.2) (g := (mkF m 4 #[.val (.ref c_WEIGHTS)] [(.ref c_LIST)])) rfl (hb hby d1_4)
  refine own_st st12 ?_
  show own_go _ _ _ _ _ _ _ (T12.setTop (mkF m 7 #[.val (.ref c_WEIGHTS)] [(.ref c_LIST), (.ref c_LIST)]))
  refine own_st (fun _ k => Jvm.RoadKit.acmp (g := (mkF m 7 #[.val (.ref c_WEIGHTS)] [(.ref c_LIST), (.ref c_LIST)])) X12 hx rfl rfl rfl (pc0 := 7) (pc' := 10) (same := true) rfl (hb hby d1_7) rfl (decide_eq_true rfl) (by decide) (by decide) k) ?_
  show own_go _ _ _ _ _ _ _ (T12.setTop (mkF m 10 #[.val (.ref c_WEIGHTS)] []))
  refine own_st (fun _ k => XS.iconst X12.here hx rfl (hb hby d1_10) k) ?_
  show own_go _ _ _ _ _ _ _ (T12.setTop (mkF m 11 #[.val (.ref c_WEIGHTS)] [(.int (1 : Int32))]))
  refine own_st (fun _ k => XS.goto X12.here hx rfl (pc0 := 11) (pc' := 15) rfl (hb hby d1_11) (by decide) (by decide) k) ?_
  show own_go _ _ _ _ _ _ _ (T12.setTop (mkF m 15 #[.val (.ref c_WEIGHTS)] [(.int (1 : Int32))]))
  exact own_retN X12 hx hlk (t := .boolean) hret (by simp) rfl (hb hby d1_15) (by decide) (by decide) (⟨rfl, N0, e12⟩)
theorem own_ef_rm1_6 (m : MethodId) (c_MODE : Addr) : entryFrame m #[(.ref c_MODE)] 1 = mkF m 0 #[.val (.ref c_MODE)] [] := by first | (simp [entryFrame, mkF, argsToLocals, Value.category]; done) | rfl
set_option maxRecDepth 65536 in
set_option maxHeartbeats 40000000 in
theorem rm1_6 (l : Launch) (Z : State) (a0 : Array Value) (hw : ∀ d ∈ tables_1, d.before a0 Z = true) (c_Q c_LIMIT c_THRESHOLD c_MEASURE c_EVIDENCE c_WEIGHTS c_MODE c_CLOSURE c_ONE c_LIST c_FLAG : Addr) (h0 : Heap) (n0 : Nat) (O0 : Old Z n0 h0) (hS : own_S Z c_Q c_LIMIT c_THRESHOLD c_MEASURE c_EVIDENCE c_WEIGHTS c_MODE c_CLOSURE c_ONE c_LIST c_FLAG) :
    own_Met l Z (⟨"com/example/ariadne/ariadne/Query$Parameter", "isList", "()Z"⟩ : MethodName) prog_15_method_6_code 1 (some .boolean) [] ({ frames := 0, cells := 0, slots := 0, locals := 0 } : Room) #[(.ref c_MODE)] h0 (fun v h L => v = some (.int (0 : Int32)) ∧ Fr n0 L ∧ h = h0) := by
  refine own_body own_pn_1 ?_
  intro p e s m below meth c s₁ hx hby hml hown hnm hret hlk X0 hZ e0
  replace hown : s.vm.findClass "com/example/ariadne/ariadne/Query$Parameter" = some m.cls := hown
  have N0 := Fr.nil n0
  have K0 := Keep.refl h0 []
  refine own_st (fun _ k => castTop (own_ef_rm1_6 m c_MODE) k) ?_
  show own_go _ _ _ _ _ _ _ (s₁.setTop (mkF m 0 #[.val (.ref c_MODE)] []))
  refine own_st (fun _ k => XS.aloadN X0.here hx rfl (hb hby d1_0) rfl rfl k) ?_
  show own_go _ _ _ _ _ _ _ (s₁.setTop (mkF m 1 #[.val (.ref c_MODE)] [(.ref c_MODE)]))
  obtain ⟨T13, X13, e13, st13⟩ := getF X0 hx hZ hown (host := "") (Or.inl (hw _ (List.mem_of_getElem? (i := 25) rfl))) Via.refl e0 (hS.2.2.2.2.2.2.2.2.2.2.2.2.2.2.2.2.2.2.2.2.2.2.2.2.2.2.2.1.ext O0.2) (g := (mkF m 1 #[.val (.ref c_MODE)] [(.ref c_MODE)])) rfl rfl (hb hby d1_1)
  refine own_st st13 ?_
  show own_go _ _ _ _ _ _ _ (T13.setTop (mkF m 4 #[.val (.ref c_MODE)] [(.ref c_ONE)]))
  obtain ⟨T14, X14, e14, st14⟩ := getS2 X13 hx hZ hown (host := "") (Or.inl (hw _ (List.mem_of_getElem? (i := 29) rfl))) Via.refl e13 (hS.2.2.2.2.2.2.2.2.2.2.2.2.2.2.2.2.2.2.2.1.ext O0.2) (g := (mkF m 4 #[.val (.ref c_MODE)] [(.ref c_ONE)])) rfl (hb hby d1_4)
  refine own_st st14 ?_
  show own_go _ _ _ _ _ _ _ (T14.setTop (mkF m 7 #[.val (.ref c_MODE)] [(.ref c_LIST), (.ref c_ONE)]))
  refine own_st (fun _ k => Jvm.RoadKit.acmp (g := (mkF m 7 #[.val (.ref c_MODE)] [(.ref c_LIST), (.ref c_ONE)])) X14 hx rfl rfl rfl (pc0 := 7) (pc' := 14) (same := false) rfl (hb hby d1_7) rfl (decide_eq_false fun q => (own_ne hS.2.2.2.2.2.2.2.2.2.2.2.2.2.2.2.2.2.2.2.2.2.1 hS.2.2.2.2.2.2.2.2.2.2.2.2.2.2.2.2.2.2.2.2.2.2.1 (by decide)) (Value.ref.inj q)) (by decide) (by decide) k) ?_
  show own_go _ _ _ _ _ _ _ (T14.setTop (mkF m 14 #[.val (.ref c_MODE)] []))
  refine own_st (fun _ k => XS.iconst X14.here hx rfl (hb hby d1_14) k) ?_
  show own_go _ _ _ _ _ _ _ (T14.setTop (mkF m 15 #[.val (.ref c_MODE)] [(.int (0 : Int32))]))
  exact own_retN X14 hx hlk (t := .boolean) hret (by simp) rfl (hb hby d1_15) (by decide) (by decide) (⟨rfl, N0, e14⟩)
theorem own_ef_rm1_7 (m : MethodId) (c_CLOSURE : Addr) : entryFrame m #[(.ref c_CLOSURE)] 1 = mkF m 0 #[.val (.ref c_CLOSURE)] [] := by first | (simp [entryFrame, mkF, argsToLocals, Value.category]; done) | rfl
set_option maxRecDepth 65536 in
set_option maxHeartbeats 40000000 in
theorem rm1_7 (l : Launch) (Z : State) (a0 : Array Value) (hw : ∀ d ∈ tables_1, d.before a0 Z = true) (c_Q c_LIMIT c_THRESHOLD c_MEASURE c_EVIDENCE c_WEIGHTS c_MODE c_CLOSURE c_ONE c_LIST c_FLAG : Addr) (h0 : Heap) (n0 : Nat) (O0 : Old Z n0 h0) (hS : own_S Z c_Q c_LIMIT c_THRESHOLD c_MEASURE c_EVIDENCE c_WEIGHTS c_MODE c_CLOSURE c_ONE c_LIST c_FLAG) :
    own_Met l Z (⟨"com/example/ariadne/ariadne/Query$Parameter", "isList", "()Z"⟩ : MethodName) prog_15_method_6_code 1 (some .boolean) [] ({ frames := 0, cells := 0, slots := 0, locals := 0 } : Room) #[(.ref c_CLOSURE)] h0 (fun v h L => v = some (.int (0 : Int32)) ∧ Fr n0 L ∧ h = h0) := by
  refine own_body own_pn_1 ?_
  intro p e s m below meth c s₁ hx hby hml hown hnm hret hlk X0 hZ e0
  replace hown : s.vm.findClass "com/example/ariadne/ariadne/Query$Parameter" = some m.cls := hown
  have N0 := Fr.nil n0
  have K0 := Keep.refl h0 []
  refine own_st (fun _ k => castTop (own_ef_rm1_7 m c_CLOSURE) k) ?_
  show own_go _ _ _ _ _ _ _ (s₁.setTop (mkF m 0 #[.val (.ref c_CLOSURE)] []))
  refine own_st (fun _ k => XS.aloadN X0.here hx rfl (hb hby d1_0) rfl rfl k) ?_
  show own_go _ _ _ _ _ _ _ (s₁.setTop (mkF m 1 #[.val (.ref c_CLOSURE)] [(.ref c_CLOSURE)]))
  obtain ⟨T15, X15, e15, st15⟩ := getF X0 hx hZ hown (host := "") (Or.inl (hw _ (List.mem_of_getElem? (i := 25) rfl))) Via.refl e0 (hS.2.2.2.2.2.2.2.2.2.2.2.2.2.2.2.2.2.2.2.2.2.2.2.2.2.2.2.2.1.ext O0.2) (g := (mkF m 1 #[.val (.ref c_CLOSURE)] [(.ref c_CLOSURE)])) rfl rfl (hb hby d1_1)
  refine own_st st15 ?_
  show own_go _ _ _ _ _ _ _ (T15.setTop (mkF m 4 #[.val (.ref c_CLOSURE)] [(.ref c_FLAG)]))
  obtain ⟨T16, X16, e16, st16⟩ := getS2 X15 hx hZ hown (host := "") (Or.inl (hw _ (List.mem_of_getElem? (i := 29) rfl))) Via.refl e15 (hS.2.2.2.2.2.2.2.2.2.2.2.2.2.2.2.2.2.2.2.1.ext O0.2) (g := (mkF m 4 #[.val (.ref c_CLOSURE)] [(.ref c_FLAG)])) rfl (hb hby d1_4)
  refine own_st st16 ?_
  show own_go _ _ _ _ _ _ _ (T16.setTop (mkF m 7 #[.val (.ref c_CLOSURE)] [(.ref c_LIST), (.ref c_FLAG)]))
  refine own_st (fun _ k => Jvm.RoadKit.acmp (g := (mkF m 7 #[.val (.ref c_CLOSURE)] [(.ref c_LIST), (.ref c_FLAG)])) X16 hx rfl rfl rfl (pc0 := 7) (pc' := 14) (same := false) rfl (hb hby d1_7) rfl (decide_eq_false fun q => (own_ne hS.2.2.2.2.2.2.2.2.2.2.2.2.2.2.2.2.2.2.2.2.2.2.2.2.2.1 hS.2.2.2.2.2.2.2.2.2.2.2.2.2.2.2.2.2.2.2.2.2.2.1 (by decide)) (Value.ref.inj q)) (by decide) (by decide) k) ?_
  show own_go _ _ _ _ _ _ _ (T16.setTop (mkF m 14 #[.val (.ref c_CLOSURE)] []))
  refine own_st (fun _ k => XS.iconst X16.here hx rfl (hb hby d1_14) k) ?_
  show own_go _ _ _ _ _ _ _ (T16.setTop (mkF m 15 #[.val (.ref c_CLOSURE)] [(.int (0 : Int32))]))
  exact own_retN X16 hx hlk (t := .boolean) hret (by simp) rfl (hb hby d1_15) (by decide) (by decide) (⟨rfl, N0, e16⟩)
theorem d2_0 : decode prog_15_method_7_code 0 = .ok (.aload_n 0, 1) := by decide +kernel
theorem d2_1 : decode prog_15_method_7_code 1 = .ok (.getfield 54, 3) := by decide +kernel
theorem d2_4 : decode prog_15_method_7_code 4 = .ok (.getstatic 63, 3) := by decide +kernel
theorem d2_7 : decode prog_15_method_7_code 7 = .ok (.if_acmp .ne 7, 3) := by decide +kernel
theorem d2_14 : decode prog_15_method_7_code 14 = .ok (.iconst 0, 1) := by decide +kernel
theorem d2_15 : decode prog_15_method_7_code 15 = .ok (.ireturn, 1) := by decide +kernel
theorem own_pn_2 : plainFor (⟨"com/example/ariadne/ariadne/Query$Parameter", "isFlag", "()Z"⟩ : MethodName) = true := plainFor_of_name (show plainName "com/example/ariadne/ariadne/Query$Parameter" = true by first | (simp [plainName, overriddenIn]; done) | decide +kernel)
theorem own_ef_rm2_0 (m : MethodId) (c_Q : Addr) : entryFrame m #[(.ref c_Q)] 1 = mkF m 0 #[.val (.ref c_Q)] [] := by first | (simp [entryFrame, mkF, argsToLocals, Value.category]; done) | rfl
set_option maxRecDepth 65536 in
set_option maxHeartbeats 40000000 in
theorem rm2_0 (l : Launch) (Z : State) (a0 : Array Value) (hw : ∀ d ∈ tables_1, d.before a0 Z = true) (c_Q c_LIMIT c_THRESHOLD c_MEASURE c_EVIDENCE c_WEIGHTS c_MODE c_CLOSURE c_ONE c_LIST c_FLAG : Addr) (h0 : Heap) (n0 : Nat) (O0 : Old Z n0 h0) (hS : own_S Z c_Q c_LIMIT c_THRESHOLD c_MEASURE c_EVIDENCE c_WEIGHTS c_MODE c_CLOSURE c_ONE c_LIST c_FLAG) :
    own_Met l Z (⟨"com/example/ariadne/ariadne/Query$Parameter", "isFlag", "()Z"⟩ : MethodName) prog_15_method_7_code 1 (some .boolean) [] ({ frames := 0, cells := 0, slots := 0, locals := 0 } : Room) #[(.ref c_Q)] h0 (fun v h L => v = some (.int (0 : Int32)) ∧ Fr n0 L ∧ h = h0) := by
  refine own_body own_pn_2 ?_
  intro p e s m below meth c s₁ hx hby hml hown hnm hret hlk X0 hZ e0
  replace hown : s.vm.findClass "com/example/ariadne/ariadne/Query$Parameter" = some m.cls := hown
  have N0 := Fr.nil n0
  have K0 := Keep.refl h0 []
  refine own_st (fun _ k => castTop (own_ef_rm2_0 m c_Q) k) ?_
  show own_go _ _ _ _ _ _ _ (s₁.setTop (mkF m 0 #[.val (.ref c_Q)] []))
  refine own_st (fun _ k => XS.aloadN X0.here hx rfl (hb hby d2_0) rfl rfl k) ?_
  show own_go _ _ _ _ _ _ _ (s₁.setTop (mkF m 1 #[.val (.ref c_Q)] [(.ref c_Q)]))
  obtain ⟨T17, X17, e17, st17⟩ := getF X0 hx hZ hown (host := "") (Or.inl (hw _ (List.mem_of_getElem? (i := 25) rfl))) Via.refl e0 (hS.2.2.2.2.2.2.2.2.2.2.2.2.2.2.2.2.2.2.1.ext O0.2) (g := (mkF m 1 #[.val (.ref c_Q)] [(.ref c_Q)])) rfl rfl (hb hby d2_1)
  refine own_st st17 ?_
  show own_go _ _ _ _ _ _ _ (T17.setTop (mkF m 4 #[.val (.ref c_Q)] [(.ref c_ONE)]))
  obtain ⟨T18, X18, e18, st18⟩ := getS2 X17 hx hZ hown (host := "") (Or.inl (hw _ (List.mem_of_getElem? (i := 36) rfl))) Via.refl e17 (hS.2.2.2.2.2.2.2.2.2.2.2.2.2.2.2.2.2.2.2.2.2.2.2.1.ext O0.2) (g := (mkF m 4 #[.val (.ref c_Q)] [(.ref c_ONE)])) rfl (hb hby d2_4)
  refine own_st st18 ?_
  show own_go _ _ _ _ _ _ _ (T18.setTop (mkF m 7 #[.val (.ref c_Q)] [(.ref c_FLAG), (.ref c_ONE)]))
  refine own_st (fun _ k => Jvm.RoadKit.acmp (g := (mkF m 7 #[.val (.ref c_Q)] [(.ref c_FLAG), (.ref c_ONE)])) X18 hx rfl rfl rfl (pc0 := 7) (pc' := 14) (same := false) rfl (hb hby d2_7) rfl (decide_eq_false fun q => (own_ne hS.2.2.2.2.2.2.2.2.2.2.2.2.2.2.2.2.2.2.2.2.2.1 hS.2.2.2.2.2.2.2.2.2.2.2.2.2.2.2.2.2.2.2.2.2.2.2.2.2.1 (by decide)) (Value.ref.inj q)) (by decide) (by decide) k) ?_
  show own_go _ _ _ _ _ _ _ (T18.setTop (mkF m 14 #[.val (.ref c_Q)] []))
  refine own_st (fun _ k => XS.iconst X18.here hx rfl (hb hby d2_14) k) ?_
  show own_go _ _ _ _ _ _ _ (T18.setTop (mkF m 15 #[.val (.ref c_Q)] [(.int (0 : Int32))]))
  exact own_retN X18 hx hlk (t := .boolean) hret (by simp) rfl (hb hby d2_15) (by decide) (by decide) (⟨rfl, N0, e18⟩)
theorem own_ef_rm2_1 (m : MethodId) (c_LIMIT : Addr) : entryFrame m #[(.ref c_LIMIT)] 1 = mkF m 0 #[.val (.ref c_LIMIT)] [] := by first | (simp [entryFrame, mkF, argsToLocals, Value.category]; done) | rfl
set_option maxRecDepth 65536 in
set_option maxHeartbeats 40000000 in
theorem rm2_1 (l : Launch) (Z : State) (a0 : Array Value) (hw : ∀ d ∈ tables_1, d.before a0 Z = true) (c_Q c_LIMIT c_THRESHOLD c_MEASURE c_EVIDENCE c_WEIGHTS c_MODE c_CLOSURE c_ONE c_LIST c_FLAG : Addr) (h0 : Heap) (n0 : Nat) (O0 : Old Z n0 h0) (hS : own_S Z c_Q c_LIMIT c_THRESHOLD c_MEASURE c_EVIDENCE c_WEIGHTS c_MODE c_CLOSURE c_ONE c_LIST c_FLAG) :
    own_Met l Z (⟨"com/example/ariadne/ariadne/Query$Parameter", "isFlag", "()Z"⟩ : MethodName) prog_15_method_7_code 1 (some .boolean) [] ({ frames := 0, cells := 0, slots := 0, locals := 0 } : Room) #[(.ref c_LIMIT)] h0 (fun v h L => v = some (.int (0 : Int32)) ∧ Fr n0 L ∧ h = h0) := by
  refine own_body own_pn_2 ?_
  intro p e s m below meth c s₁ hx hby hml hown hnm hret hlk X0 hZ e0
  replace hown : s.vm.findClass "com/example/ariadne/ariadne/Query$Parameter" = some m.cls := hown
  have N0 := Fr.nil n0
  have K0 := Keep.refl h0 []
  refine own_st (fun _ k => castTop (own_ef_rm2_1 m c_LIMIT) k) ?_
  show own_go _ _ _ _ _ _ _ (s₁.setTop (mkF m 0 #[.val (.ref c_LIMIT)] []))
  refine own_st (fun _ k => XS.aloadN X0.here hx rfl (hb hby d2_0) rfl rfl k) ?_
  show own_go _ _ _ _ _ _ _ (s₁.setTop (mkF m 1 #[.val (.ref c_LIMIT)] [(.ref c_LIMIT)]))
  obtain ⟨T19, X19, e19, st19⟩ := getF X0 hx hZ hown (host := "") (Or.inl (hw _ (List.mem_of_getElem? (i := 25) rfl))) Via.refl e0 (hS.2.2.2.2.2.2.2.2.2.2.2.2.2.2.2.2.2.2.2.2.2.2.2.2.2.2.2.2.2.2.1.ext O0.2) (g := (mkF m 1 #[.val (.ref c_LIMIT)] [(.ref c_LIMIT)])) rfl rfl (hb hby d2_1)
  refine own_st st19 ?_
  show own_go _ _ _ _ _ _ _ (T19.setTop (mkF m 4 #[.val (.ref c_LIMIT)] [(.ref c_ONE)]))
  obtain ⟨T20, X20, e20, st20⟩ := getS2 X19 hx hZ hown (host := "") (Or.inl (hw _ (List.mem_of_getElem? (i := 36) rfl))) Via.refl e19 (hS.2.2.2.2.2.2.2.2.2.2.2.2.2.2.2.2.2.2.2.2.2.2.2.1.ext O0.2) (g := (mkF m 4 #[.val (.ref c_LIMIT)] [(.ref c_ONE)])) rfl (hb hby d2_4)
  refine own_st st20 ?_
  show own_go _ _ _ _ _ _ _ (T20.setTop (mkF m 7 #[.val (.ref c_LIMIT)] [(.ref c_FLAG), (.ref c_ONE)]))
  refine own_st (fun _ k => Jvm.RoadKit.acmp (g := (mkF m 7 #[.val (.ref c_LIMIT)] [(.ref c_FLAG), (.ref c_ONE)])) X20 hx rfl rfl rfl (pc0 := 7) (pc' := 14) (same := false) rfl (hb hby d2_7) rfl (decide_eq_false fun q => (own_ne hS.2.2.2.2.2.2.2.2.2.2.2.2.2.2.2.2.2.2.2.2.2.1 hS.2.2.2.2.2.2.2.2.2.2.2.2.2.2.2.2.2.2.2.2.2.2.2.2.2.1 (by decide)) (Value.ref.inj q)) (by decide) (by decide) k) ?_
  show own_go _ _ _ _ _ _ _ (T20.setTop (mkF m 14 #[.val (.ref c_LIMIT)] []))
  refine own_st (fun _ k => XS.iconst X20.here hx rfl (hb hby d2_14) k) ?_
  show own_go _ _ _ _ _ _ _ (T20.setTop (mkF m 15 #[.val (.ref c_LIMIT)] [(.int (0 : Int32))]))
  exact own_retN X20 hx hlk (t := .boolean) hret (by simp) rfl (hb hby d2_15) (by decide) (by decide) (⟨rfl, N0, e20⟩)
theorem own_ef_rm2_2 (m : MethodId) (c_THRESHOLD : Addr) : entryFrame m #[(.ref c_THRESHOLD)] 1 = mkF m 0 #[.val (.ref c_THRESHOLD)] [] := by first | (simp [entryFrame, mkF, argsToLocals, Value.category]; done) | rfl
set_option maxRecDepth 65536 in
set_option maxHeartbeats 40000000 in
theorem rm2_2 (l : Launch) (Z : State) (a0 : Array Value) (hw : ∀ d ∈ tables_1, d.before a0 Z = true) (c_Q c_LIMIT c_THRESHOLD c_MEASURE c_EVIDENCE c_WEIGHTS c_MODE c_CLOSURE c_ONE c_LIST c_FLAG : Addr) (h0 : Heap) (n0 : Nat) (O0 : Old Z n0 h0) (hS : own_S Z c_Q c_LIMIT c_THRESHOLD c_MEASURE c_EVIDENCE c_WEIGHTS c_MODE c_CLOSURE c_ONE c_LIST c_FLAG) :
    own_Met l Z (⟨"com/example/ariadne/ariadne/Query$Parameter", "isFlag", "()Z"⟩ : MethodName) prog_15_method_7_code 1 (some .boolean) [] ({ frames := 0, cells := 0, slots := 0, locals := 0 } : Room) #[(.ref c_THRESHOLD)] h0 (fun v h L => v = some (.int (0 : Int32)) ∧ Fr n0 L ∧ h = h0) := by
  refine own_body own_pn_2 ?_
  intro p e s m below meth c s₁ hx hby hml hown hnm hret hlk X0 hZ e0
  replace hown : s.vm.findClass "com/example/ariadne/ariadne/Query$Parameter" = some m.cls := hown
  have N0 := Fr.nil n0
  have K0 := Keep.refl h0 []
  refine own_st (fun _ k => castTop (own_ef_rm2_2 m c_THRESHOLD) k) ?_
  show own_go _ _ _ _ _ _ _ (s₁.setTop (mkF m 0 #[.val (.ref c_THRESHOLD)] []))
  refine own_st (fun _ k => XS.aloadN X0.here hx rfl (hb hby d2_0) rfl rfl k) ?_
  show own_go _ _ _ _ _ _ _ (s₁.setTop (mkF m 1 #[.val (.ref c_THRESHOLD)] [(.ref c_THRESHOLD)]))
  obtain ⟨T21, X21, e21, st21⟩ := getF X0 hx hZ hown (host := "") (Or.inl (hw _ (List.mem_of_getElem? (i := 25) rfl))) Via.refl e0 (hS.2.2.2.2.2.2.2.2.2.2.2.2.2.2.2.2.2.2.2.2.2.2.2.2.2.2.2.2.2.1.ext O0.2) (g := (mkF m 1 #[.val (.ref c_THRESHOLD)] [(.ref c_THRESHOLD)])) rfl rfl (hb hby d2_1)
  refine own_st st21 ?_
  show own_go _ _ _ _ _ _ _ (T21.setTop (mkF m 4 #[.val (.ref c_THRESHOLD)] [(.ref c_ONE)]))
  obtain ⟨T22, X22, e22, st22⟩ := getS2 X21 hx hZ hown (host := "") (Or.inl (hw _ (List.mem_of_getElem? (i := 36) rfl))) Via.refl e21 (hS.2.2.2.2.2.2.2.2.2.2.2.2.2.2.2.2.2.2.2.2.2.2.2.1.ext O0.2) (g := (mkF m 4 #[.val (.ref c_THRESHOLD)] [(.ref c_ONE)])) rfl (hb hby d2_4)
  refine own_st st22 ?_
  show own_go _ _ _ _ _ _ _ (T22.setTop (mkF m 7 #[.val (.ref c_THRESHOLD)] [(.ref c_FLAG), (.ref c_ONE)]))
  refine own_st (fun _ k => Jvm.RoadKit.acmp (g := (mkF m 7 #[.val (.ref c_THRESHOLD)] [(.ref c_FLAG), (.ref c_ONE)])) X22 hx rfl rfl rfl (pc0 := 7) (pc' := 14) (same := false) rfl (hb hby d2_7) rfl (decide_eq_false fun q => (own_ne hS.2.2.2.2.2.2.2.2.2.2.2.2.2.2.2.2.2.2.2.2.2.1 hS.2.2.2.2.2.2.2.2.2.2.2.2.2.2.2.2.2.2.2.2.2.2.2.2.2.1 (by decide)) (Value.ref.inj q)) (by decide) (by decide) k) ?_
  show own_go _ _ _ _ _ _ _ (T22.setTop (mkF m 14 #[.val (.ref c_THRESHOLD)] []))
  refine own_st (fun _ k => XS.iconst X22.here hx rfl (hb hby d2_14) k) ?_
  show own_go _ _ _ _ _ _ _ (T22.setTop (mkF m 15 #[.val (.ref c_THRESHOLD)] [(.int (0 : Int32))]))
  exact own_retN X22 hx hlk (t := .boolean) hret (by simp) rfl (hb hby d2_15) (by decide) (by decide) (⟨rfl, N0, e22⟩)
theorem own_ef_rm2_3 (m : MethodId) (c_MEASURE : Addr) : entryFrame m #[(.ref c_MEASURE)] 1 = mkF m 0 #[.val (.ref c_MEASURE)] [] := by first | (simp [entryFrame, mkF, argsToLocals, Value.category]; done) | rfl
set_option maxRecDepth 65536 in
set_option maxHeartbeats 40000000 in
theorem rm2_3 (l : Launch) (Z : State) (a0 : Array Value) (hw : ∀ d ∈ tables_1, d.before a0 Z = true) (c_Q c_LIMIT c_THRESHOLD c_MEASURE c_EVIDENCE c_WEIGHTS c_MODE c_CLOSURE c_ONE c_LIST c_FLAG : Addr) (h0 : Heap) (n0 : Nat) (O0 : Old Z n0 h0) (hS : own_S Z c_Q c_LIMIT c_THRESHOLD c_MEASURE c_EVIDENCE c_WEIGHTS c_MODE c_CLOSURE c_ONE c_LIST c_FLAG) :
    own_Met l Z (⟨"com/example/ariadne/ariadne/Query$Parameter", "isFlag", "()Z"⟩ : MethodName) prog_15_method_7_code 1 (some .boolean) [] ({ frames := 0, cells := 0, slots := 0, locals := 0 } : Room) #[(.ref c_MEASURE)] h0 (fun v h L => v = some (.int (0 : Int32)) ∧ Fr n0 L ∧ h = h0) := by
  refine own_body own_pn_2 ?_
  intro p e s m below meth c s₁ hx hby hml hown hnm hret hlk X0 hZ e0
  replace hown : s.vm.findClass "com/example/ariadne/ariadne/Query$Parameter" = some m.cls := hown
  have N0 := Fr.nil n0
  have K0 := Keep.refl h0 []
  refine own_st (fun _ k => castTop (own_ef_rm2_3 m c_MEASURE) k) ?_
  show own_go _ _ _ _ _ _ _ (s₁.setTop (mkF m 0 #[.val (.ref c_MEASURE)] []))
  refine own_st (fun _ k => XS.aloadN X0.here hx rfl (hb hby d2_0) rfl rfl k) ?_
  show own_go _ _ _ _ _ _ _ (s₁.setTop (mkF m 1 #[.val (.ref c_MEASURE)] [(.ref c_MEASURE)]))
  obtain ⟨T23, X23, e23, st23⟩ := getF X0 hx hZ hown (host := "") (Or.inl (hw _ (List.mem_of_getElem? (i := 25) rfl))) Via.refl e0 (hS.2.2.2.2.2.2.2.2.2.2.2.2.2.2.2.2.2.2.2.2.2.2.2.2.2.2.1.ext O0.2) (g := (mkF m 1 #[.val (.ref c_MEASURE)] [(.ref c_MEASURE)])) rfl rfl (hb hby d2_1)
  refine own_st st23 ?_
  show own_go _ _ _ _ _ _ _ (T23.setTop (mkF m 4 #[.val (.ref c_MEASURE)] [(.ref c_ONE)]))
  obtain ⟨T24, X24, e24, st24⟩ := getS2 X23 hx hZ hown (host := "") (Or.inl (hw _ (List.mem_of_getElem? (i := 36) rfl))) Via.refl e23 (hS.2.2.2.2.2.2.2.2.2.2.2.2.2.2.2.2.2.2.2.2.2.2.2.1.ext O0.2) (g := (mkF m 4 #[.val (.ref c_MEASURE)] [(.ref c_ONE)])) rfl (hb hby d2_4)
  refine own_st st24 ?_
  show own_go _ _ _ _ _ _ _ (T24.setTop (mkF m 7 #[.val (.ref c_MEASURE)] [(.ref c_FLAG), (.ref c_ONE)]))
  refine own_st (fun _ k => Jvm.RoadKit.acmp (g := (mkF m 7 #[.val (.ref c_MEASURE)] [(.ref c_FLAG), (.ref c_ONE)])) X24 hx rfl rfl rfl (pc0 := 7) (pc' := 14) (same := false) rfl (hb hby d2_7) rfl (decide_eq_false fun q => (own_ne hS.2.2.2.2.2.2.2.2.2.2.2.2.2.2.2.2.2.2.2.2.2.1 hS.2.2.2.2.2.2.2.2.2.2.2.2.2.2.2.2.2.2.2.2.2.2.2.2.2.1 (by decide)) (Value.ref.inj q)) (by decide) (by decide) k) ?_
  show own_go _ _ _ _ _ _ _ (T24.setTop (mkF m 14 #[.val (.ref c_MEASURE)] []))
  refine own_st (fun _ k => XS.iconst X24.here hx rfl (hb hby d2_14) k) ?_
  show own_go _ _ _ _ _ _ _ (T24.setTop (mkF m 15 #[.val (.ref c_MEASURE)] [(.int (0 : Int32))]))
  exact own_retN X24 hx hlk (t := .boolean) hret (by simp) rfl (hb hby d2_15) (by decide) (by decide) (⟨rfl, N0, e24⟩)
theorem own_ef_rm2_4 (m : MethodId) (c_EVIDENCE : Addr) : entryFrame m #[(.ref c_EVIDENCE)] 1 = mkF m 0 #[.val (.ref c_EVIDENCE)] [] := by first | (simp [entryFrame, mkF, argsToLocals, Value.category]; done) | rfl
set_option maxRecDepth 65536 in
set_option maxHeartbeats 40000000 in
theorem rm2_4 (l : Launch) (Z : State) (a0 : Array Value) (hw : ∀ d ∈ tables_1, d.before a0 Z = true) (c_Q c_LIMIT c_THRESHOLD c_MEASURE c_EVIDENCE c_WEIGHTS c_MODE c_CLOSURE c_ONE c_LIST c_FLAG : Addr) (h0 : Heap) (n0 : Nat) (O0 : Old Z n0 h0) (hS : own_S Z c_Q c_LIMIT c_THRESHOLD c_MEASURE c_EVIDENCE c_WEIGHTS c_MODE c_CLOSURE c_ONE c_LIST c_FLAG) :
    own_Met l Z (⟨"com/example/ariadne/ariadne/Query$Parameter", "isFlag", "()Z"⟩ : MethodName) prog_15_method_7_code 1 (some .boolean) [] ({ frames := 0, cells := 0, slots := 0, locals := 0 } : Room) #[(.ref c_EVIDENCE)] h0 (fun v h L => v = some (.int (0 : Int32)) ∧ Fr n0 L ∧ h = h0) := by
  refine own_body own_pn_2 ?_
  intro p e s m below meth c s₁ hx hby hml hown hnm hret hlk X0 hZ e0
  replace hown : s.vm.findClass "com/example/ariadne/ariadne/Query$Parameter" = some m.cls := hown
  have N0 := Fr.nil n0
  have K0 := Keep.refl h0 []
  refine own_st (fun _ k => castTop (own_ef_rm2_4 m c_EVIDENCE) k) ?_
  show own_go _ _ _ _ _ _ _ (s₁.setTop (mkF m 0 #[.val (.ref c_EVIDENCE)] []))
  refine own_st (fun _ k => XS.aloadN X0.here hx rfl (hb hby d2_0) rfl rfl k) ?_
  show own_go _ _ _ _ _ _ _ (s₁.setTop (mkF m 1 #[.val (.ref c_EVIDENCE)] [(.ref c_EVIDENCE)]))
  obtain ⟨T25, X25, e25, st25⟩ := getF X0 hx hZ hown (host := "") (Or.inl (hw _ (List.mem_of_getElem? (i := 25) rfl))) Via.refl e0 (hS.2.2.2.2.2.2.2.2.2.2.2.2.2.2.2.2.2.2.2.2.2.2.2.2.2.2.2.2.2.2.2.1.ext O0.2) (g := (mkF m 1 #[.val (.ref c_EVIDENCE)] [(.ref c_EVIDENCE)])) rfl rfl (hb hby d2_1)
  refine own_st st25 ?_
  show own_go _ _ _ _ _ _ _ (T25.setTop (mkF m 4 #[.val (.ref c_EVIDENCE)] [(.ref c_ONE)]))
  obtain ⟨T26, X26, e26, st26⟩ := getS2 X25 hx hZ hown (host := "") (Or.inl (hw _ (List.mem_of_getElem? (i := 36) rfl))) Via.refl e25 (hS.2.2.2.2.2.2.2.2.2.2.2.2.2.2.2.2.2.2.2.2.2.2.2.1.ext O0.2) (g := (mkF m 4 #[.val (.ref c_EVIDENCE)] [(.ref c_ONE)])) rfl (hb hby d2_4)
  refine own_st st26 ?_
  show own_go _ _ _ _ _ _ _ (T26.setTop (mkF m 7 #[.val (.ref c_EVIDENCE)] [(.ref c_FLAG), (.ref c_ONE)]))
  refine own_st (fun _ k => Jvm.RoadKit.acmp (g := (mkF m 7 #[.val (.ref c_EVIDENCE)] [(.ref c_FLAG), (.ref c_ONE)])) X26 hx rfl rfl rfl (pc0 := 7) (pc' := 14) (same := false) rfl (hb hby d2_7) rfl (decide_eq_false fun q => (own_ne hS.2.2.2.2.2.2.2.2.2.2.2.2.2.2.2.2.2.2.2.2.2.1 hS.2.2.2.2.2.2.2.2.2.2.2.2.2.2.2.2.2.2.2.2.2.2.2.2.2.1 (by decide)) (Value.ref.inj q)) (by decide) (by decide) k) ?_
  show own_go _ _ _ _ _ _ _ (T26.setTop (mkF m 14 #[.val (.ref c_EVIDENCE)] []))
  refine own_st (fun _ k => XS.iconst X26.here hx rfl (hb hby d2_14) k) ?_
  show own_go _ _ _ _ _ _ _ (T26.setTop (mkF m 15 #[.val (.ref c_EVIDENCE)] [(.int (0 : Int32))]))
  exact own_retN X26 hx hlk (t := .boolean) hret (by simp) rfl (hb hby d2_15) (by decide) (by decide) (⟨rfl, N0, e26⟩)
theorem own_ef_rm2_5 (m : MethodId) (c_WEIGHTS : Addr) : entryFrame m #[(.ref c_WEIGHTS)] 1 = mkF m 0 #[.val (.ref c_WEIGHTS)] [] := by first | (simp [entryFrame, mkF, argsToLocals, Value.category]; done) | rfl
set_option maxRecDepth 65536 in
set_option maxHeartbeats 40000000 in
theorem rm2_5 (l : Launch) (Z : State) (a0 : Array Value) (hw : ∀ d ∈ tables_1, d.before a0 Z = true) (c_Q c_LIMIT c_THRESHOLD c_MEASURE c_EVIDENCE c_WEIGHTS c_MODE c_CLOSURE c_ONE c_LIST c_FLAG : Addr) (h0 : Heap) (n0 : Nat) (O0 : Old Z n0 h0) (hS : own_S Z c_Q c_LIMIT c_THRESHOLD c_MEASURE c_EVIDENCE c_WEIGHTS c_MODE c_CLOSURE c_ONE c_LIST c_FLAG) :
    own_Met l Z (⟨"com/example/ariadne/ariadne/Query$Parameter", "isFlag", "()Z"⟩ : MethodName) prog_15_method_7_code 1 (some .boolean) [] ({ frames := 0, cells := 0, slots := 0, locals := 0 } : Room) #[(.ref c_WEIGHTS)] h0 (fun v h L => v = some (.int (0 : Int32)) ∧ Fr n0 L ∧ h = h0) := by
  refine own_body own_pn_2 ?_
  intro p e s m below meth c s₁ hx hby hml hown hnm hret hlk X0 hZ e0
  replace hown : s.vm.findClass "com/example/ariadne/ariadne/Query$Parameter" = some m.cls := hown
  have N0 := Fr.nil n0
  have K0 := Keep.refl h0 []
  refine own_st (fun _ k => castTop (own_ef_rm2_5 m c_WEIGHTS) k) ?_
  show own_go _ _ _ _ _ _ _ (s₁.setTop (mkF m 0 #[.val (.ref c_WEIGHTS)] []))
  refine own_st (fun _ k => XS.aloadN X0.here hx rfl (hb hby d2_0) rfl rfl k) ?_
  show own_go _ _ _ _ _ _ _ (s₁.setTop (mkF m 1 #[.val (.ref c_WEIGHTS)] [(.ref c_WEIGHTS)]))
  obtain ⟨T27, X27, e27, st27⟩ := getF X0 hx hZ hown (host := "") (Or.inl (hw _ (List.mem_of_getElem? (i := 25) rfl))) Via.refl e0 (hS.2.2.2.2.2.2.2.2.2.2.2.2.2.2.2.2.2.2.2.2.2.2.2.2.2.2.2.2.2.2.2.2.ext O0.2) (g := (mkF m 1 #[.val (.ref c_WEIGHTS)] [(.ref c_WEIGHTS)])) rfl rfl (hb hby d2_1)
  refine own_st st27 ?_
  show own_go _ _ _ _ _ _ _ (T27.setTop (mkF m 4 #[.val (.ref c_WEIGHTS)] [(.ref c_LIST)]))
  obtain ⟨T28, X28, e28, st28⟩ := getS2 X27 hx hZ hown (host := "") (Or.inl (hw _ (List.mem_of_getElem? (i := 36) rfl))) Via.refl e27 (hS.2.2.2.2.2.2.2.2.2.2.2.2.2.2.2.2.2.2.2.2.2.2.2.1.ext O0.2) (g := (mkF m 4 #[.val (.ref c_WEIGHTS)] [(.ref c_LIST)])) rfl (hb hby d2_4)
  refine own_st st28 ?_
  show own_go _ _ _ _ _ _ _ (T28.setTop (mkF m 7 #[.val (.ref c_WEIGHTS)] [(.ref c_FLAG), (.ref c_LIST)]))
  refine own_st (fun _ k => Jvm.RoadKit.acmp (g := (mkF m 7 #[.val (.ref c_WEIGHTS)] [(.ref c_FLAG), (.ref c_LIST)])) X28 hx rfl rfl rfl (pc0 := 7) (pc' := 14) (same := false) rfl (hb hby d2_7) rfl (decide_eq_false fun q => (own_ne hS.2.2.2.2.2.2.2.2.2.2.2.2.2.2.2.2.2.2.2.2.2.2.1 hS.2.2.2.2.2.2.2.2.2.2.2.2.2.2.2.2.2.2.2.2.2.2.2.2.2.1 (by decide)) (Value.ref.inj q)) (by decide) (by decide) k) ?_
  show own_go _ _ _ _ _ _ _ (T28.setTop (mkF m 14 #[.val (.ref c_WEIGHTS)] []))
  refine own_st (fun _ k => XS.iconst X28.here hx rfl (hb hby d2_14) k) ?_
  show own_go _ _ _ _ _ _ _ (T28.setTop (mkF m 15 #[.val (.ref c_WEIGHTS)] [(.int (0 : Int32))]))
  exact own_retN X28 hx hlk (t := .boolean) hret (by simp) rfl (hb hby d2_15) (by decide) (by decide) (⟨rfl, N0, e28⟩)
theorem own_ef_rm2_6 (m : MethodId) (c_MODE : Addr) : entryFrame m #[(.ref c_MODE)] 1 = mkF m 0 #[.val (.ref c_MODE)] [] := by first | (simp [entryFrame, mkF, argsToLocals, Value.category]; done) | rfl
set_option maxRecDepth 65536 in
set_option maxHeartbeats 40000000 in
theorem rm2_6 (l : Launch) (Z : State) (a0 : Array Value) (hw : ∀ d ∈ tables_1, d.before a0 Z = true) (c_Q c_LIMIT c_THRESHOLD c_MEASURE c_EVIDENCE c_WEIGHTS c_MODE c_CLOSURE c_ONE c_LIST c_FLAG : Addr) (h0 : Heap) (n0 : Nat) (O0 : Old Z n0 h0) (hS : own_S Z c_Q c_LIMIT c_THRESHOLD c_MEASURE c_EVIDENCE c_WEIGHTS c_MODE c_CLOSURE c_ONE c_LIST c_FLAG) :
    own_Met l Z (⟨"com/example/ariadne/ariadne/Query$Parameter", "isFlag", "()Z"⟩ : MethodName) prog_15_method_7_code 1 (some .boolean) [] ({ frames := 0, cells := 0, slots := 0, locals := 0 } : Room) #[(.ref c_MODE)] h0 (fun v h L => v = some (.int (0 : Int32)) ∧ Fr n0 L ∧ h = h0) := by
  refine own_body own_pn_2 ?_
  intro p e s m below meth c s₁ hx hby hml hown hnm hret hlk X0 hZ e0
  replace hown : s.vm.findClass "com/example/ariadne/ariadne/Query$Parameter" = some m.cls := hown
  have N0 := Fr.nil n0
  have K0 := Keep.refl h0 []
  refine own_st (fun _ k => castTop (own_ef_rm2_6 m c_MODE) k) ?_
  show own_go _ _ _ _ _ _ _ (s₁.setTop (mkF m 0 #[.val (.ref c_MODE)] []))
  refine own_st (fun _ k => XS.aloadN X0.here hx rfl (hb hby d2_0) rfl rfl k) ?_
  show own_go _ _ _ _ _ _ _ (s₁.setTop (mkF m 1 #[.val (.ref c_MODE)] [(.ref c_MODE)]))
  obtain ⟨T29, X29, e29, st29⟩ := getF X0 hx hZ hown (host := "") (Or.inl (hw _ (List.mem_of_getElem? (i := 25) rfl))) Via.refl e0 (hS.2.2.2.2.2.2.2.2.2.2.2.2.2.2.2.2.2.2.2.2.2.2.2.2.2.2.2.1.ext O0.2) (g := (mkF m 1 #[.val (.ref c_MODE)] [(.ref c_MODE)])) rfl rfl (hb hby d2_1)
  refine own_st st29 ?_
  show own_go _ _ _ _ _ _ _ (T29.setTop (mkF m 4 #[.val (.ref c_MODE)] [(.ref c_ONE)]))
  obtain ⟨T30, X30, e30, st30⟩ := getS2 X29 hx hZ hown (host := "") (Or.inl (hw _ (List.mem_of_getElem? (i := 36) rfl))) Via.refl e29 (hS.2.2.2.2.2.2.2.2.2.2.2.2.2.2.2.2.2.2.2.2.2.2.2.1.ext O0.2) (g := (mkF m 4 #[.val (.ref c_MODE)] [(.ref c_ONE)])) rfl (hb hby d2_4)
  refine own_st st30 ?_
  show own_go _ _ _ _ _ _ _ (T30.setTop (mkF m 7 #[.val (.ref c_MODE)] [(.ref c_FLAG), (.ref c_ONE)]))
  refine own_st (fun _ k => Jvm.RoadKit.acmp (g := (mkF m 7 #[.val (.ref c_MODE)] [(.ref c_FLAG), (.ref c_ONE)])) X30 hx rfl rfl rfl (pc0 := 7) (pc' := 14) (same := false) rfl (hb hby d2_7) rfl (decide_eq_false fun q => (own_ne hS.2.2.2.2.2.2.2.2.2.2.2.2.2.2.2.2.2.2.2.2.2.1 hS.2.2.2.2.2.2.2.2.2.2.2.2.2.2.2.2.2.2.2.2.2.2.2.2.2.1 (by decide)) (Value.ref.inj q)) (by decide) (by decide) k) ?_
  show own_go _ _ _ _ _ _ _ (T30.setTop (mkF m 14 #[.val (.ref c_MODE)] []))
  refine own_st (fun _ k => XS.iconst X30.here hx rfl (hb hby d2_14) k) ?_
  show own_go _ _ _ _ _ _ _ (T30.setTop (mkF m 15 #[.val (.ref c_MODE)] [(.int (0 : Int32))]))
  exact own_retN X30 hx hlk (t := .boolean) hret (by simp) rfl (hb hby d2_15) (by decide) (by decide) (⟨rfl, N0, e30⟩)
theorem d2_10 : decode prog_15_method_7_code 10 = .ok (.iconst 1, 1) := by decide +kernel
theorem d2_11 : decode prog_15_method_7_code 11 = .ok (.goto 4, 3) := by decide +kernel
theorem own_ef_rm2_7 (m : MethodId) (c_CLOSURE : Addr) : entryFrame m #[(.ref c_CLOSURE)] 1 = mkF m 0 #[.val (.ref c_CLOSURE)] [] := by first | (simp [entryFrame, mkF, argsToLocals, Value.category]; done) | rfl
set_option maxRecDepth 65536 in
set_option maxHeartbeats 40000000 in
theorem rm2_7 (l : Launch) (Z : State) (a0 : Array Value) (hw : ∀ d ∈ tables_1, d.before a0 Z = true) (c_Q c_LIMIT c_THRESHOLD c_MEASURE c_EVIDENCE c_WEIGHTS c_MODE c_CLOSURE c_ONE c_LIST c_FLAG : Addr) (h0 : Heap) (n0 : Nat) (O0 : Old Z n0 h0) (hS : own_S Z c_Q c_LIMIT c_THRESHOLD c_MEASURE c_EVIDENCE c_WEIGHTS c_MODE c_CLOSURE c_ONE c_LIST c_FLAG) :
    own_Met l Z (⟨"com/example/ariadne/ariadne/Query$Parameter", "isFlag", "()Z"⟩ : MethodName) prog_15_method_7_code 1 (some .boolean) [] ({ frames := 0, cells := 0, slots := 0, locals := 0 } : Room) #[(.ref c_CLOSURE)] h0 (fun v h L => v = some (.int (1 : Int32)) ∧ Fr n0 L ∧ h = h0) := by
  refine own_body own_pn_2 ?_
  intro p e s m below meth c s₁ hx hby hml hown hnm hret hlk X0 hZ e0
  replace hown : s.vm.findClass "com/example/ariadne/ariadne/Query$Parameter" = some m.cls := hown
  have N0 := Fr.nil n0
  have K0 := Keep.refl h0 []
  refine own_st (fun _ k => castTop (own_ef_rm2_7 m c_CLOSURE) k) ?_
  show own_go _ _ _ _ _ _ _ (s₁.setTop (mkF m 0 #[.val (.ref c_CLOSURE)] []))
  refine own_st (fun _ k => XS.aloadN X0.here hx rfl (hb hby d2_0) rfl rfl k) ?_
  show own_go _ _ _ _ _ _ _ (s₁.setTop (mkF m 1 #[.val (.ref c_CLOSURE)] [(.ref c_CLOSURE)]))
  obtain ⟨T31, X31, e31, st31⟩ := getF X0 hx hZ hown (host := "") (Or.inl (hw _ (List.mem_of_getElem? (i := 25) rfl))) Via.refl e0 (hS.2.2.2.2.2.2.2.2.2.2.2.2.2.2.2.2.2.2.2.2.2.2.2.2.2.2.2.2.1.ext O0.2) (g := (mkF m 1 #[.val (.ref c_CLOSURE)] [(.ref c_CLOSURE)])) rfl rfl (hb hby d2_1)
  refine own_st st31 ?_
  show own_go _ _ _ _ _ _ _ (T31.setTop (mkF m 4 #[.val (.ref c_CLOSURE)] [(.ref c_FLAG)]))
  obtain ⟨T32, X32, e32, st32⟩ := getS2 X31 hx hZ hown (host := "") (Or.inl (hw _ (List.mem_of_getElem? (i := 36) rfl))) Via.refl e31 (hS.2.2.2.2.2.2.2.2.2.2.2.2.2.2.2.2.2.2.2.2.2.2.2.1.ext O0.2) (g := (mkF m 4 #[.val (.ref c_CLOSURE)] [(.ref c_FLAG)])) rfl (hb hby d2_4)
  refine own_st st32 ?_
  show own_go _ _ _ _ _ _ _ (T32.setTop (mkF m 7 #[.val (.ref c_CLOSURE)] [(.ref c_FLAG), (.ref c_FLAG)]))
  refine own_st (fun _ k => Jvm.RoadKit.acmp (g := (mkF m 7 #[.val (.ref c_CLOSURE)] [(.ref c_FLAG), (.ref c_FLAG)])) X32 hx rfl rfl rfl (pc0 := 7) (pc' := 10) (same := true) rfl (hb hby d2_7) rfl (decide_eq_true rfl) (by decide) (by decide) k) ?_
  show own_go _ _ _ _ _ _ _ (T32.setTop (mkF m 10 #[.val (.ref c_CLOSURE)] []))
  refine own_st (fun _ k => XS.iconst X32.here hx rfl (hb hby d2_10) k) ?_
  show own_go _ _ _ _ _ _ _ (T32.setTop (mkF m 11 #[.val (.ref c_CLOSURE)] [(.int (1 : Int32))]))
  refine own_st (fun _ k => XS.goto X32.here hx rfl (pc0 := 11) (pc' := 15) rfl (hb hby d2_11) (by decide) (by decide) k) ?_
  show own_go _ _ _ _ _ _ _ (T32.setTop (mkF m 15 #[.val (.ref c_CLOSURE)] [(.int (1 : Int32))]))
  exact own_retN X32 hx hlk (t := .boolean) hret (by simp) rfl (hb hby d2_15) (by decide) (by decide) (⟨rfl, N0, e32⟩)
theorem own_pn_0 : plainFor x = true := plainFor_of_name (show plainName "com/example/ariadne/ariadne/QueryIsListPinLaw" = true by first | (simp [plainName, overriddenIn]; done) | decide +kernel)
theorem own_pd__28_29Z : parseMethodDescriptor "()Z" = some ⟨[], some .boolean⟩ := by decide +kernel
theorem own_ef_rm0 (m : MethodId) (p0 : Int32) : entryFrame m #[(.int p0)] maxLocals = mkF m 0 #[.val (.int p0), .unset, .unset, .unset, .unset, .unset, .unset] [] := by first | (simp [entryFrame, mkF, argsToLocals, Value.category, maxLocals]; done) | rfl
set_option maxRecDepth 65536 in
set_option maxHeartbeats 40000000 in
theorem rm0 (l : Launch) (Z : State) (a0 : Array Value) (hw : ∀ d ∈ tables_1, d.before a0 Z = true) (ws : List Jvm.Cond) (p0 : Int32) (c_Q c_LIMIT c_THRESHOLD c_MEASURE c_EVIDENCE c_WEIGHTS c_MODE c_CLOSURE c_ONE c_LIST c_FLAG : Addr) (h0 : Heap) (n0 : Nat) (O0 : Old Z n0 h0) (hS : own_S Z c_Q c_LIMIT c_THRESHOLD c_MEASURE c_EVIDENCE c_WEIGHTS c_MODE c_CLOSURE c_ONE c_LIST c_FLAG) :
    own_Met l Z x code maxLocals ret ws room_1 #[(.int p0)] h0 (fun v h L => v = some (.int 1) ∧ Fr n0 L) := by
  refine own_body own_pn_0 ?_
  intro p e s m below meth c s₁ hx hby hml hown hnm hret hlk X0 hZ e0
  replace hown : s.vm.findClass "com/example/ariadne/ariadne/QueryIsListPinLaw" = some m.cls := hown
  have N0 := Fr.nil n0
  have K0 := Keep.refl h0 []
  refine own_st (fun _ k => castTop (own_ef_rm0 m p0) k) ?_
  show own_go _ _ _ _ _ _ _ (s₁.setTop (mkF m 0 #[.val (.int p0), .unset, .unset, .unset, .unset, .unset, .unset] []))
  refine own_st (fun _ k => XS.bipush X0.here hx rfl (hb hby at_0) k) ?_
  show own_go _ _ _ _ _ _ _ (s₁.setTop (mkF m 2 #[.val (.int p0), .unset, .unset, .unset, .unset, .unset, .unset] [(.int (8 : Int32))]))
  obtain ⟨T33, h33, k33, b33, X33, e33, g33, E33, V33, Ov33, st33⟩ := own_arr X0 hx hZ hown (hw _ (List.mem_of_getElem? (i := 0) rfl)) (hw _ (List.mem_of_getElem? (i := 1) rfl)) e0 (g := (mkF m 2 #[.val (.int p0), .unset, .unset, .unset, .unset, .unset, .unset] [(.int (8 : Int32))])) rfl (hb hby at_2) rfl (by decide) (cap := 8) (by decide) (by decide) (by decide) (by decide)
  have ge_b33 : n0 ≤ b33 := by rw [g33]; exact own_osz O0
  have sz_b33 : h0.size ≤ b33 := by rw [g33]; exact K0.1
  have O33 := O0.ext E33
  have K33 := K0.ext E33
  refine own_st st33 ?_
  show own_go _ _ _ _ _ _ _ (T33.setTop (mkF m 5 #[.val (.int p0), .unset, .unset, .unset, .unset, .unset, .unset] [(.ref b33)]))
  refine own_st (fun _ k => XS.dup X33.here hx rfl (hb hby at_5) rfl rfl k) ?_
  show own_go _ _ _ _ _ _ _ (T33.setTop (mkF m 6 #[.val (.int p0), .unset, .unset, .unset, .unset, .unset, .unset] [(.ref b33), (.ref b33)]))
  refine own_st (fun _ k => XS.iconst X33.here hx rfl (hb hby at_6) k) ?_
  show own_go _ _ _ _ _ _ _ (T33.setTop (mkF m 7 #[.val (.int p0), .unset, .unset, .unset, .unset, .unset, .unset] [(.int (0 : Int32)), (.ref b33), (.ref b33)]))
  obtain ⟨T34, X34, e34, st34⟩ := getS2 X33 hx hZ hown (host := "") (Or.inl (hw _ (List.mem_of_getElem? (i := 2) rfl))) Via.refl e33 (hS.1.ext O33.2) (g := (mkF m 7 #[.val (.int p0), .unset, .unset, .unset, .unset, .unset, .unset] [(.int (0 : Int32)), (.ref b33), (.ref b33)])) rfl (hb hby at_7)
  refine own_st st34 ?_
  show own_go _ _ _ _ _ _ _ (T34.setTop (mkF m 10 #[.val (.int p0), .unset, .unset, .unset, .unset, .unset, .unset] [(.ref c_Q), (.int (0 : Int32)), (.ref b33), (.ref b33)]))
  obtain ⟨T35, h35, X35, e35, W35, V35, st35⟩ := own_put X34 hx hZ e34 V33 Ov33 (Ins.self (hS.2.1.ext O33.2)) (j := (0 : Int32)) (by decide) 0 (by decide) (by show 0 < 8; decide) (g := (mkF m 10 #[.val (.int p0), .unset, .unset, .unset, .unset, .unset, .unset] [(.ref c_Q), (.int (0 : Int32)), (.ref b33), (.ref b33)])) rfl rfl (hb hby at_10)
  have N35 := Fr.snoc X35 N0 ge_b33
  replace V35 : Arv Z h35 b33 k33 (.object "com/example/ariadne/ariadne/Query$Parameter") (8 : Int32) [(.ref c_Q), .null, .null, .null, .null, .null, .null, .null] .null := V35
  have O36 := O33.wr W35 ge_b33
  have K36 := K33.wr W35 (Or.inr sz_b33)
  refine own_st st35 ?_
  show own_go _ _ _ _ _ _ _ (T35.setTop (mkF m 11 #[.val (.int p0), .unset, .unset, .unset, .unset, .unset, .unset] [(.ref b33)]))
  refine own_st (fun _ k => XS.dup X35.here hx rfl (hb hby at_11) rfl rfl k) ?_
  show own_go _ _ _ _ _ _ _ (T35.setTop (mkF m 12 #[.val (.int p0), .unset, .unset, .unset, .unset, .unset, .unset] [(.ref b33), (.ref b33)]))
  refine own_st (fun _ k => XS.iconst X35.here hx rfl (hb hby at_12) k) ?_
  show own_go _ _ _ _ _ _ _ (T35.setTop (mkF m 13 #[.val (.int p0), .unset, .unset, .unset, .unset, .unset, .unset] [(.int (1 : Int32)), (.ref b33), (.ref b33)]))
  obtain ⟨T37, X37, e37, st37⟩ := getS2 X35 hx hZ hown (host := "") (Or.inl (hw _ (List.mem_of_getElem? (i := 6) rfl))) Via.refl e35 (hS.2.2.1.ext O36.2) (g := (mkF m 13 #[.val (.int p0), .unset, .unset, .unset, .unset, .unset, .unset] [(.int (1 : Int32)), (.ref b33), (.ref b33)])) rfl (hb hby at_13)
  refine own_st st37 ?_
  show own_go _ _ _ _ _ _ _ (T37.setTop (mkF m 16 #[.val (.int p0), .unset, .unset, .unset, .unset, .unset, .unset] [(.ref c_LIMIT), (.int (1 : Int32)), (.ref b33), (.ref b33)]))
  obtain ⟨T38, h38, X38, e38, W38, V38, st38⟩ := own_put X37 hx hZ e37 V35 Ov33 (Ins.self (hS.2.2.2.1.ext O36.2)) (j := (1 : Int32)) (by decide) 1 (by decide) (by show 1 < 8; decide) (g := (mkF m 16 #[.val (.int p0), .unset, .unset, .unset, .unset, .unset, .unset] [(.ref c_LIMIT), (.int (1 : Int32)), (.ref b33), (.ref b33)])) rfl rfl (hb hby at_16)
  have N38 := Fr.snoc X38 N35 ge_b33
  replace V38 : Arv Z h38 b33 k33 (.object "com/example/ariadne/ariadne/Query$Parameter") (8 : Int32) [(.ref c_Q), (.ref c_LIMIT), .null, .null, .null, .null, .null, .null] .null := V38
  have O39 := O36.wr W38 ge_b33
  have K39 := K36.wr W38 (Or.inr sz_b33)
  refine own_st st38 ?_
  show own_go _ _ _ _ _ _ _ (T38.setTop (mkF m 17 #[.val (.int p0), .unset, .unset, .unset, .unset, .unset, .unset] [(.ref b33)]))
  refine own_st (fun _ k => XS.dup X38.here hx rfl (hb hby at_17) rfl rfl k) ?_
  show own_go _ _ _ _ _ _ _ (T38.setTop (mkF m 18 #[.val (.int p0), .unset, .unset, .unset, .unset, .unset, .unset] [(.ref b33), (.ref b33)]))
  refine own_st (fun _ k => XS.iconst X38.here hx rfl (hb hby at_18) k) ?_
  show own_go _ _ _ _ _ _ _ (T38.setTop (mkF m 19 #[.val (.int p0), .unset, .unset, .unset, .unset, .unset, .unset] [(.int (2 : Int32)), (.ref b33), (.ref b33)]))
  obtain ⟨T40, X40, e40, st40⟩ := getS2 X38 hx hZ hown (host := "") (Or.inl (hw _ (List.mem_of_getElem? (i := 8) rfl))) Via.refl e38 (hS.2.2.2.2.1.ext O39.2) (g := (mkF m 19 #[.val (.int p0), .unset, .unset, .unset, .unset, .unset, .unset] [(.int (2 : Int32)), (.ref b33), (.ref b33)])) rfl (hb hby at_19)
  refine own_st st40 ?_
  show own_go _ _ _ _ _ _ _ (T40.setTop (mkF m 22 #[.val (.int p0), .unset, .unset, .unset, .unset, .unset, .unset] [(.ref c_THRESHOLD), (.int (2 : Int32)), (.ref b33), (.ref b33)]))
  obtain ⟨T41, h41, X41, e41, W41, V41, st41⟩ := own_put X40 hx hZ e40 V38 Ov33 (Ins.self (hS.2.2.2.2.2.1.ext O39.2)) (j := (2 : Int32)) (by decide) 2 (by decide) (by show 2 < 8; decide) (g := (mkF m 22 #[.val (.int p0), .unset, .unset, .unset, .unset, .unset, .unset] [(.ref c_THRESHOLD), (.int (2 : Int32)), (.ref b33), (.ref b33)])) rfl rfl (hb hby at_22)
  have N41 := Fr.snoc X41 N38 ge_b33
  replace V41 : Arv Z h41 b33 k33 (.object "com/example/ariadne/ariadne/Query$Parameter") (8 : Int32) [(.ref c_Q), (.ref c_LIMIT), (.ref c_THRESHOLD), .null, .null, .null, .null, .null] .null := V41
  have O42 := O39.wr W41 ge_b33
  have K42 := K39.wr W41 (Or.inr sz_b33)
  refine own_st st41 ?_
  show own_go _ _ _ _ _ _ _ (T41.setTop (mkF m 23 #[.val (.int p0), .unset, .unset, .unset, .unset, .unset, .unset] [(.ref b33)]))
  refine own_st (fun _ k => XS.dup X41.here hx rfl (hb hby at_23) rfl rfl k) ?_
  show own_go _ _ _ _ _ _ _ (T41.setTop (mkF m 24 #[.val (.int p0), .unset, .unset, .unset, .unset, .unset, .unset] [(.ref b33), (.ref b33)]))
  refine own_st (fun _ k => XS.iconst X41.here hx rfl (hb hby at_24) k) ?_
  show own_go _ _ _ _ _ _ _ (T41.setTop (mkF m 25 #[.val (.int p0), .unset, .unset, .unset, .unset, .unset, .unset] [(.int (3 : Int32)), (.ref b33), (.ref b33)]))
  obtain ⟨T43, X43, e43, st43⟩ := getS2 X41 hx hZ hown (host := "") (Or.inl (hw _ (List.mem_of_getElem? (i := 10) rfl))) Via.refl e41 (hS.2.2.2.2.2.2.1.ext O42.2) (g := (mkF m 25 #[.val (.int p0), .unset, .unset, .unset, .unset, .unset, .unset] [(.int (3 : Int32)), (.ref b33), (.ref b33)])) rfl (hb hby at_25)
  refine own_st st43 ?_
  show own_go _ _ _ _ _ _ _ (T43.setTop (mkF m 28 #[.val (.int p0), .unset, .unset, .unset, .unset, .unset, .unset] [(.ref c_MEASURE), (.int (3 : Int32)), (.ref b33), (.ref b33)]))
  obtain ⟨T44, h44, X44, e44, W44, V44, st44⟩ := own_put X43 hx hZ e43 V41 Ov33 (Ins.self (hS.2.2.2.2.2.2.2.1.ext O42.2)) (j := (3 : Int32)) (by decide) 3 (by decide) (by show 3 < 8; decide) (g := (mkF m 28 #[.val (.int p0), .unset, .unset, .unset, .unset, .unset, .unset] [(.ref c_MEASURE), (.int (3 : Int32)), (.ref b33), (.ref b33)])) rfl rfl (hb hby at_28)
  have N44 := Fr.snoc X44 N41 ge_b33
  replace V44 : Arv Z h44 b33 k33 (.object "com/example/ariadne/ariadne/Query$Parameter") (8 : Int32) [(.ref c_Q), (.ref c_LIMIT), (.ref c_THRESHOLD), (.ref c_MEASURE), .null, .null, .null, .null] .null := V44
  have O45 := O42.wr W44 ge_b33
  have K45 := K42.wr W44 (Or.inr sz_b33)
  refine own_st st44 ?_
  show own_go _ _ _ _ _ _ _ (T44.setTop (mkF m 29 #[.val (.int p0), .unset, .unset, .unset, .unset, .unset, .unset] [(.ref b33)]))
  refine own_st (fun _ k => XS.dup X44.here hx rfl (hb hby at_29) rfl rfl k) ?_
  show own_go _ _ _ _ _ _ _ (T44.setTop (mkF m 30 #[.val (.int p0), .unset, .unset, .unset, .unset, .unset, .unset] [(.ref b33), (.ref b33)]))
  refine own_st (fun _ k => XS.iconst X44.here hx rfl (hb hby at_30) k) ?_
  show own_go _ _ _ _ _ _ _ (T44.setTop (mkF m 31 #[.val (.int p0), .unset, .unset, .unset, .unset, .unset, .unset] [(.int (4 : Int32)), (.ref b33), (.ref b33)]))
  obtain ⟨T46, X46, e46, st46⟩ := getS2 X44 hx hZ hown (host := "") (Or.inl (hw _ (List.mem_of_getElem? (i := 12) rfl))) Via.refl e44 (hS.2.2.2.2.2.2.2.2.1.ext O45.2) (g := (mkF m 31 #[.val (.int p0), .unset, .unset, .unset, .unset, .unset, .unset] [(.int (4 : Int32)), (.ref b33), (.ref b33)])) rfl (hb hby at_31)
  refine own_st st46 ?_
  show own_go _ _ _ _ _ _ _ (T46.setTop (mkF m 34 #[.val (.int p0), .unset, .unset, .unset, .unset, .unset, .unset] [(.ref c_EVIDENCE), (.int (4 : Int32)), (.ref b33), (.ref b33)]))
  obtain ⟨T47, h47, X47, e47, W47, V47, st47⟩ := own_put X46 hx hZ e46 V44 Ov33 (Ins.self (hS.2.2.2.2.2.2.2.2.2.1.ext O45.2)) (j := (4 : Int32)) (by decide) 4 (by decide) (by show 4 < 8; decide) (g := (mkF m 34 #[.val (.int p0), .unset, .unset, .unset, .unset, .unset, .unset] [(.ref c_EVIDENCE), (.int (4 : Int32)), (.ref b33), (.ref b33)])) rfl rfl (hb hby at_34)
  have N47 := Fr.snoc X47 N44 ge_b33
  replace V47 : Arv Z h47 b33 k33 (.object "com/example/ariadne/ariadne/Query$Parameter") (8 : Int32) [(.ref c_Q), (.ref c_LIMIT), (.ref c_THRESHOLD), (.ref c_MEASURE), (.ref c_EVIDENCE), .null, .null, .null] .null := V47
  have O48 := O45.wr W47 ge_b33
  have K48 := K45.wr W47 (Or.inr sz_b33)
  refine own_st st47 ?_
  show own_go _ _ _ _ _ _ _ (T47.setTop (mkF m 35 #[.val (.int p0), .unset, .unset, .unset, .unset, .unset, .unset] [(.ref b33)]))
  refine own_st (fun _ k => XS.dup X47.here hx rfl (hb hby at_35) rfl rfl k) ?_
  show own_go _ _ _ _ _ _ _ (T47.setTop (mkF m 36 #[.val (.int p0), .unset, .unset, .unset, .unset, .unset, .unset] [(.ref b33), (.ref b33)]))
  refine own_st (fun _ k => XS.iconst X47.here hx rfl (hb hby at_36) k) ?_
  show own_go _ _ _ _ _ _ _ (T47.setTop (mkF m 37 #[.val (.int p0), .unset, .unset, .unset, .unset, .unset, .unset] [(.int (5 : Int32)), (.ref b33), (.ref b33)]))
  obtain ⟨T49, X49, e49, st49⟩ := getS2 X47 hx hZ hown (host := "") (Or.inl (hw _ (List.mem_of_getElem? (i := 14) rfl))) Via.refl e47 (hS.2.2.2.2.2.2.2.2.2.2.1.ext O48.2) (g := (mkF m 37 #[.val (.int p0), .unset, .unset, .unset, .unset, .unset, .unset] [(.int (5 : Int32)), (.ref b33), (.ref b33)])) rfl (hb hby at_37)
  refine own_st st49 ?_
  show own_go _ _ _ _ _ _ _ (T49.setTop (mkF m 40 #[.val (.int p0), .unset, .unset, .unset, .unset, .unset, .unset] [(.ref c_WEIGHTS), (.int (5 : Int32)), (.ref b33), (.ref b33)]))
  obtain ⟨T50, h50, X50, e50, W50, V50, st50⟩ := own_put X49 hx hZ e49 V47 Ov33 (Ins.self (hS.2.2.2.2.2.2.2.2.2.2.2.1.ext O48.2)) (j := (5 : Int32)) (by decide) 5 (by decide) (by show 5 < 8; decide) (g := (mkF m 40 #[.val (.int p0), .unset, .unset, .unset, .unset, .unset, .unset] [(.ref c_WEIGHTS), (.int (5 : Int32)), (.ref b33), (.ref b33)])) rfl rfl (hb hby at_40)
  have N50 := Fr.snoc X50 N47 ge_b33
  replace V50 : Arv Z h50 b33 k33 (.object "com/example/ariadne/ariadne/Query$Parameter") (8 : Int32) [(.ref c_Q), (.ref c_LIMIT), (.ref c_THRESHOLD), (.ref c_MEASURE), (.ref c_EVIDENCE), (.ref c_WEIGHTS), .null, .null] .null := V50
  have O51 := O48.wr W50 ge_b33
  have K51 := K48.wr W50 (Or.inr sz_b33)
  refine own_st st50 ?_
  show own_go _ _ _ _ _ _ _ (T50.setTop (mkF m 41 #[.val (.int p0), .unset, .unset, .unset, .unset, .unset, .unset] [(.ref b33)]))
  refine own_st (fun _ k => XS.dup X50.here hx rfl (hb hby at_41) rfl rfl k) ?_
  show own_go _ _ _ _ _ _ _ (T50.setTop (mkF m 42 #[.val (.int p0), .unset, .unset, .unset, .unset, .unset, .unset] [(.ref b33), (.ref b33)]))
  refine own_st (fun _ k => XS.bipush X50.here hx rfl (hb hby at_42) k) ?_
  show own_go _ _ _ _ _ _ _ (T50.setTop (mkF m 44 #[.val (.int p0), .unset, .unset, .unset, .unset, .unset, .unset] [(.int (6 : Int32)), (.ref b33), (.ref b33)]))
  obtain ⟨T52, X52, e52, st52⟩ := getS2 X50 hx hZ hown (host := "") (Or.inl (hw _ (List.mem_of_getElem? (i := 16) rfl))) Via.refl e50 (hS.2.2.2.2.2.2.2.2.2.2.2.2.1.ext O51.2) (g := (mkF m 44 #[.val (.int p0), .unset, .unset, .unset, .unset, .unset, .unset] [(.int (6 : Int32)), (.ref b33), (.ref b33)])) rfl (hb hby at_44)
  refine own_st st52 ?_
  show own_go _ _ _ _ _ _ _ (T52.setTop (mkF m 47 #[.val (.int p0), .unset, .unset, .unset, .unset, .unset, .unset] [(.ref c_MODE), (.int (6 : Int32)), (.ref b33), (.ref b33)]))
  obtain ⟨T53, h53, X53, e53, W53, V53, st53⟩ := own_put X52 hx hZ e52 V50 Ov33 (Ins.self (hS.2.2.2.2.2.2.2.2.2.2.2.2.2.1.ext O51.2)) (j := (6 : Int32)) (by decide) 6 (by decide) (by show 6 < 8; decide) (g := (mkF m 47 #[.val (.int p0), .unset, .unset, .unset, .unset, .unset, .unset] [(.ref c_MODE), (.int (6 : Int32)), (.ref b33), (.ref b33)])) rfl rfl (hb hby at_47)
  have N53 := Fr.snoc X53 N50 ge_b33
  replace V53 : Arv Z h53 b33 k33 (.object "com/example/ariadne/ariadne/Query$Parameter") (8 : Int32) [(.ref c_Q), (.ref c_LIMIT), (.ref c_THRESHOLD), (.ref c_MEASURE), (.ref c_EVIDENCE), (.ref c_WEIGHTS), (.ref c_MODE), .null] .null := V53
  have O54 := O51.wr W53 ge_b33
  have K54 := K51.wr W53 (Or.inr sz_b33)
  refine own_st st53 ?_
  show own_go _ _ _ _ _ _ _ (T53.setTop (mkF m 48 #[.val (.int p0), .unset, .unset, .unset, .unset, .unset, .unset] [(.ref b33)]))
  refine own_st (fun _ k => XS.dup X53.here hx rfl (hb hby at_48) rfl rfl k) ?_
  show own_go _ _ _ _ _ _ _ (T53.setTop (mkF m 49 #[.val (.int p0), .unset, .unset, .unset, .unset, .unset, .unset] [(.ref b33), (.ref b33)]))
  refine own_st (fun _ k => XS.bipush X53.here hx rfl (hb hby at_49) k) ?_
  show own_go _ _ _ _ _ _ _ (T53.setTop (mkF m 51 #[.val (.int p0), .unset, .unset, .unset, .unset, .unset, .unset] [(.int (7 : Int32)), (.ref b33), (.ref b33)]))
  obtain ⟨T55, X55, e55, st55⟩ := getS2 X53 hx hZ hown (host := "") (Or.inl (hw _ (List.mem_of_getElem? (i := 18) rfl))) Via.refl e53 (hS.2.2.2.2.2.2.2.2.2.2.2.2.2.2.1.ext O54.2) (g := (mkF m 51 #[.val (.int p0), .unset, .unset, .unset, .unset, .unset, .unset] [(.int (7 : Int32)), (.ref b33), (.ref b33)])) rfl (hb hby at_51)
  refine own_st st55 ?_
  show own_go _ _ _ _ _ _ _ (T55.setTop (mkF m 54 #[.val (.int p0), .unset, .unset, .unset, .unset, .unset, .unset] [(.ref c_CLOSURE), (.int (7 : Int32)), (.ref b33), (.ref b33)]))
  obtain ⟨T56, h56, X56, e56, W56, V56, st56⟩ := own_put X55 hx hZ e55 V53 Ov33 (Ins.self (hS.2.2.2.2.2.2.2.2.2.2.2.2.2.2.2.1.ext O54.2)) (j := (7 : Int32)) (by decide) 7 (by decide) (by show 7 < 8; decide) (g := (mkF m 54 #[.val (.int p0), .unset, .unset, .unset, .unset, .unset, .unset] [(.ref c_CLOSURE), (.int (7 : Int32)), (.ref b33), (.ref b33)])) rfl rfl (hb hby at_54)
  have N56 := Fr.snoc X56 N53 ge_b33
  replace V56 : Arv Z h56 b33 k33 (.object "com/example/ariadne/ariadne/Query$Parameter") (8 : Int32) [(.ref c_Q), (.ref c_LIMIT), (.ref c_THRESHOLD), (.ref c_MEASURE), (.ref c_EVIDENCE), (.ref c_WEIGHTS), (.ref c_MODE), (.ref c_CLOSURE)] .null := V56
  have O57 := O54.wr W56 ge_b33
  have K57 := K54.wr W56 (Or.inr sz_b33)
  refine own_st st56 ?_
  show own_go _ _ _ _ _ _ _ (T56.setTop (mkF m 55 #[.val (.int p0), .unset, .unset, .unset, .unset, .unset, .unset] [(.ref b33)]))
  refine own_st (fun _ k => XS.astoreN X56.here hx rfl (hb hby at_55) rfl rfl (l' := #[.val (.int p0), .val (.ref b33), .unset, .unset, .unset, .unset, .unset]) rfl k) ?_
  show own_go _ _ _ _ _ _ _ (T56.setTop (mkF m 56 #[.val (.int p0), .val (.ref b33), .unset, .unset, .unset, .unset, .unset] []))
  refine own_st (fun _ k => XS.iloadN X56.here hx rfl (hb hby at_56) rfl k) ?_
  show own_go _ _ _ _ _ _ _ (T56.setTop (mkF m 57 #[.val (.int p0), .val (.ref b33), .unset, .unset, .unset, .unset, .unset] [(.int p0)]))
  refine own_st (fun _ k => XS.bipush X56.here hx rfl (hb hby at_57) k) ?_
  show own_go _ _ _ _ _ _ _ (T56.setTop (mkF m 59 #[.val (.int p0), .val (.ref b33), .unset, .unset, .unset, .unset, .unset] [(.int (7 : Int32)), (.int p0)]))
  refine own_st (fun _ k => XS.iand X56.here hx rfl (hb hby at_59) rfl k) ?_
  show own_go _ _ _ _ _ _ _ (T56.setTop (mkF m 60 #[.val (.int p0), .val (.ref b33), .unset, .unset, .unset, .unset, .unset] [(.int (p0 &&& (7 : Int32)))]))
  rcases own_rem p0 with q | q | q | q | q | q | q | q
  · skip
    rw [q]
    show own_go _ _ _ _ _ _ _ (T56.setTop (mkF m 60 #[.val (.int p0), .val (.ref b33), .unset, .unset, .unset, .unset, .unset] [(.int (0 : Int32))]))
    refine own_st (fun _ k => XS.istoreN X56.here hx rfl (hb hby at_60) rfl (l' := #[.val (.int p0), .val (.ref b33), .val (.int (0 : Int32)), .unset, .unset, .unset, .unset]) rfl k) ?_
    show own_go _ _ _ _ _ _ _ (T56.setTop (mkF m 61 #[.val (.int p0), .val (.ref b33), .val (.int (0 : Int32)), .unset, .unset, .unset, .unset] []))
    refine own_st (fun _ k => XS.aloadN X56.here hx rfl (hb hby at_61) rfl rfl k) ?_
    show own_go _ _ _ _ _ _ _ (T56.setTop (mkF m 62 #[.val (.int p0), .val (.ref b33), .val (.int (0 : Int32)), .unset, .unset, .unset, .unset] [(.ref b33)]))
    refine own_st (fun _ k => XS.iloadN X56.here hx rfl (hb hby at_62) rfl k) ?_
    show own_go _ _ _ _ _ _ _ (T56.setTop (mkF m 63 #[.val (.int p0), .val (.ref b33), .val (.int (0 : Int32)), .unset, .unset, .unset, .unset] [(.int (0 : Int32)), (.ref b33)]))
    refine own_st (own_get X56 hx hZ e56 V56 rfl (j := (0 : Int32)) (by decide) (v := (.ref c_Q)) rfl (g := (mkF m 63 #[.val (.int p0), .val (.ref b33), .val (.int (0 : Int32)), .unset, .unset, .unset, .unset] [(.int (0 : Int32)), (.ref b33)])) rfl rfl (hb hby at_63)) ?_
    show own_go _ _ _ _ _ _ _ (T56.setTop (mkF m 64 #[.val (.int p0), .val (.ref b33), .val (.int (0 : Int32)), .unset, .unset, .unset, .unset] [(.ref c_Q)]))
    refine own_st (fun _ k => XS.astoreN X56.here hx rfl (hb hby at_64) rfl rfl (l' := #[.val (.int p0), .val (.ref b33), .val (.int (0 : Int32)), .val (.ref c_Q), .unset, .unset, .unset]) rfl k) ?_
    show own_go _ _ _ _ _ _ _ (T56.setTop (mkF m 65 #[.val (.int p0), .val (.ref b33), .val (.int (0 : Int32)), .val (.ref c_Q), .unset, .unset, .unset] []))
    refine own_st (fun _ k => XS.iloadN X56.here hx rfl (hb hby at_65) rfl k) ?_
    show own_go _ _ _ _ _ _ _ (T56.setTop (mkF m 66 #[.val (.int p0), .val (.ref b33), .val (.int (0 : Int32)), .val (.ref c_Q), .unset, .unset, .unset] [(.int (0 : Int32))]))
    refine own_st (fun _ k => XS.iconst X56.here hx rfl (hb hby at_66) k) ?_
    show own_go _ _ _ _ _ _ _ (T56.setTop (mkF m 67 #[.val (.int p0), .val (.ref b33), .val (.int (0 : Int32)), .val (.ref c_Q), .unset, .unset, .unset] [(.int (5 : Int32)), (.int (0 : Int32))]))
    refine own_st (fun _ k => XS.icmpYes X56.here hx rfl (pc0 := 67) (pc' := 74) rfl (hb hby at_67) rfl (by decide) (by decide) (by decide) k) ?_
    show own_go _ _ _ _ _ _ _ (T56.setTop (mkF m 74 #[.val (.int p0), .val (.ref b33), .val (.int (0 : Int32)), .val (.ref c_Q), .unset, .unset, .unset] []))
    refine own_st (fun _ k => XS.iconst X56.here hx rfl (hb hby at_74) k) ?_
    show own_go _ _ _ _ _ _ _ (T56.setTop (mkF m 75 #[.val (.int p0), .val (.ref b33), .val (.int (0 : Int32)), .val (.ref c_Q), .unset, .unset, .unset] [(.int (0 : Int32))]))
    refine own_st (fun _ k => XS.istore X56.here hx rfl (hb hby at_75) rfl (l' := #[.val (.int p0), .val (.ref b33), .val (.int (0 : Int32)), .val (.ref c_Q), .val (.int (0 : Int32)), .unset, .unset]) rfl k) ?_
    show own_go _ _ _ _ _ _ _ (T56.setTop (mkF m 77 #[.val (.int p0), .val (.ref b33), .val (.int (0 : Int32)), .val (.ref c_Q), .val (.int (0 : Int32)), .unset, .unset] []))
    refine own_st (fun _ k => XS.aloadN X56.here hx rfl (hb hby at_77) rfl rfl k) ?_
    show own_go _ _ _ _ _ _ _ (T56.setTop (mkF m 78 #[.val (.int p0), .val (.ref b33), .val (.int (0 : Int32)), .val (.ref c_Q), .val (.int (0 : Int32)), .unset, .unset] [(.ref c_Q)]))
    obtain ⟨v58, T58, L58, X58, hQ58, st58⟩ := own_callV X56 hx hZ (argsL := []) (rest := []) (rm1_0 l Z a0 hw c_Q c_LIMIT c_THRESHOLD c_MEASURE c_EVIDENCE c_WEIGHTS c_MODE c_CLOSURE c_ONE c_LIST c_FLAG h56 n0 O57 hS) hown (hw _ (List.mem_of_getElem? (i := 20) rfl)) (hw _ (List.mem_of_getElem? (i := 21) rfl)) (notFace_of_selects (args := #[]) (mvT hZ (hw _ (List.mem_of_getElem? (i := 23) rfl)))) (hw _ (List.mem_of_getElem? (i := 23) rfl)) (hw _ (List.mem_of_getElem? (i := 22) rfl)) (hw _ (List.mem_of_getElem? (i := 3) rfl)) (hw _ (List.mem_of_getElem? (i := 24) rfl)) (by decide) e56 (hS.2.1.ext O57.2) (g := (mkF m 78 #[.val (.int p0), .val (.ref b33), .val (.int (0 : Int32)), .val (.ref c_Q), .val (.int (0 : Int32)), .unset, .unset] [(.ref c_Q)])) rfl (by rw [hml]; rfl) (lenOf own_pd__28_29Z rfl) rfl (W := 0) (by show 2 * 0 + _ ≤ _; exact Nat.le_of_eq rfl) (hb hby at_78) (by decide) (by decide) (by decide) (by decide)
    obtain ⟨rfl, Nq58, eq58⟩ := hQ58
    have N58 := Fr.app N56 Nq58
    refine own_st st58 ?_
    show own_go _ _ _ _ _ _ _ (T58.setTop (mkF m 81 #[.val (.int p0), .val (.ref b33), .val (.int (0 : Int32)), .val (.ref c_Q), .val (.int (0 : Int32)), .unset, .unset] [(.int (0 : Int32))]))
    refine own_st (fun _ k => XS.istore X58.here hx rfl (hb hby at_81) rfl (l' := #[.val (.int p0), .val (.ref b33), .val (.int (0 : Int32)), .val (.ref c_Q), .val (.int (0 : Int32)), .val (.int (0 : Int32)), .unset]) rfl k) ?_
    show own_go _ _ _ _ _ _ _ (T58.setTop (mkF m 83 #[.val (.int p0), .val (.ref b33), .val (.int (0 : Int32)), .val (.ref c_Q), .val (.int (0 : Int32)), .val (.int (0 : Int32)), .unset] []))
    refine own_st (fun _ k => XS.aloadN X58.here hx rfl (hb hby at_83) rfl rfl k) ?_
    show own_go _ _ _ _ _ _ _ (T58.setTop (mkF m 84 #[.val (.int p0), .val (.ref b33), .val (.int (0 : Int32)), .val (.ref c_Q), .val (.int (0 : Int32)), .val (.int (0 : Int32)), .unset] [(.ref c_Q)]))
    obtain ⟨v59, T59, L59, X59, hQ59, st59⟩ := own_callV X58 hx hZ (argsL := []) (rest := []) (rm2_0 l Z a0 hw c_Q c_LIMIT c_THRESHOLD c_MEASURE c_EVIDENCE c_WEIGHTS c_MODE c_CLOSURE c_ONE c_LIST c_FLAG h56 n0 O57 hS) hown (hw _ (List.mem_of_getElem? (i := 31) rfl)) (hw _ (List.mem_of_getElem? (i := 32) rfl)) (notFace_of_selects (args := #[]) (mvT hZ (hw _ (List.mem_of_getElem? (i := 34) rfl)))) (hw _ (List.mem_of_getElem? (i := 34) rfl)) (hw _ (List.mem_of_getElem? (i := 33) rfl)) (hw _ (List.mem_of_getElem? (i := 3) rfl)) (hw _ (List.mem_of_getElem? (i := 35) rfl)) (by decide) eq58 (hS.2.1.ext O57.2) (g := (mkF m 84 #[.val (.int p0), .val (.ref b33), .val (.int (0 : Int32)), .val (.ref c_Q), .val (.int (0 : Int32)), .val (.int (0 : Int32)), .unset] [(.ref c_Q)])) rfl (by rw [hml]; rfl) (lenOf own_pd__28_29Z rfl) rfl (W := 0) (by show 2 * 0 + _ ≤ _; exact Nat.le_of_eq rfl) (hb hby at_84) (by decide) (by decide) (by decide) (by decide)
    obtain ⟨rfl, Nq59, eq59⟩ := hQ59
    have N59 := Fr.app N58 Nq59
    refine own_st st59 ?_
    show own_go _ _ _ _ _ _ _ (T59.setTop (mkF m 87 #[.val (.int p0), .val (.ref b33), .val (.int (0 : Int32)), .val (.ref c_Q), .val (.int (0 : Int32)), .val (.int (0 : Int32)), .unset] [(.int (0 : Int32))]))
    refine own_st (fun _ k => XS.istore X59.here hx rfl (hb hby at_87) rfl (l' := #[.val (.int p0), .val (.ref b33), .val (.int (0 : Int32)), .val (.ref c_Q), .val (.int (0 : Int32)), .val (.int (0 : Int32)), .val (.int (0 : Int32))]) rfl k) ?_
    show own_go _ _ _ _ _ _ _ (T59.setTop (mkF m 89 #[.val (.int p0), .val (.ref b33), .val (.int (0 : Int32)), .val (.ref c_Q), .val (.int (0 : Int32)), .val (.int (0 : Int32)), .val (.int (0 : Int32))] []))
    refine own_st (fun _ k => XS.iload X59.here hx rfl (hb hby at_89) rfl k) ?_
    show own_go _ _ _ _ _ _ _ (T59.setTop (mkF m 91 #[.val (.int p0), .val (.ref b33), .val (.int (0 : Int32)), .val (.ref c_Q), .val (.int (0 : Int32)), .val (.int (0 : Int32)), .val (.int (0 : Int32))] [(.int (0 : Int32))]))
    refine own_st (fun _ k => XS.iload X59.here hx rfl (hb hby at_91) rfl k) ?_
    show own_go _ _ _ _ _ _ _ (T59.setTop (mkF m 93 #[.val (.int p0), .val (.ref b33), .val (.int (0 : Int32)), .val (.ref c_Q), .val (.int (0 : Int32)), .val (.int (0 : Int32)), .val (.int (0 : Int32))] [(.int (0 : Int32)), (.int (0 : Int32))]))
    refine own_st (fun _ k => XS.icmpNo X59.here hx rfl (hb hby at_93) rfl (by decide) k) ?_
    show own_go _ _ _ _ _ _ _ (T59.setTop (mkF m 96 #[.val (.int p0), .val (.ref b33), .val (.int (0 : Int32)), .val (.ref c_Q), .val (.int (0 : Int32)), .val (.int (0 : Int32)), .val (.int (0 : Int32))] []))
    refine own_st (fun _ k => XS.iload X59.here hx rfl (hb hby at_96) rfl k) ?_
    show own_go _ _ _ _ _ _ _ (T59.setTop (mkF m 98 #[.val (.int p0), .val (.ref b33), .val (.int (0 : Int32)), .val (.ref c_Q), .val (.int (0 : Int32)), .val (.int (0 : Int32)), .val (.int (0 : Int32))] [(.int (0 : Int32))]))
    refine own_st (fun _ k => XS.ifYes X59.here hx rfl (pc0 := 98) (pc' := 106) rfl (hb hby at_98) rfl (by decide) (by decide) (by decide) k) ?_
    show own_go _ _ _ _ _ _ _ (T59.setTop (mkF m 106 #[.val (.int p0), .val (.ref b33), .val (.int (0 : Int32)), .val (.ref c_Q), .val (.int (0 : Int32)), .val (.int (0 : Int32)), .val (.int (0 : Int32))] []))
    refine own_st (fun _ k => XS.iconst X59.here hx rfl (hb hby at_106) k) ?_
    show own_go _ _ _ _ _ _ _ (T59.setTop (mkF m 107 #[.val (.int p0), .val (.ref b33), .val (.int (0 : Int32)), .val (.ref c_Q), .val (.int (0 : Int32)), .val (.int (0 : Int32)), .val (.int (0 : Int32))] [(.int (1 : Int32))]))
    refine own_st (fun _ k => XS.goto X59.here hx rfl (pc0 := 107) (pc' := 111) rfl (hb hby at_107) (by decide) (by decide) k) ?_
    show own_go _ _ _ _ _ _ _ (T59.setTop (mkF m 111 #[.val (.int p0), .val (.ref b33), .val (.int (0 : Int32)), .val (.ref c_Q), .val (.int (0 : Int32)), .val (.int (0 : Int32)), .val (.int (0 : Int32))] [(.int (1 : Int32))]))
    exact own_retN X59 hx hlk (t := .boolean) hret (by simp) rfl (hb hby at_111) (by decide) (by decide) (⟨rfl, N59⟩)
  · skip
    rw [q]
    show own_go _ _ _ _ _ _ _ (T56.setTop (mkF m 60 #[.val (.int p0), .val (.ref b33), .unset, .unset, .unset, .unset, .unset] [(.int (1 : Int32))]))
    refine own_st (fun _ k => XS.istoreN X56.here hx rfl (hb hby at_60) rfl (l' := #[.val (.int p0), .val (.ref b33), .val (.int (1 : Int32)), .unset, .unset, .unset, .unset]) rfl k) ?_
    show own_go _ _ _ _ _ _ _ (T56.setTop (mkF m 61 #[.val (.int p0), .val (.ref b33), .val (.int (1 : Int32)), .unset, .unset, .unset, .unset] []))
    refine own_st (fun _ k => XS.aloadN X56.here hx rfl (hb hby at_61) rfl rfl k) ?_
    show own_go _ _ _ _ _ _ _ (T56.setTop (mkF m 62 #[.val (.int p0), .val (.ref b33), .val (.int (1 : Int32)), .unset, .unset, .unset, .unset] [(.ref b33)]))
    refine own_st (fun _ k => XS.iloadN X56.here hx rfl (hb hby at_62) rfl k) ?_
    show own_go _ _ _ _ _ _ _ (T56.setTop (mkF m 63 #[.val (.int p0), .val (.ref b33), .val (.int (1 : Int32)), .unset, .unset, .unset, .unset] [(.int (1 : Int32)), (.ref b33)]))
    refine own_st (own_get X56 hx hZ e56 V56 rfl (j := (1 : Int32)) (by decide) (v := (.ref c_LIMIT)) rfl (g := (mkF m 63 #[.val (.int p0), .val (.ref b33), .val (.int (1 : Int32)), .unset, .unset, .unset, .unset] [(.int (1 : Int32)), (.ref b33)])) rfl rfl (hb hby at_63)) ?_
    show own_go _ _ _ _ _ _ _ (T56.setTop (mkF m 64 #[.val (.int p0), .val (.ref b33), .val (.int (1 : Int32)), .unset, .unset, .unset, .unset] [(.ref c_LIMIT)]))
    refine own_st (fun _ k => XS.astoreN X56.here hx rfl (hb hby at_64) rfl rfl (l' := #[.val (.int p0), .val (.ref b33), .val (.int (1 : Int32)), .val (.ref c_LIMIT), .unset, .unset, .unset]) rfl k) ?_
    show own_go _ _ _ _ _ _ _ (T56.setTop (mkF m 65 #[.val (.int p0), .val (.ref b33), .val (.int (1 : Int32)), .val (.ref c_LIMIT), .unset, .unset, .unset] []))
    refine own_st (fun _ k => XS.iloadN X56.here hx rfl (hb hby at_65) rfl k) ?_
    show own_go _ _ _ _ _ _ _ (T56.setTop (mkF m 66 #[.val (.int p0), .val (.ref b33), .val (.int (1 : Int32)), .val (.ref c_LIMIT), .unset, .unset, .unset] [(.int (1 : Int32))]))
    refine own_st (fun _ k => XS.iconst X56.here hx rfl (hb hby at_66) k) ?_
    show own_go _ _ _ _ _ _ _ (T56.setTop (mkF m 67 #[.val (.int p0), .val (.ref b33), .val (.int (1 : Int32)), .val (.ref c_LIMIT), .unset, .unset, .unset] [(.int (5 : Int32)), (.int (1 : Int32))]))
    refine own_st (fun _ k => XS.icmpYes X56.here hx rfl (pc0 := 67) (pc' := 74) rfl (hb hby at_67) rfl (by decide) (by decide) (by decide) k) ?_
    show own_go _ _ _ _ _ _ _ (T56.setTop (mkF m 74 #[.val (.int p0), .val (.ref b33), .val (.int (1 : Int32)), .val (.ref c_LIMIT), .unset, .unset, .unset] []))
    refine own_st (fun _ k => XS.iconst X56.here hx rfl (hb hby at_74) k) ?_
    show own_go _ _ _ _ _ _ _ (T56.setTop (mkF m 75 #[.val (.int p0), .val (.ref b33), .val (.int (1 : Int32)), .val (.ref c_LIMIT), .unset, .unset, .unset] [(.int (0 : Int32))]))
    refine own_st (fun _ k => XS.istore X56.here hx rfl (hb hby at_75) rfl (l' := #[.val (.int p0), .val (.ref b33), .val (.int (1 : Int32)), .val (.ref c_LIMIT), .val (.int (0 : Int32)), .unset, .unset]) rfl k) ?_
    show own_go _ _ _ _ _ _ _ (T56.setTop (mkF m 77 #[.val (.int p0), .val (.ref b33), .val (.int (1 : Int32)), .val (.ref c_LIMIT), .val (.int (0 : Int32)), .unset, .unset] []))
    refine own_st (fun _ k => XS.aloadN X56.here hx rfl (hb hby at_77) rfl rfl k) ?_
    show own_go _ _ _ _ _ _ _ (T56.setTop (mkF m 78 #[.val (.int p0), .val (.ref b33), .val (.int (1 : Int32)), .val (.ref c_LIMIT), .val (.int (0 : Int32)), .unset, .unset] [(.ref c_LIMIT)]))
    obtain ⟨v60, T60, L60, X60, hQ60, st60⟩ := own_callV X56 hx hZ (argsL := []) (rest := []) (rm1_1 l Z a0 hw c_Q c_LIMIT c_THRESHOLD c_MEASURE c_EVIDENCE c_WEIGHTS c_MODE c_CLOSURE c_ONE c_LIST c_FLAG h56 n0 O57 hS) hown (hw _ (List.mem_of_getElem? (i := 20) rfl)) (hw _ (List.mem_of_getElem? (i := 21) rfl)) (notFace_of_selects (args := #[]) (mvT hZ (hw _ (List.mem_of_getElem? (i := 23) rfl)))) (hw _ (List.mem_of_getElem? (i := 23) rfl)) (hw _ (List.mem_of_getElem? (i := 22) rfl)) (hw _ (List.mem_of_getElem? (i := 3) rfl)) (hw _ (List.mem_of_getElem? (i := 24) rfl)) (by decide) e56 (hS.2.2.2.1.ext O57.2) (g := (mkF m 78 #[.val (.int p0), .val (.ref b33), .val (.int (1 : Int32)), .val (.ref c_LIMIT), .val (.int (0 : Int32)), .unset, .unset] [(.ref c_LIMIT)])) rfl (by rw [hml]; rfl) (lenOf own_pd__28_29Z rfl) rfl (W := 0) (by show 2 * 0 + _ ≤ _; exact Nat.le_of_eq rfl) (hb hby at_78) (by decide) (by decide) (by decide) (by decide)
    obtain ⟨rfl, Nq60, eq60⟩ := hQ60
    have N60 := Fr.app N56 Nq60
    refine own_st st60 ?_
    show own_go _ _ _ _ _ _ _ (T60.setTop (mkF m 81 #[.val (.int p0), .val (.ref b33), .val (.int (1 : Int32)), .val (.ref c_LIMIT), .val (.int (0 : Int32)), .unset, .unset] [(.int (0 : Int32))]))
    refine own_st (fun _ k => XS.istore X60.here hx rfl (hb hby at_81) rfl (l' := #[.val (.int p0), .val (.ref b33), .val (.int (1 : Int32)), .val (.ref c_LIMIT), .val (.int (0 : Int32)), .val (.int (0 : Int32)), .unset]) rfl k) ?_
    show own_go _ _ _ _ _ _ _ (T60.setTop (mkF m 83 #[.val (.int p0), .val (.ref b33), .val (.int (1 : Int32)), .val (.ref c_LIMIT), .val (.int (0 : Int32)), .val (.int (0 : Int32)), .unset] []))
    refine own_st (fun _ k => XS.aloadN X60.here hx rfl (hb hby at_83) rfl rfl k) ?_
    show own_go _ _ _ _ _ _ _ (T60.setTop (mkF m 84 #[.val (.int p0), .val (.ref b33), .val (.int (1 : Int32)), .val (.ref c_LIMIT), .val (.int (0 : Int32)), .val (.int (0 : Int32)), .unset] [(.ref c_LIMIT)]))
    obtain ⟨v61, T61, L61, X61, hQ61, st61⟩ := own_callV X60 hx hZ (argsL := []) (rest := []) (rm2_1 l Z a0 hw c_Q c_LIMIT c_THRESHOLD c_MEASURE c_EVIDENCE c_WEIGHTS c_MODE c_CLOSURE c_ONE c_LIST c_FLAG h56 n0 O57 hS) hown (hw _ (List.mem_of_getElem? (i := 31) rfl)) (hw _ (List.mem_of_getElem? (i := 32) rfl)) (notFace_of_selects (args := #[]) (mvT hZ (hw _ (List.mem_of_getElem? (i := 34) rfl)))) (hw _ (List.mem_of_getElem? (i := 34) rfl)) (hw _ (List.mem_of_getElem? (i := 33) rfl)) (hw _ (List.mem_of_getElem? (i := 3) rfl)) (hw _ (List.mem_of_getElem? (i := 35) rfl)) (by decide) eq60 (hS.2.2.2.1.ext O57.2) (g := (mkF m 84 #[.val (.int p0), .val (.ref b33), .val (.int (1 : Int32)), .val (.ref c_LIMIT), .val (.int (0 : Int32)), .val (.int (0 : Int32)), .unset] [(.ref c_LIMIT)])) rfl (by rw [hml]; rfl) (lenOf own_pd__28_29Z rfl) rfl (W := 0) (by show 2 * 0 + _ ≤ _; exact Nat.le_of_eq rfl) (hb hby at_84) (by decide) (by decide) (by decide) (by decide)
    obtain ⟨rfl, Nq61, eq61⟩ := hQ61
    have N61 := Fr.app N60 Nq61
    refine own_st st61 ?_
    show own_go _ _ _ _ _ _ _ (T61.setTop (mkF m 87 #[.val (.int p0), .val (.ref b33), .val (.int (1 : Int32)), .val (.ref c_LIMIT), .val (.int (0 : Int32)), .val (.int (0 : Int32)), .unset] [(.int (0 : Int32))]))
    refine own_st (fun _ k => XS.istore X61.here hx rfl (hb hby at_87) rfl (l' := #[.val (.int p0), .val (.ref b33), .val (.int (1 : Int32)), .val (.ref c_LIMIT), .val (.int (0 : Int32)), .val (.int (0 : Int32)), .val (.int (0 : Int32))]) rfl k) ?_
    show own_go _ _ _ _ _ _ _ (T61.setTop (mkF m 89 #[.val (.int p0), .val (.ref b33), .val (.int (1 : Int32)), .val (.ref c_LIMIT), .val (.int (0 : Int32)), .val (.int (0 : Int32)), .val (.int (0 : Int32))] []))
    refine own_st (fun _ k => XS.iload X61.here hx rfl (hb hby at_89) rfl k) ?_
    show own_go _ _ _ _ _ _ _ (T61.setTop (mkF m 91 #[.val (.int p0), .val (.ref b33), .val (.int (1 : Int32)), .val (.ref c_LIMIT), .val (.int (0 : Int32)), .val (.int (0 : Int32)), .val (.int (0 : Int32))] [(.int (0 : Int32))]))
    refine own_st (fun _ k => XS.iload X61.here hx rfl (hb hby at_91) rfl k) ?_
    show own_go _ _ _ _ _ _ _ (T61.setTop (mkF m 93 #[.val (.int p0), .val (.ref b33), .val (.int (1 : Int32)), .val (.ref c_LIMIT), .val (.int (0 : Int32)), .val (.int (0 : Int32)), .val (.int (0 : Int32))] [(.int (0 : Int32)), (.int (0 : Int32))]))
    refine own_st (fun _ k => XS.icmpNo X61.here hx rfl (hb hby at_93) rfl (by decide) k) ?_
    show own_go _ _ _ _ _ _ _ (T61.setTop (mkF m 96 #[.val (.int p0), .val (.ref b33), .val (.int (1 : Int32)), .val (.ref c_LIMIT), .val (.int (0 : Int32)), .val (.int (0 : Int32)), .val (.int (0 : Int32))] []))
    refine own_st (fun _ k => XS.iload X61.here hx rfl (hb hby at_96) rfl k) ?_
    show own_go _ _ _ _ _ _ _ (T61.setTop (mkF m 98 #[.val (.int p0), .val (.ref b33), .val (.int (1 : Int32)), .val (.ref c_LIMIT), .val (.int (0 : Int32)), .val (.int (0 : Int32)), .val (.int (0 : Int32))] [(.int (0 : Int32))]))
    refine own_st (fun _ k => XS.ifYes X61.here hx rfl (pc0 := 98) (pc' := 106) rfl (hb hby at_98) rfl (by decide) (by decide) (by decide) k) ?_
    show own_go _ _ _ _ _ _ _ (T61.setTop (mkF m 106 #[.val (.int p0), .val (.ref b33), .val (.int (1 : Int32)), .val (.ref c_LIMIT), .val (.int (0 : Int32)), .val (.int (0 : Int32)), .val (.int (0 : Int32))] []))
    refine own_st (fun _ k => XS.iconst X61.here hx rfl (hb hby at_106) k) ?_
    show own_go _ _ _ _ _ _ _ (T61.setTop (mkF m 107 #[.val (.int p0), .val (.ref b33), .val (.int (1 : Int32)), .val (.ref c_LIMIT), .val (.int (0 : Int32)), .val (.int (0 : Int32)), .val (.int (0 : Int32))] [(.int (1 : Int32))]))
    refine own_st (fun _ k => XS.goto X61.here hx rfl (pc0 := 107) (pc' := 111) rfl (hb hby at_107) (by decide) (by decide) k) ?_
    show own_go _ _ _ _ _ _ _ (T61.setTop (mkF m 111 #[.val (.int p0), .val (.ref b33), .val (.int (1 : Int32)), .val (.ref c_LIMIT), .val (.int (0 : Int32)), .val (.int (0 : Int32)), .val (.int (0 : Int32))] [(.int (1 : Int32))]))
    exact own_retN X61 hx hlk (t := .boolean) hret (by simp) rfl (hb hby at_111) (by decide) (by decide) (⟨rfl, N61⟩)
  · skip
    rw [q]
    show own_go _ _ _ _ _ _ _ (T56.setTop (mkF m 60 #[.val (.int p0), .val (.ref b33), .unset, .unset, .unset, .unset, .unset] [(.int (2 : Int32))]))
    refine own_st (fun _ k => XS.istoreN X56.here hx rfl (hb hby at_60) rfl (l' := #[.val (.int p0), .val (.ref b33), .val (.int (2 : Int32)), .unset, .unset, .unset, .unset]) rfl k) ?_
    show own_go _ _ _ _ _ _ _ (T56.setTop (mkF m 61 #[.val (.int p0), .val (.ref b33), .val (.int (2 : Int32)), .unset, .unset, .unset, .unset] []))
    refine own_st (fun _ k => XS.aloadN X56.here hx rfl (hb hby at_61) rfl rfl k) ?_
    show own_go _ _ _ _ _ _ _ (T56.setTop (mkF m 62 #[.val (.int p0), .val (.ref b33), .val (.int (2 : Int32)), .unset, .unset, .unset, .unset] [(.ref b33)]))
    refine own_st (fun _ k => XS.iloadN X56.here hx rfl (hb hby at_62) rfl k) ?_
    show own_go _ _ _ _ _ _ _ (T56.setTop (mkF m 63 #[.val (.int p0), .val (.ref b33), .val (.int (2 : Int32)), .unset, .unset, .unset, .unset] [(.int (2 : Int32)), (.ref b33)]))
    refine own_st (own_get X56 hx hZ e56 V56 rfl (j := (2 : Int32)) (by decide) (v := (.ref c_THRESHOLD)) rfl (g := (mkF m 63 #[.val (.int p0), .val (.ref b33), .val (.int (2 : Int32)), .unset, .unset, .unset, .unset] [(.int (2 : Int32)), (.ref b33)])) rfl rfl (hb hby at_63)) ?_
    show own_go _ _ _ _ _ _ _ (T56.setTop (mkF m 64 #[.val (.int p0), .val (.ref b33), .val (.int (2 : Int32)), .unset, .unset, .unset, .unset] [(.ref c_THRESHOLD)]))
    refine own_st (fun _ k => XS.astoreN X56.here hx rfl (hb hby at_64) rfl rfl (l' := #[.val (.int p0), .val (.ref b33), .val (.int (2 : Int32)), .val (.ref c_THRESHOLD), .unset, .unset, .unset]) rfl k) ?_
    show own_go _ _ _ _ _ _ _ (T56.setTop (mkF m 65 #[.val (.int p0), .val (.ref b33), .val (.int (2 : Int32)), .val (.ref c_THRESHOLD), .unset, .unset, .unset] []))
    refine own_st (fun _ k => XS.iloadN X56.here hx rfl (hb hby at_65) rfl k) ?_
    show own_go _ _ _ _ _ _ _ (T56.setTop (mkF m 66 #[.val (.int p0), .val (.ref b33), .val (.int (2 : Int32)), .val (.ref c_THRESHOLD), .unset, .unset, .unset] [(.int (2 : Int32))]))
    refine own_st (fun _ k => XS.iconst X56.here hx rfl (hb hby at_66) k) ?_
    show own_go _ _ _ _ _ _ _ (T56.setTop (mkF m 67 #[.val (.int p0), .val (.ref b33), .val (.int (2 : Int32)), .val (.ref c_THRESHOLD), .unset, .unset, .unset] [(.int (5 : Int32)), (.int (2 : Int32))]))
    refine own_st (fun _ k => XS.icmpYes X56.here hx rfl (pc0 := 67) (pc' := 74) rfl (hb hby at_67) rfl (by decide) (by decide) (by decide) k) ?_
    show own_go _ _ _ _ _ _ _ (T56.setTop (mkF m 74 #[.val (.int p0), .val (.ref b33), .val (.int (2 : Int32)), .val (.ref c_THRESHOLD), .unset, .unset, .unset] []))
    refine own_st (fun _ k => XS.iconst X56.here hx rfl (hb hby at_74) k) ?_
    show own_go _ _ _ _ _ _ _ (T56.setTop (mkF m 75 #[.val (.int p0), .val (.ref b33), .val (.int (2 : Int32)), .val (.ref c_THRESHOLD), .unset, .unset, .unset] [(.int (0 : Int32))]))
    refine own_st (fun _ k => XS.istore X56.here hx rfl (hb hby at_75) rfl (l' := #[.val (.int p0), .val (.ref b33), .val (.int (2 : Int32)), .val (.ref c_THRESHOLD), .val (.int (0 : Int32)), .unset, .unset]) rfl k) ?_
    show own_go _ _ _ _ _ _ _ (T56.setTop (mkF m 77 #[.val (.int p0), .val (.ref b33), .val (.int (2 : Int32)), .val (.ref c_THRESHOLD), .val (.int (0 : Int32)), .unset, .unset] []))
    refine own_st (fun _ k => XS.aloadN X56.here hx rfl (hb hby at_77) rfl rfl k) ?_
    show own_go _ _ _ _ _ _ _ (T56.setTop (mkF m 78 #[.val (.int p0), .val (.ref b33), .val (.int (2 : Int32)), .val (.ref c_THRESHOLD), .val (.int (0 : Int32)), .unset, .unset] [(.ref c_THRESHOLD)]))
    obtain ⟨v62, T62, L62, X62, hQ62, st62⟩ := own_callV X56 hx hZ (argsL := []) (rest := []) (rm1_2 l Z a0 hw c_Q c_LIMIT c_THRESHOLD c_MEASURE c_EVIDENCE c_WEIGHTS c_MODE c_CLOSURE c_ONE c_LIST c_FLAG h56 n0 O57 hS) hown (hw _ (List.mem_of_getElem? (i := 20) rfl)) (hw _ (List.mem_of_getElem? (i := 21) rfl)) (notFace_of_selects (args := #[]) (mvT hZ (hw _ (List.mem_of_getElem? (i := 23) rfl)))) (hw _ (List.mem_of_getElem? (i := 23) rfl)) (hw _ (List.mem_of_getElem? (i := 22) rfl)) (hw _ (List.mem_of_getElem? (i := 3) rfl)) (hw _ (List.mem_of_getElem? (i := 24) rfl)) (by decide) e56 (hS.2.2.2.2.2.1.ext O57.2) (g := (mkF m 78 #[.val (.int p0), .val (.ref b33), .val (.int (2 : Int32)), .val (.ref c_THRESHOLD), .val (.int (0 : Int32)), .unset, .unset] [(.ref c_THRESHOLD)])) rfl (by rw [hml]; rfl) (lenOf own_pd__28_29Z rfl) rfl (W := 0) (by show 2 * 0 + _ ≤ _; exact Nat.le_of_eq rfl) (hb hby at_78) (by decide) (by decide) (by decide) (by decide)
    obtain ⟨rfl, Nq62, eq62⟩ := hQ62
    have N62 := Fr.app N56 Nq62
    refine own_st st62 ?_
    show own_go _ _ _ _ _ _ _ (T62.setTop (mkF m 81 #[.val (.int p0), .val (.ref b33), .val (.int (2 : Int32)), .val (.ref c_THRESHOLD), .val (.int (0 : Int32)), .unset, .unset] [(.int (0 : Int32))]))
    refine own_st (fun _ k => XS.istore X62.here hx rfl (hb hby at_81) rfl (l' := #[.val (.int p0), .val (.ref b33), .val (.int (2 : Int32)), .val (.ref c_THRESHOLD), .val (.int (0 : Int32)), .val (.int (0 : Int32)), .unset]) rfl k) ?_
    show own_go _ _ _ _ _ _ _ (T62.setTop (mkF m 83 #[.val (.int p0), .val (.ref b33), .val (.int (2 : Int32)), .val (.ref c_THRESHOLD), .val (.int (0 : Int32)), .val (.int (0 : Int32)), .unset] []))
    refine own_st (fun _ k => XS.aloadN X62.here hx rfl (hb hby at_83) rfl rfl k) ?_
    show own_go _ _ _ _ _ _ _ (T62.setTop (mkF m 84 #[.val (.int p0), .val (.ref b33), .val (.int (2 : Int32)), .val (.ref c_THRESHOLD), .val (.int (0 : Int32)), .val (.int (0 : Int32)), .unset] [(.ref c_THRESHOLD)]))
    obtain ⟨v63, T63, L63, X63, hQ63, st63⟩ := own_callV X62 hx hZ (argsL := []) (rest := []) (rm2_2 l Z a0 hw c_Q c_LIMIT c_THRESHOLD c_MEASURE c_EVIDENCE c_WEIGHTS c_MODE c_CLOSURE c_ONE c_LIST c_FLAG h56 n0 O57 hS) hown (hw _ (List.mem_of_getElem? (i := 31) rfl)) (hw _ (List.mem_of_getElem? (i := 32) rfl)) (notFace_of_selects (args := #[]) (mvT hZ (hw _ (List.mem_of_getElem? (i := 34) rfl)))) (hw _ (List.mem_of_getElem? (i := 34) rfl)) (hw _ (List.mem_of_getElem? (i := 33) rfl)) (hw _ (List.mem_of_getElem? (i := 3) rfl)) (hw _ (List.mem_of_getElem? (i := 35) rfl)) (by decide) eq62 (hS.2.2.2.2.2.1.ext O57.2) (g := (mkF m 84 #[.val (.int p0), .val (.ref b33), .val (.int (2 : Int32)), .val (.ref c_THRESHOLD), .val (.int (0 : Int32)), .val (.int (0 : Int32)), .unset] [(.ref c_THRESHOLD)])) rfl (by rw [hml]; rfl) (lenOf own_pd__28_29Z rfl) rfl (W := 0) (by show 2 * 0 + _ ≤ _; exact Nat.le_of_eq rfl) (hb hby at_84) (by decide) (by decide) (by decide) (by decide)
    obtain ⟨rfl, Nq63, eq63⟩ := hQ63
    have N63 := Fr.app N62 Nq63
    refine own_st st63 ?_
    show own_go _ _ _ _ _ _ _ (T63.setTop (mkF m 87 #[.val (.int p0), .val (.ref b33), .val (.int (2 : Int32)), .val (.ref c_THRESHOLD), .val (.int (0 : Int32)), .val (.int (0 : Int32)), .unset] [(.int (0 : Int32))]))
    refine own_st (fun _ k => XS.istore X63.here hx rfl (hb hby at_87) rfl (l' := #[.val (.int p0), .val (.ref b33), .val (.int (2 : Int32)), .val (.ref c_THRESHOLD), .val (.int (0 : Int32)), .val (.int (0 : Int32)), .val (.int (0 : Int32))]) rfl k) ?_
    show own_go _ _ _ _ _ _ _ (T63.setTop (mkF m 89 #[.val (.int p0), .val (.ref b33), .val (.int (2 : Int32)), .val (.ref c_THRESHOLD), .val (.int (0 : Int32)), .val (.int (0 : Int32)), .val (.int (0 : Int32))] []))
    refine own_st (fun _ k => XS.iload X63.here hx rfl (hb hby at_89) rfl k) ?_
    show own_go _ _ _ _ _ _ _ (T63.setTop (mkF m 91 #[.val (.int p0), .val (.ref b33), .val (.int (2 : Int32)), .val (.ref c_THRESHOLD), .val (.int (0 : Int32)), .val (.int (0 : Int32)), .val (.int (0 : Int32))] [(.int (0 : Int32))]))
    refine own_st (fun _ k => XS.iload X63.here hx rfl (hb hby at_91) rfl k) ?_
    show own_go _ _ _ _ _ _ _ (T63.setTop (mkF m 93 #[.val (.int p0), .val (.ref b33), .val (.int (2 : Int32)), .val (.ref c_THRESHOLD), .val (.int (0 : Int32)), .val (.int (0 : Int32)), .val (.int (0 : Int32))] [(.int (0 : Int32)), (.int (0 : Int32))]))
    refine own_st (fun _ k => XS.icmpNo X63.here hx rfl (hb hby at_93) rfl (by decide) k) ?_
    show own_go _ _ _ _ _ _ _ (T63.setTop (mkF m 96 #[.val (.int p0), .val (.ref b33), .val (.int (2 : Int32)), .val (.ref c_THRESHOLD), .val (.int (0 : Int32)), .val (.int (0 : Int32)), .val (.int (0 : Int32))] []))
    refine own_st (fun _ k => XS.iload X63.here hx rfl (hb hby at_96) rfl k) ?_
    show own_go _ _ _ _ _ _ _ (T63.setTop (mkF m 98 #[.val (.int p0), .val (.ref b33), .val (.int (2 : Int32)), .val (.ref c_THRESHOLD), .val (.int (0 : Int32)), .val (.int (0 : Int32)), .val (.int (0 : Int32))] [(.int (0 : Int32))]))
    refine own_st (fun _ k => XS.ifYes X63.here hx rfl (pc0 := 98) (pc' := 106) rfl (hb hby at_98) rfl (by decide) (by decide) (by decide) k) ?_
    show own_go _ _ _ _ _ _ _ (T63.setTop (mkF m 106 #[.val (.int p0), .val (.ref b33), .val (.int (2 : Int32)), .val (.ref c_THRESHOLD), .val (.int (0 : Int32)), .val (.int (0 : Int32)), .val (.int (0 : Int32))] []))
    refine own_st (fun _ k => XS.iconst X63.here hx rfl (hb hby at_106) k) ?_
    show own_go _ _ _ _ _ _ _ (T63.setTop (mkF m 107 #[.val (.int p0), .val (.ref b33), .val (.int (2 : Int32)), .val (.ref c_THRESHOLD), .val (.int (0 : Int32)), .val (.int (0 : Int32)), .val (.int (0 : Int32))] [(.int (1 : Int32))]))
    refine own_st (fun _ k => XS.goto X63.here hx rfl (pc0 := 107) (pc' := 111) rfl (hb hby at_107) (by decide) (by decide) k) ?_
    show own_go _ _ _ _ _ _ _ (T63.setTop (mkF m 111 #[.val (.int p0), .val (.ref b33), .val (.int (2 : Int32)), .val (.ref c_THRESHOLD), .val (.int (0 : Int32)), .val (.int (0 : Int32)), .val (.int (0 : Int32))] [(.int (1 : Int32))]))
    exact own_retN X63 hx hlk (t := .boolean) hret (by simp) rfl (hb hby at_111) (by decide) (by decide) (⟨rfl, N63⟩)
  · skip
    rw [q]
    show own_go _ _ _ _ _ _ _ (T56.setTop (mkF m 60 #[.val (.int p0), .val (.ref b33), .unset, .unset, .unset, .unset, .unset] [(.int (3 : Int32))]))
    refine own_st (fun _ k => XS.istoreN X56.here hx rfl (hb hby at_60) rfl (l' := #[.val (.int p0), .val (.ref b33), .val (.int (3 : Int32)), .unset, .unset, .unset, .unset]) rfl k) ?_
    show own_go _ _ _ _ _ _ _ (T56.setTop (mkF m 61 #[.val (.int p0), .val (.ref b33), .val (.int (3 : Int32)), .unset, .unset, .unset, .unset] []))
    refine own_st (fun _ k => XS.aloadN X56.here hx rfl (hb hby at_61) rfl rfl k) ?_
    show own_go _ _ _ _ _ _ _ (T56.setTop (mkF m 62 #[.val (.int p0), .val (.ref b33), .val (.int (3 : Int32)), .unset, .unset, .unset, .unset] [(.ref b33)]))
    refine own_st (fun _ k => XS.iloadN X56.here hx rfl (hb hby at_62) rfl k) ?_
    show own_go _ _ _ _ _ _ _ (T56.setTop (mkF m 63 #[.val (.int p0), .val (.ref b33), .val (.int (3 : Int32)), .unset, .unset, .unset, .unset] [(.int (3 : Int32)), (.ref b33)]))
    refine own_st (own_get X56 hx hZ e56 V56 rfl (j := (3 : Int32)) (by decide) (v := (.ref c_MEASURE)) rfl (g := (mkF m 63 #[.val (.int p0), .val (.ref b33), .val (.int (3 : Int32)), .unset, .unset, .unset, .unset] [(.int (3 : Int32)), (.ref b33)])) rfl rfl (hb hby at_63)) ?_
    show own_go _ _ _ _ _ _ _ (T56.setTop (mkF m 64 #[.val (.int p0), .val (.ref b33), .val (.int (3 : Int32)), .unset, .unset, .unset, .unset] [(.ref c_MEASURE)]))
    refine own_st (fun _ k => XS.astoreN X56.here hx rfl (hb hby at_64) rfl rfl (l' := #[.val (.int p0), .val (.ref b33), .val (.int (3 : Int32)), .val (.ref c_MEASURE), .unset, .unset, .unset]) rfl k) ?_
    show own_go _ _ _ _ _ _ _ (T56.setTop (mkF m 65 #[.val (.int p0), .val (.ref b33), .val (.int (3 : Int32)), .val (.ref c_MEASURE), .unset, .unset, .unset] []))
    refine own_st (fun _ k => XS.iloadN X56.here hx rfl (hb hby at_65) rfl k) ?_
    show own_go _ _ _ _ _ _ _ (T56.setTop (mkF m 66 #[.val (.int p0), .val (.ref b33), .val (.int (3 : Int32)), .val (.ref c_MEASURE), .unset, .unset, .unset] [(.int (3 : Int32))]))
    refine own_st (fun _ k => XS.iconst X56.here hx rfl (hb hby at_66) k) ?_
    show own_go _ _ _ _ _ _ _ (T56.setTop (mkF m 67 #[.val (.int p0), .val (.ref b33), .val (.int (3 : Int32)), .val (.ref c_MEASURE), .unset, .unset, .unset] [(.int (5 : Int32)), (.int (3 : Int32))]))
    refine own_st (fun _ k => XS.icmpYes X56.here hx rfl (pc0 := 67) (pc' := 74) rfl (hb hby at_67) rfl (by decide) (by decide) (by decide) k) ?_
    show own_go _ _ _ _ _ _ _ (T56.setTop (mkF m 74 #[.val (.int p0), .val (.ref b33), .val (.int (3 : Int32)), .val (.ref c_MEASURE), .unset, .unset, .unset] []))
    refine own_st (fun _ k => XS.iconst X56.here hx rfl (hb hby at_74) k) ?_
    show own_go _ _ _ _ _ _ _ (T56.setTop (mkF m 75 #[.val (.int p0), .val (.ref b33), .val (.int (3 : Int32)), .val (.ref c_MEASURE), .unset, .unset, .unset] [(.int (0 : Int32))]))
    refine own_st (fun _ k => XS.istore X56.here hx rfl (hb hby at_75) rfl (l' := #[.val (.int p0), .val (.ref b33), .val (.int (3 : Int32)), .val (.ref c_MEASURE), .val (.int (0 : Int32)), .unset, .unset]) rfl k) ?_
    show own_go _ _ _ _ _ _ _ (T56.setTop (mkF m 77 #[.val (.int p0), .val (.ref b33), .val (.int (3 : Int32)), .val (.ref c_MEASURE), .val (.int (0 : Int32)), .unset, .unset] []))
    refine own_st (fun _ k => XS.aloadN X56.here hx rfl (hb hby at_77) rfl rfl k) ?_
    show own_go _ _ _ _ _ _ _ (T56.setTop (mkF m 78 #[.val (.int p0), .val (.ref b33), .val (.int (3 : Int32)), .val (.ref c_MEASURE), .val (.int (0 : Int32)), .unset, .unset] [(.ref c_MEASURE)]))
    obtain ⟨v64, T64, L64, X64, hQ64, st64⟩ := own_callV X56 hx hZ (argsL := []) (rest := []) (rm1_3 l Z a0 hw c_Q c_LIMIT c_THRESHOLD c_MEASURE c_EVIDENCE c_WEIGHTS c_MODE c_CLOSURE c_ONE c_LIST c_FLAG h56 n0 O57 hS) hown (hw _ (List.mem_of_getElem? (i := 20) rfl)) (hw _ (List.mem_of_getElem? (i := 21) rfl)) (notFace_of_selects (args := #[]) (mvT hZ (hw _ (List.mem_of_getElem? (i := 23) rfl)))) (hw _ (List.mem_of_getElem? (i := 23) rfl)) (hw _ (List.mem_of_getElem? (i := 22) rfl)) (hw _ (List.mem_of_getElem? (i := 3) rfl)) (hw _ (List.mem_of_getElem? (i := 24) rfl)) (by decide) e56 (hS.2.2.2.2.2.2.2.1.ext O57.2) (g := (mkF m 78 #[.val (.int p0), .val (.ref b33), .val (.int (3 : Int32)), .val (.ref c_MEASURE), .val (.int (0 : Int32)), .unset, .unset] [(.ref c_MEASURE)])) rfl (by rw [hml]; rfl) (lenOf own_pd__28_29Z rfl) rfl (W := 0) (by show 2 * 0 + _ ≤ _; exact Nat.le_of_eq rfl) (hb hby at_78) (by decide) (by decide) (by decide) (by decide)
    obtain ⟨rfl, Nq64, eq64⟩ := hQ64
    have N64 := Fr.app N56 Nq64
    refine own_st st64 ?_
    show own_go _ _ _ _ _ _ _ (T64.setTop (mkF m 81 #[.val (.int p0), .val (.ref b33), .val (.int (3 : Int32)), .val (.ref c_MEASURE), .val (.int (0 : Int32)), .unset, .unset] [(.int (0 : Int32))]))
    refine own_st (fun _ k => XS.istore X64.here hx rfl (hb hby at_81) rfl (l' := #[.val (.int p0), .val (.ref b33), .val (.int (3 : Int32)), .val (.ref c_MEASURE), .val (.int (0 : Int32)), .val (.int (0 : Int32)), .unset]) rfl k) ?_
    show own_go _ _ _ _ _ _ _ (T64.setTop (mkF m 83 #[.val (.int p0), .val (.ref b33), .val (.int (3 : Int32)), .val (.ref c_MEASURE), .val (.int (0 : Int32)), .val (.int (0 : Int32)), .unset] []))
    refine own_st (fun _ k => XS.aloadN X64.here hx rfl (hb hby at_83) rfl rfl k) ?_
    show own_go _ _ _ _ _ _ _ (T64.setTop (mkF m 84 #[.val (.int p0), .val (.ref b33), .val (.int (3 : Int32)), .val (.ref c_MEASURE), .val (.int (0 : Int32)), .val (.int (0 : Int32)), .unset] [(.ref c_MEASURE)]))
    obtain ⟨v65, T65, L65, X65, hQ65, st65⟩ := own_callV X64 hx hZ (argsL := []) (rest := []) (rm2_3 l Z a0 hw c_Q c_LIMIT c_THRESHOLD c_MEASURE c_EVIDENCE c_WEIGHTS c_MODE c_CLOSURE c_ONE c_LIST c_FLAG h56 n0 O57 hS) hown (hw _ (List.mem_of_getElem? (i := 31) rfl)) (hw _ (List.mem_of_getElem? (i := 32) rfl)) (notFace_of_selects (args := #[]) (mvT hZ (hw _ (List.mem_of_getElem? (i := 34) rfl)))) (hw _ (List.mem_of_getElem? (i := 34) rfl)) (hw _ (List.mem_of_getElem? (i := 33) rfl)) (hw _ (List.mem_of_getElem? (i := 3) rfl)) (hw _ (List.mem_of_getElem? (i := 35) rfl)) (by decide) eq64 (hS.2.2.2.2.2.2.2.1.ext O57.2) (g := (mkF m 84 #[.val (.int p0), .val (.ref b33), .val (.int (3 : Int32)), .val (.ref c_MEASURE), .val (.int (0 : Int32)), .val (.int (0 : Int32)), .unset] [(.ref c_MEASURE)])) rfl (by rw [hml]; rfl) (lenOf own_pd__28_29Z rfl) rfl (W := 0) (by show 2 * 0 + _ ≤ _; exact Nat.le_of_eq rfl) (hb hby at_84) (by decide) (by decide) (by decide) (by decide)
    obtain ⟨rfl, Nq65, eq65⟩ := hQ65
    have N65 := Fr.app N64 Nq65
    refine own_st st65 ?_
    show own_go _ _ _ _ _ _ _ (T65.setTop (mkF m 87 #[.val (.int p0), .val (.ref b33), .val (.int (3 : Int32)), .val (.ref c_MEASURE), .val (.int (0 : Int32)), .val (.int (0 : Int32)), .unset] [(.int (0 : Int32))]))
    refine own_st (fun _ k => XS.istore X65.here hx rfl (hb hby at_87) rfl (l' := #[.val (.int p0), .val (.ref b33), .val (.int (3 : Int32)), .val (.ref c_MEASURE), .val (.int (0 : Int32)), .val (.int (0 : Int32)), .val (.int (0 : Int32))]) rfl k) ?_
    show own_go _ _ _ _ _ _ _ (T65.setTop (mkF m 89 #[.val (.int p0), .val (.ref b33), .val (.int (3 : Int32)), .val (.ref c_MEASURE), .val (.int (0 : Int32)), .val (.int (0 : Int32)), .val (.int (0 : Int32))] []))
    refine own_st (fun _ k => XS.iload X65.here hx rfl (hb hby at_89) rfl k) ?_
    show own_go _ _ _ _ _ _ _ (T65.setTop (mkF m 91 #[.val (.int p0), .val (.ref b33), .val (.int (3 : Int32)), .val (.ref c_MEASURE), .val (.int (0 : Int32)), .val (.int (0 : Int32)), .val (.int (0 : Int32))] [(.int (0 : Int32))]))
    refine own_st (fun _ k => XS.iload X65.here hx rfl (hb hby at_91) rfl k) ?_
    show own_go _ _ _ _ _ _ _ (T65.setTop (mkF m 93 #[.val (.int p0), .val (.ref b33), .val (.int (3 : Int32)), .val (.ref c_MEASURE), .val (.int (0 : Int32)), .val (.int (0 : Int32)), .val (.int (0 : Int32))] [(.int (0 : Int32)), (.int (0 : Int32))]))
    refine own_st (fun _ k => XS.icmpNo X65.here hx rfl (hb hby at_93) rfl (by decide) k) ?_
    show own_go _ _ _ _ _ _ _ (T65.setTop (mkF m 96 #[.val (.int p0), .val (.ref b33), .val (.int (3 : Int32)), .val (.ref c_MEASURE), .val (.int (0 : Int32)), .val (.int (0 : Int32)), .val (.int (0 : Int32))] []))
    refine own_st (fun _ k => XS.iload X65.here hx rfl (hb hby at_96) rfl k) ?_
    show own_go _ _ _ _ _ _ _ (T65.setTop (mkF m 98 #[.val (.int p0), .val (.ref b33), .val (.int (3 : Int32)), .val (.ref c_MEASURE), .val (.int (0 : Int32)), .val (.int (0 : Int32)), .val (.int (0 : Int32))] [(.int (0 : Int32))]))
    refine own_st (fun _ k => XS.ifYes X65.here hx rfl (pc0 := 98) (pc' := 106) rfl (hb hby at_98) rfl (by decide) (by decide) (by decide) k) ?_
    show own_go _ _ _ _ _ _ _ (T65.setTop (mkF m 106 #[.val (.int p0), .val (.ref b33), .val (.int (3 : Int32)), .val (.ref c_MEASURE), .val (.int (0 : Int32)), .val (.int (0 : Int32)), .val (.int (0 : Int32))] []))
    refine own_st (fun _ k => XS.iconst X65.here hx rfl (hb hby at_106) k) ?_
    show own_go _ _ _ _ _ _ _ (T65.setTop (mkF m 107 #[.val (.int p0), .val (.ref b33), .val (.int (3 : Int32)), .val (.ref c_MEASURE), .val (.int (0 : Int32)), .val (.int (0 : Int32)), .val (.int (0 : Int32))] [(.int (1 : Int32))]))
    refine own_st (fun _ k => XS.goto X65.here hx rfl (pc0 := 107) (pc' := 111) rfl (hb hby at_107) (by decide) (by decide) k) ?_
    show own_go _ _ _ _ _ _ _ (T65.setTop (mkF m 111 #[.val (.int p0), .val (.ref b33), .val (.int (3 : Int32)), .val (.ref c_MEASURE), .val (.int (0 : Int32)), .val (.int (0 : Int32)), .val (.int (0 : Int32))] [(.int (1 : Int32))]))
    exact own_retN X65 hx hlk (t := .boolean) hret (by simp) rfl (hb hby at_111) (by decide) (by decide) (⟨rfl, N65⟩)
  · skip
    rw [q]
    show own_go _ _ _ _ _ _ _ (T56.setTop (mkF m 60 #[.val (.int p0), .val (.ref b33), .unset, .unset, .unset, .unset, .unset] [(.int (4 : Int32))]))
    refine own_st (fun _ k => XS.istoreN X56.here hx rfl (hb hby at_60) rfl (l' := #[.val (.int p0), .val (.ref b33), .val (.int (4 : Int32)), .unset, .unset, .unset, .unset]) rfl k) ?_
    show own_go _ _ _ _ _ _ _ (T56.setTop (mkF m 61 #[.val (.int p0), .val (.ref b33), .val (.int (4 : Int32)), .unset, .unset, .unset, .unset] []))
    refine own_st (fun _ k => XS.aloadN X56.here hx rfl (hb hby at_61) rfl rfl k) ?_
    show own_go _ _ _ _ _ _ _ (T56.setTop (mkF m 62 #[.val (.int p0), .val (.ref b33), .val (.int (4 : Int32)), .unset, .unset, .unset, .unset] [(.ref b33)]))
    refine own_st (fun _ k => XS.iloadN X56.here hx rfl (hb hby at_62) rfl k) ?_
    show own_go _ _ _ _ _ _ _ (T56.setTop (mkF m 63 #[.val (.int p0), .val (.ref b33), .val (.int (4 : Int32)), .unset, .unset, .unset, .unset] [(.int (4 : Int32)), (.ref b33)]))
    refine own_st (own_get X56 hx hZ e56 V56 rfl (j := (4 : Int32)) (by decide) (v := (.ref c_EVIDENCE)) rfl (g := (mkF m 63 #[.val (.int p0), .val (.ref b33), .val (.int (4 : Int32)), .unset, .unset, .unset, .unset] [(.int (4 : Int32)), (.ref b33)])) rfl rfl (hb hby at_63)) ?_
    show own_go _ _ _ _ _ _ _ (T56.setTop (mkF m 64 #[.val (.int p0), .val (.ref b33), .val (.int (4 : Int32)), .unset, .unset, .unset, .unset] [(.ref c_EVIDENCE)]))
    refine own_st (fun _ k => XS.astoreN X56.here hx rfl (hb hby at_64) rfl rfl (l' := #[.val (.int p0), .val (.ref b33), .val (.int (4 : Int32)), .val (.ref c_EVIDENCE), .unset, .unset, .unset]) rfl k) ?_
    show own_go _ _ _ _ _ _ _ (T56.setTop (mkF m 65 #[.val (.int p0), .val (.ref b33), .val (.int (4 : Int32)), .val (.ref c_EVIDENCE), .unset, .unset, .unset] []))
    refine own_st (fun _ k => XS.iloadN X56.here hx rfl (hb hby at_65) rfl k) ?_
    show own_go _ _ _ _ _ _ _ (T56.setTop (mkF m 66 #[.val (.int p0), .val (.ref b33), .val (.int (4 : Int32)), .val (.ref c_EVIDENCE), .unset, .unset, .unset] [(.int (4 : Int32))]))
    refine own_st (fun _ k => XS.iconst X56.here hx rfl (hb hby at_66) k) ?_
    show own_go _ _ _ _ _ _ _ (T56.setTop (mkF m 67 #[.val (.int p0), .val (.ref b33), .val (.int (4 : Int32)), .val (.ref c_EVIDENCE), .unset, .unset, .unset] [(.int (5 : Int32)), (.int (4 : Int32))]))
    refine own_st (fun _ k => XS.icmpYes X56.here hx rfl (pc0 := 67) (pc' := 74) rfl (hb hby at_67) rfl (by decide) (by decide) (by decide) k) ?_
    show own_go _ _ _ _ _ _ _ (T56.setTop (mkF m 74 #[.val (.int p0), .val (.ref b33), .val (.int (4 : Int32)), .val (.ref c_EVIDENCE), .unset, .unset, .unset] []))
    refine own_st (fun _ k => XS.iconst X56.here hx rfl (hb hby at_74) k) ?_
    show own_go _ _ _ _ _ _ _ (T56.setTop (mkF m 75 #[.val (.int p0), .val (.ref b33), .val (.int (4 : Int32)), .val (.ref c_EVIDENCE), .unset, .unset, .unset] [(.int (0 : Int32))]))
    refine own_st (fun _ k => XS.istore X56.here hx rfl (hb hby at_75) rfl (l' := #[.val (.int p0), .val (.ref b33), .val (.int (4 : Int32)), .val (.ref c_EVIDENCE), .val (.int (0 : Int32)), .unset, .unset]) rfl k) ?_
    show own_go _ _ _ _ _ _ _ (T56.setTop (mkF m 77 #[.val (.int p0), .val (.ref b33), .val (.int (4 : Int32)), .val (.ref c_EVIDENCE), .val (.int (0 : Int32)), .unset, .unset] []))
    refine own_st (fun _ k => XS.aloadN X56.here hx rfl (hb hby at_77) rfl rfl k) ?_
    show own_go _ _ _ _ _ _ _ (T56.setTop (mkF m 78 #[.val (.int p0), .val (.ref b33), .val (.int (4 : Int32)), .val (.ref c_EVIDENCE), .val (.int (0 : Int32)), .unset, .unset] [(.ref c_EVIDENCE)]))
    obtain ⟨v66, T66, L66, X66, hQ66, st66⟩ := own_callV X56 hx hZ (argsL := []) (rest := []) (rm1_4 l Z a0 hw c_Q c_LIMIT c_THRESHOLD c_MEASURE c_EVIDENCE c_WEIGHTS c_MODE c_CLOSURE c_ONE c_LIST c_FLAG h56 n0 O57 hS) hown (hw _ (List.mem_of_getElem? (i := 20) rfl)) (hw _ (List.mem_of_getElem? (i := 21) rfl)) (notFace_of_selects (args := #[]) (mvT hZ (hw _ (List.mem_of_getElem? (i := 23) rfl)))) (hw _ (List.mem_of_getElem? (i := 23) rfl)) (hw _ (List.mem_of_getElem? (i := 22) rfl)) (hw _ (List.mem_of_getElem? (i := 3) rfl)) (hw _ (List.mem_of_getElem? (i := 24) rfl)) (by decide) e56 (hS.2.2.2.2.2.2.2.2.2.1.ext O57.2) (g := (mkF m 78 #[.val (.int p0), .val (.ref b33), .val (.int (4 : Int32)), .val (.ref c_EVIDENCE), .val (.int (0 : Int32)), .unset, .unset] [(.ref c_EVIDENCE)])) rfl (by rw [hml]; rfl) (lenOf own_pd__28_29Z rfl) rfl (W := 0) (by show 2 * 0 + _ ≤ _; exact Nat.le_of_eq rfl) (hb hby at_78) (by decide) (by decide) (by decide) (by decide)
    obtain ⟨rfl, Nq66, eq66⟩ := hQ66
    have N66 := Fr.app N56 Nq66
    refine own_st st66 ?_
    show own_go _ _ _ _ _ _ _ (T66.setTop (mkF m 81 #[.val (.int p0), .val (.ref b33), .val (.int (4 : Int32)), .val (.ref c_EVIDENCE), .val (.int (0 : Int32)), .unset, .unset] [(.int (0 : Int32))]))
    refine own_st (fun _ k => XS.istore X66.here hx rfl (hb hby at_81) rfl (l' := #[.val (.int p0), .val (.ref b33), .val (.int (4 : Int32)), .val (.ref c_EVIDENCE), .val (.int (0 : Int32)), .val (.int (0 : Int32)), .unset]) rfl k) ?_
    show own_go _ _ _ _ _ _ _ (T66.setTop (mkF m 83 #[.val (.int p0), .val (.ref b33), .val (.int (4 : Int32)), .val (.ref c_EVIDENCE), .val (.int (0 : Int32)), .val (.int (0 : Int32)), .unset] []))
    refine own_st (fun _ k => XS.aloadN X66.here hx rfl (hb hby at_83) rfl rfl k) ?_
    show own_go _ _ _ _ _ _ _ (T66.setTop (mkF m 84 #[.val (.int p0), .val (.ref b33), .val (.int (4 : Int32)), .val (.ref c_EVIDENCE), .val (.int (0 : Int32)), .val (.int (0 : Int32)), .unset] [(.ref c_EVIDENCE)]))
    obtain ⟨v67, T67, L67, X67, hQ67, st67⟩ := own_callV X66 hx hZ (argsL := []) (rest := []) (rm2_4 l Z a0 hw c_Q c_LIMIT c_THRESHOLD c_MEASURE c_EVIDENCE c_WEIGHTS c_MODE c_CLOSURE c_ONE c_LIST c_FLAG h56 n0 O57 hS) hown (hw _ (List.mem_of_getElem? (i := 31) rfl)) (hw _ (List.mem_of_getElem? (i := 32) rfl)) (notFace_of_selects (args := #[]) (mvT hZ (hw _ (List.mem_of_getElem? (i := 34) rfl)))) (hw _ (List.mem_of_getElem? (i := 34) rfl)) (hw _ (List.mem_of_getElem? (i := 33) rfl)) (hw _ (List.mem_of_getElem? (i := 3) rfl)) (hw _ (List.mem_of_getElem? (i := 35) rfl)) (by decide) eq66 (hS.2.2.2.2.2.2.2.2.2.1.ext O57.2) (g := (mkF m 84 #[.val (.int p0), .val (.ref b33), .val (.int (4 : Int32)), .val (.ref c_EVIDENCE), .val (.int (0 : Int32)), .val (.int (0 : Int32)), .unset] [(.ref c_EVIDENCE)])) rfl (by rw [hml]; rfl) (lenOf own_pd__28_29Z rfl) rfl (W := 0) (by show 2 * 0 + _ ≤ _; exact Nat.le_of_eq rfl) (hb hby at_84) (by decide) (by decide) (by decide) (by decide)
    obtain ⟨rfl, Nq67, eq67⟩ := hQ67
    have N67 := Fr.app N66 Nq67
    refine own_st st67 ?_
    show own_go _ _ _ _ _ _ _ (T67.setTop (mkF m 87 #[.val (.int p0), .val (.ref b33), .val (.int (4 : Int32)), .val (.ref c_EVIDENCE), .val (.int (0 : Int32)), .val (.int (0 : Int32)), .unset] [(.int (0 : Int32))]))
    refine own_st (fun _ k => XS.istore X67.here hx rfl (hb hby at_87) rfl (l' := #[.val (.int p0), .val (.ref b33), .val (.int (4 : Int32)), .val (.ref c_EVIDENCE), .val (.int (0 : Int32)), .val (.int (0 : Int32)), .val (.int (0 : Int32))]) rfl k) ?_
    show own_go _ _ _ _ _ _ _ (T67.setTop (mkF m 89 #[.val (.int p0), .val (.ref b33), .val (.int (4 : Int32)), .val (.ref c_EVIDENCE), .val (.int (0 : Int32)), .val (.int (0 : Int32)), .val (.int (0 : Int32))] []))
    refine own_st (fun _ k => XS.iload X67.here hx rfl (hb hby at_89) rfl k) ?_
    show own_go _ _ _ _ _ _ _ (T67.setTop (mkF m 91 #[.val (.int p0), .val (.ref b33), .val (.int (4 : Int32)), .val (.ref c_EVIDENCE), .val (.int (0 : Int32)), .val (.int (0 : Int32)), .val (.int (0 : Int32))] [(.int (0 : Int32))]))
    refine own_st (fun _ k => XS.iload X67.here hx rfl (hb hby at_91) rfl k) ?_
    show own_go _ _ _ _ _ _ _ (T67.setTop (mkF m 93 #[.val (.int p0), .val (.ref b33), .val (.int (4 : Int32)), .val (.ref c_EVIDENCE), .val (.int (0 : Int32)), .val (.int (0 : Int32)), .val (.int (0 : Int32))] [(.int (0 : Int32)), (.int (0 : Int32))]))
    refine own_st (fun _ k => XS.icmpNo X67.here hx rfl (hb hby at_93) rfl (by decide) k) ?_
    show own_go _ _ _ _ _ _ _ (T67.setTop (mkF m 96 #[.val (.int p0), .val (.ref b33), .val (.int (4 : Int32)), .val (.ref c_EVIDENCE), .val (.int (0 : Int32)), .val (.int (0 : Int32)), .val (.int (0 : Int32))] []))
    refine own_st (fun _ k => XS.iload X67.here hx rfl (hb hby at_96) rfl k) ?_
    show own_go _ _ _ _ _ _ _ (T67.setTop (mkF m 98 #[.val (.int p0), .val (.ref b33), .val (.int (4 : Int32)), .val (.ref c_EVIDENCE), .val (.int (0 : Int32)), .val (.int (0 : Int32)), .val (.int (0 : Int32))] [(.int (0 : Int32))]))
    refine own_st (fun _ k => XS.ifYes X67.here hx rfl (pc0 := 98) (pc' := 106) rfl (hb hby at_98) rfl (by decide) (by decide) (by decide) k) ?_
    show own_go _ _ _ _ _ _ _ (T67.setTop (mkF m 106 #[.val (.int p0), .val (.ref b33), .val (.int (4 : Int32)), .val (.ref c_EVIDENCE), .val (.int (0 : Int32)), .val (.int (0 : Int32)), .val (.int (0 : Int32))] []))
    refine own_st (fun _ k => XS.iconst X67.here hx rfl (hb hby at_106) k) ?_
    show own_go _ _ _ _ _ _ _ (T67.setTop (mkF m 107 #[.val (.int p0), .val (.ref b33), .val (.int (4 : Int32)), .val (.ref c_EVIDENCE), .val (.int (0 : Int32)), .val (.int (0 : Int32)), .val (.int (0 : Int32))] [(.int (1 : Int32))]))
    refine own_st (fun _ k => XS.goto X67.here hx rfl (pc0 := 107) (pc' := 111) rfl (hb hby at_107) (by decide) (by decide) k) ?_
    show own_go _ _ _ _ _ _ _ (T67.setTop (mkF m 111 #[.val (.int p0), .val (.ref b33), .val (.int (4 : Int32)), .val (.ref c_EVIDENCE), .val (.int (0 : Int32)), .val (.int (0 : Int32)), .val (.int (0 : Int32))] [(.int (1 : Int32))]))
    exact own_retN X67 hx hlk (t := .boolean) hret (by simp) rfl (hb hby at_111) (by decide) (by decide) (⟨rfl, N67⟩)
  · skip
    rw [q]
    show own_go _ _ _ _ _ _ _ (T56.setTop (mkF m 60 #[.val (.int p0), .val (.ref b33), .unset, .unset, .unset, .unset, .unset] [(.int (5 : Int32))]))
    refine own_st (fun _ k => XS.istoreN X56.here hx rfl (hb hby at_60) rfl (l' := #[.val (.int p0), .val (.ref b33), .val (.int (5 : Int32)), .unset, .unset, .unset, .unset]) rfl k) ?_
    show own_go _ _ _ _ _ _ _ (T56.setTop (mkF m 61 #[.val (.int p0), .val (.ref b33), .val (.int (5 : Int32)), .unset, .unset, .unset, .unset] []))
    refine own_st (fun _ k => XS.aloadN X56.here hx rfl (hb hby at_61) rfl rfl k) ?_
    show own_go _ _ _ _ _ _ _ (T56.setTop (mkF m 62 #[.val (.int p0), .val (.ref b33), .val (.int (5 : Int32)), .unset, .unset, .unset, .unset] [(.ref b33)]))
    refine own_st (fun _ k => XS.iloadN X56.here hx rfl (hb hby at_62) rfl k) ?_
    show own_go _ _ _ _ _ _ _ (T56.setTop (mkF m 63 #[.val (.int p0), .val (.ref b33), .val (.int (5 : Int32)), .unset, .unset, .unset, .unset] [(.int (5 : Int32)), (.ref b33)]))
    refine own_st (own_get X56 hx hZ e56 V56 rfl (j := (5 : Int32)) (by decide) (v := (.ref c_WEIGHTS)) rfl (g := (mkF m 63 #[.val (.int p0), .val (.ref b33), .val (.int (5 : Int32)), .unset, .unset, .unset, .unset] [(.int (5 : Int32)), (.ref b33)])) rfl rfl (hb hby at_63)) ?_
    show own_go _ _ _ _ _ _ _ (T56.setTop (mkF m 64 #[.val (.int p0), .val (.ref b33), .val (.int (5 : Int32)), .unset, .unset, .unset, .unset] [(.ref c_WEIGHTS)]))
    refine own_st (fun _ k => XS.astoreN X56.here hx rfl (hb hby at_64) rfl rfl (l' := #[.val (.int p0), .val (.ref b33), .val (.int (5 : Int32)), .val (.ref c_WEIGHTS), .unset, .unset, .unset]) rfl k) ?_
    show own_go _ _ _ _ _ _ _ (T56.setTop (mkF m 65 #[.val (.int p0), .val (.ref b33), .val (.int (5 : Int32)), .val (.ref c_WEIGHTS), .unset, .unset, .unset] []))
    refine own_st (fun _ k => XS.iloadN X56.here hx rfl (hb hby at_65) rfl k) ?_
    show own_go _ _ _ _ _ _ _ (T56.setTop (mkF m 66 #[.val (.int p0), .val (.ref b33), .val (.int (5 : Int32)), .val (.ref c_WEIGHTS), .unset, .unset, .unset] [(.int (5 : Int32))]))
    refine own_st (fun _ k => XS.iconst X56.here hx rfl (hb hby at_66) k) ?_
    show own_go _ _ _ _ _ _ _ (T56.setTop (mkF m 67 #[.val (.int p0), .val (.ref b33), .val (.int (5 : Int32)), .val (.ref c_WEIGHTS), .unset, .unset, .unset] [(.int (5 : Int32)), (.int (5 : Int32))]))
    refine own_st (fun _ k => XS.icmpNo X56.here hx rfl (hb hby at_67) rfl (by decide) k) ?_
    show own_go _ _ _ _ _ _ _ (T56.setTop (mkF m 70 #[.val (.int p0), .val (.ref b33), .val (.int (5 : Int32)), .val (.ref c_WEIGHTS), .unset, .unset, .unset] []))
    refine own_st (fun _ k => XS.iconst X56.here hx rfl (hb hby at_70) k) ?_
    show own_go _ _ _ _ _ _ _ (T56.setTop (mkF m 71 #[.val (.int p0), .val (.ref b33), .val (.int (5 : Int32)), .val (.ref c_WEIGHTS), .unset, .unset, .unset] [(.int (1 : Int32))]))
    refine own_st (fun _ k => XS.goto X56.here hx rfl (pc0 := 71) (pc' := 75) rfl (hb hby at_71) (by decide) (by decide) k) ?_
    show own_go _ _ _ _ _ _ _ (T56.setTop (mkF m 75 #[.val (.int p0), .val (.ref b33), .val (.int (5 : Int32)), .val (.ref c_WEIGHTS), .unset, .unset, .unset] [(.int (1 : Int32))]))
    refine own_st (fun _ k => XS.istore X56.here hx rfl (hb hby at_75) rfl (l' := #[.val (.int p0), .val (.ref b33), .val (.int (5 : Int32)), .val (.ref c_WEIGHTS), .val (.int (1 : Int32)), .unset, .unset]) rfl k) ?_
    show own_go _ _ _ _ _ _ _ (T56.setTop (mkF m 77 #[.val (.int p0), .val (.ref b33), .val (.int (5 : Int32)), .val (.ref c_WEIGHTS), .val (.int (1 : Int32)), .unset, .unset] []))
    refine own_st (fun _ k => XS.aloadN X56.here hx rfl (hb hby at_77) rfl rfl k) ?_
    show own_go _ _ _ _ _ _ _ (T56.setTop (mkF m 78 #[.val (.int p0), .val (.ref b33), .val (.int (5 : Int32)), .val (.ref c_WEIGHTS), .val (.int (1 : Int32)), .unset, .unset] [(.ref c_WEIGHTS)]))
    obtain ⟨v68, T68, L68, X68, hQ68, st68⟩ := own_callV X56 hx hZ (argsL := []) (rest := []) (rm1_5 l Z a0 hw c_Q c_LIMIT c_THRESHOLD c_MEASURE c_EVIDENCE c_WEIGHTS c_MODE c_CLOSURE c_ONE c_LIST c_FLAG h56 n0 O57 hS) hown (hw _ (List.mem_of_getElem? (i := 20) rfl)) (hw _ (List.mem_of_getElem? (i := 21) rfl)) (notFace_of_selects (args := #[]) (mvT hZ (hw _ (List.mem_of_getElem? (i := 23) rfl)))) (hw _ (List.mem_of_getElem? (i := 23) rfl)) (hw _ (List.mem_of_getElem? (i := 22) rfl)) (hw _ (List.mem_of_getElem? (i := 3) rfl)) (hw _ (List.mem_of_getElem? (i := 24) rfl)) (by decide) e56 (hS.2.2.2.2.2.2.2.2.2.2.2.1.ext O57.2) (g := (mkF m 78 #[.val (.int p0), .val (.ref b33), .val (.int (5 : Int32)), .val (.ref c_WEIGHTS), .val (.int (1 : Int32)), .unset, .unset] [(.ref c_WEIGHTS)])) rfl (by rw [hml]; rfl) (lenOf own_pd__28_29Z rfl) rfl (W := 0) (by show 2 * 0 + _ ≤ _; exact Nat.le_of_eq rfl) (hb hby at_78) (by decide) (by decide) (by decide) (by decide)
    obtain ⟨rfl, Nq68, eq68⟩ := hQ68
    have N68 := Fr.app N56 Nq68
    refine own_st st68 ?_
    show own_go _ _ _ _ _ _ _ (T68.setTop (mkF m 81 #[.val (.int p0), .val (.ref b33), .val (.int (5 : Int32)), .val (.ref c_WEIGHTS), .val (.int (1 : Int32)), .unset, .unset] [(.int (1 : Int32))]))
    refine own_st (fun _ k => XS.istore X68.here hx rfl (hb hby at_81) rfl (l' := #[.val (.int p0), .val (.ref b33), .val (.int (5 : Int32)), .val (.ref c_WEIGHTS), .val (.int (1 : Int32)), .val (.int (1 : Int32)), .unset]) rfl k) ?_
    show own_go _ _ _ _ _ _ _ (T68.setTop (mkF m 83 #[.val (.int p0), .val (.ref b33), .val (.int (5 : Int32)), .val (.ref c_WEIGHTS), .val (.int (1 : Int32)), .val (.int (1 : Int32)), .unset] []))
    refine own_st (fun _ k => XS.aloadN X68.here hx rfl (hb hby at_83) rfl rfl k) ?_
    show own_go _ _ _ _ _ _ _ (T68.setTop (mkF m 84 #[.val (.int p0), .val (.ref b33), .val (.int (5 : Int32)), .val (.ref c_WEIGHTS), .val (.int (1 : Int32)), .val (.int (1 : Int32)), .unset] [(.ref c_WEIGHTS)]))
    obtain ⟨v69, T69, L69, X69, hQ69, st69⟩ := own_callV X68 hx hZ (argsL := []) (rest := []) (rm2_5 l Z a0 hw c_Q c_LIMIT c_THRESHOLD c_MEASURE c_EVIDENCE c_WEIGHTS c_MODE c_CLOSURE c_ONE c_LIST c_FLAG h56 n0 O57 hS) hown (hw _ (List.mem_of_getElem? (i := 31) rfl)) (hw _ (List.mem_of_getElem? (i := 32) rfl)) (notFace_of_selects (args := #[]) (mvT hZ (hw _ (List.mem_of_getElem? (i := 34) rfl)))) (hw _ (List.mem_of_getElem? (i := 34) rfl)) (hw _ (List.mem_of_getElem? (i := 33) rfl)) (hw _ (List.mem_of_getElem? (i := 3) rfl)) (hw _ (List.mem_of_getElem? (i := 35) rfl)) (by decide) eq68 (hS.2.2.2.2.2.2.2.2.2.2.2.1.ext O57.2) (g := (mkF m 84 #[.val (.int p0), .val (.ref b33), .val (.int (5 : Int32)), .val (.ref c_WEIGHTS), .val (.int (1 : Int32)), .val (.int (1 : Int32)), .unset] [(.ref c_WEIGHTS)])) rfl (by rw [hml]; rfl) (lenOf own_pd__28_29Z rfl) rfl (W := 0) (by show 2 * 0 + _ ≤ _; exact Nat.le_of_eq rfl) (hb hby at_84) (by decide) (by decide) (by decide) (by decide)
    obtain ⟨rfl, Nq69, eq69⟩ := hQ69
    have N69 := Fr.app N68 Nq69
    refine own_st st69 ?_
    show own_go _ _ _ _ _ _ _ (T69.setTop (mkF m 87 #[.val (.int p0), .val (.ref b33), .val (.int (5 : Int32)), .val (.ref c_WEIGHTS), .val (.int (1 : Int32)), .val (.int (1 : Int32)), .unset] [(.int (0 : Int32))]))
    refine own_st (fun _ k => XS.istore X69.here hx rfl (hb hby at_87) rfl (l' := #[.val (.int p0), .val (.ref b33), .val (.int (5 : Int32)), .val (.ref c_WEIGHTS), .val (.int (1 : Int32)), .val (.int (1 : Int32)), .val (.int (0 : Int32))]) rfl k) ?_
    show own_go _ _ _ _ _ _ _ (T69.setTop (mkF m 89 #[.val (.int p0), .val (.ref b33), .val (.int (5 : Int32)), .val (.ref c_WEIGHTS), .val (.int (1 : Int32)), .val (.int (1 : Int32)), .val (.int (0 : Int32))] []))
    refine own_st (fun _ k => XS.iload X69.here hx rfl (hb hby at_89) rfl k) ?_
    show own_go _ _ _ _ _ _ _ (T69.setTop (mkF m 91 #[.val (.int p0), .val (.ref b33), .val (.int (5 : Int32)), .val (.ref c_WEIGHTS), .val (.int (1 : Int32)), .val (.int (1 : Int32)), .val (.int (0 : Int32))] [(.int (1 : Int32))]))
    refine own_st (fun _ k => XS.iload X69.here hx rfl (hb hby at_91) rfl k) ?_
    show own_go _ _ _ _ _ _ _ (T69.setTop (mkF m 93 #[.val (.int p0), .val (.ref b33), .val (.int (5 : Int32)), .val (.ref c_WEIGHTS), .val (.int (1 : Int32)), .val (.int (1 : Int32)), .val (.int (0 : Int32))] [(.int (1 : Int32)), (.int (1 : Int32))]))
    refine own_st (fun _ k => XS.icmpNo X69.here hx rfl (hb hby at_93) rfl (by decide) k) ?_
    show own_go _ _ _ _ _ _ _ (T69.setTop (mkF m 96 #[.val (.int p0), .val (.ref b33), .val (.int (5 : Int32)), .val (.ref c_WEIGHTS), .val (.int (1 : Int32)), .val (.int (1 : Int32)), .val (.int (0 : Int32))] []))
    refine own_st (fun _ k => XS.iload X69.here hx rfl (hb hby at_96) rfl k) ?_
    show own_go _ _ _ _ _ _ _ (T69.setTop (mkF m 98 #[.val (.int p0), .val (.ref b33), .val (.int (5 : Int32)), .val (.ref c_WEIGHTS), .val (.int (1 : Int32)), .val (.int (1 : Int32)), .val (.int (0 : Int32))] [(.int (1 : Int32))]))
    refine own_st (fun _ k => XS.ifNo X69.here hx rfl (hb hby at_98) rfl (by decide) k) ?_
    show own_go _ _ _ _ _ _ _ (T69.setTop (mkF m 101 #[.val (.int p0), .val (.ref b33), .val (.int (5 : Int32)), .val (.ref c_WEIGHTS), .val (.int (1 : Int32)), .val (.int (1 : Int32)), .val (.int (0 : Int32))] []))
    refine own_st (fun _ k => XS.iload X69.here hx rfl (hb hby at_101) rfl k) ?_
    show own_go _ _ _ _ _ _ _ (T69.setTop (mkF m 103 #[.val (.int p0), .val (.ref b33), .val (.int (5 : Int32)), .val (.ref c_WEIGHTS), .val (.int (1 : Int32)), .val (.int (1 : Int32)), .val (.int (0 : Int32))] [(.int (0 : Int32))]))
    refine own_st (fun _ k => XS.ifNo X69.here hx rfl (hb hby at_103) rfl (by decide) k) ?_
    show own_go _ _ _ _ _ _ _ (T69.setTop (mkF m 106 #[.val (.int p0), .val (.ref b33), .val (.int (5 : Int32)), .val (.ref c_WEIGHTS), .val (.int (1 : Int32)), .val (.int (1 : Int32)), .val (.int (0 : Int32))] []))
    refine own_st (fun _ k => XS.iconst X69.here hx rfl (hb hby at_106) k) ?_
    show own_go _ _ _ _ _ _ _ (T69.setTop (mkF m 107 #[.val (.int p0), .val (.ref b33), .val (.int (5 : Int32)), .val (.ref c_WEIGHTS), .val (.int (1 : Int32)), .val (.int (1 : Int32)), .val (.int (0 : Int32))] [(.int (1 : Int32))]))
    refine own_st (fun _ k => XS.goto X69.here hx rfl (pc0 := 107) (pc' := 111) rfl (hb hby at_107) (by decide) (by decide) k) ?_
    show own_go _ _ _ _ _ _ _ (T69.setTop (mkF m 111 #[.val (.int p0), .val (.ref b33), .val (.int (5 : Int32)), .val (.ref c_WEIGHTS), .val (.int (1 : Int32)), .val (.int (1 : Int32)), .val (.int (0 : Int32))] [(.int (1 : Int32))]))
    exact own_retN X69 hx hlk (t := .boolean) hret (by simp) rfl (hb hby at_111) (by decide) (by decide) (⟨rfl, N69⟩)
  · skip
    rw [q]
    show own_go _ _ _ _ _ _ _ (T56.setTop (mkF m 60 #[.val (.int p0), .val (.ref b33), .unset, .unset, .unset, .unset, .unset] [(.int (6 : Int32))]))
    refine own_st (fun _ k => XS.istoreN X56.here hx rfl (hb hby at_60) rfl (l' := #[.val (.int p0), .val (.ref b33), .val (.int (6 : Int32)), .unset, .unset, .unset, .unset]) rfl k) ?_
    show own_go _ _ _ _ _ _ _ (T56.setTop (mkF m 61 #[.val (.int p0), .val (.ref b33), .val (.int (6 : Int32)), .unset, .unset, .unset, .unset] []))
    refine own_st (fun _ k => XS.aloadN X56.here hx rfl (hb hby at_61) rfl rfl k) ?_
    show own_go _ _ _ _ _ _ _ (T56.setTop (mkF m 62 #[.val (.int p0), .val (.ref b33), .val (.int (6 : Int32)), .unset, .unset, .unset, .unset] [(.ref b33)]))
    refine own_st (fun _ k => XS.iloadN X56.here hx rfl (hb hby at_62) rfl k) ?_
    show own_go _ _ _ _ _ _ _ (T56.setTop (mkF m 63 #[.val (.int p0), .val (.ref b33), .val (.int (6 : Int32)), .unset, .unset, .unset, .unset] [(.int (6 : Int32)), (.ref b33)]))
    refine own_st (own_get X56 hx hZ e56 V56 rfl (j := (6 : Int32)) (by decide) (v := (.ref c_MODE)) rfl (g := (mkF m 63 #[.val (.int p0), .val (.ref b33), .val (.int (6 : Int32)), .unset, .unset, .unset, .unset] [(.int (6 : Int32)), (.ref b33)])) rfl rfl (hb hby at_63)) ?_
    show own_go _ _ _ _ _ _ _ (T56.setTop (mkF m 64 #[.val (.int p0), .val (.ref b33), .val (.int (6 : Int32)), .unset, .unset, .unset, .unset] [(.ref c_MODE)]))
    refine own_st (fun _ k => XS.astoreN X56.here hx rfl (hb hby at_64) rfl rfl (l' := #[.val (.int p0), .val (.ref b33), .val (.int (6 : Int32)), .val (.ref c_MODE), .unset, .unset, .unset]) rfl k) ?_
    show own_go _ _ _ _ _ _ _ (T56.setTop (mkF m 65 #[.val (.int p0), .val (.ref b33), .val (.int (6 : Int32)), .val (.ref c_MODE), .unset, .unset, .unset] []))
    refine own_st (fun _ k => XS.iloadN X56.here hx rfl (hb hby at_65) rfl k) ?_
    show own_go _ _ _ _ _ _ _ (T56.setTop (mkF m 66 #[.val (.int p0), .val (.ref b33), .val (.int (6 : Int32)), .val (.ref c_MODE), .unset, .unset, .unset] [(.int (6 : Int32))]))
    refine own_st (fun _ k => XS.iconst X56.here hx rfl (hb hby at_66) k) ?_
    show own_go _ _ _ _ _ _ _ (T56.setTop (mkF m 67 #[.val (.int p0), .val (.ref b33), .val (.int (6 : Int32)), .val (.ref c_MODE), .unset, .unset, .unset] [(.int (5 : Int32)), (.int (6 : Int32))]))
    refine own_st (fun _ k => XS.icmpYes X56.here hx rfl (pc0 := 67) (pc' := 74) rfl (hb hby at_67) rfl (by decide) (by decide) (by decide) k) ?_
    show own_go _ _ _ _ _ _ _ (T56.setTop (mkF m 74 #[.val (.int p0), .val (.ref b33), .val (.int (6 : Int32)), .val (.ref c_MODE), .unset, .unset, .unset] []))
    refine own_st (fun _ k => XS.iconst X56.here hx rfl (hb hby at_74) k) ?_
    show own_go _ _ _ _ _ _ _ (T56.setTop (mkF m 75 #[.val (.int p0), .val (.ref b33), .val (.int (6 : Int32)), .val (.ref c_MODE), .unset, .unset, .unset] [(.int (0 : Int32))]))
    refine own_st (fun _ k => XS.istore X56.here hx rfl (hb hby at_75) rfl (l' := #[.val (.int p0), .val (.ref b33), .val (.int (6 : Int32)), .val (.ref c_MODE), .val (.int (0 : Int32)), .unset, .unset]) rfl k) ?_
    show own_go _ _ _ _ _ _ _ (T56.setTop (mkF m 77 #[.val (.int p0), .val (.ref b33), .val (.int (6 : Int32)), .val (.ref c_MODE), .val (.int (0 : Int32)), .unset, .unset] []))
    refine own_st (fun _ k => XS.aloadN X56.here hx rfl (hb hby at_77) rfl rfl k) ?_
    show own_go _ _ _ _ _ _ _ (T56.setTop (mkF m 78 #[.val (.int p0), .val (.ref b33), .val (.int (6 : Int32)), .val (.ref c_MODE), .val (.int (0 : Int32)), .unset, .unset] [(.ref c_MODE)]))
    obtain ⟨v70, T70, L70, X70, hQ70, st70⟩ := own_callV X56 hx hZ (argsL := []) (rest := []) (rm1_6 l Z a0 hw c_Q c_LIMIT c_THRESHOLD c_MEASURE c_EVIDENCE c_WEIGHTS c_MODE c_CLOSURE c_ONE c_LIST c_FLAG h56 n0 O57 hS) hown (hw _ (List.mem_of_getElem? (i := 20) rfl)) (hw _ (List.mem_of_getElem? (i := 21) rfl)) (notFace_of_selects (args := #[]) (mvT hZ (hw _ (List.mem_of_getElem? (i := 23) rfl)))) (hw _ (List.mem_of_getElem? (i := 23) rfl)) (hw _ (List.mem_of_getElem? (i := 22) rfl)) (hw _ (List.mem_of_getElem? (i := 3) rfl)) (hw _ (List.mem_of_getElem? (i := 24) rfl)) (by decide) e56 (hS.2.2.2.2.2.2.2.2.2.2.2.2.2.1.ext O57.2) (g := (mkF m 78 #[.val (.int p0), .val (.ref b33), .val (.int (6 : Int32)), .val (.ref c_MODE), .val (.int (0 : Int32)), .unset, .unset] [(.ref c_MODE)])) rfl (by rw [hml]; rfl) (lenOf own_pd__28_29Z rfl) rfl (W := 0) (by show 2 * 0 + _ ≤ _; exact Nat.le_of_eq rfl) (hb hby at_78) (by decide) (by decide) (by decide) (by decide)
    obtain ⟨rfl, Nq70, eq70⟩ := hQ70
    have N70 := Fr.app N56 Nq70
    refine own_st st70 ?_
    show own_go _ _ _ _ _ _ _ (T70.setTop (mkF m 81 #[.val (.int p0), .val (.ref b33), .val (.int (6 : Int32)), .val (.ref c_MODE), .val (.int (0 : Int32)), .unset, .unset] [(.int (0 : Int32))]))
    refine own_st (fun _ k => XS.istore X70.here hx rfl (hb hby at_81) rfl (l' := #[.val (.int p0), .val (.ref b33), .val (.int (6 : Int32)), .val (.ref c_MODE), .val (.int (0 : Int32)), .val (.int (0 : Int32)), .unset]) rfl k) ?_
    show own_go _ _ _ _ _ _ _ (T70.setTop (mkF m 83 #[.val (.int p0), .val (.ref b33), .val (.int (6 : Int32)), .val (.ref c_MODE), .val (.int (0 : Int32)), .val (.int (0 : Int32)), .unset] []))
    refine own_st (fun _ k => XS.aloadN X70.here hx rfl (hb hby at_83) rfl rfl k) ?_
    show own_go _ _ _ _ _ _ _ (T70.setTop (mkF m 84 #[.val (.int p0), .val (.ref b33), .val (.int (6 : Int32)), .val (.ref c_MODE), .val (.int (0 : Int32)), .val (.int (0 : Int32)), .unset] [(.ref c_MODE)]))
    obtain ⟨v71, T71, L71, X71, hQ71, st71⟩ := own_callV X70 hx hZ (argsL := []) (rest := []) (rm2_6 l Z a0 hw c_Q c_LIMIT c_THRESHOLD c_MEASURE c_EVIDENCE c_WEIGHTS c_MODE c_CLOSURE c_ONE c_LIST c_FLAG h56 n0 O57 hS) hown (hw _ (List.mem_of_getElem? (i := 31) rfl)) (hw _ (List.mem_of_getElem? (i := 32) rfl)) (notFace_of_selects (args := #[]) (mvT hZ (hw _ (List.mem_of_getElem? (i := 34) rfl)))) (hw _ (List.mem_of_getElem? (i := 34) rfl)) (hw _ (List.mem_of_getElem? (i := 33) rfl)) (hw _ (List.mem_of_getElem? (i := 3) rfl)) (hw _ (List.mem_of_getElem? (i := 35) rfl)) (by decide) eq70 (hS.2.2.2.2.2.2.2.2.2.2.2.2.2.1.ext O57.2) (g := (mkF m 84 #[.val (.int p0), .val (.ref b33), .val (.int (6 : Int32)), .val (.ref c_MODE), .val (.int (0 : Int32)), .val (.int (0 : Int32)), .unset] [(.ref c_MODE)])) rfl (by rw [hml]; rfl) (lenOf own_pd__28_29Z rfl) rfl (W := 0) (by show 2 * 0 + _ ≤ _; exact Nat.le_of_eq rfl) (hb hby at_84) (by decide) (by decide) (by decide) (by decide)
    obtain ⟨rfl, Nq71, eq71⟩ := hQ71
    have N71 := Fr.app N70 Nq71
    refine own_st st71 ?_
    show own_go _ _ _ _ _ _ _ (T71.setTop (mkF m 87 #[.val (.int p0), .val (.ref b33), .val (.int (6 : Int32)), .val (.ref c_MODE), .val (.int (0 : Int32)), .val (.int (0 : Int32)), .unset] [(.int (0 : Int32))]))
    refine own_st (fun _ k => XS.istore X71.here hx rfl (hb hby at_87) rfl (l' := #[.val (.int p0), .val (.ref b33), .val (.int (6 : Int32)), .val (.ref c_MODE), .val (.int (0 : Int32)), .val (.int (0 : Int32)), .val (.int (0 : Int32))]) rfl k) ?_
    show own_go _ _ _ _ _ _ _ (T71.setTop (mkF m 89 #[.val (.int p0), .val (.ref b33), .val (.int (6 : Int32)), .val (.ref c_MODE), .val (.int (0 : Int32)), .val (.int (0 : Int32)), .val (.int (0 : Int32))] []))
    refine own_st (fun _ k => XS.iload X71.here hx rfl (hb hby at_89) rfl k) ?_
    show own_go _ _ _ _ _ _ _ (T71.setTop (mkF m 91 #[.val (.int p0), .val (.ref b33), .val (.int (6 : Int32)), .val (.ref c_MODE), .val (.int (0 : Int32)), .val (.int (0 : Int32)), .val (.int (0 : Int32))] [(.int (0 : Int32))]))
    refine own_st (fun _ k => XS.iload X71.here hx rfl (hb hby at_91) rfl k) ?_
    show own_go _ _ _ _ _ _ _ (T71.setTop (mkF m 93 #[.val (.int p0), .val (.ref b33), .val (.int (6 : Int32)), .val (.ref c_MODE), .val (.int (0 : Int32)), .val (.int (0 : Int32)), .val (.int (0 : Int32))] [(.int (0 : Int32)), (.int (0 : Int32))]))
    refine own_st (fun _ k => XS.icmpNo X71.here hx rfl (hb hby at_93) rfl (by decide) k) ?_
    show own_go _ _ _ _ _ _ _ (T71.setTop (mkF m 96 #[.val (.int p0), .val (.ref b33), .val (.int (6 : Int32)), .val (.ref c_MODE), .val (.int (0 : Int32)), .val (.int (0 : Int32)), .val (.int (0 : Int32))] []))
    refine own_st (fun _ k => XS.iload X71.here hx rfl (hb hby at_96) rfl k) ?_
    show own_go _ _ _ _ _ _ _ (T71.setTop (mkF m 98 #[.val (.int p0), .val (.ref b33), .val (.int (6 : Int32)), .val (.ref c_MODE), .val (.int (0 : Int32)), .val (.int (0 : Int32)), .val (.int (0 : Int32))] [(.int (0 : Int32))]))
    refine own_st (fun _ k => XS.ifYes X71.here hx rfl (pc0 := 98) (pc' := 106) rfl (hb hby at_98) rfl (by decide) (by decide) (by decide) k) ?_
    show own_go _ _ _ _ _ _ _ (T71.setTop (mkF m 106 #[.val (.int p0), .val (.ref b33), .val (.int (6 : Int32)), .val (.ref c_MODE), .val (.int (0 : Int32)), .val (.int (0 : Int32)), .val (.int (0 : Int32))] []))
    refine own_st (fun _ k => XS.iconst X71.here hx rfl (hb hby at_106) k) ?_
    show own_go _ _ _ _ _ _ _ (T71.setTop (mkF m 107 #[.val (.int p0), .val (.ref b33), .val (.int (6 : Int32)), .val (.ref c_MODE), .val (.int (0 : Int32)), .val (.int (0 : Int32)), .val (.int (0 : Int32))] [(.int (1 : Int32))]))
    refine own_st (fun _ k => XS.goto X71.here hx rfl (pc0 := 107) (pc' := 111) rfl (hb hby at_107) (by decide) (by decide) k) ?_
    show own_go _ _ _ _ _ _ _ (T71.setTop (mkF m 111 #[.val (.int p0), .val (.ref b33), .val (.int (6 : Int32)), .val (.ref c_MODE), .val (.int (0 : Int32)), .val (.int (0 : Int32)), .val (.int (0 : Int32))] [(.int (1 : Int32))]))
    exact own_retN X71 hx hlk (t := .boolean) hret (by simp) rfl (hb hby at_111) (by decide) (by decide) (⟨rfl, N71⟩)
  · skip
    rw [q]
    show own_go _ _ _ _ _ _ _ (T56.setTop (mkF m 60 #[.val (.int p0), .val (.ref b33), .unset, .unset, .unset, .unset, .unset] [(.int (7 : Int32))]))
    refine own_st (fun _ k => XS.istoreN X56.here hx rfl (hb hby at_60) rfl (l' := #[.val (.int p0), .val (.ref b33), .val (.int (7 : Int32)), .unset, .unset, .unset, .unset]) rfl k) ?_
    show own_go _ _ _ _ _ _ _ (T56.setTop (mkF m 61 #[.val (.int p0), .val (.ref b33), .val (.int (7 : Int32)), .unset, .unset, .unset, .unset] []))
    refine own_st (fun _ k => XS.aloadN X56.here hx rfl (hb hby at_61) rfl rfl k) ?_
    show own_go _ _ _ _ _ _ _ (T56.setTop (mkF m 62 #[.val (.int p0), .val (.ref b33), .val (.int (7 : Int32)), .unset, .unset, .unset, .unset] [(.ref b33)]))
    refine own_st (fun _ k => XS.iloadN X56.here hx rfl (hb hby at_62) rfl k) ?_
    show own_go _ _ _ _ _ _ _ (T56.setTop (mkF m 63 #[.val (.int p0), .val (.ref b33), .val (.int (7 : Int32)), .unset, .unset, .unset, .unset] [(.int (7 : Int32)), (.ref b33)]))
    refine own_st (own_get X56 hx hZ e56 V56 rfl (j := (7 : Int32)) (by decide) (v := (.ref c_CLOSURE)) rfl (g := (mkF m 63 #[.val (.int p0), .val (.ref b33), .val (.int (7 : Int32)), .unset, .unset, .unset, .unset] [(.int (7 : Int32)), (.ref b33)])) rfl rfl (hb hby at_63)) ?_
    show own_go _ _ _ _ _ _ _ (T56.setTop (mkF m 64 #[.val (.int p0), .val (.ref b33), .val (.int (7 : Int32)), .unset, .unset, .unset, .unset] [(.ref c_CLOSURE)]))
    refine own_st (fun _ k => XS.astoreN X56.here hx rfl (hb hby at_64) rfl rfl (l' := #[.val (.int p0), .val (.ref b33), .val (.int (7 : Int32)), .val (.ref c_CLOSURE), .unset, .unset, .unset]) rfl k) ?_
    show own_go _ _ _ _ _ _ _ (T56.setTop (mkF m 65 #[.val (.int p0), .val (.ref b33), .val (.int (7 : Int32)), .val (.ref c_CLOSURE), .unset, .unset, .unset] []))
    refine own_st (fun _ k => XS.iloadN X56.here hx rfl (hb hby at_65) rfl k) ?_
    show own_go _ _ _ _ _ _ _ (T56.setTop (mkF m 66 #[.val (.int p0), .val (.ref b33), .val (.int (7 : Int32)), .val (.ref c_CLOSURE), .unset, .unset, .unset] [(.int (7 : Int32))]))
    refine own_st (fun _ k => XS.iconst X56.here hx rfl (hb hby at_66) k) ?_
    show own_go _ _ _ _ _ _ _ (T56.setTop (mkF m 67 #[.val (.int p0), .val (.ref b33), .val (.int (7 : Int32)), .val (.ref c_CLOSURE), .unset, .unset, .unset] [(.int (5 : Int32)), (.int (7 : Int32))]))
    refine own_st (fun _ k => XS.icmpYes X56.here hx rfl (pc0 := 67) (pc' := 74) rfl (hb hby at_67) rfl (by decide) (by decide) (by decide) k) ?_
    show own_go _ _ _ _ _ _ _ (T56.setTop (mkF m 74 #[.val (.int p0), .val (.ref b33), .val (.int (7 : Int32)), .val (.ref c_CLOSURE), .unset, .unset, .unset] []))
    refine own_st (fun _ k => XS.iconst X56.here hx rfl (hb hby at_74) k) ?_
    show own_go _ _ _ _ _ _ _ (T56.setTop (mkF m 75 #[.val (.int p0), .val (.ref b33), .val (.int (7 : Int32)), .val (.ref c_CLOSURE), .unset, .unset, .unset] [(.int (0 : Int32))]))
    refine own_st (fun _ k => XS.istore X56.here hx rfl (hb hby at_75) rfl (l' := #[.val (.int p0), .val (.ref b33), .val (.int (7 : Int32)), .val (.ref c_CLOSURE), .val (.int (0 : Int32)), .unset, .unset]) rfl k) ?_
    show own_go _ _ _ _ _ _ _ (T56.setTop (mkF m 77 #[.val (.int p0), .val (.ref b33), .val (.int (7 : Int32)), .val (.ref c_CLOSURE), .val (.int (0 : Int32)), .unset, .unset] []))
    refine own_st (fun _ k => XS.aloadN X56.here hx rfl (hb hby at_77) rfl rfl k) ?_
    show own_go _ _ _ _ _ _ _ (T56.setTop (mkF m 78 #[.val (.int p0), .val (.ref b33), .val (.int (7 : Int32)), .val (.ref c_CLOSURE), .val (.int (0 : Int32)), .unset, .unset] [(.ref c_CLOSURE)]))
    obtain ⟨v72, T72, L72, X72, hQ72, st72⟩ := own_callV X56 hx hZ (argsL := []) (rest := []) (rm1_7 l Z a0 hw c_Q c_LIMIT c_THRESHOLD c_MEASURE c_EVIDENCE c_WEIGHTS c_MODE c_CLOSURE c_ONE c_LIST c_FLAG h56 n0 O57 hS) hown (hw _ (List.mem_of_getElem? (i := 20) rfl)) (hw _ (List.mem_of_getElem? (i := 21) rfl)) (notFace_of_selects (args := #[]) (mvT hZ (hw _ (List.mem_of_getElem? (i := 23) rfl)))) (hw _ (List.mem_of_getElem? (i := 23) rfl)) (hw _ (List.mem_of_getElem? (i := 22) rfl)) (hw _ (List.mem_of_getElem? (i := 3) rfl)) (hw _ (List.mem_of_getElem? (i := 24) rfl)) (by decide) e56 (hS.2.2.2.2.2.2.2.2.2.2.2.2.2.2.2.1.ext O57.2) (g := (mkF m 78 #[.val (.int p0), .val (.ref b33), .val (.int (7 : Int32)), .val (.ref c_CLOSURE), .val (.int (0 : Int32)), .unset, .unset] [(.ref c_CLOSURE)])) rfl (by rw [hml]; rfl) (lenOf own_pd__28_29Z rfl) rfl (W := 0) (by show 2 * 0 + _ ≤ _; exact Nat.le_of_eq rfl) (hb hby at_78) (by decide) (by decide) (by decide) (by decide)
    obtain ⟨rfl, Nq72, eq72⟩ := hQ72
    have N72 := Fr.app N56 Nq72
    refine own_st st72 ?_
    show own_go _ _ _ _ _ _ _ (T72.setTop (mkF m 81 #[.val (.int p0), .val (.ref b33), .val (.int (7 : Int32)), .val (.ref c_CLOSURE), .val (.int (0 : Int32)), .unset, .unset] [(.int (0 : Int32))]))
    refine own_st (fun _ k => XS.istore X72.here hx rfl (hb hby at_81) rfl (l' := #[.val (.int p0), .val (.ref b33), .val (.int (7 : Int32)), .val (.ref c_CLOSURE), .val (.int (0 : Int32)), .val (.int (0 : Int32)), .unset]) rfl k) ?_
    show own_go _ _ _ _ _ _ _ (T72.setTop (mkF m 83 #[.val (.int p0), .val (.ref b33), .val (.int (7 : Int32)), .val (.ref c_CLOSURE), .val (.int (0 : Int32)), .val (.int (0 : Int32)), .unset] []))
    refine own_st (fun _ k => XS.aloadN X72.here hx rfl (hb hby at_83) rfl rfl k) ?_
    show own_go _ _ _ _ _ _ _ (T72.setTop (mkF m 84 #[.val (.int p0), .val (.ref b33), .val (.int (7 : Int32)), .val (.ref c_CLOSURE), .val (.int (0 : Int32)), .val (.int (0 : Int32)), .unset] [(.ref c_CLOSURE)]))
    obtain ⟨v73, T73, L73, X73, hQ73, st73⟩ := own_callV X72 hx hZ (argsL := []) (rest := []) (rm2_7 l Z a0 hw c_Q c_LIMIT c_THRESHOLD c_MEASURE c_EVIDENCE c_WEIGHTS c_MODE c_CLOSURE c_ONE c_LIST c_FLAG h56 n0 O57 hS) hown (hw _ (List.mem_of_getElem? (i := 31) rfl)) (hw _ (List.mem_of_getElem? (i := 32) rfl)) (notFace_of_selects (args := #[]) (mvT hZ (hw _ (List.mem_of_getElem? (i := 34) rfl)))) (hw _ (List.mem_of_getElem? (i := 34) rfl)) (hw _ (List.mem_of_getElem? (i := 33) rfl)) (hw _ (List.mem_of_getElem? (i := 3) rfl)) (hw _ (List.mem_of_getElem? (i := 35) rfl)) (by decide) eq72 (hS.2.2.2.2.2.2.2.2.2.2.2.2.2.2.2.1.ext O57.2) (g := (mkF m 84 #[.val (.int p0), .val (.ref b33), .val (.int (7 : Int32)), .val (.ref c_CLOSURE), .val (.int (0 : Int32)), .val (.int (0 : Int32)), .unset] [(.ref c_CLOSURE)])) rfl (by rw [hml]; rfl) (lenOf own_pd__28_29Z rfl) rfl (W := 0) (by show 2 * 0 + _ ≤ _; exact Nat.le_of_eq rfl) (hb hby at_84) (by decide) (by decide) (by decide) (by decide)
    obtain ⟨rfl, Nq73, eq73⟩ := hQ73
    have N73 := Fr.app N72 Nq73
    refine own_st st73 ?_
    show own_go _ _ _ _ _ _ _ (T73.setTop (mkF m 87 #[.val (.int p0), .val (.ref b33), .val (.int (7 : Int32)), .val (.ref c_CLOSURE), .val (.int (0 : Int32)), .val (.int (0 : Int32)), .unset] [(.int (1 : Int32))]))
    refine own_st (fun _ k => XS.istore X73.here hx rfl (hb hby at_87) rfl (l' := #[.val (.int p0), .val (.ref b33), .val (.int (7 : Int32)), .val (.ref c_CLOSURE), .val (.int (0 : Int32)), .val (.int (0 : Int32)), .val (.int (1 : Int32))]) rfl k) ?_
    show own_go _ _ _ _ _ _ _ (T73.setTop (mkF m 89 #[.val (.int p0), .val (.ref b33), .val (.int (7 : Int32)), .val (.ref c_CLOSURE), .val (.int (0 : Int32)), .val (.int (0 : Int32)), .val (.int (1 : Int32))] []))
    refine own_st (fun _ k => XS.iload X73.here hx rfl (hb hby at_89) rfl k) ?_
    show own_go _ _ _ _ _ _ _ (T73.setTop (mkF m 91 #[.val (.int p0), .val (.ref b33), .val (.int (7 : Int32)), .val (.ref c_CLOSURE), .val (.int (0 : Int32)), .val (.int (0 : Int32)), .val (.int (1 : Int32))] [(.int (0 : Int32))]))
    refine own_st (fun _ k => XS.iload X73.here hx rfl (hb hby at_91) rfl k) ?_
    show own_go _ _ _ _ _ _ _ (T73.setTop (mkF m 93 #[.val (.int p0), .val (.ref b33), .val (.int (7 : Int32)), .val (.ref c_CLOSURE), .val (.int (0 : Int32)), .val (.int (0 : Int32)), .val (.int (1 : Int32))] [(.int (0 : Int32)), (.int (0 : Int32))]))
    refine own_st (fun _ k => XS.icmpNo X73.here hx rfl (hb hby at_93) rfl (by decide) k) ?_
    show own_go _ _ _ _ _ _ _ (T73.setTop (mkF m 96 #[.val (.int p0), .val (.ref b33), .val (.int (7 : Int32)), .val (.ref c_CLOSURE), .val (.int (0 : Int32)), .val (.int (0 : Int32)), .val (.int (1 : Int32))] []))
    refine own_st (fun _ k => XS.iload X73.here hx rfl (hb hby at_96) rfl k) ?_
    show own_go _ _ _ _ _ _ _ (T73.setTop (mkF m 98 #[.val (.int p0), .val (.ref b33), .val (.int (7 : Int32)), .val (.ref c_CLOSURE), .val (.int (0 : Int32)), .val (.int (0 : Int32)), .val (.int (1 : Int32))] [(.int (0 : Int32))]))
    refine own_st (fun _ k => XS.ifYes X73.here hx rfl (pc0 := 98) (pc' := 106) rfl (hb hby at_98) rfl (by decide) (by decide) (by decide) k) ?_
    show own_go _ _ _ _ _ _ _ (T73.setTop (mkF m 106 #[.val (.int p0), .val (.ref b33), .val (.int (7 : Int32)), .val (.ref c_CLOSURE), .val (.int (0 : Int32)), .val (.int (0 : Int32)), .val (.int (1 : Int32))] []))
    refine own_st (fun _ k => XS.iconst X73.here hx rfl (hb hby at_106) k) ?_
    show own_go _ _ _ _ _ _ _ (T73.setTop (mkF m 107 #[.val (.int p0), .val (.ref b33), .val (.int (7 : Int32)), .val (.ref c_CLOSURE), .val (.int (0 : Int32)), .val (.int (0 : Int32)), .val (.int (1 : Int32))] [(.int (1 : Int32))]))
    refine own_st (fun _ k => XS.goto X73.here hx rfl (pc0 := 107) (pc' := 111) rfl (hb hby at_107) (by decide) (by decide) k) ?_
    show own_go _ _ _ _ _ _ _ (T73.setTop (mkF m 111 #[.val (.int p0), .val (.ref b33), .val (.int (7 : Int32)), .val (.ref c_CLOSURE), .val (.int (0 : Int32)), .val (.int (0 : Int32)), .val (.int (1 : Int32))] [(.int (1 : Int32))]))
    exact own_retN X73 hx hlk (t := .boolean) hret (by simp) rfl (hb hby at_111) (by decide) (by decide) (⟨rfl, N73⟩)
set_option maxRecDepth 65536 in
set_option maxHeartbeats 40000000 in
theorem comes_1 {Post : Tables → Env → Array Value → State → Outcome → State → Prop} (hpost : ∀ tb e args s v u, (limb_1_1.after args s (.returned v) u = true ∧ limb_1_2.after args s (.returned v) u = true ∧ True) → FrameEnd s (.returned v) u (Jvm.fieldLocs frame_1_writes args s ++ Jvm.arrayLocs frame_1_arrays args s ++ Jvm.staticLocs frame_1_statics s) 16 128 → Post tb e args s (.returned v) u) :
    ArmFor flags0 classFile x code maxLocals ret World_1 tables_1 room_1 Calls_1 rest_1 Pre_1 Post := by
  intro l hfl _ _ p e ha hc hk s m args below hf hA hF happ hP
  obtain ⟨hcalls, hrest, hpre⟩ := hP
  obtain ⟨-, -, -, hnamed, -, -, -, hat⟩ := (Spec.applies_iff hf).mp happ
  obtain ⟨hg, hn⟩ := and_e (Cond.before_iff.mp (show (Jvm.Cond.and given_1 narrow_1).before args s = true from hpre))
  obtain ⟨h1, hg0⟩ := and_e hg
  obtain ⟨w0, rfl⟩ : ∃ w0 : Value, args = #[w0] := by
    have hs : args.size = 1 := by simpa [Cond.value, given_1] using h1
    obtain ⟨L⟩ := args
    match L, hs with
    | [w0], _ => exact ⟨w0, rfl⟩
  have hw := fun d (hd : d ∈ tables_1) => atoms_spec (ws := Jvm.Cond.code x code maxLocals ret :: tables_1) hat d (List.mem_cons_of_mem _ hd)
  obtain ⟨i0, e0⟩ := is_v hg0
  obtain rfl : w0 = (.int i0) := Option.some.inj e0
  have hfit : Fit s := fun {y c} hc i hi => by
    obtain ⟨ha, rfl⟩ := Array.getElem?_eq_some_iff.mp hc
    have q := List.all_eq_true.mp ((Array.all_eq_true_iff_forall_mem.mp hF) _ (Array.getElem_mem ha)) i (List.mem_range.mpr hi)
    simpa [Array.getElem?_eq_getElem hi] using q
  obtain ⟨n1, r1⟩ := and_e hn
  obtain ⟨n2, r2⟩ := and_e r1
  obtain ⟨n3, r3⟩ := and_e r2
  obtain ⟨n4, r4⟩ := and_e r3
  obtain ⟨n5, r5⟩ := and_e r4
  obtain ⟨n6, r6⟩ := and_e r5
  obtain ⟨n7, r7⟩ := and_e r6
  obtain ⟨n8, r8⟩ := and_e r7
  obtain ⟨n9, r9⟩ := and_e r8
  obtain ⟨n10, r10⟩ := and_e r9
  obtain ⟨n11, r11⟩ := and_e r10
  obtain ⟨n12, r12⟩ := and_e r11
  obtain ⟨n13, r13⟩ := and_e r12
  obtain ⟨n14, r14⟩ := and_e r13
  obtain ⟨n15, r15⟩ := and_e r14
  obtain ⟨n16, r16⟩ := and_e r15
  obtain ⟨n17, r17⟩ := and_e r16
  obtain ⟨n18, r18⟩ := and_e r17
  obtain ⟨n19, r19⟩ := and_e r18
  obtain ⟨n20, r20⟩ := and_e r19
  obtain ⟨n21, r21⟩ := and_e r20
  have n22 := r21
  obtain ⟨c_Q, v_c_Q⟩ := exa_v n1
  have E_c_Q := Exa.start v_c_Q n1
  have S_c_Q := Sta.start v_c_Q (Or.inr ⟨(hw _ (List.mem_of_getElem? (i := 3) rfl)), (hw _ (List.mem_of_getElem? (i := 4) rfl))⟩)
  obtain ⟨c_LIMIT, v_c_LIMIT⟩ := exa_v n2
  have E_c_LIMIT := Exa.start v_c_LIMIT n2
  have S_c_LIMIT := Sta.start v_c_LIMIT (Or.inr ⟨(hw _ (List.mem_of_getElem? (i := 3) rfl)), (hw _ (List.mem_of_getElem? (i := 7) rfl))⟩)
  obtain ⟨c_THRESHOLD, v_c_THRESHOLD⟩ := exa_v n3
  have E_c_THRESHOLD := Exa.start v_c_THRESHOLD n3
  have S_c_THRESHOLD := Sta.start v_c_THRESHOLD (Or.inr ⟨(hw _ (List.mem_of_getElem? (i := 3) rfl)), (hw _ (List.mem_of_getElem? (i := 9) rfl))⟩)
  obtain ⟨c_MEASURE, v_c_MEASURE⟩ := exa_v n4
  have E_c_MEASURE := Exa.start v_c_MEASURE n4
  have S_c_MEASURE := Sta.start v_c_MEASURE (Or.inr ⟨(hw _ (List.mem_of_getElem? (i := 3) rfl)), (hw _ (List.mem_of_getElem? (i := 11) rfl))⟩)
  obtain ⟨c_EVIDENCE, v_c_EVIDENCE⟩ := exa_v n5
  have E_c_EVIDENCE := Exa.start v_c_EVIDENCE n5
  have S_c_EVIDENCE := Sta.start v_c_EVIDENCE (Or.inr ⟨(hw _ (List.mem_of_getElem? (i := 3) rfl)), (hw _ (List.mem_of_getElem? (i := 13) rfl))⟩)
  obtain ⟨c_WEIGHTS, v_c_WEIGHTS⟩ := exa_v n6
  have E_c_WEIGHTS := Exa.start v_c_WEIGHTS n6
  have S_c_WEIGHTS := Sta.start v_c_WEIGHTS (Or.inr ⟨(hw _ (List.mem_of_getElem? (i := 3) rfl)), (hw _ (List.mem_of_getElem? (i := 15) rfl))⟩)
  obtain ⟨c_MODE, v_c_MODE⟩ := exa_v n7
  have E_c_MODE := Exa.start v_c_MODE n7
  have S_c_MODE := Sta.start v_c_MODE (Or.inr ⟨(hw _ (List.mem_of_getElem? (i := 3) rfl)), (hw _ (List.mem_of_getElem? (i := 17) rfl))⟩)
  obtain ⟨c_CLOSURE, v_c_CLOSURE⟩ := exa_v n8
  have E_c_CLOSURE := Exa.start v_c_CLOSURE n8
  have S_c_CLOSURE := Sta.start v_c_CLOSURE (Or.inr ⟨(hw _ (List.mem_of_getElem? (i := 3) rfl)), (hw _ (List.mem_of_getElem? (i := 19) rfl))⟩)
  obtain ⟨c_ONE, v_c_ONE⟩ := exa_v n9
  have E_c_ONE := Exa.start v_c_ONE n9
  have S_c_ONE := Sta.start v_c_ONE (Or.inr ⟨(hw _ (List.mem_of_getElem? (i := 27) rfl)), (hw _ (List.mem_of_getElem? (i := 28) rfl))⟩)
  have F_c_Q_kind := own_fldR v_c_Q v_c_ONE n10
  obtain ⟨c_LIST, v_c_LIST⟩ := exa_v n11
  have E_c_LIST := Exa.start v_c_LIST n11
  have S_c_LIST := Sta.start v_c_LIST (Or.inr ⟨(hw _ (List.mem_of_getElem? (i := 27) rfl)), (hw _ (List.mem_of_getElem? (i := 30) rfl))⟩)
  have F_c_ONE_ordinal := own_fldI v_c_ONE n12
  have F_c_LIST_ordinal := own_fldI v_c_LIST n13
  obtain ⟨c_FLAG, v_c_FLAG⟩ := exa_v n14
  have E_c_FLAG := Exa.start v_c_FLAG n14
  have S_c_FLAG := Sta.start v_c_FLAG (Or.inr ⟨(hw _ (List.mem_of_getElem? (i := 27) rfl)), (hw _ (List.mem_of_getElem? (i := 37) rfl))⟩)
  have F_c_FLAG_ordinal := own_fldI v_c_FLAG n15
  have F_c_MEASURE_kind := own_fldR v_c_MEASURE v_c_ONE n16
  have F_c_MODE_kind := own_fldR v_c_MODE v_c_ONE n17
  have F_c_CLOSURE_kind := own_fldR v_c_CLOSURE v_c_FLAG n18
  have F_c_THRESHOLD_kind := own_fldR v_c_THRESHOLD v_c_ONE n19
  have F_c_LIMIT_kind := own_fldR v_c_LIMIT v_c_ONE n20
  have F_c_EVIDENCE_kind := own_fldR v_c_EVIDENCE v_c_ONE n21
  have F_c_WEIGHTS_kind := own_fldR v_c_WEIGHTS v_c_LIST n22
  have hS : own_S s c_Q c_LIMIT c_THRESHOLD c_MEASURE c_EVIDENCE c_WEIGHTS c_MODE c_CLOSURE c_ONE c_LIST c_FLAG := ⟨S_c_Q, E_c_Q, S_c_LIMIT, E_c_LIMIT, S_c_THRESHOLD, E_c_THRESHOLD, S_c_MEASURE, E_c_MEASURE, S_c_EVIDENCE, E_c_EVIDENCE, S_c_WEIGHTS, E_c_WEIGHTS, S_c_MODE, E_c_MODE, S_c_CLOSURE, E_c_CLOSURE, S_c_ONE, E_c_ONE, F_c_Q_kind, S_c_LIST, E_c_LIST, F_c_ONE_ordinal, F_c_LIST_ordinal, S_c_FLAG, E_c_FLAG, F_c_FLAG_ordinal, F_c_MEASURE_kind, F_c_MODE_kind, F_c_CLOSURE_kind, F_c_THRESHOLD_kind, F_c_LIMIT_kind, F_c_EVIDENCE_kind, F_c_WEIGHTS_kind⟩

  obtain ⟨n, o, h1, h2, h3, _, L, rfl, ⟨rfl, N⟩, hq⟩ := rm0 l s _ hw tables_1 i0 c_Q c_LIMIT c_THRESHOLD c_MEASURE c_EVIDENCE c_WEIGHTS c_MODE c_CLOSURE c_ONE c_LIST c_FLAG s.heap s.heap.size (Old.start s) hS p e ha hc hk s m _ below hf ((Spec.applies_iff_loose hf).mp happ).1 ⟨rfl, State.Warmed39.refl s, rfl⟩ trivial
  refine ⟨n, _, h1, h2, h3, hpost _ _ _ _ _ _ ⟨Cond.after_iff.mpr rfl, Cond.after_iff.mpr (eq_i res_at (Term.int_eval (1)) rfl), trivial⟩ ⟨hq.1, hq.2.1, (hq.2.2.sift fun y hy => Or.inr (N y hy)).mono (by decide) (by decide)⟩⟩
theorem main_1_1 : Claimed_1_1 := comes_1 fun _ _ _ _ _ _ h hF => ⟨h.1, hF⟩
theorem main_1_2 : Claimed_1_2 := comes_1 fun _ _ _ _ _ _ h hF => ⟨h.2.1, hF⟩
end Jvm.Pilot.@@N@@
namespace Jvm.Pilot.@@N@@
open Jvm Jvm.ClassFile Sem Op Lib Jvm.Free Jvm.Stand Jvm.Pilot.@@N@@.Jvm.D
/-! MADE BY PROGRAM (witnessworld.py) out of the Statement's table words and the real class files: 14 classes; the members and pool entries that the words name. The judged class is class 1, her method 1. -/
namespace start1
open Jvm.ClassFile
def u (s : String) : CpInfo := .utf8 (stringToUtf16 s)
/-- a pool by its gaps: so many unusable entries, then the entry; so many at the end -/
def gap : Nat → List CpInfo → List CpInfo
  | 0, r => r
  | n + 1, r => .unusable :: gap n r
def poolList (es : List (Nat × CpInfo)) (last : Nat) : List CpInfo := es.foldr (fun e r => gap e.1 (e.2 :: r)) (gap last [])
def pool (es : List (Nat × CpInfo)) (last : Nat) : Array CpInfo := ⟨poolList es last⟩
def fileOf (pool : Array CpInfo) (this : Nat) (attrs : Array Attribute := #[]) (ms : Array MethodInfo := #[]) (fl : Nat := 33) (sup : Nat := 0) (ifs : Array Nat := #[]) (fds : Array FieldInfo := #[]) : ClassFile where
  minorVersion := 0
  majorVersion := 65
  constantPool := pool
  accessFlags := fl
  thisClass := this
  superClass := sup
  interfaces := ifs
  fields := fds
  methods := ms
  attributes := attrs
def plain (name : String) (sup : Option ClassId) : Class where
  name := name
  kind := .ordinary
  loader := none
  accessFlags := 33
  super := sup
  interfaces := #[]
  cf := none
  fields := #[]
  methods := #[]
  instanceTypes := #[]
  staticTypes := #[]
  resolved := #[]
  callSites := []
  init := .initialized
  statics := none
  mirror := none

def pool0 : Array CpInfo := pool [(5, u "<init>"), (0, u "()V"), (1, .class_ 10), (1, u "java/lang/Object")] 113

def k0m0 : Method := { name := "<init>", desc := "()V", sig := { parameters := [], returnType := none }, accessFlags := 1, code := none }
/-- java/lang/Object -/
def k0 : Class := { plain "java/lang/Object" none with
  accessFlags := 33
  interfaces := #[]
  cf := some (fileOf pool0 8 #[] #[{ accessFlags := 1, nameIndex := 5, descriptorIndex := 6, attributes := #[] }] 33 0 #[] #[])
  fields := #[]
  methods := #[k0m0]
  instanceTypes := #[]
  staticTypes := #[]
  resolved := Array.replicate 124 none
  statics := none }

def pool1 : Array CpInfo := pool [(2, .class_ 4), (1, u "java/lang/Object"), (0, u "<init>"), (0, u "()V"), (0, .class_ 8), (0, u "com/example/ariadne/ariadne/Query$Parameter"), (0, .fieldref 7 10), (0, .nameAndType 11 12), (0, u "Q"), (0, u "Lcom/example/ariadne/ariadne/Query$Parameter;"), (0, .fieldref 7 14), (0, .nameAndType 15 12), (0, u "LIMIT"), (0, .fieldref 7 17), (0, .nameAndType 18 12), (0, u "THRESHOLD"), (0, .fieldref 7 20), (0, .nameAndType 21 12), (0, u "MEASURE"), (0, .fieldref 7 23), (0, .nameAndType 24 12), (0, u "EVIDENCE"), (0, .fieldref 7 26), (0, .nameAndType 27 12), (0, u "WEIGHTS"), (0, .fieldref 7 29), (0, .nameAndType 30 12), (0, u "MODE"), (0, .fieldref 7 32), (0, .nameAndType 33 12), (0, u "CLOSURE"), (0, .methodref 7 35), (0, .nameAndType 36 37), (0, u "isList"), (0, u "()Z"), (0, .methodref 7 39), (0, .nameAndType 40 37), (0, u "isFlag"), (0, .class_ 42), (0, u "com/example/ariadne/ariadne/QueryIsListPinLaw"), (2, u "law"), (0, u "(I)Z")] 9

def k1m0 : Method := { name := "<init>", desc := "()V", sig := { parameters := [], returnType := none }, accessFlags := 1, code := none }
def k1c1 : Code := { maxStack := 4, maxLocals := 7, code := code, exceptionTable := #[], attributes := #[] }
def k1m1 : Method := { name := "law", desc := "(I)Z", sig := { parameters := [.int], returnType := some .boolean }, accessFlags := 9, code := some k1c1 }
/-- com/example/ariadne/ariadne/QueryIsListPinLaw -/
def k1 : Class := { plain "com/example/ariadne/ariadne/QueryIsListPinLaw" (some 0) with
  accessFlags := 49
  interfaces := #[]
  cf := some (fileOf pool1 41 #[] #[{ accessFlags := 1, nameIndex := 5, descriptorIndex := 6, attributes := #[] }, { accessFlags := 9, nameIndex := 45, descriptorIndex := 46, attributes := #[] }] 49 2 #[] #[])
  fields := #[]
  methods := #[k1m0, k1m1]
  instanceTypes := #[]
  staticTypes := #[]
  resolved := Array.replicate 56 none
  statics := none }

def pool2 : Array CpInfo := pool [(1, .class_ 2), (0, u "java/lang/constant/Constable"), (0, .class_ 4), (0, u "java/lang/Object")] 6

/-- java/lang/constant/Constable -/
def k2 : Class := { plain "java/lang/constant/Constable" (some 0) with
  accessFlags := 1537
  interfaces := #[]
  cf := some (fileOf pool2 1 #[] #[] 1537 3 #[] #[])
  fields := #[]
  methods := #[]
  instanceTypes := #[]
  staticTypes := #[]
  resolved := Array.replicate 11 none
  statics := none }

def pool3 : Array CpInfo := pool [(1, .class_ 2), (0, u "java/lang/Comparable"), (0, .class_ 4), (0, u "java/lang/Object")] 7

/-- java/lang/Comparable -/
def k3 : Class := { plain "java/lang/Comparable" (some 0) with
  accessFlags := 1537
  interfaces := #[]
  cf := some (fileOf pool3 1 #[] #[] 1537 3 #[] #[])
  fields := #[]
  methods := #[]
  instanceTypes := #[]
  staticTypes := #[]
  resolved := Array.replicate 12 none
  statics := none }

def pool4 : Array CpInfo := pool [(1, .class_ 2), (0, u "java/io/Serializable"), (0, .class_ 4), (0, u "java/lang/Object")] 2

/-- java/io/Serializable -/
def k4 : Class := { plain "java/io/Serializable" (some 0) with
  accessFlags := 1537
  interfaces := #[]
  cf := some (fileOf pool4 1 #[] #[] 1537 3 #[] #[])
  fields := #[]
  methods := #[]
  instanceTypes := #[]
  staticTypes := #[]
  resolved := Array.replicate 7 none
  statics := none }

def pool5 : Array CpInfo := pool [(2, .class_ 4), (1, u "java/lang/Enum"), (0, u "name"), (0, u "Ljava/lang/String;"), (2, u "ordinal"), (0, u "I"), (1, .class_ 14), (1, u "java/lang/Object"), (4, u "hash"), (86, .class_ 108), (1, u "java/lang/Enum$EnumDesc"), (2, .class_ 112), (0, u "java/lang/constant/Constable"), (0, .class_ 114), (0, u "java/lang/Comparable"), (0, .class_ 116), (0, u "java/io/Serializable")] 87

/-- java/lang/Enum -/
def k5 : Class := { plain "java/lang/Enum" (some 0) with
  accessFlags := 1057
  interfaces := #[2, 3, 4]
  cf := some (fileOf pool5 2 #[.nestMembers #[106]] #[] 1057 12 #[111, 113, 115] #[{ accessFlags := 18, nameIndex := 5, descriptorIndex := 6, attributes := #[] }, { accessFlags := 18, nameIndex := 9, descriptorIndex := 10, attributes := #[] }, { accessFlags := 2, nameIndex := 19, descriptorIndex := 10, attributes := #[] }])
  fields := #[{ name := "name", type := (.object "java/lang/String"), accessFlags := 18, slot := 0, constantValue := 0 }, { name := "ordinal", type := .int, accessFlags := 18, slot := 1, constantValue := 0 }, { name := "hash", type := .int, accessFlags := 2, slot := 2, constantValue := 0 }]
  methods := #[]
  instanceTypes := #[(.object "java/lang/String"), .int, .int]
  staticTypes := #[]
  resolved := Array.replicate 204 none
  statics := none }

def pool6 : Array CpInfo := pool [(1, .class_ 2), (0, u "com/example/ariadne/ariadne/Query$Parameter"), (2, u "Q"), (0, u "Lcom/example/ariadne/ariadne/Query$Parameter;"), (2, u "LIMIT"), (2, u "THRESHOLD"), (2, u "MEASURE"), (2, u "EVIDENCE"), (2, u "WEIGHTS"), (2, u "MODE"), (2, u "CLOSURE"), (2, u "$VALUES"), (0, u "[Lcom/example/ariadne/ariadne/Query$Parameter;"), (6, .class_ 40), (1, u "java/lang/Enum"), (8, u "label"), (0, u "Ljava/lang/String;"), (2, u "option"), (0, .fieldref 1 55), (0, .nameAndType 56 57), (0, u "kind"), (0, u "Lcom/example/ariadne/ariadne/Query$Parameter$Kind;"), (0, .fieldref 59 60), (0, .class_ 61), (0, .nameAndType 62 57), (0, u "com/example/ariadne/ariadne/Query$Parameter$Kind"), (0, u "LIST"), (0, .fieldref 59 64), (0, .nameAndType 65 57), (0, u "FLAG"), (2, u "isList"), (0, u "()Z"), (76, u "isFlag"), (9, .class_ 157), (0, u "com/example/ariadne/ariadne/Query")] 3

def k6c0 : Code := { maxStack := 2, maxLocals := 1, code := prog_15_method_6_code, exceptionTable := #[], attributes := #[] }
def k6m0 : Method := { name := "isList", desc := "()Z", sig := { parameters := [], returnType := some .boolean }, accessFlags := 0, code := some k6c0 }
def k6c1 : Code := { maxStack := 2, maxLocals := 1, code := prog_15_method_7_code, exceptionTable := #[], attributes := #[] }
def k6m1 : Method := { name := "isFlag", desc := "()Z", sig := { parameters := [], returnType := some .boolean }, accessFlags := 0, code := some k6c1 }
/-- com/example/ariadne/ariadne/Query$Parameter -/
def k6 : Class := { plain "com/example/ariadne/ariadne/Query$Parameter" (some 5) with
  accessFlags := 16432
  interfaces := #[]
  cf := some (fileOf pool6 1 #[.nestHost 156] #[{ accessFlags := 0, nameIndex := 68, descriptorIndex := 69, attributes := #[] }, { accessFlags := 0, nameIndex := 146, descriptorIndex := 69, attributes := #[] }] 16432 38 #[] #[{ accessFlags := 16409, nameIndex := 5, descriptorIndex := 6, attributes := #[] }, { accessFlags := 16409, nameIndex := 9, descriptorIndex := 6, attributes := #[] }, { accessFlags := 16409, nameIndex := 12, descriptorIndex := 6, attributes := #[] }, { accessFlags := 16409, nameIndex := 15, descriptorIndex := 6, attributes := #[] }, { accessFlags := 16409, nameIndex := 18, descriptorIndex := 6, attributes := #[] }, { accessFlags := 16409, nameIndex := 21, descriptorIndex := 6, attributes := #[] }, { accessFlags := 16409, nameIndex := 24, descriptorIndex := 6, attributes := #[] }, { accessFlags := 16409, nameIndex := 27, descriptorIndex := 6, attributes := #[] }, { accessFlags := 18, nameIndex := 49, descriptorIndex := 50, attributes := #[] }, { accessFlags := 18, nameIndex := 53, descriptorIndex := 50, attributes := #[] }, { accessFlags := 18, nameIndex := 56, descriptorIndex := 57, attributes := #[] }, { accessFlags := 4122, nameIndex := 30, descriptorIndex := 31, attributes := #[] }])
  fields := #[{ name := "Q", type := (.object "com/example/ariadne/ariadne/Query$Parameter"), accessFlags := 16409, slot := 0, constantValue := 0 }, { name := "LIMIT", type := (.object "com/example/ariadne/ariadne/Query$Parameter"), accessFlags := 16409, slot := 1, constantValue := 0 }, { name := "THRESHOLD", type := (.object "com/example/ariadne/ariadne/Query$Parameter"), accessFlags := 16409, slot := 2, constantValue := 0 }, { name := "MEASURE", type := (.object "com/example/ariadne/ariadne/Query$Parameter"), accessFlags := 16409, slot := 3, constantValue := 0 }, { name := "EVIDENCE", type := (.object "com/example/ariadne/ariadne/Query$Parameter"), accessFlags := 16409, slot := 4, constantValue := 0 }, { name := "WEIGHTS", type := (.object "com/example/ariadne/ariadne/Query$Parameter"), accessFlags := 16409, slot := 5, constantValue := 0 }, { name := "MODE", type := (.object "com/example/ariadne/ariadne/Query$Parameter"), accessFlags := 16409, slot := 6, constantValue := 0 }, { name := "CLOSURE", type := (.object "com/example/ariadne/ariadne/Query$Parameter"), accessFlags := 16409, slot := 7, constantValue := 0 }, { name := "label", type := (.object "java/lang/String"), accessFlags := 18, slot := 3, constantValue := 0 }, { name := "option", type := (.object "java/lang/String"), accessFlags := 18, slot := 4, constantValue := 0 }, { name := "kind", type := (.object "com/example/ariadne/ariadne/Query$Parameter$Kind"), accessFlags := 18, slot := 5, constantValue := 0 }, { name := "$VALUES", type := (.array (.object "com/example/ariadne/ariadne/Query$Parameter")), accessFlags := 4122, slot := 8, constantValue := 0 }]
  methods := #[k6m0, k6m1]
  instanceTypes := #[(.object "java/lang/String"), .int, .int, (.object "java/lang/String"), (.object "java/lang/String"), (.object "com/example/ariadne/ariadne/Query$Parameter$Kind")]
  staticTypes := #[(.object "com/example/ariadne/ariadne/Query$Parameter"), (.object "com/example/ariadne/ariadne/Query$Parameter"), (.object "com/example/ariadne/ariadne/Query$Parameter"), (.object "com/example/ariadne/ariadne/Query$Parameter"), (.object "com/example/ariadne/ariadne/Query$Parameter"), (.object "com/example/ariadne/ariadne/Query$Parameter"), (.object "com/example/ariadne/ariadne/Query$Parameter"), (.object "com/example/ariadne/ariadne/Query$Parameter"), (.array (.object "com/example/ariadne/ariadne/Query$Parameter"))]
  resolved := Array.replicate 161 none
  statics := some 0 }

def pool7 : Array CpInfo := pool [(1, .class_ 2), (0, u "com/example/ariadne/ariadne/Query$Parameter$Kind"), (2, u "ONE"), (0, u "Lcom/example/ariadne/ariadne/Query$Parameter$Kind;"), (2, u "LIST"), (2, u "FLAG"), (2, u "$VALUES"), (0, u "[Lcom/example/ariadne/ariadne/Query$Parameter$Kind;"), (6, .class_ 25), (1, u "java/lang/Enum"), (26, .class_ 53), (0, u "com/example/ariadne/ariadne/Query")] 5

/-- com/example/ariadne/ariadne/Query$Parameter$Kind -/
def k7 : Class := { plain "com/example/ariadne/ariadne/Query$Parameter$Kind" (some 5) with
  accessFlags := 16432
  interfaces := #[]
  cf := some (fileOf pool7 1 #[.nestHost 52] #[] 16432 23 #[] #[{ accessFlags := 16409, nameIndex := 5, descriptorIndex := 6, attributes := #[] }, { accessFlags := 16409, nameIndex := 9, descriptorIndex := 6, attributes := #[] }, { accessFlags := 16409, nameIndex := 12, descriptorIndex := 6, attributes := #[] }, { accessFlags := 4122, nameIndex := 15, descriptorIndex := 16, attributes := #[] }])
  fields := #[{ name := "ONE", type := (.object "com/example/ariadne/ariadne/Query$Parameter$Kind"), accessFlags := 16409, slot := 0, constantValue := 0 }, { name := "LIST", type := (.object "com/example/ariadne/ariadne/Query$Parameter$Kind"), accessFlags := 16409, slot := 1, constantValue := 0 }, { name := "FLAG", type := (.object "com/example/ariadne/ariadne/Query$Parameter$Kind"), accessFlags := 16409, slot := 2, constantValue := 0 }, { name := "$VALUES", type := (.array (.object "com/example/ariadne/ariadne/Query$Parameter$Kind")), accessFlags := 4122, slot := 3, constantValue := 0 }]
  methods := #[]
  instanceTypes := #[(.object "java/lang/String"), .int, .int]
  staticTypes := #[(.object "com/example/ariadne/ariadne/Query$Parameter$Kind"), (.object "com/example/ariadne/ariadne/Query$Parameter$Kind"), (.object "com/example/ariadne/ariadne/Query$Parameter$Kind"), (.array (.object "com/example/ariadne/ariadne/Query$Parameter$Kind"))]
  resolved := Array.replicate 59 none
  statics := some 1 }

def pool8 : Array CpInfo := pool [(1, u "java/lang/Cloneable"), (0, .class_ 1), (0, u "java/lang/Object"), (0, .class_ 3)] 3

/-- java/lang/Cloneable -/
def k8 : Class := { plain "java/lang/Cloneable" (some 0) with
  accessFlags := 1537
  interfaces := #[]
  cf := some (fileOf pool8 2 #[] #[] 1537 4 #[] #[])
  fields := #[]
  methods := #[]
  instanceTypes := #[]
  staticTypes := #[]
  resolved := Array.replicate 8 none
  statics := none }

/-- the primitive byte -/
def k9 : Class := { plain "byte" none with kind := .primitive 'B', accessFlags := 0x411 }
/-- [B -/
def k10 : Class := { plain "[B" (some 0) with kind := .array 9 .byte, interfaces := #[8, 4], accessFlags := 1041 }

/-- the primitive int -/
def k11 : Class := { plain "int" none with kind := .primitive 'I', accessFlags := 0x411 }
/-- [I -/
def k12 : Class := { plain "[I" (some 0) with kind := .array 11 .int, interfaces := #[8, 4], accessFlags := 1041 }

/-- [Lcom/example/ariadne/ariadne/Query$Parameter; -/
def k13 : Class := { plain "[Lcom/example/ariadne/ariadne/Query$Parameter;" (some 0) with kind := .array 6 (.object "com/example/ariadne/ariadne/Query$Parameter"), interfaces := #[8, 4], accessFlags := 1041 }

def heap : Heap := #[{ cls := 6, slots := #[.ref 2, .ref 3, .ref 4, .ref 5, .ref 6, .ref 7, .ref 8, .ref 9, .null], vm := .statics 6 },
  { cls := 7, slots := #[.ref 10, .ref 11, .ref 12, .null], vm := .statics 7 },
  { cls := 6, slots := #[.null, .int 0, .int 0, .null, .null, .ref 10], vm := .none },
  { cls := 6, slots := #[.null, .int 0, .int 0, .null, .null, .ref 10], vm := .none },
  { cls := 6, slots := #[.null, .int 0, .int 0, .null, .null, .ref 10], vm := .none },
  { cls := 6, slots := #[.null, .int 0, .int 0, .null, .null, .ref 10], vm := .none },
  { cls := 6, slots := #[.null, .int 0, .int 0, .null, .null, .ref 10], vm := .none },
  { cls := 6, slots := #[.null, .int 0, .int 0, .null, .null, .ref 11], vm := .none },
  { cls := 6, slots := #[.null, .int 0, .int 0, .null, .null, .ref 10], vm := .none },
  { cls := 6, slots := #[.null, .int 0, .int 0, .null, .null, .ref 12], vm := .none },
  { cls := 7, slots := #[.null, .int 0, .int 0], vm := .none },
  { cls := 7, slots := #[.null, .int 1, .int 0], vm := .none },
  { cls := 7, slots := #[.null, .int 2, .int 0], vm := .none }]
def classes : Array Class := #[k0, k1, k2, k3, k4, k5, k6, k7, k8, k9, k10, k11, k12, k13]
def interned : List (Array UInt16 × Addr) := []
def slotsUsed : Nat := 70
def theMethod : MethodId := ⟨1, 1⟩
def args0 : Array Value := #[.int 5]
def aboutOver (below : List Frame) : State where
  vm := { classes := classes, interned := interned.toArray }
  heap := heap
  slotsUsed := slotsUsed
  threads := #[{ frames := .invoking theMethod args0 :: below }]
def below0 : List Frame := [.native { method := ⟨0, 0⟩, args := #[] }]
def about1 : State := aboutOver below0
def p0 : Program := .bare "" "" ""
def e0 : Env := launch0.env 0 0 0
theorem w_frames : about1.frames = Frame.invoking theMethod args0 :: below0 := rfl
set_option maxRecDepth 65536 in
theorem w_args : argsFit about1.vm theMethod args0 = true := by decide +kernel
set_option maxRecDepth 65536 in
theorem w_heap : heapFits about1 = true := by decide +kernel
set_option maxRecDepth 65536 in
theorem w_runnable : about1.curStatus? = some .runnable := by decide +kernel
set_option maxRecDepth 65536 in
theorem w_alone : about1.alone = true := by decide +kernel
set_option maxRecDepth 65536 in
theorem w_named : about1.methodNamed? x = some theMethod := by decide +kernel
set_option maxRecDepth 65536 in
theorem w_hears : about1.hears theMethod below0 = true := by decide +kernel
set_option maxRecDepth 65536 in
theorem w_ripe : about1.ripe theMethod args0 below0 = true := by decide +kernel
theorem w_running : about1.status = .running := rfl
set_option maxRecDepth 65536 in
theorem w_room : about1.hasRoom e0.platform room_1 = true :=
  launch0.hasRoom_least _ room_1 (by decide +kernel) (by decide +kernel) (by decide +kernel) (by decide +kernel) (by decide +kernel) (by decide +kernel)
theorem allAtoms_all (ts : List Jvm.Cond) (a : Array Jvm.Value) (st : Jvm.State) : (allAtoms ts).before a st = ts.all (fun c => c.before a st) := by
  induction ts with
  | nil => rfl
  | cons c t ih =>
    show (Jvm.Cond.and c (allAtoms t)).before a st = _
    rw [Jvm.Cond.before_and, ih, List.all_cons]
def words1 : List Jvm.Cond := Jvm.Cond.code x code maxLocals ret :: tables_1
/-- a 'code' word, met by the world's own term for the bytes: nothing is compared byte by byte -/
theorem code_word {y : MethodName} {bytes : ByteArray} {mx : Nat} {rt : Option FieldType} {a : Array Value} {s : State} {m : MethodId} {meth : Method} {c : Code} (h1 : s.methodNamed? y = some m) (h2 : s.vm.method? m = some meth) (h3 : meth.code = some c) (h4 : c.code = bytes)
    (h5 : (c.maxLocals == mx && c.exceptionTable.isEmpty && decide (c.maxStack ≤ mostOperands) && decide (meth.sig.returnType = rt) && !meth.locks && decide (parseMethodDescriptor y.desc = some meth.sig)) = true) : (Jvm.Cond.code y bytes mx rt).before a s = true := by
  simp only [Bool.and_eq_true, beq_iff_eq, Bool.not_eq_true', decide_eq_true_eq] at h5
  obtain ⟨⟨⟨⟨⟨g1, g2⟩, g3⟩, g4⟩, g5⟩, g6⟩ := h5
  simp [Cond.before, Cond.holds, Cond.value, h1, h2, h3, h4, g1, g2, g3, g4, g5, g6]
def isCode : Jvm.Cond → Bool
  | .code _ _ _ _ => true
  | _ => false
theorem all_split {L : List Jvm.Cond} {P : Jvm.Cond → Bool} (h1 : L.all (fun c => isCode c || P c) = true) (h2 : ∀ c ∈ L.filter isCode, P c = true) : L.all P = true := by
  refine List.all_eq_true.mpr fun c hc => ?_
  have h := List.all_eq_true.mp h1 c hc
  rcases Bool.eq_false_or_eq_true (isCode c) with hi | hi
  · exact h2 c (List.mem_filter.mpr ⟨hc, hi⟩)
  · simpa [hi] using h
set_option maxRecDepth 65536 in
theorem w_c0 : (Jvm.Cond.code x code maxLocals ret).before args0 about1 = true := code_word (m := ⟨1, 1⟩) (meth := k1m1) (c := k1c1) (by decide +kernel) rfl rfl rfl (by decide +kernel)
set_option maxRecDepth 65536 in
theorem w_c1 : (Jvm.Cond.code ({ cls := "com/example/ariadne/ariadne/Query$Parameter", name := "isList", desc := "()Z" } : Jvm.MethodName) prog_15_method_6_code (1 : Nat) (Option.some Jvm.ClassFile.FieldType.boolean)).before args0 about1 = true := code_word (m := ⟨6, 0⟩) (meth := k6m0) (c := k6c0) (by decide +kernel) rfl rfl rfl (by decide +kernel)
set_option maxRecDepth 65536 in
theorem w_c2 : (Jvm.Cond.code ({ cls := "com/example/ariadne/ariadne/Query$Parameter", name := "isFlag", desc := "()Z" } : Jvm.MethodName) prog_15_method_7_code (1 : Nat) (Option.some Jvm.ClassFile.FieldType.boolean)).before args0 about1 = true := code_word (m := ⟨6, 1⟩) (meth := k6m1) (c := k6c1) (by decide +kernel) rfl rfl rfl (by decide +kernel)
def codes1 : List Jvm.Cond := [Jvm.Cond.code x code maxLocals ret, Jvm.Cond.code ({ cls := "com/example/ariadne/ariadne/Query$Parameter", name := "isList", desc := "()Z" } : Jvm.MethodName) prog_15_method_6_code (1 : Nat) (Option.some Jvm.ClassFile.FieldType.boolean), Jvm.Cond.code ({ cls := "com/example/ariadne/ariadne/Query$Parameter", name := "isFlag", desc := "()Z" } : Jvm.MethodName) prog_15_method_7_code (1 : Nat) (Option.some Jvm.ClassFile.FieldType.boolean)]
set_option maxRecDepth 65536 in
theorem codes_eq : words1.filter isCode = codes1 := rfl
theorem w_codes : ∀ c ∈ words1.filter isCode, c.before args0 about1 = true := by
  rw [codes_eq]
  intro c hc
  simp only [codes1, List.mem_cons, List.not_mem_nil, or_false] at hc
  rcases hc with rfl | rfl | rfl
  · exact w_c0
  · exact w_c1
  · exact w_c2
set_option maxRecDepth 65536 in
theorem w_t1 : (words1.take 24).all (fun c => isCode c || c.before args0 about1) = true := by decide +kernel
set_option maxRecDepth 65536 in
theorem w_t2 : (words1.drop 24).all (fun c => isCode c || c.before args0 about1) = true := by decide +kernel
theorem w_tables : (allAtoms (Jvm.Cond.code x code maxLocals ret :: tables_1)).before args0 about1 = true := by
  rw [allAtoms_all]
  show words1.all (fun c => c.before args0 about1) = true
  refine all_split ?_ w_codes
  rw [← List.take_append_drop 24 words1, List.all_append, w_t1, w_t2]
  rfl
set_option maxRecDepth 65536 in
theorem w_case : (Jvm.Cond.and given_1 narrow_1).before args0 about1 = true := by decide +kernel
theorem w_applies : (headSpec (Jvm.Cond.code x code maxLocals ret :: tables_1) room_1).applies x e0.platform about1 = true :=
  (Spec.applies_iff w_frames).mpr ⟨w_running, w_runnable, w_alone, w_named, w_hears, w_ripe, w_room, w_tables⟩
theorem atStart : AtStart classFile x code maxLocals ret World_1 tables_1 room_1 Calls_1 rest_1 Pre_1 launch0 p0 e0 about1 theMethod args0 below0 :=
  ⟨lists_1, trivial, launch0.admits_env _ _ _, launch0.least_env, fairChoices_fair.cas, fairChoices_fair.clock, w_frames, w_args, w_heap, w_applies, trivial, trivial, w_case⟩
end start1
theorem witness_1 : WitnessClaimed_1 := ⟨start1.p0, start1.e0, start1.about1, start1.theMethod, start1.args0, start1.below0, start1.atStart⟩
end Jvm.Pilot.@@N@@
